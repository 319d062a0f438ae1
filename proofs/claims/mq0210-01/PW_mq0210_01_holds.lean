import PyProof.Rows.All
import Wide.All
import OpenK.AllK
import Wide.FinOn
import PyProof.Walk
import PyProof.WalkLemmas
import PySem.Challenge.RW_mq0210_01
set_option compiler.extract_closed false
set_option genSizeOf false
set_option genSizeOfSpec false
set_option genInjectivity false
section
open PySem PySem.W PyProof.Rows
set_option Elab.async false
namespace Mine
open_top hd for PySem.Challenge.rw_mq0210_01
end Mine
end
section
open PySem PySem.W PyProof.Rows
set_option Elab.async false
namespace Mine
noncomputable abbrev LOO : List Str := (looseW hd.view_39 [Str.ofString "_initial_missing", Str.ofString "reduce"] ++
          List.map (fun x => x.name) (recsOf hd.view_39) ++
        List.map (fun x => x.fst) (litsOf hd.view_39) ++
      List.map (fun x => x.name)
        (clssOf hd.view_39 (looseW hd.view_39 [Str.ofString "_initial_missing", Str.ofString "reduce"])))
/-- what a call of the def at f does: it hands back R, and all that stood stands -/
noncomputable def Clm (w : World) (mean : ExcName → Option Value) (mg mb : Str → Option Value) (f : Addr) (kd ku : Nat) (pre : Prop) (vs : List Value) (R : Tok → Value) : Prop :=
  ∀ (dp un : Nat) (gd : Option (List Code)) (cn : Str) (cs : Scope) (a : Addr) (ccd : Value) (cl : List (Str × Addr)) (outer : List Env) (A₀ : Around) (base h₀ : Heap) (L : Addr) (m : Str → Option Value) (news : List (Addr × Obj)) (s : Shared) (Q E : Value → Shared → Prop),
    Below A₀ base outer h₀ → Fr h₀ L s.heap m → (hd.heap_39 w.params).In h₀ → News h₀ L s.heap news → Top topProg LOO mean mg mb h₀ → cs.kind = .function →
    pre → dp + kd < recursionLimit → un + ku < cLine →
    (∀ (t : Tok) (h' : Heap) (tk' : Nat), Fr h₀ L h' m → News h₀ L h' news → Q (R t) { s with heap := h', toks := tk' }) →
      wpAny (model PySem.Challenge.rw_mq0210_01.row.prog w) (ktrTop dp un gd cn cs L a ccd cl outer) (call (.ref f) vs) Q E s
noncomputable def subc (x y : Str) : Int := if x = y then 0 else if Txt.lower x = Txt.lower y then 1 else 2
set_option maxRecDepth 100000 in
set_option maxHeartbeats 8000000 in
theorem sub_claim (w : World) (mean : ExcName → Option Value) (mg mb : Str → Option Value) (x y : Str) (tx ty : Tok) :
   Clm w mean mg mb 21 10 50 (x.length ≤ 64 ∧ y.length ≤ 64) [.str x tx, .str y ty] (fun t => .int (subc x y) t) := by
   have hx : PySem.Challenge.rw_mq0210_01 = PySem.Challenge.rw_mq0210_01 := rfl
   have hy : hd.heap_39 = hd.heap_39 := rfl
   revert hx hy
   k_fill
   intro hx hy
   clear hx hy
   w_on
   intro dp un gd cn cs a ccd clo outer A₀ base h₀ L mm news s Q E hB F X N T hk hpre hdp hun hret
   obtain ⟨hlx, hly⟩ := hpre
   refine wpAny_call ?_
   k_dflt cell_enter
   k_steps
   all_goals (refine cb_retI hret ?_ (by assumption) (by assumption); simp_all [subc])
end Mine
end
section
namespace Mine
noncomputable def Blk (p : Prop) : Prop := p
theorem Blk.mk {p : Prop} (h : Blk p) : p := h
theorem Blk.out {p : Prop} (h : p) : Blk p := h
end Mine
end
section
open PySem PySem.W PyProof.Rows
set_option Elab.async false
namespace Mine
/-- a mark: which stops of the walk are on -/
noncomputable def Mk (_ : Nat) : Prop := True
theorem Mk.go (n : Nat) {p : Prop} (_ : Mk n) (q : p) : p := q
theorem Blk.at (n : Nat) {p : Prop} (_ : Mk n) (q : Blk p) : p := q
/-- the tactic text of a marked stop -/
def stopAt (n : Nat) : Lean.MacroM (Lean.TSyntax `tactic) := do
  let k := Lean.quote n
  `(tactic| (refine Blk.at $k ?_ ?_; with_reducible assumption))
/-- the tactic text of a call of a proved contract; full: with two premises on the arguments -/
def callBy (l : Lean.Ident) (full : Bool := true) : Lean.MacroM (Lean.TSyntax `tactic) := do
  let t ← if full then `(term| $l ?k1 ?k2 ?k3 ?k4 ?k5 ?kK ?kx ?ky ?kd ?ku ?_) else `(term| $l ?k1 ?k2 ?k3 ?k4 ?k5 ?kK ?kd ?ku ?_)
  `(tactic| (k_here; (with_unfolding_all refine' $t; (case k1 => k_asm); (case k2 => k_asm); (case k3 => k_asm); (case k4 => k_asm); (case k5 => k_asm); (case kK => first | exact rfl | assumption); (try (case kx => first | assumption | lia | decide | exact (by decide : (1 : Nat) ≤ 64))); (try (case ky => first | assumption | lia | decide)); (case kd => first | ktr_room | decide | lia); (case ku => first | ktr_units | decide | lia)); intro t9 h9 tk9 F9 N9; (try dsimp only)))
def marked (n : Nat) (t : Lean.MacroM (Lean.TSyntax `tactic)) : Lean.MacroM (Lean.TSyntax `tactic) := do
  let k := Lean.quote n
  let t ← t
  `(tactic| (refine Mk.go $k ?_ ?_; (with_reducible assumption); $t:tactic))
/-- the tactic text of the reading of a captured name -/
def nameBy : Lean.MacroM (Lean.TSyntax `tactic) :=
  `(tactic| (k_here; k_dflt (refine' nameX_F ?N ?c ?m ?d ?_ ?a ?b; (case a => rfl); (case b => rfl); (case N => k_asm); (case c => rfl); (case m => k_mem); (case d => k_asm); k_whole)))
end Mine
end
section
open PySem PySem.W PyProof.Rows
set_option Elab.async false
namespace Mine
/-- the signs' numbers of a text -/
noncomputable abbrev cl (x : Str) : List Nat := x.cps.toList
theorem cl_len (x : Str) : (cl x).length = x.length := by simp [cl, Str.length]
theorem cl_inj {x y : Str} (h : cl x = cl y) : x = y := Str.ext' (Array.ext' h)
theorem sl_from {x : Str} {k : Nat} (h : k ≤ x.length) : cl (Txt.slice x (some (k : Int)) none) = (cl x).drop k := by
  rw [slice_from_eq (b := x.length) (by lia  ) (by lia  ) rfl]
  show ((x.cps.toList.drop (k : Int).toNat).take ((x.length : Int) - (k : Int)).toNat) = _
  have e1 : ((k : Nat) : Int).toNat = k := by lia  
  rw [e1]
  apply List.take_of_length_le
  have : x.cps.toList.length = x.length := cl_len x
  rw [List.length_drop]; lia  
theorem sl_all (x : Str) : Txt.slice x none none = x := by
  have e : Txt.slice x none none = Txt.slice x (some ((0 : Nat) : Int)) none := by
    unfold Txt.slice
    rw [StrLaws.sliceIdx_none_lo]; rfl
  apply cl_inj
  rw [e, sl_from (Nat.zero_le _)]; rfl
theorem idx_neg {j len : Nat} (hj : 0 < j) (hl : j ≤ len) : Builtin.Str.strSliceIndices none (some (-(j : Int))) 1 len = Builtin.Str.strSliceIndices none (some ((len - j : Nat) : Int)) 1 len := by
  have a : -(j : Int) < 0 := by lia  
  have b : ¬ (((len - j : Nat) : Int) < 0) := by lia  
  have e : -(j : Int) + len = ((len - j : Nat) : Int) := by lia  
  simp only [Builtin.Str.strSliceIndices, a, b, if_true, if_false, e]
theorem sl_neg {x : Str} {j : Nat} (hj : 0 < j) (hl : j ≤ x.length) : cl (Txt.slice x none (some (-(j : Int)))) = (cl x).take (x.length - j) := by
  have e : Txt.slice x none (some (-(j : Int))) = Txt.slice x none (some ((x.length - j : Nat) : Int)) := by
    unfold Txt.slice
    rw [idx_neg hj hl]
  rw [e]
  have q := beq_iff_eq.mp (slice_closes_toL (x := x) (j := ((x.length - j : Nat) : Int)) (by lia  ) (by lia  ))
  rw [q]
  show ((x.cps.toList.drop (0 : Int).toNat).take (((x.length - j : Nat) : Int) - 0).toNat) = _
  have e1 : (((x.length - j : Nat) : Int) - 0).toNat = x.length - j := by lia  
  rw [e1]; rfl
theorem it_pos {x : Str} {k : Nat} (h : k < x.length) : Txt.item x (k : Int) = ⟨#[(cl x).getD k 0]⟩ := by
  unfold Txt.item Txt.charAt
  rw [StrLaws.seqIndex_nonneg (by lia  ) (by lia  )]
  simp [cl, List.getD]
theorem it_neg {x : Str} {j : Nat} (h : j < x.length) : Txt.item x (-(j : Int) - 1) = ⟨#[(cl x).reverse.getD j 0]⟩ := by
  unfold Txt.item Txt.charAt
  rw [StrLaws.seqIndex_neg (by lia  ) (by lia  )]
  have hl : (cl x).length = x.length := cl_len x
  have e : (-(j : Int) - 1 + x.length).toNat = x.length - 1 - j := by lia  
  rw [e]
  simp only [Option.bind_some]
  have : (cl x).reverse.getD j 0 = (cl x).getD (x.length - 1 - j) 0 := by
    simp only [List.getD]
    rw [List.getElem?_reverse (by lia  ), hl]
  rw [this]
  simp [cl, List.getD]
theorem one_inj {a b : Nat} : ((⟨#[a]⟩ : Str) == ⟨#[b]⟩) = (a == b) := by
  by_cases h : a = b
  · subst h; simp
  · have : (⟨#[a]⟩ : Str) ≠ ⟨#[b]⟩ := by
      intro e; injection e with e; simp at e; exact h e
    rw [beq_eq_false_iff_ne.mpr this, beq_eq_false_iff_ne.mpr h]
noncomputable def cpl : List Nat → List Nat → Nat
  | a :: as, b :: bs => if a = b then cpl as bs + 1 else 0
  | _, _ => 0
theorem cpl_le1 : ∀ xs ys : List Nat, cpl xs ys ≤ xs.length
  | [], _ => by simp [cpl]
  | _ :: _, [] => by simp [cpl]
  | a :: as, b :: bs => by
    unfold cpl; split
    · have := cpl_le1 as bs; simp; lia  
    · simp
theorem cpl_le2 : ∀ xs ys : List Nat, cpl xs ys ≤ ys.length
  | [], _ => by simp [cpl]
  | _ :: _, [] => by simp [cpl]
  | a :: as, b :: bs => by
    unfold cpl; split
    · have := cpl_le2 as bs; simp; lia  
    · simp
theorem cpl_more : ∀ {xs ys : List Nat} {k : Nat}, k ≤ cpl xs ys → k < xs.length → k < ys.length → xs.getD k 0 = ys.getD k 0 → k + 1 ≤ cpl xs ys
  | [], _, _, _, h, _, _ => by simp at h
  | _ :: _, [], _, _, _, h, _ => by simp at h
  | a :: as, b :: bs, 0, _, _, _, e => by
    simp at e; subst e; simp [cpl]
  | a :: as, b :: bs, k + 1, h, h1, h2, e => by
    unfold cpl at h ⊢
    split at h
    · rename_i q; rw [if_pos q]
      have := cpl_more (xs := as) (ys := bs) (k := k) (by lia  ) (by simpa using h1) (by simpa using h2) (by simpa using e)
      lia  
    · lia  
theorem cpl_stop : ∀ {xs ys : List Nat} {k : Nat}, k ≤ cpl xs ys → (k < xs.length → k < ys.length → xs.getD k 0 ≠ ys.getD k 0) → k = cpl xs ys
  | [], _, k, h, _ => by simp [cpl] at h ⊢; lia  
  | _ :: _, [], k, h, _ => by simp [cpl] at h ⊢; lia  
  | a :: as, b :: bs, 0, _, e => by
    have := e (by simp) (by simp)
    simp at this
    simp [cpl, this]
  | a :: as, b :: bs, k + 1, h, e => by
    unfold cpl at h ⊢
    split at h
    · rename_i q; rw [if_pos q]
      have := cpl_stop (xs := as) (ys := bs) (k := k) (by lia  ) (fun h1 h2 => by simpa using e (by simpa using h1) (by simpa using h2))
      lia  
    · lia  

noncomputable def MAXI : Int := 9223372036854775807
noncomputable def inner (sc : Nat → Int) : List Nat → List Int → Int → Int → Int → List Int × Int × Int
  | a :: as, r :: row, d, res, mn =>
    let res' := min (min res r + 2) (d + sc a)
    let q := inner sc as row r res' (if res' < mn then res' else mn)
    (res' :: q.1, q.2)
  | _, _, _, res, mn => ([], res, mn)
noncomputable def outer (sc : Nat → Nat → Int) (as : List Nat) (m : Int) : List Nat → Nat → List Int → Int → Int
  | [], _, _, res => res
  | b :: bs, i, row, _ =>
    let q := inner (sc b) as row (i * 2) (i * 2) MAXI
    if m < q.2.2 then m + 1 else outer sc as m bs (i + 1) q.1 q.2.1
noncomputable def levM (sc : Nat → Nat → Int) (as bs : List Nat) (m : Int) : Int :=
  if m < ((bs.length : Int) - as.length) * 2 then m + 1 else outer sc as m bs 0 ((List.range as.length).map fun (i : Nat) => 2 + (i : Int) * 2) 0
noncomputable def levT (sc : Nat → Nat → Int) (as bs : List Nat) (m : Int) : Int :=
  if as.length = 0 ∨ bs.length = 0 then 2 * ((as.length : Int) + bs.length)
  else if bs.length < as.length then levM sc bs as m else levM sc as bs m
noncomputable def cutBack (as bs : List Nat) : List Nat := as.take (as.length - cpl as.reverse bs.reverse)
noncomputable def levL (sc : Nat → Nat → Int) (xs ys : List Nat) (m : Int) : Int :=
  if xs = ys then 0 else
  let as := xs.drop (cpl xs ys)
  let bs := ys.drop (cpl xs ys)
  levT sc (cutBack as bs) (bs.take (bs.length - cpl as.reverse bs.reverse)) m
noncomputable def InnOk (sc : Nat → Int) (as : List Nat) (R0 : List Int) (Z : List Int × Int × Int) (n : Nat) (row : List Int) (d res mn : Int) : Prop :=
  row.length = R0.length ∧ ∃ done : List Int, done.length = n ∧ row = done ++ R0.drop n ∧ done ++ (inner sc (as.drop n) (R0.drop n) d res mn).1 = Z.1 ∧ (inner sc (as.drop n) (R0.drop n) d res mn).2 = Z.2
theorem InnOk.start (sc : Nat → Int) (as : List Nat) (R0 : List Int) (d res mn : Int) : InnOk sc as R0 (inner sc as R0 d res mn) 0 R0 d res mn :=
  ⟨rfl, [], rfl, rfl, rfl, rfl⟩
theorem InnOk.step {sc : Nat → Int} {as : List Nat} {R0 : List Int} {Z : List Int × Int × Int} {n : Nat} {row : List Int} {d res mn : Int} (h : InnOk sc as R0 Z n row d res mn) (hn : n < as.length) (he : as.length = R0.length) :
    InnOk sc as R0 Z (n + 1) (row.set n (min (min res (row.getD n 0) + 2) (d + sc (as.getD n 0)))) (row.getD n 0) (min (min res (row.getD n 0) + 2) (d + sc (as.getD n 0))) (if min (min res (row.getD n 0) + 2) (d + sc (as.getD n 0)) < mn then min (min res (row.getD n 0) + 2) (d + sc (as.getD n 0)) else mn) := by
  obtain ⟨hl, done, hd, hr, h1, h2⟩ := h
  have ea : as.drop n = as.getD n 0 :: as.drop (n + 1) := by
    rw [List.drop_eq_getElem_cons hn]; congr 1; simp [List.getD, hn]
  have hn' : n < R0.length := by lia  
  have er : R0.drop n = R0.getD n 0 :: R0.drop (n + 1) := by
    rw [List.drop_eq_getElem_cons hn']; congr 1; simp [List.getD, hn']
  have ew : row.getD n 0 = R0.getD n 0 := by
    rw [hr, List.getD, List.getElem?_append_right (by lia  ), hd, er]
    simp
  rw [ew]
  rw [ea, er] at h1 h2
  refine ⟨by rw [List.length_set]; exact hl, done ++ [min (min res (R0.getD n 0) + 2) (d + sc (as.getD n 0))], by simp [hd], ?_, ?_, ?_⟩
  · rw [hr, List.set_append_right _ _ (by lia  ), hd, er]
    simp
  · rw [List.append_assoc]
    simpa [inner] using h1
  · simpa [inner] using h2
theorem InnOk.fin {sc : Nat → Int} {as : List Nat} {R0 : List Int} {Z : List Int × Int × Int} {n : Nat} {row : List Int} {d res mn : Int} (h : InnOk sc as R0 Z n row d res mn) (hn : n = as.length) (he : as.length = R0.length) : row = Z.1 ∧ res = Z.2.1 ∧ mn = Z.2.2 := by
  obtain ⟨hl, done, hd, hr, h1, h2⟩ := h
  rw [List.drop_of_length_le (by lia  ), List.drop_of_length_le (by lia  )] at h1 h2
  rw [List.drop_of_length_le (by lia  ), List.append_nil] at hr
  simp only [inner, List.append_nil] at h1 h2
  exact ⟨by rw [hr, h1], by rw [← h2], by rw [← h2]⟩
theorem outer_step {sc : Nat → Nat → Int} {as : List Nat} {m : Int} {q : List Nat} {i : Nat} {row : List Int} {res : Int} (h : i < q.length) :
    outer sc as m (q.drop i) i row res = if m < (inner (sc (q.getD i 0)) as row (i * 2) (i * 2) MAXI).2.2 then m + 1 else outer sc as m (q.drop (i + 1)) (i + 1) (inner (sc (q.getD i 0)) as row (i * 2) (i * 2) MAXI).1 (inner (sc (q.getD i 0)) as row (i * 2) (i * 2) MAXI).2.1 := by
  have e : q.drop i = q.getD i 0 :: q.drop (i + 1) := by
    rw [List.drop_eq_getElem_cons h]; congr 1; simp [List.getD, h]
  rw [e]
  rfl
end Mine
end
section
open PySem PySem.W PyProof.Rows
set_option Elab.async false
namespace Mine
theorem kst_look (r : Str → Option Value) : ∀ (C : List (Str × Value)) (z : Str), kstB r C z = (C.lookup z).or (r z)
  | [], z => rfl
  | (n, v) :: C, z => by
    show (if z = n then some v else kstB r C z) = _
    rw [List.lookup_cons]
    by_cases h : z = n
    · subst h; simp
    · rw [if_neg h, beq_eq_false_iff_ne.mpr h, kst_look r C z]
noncomputable def AllSame (C l : List (Str × Value)) : List Str → Prop
  | [] => True
  | n :: ns => C.lookup n = l.lookup n ∧ AllSame C l ns
theorem AllSame.at {C l : List (Str × Value)} : ∀ {ns : List Str}, AllSame C l ns → ∀ n ∈ ns, C.lookup n = l.lookup n
  | [], _, _, h => nomatch h
  | _ :: _, h, n, hn => by
    rcases List.mem_cons.mp hn with rfl | hn
    · exact h.1
    · exact AllSame.at h.2 n hn
theorem lk_none {C : List (Str × Value)} {z : Str} (h : z ∉ C.map (·.1)) : C.lookup z = none := by
  induction C with
  | nil => rfl
  | cons p C ih =>
    simp only [List.map_cons, List.mem_cons, not_or] at h
    rw [List.lookup_cons, beq_eq_false_iff_ne.mpr h.1]
    exact ih h.2
theorem kst_same {r : Str → Option Value} {C l : List (Str × Value)} (h : AllSame C l (C.map (·.1) ++ l.map (·.1))) : kstB r C = kstB r l := by
  funext z
  rw [kst_look, kst_look]
  by_cases hz : z ∈ C.map (·.1) ++ l.map (·.1)
  · rw [h.at z hz]
  · simp only [List.mem_append, not_or] at hz
    rw [lk_none hz.1, lk_none hz.2]
theorem fr_same {h₀ h : Heap} {L : Addr} {r : Str → Option Value} {C l : List (Str × Value)} (F : Fr h₀ L h (kstB r C)) (e : AllSame C l (C.map (·.1) ++ l.map (·.1))) : Fr h₀ L h (kstB r l) := kst_same e ▸ F
theorem lk_kst (l : List (Str × Value)) : (fun z => List.lookup z l) = kstB (fun _ => none) l := by
  funext z
  rw [kst_look]; simp
theorem fr_start {h₀ h : Heap} {L : Addr} {l l' : List (Str × Value)} (F : Fr h₀ L h (fun z => List.lookup z l)) (e : l = l') : Fr h₀ L h (kstB (fun _ => none) l') := by
  subst e; rw [← lk_kst]; exact F

/-- the end of a while's turn -/
noncomputable def WT {σ : Type} (h₀ : Heap) (L : Addr) (s : Shared) (Led : σ → List (Addr × Obj)) (ps : σ → List (Str × Value)) (r : Str → Option Value) (P : σ → Prop) (μ : σ → Nat) (c : σ) (f : Flow) (s₂ : Shared) : Prop :=
  f = .next ∧ ∃ (c' : σ) (h : Heap) (tk : Nat), s₂ = { s with heap := h, toks := tk } ∧ P c' ∧ μ c' < μ c ∧ Fr h₀ L h (kstB r (ps c')) ∧ News h₀ L h (Led c')
/-- the exit of a while -/
noncomputable def WX {σ : Type} (h₀ : Heap) (L : Addr) (s : Shared) (Led : σ → List (Addr × Obj)) (ps : σ → List (Str × Value)) (r : Str → Option Value) (D : σ → Prop) (c : σ) (s₂ : Shared) : Prop :=
  ∃ (h : Heap) (tk : Nat), s₂ = { s with heap := h, toks := tk } ∧ D c ∧ Fr h₀ L h (kstB r (ps c)) ∧ News h₀ L h (Led c)
theorem my_while {prog : Program} {w : World} {A : Around} {E : Value → Shared → Prop} {Q : Flow → Shared → Prop} {s : Shared} {env : Env} {h₀ : Heap} {L : Addr}
    {σ : Type} {test : Expr} {body : List Stmt} {pos : Pos} {r : Str → Option Value} (Led : σ → List (Addr × Obj)) (ps : σ → List (Str × Value)) (P : σ → Prop) (D : σ → Prop) (μ : σ → Nat) (c₀ : σ)
    (F : Fr h₀ L s.heap (kstB r (ps c₀))) (N : News h₀ L s.heap (Led c₀)) (hp : P c₀)
    (turn : ∀ (c : σ) h tk, P c → Fr h₀ L h (kstB r (ps c)) → News h₀ L h (Led c) →
      wpAny (model prog w) A (isTrue test env (eval test env)) (fun b s₂ =>
        if b = true then wpAny (model prog w) A (execs body env) (WT h₀ L s Led ps r P μ c) E s₂ else WX h₀ L s Led ps r D c s₂) E { s with heap := h, toks := tk })
    (done : ∀ (c : σ) h tk, D c → Fr h₀ L h (kstB r (ps c)) → News h₀ L h (Led c) → Q .next { s with heap := h, toks := tk })
    (hE : PassesOwn (model prog w) A env E := by passes_own) :
    wpAny (model prog w) A (exec (.While test body [] pos) env) Q E s := by
  refine While_inv2 (fun n m nx => ∃ c : σ, nx = Led c ∧ μ c = n ∧ P c ∧ m = kstB r (ps c)) F N ⟨c₀, rfl, rfl, hp, rfl⟩ ?_ hE
  rintro n m₁ nx h tk F₁ N₁ ⟨c, rfl, rfl, hP, rfl⟩
  refine wpAny_mono (turn c h tk hP F₁ N₁) (fun b s₂ p => ?_) fun _ _ x => x
  cases b with
  | true =>
    simp only [if_true] at p ⊢
    refine wpAny_mono p (fun f s₃ q => ?_) fun _ _ x => x
    obtain ⟨rfl, c', h', tk', rfl, hP', hm, F', N'⟩ := q
    exact ⟨h', tk', _, _, _, rfl, F', N', hm, c', rfl, rfl, hP', rfl⟩
  | false =>
    simp only [Bool.false_eq_true, if_false] at p ⊢
    obtain ⟨h', tk', rfl, hD, F', N'⟩ := p
    exact done c h' tk' hD F' N'

theorem execs_cut (env : Env) : ∀ (n : Nat) (l : List Stmt), execs l env = (execs (l.take n) env).bind (fun f => match f with | .next => execs (l.drop n) env | f => pure f)
  | 0, l => rfl
  | n + 1, [] => rfl
  | n + 1, st :: rest => by
    have ih := execs_cut env n rest
    rw [List.take_succ_cons, List.drop_succ_cons]
    have e1 : execs (st :: rest) env = (exec st env).bind (fun f => match f with | .next => execs rest env | f => pure f) := rfl
    have e2 : execs (st :: rest.take n) env = (exec st env).bind (fun f => match f with | .next => execs (rest.take n) env | f => pure f) := rfl
    rw [e1, e2, Sem.bind_assoc]
    congr 1
    funext f
    cases f with
    | next => exact ih
    | brk => rfl
    | cont => rfl
    | ret v => rfl
/-- a meeting of paths ahead of the n-th statement -/
noncomputable def JX (h₀ : Heap) (L : Addr) (s : Shared) (news : List (Addr × Obj)) (R : (Str → Option Value) → Prop) (s' : Shared) : Prop :=
  ∃ (h : Heap) (tk : Nat) (m' : Str → Option Value), s' = { s with heap := h, toks := tk } ∧ R m' ∧ Fr h₀ L h m' ∧ News h₀ L h news
theorem cut_fr {prog : Program} {w : World} {A : Around} {E : Value → Shared → Prop} {Q : Flow → Shared → Prop} {s : Shared} {env : Env} {h₀ : Heap} {L : Addr} {h : Heap} {m : Str → Option Value} {l : List Stmt} (n : Nat) (news : List (Addr × Obj)) (R : (Str → Option Value) → Prop)
    (_F : Fr h₀ L h m)
    (h1 : wpAny (model prog w) A (execs (l.take n) env) (fun f s' => match f with | .next => JX h₀ L s news R s' | f => Q f s') E s)
    (h2 : ∀ h tk m', R m' → Fr h₀ L h m' → News h₀ L h news → wpAny (model prog w) A (execs (l.drop n) env) Q E { s with heap := h, toks := tk }) :
    wpAny (model prog w) A (execs l env) Q E s := by
  rw [execs_cut env n l]
  refine wpAny_bind (wpAny_mono h1 (fun f s' p => ?_) fun _ _ e => e)
  cases f with
  | next =>
    obtain ⟨h', tk, m', rfl, hR, F', N'⟩ := p
    exact h2 h' tk m' hR F' N'
  | brk => exact wpAny_pure p
  | cont => exact wpAny_pure p
  | ret v => exact wpAny_pure p
theorem range2_ints : ∀ (vs : List Value) (a c : Int) (n : Nat), vs.length = n → (∀ (j : Nat) (v : Value), vs[j]? = some v → ∃ t, v = .int (a + j * c) t) → IntsAre vs ((List.range n).map fun (i : Nat) => a + i * c)
  | [], a, c, n, e, _ => by
    subst e
    exact IntsAre.nil
  | v :: r, a, c, n, e, h => by
    subst e
    rw [List.length_cons, List.range_succ_eq_map, List.map_cons, List.map_map]
    obtain ⟨t, ht⟩ := h 0 v rfl
    have hv : v = .int (a + ((0 : Nat) : Int) * c) t := ht
    rw [hv]
    refine IntsAre.cons _ _ ?_
    have := range2_ints r (a + c) c r.length rfl (fun j v hj => by
      obtain ⟨t', ht'⟩ := h (j + 1) v hj
      refine ⟨t', ht'.trans ?_⟩
      congr 1
      rw [Int.natCast_succ, Int.add_mul, Int.one_mul]; omega)
    have e2 : (List.map (fun (i : Nat) => a + c + (i : Int) * c) (List.range r.length)) = List.map ((fun (i : Nat) => a + (i : Int) * c) ∘ Nat.succ) (List.range r.length) := by
      apply List.map_congr_left
      intro i _
      simp only [Function.comp]
      rw [Int.natCast_succ, Int.add_mul, Int.one_mul]; omega
    rw [← e2]
    exact this
theorem list_range {prog : Program} {w : World} {A : Around} {E : Value → Shared → Prop} {s : Shared} {h₀ : Heap} {L r : Addr} {m : Str → Option Value} {news : List (Addr × Obj)} {a b c : Int} {t₀ u₀ v₀ : Tok} {n : Nat} {Q : Value → Shared → Prop}
    (hh : A.handled = none) (F : Fr h₀ L s.heap m) (N : News h₀ L s.heap news) (hr : IsRange s.heap r a b c t₀ u₀ v₀) (hsmall : Builtin.Range.small a b c = true) (hn : Builtin.Range.rangeSize a b c = (n : Int)) (hz : n ≤ 2 ^ 24)
    (h : ∀ D us c' h' tk, Fr h₀ L h' m → News h₀ L h' ((D, listOf (List.toArray us) c') :: news) → (∀ p ∈ news, p.1 < D) → IntsAre us ((List.range n).map fun (i : Nat) => a + i * c) → Q (.ref D) { s with heap := h', toks := tk }) :
    wpAny (model prog w) A (call (.type "list") [.ref r]) Q E s := by
  refine call_list_range hh hr hsmall hn hz fun h' tk acc c' hk hD hI => ?_
  have hD' : h'.get? s.heap.objs.size = some (listOf (List.toArray acc.toList) c') := by
    rw [Array.toArray_toList]
    exact hD
  exact h _ acc.toList c' h' tk (F.keeps hk) (news_pushed F N hk hD' rfl) (fun p hp => Heap.lt_size (N p hp).1) (range2_ints _ _ _ _ (by rw [Array.length_toList]; exact hI.1) fun j v hj => hI.2 j v (by rw [← hj, Array.getElem?_toList]))
theorem truthy_yes {prog : Program} {w : World} {A : Around} {E : Value → Shared → Prop} {s : Shared} {a : Int} {t : Tok} {Q : Bool → Shared → Prop} (h0 : a ≠ 0) (h : Q true s) : wpAny (model prog w) A (truthy (.int a t)) Q E s :=
  truthy_int (by rw [bne_iff_ne.mpr h0]; exact h)
theorem truthy_no {prog : Program} {w : World} {A : Around} {E : Value → Shared → Prop} {s : Shared} {a : Int} {t : Tok} {Q : Bool → Shared → Prop} (h0 : a = 0) (h : Q false s) : wpAny (model prog w) A (truthy (.int a t)) Q E s :=
  truthy_int (by rw [h0]; exact h)
theorem slice_all {prog : Program} {w : World} {A : Around} {E : Value → Shared → Prop} {s : Shared} {value slice : Expr} {x : Str} {t : Tok} {h₀ : Heap} {L : Addr} {m : Str → Option Value} {news : List (Addr × Obj)} {Q : Value → Shared → Prop}
    (hF : Fr h₀ L s.heap m) (hN : News h₀ L s.heap news) (h : ∀ h' t' k, Fr h₀ L h' m → News h₀ L h' news → Q (.str x t') { s with heap := h', toks := k })
    (hs : subscripted slice false (.str x t) (.ref s.heap.objs.size) = operate [.ref s.heap.objs.size, .str x t] (getItem (.str x t) (.ref s.heap.objs.size)) := by with_unfolding_all rfl)
    (ht : ∀ r, letTemporaryGo value (.str x t) r = pure () := by intro _; with_unfolding_all rfl) (hsz : x.length ≤ sizeLine := by size_fits) :
    wpAny (model prog w) A (subscriptTail value slice (.str x t) (.ref s.heap.objs.size)) Q E { s with heap := s.heap.push { cls := .type "slice", data := .fields #[.none, .none, .none] } } :=
  slice_strN_nn hF hN (by rw [sl_all]; exact h) hs ht hsz
theorem ifmin (a b : Int) : (if b < a then b else a) = min a b := by
  by_cases h : b < a
  · rw [if_pos h]; omega
  · rw [if_neg h]; omega
end Mine
end
section
open PySem PySem.W PyProof.Rows
set_option Elab.async false
namespace Mine
local macro_rules | `(tactic| walk_at "subscriptTail Name BinOp str int") => stopAt 1
local macro_rules | `(tactic| walk_at "exec While BoolOp cons nil") => `(tactic| refine Blk.mk ?_)
local macro_rules | `(tactic| walk_at "pyIter ref") => `(tactic| refine Blk.mk ?_)
local macro_rules | `(tactic| walk_at "subscriptTail Name Slice str ref") => `(tactic| ((with_reducible show wpAny _ _ (subscriptTail _ (Expr.Slice none (some _) none _) _ _) _ _ _); (with_reducible rename Fr _ _ _ _ => F'); (with_reducible rename News _ _ _ _ => N'); refine slice_all (s := ⟨_, _, _, _, _⟩) F' N' ?_ (hsz := by size_fits); intro _ _ _ _ _; (try dsimp only)))
local macro_rules | `(tactic| walk_at "call type:list cons nil") => `(tactic| refine Blk.mk ?_)
local macro_rules | `(tactic| walk_at "truthy int") => `(tactic| first | (refine truthy_yes (by lia  ) ?_; (try dsimp only)) | (refine truthy_no (by lia  ) ?_; (try dsimp only)))
local macro_rules | `(tactic| walk_at "ite") => `(tactic| ((with_reducible show (if (BEq.beq (α := Str) _ _) = true then _ else _)); (refine split_bool ?_ ?_ <;> (intro _; (try dsimp only)))))
theorem sub_call {w : World} {mean : ExcName → Option Value} {mg mb : Str → Option Value} {dp un : Nat} {gd : Option (List Code)} {cn : Str} {cs : Scope} {a : Addr} {ccd : Value} {cl : List (Str × Addr)} {outer : List Env} {A₀ : Around} {base h₀ : Heap} {L : Addr} {m : Str → Option Value} {news : List (Addr × Obj)} {s : Shared} {Q E : Value → Shared → Prop} {x y : Str} {tx ty : Tok}
    (hB : Below A₀ base outer h₀) (F : Fr h₀ L s.heap m) (X : (hd.heap_39 w.params).In h₀) (N : News h₀ L s.heap news) (T : Top topProg LOO mean mg mb h₀) (hk : cs.kind = .function) (hx : x.length ≤ 64) (hy : y.length ≤ 64) (hd : dp + 10 < recursionLimit) (hu : un + 50 < cLine)
    (hret : ∀ (t : Tok) (h' : Heap) (tk' : Nat), Fr h₀ L h' m → News h₀ L h' news → Q (.int (subc x y) t) { s with heap := h', toks := tk' }) :
      wpAny (model PySem.Challenge.rw_mq0210_01.row.prog w) (ktrTop dp un gd cn cs L a ccd cl outer) (call (.ref 21) [.str x tx, .str y ty]) Q E s :=
  sub_claim w mean mg mb x y tx ty dp un gd cn cs a ccd cl outer A₀ base h₀ L m news s Q E hB F X N T hk ⟨hx, hy⟩ hd hu hret
local macro_rules | `(tactic| walk_at "call ref cons nil") => callBy (Lean.mkIdent `Mine.sub_call)
local macro_rules | `(tactic| walk_at "setItem ref int int") => `(tactic| refine Blk.mk ?_)
theorem lt_of_sl {n a j : Nat} (e : n = a - j) (h : ((n : Nat) : Int) ≠ 0) : j < a := by omega
theorem eq_of_sl {n a j : Nat} (e : n = a - j) (hj : j ≤ a) (h : ((n : Nat) : Int) = 0) : j = a := by omega
theorem sub_lt1 {a j : Nat} (h : j < a) : a - (j + 1) < a - j := by omega
theorem lt_of0 {a j : Nat} (e : 2 * (j : Int) < 1) (h : ((a : Nat) : Int) ≠ 0) : j < a := by omega
theorem eq_of0 {a j : Nat} (e : 2 * (j : Int) < 1) (h : ((a : Nat) : Int) = 0) : j = a := by omega
theorem wp_hide {α : Type} {M : Model} {A : Around} {x : Sem α} {Q : α → Shared → Prop} {E : Value → Shared → Prop} {s : Shared} (h : ∀ Q' : α → Shared → Prop, (∀ v s', Q v s' → Q' v s') → wpAny M A x Q' E s) : wpAny M A x Q E s := h Q fun _ _ z => z
theorem lenS (l : List Int) (a : Int) : l.length + 1 = (l ++ [a]).length := by simp
structure OS where
  us : List Value
  cc : Nat
  row : List Int
  res : Int
  t : Tok
structure IS where
  us : List Value
  cc : Nat
  row : List Int
  d : Int
  res : Int
  mn : Int
  td : Tok
  tr : Tok
  tn : Tok
noncomputable def sub2 (b a : Nat) : Int := subc ⟨#[b]⟩ ⟨#[a]⟩
set_option maxRecDepth 100000 in
set_option maxHeartbeats 0 in
theorem lev_claim (w : World) (mean : ExcName → Option Value) (mg mb : Str → Option Value) (x y : Str) (m : Int) (tx ty tm : Tok) :
   Clm w mean mg mb 28 20 100 (x.length ≤ 3 ∧ y.length ≤ 3) [.str x tx, .str y ty, .int m tm] (fun t => .int (levL sub2 (cl x) (cl y) m) t) := by
   have hx : PySem.Challenge.rw_mq0210_01 = PySem.Challenge.rw_mq0210_01 := rfl
   have hy : hd.heap_39 = hd.heap_39 := rfl
   revert hx hy
   k_fill
   intro hx hy
   clear hx hy
   w_on
   intro dp un gd cn cs aa ccd clo outs A₀ base h₀ L mm news s Q E hB F X N T hk hpre hdp hun hret
   obtain ⟨hlx, hly⟩ := hpre
   refine wpAny_call ?_
   k_dflt cell_enter
   (rename Fr _ _ _ _ => F0)
   have F0' := fr_start F0 (l' := [(Str.ofString "max_cost", .int m tm), (Str.ofString "b", .str y ty), (Str.ofString "a", .str x tx)]) rfl
   clear F0
   k_steps
   · rename (x == y) = true => he
     have he' : x = y := beq_iff_eq.mp he
     refine cb_retI hret ?_ (by assumption) (by assumption)
     subst he'
     simp [levL]
   · refine Blk.out ?_
     rename Fr _ _ _ _ => F1
     rename News _ _ _ _ => N1
     refine' my_while (σ := Nat × Tok) (r := kstB (fun _ => none) [(Str.ofString "max_cost", .int m tm), (Str.ofString "b", .str y ty), (Str.ofString "a", .str x tx)]) (fun _ => news) (fun c => [(Str.ofString "pre", Value.int c.1 c.2)]) (fun c => c.1 ≤ cpl (cl x) (cl y)) (fun c => c.1 = cpl (cl x) (cl y)) (fun c => x.length - c.1) (0, _) F1 N1 ?hp ?turn ?done ?hE
     case hp => exact Nat.zero_le _
     case hE => passes_own
     case turn =>
       rintro ⟨k, tk⟩ h tk' hP F2 N2
       clear F1 N1
       dsimp only at hP F2 N2 ⊢
       have hk1 := cpl_le1 (cl x) (cl y)
       have hk2 := cpl_le2 (cl x) (cl y)
       rw [cl_len] at hk1 hk2
       have hkx : k ≤ x.length := by lia  
       have hky : k ≤ y.length := by lia  
       k_steps
       · rename Fr _ _ _ _ => F3
         rename News _ _ _ _ => N3
         rename (Txt.item x _ == Txt.item y _) = true => he
         rw [it_pos (by lia  ), it_pos (by lia  ), one_inj] at he
         have hm := cpl_more hP (by rw [cl_len]; lia  ) (by rw [cl_len]; lia  ) (beq_iff_eq.mp he)
         exact ⟨rfl, (k + 1, _), _, _, rfl, hm, (by show x.length - (k + 1) < x.length - k; lia  ), fr_same (C := [(_, _), (_, _)]) F3 ⟨rfl, rfl, rfl, trivial⟩, N3⟩
       · rename Fr _ _ _ _ => F3
         rename News _ _ _ _ => N3
         rename (Txt.item x _ == Txt.item y _) = false => he
         rw [it_pos (by lia  ), it_pos (by lia  ), one_inj] at he
         exact ⟨_, _, rfl, cpl_stop hP fun _ _ => beq_eq_false_iff_ne.mp he, F3, N3⟩
       · rename Fr _ _ _ _ => F3
         rename News _ _ _ _ => N3
         exact ⟨_, _, rfl, cpl_stop hP fun _ h2 => by rw [cl_len] at h2; lia  , F3, N3⟩
       · rename Fr _ _ _ _ => F3
         rename News _ _ _ _ => N3
         exact ⟨_, _, rfl, cpl_stop hP fun h2 _ => by rw [cl_len] at h2; lia  , F3, N3⟩
     case done =>
       rintro ⟨k, tk⟩ h tk' hD F2 N2
       clear F1 N1
       dsimp only at hD F2 N2 ⊢
       k_steps
       have hk1 := cpl_le1 (cl x) (cl y)
       have hk2 := cpl_le2 (cl x) (cl y)
       rw [cl_len] at hk1 hk2
       have hA := sl_from (x := x) (k := k) (by lia  )
       have hB := sl_from (x := y) (k := k) (by lia  )
       rename Fr _ _ _ _ => F3
       rename News _ _ _ _ => N3
       generalize Txt.slice x (some (k : Int)) none = a at *
       generalize Txt.slice y (some (k : Int)) none = b at *
       have F4 := fr_same (C := [(_, _), (_, _), (_, _), (_, _), (_, _), (_, _), (_, _)]) (l := [(Str.ofString "post", _), (Str.ofString "b", .str b _), (Str.ofString "a", .str a _), (Str.ofString "pre", _), (Str.ofString "max_cost", .int m tm)]) F3 ⟨rfl, rfl, rfl, rfl, rfl, rfl, rfl, rfl, rfl, rfl, rfl, rfl, trivial⟩
       clear F3
       refine Blk.out ?_
       refine' my_while (σ := Nat × Tok) (r := kstB (fun _ => none) [(Str.ofString "b", .str b _), (Str.ofString "a", .str a _), (Str.ofString "pre", _), (Str.ofString "max_cost", .int m tm)]) (fun _ => news) (fun c => [(Str.ofString "post", Value.int (-(c.1 : Int)) c.2)]) (fun c => c.1 ≤ cpl (cl a).reverse (cl b).reverse) (fun c => c.1 = cpl (cl a).reverse (cl b).reverse) (fun c => a.length - c.1) (0, _) F4 N3 ?hp ?turn ?done ?hE
       case hp => exact Nat.zero_le _
       case hE => passes_own
       case turn =>
         rintro ⟨j, tj⟩ h tk' hP F5 N5
         clear F4 N3
         dsimp only at hP F5 N5 ⊢
         have hj1 := cpl_le1 (cl a).reverse (cl b).reverse
         have hj2 := cpl_le2 (cl a).reverse (cl b).reverse
         rw [List.length_reverse, cl_len] at hj1 hj2
         have hja : j ≤ a.length := by lia  
         have hjb : j ≤ b.length := by lia  
         have saj : 0 < j → (Txt.slice a none (some (-(j : Int)))).length = a.length - j := fun h0 => by
           rw [← cl_len, sl_neg h0 hja, List.length_take, cl_len]; lia  
         have sbj : 0 < j → (Txt.slice b none (some (-(j : Int)))).length = b.length - j := fun h0 => by
           rw [← cl_len, sl_neg h0 hjb, List.length_take, cl_len]; lia  
         have fin : ∀ (z : Txt.item a (-(j : Int) - 1) == Txt.item b (-(j : Int) - 1)) (hja : j < a.length) (hjb : j < b.length), j + 1 ≤ cpl (cl a).reverse (cl b).reverse := fun he _ _ => by
           rw [it_neg (by lia  ), it_neg (by lia  ), one_inj] at he
           exact cpl_more hP (by rw [List.length_reverse, cl_len]; lia  ) (by rw [List.length_reverse, cl_len]; lia  ) (beq_iff_eq.mp he)
         have fin2 : ∀ (z : (Txt.item a (-(j : Int) - 1) == Txt.item b (-(j : Int) - 1)) = false) (hja : j < a.length) (hjb : j < b.length), j = cpl (cl a).reverse (cl b).reverse := fun he _ _ => by
           rw [it_neg (by lia  ), it_neg (by lia  ), one_inj] at he
           exact cpl_stop hP fun _ _ => beq_eq_false_iff_ne.mp he
         have fin3 : Unit → j = a.length ∨ j = b.length → j = cpl (cl a).reverse (cl b).reverse := fun _ h => cpl_stop hP fun h1 h2 => by
           rw [List.length_reverse, cl_len] at h1 h2; lia  
         have ev : (-(j : Int) - 1) = -((j + 1 : Nat) : Int) := by lia  
         rcases Nat.eq_zero_or_pos j with h0 | h0
         · have h0' : 2 * (j : Int) < 1 := by lia  
           clear h0 saj sbj
           k_steps
           all_goals (rename Fr _ _ _ _ => F3; rename News _ _ _ _ => N3)
           · rename (Txt.item a _ == Txt.item b _) = true => he
             rw [ev] at F3
             exact ⟨rfl, (j + 1, _), _, _, rfl, fin he (lt_of0 h0' (by assumption)) (lt_of0 h0' (by assumption)), sub_lt1 (lt_of0 h0' (by assumption)), fr_same (C := [(_, _), (_, _)]) F3 ⟨rfl, rfl, rfl, trivial⟩, N3⟩
           · rename (Txt.item a _ == Txt.item b _) = false => he
             exact ⟨_, _, rfl, fin2 he (lt_of0 h0' (by assumption)) (lt_of0 h0' (by assumption)), F3, N3⟩
           · exact ⟨_, _, rfl, fin3 () (.inr (eq_of0 h0' (by assumption))), F3, N3⟩
           · exact ⟨_, _, rfl, fin3 () (.inl (eq_of0 h0' (by assumption))), F3, N3⟩
         · replace saj := saj h0
           replace sbj := sbj h0
           have mk1 : Mk 1 := trivial
           k_steps
           · refine Blk.out ?_
             have ja := lt_of_sl saj (by assumption)
             have jb := lt_of_sl sbj (by assumption)
             clear mk1 saj sbj
             iterate 2 (try (rename (_ → _) ∧ _ => z1; clear z1))
             iterate 2 (try (rename _ ≠ (0 : Int) => z1; clear z1))
             k_steps
             all_goals (rename Fr _ _ _ _ => F3; rename News _ _ _ _ => N3)
             · rename (Txt.item a _ == Txt.item b _) = true => he
               rw [ev] at F3
               exact ⟨rfl, (j + 1, _), _, _, rfl, fin he ja jb, sub_lt1 ja, fr_same (C := [(_, _), (_, _)]) F3 ⟨rfl, rfl, rfl, trivial⟩, N3⟩
             · rename (Txt.item a _ == Txt.item b _) = false => he
               exact ⟨_, _, rfl, fin2 he ja jb, F3, N3⟩
           all_goals (rename Fr _ _ _ _ => F3; rename News _ _ _ _ => N3)
           · exact ⟨_, _, rfl, fin3 () (.inr (eq_of_sl sbj hjb (by assumption))), F3, N3⟩
           · exact ⟨_, _, rfl, fin3 () (.inl (eq_of_sl saj hja (by assumption))), F3, N3⟩
       case done =>
         rintro ⟨j, tj⟩ h tk' hD2 F5 N5
         clear F4 N3
         dsimp only at hD2 F5 N5 ⊢
         have hj1 := cpl_le1 (cl a).reverse (cl b).reverse
         have hj2 := cpl_le2 (cl a).reverse (cl b).reverse
         rw [List.length_reverse, cl_len] at hj1 hj2
         refine cut_fr 2 news (fun m' => ∃ a' b' ta tb, cl a' = (cl a).take (a.length - j) ∧ cl b' = (cl b).take (b.length - j) ∧ m' = kstB (fun _ => none) [(Str.ofString "b", .str b' tb), (Str.ofString "a", .str a' ta), (Str.ofString "post", Value.int (-(j : Int)) tj), (Str.ofString "pre", .int k tk), (Str.ofString "max_cost", .int m tm)]) F5 ?_ ?_
         · dsimp only [List.take]
           rcases Nat.eq_zero_or_pos j with h0 | h0
           · have h0' : 2 * (j : Int) < 1 := by lia  
             have e1 : a.length - j = a.length := by lia  
             have e2 : b.length - j = b.length := by lia  
             rw [e1, e2]
             clear h0
             k_steps
             rename Fr _ _ _ _ => F3
             rename News _ _ _ _ => N3
             exact ⟨_, _, _, rfl, ⟨a, b, _, _, by rw [← cl_len, List.take_length], by rw [← cl_len, List.take_length], kst_same (C := [(_, _), (_, _), (_, _), (_, _), (_, _), (_, _), (_, _)]) ⟨rfl, rfl, rfl, rfl, rfl, rfl, rfl, rfl, rfl, rfl, rfl, rfl, trivial⟩⟩, F3, N3⟩
           · have ha' := sl_neg (x := a) h0 (by lia  )
             have hb' := sl_neg (x := b) h0 (by lia  )
             k_steps
             rename Fr _ _ _ _ => F3
             rename News _ _ _ _ => N3
             exact ⟨_, _, _, rfl, ⟨_, _, _, _, ha', hb', kst_same (C := [(_, _), (_, _), (_, _), (_, _), (_, _), (_, _), (_, _)]) ⟨rfl, rfl, rfl, rfl, rfl, rfl, rfl, rfl, rfl, rfl, rfl, rfl, trivial⟩⟩, F3, N3⟩
         · dsimp only [List.drop]
           rintro h6 tk6 _ ⟨a', b', ta, tb, ha', hb', rfl⟩ F6 N6
           clear F5 N5
           have la : a'.length = a.length - j := by rw [← cl_len, ha', List.length_take, cl_len]; lia  
           have lb : b'.length = b.length - j := by rw [← cl_len, hb', List.length_take, cl_len]; lia  
           have hne : ¬ cl x = cl y := by
             rename (x == y) = false => hxy
             intro e
             rw [cl_inj e] at hxy
             simp at hxy
           have hlev : levL sub2 (cl x) (cl y) m = levT sub2 (cl a') (cl b') m := by
             unfold levL
             rw [if_neg hne]
             dsimp only
             rw [← hD, ← hA, ← hB]
             unfold cutBack
             rw [← hD2, cl_len, cl_len, ← ha', ← hb']
           clear hne hk1 hk2 hj1 hj2 hA hB hD hD2 ha' hb'
           have hla : a'.length ≤ 3 := by lia  
           have hlb : b'.length ≤ 3 := by lia  
           clear la lb
           refine cut_fr 3 news (fun m' => ∃ p q tp tq, m' = kstB (fun _ => none) [(Str.ofString "b", .str q tq), (Str.ofString "a", .str p tp), (Str.ofString "post", Value.int (-(j : Int)) tj), (Str.ofString "pre", .int k tk), (Str.ofString "max_cost", .int m tm)] ∧ 0 < p.length ∧ p.length ≤ q.length ∧ q.length ≤ 3 ∧ levT sub2 (cl a') (cl b') m = levM sub2 (cl p) (cl q) m) F6 ?_ ?_
           · dsimp only [List.take]
             k_steps
             · rename Fr _ _ _ _ => F3
               rename News _ _ _ _ => N3
               refine ⟨_, _, _, rfl, ⟨b', a', _, _, kst_same (C := [(_, _), (_, _), (_, _), (_, _), (_, _), (_, _), (_, _)]) ⟨rfl, rfl, rfl, rfl, rfl, rfl, rfl, rfl, rfl, rfl, rfl, rfl, trivial⟩, by lia  , by lia  , by lia  , ?_⟩, F3, fun p hp => N3 p (.tail _ hp)⟩
               unfold levT
               rw [cl_len, cl_len, if_neg (by lia  ), if_pos (by lia  )]
             · refine ⟨_, _, _, rfl, ⟨a', b', _, _, rfl, by lia  , by lia  , by lia  , ?_⟩, F6, N6⟩
               unfold levT
               rw [cl_len, cl_len, if_neg (by lia  ), if_neg (by lia  )]
             all_goals
               refine cb_retI hret ?_ (by assumption) (by assumption)
               rw [hlev]
               unfold levT
               rw [cl_len, cl_len, if_pos (by lia  )]
           · dsimp only [List.drop]
             rintro h7 tk7 _ ⟨p, q, tp, tq, rfl, hp0, hpq, hq3, hlv⟩ F7 N7
             clear F6 N6
             rw [hlv] at hlev
             clear hlv hla hlb
             k_steps
             · refine cb_retI hret ?_ (by assumption) (by assumption)
               rw [hlev]
               unfold levM
               rw [cl_len, cl_len, if_pos (by assumption)]
             · refine Blk.out ?_
               rename Fr _ _ _ _ => F3
               rename News _ _ _ _ => N3
               rename IsRange _ _ _ _ _ _ _ _ => hr
               refine list_range (n := p.length) rfl F3 N3 hr ?_ ?_ (by lia  ) ?_
               · clear hlev hr F3 N3
                 have h3 : p.length = 1 ∨ p.length = 2 ∨ p.length = 3 := by lia  
                 rcases h3 with e | e | e <;> rw [e] <;> decide
               · clear hlev hr F3 N3
                 have h3 : p.length = 1 ∨ p.length = 2 ∨ p.length = 3 := by lia  
                 rcases h3 with e | e | e <;> rw [e] <;> decide
               intro D us c' h' tk F' N' l1 hI
               clear F3 N3 hr
               k_steps
               refine Blk.out ?_
               rename Fr _ _ _ _ => F3
               rename News _ _ _ _ => N3
               rename IsRange _ _ _ _ _ _ _ _ => hr
               have F4 := fr_same (C := [(_, _), (_, _), (_, _), (_, _), (_, _), (_, _), (_, _)]) (l := [(Str.ofString "result", _), (Str.ofString "row", .ref D), (Str.ofString "b", .str q tq), (Str.ofString "a", .str p tp), (Str.ofString "max_cost", .int m tm), (Str.ofString "post", _), (Str.ofString "pre", _)]) F3 ⟨rfl, rfl, rfl, rfl, rfl, rfl, rfl, rfl, rfl, rfl, rfl, rfl, rfl, rfl, trivial⟩
               clear F3
               refine' kst_range (σ := OS) (n := q.length) (fun c => (D, W.listOf c.us.toArray c.cc) :: news) (fun c => [(Str.ofString "result", .int c.res c.t)]) (fun c => IntsAre c.us c.row) [Str.ofString "bchar", Str.ofString "distance", Str.ofString "minimum", Str.ofString "index", Str.ofString "substitute", Str.ofString "insert_delete"]
                 (fun pre c => c.row.length = p.length ∧ outer sub2 (cl p) m ((cl q).drop pre.length) pre.length c.row c.res = outer sub2 (cl p) m (cl q) 0 ((List.range p.length).map fun (i : Nat) => 2 + (i : Int) * 2) 0)
                 ⟨us, c', (List.range p.length).map fun (i : Nat) => 2 + (i : Int) * 2, 0, _⟩ ?hh hr ?hsmall ?hn F4 N3 ?hf ?hk ?hp ?turn ?done
               case hh => rfl
               case hsmall => exact small_one (by lia  ) (by lia  ) (by lia  ) (by lia  )
               case hn => rw [rangeSize_nat]; lia  
               case hf => assumption
               case hk =>
                 intro p hp
                 rcases List.mem_singleton.mp hp with rfl
                 exact rfl
               case hp =>
                 refine ⟨by simp, rfl⟩
               case turn =>
                 intro c pre kk tkk u h9 tk9 own hkk hlt hoff hfa hP F9 N9
                 clear F4 N3 hr
                 obtain ⟨hP1, hP2⟩ := hP
                 dsimp only at hfa F9 N9 ⊢
                 obtain rfl : kk = (pre.length : Int) := by lia  
                 refine wp_hide fun Q8 hQ8 => ?_
                 k_steps
                 refine Blk.out ?_
                 rename Fr _ _ _ _ => F3
                 rename News _ _ _ _ => N3
                 rename IsRange _ _ _ _ _ _ _ _ => hr
                 refine' kst_range (σ := IS) (n := p.length) (fun c => (D, W.listOf c.us.toArray c.cc) :: (news ++ own)) (fun c => [(Str.ofString "distance", .int c.d c.td), (Str.ofString "result", .int c.res c.tr), (Str.ofString "minimum", .int c.mn c.tn)]) (fun c => IntsAre c.us c.row) [Str.ofString "substitute", Str.ofString "insert_delete"]
                   (fun pre2 c2 => InnOk (sub2 ((cl q).getD pre.length 0)) (cl p) c.row (inner (sub2 ((cl q).getD pre.length 0)) (cl p) c.row (pre.length * 2) (pre.length * 2) MAXI) pre2.length c2.row c2.d c2.res c2.mn)
                   ⟨c.us, c.cc, c.row, pre.length * 2, pre.length * 2, MAXI, _, _, _⟩ ?hh2 hr ?hsmall2 ?hn2 F3 N3 ?hf2 ?hk2 ?hp2 ?turn2 ?done2
                 case hh2 => rfl
                 case hsmall2 => exact small_one (by lia  ) (by lia  ) (by lia  ) (by lia  )
                 case hn2 => rw [rangeSize_nat]; lia  
                 case hf2 => assumption
                 case hk2 =>
                   intro p hp
                   rcases List.mem_cons.mp hp with rfl | hp
                   · exact rfl
                   rcases List.mem_cons.mp hp with rfl | hp
                   · exact rfl
                   rcases List.mem_singleton.mp hp with rfl
                   exact rfl
                 case hp2 =>
                   exact InnOk.start _ _ _ _ _ _
                 case turn2 =>
                   intro c2 pre2 k2 tk2 u2 h10 tk10 own2 hk2 hlt2 hoff2 hfa2 hQ F10 N10
                   clear F3 N3 hr
                   dsimp only at hfa2 hQ F10 N10 ⊢
                   have hl2 : c2.row.length = p.length := hQ.1.trans hP1
                   have hl3 := hfa2.length
                   obtain rfl : k2 = (pre2.length : Int) := by lia  
                   have ei : subc (Txt.item q (pre.length : Int)) (Txt.item p (pre2.length : Int)) = sub2 ((cl q).getD pre.length 0) ((cl p).getD pre2.length 0) := by
                     rw [it_pos (by lia  ), it_pos (by lia  )]; rfl
                   have hst := hQ.step (by rw [cl_len]; lia  ) (by rw [cl_len]; lia  )
                   have hD : ∀ p ∈ (news ++ own) ++ own2, p.1 ≠ D := by
                     intro p hp
                     rcases List.mem_append.mp hp with hp | hp
                     · rcases List.mem_append.mp hp with hp | hp
                       · exact Nat.ne_of_lt (l1 p hp)
                       · exact hoff p hp D (.head _)
                     · exact hoff2 p hp D (.head _)
                   refine wp_hide fun Q9 hQ9 => ?_
                   k_steps
                   refine Blk.out ?_
                   rename Fr _ _ _ _ => F11
                   rename News _ _ _ _ => N11
                   refine ksa_set (news' := (D, W.listOf (c2.us.set (pre2.length : Int).toNat (.int _ _)).toArray c2.cc) :: ((news ++ own) ++ own2)) F11 N11 (Upd.head hD) hfa2 (by lia  ) (by lia  ) (by lia  ) ?_
                   intro h12 F12 N12 hi12 hl12 hs12
                   clear F11 N11 hs12
                   simp only [ifmin, ei, Int.toNat_natCast] at F12 N12 hi12 hl12 ⊢
                   k_steps
                   · rename Fr _ _ _ _ => F13
                     rename News _ _ _ _ => N13
                     rename (_ < c2.mn) => hlt9
                     rw [if_pos hlt9] at hst
                     have hst' := (lenS pre2 (pre2.length : Int)) ▸ hst
                     refine hQ9 _ _ ?_
                     refine' ⟨_, _, _, _, _ :: (news ++ own), rfl, F13, N13, fun p hp => List.mem_append_left own2 hp, fun p hp => List.mem_append_right (_ :: (news ++ own)) hp, rfl, ⟨⟨_, c2.cc, _, _, _, _, _, _, _⟩, rfl, hi12, ?hk9, ?hr9, hst'⟩⟩
                     case hk9 =>
                       intro p hp
                       rcases List.mem_cons.mp hp with rfl | hp
                       · exact rfl
                       rcases List.mem_cons.mp hp with rfl | hp
                       · exact rfl
                       rcases List.mem_singleton.mp hp with rfl
                       exact rfl
                     case hr9 =>
                       intro z hz hz2 hz3
                       have z1 := hz2 _ (.head _)
                       have z2 := hz2 _ (.tail _ (.head _))
                       have z3 := hz2 _ (.tail _ (.tail _ (.head _)))
                       simp only [List.contains_cons, List.contains_nil, Bool.or_false, Bool.or_eq_false_iff, beq_eq_false_iff_ne, ne_eq] at hz3
                       simp [kstB, hz, z1, z2, z3, hz3]
                   · rename Fr _ _ _ _ => F13
                     rename News _ _ _ _ => N13
                     rename (¬ _ < c2.mn) => hlt9
                     rw [if_neg hlt9] at hst
                     have hst' := (lenS pre2 (pre2.length : Int)) ▸ hst
                     refine hQ9 _ _ ?_
                     refine' ⟨_, _, _, _, _ :: (news ++ own), rfl, F13, N13, fun p hp => List.mem_append_left own2 hp, fun p hp => List.mem_append_right (_ :: (news ++ own)) hp, rfl, ⟨⟨_, c2.cc, _, _, _, _, _, _, _⟩, rfl, hi12, ?hk9, ?hr9, hst'⟩⟩
                     case hk9 =>
                       intro p hp
                       rcases List.mem_cons.mp hp with rfl | hp
                       · exact rfl
                       rcases List.mem_cons.mp hp with rfl | hp
                       · exact rfl
                       rcases List.mem_singleton.mp hp with rfl
                       exact rfl
                     case hr9 =>
                       intro z hz hz2 hz3
                       have z1 := hz2 _ (.head _)
                       have z2 := hz2 _ (.tail _ (.head _))
                       have z3 := hz2 _ (.tail _ (.tail _ (.head _)))
                       simp only [List.contains_cons, List.contains_nil, Bool.or_false, Bool.or_eq_false_iff, beq_eq_false_iff_ne, ne_eq] at hz3
                       simp [kstB, hz, z1, z2, z3, hz3]
                 case done2 =>
                   intro c2 u2 h10 tk10 hfa2 hQ F10 N10
                   clear F3 N3 hr
                   dsimp only at hfa2 hQ F10 N10 ⊢
                   rw [rangeKs_length] at hQ
                   obtain ⟨f1, f2, f3⟩ := hQ.fin (by rw [cl_len]) (by rw [cl_len]; exact hP1.symm)
                   rw [outer_step (by rw [cl_len]; lia  ), ← f1, ← f2, ← f3] at hP2
                   have hl2 : c2.row.length = p.length := hQ.1.trans hP1
                   clear f1 f2 f3 hQ
                   k_steps
                   · refine hQ8 _ _ ?_
                     (try dsimp only)
                     k_steps
                     refine cb_retI hret ?_ (by assumption) (cb_drop (by assumption) fun _ h => .tail _ (List.mem_append_left _ h))
                     rename (m < c2.mn) => hlt9
                     rw [if_pos hlt9] at hP2
                     rw [hlev]
                     unfold levM
                     rw [cl_len, cl_len, if_neg (by assumption), ← hP2]
                   · rename (¬ m < c2.mn) => hlt9
                     rw [if_neg hlt9] at hP2
                     have hP2' := (lenS pre (pre.length : Int)) ▸ hP2
                     refine hQ8 _ _ ?_
                     refine' ⟨_, _, _, _, _ :: news, rfl, F10, N10, fun p hp => List.mem_append_left own hp, fun p hp => List.mem_append_right (_ :: news) hp, rfl, ⟨⟨_, c2.cc, c2.row, c2.res, _⟩, rfl, hfa2, ?hk9, ?hr9, hl2, hP2'⟩⟩
                     case hk9 =>
                       intro p hp
                       rcases List.mem_singleton.mp hp with rfl
                       exact rfl
                     case hr9 =>
                       intro z hz hz2 hz3
                       have z1 := hz2 _ (.head _)
                       simp only [List.contains_cons, List.contains_nil, Bool.or_false, Bool.or_eq_false_iff, beq_eq_false_iff_ne, ne_eq] at hz3
                       simp [kstB, hz, z1, hz3]
               case done =>
                 intro c u h9 tk9 hfa hP F9 N9
                 clear F4 N3 hr
                 obtain ⟨hP1, hP2⟩ := hP
                 dsimp only at hfa F9 N9 ⊢
                 k_steps
                 rw [rangeKs_length, List.drop_of_length_le (by rw [cl_len]; lia  )] at hP2
                 refine cb_retI hret ?_ (by assumption) (cb_drop (by assumption) fun _ h => .tail _ h)
                 rw [hlev]
                 unfold levM
                 rw [cl_len, cl_len, if_neg (by assumption), ← hP2]
                 rfl
end Mine
end
section
open PySem PySem.W PyProof.Rows
set_option Elab.async false
namespace Mine
noncomputable def prc (x y : Str) : Int := if x = y then 0 else if (Builtin.Str.occurrences (x ++ y) (Str.ofString "b") 0 (x ++ y).length 1).isEmpty then 1 else 2
set_option maxRecDepth 100000 in
set_option maxHeartbeats 8000000 in
theorem price_claim (w : World) (mean : ExcName → Option Value) (mg mb : Str → Option Value) (x y : Str) (tx ty : Tok) :
   Clm w mean mg mb 56 10 50 (x.length ≤ 64 ∧ y.length ≤ 64) [.str x tx, .str y ty] (fun t => .int (prc x y) t) := by
   have hx : PySem.Challenge.rw_mq0210_01 = PySem.Challenge.rw_mq0210_01 := rfl
   have hy : hd.heap_39 = hd.heap_39 := rfl
   revert hx hy
   k_fill
   intro hx hy
   clear hx hy
   w_on
   intro dp un gd cn cs a ccd clo outer A₀ base h₀ L mm news s Q E hB F X N T hk hpre hdp hun hret
   obtain ⟨hlx, hly⟩ := hpre
   refine wpAny_call ?_
   k_dflt cell_enter
   k_steps
   all_goals (refine cb_retI hret ?_ (by assumption) (by assumption); simp_all [prc])
end Mine
end
section
open PySem PySem.W PyProof.Rows
set_option Elab.async false
namespace Mine
/-- the end of a turn of my_for -/
noncomputable def FT {σ : Type} (h₀ : Heap) (L : Addr) (s : Shared) (x : Str) (Led : σ → List (Addr × Obj)) (ps : σ → List (Str × Value)) (stored : List Str) (r : Str → Option Value) (wr : List Addr) (own : List (Addr × Obj)) (P : σ → Prop) (Q : Flow → Shared → Prop) (f : Flow) (s₂ : Shared) : Prop :=
  match f with
  | .ret v => Q (.ret v) s₂
  | .brk => Q .next s₂
  | _ => ∃ (c : σ) (h : Heap) (tk : Nat) (m' : Str → Option Value), s₂ = { s with heap := h, toks := tk } ∧ P c ∧ Fr h₀ L h m' ∧ (∀ p ∈ ps c, m' p.1 = some p.2) ∧ (∀ z, z ≠ x → (∀ p ∈ ps c, z ≠ p.1) → stored.contains z = false → m' z = r z) ∧ News h₀ L h (own ++ Led c) ∧ ∀ p ∈ Led c, p.1 ∉ wr
theorem my_for {prog : Program} {w : World} {A : Around} {E : Value → Shared → Prop} {Q : Flow → Shared → Prop} {s : Shared} {env : Env} {h₀ : Heap} {x : Str} {body : List Stmt} {I : Addr} {fp wr : List Addr} {n : Nat} {PW : Nat → Value → Prop} {St : Nat → Heap → Prop}
    {σ : Type} {r : Str → Option Value} (Led : σ → List (Addr × Obj)) (ps : σ → List (Str × Value)) (stored : List Str) (P : Nat → σ → Prop) (c₀ : σ)
    (W : Walks prog w A I fp wr n PW St) (hLf : env.locals ∉ fp) (hwr : ∀ b ∈ wr, h₀.get? b = none) (hnw : ∀ p ∈ Led c₀, p.1 ∉ wr) (hst : St 0 s.heap)
    (F : Fr h₀ env.locals s.heap r) (N : News h₀ env.locals s.heap (Led c₀)) (hk : ∀ p ∈ ps c₀, r p.1 = some p.2) (hp : P 0 c₀)
    (turn : ∀ i v (c : σ) (u : Str → Option Value) h tk own, i < n → PW i v → P i c → (∀ p ∈ Led c, p.1 ∉ wr) → (∀ p ∈ own, p.1 ∈ fp) → (∀ b ∈ fp, h₀.get? b = none → ∀ o, h.get? b = some o → (b, o) ∈ own) → St (i + 1) h →
      Fr h₀ env.locals h (fun y => if y = x then some v else kstB (fun z => if stored.contains z then u z else r z) (ps c) y) → News h₀ env.locals h (own ++ Led c) →
      wpAny (model prog w) A (execs body env) (FT h₀ env.locals s x Led ps stored r wr own (P (i + 1)) Q) E { s with heap := h, toks := tk })
    (done : ∀ (c : σ) (u : Str → Option Value) h tk, P n c → Fr h₀ env.locals h (fun y => if y = x then u y else kstB (fun z => if stored.contains z then u z else r z) (ps c) y) → News h₀ env.locals h (Led c) → Q .next { s with heap := h, toks := tk }) :
    LoopAtV prog w A h₀ env x body Q E (.ref I) s := by
  refine ⟨I, fp, wr, n, PW, St, r, Led c₀, fun i m nx => ∃ c, nx = Led c ∧ P i c ∧ (∀ p ∈ ps c, m p.1 = some p.2) ∧ (∀ z, z ≠ x → (∀ p ∈ ps c, z ≠ p.1) → stored.contains z = false → m z = r z), rfl, W, hLf, hwr, hnw, hst, F, N, ⟨c₀, rfl, hp, hk, fun _ _ _ _ => rfl⟩, ?_, ?_⟩
  · rintro i v m₁ nx s₁ own ⟨h, tk, rfl⟩ hi hv ⟨c, rfl, hP, h1, h2⟩ hw hf _ hfu hSt F₁ N₁
    refine wpAny_mono (turn i v c m₁ h tk own hi hv hP hw hf hfu hSt (kst_fr h1 h2 F₁) N₁) (fun f s₂ p => ?_) fun _ _ e => e
    cases f with
    | ret v => exact .ret p
    | brk => exact .brk p
    | next =>
      obtain ⟨c', h', tk', m', rfl, hP', F', k1, k2, N', hw'⟩ := p
      exact .next ⟨rfl, h', tk', m', Led c', rfl, F', N', hw', c', rfl, hP', k1, k2⟩
    | cont =>
      obtain ⟨c', h', tk', m', rfl, hP', F', k1, k2, N', hw'⟩ := p
      exact .cont ⟨rfl, h', tk', m', Led c', rfl, F', N', hw', c', rfl, hP', k1, k2⟩
  · rintro h tk m' nx F' N' _ ⟨c, rfl, hP, h1, h2⟩
    exact done c m' h tk hP (kst_frOut h1 h2 F') N'
end Mine
end
section
open PySem PySem.W PyProof.Rows
set_option Elab.async false
namespace Mine
/-- the end of a turn of my_text, my_list -/
noncomputable def FU {σ : Type} (h₀ : Heap) (L : Addr) (s : Shared) (x : Str) (Led : σ → List (Addr × Obj)) (ps : σ → List (Str × Value)) (stored : List Str) (r : Str → Option Value) (I : Addr) (own : List (Addr × Obj)) (P : σ → Prop) (Q : Flow → Shared → Prop) (f : Flow) (s₂ : Shared) : Prop :=
  match f with
  | .ret v => Q (.ret v) s₂
  | .brk => Q .next s₂
  | _ => ∃ (c : σ) (h : Heap) (tk : Nat) (m' : Str → Option Value), s₂ = { s with heap := h, toks := tk } ∧ P c ∧ Fr h₀ L h m' ∧ (∀ p ∈ ps c, m' p.1 = some p.2) ∧ (∀ z, z ≠ x → (∀ p ∈ ps c, z ≠ p.1) → stored.contains z = false → m' z = r z) ∧ News h₀ L h (Led c ++ own) ∧ ∀ p ∈ Led c, p.1 ≠ I
theorem news_comm {h₀ h : Heap} {L : Addr} {a b : List (Addr × Obj)} (N : News h₀ L h (a ++ b)) : News h₀ L h (b ++ a) := fun p hp => N p (by rcases List.mem_append.mp hp with q | q; exact List.mem_append_right _ q; exact List.mem_append_left _ q)
theorem FU.to {σ : Type} {h₀ : Heap} {L : Addr} {s : Shared} {x : Str} {Led : σ → List (Addr × Obj)} {ps : σ → List (Str × Value)} {stored : List Str} {r : Str → Option Value} {I : Addr} {own : List (Addr × Obj)} {P : σ → Prop} {Q : Flow → Shared → Prop} {f : Flow} {s₂ : Shared}
    (h : FU h₀ L s x Led ps stored r I own P Q f s₂) : FT h₀ L s x Led ps stored r [I] own P Q f s₂ := by
  cases f with
  | ret v => exact h
  | brk => exact h
  | next =>
    obtain ⟨c', h', tk', m', rfl, hP', F', k1, k2, N', hw'⟩ := h
    exact ⟨c', h', tk', m', rfl, hP', F', k1, k2, news_comm N', fun p hp q => hw' p hp (List.mem_singleton.mp q)⟩
  | cont =>
    obtain ⟨c', h', tk', m', rfl, hP', F', k1, k2, N', hw'⟩ := h
    exact ⟨c', h', tk', m', rfl, hP', F', k1, k2, news_comm N', fun p hp q => hw' p hp (List.mem_singleton.mp q)⟩
theorem my_text {prog : Program} {w : World} {A : Around} {E : Value → Shared → Prop} {Q : Flow → Shared → Prop} {s : Shared} {env : Env} {h₀ : Heap} {x : Str} {body : List Stmt} {xt : Str} {tx : Tok}
    {σ : Type} {r : Str → Option Value} (Led : σ → List (Addr × Obj)) (ps : σ → List (Str × Value)) (stored : List Str) (P : Nat → σ → Prop) (c₀ : σ)
    (hh : A.handled = none)
    (F : Fr h₀ env.locals s.heap r) (N : News h₀ env.locals s.heap (Led c₀)) (hk : ∀ p ∈ ps c₀, r p.1 = some p.2) (hp : P 0 c₀)
    (turn : ∀ i t I o (c : σ) (u : Str → Option Value) h tk own, i < xt.length → P i c → (∀ p ∈ Led c, p.1 ≠ I) → (∀ p ∈ own, p.1 = I) → (I, o) ∈ own →
      Fr h₀ env.locals h (fun y => if y = x then some (.str ⟨#[(cl xt).getD i 0]⟩ t) else kstB (fun z => if stored.contains z then u z else r z) (ps c) y) → News h₀ env.locals h (Led c ++ own) →
      wpAny (model prog w) A (execs body env) (FU h₀ env.locals s x Led ps stored r I own (P (i + 1)) Q) E { s with heap := h, toks := tk })
    (done : ∀ (c : σ) (u : Str → Option Value) h tk, P xt.length c → Fr h₀ env.locals h (fun y => if y = x then u y else kstB (fun z => if stored.contains z then u z else r z) (ps c) y) → News h₀ env.locals h (Led c) → Q .next { s with heap := h, toks := tk }) :
    wpAny (model prog w) A (pyIter (.str xt tx)) (fun it s₂ => LoopAtV prog w A h₀ env x body Q E it s₂) E s := by
  have key : ∀ (o : Obj) (St : Nat → Heap → Prop), Walks prog w A s.heap.objs.size [s.heap.objs.size] [s.heap.objs.size] xt.cps.size (SignAt xt) St → St 0 (s.heap.push o) → (∀ i h, St i h → ∃ o', h.get? s.heap.objs.size = some o') →
      LoopAtV prog w A h₀ env x body Q E (.ref s.heap.objs.size) { s with heap := s.heap.push o } := by
    intro o St W hst hex
    refine my_for Led ps stored P c₀ W ?_ ?_ ?_ hst (F.push _) (fun p hp => ⟨Heap.get?_push_of_some _ (N p hp).1, (N p hp).2⟩) hk hp ?_ ?_
    · intro hm
      exact absurd F.ns.lt ((List.mem_singleton.mp hm) ▸ Nat.lt_irrefl _)
    · intro b' hb
      rw [List.mem_singleton.mp hb]
      exact next_is_new F
    · intro p hp hI
      exact absurd (Heap.lt_size (N p hp).1) ((List.mem_singleton.mp hI) ▸ Nat.lt_irrefl _)
    · rintro i v c u h tk own hi ⟨n, t, hn, rfl⟩ hP hw hf hfu hSt F₁ N₁
      have e : n = (cl xt).getD i 0 := by
        show n = xt.cps.toList.getD i 0
        rw [← Array.getElem?_toList] at hn
        rw [List.getD, hn]; rfl
      subst e
      obtain ⟨o', ho'⟩ := hex _ _ hSt
      refine wpAny_mono (turn i t _ o' c u h tk own hi hP (fun p hp => fun q => hw p hp (List.mem_singleton.mpr q)) (fun p hp => List.mem_singleton.mp (hf p hp)) (hfu _ (.head _) (next_is_new F) _ ho') F₁ (news_comm N₁)) (fun f s₂ p => ?_) fun _ _ e => e
      exact FU.to p
    · exact done
  cases ha : xt.cps.all (· < 128)
  · exact wpAny_pyIter_wide ha (key _ _ (Walks.strWide hh _ xt tx) ⟨_, Heap.get?_push_size _ rfl, rfl, rfl⟩ fun i h hs => ⟨_, hs.choose_spec.1⟩)
  · exact wpAny_pyIter_ascii ha (key _ _ (Walks.strAscii hh _ xt tx) ⟨_, Heap.get?_push_size _ rfl, rfl, rfl⟩ fun i h hs => ⟨_, hs.choose_spec.1⟩)
end Mine
end
section
open PySem PySem.W PyProof.Rows
set_option Elab.async false
namespace Mine
/-- the law's own row: told's tail -/
noncomputable def cgo (pc : Nat → Int) : List Nat → List Int → Int → List Int
  | y :: ys, r :: r' :: rs, t => min (min (r + pc y) (r' + 2)) (t + 2) :: cgo pc ys (r' :: rs) (min (min (r + pc y) (r' + 2)) (t + 2))
  | _, _, _ => []
noncomputable def crow (pc : Nat → Int) (ys : List Nat) (row : List Int) : List Int := (row.getD 0 0 + 2) :: cgo pc ys row (row.getD 0 0 + 2)
noncomputable def costR (pc : Nat → Nat → Int) (xs ys : List Nat) : List Int := xs.foldl (fun row s => crow (pc s) ys row) ((List.range (ys.length + 1)).map fun (k : Nat) => 2 * (k : Int))
noncomputable def costL (pc : Nat → Nat → Int) (xs ys : List Nat) : Int := (costR pc xs ys).getD ys.length 0
theorem cgo_len (pc : Nat → Int) : ∀ (ys : List Nat) (row : List Int) (t : Int), row.length = ys.length + 1 → (cgo pc ys row t).length = ys.length
  | [], _, _, _ => by unfold cgo; rfl
  | y :: ys, [], _, h => by simp at h
  | y :: ys, [r], _, h => by simp at h
  | y :: ys, r :: r' :: rs, t, h => by
    unfold cgo
    rw [List.length_cons, cgo_len pc ys (r' :: rs) _ (by simpa using h), List.length_cons]
theorem crow_len (pc : Nat → Int) (ys : List Nat) (row : List Int) (h : row.length = ys.length + 1) : (crow pc ys row).length = ys.length + 1 := by
  unfold crow; rw [List.length_cons, cgo_len pc ys row _ h]
/-- what stands in the inner loop ahead of turn k -/
noncomputable def CokI (pc : Nat → Int) (ys : List Nat) (row told : List Int) (k : Nat) : Prop :=
  told.length = k + 1 ∧ told ++ cgo pc (ys.drop k) (row.drop k) (told.getD k 0) = crow pc ys row
theorem CokI.start (pc : Nat → Int) (ys : List Nat) (row : List Int) : CokI pc ys row [row.getD 0 0 + 2] 0 := ⟨rfl, rfl⟩
theorem CokI.step {pc : Nat → Int} {ys : List Nat} {row told : List Int} {k : Nat} (h : CokI pc ys row told k) (hk : k < ys.length) (hr : row.length = ys.length + 1) :
    CokI pc ys row (told ++ [min (min (row.getD k 0 + pc (ys.getD k 0)) (row.getD (k + 1) 0 + 2)) (told.getD k 0 + 2)]) (k + 1) := by
  obtain ⟨hl, he⟩ := h
  have ey : ys.drop k = ys.getD k 0 :: ys.drop (k + 1) := by
    rw [List.drop_eq_getElem_cons hk]; congr 1; simp [List.getD, hk]
  have h1 : k < row.length := by omega
  have h2 : k + 1 < row.length := by omega
  have e1 : row.drop k = row.getD k 0 :: row.drop (k + 1) := by
    rw [List.drop_eq_getElem_cons h1]; congr 1; simp [List.getD, h1]
  have e2 : row.drop (k + 1) = row.getD (k + 1) 0 :: row.drop (k + 2) := by
    rw [List.drop_eq_getElem_cons h2]; congr 1; simp [List.getD, h2]
  rw [ey, e1, e2] at he
  refine ⟨by simp [hl], ?_⟩
  have eg : (told ++ [min (min (row.getD k 0 + pc (ys.getD k 0)) (row.getD (k + 1) 0 + 2)) (told.getD k 0 + 2)]).getD (k + 1) 0 = min (min (row.getD k 0 + pc (ys.getD k 0)) (row.getD (k + 1) 0 + 2)) (told.getD k 0 + 2) := by
    rw [List.getD, List.getElem?_append_right (by omega)]
    simp [hl]
  rw [eg, e2, List.append_assoc]
  exact he
theorem CokI.fin {pc : Nat → Int} {ys : List Nat} {row told : List Int} {k : Nat} (h : CokI pc ys row told k) (hk : k = ys.length) : told = crow pc ys row := by
  obtain ⟨_, he⟩ := h
  rw [List.drop_of_length_le (by omega)] at he
  have e : cgo pc [] (row.drop k) (told.getD k 0) = [] := by unfold cgo; rfl
  rw [e, List.append_nil] at he
  exact he
end Mine
end
section
open PySem PySem.W PyProof.Rows
set_option Elab.async false
namespace Mine
local macro_rules | `(tactic| walk_at "pyIter str") => `(tactic| refine Blk.mk ?_)
local macro_rules | `(tactic| walk_at "pyIter ref") => `(tactic| refine Blk.mk ?_)
noncomputable def Hd (p : Prop) : Prop := p
theorem min3_N {prog : Program} {w : World} {A : Around} {E : Value → Shared → Prop} {s : Shared} {h₀ : Heap} {L : Addr} {m : Str → Option Value} {news : List (Addr × Obj)} {a b c : Int} {t u x : Tok} {Q : Value → Shared → Prop} (hh : A.handled = none) (F : Fr h₀ L s.heap m) (N : News h₀ L s.heap news)
    (h : ∀ h' tk t', Fr h₀ L h' m → News h₀ L h' news → Q (.int (min (min a b) c) t') { s with heap := h', toks := tk }) :
    wpAny (model prog w) A (call (.builtin "min") [.int a t, .int b u, .int c x]) Q E s := by
  refine min_three_ints hh fun h' tk hk => ?_
  have g := fun t' => h h' tk t' (F.grownK hk) (N.grown hk)
  by_cases h1 : b < a
  · rw [if_pos h1]
    by_cases h2 : c < b
    · rw [if_pos h2]
      have e : min (min a b) c = c := by lia  
      rw [e] at g; exact g _
    · rw [if_neg h2]
      have e : min (min a b) c = b := by lia  
      rw [e] at g; exact g _
  · rw [if_neg h1]
    by_cases h2 : c < a
    · rw [if_pos h2]
      have e : min (min a b) c = c := by lia  
      rw [e] at g; exact g _
    · rw [if_neg h2]
      have e : min (min a b) c = a := by lia  
      rw [e] at g; exact g _
local macro_rules | `(tactic| walk_at "call builtin:min cons nil") => `(tactic| ((with_reducible show wpAny _ _ (call (Value.builtin _) [Value.int _ _, Value.int _ _, Value.int _ _]) _ _ _); (with_unfolding_all refine' min3_N ?kh ?kF ?kN ?_; (case kh => rfl); (case kF => k_asm); (case kN => k_asm)); intro _ _ _ _ _; (try dsimp only)))
local macro_rules | `(tactic| walk_at "call builtin:list.append") => `(tactic| refine Blk.mk ?_)
structure TS where
  us : List Value
  cc : Nat
  row : List Int
theorem news_name {P : Prop} {h₀ h : Heap} {L D : Addr} {o : Obj} {rest : List (Addr × Obj)} (_N : News h₀ L h ((D, o) :: rest)) (k : ∀ D', D' = D → P) : P := k D rfl
structure CS where
  D : Addr
  us : List Value
  cc : Nat
  row : List Int
noncomputable def prc2 (b a : Nat) : Int := prc ⟨#[b]⟩ ⟨#[a]⟩
theorem price_call {w : World} {mean : ExcName → Option Value} {mg mb : Str → Option Value} {dp un : Nat} {gd : Option (List Code)} {cn : Str} {cs : Scope} {a : Addr} {ccd : Value} {cl : List (Str × Addr)} {outer : List Env} {A₀ : Around} {base h₀ : Heap} {L : Addr} {m : Str → Option Value} {news : List (Addr × Obj)} {s : Shared} {Q E : Value → Shared → Prop} {x y : Str} {tx ty : Tok}
    (hB : Below A₀ base outer h₀) (F : Fr h₀ L s.heap m) (X : (hd.heap_39 w.params).In h₀) (N : News h₀ L s.heap news) (T : Top topProg LOO mean mg mb h₀) (hk : cs.kind = .function) (hx : x.length ≤ 64) (hy : y.length ≤ 64) (hd : dp + 10 < recursionLimit) (hu : un + 50 < cLine)
    (hret : ∀ (t : Tok) (h' : Heap) (tk' : Nat), Fr h₀ L h' m → News h₀ L h' news → Q (.int (prc x y) t) { s with heap := h', toks := tk' }) :
      wpAny (model PySem.Challenge.rw_mq0210_01.row.prog w) (ktrTop dp un gd cn cs L a ccd cl outer) (call (.ref 56) [.str x tx, .str y ty]) Q E s :=
  price_claim w mean mg mb x y tx ty dp un gd cn cs a ccd cl outer A₀ base h₀ L m news s Q E hB F X N T hk ⟨hx, hy⟩ hd hu hret
local macro_rules | `(tactic| walk_at "call ref cons nil") => callBy (Lean.mkIdent `Mine.price_call)
set_option maxRecDepth 100000 in
set_option maxHeartbeats 8000000 in
theorem cost_claim (w : World) (mean : ExcName → Option Value) (mg mb : Str → Option Value) (x y : Str) (tx ty : Tok) :
   Clm w mean mg mb 61 20 100 (x.length ≤ 3 ∧ y.length ≤ 3) [.str x tx, .str y ty] (fun t => .int (costL prc2 (cl x) (cl y)) t) := by
   have hx : PySem.Challenge.rw_mq0210_01 = PySem.Challenge.rw_mq0210_01 := rfl
   have hy : hd.heap_39 = hd.heap_39 := rfl
   revert hx hy
   k_fill
   intro hx hy
   clear hx hy
   w_on
   intro dp un gd cn cs a ccd clo outs A₀ base h₀ L mm news s Q E hB F X N T hk hpre hdp hun hret
   obtain ⟨hlx, hly⟩ := hpre
   refine wpAny_call ?_
   k_dflt cell_enter
   rename Fr _ _ _ _ => F0
   have F0' := fr_start F0 (l' := [(Str.ofString "two", .str y ty), (Str.ofString "one", .str x tx)]) rfl
   clear F0
   k_steps
   refine Blk.out ?_
   rename Fr _ _ _ _ => F1
   rename News _ _ _ _ => N1
   rename IntsAre _ _ => hI1
   rename LCg.Off1 _ _ => hO1
   have e0 : (List.map (fun k' => 2 * k') (rangeKs 0 ((y.length : Int) + 1 - 0).toNat)) = (List.range ((cl y).length + 1)).map fun (k : Nat) => 2 * (k : Int) := by
     rw [cl_len]
     have e : ((y.length : Int) + 1 - 0).toNat = y.length + 1 := by lia  
     rw [e]
     unfold rangeKs
     rw [List.map_map]
     apply List.map_congr_left
     intro i _
     simp [Function.comp]
   rw [e0] at hI1
   have N2 : News _ _ _ ((_, W.listOf _ _) :: news) := N1
   clear N1
   refine my_text (σ := CS) (fun c => (c.D, W.listOf c.us.toArray c.cc) :: news) (fun c => [(Str.ofString "row", .ref c.D)]) [Str.ofString "told", Str.ofString "k"] (fun i c => IntsAre c.us c.row ∧ c.row = ((cl x).take i).foldl (fun row s => crow (prc2 s) (cl y) row) ((List.range ((cl y).length + 1)).map fun (k : Nat) => 2 * (k : Int)) ∧ c.row.length = (cl y).length + 1) ⟨_, _, _, _⟩ (by first | rfl | assumption) F1 N2 ?_ ⟨hI1, rfl, by simp⟩ ?turn ?done
   · intro p hp
     rcases List.mem_singleton.mp hp with rfl
     exact rfl
   case turn =>
     intro i t I Io c u h tk own hi hP hIne hown hIin F3 N3
     obtain ⟨hI, hrow, hlen⟩ := hP
     have hcl := hI.length
     clear F1 N2 hI1 hO1 e0
     dsimp only at F3 N3 hI hrow hlen ⊢
     have hlen2 : (cl y).length = y.length := cl_len y
     have hly' : Hd (y.length ≤ 3) := hly
     have hly4 : y.length ≤ 4000 := by lia  
     clear hly
     refine wp_hide fun Q8 hQ8 => ?_
     k_steps
     refine Blk.out ?_
     have hly : y.length ≤ 3 := hly'
     rename Fr _ _ _ _ => F4
     rename News _ _ _ _ => N4
     rename IsRange _ _ _ _ _ _ _ _ => hr
     rename (∀ p ∈ ((c.D, W.listOf c.us.toArray c.cc) :: news ++ own), p.1 < _) => l1
     refine news_name N4 fun D2 hD2 => ?_
     subst hD2
     refine kst_range (σ := TS) (n := y.length) (fun d => (D2, W.listOf d.us.toArray d.cc) :: ((c.D, W.listOf c.us.toArray c.cc) :: news ++ own)) (fun _ => []) (fun d => IntsAre d.us d.row) []
       (fun pre d => CokI (prc2 ((cl x).getD i 0)) (cl y) c.row d.row pre.length) ⟨[.int (c.row.getD 0 0 + 2) _], _, [c.row.getD 0 0 + 2]⟩ ?hh hr ?hsmall ?hn F4 N4 ?hf ?hk2 ?hp2 ?turn2 ?done2
     case hh => rfl
     case hsmall => exact small_one (by lia  ) (by lia  ) (by lia  ) (by lia  )
     case hn => rw [rangeSize_nat]; lia  
     case hf => exact .cons _ _ .nil
     case hk2 => intro p hp; exact absurd hp (by simp)
     case hp2 => exact CokI.start _ _ _
     case turn2 =>
       intro d pre kk tkk u2 h9 tk9 own2 hkk hlt hoff hfa hC F9 N9
       clear F4 N4 hr
       dsimp only at hfa hC F9 N9 ⊢
       obtain rfl : kk = (pre.length : Int) := by lia  
       have hdl := hfa.length
       have hC1 := hC.1
       have hD : ∀ p ∈ ((c.D, W.listOf c.us.toArray c.cc) :: news ++ own) ++ own2, p.1 ≠ D2 := by
         intro p hp
         rcases List.mem_append.mp hp with hp | hp
         · exact Nat.ne_of_lt (l1 p hp)
         · exact hoff p hp D2 (.head _)
       refine wp_hide fun Q9 hQ9 => ?_
       k_steps
       refine Blk.out ?_
       rename Fr _ _ _ _ => F11
       rename News _ _ _ _ => N11
       refine append_K F11 N11 (Upd.head hD) ?_ ?_
       · intro h12 F12 N12
         dsimp only at F12 N12 ⊢
         clear F11 N11
         have ei : prc ⟨#[(cl x).getD i 0]⟩ (Txt.item y (pre.length : Int)) = prc2 ((cl x).getD i 0) ((cl y).getD pre.length 0) := by
           rw [it_pos (by lia  )]; rfl
         have hst := hC.step (by lia  ) (by lia  )
         simp only [ei, Int.toNat_natCast, List.push_toArray] at N12
         k_steps
         rename Fr _ _ _ _ => F13
         rename News _ _ _ _ => N13
         refine hQ9 _ _ ?_
         refine' ⟨_, _, _, _, _ :: (((c.D, W.listOf c.us.toArray c.cc) :: news) ++ own), rfl, F13, N13, fun p hp => List.mem_append_left own2 hp, fun p hp => List.mem_append_right (_ :: (((c.D, W.listOf c.us.toArray c.cc) :: news) ++ own)) hp, rfl, ⟨⟨d.us ++ [_], _, _⟩, rfl, hfa.append (.cons _ _ .nil), ?hk9, ?hr9, ?hst9⟩⟩
         case hst9 => dsimp only; rw [← lenS]; exact hst
         case hk9 => intro p hp; exact absurd hp (by simp)
         case hr9 =>
           intro z hz hz2 hz3
           simp [kstB, hz]
       · show d.us.toArray.size ≤ _
         rw [List.size_toArray, sizeLine_eq]; lia  
     case done2 =>
       intro d u2 h9 tk9 hfa hC F9 N9
       clear F4 N4 hr
       dsimp only at hfa hC F9 N9 ⊢
       rw [rangeKs_length] at hC
       have hfin := hC.fin (by lia  )
       k_steps
       rename Fr _ _ _ _ => F11
       rename News _ _ _ _ => N11
       refine hQ8 _ _ ?_
       refine' ⟨⟨D2, d.us, d.cc, d.row⟩, _, _, _, rfl, ⟨hfa, ?_, ?_⟩, F11, ?_, ?_, ?_, ?_⟩
       · dsimp only
         rw [hfin, hrow]
         have hi' : i < (cl x).length := by rw [cl_len]; exact hi
         rw [List.take_succ_eq_append_getElem hi', List.foldl_append]
         have eg : (cl x).getD i 0 = (cl x)[i] := by rw [List.getD, List.getElem?_eq_getElem hi']; rfl
         rw [eg]
         rfl
       · dsimp only
         rw [hfin]
         exact crow_len _ _ _ hlen
       · intro p hp
         rcases List.mem_singleton.mp hp with rfl
         exact rfl
       · intro z hz hz2 hz3
         have z1 := hz2 _ (.head _)
         simp only [List.contains_cons, List.contains_nil, Bool.or_false, Bool.or_eq_false_iff, beq_eq_false_iff_ne, ne_eq] at hz3 z1
         simp [kstB, hz, z1, hz3]
       · intro p hp
         rcases List.mem_append.mp hp with hp | hp
         · rcases List.mem_cons.mp hp with rfl | hp
           · exact N11 _ (.head _)
           · exact N11 p (.tail _ (List.mem_append_left _ (.tail _ hp)))
         · exact N11 p (.tail _ (List.mem_append_right _ hp))
       · intro p hp
         have hlI := l1 _ (List.mem_append_right _ hIin)
         rcases List.mem_cons.mp hp with rfl | hp
         · exact (Nat.ne_of_lt hlI).symm
         · exact hIne p (.tail _ hp)
   case done =>
     intro c u h tk hP F3 N3
     obtain ⟨hI, hrow, hlen⟩ := hP
     have hcl := hI.length
     clear F1 N2 hI1 hO1 e0
     dsimp only at F3 N3 hI hrow hlen ⊢
     k_steps
     refine cb_retI hret ?_ (by assumption) (cb_drop (by assumption) fun _ h => .tail _ h)
     unfold costL costR
     rw [← cl_len, List.take_length] at hrow
     rw [← hrow]
     congr 1
     lia  
end Mine
end
section
open PySem PySem.W PyProof.Rows
set_option Elab.async false
namespace Mine
theorem strs_of (g : Nat → Str) : ∀ (ys : List Value) (k : Nat), (∀ i y, ys[i]? = some y → ∃ t, y = Value.str (g (k + i)) t) → StrsAre ys ((List.range' k ys.length).map g)
  | [], _, _ => .nil
  | y :: r, k, h => by
    obtain ⟨t, ht⟩ := h 0 y rfl
    have ih := strs_of g r (k + 1) (fun i z hz => by
      obtain ⟨t, ht⟩ := h (i + 1) z (by simpa using hz)
      exact ⟨t, by rw [ht]; congr 2; omega⟩)
    rw [ht]
    exact .cons _ _ ih
theorem strs_of0 {g : Nat → Str} {ys : List Value} {n : Nat} (hl : ys.length = n) (h : ∀ i y, ys[i]? = some y → ∃ t, y = Value.str (g i) t) : StrsAre ys ((List.range n).map g) := by
  subst hl
  rw [List.range_eq_range']
  exact strs_of g ys 0 (fun i y hy => by rw [Nat.zero_add]; exact h i y hy)
theorem ints_of (g : Nat → Int) : ∀ (ys : List Value) (k : Nat), (∀ i y, ys[i]? = some y → ∃ t, y = Value.int (g (k + i)) t) → IntsAre ys ((List.range' k ys.length).map g)
  | [], _, _ => .nil
  | y :: r, k, h => by
    obtain ⟨t, ht⟩ := h 0 y rfl
    have ih := ints_of g r (k + 1) (fun i z hz => by
      obtain ⟨t, ht⟩ := h (i + 1) z (by simpa using hz)
      exact ⟨t, by rw [ht]; congr 2; omega⟩)
    rw [ht]
    exact .cons _ _ ih
theorem ints_of0 {g : Nat → Int} {ys : List Value} {n : Nat} (hl : ys.length = n) (h : ∀ i y, ys[i]? = some y → ∃ t, y = Value.int (g i) t) : IntsAre ys ((List.range n).map g) := by
  subst hl
  rw [List.range_eq_range']
  exact ints_of g ys 0 (fun i y hy => by rw [Nat.zero_add]; exact h i y hy)
section
variable {prog : Program} {w : World} {A : Around} {h₀ : Heap} {L : Addr} {m : Str → Option Value} {env : Env} {elt : Expr} {x : Str} {scope : Scope} {cl : List (Str × Addr)} {s : Shared} {S : List (Addr × Obj) → Prop} {P : Nat → Value → Prop} {Fin : List Value → List (Addr × Obj) → Prop} {news : List (Addr × Obj)}
/-- a comprehension whose ledger may grow: J says what stands after i items -/
theorem rest_led {n : Nat} (J : Nat → List Value → List (Addr × Obj) → Prop) (h0 : J 0 [] news)
    (turn : ∀ i v I oI C oC D m₂ ys nw h tk (E' : Value → Shared → Prop), i < n → P i v → J i ys nw → LCg.NsObj oC m₂ → m₂ x = some v → Fr h₀ L h m → News h₀ L h ((I, oI) :: (C, oC) :: (D, LCg.lst ys) :: nw) → LCg.Off3 I C D nw → ((@Ne Nat I C) ∧ (@Ne Nat I D) ∧ (@Ne Nat C D)) →
      wpAny (model prog w) A (eval elt (compEnvC scope cl C env)) (LCg.CompEnd h₀ L m { s with heap := h, toks := tk } I oI C oC D (LCg.lst ys) S (fun y nw' => J (i + 1) (ys ++ [y]) nw')) E' { s with heap := h, toks := tk })
    (fin : ∀ ys nw, J n ys nw → Fin ys nw) : LCg.CompRest prog w A h₀ L m env elt x scope cl s S P Fin n 0 [] news := by
  have key : ∀ (j i : Nat) (ys : List Value) nw, i + j = n → J i ys nw → LCg.CompRest prog w A h₀ L m env elt x scope cl s S P Fin j i ys nw := by
    intro j
    induction j with
    | zero =>
      intro i ys nw hi hy
      obtain rfl : i = n := by omega
      exact LCg.CompRest.zero (fin ys nw hy)
    | succ j ih =>
      intro i ys nw hi hy
      refine LCg.CompRest.succ ?_
      intro v I oI C oC D m₂ h tk E' hv hC hx F N off ne
      refine wpAny_mono (turn i v I oI C oC D m₂ ys nw h tk E' (by omega) hv hy hC hx F N off ne) (fun y s₂ hq => ?_) fun _ _ e => e
      obtain ⟨h', tk', nw', e, F', N', off', hS, hn⟩ := hq
      exact ⟨h', tk', nw', e, F', N', off', hS, ih (i + 1) _ _ (by omega) hn⟩
  exact key n 0 [] news (by omega) h0
theorem rest_gen {n : Nat} (R : Nat → Value → Prop)
    (turn : ∀ i v I oI C oC D m₂ ys h tk (E' : Value → Shared → Prop), i < n → P i v → LCg.NsObj oC m₂ → m₂ x = some v → Fr h₀ L h m → News h₀ L h ((I, oI) :: (C, oC) :: (D, LCg.lst ys) :: news) → LCg.Off3 I C D news → ((@Ne Nat I C) ∧ (@Ne Nat I D) ∧ (@Ne Nat C D)) →
      wpAny (model prog w) A (eval elt (compEnvC scope cl C env)) (LCg.CompEnd h₀ L m { s with heap := h, toks := tk } I oI C oC D (LCg.lst ys) S (fun y nw' => nw' = news ∧ R i y)) E' { s with heap := h, toks := tk })
    (fin : ∀ ys, ys.length = n → (∀ i y, ys[i]? = some y → R i y) → Fin ys news) : LCg.CompRest prog w A h₀ L m env elt x scope cl s S P Fin n 0 [] news := by
  refine rest_led (fun i ys nw => nw = news ∧ ys.length = i ∧ ∀ i y, ys[i]? = some y → R i y) ⟨rfl, rfl, by simp⟩ ?_ ?_
  · rintro i v I oI C oC D m₂ ys nw h tk E' hi hv ⟨rfl, hl, hr⟩ hC hx F N off ne
    refine wpAny_mono (turn i v I oI C oC D m₂ ys h tk E' hi hv hC hx F N off ne) (fun y s₂ hq => ?_) fun _ _ e => e
    obtain ⟨h', tk', nw', e, F', N', off', hS, hn, hR⟩ := hq
    subst hn
    refine ⟨h', tk', _, e, F', N', off', hS, rfl, by simp [hl], fun j z hj => ?_⟩
    rcases Nat.lt_trichotomy j ys.length with q | q | q
    · exact hr j z (by rwa [List.getElem?_append_left q] at hj)
    · subst q
      simp at hj
      subst hj
      rw [hl]; exact hR
    · rw [List.getElem?_eq_none (by rw [List.length_append, List.length_singleton]; omega)] at hj
      cases hj
  · rintro ys nw ⟨rfl, hl, hr⟩
    exact fin ys hl hr
end
end Mine
end
section
open PySem PySem.W PyProof.Rows
set_option Elab.async false
namespace Mine
local macro_rules | `(tactic| walk_at "eval ListComp") => `(tactic| refine Blk.mk ?_)
local macro_rules | `(tactic| walk_at "CompSrc") => `(tactic| refine Blk.mk ?_)
theorem fr_to {h₀ h : Heap} {L : Addr} {m m' : Str → Option Value} (F : Fr h₀ L h m) (e : m = m') : Fr h₀ L h m' := e ▸ F
noncomputable def sgn (x : Int) (i : Nat) : Str := ⟨#[[97, 65, 98].getD (((x.fdiv 4).fdiv (3 ^ i)).fmod 3).toNat 0]⟩
noncomputable def nameS (x : Int) : Str := ⟨((List.range (x.fmod 4).toNat).map fun i => [97, 65, 98].getD (((x.fdiv 4).fdiv (3 ^ i)).fmod 3).toNat 0).toArray⟩
theorem sgn_at {d : Int} (h0 : 0 ≤ d) (h1 : d < 3) : Txt.item (Str.ofString "aAb") d = ⟨#[[97, 65, 98].getD d.toNat 0]⟩ := by
  have h : d = 0 ∨ d = 1 ∨ d = 2 := by lia  
  rcases h with rfl | rfl | rfl <;> decide +kernel
theorem le_of_ones : ∀ (l : List Str), (∀ y ∈ l, y.length = 1) → (l.map (·.length)).sum = l.length
  | [], _ => rfl
  | y :: r, h => by
    rw [List.map_cons, List.sum_cons, h y (.head _), le_of_ones r fun z hz => h z (.tail _ hz), List.length_cons]; lia  
theorem join_name (x : Int) (h1 : x.fmod 4 < 4) : Txt.join (Str.ofString "") ((List.range (x.fmod 4).toNat).map (sgn x)) = nameS x := by
  have e0 : (Str.ofString "") = ⟨#[]⟩ := by decide +kernel
  have hn : (x.fmod 4).toNat = 0 ∨ (x.fmod 4).toNat = 1 ∨ (x.fmod 4).toNat = 2 ∨ (x.fmod 4).toNat = 3 := by lia  
  rw [e0]
  unfold nameS
  rcases hn with h | h | h | h <;> rw [h] <;> rfl
local macro_rules | `(tactic| walk_at "call builtin:str.join") => `(tactic| refine Blk.mk ?_)
set_option maxRecDepth 100000 in
set_option maxHeartbeats 8000000 in
theorem name_claim (w : World) (mean : ExcName → Option Value) (mg mb : Str → Option Value) (x : Int) (tx : Tok) :
   Clm w mean mg mb 49 10 50 True [.int x tx] (fun t => .str (nameS x) t) := by
   have hx : PySem.Challenge.rw_mq0210_01 = PySem.Challenge.rw_mq0210_01 := rfl
   have hy : hd.heap_39 = hd.heap_39 := rfl
   revert hx hy
   k_fill
   intro hx hy
   clear hx hy
   w_on
   intro dp un gd cn cs a ccd clo outer A₀ base h₀ L mm news s Q E hB F X N T hk hpre hdp hun hret
   refine wpAny_call ?_
   k_dflt (refine' code_defC ?k1 ?k2 ?k3 ?k4 ?k5 ?kA ?kF ?kK ?k6 ?k7 ?k8 ?k9 ?kB ?kD ?_ ?c2 ?c3 ?c4; (case kA => exact rfl); (case kF => exact rfl); (case kK => assumption); (case k1 => k_asm); (case k2 => k_asm); (case k3 => k_asm); (case k4 => k_asm); (case k5 => k_asm); (case k6 => k_is); (case k7 => k_is); (case k8 => ktr_room); (case k9 => exact BindsTo.of_eq rfl); (case kB => exact rfl); (case kD => decide +kernel); (case c2 => exact rfl); (case c3 => exact rfl); (case c4 => exact rfl); k_whole; intro g' L' h' tk' cells' FG' F' N' Y' B' X' T' l1; (try k_lt l1); k_cells Y'; (try simp only [List.cons_append, List.nil_append] at N'); (try dsimp only); (try k_lift B'); (try k_fold))
   rename Fr _ _ _ _ => F0
   have F0' := fr_to F0 (m' := fun _ => none) (by funext z; with_unfolding_all rfl)
   clear F0
   k_steps
   refine Blk.out ?_
   refine LCg.ListComp_U (F₀ := by k_asm) (by with_unfolding_all rfl) (by decide) (by rfl) (by decide) (by rfl) ?_
   k_steps
   refine Blk.out ?_
   rename IsRange _ _ _ _ _ _ _ _ => hr
   rename Fr _ _ _ _ => F1
   rename News _ _ _ _ => N1
   have h0 := fmod_lo x (n := 4) (by decide)
   have h1 := fmod_hi x (n := 4) (by decide)
   refine LCg.CompSrc.range (n := (x.fmod 4).toNat) (by rfl) F1 N1 hr (by exact small_one (by lia  ) (by lia  ) (by lia  ) (by lia  )) ?_ (by rw [sizeLine_eq]; lia  ) ?_
   · rw [show x.fmod 4 = (((x.fmod 4).toNat : Nat) : Int) by lia  , rangeSize_nat]; lia  
   intro g2
   refine rest_gen (fun i y => ∃ t, y = Value.str (sgn x i) t) ?_ ?_
   · rintro i v I oI C oC D m₂ ys h tk E' hi ⟨t, rfl⟩ hC hx F2 N2 off ne
     clear F1 N1 hr
     simp only [LCg.Off3] at off
     have hi3 : i = 0 ∨ i = 1 ∨ i = 2 := by lia  
     rcases hi3 with rfl | rfl | rfl
     all_goals
       dsimp only at F2 N2 ⊢
       k_steps
       exact LCg.CompEnd.intro F2 N2 _ (fun _ h => h) off trivial ⟨rfl, _, congrArg (fun z => Value.str z _) (sgn_at (fmod_lo _ (by decide)) (fmod_hi _ (by decide)))⟩
   · intro ys hl hR D h tk F2 N2 off
     clear F1 N1 hr
     dsimp only at F2 N2 ⊢
     k_steps
     refine Blk.out ?_
     have hs := strs_of0 hl hR
     refine join_listW (ys := (List.range (x.fmod 4).toNat).map (sgn x)) (News.isList N2 (.head _)) (by simpa using hs) (by decide) ?_ ?_
     · have hb := le_of_ones ((List.range (x.fmod 4).toNat).map (sgn x)) (by intro y hy; obtain ⟨i, _, rfl⟩ := List.mem_map.mp hy; rfl)
       rw [List.length_map, List.length_range] at hb
       rw [List.length_map, List.length_range]
       lia  
     · intro t' k
       k_steps
       exact cb_retS hret (join_name x h1) (by assumption) (cb_drop (by assumption) fun _ h => .tail _ (.tail _ h))
end Mine
end
section
open PySem PySem.W PyProof.Rows
set_option Elab.async false
namespace Mine
/-- two addresses are not one; hidden from omega -/
noncomputable def Dif (a b : Nat) : Prop := a ≠ b
theorem Dif.ne {a b : Addr} (h : Dif a b) : a ≠ b := h
theorem Dif.ne' {a b : Addr} (h : Dif b a) : a ≠ b := Ne.symm h
/-- strings from a list's own places -/
theorem strs_map {α : Type} {g : α → Str} {l : List α} {d : α} {ys : List Value} {n : Nat} (hn : n = l.length) (hl : ys.length = n) (h : ∀ i y, ys[i]? = some y → ∃ t, y = Value.str (g (l.getD i d)) t) : StrsAre ys (l.map g) := by
  subst hn
  have e : (List.range l.length).map (fun i => g (l.getD i d)) = l.map g := by
    apply List.ext_getElem
    · simp
    · intro i h1 h2
      simp only [List.length_map] at h2
      simp [List.getD, List.getElem?_eq_getElem h2]
  rw [← e]
  exact strs_of0 hl h
theorem ints_map {α : Type} {g : α → Int} {l : List α} {d : α} {ys : List Value} {n : Nat} (hn : n = l.length) (hl : ys.length = n) (h : ∀ i y, ys[i]? = some y → ∃ t, y = Value.int (g (l.getD i d)) t) : IntsAre ys (l.map g) := by
  subst hn
  have e : (List.range l.length).map (fun i => g (l.getD i d)) = l.map g := by
    apply List.ext_getElem
    · simp
    · intro i h1 h2
      simp only [List.length_map] at h2
      simp [List.getD, List.getElem?_eq_getElem h2]
  rw [← e]
  exact ints_of0 hl h
theorem str_at {vs : List Value} {ss : List Str} (h : StrsAre vs ss) (i : Nat) (v : Value) (e : vs[i]? = some v) : i < ss.length ∧ ∃ t, v = .str (ss.getD i ⟨#[]⟩) t := by
  obtain ⟨y, t, rfl, hy⟩ := h.item i v e
  refine ⟨(List.getElem?_eq_some_iff.mp hy).1, t, ?_⟩
  rw [List.getD, hy]; rfl
noncomputable def namesOf (xs : List Int) : List Str := (List.take 4 xs ++ [87, 18, 26, 9, 75]).map nameS
theorem namesOf_len (xs : List Int) : (namesOf xs).length = min 4 xs.length + 5 := by
  unfold namesOf
  rw [List.length_map, List.length_append, List.length_take]; rfl
theorem nameS_len (x : Int) : (nameS x).length ≤ 3 := by
  show (List.map _ (List.range (x.fmod 4).toNat)).toArray.size ≤ 3
  rw [List.size_toArray, List.length_map, List.length_range]
  have := fmod_hi x (show (0 : Int) < 4 by decide)
  omega
theorem namesOf_le {xs : List Int} {y : Str} (h : y ∈ namesOf xs) : y.length ≤ 3 := by
  obtain ⟨x, _, rfl⟩ := List.mem_map.mp h
  exact nameS_len x
theorem news_sub {h₀ h : Heap} {L : Addr} {news : List (Addr × Obj)} (news' : List (Addr × Obj)) (N : News h₀ L h news) (hs : ∀ p ∈ news', p ∈ news) : News h₀ L h news' := fun p hp => N p (hs p hp)
theorem news_lt {h₀ h : Heap} {L : Addr} {news : List (Addr × Obj)} (N : News h₀ L h news) : ∀ p ∈ news, @LT.lt Nat _ p.1 h.objs.size := fun p hp => Heap.lt_size (N p hp).1
theorem off1_mem {D : Addr} (news : List (Addr × Obj)) : LCg.Off1 D news → ∀ p ∈ news, Dif p.1 D := by
  induction news with
  | nil => intro _ p hp; exact absurd hp List.not_mem_nil
  | cons q r ih =>
    intro h p hp
    have h' : (@Ne Nat q.1 D) ∧ LCg.Off1 D r := h
    rcases List.mem_cons.mp hp with rfl | hp
    · exact h'.1
    · exact ih h'.2 p hp
theorem all_conj {P : Addr × Obj → Prop} {l l' : List (Addr × Obj)} (h : ∀ p ∈ l, P p) (hs : ∀ p ∈ l', p ∈ l) : ∀ p ∈ l', P p := fun p hp => h p (hs p hp)
theorem news_add {h₀ h : Heap} {L a : Addr} {o : Obj} {m : Str → Option Value} {news : List (Addr × Obj)} (F : Fr h₀ L h m) (N : News h₀ L h news) (e : h.get? a = some o) (hl : L < a) : News h₀ L h ((a, o) :: news) := fun p hp => by
  rcases List.mem_cons.mp hp with rfl | hp
  · exact ⟨e, Nat.ne_of_gt hl, Heap.get?_none_of_le (Nat.le_trans F.above (Nat.le_of_lt hl))⟩
  · exact N p hp
end Mine
end
section
open PySem PySem.W PyProof.Rows
set_option Elab.async false
namespace Mine
theorem name_call {w : World} {mean : ExcName → Option Value} {mg mb : Str → Option Value} {dp un : Nat} {gd : Option (List Code)} {cn : Str} {cs : Scope} {a : Addr} {ccd : Value} {cl : List (Str × Addr)} {outer : List Env} {A₀ : Around} {base h₀ : Heap} {L : Addr} {m : Str → Option Value} {news : List (Addr × Obj)} {s : Shared} {Q E : Value → Shared → Prop} {x : Int} {tx : Tok}
    (hB : Below A₀ base outer h₀) (F : Fr h₀ L s.heap m) (X : (hd.heap_39 w.params).In h₀) (N : News h₀ L s.heap news) (T : Top topProg LOO mean mg mb h₀) (hk : cs.kind = .function) (hd : dp + 10 < recursionLimit) (hu : un + 50 < cLine)
    (hret : ∀ (t : Tok) (h' : Heap) (tk' : Nat), Fr h₀ L h' m → News h₀ L h' news → Q (.str (nameS x) t) { s with heap := h', toks := tk' }) :
      wpAny (model PySem.Challenge.rw_mq0210_01.row.prog w) (ktrTop dp un gd cn cs L a ccd cl outer) (call (.ref 49) [.int x tx]) Q E s :=
  name_claim w mean mg mb x tx dp un gd cn cs a ccd cl outer A₀ base h₀ L m news s Q E hB F X N T hk trivial hd hu hret
theorem cost_call {w : World} {mean : ExcName → Option Value} {mg mb : Str → Option Value} {dp un : Nat} {gd : Option (List Code)} {cn : Str} {cs : Scope} {a : Addr} {ccd : Value} {cls : List (Str × Addr)} {outer : List Env} {A₀ : Around} {base h₀ : Heap} {L : Addr} {m : Str → Option Value} {news : List (Addr × Obj)} {s : Shared} {Q E : Value → Shared → Prop} {x y : Str} {tx ty : Tok}
    (hB : Below A₀ base outer h₀) (F : Fr h₀ L s.heap m) (X : (hd.heap_39 w.params).In h₀) (N : News h₀ L s.heap news) (T : Top topProg LOO mean mg mb h₀) (hk : cs.kind = .function) (hx : x.length ≤ 3) (hy : y.length ≤ 3) (hd : dp + 20 < recursionLimit) (hu : un + 100 < cLine)
    (hret : ∀ (t : Tok) (h' : Heap) (tk' : Nat), Fr h₀ L h' m → News h₀ L h' news → Q (.int (costL prc2 (cl x) (cl y)) t) { s with heap := h', toks := tk' }) :
      wpAny (model PySem.Challenge.rw_mq0210_01.row.prog w) (ktrTop dp un gd cn cs L a ccd cls outer) (call (.ref 61) [.str x tx, .str y ty]) Q E s :=
  cost_claim w mean mg mb x y tx ty dp un gd cn cs a ccd cls outer A₀ base h₀ L m news s Q E hB F X N T hk ⟨hx, hy⟩ hd hu hret
theorem lev_call {w : World} {mean : ExcName → Option Value} {mg mb : Str → Option Value} {dp un : Nat} {gd : Option (List Code)} {cn : Str} {cs : Scope} {a : Addr} {ccd : Value} {cls : List (Str × Addr)} {outer : List Env} {A₀ : Around} {base h₀ : Heap} {L : Addr} {m : Str → Option Value} {news : List (Addr × Obj)} {s : Shared} {Q E : Value → Shared → Prop} {x y : Str} {k : Int} {tx ty tk : Tok}
    (hB : Below A₀ base outer h₀) (F : Fr h₀ L s.heap m) (X : (hd.heap_39 w.params).In h₀) (N : News h₀ L s.heap news) (T : Top topProg LOO mean mg mb h₀) (hk : cs.kind = .function) (hx : x.length ≤ 3) (hy : y.length ≤ 3) (hd : dp + 20 < recursionLimit) (hu : un + 100 < cLine)
    (hret : ∀ (t : Tok) (h' : Heap) (tk' : Nat), Fr h₀ L h' m → News h₀ L h' news → Q (.int (levL sub2 (cl x) (cl y) k) t) { s with heap := h', toks := tk' }) :
      wpAny (model PySem.Challenge.rw_mq0210_01.row.prog w) (ktrTop dp un gd cn cs L a ccd cls outer) (call (.ref 28) [.str x tx, .str y ty, .int k tk]) Q E s :=
  lev_claim w mean mg mb x y k tx ty tk dp un gd cn cs a ccd cls outer A₀ base h₀ L m news s Q E hB F X N T hk ⟨hx, hy⟩ hd hu hret
end Mine
end
section
open PySem PySem.W PyProof.Rows
set_option Elab.async false
namespace Mine
/-- a for over a range whatever its target is -/
theorem for_range {prog : Program} {w : World} {A : Around} {E : Value → Shared → Prop} {s : Shared} {h₀ : Heap} {L : Addr} {m : Str → Option Value} {led : List (Addr × Obj)} {target : Expr} {body : List Stmt} {env : Env} {Q : Flow → Shared → Prop}
    {r : Addr} {t u v : Tok} {b : Int} {n : Nat} (J : Nat → (Str → Option Value) → List (Addr × Obj) → Prop)
    (hh : A.handled = none) (hr : IsRange s.heap r 0 b 1 t u v) (hsmall : Builtin.Range.small 0 b 1 = true) (hn : Builtin.Range.rangeSize 0 b 1 = (n : Int)) (F : Fr h₀ L s.heap m) (N : News h₀ L s.heap led) (hJ : J 0 m led)
    (ht : ∀ it v, letOwnedTupleGo target it v = pure ())
    (turn : ∀ (i : Nat) (t : Tok) m led h tk (I : Addr) oI (E' : Value → Shared → Prop), i < n → J i m led → Fr h₀ L h m → News h₀ L h ((I, oI) :: led) → (∀ p ∈ led, Dif p.1 I) →
      wpAny (model prog w) A (assign target env (.int i t)) (fun _ s₂ => wpAny (model prog w) A (execs body env) (fun f s₃ => match f with
          | .next | .cont => ∃ h' tk' m' led', s₃ = { s with heap := h', toks := tk' } ∧ Fr h₀ L h' m' ∧ News h₀ L h' ((I, oI) :: led') ∧ (∀ p ∈ led', Dif p.1 I) ∧ J (i + 1) m' led'
          | .brk => Q .next s₃
          | .ret v => Q (.ret v) s₃) E' s₂) E' { s with heap := h, toks := tk })
    (done : ∀ m led h tk, J n m led → Fr h₀ L h m → News h₀ L h led → Q .next { s with heap := h, toks := tk }) :
    wpAny (model prog w) A (pyIter (.ref r)) (fun it s₂ => codeAny (model prog w) A (.forLoop target it body [] env) (fun r s' => match r with | .ok f => Q f s' | .error e => cameBackBy (model prog w) A env E e s') s₂) E s := by
  refine wpAny_pyIter_range hr hsmall ?_
  have W := (Walks.range (prog := prog) (w := w) hh s.heap.objs.size 0 1 n)
  have hLI : L ≠ s.heap.objs.size := Nat.ne_of_lt F.ns.lt
  have hI0 : h₀.get? s.heap.objs.size = none := next_is_new F
  refine codeAny_forLoop (I := fun k s' => ∃ i h tk m led, k = n - i ∧ i ≤ n ∧ s' = { s with heap := h, toks := tk } ∧ IsRangeIter h s.heap.objs.size (0 + (i : Nat) * 1) ((n : Int) - (i : Nat)) 1 ∧ Fr h₀ L h m ∧ News h₀ L h led ∧ (∀ p ∈ led, Dif p.1 s.heap.objs.size) ∧ J i m led) ?_ n ?_ (ht _)
  · rintro k s' ⟨i, h, tk, m₁, led₁, rfl, hi, rfl, hst, F₁, N₁, off, hJ₁⟩
    by_cases hlt : i < n
    · refine W.item i { s with heap := h, toks := tk } _ _ hlt hst fun v h' tk' hv hst' hk => ?_
      obtain ⟨t, rfl⟩ := hv
      have e1 : (0 : Int) + (i : Int) * 1 = (i : Int) := by omega
      rw [e1]
      have F₂ : Fr h₀ L h' m₁ := LCg.fr_but F₁ hk hLI hI0
      have N₂ : News h₀ L h' led₁ := LCg.news_but N₁ hk off
      obtain ⟨oI, hoI⟩ : ∃ oI, h'.get? s.heap.objs.size = some oI := ⟨_, hst'⟩
      have N₃ : News h₀ L h' ((s.heap.objs.size, oI) :: led₁) := fun p hp => by
        rcases List.mem_cons.mp hp with rfl | hp
        · exact ⟨hoI, Ne.symm hLI, hI0⟩
        · exact N₂ p hp
      refine wpAny_mono (turn i t m₁ led₁ h' tk' s.heap.objs.size oI _ hlt hJ₁ F₂ N₃ off) (fun _ s₂ h₂ => wpAny_mono h₂ (fun f s₃ h₃ => ?_) fun _ _ e => e) fun _ _ e => e
      have key : (∃ h' tk' m' led', s₃ = { s with heap := h', toks := tk' } ∧ Fr h₀ L h' m' ∧ News h₀ L h' ((s.heap.objs.size, oI) :: led') ∧ (∀ p ∈ led', Dif p.1 s.heap.objs.size) ∧ J (i + 1) m' led') →
          ∃ m, m < n - i ∧ ∃ i h tk m₂ led, m = n - i ∧ i ≤ n ∧ s₃ = { s with heap := h, toks := tk } ∧ IsRangeIter h s.heap.objs.size (0 + (i : Nat) * 1) ((n : Int) - (i : Nat)) 1 ∧ Fr h₀ L h m₂ ∧ News h₀ L h led ∧ (∀ p ∈ led, Dif p.1 s.heap.objs.size) ∧ J i m₂ led := by
        rintro ⟨h4, tk4, m4, led4, rfl, F4, N4, off4, hJ4⟩
        refine ⟨n - (i + 1), by omega, i + 1, h4, tk4, m4, led4, rfl, hlt, rfl, ?_, F4, fun p hp => N4 p (.tail _ hp), off4, hJ4⟩
        have q := (N4 _ (.head _)).1
        have hst2 : h'.get? s.heap.objs.size = some _ := hst'
        show h4.get? s.heap.objs.size = some _
        rw [q, ← hoI]; exact hst2
      cases f with
      | next => exact key h₃
      | cont => exact key h₃
      | brk => exact h₃
      | ret v => exact h₃
    · obtain rfl : i = n := by omega
      refine W.done { s with heap := h, toks := tk } _ _ hst fun h' tk' hk => ?_
      exact wpAny_execs_nil (done m₁ led₁ h' tk' hJ₁ (LCg.fr_but F₁ hk hLI hI0) (LCg.news_but N₁ hk off))
  · refine ⟨0, _, _, m, led, rfl, Nat.zero_le _, rfl, ?_, F.push _, fun p hp => ⟨Heap.get?_push_of_some _ (N p hp).1, (N p hp).2⟩, fun p hp => Nat.ne_of_lt (Heap.lt_size (N p hp).1), hJ⟩
    show IsRangeIter _ _ _ _ _
    rw [hn]; simpa using Heap.get?_push_size _ rfl
end Mine
end
section
open PySem PySem.W PyProof.Rows
set_option Elab.async false
namespace Mine
section
variable {prog : Program} {w : World} {A : Around} {h₀ : Heap} {L : Addr} {m : Str → Option Value} {env : Env} {ct elt : Expr} {x : Str} {scope : Scope} {cl : List (Str × Addr)} {s : Shared} {S : List (Addr × Obj) → Prop} {P : Nat → Value → Prop} {Fin : List Value → List (Addr × Obj) → Prop} {news : List (Addr × Obj)}
theorem filt_succ (T : Nat → Bool) (i : Nat) : ((List.range (i + 1)).filter T).length = ((List.range i).filter T).length + (if T i = true then 1 else 0) := by
  rw [List.range_succ, List.filter_append, List.length_append]
  congr 1
  by_cases h : T i = true <;> simp [h]
/-- a comprehension with a test: how many it keeps -/
theorem rest_filt {n : Nat} (T : Nat → Bool)
    (turn : ∀ i v I oI C oC D m₂ ys h tk (E' : Value → Shared → Prop), i < n → P i v → LCg.NsObj oC m₂ → m₂ x = some v → Fr h₀ L h m → News h₀ L h ((I, oI) :: (C, oC) :: (D, LCg.lst ys) :: news) → LCg.Off3 I C D news → ((@Ne Nat I C) ∧ (@Ne Nat I D) ∧ (@Ne Nat C D)) →
      wpAny (model prog w) A (isTrue ct (compEnvC scope cl C env) (eval ct (compEnvC scope cl C env))) (fun ok s' => ok = T i ∧ if ok = true then
        wpAny (model prog w) A (eval elt (compEnvC scope cl C env)) (LCg.CompEnd h₀ L m { s with heap := h, toks := tk } I oI C oC D (LCg.lst ys) S (fun _ nw' => nw' = news)) E' s'
        else LCg.CompEnd h₀ L m { s with heap := h, toks := tk } I oI C oC D (LCg.lst ys) S (fun _ nw' => nw' = news) Value.none s') E' { s with heap := h, toks := tk })
    (fin : ∀ ys, ys.length = ((List.range n).filter T).length → Fin ys news) : LCt.CompRestT prog w A h₀ L m env ct elt x scope cl s S P Fin n 0 [] news := by
  have key : ∀ (j i : Nat) (ys : List Value), i + j = n → ys.length = ((List.range i).filter T).length → LCt.CompRestT prog w A h₀ L m env ct elt x scope cl s S P Fin j i ys news := by
    intro j
    induction j with
    | zero =>
      intro i ys hi hy
      obtain rfl : i = n := by omega
      exact LCt.CompRestT.zero (fin ys hy)
    | succ j ih =>
      intro i ys hi hy
      refine LCt.CompRestT.succ ?_
      intro v I oI C oC D m₂ h tk E' hv hC hx F N off ne
      refine wpAny_mono (turn i v I oI C oC D m₂ ys h tk E' (by omega) hv hC hx F N off ne) (fun ok s₂ hq => ?_) fun _ _ e => e
      obtain ⟨hok, hq⟩ := hq
      have hs := filt_succ T i
      by_cases hb : ok = true
      · rw [if_pos hb] at hq ⊢
        refine wpAny_mono hq (fun y s₃ h₃ => ?_) fun _ _ e => e
        obtain ⟨h', tk', nw', e, F', N', off', hS, hn⟩ := h₃
        subst hn
        refine ⟨h', tk', _, e, F', N', off', hS, ih (i + 1) _ (by omega) ?_⟩
        rw [hs, if_pos (hok ▸ hb), List.length_append, hy, List.length_singleton]
      · rw [if_neg hb] at hq ⊢
        obtain ⟨h', tk', nw', e, F', N', off', hS, hn⟩ := hq
        subst hn
        refine ⟨h', tk', _, e, F', N', off', hS, ih (i + 1) _ (by omega) ?_⟩
        rw [hs, if_neg (fun q => hb (hok.trans q)), hy, Nat.add_zero]
  exact key n 0 [] (by omega) rfl
end
/-- the law's own order: each number ahead of the first that costs more -/
noncomputable def dueN (c : Nat → Int) : Nat → List Nat
  | 0 => []
  | k + 1 => (dueN c k).take ((dueN c k).filter fun j => decide (c j ≤ c k)).length ++ k :: (dueN c k).drop ((dueN c k).filter fun j => decide (c j ≤ c k)).length
theorem dueN_len (c : Nat → Int) : ∀ k, (dueN c k).length = k
  | 0 => rfl
  | k + 1 => by
    unfold dueN
    have h := dueN_len c k
    have hf := List.length_filter_le (fun j => decide (c j ≤ c k)) (dueN c k)
    rw [List.length_append, List.length_take, List.length_cons, List.length_drop]
    omega
theorem dueN_lt (c : Nat → Int) : ∀ k, ∀ j ∈ dueN c k, j < k
  | 0, j, h => by simp [dueN] at h
  | k + 1, j, h => by
    unfold dueN at h
    have ih := dueN_lt c k
    rcases List.mem_append.mp h with h | h
    · exact Nat.lt_succ_of_lt (ih j (List.mem_of_mem_take h))
    · rcases List.mem_cons.mp h with rfl | h
      · exact Nat.lt_succ_self _
      · exact Nat.lt_succ_of_lt (ih j (List.mem_of_mem_drop h))
/-- the count over places is the count over the list -/
theorem filt_places (p : Nat → Bool) (l : List Nat) : ((List.range l.length).filter fun i => p (l.getD i 0)).length = (l.filter p).length := by
  have e : (List.range l.length).map (fun i => l.getD i 0) = l := by
    apply List.ext_getElem
    · simp
    · intro i h1 h2
      simp [List.getD, List.getElem?_eq_getElem h2]
  conv => rhs; rw [← e]
  rw [List.filter_map, List.length_map]
  rfl
theorem getD_cast (l : List Nat) {a : Nat} (h : a < l.length) : (l.map fun (j : Nat) => (j : Int)).getD a 0 = ((l.getD a 0 : Nat) : Int) := by
  simp [List.getD, List.getElem?_map, List.getElem?_eq_getElem h]
theorem due_ins {c : Nat → Int} {i p : Nat} {dv : List Value} {t : Tok} (h : IntsAre dv ((dueN c i).map fun (j : Nat) => (j : Int))) (hp : p = ((dueN c i).filter fun j => decide (c j ≤ c i)).length) :
    IntsAre (PySem.W.kl_ins dv (p : Int) (.int (i : Int) t)) ((dueN c (i + 1)).map fun (j : Nat) => (j : Int)) := by
  have hl := h.length
  rw [List.length_map] at hl
  have hpl : p ≤ dv.length := by
    have := List.length_filter_le (fun j => decide (c j ≤ c i)) (dueN c i)
    omega
  unfold PySem.W.kl_ins dueN
  have e : (if ((p : Nat) : Int) < 0 then (((p : Nat) : Int) + (dv.length : Int)).toNat else min ((p : Nat) : Int).toNat dv.length) = p := by
    rw [if_neg (by omega)]; omega
  rw [e, ← hp, List.map_append, List.map_cons, List.map_take, List.map_drop]
  exact (h.take p).append (.cons _ _ (h.drop p))
end Mine
end
section
open PySem PySem.W PyProof.Rows
set_option Elab.async false
namespace Mine
noncomputable def L3 : List Nat := [97, 65, 98]
noncomputable def t3 (b a : Nat) : Int := if a = b then 0 else if a = 98 ∨ b = 98 then 2 else 1
noncomputable def sub3 (b a : Nat) : Int := if L3.contains b && L3.contains a then t3 b a else sub2 b a
noncomputable def prc3 (b a : Nat) : Int := if L3.contains b && L3.contains a then t3 b a else prc2 b a
theorem sub3_eq : sub2 = sub3 := by
  funext b a
  unfold sub3
  split
  · rename_i h
    rw [Bool.and_eq_true] at h
    have hb : b = 97 ∨ b = 65 ∨ b = 98 := by simpa [L3] using h.1
    have ha : a = 97 ∨ a = 65 ∨ a = 98 := by simpa [L3] using h.2
    rcases hb with rfl | rfl | rfl <;> rcases ha with rfl | rfl | rfl <;> decide +kernel
  · rfl
theorem prc3_eq : prc2 = prc3 := by
  funext b a
  unfold prc3
  split
  · rename_i h
    rw [Bool.and_eq_true] at h
    have hb : b = 97 ∨ b = 65 ∨ b = 98 := by simpa [L3] using h.1
    have ha : a = 97 ∨ a = 65 ∨ a = 98 := by simpa [L3] using h.2
    rcases hb with rfl | rfl | rfl <;> rcases ha with rfl | rfl | rfl <;> decide +kernel
  · rfl
noncomputable def okPair (a b : List Nat) : Bool :=
  let c := costL prc3 a b
  levL sub3 a b 99 == c && levL sub3 b a 99 == c && decide (0 ≤ c) && decide (c ≤ 6) && ([-1, 0, 1, 2, 3, 4, 5, 98] : List Int).all fun m =>
    (decide (levL sub3 a b m < m + 1) == decide (c < m + 1)) && (!decide (c < m + 1) || levL sub3 a b m == c)
noncomputable def N40 : List (List Nat) := [[]] ++ L3.map (fun a => [a]) ++ L3.flatMap (fun a => L3.map fun b => [a, b]) ++ L3.flatMap (fun a => L3.flatMap fun b => L3.map fun c => [a, b, c])
noncomputable def chunk (i : Nat) : List (List Nat) := (N40.drop (4 * i)).take 4
theorem okc0 : (chunk 0).all (fun a => N40.all fun b => okPair a b) = true := by decide +kernel
theorem okc1 : (chunk 1).all (fun a => N40.all fun b => okPair a b) = true := by decide +kernel
theorem okc2 : (chunk 2).all (fun a => N40.all fun b => okPair a b) = true := by decide +kernel
theorem okc3 : (chunk 3).all (fun a => N40.all fun b => okPair a b) = true := by decide +kernel
theorem okc4 : (chunk 4).all (fun a => N40.all fun b => okPair a b) = true := by decide +kernel
theorem okc5 : (chunk 5).all (fun a => N40.all fun b => okPair a b) = true := by decide +kernel
theorem okc6 : (chunk 6).all (fun a => N40.all fun b => okPair a b) = true := by decide +kernel
theorem okc7 : (chunk 7).all (fun a => N40.all fun b => okPair a b) = true := by decide +kernel
theorem okc8 : (chunk 8).all (fun a => N40.all fun b => okPair a b) = true := by decide +kernel
theorem okc9 : (chunk 9).all (fun a => N40.all fun b => okPair a b) = true := by decide +kernel
theorem chunks : N40 = chunk 0 ++ chunk 1 ++ chunk 2 ++ chunk 3 ++ chunk 4 ++ chunk 5 ++ chunk 6 ++ chunk 7 ++ chunk 8 ++ chunk 9 := by decide +kernel
theorem all_ok : ∀ a ∈ N40, ∀ b ∈ N40, okPair a b = true := by
  have h : (N40.all fun a => N40.all fun b => okPair a b) = true := by
    have e : (N40.all fun a => N40.all fun b => okPair a b) = ((chunk 0 ++ chunk 1 ++ chunk 2 ++ chunk 3 ++ chunk 4 ++ chunk 5 ++ chunk 6 ++ chunk 7 ++ chunk 8 ++ chunk 9).all fun a => N40.all fun b => okPair a b) := congrArg (fun l : List (List Nat) => l.all fun a => N40.all fun b => okPair a b) chunks
    rw [e]
    simp only [List.all_append, okc0, okc1, okc2, okc3, okc4, okc5, okc6, okc7, okc8, okc9, Bool.and_self]
  intro a ha b hb
  exact List.all_eq_true.mp (List.all_eq_true.mp h a ha) b hb
theorem in40 {l : List Nat} (h3 : l.length ≤ 3) (hl : ∀ a ∈ l, a = 97 ∨ a = 65 ∨ a = 98) : l ∈ N40 := by
  rcases l with _ | ⟨a, _ | ⟨b, _ | ⟨c, _ | ⟨d, r⟩⟩⟩⟩
  · decide +kernel
  · rcases hl a (by simp) with rfl | rfl | rfl <;> decide +kernel
  · rcases hl a (by simp) with rfl | rfl | rfl <;> rcases hl b (by simp) with rfl | rfl | rfl <;> decide +kernel
  · rcases hl a (by simp) with rfl | rfl | rfl <;> rcases hl b (by simp) with rfl | rfl | rfl <;> rcases hl c (by simp) with rfl | rfl | rfl <;> decide +kernel
  · simp at h3
theorem name_in (x : Int) : cl (nameS x) ∈ N40 := by
  refine in40 (by rw [cl_len]; exact nameS_len x) fun a ha => ?_
  have ha' : a ∈ (List.range (x.fmod 4).toNat).map (fun i => [97, 65, 98].getD (((x.fdiv 4).fdiv (3 ^ i)).fmod 3).toNat 0) := by
    simpa [cl, nameS] using ha
  obtain ⟨i, _, rfl⟩ := List.mem_map.mp ha'
  have h0 := fmod_lo ((x.fdiv 4).fdiv (3 ^ i)) (show (0 : Int) < 3 by decide)
  have h1 := fmod_hi ((x.fdiv 4).fdiv (3 ^ i)) (show (0 : Int) < 3 by decide)
  generalize ((x.fdiv 4).fdiv (3 ^ i)).fmod 3 = d at h0 h1
  have hd : d = 0 ∨ d = 1 ∨ d = 2 := by omega
  rcases hd with rfl | rfl | rfl <;> simp
theorem names_in {xs : List Int} {y : Str} (h : y ∈ namesOf xs) : cl y ∈ N40 := by
  obtain ⟨x, _, rfl⟩ := List.mem_map.mp h
  exact name_in x
/-- the costs of two names -/
noncomputable def cst (x y : Str) : Int := costL prc2 (cl x) (cl y)
theorem pair_ok {x y : Str} (hx : cl x ∈ N40) (hy : cl y ∈ N40) :
    levL sub2 (cl x) (cl y) 99 = cst x y ∧ levL sub2 (cl y) (cl x) 99 = cst x y ∧ 0 ≤ cst x y ∧ cst x y ≤ 6 ∧
      ∀ m : Int, m ∈ ([-1, 0, 1, 2, 3, 4, 5, 98] : List Int) → (levL sub2 (cl x) (cl y) m < m + 1 ↔ cst x y < m + 1) ∧ (cst x y < m + 1 → levL sub2 (cl x) (cl y) m = cst x y) := by
  have h := all_ok _ hx _ hy
  unfold okPair at h
  unfold cst
  rw [sub3_eq, prc3_eq]
  simp only [Bool.and_eq_true, beq_iff_eq, decide_eq_true_eq, List.all_eq_true, Bool.or_eq_true, Bool.not_eq_true', decide_eq_false_iff_not, decide_eq_decide] at h
  obtain ⟨⟨⟨⟨h1, h2⟩, h3⟩, h4⟩, h5⟩ := h
  refine ⟨h1, h2, h3, h4, fun m hm => ⟨(h5 m hm).1, fun hlt => ?_⟩⟩
  rcases (h5 m hm).2 with q | q
  · exact absurd hlt q
  · exact q
end Mine
end
section
open PySem PySem.W PyProof.Rows PySem.W.X PySem.Calls Builtin
set_option Elab.async false
namespace Mine
set_option maxRecDepth 100000
theorem boot_bc : bootBuiltins "__build_class__" = some (.builtin "__build_class__") := by kernel_rfl
noncomputable def isStrV (x : Option (Option Value)) (s : Str) : Bool := match x with
  | some (some (.str y _)) => decide (y = s)
  | _ => false
theorem isStrV_get {x : Option (Option Value)} {s : Str} (h : isStrV x s = true) : ∃ t, x = some (some (.str s t)) := by
  unfold isStrV at h
  split at h
  · rename_i y t; rw [of_decide_eq_true h]; exact ⟨t, rfl⟩
  · cases h
theorem glob_name (w : World) : ∃ t, nsIn (hd.heap_39 w.params) mainGlobals "__name__" = some (some (.str (Str.ofString "law_mq0210_01") t)) := isStrV_get (by kernel_rfl)
end Mine
end
section
open PySem PySem.W PyProof.Rows PySem.W.X PySem.Calls Builtin
set_option Elab.async false
namespace Mine
noncomputable def ent (h : Int) (k : String) (t : Tok) (v : Value) : DictEntry := ⟨h, .str (Str.ofString k) t, v⟩
section
variable {M : Model} {A : Around} {E : Value → Shared → Prop} {s : Shared}
theorem wp_sub {T : String} {b : Value} {r : Bool} {Q : Bool → Shared → Prop} (h : Q r s) (e : (fastBuiltinMro T).map (·.contains b) = some r := by with_unfolding_all kernel_rfl) : wpAny M A (isSubtype (.type T) b) Q E s := by
  refine wpAny_of_eq ?_ h
  rw [isSubtype_type]
  cases hm : fastBuiltinMro T with
  | none => rw [hm] at e; cases e
  | some l => rw [hm] at e; cases e; rfl
theorem stop_collect {v : Value} {Q : List Value → Shared → Prop} (h : Blk (wpAny M A (collect v) Q E s)) : wpAny M A (collect v) Q E s := h
theorem stop_read {nm : Str} {b : List Value} {es : Array DictEntry} {Q : Slots.Plan → Shared → Prop} (h : Blk (wpAny M A (Slots.read nm b es) Q E s)) : wpAny M A (Slots.read nm b es) Q E s := h
theorem wp_nota {l : List Value} {Q : Unit → Shared → Prop} (h : Q () s) (hl : l = [.type "object"] := by with_unfolding_all rfl) : wpAny M A (notOverATurnedClass l) Q E s := by
  subst hl; exact wpAny_of_eq (by kernel_rfl) h
theorem wp_ext {l : List Value} {Q : Value → Shared → Prop} (h : Q (.type "object") s) (hl : l = [.type "object"] := by with_unfolding_all rfl) : wpAny M A (extendedBase l) Q E s := by
  subst hl; exact wpAny_of_eq (by kernel_rfl) h
end
end Mine
end
section
open PySem PySem.W PyProof.Rows PySem.W.X PySem.Calls Builtin
set_option Elab.async false
namespace Mine

set_option maxRecDepth 100000 in
set_option maxHeartbeats 8000000 in
theorem slots_read {prog : Program} {w : World} {A : Around} {Q : Slots.Plan → Shared → Prop} {E : Value → Shared → Prop} {h : Heap} {g : Array GenState} {d : Drawn} {t : Nat} {os : OsState} {sl : Addr} {es : Array DictEntry} {hh : Int} {tt ts : Tok}
   (hf : es.find? (·.key.isStr "__slots__") = some ⟨hh, .str "__slots__" tt, .ref sl⟩) (hl : h.IsList sl #[.str "obj" ts]) (ho : h.get? sl = some { cls := .type "list", data := .seq #[.str "obj" ts] 0 }) (hno : es.any (·.key.isStr "obj") = false)
   (hQ : ∀ h', (∀ b o, h.get? b = some o → h'.get? b = some o) → Q { names := ["obj"], dict := false, weak := false } ⟨h', g, d, t, os⟩) :
   wpAny (model prog w) A (Slots.read (Str.ofString "K") [.type "object"] es) Q E ⟨h, g, d, t, os⟩ := by
  have e1 : Slots.bestBase [.type "object"] = pure (.type "object") := by kernel_rfl
  have e2 : Slots.slotNamesOf (.type "object") = pure [] := by kernel_rfl
  have e3 : Slots.givesDict (.type "object") = pure false := by kernel_rfl
  have e4 : Slots.givesWeak (.type "object") = pure false := by kernel_rfl
  have e5 : Slots.varSize (.type "object") = pure false := by kernel_rfl
  have e6 : asStr? (.ref sl) = asStr? (.ref sl) := rfl
  unfold Slots.read
  rw [hf]
  wp_walk using stop_collect
  refine Blk.out ?_
  refine collect_list hl ?_ (by rw [sizeLine_eq]; exact Nat.le_of_ble_eq_true rfl)
  have hk : ∀ b o, h.get? b = some o → ((h.push (seqObj "list" #[] 0)).update h.objs.size (Obj.mapSeq (· ++ [Value.str "obj" ts].toArray))).get? b = some o := fun b o e => by
    rw [Heap.get?_update_ne _ _ _ _ (Nat.ne_of_lt (Heap.lt_size e))]
    exact Heap.get?_push_of_some _ e
  have hq := hQ _ hk
  clear hQ
  dsimp only at hq ⊢
  generalize (h.push (seqObj "list" #[] 0)).update h.objs.size (Obj.mapSeq (· ++ [Value.str "obj" ts].toArray)) = H at *
  wp_walk
  have d1 : Slots.isIdentifier (Str.ofString "obj") = some true := by kernel_rfl
  have d2 : (Str.ofString "obj" == Str.ofString "__dict__") = false := by decide +kernel
  have d3 : (Str.ofString "obj" == Str.ofString "__weakref__") = false := by decide +kernel
  rw [d1]
  wp_walk
  have dm : ∀ i (hi : i < (#[].push (Str.ofString "obj")).size), Slots.mangle (Str.ofString "K") ((#[].push (Str.ofString "obj"))[i]) = Str.ofString "obj" := fun i hi => by
    have h0 : i = 0 := by simpa using hi
    subst h0
    kernel_rfl
  simp only [dm]
  have d4 : (Str.ofString "obj" == Str.ofString "__del__") = false := by decide +kernel
  wp_walk
  exact hq
end Mine
end
section
open PySem PySem.W PyProof.Rows PySem.W.X PySem.Calls Builtin
set_option Elab.async false
namespace Mine
section
variable {M : Model} {A : Around} {E : Value → Shared → Prop} {h0 h : Heap} {g : Array GenState} {d : Drawn} {t : Nat} {os : OsState} {chg news : List (Addr × Obj)}
theorem mm_alloc {o : Obj} {Q : Addr → Shared → Prop} (D : Mem h0 h chg news) (hf : o.isFreed = false) (hq : ∀ a h', Mem h0 h' chg ((a, o) :: news) → Q a ⟨h', g, d, t, os⟩) : wpAny M A (alloc o) Q E ⟨h, g, d, t, os⟩ := wpAny_alloc (hq _ _ (D.alloc hf))
theorem mm_update {a : Addr} {f : Obj → Obj} {o : Obj} {i : Nat} {Q : Unit → Shared → Prop} (D : Mem h0 h chg news) (hi : news[i]? = some (a, o)) (hf : (f o).isFreed = false) (hq : ∀ h', Mem h0 h' chg (news.set i (a, f o)) → Q () ⟨h', g, d, t, os⟩) : wpAny M A (update a f) Q E ⟨h, g, d, t, os⟩ := wpAny_update (D.at i a o hi) (hq _ (D.update hi hf))
theorem mm_updatePart {a : Addr} {p : Option Value} {f : Obj → Obj} {o : Obj} {i : Nat} {Q : Unit → Shared → Prop} (D : Mem h0 h chg news) (hi : news[i]? = some (a, o)) (hf : (f o).isFreed = false) (hq : ∀ h', Mem h0 h' chg (news.set i (a, f o)) → Q () ⟨h', g, d, t, os⟩) : wpAny M A (updatePart a p f) Q E ⟨h, g, d, t, os⟩ := wpAny_updatePart (D.at i a o hi) (hq _ (D.update hi hf))
theorem mm_newObj {T : String} {data : Data} {dict : Option Addr} {Q : Value → Shared → Prop} (D : Mem h0 h chg news) (hf : ({ cls := .type T, dict, data } : Obj).isFreed = false) (hq : ∀ a h', Mem h0 h' chg ((a, { cls := .type T, dict, data }) :: news) → Q (.ref a) ⟨h', g, d, t, os⟩) (hd : sizeOk data) : wpAny M A (newObj (.type T) data dict) Q E ⟨h, g, d, t, os⟩ :=
  wpAny_newObj_type (hq _ _ (D.alloc hf)) hd
theorem mm_nsGet {a : Addr} {nm : Str} {o : Obj} {r : Option Value} {Q : Option Value → Shared → Prop} (ho : h.get? a = some o) (hl : nsLook nm o = pure r) (hq : Q r ⟨h, g, d, t, os⟩) : wpAny M A (nsGet a nm) Q E ⟨h, g, d, t, os⟩ :=
  wpAny_bind (wpAny_loadPart ho (wpAny_of_eq hl hq))
theorem mm_ite_t {α : Type} {c : Prop} {dc : Decidable c} {a b : Sem α} {s : Shared} {Q : α → Shared → Prop} (hc : @decide c dc = true) (h : wpAny M A a Q E s) : wpAny M A (@ite _ c dc a b) Q E s := PySem.wpAny_ite_true hc h
theorem mm_ite_f {α : Type} {c : Prop} {dc : Decidable c} {a b : Sem α} {s : Shared} {Q : α → Shared → Prop} (hc : @decide c dc = false) (h : wpAny M A b Q E s) : wpAny M A (@ite _ c dc a b) Q E s := PySem.wpAny_ite_false hc h
theorem mm_nsHas {nm : Str} {o : Obj} {r : Bool} {s : Shared} {Q : Bool → Shared → Prop} (hl : nsHas nm o = pure r) (hq : Q r s) : wpAny M A (nsHas nm o) Q E s := wpAny_of_eq hl hq
end
end Mine
end
section
open PySem PySem.W PyProof.Rows PySem.W.X PySem.Calls Builtin
set_option Elab.async false
namespace Mine
theorem tf_mroType : mroHook? (.type "type") = pure none := by
  unfold mroHook?; rw [typeLookup_type, builtinLookup_eq_fast]; kernel_rfl
theorem tf_lin : linearize [.type "object"] mroOf = pure [.type "object"] := by kernel_rfl
theorem tf_weak : Slots.givesWeak (.type "object") = pure false := by
  unfold Slots.givesWeak; rw [typeLookup_type, builtinLookup_eq_fast]; kernel_rfl
theorem tf_dict : Slots.givesDict (.type "object") = pure false := by kernel_rfl
theorem tf_del : ((Manifest.find? "object").elim false fun ty => ty.attrs.any (·.1 == "__del__")) = false := by decide +kernel
theorem tf_filter (a : Addr) : List.filter (fun x => x != Value.ref a) (Value.ref a :: [Value.type "object"]) = [Value.type "object"] := by simp
theorem tf_new : typeLookup (.type "object") "__new__" = pure (some (.builtin "object.__new__")) := by
  rw [typeLookup_type, builtinLookup_eq_fast]; kernel_rfl
theorem tf_ends : ("object.__new__".endsWith ".__new__") = true := by decide +kernel
theorem tf_mroObj : mroOf (.type "object") = pure [.type "object"] := by kernel_rfl
theorem tf_maker : Bind.madeBy (.type "object") = pure (some "object.__new__") := madeBy_type tf_mroObj tf_new (by decide +kernel)
section
variable {M : Model} {A : Around} {E : Value → Shared → Prop} {h0 h : Heap} {g : Array GenState} {d : Drawn} {t : Nat} {os : OsState} {chg news : List (Addr × Obj)}
theorem mm_anyM {p : Value → Sem Bool} {l : List Value} {v : Value} {s : Shared} {Q : Bool → Shared → Prop} (hl : l = [v]) (hp : p v = pure false) (hq : Q false s) : wpAny M A (List.anyM p l) Q E s := by
  subst hl
  show wpAny M A (p v >>= _) Q E s
  rw [hp]
  exact wpAny_pure hq
theorem mm_updateCls {a : Addr} {f : ClassData → ClassData} {c : Value} {cd : ClassData} {dt : Option Addr} {sl : Array (Option Value)} {i : Nat} {Q : Unit → Shared → Prop} (D : Mem h0 h chg news)
   (hi : news[i]? = some (a, ⟨c, dt, .cls cd, sl⟩)) (hp : (Data.cls (f cd)).pastItsLine = none) (hq : ∀ h', Mem h0 h' chg (news.set i (a, ⟨c, dt, .cls (f cd), sl⟩)) → Q () ⟨h', g, d, t, os⟩) : wpAny M A (updateCls a f) Q E ⟨h, g, d, t, os⟩ := by
  unfold updateCls
  refine wpAny_bind (wpAny_load (D.at i a _ hi) ?_)
  dsimp only
  refine wpAny_bind (mm_update D hi rfl fun h' D' => ?_)
  have hl : i < news.length := (List.getElem?_eq_some_iff.mp hi).1
  exact wpAny_lookBehind (D'.at i a ⟨c, dt, .cls (f cd), sl⟩ (by rw [List.getElem?_set_self hl]; rfl)) hp (hq h' D')
end
end Mine
end
section
open PySem PySem.W PyProof.Rows PySem.W.X PySem.Calls Builtin
set_option Elab.async false
namespace Mine
section
variable {M : Model} {A : Around} {E : Value → Shared → Prop} {h0 h : Heap} {g : Array GenState} {d : Drawn} {t : Nat} {os : OsState} {chg news : List (Addr × Obj)}
theorem mm_mro {a : Addr} {o : Obj} {cd : ClassData} {Q : List Value → Shared → Prop} (ho : h.get? a = some o) (hd : o.data = .cls cd) (hq : Q cd.mro ⟨h, g, d, t, os⟩) : wpAny M A (mroOf (.ref a)) Q E ⟨h, g, d, t, os⟩ := by
  unfold mroOf
  refine wpAny_bind ?_
  unfold classData
  refine wpAny_bind (wpAny_load ho ?_)
  rw [hd]
  exact wpAny_pure (wpAny_pure hq)
theorem mm_look {a : Addr} {o oN : Obj} {cd : ClassData} {nm : Str} {r : Option Value} {Q : Option Value → Shared → Prop} (ho : h.get? a = some o) (hd : o.data = .cls cd) (hm : cd.mro = [.ref a, .type "object"])
   (hN : h.get? cd.ns = some oN) (hl : nsLook nm oN = pure none) (ht : typeLookup (.type "object") nm = pure r) (hq : Q r ⟨h, g, d, t, os⟩) : wpAny M A (typeLookup (.ref a) nm) Q E ⟨h, g, d, t, os⟩ := by
  have hrest : lookupAlong [.type "object"] nm = pure r := by rw [typeLookup_eq, tf_mroObj] at ht; exact ht
  rw [typeLookup_eq]
  refine wpAny_bind (mm_mro ho hd ?_)
  rw [hm, lookupAlong_cons]
  refine wpAny_bind ?_
  unfold classOwn classData
  refine wpAny_bind (wpAny_bind (wpAny_load ho ?_))
  rw [hd]
  refine wpAny_pure (mm_nsGet hN hl ?_)
  dsimp only
  rw [hrest]
  exact wpAny_pure hq
theorem mm_look_own {a : Addr} {o oN : Obj} {cd : ClassData} {nm : Str} {v : Value} {l : List Value} {Q : Option Value → Shared → Prop} (ho : h.get? a = some o) (hd : o.data = .cls cd) (hm : cd.mro = .ref a :: l)
   (hN : h.get? cd.ns = some oN) (hl : nsLook nm oN = pure (some v)) (hq : Q (some v) ⟨h, g, d, t, os⟩) : wpAny M A (typeLookup (.ref a) nm) Q E ⟨h, g, d, t, os⟩ := by
  rw [typeLookup_eq]
  refine wpAny_bind (mm_mro ho hd ?_)
  rw [hm, lookupAlong_cons]
  refine wpAny_bind ?_
  unfold classOwn classData
  refine wpAny_bind (wpAny_bind (wpAny_load ho ?_))
  rw [hd]
  refine wpAny_pure (mm_nsGet hN hl ?_)
  exact wpAny_pure hq
theorem mm_slotAt {a : Addr} {i : Nat} {o : Obj} {Q : Option Value → Shared → Prop} (ho : h.get? a = some o) (hq : Q (o.slots[i]?).join ⟨h, g, d, t, os⟩) : wpAny M A (slotAt a i) Q E ⟨h, g, d, t, os⟩ := by
  unfold slotAt
  exact wpAny_bind (wpAny_loadPart ho (wpAny_pure hq))
theorem mm_refresh {a : Addr} {o oN : Obj} {cd : ClassData} {v : Value} {Q : Unit → Shared → Prop} (ho : h.get? a = some o) (hd : o.data = .cls cd) (hm : cd.mro = [.ref a, .type "object"])
   (hN : h.get? cd.ns = some oN) (hl : nsLook "__new__" oN = pure none) (hs : (o.slots[4]?).join = some v) (hq : Q () ⟨h, g, d, t, os⟩) : wpAny M A (Bind.refreshMaker a) Q E ⟨h, g, d, t, os⟩ := by
  unfold Bind.refreshMaker
  refine wpAny_bind (mm_slotAt ho ?_)
  rw [hs]
  refine mm_ite_f (by rfl) ?_
  refine wpAny_bind (mm_look ho hd hm hN hl tf_new ?_)
  dsimp only
  refine mm_ite_f (by decide +kernel) ?_
  exact wpAny_pure hq
end
end Mine
end
section
open PySem PySem.W PyProof.Rows PySem.W.X PySem.Calls Builtin
set_option Elab.async false
namespace Mine
noncomputable def kcls (bT : Addr) (tn tq : Tok) (qn : Str) (N a : Addr) : Obj := { cls := .type "type", data := .cls { name := Str.ofString "K", bases := [.type "object"], mro := [.ref a, .type "object"], ns := N, qualname := qn }, slots := #[some (.ref bT), none, some (.str (Str.ofString "K") tn), some (.str qn tq), some (.builtin "object.__new__")] }
noncomputable def kdict (l : List DictEntry) (n : Nat) : Obj := { cls := .type "dict", data := .dict l.toArray n }
theorem mem_to {h0 h : Heap} {chg : List (Addr × Obj)} {a1 a2 : Addr} {o1 o2 o2' : Obj} (k : Addr → Addr → Obj) (D : Mem h0 h chg [(a1, o1), (a2, o2)]) (e1 : o1 = k a2 a1) (e2 : o2 = o2') : Mem h0 h chg [(a1, k a2 a1), (a2, o2')] := by subst e1 e2; exact D
section
variable {h1 h2 h3 h4 h5 h6 h7 h8 h9 h10 h11 h12 : Int} {t1 t2 t3 t4 t5 t6 t7 t8 t9 t10 t11 t12 tm tq ti : Tok} {ln : Int} {md qn : Str} {sl f1 f2 f3 f4 f5 f6 st : Addr}
theorem ns_drop {n : Nat} : Obj.dropName (Str.ofString "__qualname__") { cls := Value.type "dict", data := .dict #[ent h1 "__module__" t1 (.str md tm), ent h2 "__qualname__" t2 (.str qn tq), ent h3 "__firstlineno__" t3 (.int ln ti), ent h4 "__slots__" t4 (.ref sl), ent h5 "__init__" t5 (.ref f1), ent h6 "__lt__" t6 (.ref f2), ent h7 "__gt__" t7 (.ref f3), ent h8 "__eq__" t8 (.ref f4), ent h9 "__le__" t9 (.ref f5), ent h10 "__ge__" t10 (.ref f6), ent h11 "__hash__" t11 .none, ent h12 "__static_attributes__" t12 (.ref st)] n } =
   kdict [ent h1 "__module__" t1 (.str md tm), ent h3 "__firstlineno__" t3 (.int ln ti), ent h4 "__slots__" t4 (.ref sl), ent h5 "__init__" t5 (.ref f1), ent h6 "__lt__" t6 (.ref f2), ent h7 "__gt__" t7 (.ref f3), ent h8 "__eq__" t8 (.ref f4), ent h9 "__le__" t9 (.ref f5), ent h10 "__ge__" t10 (.ref f6), ent h11 "__hash__" t11 .none, ent h12 "__static_attributes__" t12 (.ref st)] (n + 1) := by kernel_rfl
theorem ns_del : (#[ent h1 "__module__" t1 (.str md tm), ent h2 "__qualname__" t2 (.str qn tq), ent h3 "__firstlineno__" t3 (.int ln ti), ent h4 "__slots__" t4 (.ref sl), ent h5 "__init__" t5 (.ref f1), ent h6 "__lt__" t6 (.ref f2), ent h7 "__gt__" t7 (.ref f3), ent h8 "__eq__" t8 (.ref f4), ent h9 "__le__" t9 (.ref f5), ent h10 "__ge__" t10 (.ref f6), ent h11 "__hash__" t11 .none, ent h12 "__static_attributes__" t12 (.ref st)] : Array DictEntry).any (fun x => x.key.isStr (Str.ofString "__del__")) = false := by rw [List.any_toArray]; rfl
theorem ns_none {n : Nat} {nm : Str} (hn : nm ∈ (["__new__", "__init_subclass__", "__class_getitem__", "obj", "__doc__", "__set_name__", "__getattribute__", "__getattr__", "__setattr__", "__del__"] : List Str)) : nsLook nm (kdict [ent h1 "__module__" t1 (.str md tm), ent h3 "__firstlineno__" t3 (.int ln ti), ent h4 "__slots__" t4 (.ref sl), ent h5 "__init__" t5 (.ref f1), ent h6 "__lt__" t6 (.ref f2), ent h7 "__gt__" t7 (.ref f3), ent h8 "__eq__" t8 (.ref f4), ent h9 "__le__" t9 (.ref f5), ent h10 "__ge__" t10 (.ref f6), ent h11 "__hash__" t11 .none, ent h12 "__static_attributes__" t12 (.ref st)] n) = pure none := by
  simp only [List.mem_cons, List.not_mem_nil, or_false] at hn
  rcases hn with rfl | rfl | rfl | rfl | rfl | rfl | rfl | rfl | rfl | rfl <;> kernel_rfl
end
end Mine
end
section
open PySem PySem.W PyProof.Rows PySem.W.X PySem.Calls Builtin
set_option Elab.async false
namespace Mine
section
variable {prog : Program} {w : World} {A : Around} {E : Value → Shared → Prop} {h0 h : Heap} {g : Array GenState} {d : Drawn} {t : Nat} {os : OsState} {chg news : List (Addr × Obj)}
theorem mm_nsSet {a : Addr} {nm : Str} {v c : Value} {dt : Option Addr} {es : Array DictEntry} {n i : Nat} {sl : Array (Option Value)} {o' : Int → Tok → Obj} {Q : Unit → Shared → Prop} (D : Mem h0 h chg news) (hi : news[i]? = some (a, ⟨c, dt, .dict es n, sl⟩))
   (hk : aRefKeyMayBeTheName nm es = false) (hp : ∀ hh tk, Obj.putName nm hh (.str nm tk) v ⟨c, dt, .dict es n, sl⟩ = o' hh tk) (hf : ∀ hh tk, (o' hh tk).isFreed = false)
   (hq : ∀ h' hh, Mem h0 h' chg (news.set i (a, o' hh t)) → Q () ⟨h', g, d, t + 1, os⟩) : wpAny (model prog w) A (nsSet a nm v) Q E ⟨h, g, d, t, os⟩ := by
  unfold nsSet strHash
  refine wpAny_bind (wpAny_bind (wpAny_askSetting ?_))
  refine wpAny_pure ?_
  refine wpAny_bind (wpAny_mkText ?_)
  refine wpAny_bind (wpAny_loadPart (D.at i a _ hi) ?_)
  dsimp only
  rw [hk]
  refine mm_ite_f (by rfl) ?_
  refine mm_updatePart D hi (by rw [hp]; exact hf _ _) fun h' D' => ?_
  rw [hp] at D'
  exact hq h' _ D'
end
end Mine
end
section
open PySem PySem.W PyProof.Rows PySem.W.X PySem.Calls Builtin
set_option Elab.async false
namespace Mine
section
variable {h1 h3 h4 h5 h6 h7 h8 h9 h10 h11 h12 : Int} {t1 t3 t4 t5 t6 t7 t8 t9 t10 t11 t12 tm ti : Tok} {ln : Int} {md : Str} {sl f1 f2 f3 f4 f5 f6 st : Addr}
noncomputable abbrev kents (h1 h3 h4 h5 h6 h7 h8 h9 h10 h11 h12 : Int) (t1 t3 t4 t5 t6 t7 t8 t9 t10 t11 t12 tm ti : Tok) (ln : Int) (md : Str) (sl f1 f2 f3 f4 f5 f6 st : Addr) : List DictEntry :=
  [ent h1 "__module__" t1 (.str md tm), ent h3 "__firstlineno__" t3 (.int ln ti), ent h4 "__slots__" t4 (.ref sl), ent h5 "__init__" t5 (.ref f1), ent h6 "__lt__" t6 (.ref f2), ent h7 "__gt__" t7 (.ref f3), ent h8 "__eq__" t8 (.ref f4), ent h9 "__le__" t9 (.ref f5), ent h10 "__ge__" t10 (.ref f6), ent h11 "__hash__" t11 .none, ent h12 "__static_attributes__" t12 (.ref st)]
theorem put_obj {n : Nat} {m : Addr} (hh : Int) (tk : Tok) : Obj.putName (Str.ofString "obj") hh (.str (Str.ofString "obj") tk) (.ref m) (kdict (kents h1 h3 h4 h5 h6 h7 h8 h9 h10 h11 h12 t1 t3 t4 t5 t6 t7 t8 t9 t10 t11 t12 tm ti ln md sl f1 f2 f3 f4 f5 f6 st) n) =
   kdict (kents h1 h3 h4 h5 h6 h7 h8 h9 h10 h11 h12 t1 t3 t4 t5 t6 t7 t8 t9 t10 t11 t12 tm ti ln md sl f1 f2 f3 f4 f5 f6 st ++ [ent hh "obj" tk (.ref m)]) (n + 1) := by kernel_rfl
theorem put_doc {n : Nat} {m : Addr} {ho : Int} {to : Tok} (hh : Int) (tk : Tok) : Obj.putName (Str.ofString "__doc__") hh (.str (Str.ofString "__doc__") tk) .none (kdict (kents h1 h3 h4 h5 h6 h7 h8 h9 h10 h11 h12 t1 t3 t4 t5 t6 t7 t8 t9 t10 t11 t12 tm ti ln md sl f1 f2 f3 f4 f5 f6 st ++ [ent ho "obj" to (.ref m)]) n) =
   kdict (kents h1 h3 h4 h5 h6 h7 h8 h9 h10 h11 h12 t1 t3 t4 t5 t6 t7 t8 t9 t10 t11 t12 tm ti ln md sl f1 f2 f3 f4 f5 f6 st ++ [ent ho "obj" to (.ref m), ent hh "__doc__" tk .none]) (n + 1) := by kernel_rfl
theorem key_obj : aRefKeyMayBeTheName "obj" (kents h1 h3 h4 h5 h6 h7 h8 h9 h10 h11 h12 t1 t3 t4 t5 t6 t7 t8 t9 t10 t11 t12 tm ti ln md sl f1 f2 f3 f4 f5 f6 st).toArray = false := by kernel_rfl
theorem key_doc {m : Addr} {ho : Int} {to : Tok} : aRefKeyMayBeTheName "__doc__" (kents h1 h3 h4 h5 h6 h7 h8 h9 h10 h11 h12 t1 t3 t4 t5 t6 t7 t8 t9 t10 t11 t12 tm ti ln md sl f1 f2 f3 f4 f5 f6 st ++ [ent ho "obj" to (.ref m)]).toArray = false := by kernel_rfl
end
end Mine
end
section
open PySem PySem.W PyProof.Rows PySem.W.X PySem.Calls Builtin
set_option Elab.async false
namespace Mine
section
variable {prog : Program} {w : World} {A : Around} {E : Value → Shared → Prop} {h0 h : Heap} {g : Array GenState} {d : Drawn} {t : Nat} {os : OsState} {chg news : List (Addr × Obj)}
theorem mm_nsSetByValue {a : Addr} {nm : Str} {v c : Value} {dt : Option Addr} {es : Array DictEntry} {n i : Nat} {sl : Array (Option Value)} {o' : Int → Tok → Obj} {Q : Unit → Shared → Prop} (D : Mem h0 h chg news) (hi : news[i]? = some (a, ⟨c, dt, .dict es n, sl⟩))
   (hz : decide (es.size > sizeLine) = false)
   (hk : aRefKeyMayBeTheName nm es = false) (hp : ∀ hh tk, Obj.putName nm hh (.str nm tk) v ⟨c, dt, .dict es n, sl⟩ = o' hh tk) (hf : ∀ hh tk, (o' hh tk).isFreed = false)
   (hq : ∀ h' hh, Mem h0 h' chg (news.set i (a, o' hh t)) → Q () ⟨h', g, d, t + 1, os⟩) : wpAny (model prog w) A (nsSetByValue a nm v) Q E ⟨h, g, d, t, os⟩ := by
  unfold nsSetByValue
  refine wpAny_bind (wpAny_loadPart (D.at i a _ hi) ?_)
  dsimp only
  refine mm_ite_f ?_ ?_
  · rw [hz, Bool.false_and]; rfl
  · exact mm_nsSet D hi hk hp hf hq
end
end Mine
end
section
open PySem PySem.W PyProof.Rows PySem.W.X PySem.Calls Builtin
set_option Elab.async false
namespace Mine
section
variable {h1 h3 h4 h5 h6 h7 h8 h9 h10 h11 h12 : Int} {t1 t3 t4 t5 t6 t7 t8 t9 t10 t11 t12 tm ti : Tok} {ln : Int} {md : Str} {sl f1 f2 f3 f4 f5 f6 st m : Addr} {ho hd : Int} {to td : Tok}
theorem doc_none {n : Nat} : nsLook "__doc__" (kdict (kents h1 h3 h4 h5 h6 h7 h8 h9 h10 h11 h12 t1 t3 t4 t5 t6 t7 t8 t9 t10 t11 t12 tm ti ln md sl f1 f2 f3 f4 f5 f6 st ++ [ent ho "obj" to (.ref m)]) n) = pure none := by kernel_rfl
theorem eq_some {n : Nat} : nsLook "__eq__" (kdict (kents h1 h3 h4 h5 h6 h7 h8 h9 h10 h11 h12 t1 t3 t4 t5 t6 t7 t8 t9 t10 t11 t12 tm ti ln md sl f1 f2 f3 f4 f5 f6 st ++ [ent ho "obj" to (.ref m), ent hd "__doc__" td .none]) n) = pure (some (.ref f4)) := by kernel_rfl
theorem hash_some {n : Nat} : nsLook "__hash__" (kdict (kents h1 h3 h4 h5 h6 h7 h8 h9 h10 h11 h12 t1 t3 t4 t5 t6 t7 t8 t9 t10 t11 t12 tm ti ln md sl f1 f2 f3 f4 f5 f6 st ++ [ent ho "obj" to (.ref m), ent hd "__doc__" td .none]) n) = pure (some .none) := by kernel_rfl
end
end Mine
namespace Mine
theorem tf_note (a : Addr) : noteSubclassOfBuiltin "object" a = pure () := by
  unfold noteSubclassOfBuiltin
  rw [show typeSubclassesOfTheStartUp.contains "object" = true by decide +kernel]
  rfl
noncomputable def kclsF (bT : Addr) (tn tq : Tok) (qn : Str) (N a : Addr) : Obj := { cls := .type "type", data := .cls { name := Str.ofString "K", bases := [.type "object"], mro := [.ref a, .type "object"], ns := N, qualname := qn, hasDict := false, slotNames := [Str.ofString "obj"] }, slots := #[some (.ref bT), none, some (.str (Str.ofString "K") tn), some (.str qn tq), some (.builtin "object.__new__"), some (.bool false)] }
noncomputable def kmem (t : Tok) (a : Addr) : Obj := { cls := .type "member_descriptor", data := .fields #[.str (Str.ofString "obj") t, .ref a, .builtin "proto.slot", .builtin "proto.slot#set", .int 0 0] }
theorem mem_to3 {h0 h : Heap} {chg : List (Addr × Obj)} {a1 a2 a3 : Addr} {o1 o2 o3 : Obj} (k1 : Addr → Obj) (k2 : Addr → Addr → Obj) (D : Mem h0 h chg [(a1, o1), (a2, o2), (a3, o3)]) (e1 : o1 = k1 a2) (e2 : o2 = k2 a3 a2) : Mem h0 h chg [(a1, k1 a2), (a2, k2 a3 a2), (a3, o3)] := by subst e1 e2; exact D
theorem mm_forIn1 {M : Model} {A : Around} {E : Value → Shared → Prop} {β : Type} {v : Value} {l : List Value} {init : β} {body : Value → β → Sem (ForInStep β)} {s : Shared} {Q : β → Shared → Prop} (hl : l = [v]) (h : wpAny M A (body v init) (fun st s' => match st with | .done b => Q b s' | .yield b => Q b s') E s) : wpAny M A (forIn l init body) Q E s := by
  subst hl
  rw [List.forIn_cons]
  refine wpAny_bind (wpAny_mono h (fun st s' q => ?_) fun _ _ e => e)
  cases st with
  | done b => exact wpAny_pure q
  | yield b => exact wpAny_pure q
end Mine
end
section
open PySem PySem.W PyProof.Rows PySem.W.X PySem.Calls Builtin
set_option Elab.async false
namespace Mine
section
variable {M : Model} {A : Around} {E : Value → Shared → Prop} {h0 h : Heap} {g : Array GenState} {d : Drawn} {t : Nat} {os : OsState} {chg news : List (Addr × Obj)}
theorem mm_forL {α β : Type} {init : β} {s : Shared} : ∀ {l : List α} {body : α → β → Sem (ForInStep β)} {Q : β → Shared → Prop}, (∀ e ∈ l, wpAny M A (body e init) (fun st s' => st = .yield init ∧ s' = s) E s) → Q init s → wpAny M A (forIn l init body) Q E s
  | [], _, _, _, hq => by rw [List.forIn_nil]; exact wpAny_pure hq
  | e :: l, body, Q, hb, hq => by
    rw [List.forIn_cons]
    refine wpAny_bind (wpAny_mono (hb e (.head _)) (fun st s' q => ?_) fun _ _ e => e)
    obtain ⟨rfl, rfl⟩ := q
    exact mm_forL (fun e he => hb e (.tail _ he)) hq
theorem mm_forA {α β : Type} {init : β} {s : Shared} {l : List α} {body : α → β → Sem (ForInStep β)} {Q : β → Shared → Prop} (hb : ∀ e ∈ l, wpAny M A (body e init) (fun st s' => st = .yield init ∧ s' = s) E s) (hq : Q init s) : wpAny M A (forIn l.toArray init body) Q E s := by
  rw [List.forIn_toArray]; exact mm_forL hb hq
theorem mm_entries {a : Addr} {l : List DictEntry} {n : Nat} {Q : Array DictEntry → Shared → Prop} (ho : h.get? a = some (kdict l n)) (hq : Q l.toArray ⟨h, g, d, t, os⟩) : wpAny M A (dictEntries a) Q E ⟨h, g, d, t, os⟩ := by
  unfold dictEntries
  exact wpAny_bind (wpAny_loadPart ho (wpAny_pure hq))
theorem mm_special {v : Value} {T : String} {nm : Str} {s : Shared} {Q : Option Value → Shared → Prop} (hT : typeOf v = pure (.type T)) (hl : typeLookup (.type T) nm = pure none) (hq : Q none s) : wpAny M A (specialOf v nm) Q E s := by
  unfold specialOf
  rw [hT]
  refine wpAny_bind (wpAny_pure ?_)
  rw [hl]
  exact wpAny_pure hq
theorem mm_specialR {a : Addr} {o : Obj} {T : String} {nm : Str} {Q : Option Value → Shared → Prop} (ho : h.get? a = some o) (hc : o.cls = .type T) (hl : typeLookup (.type T) nm = pure none) (hq : Q none ⟨h, g, d, t, os⟩) : wpAny M A (specialOf (.ref a) nm) Q E ⟨h, g, d, t, os⟩ := by
  unfold specialOf typeOf
  refine wpAny_bind (wpAny_bind (wpAny_loadPart ho (wpAny_pure ?_)))
  rw [hc, hl]
  exact wpAny_pure hq
theorem tf_set (T : String) (hT : T ∈ ["str", "int", "list", "function", "NoneType", "tuple", "member_descriptor"]) : typeLookup (.type T) "__set_name__" = pure none := by
  simp only [List.mem_cons, List.not_mem_nil, or_false] at hT
  rcases hT with rfl | rfl | rfl | rfl | rfl | rfl | rfl <;> (rw [typeLookup_type, builtinLookup_eq_fast]; kernel_rfl)
/-- an entry of the class's dict is of a kind without __set_name__ -/
noncomputable def EntOk (h : Heap) (e : DictEntry) : Prop := (∃ k tk, e.key = .str k tk) ∧ laidUnderItsOwnName e.key e.val = false ∧
  ((∃ T, T ∈ ["str", "int", "list", "function", "NoneType", "tuple", "member_descriptor"] ∧ typeOf e.val = pure (.type T)) ∨ ∃ a o T, e.val = .ref a ∧ h.get? a = some o ∧ o.cls = .type T ∧ T ∈ ["str", "int", "list", "function", "NoneType", "tuple", "member_descriptor"])
theorem EntOk.special {e : DictEntry} (k : EntOk h e) {Q : Option Value → Shared → Prop} (hq : Q none ⟨h, g, d, t, os⟩) : wpAny M A (specialOf e.val "__set_name__") Q E ⟨h, g, d, t, os⟩ := by
  rcases k.2.2 with ⟨T, hT, ht⟩ | ⟨a, o, T, hv, ho, hc, hT⟩
  · exact mm_special ht (tf_set T hT) hq
  · rw [hv]; exact mm_specialR ho hc (tf_set T hT) hq
noncomputable def FnAt (h : Heap) (T : String) (a : Addr) : Prop := ∃ o, h.get? a = some o ∧ o.cls = .type T
theorem FnAt.old {T : String} {a : Addr} (k : FnAt h0 T a) (D : Mem h0 h chg news) : FnAt h T a := by
  obtain ⟨o, ho, hc⟩ := k
  exact ⟨o, D.old _ _ ho (by unfold hasCls; rw [hc]; rfl), hc⟩
theorem laid_ref (k : Str) (tk : Tok) (a : Addr) : laidUnderItsOwnName (.str k tk) (.ref a) = false := rfl
theorem ent_ref {hh : Int} {k : String} {tk : Tok} {a : Addr} {T : String} (F : FnAt h T a) (hT : T ∈ ["str", "int", "list", "function", "NoneType", "tuple", "member_descriptor"]) : EntOk h (ent hh k tk (.ref a)) :=
  ⟨⟨_, _, rfl⟩, rfl, .inr (F.elim fun o q => ⟨a, o, T, rfl, q.1, q.2, hT⟩)⟩
end
section
variable {h0 h : Heap} {h1 h3 h4 h5 h6 h7 h8 h9 h10 h11 h12 : Int} {t1 t3 t4 t5 t6 t7 t8 t9 t10 t11 t12 tm ti : Tok} {ln : Int} {md : Str} {sl f1 f2 f3 f4 f5 f6 st m : Addr} {ho hd : Int} {to td : Tok}
theorem ents_ok (hl : FnAt h "list" sl) (k1 : FnAt h "function" f1) (k2 : FnAt h "function" f2) (k3 : FnAt h "function" f3) (k4 : FnAt h "function" f4) (k5 : FnAt h "function" f5) (k6 : FnAt h "function" f6) (ks : FnAt h "tuple" st) (km : FnAt h "member_descriptor" m) :
   ∀ e ∈ kents h1 h3 h4 h5 h6 h7 h8 h9 h10 h11 h12 t1 t3 t4 t5 t6 t7 t8 t9 t10 t11 t12 tm ti ln md sl f1 f2 f3 f4 f5 f6 st ++ [ent ho "obj" to (.ref m), ent hd "__doc__" td .none], EntOk h e := by
  intro e he
  simp only [kents, List.cons_append, List.nil_append, List.mem_cons, List.not_mem_nil, or_false] at he
  have ml : "list" ∈ ["str", "int", "list", "function", "NoneType", "tuple", "member_descriptor"] := by decide
  have mf : "function" ∈ ["str", "int", "list", "function", "NoneType", "tuple", "member_descriptor"] := by decide
  have mt : "tuple" ∈ ["str", "int", "list", "function", "NoneType", "tuple", "member_descriptor"] := by decide
  have mm : "member_descriptor" ∈ ["str", "int", "list", "function", "NoneType", "tuple", "member_descriptor"] := by decide
  rcases he with rfl | rfl | rfl | rfl | rfl | rfl | rfl | rfl | rfl | rfl | rfl | rfl | rfl
  · exact ⟨⟨_, _, rfl⟩, rfl, .inl ⟨"str", by decide, rfl⟩⟩
  · exact ⟨⟨_, _, rfl⟩, rfl, .inl ⟨"int", by decide, rfl⟩⟩
  · exact ent_ref hl ml
  · exact ent_ref k1 mf
  · exact ent_ref k2 mf
  · exact ent_ref k3 mf
  · exact ent_ref k4 mf
  · exact ent_ref k5 mf
  · exact ent_ref k6 mf
  · exact ⟨⟨_, _, rfl⟩, rfl, .inl ⟨"NoneType", by decide, rfl⟩⟩
  · exact ent_ref ks mt
  · exact ent_ref km mm
  · exact ⟨⟨_, _, rfl⟩, rfl, .inl ⟨"NoneType", by decide, rfl⟩⟩
end
end Mine
end
section
open PySem PySem.W PyProof.Rows PySem.W.X PySem.Calls Builtin
set_option Elab.async false
namespace Mine
noncomputable def ksup (a : Addr) : Obj := { cls := .type "super", data := .fields #[.ref a, .ref a, .ref a] }
def closeMem : Lean.MacroM (Lean.TSyntax `tactic) :=
  `(tactic| (rename (∀ _ _, Mem _ _ _ _ → _) => hq9; first | (rename Mem _ _ _ _ => D9; exact hq9 _ _ D9 _) | exact hq9 _ _ (Mem.start _) _))
local macro_rules | `(tactic| x_close) => closeMem
set_option maxRecDepth 100000 in
set_option maxHeartbeats 8000000 in
theorem sup_call {prog : Program} {w : World} {A : Around} {Q : Value → Shared → Prop} {E : Value → Shared → Prop} {h : Heap} {g : Array GenState} {d : Drawn} {t : Nat} {os : OsState} {bT : Addr} {tn tq : Tok} {qn : Str} {N a : Addr}
   (hK : h.get? a = some (kclsF bT tn tq qn N a))
   (hq : ∀ sup h', Mem h h' [] [(sup, ksup a)] → ∀ tk, Q (.ref sup) ⟨h', g, d, tk, os⟩) :
   wpAny (model prog w) A (call (.type "super") [.ref a, .ref a]) Q E ⟨h, g, d, t, os⟩ := by
  unfold kclsF at hK
  x_run
end Mine
end
section
open PySem PySem.W PyProof.Rows PySem.W.X PySem.Calls Builtin
set_option Elab.async false
namespace Mine
theorem tf_own : classOwn (.type "object") "__init_subclass__" = pure (some (.builtin "object.__init_subclass__")) := by kernel_rfl
theorem tf_cmd : typeOf (.builtin "object.__init_subclass__") = pure (.type "classmethod_descriptor") := by kernel_rfl
theorem tf_cmget : typeLookup (.type "classmethod_descriptor") "__get__" = pure (some (.builtin "classmethod_descriptor.__get__")) := by rw [typeLookup_type, builtinLookup_eq_fast]; kernel_rfl
section
variable {prog : Program} {w : World} {M : Model} {A : Around} {E : Value → Shared → Prop} {h : Heap} {g : Array GenState} {d : Drawn} {t : Nat} {os : OsState}
theorem mm_notOpaque {what how : String} {a : Addr} {Q : Unit → Shared → Prop} (hno : Looks M h anyOpaqueLoaded false) (hq : Q () ⟨h, g, d, t, os⟩) : wpAny M A (notOfAnOpaqueClass what how (.ref a)) Q E ⟨h, g, d, t, os⟩ := by
  unfold notOfAnOpaqueClass opaqueClassAbove
  refine wpAny_bind ?_
  dsimp only
  refine wpAny_bind (hno.here ?_)
  refine wpAny_pure (wpAny_pure hq)
theorem mm_forD {β : Type} {c : Value} {l : List Value} {init : β} {body : Value → β → Sem (ForInStep β)} {s : Shared} {Q : β → Shared → Prop} (hl : l = [c]) (h : wpAny M A (body c init) (fun st s' => match st with | .done b => Q b s' | .yield b => Q b s') E s) : wpAny M A (forIn l init body) Q E s := mm_forIn1 hl h
theorem drop_self (a : Addr) : ([Value.ref a, Value.type "object"].dropWhile (· != .ref a)).drop 1 = [Value.type "object"] := by simp
set_option maxRecDepth 100000 in
theorem ga_sup {so bT N a : Addr} {tn tq : Tok} {qn : Str} {tk : Tok} {Q : Fin → Shared → Prop} (hso : h.get? so = some (ksup a)) (hK : h.get? a = some (kclsF bT tn tq qn N a)) (hno : Looks (model prog w) h anyOpaqueLoaded false)
   (hq : wpAny (model prog w) A (call (.builtin "classmethod_descriptor.__get__") [.builtin "object.__init_subclass__", .none, .ref a]) (fun v s' => Q (.done (.ret v)) s') E ⟨h, g, d, t, os⟩) :
   wpAny (model prog w) A (Builtin.«super.__getattribute__» ⟨[.ref so, .str "__init_subclass__" tk], []⟩) Q E ⟨h, g, d, t, os⟩ := by
  have hdt : (ksup a).data = .fields #[.ref a, .ref a, .ref a] := rfl
  have f0 : (#[.ref a, .ref a, .ref a] : Array Value)[0]? = some (.ref a) := rfl
  have f1 : (#[.ref a, .ref a, .ref a] : Array Value)[1]? = some (.ref a) := rfl
  have f2 : (#[.ref a, .ref a, .ref a] : Array Value)[2]? = some (.ref a) := rfl
  have hn : (Str.ofString "__init_subclass__" == Str.ofString "__class__") = false := by decide +kernel
  unfold Builtin.«super.__getattribute__»
  repeat (first
    | (with_reducible refine wpAny_field hso hdt f0 ?_) | (with_reducible refine wpAny_field hso hdt f1 ?_) | (with_reducible refine wpAny_field hso hdt f2 ?_)
    | (with_reducible refine mm_notOpaque hno ?_)
    | (with_reducible refine mm_mro hK rfl ?_)
    | (refine mm_forIn1 (drop_self a) ?_)
    | ((with_reducible show wpAny _ _ (call _ _) _ _ _); refine Blk.mk ?_)
    | (with_reducible refine wpAny_of_eq tf_own ?_)
    | (with_reducible refine wpAny_of_eq tf_cmd ?_)
    | (with_reducible refine wpAny_of_eq tf_cmget ?_)
    | (simp only [hn, Bool.or_false, Bool.false_eq_true, if_false])
    | wp_step
    | dsimp only)
  refine Blk.out ?_
  have e : (if (Value.ref a == Value.ref a) = true then Value.none else Value.ref a) = Value.none := by simp
  rw [e]
  refine wpAny_mono hq (fun v s' q => ?_) fun _ _ e => e
  repeat (first | wp_step | dsimp only)
  all_goals exact q
theorem ga_call {bT N a so : Addr} {tn tq : Tok} {qn : Str} {Q : Value → Shared → Prop} (hso : h.get? so = some (ksup a)) (hK : h.get? a = some (kclsF bT tn tq qn N a)) (hno : Looks (model prog w) h anyOpaqueLoaded false)
   (hq : ∀ A', wpAny (model prog w) A' (call (.builtin "classmethod_descriptor.__get__") [.builtin "object.__init_subclass__", .none, .ref a]) (fun v s' => ∃ x, v = .ref x ∧ Q v s') (fun _ _ => False) ⟨h, g, d, t + 1, os⟩) :
   wpAny (model prog w) A (getAttr (.ref so) "__init_subclass__") Q E ⟨h, g, d, t, os⟩ := by
  have hlk := F.ks_slot_super_ga.lookup
  have hT : ∀ t', (⟨h, g, d, t', os⟩ : Shared).TypeIs (.ref so) "super" := fun _ => ⟨_, hso, rfl⟩
  unfold getAttr getAttrBy
  refine wpAny_bind (wpAny_mkText (wpAny_holding (wpAny_bind (wpAny_typeOf (hT _) (wpAny_bind (wpAny_of_eq hlk ?_))))))
  show wpAny _ _ (getAttrByItsOwn (.ref so) (.str "__init_subclass__" t) (.type "super") (.builtin "super.__getattribute__") true false) _ _ _
  unfold getAttrByItsOwn hookBefore callGetattribute boundAndCalled
  refine wpAny_bind (wpAny_of_eq (show (if onTheHeap (.type "super") then typeLookup (.type "super") "__getattr__" else pure none) = pure none from rfl) ?_)
  refine wpAny_bind (wpAny_attempt (wpAny_holding ?_))
  show wpAny _ _ (bindSpecial (.builtin "super.__getattribute__") (.ref so) >>= _) _ _ _
  refine wpAny_bind (wpAny_of_eq (F.ks_slot_super_ga.bind _) ?_)
  refine wpAny_mono (Q := fun v s' => ∃ x, v = .ref x ∧ Q v s') (E := fun _ _ => False)
    (wpAny_call_entry F.ks_slot_super_ga (hT _) F.ks_entry_super_ga (ga_sup hso hK hno (wpAny_mono (hq _) (fun v s' k => ⟨_, rfl, k⟩) fun _ _ z => z)) (F.ks_gaArgs_super _ _)) (fun v s' hv => ?_) fun _ _ z => z.elim
  obtain ⟨x, rfl, q⟩ := hv
  exact wpAny_pure q
end
end Mine
end
section
open PySem PySem.W PyProof.Rows PySem.W.X PySem.Calls Builtin
set_option Elab.async false
namespace Mine
noncomputable def kbm (a : Addr) : Obj := { cls := .type "builtin_function_or_method", data := .fields #[.builtin "object.__init_subclass__", .ref a] }
local macro_rules | `(tactic| x_close) => closeMem
set_option maxRecDepth 100000 in
set_option maxHeartbeats 8000000 in
theorem cm_get {prog : Program} {w : World} {A : Around} {Q : Value → Shared → Prop} {E : Value → Shared → Prop} {h : Heap} {g : Array GenState} {d : Drawn} {t : Nat} {os : OsState} {bT : Addr} {tn tq : Tok} {qn : Str} {N a : Addr}
   (hK : h.get? a = some (kclsF bT tn tq qn N a))
   (hq : ∀ m h', Mem h h' [] [(m, kbm a)] → ∀ tk, Q (.ref m) ⟨h', g, d, tk, os⟩) :
   wpAny (model prog w) A (call (.builtin "classmethod_descriptor.__get__") [.builtin "object.__init_subclass__", .none, .ref a]) Q E ⟨h, g, d, t, os⟩ := by
  unfold kclsF at hK
  x_run
local macro_rules | `(tactic| x_close) => closeMem
set_option maxRecDepth 100000 in
set_option maxHeartbeats 8000000 in
theorem bm_call {prog : Program} {w : World} {A : Around} {Q : Value → Shared → Prop} {E : Value → Shared → Prop} {h : Heap} {g : Array GenState} {d : Drawn} {t : Nat} {os : OsState} {bT m : Addr} {tn tq : Tok} {qn : Str} {N a : Addr}
   (hK : h.get? a = some (kclsF bT tn tq qn N a)) (hm : h.get? m = some (kbm a)) (hqn : qn = Str.ofString "cmp_to_key.<locals>.K")
   (hq : ∀ h' news, Mem h h' [] news → ∀ tk, Q .none ⟨h', g, d, tk, os⟩) :
   wpAny (model prog w) A (call (.ref m) []) Q E ⟨h, g, d, t, os⟩ := by
  unfold kclsF at hK
  unfold kbm at hm
  subst hqn
  x_run
end Mine
namespace Mine
theorem mem_keep {h0 h : Heap} {news : List (Addr × Obj)} (D : Mem h0 h [] news) : ∀ b o, h0.get? b = some o → h.get? b = some o := fun b o e => D.keep b o e (by simp [away])
theorem mem_then {h0 h h' : Heap} {news : List (Addr × Obj)} (D : Mem h0 h [] news) (k : ∀ b o, h.get? b = some o → h'.get? b = some o) : Mem h0 h' [] news :=
  ⟨fun b o e _ => k _ _ (mem_keep D b o e), fun _ hp => (nomatch hp), List.nodup_nil, fun p hp => ⟨k _ _ (D.nw p hp).1, (D.nw p hp).2⟩, D.ord⟩
end Mine
end
section
open PySem PySem.W PyProof.Rows PySem.Calls Builtin
set_option Elab.async false
namespace Mine
noncomputable def passS : Stmt := .Pass ⟨0, 0, 0, 0⟩
noncomputable def isFnS (n : Str) : Stmt → Bool
  | .FunctionDef m .. => decide (m = n)
  | _ => false
noncomputable def findFn (p : Program) (n : Str) : Stmt := (p.main.body.find? (isFnS n)).getD passS
noncomputable def fnBody : Stmt → List Stmt
  | .FunctionDef _ _ b .. => b
  | _ => []
noncomputable def clsBody : Stmt → List Stmt
  | .ClassDef _ _ _ b .. => b
  | _ => []
noncomputable def kBody : List Stmt := clsBody ((fnBody (findFn PySem.Challenge.pw_mq0210_01 "cmp_to_key")).headD passS)
noncomputable def kInit : Stmt := kBody.getD 2 passS
noncomputable def kLt : Stmt := kBody.getD 3 passS
noncomputable def fnName : Stmt → Str | .FunctionDef n .. => n | _ => default
noncomputable def fnArgs : Stmt → Arguments | .FunctionDef _ a .. => a | _ => default
noncomputable def fnScope : Stmt → Scope | .FunctionDef _ _ _ _ _ _ s .. => s | _ => default
noncomputable def fnMadeS (st : Stmt) (qual : Str) (clos : List (Str × Addr)) (doc pm : Value) (c' : Addr) (ctv : Value) : Obj := fnMade (fnName st) qual (fnArgs st) (fnBody st) (fnScope st) clos doc pm c' ctv
noncomputable def NewAt (hA h : Heap) (l : List (Addr × Obj)) : Prop := ∀ p ∈ l, h.get? p.1 = some p.2 ∧ hA.get? p.1 = none
/-- the objects of a class made by cmp_to_key: cell holds mycmp -/
inductive KList (cell K9 : Addr) (kn : List (Addr × Obj)) : Prop
  | mk (bT N m fi fl ci cl sl f3 f4 f5 f6 st : Addr) (oci ocl : Obj) (vi vl : Array Value) (ui ul : Tok) (pm doci docl ctvi ctvl : Value)
      (tn tq t1' t1 t3 t4 t5 t6 t7 t8 t9 t10 t11 t12 tm ti to td : Tok) (h1 h3 h4 h5 h6 h7 h8 h9 h10 h11 h12 ho hd ln : Int) (md : Str) (n : Nat)
    (e : kn = [(K9, kclsF bT tn tq "cmp_to_key.<locals>.K" N K9), (m, kmem t1' K9),
      (N, kdict (kents h1 h3 h4 h5 h6 h7 h8 h9 h10 h11 h12 t1 t3 t4 t5 t6 t7 t8 t9 t10 t11 t12 tm ti ln md sl fi fl f3 f4 f5 f6 st ++ [ent ho "obj" to (.ref m), ent hd "__doc__" td .none]) n),
      (fi, fnMadeS kInit "cmp_to_key.<locals>.K.__init__" [] doci pm ci ctvi), (fl, fnMadeS kLt "cmp_to_key.<locals>.K.__lt__" [(Str.ofString "mycmp", cell)] docl pm cl ctvl), (ci, oci), (cl, ocl)])
    (r1 : oci.data = .fields vi) (r2 : vi[1]? = some (.str "cmp_to_key.<locals>.K.__init__" ui)) (r3 : ocl.data = .fields vl) (r4 : vl[1]? = some (.str "cmp_to_key.<locals>.K.__lt__" ul))
    (r5 : [K9, m, N, fi, fl, ci, cl].Nodup) : KList cell K9 kn
/-- what a call of cmp_to_key leaves: K9 is the class -/
structure KRes (hA : Heap) (s₀ : Shared) (cell K9 : Addr) (s9 : Shared) : Prop where
  st : s9.gens = s₀.gens ∧ s9.drawn = s₀.drawn ∧ s9.os = s₀.os
  old : ∀ b o, hA.get? b = some o → b ≠ 30 → s9.heap.get? b = some o
  tab : ∃ ps, s9.heap.get? 30 = some (tabObj ps)
  new : ∃ kn, NewAt hA s9.heap kn ∧ KList cell K9 kn
end Mine
end
section
open PySem PySem.W PyProof.Rows PySem.Calls Builtin
set_option Elab.async false
namespace Mine
theorem kres_news {g' h' : Heap} {L' cell K9 : Addr} {own rest : List (Addr × Obj)} {oc : Obj} {mm : Str → Option Value} {s₀ s9 : Shared} (F' : Fr g' L' h' mm) (N' : News g' L' h' ((L' + 1, oc) :: (own ++ (30, tabObj #[]) :: rest)))
   (hl : 30 < L') (ho : ∀ p ∈ own, p.1 ≠ 30) (hr : ∀ p ∈ rest, p.1 ≠ 30) (R : KRes h' s₀ cell K9 s9) :
   Fr g' L' s9.heap mm ∧ ∃ kn ps, KList cell K9 kn ∧ News g' L' s9.heap (kn ++ (L' + 1, oc) :: (own ++ (30, tabObj ps) :: rest)) := by
  obtain ⟨⟨e1, e2, e3⟩, old, ⟨ps, hps⟩, new⟩ := R
  obtain ⟨kn, new, hkl⟩ := new
  have n30 := N' (30, tabObj #[]) (.tail _ (List.mem_append_right _ (.head _)))
  have g30 : g'.get? 30 = none := n30.2.2
  have keepL : ∀ b o, g'.get? b = some o → s9.heap.get? b = some o := fun b o e => old b o (F'.keep b o e) fun q => by rw [q, g30] at e; cases e
  have F9 : Fr g' L' s9.heap mm := ⟨F'.ns.at fun o e => old L' o e (Nat.ne_of_gt hl), keepL, F'.above⟩
  refine ⟨F9, kn, ps, hkl, fun p hp => ?_⟩
  obtain ⟨oL, _, _, hL, _⟩ := F'.ns
  rcases List.mem_append.mp hp with hp | hp
  · have q := new p hp
    refine ⟨q.1, fun e => ?_, ?_⟩
    · rw [e, hL] at q; cases q.2
    · cases z : g'.get? p.1 with
      | none => rfl
      | some o => have := F'.keep _ _ z; rw [q.2] at this; cases this
  · rcases List.mem_cons.mp hp with rfl | hp
    · have q := N' _ (.head _)
      exact ⟨old _ _ q.1 (Nat.ne_of_gt (Nat.lt_succ_of_lt hl)), q.2⟩
    · rcases List.mem_append.mp hp with hp' | hp'
      · have q := N' p (.tail _ (List.mem_append_left _ hp'))
        exact ⟨old _ _ q.1 (ho p hp'), q.2⟩
      · rcases List.mem_cons.mp hp' with rfl | hp'
        · exact ⟨hps, n30.2⟩
        · have q := N' p (.tail _ (List.mem_append_right _ (.tail _ hp')))
          exact ⟨old _ _ q.1 (hr p hp'), q.2⟩
end Mine
end
section
open PySem PySem.W PyProof.Rows PySem.W.X PySem.Calls Builtin
set_option Elab.async false
namespace Mine
set_option maxRecDepth 100000 in
set_option maxHeartbeats 8000000 in
set_option linter.unusedSimpArgs false in
theorem tnew {prog : Program} {w : World} {A : Around} {Q : Fin → Shared → Prop} {E : Value → Shared → Prop} {h : Heap} {g : Array GenState} {d : Drawn} {t : Nat} {os : OsState} {tn : Tok} {bT nsA sl f1 f2 f3 f4 f5 f6 st : Addr} {n : Nat}
   {h1 h2 h3 h4 h5 h6 h7 h8 h9 h10 h11 h12 : Int} {t1 t2 t3 t4 t5 t6 t7 t8 t9 t10 t11 t12 tm tq ti ts : Tok} {ln : Int} {md qn : Str} {es : List DictEntry}
   (hes : es = [ent h1 "__module__" t1 (.str md tm), ent h2 "__qualname__" t2 (.str qn tq), ent h3 "__firstlineno__" t3 (.int ln ti), ent h4 "__slots__" t4 (.ref sl), ent h5 "__init__" t5 (.ref f1), ent h6 "__lt__" t6 (.ref f2), ent h7 "__gt__" t7 (.ref f3), ent h8 "__eq__" t8 (.ref f4), ent h9 "__le__" t9 (.ref f5), ent h10 "__ge__" t10 (.ref f6), ent h11 "__hash__" t11 .none, ent h12 "__static_attributes__" t12 (.ref st)])
   (hT : h.get? bT = some { cls := .type "tuple", data := .seq #[.type "object"] 0 }) (hN : h.get? nsA = some { cls := .type "dict", data := .dict es.toArray n })
   (hL : h.get? sl = some { cls := .type "list", data := .seq #[.str "obj" ts] 0 })
   (hsm : (nsA == sysModules) = false) (k1 : FnAt h "function" f1) (k2 : FnAt h "function" f2) (k3 : FnAt h "function" f3) (k4 : FnAt h "function" f4) (k5 : FnAt h "function" f5) (k6 : FnAt h "function" f6) (ks : FnAt h "tuple" st) (hno : Looks (model prog w) h anyOpaqueLoaded false) (hqn : qn = Str.ofString "cmp_to_key.<locals>.K")
   (hQ : ∀ (m a N : Addr) (h' : Heap) (ho hd : Int) (t1' t2' t3' tk' : Tok) (n' : Nat), Mem h h' [] [(m, kmem t1' a), (a, kclsF bT tn tq qn N a), (N, kdict (kents h1 h3 h4 h5 h6 h7 h8 h9 h10 h11 h12 t1 t3 t4 t5 t6 t7 t8 t9 t10 t11 t12 tm ti ln md sl f1 f2 f3 f4 f5 f6 st ++ [ent ho "obj" t2' (.ref m), ent hd "__doc__" t3' .none]) n')] → Q (.done (.ret (.ref a))) ⟨h', g, d, tk', os⟩) :
   wpAny (model prog w) A (Builtin.«type.__new__» ⟨[.type "type", .str (Str.ofString "K") tn, .ref bT, .ref nsA], []⟩) Q E ⟨h, g, d, t, os⟩ := by
  have e1 : isSubtype (.type "tuple") (.type "tuple") = pure true := by rw [isSubtype_type]; kernel_rfl
  have e2 : isSubtype (.type "dict") (.type "dict") = pure true := by rw [isSubtype_type]; kernel_rfl
  have e3 : isSubtype (.type "type") (.type "type") = pure true := by rw [isSubtype_type]; kernel_rfl
  have e4 : isType (.type "object") = pure true := by kernel_rfl
  have e5 : typeOf (.type "object") = pure (.type "type") := by kernel_rfl
  have e6 : typeLookup (.type "dict") "__iter__" = pure (some (.builtin "dict.__iter__")) := by rw [typeLookup_type, builtinLookup_eq_fast]; kernel_rfl
  have e7 : (es.toArray.isEmpty || some (Value.builtin "dict.__iter__") == some (Value.builtin "dict.__iter__")) = true := by simp
  have e8 : (es.toArray.any fun x => x.key.isStr "__module__") = true := by rw [hes, List.any_toArray]; rfl
  have e9 : typeLookup (.type "type") "mro" = pure (some (.builtin "type.mro")) := by rw [typeLookup_type, builtinLookup_eq_fast]; kernel_rfl
  have e10 : linearize [.type "object"] mroOf = pure [.type "object"] := by kernel_rfl
  have a1 : ((Str.ofString "K").cps.any fun c => decide (55296 ≤ c) && decide (c ≤ 57343)) = false := by decide +kernel
  have a2 : (Str.ofString "K").cps.contains 0 = false := by decide +kernel
  have hsz : es.toArray.size ≤ sizeLine + 1 := by rw [hes, sizeLine_eq]; exact Nat.le_of_ble_eq_true rfl
  unfold Builtin.«type.__new__»
  wp_walk using wp_nota, wp_ext, stop_read
  rotate_left
  · rfl
  · rfl
  refine Blk.out ?_
  dsimp -zeta only [Option.getD, List.isEmpty, Bool.false_eq_true, if_false]
  refine slots_read (hh := h4) (tt := t4) (sl := sl) (ts := ts) ?_ ⟨_, hL, rfl, _, rfl⟩ hL ?_ ?_
  · rw [hes, List.find?_toArray]; rfl
  · rw [hes, List.any_toArray]; rfl
  intro h' hk
  have D : Mem h h' [] [] := ⟨fun b o e _ => hk b o e, fun _ hp => (nomatch hp), List.nodup_nil, fun _ hp => (nomatch hp), List.Pairwise.nil⟩
  clear hk
  subst hes
  iterate 70 (first
    | (first | ((with_reducible show wpAny _ _ (List.anyM _ _) _ _ _); refine Blk.mk ?_) | ((with_reducible show wpAny _ _ (mroHook? _) _ _ _); refine Blk.mk ?_) | ((with_reducible show wpAny _ _ (linearize _ _) _ _ _); refine Blk.mk ?_) | ((with_reducible show wpAny _ _ (Bind.refreshMaker _) _ _ _); refine Blk.mk ?_) | ((with_reducible show wpAny _ _ (Bind.madeBy _) _ _ _); refine Blk.mk ?_) | ((with_reducible show wpAny _ _ (Slots.install _ _ _ _) _ _ _); refine Blk.mk ?_) | ((with_reducible show wpAny _ _ (getAttr _ _) _ _ _); refine Blk.mk ?_) | ((with_reducible show wpAny _ _ (call _ _) _ _ _); refine Blk.mk ?_))
    | ((with_reducible refine' mm_ite_f ?hc ?_); (case hc => (simp only [e8, a1, a2, List.isEmpty_cons, List.isEmpty_nil, Option.isNone_some, Option.isNone_none, Option.isSome_some, Option.isSome_none, Bool.not_true, Bool.not_false, Bool.false_eq_true, decide_false, decide_true, Bool.or_false, Bool.false_or]; done)))
    | ((with_reducible refine' mm_ite_t ?hc ?_); (case hc => (simp only [e8, a1, a2, List.isEmpty_cons, List.isEmpty_nil, Option.isNone_some, Option.isNone_none, Option.isSome_some, Option.isSome_none, Bool.not_true, Bool.not_false, Bool.false_eq_true, decide_false, decide_true, Bool.or_false, Bool.false_or]; done)))
    | (first | ((with_reducible refine' mm_nsGet ?ho ?hl ?_); (case ho => ((rename Mem _ _ _ _ => D'; first | exact Mem.at D' 0 _ _ rfl | exact Mem.at D' 1 _ _ rfl | exact Mem.at D' 2 _ _ rfl | exact Mem.at D' 3 _ _ rfl | exact Mem.at D' 4 _ _ rfl | exact Mem.at D' 5 _ _ rfl | exact Mem.old D' _ _ (by assumption) rfl))); (case hl => rfl)) | ((with_reducible refine' mm_nsHas ?hl ?_); (case hl => rfl)) | ((with_reducible apply PySem.wpAny_loadPart'); focus (((rename Mem _ _ _ _ => D'; first | exact Mem.at D' 0 _ _ rfl | exact Mem.at D' 1 _ _ rfl | exact Mem.at D' 2 _ _ rfl | exact Mem.at D' 3 _ _ rfl | exact Mem.at D' 4 _ _ rfl | exact Mem.at D' 5 _ _ rfl | exact Mem.old D' _ _ (by assumption) rfl)))) | ((with_reducible apply PySem.wpAny_load'); focus (((rename Mem _ _ _ _ => D'; first | exact Mem.at D' 0 _ _ rfl | exact Mem.at D' 1 _ _ rfl | exact Mem.at D' 2 _ _ rfl | exact Mem.at D' 3 _ _ rfl | exact Mem.at D' 4 _ _ rfl | exact Mem.at D' 5 _ _ rfl | exact Mem.old D' _ _ (by assumption) rfl)))) | (rename Mem _ _ _ _ => D'; (with_reducible refine' mm_updatePart (i := 0) D' ?hi ?hf ?_); (case hi => rfl); (case hf => rfl); ((intro _ D9; (try dsimp only [List.set] at D9)))) | (rename Mem _ _ _ _ => D'; (with_reducible refine' mm_updatePart (i := 1) D' ?hi ?hf ?_); (case hi => rfl); (case hf => rfl); ((intro _ D9; (try dsimp only [List.set] at D9)))) | (rename Mem _ _ _ _ => D'; (with_reducible refine' mm_updatePart (i := 2) D' ?hi ?hf ?_); (case hi => rfl); (case hf => rfl); ((intro _ D9; (try dsimp only [List.set] at D9)))) | (rename Mem _ _ _ _ => D'; (with_reducible refine' mm_update (i := 0) D' ?hi ?hf ?_); (case hi => rfl); (case hf => rfl); ((intro _ D9; (try dsimp only [List.set] at D9)))) | (rename Mem _ _ _ _ => D'; (with_reducible refine' mm_update (i := 1) D' ?hi ?hf ?_); (case hi => rfl); (case hf => rfl); ((intro _ D9; (try dsimp only [List.set] at D9)))) | (rename Mem _ _ _ _ => D'; (with_reducible refine' mm_update (i := 2) D' ?hi ?hf ?_); (case hi => rfl); (case hf => rfl); ((intro _ D9; (try dsimp only [List.set] at D9)))) | (rename Mem _ _ _ _ => D'; (with_reducible refine' mm_newObj D' ?hf ?_ ?hz); (case hf => rfl); (case hz => first | (show _ ≤ sizeLine + 1; assumption) | (show _ ≤ sizeLine + 2; rw [sizeLine_eq]; exact Nat.le_of_ble_eq_true rfl)); intro _ _ D9) | (rename Mem _ _ _ _ => D'; (with_reducible refine' mm_alloc D' ?hf ?_); (case hf => rfl); intro _ _ D9)) | wp_step | skip)
  refine Blk.out ?_
  refine wpAny_of_eq tf_mroType ?_
  iterate 16 (first
    | (first | ((with_reducible show wpAny _ _ (Bind.refreshMaker _) _ _ _); refine Blk.mk ?_) | ((with_reducible show wpAny _ _ (getAttr _ _) _ _ _); refine Blk.mk ?_) | ((with_reducible show wpAny _ _ (call _ _) _ _ _); refine Blk.mk ?_))
    | ((with_reducible show wpAny _ _ (linearize _ _) _ _ _); refine wpAny_of_eq tf_lin ?_)
    | ((with_reducible show wpAny _ _ (List.anyM _ _) _ _ _); refine mm_anyM (v := .type "object") (tf_filter _) (congrArg (fun b => (pure b : Sem Bool)) tf_del) ?_)
    | ((with_reducible show wpAny _ _ (Bind.madeBy _) _ _ _); refine wpAny_of_eq tf_maker ?_)
    | ((with_reducible show wpAny _ _ (Slots.givesWeak _) _ _ _); refine wpAny_of_eq tf_weak ?_)
    | ((with_reducible show wpAny _ _ (Slots.givesDict _) _ _ _); refine wpAny_of_eq tf_dict ?_)
    | (first | (rename Mem _ _ _ _ => D'; (with_reducible refine' mm_updateCls (i := 0) D' ?hi ?hp ?_); (case hi => rfl); (case hp => rfl); ((intro _ D9; (try dsimp only [List.set] at D9)))) | (rename Mem _ _ _ _ => D'; (with_reducible refine' mm_updateCls (i := 1) D' ?hi ?hp ?_); (case hi => rfl); (case hp => rfl); ((intro _ D9; (try dsimp only [List.set] at D9)))) | (rename Mem _ _ _ _ => D'; (with_reducible refine' mm_updateCls (i := 2) D' ?hi ?hp ?_); (case hi => rfl); (case hp => rfl); ((intro _ D9; (try dsimp only [List.set] at D9)))))
    | ((with_reducible refine' mm_ite_f ?hc ?_); (case hc => (simp only [e8, a1, a2, List.isEmpty_cons, List.isEmpty_nil, Option.isNone_some, Option.isNone_none, Option.isSome_some, Option.isSome_none, Bool.not_true, Bool.not_false, Bool.false_eq_true, decide_false, decide_true, Bool.or_false, Bool.false_or]; done)))
    | ((with_reducible refine' mm_ite_t ?hc ?_); (case hc => (simp only [e8, a1, a2, List.isEmpty_cons, List.isEmpty_nil, Option.isNone_some, Option.isNone_none, Option.isSome_some, Option.isSome_none, Bool.not_true, Bool.not_false, Bool.false_eq_true, decide_false, decide_true, Bool.or_false, Bool.false_or]; done)))
    | (first | ((with_reducible refine' mm_nsGet ?ho ?hl ?_); (case ho => ((rename Mem _ _ _ _ => D'; first | exact Mem.at D' 0 _ _ rfl | exact Mem.at D' 1 _ _ rfl | exact Mem.at D' 2 _ _ rfl | exact Mem.at D' 3 _ _ rfl | exact Mem.at D' 4 _ _ rfl | exact Mem.at D' 5 _ _ rfl | exact Mem.old D' _ _ (by assumption) rfl))); (case hl => rfl)) | ((with_reducible refine' mm_nsHas ?hl ?_); (case hl => rfl)) | ((with_reducible apply PySem.wpAny_loadPart'); focus (((rename Mem _ _ _ _ => D'; first | exact Mem.at D' 0 _ _ rfl | exact Mem.at D' 1 _ _ rfl | exact Mem.at D' 2 _ _ rfl | exact Mem.at D' 3 _ _ rfl | exact Mem.at D' 4 _ _ rfl | exact Mem.at D' 5 _ _ rfl | exact Mem.old D' _ _ (by assumption) rfl)))) | ((with_reducible apply PySem.wpAny_load'); focus (((rename Mem _ _ _ _ => D'; first | exact Mem.at D' 0 _ _ rfl | exact Mem.at D' 1 _ _ rfl | exact Mem.at D' 2 _ _ rfl | exact Mem.at D' 3 _ _ rfl | exact Mem.at D' 4 _ _ rfl | exact Mem.at D' 5 _ _ rfl | exact Mem.old D' _ _ (by assumption) rfl)))) | (rename Mem _ _ _ _ => D'; (with_reducible refine' mm_updatePart (i := 0) D' ?hi ?hf ?_); (case hi => rfl); (case hf => rfl); ((intro _ D9; (try dsimp only [List.set] at D9)))) | (rename Mem _ _ _ _ => D'; (with_reducible refine' mm_updatePart (i := 1) D' ?hi ?hf ?_); (case hi => rfl); (case hf => rfl); ((intro _ D9; (try dsimp only [List.set] at D9)))) | (rename Mem _ _ _ _ => D'; (with_reducible refine' mm_updatePart (i := 2) D' ?hi ?hf ?_); (case hi => rfl); (case hf => rfl); ((intro _ D9; (try dsimp only [List.set] at D9)))) | (rename Mem _ _ _ _ => D'; (with_reducible refine' mm_update (i := 0) D' ?hi ?hf ?_); (case hi => rfl); (case hf => rfl); ((intro _ D9; (try dsimp only [List.set] at D9)))) | (rename Mem _ _ _ _ => D'; (with_reducible refine' mm_update (i := 1) D' ?hi ?hf ?_); (case hi => rfl); (case hf => rfl); ((intro _ D9; (try dsimp only [List.set] at D9)))) | (rename Mem _ _ _ _ => D'; (with_reducible refine' mm_update (i := 2) D' ?hi ?hf ?_); (case hi => rfl); (case hf => rfl); ((intro _ D9; (try dsimp only [List.set] at D9)))) | (rename Mem _ _ _ _ => D'; (with_reducible refine' mm_newObj D' ?hf ?_ ?hz); (case hf => rfl); (case hz => first | (show _ ≤ sizeLine + 1; assumption) | (show _ ≤ sizeLine + 2; rw [sizeLine_eq]; exact Nat.le_of_ble_eq_true rfl)); intro _ _ D9) | (rename Mem _ _ _ _ => D'; (with_reducible refine' mm_alloc D' ?hf ?_); (case hf => rfl); intro _ _ D9)) | wp_step | skip)
  refine Blk.out ?_
  rename Mem _ _ _ _ => D1
  have D2 := mem_to (kcls bT tn tq qn) D1 (by simp only [ns_del, Bool.or_false]; kernel_rfl) ns_drop
  clear D1
  refine mm_refresh (D2.at 0 _ _ rfl) rfl rfl (D2.at 1 _ _ rfl) (ns_none (by decide)) rfl ?_
  iterate 19 (first
    | ((with_reducible show wpAny _ _ (nsSetByValue _ _ _) _ _ _); refine Blk.mk ?_)
    | (first | ((with_reducible show wpAny _ _ (Bind.refreshMaker _) _ _ _); refine Blk.mk ?_) | ((with_reducible show wpAny _ _ (getAttr _ _) _ _ _); refine Blk.mk ?_) | ((with_reducible show wpAny _ _ (call _ _) _ _ _); refine Blk.mk ?_))
    | ((with_reducible show wpAny _ _ (Slots.givesWeak _) _ _ _); refine wpAny_of_eq tf_weak ?_)
    | ((with_reducible show wpAny _ _ (Slots.givesDict _) _ _ _); refine wpAny_of_eq tf_dict ?_)
    | ((with_reducible show wpAny _ _ (nsGet _ _) _ _ _); refine mm_nsGet (D2.at 1 _ _ rfl) (ns_none (by decide)) ?_)
    | (first | (rename Mem _ _ _ _ => D'; (with_reducible refine' mm_updateCls (i := 0) D' ?hi ?hp ?_); (case hi => rfl); (case hp => rfl); ((intro _ D9; (try dsimp only [List.set] at D9)))) | (rename Mem _ _ _ _ => D'; (with_reducible refine' mm_updateCls (i := 1) D' ?hi ?hp ?_); (case hi => rfl); (case hp => rfl); ((intro _ D9; (try dsimp only [List.set] at D9)))) | (rename Mem _ _ _ _ => D'; (with_reducible refine' mm_updateCls (i := 2) D' ?hi ?hp ?_); (case hi => rfl); (case hp => rfl); ((intro _ D9; (try dsimp only [List.set] at D9)))))
    | ((with_reducible refine' mm_ite_f ?hc ?_); (case hc => (simp only [List.isEmpty_cons, List.isEmpty_nil, Option.isNone_some, Option.isNone_none, Option.isSome_some, Option.isSome_none, Bool.not_true, Bool.not_false, Bool.false_eq_true, decide_false, decide_true, Bool.or_false, Bool.false_or]; done)))
    | ((with_reducible refine' mm_ite_t ?hc ?_); (case hc => (simp only [List.isEmpty_cons, List.isEmpty_nil, Option.isNone_some, Option.isNone_none, Option.isSome_some, Option.isSome_none, Bool.not_true, Bool.not_false, Bool.false_eq_true, decide_false, decide_true, Bool.or_false, Bool.false_or]; done)))
    | (first | ((with_reducible refine' mm_nsGet ?ho ?hl ?_); (case ho => ((rename Mem _ _ _ _ => D'; first | exact Mem.at D' 0 _ _ rfl | exact Mem.at D' 1 _ _ rfl | exact Mem.at D' 2 _ _ rfl | exact Mem.at D' 3 _ _ rfl | exact Mem.at D' 4 _ _ rfl | exact Mem.at D' 5 _ _ rfl | exact Mem.old D' _ _ (by assumption) rfl))); (case hl => rfl)) | ((with_reducible refine' mm_nsHas ?hl ?_); (case hl => rfl)) | ((with_reducible apply PySem.wpAny_loadPart'); focus (((rename Mem _ _ _ _ => D'; first | exact Mem.at D' 0 _ _ rfl | exact Mem.at D' 1 _ _ rfl | exact Mem.at D' 2 _ _ rfl | exact Mem.at D' 3 _ _ rfl | exact Mem.at D' 4 _ _ rfl | exact Mem.at D' 5 _ _ rfl | exact Mem.old D' _ _ (by assumption) rfl)))) | ((with_reducible apply PySem.wpAny_load'); focus (((rename Mem _ _ _ _ => D'; first | exact Mem.at D' 0 _ _ rfl | exact Mem.at D' 1 _ _ rfl | exact Mem.at D' 2 _ _ rfl | exact Mem.at D' 3 _ _ rfl | exact Mem.at D' 4 _ _ rfl | exact Mem.at D' 5 _ _ rfl | exact Mem.old D' _ _ (by assumption) rfl)))) | (rename Mem _ _ _ _ => D'; (with_reducible refine' mm_updatePart (i := 0) D' ?hi ?hf ?_); (case hi => rfl); (case hf => rfl); ((intro _ D9; (try dsimp only [List.set] at D9)))) | (rename Mem _ _ _ _ => D'; (with_reducible refine' mm_updatePart (i := 1) D' ?hi ?hf ?_); (case hi => rfl); (case hf => rfl); ((intro _ D9; (try dsimp only [List.set] at D9)))) | (rename Mem _ _ _ _ => D'; (with_reducible refine' mm_updatePart (i := 2) D' ?hi ?hf ?_); (case hi => rfl); (case hf => rfl); ((intro _ D9; (try dsimp only [List.set] at D9)))) | (rename Mem _ _ _ _ => D'; (with_reducible refine' mm_update (i := 0) D' ?hi ?hf ?_); (case hi => rfl); (case hf => rfl); ((intro _ D9; (try dsimp only [List.set] at D9)))) | (rename Mem _ _ _ _ => D'; (with_reducible refine' mm_update (i := 1) D' ?hi ?hf ?_); (case hi => rfl); (case hf => rfl); ((intro _ D9; (try dsimp only [List.set] at D9)))) | (rename Mem _ _ _ _ => D'; (with_reducible refine' mm_update (i := 2) D' ?hi ?hf ?_); (case hi => rfl); (case hf => rfl); ((intro _ D9; (try dsimp only [List.set] at D9)))) | (rename Mem _ _ _ _ => D'; (with_reducible refine' mm_newObj D' ?hf ?_ ?hz); (case hf => rfl); (case hz => first | (show _ ≤ sizeLine + 1; assumption) | (show _ ≤ sizeLine + 2; rw [sizeLine_eq]; exact Nat.le_of_ble_eq_true rfl)); intro _ _ D9) | (rename Mem _ _ _ _ => D'; (with_reducible refine' mm_alloc D' ?hf ?_); (case hf => rfl); intro _ _ D9)) | wp_step | skip)
  refine Blk.out ?_
  rename Mem _ _ _ _ => D3
  refine mm_nsSetByValue (i := 2) D3 rfl (decide_eq_false (by rw [sizeLine_eq]; exact Nat.not_lt.mpr (Nat.le_of_ble_eq_true rfl))) key_obj put_obj (fun _ _ => rfl) ?_
  intro h4 hho D4
  dsimp only [List.set] at D4
  clear D3
  iterate 12 (first
    | (first | ((with_reducible show wpAny _ _ (Bind.refreshMaker _) _ _ _); refine Blk.mk ?_) | ((with_reducible show wpAny _ _ (getAttr _ _) _ _ _); refine Blk.mk ?_) | ((with_reducible show wpAny _ _ (call _ _) _ _ _); refine Blk.mk ?_))
    | ((with_reducible show wpAny _ _ (Slots.givesWeak _) _ _ _); refine wpAny_of_eq tf_weak ?_)
    | ((with_reducible show wpAny _ _ (Slots.givesDict _) _ _ _); refine wpAny_of_eq tf_dict ?_)
    | ((with_reducible show wpAny _ _ (nsSet _ _ _) _ _ _); refine Blk.mk ?_)
    | (first | (rename Mem _ _ _ _ => D'; (with_reducible refine' mm_updateCls (i := 0) D' ?hi ?hp ?_); (case hi => rfl); (case hp => rfl); ((intro _ D9; (try dsimp only [List.set] at D9)))) | (rename Mem _ _ _ _ => D'; (with_reducible refine' mm_updateCls (i := 1) D' ?hi ?hp ?_); (case hi => rfl); (case hp => rfl); ((intro _ D9; (try dsimp only [List.set] at D9)))) | (rename Mem _ _ _ _ => D'; (with_reducible refine' mm_updateCls (i := 2) D' ?hi ?hp ?_); (case hi => rfl); (case hp => rfl); ((intro _ D9; (try dsimp only [List.set] at D9)))))
    | ((with_reducible refine' mm_ite_f ?hc ?_); (case hc => (simp only [List.isEmpty_cons, List.isEmpty_nil, Option.isNone_some, Option.isNone_none, Option.isSome_some, Option.isSome_none, Bool.not_true, Bool.not_false, Bool.false_eq_true, decide_false, decide_true, Bool.or_false, Bool.false_or]; done)))
    | ((with_reducible refine' mm_ite_t ?hc ?_); (case hc => (simp only [List.isEmpty_cons, List.isEmpty_nil, Option.isNone_some, Option.isNone_none, Option.isSome_some, Option.isSome_none, Bool.not_true, Bool.not_false, Bool.false_eq_true, decide_false, decide_true, Bool.or_false, Bool.false_or]; done)))
    | (first | ((with_reducible refine' mm_nsGet ?ho ?hl ?_); (case ho => ((rename Mem _ _ _ _ => D'; first | exact Mem.at D' 0 _ _ rfl | exact Mem.at D' 1 _ _ rfl | exact Mem.at D' 2 _ _ rfl | exact Mem.at D' 3 _ _ rfl | exact Mem.at D' 4 _ _ rfl | exact Mem.at D' 5 _ _ rfl | exact Mem.old D' _ _ (by assumption) rfl))); (case hl => rfl)) | ((with_reducible refine' mm_nsHas ?hl ?_); (case hl => rfl)) | ((with_reducible apply PySem.wpAny_loadPart'); focus (((rename Mem _ _ _ _ => D'; first | exact Mem.at D' 0 _ _ rfl | exact Mem.at D' 1 _ _ rfl | exact Mem.at D' 2 _ _ rfl | exact Mem.at D' 3 _ _ rfl | exact Mem.at D' 4 _ _ rfl | exact Mem.at D' 5 _ _ rfl | exact Mem.old D' _ _ (by assumption) rfl)))) | ((with_reducible apply PySem.wpAny_load'); focus (((rename Mem _ _ _ _ => D'; first | exact Mem.at D' 0 _ _ rfl | exact Mem.at D' 1 _ _ rfl | exact Mem.at D' 2 _ _ rfl | exact Mem.at D' 3 _ _ rfl | exact Mem.at D' 4 _ _ rfl | exact Mem.at D' 5 _ _ rfl | exact Mem.old D' _ _ (by assumption) rfl)))) | (rename Mem _ _ _ _ => D'; (with_reducible refine' mm_updatePart (i := 0) D' ?hi ?hf ?_); (case hi => rfl); (case hf => rfl); ((intro _ D9; (try dsimp only [List.set] at D9)))) | (rename Mem _ _ _ _ => D'; (with_reducible refine' mm_updatePart (i := 1) D' ?hi ?hf ?_); (case hi => rfl); (case hf => rfl); ((intro _ D9; (try dsimp only [List.set] at D9)))) | (rename Mem _ _ _ _ => D'; (with_reducible refine' mm_updatePart (i := 2) D' ?hi ?hf ?_); (case hi => rfl); (case hf => rfl); ((intro _ D9; (try dsimp only [List.set] at D9)))) | (rename Mem _ _ _ _ => D'; (with_reducible refine' mm_update (i := 0) D' ?hi ?hf ?_); (case hi => rfl); (case hf => rfl); ((intro _ D9; (try dsimp only [List.set] at D9)))) | (rename Mem _ _ _ _ => D'; (with_reducible refine' mm_update (i := 1) D' ?hi ?hf ?_); (case hi => rfl); (case hf => rfl); ((intro _ D9; (try dsimp only [List.set] at D9)))) | (rename Mem _ _ _ _ => D'; (with_reducible refine' mm_update (i := 2) D' ?hi ?hf ?_); (case hi => rfl); (case hf => rfl); ((intro _ D9; (try dsimp only [List.set] at D9)))) | (rename Mem _ _ _ _ => D'; (with_reducible refine' mm_newObj D' ?hf ?_ ?hz); (case hf => rfl); (case hz => first | (show _ ≤ sizeLine + 1; assumption) | (show _ ≤ sizeLine + 2; rw [sizeLine_eq]; exact Nat.le_of_ble_eq_true rfl)); intro _ _ D9) | (rename Mem _ _ _ _ => D'; (with_reducible refine' mm_alloc D' ?hf ?_); (case hf => rfl); intro _ _ D9)) | wp_step | skip)
  iterate 3 (first | (first | ((with_reducible show wpAny _ _ (Slots.givesWeak _) _ _ _); refine wpAny_of_eq tf_weak ?_) | ((with_reducible show wpAny _ _ (Slots.givesDict _) _ _ _); refine wpAny_of_eq tf_dict ?_)) | (first | ((with_reducible refine' mm_ite_f ?hc ?_); (case hc => (simp only [List.isEmpty_cons, List.isEmpty_nil, Option.isNone_some, Option.isNone_none, Option.isSome_some, Option.isSome_none, Bool.not_true, Bool.not_false, Bool.false_eq_true, decide_false, decide_true, Bool.or_false, Bool.false_or]; done))) | ((with_reducible refine' mm_ite_t ?hc ?_); (case hc => (simp only [List.isEmpty_cons, List.isEmpty_nil, Option.isNone_some, Option.isNone_none, Option.isSome_some, Option.isSome_none, Bool.not_true, Bool.not_false, Bool.false_eq_true, decide_false, decide_true, Bool.or_false, Bool.false_or]; done)))) | (first | (rename Mem _ _ _ _ => D'; (with_reducible refine' mm_updateCls (i := 0) D' ?hi ?hp ?_); (case hi => rfl); (case hp => rfl); ((intro _ D9; (try dsimp only [List.set] at D9)))) | (rename Mem _ _ _ _ => D'; (with_reducible refine' mm_updateCls (i := 1) D' ?hi ?hp ?_); (case hi => rfl); (case hp => rfl); ((intro _ D9; (try dsimp only [List.set] at D9)))) | (rename Mem _ _ _ _ => D'; (with_reducible refine' mm_updateCls (i := 2) D' ?hi ?hp ?_); (case hi => rfl); (case hp => rfl); ((intro _ D9; (try dsimp only [List.set] at D9))))) | (first | ((with_reducible refine' mm_nsGet ?ho ?hl ?_); (case ho => ((rename Mem _ _ _ _ => D'; first | exact Mem.at D' 0 _ _ rfl | exact Mem.at D' 1 _ _ rfl | exact Mem.at D' 2 _ _ rfl | exact Mem.at D' 3 _ _ rfl | exact Mem.at D' 4 _ _ rfl | exact Mem.at D' 5 _ _ rfl | exact Mem.old D' _ _ (by assumption) rfl))); (case hl => rfl)) | ((with_reducible refine' mm_nsHas ?hl ?_); (case hl => rfl)) | ((with_reducible apply PySem.wpAny_loadPart'); focus (((rename Mem _ _ _ _ => D'; first | exact Mem.at D' 0 _ _ rfl | exact Mem.at D' 1 _ _ rfl | exact Mem.at D' 2 _ _ rfl | exact Mem.at D' 3 _ _ rfl | exact Mem.at D' 4 _ _ rfl | exact Mem.at D' 5 _ _ rfl | exact Mem.old D' _ _ (by assumption) rfl)))) | ((with_reducible apply PySem.wpAny_load'); focus (((rename Mem _ _ _ _ => D'; first | exact Mem.at D' 0 _ _ rfl | exact Mem.at D' 1 _ _ rfl | exact Mem.at D' 2 _ _ rfl | exact Mem.at D' 3 _ _ rfl | exact Mem.at D' 4 _ _ rfl | exact Mem.at D' 5 _ _ rfl | exact Mem.old D' _ _ (by assumption) rfl)))) | (rename Mem _ _ _ _ => D'; (with_reducible refine' mm_updatePart (i := 0) D' ?hi ?hf ?_); (case hi => rfl); (case hf => rfl); ((intro _ D9; (try dsimp only [List.set] at D9)))) | (rename Mem _ _ _ _ => D'; (with_reducible refine' mm_updatePart (i := 1) D' ?hi ?hf ?_); (case hi => rfl); (case hf => rfl); ((intro _ D9; (try dsimp only [List.set] at D9)))) | (rename Mem _ _ _ _ => D'; (with_reducible refine' mm_updatePart (i := 2) D' ?hi ?hf ?_); (case hi => rfl); (case hf => rfl); ((intro _ D9; (try dsimp only [List.set] at D9)))) | (rename Mem _ _ _ _ => D'; (with_reducible refine' mm_update (i := 0) D' ?hi ?hf ?_); (case hi => rfl); (case hf => rfl); ((intro _ D9; (try dsimp only [List.set] at D9)))) | (rename Mem _ _ _ _ => D'; (with_reducible refine' mm_update (i := 1) D' ?hi ?hf ?_); (case hi => rfl); (case hf => rfl); ((intro _ D9; (try dsimp only [List.set] at D9)))) | (rename Mem _ _ _ _ => D'; (with_reducible refine' mm_update (i := 2) D' ?hi ?hf ?_); (case hi => rfl); (case hf => rfl); ((intro _ D9; (try dsimp only [List.set] at D9)))) | (rename Mem _ _ _ _ => D'; (with_reducible refine' mm_newObj D' ?hf ?_ ?hz); (case hf => rfl); (case hz => first | (show _ ≤ sizeLine + 1; assumption) | (show _ ≤ sizeLine + 2; rw [sizeLine_eq]; exact Nat.le_of_ble_eq_true rfl)); intro _ _ D9) | (rename Mem _ _ _ _ => D'; (with_reducible refine' mm_alloc D' ?hf ?_); (case hf => rfl); intro _ _ D9)) | wp_step | skip)
  ((rename Mem _ _ _ _ => D0; revert D0; (repeat (rename Mem _ _ _ _ => Dz; clear Dz)); intro D0))
  clear hN e7 e8 hsz a1 a2 e10 e9 e6 e2 e3
  iterate 6 ((first | (first | ((with_reducible show wpAny _ _ (Slots.givesWeak _) _ _ _); refine wpAny_of_eq tf_weak ?_) | ((with_reducible show wpAny _ _ (Slots.givesDict _) _ _ _); refine wpAny_of_eq tf_dict ?_)) | (first | ((with_reducible refine' mm_ite_f ?hc ?_); (case hc => (simp only [List.isEmpty_cons, List.isEmpty_nil, Option.isNone_some, Option.isNone_none, Option.isSome_some, Option.isSome_none, Bool.not_true, Bool.not_false, Bool.false_eq_true, decide_false, decide_true, Bool.or_false, Bool.false_or]; done))) | ((with_reducible refine' mm_ite_t ?hc ?_); (case hc => (simp only [List.isEmpty_cons, List.isEmpty_nil, Option.isNone_some, Option.isNone_none, Option.isSome_some, Option.isSome_none, Bool.not_true, Bool.not_false, Bool.false_eq_true, decide_false, decide_true, Bool.or_false, Bool.false_or]; done)))) | (((with_reducible refine' mm_ite_f ?hc ?_); (case hc => exact decide_eq_false (by rw [sizeLine_eq]; exact Nat.not_lt.mpr (Nat.le_of_ble_eq_true rfl))))) | (first | (rename Mem _ _ _ _ => D'; (with_reducible refine' mm_updateCls (i := 0) D' ?hi ?hp ?_); (case hi => rfl); (case hp => rfl); ((intro _ D9; (try dsimp only [List.set] at D9)))) | (rename Mem _ _ _ _ => D'; (with_reducible refine' mm_updateCls (i := 1) D' ?hi ?hp ?_); (case hi => rfl); (case hp => rfl); ((intro _ D9; (try dsimp only [List.set] at D9)))) | (rename Mem _ _ _ _ => D'; (with_reducible refine' mm_updateCls (i := 2) D' ?hi ?hp ?_); (case hi => rfl); (case hp => rfl); ((intro _ D9; (try dsimp only [List.set] at D9))))) | (first | ((with_reducible refine' mm_nsGet ?ho ?hl ?_); (case ho => ((rename Mem _ _ _ _ => D'; first | exact Mem.at D' 0 _ _ rfl | exact Mem.at D' 1 _ _ rfl | exact Mem.at D' 2 _ _ rfl | exact Mem.at D' 3 _ _ rfl | exact Mem.at D' 4 _ _ rfl | exact Mem.at D' 5 _ _ rfl | exact Mem.old D' _ _ (by assumption) rfl))); (case hl => rfl)) | ((with_reducible refine' mm_nsHas ?hl ?_); (case hl => rfl)) | ((with_reducible apply PySem.wpAny_loadPart'); focus (((rename Mem _ _ _ _ => D'; first | exact Mem.at D' 0 _ _ rfl | exact Mem.at D' 1 _ _ rfl | exact Mem.at D' 2 _ _ rfl | exact Mem.at D' 3 _ _ rfl | exact Mem.at D' 4 _ _ rfl | exact Mem.at D' 5 _ _ rfl | exact Mem.old D' _ _ (by assumption) rfl)))) | ((with_reducible apply PySem.wpAny_load'); focus (((rename Mem _ _ _ _ => D'; first | exact Mem.at D' 0 _ _ rfl | exact Mem.at D' 1 _ _ rfl | exact Mem.at D' 2 _ _ rfl | exact Mem.at D' 3 _ _ rfl | exact Mem.at D' 4 _ _ rfl | exact Mem.at D' 5 _ _ rfl | exact Mem.old D' _ _ (by assumption) rfl)))) | (rename Mem _ _ _ _ => D'; (with_reducible refine' mm_updatePart (i := 0) D' ?hi ?hf ?_); (case hi => rfl); (case hf => rfl); ((intro _ D9; (try dsimp only [List.set] at D9)))) | (rename Mem _ _ _ _ => D'; (with_reducible refine' mm_updatePart (i := 1) D' ?hi ?hf ?_); (case hi => rfl); (case hf => rfl); ((intro _ D9; (try dsimp only [List.set] at D9)))) | (rename Mem _ _ _ _ => D'; (with_reducible refine' mm_updatePart (i := 2) D' ?hi ?hf ?_); (case hi => rfl); (case hf => rfl); ((intro _ D9; (try dsimp only [List.set] at D9)))) | (rename Mem _ _ _ _ => D'; (with_reducible refine' mm_update (i := 0) D' ?hi ?hf ?_); (case hi => rfl); (case hf => rfl); ((intro _ D9; (try dsimp only [List.set] at D9)))) | (rename Mem _ _ _ _ => D'; (with_reducible refine' mm_update (i := 1) D' ?hi ?hf ?_); (case hi => rfl); (case hf => rfl); ((intro _ D9; (try dsimp only [List.set] at D9)))) | (rename Mem _ _ _ _ => D'; (with_reducible refine' mm_update (i := 2) D' ?hi ?hf ?_); (case hi => rfl); (case hf => rfl); ((intro _ D9; (try dsimp only [List.set] at D9)))) | (rename Mem _ _ _ _ => D'; (with_reducible refine' mm_newObj D' ?hf ?_ ?hz); (case hf => rfl); (case hz => first | (show _ ≤ sizeLine + 1; assumption) | (show _ ≤ sizeLine + 2; rw [sizeLine_eq]; exact Nat.le_of_ble_eq_true rfl)); intro _ _ D9) | (rename Mem _ _ _ _ => D'; (with_reducible refine' mm_alloc D' ?hf ?_); (case hf => rfl); intro _ _ D9)) | wp_step | skip))
  ((rename Mem _ _ _ _ => D0; revert D0; (repeat (rename Mem _ _ _ _ => Dz; clear Dz)); intro D0))
  iterate 7 ((first | (first | ((with_reducible show wpAny _ _ (Slots.givesWeak _) _ _ _); refine wpAny_of_eq tf_weak ?_) | ((with_reducible show wpAny _ _ (Slots.givesDict _) _ _ _); refine wpAny_of_eq tf_dict ?_)) | (first | ((with_reducible refine' mm_ite_f ?hc ?_); (case hc => (simp only [List.isEmpty_cons, List.isEmpty_nil, Option.isNone_some, Option.isNone_none, Option.isSome_some, Option.isSome_none, Bool.not_true, Bool.not_false, Bool.false_eq_true, decide_false, decide_true, Bool.or_false, Bool.false_or]; done))) | ((with_reducible refine' mm_ite_t ?hc ?_); (case hc => (simp only [List.isEmpty_cons, List.isEmpty_nil, Option.isNone_some, Option.isNone_none, Option.isSome_some, Option.isSome_none, Bool.not_true, Bool.not_false, Bool.false_eq_true, decide_false, decide_true, Bool.or_false, Bool.false_or]; done)))) | (((with_reducible refine' mm_ite_f ?hc ?_); (case hc => exact decide_eq_false (by rw [sizeLine_eq]; exact Nat.not_lt.mpr (Nat.le_of_ble_eq_true rfl))))) | (first | (rename Mem _ _ _ _ => D'; (with_reducible refine' mm_updateCls (i := 0) D' ?hi ?hp ?_); (case hi => rfl); (case hp => rfl); ((intro _ D9; (try dsimp only [List.set] at D9)))) | (rename Mem _ _ _ _ => D'; (with_reducible refine' mm_updateCls (i := 1) D' ?hi ?hp ?_); (case hi => rfl); (case hp => rfl); ((intro _ D9; (try dsimp only [List.set] at D9)))) | (rename Mem _ _ _ _ => D'; (with_reducible refine' mm_updateCls (i := 2) D' ?hi ?hp ?_); (case hi => rfl); (case hp => rfl); ((intro _ D9; (try dsimp only [List.set] at D9))))) | (first | ((with_reducible refine' mm_nsGet ?ho ?hl ?_); (case ho => ((rename Mem _ _ _ _ => D'; first | exact Mem.at D' 0 _ _ rfl | exact Mem.at D' 1 _ _ rfl | exact Mem.at D' 2 _ _ rfl | exact Mem.at D' 3 _ _ rfl | exact Mem.at D' 4 _ _ rfl | exact Mem.at D' 5 _ _ rfl | exact Mem.old D' _ _ (by assumption) rfl))); (case hl => rfl)) | ((with_reducible refine' mm_nsHas ?hl ?_); (case hl => rfl)) | ((with_reducible apply PySem.wpAny_loadPart'); focus (((rename Mem _ _ _ _ => D'; first | exact Mem.at D' 0 _ _ rfl | exact Mem.at D' 1 _ _ rfl | exact Mem.at D' 2 _ _ rfl | exact Mem.at D' 3 _ _ rfl | exact Mem.at D' 4 _ _ rfl | exact Mem.at D' 5 _ _ rfl | exact Mem.old D' _ _ (by assumption) rfl)))) | ((with_reducible apply PySem.wpAny_load'); focus (((rename Mem _ _ _ _ => D'; first | exact Mem.at D' 0 _ _ rfl | exact Mem.at D' 1 _ _ rfl | exact Mem.at D' 2 _ _ rfl | exact Mem.at D' 3 _ _ rfl | exact Mem.at D' 4 _ _ rfl | exact Mem.at D' 5 _ _ rfl | exact Mem.old D' _ _ (by assumption) rfl)))) | (rename Mem _ _ _ _ => D'; (with_reducible refine' mm_updatePart (i := 0) D' ?hi ?hf ?_); (case hi => rfl); (case hf => rfl); ((intro _ D9; (try dsimp only [List.set] at D9)))) | (rename Mem _ _ _ _ => D'; (with_reducible refine' mm_updatePart (i := 1) D' ?hi ?hf ?_); (case hi => rfl); (case hf => rfl); ((intro _ D9; (try dsimp only [List.set] at D9)))) | (rename Mem _ _ _ _ => D'; (with_reducible refine' mm_updatePart (i := 2) D' ?hi ?hf ?_); (case hi => rfl); (case hf => rfl); ((intro _ D9; (try dsimp only [List.set] at D9)))) | (rename Mem _ _ _ _ => D'; (with_reducible refine' mm_update (i := 0) D' ?hi ?hf ?_); (case hi => rfl); (case hf => rfl); ((intro _ D9; (try dsimp only [List.set] at D9)))) | (rename Mem _ _ _ _ => D'; (with_reducible refine' mm_update (i := 1) D' ?hi ?hf ?_); (case hi => rfl); (case hf => rfl); ((intro _ D9; (try dsimp only [List.set] at D9)))) | (rename Mem _ _ _ _ => D'; (with_reducible refine' mm_update (i := 2) D' ?hi ?hf ?_); (case hi => rfl); (case hf => rfl); ((intro _ D9; (try dsimp only [List.set] at D9)))) | (rename Mem _ _ _ _ => D'; (with_reducible refine' mm_newObj D' ?hf ?_ ?hz); (case hf => rfl); (case hz => first | (show _ ≤ sizeLine + 1; assumption) | (show _ ≤ sizeLine + 2; rw [sizeLine_eq]; exact Nat.le_of_ble_eq_true rfl)); intro _ _ D9) | (rename Mem _ _ _ _ => D'; (with_reducible refine' mm_alloc D' ?hf ?_); (case hf => rfl); intro _ _ D9)) | wp_step | skip))
  ((rename Mem _ _ _ _ => D0; revert D0; (repeat (rename Mem _ _ _ _ => Dz; clear Dz)); intro D0))
  rename Mem _ _ _ _ => D0
  refine mm_nsGet (D0.at 2 _ _ rfl) doc_none ?_
  iterate 2 ((first | (first | ((with_reducible show wpAny _ _ (Slots.givesWeak _) _ _ _); refine wpAny_of_eq tf_weak ?_) | ((with_reducible show wpAny _ _ (Slots.givesDict _) _ _ _); refine wpAny_of_eq tf_dict ?_)) | (first | ((with_reducible refine' mm_ite_f ?hc ?_); (case hc => (simp only [List.isEmpty_cons, List.isEmpty_nil, Option.isNone_some, Option.isNone_none, Option.isSome_some, Option.isSome_none, Bool.not_true, Bool.not_false, Bool.false_eq_true, decide_false, decide_true, Bool.or_false, Bool.false_or]; done))) | ((with_reducible refine' mm_ite_t ?hc ?_); (case hc => (simp only [List.isEmpty_cons, List.isEmpty_nil, Option.isNone_some, Option.isNone_none, Option.isSome_some, Option.isSome_none, Bool.not_true, Bool.not_false, Bool.false_eq_true, decide_false, decide_true, Bool.or_false, Bool.false_or]; done)))) | (((with_reducible refine' mm_ite_f ?hc ?_); (case hc => exact decide_eq_false (by rw [sizeLine_eq]; exact Nat.not_lt.mpr (Nat.le_of_ble_eq_true rfl))))) | (first | (rename Mem _ _ _ _ => D'; (with_reducible refine' mm_updateCls (i := 0) D' ?hi ?hp ?_); (case hi => rfl); (case hp => rfl); ((intro _ D9; (try dsimp only [List.set] at D9)))) | (rename Mem _ _ _ _ => D'; (with_reducible refine' mm_updateCls (i := 1) D' ?hi ?hp ?_); (case hi => rfl); (case hp => rfl); ((intro _ D9; (try dsimp only [List.set] at D9)))) | (rename Mem _ _ _ _ => D'; (with_reducible refine' mm_updateCls (i := 2) D' ?hi ?hp ?_); (case hi => rfl); (case hp => rfl); ((intro _ D9; (try dsimp only [List.set] at D9))))) | (first | ((with_reducible refine' mm_nsGet ?ho ?hl ?_); (case ho => ((rename Mem _ _ _ _ => D'; first | exact Mem.at D' 0 _ _ rfl | exact Mem.at D' 1 _ _ rfl | exact Mem.at D' 2 _ _ rfl | exact Mem.at D' 3 _ _ rfl | exact Mem.at D' 4 _ _ rfl | exact Mem.at D' 5 _ _ rfl | exact Mem.old D' _ _ (by assumption) rfl))); (case hl => rfl)) | ((with_reducible refine' mm_nsHas ?hl ?_); (case hl => rfl)) | ((with_reducible apply PySem.wpAny_loadPart'); focus (((rename Mem _ _ _ _ => D'; first | exact Mem.at D' 0 _ _ rfl | exact Mem.at D' 1 _ _ rfl | exact Mem.at D' 2 _ _ rfl | exact Mem.at D' 3 _ _ rfl | exact Mem.at D' 4 _ _ rfl | exact Mem.at D' 5 _ _ rfl | exact Mem.old D' _ _ (by assumption) rfl)))) | ((with_reducible apply PySem.wpAny_load'); focus (((rename Mem _ _ _ _ => D'; first | exact Mem.at D' 0 _ _ rfl | exact Mem.at D' 1 _ _ rfl | exact Mem.at D' 2 _ _ rfl | exact Mem.at D' 3 _ _ rfl | exact Mem.at D' 4 _ _ rfl | exact Mem.at D' 5 _ _ rfl | exact Mem.old D' _ _ (by assumption) rfl)))) | (rename Mem _ _ _ _ => D'; (with_reducible refine' mm_updatePart (i := 0) D' ?hi ?hf ?_); (case hi => rfl); (case hf => rfl); ((intro _ D9; (try dsimp only [List.set] at D9)))) | (rename Mem _ _ _ _ => D'; (with_reducible refine' mm_updatePart (i := 1) D' ?hi ?hf ?_); (case hi => rfl); (case hf => rfl); ((intro _ D9; (try dsimp only [List.set] at D9)))) | (rename Mem _ _ _ _ => D'; (with_reducible refine' mm_updatePart (i := 2) D' ?hi ?hf ?_); (case hi => rfl); (case hf => rfl); ((intro _ D9; (try dsimp only [List.set] at D9)))) | (rename Mem _ _ _ _ => D'; (with_reducible refine' mm_update (i := 0) D' ?hi ?hf ?_); (case hi => rfl); (case hf => rfl); ((intro _ D9; (try dsimp only [List.set] at D9)))) | (rename Mem _ _ _ _ => D'; (with_reducible refine' mm_update (i := 1) D' ?hi ?hf ?_); (case hi => rfl); (case hf => rfl); ((intro _ D9; (try dsimp only [List.set] at D9)))) | (rename Mem _ _ _ _ => D'; (with_reducible refine' mm_update (i := 2) D' ?hi ?hf ?_); (case hi => rfl); (case hf => rfl); ((intro _ D9; (try dsimp only [List.set] at D9)))) | (rename Mem _ _ _ _ => D'; (with_reducible refine' mm_newObj D' ?hf ?_ ?hz); (case hf => rfl); (case hz => first | (show _ ≤ sizeLine + 1; assumption) | (show _ ≤ sizeLine + 2; rw [sizeLine_eq]; exact Nat.le_of_ble_eq_true rfl)); intro _ _ D9) | (rename Mem _ _ _ _ => D'; (with_reducible refine' mm_alloc D' ?hf ?_); (case hf => rfl); intro _ _ D9)) | wp_step | skip))
  refine mm_nsSet (i := 2) D0 rfl key_doc put_doc (fun _ _ => rfl) ?_
  intro h5 hhd D5
  dsimp only [List.set] at D5
  clear D0
  wp_step
  refine mm_nsGet (D5.at 2 _ _ rfl) eq_some ?_
  iterate 2 ((first | (first | ((with_reducible show wpAny _ _ (Slots.givesWeak _) _ _ _); refine wpAny_of_eq tf_weak ?_) | ((with_reducible show wpAny _ _ (Slots.givesDict _) _ _ _); refine wpAny_of_eq tf_dict ?_)) | (first | ((with_reducible refine' mm_ite_f ?hc ?_); (case hc => (simp only [List.isEmpty_cons, List.isEmpty_nil, Option.isNone_some, Option.isNone_none, Option.isSome_some, Option.isSome_none, Bool.not_true, Bool.not_false, Bool.false_eq_true, decide_false, decide_true, Bool.or_false, Bool.false_or]; done))) | ((with_reducible refine' mm_ite_t ?hc ?_); (case hc => (simp only [List.isEmpty_cons, List.isEmpty_nil, Option.isNone_some, Option.isNone_none, Option.isSome_some, Option.isSome_none, Bool.not_true, Bool.not_false, Bool.false_eq_true, decide_false, decide_true, Bool.or_false, Bool.false_or]; done)))) | (((with_reducible refine' mm_ite_f ?hc ?_); (case hc => exact decide_eq_false (by rw [sizeLine_eq]; exact Nat.not_lt.mpr (Nat.le_of_ble_eq_true rfl))))) | (first | (rename Mem _ _ _ _ => D'; (with_reducible refine' mm_updateCls (i := 0) D' ?hi ?hp ?_); (case hi => rfl); (case hp => rfl); ((intro _ D9; (try dsimp only [List.set] at D9)))) | (rename Mem _ _ _ _ => D'; (with_reducible refine' mm_updateCls (i := 1) D' ?hi ?hp ?_); (case hi => rfl); (case hp => rfl); ((intro _ D9; (try dsimp only [List.set] at D9)))) | (rename Mem _ _ _ _ => D'; (with_reducible refine' mm_updateCls (i := 2) D' ?hi ?hp ?_); (case hi => rfl); (case hp => rfl); ((intro _ D9; (try dsimp only [List.set] at D9))))) | (first | ((with_reducible refine' mm_nsGet ?ho ?hl ?_); (case ho => ((rename Mem _ _ _ _ => D'; first | exact Mem.at D' 0 _ _ rfl | exact Mem.at D' 1 _ _ rfl | exact Mem.at D' 2 _ _ rfl | exact Mem.at D' 3 _ _ rfl | exact Mem.at D' 4 _ _ rfl | exact Mem.at D' 5 _ _ rfl | exact Mem.old D' _ _ (by assumption) rfl))); (case hl => rfl)) | ((with_reducible refine' mm_nsHas ?hl ?_); (case hl => rfl)) | ((with_reducible apply PySem.wpAny_loadPart'); focus (((rename Mem _ _ _ _ => D'; first | exact Mem.at D' 0 _ _ rfl | exact Mem.at D' 1 _ _ rfl | exact Mem.at D' 2 _ _ rfl | exact Mem.at D' 3 _ _ rfl | exact Mem.at D' 4 _ _ rfl | exact Mem.at D' 5 _ _ rfl | exact Mem.old D' _ _ (by assumption) rfl)))) | ((with_reducible apply PySem.wpAny_load'); focus (((rename Mem _ _ _ _ => D'; first | exact Mem.at D' 0 _ _ rfl | exact Mem.at D' 1 _ _ rfl | exact Mem.at D' 2 _ _ rfl | exact Mem.at D' 3 _ _ rfl | exact Mem.at D' 4 _ _ rfl | exact Mem.at D' 5 _ _ rfl | exact Mem.old D' _ _ (by assumption) rfl)))) | (rename Mem _ _ _ _ => D'; (with_reducible refine' mm_updatePart (i := 0) D' ?hi ?hf ?_); (case hi => rfl); (case hf => rfl); ((intro _ D9; (try dsimp only [List.set] at D9)))) | (rename Mem _ _ _ _ => D'; (with_reducible refine' mm_updatePart (i := 1) D' ?hi ?hf ?_); (case hi => rfl); (case hf => rfl); ((intro _ D9; (try dsimp only [List.set] at D9)))) | (rename Mem _ _ _ _ => D'; (with_reducible refine' mm_updatePart (i := 2) D' ?hi ?hf ?_); (case hi => rfl); (case hf => rfl); ((intro _ D9; (try dsimp only [List.set] at D9)))) | (rename Mem _ _ _ _ => D'; (with_reducible refine' mm_update (i := 0) D' ?hi ?hf ?_); (case hi => rfl); (case hf => rfl); ((intro _ D9; (try dsimp only [List.set] at D9)))) | (rename Mem _ _ _ _ => D'; (with_reducible refine' mm_update (i := 1) D' ?hi ?hf ?_); (case hi => rfl); (case hf => rfl); ((intro _ D9; (try dsimp only [List.set] at D9)))) | (rename Mem _ _ _ _ => D'; (with_reducible refine' mm_update (i := 2) D' ?hi ?hf ?_); (case hi => rfl); (case hf => rfl); ((intro _ D9; (try dsimp only [List.set] at D9)))) | (rename Mem _ _ _ _ => D'; (with_reducible refine' mm_newObj D' ?hf ?_ ?hz); (case hf => rfl); (case hz => first | (show _ ≤ sizeLine + 1; assumption) | (show _ ≤ sizeLine + 2; rw [sizeLine_eq]; exact Nat.le_of_ble_eq_true rfl)); intro _ _ D9) | (rename Mem _ _ _ _ => D'; (with_reducible refine' mm_alloc D' ?hf ?_); (case hf => rfl); intro _ _ D9)) | wp_step | skip))
  refine mm_nsGet (D5.at 2 _ _ rfl) hash_some ?_
  iterate 2 ((first | (first | ((with_reducible show wpAny _ _ (Slots.givesWeak _) _ _ _); refine wpAny_of_eq tf_weak ?_) | ((with_reducible show wpAny _ _ (Slots.givesDict _) _ _ _); refine wpAny_of_eq tf_dict ?_)) | (first | ((with_reducible refine' mm_ite_f ?hc ?_); (case hc => (simp only [List.isEmpty_cons, List.isEmpty_nil, Option.isNone_some, Option.isNone_none, Option.isSome_some, Option.isSome_none, Bool.not_true, Bool.not_false, Bool.false_eq_true, decide_false, decide_true, Bool.or_false, Bool.false_or]; done))) | ((with_reducible refine' mm_ite_t ?hc ?_); (case hc => (simp only [List.isEmpty_cons, List.isEmpty_nil, Option.isNone_some, Option.isNone_none, Option.isSome_some, Option.isSome_none, Bool.not_true, Bool.not_false, Bool.false_eq_true, decide_false, decide_true, Bool.or_false, Bool.false_or]; done)))) | (((with_reducible refine' mm_ite_f ?hc ?_); (case hc => exact decide_eq_false (by rw [sizeLine_eq]; exact Nat.not_lt.mpr (Nat.le_of_ble_eq_true rfl))))) | (first | (rename Mem _ _ _ _ => D'; (with_reducible refine' mm_updateCls (i := 0) D' ?hi ?hp ?_); (case hi => rfl); (case hp => rfl); ((intro _ D9; (try dsimp only [List.set] at D9)))) | (rename Mem _ _ _ _ => D'; (with_reducible refine' mm_updateCls (i := 1) D' ?hi ?hp ?_); (case hi => rfl); (case hp => rfl); ((intro _ D9; (try dsimp only [List.set] at D9)))) | (rename Mem _ _ _ _ => D'; (with_reducible refine' mm_updateCls (i := 2) D' ?hi ?hp ?_); (case hi => rfl); (case hp => rfl); ((intro _ D9; (try dsimp only [List.set] at D9))))) | (first | ((with_reducible refine' mm_nsGet ?ho ?hl ?_); (case ho => ((rename Mem _ _ _ _ => D'; first | exact Mem.at D' 0 _ _ rfl | exact Mem.at D' 1 _ _ rfl | exact Mem.at D' 2 _ _ rfl | exact Mem.at D' 3 _ _ rfl | exact Mem.at D' 4 _ _ rfl | exact Mem.at D' 5 _ _ rfl | exact Mem.old D' _ _ (by assumption) rfl))); (case hl => rfl)) | ((with_reducible refine' mm_nsHas ?hl ?_); (case hl => rfl)) | ((with_reducible apply PySem.wpAny_loadPart'); focus (((rename Mem _ _ _ _ => D'; first | exact Mem.at D' 0 _ _ rfl | exact Mem.at D' 1 _ _ rfl | exact Mem.at D' 2 _ _ rfl | exact Mem.at D' 3 _ _ rfl | exact Mem.at D' 4 _ _ rfl | exact Mem.at D' 5 _ _ rfl | exact Mem.old D' _ _ (by assumption) rfl)))) | ((with_reducible apply PySem.wpAny_load'); focus (((rename Mem _ _ _ _ => D'; first | exact Mem.at D' 0 _ _ rfl | exact Mem.at D' 1 _ _ rfl | exact Mem.at D' 2 _ _ rfl | exact Mem.at D' 3 _ _ rfl | exact Mem.at D' 4 _ _ rfl | exact Mem.at D' 5 _ _ rfl | exact Mem.old D' _ _ (by assumption) rfl)))) | (rename Mem _ _ _ _ => D'; (with_reducible refine' mm_updatePart (i := 0) D' ?hi ?hf ?_); (case hi => rfl); (case hf => rfl); ((intro _ D9; (try dsimp only [List.set] at D9)))) | (rename Mem _ _ _ _ => D'; (with_reducible refine' mm_updatePart (i := 1) D' ?hi ?hf ?_); (case hi => rfl); (case hf => rfl); ((intro _ D9; (try dsimp only [List.set] at D9)))) | (rename Mem _ _ _ _ => D'; (with_reducible refine' mm_updatePart (i := 2) D' ?hi ?hf ?_); (case hi => rfl); (case hf => rfl); ((intro _ D9; (try dsimp only [List.set] at D9)))) | (rename Mem _ _ _ _ => D'; (with_reducible refine' mm_update (i := 0) D' ?hi ?hf ?_); (case hi => rfl); (case hf => rfl); ((intro _ D9; (try dsimp only [List.set] at D9)))) | (rename Mem _ _ _ _ => D'; (with_reducible refine' mm_update (i := 1) D' ?hi ?hf ?_); (case hi => rfl); (case hf => rfl); ((intro _ D9; (try dsimp only [List.set] at D9)))) | (rename Mem _ _ _ _ => D'; (with_reducible refine' mm_update (i := 2) D' ?hi ?hf ?_); (case hi => rfl); (case hf => rfl); ((intro _ D9; (try dsimp only [List.set] at D9)))) | (rename Mem _ _ _ _ => D'; (with_reducible refine' mm_newObj D' ?hf ?_ ?hz); (case hf => rfl); (case hz => first | (show _ ≤ sizeLine + 1; assumption) | (show _ ≤ sizeLine + 2; rw [sizeLine_eq]; exact Nat.le_of_ble_eq_true rfl)); intro _ _ D9) | (rename Mem _ _ _ _ => D'; (with_reducible refine' mm_alloc D' ?hf ?_); (case hf => rfl); intro _ _ D9)) | wp_step | skip))
  have D6 := mem_to3 (kmem t) (kclsF bT tn tq qn) D5 (by kernel_rfl) (by kernel_rfl)
  clear D5
  refine mm_forIn1 (v := .type "object") rfl ?_
  refine wpAny_bind (wpAny_of_eq (tf_note _) ?_)
  refine wpAny_pure ?_
  dsimp only
  iterate 1 ((first | (first | ((with_reducible show wpAny _ _ (Slots.givesWeak _) _ _ _); refine wpAny_of_eq tf_weak ?_) | ((with_reducible show wpAny _ _ (Slots.givesDict _) _ _ _); refine wpAny_of_eq tf_dict ?_)) | (first | ((with_reducible refine' mm_ite_f ?hc ?_); (case hc => (simp only [List.isEmpty_cons, List.isEmpty_nil, Option.isNone_some, Option.isNone_none, Option.isSome_some, Option.isSome_none, Bool.not_true, Bool.not_false, Bool.false_eq_true, decide_false, decide_true, Bool.or_false, Bool.false_or]; done))) | ((with_reducible refine' mm_ite_t ?hc ?_); (case hc => (simp only [List.isEmpty_cons, List.isEmpty_nil, Option.isNone_some, Option.isNone_none, Option.isSome_some, Option.isSome_none, Bool.not_true, Bool.not_false, Bool.false_eq_true, decide_false, decide_true, Bool.or_false, Bool.false_or]; done)))) | (((with_reducible refine' mm_ite_f ?hc ?_); (case hc => exact decide_eq_false (by rw [sizeLine_eq]; exact Nat.not_lt.mpr (Nat.le_of_ble_eq_true rfl))))) | (first | (rename Mem _ _ _ _ => D'; (with_reducible refine' mm_updateCls (i := 0) D' ?hi ?hp ?_); (case hi => rfl); (case hp => rfl); ((intro _ D9; (try dsimp only [List.set] at D9)))) | (rename Mem _ _ _ _ => D'; (with_reducible refine' mm_updateCls (i := 1) D' ?hi ?hp ?_); (case hi => rfl); (case hp => rfl); ((intro _ D9; (try dsimp only [List.set] at D9)))) | (rename Mem _ _ _ _ => D'; (with_reducible refine' mm_updateCls (i := 2) D' ?hi ?hp ?_); (case hi => rfl); (case hp => rfl); ((intro _ D9; (try dsimp only [List.set] at D9))))) | (first | ((with_reducible refine' mm_nsGet ?ho ?hl ?_); (case ho => ((rename Mem _ _ _ _ => D'; first | exact Mem.at D' 0 _ _ rfl | exact Mem.at D' 1 _ _ rfl | exact Mem.at D' 2 _ _ rfl | exact Mem.at D' 3 _ _ rfl | exact Mem.at D' 4 _ _ rfl | exact Mem.at D' 5 _ _ rfl | exact Mem.old D' _ _ (by assumption) rfl))); (case hl => rfl)) | ((with_reducible refine' mm_nsHas ?hl ?_); (case hl => rfl)) | ((with_reducible apply PySem.wpAny_loadPart'); focus (((rename Mem _ _ _ _ => D'; first | exact Mem.at D' 0 _ _ rfl | exact Mem.at D' 1 _ _ rfl | exact Mem.at D' 2 _ _ rfl | exact Mem.at D' 3 _ _ rfl | exact Mem.at D' 4 _ _ rfl | exact Mem.at D' 5 _ _ rfl | exact Mem.old D' _ _ (by assumption) rfl)))) | ((with_reducible apply PySem.wpAny_load'); focus (((rename Mem _ _ _ _ => D'; first | exact Mem.at D' 0 _ _ rfl | exact Mem.at D' 1 _ _ rfl | exact Mem.at D' 2 _ _ rfl | exact Mem.at D' 3 _ _ rfl | exact Mem.at D' 4 _ _ rfl | exact Mem.at D' 5 _ _ rfl | exact Mem.old D' _ _ (by assumption) rfl)))) | (rename Mem _ _ _ _ => D'; (with_reducible refine' mm_updatePart (i := 0) D' ?hi ?hf ?_); (case hi => rfl); (case hf => rfl); ((intro _ D9; (try dsimp only [List.set] at D9)))) | (rename Mem _ _ _ _ => D'; (with_reducible refine' mm_updatePart (i := 1) D' ?hi ?hf ?_); (case hi => rfl); (case hf => rfl); ((intro _ D9; (try dsimp only [List.set] at D9)))) | (rename Mem _ _ _ _ => D'; (with_reducible refine' mm_updatePart (i := 2) D' ?hi ?hf ?_); (case hi => rfl); (case hf => rfl); ((intro _ D9; (try dsimp only [List.set] at D9)))) | (rename Mem _ _ _ _ => D'; (with_reducible refine' mm_update (i := 0) D' ?hi ?hf ?_); (case hi => rfl); (case hf => rfl); ((intro _ D9; (try dsimp only [List.set] at D9)))) | (rename Mem _ _ _ _ => D'; (with_reducible refine' mm_update (i := 1) D' ?hi ?hf ?_); (case hi => rfl); (case hf => rfl); ((intro _ D9; (try dsimp only [List.set] at D9)))) | (rename Mem _ _ _ _ => D'; (with_reducible refine' mm_update (i := 2) D' ?hi ?hf ?_); (case hi => rfl); (case hf => rfl); ((intro _ D9; (try dsimp only [List.set] at D9)))) | (rename Mem _ _ _ _ => D'; (with_reducible refine' mm_newObj D' ?hf ?_ ?hz); (case hf => rfl); (case hz => first | (show _ ≤ sizeLine + 1; assumption) | (show _ ≤ sizeLine + 2; rw [sizeLine_eq]; exact Nat.le_of_ble_eq_true rfl)); intro _ _ D9) | (rename Mem _ _ _ _ => D'; (with_reducible refine' mm_alloc D' ?hf ?_); (case hf => rfl); intro _ _ D9)) | wp_step | skip))
  have hl9 := FnAt.old (⟨_, hL, rfl⟩ : FnAt h "list" sl) D6
  have hm9 : FnAt h5 "member_descriptor" _ := ⟨_, D6.at 0 _ _ rfl, rfl⟩
  refine wpAny_tryCatch (wpAny_holding (wpAny_bind ?_))
  refine mm_entries (D6.at 2 _ _ rfl) (wpAny_bind ?_)
  refine mm_forA (fun e he => ?_) ?_
  · obtain ⟨kk, tkk, hkey⟩ := (ents_ok hl9 (k1.old D6) (k2.old D6) (k3.old D6) (k4.old D6) (k5.old D6) (k6.old D6) (ks.old D6) hm9 e he).1
    rw [hkey]
    exact wpAny_bind (wpAny_pure (wpAny_pure ⟨rfl, rfl⟩))
  refine mm_ite_f (by rfl) ?_
  refine wpAny_bind (mm_entries (D6.at 2 _ _ rfl) (wpAny_bind ?_))
  refine mm_forA (fun e he => ?_) ?_
  · have he9 := ents_ok hl9 (k1.old D6) (k2.old D6) (k3.old D6) (k4.old D6) (k5.old D6) (k6.old D6) (ks.old D6) hm9 e he
    refine mm_ite_f (decide_eq_false (by rw [he9.2.1]; exact Bool.false_ne_true)) ?_
    exact wpAny_bind (he9.special (wpAny_pure ⟨rfl, rfl⟩))
  refine wpAny_bind (sup_call (D6.at 1 _ _ rfl) fun sup h6 D7 t7 => ?_)
  have D8 := mem_then D6 (mem_keep D7)
  refine wpAny_bind (wpAny_holding (ga_call (D7.at 0 _ _ rfl) (D8.at 1 _ _ rfl) (hno.keeps (mem_keep D8)) fun A' => ?_))
  refine cm_get (D8.at 1 _ _ rfl) fun bm h7 D9 t8 => ⟨_, rfl, ?_⟩
  have D10 := mem_then D8 (mem_keep D9)
  refine wpAny_bind (bm_call (D10.at 1 _ _ rfl) (D9.at 0 _ _ rfl) hqn fun h8 nw D11 t9 => ?_)
  have D12 := mem_then D10 (mem_keep D11)
  refine wpAny_pure ?_
  refine wpAny_pure ?_
  exact hQ _ _ _ _ _ _ _ _ _ _ _ D12
end Mine
end
section
open PySem PySem.W PyProof.Rows PySem.W.X PySem.Calls Builtin
set_option Elab.async false
namespace Mine
theorem e_plain : plainId "type.__new__" = true := by decide +kernel
theorem e_tnew : entryFor table "type.__new__" = some Builtin.«type.__new__» := entryFor_of_tree (by kernel_rfl)
theorem e_chk (a b c : Value) : checkBuiltinCall "type.__new__" ⟨[.type "type", a, b, c], []⟩ = pure () := by kernel_rfl
theorem e_slot : Slot "type" "__init__" "type.__init__" := .of (owner := "type") (n := "__init__") (by rw [typeLookup_type, builtinLookup_eq_fast]; kernel_rfl) (by decide +kernel) (by decide +kernel) (by decide +kernel)
  (by first | exact .inl (by decide +kernel) | exact .inr (by decide +kernel)) (by rw [isSubtype_type]; kernel_rfl)
theorem e_iargs (a b c d : Value) : argsOk "type.__init__" ⟨[a, b, c, d], []⟩ := by unfold argsOk; kernel_rfl
theorem e_init : entryFor table "type.__init__" = some Builtin.«type.__init__» := entryFor_of_tree (by kernel_rfl)
section
variable {prog : Program} {w : World} {A : Around} {E : Value → Shared → Prop} {h : Heap} {g : Array GenState} {d : Drawn} {t : Nat} {os : OsState}
set_option maxHeartbeats 8000000 in
set_option maxRecDepth 100000 in
theorem tcall {bT nsA : Addr} {tn : Tok} {Q : Value → Shared → Prop} {s : Shared} {P : Addr → Shared → Prop}
   (hP : ∀ a s', P a s' → ∃ o cd, s'.heap.get? a = some o ∧ o.cls = .type "type" ∧ o.data = .cls cd)
   (hnew : ∀ {A'} {Q' : PySem.Fin → Shared → Prop} {E'}, (∀ a s', P a s' → Q' (.done (.ret (.ref a))) s') → wpAny (model prog w) A' (Builtin.«type.__new__» ⟨[.type "type", .str (Str.ofString "K") tn, .ref bT, .ref nsA], []⟩) Q' E' s)
   (hq : ∀ a s', P a s' → Q (.ref a) s') :
   wpAny (model prog w) A (call (.type "type") [.str (Str.ofString "K") tn, .ref bT, .ref nsA]) Q E s := by
  have hm : mroOf (.type "type") = pure [.type "type", .type "object"] := by kernel_rfl
  have hnw : typeLookup (.type "type") "__new__" = pure (some (.builtin "type.__new__")) := by rw [typeLookup_type, builtinLookup_eq_fast]; kernel_rfl
  have hmade : Bind.madeBy (.type "type") = pure (some "type.__new__") := madeBy_type hm hnw (by decide +kernel)
  have hct : checkTypeCall "type" ⟨[.str (Str.ofString "K") tn, .ref bT, .ref nsA], []⟩ = pure () := by kernel_rfl
  refine wpAny_call (codeAny_of_tree ?_)
  show wpAny _ _ (callAny (.type "type") _) _ _ _
  refine wpAny_pure ⟨Code.quiet_builtin _ (by decide +kernel), codeAny_builtin F.entry_type_call ?_⟩
  rw [Around.under_plain (weight_type_call_type "type" [.str (Str.ofString "K") tn, .ref bT, .ref nsA] []) rfl]
  unfold Builtin.«type.__call__»
  obtain ⟨h, g, d, t, os⟩ := s
  iterate 30 (first
    | ((with_reducible show wpAny _ _ (call _ _) _ _ _); refine Blk.mk ?_)
    | (with_reducible refine wpAny_of_eq hct ?_)
    | (with_reducible refine wpAny_of_eq hm ?_)
    | (with_reducible refine wpAny_of_eq hmade ?_)
    | wp_step | dsimp only | skip)
  refine Blk.out ?_
  refine wpAny_call (codeAny_call_builtin e_plain e_tnew ?_)
  refine wpAny_of_eq (e_chk _ _ _) ?_
  refine hnew fun a s' hp => ?_
  obtain ⟨o, cd, ho, hc, hd⟩ := hP a s' hp
  obtain ⟨h2, g2, d2, t2, os2⟩ := s'
  dsimp only at ho ⊢
  have hT : (⟨h2, g2, d2, t2, os2⟩ : Shared).TypeIs (.ref a) "type" := ⟨_, ho, hc⟩
  have hsub : isSubtype (.type "type") (.type "type") = pure true := by rw [isSubtype_type]; kernel_rfl
  have hli := e_slot.lookup
  have hbi := e_slot.bind (.ref a)
  iterate 30 (first
    | ((with_reducible show wpAny _ _ (call _ _) _ _ _); refine Blk.mk ?_)
    | (with_reducible refine wpAny_typeOf hT ?_)
    | assumption
    | wp_step | dsimp only | skip)
  refine Blk.out ?_
  show wpAny _ _ (call (Value.builtin "type.__init__") (Value.ref a :: [Value.str (Str.ofString "K") tn, Value.ref bT, Value.ref nsA])) _ _ _
  refine wpAny_call_entry e_slot hT e_init ?_ (e_iargs _ _ _ _)
  unfold Builtin.«type.__init__»
  iterate 12 (first | (refine ⟨_, rfl, ?_⟩) | wp_step | dsimp only | skip)
  exact hq _ _ hp
end
end Mine
end
section
open PySem PySem.W PyProof.Rows PySem.W.X PySem.Calls Builtin
set_option Elab.async false
namespace Mine
section
variable {M : Model} {A : Around} {E : Value → Shared → Prop} {h0 h : Heap} {g : Array GenState} {d : Drawn} {t : Nat} {os : OsState} {chg news : List (Addr × Obj)}
theorem mm_newAsIs {T : String} {data : Data} {dict : Option Addr} {Q : Value → Shared → Prop} (D : Mem h0 h chg news) (hf : ({ cls := .type T, dict, data } : Obj).isFreed = false) (hq : ∀ a h', Mem h0 h' chg ((a, { cls := .type T, dict, data }) :: news) → Q (.ref a) ⟨h', g, d, t, os⟩) : wpAny M A (newObjAsIs (.type T) data dict) Q E ⟨h, g, d, t, os⟩ :=
  wpAny_newObjAsIs_type (hq _ _ (D.alloc hf))
theorem mm_tuple {l : List Value} {Q : Value → Shared → Prop} (D : Mem h0 h chg news) (hz : l.length ≤ 100) (hq : ∀ a h', Mem h0 h' chg ((a, { cls := .type "tuple", data := .seq l.toArray }) :: news) → Q (.ref a) ⟨h', g, d, t, os⟩) : wpAny M A (newTuple l) Q E ⟨h, g, d, t, os⟩ := by
  unfold newTuple
  refine mm_newObj D rfl hq ?_
  show l.toArray.size ≤ _
  rw [List.size_toArray, sizeLine_eq]; omega
theorem mm_list {l : List Value} {Q : Value → Shared → Prop} (D : Mem h0 h chg news) (hz : l.length ≤ 100) (hq : ∀ a h', Mem h0 h' chg ((a, { cls := .type "list", data := .seq l.toArray }) :: news) → Q (.ref a) ⟨h', g, d, t, os⟩) : wpAny M A (newList l) Q E ⟨h, g, d, t, os⟩ := by
  unfold newList
  refine mm_newObj D rfl hq ?_
  show l.toArray.size ≤ _
  rw [List.size_toArray, sizeLine_eq]; omega
end
noncomputable def kprep : Obj := { cls := .type "builtin_function_or_method", data := .fields #[.builtin "type.__prepare__", .type "type"] }
theorem mem_cast1 {h0 h : Heap} {chg : List (Addr × Obj)} {a : Addr} {o o' : Obj} (D : Mem h0 h chg [(a, o)]) (e : o = o') : Mem h0 h chg [(a, o')] := e ▸ D
local macro_rules | `(tactic| x_close) => `(tactic| (rename Mem _ _ _ _ => D9; rename (∀ _ _, Mem _ _ _ _ → _) => hq9; exact hq9 _ _ (mem_cast1 D9 (by kernel_rfl)) _))
set_option maxRecDepth 100000 in
set_option maxHeartbeats 8000000 in
theorem prep_get {prog : Program} {w : World} {A : Around} {Q : Option Value → Shared → Prop} {E : Value → Shared → Prop} {h : Heap} {g : Array GenState} {d : Drawn} {t : Nat} {os : OsState}
   (hq : ∀ m h', Mem h h' [] [(m, kprep)] → ∀ tk, Q (some (.ref m)) ⟨h', g, d, tk, os⟩) :
   wpAny (model prog w) A (getAttr? (.type "type") "__prepare__") Q E ⟨h, g, d, t, os⟩ := by
  unfold getAttr?
  refine wpAny_bind (wpAny_mkText ?_)
  x_run
theorem p_chk (a b : Value) : checkBoundCall "type.__prepare__" ⟨[.type "type", a, b], []⟩ = pure () := by kernel_rfl
theorem p_plain : plainId "type.__prepare__" = true := by decide +kernel
theorem p_entry : entryFor table "type.__prepare__" = some Builtin.«type.__prepare__» := entryFor_of_tree (by kernel_rfl)
set_option maxRecDepth 100000 in
theorem prep_call {prog : Program} {w : World} {A : Around} {Q : Value → Shared → Prop} {E : Value → Shared → Prop} {h : Heap} {g : Array GenState} {d : Drawn} {t : Nat} {os : OsState} {m bT : Addr} {tn : Tok}
   (hm : h.get? m = some kprep)
   (hq : Q (.ref h.objs.size) ⟨h.push { cls := .type "dict", data := .dict #[] 0 }, g, d, t, os⟩) :
   wpAny (model prog w) A (call (.ref m) [.str (Str.ofString "K") tn, .ref bT]) Q E ⟨h, g, d, t, os⟩ := by
  refine wpAny_call (codeAny_of_tree ?_)
  show wpAny _ _ (callAny (.ref m) _) _ _ _
  unfold callAny
  refine wpAny_bind (wpAny_load hm ?_)
  show wpAny _ _ (do checkBoundCall "type.__prepare__" _; again _) _ _ _
  refine wpAny_bind (wpAny_of_eq (p_chk _ _) ?_)
  refine wpAny_pure ⟨plainId_quiet p_plain _, codeAny_builtin p_entry ?_⟩
  unfold Builtin.«type.__prepare__» newDict
  refine wpAny_bind (wpAny_newObj_type ?_ (by size_fits))
  exact wpAny_pure hq
end Mine
namespace Mine
theorem mm_specialS {M : Model} {A : Around} {E : Value → Shared → Prop} {h : Heap} {g : Array GenState} {d : Drawn} {t : Nat} {os : OsState} {a : Addr} {o : Obj} {T : String} {nm : Str} {v : Option Value} {Q : Option Value → Shared → Prop} (ho : h.get? a = some o) (hc : o.cls = .type T) (hl : typeLookup (.type T) nm = pure v) (hq : Q v ⟨h, g, d, t, os⟩) : wpAny M A (specialOf (.ref a) nm) Q E ⟨h, g, d, t, os⟩ := by
  unfold specialOf typeOf
  refine wpAny_bind (wpAny_bind (wpAny_loadPart ho (wpAny_pure ?_)))
  rw [hc, hl]
  exact wpAny_pure hq
theorem beq_false {a b : Nat} (h : b < a) : (a == b) = false := by simp; omega
end Mine
end
section
open PySem PySem.W PyProof.Rows PySem.W.X PySem.Calls Builtin
set_option Elab.async false
namespace Mine
section
variable {M : Model} {A : Around} {E : Value → Shared → Prop} {h0 h : Heap} {g : Array GenState} {d : Drawn} {t : Nat} {os : OsState} {news : List (Addr × Obj)}
theorem class_code {env : Env} {c P : Addr} {pos : Pos} {line : Nat} {name qual : Str} {scope : Scope} {Q : Value → Shared → Prop} (D : Mem h0 h [] news) (hc : env.code = .ref c) (C : CodeHd h0 c P) (hP : h0.get? P = some (tabObj #[]))
   (hq : ∀ cc PP ft h' tk fs vs u, Mem h0 h' [(P, tableObj #[rawInt pos.line, rawInt pos.col, .ref cc])] ((cc, { cls := .type "code", data := .fields vs }) :: (PP, tabObj #[]) :: (ft, { cls := .type "tuple", data := .seq fs }) :: news) →
      CodeHd h' cc PP → vs[1]? = some (.str qual u) → Q (.ref cc) ⟨h', g, d, tk, os⟩) :
   wpAny M A (classCode env pos line name qual scope) Q E ⟨h, g, d, t, os⟩ := by
  have hP' := mem_keep D _ _ hP
  obtain ⟨o, vs, file, tf, flags, tg, inF, text, tt, ho, hcl, hd, h11, h11', h18, h7, h9, h10, hne⟩ := C.keeps (mem_keep D)
  have hT : h0.TableAt c P #[] := C.tab hP
  unfold classCode codeAt
  rw [hc, if_neg (show ¬ ((Value.ref c == Value.none) = true) from Bool.false_ne_true)]
  refine wpAny_bind (wpAny_fieldsOf ho hd ?_)
  rw [h11']
  refine wpAny_bind (wpAny_fieldsOf hP' rfl ?_)
  have hnf : codeAmong pos (#[] : Array Value).toList = none := rfl
  rw [hnf, h18, h7, h9, h10]
  refine wpAny_bind ?_
  unfold newCode
  refine wpAny_bind (wpAny_mkText (wpAny_bind (wpAny_mkText (wpAny_bind (wpAny_mkText (wpAny_bind (wpAny_mkStrs fun fs => wpAny_bind ?_))))))) 
  refine mm_newAsIs D rfl fun ft h1 D1 => ?_
  refine wpAny_bind (mm_alloc D1 rfl fun PP h2 D2 => ?_)
  refine wpAny_bind (wpAny_pure (wpAny_bind (wpAny_pure (wpAny_bind (wpAny_pure (wpAny_bind (wpAny_fresh (wpAny_bind (wpAny_mkText ?_)))))))))
  unfold newFields
  refine mm_newObj D2 rfl (fun cc h3 D3 => ?_) (by size_fits)
  have hP3 := mem_keep D3 _ _ hP
  refine wpAny_bind (wpAny_updateFieldsOfTheText hP3 rfl ?_)
  have D4 := D3.grow (f := fun o => Obj.mapFields (fun vs => if (codeAmong pos vs.toList).isSome = true then vs else vs ++ #[rawInt pos.line, rawInt pos.col, .ref cc]) o) (more := #[rawInt pos.line, rawInt pos.col, .ref cc]) hT rfl rfl
  have hget := D4.atC 0 _ _ rfl
  refine wpAny_bind (wpAny_fieldsOf hget rfl ?_)
  have hl : ((#[] : Array Value) ++ #[rawInt pos.line, rawInt pos.col, Value.ref cc]).toList = ([] : List Value) ++ [rawInt pos.line, rawInt pos.col, .ref cc] := by simp
  rw [hl, codeAmong_snoc ([] : List Value) (show TriplesOk [] from trivial) hnf]
  have hcc := D4.at 0 _ _ rfl
  refine wpAny_pure (hq cc PP ft _ _ _ _ _ (by simpa using D4) ⟨_, _, _, _, _, _, _, _, _, hcc, rfl, rfl, rfl, rfl, rfl, rfl, rfl, rfl, D4.ne 0 1 _ _ _ _ rfl rfl rfl⟩ rfl)
end
end Mine
namespace Mine
theorem mem_keepC {h0 h : Heap} {P : Addr} {x : Obj} {news : List (Addr × Obj)} (D : Mem h0 h [(P, x)] news) {b : Addr} {o : Obj} (hb : b ≠ P) (e : h0.get? b = some o) : h.get? b = some o :=
  D.keep b o e (by
    have : away [(P, x)] b = true := by
      unfold away
      simp only [List.all_cons, List.all_nil, Bool.and_true, Bool.not_eq_true']
      cases q : Nat.beq P b with
      | false => rfl
      | true => exact absurd (Nat.eq_of_beq_eq_true q).symm hb
    rw [this, Bool.or_true])
theorem ns_keepC {h0 h : Heap} {P a : Addr} {x : Obj} {news : List (Addr × Obj)} {m : Str → Option Value} (D : Mem h0 h [(P, x)] news) (hb : a ≠ P) (k : h0.Ns a m) : h.Ns a m := k.at fun _ e => mem_keepC D hb e
theorem lim_keepC {h0 h : Heap} {P : Addr} {x : Obj} {news : List (Addr × Obj)} (D : Mem h0 h [(P, x)] news) (hb : cStatics ≠ P) (k : h0.NoLimit) : h.NoLimit := let ⟨mc, a, r⟩ := k; ⟨mc, ns_keepC D hb a, r⟩
section
variable {M : Model} {A : Around} {E : Value → Shared → Prop} {h0 h : Heap} {g : Array GenState} {d : Drawn} {t : Nat} {os : OsState} {chg news : List (Addr × Obj)}
theorem mm_frame {code : Value} {globals locals builtins : Addr} {mg : Str → Option Value} {Q : Addr → Shared → Prop} (D : Mem h0 h chg news) (hg : h.Ns globals mg)
   (hq : ∀ a h', Mem h0 h' chg ((a, { cls := .type "frame", slots := #[some code, some (.ref globals), some (.ref locals), none, some ((mg "__name__").getD .none), none, some (.ref builtins)] }) :: news) → Q a ⟨h', g, d, t, os⟩) :
   wpAny M A (newBodyFrame code globals locals builtins) Q E ⟨h, g, d, t, os⟩ := by
  unfold newBodyFrame
  refine wpAny_bind (wpAny_nsGet hg ?_)
  exact mm_alloc D rfl hq
theorem mm_localSet {prog : Program} {w : World} {A : Around} {E : Value → Shared → Prop} {env : Env} {N : Addr} {nm : Str} {v : Value} {l : List DictEntry} {l' : Int → Tok → List DictEntry} {n n' i : Nat} {Q : Unit → Shared → Prop} (D : Mem h0 h chg news) (hN : env.locals = N) (hi : news[i]? = some (N, kdict l n))
   (hr : aRefKeyMayBeTheName nm l.toArray = false) (hp : ∀ hh tk, Obj.putName nm hh (.str nm tk) v (kdict l n) = kdict (l' hh tk) n')
   (hq : ∀ h' hh, Mem h0 h' chg (news.set i (N, kdict (l' hh t) n')) → Q () ⟨h', g, d, t + 1, os⟩) :
   wpAny (model prog w) A (localSet env nm v) Q E ⟨h, g, d, t, os⟩ := by
  subst hN
  unfold localSet
  refine wpAny_bind (wpAny_load (D.at i _ _ hi) ?_)
  refine mm_ite_t (by rfl) ?_
  exact mm_nsSet D hi hr hp (fun _ _ => rfl) hq
/-- a store into a class's body -/
theorem mm_store {prog : Program} {w : World} {A : Around} {E : Value → Shared → Prop} {env : Env} {N : Addr} {nm : Str} {v : Value} {l : List DictEntry} {l' : Int → Tok → List DictEntry} {n n' i : Nat} {Q : Unit → Shared → Prop} (D : Mem h0 h chg news) (he : storeName env nm v = localSet env nm v) (hN : env.locals = N) (hi : news[i]? = some (N, kdict l n))
   (hr : aRefKeyMayBeTheName nm l.toArray = false) (hp : ∀ hh tk, Obj.putName nm hh (.str nm tk) v (kdict l n) = kdict (l' hh tk) n')
   (hq : ∀ h' hh, Mem h0 h' chg (news.set i (N, kdict (l' hh t) n')) → Q () ⟨h', g, d, t + 1, os⟩) :
   wpAny (model prog w) A (storeName env nm v) Q E ⟨h, g, d, t, os⟩ := by
  rw [he]
  exact mm_localSet D hN hi hr hp hq
theorem put_new {l : List DictEntry} {n : Nat} {nm : Str} {hh : Int} {key v : Value} (h : l.all (fun e => !e.key.isStr nm) = true) : Obj.putName nm hh key v (kdict l n) = kdict (l ++ [⟨hh, key, v⟩]) (n + 1) := by
  rw [Obj.putName_eq]
  unfold kdict Obj.putNameByArray
  have : l.toArray.findIdx? (fun e => e.key.isStr nm) = none := by
    rw [List.findIdx?_toArray, List.findIdx?_eq_none_iff]
    intro e he
    have := List.all_eq_true.mp h e he
    simpa using this
  simp only [this, List.push_toArray]
theorem no_ref {l : List DictEntry} {nm : Str} (h : l.any (·.refKey) = false) : aRefKeyMayBeTheName nm l.toArray = false := by
  rw [aRefKeyMayBeTheName_at, List.any_toArray, List.any_toArray, h, Bool.and_false]
end
end Mine
end
section
open PySem PySem.W PyProof.Rows PySem.W.X PySem.Calls Builtin
set_option Elab.async false
namespace Mine
set_option maxRecDepth 100000
noncomputable def vStr : Value → Str × Tok | .str s t => (s, t) | _ => (default, 0)
noncomputable def vInt : Value → Int × Tok | .int s t => (s, t) | _ => (0, 0)
noncomputable def vBool : Value → Bool | .bool b => b | _ => false
noncomputable def dFields : Data → Array Value | .fields vs => vs | _ => #[]
noncomputable def ckO (w : World) : Obj := ((hd.heap_39 w.params).lookup 34).getD default
noncomputable def ckV (w : World) : Array Value := dFields (ckO w).data
theorem ck_code (w : World) {h : Heap} (X : (hd.heap_39 w.params).In h) : CodeHd h 34 30 :=
  ⟨ckO w, ckV w, (vStr ((ckV w).getD 18 .none)).1, (vStr ((ckV w).getD 18 .none)).2, (vInt ((ckV w).getD 7 .none)).1, (vInt ((ckV w).getD 7 .none)).2, vBool ((ckV w).getD 9 .none), (vInt ((ckV w).getD 10 .none)).1, (vInt ((ckV w).getD 10 .none)).2,
    X _ _ (by kernel_rfl), by kernel_rfl, by kernel_rfl, by kernel_rfl, by kernel_rfl, by kernel_rfl, by kernel_rfl, by kernel_rfl, by kernel_rfl, by decide⟩
end Mine
namespace Mine
noncomputable def ldClass (env : Env) (nm : Str) : Sem Value := do
  if let some v ← localGet env nm then return v
  loadGlobal env nm
section
variable {M : Model} {A : Around} {E : Value → Shared → Prop} {h0 h : Heap} {g : Array GenState} {d : Drawn} {t : Nat} {os : OsState} {chg news : List (Addr × Obj)}
theorem mm_ldClass {env : Env} {N : Addr} {nm : Str} {l : List DictEntry} {n i : Nat} {mg : Str → Option Value} {v : Value} {Q : Value → Shared → Prop} (D : Mem h0 h chg news) (hN : env.locals = N) (hi : news[i]? = some (N, kdict l n))
   (hl : nsLook nm (kdict l n) = pure none) (hg : h.Ns env.globals mg) (hv : mg nm = some v) (hq : Q v ⟨h, g, d, t, os⟩) : wpAny M A (ldClass env nm) Q E ⟨h, g, d, t, os⟩ := by
  subst hN
  unfold ldClass localGet
  refine wpAny_bind (wpAny_bind (wpAny_load (D.at i _ _ hi) ?_))
  refine mm_ite_t (by rfl) ?_
  refine mm_nsGet (D.at i _ _ hi) hl ?_
  dsimp only
  unfold loadGlobal
  refine wpAny_bind (wpAny_nsGet hg ?_)
  rw [hv]
  exact wpAny_pure hq
end
end Mine
end
section
open PySem PySem.W PyProof.Rows PySem.W.X PySem.Calls Builtin
set_option Elab.async false
namespace Mine
section
variable {h0 h h' : Heap} {chg news : List (Addr × Obj)}
theorem mem_thenC (D : Mem h0 h chg news) (k : ∀ b o, h.get? b = some o → h'.get? b = some o) : Mem h0 h' chg news :=
  ⟨fun b o e q => k _ _ (D.keep b o e q), fun p hp => ⟨k _ _ (D.ch p hp).1, (D.ch p hp).2⟩, D.cd, fun p hp => ⟨k _ _ (D.nw p hp).1, (D.nw p hp).2⟩, D.ord⟩
theorem mem_cons {a : Addr} {o : Obj} (D : Mem h0 h chg news) (e : h.get? a = some o) (l : ∀ p ∈ news, p.1 < a) (n : h0.get? a = none) : Mem h0 h chg ((a, o) :: news) :=
  ⟨D.keep, D.ch, D.cd, fun p hp => by
    rcases List.mem_cons.mp hp with rfl | hp
    · exact ⟨e, n⟩
    · exact D.nw p hp, List.Pairwise.cons (fun b hb => by
    obtain ⟨p, hp, rfl⟩ := List.mem_map.mp hb
    exact l p hp) D.ord⟩
theorem mem_none (D : Mem h0 h chg news) {a : Addr} (hl : h.objs.size ≤ a) : h0.get? a = none := by
  cases q : h0.get? a with
  | none => rfl
  | some o =>
    obtain ⟨o', e⟩ := D.there q
    exact absurd (Heap.lt_size e) (Nat.not_lt.mpr hl)
theorem mem_lt (D : Mem h0 h chg news) {p : Addr × Obj} (hp : p ∈ news) : p.1 < h.objs.size := Heap.lt_size (D.nw p hp).1
end
section
variable {M : Model} {A : Around} {E : Value → Shared → Prop} {h0 h : Heap} {g : Array GenState} {d : Drawn} {t : Nat} {os : OsState} {chg news : List (Addr × Obj)}
theorem mm_fn {env : Env} {c P : Addr} {mg : Str → Option Value} {ps : Array Value} {i : Nat} {name qual : Str} {params : Arguments} {body : List Stmt} {scope : Scope} {clos : List (Str × Addr)} {pos : Pos} {line : Nat} {Q : Value → Shared → Prop}
   (D : Mem h0 h chg news) (hi : news[i]? = some (P, tabObj ps)) (hcl : closureFor scope env = pure clos) (hge : env.globals = mainGlobals) (hg : h.Ns mainGlobals mg) (hcode : env.code = .ref c) (C : CodeHd h c P) (ht : TriplesOk ps.toList)
   (hnf : codeAmong pos ps.toList = none) (hgP : mainGlobals ≠ P) (hb : h.BuiltinsAt mg P)
   (hq : ∀ f c' oc vs u ctv doc h' tk, Mem h0 h' chg ((f, fnMade name qual params body scope clos doc ((mg "__name__").getD .none) c' ctv) :: (c', oc) :: news.set i (P, tabObj (ps ++ #[rawInt pos.line, rawInt pos.col, .ref c']))) →
      (∀ b o, b ≠ P → h.get? b = some o → h'.get? b = some o) → oc.data = .fields vs → vs[1]? = some (.str qual u) → Q (.ref f) ⟨h', g, d, tk, os⟩) :
   wpAny M A (makeFunction name qual params (.stmts body) scope env [] [] [] pos line) Q E ⟨h, g, d, t, os⟩ := by
  have hP := D.at i _ _ hi
  refine makeFunction_K (mg := mg) hcl hge hg hcode C hP ht hnf hgP hb fun c' ctv doc h' tk hx hge' hlt hrec htb => ?_
  obtain ⟨c₂, oc, vs, u, e2, hoc, hd, hv⟩ := hrec
  cases e2
  dsimp only at hx hge' hlt hoc htb ⊢
  have D1 := D.update (f := fun _ => tabObj (ps ++ #[rawInt pos.line, rawInt pos.col, .ref c'])) hi rfl
  have k1 : ∀ b o, (h.update P fun _ => tabObj (ps ++ #[rawInt pos.line, rawInt pos.col, .ref c'])).get? b = some o → h'.get? b = some o := fun b o e => by
    by_cases q : b = P
    · subst q
      rw [Heap.get?_update_self (fun _ => tabObj (ps ++ #[rawInt pos.line, rawInt pos.col, .ref c'])) hP rfl] at e
      rw [htb, ← e]
    · rw [Heap.get?_update_ne _ _ _ _ q] at e
      exact hx b o q e
  have D2 := mem_thenC D1 k1
  have hsz : ∀ p ∈ news.set i (P, tabObj (ps ++ #[rawInt pos.line, rawInt pos.col, .ref c'])), p.1 < h.objs.size := fun p hp => by
    rcases List.mem_or_eq_of_mem_set hp with hp | rfl
    · exact mem_lt D hp
    · exact Heap.lt_size hP
  have D3 := mem_cons D2 hoc (fun p hp => Nat.lt_of_lt_of_le (hsz p hp) hge') (mem_none D hge')
  have D4 := D3.alloc (o := fnMade name qual params body scope clos doc ((mg "__name__").getD .none) c' ctv) rfl
  exact hq _ _ _ _ _ _ _ _ _ D4 (fun b o hb e => Heap.get?_push_of_some _ (hx b o hb e)) hd hv
end
end Mine
namespace Mine
structure CB (h0 : Heap) (mg : Str → Option Value) (T : Addr) : Prop where
  g : h0.Ns mainGlobals mg
  b : h0.BuiltinsAt mg T
  t : mainGlobals ≠ T
theorem CB.ns {h0 h : Heap} {mg : Str → Option Value} {T : Addr} {x : Obj} {news : List (Addr × Obj)} (B : CB h0 mg T) (D : Mem h0 h [(T, x)] news) : h.Ns mainGlobals mg := ns_keepC D B.t B.g
theorem CB.ne {h0 h : Heap} {mg : Str → Option Value} {T P : Addr} {x o : Obj} {news : List (Addr × Obj)} {i : Nat} (B : CB h0 mg T) (D : Mem h0 h [(T, x)] news) (hi : news[i]? = some (P, o)) : mainGlobals ≠ P := by
  obtain ⟨o', es, ep, e, _⟩ := B.g
  exact (D.ne_old i P o hi mainGlobals o' e).symm
theorem CB.bt {h0 h : Heap} {mg : Str → Option Value} {T P : Addr} {x o : Obj} {news : List (Addr × Obj)} {i : Nat} (B : CB h0 mg T) (D : Mem h0 h [(T, x)] news) (hi : news[i]? = some (P, o)) : h.BuiltinsAt mg P := by
  obtain ⟨bm, ob, b1, b2, b3, b4, b5, r⟩ := B.b
  exact ⟨bm, ob, b1, b2, b3, (D.ne_old i P o hi bm ob b5).symm, mem_keepC D b4 b5, r⟩
theorem codeHd_at {h h' : Heap} {c P : Addr} (x : CodeHd h c P) (k : ∀ o, h.get? c = some o → h'.get? c = some o) : CodeHd h' c P := by
  have e : h'.get? c = h.get? c := by
    obtain ⟨o, _, _, _, _, _, _, _, _, e, _⟩ := x
    exact (k o e).trans e.symm
  unfold CodeHd at x ⊢
  rw [e]
  exact x
section
variable {prog : Program} {w : World} {A : Around} {E : Value → Shared → Prop} {h0 h : Heap} {g : Array GenState} {d : Drawn} {t : Nat} {os : OsState} {news : List (Addr × Obj)}
theorem mm_def {env : Env} {N c P T : Addr} {x : Obj} {mg : Str → Option Value} {pl : List Value} {iN iP iC n : Nat} {oc' : Obj} {l : List DictEntry} {name qual : Str} {params : Arguments} {body : List Stmt} {scope : Scope} {clos : List (Str × Addr)} {pos : Pos} {Q : Flow → Shared → Prop}
   (D : Mem h0 h [(T, x)] news) (B : CB h0 mg T) (hiN : news[iN]? = some (N, kdict l n)) (hiP : news[iP]? = some (P, tabObj pl.toArray)) (hiC : news[iC]? = some (c, oc')) (hne : iP ≠ iN) (hneC : iP ≠ iC) (hcl : closureFor scope env = pure clos) (hge : env.globals = mainGlobals) (hcode : env.code = .ref c) (C : CodeHd h c P) (ht : TriplesOk pl)
   (hnf : codeAmong pos pl = none) (hq0 : qualnameIn env name name = qual) (hd0 : params.defaults = []) (hk0 : params.kw_defaults = []) (ha : annTrees params none env = [])
   (hst : ∀ v, storeName env name v = localSet env name v) (hN : env.locals = N) (hr : l.any (·.refKey) = false) (hall : l.all (fun e => !e.key.isStr name) = true)
   (hq : ∀ f c' oc vs u ctv doc h' hh th tk, Mem h0 h' [(T, x)] ((f, fnMade name qual params body scope clos doc ((mg "__name__").getD .none) c' ctv) :: (c', oc) :: (news.set iP (P, tabObj (pl ++ [rawInt pos.line, rawInt pos.col, .ref c']).toArray)).set iN (N, kdict (l ++ [⟨hh, .str name th, .ref f⟩]) (n + 1))) →
      CodeHd h' c P → oc.data = .fields vs → vs[1]? = some (.str qual u) → Q .next ⟨h', g, d, tk, os⟩) :
   wpAny (model prog w) A (exec (.FunctionDef name params body [] none [] scope none name pos) env) Q E ⟨h, g, d, t, os⟩ := by
  refine nestDef_K hd0 hk0 ha ?_
  rw [hq0]
  refine mm_fn D hiP hcl hge (B.ns D) hcode C ht hnf (B.ne D hiP) (B.bt D hiP) fun f c' oc vs u ctv doc h' tk D1 hk1 hd hv => ?_
  rw [show pl.toArray ++ #[rawInt pos.line, rawInt pos.col, Value.ref c'] = (pl ++ [rawInt pos.line, rawInt pos.col, Value.ref c']).toArray by simp] at D1
  have hiN1 : ((f, fnMade name qual params body scope clos doc ((mg "__name__").getD .none) c' ctv) :: (c', oc) :: news.set iP (P, tabObj (pl ++ [rawInt pos.line, rawInt pos.col, .ref c']).toArray))[iN + 1 + 1]? = some (N, kdict l n) := by
    rw [List.getElem?_cons_succ, List.getElem?_cons_succ, List.getElem?_set_ne hne]; exact hiN
  refine mm_store D1 (hst _) hN hiN1 (no_ref hr) (fun hh tk => put_new hall) fun h2 hh D2 => ?_
  rw [List.set_cons_succ, List.set_cons_succ] at D2
  refine hq f c' oc vs u ctv doc h2 hh tk _ D2 ?_ hd hv
  have cP : c ≠ P := by obtain ⟨_, _, _, _, _, _, _, _, _, _, _, _, _, _, _, _, _, _, hn⟩ := C; exact hn
  refine codeHd_at C fun o e => ?_
  have e1 := hk1 c o cP e
  have e0 := D.at iC _ _ hiC
  rw [e] at e0
  cases e0
  by_cases q : iN = iC
  · subst q
    rw [hiN] at hiC
    cases hiC
    obtain ⟨o3, vs3, _, _, _, _, _, _, _, e3, e4, e5, _⟩ := C
    rw [e] at e3; cases e3
    cases e5
  · refine D2.at (iC + 1 + 1) _ _ ?_
    rw [List.getElem?_cons_succ, List.getElem?_cons_succ, List.getElem?_set_ne q, List.getElem?_set_ne hneC]
    exact hiC
end
end Mine
namespace Mine
theorem put_mod {h1 h2 h3 : Int} {t1 t2 t3 : Tok} {v1 v2 v3 v : Value} {n : Nat} {hh : Int} {key : Value} : Obj.putName "__module__" hh key v (kdict [ent h1 "__module__" t1 v1, ent h2 "__qualname__" t2 v2, ent h3 "__firstlineno__" t3 v3] n) =
   kdict [ent h1 "__module__" t1 v, ent h2 "__qualname__" t2 v2, ent h3 "__firstlineno__" t3 v3] n := by kernel_rfl
end Mine
end
section
open PySem PySem.W PyProof.Rows PySem.W.X PySem.Calls Builtin
set_option Elab.async false
namespace Mine
set_option maxRecDepth 100000
theorem look_opaque (w : World) {h : Heap} (X : (hd.heap_39 w.params).In h) : Looks (model PySem.Challenge.rw_mq0210_01.row.prog w) h anyOpaqueLoaded false := Looks.of_peek X (by kernel_rfl)
end Mine
end
section
open PySem PySem.W PyProof.Rows PySem.W.X PySem.Calls Builtin
set_option Elab.async false
namespace Mine
noncomputable def Blk2 (p : Prop) : Prop := p
theorem Blk2.mk {p : Prop} (h : Blk2 p) : p := h
theorem Blk2.out {p : Prop} (h : p) : Blk2 p := h
local macro_rules | `(tactic| walk_at "exec ClassDef") => `(tactic| refine Blk2.mk ?_)
theorem evalArgs_f {M : Model} {A : Around} {E : Value → Shared → Prop} {s : Shared} {f : Value} {x : Sem Value} {rest : List (Bool × Sem Value)} {Q : Args → Shared → Prop}
    (h : wpAny M A (spliced ((false, x) :: rest)) (fun vs s' => Q ⟨vs, []⟩ s') E s) : wpAny M A (evalArgs f false ((false, x) :: rest) []) Q E s :=
  PySem.Calls.evalArgs_plain h
theorem guard_ok {M : Model} {A : Around} {E : Value → Shared → Prop} {s : Shared} {env : Env} {mb : Str → Option Value} {Q : Unit → Shared → Prop} (hb : s.heap.Ns builtinsNs mb) (he : env.builtins = builtinsNs) (hv : mb "__build_class__" = some (.builtin "__build_class__")) (h : Q () s) : wpAny M A (buildClassGuard env) Q E s := by
  unfold buildClassGuard
  rw [he]
  refine wpAny_bind (wpAny_nsGet hb ?_)
  rw [hv]
  exact wpAny_pure h
theorem qual_K (L' : Addr) : qualnameIn (envOfC (Str.ofString "cmp_to_key")
      { kind := ScopeKind.function,
        names :=
          [(Str.ofString "mycmp", NameKind.cell), (Str.ofString "K", NameKind.local),
            (Str.ofString "object", NameKind.globalImplicit)],
        isGenerator := false, isCoroutine := false }
      L' 35 (Value.ref 34)) (Str.ofString "K") (Str.ofString "K") = Str.ofString "cmp_to_key.<locals>.K" := by kernel_rfl
local macro_rules | `(tactic| walk_at "buildClass") => `(tactic| refine Blk2.mk ?_)
theorem tf_isType : isType (.type "object") = pure true := by kernel_rfl
theorem tf_isType2 : isType (.type "type") = pure true := by kernel_rfl
theorem tf_sub : isSubtype (.type "type") (.type "type") = pure true := by rw [isSubtype_type]; kernel_rfl
theorem tf_typeOf : typeOf (.type "object") = pure (.type "type") := by kernel_rfl
theorem tf_dgi : typeLookup (.type "dict") "__getitem__" = pure (some (.builtin "dict.__getitem__")) := by rw [typeLookup_type, builtinLookup_eq_fast]; kernel_rfl
/-- what type.__new__ leaves -/
inductive TNew (h : Heap) (s₀ : Shared) (bT : Addr) (tn : Tok) (sl f1 f2 f3 f4 f5 f6 st : Addr) (a : Addr) (s' : Shared) : Prop
  | mk (m N : Addr) (tq t1' t2' t3' t1 t3 t4 t5 t6 t7 t8 t9 t10 t11 t12 tm ti : Tok) (ho hd h1 h3 h4 h5 h6 h7 h8 h9 h10 h11 h12 ln : Int) (md : Str) (n : Nat) (D : Mem h s'.heap [] [(m, kmem t1' a), (a, kclsF bT tn tq (Str.ofString "cmp_to_key.<locals>.K") N a),
    (N, kdict (kents h1 h3 h4 h5 h6 h7 h8 h9 h10 h11 h12 t1 t3 t4 t5 t6 t7 t8 t9 t10 t11 t12 tm ti ln md sl f1 f2 f3 f4 f5 f6 st ++ [ent ho "obj" t2' (.ref m), ent hd "__doc__" t3' .none]) n)]) (e1 : s'.gens = s₀.gens) (e2 : s'.drawn = s₀.drawn) (e3 : s'.os = s₀.os) : TNew h s₀ bT tn sl f1 f2 f3 f4 f5 f6 st a s'
theorem fr_eq {h₀ h : Heap} {L : Addr} {m m' : Str → Option Value} (F : Fr h₀ L h m) (e : m = m') : Fr h₀ L h m' := e ▸ F
theorem cell_in {h0 h h' : Heap} {L : Addr} {kn r : List (Addr × Obj)} {a : Addr} {o : Obj} (N : News h0 L h (kn ++ (a, o) :: r)) : h.get? a = some o := (N (a, o) (List.mem_append_right _ (.head _))).1
set_option maxRecDepth 100000 in
set_option maxHeartbeats 8000000 in
theorem ck_claim (w : World) (mean : ExcName → Option Value) (mg mb : Str → Option Value) (f : Addr) :
  ∀ (dp un : Nat) (gd : Option (List Code)) (cn : Str) (cs : Scope) (a : Addr) (ccd : Value) (cl : List (Str × Addr)) (outer : List Env) (A₀ : Around) (base h₀ : Heap) (L : Addr) (m : Str → Option Value) (own rest : List (Addr × Obj)) (s : Shared) (Q E : Value → Shared → Prop),
    Below A₀ base outer h₀ → Fr h₀ L s.heap m → (hd.heap_39 w.params).In h₀ → News h₀ L s.heap (own ++ (30, tabObj #[]) :: rest) → Top topProg LOO mean mg mb h₀ → cs.kind = .function →
    dp + 10 < recursionLimit → un + 50 < cLine → (∀ p ∈ own, p.1 ≠ 30) → (∀ p ∈ rest, p.1 ≠ 30) →
    (∀ (K9 cell : Addr) (kn : List (Addr × Obj)) (oc : Obj) (ps : Array Value) (h' : Heap) (tk' : Nat), Fr h₀ L h' m → News h₀ L h' (kn ++ (cell, oc) :: (own ++ (30, tabObj ps) :: rest)) → KList cell K9 kn → oc.data = .cell (some (.ref f)) → Q (.ref K9) { s with heap := h', toks := tk' }) →
      wpAny (model PySem.Challenge.rw_mq0210_01.row.prog w) (ktrTop dp un gd cn cs L a ccd cl outer) (call (.ref 35) [.ref f]) Q E s := by
   have hx : PySem.Challenge.rw_mq0210_01 = PySem.Challenge.rw_mq0210_01 := rfl
   have hy : hd.heap_39 = hd.heap_39 := rfl
   revert hx hy
   k_fill
   intro hx hy
   clear hx hy
   w_on
   intro dp un gd cn cs a ccd clo outer A₀ base h₀ L mm own rest s Q E hB F X N T hk hdp hun hown hrest hret
   refine wpAny_call ?_
   k_dflt (refine' code_defC ?k1 ?k2 ?k3 ?k4 ?k5 ?kA ?kF ?kK ?k6 ?k7 ?k8 ?k9 ?kB ?kD ?_ ?c2 ?c3 ?c4; (case kA => exact rfl); (case kF => exact rfl); (case kK => assumption); (case k1 => k_asm); (case k2 => k_asm); (case k3 => k_asm); (case k4 => k_asm); (case k5 => k_asm); (case k6 => k_is); (case k7 => k_is); (case k8 => ktr_room); (case k9 => exact BindsTo.of_eq rfl); (case kB => exact rfl); (case kD => decide +kernel); (case c2 => exact rfl); (case c3 => exact rfl); (case c4 => exact rfl); k_whole; intro g' L' h' tk' cells' FG' F' N' Y' B' X' T' l1; (try k_lt l1); k_cells Y'; (try simp only [List.cons_append, List.nil_append] at N'); (try dsimp only); (try k_lift B'); (try k_fold))
   k_steps
   refine Blk2.out ?_
   have hx : PySem.Challenge.rw_mq0210_01 = PySem.Challenge.rw_mq0210_01 := rfl
   have hy : hd.heap_39 = hd.heap_39 := rfl
   revert hx hy
   k_fill
   intro hx hy
   clear hx hy
   w_on
   rw [arm_exec_ClassDef]
   refine wpAny_bind (wpAny_pure ?_)
   refine wpAny_bind (wpAny_standAt ?_)
   refine wpAny_bind (guard_ok (T'.b.keeps F'.keep) rfl ((T'.builtins _ (by decide +kernel)).trans boot_bc) ?_)
   refine wpAny_bind (wpAny_holding (wpAny_bind ?_))
   refine evalArgs_f (Calls.spliced_cons (mm_ite_f (by decide) ?_))
   k_steps
   refine wpAny_bind (wpAny_standAt (wpAny_holding ?_))
   rw [qual_K]
   refine wpAny_mono (Q := fun v s9 => ∃ K9, v = .ref K9 ∧ KRes h' { heap := h', gens := s.gens, drawn := s.drawn, toks := tk', os := s.os } (L' + 1) K9 s9) (E := fun _ _ => False) ?build ?post (fun _ _ z => z.elim)
   case build =>
     have hdep : ((ktrTop dp un gd cn cs L a ccd clo outer).deeper (envOfC (Str.ofString "cmp_to_key")
       { kind := ScopeKind.function,
         names :=
           [(Str.ofString "mycmp", NameKind.cell), (Str.ofString "K", NameKind.local),
             (Str.ofString "object", NameKind.globalImplicit)],
         isGenerator := false, isCoroutine := false } L' 35 (Value.ref 34))).depth + 5 < recursionLimit := by
       show dp + 1 + 5 < recursionLimit
       omega
     have hun9 : ((ktrTop dp un gd cn cs L a ccd clo outer).deeper (envOfC (Str.ofString "cmp_to_key")
       { kind := ScopeKind.function,
         names :=
           [(Str.ofString "mycmp", NameKind.cell), (Str.ofString "K", NameKind.local),
             (Str.ofString "object", NameKind.globalImplicit)],
         isGenerator := false, isCoroutine := false } L' 35 (Value.ref 34))).handled = none := rfl
     generalize hA9 : ((ktrTop dp un gd cn cs L a ccd clo outer).deeper (envOfC (Str.ofString "cmp_to_key")
       { kind := ScopeKind.function,
         names :=
           [(Str.ofString "mycmp", NameKind.cell), (Str.ofString "K", NameKind.local),
             (Str.ofString "object", NameKind.globalImplicit)],
         isGenerator := false, isCoroutine := false } L' 35 (Value.ref 34))) = A9 at hdep hun9 ⊢
     clear hA9
     generalize henv : (envOfC (Str.ofString "cmp_to_key")
       { kind := ScopeKind.function,
         names :=
           [(Str.ofString "mycmp", NameKind.cell), (Str.ofString "K", NameKind.local),
             (Str.ofString "object", NameKind.globalImplicit)],
         isGenerator := false, isCoroutine := false } L' 35 (Value.ref 34)) = env9
     have D0 := Mem.start h'
     have hg9 := T'.g.keeps F'.keep
     have hX9 := X'.keeps F'.keep
     unfold buildClass
     refine wpAny_bind (mm_tuple D0 (by decide) fun bT h1 D1 => ?_)
     refine wpAny_bind (mm_forIn1 rfl (wpAny_bind (wpAny_of_eq tf_isType ?_)))
     refine mm_ite_t (by decide) ?_
     refine mm_ite_f (by decide) ?_
     refine wpAny_pure ?_
     dsimp -zeta only
     refine wpAny_bind (wpAny_of_eq tf_typeOf ?_)
     refine wpAny_bind (wpAny_of_eq tf_isType2 ?_)
     refine mm_ite_t (by decide) ?_
     refine wpAny_bind (mm_forIn1 rfl (wpAny_bind (wpAny_of_eq tf_typeOf (wpAny_bind (wpAny_of_eq tf_sub ?_)))))
     refine mm_ite_t (by decide) ?_
     refine wpAny_pure ?_
     dsimp -zeta only
     refine wpAny_bind (wpAny_mkText ?_)
     refine mm_ite_f (by decide) ?_
     refine wpAny_bind (wpAny_pure ?_)
     dsimp -zeta only
     refine wpAny_holding ?_
     refine wpAny_bind (prep_get fun mp h2 D2 t2 => ?_)
     refine wpAny_bind (prep_call (D2.at 0 _ _ rfl) ?_)
     have D3 := (mem_then D1 (mem_keep D2)).alloc (o := { cls := .type "dict", data := .dict #[] 0 }) rfl
     have hN35 : sysModules < h2.objs.size := Nat.lt_trans (by decide) (Heap.lt_size (mem_keep (mem_then D1 (mem_keep D2)) _ _ (hX9 35 _ rfl)))
     clear D0 D1 D2
     generalize h2.objs.size = N at D3 hN35 ⊢
     generalize h2.push { cls := .type "dict", data := .dict #[] 0 } = h3 at D3 ⊢
     dsimp -zeta only
     refine wpAny_bind ?_
     unfold notTheModulesDict
     refine mm_ite_f (decide_eq_false (by rw [beq_false hN35]; exact Bool.false_ne_true)) (wpAny_pure ?_)
     refine wpAny_bind (mm_specialS (D3.at 0 _ _ rfl) rfl tf_dgi ?_)
     refine mm_ite_f (by decide) ?_
     refine wpAny_holding ?_
     have h30 : h'.get? 30 = some (tabObj #[]) := (N' (30, tabObj #[]) (.tail _ (List.mem_append_right _ (.head _)))).1
     obtain ⟨oc9, hoc9⟩ : ∃ oc, h'.get? (L' + 1) = some oc := ⟨_, (N' _ (.head _)).1⟩
     refine mm_ite_f (by decide) ?_
     refine wpAny_bind (wpAny_pure ?_)
     refine mm_ite_f (by decide) ?_
     refine wpAny_bind (wpAny_pure ?_)
     refine wpAny_bind (class_code D3 (by rw [← henv]; rfl) (ck_code w hX9) h30 fun cc PP ft h4 t4 fs vs u D4 hC4 hv4 => ?_)
     have hg4 := ns_keepC D4 (by decide) hg9
     obtain ⟨bm, ob, b1, b2, b3, b4, b5, b6⟩ := T'.bmain
     have hob : h'.get? bm = some ob := F'.keep _ _ b3
     have hbm30 : bm ≠ 30 := fun e => by rw [e, h30] at hob; cases hob; cases b4
     refine wpAny_bind (wpAny_builtinsFor (by rw [← henv]; exact hg4) b1 b2 (mem_keepC D4 hbm30 hob) b4 b5 b6 ?_)
     refine wpAny_bind (mm_frame D4 (by rw [← henv]; exact hg4) fun fr h5 D5 => ?_)
     have hcl : ∀ sc : Scope, sc.names = [(Str.ofString "__module__", NameKind.local), (Str.ofString "__slots__", NameKind.local), (Str.ofString "__init__", NameKind.local), (Str.ofString "__lt__", NameKind.local), (Str.ofString "__gt__", NameKind.local), (Str.ofString "__eq__", NameKind.local), (Str.ofString "__le__", NameKind.local), (Str.ofString "__ge__", NameKind.local), (Str.ofString "__hash__", NameKind.local), (Str.ofString "mycmp", NameKind.free)] → closureFor sc env9 = pure [(Str.ofString "mycmp", L' + 1)] := by
       intro sc hsc
       unfold closureFor
       rw [hsc, ← henv]
       kernel_rfl
     refine wpAny_bind (wpAny_of_eq (hcl _ rfl) ?_)
     refine wpAny_holding ?_
     refine wpAny_bind (wpAny_enterFrame (lim_keepC D5 (by decide) (T'.nolimit.keeps F'.keep)) (Nat.lt_of_le_of_lt (Nat.le_add_right _ 5) hdep) ?_)
     have hgl : env9.globals = mainGlobals := by rw [← henv]; rfl
     rw [hgl] at D5 ⊢
     generalize hcenv : ({
                         scope :=
                           { kind := ScopeKind.class,
                             names :=
                               [(Str.ofString "__module__", NameKind.local), (Str.ofString "__slots__", NameKind.local),
                                 (Str.ofString "__init__", NameKind.local), (Str.ofString "__lt__", NameKind.local),
                                 (Str.ofString "__gt__", NameKind.local), (Str.ofString "__eq__", NameKind.local),
                                 (Str.ofString "__le__", NameKind.local), (Str.ofString "__ge__", NameKind.local),
                                 (Str.ofString "__hash__", NameKind.local), (Str.ofString "mycmp", NameKind.free)],
                             isGenerator := false, isCoroutine := false },
                         locals := N, globals := mainGlobals,
                         cells :=
                           (Option.map (fun x => (Str.ofString "__class__", x)) none).toList ++
                               (Option.map (fun x => (Str.ofString "__classdict__", x)) none).toList ++
                             [(Str.ofString "mycmp", L' + 1)],
                         qual := Str.ofString "cmp_to_key.<locals>.K" ++ Str.ofString ".", code := Value.ref cc,
                         frame := some fr, builtins := builtinsNs } : Env) = cenv
     obtain ⟨tn9, hn9⟩ := glob_name w
     have hmgn := mg_of hX9 hg9 hn9
     have hg5 := ns_keepC D5 (by decide) hg9
     have hcN : cenv.locals = N := by rw [← hcenv]
     have hcG : cenv.globals = mainGlobals := by rw [← hcenv]
     have eName : loadName cenv "__name__" = ldClass cenv "__name__" := by rw [← hcenv]; kernel_rfl
     have eMod : ∀ v, storeName cenv "__module__" v = localSet cenv "__module__" v := by intro v; rw [← hcenv]; kernel_rfl
     have eQual : ∀ v, storeName cenv "__qualname__" v = localSet cenv "__qualname__" v := by intro v; rw [← hcenv]; kernel_rfl
     have eLine : ∀ v, storeName cenv "__firstlineno__" v = localSet cenv "__firstlineno__" v := by intro v; rw [← hcenv]; kernel_rfl
     refine wpAny_bind (wpAny_onRaise ?_)
     rw [eName]
     refine wpAny_bind (mm_ldClass (i := 4) (l := []) (n := 0) D5 hcN rfl (by kernel_rfl) (by rw [hcG]; exact hg5) hmgn ?_)
     refine wpAny_bind (mm_store (i := 4) (l := []) (n := 0) D5 (eMod _) hcN rfl (no_ref rfl) (fun hh tk => put_new rfl) fun h6 hh6 D6 => ?_)
     dsimp only [List.set] at D6
     refine wpAny_bind (wpAny_mkText ?_)
     refine wpAny_bind (mm_store (i := 4) D6 (eQual _) hcN rfl (no_ref rfl) (fun hh tk => put_new (by kernel_rfl)) fun h7 hh7 D7 => ?_)
     dsimp only [List.set] at D7
     refine wpAny_bind ?_
     unfold mkInt
     refine wpAny_bind (wpAny_fresh (wpAny_pure ?_))
     refine wpAny_bind (mm_store (i := 4) D7 (eLine _) hcN rfl (no_ref rfl) (fun hh tk => put_new (by kernel_rfl)) fun h8 hh8 D8 => ?_)
     dsimp only [List.set] at D8
     refine wpAny_pure ?_
     clear D5 D6 D7
     have hbG9 : bm ≠ mainGlobals := fun e => by
       obtain ⟨o, es, ep, e1, hd1, _⟩ := hg9
       rw [e, e1] at hob; cases hob; rw [hd1] at b6; cases b6
     have hbs : CB h' mg 30 := ⟨hg9, ⟨bm, ob, b1, b2, hbG9, hbm30, hob, b4, b5, b6⟩, by decide⟩
     have hcC : cenv.code = .ref cc := by rw [← hcenv]
     have eSlots : ∀ v, storeName cenv "__slots__" v = localSet cenv "__slots__" v := by intro v; rw [← hcenv]; kernel_rfl
     refine wpAny_bind (wpAny_run (codeAny_of_tree ?_))
     refine wpAny_bind (wpAny_of_eq (show blockStart _ cenv = pure () by rw [← hcenv]; kernel_rfl) ?_)
     refine wpAny_bind (wpAny_onRaise ?_)
     refine wpAny_execs_cons (wpAny_Assign_Name (wpAny_Constant_str ?_))
     refine mm_store (i := 4) D8 (eMod _) hcN rfl (no_ref rfl) (fun hh tk => put_mod) fun h9 hh9 D9 => ?_
     dsimp only [List.set] at D9
     refine wpAny_execs_cons (wpAny_Assign_Name ?_)
     refine wpAny_bind (wpAny_standAt (wpAny_bind (spliced_more (wpAny_Constant_str (spliced_none ?_)))))
     refine mm_list D9 (Nat.le_of_ble_eq_true rfl) fun sl h10 D10 => ?_
     refine mm_store (i := 5) D10 (eSlots _) hcN rfl (no_ref rfl) (fun hh tk => put_new (by kernel_rfl)) fun h11 hh11 D11 => ?_
     dsimp only [List.set, List.cons_append, List.nil_append] at D11
     clear D8 D9 D10
     dsimp -zeta only
     have hC0 : CodeHd h11 cc PP := codeHd_at hC4 fun o e => by
       have e4 := D4.at 0 _ _ rfl
       rw [e] at e4; cases e4
       exact D11.at 2 _ _ rfl
     refine wpAny_execs_cons (mm_def (iN := 5) (iP := 3) (iC := 2) (clos := []) (qual := Str.ofString "cmp_to_key.<locals>.K.__init__") D11 hbs rfl rfl rfl (by decide) (by decide) (by rw [← hcenv]; kernel_rfl) hcG hcC hC0 trivial rfl (by rw [← hcenv]; kernel_rfl) rfl rfl rfl (by intro v; rw [← hcenv]; kernel_rfl) hcN rfl (by kernel_rfl) fun fi ci oci vi ui ctvi doci h12 hh12 th12 tk12 D12 hC1 hdi hvi => ?_)
     dsimp only [List.set, List.cons_append, List.nil_append] at D12
     refine wpAny_execs_cons (mm_def (iN := 7) (iP := 5) (iC := 4) (clos := [(Str.ofString "mycmp", L' + 1)]) (qual := Str.ofString "cmp_to_key.<locals>.K.__lt__") D12 hbs rfl rfl rfl (by decide) (by decide) (by rw [← hcenv]; kernel_rfl) hcG hcC hC1 trivial rfl (by rw [← hcenv]; kernel_rfl) rfl rfl rfl (by intro v; rw [← hcenv]; kernel_rfl) hcN rfl (by kernel_rfl) fun flt clt olt vlt ult wlt dlt h13 hh13 th13 tk13 D13 hC2 hdlt hvlt => ?_)
     dsimp only [List.set, List.cons_append, List.nil_append] at D13
     refine wpAny_execs_cons (mm_def (iN := 9) (iP := 7) (iC := 6) (clos := [(Str.ofString "mycmp", L' + 1)]) (qual := Str.ofString "cmp_to_key.<locals>.K.__gt__") D13 hbs rfl rfl rfl (by decide) (by decide) (by rw [← hcenv]; kernel_rfl) hcG hcC hC2 trivial rfl (by rw [← hcenv]; kernel_rfl) rfl rfl rfl (by intro v; rw [← hcenv]; kernel_rfl) hcN rfl (by kernel_rfl) fun fgt cgt ogt vgt ugt wgt dgt h14 hh14 th14 tk14 D14 hC3 hdgt hvgt => ?_)
     dsimp only [List.set, List.cons_append, List.nil_append] at D14
     clear D13 hC2
     refine wpAny_execs_cons (mm_def (iN := 11) (iP := 9) (iC := 8) (clos := [(Str.ofString "mycmp", L' + 1)]) (qual := Str.ofString "cmp_to_key.<locals>.K.__eq__") D14 hbs rfl rfl rfl (by decide) (by decide) (by rw [← hcenv]; kernel_rfl) hcG hcC hC3 trivial rfl (by rw [← hcenv]; kernel_rfl) rfl rfl rfl (by intro v; rw [← hcenv]; kernel_rfl) hcN rfl (by kernel_rfl) fun feq ceq oeq veq ueq weq deq h15 hh15 th15 tk15 D15 hC4 hdeq hveq => ?_)
     dsimp only [List.set, List.cons_append, List.nil_append] at D15
     clear D14 hC3
     refine wpAny_execs_cons (mm_def (iN := 13) (iP := 11) (iC := 10) (clos := [(Str.ofString "mycmp", L' + 1)]) (qual := Str.ofString "cmp_to_key.<locals>.K.__le__") D15 hbs rfl rfl rfl (by decide) (by decide) (by rw [← hcenv]; kernel_rfl) hcG hcC hC4 trivial rfl (by rw [← hcenv]; kernel_rfl) rfl rfl rfl (by intro v; rw [← hcenv]; kernel_rfl) hcN rfl (by kernel_rfl) fun fle cle ole vle ule wle dle h16 hh16 th16 tk16 D16 hC5 hdle hvle => ?_)
     dsimp only [List.set, List.cons_append, List.nil_append] at D16
     clear D15 hC4
     refine wpAny_execs_cons (mm_def (iN := 15) (iP := 13) (iC := 12) (clos := [(Str.ofString "mycmp", L' + 1)]) (qual := Str.ofString "cmp_to_key.<locals>.K.__ge__") D16 hbs rfl rfl rfl (by decide) (by decide) (by rw [← hcenv]; kernel_rfl) hcG hcC hC5 trivial rfl (by rw [← hcenv]; kernel_rfl) rfl rfl rfl (by intro v; rw [← hcenv]; kernel_rfl) hcN rfl (by kernel_rfl) fun fge cge oge vge uge wge dge h17 hh17 th17 tk17 D17 hC6 hdge hvge => ?_)
     dsimp only [List.set, List.cons_append, List.nil_append] at D17
     clear D16 hC5
     refine wpAny_execs_cons (wpAny_Assign_Name (wpAny_Constant_none ?_))
     refine mm_store (i := 17) D17 (by rw [← hcenv]; kernel_rfl) hcN rfl (no_ref rfl) (fun hh tk => put_new (by kernel_rfl)) fun h18 hh18 D18 => ?_
     dsimp only [List.set, List.cons_append, List.nil_append] at D18
     refine wpAny_execs_nil ?_
     clear D17
     refine wpAny_pure ?_
     dsimp -zeta only
     refine wpAny_bind (wpAny_onRaise ?_)
     refine wpAny_bind (wpAny_mkStrs fun fs2 => ?_)
     refine wpAny_bind ?_
     unfold newTextTuple
     refine mm_newAsIs D18 rfl fun st h19 D19 => ?_
     refine wpAny_bind (mm_store (i := 18) D19 (by rw [← hcenv]; kernel_rfl) hcN rfl (no_ref (by kernel_rfl)) (fun hh tk => put_new (by kernel_rfl)) fun h20 hh20 D20 => ?_)
     dsimp only [List.set, List.cons_append, List.nil_append] at D20
     clear D18 D19
     refine wpAny_pure ?_
     refine mm_ite_f (by decide) ?_
     have hno9 : Looks (model PySem.Challenge.rw_mq0210_01.row.prog w) h20 anyOpaqueLoaded false := look_opaque w (fun a o e => mem_keepC D20 (fun q => by subst q; rw [show ((hd.heap_39 w.params).lookup 30) = none by kernel_rfl] at e; cases e) (hX9 a o e))
     have gN := D20.at 18 _ _ rfl
     refine wpAny_bind (tcall (P := TNew h20 s bT tk' sl fi flt fgt feq fle fge st) (fun a s' hp => ?_) (fun {A'} {Q'} {E'} hq' => ?_) (fun a s' hp => ?_))
     · obtain ⟨m, N2, tq, t1', t2', t3', t1, t3, t4, t5, t6, t7, t8, t9, t10, t11, t12, tm, ti, ho, hd2, h1, h3, h4, h5, h6, h7, h8, h9, h10, h11, h12, ln, md, n, D21, _, _, _⟩ := hp
       exact ⟨_, _, D21.at 1 _ _ rfl, rfl, rfl⟩
     · refine tnew (h := h20) (sl := sl) (f1 := fi) (f2 := flt) (f3 := fgt) (f4 := feq) (f5 := fle) (f6 := fge) (st := st) rfl (D20.at 19 _ _ rfl) gN (D20.at 13 _ _ rfl) (beq_false hN35) ⟨_, D20.at 11 _ _ rfl, rfl⟩ ⟨_, D20.at 9 _ _ rfl, rfl⟩ ⟨_, D20.at 7 _ _ rfl, rfl⟩ ⟨_, D20.at 5 _ _ rfl, rfl⟩ ⟨_, D20.at 3 _ _ rfl, rfl⟩ ⟨_, D20.at 1 _ _ rfl, rfl⟩ ⟨_, D20.at 0 _ _ rfl, rfl⟩ hno9 rfl (fun m a N2 h9 ho hd2 t1 t2 t3 tk9 n D21 => hq' a _ ⟨_, _, _, _, _, _, _, _, _, _, _, _, _, _, _, _, _, _, _, _, _, _, _, _, _, _, _, _, _, _, _, _, _, _, _, D21, rfl, rfl, rfl⟩)
     · obtain ⟨m, N2, tq, t1', t2', t3', t1, t3, t4, t5, t6, t7, t8, t9, t10, t11, t12, tm, ti, ho, hd2, h1, h3, h4, h5, h6, h7, h8, h9, h10, h11, h12, ln, md, n, D21, e1, e2, e3⟩ := hp
       refine wpAny_pure ⟨a, rfl, ⟨⟨e1, e2, e3⟩, fun b o e hb => mem_keep D21 _ _ (mem_keepC D20 hb e), ⟨_, mem_keep D21 _ _ (D20.atC 0 _ _ rfl)⟩, ?_⟩⟩
       have nn : ∀ b, h20.get? b = none → h'.get? b = none := fun b e => by
         cases q : h'.get? b with
         | none => rfl
         | some o => obtain ⟨o', e'⟩ := D20.there q; rw [e] at e'; cases e'
       refine ⟨_, ?_, ⟨bT, N2, m, fi, flt, ci, clt, sl, fgt, feq, fle, fge, st, oci, olt, vi, vlt, ui, ult, (mg "__name__").getD .none, doci, dlt, ctvi, wlt, tk', tq, t1', t1, t3, t4, t5, t6, t7, t8, t9, t10, t11, t12, tm, ti, t2', t3', h1, h3, h4, h5, h6, h7, h8, h9, h10, h11, h12, ho, hd2, ln, md, n, rfl, hdi, hvi, hdlt, hvlt, ?_⟩⟩
       · intro p hp
         simp only [List.mem_cons, List.not_mem_nil, or_false] at hp
         rcases hp with rfl | rfl | rfl | rfl | rfl | rfl | rfl
         · exact ⟨D21.at 1 _ _ rfl, nn _ (D21.nw _ (List.mem_of_getElem? (i := 1) rfl)).2⟩
         · exact ⟨D21.at 0 _ _ rfl, nn _ (D21.nw _ (List.mem_of_getElem? (i := 0) rfl)).2⟩
         · exact ⟨D21.at 2 _ _ rfl, nn _ (D21.nw _ (List.mem_of_getElem? (i := 2) rfl)).2⟩
         · exact ⟨mem_keep D21 _ _ ((D20.at 11 fi _ rfl).trans (by kernel_rfl)), (D20.nw _ (List.mem_of_getElem? (i := 11) rfl)).2⟩
         · exact ⟨mem_keep D21 _ _ ((D20.at 9 flt _ rfl).trans (by kernel_rfl)), (D20.nw _ (List.mem_of_getElem? (i := 9) rfl)).2⟩
         · exact ⟨mem_keep D21 _ _ (D20.at 12 ci _ rfl), (D20.nw _ (List.mem_of_getElem? (i := 12) rfl)).2⟩
         · exact ⟨mem_keep D21 _ _ (D20.at 10 clt _ rfl), (D20.nw _ (List.mem_of_getElem? (i := 10) rfl)).2⟩
       · simp only [List.nodup_cons, List.mem_cons, List.not_mem_nil, or_false, not_or, not_false_eq_true, List.nodup_nil, and_true]
         exact ⟨⟨Ne.symm (D21.ne 0 1 _ _ _ _ rfl rfl rfl), (D21.ne 1 2 _ _ _ _ rfl rfl rfl), (D21.ne_old 1 _ _ rfl _ _ (D20.at 11 _ _ rfl)), (D21.ne_old 1 _ _ rfl _ _ (D20.at 9 _ _ rfl)), (D21.ne_old 1 _ _ rfl _ _ (D20.at 12 _ _ rfl)), (D21.ne_old 1 _ _ rfl _ _ (D20.at 10 _ _ rfl))⟩, ⟨(D21.ne 0 2 _ _ _ _ rfl rfl rfl), (D21.ne_old 0 _ _ rfl _ _ (D20.at 11 _ _ rfl)), (D21.ne_old 0 _ _ rfl _ _ (D20.at 9 _ _ rfl)), (D21.ne_old 0 _ _ rfl _ _ (D20.at 12 _ _ rfl)), (D21.ne_old 0 _ _ rfl _ _ (D20.at 10 _ _ rfl))⟩, ⟨(D21.ne_old 2 _ _ rfl _ _ (D20.at 11 _ _ rfl)), (D21.ne_old 2 _ _ rfl _ _ (D20.at 9 _ _ rfl)), (D21.ne_old 2 _ _ rfl _ _ (D20.at 12 _ _ rfl)), (D21.ne_old 2 _ _ rfl _ _ (D20.at 10 _ _ rfl))⟩, ⟨Ne.symm (D20.ne 9 11 _ _ _ _ rfl rfl rfl), (D20.ne 11 12 _ _ _ _ rfl rfl rfl), Ne.symm (D20.ne 10 11 _ _ _ _ rfl rfl rfl)⟩, ⟨(D20.ne 9 12 _ _ _ _ rfl rfl rfl), (D20.ne 9 10 _ _ _ _ rfl rfl rfl)⟩, Ne.symm (D20.ne 10 12 _ _ _ _ rfl rfl rfl)⟩
   case post =>
     rintro v s9 ⟨K9, rfl, R⟩
     obtain ⟨h9, g9, d9, tk9, os9⟩ := s9
     obtain ⟨F9, kn, ps, hkn, N9⟩ := kres_news F' N' (l1 _ (List.mem_append_right _ (.head _))) hown hrest R
     obtain ⟨rfl, rfl, rfl⟩ := R.st
     clear R
     dsimp only at F9 N9 ⊢
     refine wpAny_bind (wpAny_pure ?_)
     refine wpAny_bind (wpAny_standAt ?_)
     have hx : PySem.Challenge.rw_mq0210_01 = PySem.Challenge.rw_mq0210_01 := rfl
     have hy : hd.heap_39 = hd.heap_39 := rfl
     revert hx hy
     k_fill
     intro hx hy
     clear hx hy
     w_on
     clear F' N'
     have F9' := fr_eq F9 (m' := fun _ => none) (by funext z; with_unfolding_all rfl)
     clear F9
     refine wpAny_bind ?_
     k_steps
     refine wpAny_pure ?_
     dsimp -zeta only
     k_steps
     exact hret _ _ _ _ _ _ _ (by assumption) (by assumption) hkn (by assumption)
end Mine
end
section
open PySem PySem.W PyProof.Rows PySem.Calls Builtin
set_option Elab.async false
namespace Mine
set_option maxRecDepth 100000
section
variable {kn : Frag} {K9 : Addr} {o : Obj} {cd : ClassData} {name : Str}
theorem find_own {v : Value} {r : List Value} (l : kn.lookup K9 = some o) (hd : o.data = .cls cd) (hm : cd.mro = .ref K9 :: r) (hn : nsIn kn cd.ns name = some (some v)) : findIn kn (.ref K9) name = some (some v) := by
  obtain ⟨c, d, dt, s⟩ := o
  dsimp only at hd
  subst hd
  unfold findIn
  dsimp only
  rw [l]
  dsimp only
  rw [hm]
  unfold alongIn ownIn
  dsimp only
  rw [l]
  dsimp only
  rw [hn]
theorem find_obj {r : Option Value} (l : kn.lookup K9 = some o) (hd : o.data = .cls cd) (hm : cd.mro = [.ref K9, .type "object"]) (hn : nsIn kn cd.ns name = some none) (hr : alongIn kn name [.type "object"] = some r) : findIn kn (.ref K9) name = some r := by
  obtain ⟨c, d, dt, s⟩ := o
  dsimp only at hd
  subst hd
  unfold findIn
  dsimp only
  rw [l]
  dsimp only
  rw [hm]
  rw [alongIn]
  unfold ownIn
  dsimp only
  rw [l]
  dsimp only
  rw [hn]
  exact hr
end
/-- what the library asks of a class made by cmp_to_key -/
structure KC (kn : Frag) (K9 m fi fl : Addr) : Prop where
  mi : makesIn kn K9 = true
  fI : findIn kn (.ref K9) "__init__" = some (some (.ref fi))
  ti : typeIn kn (.ref fi) = some (.type "function")
  fL : findIn kn (.ref K9) "__lt__" = some (some (.ref fl))
  tl : isFn kn (.ref fl) = true
  po : plainOver kn K9 = true
  tk : takerIn kn K9 "obj" = some (some (.ref m))
  tm : typeIn kn (.ref m) = some (.type "member_descriptor")
  sl : slotIn kn m K9 = some 0
  sa : findIn kn (.ref K9) "__setattr__" = some (some (.builtin "object.__setattr__"))
  pg : plainGet kn K9 "obj" = true
  fo : ∀ od, findObj kn K9 od "obj" = some (.bind (.builtin "member_descriptor.__get__") (.ref m))
theorem kc_of {kn : Frag} {bT N m fi fl K9 sl f3 f4 f5 f6 st cell ci cl : Addr} {pm doci docl ctvi ctvl : Value} {tn tq t1' t1 t3 t4 t5 t6 t7 t8 t9 t10 t11 t12 tm ti to td : Tok} {h1 h3 h4 h5 h6 h7 h8 h9 h10 h11 h12 ho hd ln : Int} {md : Str} {n : Nat}
   (lK : kn.lookup K9 = some (kclsF bT tn tq "cmp_to_key.<locals>.K" N K9)) (lM : kn.lookup m = some (kmem t1' K9))
   (lN : kn.lookup N = some (kdict (kents h1 h3 h4 h5 h6 h7 h8 h9 h10 h11 h12 t1 t3 t4 t5 t6 t7 t8 t9 t10 t11 t12 tm ti ln md sl fi fl f3 f4 f5 f6 st ++ [ent ho "obj" to (.ref m), ent hd "__doc__" td .none]) n))
   (lfi : kn.lookup fi = some (fnMadeS kInit "cmp_to_key.<locals>.K.__init__" [] doci pm ci ctvi)) (lfl : kn.lookup fl = some (fnMadeS kLt "cmp_to_key.<locals>.K.__lt__" [(Str.ofString "mycmp", cell)] docl pm cl ctvl)) : KC kn K9 m fi fl := by
  have nsE : ∀ name, nsIn kn N name = (match (kents h1 h3 h4 h5 h6 h7 h8 h9 h10 h11 h12 t1 t3 t4 t5 t6 t7 t8 t9 t10 t11 t12 tm ti ln md sl fi fl f3 f4 f5 f6 st ++ [ent ho "obj" to (.ref m), ent hd "__doc__" td .none]).find? (·.key.isStr name) with
      | some e => some (some e.val)
      | none => some none) := by
    intro name
    unfold nsIn
    rw [lN]
    rfl
  have fI : findIn kn (.ref K9) "__init__" = some (some (.ref fi)) := find_own lK rfl rfl ((nsE _).trans (by kernel_rfl))
  have fL : findIn kn (.ref K9) "__lt__" = some (some (.ref fl)) := find_own lK rfl rfl ((nsE _).trans (by kernel_rfl))
  have fO : findIn kn (.ref K9) "obj" = some (some (.ref m)) := find_own lK rfl rfl ((nsE _).trans (by kernel_rfl))
  have fS : findIn kn (.ref K9) "__setattr__" = some (some (.builtin "object.__setattr__")) := find_obj lK rfl rfl ((nsE _).trans (by kernel_rfl)) (by kernel_rfl)
  have fG : findIn kn (.ref K9) "__getattribute__" = some (some (.builtin "object.__getattribute__")) := find_obj lK rfl rfl ((nsE _).trans (by kernel_rfl)) (by kernel_rfl)
  have fA : findIn kn (.ref K9) "__getattr__" = some none := find_obj lK rfl rfl ((nsE _).trans (by kernel_rfl)) (by kernel_rfl)
  have cI : clsIn kn K9 = some { name := Str.ofString "K", bases := [.type "object"], mro := [.ref K9, .type "object"], ns := N, qualname := "cmp_to_key.<locals>.K", hasDict := false, slotNames := [Str.ofString "obj"] } := by
    unfold clsIn; rw [lK]; rfl
  have tM : typeIn kn (.ref m) = some (.type "member_descriptor") := by unfold typeIn; dsimp only; rw [lM]; rfl
  have tK : typeIn kn (.ref K9) = some (.type "type") := by unfold typeIn; dsimp only; rw [lK]; rfl
  have tI : typeIn kn (.ref fi) = some (.type "function") := by unfold typeIn; dsimp only; rw [lfi]; kernel_rfl
  have tL : typeIn kn (.ref fl) = some (.type "function") := by unfold typeIn; dsimp only; rw [lfl]; kernel_rfl
  have sp : ∀ nm, specialIn kn (.ref m) nm = fastLookup "member_descriptor" nm := by intro nm; unfold specialIn; rw [tM]; rfl
  have tkI : takesIn kn (.ref m) = some true := by unfold takesIn; rw [sp]; kernel_rfl
  refine ⟨?_, fI, tI, fL, by unfold isFn; rw [tL]; simp, ?_, ?_, tM, ?_, fS, ?_, ?_⟩
  · unfold makesIn
    rw [lK]
    have e1 : specialIn kn (.ref K9) "__call__" = some (some (.builtin "type.__call__")) := by unfold specialIn; rw [tK]; kernel_rfl
    have e2 : instIn kn (.ref K9) (.type "type") = some true := by unfold instIn; rw [tK]; kernel_rfl
    show (_ && _ && _ && _ && _ && _ && _ && _) = true
    rw [e1, e2]
    simp [kclsF]
  · unfold plainOver; rw [cI]; kernel_rfl
  · unfold takerIn; rw [fO]; dsimp only [Option.bind]; rw [tkI]; rfl
  · unfold slotIn recIn; rw [lM, cI]; dsimp only [kmem]; simp
  · unfold plainGet; rw [fG, fA]; simp
  · intro od
    unfold findObj; rw [cI, fO]; dsimp only [Option.bind]
    have fg : fastLookup "member_descriptor" "__get__" = some (some (.builtin "member_descriptor.__get__")) := by kernel_rfl
    rw [sp, fg]
    dsimp only
    rw [tkI]
end Mine
end
section
open PySem PySem.W PyProof.Rows PySem.Calls Builtin
set_option Elab.async false
namespace Mine
noncomputable def kids : Expr → List Expr
  | .Compare a _ c _ => a :: c
  | .Call a b _ _ => a :: b
  | .Attribute a _ _ => [a]
  | _ => []
noncomputable def kOf : Expr → Nat
  | .Constant _ k _ => k
  | _ => 0
noncomputable def sKids : Stmt → List Expr
  | .Return (some e) _ => [e]
  | .Assign a b _ => b :: a
  | _ => []
noncomputable def kd (i : Nat) (e : Expr) : Expr := (kids e).getD i default
noncomputable def ltS : Stmt := (fnBody kLt).headD passS
noncomputable def ltE : Expr := (sKids ltS).getD 0 default
noncomputable def inS : Stmt := (fnBody kInit).headD passS
noncomputable def inE : Expr := (sKids inS).getD 1 default
theorem lt_body : ∃ p1 p2 p3 p4 p5 p6 p7 p8 p9 k, fnBody kLt = [.Return (some (.Compare (.Call (.Name (Str.ofString "mycmp") p1) [.Attribute (.Name (Str.ofString "self") p2) (Str.ofString "obj") p3, .Attribute (.Name (Str.ofString "other") p4) (Str.ofString "obj") p5] [] p6) [.Lt] [.Constant (.int 0) k p7] p8)) p9]  :=
  ⟨(kd 0 (kd 0 ltE)).pos, (kd 0 (kd 1 (kd 0 ltE))).pos, (kd 1 (kd 0 ltE)).pos, (kd 0 (kd 2 (kd 0 ltE))).pos, (kd 2 (kd 0 ltE)).pos, (kd 0 ltE).pos, (kd 1 ltE).pos, ltE.pos, ltS.pos, kOf (kd 1 ltE), by kernel_rfl⟩
theorem in_body : ∃ p1 p2 p3 p4, fnBody kInit = [.Assign [.Attribute (.Name (Str.ofString "self") p1) (Str.ofString "obj") p2] (.Name (Str.ofString "obj") p3) p4]  :=
  ⟨(kd 0 inE).pos, inE.pos, ((sKids inS).getD 0 default).pos, inS.pos, by kernel_rfl⟩
end Mine
end
section
open PySem PySem.W PyProof.Rows PySem.Calls Builtin
set_option Elab.async false
namespace Mine
set_option maxRecDepth 100000
inductive KX (cell K9 : Addr) (kn : List (Addr × Obj)) : Prop
  | mk (m fi fl ci cl : Addr) (oci ocl : Obj) (vi vl : Array Value) (ui ul : Tok) (pm doci docl ctvi ctvl : Value) (hC : KC kn K9 m fi fl)
    (m1 : (fi, fnMadeS kInit "cmp_to_key.<locals>.K.__init__" [] doci pm ci ctvi) ∈ kn) (m2 : (fl, fnMadeS kLt "cmp_to_key.<locals>.K.__lt__" [(Str.ofString "mycmp", cell)] docl pm cl ctvl) ∈ kn) (m3 : (ci, oci) ∈ kn) (m4 : (cl, ocl) ∈ kn)
    (r1 : oci.data = .fields vi) (r2 : vi[1]? = some (.str "cmp_to_key.<locals>.K.__init__" ui)) (r3 : ocl.data = .fields vl) (r4 : vl[1]? = some (.str "cmp_to_key.<locals>.K.__lt__" ul)) : KX cell K9 kn
theorem kx_of {kn : List (Addr × Obj)} {cell K9 : Addr} (h : KList cell K9 kn) : KX cell K9 kn := by
  obtain ⟨bT, N, m, fi, fl, ci, cl, sl, f3, f4, f5, f6, st, oci, ocl, vi, vl, ui, ul, pm, doci, docl, ctvi, ctvl, tn, tq, t1', t1, t3, t4, t5, t6, t7, t8, t9, t10, t11, t12, tm, ti, to, td, h1, h3, h4, h5, h6, h7, h8, h9, h10, h11, h12, ho, hd, ln, md, n, e, r1, r2, r3, r4, nd⟩ := h
  simp only [List.nodup_cons, List.mem_cons, List.not_mem_nil, or_false, not_or, not_false_eq_true, List.nodup_nil, and_true] at nd
  obtain ⟨⟨a1, a2, a3, a4, a5, a6⟩, ⟨b1, b2, b3, b4, b5⟩, ⟨c1, c2, c3, c4⟩, ⟨d1, d2, d3⟩, ⟨e1, e2⟩, f1⟩ := nd
  have lK : kn.lookup K9 = some (kclsF bT tn tq "cmp_to_key.<locals>.K" N K9) := by rw [e]; simp [List.lookup]
  have lM : kn.lookup m = some (kmem t1' K9) := by
    rw [e, List.lookup_cons, beq_eq_false_iff_ne.mpr (Ne.symm a1)]
    simp [List.lookup]
  have lN : kn.lookup N = some (kdict (kents h1 h3 h4 h5 h6 h7 h8 h9 h10 h11 h12 t1 t3 t4 t5 t6 t7 t8 t9 t10 t11 t12 tm ti ln md sl fi fl f3 f4 f5 f6 st ++ [ent ho "obj" to (.ref m), ent hd "__doc__" td .none]) n) := by
    rw [e, List.lookup_cons, beq_eq_false_iff_ne.mpr (Ne.symm a2)]
    dsimp only
    rw [List.lookup_cons, beq_eq_false_iff_ne.mpr (Ne.symm b1)]
    simp [List.lookup]
  have lfi : kn.lookup fi = some (fnMadeS kInit "cmp_to_key.<locals>.K.__init__" [] doci pm ci ctvi) := by
    rw [e, List.lookup_cons, beq_eq_false_iff_ne.mpr (Ne.symm a3)]
    dsimp only
    rw [List.lookup_cons, beq_eq_false_iff_ne.mpr (Ne.symm b2)]
    dsimp only
    rw [List.lookup_cons, beq_eq_false_iff_ne.mpr (Ne.symm c1)]
    simp [List.lookup]
  have lfl : kn.lookup fl = some (fnMadeS kLt "cmp_to_key.<locals>.K.__lt__" [(Str.ofString "mycmp", cell)] docl pm cl ctvl) := by
    rw [e, List.lookup_cons, beq_eq_false_iff_ne.mpr (Ne.symm a4)]
    dsimp only
    rw [List.lookup_cons, beq_eq_false_iff_ne.mpr (Ne.symm b3)]
    dsimp only
    rw [List.lookup_cons, beq_eq_false_iff_ne.mpr (Ne.symm c2)]
    dsimp only
    rw [List.lookup_cons, beq_eq_false_iff_ne.mpr (Ne.symm d1)]
    simp [List.lookup]
  have hC := kc_of lK lM lN lfi lfl
  clear lK lM lN lfi lfl
  subst e
  exact ⟨m, fi, fl, ci, cl, oci, ocl, vi, vl, ui, ul, pm, doci, docl, ctvi, ctvl, hC, .tail _ (.tail _ (.tail _ (.head _))), .tail _ (.tail _ (.tail _ (.tail _ (.head _)))), .tail _ (.tail _ (.tail _ (.tail _ (.tail _ (.head _))))), .tail _ (.tail _ (.tail _ (.tail _ (.tail _ (.tail _ (.head _)))))), r1, r2, r3, r4⟩
/-- the object of the class that holds v -/
noncomputable def instS (K9 dx : Addr) (v : Value) : Obj := { cls := .ref K9, dict := some dx, data := .plain, slots := #[some v] }
theorem madeS_eq {st : Stmt} (_ : True) (q : Str) (cl : List (Str × Addr)) (d p : Value) (c : Addr) (t : Value) : fnMadeS st q cl d p c t = fnMade (fnName st) q (fnArgs st) (fnBody st) (fnScope st) cl d p c t := rfl
theorem frag_in {h₀ h : Heap} {L : Addr} {kn news : List (Addr × Obj)} (N : News h₀ L h news) (hin : ∀ q ∈ kn, q ∈ news) : Frag.In kn h := fun a o e => (N (a, o) (hin _ (mem_of_lookupK e))).1
end Mine
end
section
open PySem PySem.W PyProof.Rows PySem.Calls Builtin
set_option Elab.async false
namespace Mine
set_option maxRecDepth 100000
section
variable {prog : Program} {w : World} {A A₀ : Around} {E : Value → Shared → Prop} {K : Frag} {h₀ base : Heap} {L : Addr} {m : Str → Option Value} {s : Shared} {news kn : List (Addr × Obj)} {cell K9 : Addr} {env : Env} {outer : List Env} {p : Program} {loose : List Str} {mean : ExcName → Option Value} {mg mb : Str → Option Value}
theorem mk_inst {v : Value} {Q : Value → Shared → Prop} (B : Below A₀ base outer h₀) (F : Fr h₀ L s.heap m) (X₀ : K.In h₀) (N : News h₀ L s.heap news) (T : Top p loose mean mg mb h₀) (hA : A.frames = some (env :: outer)) (hf : env.frame = some L) (hke : env.scope.kind = .function)
   (hk : KX cell K9 kn) (hin : ∀ q ∈ kn, q ∈ news) (hroom : A.depth + 1 < recursionLimit)
   (hq : ∀ x dx h' tk, Fr h₀ L h' m → News h₀ L h' ((x, instS K9 dx v) :: (dx, emptyDict) :: news) → (∀ q ∈ news, q.1 < dx) → dx < x → Q (.ref x) { s with heap := h', toks := tk }) :
   wpAny (model prog w) A (call (.ref K9) [v]) Q E s := by
  obtain ⟨mm, fi, fl, ci, cl, oci, ocl, vi, vl, ui, ul, pm, doci, docl, ctvi, ctvl, hC, m1, m2, m3, m4, r1, r2, r3, r4⟩ := hk
  refine wpAny_call (make_K F N (frag_in N hin) hC.mi hC.fI hC.ti fun x dx h' F' N' l1 l2 => ?_)
  have hfi : (fi, fnMade (fnName kInit) "cmp_to_key.<locals>.K.__init__" (fnArgs kInit) (fnBody kInit) (fnScope kInit) [] doci pm ci ctvi) ∈ (x, instObj K9 dx) :: (dx, emptyDict) :: news := by
    rw [← madeS_eq trivial]
    exact .tail _ (.tail _ (hin _ m1))
  have hst : (v' : Value) → True := fun _ => trivial
  refine code_nest (cl := []) (args := ⟨[.ref x, v], []⟩) (binds := [(Str.ofString "self", .ref x), (Str.ofString "obj", v)]) B F' X₀ N' T ?_ hf hke hfi (codeRec_news N' (.tail _ (.tail _ (hin _ m3))) r1 r2) ?_ (BindsTo.of_eq (by kernel_rfl)) ?_ (fun g L' h₁ FG F1 N1 B1 X1 T1 => ?_) (by kernel_rfl) (by kernel_rfl) (by kernel_rfl) ?_
  · show pushEnvs (Code.builtin "type.__call__" ⟨.ref K9 :: [v], []⟩).envs A.frames = _
    rw [hA]; rfl
  · show A.depth + (Code.builtin "type.__call__" ⟨.ref K9 :: [v], []⟩).weight < _
    rw [show (Code.builtin "type.__call__" ⟨.ref K9 :: [v], []⟩).weight = 1 from rfl]
    exact hroom
  · intro y hy
    simp only [List.mem_cons, List.not_mem_nil, or_false] at hy
    rcases hy with rfl | rfl <;> kernel_rfl
  · obtain ⟨p1, p2, p3, p4, hb⟩ := in_body
    rw [hb]
    have hx1 := (N1 _ (.head _)).1
    have hd1 := (N1 _ (.tail _ (.head _))).1
    have X9 : Frag.In kn h₁ := frag_in N1 fun q hq => .tail _ (.tail _ (hin q hq))
    have I : InstAt h₁ x (instObj K9 dx) K9 (some emptyDict) := ⟨hx1, rfl, rfl, hd1⟩
    refine wpAny_execs_cons (plainObj_wpAny_Assign_Attribute (wpAny_Name (wpAny_loadName_local (by kernel_rfl) (by kernel_rfl) F1.ns (v := v) rfl ?_)))
    refine wpAny_Name (wpAny_loadName_local (by kernel_rfl) (by kernel_rfl) F1.ns (v := .ref x) rfl ?_)
    refine set_plain X9 I hC.sa (osa_descr KF.slot_mset X9 I hC.po hC.tk hC.tm ?_)
    refine slot_set (pre := []) (ox' := instS K9 dx v) F1 N1 X9 I hC.sl (by decide) (fun _ hp => (nomatch hp)) ?_ rfl rfl fun h2 F2 N2 => ?_
    · intro p hp
      rcases List.mem_cons.mp hp with rfl | hp
      · exact Nat.ne_of_lt l2
      · exact Nat.ne_of_lt (Nat.lt_trans (l1 p hp) l2)
    · refine wpAny_execs_nil (leaveK_ F2 N2 fun F3 N3 => ⟨rfl, ?_⟩)
      exact hq x dx _ _ F3 N3 l1 l2
  · intro y hy
    have := List.all_eq_true.mp (show (fnScope kInit).names.all (fun x => decide (x.2 ≠ .cell)) = true by kernel_rfl) y hy
    exact of_decide_eq_true this
end
end Mine
end
section
open PySem PySem.W PyProof.Rows PySem.Calls Builtin
set_option Elab.async false
namespace Mine
set_option maxRecDepth 100000
section
variable {w : World} {K : Frag} {h₀ base : Heap} {L : Addr} {m : Str → Option Value} {s : Shared} {news kn : List (Addr × Obj)} {cell K9 : Addr} {mean : ExcName → Option Value} {mg mb : Str → Option Value} {E : Value → Shared → Prop}
/-- what a call of the function at f hands back for vx, vy where the ledger is news -/
noncomputable def CmpC (w : World) (mean : ExcName → Option Value) (mg mb : Str → Option Value) (f : Addr) (news : List (Addr × Obj)) (vx vy : Value) (r : Int) : Prop :=
  ∀ (dp un : Nat) (gd : Option (List Code)) (cn : Str) (cs : Scope) (a : Addr) (ccd : Value) (cl : List (Str × Addr)) (outer : List Env) (A₀ : Around) (base h₀ : Heap) (L : Addr) (m : Str → Option Value) (s : Shared) (Q E : Value → Shared → Prop),
    Below A₀ base outer h₀ → Fr h₀ L s.heap m → (hd.heap_39 w.params).In h₀ → News h₀ L s.heap news → Top topProg LOO mean mg mb h₀ → cs.kind = .function → dp + 10 < recursionLimit → un + 50 < cLine →
    (∀ (t : Tok) (h' : Heap) (tk' : Nat), Fr h₀ L h' m → News h₀ L h' news → Q (.int r t) { s with heap := h', toks := tk' }) →
      wpAny (model PySem.Challenge.rw_mq0210_01.row.prog w) (ktrTop dp un gd cn cs L a ccd cl outer) (call (.ref f) [vx, vy]) Q E s
theorem get_obj {prog : Program} {A : Around} {x dx mm fi fl : Addr} {v : Value} {Q : Value → Shared → Prop} (hC : KC kn K9 mm fi fl) (X : Frag.In kn s.heap) (I : InstAt s.heap x (instS K9 dx v) K9 (some emptyDict)) (hv : handedIn v = true) (h : Q v { s with toks := s.toks + 1 }) :
   wpAny (model prog w) A (getAttr (.ref x) "obj" true) Q E s :=
  get_bind X I (plainGet_of hC.pg).1 (hC.fo _) (plainGet_of hC.pg).2 (wpAny_call (slot_get (s := { s with toks := s.toks + 1 }) X I hC.sl (v := v) rfl (handed_on hv h)))
theorem lt_inst {dp un : Nat} {gd : Option (List Code)} {cn : Str} {cs : Scope} {a : Addr} {ccd : Value} {cl : List (Str × Addr)} {outer : List Env} {A₀ : Around} {x y dx dy f : Addr} {vx vy oc1 : Value} {od1 : Option Addr} {fd : FuncData} {sl1 : Array (Option Value)} {oc : Obj} {r : Int} {Q : Bool → Shared → Prop}
   (B : Below A₀ base outer h₀) (F : Fr h₀ L s.heap m) (X₀ : (hd.heap_39 w.params).In h₀) (N : News h₀ L s.heap news) (T : Top topProg LOO mean mg mb h₀) (hcs : cs.kind = .function) (hd : dp + 12 < recursionLimit) (hu : un + 60 < cLine)
   (hk : KX cell K9 kn) (hin : ∀ q ∈ kn, q ∈ news) (hx : (x, instS K9 dx vx) ∈ news) (hdx : (dx, emptyDict) ∈ news) (hy : (y, instS K9 dy vy) ∈ news) (hdy : (dy, emptyDict) ∈ news) (hcell : (cell, oc) ∈ news) (hoc : oc.data = .cell (some (.ref f)))
   (hf : (f, (⟨oc1, od1, .func fd, sl1⟩ : Obj)) ∈ news) (hvx : handedIn vx = true) (hvy : handedIn vy = true) (hcmp : CmpC w mean mg mb f news vx vy r)
   (hq : ∀ h' tk, Fr h₀ L h' m → News h₀ L h' news → Q (decide (r < 0)) { s with heap := h', toks := tk }) :
   wpAny (model PySem.Challenge.rw_mq0210_01.row.prog w) (ktrTop dp un gd cn cs L a ccd cl outer) (keyLt' oneType' (.ref x) (.ref y)) Q E s := by
  obtain ⟨mm, fi, fl, ci, clt, oci, ocl, vi, vl, ui, ul, pm, doci, docl, ctvi, ctvl, hC, m1, m2, m3, m4, r1, r2, r3, r4⟩ := hk
  have inst : ∀ {h' : Heap} {h₁ : Heap} {L₁ : Addr} {x dx : Addr} {v : Value}, News h₁ L₁ h' news → (x, instS K9 dx v) ∈ news → (dx, emptyDict) ∈ news → InstAt h' x (instS K9 dx v) K9 (some emptyDict) := fun N' h1 h2 => ⟨(N' _ h1).1, rfl, rfl, (N' _ h2).1⟩
  rw [keyLt'_oneType, oneLt'_eq]
  simp only [if_true]
  refine wpAny_bind (wpAny_cRoomFor (show un < cLine by omega) ?_)
  refine wpAny_bind (ifBound_K (frag_in N hin) (inst N hx hdx) hC.fL hC.tl (wpAny_mono (Q := W.BoolBack Q) ?_ (fun v s' hv => by cases v <;> first | exact hv.elim | exact wpAny_truthy_bool hv) fun _ _ e => e))
  have hfl : (fl, fnMade (fnName kLt) "cmp_to_key.<locals>.K.__lt__" (fnArgs kLt) (fnBody kLt) (fnScope kLt) [(Str.ofString "mycmp", cell)] docl pm clt ctvl) ∈ news := by
    rw [← madeS_eq trivial]
    exact hin _ m2
  refine wpAny_call (code_nest (cl := [(Str.ofString "mycmp", cell)]) (args := ⟨[.ref x, .ref y], []⟩) (binds := [(Str.ofString "self", .ref x), (Str.ofString "other", .ref y)]) B F X₀ N T rfl rfl hcs hfl (codeRec_news N (hin _ m4) r3 r4) (show dp < recursionLimit by omega) (BindsTo.of_eq (by kernel_rfl)) ?_ (fun g L' h₁ FG F1 N1 B1 X1 T1 => ?_) (by kernel_rfl) (by kernel_rfl) (by kernel_rfl) ?_)
  · intro y hy
    simp only [List.mem_cons, List.not_mem_nil, or_false] at hy
    rcases hy with rfl | rfl <;> kernel_rfl
  · obtain ⟨p1, p2, p3, p4, p5, p6, p7, p8, p9, k, hb⟩ := lt_body
    rw [hb]
    refine wpAny_execs_cons (wpAny_Return_some (wpAny_Compare1 (Call_ (wpAny_Name (wpAny_loadName_free (c := cell) (v := .ref f) (by kernel_rfl) (by kernel_rfl) rfl ⟨oc, (N1 _ hcell).1, hoc⟩ ?_)))))
    refine callWith_F (q := f) ⟨_, _, _, _, (N1 _ hf).1⟩ ?_
    refine spliced_more (Attribute_Name_ (wpAny_Name (wpAny_loadName_local (by kernel_rfl) (by kernel_rfl) F1.ns (v := .ref x) rfl ?_)))
    refine get_obj hC (frag_in N1 hin) (inst N1 hx hdx) hvx ?_
    refine spliced_more (Attribute_Name_ (wpAny_Name (wpAny_loadName_local (by kernel_rfl) (by kernel_rfl) F1.ns (v := .ref y) rfl ?_)))
    refine get_obj hC (frag_in N1 hin) (inst N1 hy hdy) hvy ?_
    refine spliced_none ⟨⟨_, _, _, _, (N1 _ hf).1⟩, ?_⟩
    refine hcmp (dp + 1) (un + 3) gd _ _ fl (.ref clt) [(Str.ofString "mycmp", cell)] (envX cn cs L a ccd cl :: outer) _ _ g L' _ _ _ _ B1 F1 X1 N1 T1 (by kernel_rfl) (by omega) (by omega) fun t h2 tk2 F2 N2 => ?_
    refine wpAny_Constant_int ?_
    refine wpAny_lt_int ?_
    refine leaveK_ F2 N2 fun F3 N3 => ?_
    exact hq _ _ F3 N3
  · intro y hy
    have := List.all_eq_true.mp (show (fnScope kLt).names.all (fun x => decide (x.2 ≠ .cell)) = true by kernel_rfl) y hy
    exact of_decide_eq_true this
end
end Mine
end
section
open PySem PySem.W PyProof.Rows
set_option Elab.async false
namespace Mine
/-- an answer known ahead -/
noncomputable def pc (c : Nat → Int) (N : Nat) (i j : Nat) (C : Bool → Shared → Prop) (s : Shared) : Prop := i < N ∧ j < N ∧ C (decide (c i < c j)) s
structure Pre (c : Nat → Int) (N n : Nat) (p : Array Nat) : Prop where
  sz : p.size = N
  le : n ≤ N
  tl : ∀ k, n ≤ k → k < N → p.getD k 0 = k
  sm : ∀ k, k < n → p.getD k 0 < n
noncomputable def Rr (c : Nat → Int) (x y : Nat) : Prop := c x < c y ∨ (c x = c y ∧ x < y)
noncomputable def Asc (c : Nat → Int) (n : Nat) (p : Array Nat) : Prop := ∀ a b, a < b → b < n → Rr c (p.getD a 0) (p.getD b 0)
noncomputable def Dsc (c : Nat → Int) (n : Nat) (p : Array Nat) : Prop := ∀ a b, a < b → b < n → Rr c (p.getD b 0) (p.getD a 0)
theorem Pre.lt {c : Nat → Int} {N n : Nat} {p : Array Nat} (h : Pre c N n p) (hN : 0 < N) (k : Nat) : p.getD k 0 < N := by
  by_cases h1 : k < n
  · exact Nat.lt_of_lt_of_le (h.sm k h1) h.le
  · by_cases h2 : k < N
    · rw [h.tl k (by lia  ) h2]; exact h2
    · have : p.size ≤ k := by rw [h.sz]; lia  
      rw [Array.getD, dif_neg (by lia  )]; exact hN
theorem Pre.up {c : Nat → Int} {N n : Nat} {p : Array Nat} (h : Pre c N n p) (hn : n < N) : Pre c N (n + 1) p :=
  ⟨h.sz, hn, fun k h1 h2 => h.tl k (by lia  ) h2, fun k hk => by
    by_cases q : k < n
    · have := h.sm k q; lia  
    · have : k = n := by lia  
      subst this
      rw [h.tl k (Nat.le_refl _) hn]; lia  ⟩
theorem wpr {α : Type} {cmp : Nat → Nat → (Bool → Shared → Prop) → Shared → Prop} {a : α} {Q : α → Shared → Prop} {s : Shared} (h : Q a s) : (KasT.ret a).kasWp cmp Q s := h
theorem wpa {α : Type} {c : Nat → Int} {N i j : Nat} {k : Bool → KasT α} {Q : α → Shared → Prop} {s : Shared} (hi : i < N) (hj : j < N) (h : (k (decide (c i < c j))).kasWp (pc c N) Q s) : (KasT.ask i j k).kasWp (pc c N) Q s := ⟨hi, hj, h⟩
theorem asc_ext {c : Nat → Int} {N n : Nat} {p : Array Nat} (h : Pre c N n p) (h1 : 1 ≤ n) (hn : n < N) (A : Asc c n p) (hc : c (p.getD (n - 1) 0) ≤ c (p.getD n 0)) : Asc c (n + 1) p := by
  intro a b hab hb
  by_cases q : b < n
  · exact A a b hab q
  · have hbn : b = n := by lia  
    subst hbn
    have e := h.tl b (Nat.le_refl _) hn
    have sa := h.sm a hab
    rw [e] at hc ⊢
    by_cases qa : a = b - 1
    · subst qa
      unfold Rr
      lia  
    · have := A a (b - 1) (by lia  ) (by lia  )
      unfold Rr at this ⊢
      lia  
theorem asc_run {c : Nat → Int} {N : Nat} {p : Array Nat} {s : Shared} {Q : Nat → Shared → Prop} : ∀ (f n : Nat), Pre c N n p → 1 ≤ n → n + f = N → Asc c n p →
    (∀ r, n ≤ r → Pre c N r p → Asc c r p → (r = N ∨ (r < N ∧ c (p.getD r 0) < c (p.getD (r - 1) 0))) → Q r s) → (kas_asc p f n).kasWp (pc c N) Q s
  | 0, n, h, h1, hf, A, hQ => wpr (hQ n (Nat.le_refl _) h A (.inl (by lia  )))
  | f + 1, n, h, h1, hf, A, hQ => by
    refine wpa (h.lt (by lia  ) n) (h.lt (by lia  ) (n - 1)) ?_
    by_cases hc : c (p.getD n 0) < c (p.getD (n - 1) 0)
    · rw [decide_eq_true hc, if_pos rfl]
      exact wpr (hQ n (Nat.le_refl _) h A (.inr ⟨by lia  , hc⟩))
    · rw [decide_eq_false hc, if_neg (by simp)]
      exact asc_run f (n + 1) (h.up (by lia  )) (by lia  ) (by lia  ) (asc_ext h h1 (by lia  ) A (by lia  )) fun r hr => hQ r (by lia  )
theorem rev_get {p : Array Nat} {i j : Nat} (hj : j ≤ p.size) (k : Nat) : (kas_rev p i j).getD k 0 = if i ≤ k ∧ k < j then p.getD (i + j - 1 - k) 0 else p.getD k 0 := by
  have h := getElem?_mirror_all (i := i) hj k
  have e1 : (kas_rev p i j).getD k 0 = ((kas_rev p i j)[k]?).getD 0 := by rw [Array.getD_eq_getD_getElem?]
  rw [e1]
  unfold kas_rev
  rw [h]
  split <;> rw [Array.getD_eq_getD_getElem?]
theorem rev_size (p : Array Nat) (i j : Nat) : (kas_rev p i j).size = p.size := mirror_size _ _ _ _
theorem Pre.rev {c : Nat → Int} {N n : Nat} {p : Array Nat} (h : Pre c N n p) {i : Nat} (hi : i ≤ n) : Pre c N n (kas_rev p i n) := by
  have hs : n ≤ p.size := by rw [h.sz]; exact h.le
  refine ⟨by rw [rev_size]; exact h.sz, h.le, fun k h1 h2 => ?_, fun k hk => ?_⟩
  · rw [rev_get hs, if_neg (by lia  )]; exact h.tl k h1 h2
  · rw [rev_get hs]
    split
    · exact h.sm _ (by lia  )
    · exact h.sm _ hk
/-- the state of the descending run: the last q + 1 are alike -/
structure Dn (c : Nat → Int) (n q : Nat) (p : Array Nat) : Prop where
  q1 : q + 1 ≤ n
  d1 : ∀ a b, n - (q + 1) ≤ a → a < b → b < n → c (p.getD a 0) = c (p.getD b 0) ∧ p.getD a 0 < p.getD b 0
  d2 : ∀ a b, a < b → b < n - (q + 1) → Rr c (p.getD b 0) (p.getD a 0)
  d3 : ∀ a b, a < n - (q + 1) → n - (q + 1) ≤ b → b < n → c (p.getD b 0) < c (p.getD a 0)
theorem Dn.last {c : Nat → Int} {n q : Nat} {p : Array Nat} (D : Dn c n q p) (a : Nat) (ha : a < n) : c (p.getD (n - 1) 0) ≤ c (p.getD a 0) := by
  have := D.q1
  by_cases h : a < n - (q + 1)
  · have := D.d3 a (n - 1) h (by lia  ) (by lia  ); lia  
  · by_cases e : a = n - 1
    · subst e; lia  
    · have := (D.d1 a (n - 1) (by lia  ) (by lia  ) (by lia  )).1; lia  
theorem Dn.desc {c : Nat → Int} {n q : Nat} {p : Array Nat} (D : Dn c n q p) (hs : n ≤ p.size) : Dsc c n (kas_rev p (n - (q + 1)) n) := by
  have hq := D.q1
  intro a b hab hb
  rw [rev_get hs, rev_get hs]
  by_cases h1 : b < n - (q + 1)
  · rw [if_neg (by lia  ), if_neg (by lia  )]; exact D.d2 a b hab h1
  · rw [if_pos ⟨by lia  , hb⟩]
    by_cases h2 : a < n - (q + 1)
    · rw [if_neg (by lia  )]
      exact .inl (D.d3 a _ h2 (by lia  ) (by lia  ))
    · rw [if_pos ⟨by lia  , by lia  ⟩]
      have := D.d1 (n - (q + 1) + n - 1 - b) (n - (q + 1) + n - 1 - a) (by lia  ) (by lia  ) (by lia  )
      exact .inr ⟨this.1, this.2⟩
theorem Dn.desc0 {c : Nat → Int} {n : Nat} {p : Array Nat} (D : Dn c n 0 p) : Dsc c n p := by
  have hq := D.q1
  intro a b hab hb
  by_cases h1 : b < n - 1
  · exact D.d2 a b hab (by lia  )
  · exact .inl (D.d3 a b (by lia  ) (by lia  ) hb)
theorem dn_next {c : Nat → Int} {n : Nat} {p : Array Nat} (A : Dsc c n p) (h1 : 1 ≤ n) (hc : ∀ a, a < n → c (p.getD n 0) < c (p.getD a 0)) : Dn c (n + 1) 0 p :=
  ⟨by lia  , fun a b h1 h2 h3 => by lia  , fun a b hab hb => A a b hab (by lia  ), fun a b ha h2 h3 => by
    have : b = n := by lia  
    subst this; exact hc a (by lia  )⟩
theorem desc_run {c : Nat → Int} {N : Nat} {s : Shared} {Q : Array Nat × Nat × Nat → Shared → Prop} : ∀ (f : Nat) (p : Array Nat) (n q : Nat), Pre c N n p → n + f = N → Dn c n q p →
    (∀ p' n' q', Pre c N n' p' → Dn c n' q' p' → Q (p', n', q') s) → (kas_desc f p n q).kasWp (pc c N) Q s
  | 0, p, n, q, h, hf, D, hQ => wpr (hQ p n q h D)
  | f + 1, p, n, q, h, hf, D, hQ => by
    have hq := D.q1
    have hs : n ≤ p.size := by rw [h.sz]; lia  
    have en := h.tl n (Nat.le_refl _) (by lia  )
    refine wpa (h.lt (by lia  ) n) (h.lt (by lia  ) (n - 1)) ?_
    by_cases hc : c (p.getD n 0) < c (p.getD (n - 1) 0)
    · rw [decide_eq_true hc, if_pos rfl]
      by_cases q0 : q > 0
      · rw [if_pos q0]
        have h' := h.rev (i := n - (q + 1)) (by lia  )
        have e2 : (kas_rev p (n - (q + 1)) n).getD n 0 = p.getD n 0 := by rw [rev_get hs, if_neg (by lia  )]
        refine desc_run f _ (n + 1) 0 (h'.up (by lia  )) (by lia  ) (dn_next (D.desc hs) (by lia  ) fun a ha => ?_) hQ
        rw [e2, rev_get hs]
        split
        · have := D.last (n - (q + 1) + n - 1 - a) (by lia  ); lia  
        · have := D.last a ha; lia  
      · rw [if_neg q0]
        have q1 : q = 0 := by lia  
        subst q1
        refine desc_run f p (n + 1) 0 (h.up (by lia  )) (by lia  ) (dn_next D.desc0 (by lia  ) fun a ha => ?_) hQ
        have := D.last a ha; lia  
    · rw [decide_eq_false hc, if_neg (by simp)]
      refine wpa (h.lt (by lia  ) (n - 1)) (h.lt (by lia  ) n) ?_
      by_cases hd : c (p.getD (n - 1) 0) < c (p.getD n 0)
      · rw [decide_eq_true hd, if_pos rfl]
        exact wpr (hQ p n q h D)
      · rw [decide_eq_false hd, if_neg (by simp)]
        have ec : c (p.getD (n - 1) 0) = c (p.getD n 0) := by lia  
        refine desc_run f p (n + 1) (q + 1) (h.up (by lia  )) (by lia  ) ⟨by lia  , fun a b h1 h2 h3 => ?_, fun a b h1 h2 => D.d2 a b h1 (by lia  ), fun a b h1 h2 h3 => ?_⟩ hQ
        · by_cases hb : b < n
          · exact D.d1 a b (by lia  ) h2 hb
          · have hbn : b = n := by lia  
            subst hbn
            have sa := h.sm a (by lia  )
            refine ⟨?_, by lia  ⟩
            by_cases ha : a = b - 1
            · subst ha; exact ec
            · rw [(D.d1 a (b - 1) (by lia  ) (by lia  ) (by lia  )).1]; exact ec
        · by_cases hb : b < n
          · exact D.d3 a b (by lia  ) (by lia  ) hb
          · have hbn : b = n := by lia  
            subst hbn
            have := D.d3 a (b - 1) (by lia  ) (by lia  ) (by lia  )
            lia  
theorem desc_flip {c : Nat → Int} {N n : Nat} {p : Array Nat} (h : Pre c N n p) (A : Dsc c n p) : Asc c n (kas_rev p 0 n) := by
  have hs : n ≤ p.size := by rw [h.sz]; exact h.le
  intro a b hab hb
  rw [rev_get hs, rev_get hs, if_pos ⟨by lia  , by lia  ⟩, if_pos ⟨by lia  , hb⟩]
  exact A _ _ (by lia  ) (by lia  )
theorem tail3_run {c : Nat → Int} {N n : Nat} {p : Array Nat} {s : Shared} {Q : Nat × Array Nat → Shared → Prop} (h : Pre c N n p) (h1 : 1 ≤ n) (A : Dsc c n p)
    (hQ : ∀ r p', 1 ≤ r → Pre c N r p' → Asc c r p' → Q (r, p') s) : (kas_tail3 n N p).kasWp (pc c N) Q s := by
  unfold kas_tail3
  rw [KasT.kasWp_bind]
  have := h.le
  exact asc_run (N - n) n (h.rev (by lia  )) h1 (by lia  ) (desc_flip h A) fun r hr hp ha _ => wpr (hQ r _ (by lia  ) hp ha)
theorem descPart_run {c : Nat → Int} {N n : Nat} {p : Array Nat} {s : Shared} {Q : Nat × Array Nat → Shared → Prop} (h : Pre c N n p) (h1 : 1 ≤ n) (hn : n < N) (A : Dsc c n p) (hc : ∀ a, a < n → c (p.getD n 0) < c (p.getD a 0))
    (hQ : ∀ r p', 1 ≤ r → Pre c N r p' → Asc c r p' → Q (r, p') s) : (kas_descPart n N p).kasWp (pc c N) Q s := by
  unfold kas_descPart
  rw [KasT.kasWp_bind]
  refine desc_run _ p (n + 1) 0 (h.up hn) (by lia  ) (dn_next A h1 hc) fun p' n' q' hp D => ?_
  have hq := D.q1
  have hs : n' ≤ p'.size := by rw [hp.sz]; exact hp.le
  by_cases q0 : q' > 0
  · show ((if q' > 0 then kas_tail3 n' N (kas_rev p' (n' - (q' + 1)) n') else kas_tail3 n' N p') : KasT _).kasWp _ _ _
    rw [if_pos q0]
    exact tail3_run (hp.rev (by lia  )) (by lia  ) (D.desc hs) hQ
  · show ((if q' > 0 then kas_tail3 n' N (kas_rev p' (n' - (q' + 1)) n') else kas_tail3 n' N p') : KasT _).kasWp _ _ _
    rw [if_neg q0]
    have q1 : q' = 0 := by lia  
    subst q1
    exact tail3_run hp (by lia  ) D.desc0 hQ
theorem count_run {c : Nat → Int} {N : Nat} {p : Array Nat} {s : Shared} {Q : Nat × Array Nat → Shared → Prop} (hN : 1 ≤ N) (h : Pre c N 1 p) (hQ : ∀ r p', 1 ≤ r → Pre c N r p' → Asc c r p' → Q (r, p') s) : (kas_count N p).kasWp (pc c N) Q s := by
  unfold kas_count
  rw [KasT.kasWp_bind]
  refine asc_run (N - 1) 1 h (Nat.le_refl _) (by lia  ) (fun a b h1 h2 => by lia  ) fun n hn hp A he => ?_
  show ((if (n == N) = true then KasT.ret (n, p) else if n > 1 then KasT.ask (p.getD 0 0) (p.getD (n - 1) 0) fun d => if d = true then .ret (n, p) else kas_descPart n N (kas_rev p 0 n) else kas_descPart n N p) : KasT _).kasWp _ _ _
  have hs : n ≤ p.size := by rw [hp.sz]; exact hp.le
  by_cases e : n = N
  · subst e
    rw [if_pos (by simp)]
    exact wpr (hQ n p hn hp A)
  · rw [if_neg (by simpa using e)]
    have hlt : n < N := by have := hp.le; lia  
    have hc : c (p.getD n 0) < c (p.getD (n - 1) 0) := by rcases he with he | he; exact absurd he e; exact he.2
    by_cases h1 : n > 1
    · rw [if_pos h1]
      refine wpa (hp.lt (by lia  ) 0) (hp.lt (by lia  ) (n - 1)) ?_
      by_cases hd : c (p.getD 0 0) < c (p.getD (n - 1) 0)
      · rw [decide_eq_true hd, if_pos rfl]
        exact wpr (hQ n p hn hp A)
      · rw [decide_eq_false hd, if_neg (by simp)]
        have eq0 : ∀ a, a < n → c (p.getD a 0) = c (p.getD (n - 1) 0) := fun a ha => by
          have x1 : c (p.getD 0 0) ≤ c (p.getD a 0) := by
            by_cases a0 : a = 0
            · subst a0; lia  
            · have := A 0 a (by lia  ) ha; unfold Rr at this; lia  
          have x2 : c (p.getD a 0) ≤ c (p.getD (n - 1) 0) := by
            by_cases a0 : a = n - 1
            · subst a0; lia  
            · have := A a (n - 1) (by lia  ) (by lia  ); unfold Rr at this; lia  
          lia  
        have e2 : (kas_rev p 0 n).getD n 0 = p.getD n 0 := by rw [rev_get hs, if_neg (by lia  )]
        refine descPart_run (hp.rev (by lia  )) hn hlt (fun a b hab hb => ?_) (fun a ha => ?_) hQ
        · rw [rev_get hs, rev_get hs, if_pos ⟨by lia  , hb⟩, if_pos ⟨by lia  , by lia  ⟩]
          exact A _ _ (by lia  ) (by lia  )
        · rw [e2, rev_get hs, if_pos ⟨by lia  , ha⟩, eq0 (0 + n - 1 - a) (by lia  )]
          exact hc
    · rw [if_neg h1]
      have n1 : n = 1 := by lia  
      subst n1
      exact descPart_run hp (Nat.le_refl _) hlt (fun a b h1 h2 => by lia  ) (fun a ha => by have : a = 0 := by lia  
                                                                                            subst this; exact hc) hQ
theorem place_run {c : Nat → Int} {N k : Nat} {p : Array Nat} {s : Shared} {Q : Nat → Shared → Prop} (h : Pre c N k p) (hk : k < N) (A : Asc c k p) : ∀ (f l r : Nat), l ≤ r → r ≤ k → r - l ≤ f → (∀ a, a < l → c (p.getD a 0) ≤ c (p.getD k 0)) → (∀ a, r ≤ a → a < k → c (p.getD k 0) < c (p.getD a 0)) →
    (∀ l', l' ≤ k → (∀ a, a < l' → c (p.getD a 0) ≤ c (p.getD k 0)) → (∀ a, l' ≤ a → a < k → c (p.getD k 0) < c (p.getD a 0)) → Q l' s) → (kas_place p k f l r).kasWp (pc c N) Q s
  | 0, l, r, h1, h2, hf, ha, hb, hQ => wpr (hQ l (by lia  ) ha fun a h3 h4 => hb a (by lia  ) h4)
  | f + 1, l, r, h1, h2, hf, ha, hb, hQ => by
    show ((if l ≥ r then KasT.ret l else KasT.ask (p.getD k 0) (p.getD ((l + r) / 2) 0) fun d => if d = true then kas_place p k f l ((l + r) / 2) else kas_place p k f ((l + r) / 2 + 1) r) : KasT _).kasWp _ _ _
    by_cases hlr : l ≥ r
    · rw [if_pos hlr]
      exact wpr (hQ l (by lia  ) ha fun a h3 h4 => hb a (by lia  ) h4)
    · rw [if_neg hlr]
      have m1 : l ≤ (l + r) / 2 := by lia  
      have m2 : (l + r) / 2 < r := by lia  
      refine wpa (h.lt (by lia  ) k) (h.lt (by lia  ) _) ?_
      by_cases hd : c (p.getD k 0) < c (p.getD ((l + r) / 2) 0)
      · rw [decide_eq_true hd, if_pos rfl]
        refine place_run h hk A f l _ m1 (by lia  ) (by lia  ) ha (fun a h3 h4 => ?_) hQ
        by_cases e : a = (l + r) / 2
        · rw [e]; exact hd
        · have := A ((l + r) / 2) a (by lia  ) h4; unfold Rr at this; lia  
      · rw [decide_eq_false hd, if_neg (by simp)]
        refine place_run h hk A f _ r (by lia  ) h2 (by lia  ) (fun a h3 => ?_) hb hQ
        by_cases e : a = (l + r) / 2
        · rw [e]; lia  
        · have := A a ((l + r) / 2) (by lia  ) (by lia  ); unfold Rr at this; lia  
theorem bub_get {p : Array Nat} {k d : Nat} (hk : k < p.size) (hd : d ≤ k) (j : Nat) : (bubble p k d).getD j 0 = if j = k - d then p.getD k 0 else if k - d < j ∧ j ≤ k then p.getD (j - 1) 0 else p.getD j 0 := by
  have h := getElem?_bubble hk d hd j
  rw [Array.getD_eq_getD_getElem?, h]
  by_cases h1 : j = k - d
  · rw [if_pos h1, if_pos h1, Array.getD_eq_getD_getElem?]
  · rw [if_neg h1, if_neg h1]
    by_cases h2 : k - d < j ∧ j ≤ k
    · rw [if_pos h2, if_pos h2, Array.getD_eq_getD_getElem?]
    · rw [if_neg h2, if_neg h2, Array.getD_eq_getD_getElem?]
theorem bin_run {c : Nat → Int} {N : Nat} {s : Shared} {Q : Array Nat → Shared → Prop} : ∀ (f : Nat) (p : Array Nat) (k : Nat), Pre c N k p → k + f = N → Asc c k p → (∀ p', Pre c N N p' → Asc c N p' → Q p' s) → (kas_bin f p k).kasWp (pc c N) Q s
  | 0, p, k, h, hf, A, hQ => by
    have : k = N := by lia  
    subst this
    exact wpr (hQ p h A)
  | f + 1, p, k, h, hf, A, hQ => by
    unfold kas_bin
    rw [KasT.kasWp_bind]
    have ek := h.tl k (Nat.le_refl _) (by lia  )
    have hs : k < p.size := by rw [h.sz]; lia  
    refine place_run h (by lia  ) A k 0 k (Nat.zero_le _) (Nat.le_refl _) (by lia  ) (fun a ha => by lia  ) (fun a h1 h2 => by lia  ) fun l hl ha hb => ?_
    have g := bub_get (d := k - l) hs (by lia  )
    refine bin_run f _ (k + 1) ⟨by rw [bubble_size]; exact h.sz, by lia  , fun j h1 h2 => ?_, fun j hj => ?_⟩ (by lia  ) (fun a b hab hbk => ?_) hQ
    · rw [g, if_neg (by lia  ), if_neg (by lia  )]; exact h.tl j (by lia  ) h2
    · rw [g]
      by_cases j1 : j = k - (k - l)
      · rw [if_pos j1]; lia  
      · rw [if_neg j1]
        by_cases j2 : k - (k - l) < j ∧ j ≤ k
        · rw [if_pos j2]
          have := h.sm (j - 1) (by lia  ); lia  
        · rw [if_neg j2]
          have := h.sm j (by lia  ); lia  
    · rw [g, g]
      by_cases b1 : b = k - (k - l)
      · rw [if_pos b1, if_neg (by lia  ), if_neg (by lia  )]
        have := ha a (by lia  )
        have := h.sm a (by lia  )
        unfold Rr; lia  
      · rw [if_neg b1]
        by_cases b2 : k - (k - l) < b ∧ b ≤ k
        · rw [if_pos b2]
          by_cases a1 : a = k - (k - l)
          · rw [if_pos a1]
            exact .inl (hb (b - 1) (by lia  ) (by lia  ))
          · rw [if_neg a1]
            by_cases a2 : k - (k - l) < a ∧ a ≤ k
            · rw [if_pos a2]; exact A _ _ (by lia  ) (by lia  )
            · rw [if_neg a2]; exact A _ _ (by lia  ) (by lia  )
        · rw [if_neg b2, if_neg (by lia  ), if_neg (by lia  )]
          exact A _ _ hab (by lia  )
theorem id_get (N k : Nat) (hk : k < N) : (List.toArray (List.range N)).getD k 0 = k := by simp [Array.getD, hk]
theorem sort_run {c : Nat → Int} {N : Nat} {s : Shared} {Q : Array Nat → Shared → Prop} (hN : 1 ≤ N) (hQ : ∀ p', Pre c N N p' → Asc c N p' → Q p' s) : (kas_sort N).kasWp (pc c N) Q s := by
  unfold kas_sort
  rw [KasT.kasWp_bind]
  refine count_run hN ⟨by simp, hN, fun k _ h2 => id_get N k h2, fun k hk => by rw [id_get N k (by lia  )]; exact hk⟩ fun r p h1 hp A => ?_
  show ((if r < N then kas_bin (N - max r 1) p (max r 1) else KasT.ret p) : KasT _).kasWp _ _ _
  have hm : max r 1 = r := by lia  
  have := hp.le
  by_cases hr : r < N
  · rw [if_pos hr, hm]
    exact bin_run _ p r hp (by lia  ) A hQ
  · rw [if_neg hr]
    have : r = N := by lia  
    subst this
    exact wpr (hQ p hp A)
end Mine
end
section
open PySem PySem.W PyProof.Rows PySem.Calls Builtin
set_option Elab.async false
namespace Mine
set_option maxRecDepth 100000
/-- an answer known ahead, run -/
theorem run_real {α : Type} {c : Nat → Int} {N : Nat} {cmp : Nat → Nat → (Bool → Shared → Prop) → Shared → Prop} {I : Shared → Prop} {G : α → Prop} {s0 : Shared}
   (hcmp : ∀ i j (C : Bool → Shared → Prop) s, i < N → j < N → I s → (∀ s', I s' → C (decide (c i < c j)) s') → cmp i j C s) : ∀ (t : KasT α) (s : Shared), t.kasWp (pc c N) (fun a _ => G a) s0 → I s → t.kasWp cmp (fun a s' => G a ∧ I s') s
  | .ret a, s, h, hI => ⟨h, hI⟩
  | .ask i j k, s, h, hI => by
    obtain ⟨h1, h2, h3⟩ := (show i < N ∧ j < N ∧ (k (decide (c i < c j))).kasWp (pc c N) (fun a _ => G a) s0 from h)
    exact hcmp i j _ s h1 h2 hI fun s' hI' => run_real hcmp _ s' h3 hI'
theorem item_zip {xs : List Addr} {vs : List Value} {i : Nat} {x : Addr} {v : Value} (hx : xs[i]? = some x) (hv : vs[i]? = some v) : kas_item ((List.toArray (xs.map Value.ref)).zip vs.toArray) i = (.ref x, v) := by
  unfold kas_item
  rw [Array.getD_eq_getD_getElem?]
  have : ((List.toArray (xs.map Value.ref)).zip vs.toArray)[i]? = some (.ref x, v) := by
    rw [List.zip_toArray, List.getElem?_toArray, List.getElem?_zip_eq_some]
    exact ⟨by rw [List.getElem?_map, hx]; rfl, hv⟩
  rw [this]; rfl
section
variable {prog : Program} {w : World} {A : Around} {E : Value → Shared → Prop} {s : Shared} {h₀ : Heap} {L : Addr} {m : Str → Option Value} {news : List (Addr × Obj)} {a K9 : Addr} {vs : List Value} {f : Value} {c : Nat → Int} {P : PySem.Fin → Shared → Prop}
/-- the instances made so far -/
noncomputable def Ins (K9 : Addr) (vs : List Value) (xs : List Addr) (inst : List (Addr × Obj)) : Prop := ∀ (j : Nat) (x : Addr), xs[j]? = some x → ∃ dx v, vs[j]? = some v ∧ (x, instS K9 dx v) ∈ inst ∧ (dx, emptyDict) ∈ inst
end
/-- the state of the key loop behind i signs -/
inductive MInv (h₀ : Heap) (L : Addr) (m : Str → Option Value) (s : Shared) (K9 : Addr) (vs : List Value) (a : Addr) (kS e1 : Nat) (news : List (Addr × Obj)) (i : Nat) (s' : Shared) : Prop
  | mk (h' : Heap) (tk : Nat) (kA : Array Value) (e : Nat) (inst : List (Addr × Obj)) (xs : List Addr) (eq : s' = { s with heap := h', toks := tk }) (F : Fr h₀ L h' m)
    (N : News h₀ L h' (inst ++ (kS, seqObj "list" kA e) :: (a, seqObj "list" #[] e1) :: news)) (hl : ∀ p ∈ inst, kS < p.1) (hk : kA.toList = xs.map Value.ref) (hx : xs.length = i) (hI : Ins K9 vs xs inst) : MInv h₀ L m s K9 vs a kS e1 news i s'
/-- what the call of the class hands back -/
inductive MNew (h₀ : Heap) (L : Addr) (m : Str → Option Value) (s : Shared) (K9 : Addr) (v : Value) (kS : Nat) (led : List (Addr × Obj)) (k : Value) (s2 : Shared) : Prop
  | mk (x dx : Addr) (h2 : Heap) (tk2 : Nat) (ek : k = .ref x) (es : s2 = { s with heap := h2, toks := tk2 }) (F : Fr h₀ L h2 m) (N : News h₀ L h2 ((x, instS K9 dx v) :: (dx, emptyDict) :: led)) (l1 : kS < dx) (l2 : dx < x) : MNew h₀ L m s K9 v kS led k s2
section
variable {prog : Program} {w : World} {A : Around} {E : Value → Shared → Prop} {s : Shared} {h₀ : Heap} {L : Addr} {m : Str → Option Value} {news : List (Addr × Obj)} {a K9 : Addr} {vs : List Value} {f : Value} {c : Nat → Int} {P : PySem.Fin → Shared → Prop}
/-- a list of the ledger, given new items -/
theorem relisted {g : Heap} {xs : Array Value} {n : Nat} (ys : Array Value) (F : Fr h₀ L g m) (N : News h₀ L g news) (o : g.get? a = some (seqObj "list" xs n) ∧ a ≠ L ∧ h₀.get? a = none) (hna : ∀ p ∈ news, p.1 ≠ a) :
    ∃ e, Fr h₀ L (g.update a (Obj.mapSeq fun _ => ys)) m ∧ News h₀ L (g.update a (Obj.mapSeq fun _ => ys)) ((a, seqObj "list" ys e) :: news) :=
  ⟨_, ksk_fr F (.update ..) o.2.1 o.2.2, List.forall_mem_cons.mpr ⟨⟨get?_update_seq o.1 _, o.2⟩, ksk_news N (.update ..) hna⟩⟩
theorem msort_tail {kS e1 e : Nat} {keys : Array Value} {inst : List (Addr × Obj)} {st : SortSt} {p : Array Nat} {xs : List Addr} (F : Fr h₀ L s.heap m) (N : News h₀ L s.heap (inst ++ (kS, seqObj "list" keys e) :: (a, seqObj "list" #[] e1) :: news)) (hka : kS ≠ a) (hnk : ∀ p ∈ news, p.1 ≠ kS) (hna : ∀ p ∈ news, p.1 ≠ a)
    (hks : keys.size ≤ 64) (hxs : xs.length = vs.length) (h64 : vs.length < 64) (har : arrOf st = p.map (kas_item ((List.toArray (xs.map Value.ref)).zip vs.toArray))) (hfl : failedOf st = none) (hp : Pre c vs.length vs.length p) (hasc : Asc c vs.length p)
    (h : ∀ h' tk c', Fr h₀ L h' m → News h₀ L h' ((a, seqObj "list" (List.toArray (p.toList.map fun i => vs.getD i .none)) c') :: news) → P (.done (.ret .none)) { s with heap := h', toks := tk }) :
    wpAny (model prog w) A (ksk_tail a false e1 (.ref kS) st) P E s := by
  have nk := N (kS, seqObj "list" keys e) (List.mem_append_right _ (.head _))
  have hout : (arrOf st).map (·.2) = List.toArray (p.toList.map fun i => vs.getD i .none) := by
    apply Array.toList_inj.mp
    rw [har, Array.map_map, Array.toList_map]
    refine List.map_congr_left fun i hi => ?_
    obtain ⟨k, hk, rfl⟩ := List.getElem_of_mem hi
    have hk' : k < vs.length := by rw [← hp.sz]; simpa using hk
    have e1 : p.toList[k] = p.getD k 0 := by
      rw [Array.getD_eq_getD_getElem?, ← Array.getElem?_toList, List.getElem?_eq_getElem hk]; rfl
    have hlt := hp.sm k hk'
    rw [← e1] at hlt
    show (kas_item _ _).2 = _
    rw [item_zip (List.getElem?_eq_getElem (by lia  )) (List.getElem?_eq_getElem hlt)]
    show vs[p.toList[k]]'hlt = vs.getD (p.toList[k]) Value.none
    rw [List.getD_eq_getElem?_getD, List.getElem?_eq_getElem hlt]
    rfl
  have hsz : (List.toArray (p.toList.map fun i => vs.getD i Value.none)).size = vs.length := by rw [List.size_toArray, List.length_map, Array.length_toList, hp.sz]
  obtain ⟨e2, F1, N1⟩ := relisted #[] F (news := (a, seqObj "list" #[] e1) :: news) (fun p hp => N p (List.mem_append_right _ (.tail _ hp))) nk (List.forall_mem_cons.mpr ⟨Ne.symm hka, hnk⟩)
  obtain ⟨c2, F2, N2⟩ := relisted (List.toArray (p.toList.map fun i => vs.getD i Value.none)) F1 (fun p hp => N1 p (.tail _ (.tail _ hp))) (N1 _ (.tail _ (.head _))) hna
  unfold ksk_tail
  refine wpAny_bind (listUpdate_at nk.1 rfl ?_ (Nat.le_trans hks (by decide)) (Nat.zero_le _))
  try dsimp only
  generalize s.heap.update kS _ = g at F1 N1 F2 N2 ⊢
  have na := (N1 _ (.tail _ (.head _))).1
  refine wpAny_bind (wpAny_letGo (wpAny_bind (seqEpoch_at na rfl ?_)))
  simp only [Bool.false_eq_true, if_false]
  rw [hout]
  refine wpAny_bind (listUpdate_at na rfl ?_ (Nat.zero_le _) (Nat.le_trans (Nat.le_of_eq hsz) (by rw [sizeLine_eq]; lia  )))
  rw [hfl]
  simp only [bne_self_eq_false, Bool.false_eq_true, if_false]
  exact wpAny_pure (h _ _ c2 F2 N2)
/-- the key loop and what is behind it -/
theorem msort_rest {kS e1 : Nat} (F : Fr h₀ L s.heap m) (N : News h₀ L s.heap ((kS, seqObj "list" #[] 0) :: (a, seqObj "list" #[] e1) :: news)) (hka : kS ≠ a) (hnk : ∀ p ∈ news, p.1 ≠ kS) (hna : ∀ p ∈ news, p.1 ≠ a)
    (h2 : 2 ≤ vs.length) (h64 : vs.length < 64)
    (turn : ∀ v ∈ vs, ∀ (h : Heap) (tk : Nat) (led : List (Addr × Obj)), Fr h₀ L h m → News h₀ L h led → (∀ q ∈ news, q ∈ led) → ∀ (Q : Value → Shared → Prop), (∀ x dx h' tk', Fr h₀ L h' m → News h₀ L h' ((x, instS K9 dx v) :: (dx, emptyDict) :: led) → (∀ q ∈ led, q.1 < dx) → dx < x → Q (.ref x) { s with heap := h', toks := tk' }) →
      wpAny (model prog w) A (call f [v]) Q (fun _ _ => False) { s with heap := h, toks := tk })
    (ask : ∀ (i j : Nat) (vi vj : Value), vs[i]? = some vi → vs[j]? = some vj → ∀ (h : Heap) (tk : Nat) (led : List (Addr × Obj)) (x y dx dy : Addr), Fr h₀ L h m → News h₀ L h led → (∀ q ∈ news, q ∈ led) → (x, instS K9 dx vi) ∈ led → (dx, emptyDict) ∈ led → (y, instS K9 dy vj) ∈ led → (dy, emptyDict) ∈ led →
      ∀ (C : Bool → Shared → Prop), (∀ h' tk', Fr h₀ L h' m → News h₀ L h' led → C (decide (c i < c j)) { s with heap := h', toks := tk' }) → wpAny (model prog w) A (keyLt' oneType' (.ref x) (.ref y)) C (fun _ _ => False) { s with heap := h, toks := tk })
    (h : ∀ h' tk c' p, Fr h₀ L h' m → News h₀ L h' ((a, seqObj "list" (List.toArray (p.toList.map fun i => vs.getD i .none)) c') :: news) → Pre c vs.length vs.length p → Asc c vs.length p → P (.done (.ret .none)) { s with heap := h', toks := tk }) :
    wpAny (model prog w) A (ksk_rest a f false vs.toArray e1 (.ref kS)) P E s := by
  unfold ksk_rest
  refine wpAny_bind (wpAny_rule ?_)
  first
    | rw [List.forIn_toArray]
    | (rw [← Array.forIn_toList]; simp only [List.toList_toArray])
    | rw [← Array.forIn_toList]
  refine wpAny_bind (ksk_fold (MInv h₀ L m s K9 vs a kS e1 news) vs 0 s
    ⟨s.heap, s.toks, #[], 0, [], [], rfl, F, N, fun _ hp => (nomatch hp), rfl, rfl, fun j x hx => by simp at hx⟩ ?step ?done)
  case step =>
    rintro j v s' hv ⟨h', tk, kA, e, inst, xs, rfl, F', N', hlt, hkA, hlen, hI⟩
    simp only [Nat.zero_add] at hlen ⊢
    have hj : j < vs.length := (List.getElem?_eq_some_iff.mp hv).1
    have hz : kA.size = j := by rw [← Array.length_toList, hkA, List.length_map, hlen]
    refine wpAny_bind (wpAny_attempt (wpAny_mono (turn v (List.mem_of_getElem? hv) h' tk _ F' N' (fun q hq => List.mem_append_right _ (.tail _ (.tail _ hq)))
      (MNew h₀ L m s K9 v kS (inst ++ (kS, seqObj "list" kA e) :: (a, seqObj "list" #[] e1) :: news))
      fun x dx h2 tk2 F2 N2 l1 l2 => ⟨x, dx, h2, tk2, rfl, rfl, F2, N2, l1 _ (List.mem_append_right _ (.head _)), l2⟩) (fun k s2 he => ?_) fun _ _ hF => hF.elim))
    obtain ⟨x, dx, g, tk2, rfl, rfl, F2, N2, l1, l2⟩ := he
    try dsimp only
    have nk := N2 (kS, seqObj "list" kA e) (.tail _ (.tail _ (List.mem_append_right _ (.head _))))
    have s1 := Heap.SameBut.update g kS (Obj.mapSeq (·.push (.ref x)))
    obtain ⟨c2, hc2⟩ : ∃ c2, (g.update kS (Obj.mapSeq (·.push (.ref x)))).get? kS = some (seqObj "list" (kA.push (.ref x)) c2) := ⟨_, get?_update_seq nk.1 (·.push (.ref x))⟩
    refine wpAny_bind (listUpdate_at nk.1 rfl ?_ (by rw [sizeLine_eq]; lia  ) (Nat.le_trans (Nat.le_of_eq (Array.size_push ..)) (by rw [sizeLine_eq]; lia  )))
    refine wpAny_pure ⟨rfl, _, _, kA.push (.ref x), c2, (x, instS K9 dx v) :: (dx, emptyDict) :: inst, xs ++ [x], rfl, ksk_fr F2 s1 nk.2.1 nk.2.2, fun p hp => ?_, fun p hp => ?_, by rw [Array.toList_push, hkA, List.map_append]; rfl, by simp [hlen], fun i y hy => ?_⟩
    · have same : ∀ q ∈ ((x, instS K9 dx v) :: (dx, emptyDict) :: (inst ++ (kS, seqObj "list" kA e) :: (a, seqObj "list" #[] e1) :: news)), q.1 ≠ kS → (g.update kS (Obj.mapSeq (·.push (.ref x)))).get? q.1 = some q.2 ∧ q.1 ≠ L ∧ h₀.get? q.1 = none := fun q hq hn =>
        ⟨(s1.2 q.1 hn).trans (N2 q hq).1, (N2 q hq).2⟩
      rcases List.mem_append.mp hp with hp | hp
      · rcases List.mem_cons.mp hp with rfl | hp
        · exact same _ (.head _) (Nat.ne_of_gt (Nat.lt_trans l1 l2))
        · rcases List.mem_cons.mp hp with rfl | hp
          · exact same _ (.tail _ (.head _)) (Nat.ne_of_gt l1)
          · exact same _ (.tail _ (.tail _ (List.mem_append_left _ hp))) (Nat.ne_of_gt (hlt p hp))
      · rcases List.mem_cons.mp hp with rfl | hp
        · exact ⟨hc2, nk.2⟩
        · rcases List.mem_cons.mp hp with rfl | hp
          · exact same _ (.tail _ (.tail _ (List.mem_append_right _ (.tail _ (.head _))))) hka.symm
          · exact same _ (.tail _ (.tail _ (List.mem_append_right _ (.tail _ (.tail _ hp))))) (hnk p hp)
    · rcases List.mem_cons.mp hp with rfl | hp
      · exact Nat.lt_trans l1 l2
      · rcases List.mem_cons.mp hp with rfl | hp
        · exact l1
        · exact hlt p hp
    · by_cases hi : i < xs.length
      · rw [List.getElem?_append_left hi] at hy
        obtain ⟨d1, v1, q1, q2, q3⟩ := hI i y hy
        exact ⟨d1, v1, q1, .tail _ (.tail _ q2), .tail _ (.tail _ q3)⟩
      · have hix : i = xs.length := by
          have := (List.getElem?_eq_some_iff.mp hy).1
          rw [List.length_append, List.length_singleton] at this
          lia  
        subst hix
        rw [List.getElem?_append_right (Nat.le_refl _)] at hy
        simp only [Nat.sub_self, List.getElem?_cons_zero, Option.some.injEq] at hy
        subst hy
        exact ⟨dx, v, by rw [hlen]; exact hv, .head _, .tail _ (.head _)⟩
  case done =>
    rintro s' ⟨h', tk, kA, e, inst, xs, rfl, F', N', hlt, hkA, hlen, hI⟩
    simp only [Nat.zero_add] at hlen
    have nk := N' (kS, seqObj "list" kA e) (List.mem_append_right _ (.head _))
    try dsimp only
    refine wpAny_bind (listItems_at nk.1 rfl ?_)
    have ekA : kA = List.toArray (xs.map Value.ref) := by rw [← hkA, Array.toArray_toList]
    have hks : kA.size ≤ 64 := by rw [ekA, List.size_toArray, List.length_map]; lia  
    unfold ksk_end
    try dsimp only
    simp only [Bool.false_eq_true, if_false]
    have n2 : ¬ vs.toArray.size < 2 := by rw [List.size_toArray]; lia  
    rw [if_neg n2, if_neg n2, ekA]
    have hT : ∀ v ∈ xs.map Value.ref, Looks (model prog w) h' (typeOf v) (.ref K9) := by
      intro v hv
      obtain ⟨x, hx, rfl⟩ := List.mem_map.mp hv
      obtain ⟨i, hi, rfl⟩ := List.getElem_of_mem hx
      obtain ⟨d1, v1, q1, q2, q3⟩ := hI i _ (List.getElem?_eq_getElem hi)
      exact (Looks.ld (N' _ (List.mem_append_left _ q2)).1).andThen .now
    refine wpAny_bind (kas_kind (T := .ref K9) (by rw [List.length_map]; lia  ) hT (by rfl) (by simp) ?_)
    have hzs : ((List.toArray (xs.map Value.ref)).zip vs.toArray).size = vs.length := by rw [Array.size_zip, List.size_toArray, List.length_map, List.size_toArray, hlen, Nat.min_self]
    have est : SortSt.mk' oneType' ((List.toArray (xs.map Value.ref)).zip vs.toArray) #[] 7 none = kas_st oneType' ((List.toArray (xs.map Value.ref)).zip vs.toArray) (List.toArray (List.range vs.length)) := by
      have e := kas_range ((List.toArray (xs.map Value.ref)).zip vs.toArray)
      rw [hzs] at e
      show _ = SortSt.mk' oneType' ((List.toArray (List.range vs.length)).map (kas_item ((List.toArray (xs.map Value.ref)).zip vs.toArray))) #[] 7 none
      rw [e]
    have sr := sort_run (c := c) (N := vs.length) (s := s) (Q := fun p _ => Pre c vs.length vs.length p ∧ Asc c vs.length p) (by lia  ) fun p h1 h2 => ⟨h1, h2⟩
    have rr := run_real (cmp := kas_cmp prog w A oneType' ((List.toArray (xs.map Value.ref)).zip vs.toArray)) (I := fun s' => ∃ h' tk, s' = { s with heap := h', toks := tk } ∧ Fr h₀ L h' m ∧ News h₀ L h' (inst ++ (kS, seqObj "list" kA e) :: (a, seqObj "list" #[] e1) :: news))
      (fun i j C s' hi hj hs hC => by
        obtain ⟨h5, tk5, rfl, F5, N5⟩ := hs
        have hxi := List.getElem?_eq_getElem (l := xs) (i := i) (by lia  )
        have hxj := List.getElem?_eq_getElem (l := xs) (i := j) (by lia  )
        obtain ⟨d1, v1, q1, q2, q3⟩ := hI i _ hxi
        obtain ⟨d2, v2, y1, y2, y3⟩ := hI j _ hxj
        unfold kas_cmp
        rw [item_zip hxi q1, item_zip hxj y1]
        exact ask i j v1 v2 q1 y1 h5 tk5 _ _ _ d1 d2 F5 N5 (fun q hq => List.mem_append_right _ (.tail _ (.tail _ hq))) (List.mem_append_left _ q2) (List.mem_append_left _ q3) (List.mem_append_left _ y2) (List.mem_append_left _ y3) C fun h6 tk6 F6 N6 => hC _ ⟨h6, tk6, rfl, F6, N6⟩)
      (kas_sort vs.length) { s with heap := h', toks := tk } sr ⟨h', tk, rfl, F', N'⟩
    have run := kas_runs (E := E) (prog := prog) (w := w) (A := A) (κ := oneType') (it := (List.toArray (xs.map Value.ref)).zip vs.toArray) (Q := fun _ st' s' => ∃ p : Array Nat, arrOf st' = p.map (kas_item ((List.toArray (xs.map Value.ref)).zip vs.toArray)) ∧ failedOf st' = none ∧ (Pre c vs.length vs.length p ∧ Asc c vs.length p) ∧ ∃ h' tk, s' = { s with heap := h', toks := tk } ∧ Fr h₀ L h' m ∧ News h₀ L h' (inst ++ (kS, seqObj "list" kA e) :: (a, seqObj "list" #[] e1) :: news))
      h2 h64 (fun p' st' s' a1 a2 a3 a4 => ⟨p', a2, a3, a4.1, a4.2⟩) rr
    rw [← est] at run
    refine wpAny_bind (wpAny_mono run ?_ fun _ _ e => e)
    rintro ⟨⟨⟩, st'⟩ s' ⟨p, har, hf, ⟨hp, ha⟩, h7, tk7, rfl, F7, N7⟩
    try dsimp only
    exact msort_tail F7 N7 hka hnk hna hks hlen h64 har hf hp ha fun h8 tk8 c8 F8 N8 => h h8 tk8 c8 p F8 N8 hp ha
end
end Mine
end
section
open PySem PySem.W PyProof.Rows PySem.Calls Builtin
set_option Elab.async false
namespace Mine
set_option maxRecDepth 100000
section
variable {prog : Program} {w : World} {A : Around} {E : Value → Shared → Prop} {s : Shared}
theorem pl_iadd : plainId "list.__iadd__" = true := by decide +kernel
theorem pl_coll : plainId "proto.collect" = true := by decide +kernel
theorem collect_rng {r : Addr} {a b c : Int} {t u v : Tok} {n : Nat} {Q : List Value → Shared → Prop} (hh : A.handled = none) (hr : IsRange s.heap r a b c t u v) (hsmall : Builtin.Range.small a b c = true) (hn : Builtin.Range.rangeSize a b c = n) (hlen : n ≤ 2 ^ 20)
   (hQ : ∀ h' tk vs, (∀ b o, s.heap.get? b = some o → h'.get? b = some o) → vs.length = n → (∀ (i : Nat) (x : Value), vs[i]? = some x → ∃ t, x = .int (a + i * c) t) → Q vs { s with heap := h', toks := tk }) :
   wpAny (model prog w) A (collect (.ref r)) Q E s := by
  unfold collect
  refine wpAny_bind (wpAny_runValue (codeAny_builtin entry_proto_collect' ?_))
  rw [Around.under_plainId pl_coll]
  show wpAny _ _ (do again (.builtin "list.__iadd__" ⟨[← newList [], .ref r], []⟩)) _ _ s
  refine wpAny_bind (wpAny_newList (wpAny_pure ⟨plainId_quiet pl_iadd _, codeAny_builtin entry_list_iadd' ?_⟩))
  rw [Around.under_plainId pl_iadd]
  show wpAny _ _ (Builtin.List.listExtendWith (.ref s.heap.objs.size) (.ref r) (.ref s.heap.objs.size)) _ _ { s with heap := s.heap.push (seqObj "list" #[] 0) }
  have fin : ∀ (r₂ : Result) (s₂ : Shared), (∃ h' tk acc' c', r₂ = .ok (.ret (.ref s.heap.objs.size)) ∧ s₂ = { s with heap := h', toks := tk } ∧ (∀ b o, s.heap.get? b = some o → h'.get? b = some o) ∧ h'.get? s.heap.objs.size = some { cls := .type "list", dict := none, data := .seq acc' c', slots := #[] } ∧ ItemsOf (fun i v => ∃ t, v = .int (a + i * c) t) acc' n) →
      (match r₂ with
        | .ok (.ret v) => wpAny (model prog w) A (match v with
            | .ref a => do
              let o ← load a
              match o.data with
              | .seq xs _ => pure xs.toList
              | _ => unsupported "internal:collect"
            | _ => unsupported "internal:collect") Q E s₂
        | .ok _ => False
        | .error e => E e s₂) := by
    rintro r₂ s₂ ⟨h', tk, acc', c', rfl, rfl, hk, hS, hacc⟩
    refine wpAny_bind (wpAny_load hS ?_)
    exact wpAny_pure (hQ h' tk acc'.toList hk (by rw [Array.length_toList]; exact hacc.1) fun i x hx => hacc.2 i x (by rw [← hx, Array.getElem?_toList]))
  refine wpAny_mono (wpAny_extend_range (R := fun r₂ s₂ => ∃ h' tk acc' c', r₂ = .ok (.ret (.ref s.heap.objs.size)) ∧ s₂ = { s with heap := h', toks := tk } ∧ (∀ b o, s.heap.get? b = some o → h'.get? b = some o) ∧ h'.get? s.heap.objs.size = some { cls := .type "list", dict := none, data := .seq acc' c', slots := #[] } ∧ ItemsOf (fun i v => ∃ t, v = .int (a + i * c) t) acc' n)
    (s := { s with heap := s.heap.push (seqObj "list" #[] 0) }) hh (Heap.get?_push_of_some _ hr) hsmall hn (by omega) s.heap.objs.size _ 0 (Heap.get?_push_size _ rfl) fun h' tk acc' c' hk hS' hacc => ⟨h', tk, acc', c', rfl, rfl, fun b o e => hk b o (Nat.ne_of_lt (Heap.lt_size e)) (Heap.get?_push_of_some _ e), hS', hacc⟩) (fun f s₂ h => ?_) (fun e s₂ h => ?_)
  · cases f with
    | done f => exact fin _ _ h
    | again c' => exact ⟨h.1, codeAny_mono h.2 fun r s3 hr => fin r s3 hr⟩
  · exact fin _ _ h
end
end Mine
end
section
open PySem PySem.W PyProof.Rows PySem.Calls Builtin
set_option Elab.async false
namespace Mine
set_option maxRecDepth 100000
section
variable {prog : Program} {w : World} {A : Around} {E : Value → Shared → Prop} {s : Shared} {h₀ : Heap} {L : Addr} {m : Str → Option Value} {news : List (Addr × Obj)} {a K9 : Addr} {vs : List Value} {f : Value} {c : Nat → Int} {P : PySem.Fin → Shared → Prop}
/-- what the key function does for the values vs -/
noncomputable def Turn (prog : Program) (w : World) (A : Around) (h₀ : Heap) (L : Addr) (m : Str → Option Value) (news : List (Addr × Obj)) (K9 : Addr) (f : Value) (s : Shared) (vs : List Value) : Prop :=
  ∀ v ∈ vs, ∀ (h : Heap) (tk : Nat) (led : List (Addr × Obj)), Fr h₀ L h m → News h₀ L h led → (∀ q ∈ news, q ∈ led) → ∀ (Q : Value → Shared → Prop), (∀ x dx h' tk', Fr h₀ L h' m → News h₀ L h' ((x, instS K9 dx v) :: (dx, emptyDict) :: led) → (∀ q ∈ led, q.1 < dx) → dx < x → Q (.ref x) { s with heap := h', toks := tk' }) →
      wpAny (model prog w) A (call f [v]) Q (fun _ _ => False) { s with heap := h, toks := tk }
noncomputable def Ask (prog : Program) (w : World) (A : Around) (h₀ : Heap) (L : Addr) (m : Str → Option Value) (news : List (Addr × Obj)) (K9 : Addr) (c : Nat → Int) (s : Shared) (vs : List Value) : Prop :=
  ∀ (i j : Nat) (vi vj : Value), vs[i]? = some vi → vs[j]? = some vj → ∀ (h : Heap) (tk : Nat) (led : List (Addr × Obj)) (x y dx dy : Addr), Fr h₀ L h m → News h₀ L h led → (∀ q ∈ news, q ∈ led) → (x, instS K9 dx vi) ∈ led → (dx, emptyDict) ∈ led → (y, instS K9 dy vj) ∈ led → (dy, emptyDict) ∈ led →
      ∀ (C : Bool → Shared → Prop), (∀ h' tk', Fr h₀ L h' m → News h₀ L h' led → C (decide (c i < c j)) { s with heap := h', toks := tk' }) → wpAny (model prog w) A (keyLt' oneType' (.ref x) (.ref y)) C (fun _ _ => False) { s with heap := h, toks := tk }
theorem msort_tree {n : Nat} (F : Fr h₀ L s.heap m) (N : News h₀ L s.heap news) (ho : s.heap.get? a = some (seqObj "list" vs.toArray n)) (haL : a ≠ L) (ha0 : h₀.get? a = none) (hna : ∀ p ∈ news, p.1 ≠ a)
    (h2 : 2 ≤ vs.length) (h64 : vs.length < 64) (turn : Turn prog w A h₀ L m news K9 f s vs) (ask : Ask prog w A h₀ L m news K9 c s vs)
    (h : ∀ h' tk c' p, Fr h₀ L h' m → News h₀ L h' ((a, seqObj "list" (List.toArray (p.toList.map fun i => vs.getD i .none)) c') :: news) → Pre c vs.length vs.length p → Asc c vs.length p → P (.done (.ret .none)) { s with heap := h', toks := tk }) :
    wpAny (model prog w) A (ksk_tree a f false) P E s := by
  unfold ksk_tree
  have room : vs.length ≤ sizeLine := Nat.le_trans (Nat.le_of_lt h64) (by decide)
  refine wpAny_bind (listItems_at ho rfl (wpAny_bind (listUpdate_at ho rfl ?_ (by rw [List.size_toArray]; exact room) (Nat.zero_le _))))
  obtain ⟨e, F1, N1⟩ := relisted #[] F N ⟨ho, haL, ha0⟩ hna
  generalize s.heap.update a _ = g at F1 N1 ⊢
  refine wpAny_bind (seqEpoch_at (N1 _ (.head _)).1 rfl (wpAny_bind (wpAny_newTuple ?_ room)))
  have F2 := F1.push (seqObj "tuple" vs.toArray 0)
  have N2 := N1.pushKeep (seqObj "tuple" vs.toArray 0)
  dsimp only at F2 N2 ⊢
  generalize g.push _ = g2 at F2 N2 ⊢
  have low := fun p hp => Nat.ne_of_lt (Heap.lt_size (N2 p hp).1)
  exact wpAny_bind (wpAny_newList (wpAny_holding (msort_rest (s := { s with heap := g2.push (seqObj "list" #[] 0) }) (F2.push _) (News.push F2 N2 _) (Ne.symm (low _ (.head _))) (fun p hp => low p (.tail _ hp)) hna h2 h64 turn ask h)) (Nat.zero_le _))
theorem msorted {r : Value} {q : Addr} {PV : List Value → Prop} {Q : Value → Shared → Prop} (F : Fr h₀ L s.heap m) (N : News h₀ L s.heap news)
    (hcol : ∀ {A' : Around} {E' : Value → Shared → Prop} {Q' : List Value → Shared → Prop}, A'.handled = A.handled → (∀ h' tk vs, (∀ b o, s.heap.get? b = some o → h'.get? b = some o) → PV vs → Q' vs { s with heap := h', toks := tk }) → wpAny (model prog w) A' (collect r) Q' E' s)
    (hlen : ∀ vs, PV vs → 2 ≤ vs.length ∧ vs.length < 64) (turn : ∀ vs, PV vs → Turn prog w A.in1.in1 h₀ L m news K9 (.ref q) s vs) (ask : ∀ vs, PV vs → Ask prog w A.in1.in1 h₀ L m news K9 c s vs)
    (h : ∀ vs, PV vs → ∀ D h' tk c' p, Fr h₀ L h' m → News h₀ L h' ((D, seqObj "list" (List.toArray (p.toList.map fun i => vs.getD i .none)) c') :: news) → (∀ q ∈ news, q.1 < D) → Pre c vs.length vs.length p → Asc c vs.length p → Q (.ref D) { s with heap := h', toks := tk }) :
    wpAny (model prog w) A (call (.builtin "sorted") [r] [(Str.ofString "key", .ref q)]) Q E s := by
  refine call_function_entry_kw kind_sorted plain_sorted entry_sorted (ksk_s1 _ _) ?_
  unfold Builtin.«sorted»
  refine wpAny_bind (m := checkCount "sorted" 1 1 _) (wpAny_pure ?_)
  refine wpAny_bind (hcol rfl fun h1 tk1 vs hk1 hpv => ?_)
  obtain ⟨l2, l64⟩ := hlen vs hpv
  refine wpAny_bind (wpAny_newList ?_ (by rw [sizeLine_eq]; omega))
  have F1 := F.keeps hk1
  have N1 := N.grown hk1
  have hoL : (h1.push (seqObj "list" vs.toArray 0)).get? h1.objs.size = some (seqObj "list" vs.toArray 0) := Heap.get?_push_size _ rfl
  have hL : L < h1.objs.size := F1.ns.lt
  refine wpAny_bind (wpAny_holding (wpAny_call_entry_kw slot_list_sort ⟨_, hoL, rfl⟩ entry_list_sort ?body (ksk_l1 _ _)))
  case body =>
    rw [ksk_t1]
    refine msort_tree (s := { s with heap := h1.push (seqObj "list" vs.toArray 0), toks := tk1 }) (F1.push _) (fun p hp => ⟨Heap.get?_push_of_some _ (N1 p hp).1, (N1 p hp).2⟩) hoL (Nat.ne_of_gt hL) (Heap.get?_none_of_le (Nat.le_trans F.above (Nat.le_of_lt hL)))
      (fun p hp => Nat.ne_of_lt (Heap.lt_size (N1 p hp).1)) l2 l64 (turn vs hpv) (ask vs hpv) fun h' tk c' p F' N' hp ha => ⟨_, rfl, ?_⟩
    exact wpAny_pure ⟨_, rfl, h vs hpv _ h' tk c' p F' N' (fun q hq => Heap.lt_size (N1 q hq).1) hp ha⟩
end
end Mine
end
section
open PySem PySem.W PyProof.Rows
set_option Elab.async false
namespace Mine
theorem ck_call {w : World} {mean : ExcName → Option Value} {mg mb : Str → Option Value} {dp un : Nat} {gd : Option (List Code)} {cn : Str} {cs : Scope} {a : Addr} {ccd : Value} {cl : List (Str × Addr)} {outer : List Env} {A₀ : Around} {base h₀ : Heap} {L : Addr} {m : Str → Option Value} {own rest : List (Addr × Obj)} {s : Shared} {Q E : Value → Shared → Prop} {f : Addr}
    (hB : Below A₀ base outer h₀) (F : Fr h₀ L s.heap m) (X : (hd.heap_39 w.params).In h₀) (N : News h₀ L s.heap (own ++ (30, tabObj #[]) :: rest)) (T : Top topProg LOO mean mg mb h₀) (hk : cs.kind = .function) (hd : dp + 10 < recursionLimit) (hu : un + 50 < cLine) (hown : ∀ p ∈ own, p.1 ≠ 30) (hrest : ∀ p ∈ rest, p.1 ≠ 30)
    (hret : ∀ (K9 cell : Addr) (kn : List (Addr × Obj)) (oc : Obj) (ps : Array Value) (h' : Heap) (tk' : Nat), Fr h₀ L h' m → News h₀ L h' (kn ++ (cell, oc) :: (own ++ (30, tabObj ps) :: rest)) → KList cell K9 kn → oc.data = .cell (some (.ref f)) → Q (.ref K9) { s with heap := h', toks := tk' }) :
      wpAny (model PySem.Challenge.rw_mq0210_01.row.prog w) (ktrTop dp un gd cn cs L a ccd cl outer) (call (.ref 35) [.ref f]) Q E s :=
  ck_claim w mean mg mb f dp un gd cn cs a ccd cl outer A₀ base h₀ L m own rest s Q E hB F X N T hk hd hu hown hrest hret
end Mine
end
section
open PySem PySem.W PyProof.Rows
set_option Elab.async false
namespace Mine
theorem news_put {h₀ h : Heap} {L : Addr} {p : Addr × Obj} {news all : List (Addr × Obj)} (N : News h₀ L h all) (hp : p ∈ all) (N' : News h₀ L h news) : News h₀ L h (p :: news) := fun q hq => by
  rcases List.mem_cons.mp hq with rfl | hq
  · exact N _ hp
  · exact N' q hq
local macro_rules | `(tactic| walk_at "eval Name") => nameBy
set_option maxRecDepth 100000 in
set_option maxHeartbeats 8000000 in
theorem sub_lam (w : World) (mean : ExcName → Option Value) (mg mb : Str → Option Value) {f c' ca D : Addr} {news : List (Addr × Obj)} {qual : Str} {q1 q2 p1 p2 p3 p4 p5 p6 p7 : Pos} {pm ctv : Value} {oc oca : Obj} {vsc : Array Value} {t ti tj : Tok} {zs : List Value} {cs : List Int} {i j e : Nat}
  (hf : (f, kla_obj (Str.ofString "<lambda>") qual { posonlyargs := [], args := [{ arg := Str.ofString "j", annotation := none, pos := q1 }, { arg := Str.ofString "k", annotation := none, pos := q2 }], vararg := none, kwonlyargs := [], kw_defaults := [], kwarg := none, defaults := [] }
    (((Expr.Name (Str.ofString "told") p1).Subscript (Expr.Name (Str.ofString "j") p2) p3).BinOp Operator.Sub ((Expr.Name (Str.ofString "told") p4).Subscript (Expr.Name (Str.ofString "k") p5) p6) p7)
    { kind := ScopeKind.function, names := [(Str.ofString "j", NameKind.local), (Str.ofString "k", NameKind.local), (Str.ofString "told", NameKind.free)], isGenerator := false, isCoroutine := false } [(Str.ofString "told", ca)] pm c' ctv) ∈ news)
  (hc : (c', oc) ∈ news) (d1 : oc.data = .fields vsc) (d2 : vsc[1]? = some (.str qual t)) (hca : (ca, oca) ∈ news) (hoca : oca.data = .cell (some (.ref D))) (hD : (D, W.listOf zs.toArray e) ∈ news) (hz : IntsAre zs cs) (hi : i < cs.length) (hj : j < cs.length) (h8 : cs.length ≤ 4000) :
  CmpC w mean mg mb f news (.int (i : Int) ti) (.int (j : Int) tj) (cs.getD i 0 - cs.getD j 0) := by
   unfold CmpC
   have hx : PySem.Challenge.rw_mq0210_01 = PySem.Challenge.rw_mq0210_01 := rfl
   have hy : hd.heap_39 = hd.heap_39 := rfl
   revert hx hy
   k_fill
   intro hx hy
   clear hx hy
   w_on
   intro dp un gd cn cs' a ccd clo outer A₀ base h₀ L mm s Q E hB F X N T hk hdp hun hret
   have N1 := news_put N hf (news_put N hc (news_put N hca (news_put N hD N)))
   refine wpAny_call ?_
   k_dflt (refine' kla_code (binds := [(Str.ofString "j", .int (i : Int) ti), (Str.ofString "k", .int (j : Int) tj)]) ?k1 ?k2 ?k3 ?k4 ?k5 ?kA ?kF ?kK ?k6 ?k7 ?k8 ?k9 ?kB ?_ ?c2 ?c3 ?c4 ?c5; (case kA => exact rfl); (case kF => exact rfl); (case kK => assumption); (case k1 => k_asm); (case k2 => k_asm); (case k3 => k_asm); (case k4 => exact N1); (case k5 => k_asm); (case k6 => k_mem); (case k7 => exact codeRec_news (by k_asm) (by k_mem) (by assumption) (by assumption)); (case k8 => show dp < _; omega); (case k9 => exact rfl); (case c5 => decide); (case kB => exact locs rfl); (case c2 => exact rfl); (case c3 => exact rfl); (case c4 => exact rfl); k_whole; intro g' L' h' FG' F' N' B' X' T'; (try dsimp only); (try k_lift B'); (try k_fold))
   k_steps
   exact cb_retI hret (by rw [Int.toNat_natCast, Int.toNat_natCast]) (by assumption) (cb_drop (by assumption) fun _ h => .tail _ (.tail _ (.tail _ (.tail _ h))))
end Mine
end
section
open PySem PySem.W PyProof.Rows
set_option Elab.async false
namespace Mine
theorem rr_irr {c : Nat → Int} {x y : Nat} (h1 : Rr c x y) (h2 : Rr c y x) : False := by
  unfold Rr at h1 h2; lia  
/-- two rising lists with the same members are one -/
theorem asc_unique {c : Nat → Int} : ∀ {l₁ l₂ : List Nat}, l₁.Pairwise (Rr c) → l₂.Pairwise (Rr c) → (∀ x, x ∈ l₁ ↔ x ∈ l₂) → l₁ = l₂
  | [], [], _, _, _ => rfl
  | [], y :: r, _, _, h => absurd ((h y).mpr (.head _)) List.not_mem_nil
  | x :: r, [], _, _, h => absurd ((h x).mp (.head _)) List.not_mem_nil
  | x :: r, y :: t, h1, h2, h => by
    obtain ⟨a1, b1⟩ := List.pairwise_cons.mp h1
    obtain ⟨a2, b2⟩ := List.pairwise_cons.mp h2
    have hx : x = y := by
      rcases List.mem_cons.mp ((h x).mp (.head _)) with e | e
      · exact e
      · rcases List.mem_cons.mp ((h y).mpr (.head _)) with e' | e'
        · exact e'.symm
        · exact (rr_irr (a2 x e) (a1 y e')).elim
    subst hx
    congr 1
    refine asc_unique b1 b2 fun z => ⟨fun hz => ?_, fun hz => ?_⟩
    · rcases List.mem_cons.mp ((h z).mp (.tail _ hz)) with rfl | e
      · exact (rr_irr (a1 _ hz) (a1 _ hz)).elim
      · exact e
    · rcases List.mem_cons.mp ((h z).mpr (.tail _ hz)) with rfl | e
      · exact (rr_irr (a2 _ hz) (a2 _ hz)).elim
      · exact e
/-- no more numbers below n than n -/
theorem nodup_le : ∀ (n : Nat) (l : List Nat), l.Nodup → (∀ x ∈ l, x < n) → l.length ≤ n
  | 0, [], _, _ => Nat.le_refl _
  | 0, x :: _, _, h => absurd (h x (.head _)) (Nat.not_lt_zero _)
  | n + 1, l, hn, h => by
    have ih := nodup_le n (l.erase n) (hn.erase n) fun x hx => by
      have h1 := h x (List.mem_of_mem_erase hx)
      have h2 : x ≠ n := fun e => (hn.not_mem_erase (a := n)) (e ▸ hx)
      lia  
    rw [List.length_erase] at ih
    split at ih <;> lia  
theorem nodup_all {n : Nat} {l : List Nat} (hn : l.Nodup) (h : ∀ x ∈ l, x < n) (hl : l.length = n) {j : Nat} (hj : j < n) : j ∈ l := by
  by_cases hm : j ∈ l
  · exact hm
  · have := nodup_le n (j :: l) (List.nodup_cons.mpr ⟨hm, hn⟩) fun x hx => by
      rcases List.mem_cons.mp hx with rfl | hx
      · exact hj
      · exact h x hx
    rw [List.length_cons] at this
    lia  
theorem asc_nodup {c : Nat → Int} {l : List Nat} (h : l.Pairwise (Rr c)) : l.Nodup := h.imp fun h1 e => by subst e; exact rr_irr h1 h1
theorem asc_same {c : Nat → Int} {n : Nat} {l₁ l₂ : List Nat} (h1 : l₁.Pairwise (Rr c)) (h2 : l₂.Pairwise (Rr c)) (e1 : l₁.length = n) (e2 : l₂.length = n) (b1 : ∀ x ∈ l₁, x < n) (b2 : ∀ x ∈ l₂, x < n) : l₁ = l₂ :=
  asc_unique h1 h2 fun x => ⟨fun hx => nodup_all (asc_nodup h2) b2 e2 (b1 x hx), fun hx => nodup_all (asc_nodup h1) b1 e1 (b2 x hx)⟩
/-- those at most v stand ahead -/
theorem cut_asc {c : Nat → Int} (v : Int) : ∀ {l : List Nat}, l.Pairwise (Rr c) → (∀ x ∈ l.take (l.filter fun j => decide (c j ≤ v)).length, c x ≤ v) ∧ ∀ x ∈ l.drop (l.filter fun j => decide (c j ≤ v)).length, v < c x
  | [], _ => ⟨by simp, by simp⟩
  | a :: r, h => by
    obtain ⟨h1, h2⟩ := List.pairwise_cons.mp h
    by_cases ha : c a ≤ v
    · have e : (List.filter (fun j => decide (c j ≤ v)) (a :: r)).length = (r.filter fun j => decide (c j ≤ v)).length + 1 := by
        rw [List.filter_cons_of_pos (by simpa using ha), List.length_cons]
      rw [e, List.take_succ_cons, List.drop_succ_cons]
      obtain ⟨i1, i2⟩ := cut_asc v h2
      refine ⟨fun x hx => ?_, i2⟩
      rcases List.mem_cons.mp hx with rfl | hx
      · exact ha
      · exact i1 x hx
    · have hall : ∀ x ∈ a :: r, v < c x := fun x hx => by
        rcases List.mem_cons.mp hx with rfl | hx
        · lia  
        · have := h1 x hx
          unfold Rr at this; lia  
      have e : (List.filter (fun j => decide (c j ≤ v)) (a :: r)) = [] := List.filter_eq_nil_iff.mpr fun x hx => by
        have := hall x hx
        simp; lia  
      rw [e]
      exact ⟨by simp, hall⟩
theorem dueN_asc (c : Nat → Int) : ∀ k, (dueN c k).Pairwise (Rr c)
  | 0 => .nil
  | k + 1 => by
    have ih := dueN_asc c k
    obtain ⟨h1, h2⟩ := cut_asc (c k) ih
    unfold dueN
    refine List.pairwise_append.mpr ⟨ih.take, List.pairwise_cons.mpr ⟨fun x hx => ?_, ih.drop⟩, fun x hx y hy => ?_⟩
    · have := h2 x hx
      unfold Rr; lia  
    · have hx1 := h1 x hx
      have hx2 := dueN_lt c k x (List.mem_of_mem_take hx)
      rcases List.mem_cons.mp hy with rfl | hy
      · unfold Rr; lia  
      · have := h2 y hy
        unfold Rr; lia  
theorem sorted_due {c : Nat → Int} {n : Nat} {p : Array Nat} (hp : Pre c n n p) (ha : Asc c n p) : p.toList = dueN c n := by
  have hs := hp.sz
  have g : ∀ i (h : i < p.toList.length), p.toList[i] = p.getD i 0 := fun i h => by
    rw [Array.getD_eq_getD_getElem?, Array.getElem?_eq_getElem (by simpa using h)]; simp
  refine asc_same (n := n) ?_ (dueN_asc c n) (by simpa using hs) (dueN_len c n) ?_ (dueN_lt c n)
  · rw [List.pairwise_iff_getElem]
    intro i j hi hj hij
    rw [g, g]
    exact ha i j hij (by simpa [hs] using hj)
  · intro x hx
    obtain ⟨i, hi, rfl⟩ := List.getElem_of_mem hx
    rw [g]
    exact hp.sm i (by simpa [hs] using hi)
end Mine
end
section
open PySem PySem.W PyProof.Rows PySem.Calls Builtin
set_option Elab.async false
namespace Mine
set_option maxRecDepth 100000
set_option maxHeartbeats 2000000 in
theorem sorted_K {w : World} {mean : ExcName → Option Value} {mg mb : Str → Option Value} {dp un : Nat} {gd : Option (List Code)} {cn : Str} {cs : Scope} {a : Addr} {ccd : Value} {cl : List (Str × Addr)} {outer : List Env} {A₀ : Around} {base h₀ : Heap} {L : Addr} {m : Str → Option Value} {news kn : List (Addr × Obj)} {s : Shared} {Q E : Value → Shared → Prop} {f RG K9 cell : Addr} {oc : Obj} {t1 t2 t3 : Tok} {n : Nat} {c : Nat → Int}
    {ocv : Value} {od1 : Option Addr} {fd : FuncData} {sl1 : Array (Option Value)}
    (B : Below A₀ base outer h₀) (F : Fr h₀ L s.heap m) (X : (hd.heap_39 w.params).In h₀) (N : News h₀ L s.heap news) (T : Top topProg LOO mean mg mb h₀) (hk : cs.kind = .function) (hd : dp + 20 < recursionLimit) (hu : un + 100 < cLine)
    (hKL : KList cell K9 kn) (hkn : ∀ q ∈ kn, q ∈ news) (hcell : (cell, oc) ∈ news) (hoc : oc.data = .cell (some (.ref f))) (hf : (f, (⟨ocv, od1, .func fd, sl1⟩ : Obj)) ∈ news)
    (hr : (RG, ({ cls := .type "range", dict := none, data := .fields #[.int 0 t1, .int n t2, .int 1 t3], slots := #[] } : Obj)) ∈ news) (h2 : 2 ≤ n) (h64 : n < 64)
    (hcmp : ∀ led, (∀ q ∈ news, q ∈ led) → ∀ (i j : Nat) ti tj, i < n → j < n → CmpC w mean mg mb f led (.int (i : Int) ti) (.int (j : Int) tj) (c i - c j))
    (hret : ∀ D h' tk e dv, Fr h₀ L h' m → News h₀ L h' ((D, W.listOf dv.toArray e) :: news) → (∀ q ∈ news, q.1 < D) → IntsAre dv ((dueN c n).map fun (j : Nat) => (j : Int)) → Q (.ref D) { s with heap := h', toks := tk }) :
    wpAny (model PySem.Challenge.rw_mq0210_01.row.prog w) (ktrTop dp un gd cn cs L a ccd cl outer) (call (.builtin "sorted") [.ref RG] [(Str.ofString "key", .ref K9)]) Q E s := by
  have hrange : IsRange s.heap RG 0 n 1 t1 t2 t3 := (N _ hr).1
  have hKX := kx_of hKL
  refine msorted (K9 := K9) (c := c) (PV := fun vs => vs.length = n ∧ ∀ (i : Nat) (x : Value), vs[i]? = some x → ∃ t, x = .int (0 + (i : Int) * 1) t) F N ?col ?len ?turn ?ask ?fin
  case col =>
    intro A' E' Q' hh hq
    exact collect_rng hh hrange (small_one (by lia  ) (by lia  ) (by lia  ) (by lia  )) (by rw [rangeSize_nat]; lia  ) (by lia  ) fun h' tk vs hk hl hv => hq h' tk vs hk ⟨hl, hv⟩
  case len => rintro vs ⟨hl, _⟩; lia  
  case turn =>
    rintro vs ⟨hl, hv⟩ v hvm h tk led F1 N1 hsub Q1 hq1
    exact mk_inst (s := { s with heap := h, toks := tk }) B F1 X N1 T rfl rfl hk hKX (fun q hq => hsub q (hkn q hq)) (by show dp + 1 < _; lia  ) hq1
  case ask =>
    rintro vs ⟨hl, hv⟩ i j vi vj hi hj h tk led x y dx dy F1 N1 hsub m1 m2 m3 m4 C hC
    obtain ⟨ti, rfl⟩ := hv i vi hi
    obtain ⟨tj, rfl⟩ := hv j vj hj
    have hi' : i < n := by rw [← hl]; exact (List.getElem?_eq_some_iff.mp hi).1
    have hj' : j < n := by rw [← hl]; exact (List.getElem?_eq_some_iff.mp hj).1
    have e1 : (0 : Int) + (i : Int) * 1 = (i : Int) := by lia  
    have e2 : (0 : Int) + (j : Int) * 1 = (j : Int) := by lia  
    rw [e1] at m1
    rw [e2] at m3
    refine lt_inst (s := { s with heap := h, toks := tk }) (dp := dp) (un := un + 2) B F1 X N1 T hk (by lia  ) (by lia  ) hKX (fun q hq => hsub q (hkn q hq)) m1 m2 m3 m4 (hsub _ hcell) hoc (hsub _ hf) rfl rfl (hcmp led hsub i j ti tj hi' hj') fun h' tk' F2 N2 => ?_
    have e : decide (c i - c j < 0) = decide (c i < c j) := decide_eq_decide.mpr ⟨fun _ => by lia  , fun _ => by lia  ⟩
    rw [e]
    exact hC h' tk' F2 N2
  case fin =>
    rintro vs ⟨hl, hv⟩ D h' tk e p F1 N1 hlt hp ha
    rw [hl] at hp ha
    have hd := sorted_due hp ha
    rw [hd] at N1
    refine hret D h' tk e _ F1 N1 hlt ?_
    have hb := dueN_lt c n
    generalize dueN c n = l at hb
    induction l with
    | nil => exact .nil
    | cons x r ih =>
      have hx : x < vs.length := by rw [hl]; exact hb x (.head _)
      obtain ⟨t, ht⟩ := hv x (vs[x]) (List.getElem?_eq_getElem hx)
      have e : vs.getD x .none = .int (x : Int) t := by
        rw [List.getD, List.getElem?_eq_getElem hx, Option.getD_some, ht]
        congr 1; lia  
      rw [List.map_cons, List.map_cons, e]
      exact .cons _ _ (ih fun z hz => hb z (.tail _ hz))
theorem up_of {α : Type} {kn l led : List α} {x : α} (h : ∀ q ∈ kn ++ x :: l, q ∈ led) : ∀ q ∈ l, q ∈ led := fun q hq => h q (List.mem_append_right _ (.tail _ hq))
end Mine
end
section
open PySem PySem.W PyProof.Rows PySem.Calls
set_option Elab.async false
namespace Mine
set_option maxRecDepth 100000
/-- o is the iterator over the list at l, i items on -/
noncomputable def ItOf (o : Obj) (l : Addr) (i : Nat) : Prop := o.cls = .type "list_iterator" ∧ o.data = .fields #[.ref l, .int i 0]
section
variable {prog : Program} {w : World} {A : Around} {E : Value → Shared → Prop} {s : Shared} {h₀ : Heap} {L l I : Addr} {m : Str → Option Value} {news : List (Addr × Obj)} {oI : Obj} {items : Array Value} {i : Nat} {v : Value}
theorem ItOf.at {h : Heap} (a : ItOf oI l i) (h1 : h.get? I = some oI) : h.IsListIter I l i := ⟨_, h1, a.1, a.2⟩
theorem kli_iter {Q : Value → Shared → Prop} (F : Fr h₀ L s.heap m) (N : News h₀ L s.heap news) (hl : s.heap.IsList l items)
    (h : ∀ (I : Addr) h' oI, Fr h₀ L h' m → News h₀ L h' ((I, oI) :: news) → (∀ p ∈ news, Dif p.1 I) → ItOf oI l 0 → L < I → Q (.ref I) { s with heap := h' }) :
    wpAny (model prog w) A (call (.builtin "iter") [.ref l]) Q E s := by
  refine call_function_entry (by decide +kernel) (by decide +kernel) kdk_entry_iter (kdk_args_iter _) ?_
  unfold Builtin.«iter»
  refine wpAny_bind (m := someArgs "iter" 1 2 _) (wpAny_of_eq (a := [Value.ref l]) (by first | rfl | kernel_rfl!) ?_)
  show wpAny _ _ (pyIter (.ref l) >>= _) _ _ _
  refine wpAny_bind (wpAny_pyIter_list hl ?_)
  exact wpAny_pure ⟨_, rfl, h _ _ _ (F.push _) (News.push F N _ rfl) (fun q hq => Nat.ne_of_lt (Heap.lt_size (N q hq).1)) ⟨rfl, rfl⟩ F.ns.lt⟩
theorem kli_special {Q : Option Value → Shared → Prop} (hit : s.heap.IsListIter I l i) (hl : s.heap.IsList l items) (hx : items[i]? = some v)
    (hQ : ∀ h', h'.IsListIter I l (i + 1) → Heap.SameBut I s.heap h' → Q (some v) { s with heap := h' }) :
    wpAny (model prog w) A (callSpecial? (.ref I) (Str.ofString "__next__")) Q E s := by
  obtain ⟨o, ho, hc, hd⟩ := id hit
  obtain ⟨ol, hol, _, nl, hdl⟩ := hl
  refine wpAny_callSpecial?_slot (name := Str.ofString "__next__") hit.typeIs slot_listiter_next
    (wpAny_call_entry slot_listiter_next hit.typeIs entry_listiter_next ?_ (args_listiter_next _))
  show wpAny _ _ (field (.ref I) 0 >>= _) _ _ s
  refine wpAny_bind (wpAny_field ho hd (x := .ref l) rfl ?_)
  show wpAny _ _ (if (Value.ref l == Value.none) = true then _ else _) _ _ s
  rw [if_neg (show ¬ ((Value.ref l == Value.none) = true) from Bool.false_ne_true)]
  show wpAny _ _ (field (.ref I) 1 >>= _) _ _ s
  refine wpAny_bind (wpAny_field ho hd (x := .int i 0) rfl ?_)
  show wpAny _ _ (seqItems? (.ref l) >>= _) _ _ s
  refine wpAny_bind (wpAny_seqItems hol hdl ?_)
  simp only [Int.toNat_natCast, hx]
  refine wpAny_bind (wpAny_setField ho hd (by simp) (wpAny_pure ⟨v, rfl, hQ _ ?_ (Heap.SameBut.update ..)⟩))
  exact ⟨_, Heap.get?_update_self _ ho (Obj.isFreed_of_fields (Obj.data_mapFields hd _)), (Obj.cls_mapFields ..).trans hc, by
    rw [Obj.data_mapFields hd]; simp [rawInt]⟩
theorem kli_moved {h h' : Heap} (F : Fr h₀ L h m) (N : News h₀ L h ((I, oI) :: news)) (off : ∀ p ∈ news, Dif p.1 I) (hit : h'.IsListIter I l i) (hs : ∀ b o, b ≠ I → h.get? b = some o → h'.get? b = some o) :
    ∃ oI', Fr h₀ L h' m ∧ News h₀ L h' ((I, oI') :: news) ∧ ItOf oI' l i := by
  have hI := N _ (.head _)
  obtain ⟨o', ho', hc', hd'⟩ := hit
  have hk : ∀ b o, b ∉ [I] → h.get? b = some o → h'.get? b = some o := fun b o hb e => hs b o (fun c => hb (by simp [c])) e
  refine ⟨o', LCg.fr_but F hk (Ne.symm hI.2.1) hI.2.2, fun p hp => ?_, hc', hd'⟩
  rcases List.mem_cons.mp hp with rfl | hp
  · exact ⟨ho', hI.2.1, hI.2.2⟩
  · exact LCg.news_but (fun q hq => N q (.tail _ hq)) hk off p hp
theorem kli_next {Q : Value → Shared → Prop} (F : Fr h₀ L s.heap m) (N : News h₀ L s.heap ((I, oI) :: news)) (off : ∀ p ∈ news, Dif p.1 I) (hi : ItOf oI l i) (hl : s.heap.IsList l items) (hx : items[i]? = some v)
    (h : ∀ h' oI', Fr h₀ L h' m → News h₀ L h' ((I, oI') :: news) → ItOf oI' l (i + 1) → Q v { s with heap := h' }) :
    wpAny (model prog w) A (call (.builtin "next") [.ref I]) Q E s := by
  have hit := hi.at (N _ (.head _)).1
  refine call_function_entry (by decide +kernel) (by decide +kernel) kdk_entry_next (kdk_args_next _) ?_
  unfold Builtin.«next»
  refine wpAny_bind (m := someArgs "next" 1 2 _) (wpAny_of_eq (a := [Value.ref I]) (by first | rfl | kernel_rfl!) ?_)
  dsimp only
  refine wpAny_bind (wpAny_specialOf (name := Str.ofString "__next__") hit.typeIs slot_listiter_next.lookup ?_)
  refine wpAny_ite_split (fun hab => absurd hab (by decide)) (fun _ => ?_)
  refine wpAny_bind (kli_special hit hl hx fun h' hit' hs => ?_)
  obtain ⟨oI', F', N', hi'⟩ := kli_moved F N off hit' fun b o hb e => hs.extBut b o hb e
  exact wpAny_pure ⟨_, rfl, h h' oI' F' N' hi'⟩
/-- the end of a turn of for_iter -/
noncomputable def IE (s : Shared) (h₀ : Heap) (L I : Addr) (oI : Obj) (J : (Str → Option Value) → List (Addr × Obj) → Prop) (s₃ : Shared) : Prop :=
  ∃ h' tk' m' led', s₃ = { s with heap := h', toks := tk' } ∧ Fr h₀ L h' m' ∧ News h₀ L h' ((I, oI) :: led') ∧ (∀ p ∈ led', Dif p.1 I) ∧ J m' led'
/-- a for over a list's iterator that stands in the ledger -/
theorem for_iter {target : Expr} {body : List Stmt} {env : Env} {Q : Flow → Shared → Prop} {vs : List Value} {e j₀ : Nat} {led : List (Addr × Obj)} (J : Nat → (Str → Option Value) → List (Addr × Obj) → Prop)
    (hh : A.handled = none) (F : Fr h₀ L s.heap m) (N : News h₀ L s.heap ((I, oI) :: led)) (off : ∀ p ∈ led, Dif p.1 I) (hi : ItOf oI l j₀) (hle : j₀ ≤ vs.length) (hJ : J j₀ m led)
    (hmem : ∀ i m led, J i m led → (l, W.listOf vs.toArray e) ∈ led)
    (ht : ∀ it v, letOwnedTupleGo target it v = pure ())
    (turn : ∀ (i : Nat) v m led h tk oI (E' : Value → Shared → Prop), i < vs.length → vs[i]? = some v → J i m led → Fr h₀ L h m → News h₀ L h ((I, oI) :: led) → (∀ p ∈ led, Dif p.1 I) →
      wpAny (model prog w) A (assign target env v) (fun _ s₂ => wpAny (model prog w) A (execs body env) (fun f s₃ => match f with
          | .next | .cont => IE s h₀ L I oI (J (i + 1)) s₃
          | .brk => Q .next s₃
          | .ret v => Q (.ret v) s₃) E' s₂) E' { s with heap := h, toks := tk })
    (done : ∀ m led h tk, J vs.length m led → Fr h₀ L h m → News h₀ L h led → Q .next { s with heap := h, toks := tk }) :
    wpAny (model prog w) A (pyIter (.ref I)) (fun it s₂ => codeAny (model prog w) A (.forLoop target it body [] env) (fun r s' => match r with | .ok f => Q f s' | .error e => cameBackBy (model prog w) A env E e s') s₂) E s := by
  refine wpAny_pyIter_listiter (hi.at (N _ (.head _)).1) ?_
  have hI := N _ (.head _)
  have isl : ∀ {h i m led}, J i m led → News h₀ L h led → h.IsList l vs.toArray := fun hJ N => News.isList N (hmem _ _ _ hJ)
  refine codeAny_forLoop (I := fun k s' => ∃ i h tk m led oI, k = vs.length - i ∧ i ≤ vs.length ∧ s' = { s with heap := h, toks := tk } ∧ ItOf oI l i ∧ Fr h₀ L h m ∧ News h₀ L h ((I, oI) :: led) ∧ (∀ p ∈ led, Dif p.1 I) ∧ J i m led) ?_ (vs.length - j₀) ?_ (ht _)
  · rintro k s' ⟨i, h, tk, m₁, led₁, oI₁, rfl, hle, rfl, hst, F₁, N₁, off₁, hJ₁⟩
    have N₀ : News h₀ L h led₁ := fun p hp => N₁ p (.tail _ hp)
    by_cases hlt : i < vs.length
    · have hx : vs.toArray[i]? = some vs[i] := by simp [hlt]
      refine wpAny_pyNext_list_item (s := { s with heap := h, toks := tk }) (hst.at (N₁ _ (.head _)).1) (isl hJ₁ N₀) hx fun h' hit' hs => ?_
      obtain ⟨oI', F', N', hi'⟩ := kli_moved F₁ N₁ off₁ hit' fun b o hb e => hs.extBut b o hb e
      refine wpAny_mono (turn i _ m₁ led₁ h' tk oI' _ hlt (List.getElem?_eq_getElem hlt) hJ₁ F' N' off₁) (fun _ s₂ h₂ => wpAny_mono h₂ (fun f s₃ h₃ => ?_) fun _ _ e => e) fun _ _ e => e
      have key : IE s h₀ L I oI' (J (i + 1)) s₃ →
          ∃ m, m < vs.length - i ∧ ∃ i h tk m₂ led oI, m = vs.length - i ∧ i ≤ vs.length ∧ s₃ = { s with heap := h, toks := tk } ∧ ItOf oI l i ∧ Fr h₀ L h m₂ ∧ News h₀ L h ((I, oI) :: led) ∧ (∀ p ∈ led, Dif p.1 I) ∧ J i m₂ led := by
        rintro ⟨h4, tk4, m4, led4, rfl, F4, N4, off4, hJ4⟩
        exact ⟨vs.length - (i + 1), by omega, i + 1, h4, tk4, m4, led4, oI', rfl, hlt, rfl, hi', F4, N4, off4, hJ4⟩
      cases f with
      | next => exact key h₃
      | cont => exact key h₃
      | brk => exact h₃
      | ret v => exact h₃
    · obtain rfl : i = vs.length := by omega
      refine wpAny_pyNext_list_end (s := { s with heap := h, toks := tk }) hh (hst.at (N₁ _ (.head _)).1) (isl hJ₁ N₀) (by simp) fun h' he => ?_
      have hk : ∀ b o, b ∉ [I] → h.get? b = some o → h'.get? b = some o := fun b o hb e => he b o (fun c => hb (by simp [c])) e
      exact wpAny_execs_nil (done m₁ led₁ h' tk hJ₁ (LCg.fr_but F₁ hk (Ne.symm hI.2.1) hI.2.2) (LCg.news_but N₀ hk off₁))
  · exact ⟨j₀, s.heap, s.toks, m, led, oI, rfl, hle, rfl, hi, F, N, off, hJ⟩
end
end Mine
end
section
open PySem PySem.W PyProof.Rows
set_option Elab.async false
namespace Mine
/-- what a call of the function at f on vx, vy hands back where the ledger is news: a value and the objects it made -/
noncomputable def FunC (w : World) (mean : ExcName → Option Value) (mg mb : Str → Option Value) (f : Addr) (news : List (Addr × Obj)) (vx vy : Value) (R : Value → List (Addr × Obj) → Prop) : Prop :=
  ∀ (dp un : Nat) (gd : Option (List Code)) (cn : Str) (cs : Scope) (a : Addr) (ccd : Value) (cl : List (Str × Addr)) (outer : List Env) (A₀ : Around) (base h₀ : Heap) (L : Addr) (m : Str → Option Value) (s : Shared) (Q E : Value → Shared → Prop),
    Below A₀ base outer h₀ → Fr h₀ L s.heap m → (hd.heap_39 w.params).In h₀ → News h₀ L s.heap news → Top topProg LOO mean mg mb h₀ → cs.kind = .function → dp + 25 < recursionLimit → un + 130 < cLine →
    (∀ (v : Value) (nw : List (Addr × Obj)) (h' : Heap) (tk' : Nat), R v nw → Fr h₀ L h' m → News h₀ L h' (nw ++ news) → (∀ p ∈ nw, ∀ q ∈ news, Dif q.1 p.1) → Q v { s with heap := h', toks := tk' }) →
      wpAny (model PySem.Challenge.rw_mq0210_01.row.prog w) (ktrTop dp un gd cn cs L a ccd cl outer) (call (.ref f) [vx, vy]) Q E s
local macro_rules | `(tactic| walk_at "call builtin:iter") => `(tactic| refine Blk.mk ?_)
/-- the value is not the mark of a missing one -/
noncomputable def NotMiss (w : World) (led : List (Addr × Obj)) (v : Value) : Prop := ∀ (A : Around) (E : Value → Shared → Prop) (s : Shared) (Q : Value → Shared → Prop) (h₀ : Heap) (L : Addr) (m : Str → Option Value),
  (hd.heap_39 w.params).In h₀ → Fr h₀ L s.heap m → News h₀ L s.heap led → Q (.bool false) s → wpAny (model PySem.Challenge.rw_mq0210_01.row.prog w) A (compareOp .Is v (.ref 36)) Q E s
theorem notMiss_int (w : World) (led : List (Addr × Obj)) (i : Int) (t : Tok) : NotMiss w led (.int i t) := fun _ _ _ _ _ _ _ _ _ _ h => wpAny_is_other rfl (by intro e; cases e) h
theorem kept36 : ∃ o, ∀ w : World, (hd.heap_39 w.params).lookup 36 = some o := ⟨_, fun _ => rfl⟩
theorem notMiss_ref (w : World) {led : List (Addr × Obj)} {S : Addr} {o : Obj} (hm : (S, o) ∈ led) (hc : o.cls ≠ .type "tuple") : NotMiss w led (.ref S) := fun _ _ _ _ _ _ _ X F N h => by
  obtain ⟨ob, hb⟩ := kept36
  exact wpAny_is_ref_other (kto_neNK N hm X (hb w)) (N _ hm).1 (F.keep _ _ (X _ _ (hb w))) hc h
theorem fun_call {w : World} {mean : ExcName → Option Value} {mg mb : Str → Option Value} {f : Addr} {vx vy : Value} {R : Value → List (Addr × Obj) → Prop} {dp un : Nat} {gd : Option (List Code)} {cn : Str} {cs : Scope} {a : Addr} {ccd : Value} {cl : List (Str × Addr)} {outer : List Env} {A₀ : Around} {base h₀ : Heap} {L : Addr} {m : Str → Option Value} {news : List (Addr × Obj)} {s : Shared} {Q E : Value → Shared → Prop}
    (hB : Below A₀ base outer h₀) (F : Fr h₀ L s.heap m) (X : (hd.heap_39 w.params).In h₀) (N : News h₀ L s.heap news) (T : Top topProg LOO mean mg mb h₀) (hk : cs.kind = .function) (hd : dp + 25 < recursionLimit) (hu : un + 130 < cLine)
    (C : FunC w mean mg mb f news vx vy R)
    (hret : ∀ (v : Value) (nw : List (Addr × Obj)) (h' : Heap) (tk' : Nat), R v nw → Fr h₀ L h' m → News h₀ L h' (nw ++ news) → (∀ p ∈ nw, ∀ q ∈ news, Dif q.1 p.1) → Q v { s with heap := h', toks := tk' }) :
      wpAny (model PySem.Challenge.rw_mq0210_01.row.prog w) (ktrTop dp un gd cn cs L a ccd cl outer) (call (.ref f) [vx, vy]) Q E s :=
  C dp un gd cn cs a ccd cl outer A₀ base h₀ L m s Q E hB F X N T hk hd hu hret
local macro_rules | `(tactic| walk_at "compareOp Is") => `(tactic| refine Blk.mk ?_)
local macro_rules | `(tactic| walk_at "call ref") => `(tactic| refine Blk.mk ?_)
local macro_rules | `(tactic| walk_at "pyIter ref") => `(tactic| refine Blk.mk ?_)
set_option maxRecDepth 100000 in
set_option maxHeartbeats 8000000 in
theorem red_claim (w : World) (mean : ExcName → Option Value) (mg mb : Str → Option Value) {f l e : Nat} {v₀ : Value} {vs : List Value} {led : List (Addr × Obj)} (J : Nat → Value → List (Addr × Obj) → Prop)
   (dp un : Nat) (gd : Option (List Code)) (cn : Str) (cs : Scope) (a : Addr) (ccd : Value) (clo : List (Str × Addr)) (outer : List Env) (A₀ : Around) (base h₀ : Heap) (L : Addr) (mm : Str → Option Value) (s : Shared) (Q E : Value → Shared → Prop)
   (hB : Below A₀ base outer h₀) (F : Fr h₀ L s.heap mm) (X : (hd.heap_39 w.params).In h₀) (N : News h₀ L s.heap led) (T : Top topProg LOO mean mg mb h₀) (hk : cs.kind = .function) (hdp : dp + 30 < recursionLimit) (hun : un + 150 < cLine) 
   (hv0 : NotMiss w led v₀) (h0 : J 0 v₀ []) {ocv : Value} {od1 : Option Addr} {fd : FuncData} {sl1 : Array (Option Value)} (hf : (f, (⟨ocv, od1, .func fd, sl1⟩ : Obj)) ∈ led) (hl : (l, W.listOf vs.toArray e) ∈ led) (h64 : vs.length ≤ 64)
   (turn : ∀ i v x nw all, vs[i]? = some x → J i v nw → (∀ p ∈ nw ++ led, p ∈ all) → FunC w mean mg mb f all v x fun v' nw' => J (i + 1) v' (nw' ++ nw))
   (hret : ∀ (v : Value) (nw : List (Addr × Obj)) (h' : Heap) (tk' : Nat), J vs.length v nw → Fr h₀ L h' mm → News h₀ L h' (nw ++ led) → (∀ p ∈ nw, ∀ q ∈ led, Dif q.1 p.1) → Q v { s with heap := h', toks := tk' }) :
   wpAny (model PySem.Challenge.rw_mq0210_01.row.prog w) (ktrTop dp un gd cn cs L a ccd clo outer) (call (.ref 44) [.ref f, .ref l, v₀]) Q E s := by
   have hx : PySem.Challenge.rw_mq0210_01 = PySem.Challenge.rw_mq0210_01 := rfl
   have hy : hd.heap_39 = hd.heap_39 := rfl
   revert hx hy
   k_fill
   intro hx hy
   clear hx hy
   w_on
   refine wpAny_call ?_
   k_dflt (refine' code_def ?k1 ?k2 ?k3 ?k4 ?k5 ?kA ?kF ?kK ?k6 ?k7 ?k8 ?k9 ?kB ?_ ?c2 ?c3 ?c4 ?c5; (case kA => exact rfl); (case kF => exact rfl); (case kK => assumption); (case k1 => k_asm); (case k2 => k_asm); (case k3 => k_asm); (case k4 => k_asm); (case k5 => k_asm); (case k6 => k_is); (case k7 => k_is); (case k8 => ktr_room); (case k9 => exact binds_K (by k_in) rfl (by k_is) rfl rfl rfl); (case c5 => decide); (case kB => exact locs rfl); (case c2 => exact rfl); (case c3 => exact rfl); (case c4 => exact rfl); k_whole; intro g' L' h' FG' F' N' B' X' T'; (try dsimp only); (try k_lift B'); (try k_fold))
   k_steps
   refine Blk.out ?_
   rename Fr g' L' h' _ => F0
   rename News g' L' h' _ => N1
   have F1 := fr_start F0 (l' := [(Str.ofString "initial", v₀), (Str.ofString "sequence", .ref l), (Str.ofString "function", .ref f)]) rfl
   clear F0
   refine kli_iter F1 N1 (News.isList N1 hl) fun I h2 oI F2 N2 off2 hi2 hLI => ?_
   clear F1 N1
   dsimp only at F2 N2 ⊢
   k_steps
   refine Blk.out ?_
   rename Fr g' L' _ _ => F3
   rename News g' L' _ _ => N3
   refine hv0 _ _ _ _ _ _ _ (by k_asm) F3 (news_sub _ N3 fun p hp => .tail _ hp) ?_
   k_steps
   refine Blk.out ?_
   refine wpAny_For ?_
   k_steps
   refine Blk.out ?_
   rename Fr g' L' _ _ => F4
   rename News g' L' _ _ => N4
   have F5 := fr_to F4 (m' := fun y => if y = Str.ofString "element" then none else kstB (fun _ => none) [(Str.ofString "value", v₀), (Str.ofString "it", .ref I), (Str.ofString "initial", v₀), (Str.ofString "sequence", .ref l), (Str.ofString "function", .ref f)] y) (funext fun y => by
     by_cases hy : y = Str.ofString "element"
     · subst hy; rfl
     · rw [if_neg hy]; rfl)
   have N5 := news_sub ((I, oI) :: (f, (⟨ocv, od1, .func fd, sl1⟩ : Obj)) :: ([] ++ led)) N4 (by intro p hp; rcases List.mem_cons.mp hp with rfl | hp; exact .head _; rcases List.mem_cons.mp hp with rfl | hp; exact .tail _ hf; exact .tail _ hp)
   clear F4 N4
   refine for_iter (vs := vs) (e := e) (j₀ := 0) (fun i m led' => ∃ v nw u, led' = (f, (⟨ocv, od1, .func fd, sl1⟩ : Obj)) :: (nw ++ led) ∧ (∀ p ∈ nw, ∀ q ∈ led, Dif q.1 p.1) ∧ (∀ p ∈ nw, Dif p.1 I) ∧ J i v nw ∧ m = fun y => if y = Str.ofString "element" then u else kstB (fun _ => none) [(Str.ofString "value", v), (Str.ofString "it", .ref I), (Str.ofString "initial", v₀), (Str.ofString "sequence", .ref l), (Str.ofString "function", .ref f)] y)
     rfl F5 N5 ?off hi2 (Nat.zero_le _) ⟨v₀, [], none, rfl, by simp, by simp, h0, rfl⟩ ?hmem ?ht ?turn ?done
   case off => intro p hp; rcases List.mem_cons.mp hp with rfl | hp; exact off2 _ hf; exact off2 _ hp
   case hmem => rintro i m led' ⟨v, nw, u, rfl, _⟩; exact .tail _ (List.mem_append_right _ hl)
   case ht => intro _ _; rfl
   case turn =>
     rintro i x m led' h tk oI E' hi hxi ⟨v, nw, u, rfl, hnw, hnI, hJ, rfl⟩ F6 N6 hoff
     clear F5 N5
     dsimp only at F6 N6 ⊢
     k_steps
     rename Fr g' L' _ _ => F7
     rename News g' L' _ _ => N7
     refine callWith_F (q := f) ⟨_, _, _, _, (N7 _ (.tail _ (.head _))).1⟩ ?_
     k_steps
     refine Blk.out ?_
     with_unfolding_all refine' fun_call (R := fun v' nw' => J (i + 1) v' (nw' ++ nw)) ?k1 ?k2 ?k3 (N7) ?k5 ?kK ?kd ?ku ?kc ?_
     case k1 => k_asm
     case k2 => k_asm
     case k3 => k_asm
     case k5 => k_asm
     case kK => exact rfl
     case kd => first | ktr_room | decide
     case ku => first | ktr_units | decide
     case kc => exact turn i v x nw _ hxi hJ fun p hp => .tail _ (.tail _ hp)
     intro v2 nw2 h8 tk8 hJ2 F8 N8 hd8
     clear F7 N7
     dsimp only at F8 N8 ⊢
     k_steps
     rename Fr g' L' _ _ => F9
     rename News g' L' _ _ => N9
     have hx9 : ∀ q ∈ led, q ∈ (I, oI) :: (f, (⟨ocv, od1, .func fd, sl1⟩ : Obj)) :: (nw ++ led) := fun q hq => .tail _ (.tail _ (List.mem_append_right _ hq))
     refine ⟨_, _, _, _, rfl, F9, news_sub ((I, oI) :: (f, (⟨ocv, od1, .func fd, sl1⟩ : Obj)) :: ((nw2 ++ nw) ++ led)) N9 ?_, ?_, v2, nw2 ++ nw, some x, rfl, ?_, ?_, hJ2, ?_⟩
     · intro p hp
       rcases List.mem_cons.mp hp with rfl | hp
       · exact List.mem_append_right _ (.head _)
       rcases List.mem_cons.mp hp with rfl | hp
       · exact List.mem_append_right _ (.tail _ (.head _))
       rw [List.append_assoc] at hp
       rcases List.mem_append.mp hp with hp | hp
       · exact List.mem_append_left _ hp
       · exact List.mem_append_right _ (.tail _ (.tail _ hp))
     · intro p hp
       rcases List.mem_cons.mp hp with rfl | hp
       · exact hoff _ (.head _)
       rw [List.append_assoc] at hp
       rcases List.mem_append.mp hp with hp | hp
       · exact Ne.symm (hd8 p hp _ (.head _))
       · exact hoff _ (.tail _ hp)
     · intro p hp q hq
       rcases List.mem_append.mp hp with hp | hp
       · exact hd8 p hp q (hx9 q hq)
       · exact hnw p hp q hq
     · intro p hp
       rcases List.mem_append.mp hp with hp | hp
       · exact Ne.symm (hd8 p hp _ (.head _))
       · exact hnI p hp
     · funext y
       by_cases hy : y = Str.ofString "element"
       · subst hy; rfl
       · by_cases hy2 : y = Str.ofString "value"
         · subst hy2; rfl
         · simp only [if_neg hy, if_neg hy2]
           show kstB _ _ y = kstB _ _ y
           unfold kstB
           simp only [if_neg hy2]
   case done =>
     rintro m led' h tk ⟨v, nw, u, rfl, hnw, hnI, hJ, rfl⟩ F6 N6
     clear F5 N5
     dsimp only at F6 N6 ⊢
     k_steps
     rename News h₀ L _ _ => N7
     exact hret _ nw _ _ hJ (by assumption) (news_sub _ N7 fun p hp => .tail _ hp) hnw
end Mine
end
section
open PySem PySem.W PyProof.Rows
set_option Elab.async false
namespace Mine
local macro_rules | `(tactic| walk_at "no such key 0") => `(tactic| skip)
local macro_rules | `(tactic| walk_at "compareOp Is") => `(tactic| refine Blk.mk ?_)
local macro_rules | `(tactic| walk_at "call ref") => `(tactic| refine Blk.mk ?_)
local macro_rules | `(tactic| walk_at "call builtin:next") => `(tactic| refine Blk.mk ?_)
local macro_rules | `(tactic| walk_at "pyIter ref") => `(tactic| refine Blk.mk ?_)
set_option maxRecDepth 100000 in
set_option maxHeartbeats 8000000 in
theorem red2_claim (w : World) (mean : ExcName → Option Value) (mg mb : Str → Option Value) {f l e : Nat} {v₀ : Value} {vs : List Value} {led : List (Addr × Obj)} (J : Nat → Value → List (Addr × Obj) → Prop)
   (dp un : Nat) (gd : Option (List Code)) (cn : Str) (cs : Scope) (a : Addr) (ccd : Value) (clo : List (Str × Addr)) (outer : List Env) (A₀ : Around) (base h₀ : Heap) (L : Addr) (mm : Str → Option Value) (s : Shared) (Q E : Value → Shared → Prop)
   (hB : Below A₀ base outer h₀) (F : Fr h₀ L s.heap mm) (X : (hd.heap_39 w.params).In h₀) (N : News h₀ L s.heap led) (T : Top topProg LOO mean mg mb h₀) (hk : cs.kind = .function) (hdp : dp + 30 < recursionLimit) (hun : un + 150 < cLine) 
   (hv0 : vs[0]? = some v₀) (h0 : J 1 v₀ []) {ocv : Value} {od1 : Option Addr} {fd : FuncData} {sl1 : Array (Option Value)} (hf : (f, (⟨ocv, od1, .func fd, sl1⟩ : Obj)) ∈ led) (hl : (l, W.listOf vs.toArray e) ∈ led) (h64 : vs.length ≤ 64)
   (turn : ∀ i v x nw all, vs[i]? = some x → J i v nw → (∀ p ∈ nw ++ led, p ∈ all) → FunC w mean mg mb f all v x fun v' nw' => J (i + 1) v' (nw' ++ nw))
   (hret : ∀ (v : Value) (nw : List (Addr × Obj)) (h' : Heap) (tk' : Nat), J vs.length v nw → Fr h₀ L h' mm → News h₀ L h' (nw ++ led) → (∀ p ∈ nw, ∀ q ∈ led, Dif q.1 p.1) → Q v { s with heap := h', toks := tk' }) :
   wpAny (model PySem.Challenge.rw_mq0210_01.row.prog w) (ktrTop dp un gd cn cs L a ccd clo outer) (call (.ref 44) [.ref f, .ref l]) Q E s := by
   have hx : PySem.Challenge.rw_mq0210_01 = PySem.Challenge.rw_mq0210_01 := rfl
   have hy : hd.heap_39 = hd.heap_39 := rfl
   revert hx hy
   k_fill
   intro hx hy
   clear hx hy
   w_on
   refine wpAny_call ?_
   k_dflt (refine' code_def ?k1 ?k2 ?k3 ?k4 ?k5 ?kA ?kF ?kK ?k6 ?k7 ?k8 ?k9 ?kB ?_ ?c2 ?c3 ?c4 ?c5; (case kA => exact rfl); (case kF => exact rfl); (case kK => assumption); (case k1 => k_asm); (case k2 => k_asm); (case k3 => k_asm); (case k4 => k_asm); (case k5 => k_asm); (case k6 => k_is); (case k7 => k_is); (case k8 => ktr_room); (case k9 => exact binds_K (by k_in) rfl (by k_is) rfl rfl rfl); (case c5 => decide); (case kB => exact locs rfl); (case c2 => exact rfl); (case c3 => exact rfl); (case c4 => exact rfl); k_whole; intro g' L' h' FG' F' N' B' X' T'; (try dsimp only); (try k_lift B'); (try k_fold))
   k_steps
   refine Blk.out ?_
   rename Fr g' L' h' _ => F0
   rename News g' L' h' _ => N1
   have F1 := fr_start F0 (l' := [(Str.ofString "initial", .ref 36), (Str.ofString "sequence", .ref l), (Str.ofString "function", .ref f)]) rfl
   clear F0
   refine kli_iter F1 N1 (News.isList N1 hl) fun I h2 oI F2 N2 off2 hi2 hLI => ?_
   clear F1 N1
   dsimp only at F2 N2 ⊢
   k_steps
   refine Blk.out ?_
   rename Fr g' L' _ _ => F3
   rename News g' L' _ _ => N3
   have hlen : 1 ≤ vs.length := by
     have := (List.getElem?_eq_some_iff.mp hv0).1
     omega
   refine kli_next F3 N3 off2 hi2 (News.isList N3 (.tail _ hl)) (by rw [List.getElem?_toArray]; exact hv0) fun h3 oI3 F5 N5 hi3 => ?_
   dsimp only at F5 N5 ⊢
   clear F3 N3 hi2
   k_steps
   refine wpAny_For ?_
   k_steps
   refine Blk.out ?_
   rename Fr g' L' _ _ => F4
   rename News g' L' _ _ => N4
   have F5 := fr_to F4 (m' := fun y => if y = Str.ofString "element" then none else kstB (fun _ => none) [(Str.ofString "value", v₀), (Str.ofString "it", .ref I), (Str.ofString "initial", .ref 36), (Str.ofString "sequence", .ref l), (Str.ofString "function", .ref f)] y) (funext fun y => by
     by_cases hy : y = Str.ofString "element"
     · subst hy; rfl
     · rw [if_neg hy]; rfl)
   have N5 := news_sub ((I, oI3) :: (f, (⟨ocv, od1, .func fd, sl1⟩ : Obj)) :: ([] ++ led)) N4 (by intro p hp; rcases List.mem_cons.mp hp with rfl | hp; exact .head _; rcases List.mem_cons.mp hp with rfl | hp; exact .tail _ hf; exact .tail _ hp)
   clear F4 N4
   refine for_iter (vs := vs) (e := e) (j₀ := 1) (fun i m led' => ∃ v nw u, led' = (f, (⟨ocv, od1, .func fd, sl1⟩ : Obj)) :: (nw ++ led) ∧ (∀ p ∈ nw, ∀ q ∈ led, Dif q.1 p.1) ∧ (∀ p ∈ nw, Dif p.1 I) ∧ J i v nw ∧ m = fun y => if y = Str.ofString "element" then u else kstB (fun _ => none) [(Str.ofString "value", v), (Str.ofString "it", .ref I), (Str.ofString "initial", .ref 36), (Str.ofString "sequence", .ref l), (Str.ofString "function", .ref f)] y)
     rfl F5 N5 ?off hi3 hlen ⟨v₀, [], none, rfl, by simp, by simp, h0, rfl⟩ ?hmem ?ht ?turn ?done
   case off => intro p hp; rcases List.mem_cons.mp hp with rfl | hp; exact off2 _ hf; exact off2 _ hp
   case hmem => rintro i m led' ⟨v, nw, u, rfl, _⟩; exact .tail _ (List.mem_append_right _ hl)
   case ht => intro _ _; rfl
   case turn =>
     rintro i x m led' h tk oI E' hi hxi ⟨v, nw, u, rfl, hnw, hnI, hJ, rfl⟩ F6 N6 hoff
     clear F5 N5
     dsimp only at F6 N6 ⊢
     k_steps
     rename Fr g' L' _ _ => F7
     rename News g' L' _ _ => N7
     refine callWith_F (q := f) ⟨_, _, _, _, (N7 _ (.tail _ (.head _))).1⟩ ?_
     k_steps
     refine Blk.out ?_
     with_unfolding_all refine' fun_call (R := fun v' nw' => J (i + 1) v' (nw' ++ nw)) ?k1 ?k2 ?k3 (N7) ?k5 ?kK ?kd ?ku ?kc ?_
     case k1 => k_asm
     case k2 => k_asm
     case k3 => k_asm
     case k5 => k_asm
     case kK => exact rfl
     case kd => first | ktr_room | decide
     case ku => first | ktr_units | decide
     case kc => exact turn i v x nw _ hxi hJ fun p hp => .tail _ (.tail _ hp)
     intro v2 nw2 h8 tk8 hJ2 F8 N8 hd8
     clear F7 N7
     dsimp only at F8 N8 ⊢
     k_steps
     rename Fr g' L' _ _ => F9
     rename News g' L' _ _ => N9
     have hx9 : ∀ q ∈ led, q ∈ (I, oI) :: (f, (⟨ocv, od1, .func fd, sl1⟩ : Obj)) :: (nw ++ led) := fun q hq => .tail _ (.tail _ (List.mem_append_right _ hq))
     refine ⟨_, _, _, _, rfl, F9, news_sub ((I, oI) :: (f, (⟨ocv, od1, .func fd, sl1⟩ : Obj)) :: ((nw2 ++ nw) ++ led)) N9 ?_, ?_, v2, nw2 ++ nw, some x, rfl, ?_, ?_, hJ2, ?_⟩
     · intro p hp
       rcases List.mem_cons.mp hp with rfl | hp
       · exact List.mem_append_right _ (.head _)
       rcases List.mem_cons.mp hp with rfl | hp
       · exact List.mem_append_right _ (.tail _ (.head _))
       rw [List.append_assoc] at hp
       rcases List.mem_append.mp hp with hp | hp
       · exact List.mem_append_left _ hp
       · exact List.mem_append_right _ (.tail _ (.tail _ hp))
     · intro p hp
       rcases List.mem_cons.mp hp with rfl | hp
       · exact hoff _ (.head _)
       rw [List.append_assoc] at hp
       rcases List.mem_append.mp hp with hp | hp
       · exact Ne.symm (hd8 p hp _ (.head _))
       · exact hoff _ (.tail _ hp)
     · intro p hp q hq
       rcases List.mem_append.mp hp with hp | hp
       · exact hd8 p hp q (hx9 q hq)
       · exact hnw p hp q hq
     · intro p hp
       rcases List.mem_append.mp hp with hp | hp
       · exact Ne.symm (hd8 p hp _ (.head _))
       · exact hnI p hp
     · funext y
       by_cases hy : y = Str.ofString "element"
       · subst hy; rfl
       · by_cases hy2 : y = Str.ofString "value"
         · subst hy2; rfl
         · simp only [if_neg hy, if_neg hy2]
           show kstB _ _ y = kstB _ _ y
           unfold kstB
           simp only [if_neg hy2]
   case done =>
     rintro m led' h tk ⟨v, nw, u, rfl, hnw, hnI, hJ, rfl⟩ F6 N6
     clear F5 N5
     dsimp only at F6 N6 ⊢
     k_steps
     rename News h₀ L _ _ => N7
     exact hret _ nw _ _ hJ (by assumption) (news_sub _ N7 fun p hp => .tail _ hp) hnw
end Mine
end
section
open PySem PySem.W PyProof.Rows
set_option Elab.async false
namespace Mine
/-- k is the first of the least among the first n -/
noncomputable def FMin (c : Nat → Int) (n k : Nat) : Prop := k < n ∧ ∀ j, j < n → Rr c k j ∨ j = k
theorem FMin.one (c : Nat → Int) : FMin c 1 0 := ⟨by lia  , fun j hj => Or.inr (by lia  )⟩
theorem FMin.next {c : Nat → Int} {i k : Nat} (h : FMin c i k) : FMin c (i + 1) (if c i < c k then i else k) := by
  obtain ⟨hk, ha⟩ := h
  by_cases hc : c i < c k
  · rw [if_pos hc]
    refine ⟨by lia  , fun j hj => ?_⟩
    by_cases e : j = i
    · exact Or.inr e
    · refine Or.inl (Or.inl ?_)
      rcases ha j (by lia  ) with (h | h) | h
      · lia  
      · lia  
      · subst h; exact hc
  · rw [if_neg hc]
    refine ⟨by lia  , fun j hj => ?_⟩
    by_cases e : j = i
    · subst e
      refine Or.inl ?_
      by_cases e2 : c k = c j
      · exact Or.inr ⟨e2, hk⟩
      · exact Or.inl (by lia  )
    · exact ha j (by lia  )
theorem FMin.uniq {c : Nat → Int} {n k k' : Nat} (h : FMin c n k) (h' : FMin c n k') : k = k' := by
  rcases h.2 k' h'.1 with a | a
  · rcases h'.2 k h.1 with b | b
    · exact (rr_irr a b).elim
    · exact b
  · exact a.symm
theorem due_mem (c : Nat → Int) {n j : Nat} (hj : j < n) : j ∈ dueN c n := nodup_all (asc_nodup (dueN_asc c n)) (dueN_lt c n) (dueN_len c n) hj
theorem due_first {c : Nat → Int} {n d0 : Nat} {dr : List Nat} (e : dueN c n = d0 :: dr) : FMin c n d0 := by
  have ha := dueN_asc c n
  rw [e] at ha
  refine ⟨dueN_lt c n d0 (by rw [e]; exact .head _), fun j hj => ?_⟩
  have hm := due_mem c hj
  rw [e] at hm
  rcases List.mem_cons.mp hm with h | h
  · exact Or.inr h
  · exact Or.inl ((List.pairwise_cons.mp ha).1 j h)
theorem due_last {c : Nat → Int} {n dl : Nat} {dr : List Nat} (e : dueN c n = dr ++ [dl]) : dl < n ∧ ∀ j, j < n → c j ≤ c dl := by
  have ha := dueN_asc c n
  rw [e] at ha
  refine ⟨dueN_lt c n dl (by rw [e]; simp), fun j hj => ?_⟩
  have hm := due_mem c hj
  rw [e] at hm
  rcases List.mem_append.mp hm with h | h
  · have := (List.pairwise_append.mp ha).2.2 j h dl (by simp)
    rcases this with h | h
    · lia  
    · lia  
  · rw [List.mem_singleton] at h
    subst h
    lia  
/-- the greatest of the first n, 0 at least -/
noncomputable def maxN (c : Nat → Int) : Nat → Int
  | 0 => 0
  | n + 1 => max (maxN c n) (c n)
theorem maxN_le {c : Nat → Int} {n : Nat} {v : Int} (h0 : 0 ≤ v) (h : ∀ j, j < n → c j ≤ v) : maxN c n ≤ v := by
  induction n with
  | zero => exact h0
  | succ n ih =>
    show max _ _ ≤ v
    have := ih fun j hj => h j (by lia  )
    have := h n (by lia  )
    lia  
theorem le_maxN {c : Nat → Int} {n : Nat} : ∀ j, j < n → c j ≤ maxN c n := by
  induction n with
  | zero => intro j hj; lia  
  | succ n ih =>
    intro j hj
    show _ ≤ max _ _
    by_cases e : j = n
    · subst e; lia  
    · have := ih j (by lia  )
      lia  
theorem maxN_due {c : Nat → Int} {n dl : Nat} {dr : List Nat} (hc : ∀ j, j < n → 0 ≤ c j) (e : dueN c n = dr ++ [dl]) : maxN c n = c dl := by
  obtain ⟨h1, h2⟩ := due_last e
  have := maxN_le (hc dl h1) h2
  have := le_maxN (c := c) dl h1
  lia  
/-- the sum of the first n -/
noncomputable def sumN (c : Nat → Int) : Nat → Int
  | 0 => 0
  | n + 1 => sumN c n + c n
theorem sumN_list (cs : List Int) : ∀ (r : List Int) (k : Nat), k + r.length = cs.length → cs.drop k = r → sumN (fun j => cs.getD j 0) k + r.sum = sumN (fun j => cs.getD j 0) cs.length
  | [], k, h, _ => by
    have : k = cs.length := by simpa using h
    subst this; simp
  | a :: r, k, h, hd => by
    have hk : cs.getD k 0 = a := by
      have : (cs.drop k)[0]? = some a := by rw [hd]; rfl
      rw [List.getElem?_drop] at this
      simp only [Nat.add_zero] at this
      rw [List.getD, this]; rfl
    have ih := sumN_list cs r (k + 1) (by simp at h; lia  ) (by rw [← List.drop_drop, hd]; rfl)
    rw [← ih]
    show _ = (sumN _ k + cs.getD k 0) + _
    rw [hk, List.sum_cons]; lia  
theorem sumN_all (cs : List Int) : sumN (fun j => cs.getD j 0) cs.length = cs.sum := by
  have := sumN_list cs cs 0 (by lia  ) rfl
  rw [← this]
  simp only [sumN]
  lia  
end Mine
end
section
open PySem PySem.W PyProof.Rows
set_option Elab.async false
namespace Mine
noncomputable def prObj (n : Str) (c : Int) (tn tc : Tok) : Obj := W.listOf #[.str n tn, .int c tc] 0
local macro_rules | `(tactic| walk_at "eval Name") => nameBy
set_option maxRecDepth 100000 in
set_option maxHeartbeats 8000000 in
theorem lamA (w : World) (mean : ExcName → Option Value) (mg mb : Str → Option Value) {f c' B P : Addr} {news : List (Addr × Obj)} {qual : Str} {q1 q2 p1 p2 p3 p4 p5 p6 p7 p8 p9 p10 : Pos} {pm ctv : Value} {oc : Obj} {vsc : Array Value} {t : Tok} {n1 n2 : Str} {i1 i2 : Int} {t1 t2 t3 t4 : Tok}
  (hf : (f, kla_obj (Str.ofString "<lambda>") qual { posonlyargs := [], args := [{ arg := Str.ofString "best", annotation := none, pos := q1 }, { arg := Str.ofString "pair", annotation := none, pos := q2 }], vararg := none, kwonlyargs := [], kw_defaults := [], kwarg := none, defaults := [] }
    ((((Expr.Name (Str.ofString "pair") p1).Subscript (Expr.Constant (Const.int 1) 0 p2) p3).Compare [CmpOp.Lt] [(Expr.Name (Str.ofString "best") p4).Subscript (Expr.Constant (Const.int 1) 0 p5) p6] p7).IfExp (Expr.Name (Str.ofString "pair") p8) (Expr.Name (Str.ofString "best") p9) p10)
    { kind := ScopeKind.function, names := [(Str.ofString "best", NameKind.local), (Str.ofString "pair", NameKind.local)], isGenerator := false, isCoroutine := false } [] pm c' ctv) ∈ news)
  (hc : (c', oc) ∈ news) (d1 : oc.data = .fields vsc) (d2 : vsc[1]? = some (.str qual t)) (hB : (B, W.listOf #[.str n1 t1, .int i1 t2] 0) ∈ news) (hP : (P, W.listOf #[.str n2 t3, .int i2 t4] 0) ∈ news) :
  FunC w mean mg mb f news (.ref B) (.ref P) (fun v nw => nw = [] ∧ v = if i2 < i1 then .ref P else .ref B) := by
   unfold FunC
   have hx : PySem.Challenge.rw_mq0210_01 = PySem.Challenge.rw_mq0210_01 := rfl
   have hy : hd.heap_39 = hd.heap_39 := rfl
   revert hx hy
   k_fill
   intro hx hy
   clear hx hy
   w_on
   intro dp un gd cn cs' a ccd clo outer A₀ base h₀ L mm s Q E hB' F X N T hk hdp hun hret
   have N1 := news_put N hf (news_put N hc (news_put N hB (news_put N hP N)))
   refine wpAny_call ?_
   k_dflt (refine' kla_code (binds := [(Str.ofString "best", .ref B), (Str.ofString "pair", .ref P)]) ?k1 ?k2 ?k3 ?k4 ?k5 ?kA ?kF ?kK ?k6 ?k7 ?k8 ?k9 ?kB ?_ ?c2 ?c3 ?c4 ?c5; (case kA => exact rfl); (case kF => exact rfl); (case kK => assumption); (case k1 => k_asm); (case k2 => k_asm); (case k3 => k_asm); (case k4 => exact N1); (case k5 => k_asm); (case k6 => k_mem); (case k7 => exact codeRec_news (by k_asm) (by k_mem) (by assumption) (by assumption)); (case k8 => show dp < _; omega); (case k9 => exact rfl); (case c5 => decide); (case kB => exact locs rfl); (case c2 => exact rfl); (case c3 => exact rfl); (case c4 => exact rfl); k_whole; intro g' L' h' FG' F' N' B' X' T'; (try dsimp only); (try k_lift B'); (try k_fold))
   k_steps
   all_goals (refine hret _ [] _ _ ⟨rfl, ?_⟩ (by assumption) (cb_drop (by assumption) fun _ h => .tail _ (.tail _ (.tail _ (.tail _ h)))) (by simp))
   · exact (if_pos (by simp_all)).symm
   · exact (if_neg (by simp_all)).symm
set_option maxRecDepth 100000 in
set_option maxHeartbeats 8000000 in
theorem lamC (w : World) (mean : ExcName → Option Value) (mg mb : Str → Option Value) {f c' P : Addr} {news : List (Addr × Obj)} {qual : Str} {q1 q2 p1 p2 p3 p4 p5 p6 : Pos} {pm ctv : Value} {oc : Obj} {vsc : Array Value} {t : Tok} {n2 : Str} {i1 i2 : Int} {t1 t3 t4 : Tok}
  (hf : (f, kla_obj (Str.ofString "<lambda>") qual { posonlyargs := [], args := [{ arg := Str.ofString "one", annotation := none, pos := q1 }, { arg := Str.ofString "pair", annotation := none, pos := q2 }], vararg := none, kwonlyargs := [], kw_defaults := [], kwarg := none, defaults := [] }
    ((Expr.Name (Str.ofString "max") p1).Call [Expr.Name (Str.ofString "one") p2, (Expr.Name (Str.ofString "pair") p3).Subscript (Expr.Constant (Const.int 1) 0 p4) p5] [] p6)
    { kind := ScopeKind.function, names := [(Str.ofString "one", NameKind.local), (Str.ofString "pair", NameKind.local), (Str.ofString "max", NameKind.globalImplicit)], isGenerator := false, isCoroutine := false } [] pm c' ctv) ∈ news)
  (hc : (c', oc) ∈ news) (d1 : oc.data = .fields vsc) (d2 : vsc[1]? = some (.str qual t)) (hP : (P, W.listOf #[.str n2 t3, .int i2 t4] 0) ∈ news) :
  FunC w mean mg mb f news (.int i1 t1) (.ref P) (fun v nw => nw = [] ∧ ∃ t, v = .int (max i1 i2) t) := by
   unfold FunC
   have hx : PySem.Challenge.rw_mq0210_01 = PySem.Challenge.rw_mq0210_01 := rfl
   have hy : hd.heap_39 = hd.heap_39 := rfl
   revert hx hy
   k_fill
   intro hx hy
   clear hx hy
   w_on
   intro dp un gd cn cs' a ccd clo outer A₀ base h₀ L mm s Q E hB' F X N T hk hdp hun hret
   have N1 := news_put N hf (news_put N hc (news_put N hP N))
   refine wpAny_call ?_
   k_dflt (refine' kla_code (binds := [(Str.ofString "one", (.int i1 t1)), (Str.ofString "pair", (.ref P))]) ?k1 ?k2 ?k3 ?k4 ?k5 ?kA ?kF ?kK ?k6 ?k7 ?k8 ?k9 ?kB ?_ ?c2 ?c3 ?c4 ?c5; (case kA => exact rfl); (case kF => exact rfl); (case kK => assumption); (case k1 => k_asm); (case k2 => k_asm); (case k3 => k_asm); (case k4 => exact N1); (case k5 => k_asm); (case k6 => k_mem); (case k7 => exact codeRec_news (by k_asm) (by k_mem) (by assumption) (by assumption)); (case k8 => show dp < _; omega); (case k9 => exact rfl); (case c5 => decide); (case kB => exact locs rfl); (case c2 => exact rfl); (case c3 => exact rfl); (case c4 => exact rfl); k_whole; intro g' L' h' FG' F' N' B' X' T'; (try dsimp only); (try k_lift B'); (try k_fold))
   k_steps
   have e : (if i2 > i1 then i2 else i1) = max i1 i2 := by split <;> omega
   refine hret _ [] _ _ ⟨rfl, _, by rw [e]⟩ (by assumption) (cb_drop (by assumption) fun _ h => .tail _ (.tail _ (.tail _ h))) (by simp)
set_option maxRecDepth 100000 in
set_option maxHeartbeats 8000000 in
theorem lamD (w : World) (mean : ExcName → Option Value) (mg mb : Str → Option Value) {f c' P : Addr} {news : List (Addr × Obj)} {qual : Str} {q1 q2 p1 p3 p4 p5 p6 : Pos} {pm ctv : Value} {oc : Obj} {vsc : Array Value} {t : Tok} {n2 : Str} {i1 i2 : Int} {t1 t3 t4 : Tok}
  (hf : (f, kla_obj (Str.ofString "<lambda>") qual { posonlyargs := [], args := [{ arg := Str.ofString "total", annotation := none, pos := q1 }, { arg := Str.ofString "pair", annotation := none, pos := q2 }], vararg := none, kwonlyargs := [], kw_defaults := [], kwarg := none, defaults := [] }
    ((Expr.Name (Str.ofString "total") p1).BinOp Operator.Add ((Expr.Name (Str.ofString "pair") p3).Subscript (Expr.Constant (Const.int 1) 0 p4) p5) p6)
    { kind := ScopeKind.function, names := [(Str.ofString "total", NameKind.local), (Str.ofString "pair", NameKind.local)], isGenerator := false, isCoroutine := false } [] pm c' ctv) ∈ news)
  (hc : (c', oc) ∈ news) (d1 : oc.data = .fields vsc) (d2 : vsc[1]? = some (.str qual t)) (hP : (P, W.listOf #[.str n2 t3, .int i2 t4] 0) ∈ news) :
  FunC w mean mg mb f news (.int i1 t1) (.ref P) (fun v nw => nw = [] ∧ ∃ t, v = .int (i1 + i2) t) := by
   unfold FunC
   have hx : PySem.Challenge.rw_mq0210_01 = PySem.Challenge.rw_mq0210_01 := rfl
   have hy : hd.heap_39 = hd.heap_39 := rfl
   revert hx hy
   k_fill
   intro hx hy
   clear hx hy
   w_on
   intro dp un gd cn cs' a ccd clo outer A₀ base h₀ L mm s Q E hB' F X N T hk hdp hun hret
   have N1 := news_put N hf (news_put N hc (news_put N hP N))
   refine wpAny_call ?_
   k_dflt (refine' kla_code (binds := [(Str.ofString "total", (.int i1 t1)), (Str.ofString "pair", (.ref P))]) ?k1 ?k2 ?k3 ?k4 ?k5 ?kA ?kF ?kK ?k6 ?k7 ?k8 ?k9 ?kB ?_ ?c2 ?c3 ?c4 ?c5; (case kA => exact rfl); (case kF => exact rfl); (case kK => assumption); (case k1 => k_asm); (case k2 => k_asm); (case k3 => k_asm); (case k4 => exact N1); (case k5 => k_asm); (case k6 => k_mem); (case k7 => exact codeRec_news (by k_asm) (by k_mem) (by assumption) (by assumption)); (case k8 => show dp < _; omega); (case k9 => exact rfl); (case c5 => decide); (case kB => exact locs rfl); (case c2 => exact rfl); (case c3 => exact rfl); (case c4 => exact rfl); k_whole; intro g' L' h' FG' F' N' B' X' T'; (try dsimp only); (try k_lift B'); (try k_fold))
   k_steps
   refine hret _ [] _ _ ⟨rfl, _, rfl⟩ (by assumption) (cb_drop (by assumption) fun _ h => .tail _ (.tail _ (.tail _ h))) (by simp)
end Mine
end
section
open PySem PySem.W PyProof.Rows
set_option Elab.async false
namespace Mine
local macro_rules | `(tactic| walk_at "no such key 0") => `(tactic| skip)
/-- what _law_nearer hands back: a new pair if it is nearer, else the best so far -/
noncomputable def NearR (x y : Str) (m : Int) (ty : Tok) (B : Addr) (v : Value) (nw : List (Addr × Obj)) : Prop :=
  (levL sub2 (cl x) (cl y) (m - 1) < m ∧ ∃ S t, nw = [(S, W.listOf #[.str y ty, .int (levL sub2 (cl x) (cl y) (m - 1)) t] 0)] ∧ v = .ref S) ∨ (¬ levL sub2 (cl x) (cl y) (m - 1) < m ∧ nw = [] ∧ v = .ref B)
theorem allLt_mem {d : Addr} : ∀ {l : List (Addr × Obj)}, AllLt d l → ∀ p ∈ l, @LT.lt Nat _ p.1 d
  | [], _, _, h => nomatch h
  | _ :: _, h, p, hp => by
    rcases List.mem_cons.mp hp with rfl | hp
    · exact h.1
    · exact allLt_mem h.2 p hp
local macro_rules | `(tactic| walk_at "call ref cons nil") => callBy (Lean.mkIdent `Mine.lev_call)
set_option maxRecDepth 100000 in
set_option maxHeartbeats 8000000 in
theorem nearer_call (w : World) (mean : ExcName → Option Value) (mg mb : Str → Option Value) {B : Addr} {bv : Value} {news : List (Addr × Obj)} {x y : Str} {tx ty t2 : Tok} {mm : Int}
   (dp un : Nat) (gd : Option (List Code)) (cn : Str) (cs : Scope) (a : Addr) (ccd : Value) (clo : List (Str × Addr)) (outer : List Env) (A₀ : Around) (base h₀ : Heap) (L : Addr) (m : Str → Option Value) (s : Shared) (Q E : Value → Shared → Prop)
   (hB' : Below A₀ base outer h₀) (F : Fr h₀ L s.heap m) (X : (hd.heap_39 w.params).In h₀) (N : News h₀ L s.heap ((B, W.listOf #[bv, .int mm t2] 0) :: news)) (T : Top topProg LOO mean mg mb h₀) (hk : cs.kind = .function) (hdp : dp + 22 < recursionLimit) (hun : un + 110 < cLine) (hx3 : x.length ≤ 3) (hy3 : y.length ≤ 3)
   (hret : ∀ (v : Value) (nw : List (Addr × Obj)) (h' : Heap) (tk' : Nat), NearR x y mm ty B v nw → Fr h₀ L h' m → News h₀ L h' (nw ++ (B, W.listOf #[bv, .int mm t2] 0) :: news) → (∀ p ∈ nw, ∀ q ∈ news, Dif q.1 p.1) → Q v { s with heap := h', toks := tk' }) :
   wpAny (model PySem.Challenge.rw_mq0210_01.row.prog w) (ktrTop dp un gd cn cs L a ccd clo outer) (call (.ref 68) [.str x tx, .ref B, .str y ty]) Q E s := by
   have hx : PySem.Challenge.rw_mq0210_01 = PySem.Challenge.rw_mq0210_01 := rfl
   have hy : hd.heap_39 = hd.heap_39 := rfl
   revert hx hy
   k_fill
   intro hx hy
   clear hx hy
   w_on
   refine wpAny_call ?_
   k_dflt cell_enter
   k_steps
   · rename (_ ∧ AllLt _ _) => l9
     refine hret _ [(_, W.listOf #[.str y ty, .int (levL sub2 (cl x) (cl y) (mm - 1)) _] 0)] _ _ (Or.inl ⟨by assumption, _, _, rfl, rfl⟩) (by assumption) (by assumption) ?_
     intro p hp q hq
     rw [List.mem_singleton] at hp
     subst hp
     exact Nat.ne_of_lt (allLt_mem l9.2 q hq)
   · exact hret _ [] _ _ (Or.inr ⟨by assumption, rfl, rfl⟩) (by assumption) (by assumption) (by simp)
end Mine
end
section
open PySem PySem.W PyProof.Rows
set_option Elab.async false
namespace Mine
local macro_rules | `(tactic| walk_at "no such key 0") => `(tactic| skip)
local macro_rules | `(tactic| walk_at "eval Name") => nameBy
local macro_rules | `(tactic| walk_at "call ref") => `(tactic| refine Blk.mk ?_)
set_option maxRecDepth 100000 in
set_option maxHeartbeats 8000000 in
theorem lamB (w : World) (mean : ExcName → Option Value) (mg mb : Str → Option Value) {f c' ca B : Addr} {news : List (Addr × Obj)} {qual : Str} {q1 q2 p1 p2 p3 p4 p5 : Pos} {pm ctv bv : Value} {oc oca : Obj} {vsc : Array Value} {t : Tok} {x y : Str} {mm : Int} {tx ty t2 : Tok}
  (hf : (f, kla_obj (Str.ofString "<lambda>") qual { posonlyargs := [], args := [{ arg := Str.ofString "best", annotation := none, pos := q1 }, { arg := Str.ofString "name", annotation := none, pos := q2 }], vararg := none, kwonlyargs := [], kw_defaults := [], kwarg := none, defaults := [] }
    ((Expr.Name (Str.ofString "_law_nearer") p1).Call [Expr.Name (Str.ofString "wrong") p2, Expr.Name (Str.ofString "best") p3, Expr.Name (Str.ofString "name") p4] [] p5)
    { kind := ScopeKind.function, names := [(Str.ofString "best", NameKind.local), (Str.ofString "name", NameKind.local), (Str.ofString "wrong", NameKind.free), (Str.ofString "_law_nearer", NameKind.globalImplicit)], isGenerator := false, isCoroutine := false } [(Str.ofString "wrong", ca)] pm c' ctv) ∈ news)
  (hc : (c', oc) ∈ news) (d1 : oc.data = .fields vsc) (d2 : vsc[1]? = some (.str qual t)) (hca : (ca, oca) ∈ news) (hoca : oca.data = .cell (some (.str x tx))) (hB : (B, W.listOf #[bv, .int mm t2] 0) ∈ news) (hx3 : x.length ≤ 3) (hy3 : y.length ≤ 3) :
  FunC w mean mg mb f news (.ref B) (.str y ty) (NearR x y mm ty B) := by
   unfold FunC
   have hx : PySem.Challenge.rw_mq0210_01 = PySem.Challenge.rw_mq0210_01 := rfl
   have hy : hd.heap_39 = hd.heap_39 := rfl
   revert hx hy
   k_fill
   intro hx hy
   clear hx hy
   w_on
   intro dp un gd cn cs' a ccd clo outer A₀ base h₀ L mm' s Q E hB' F X N T hk hdp hun hret
   have N1 := news_put N hB (news_put N hf (news_put N hc (news_put N hca N)))
   refine wpAny_call ?_
   k_dflt (refine' kla_code (binds := [(Str.ofString "best", (.ref B)), (Str.ofString "name", (.str y ty))]) ?k1 ?k2 ?k3 ?k4 ?k5 ?kA ?kF ?kK ?k6 ?k7 ?k8 ?k9 ?kB ?_ ?c2 ?c3 ?c4 ?c5; (case kA => exact rfl); (case kF => exact rfl); (case kK => assumption); (case k1 => k_asm); (case k2 => k_asm); (case k3 => k_asm); (case k4 => exact N1); (case k5 => k_asm); (case k6 => k_mem); (case k7 => exact codeRec_news (by k_asm) (by k_mem) (by assumption) (by assumption)); (case k8 => show dp < _; omega); (case k9 => exact rfl); (case c5 => decide); (case kB => exact locs rfl); (case c2 => exact rfl); (case c3 => exact rfl); (case c4 => exact rfl); k_whole; intro g' L' h' FG' F' N' B' X' T'; (try dsimp only); (try k_lift B'); (try k_fold))
   k_steps
   refine Blk.out ?_
   rename Fr g' L' _ _ => F2
   rename News g' L' _ _ => N2
   with_unfolding_all refine' nearer_call _ _ _ _ _ _ _ _ _ _ _ _ _ _ _ _ _ _ _ _ _ ?k1 F2 ?k3 N2 ?k5 ?kK ?kd ?ku hx3 hy3 ?_
   case k1 => k_asm
   case k3 => k_asm
   case k5 => k_asm
   case kK => exact rfl
   case kd => first | ktr_room | decide | omega
   case ku => first | ktr_units | decide | omega
   intro v nw h3 tk3 hR F3 N3 hd3
   dsimp only at F3 N3 ⊢
   k_steps
   rename News h₀ L _ _ => N4
   refine hret v nw _ _ hR (by assumption) (news_sub _ N4 ?_) fun p hp q hq => hd3 p hp q (.tail _ (.tail _ (.tail _ hq)))
   intro p hp
   rcases List.mem_append.mp hp with hp | hp
   · exact List.mem_append_left _ hp
   · exact List.mem_append_right _ (.tail _ (.tail _ (.tail _ (.tail _ hp))))
end Mine
end
section
open PySem PySem.W PyProof.Rows
set_option Elab.async false
namespace Mine
section
variable {w : World} {mean : ExcName → Option Value} {mg mb : Str → Option Value} {f l e : Nat} {v₀ : Value} {vs : List Value} {led : List (Addr × Obj)} {dp un : Nat} {gd : Option (List Code)} {cn : Str} {cs : Scope} {a : Addr} {ccd : Value} {clo : List (Str × Addr)} {outer : List Env} {A₀ : Around} {base h₀ : Heap} {L : Addr} {mm : Str → Option Value} {s : Shared} {Q E : Value → Shared → Prop} {ocv : Value} {od1 : Option Addr} {fd : FuncData} {sl1 : Array (Option Value)}
theorem red_call (J : Nat → Value → List (Addr × Obj) → Prop)
   (hB : Below A₀ base outer h₀) (F : Fr h₀ L s.heap mm) (X : (hd.heap_39 w.params).In h₀) (N : News h₀ L s.heap led) (T : Top topProg LOO mean mg mb h₀) (hk : cs.kind = .function) (hdp : dp + 30 < recursionLimit) (hun : un + 150 < cLine)
   (hf : (f, (⟨ocv, od1, .func fd, sl1⟩ : Obj)) ∈ led) (hl : (l, W.listOf vs.toArray e) ∈ led) (hv0 : NotMiss w led v₀) (h0 : J 0 v₀ []) (h64 : vs.length ≤ 64)
   (turn : ∀ i v x nw all, vs[i]? = some x → J i v nw → (∀ p ∈ nw ++ led, p ∈ all) → FunC w mean mg mb f all v x fun v' nw' => J (i + 1) v' (nw' ++ nw))
   (hret : ∀ (v : Value) (nw : List (Addr × Obj)) (h' : Heap) (tk' : Nat), J vs.length v nw → Fr h₀ L h' mm → News h₀ L h' (nw ++ led) → (∀ p ∈ nw, ∀ q ∈ led, Dif q.1 p.1) → Q v { s with heap := h', toks := tk' }) :
   wpAny (model PySem.Challenge.rw_mq0210_01.row.prog w) (ktrTop dp un gd cn cs L a ccd clo outer) (call (.ref 44) [.ref f, .ref l, v₀]) Q E s :=
  red_claim w mean mg mb J dp un gd cn cs a ccd clo outer A₀ base h₀ L mm s Q E hB F X N T hk hdp hun hv0 h0 hf hl h64 turn hret
theorem red2_call (J : Nat → Value → List (Addr × Obj) → Prop)
   (hB : Below A₀ base outer h₀) (F : Fr h₀ L s.heap mm) (X : (hd.heap_39 w.params).In h₀) (N : News h₀ L s.heap led) (T : Top topProg LOO mean mg mb h₀) (hk : cs.kind = .function) (hdp : dp + 30 < recursionLimit) (hun : un + 150 < cLine)
   (hf : (f, (⟨ocv, od1, .func fd, sl1⟩ : Obj)) ∈ led) (hl : (l, W.listOf vs.toArray e) ∈ led) (hv0 : vs[0]? = some v₀) (h0 : J 1 v₀ []) (h64 : vs.length ≤ 64)
   (turn : ∀ i v x nw all, vs[i]? = some x → J i v nw → (∀ p ∈ nw ++ led, p ∈ all) → FunC w mean mg mb f all v x fun v' nw' => J (i + 1) v' (nw' ++ nw))
   (hret : ∀ (v : Value) (nw : List (Addr × Obj)) (h' : Heap) (tk' : Nat), J vs.length v nw → Fr h₀ L h' mm → News h₀ L h' (nw ++ led) → (∀ p ∈ nw, ∀ q ∈ led, Dif q.1 p.1) → Q v { s with heap := h', toks := tk' }) :
   wpAny (model PySem.Challenge.rw_mq0210_01.row.prog w) (ktrTop dp un gd cn cs L a ccd clo outer) (call (.ref 44) [.ref f, .ref l]) Q E s :=
  red2_claim w mean mg mb J dp un gd cn cs a ccd clo outer A₀ base h₀ L mm s Q E hB F X N T hk hdp hun hv0 h0 hf hl h64 turn hret
end
end Mine
end
section
open PySem PySem.W PyProof.Rows PyProof.V PySem.Spec
set_option Elab.async false
namespace Mine
theorem ok40 : ∀ l ∈ N40, PyData.strOk ⟨l.toArray⟩ = true := by decide +kernel
theorem str_ok {x : Str} (h : cl x ∈ N40) : PyData.strOk x = true := by
  have := ok40 _ h
  simpa [cl] using this
theorem ne_pair {prog : Program} {w : World} {A : Around} {E : Value → Shared → Prop} {s : Shared} {Q : Value → Shared → Prop} {h₀ : Heap} {L P R : Addr} {news : List (Addr × Obj)} {x : Str} {i : Int} {t1 t2 t3 t4 : Tok} (N : News h₀ L s.heap news)
    (h1 : (P, W.listOf #[.str x t1, .int i t2] 0) ∈ news) (h2 : (R, W.listOf #[.str x t3, .int i t4] 0) ∈ news) (hx : PyData.strOk x = true) (hu : A.units + 64 < cLine) (h : Q (.bool false) s) :
    wpAny (model prog w) A (compareOp .NotEq (.ref P) (.ref R)) Q E s := by
  have sh : SeqAt.shaped (PyData.list [PyData.str x, PyData.int i]) = true := by simp [SeqAt.shaped, PyData.canLay0, PyData.canLayAll0, PyData.depth, PyData.depthAll, hx]
  refine ne_dataH (reads_list_at (News.get N h1) rfl rfl (ReadsAll.cons (Reads.str _ _) (ReadsAll.cons (Reads.int _ _) ReadsAll.nil))) (reads_list_at (News.get N h2) rfl rfl (ReadsAll.cons (Reads.str _ _) (ReadsAll.cons (Reads.int _ _) ReadsAll.nil))) sh sh hu ?_
  have e : PyData.eqv (.list [.str x, .int i]) (.list [.str x, .int i]) = true := by simp [PyData.eqv, PyData.eqvAll]
  rw [e]
  exact h
end Mine
end
section
open PySem PySem.W PyProof.Rows
set_option Elab.async false
namespace Mine
/-- the best so far by _law_nearer: the start, or the first of the nearest -/
noncomputable def JB (xr : List Str) (cs : List Int) (S : Addr) (oS : Obj) (i : Nat) (v : Value) (nw : List (Addr × Obj)) : Prop :=
  ∃ B bv m tm, v = .ref B ∧ (B, W.listOf #[bv, .int m tm] 0) ∈ nw ++ [(S, oS)] ∧ ((i = 0 ∧ m = 99) ∨ ∃ k tb, FMin (fun j => cs.getD j 0) i k ∧ bv = .str (xr.getD k ⟨#[]⟩) tb ∧ m = cs.getD k 0)
theorem near_step {xr : List Str} {cs : List Int} {x0 : Str} {S : Addr} {oS : Obj} {i B : Nat} {m : Int} {tm ty : Tok} {bv : Value} {nw : List (Addr × Obj)} (hcs : cs = xr.map (cst x0)) (hx4 : cl x0 ∈ N40) (hxr4 : ∀ y ∈ xr, cl y ∈ N40) (hi : i < xr.length)
    (hB : (B, W.listOf #[bv, .int m tm] 0) ∈ nw ++ [(S, oS)]) (h : (i = 0 ∧ m = 99) ∨ ∃ k tb, FMin (fun j => cs.getD j 0) i k ∧ bv = .str (xr.getD k ⟨#[]⟩) tb ∧ m = cs.getD k 0) :
    ∀ v nw', NearR x0 (xr.getD i ⟨#[]⟩) m ty B v nw' → JB xr cs S oS (i + 1) v (nw' ++ nw) := by
  have at_ : ∀ k, k < xr.length → cs.getD k 0 = cst x0 (xr.getD k ⟨#[]⟩) ∧ cl (xr.getD k ⟨#[]⟩) ∈ N40 := by
    intro k hk
    have e : xr.getD k ⟨#[]⟩ = xr[k] := by rw [List.getD, List.getElem?_eq_getElem hk]; rfl
    rw [e]
    refine ⟨?_, hxr4 _ (List.getElem_mem hk)⟩
    subst hcs
    rw [List.getD, List.getElem?_map, List.getElem?_eq_getElem hk]; rfl
  obtain ⟨ei, ni⟩ := at_ i hi
  obtain ⟨_, _, lo, hi6, hm⟩ := pair_ok hx4 ni
  rw [← ei] at lo hi6 hm
  have hm1 : m - 1 ∈ ([-1, 0, 1, 2, 3, 4, 5, 98] : List Int) := by
    rcases h with ⟨_, rfl⟩ | ⟨k, tb, hk, _, rfl⟩
    · decide
    · obtain ⟨ek, nk⟩ := at_ k (by have := hk.1; omega)
      obtain ⟨_, _, lo, hi6, _⟩ := pair_ok hx4 nk
      rw [← ek] at lo hi6
      have key : ∀ n : Nat, n ≤ 6 → ((n : Int) - 1) ∈ ([-1, 0, 1, 2, 3, 4, 5, 98] : List Int) := by decide
      obtain ⟨n, hn⟩ : ∃ n : Nat, cs.getD k 0 = (n : Int) := ⟨(cs.getD k 0).toNat, by lia⟩
      rw [hn]
      exact key n (by lia)
  obtain ⟨h1, h2⟩ := hm (m - 1) hm1
  rw [Int.sub_add_cancel] at h1 h2
  rintro v nw' (⟨hlt, S', t, rfl, rfl⟩ | ⟨hge, rfl, rfl⟩)
  · have hlt2 := h1.mp hlt
    have hv := h2 hlt2
    rw [hv]
    refine ⟨S', _, _, t, rfl, .head _, Or.inr ⟨i, ty, ?_, rfl, rfl⟩⟩
    rcases h with ⟨rfl, _⟩ | ⟨k, tb, hk, _, rfl⟩
    · exact FMin.one _
    · have := hk.next
      rwa [if_pos hlt2] at this
  · have hge2 : ¬ cs.getD i 0 < m := fun q => hge (h1.mpr q)
    refine ⟨B, bv, m, tm, rfl, hB, Or.inr ?_⟩
    rcases h with ⟨rfl, rfl⟩ | ⟨k, tb, hk, e, rfl⟩
    · omega
    · refine ⟨k, tb, ?_, e, rfl⟩
      have := hk.next
      rwa [if_neg hge2] at this
end Mine
end
section
open PySem PySem.W PyProof.Rows
set_option Elab.async false
namespace Mine
theorem last_at {k dl : Nat} {dr dr2 : List Nat} (e : k :: dr = dr2 ++ [dl]) :
    ((k : Int) :: dr.map (fun (j : Nat) => (j : Int))).getD (-1 + (((k : Int) :: dr.map (fun (j : Nat) => (j : Int))).length : Nat) : Int).toNat 0 = (dl : Int) := by
  have h : (k : Int) :: dr.map (fun (j : Nat) => (j : Int)) = dr2.map (fun (j : Nat) => (j : Int)) ++ [(dl : Int)] := by
    have := congrArg (List.map fun (j : Nat) => (j : Int)) e
    simpa using this
  rw [h]
  have h2 : (-1 + ((dr2.map (fun (j : Nat) => (j : Int)) ++ [(dl : Int)]).length : Nat) : Int).toNat = dr2.length := by
    rw [List.length_append, List.length_map, List.length_singleton]; omega
  rw [h2, List.getD, List.getElem?_append_right (by simp)]
  simp
theorem cs_pos {xr : List Str} {cs : List Int} {x0 : Str} (hcs : cs = xr.map (cst x0)) (hx4 : cl x0 ∈ N40) (hxr4 : ∀ y ∈ xr, cl y ∈ N40) (j : Nat) (hj : j < xr.length) : 0 ≤ cs.getD j 0 := by
  subst hcs
  have e : (xr.map (cst x0)).getD j 0 = cst x0 xr[j] := by rw [List.getD, List.getElem?_map, List.getElem?_eq_getElem hj]; rfl
  rw [e]
  exact (pair_ok hx4 (hxr4 _ (List.getElem_mem hj))).2.2.1
end Mine
end
section
open PySem PySem.W PyProof.Rows
set_option Elab.async false
namespace Mine
noncomputable def DoneL (h₀ : Heap) (L : Addr) (s : Shared) (fl : Flow) (s' : Shared) : Prop :=
  fl = .ret (.bool true) ∧ ∃ h' tk m' nw ps ps', s' = { s with heap := h', toks := tk } ∧ Fr h₀ L h' m' ∧ News h₀ L h' (nw ++ [(30, tabObj ps), (70, tabObj ps')])
theorem cell_none {o : Obj} {x : Option Value} (h : o.data = .cell x) (e : x = none) : o.data = .cell none := e ▸ h
theorem done_mono {M : Model} {A : Around} {x : Sem Flow} {Q : Flow → Shared → Prop} {E : Value → Shared → Prop} {s : Shared} {h₀ : Heap} {L : Addr} {m : Str → Option Value} (_F : Fr h₀ L s.heap m) (hb : wpAny M A x (DoneL h₀ L s) (fun _ _ => False) s)
    (hp : ∀ h' tk m' nw ps ps', Fr h₀ L h' m' → News h₀ L h' (nw ++ [(30, tabObj ps), (70, tabObj ps')]) → Q (.ret (.bool true)) { s with heap := h', toks := tk }) : wpAny M A x Q E s :=
  wpAny_mono hb (fun fl s' hd => by obtain ⟨rfl, h', tk, m', nw, ps, ps', rfl, F, N⟩ := hd; exact hp h' tk m' nw ps ps' F N) fun _ _ z => z.elim
theorem str_get {vr : List Value} {xr : List Str} (h : StrsAre vr xr) {k : Nat} (hk : k < xr.length) : ∃ t, vr[k]? = some (.str (xr.getD k ⟨#[]⟩) t) := by
  have hl := StrsAre.length h
  have h2 : k < vr.length := by lia  
  obtain ⟨_, t, e⟩ := str_at h k vr[k] (List.getElem?_eq_getElem h2)
  exact ⟨t, by rw [← e]; exact List.getElem?_eq_getElem h2⟩
theorem int_get : ∀ {zs : List Value} {cs : List Int}, IntsAre zs cs → ∀ {k : Nat}, k < cs.length → ∃ t, zs[k]? = some (.int (cs.getD k 0) t)
  | _, _, .nil, k, h => by simp at h
  | _, _, .cons _ t _, 0, _ => ⟨t, rfl⟩
  | _, _, .cons _ _ r, k + 1, h => by
    obtain ⟨t, e⟩ := int_get r (k := k) (by simp at h; lia  )
    exact ⟨t, by simpa using e⟩
theorem off_new {I C D P : Addr} {o : Obj} {news : List (Addr × Obj)} (off : LCg.Off3 I C D news) (h1 : @LT.lt Nat _ I P) (h2 : @LT.lt Nat _ C P) (h3 : @LT.lt Nat _ D P) : ∀ p, p = (P, o) ∨ p ∈ news → p.1 ≠ I ∧ p.1 ≠ C ∧ p.1 ≠ D := by
  rintro p (rfl | hp)
  · exact ⟨Nat.ne_of_gt h1, Nat.ne_of_gt h2, Nat.ne_of_gt h3⟩
  · exact off.mem p hp
/-- the places of pl hold the pairs that ys points to -/
noncomputable def PairsAt (xr : List Str) (cs : List Int) (ys : List Value) (pl : List (Addr × Obj)) : Prop :=
  ∀ j, j < ys.length → ∃ P tn tt, ys[j]? = some (.ref P) ∧ (P, W.listOf #[.str (xr.getD j ⟨#[]⟩) tn, .int (cs.getD j 0) tt] 0) ∈ pl
theorem pairs_snoc {xr : List Str} {cs : List Int} {ys : List Value} {pl : List (Addr × Obj)} {i P : Nat} {tn tt : Tok} (hl : ys.length = i) (h : PairsAt xr cs ys pl) :
    PairsAt xr cs (ys ++ [.ref P]) ((P, W.listOf #[.str (xr.getD i ⟨#[]⟩) tn, .int (cs.getD i 0) tt] 0) :: pl) := by
  intro j hj
  rw [List.length_append, List.length_singleton] at hj
  by_cases e : j = i
  · subst e
    exact ⟨P, tn, tt, by rw [List.getElem?_append_right (by lia  )]; simp [hl], .head _⟩
  · obtain ⟨P', tn', tt', h1, h2⟩ := h j (by lia  )
    exact ⟨P', tn', tt', by rw [List.getElem?_append_left (by lia  )]; exact h1, .tail _ h2⟩
theorem rot_cons {α : Type} {a P : α} {l l' : List α} (h : ∀ p ∈ l', p ∈ P :: l) : ∀ p ∈ a :: l', p ∈ P :: a :: l := by
  intro p hp
  rcases List.mem_cons.mp hp with rfl | hp
  · exact .tail _ (.head _)
  · rcases List.mem_cons.mp (h p hp) with rfl | hp
    · exact .head _
    · exact .tail _ (.tail _ hp)
/-- the first of the nearest among the first i pairs -/
noncomputable def JA (xr : List Str) (cs : List Int) (ys : List Value) (pl : List (Addr × Obj)) (i : Nat) (v : Value) (nw : List (Addr × Obj)) : Prop :=
  nw = [] ∧ ∃ k P tn tt, FMin (fun j => cs.getD j 0) i k ∧ v = .ref P ∧ ys[k]? = some (.ref P) ∧ (P, W.listOf #[.str (xr.getD k ⟨#[]⟩) tn, .int (cs.getD k 0) tt] 0) ∈ pl
theorem FunC.mono {w : World} {mean : ExcName → Option Value} {mg mb : Str → Option Value} {f : Addr} {news : List (Addr × Obj)} {vx vy : Value} {R R' : Value → List (Addr × Obj) → Prop} (h : FunC w mean mg mb f news vx vy R) (hR : ∀ v nw, R v nw → R' v nw) : FunC w mean mg mb f news vx vy R' :=
  fun dp un gd cn cs a ccd cl outer A₀ base h₀ L m s Q E h1 h2 h3 h4 h5 h6 h7 h8 hret => h dp un gd cn cs a ccd cl outer A₀ base h₀ L m s Q E h1 h2 h3 h4 h5 h6 h7 h8 fun v nw h' tk' r => hret v nw h' tk' (hR v nw r)
theorem JA.step {xr : List Str} {cs : List Int} {ys : List Value} {pl : List (Addr × Obj)} {i k P P' : Nat} {tn tt tn' tt' : Tok} (hk : FMin (fun j => cs.getD j 0) i k) (hP : ys[k]? = some (.ref P)) (hm : (P, W.listOf #[.str (xr.getD k ⟨#[]⟩) tn, .int (cs.getD k 0) tt] 0) ∈ pl)
    (hP' : ys[i]? = some (.ref P')) (hm' : (P', W.listOf #[.str (xr.getD i ⟨#[]⟩) tn', .int (cs.getD i 0) tt'] 0) ∈ pl) :
    ∀ v nw, (nw = [] ∧ v = if cs.getD i 0 < cs.getD k 0 then .ref P' else .ref P) → JA xr cs ys pl (i + 1) v (nw ++ []) := by
  rintro v nw ⟨rfl, rfl⟩
  have hn := hk.next
  by_cases hc : cs.getD i 0 < cs.getD k 0
  · rw [if_pos hc] at hn ⊢
    exact ⟨rfl, i, P', tn', tt', hn, rfl, hP', hm'⟩
  · rw [if_neg hc] at hn ⊢
    exact ⟨rfl, k, P, tn, tt, hn, rfl, hP, hm⟩
theorem sub_mem {α : Type} {l' l : List α} (h : List.Sublist l' l) : ∀ q ∈ l', q ∈ l := fun _ hq => h.subset hq
theorem lt1 {a b : Nat} (h : a < b) : a < b + 1 := Nat.lt_succ_of_lt h
local macro_rules | `(tactic| k_all) => `(tactic| first | (with_reducible exact List.forall_mem_nil _) | (with_reducible assumption) | (refine List.forall_mem_cons.mpr ⟨by k_ne, ?_⟩; k_all))
local macro_rules | `(tactic| k_ne) => `(tactic| first | (refine Dif.ne ?_; with_reducible assumption) | (refine Dif.ne' ?_; with_reducible assumption) | (refine Nat.ne_of_lt ?_; (focus ((repeat (first | (with_reducible assumption) | (with_reducible exact Nat.lt_add_one _) | (with_reducible refine lt1 ?_))); done))) | (refine Nat.ne_of_gt ?_; (focus ((repeat (first | (with_reducible assumption) | (with_reducible exact Nat.lt_add_one _) | (with_reducible refine lt1 ?_))); done))))
local macro_rules | `(tactic| walk_at "execs cons") => stopAt 200
local macro_rules | `(tactic| walk_at "call ref cons nil") => marked 201 (callBy (Lean.mkIdent `Mine.name_call) false)
local macro_rules | `(tactic| walk_at "exec Assign cons ListComp") => stopAt 202
local macro_rules | `(tactic| walk_at "CompSrc") => stopAt 203
local macro_rules | `(tactic| walk_at "call ref cons nil") => marked 204 (callBy (Lean.mkIdent `Mine.cost_call))
local macro_rules | `(tactic| walk_at "eval ListComp") => stopAt 205
local macro_rules | `(tactic| walk_at "call ref cons nil") => marked 206 (callBy (Lean.mkIdent `Mine.lev_call))
local macro_rules | `(tactic| walk_at "exec For Name Call cons nil") => stopAt 207
local macro_rules | `(tactic| walk_at "call builtin:len") => marked 208 `(tactic| (k_here; (with_reducible show wpAny _ _ (call (Value.builtin _) [Value.ref _]) _ _ _); (refine PySem.Calls.call_len_list (News.isList (by k_asm) (by k_mem)) (by simp only [List.size_toArray]; lia  ) ?_); (try dsimp only)))
local macro_rules | `(tactic| walk_at "pyIter ref") => stopAt 209
local macro_rules | `(tactic| walk_at "CompSrcT") => stopAt 210
local macro_rules | `(tactic| walk_at "eval Lambda") => stopAt 211
local macro_rules | `(tactic| walk_at "call ref cons nil") => stopAt 212
local macro_rules | `(tactic| walk_at "call builtin:sorted") => stopAt 213
local macro_rules | `(tactic| walk_at "subscriptTail Name Subscript ref int") => stopAt 214
local macro_rules | `(tactic| walk_at "subscriptTail Name Name ref int") => stopAt 215
local macro_rules | `(tactic| walk_at "exec Assign") => stopAt 216
local macro_rules | `(tactic| walk_at "call ref") => stopAt 217
local macro_rules | `(tactic| walk_at "subscriptTail") => stopAt 218
set_option maxRecDepth 100000 in
set_option maxHeartbeats 8000000 in
theorem law0 : PySem.Challenge.rw_mq0210_01.Holds := hd (by
  k_go0
  (all_goals try k_fold)
  have mk200 : Mk 200 := trivial
  k_steps
  refine Blk.out ?_
  rename Fr _ _ _ _ => F1
  have F2 := fr_to F1 (m' := kstB (fun _ => none) [(Str.ofString "script", _)]) (by funext z; with_unfolding_all rfl)
  clear F1
  rename News _ _ _ _ => N1
  refine done_mono F2 ?body ?post
  case post =>
    intro h9 tk9 m9 nw ps ps' F9 N9
    clear N1 F2
    k_steps
  case body =>
    rename CellsAre _ _ _ => X0
    clear X0
    (try dsimp only at *)
    rename (_ = Data.cell (bindC _ _ _ _)) => d1
    have q1 := cell_none d1 (by with_unfolding_all rfl)
    clear d1
    rename (_ = Data.cell (bindC _ _ _ _)) => d2
    have q2 := cell_none d2 (by with_unfolding_all rfl)
    clear d2
    rename (_ = Data.cell (bindC _ _ _ _)) => d3
    have q3 := cell_none d3 (by with_unfolding_all rfl)
    clear d3
    rename (_ = Data.cell (bindC _ _ _ _)) => d4
    have q4 := cell_none d4 (by with_unfolding_all rfl)
    clear d4
    rename (_ = Data.cell (bindC _ _ _ _)) => d5
    have q5 := cell_none d5 (by with_unfolding_all rfl)
    clear d5
    rename Frag.In _ _ => X9
    rename Top topProg _ _ _ _ _ => T9
    rename Below _ _ _ _ => B9
    rename CodeHd _ 34 30 => C34
    rename CodeHd _ 72 70 => C72
    rename IntsAre _ _ => hI
    rename List Int => xs
    rename (¬ _ < _) => hc
    rename (_ ∧ _) => l0; have l30 := l0.1; have l70 := l0.2
    rename Ground _ _ _ _ _ _ _ _ _ => z1
    rename Hook.says _ _ _ => z2
    rename Heap.get? _ _ = some _ => z3
    rename Shared.gens _ = _ => z4
    rename Flt.MathXP _ _ _ => z5
    rename LooseAre _ _ _ => z6
    rename Top hd.view_39 _ _ _ _ _ => z7
    rename Tables _ _ _ _ => z8
    rename TopE _ _ _ _ => z9
    rename TopW _ _ _ => z10
    rename Heap.CodeRec _ _ _ => z11
    rename Spec.Shape.has _ _ = _ => z12
    rename PyData.layable0 _ = _ => z13
    rename Well _ _ _ _ => z14
    rename ReadsAllW _ _ _ _ _ _ => z15
    rename Reads _ _ _ _ => z16
    rename ReadsAll _ _ _ _ => z17
    rename Dflts _ _ _ _ _ _ => z18
    clear z1 z2 z3 z4 z5 z6 z7 z8 z9 z10 z11 z12 z13 z14 z15 z16 z17 z18 hT8 hT9
    rename_i w0 s0 s1 mg mb fa o pm doc hlay hr hl2 w9 w8 ax vs w5 hLi hcc h1 tk1 c5 c4 c3 c2 c1
    clear hlay hr hl2 hLi hcc o pm doc w9 w8 w5
    generalize ExcName.means s0.heap = mean at *
    generalize hg : ghostOf s1.heap _ = h₀ at *
    clear hg
    generalize hL : s1.heap.objs.size = L at *
    clear hL
    (try (with_reducible refine Blk.out ?_))
    clear mk200
    have mk201 : Mk 201 := trivial; have mk202 : Mk 202 := trivial; have mk203 : Mk 203 := trivial
    k_steps
    refine Blk.out ?_
    refine LCg.Assign_ListComp_U (F₀ := F2) (by rfl) (by with_unfolding_all rfl) (by with_unfolding_all rfl) (by decide) (by rfl) (by decide) (by rfl) (by rfl) (by rfl) ?_
    k_steps
    refine Blk.out ?_
    rename News h₀ L _ _ => N2
    (try dsimp only at N2 ⊢)
    rename IntsAre _ (List.take 4 xs ++ _) => hI4
    have hl4 := hI4.length
    have hl4' : (List.take 4 xs ++ [87, 18, 26, 9, 75]).length = min 4 xs.length + 5 := by rw [List.length_append, List.length_take]; rfl
    refine LCg.CompSrc.ledger (by rfl) (by k_asm) (by k_asm) (by k_mem) (by rw [List.size_toArray, PySem.sizeLine_eq]; lia  ) ?_
    intro g
    refine rest_gen (fun i v => ∃ t, v = .str (nameS ((List.take 4 xs ++ [87, 18, 26, 9, 75]).getD i 0)) t) ?_ ?_
    · intro i v I oI C oC D m₂ ys h tk E' hi hv hC hx F3 N3 off ne
      obtain ⟨tv, rfl⟩ := hI4.int_at i v (by simpa using hv)
      rename Fr h₀ L _ _ => F4
      rename News h₀ L _ _ => N4
      k_steps
      rename Fr h₀ L _ _ => F5
      rename News h₀ L _ _ => N5
      exact LCg.CompEnd.intro F5 N5 _ (fun _ h => h) off (.inr ⟨_, by k_mem, rfl, _, rfl⟩) ⟨rfl, _, rfl⟩
    · intro ys hl hR D h tk F3 N3 off
      have hys := strs_map (g := nameS) (d := 0) (by rw [List.size_toArray]; exact hl4) hl hR
      have hys : StrsAre ys (namesOf xs) := hys
      have N4 := news_sub [(D, LCg.lst ys), (L + 1 + 1 + 1 + 1 + 1, c5), (L + 1 + 1 + 1 + 1, c4), (L + 1 + 1 + 1, c3), (L + 1 + 1, c2), (L + 1, c1), (30, tabObj #[]), (70, tabObj #[])] N3 (by repeat' (first | exact (fun _ h => absurd h List.not_mem_nil) | refine List.forall_mem_cons.mpr ⟨by k_mem, ?_⟩))
      have hD := all_conj (l' := [(L + 1 + 1 + 1 + 1 + 1, c5), (L + 1 + 1 + 1 + 1, c4), (L + 1 + 1 + 1, c3), (L + 1 + 1, c2), (L + 1, c1), (30, tabObj #[]), (70, tabObj #[])]) (off1_mem _ off) (by repeat' (first | exact (fun _ h => absurd h List.not_mem_nil) | refine List.forall_mem_cons.mpr ⟨by k_mem, ?_⟩))
      simp only [List.forall_mem_cons, List.not_mem_nil, false_imp_iff, implies_true, and_true] at hD
      clear N3 hR hl4 hl4' hI4 off hl
      have F5 := fr_to F3 (m' := kstB (fun _ => none) [(Str.ofString "words", .ref D), (Str.ofString "script", .ref ax)]) (by rfl)
      (try dsimp only at F5 N4 ⊢)
      clear F3
      (try (with_reducible refine Blk.out ?_))
      clear mk201 mk202 mk203
      have mk202 : Mk 202 := trivial
      have hnl := namesOf_len xs
      obtain ⟨x0, xr, hxr⟩ : ∃ x0 xr, namesOf xs = x0 :: xr := by
        rcases hh : namesOf xs with _ | ⟨a, b⟩
        · rw [hh] at hnl; simp at hnl
        · exact ⟨_, _, rfl⟩
      rw [hxr] at hys
      obtain ⟨ty, vr, rfl, hvr⟩ := StrsAre.cons_inv hys
      have hlr := hvr.length
      rw [hxr, List.length_cons] at hnl
      obtain ⟨hd5, hd4, hd3, hd2, hd1, hd30, hd70⟩ := hD
      have hlt := news_lt N4
      simp only [List.forall_mem_cons, List.not_mem_nil, false_imp_iff, implies_true, and_true] at hlt
      k_steps
      refine Blk.out ?_
      rename News h₀ L _ _ => N5
      rename Fr h₀ L _ _ => F6
      rename (_ = Data.cell (some (.ref _))) => dn
      rename (_ = Data.cell (some (.str _ _))) => dw
      rename_i hA cw hB cn
      have hpk : slicePick (Value.str x0 ty :: vr).toArray (some 1) none none = vr.toArray := slicePick_from' (Value.str x0 ty :: vr).toArray 1
      rw [hpk] at N5
      have N6 := news_sub [(h.objs.size + 1, W.listOf vr.toArray 0), (L + 1 + 1 + 1 + 1 + 1, cw), (L + 1 + 1 + 1 + 1, c4), (L + 1 + 1 + 1, c3), (L + 1 + 1, c2), (L + 1, cn), (30, tabObj #[]), (70, tabObj #[])] N5 (by repeat' (first | exact (fun _ h => absurd h List.not_mem_nil) | refine List.forall_mem_cons.mpr ⟨by k_mem, ?_⟩))
      have hNA : L + 1 + 1 + 1 + 1 + 1 < h.objs.size + 1 ∧ 30 < h.objs.size + 1 ∧ 70 < h.objs.size + 1 := by lia  
      generalize h.objs.size + 1 = NA at N6 dn hNA
      rename IntsAre _ (List.take 4 xs) => z1
      rename StrsAre _ (List.map _ _) => z2
      clear z1 z2 hys hlt hd5 hd4 hd3 hd2 hd1 hd30 hd70 hpk N5 q1 q5
      rename (_ ∧ _ ∧ _ ∧ _ ∧ _ ∧ _ ∧ _ ∧ _ ∧ _) => z1
      clear z1
      rename (_ ∧ _ ∧ _ ∧ _ ∧ _ ∧ _ ∧ _ ∧ _ ∧ _) => z1
      clear z1
      rename (_ ∧ _ ∧ _ ∧ _ ∧ _ ∧ _ ∧ _ ∧ _) => z1
      clear z1
      rename (_ ∧ _ ∧ _ ∧ _ ∧ _ ∧ _ ∧ _) => z1
      clear z1
      rename ((List.take 4 xs).length = _) => z1
      rename ((List.take 4 xs).length ≤ _) => z2
      clear z1 z2
      have hx0 : x0.length ≤ 3 := namesOf_le (xs := xs) (by rw [hxr]; exact .head _)
      have hxr3 : ∀ y ∈ xr, y.length ≤ 3 := fun y hy => namesOf_le (xs := xs) (by rw [hxr]; exact .tail _ hy)
      (try (with_reducible refine Blk.out ?_))
      clear mk202
      have mk203 : Mk 203 := trivial; have mk204 : Mk 204 := trivial; have mk205 : Mk 205 := trivial
      k_steps
      refine Blk.out ?_
      refine LCg.ListComp_U (F₀ := F6) (by rfl) (by decide) (by rfl) (by decide) (by rfl) ?_
      k_steps
      refine Blk.out ?_
      refine LCg.CompSrc.ledger (by rfl) (by k_asm) (by k_asm) (by k_mem) (by rw [List.size_toArray, PySem.sizeLine_eq]; lia  ) ?_
      intro g
      refine rest_gen (fun i v => ∃ t, v = .int (costL prc2 (cl x0) (cl (xr.getD i ⟨#[]⟩))) t) ?_ ?_
      · intro i v I oI C oC D m₂ ys h tk E' hi hv hC hx F3 N3 off ne
        obtain ⟨hi2, tv, rfl⟩ := str_at hvr i v (by simpa using hv)
        have hy3 : (xr.getD i ⟨#[]⟩).length ≤ 3 := hxr3 _ (by rw [List.getD, List.getElem?_eq_getElem hi2]; exact List.getElem_mem hi2)
        (try dsimp only at hx F3 N3 ⊢)
        k_steps
        rename Fr h₀ L _ _ => F5
        rename News h₀ L _ _ => N5
        exact LCg.CompEnd.intro F5 N5 _ (fun _ h => h) off (.inr ⟨_, by k_mem, rfl, _, rfl⟩) ⟨rfl, _, rfl⟩
      · intro ys hl hR D2 h tk F3 N3 off
        have hys := ints_map (g := fun y => costL prc2 (cl x0) (cl y)) (d := ⟨#[]⟩) (by rw [List.size_toArray]; exact hlr) hl hR
        have hD := off1_mem _ off
        simp only [List.forall_mem_cons, List.not_mem_nil, false_imp_iff, implies_true, and_true] at hD
        obtain ⟨e1, e2, e3, e4, e5, e6, e7, e8⟩ := hD
        (try dsimp only at F3 N3 ⊢)
        k_steps
        refine Blk.out ?_
        rename News h₀ L _ _ => N5
        rename Fr h₀ L _ _ => F5
        rename (_ = Data.cell (some (.ref D2))) => dc
        rename_i hE cc
        clear off hR hl
        (try (with_reducible refine Blk.out ?_))
        clear mk203 mk204 mk205
        have mk200 : Mk 200 := trivial; have mk203 : Mk 203 := trivial; have mk206 : Mk 206 := trivial
        refine LCg.ListComp_U (F₀ := F5) (by rfl) (by decide) (by rfl) (by decide) (by rfl) ?_
        k_steps
        refine Blk.out ?_
        refine LCg.CompSrc.ledger (by rfl) (by k_asm) (by k_asm) (by k_mem) (by rw [List.size_toArray, PySem.sizeLine_eq]; lia  ) ?_
        intro g
        refine rest_gen (fun i v => ∃ t, v = .int (levL sub2 (cl x0) (cl (xr.getD i ⟨#[]⟩)) 99) t) ?_ ?_
        · intro i v I oI C oC D m₂ ys h tk E' hi hv hC hx F3 N3 off ne
          obtain ⟨hi2, tv, rfl⟩ := str_at hvr i v (by simpa using hv)
          have hy3 : (xr.getD i ⟨#[]⟩).length ≤ 3 := hxr3 _ (by rw [List.getD, List.getElem?_eq_getElem hi2]; exact List.getElem_mem hi2)
          (try dsimp only at hx F3 N3 ⊢)
          k_steps
          rename Fr h₀ L _ _ => F5
          rename News h₀ L _ _ => N5
          exact LCg.CompEnd.intro F5 N5 _ (fun _ h => h) off (.inr ⟨_, by k_mem, rfl, _, rfl⟩) ⟨rfl, _, rfl⟩
        · intro zs hl hR D3 h tk F3 N3 off
          have hzs := ints_map (g := fun y => levL sub2 (cl x0) (cl y) 99) (d := ⟨#[]⟩) (by rw [List.size_toArray]; exact hlr) hl hR
          have hD3 := off1_mem _ off
          simp only [List.forall_mem_cons, List.not_mem_nil, false_imp_iff, implies_true, and_true] at hD3
          obtain ⟨f1, f2, f3, f4, f5, f6, f7, f8, f9⟩ := hD3
          (try dsimp only at F3 N3 ⊢)
          k_steps
          refine Blk.out ?_
          rename News h₀ L _ _ => N5
          rename Fr h₀ L _ _ => F5
          rename (_ = Data.cell (some (.ref D3))) => dt
          rename_i hF ct
          clear off hR hl
          have hx4 : cl x0 ∈ N40 := names_in (xs := xs) (by rw [hxr]; exact .head _)
          have hxr4 : ∀ y ∈ xr, cl y ∈ N40 := fun y hy => names_in (xs := xs) (by rw [hxr]; exact .tail _ hy)
          have hzs : IntsAre zs (xr.map (cst x0)) := by
            have e : List.map (fun y => levL sub2 (cl x0) (cl y) 99) xr = xr.map (cst x0) := List.map_congr_left fun y hy => (pair_ok hx4 (hxr4 y hy)).1
            rw [← e]; assumption
          have hys : IntsAre ys (xr.map (cst x0)) := hys
          obtain ⟨cs, hcs⟩ : ∃ cs, cs = xr.map (cst x0) := ⟨_, rfl⟩
          rw [← hcs] at hys hzs
          have hcl : cs.length = xr.length := by rw [hcs, List.length_map]
          rename IntsAre zs (List.map _ _) => z1
          rename IntsAre ys (List.map _ _) => z2
          clear z1 z2
          (try (with_reducible refine Blk.out ?_))
          clear mk200 mk203 mk206
          have mk203 : Mk 203 := trivial; have mk205 : Mk 205 := trivial; have mk206 : Mk 206 := trivial; have mk207 : Mk 207 := trivial
          k_steps
          refine Blk.out ?_
          refine LCg.ListComp_U (F₀ := F5) (by rfl) (by decide) (by rfl) (by decide) (by rfl) ?_
          k_steps
          refine Blk.out ?_
          refine LCg.CompSrc.ledger (by rfl) (by k_asm) (by k_asm) (by k_mem) (by rw [List.size_toArray, PySem.sizeLine_eq]; lia  ) ?_
          intro g
          refine rest_gen (fun i v => ∃ t, v = .int (levL sub2 (cl (xr.getD i ⟨#[]⟩)) (cl x0) 99) t) ?_ ?_
          · intro i v I oI C oC D m₂ ys h tk E' hi hv hC hx F3 N3 off ne
            obtain ⟨hi2, tv, rfl⟩ := str_at hvr i v (by simpa using hv)
            have hy3 : (xr.getD i ⟨#[]⟩).length ≤ 3 := hxr3 _ (by rw [List.getD, List.getElem?_eq_getElem hi2]; exact List.getElem_mem hi2)
            (try dsimp only at hx F3 N3 ⊢)
            k_steps
            rename Fr h₀ L _ _ => F5
            rename News h₀ L _ _ => N5
            exact LCg.CompEnd.intro F5 N5 _ (fun _ h => h) off (.inr ⟨_, by k_mem, rfl, _, rfl⟩) ⟨rfl, _, rfl⟩
          · intro us hl hR D4 h tk F3 N3 off
            have hus := ints_map (g := fun y => levL sub2 (cl y) (cl x0) 99) (d := ⟨#[]⟩) (by rw [List.size_toArray]; exact hlr) hl hR
            have hus2 : IntsAre us cs := by
              have e : List.map (fun y => levL sub2 (cl y) (cl x0) 99) xr = xr.map (cst x0) := List.map_congr_left fun y hy => (pair_ok hx4 (hxr4 y hy)).2.1
              rw [hcs, ← e]; exact hus
            clear hus off hR hl
            (try dsimp only at F3 N3 ⊢)
            k_steps
            refine Blk.out ?_
            rename News h₀ L _ _ => N6
            refine news_name N6 (fun DU hDU => ?_)
            subst hDU
            rename Fr h₀ L _ _ => F6
            (try (with_reducible refine Blk.out ?_))
            clear mk203 mk205 mk206 mk207
            have mk208 : Mk 208 := trivial; have mk209 : Mk 209 := trivial
            refine wpAny_For ?_
            k_steps
            refine Blk.out ?_
            rename IsRange _ _ _ _ _ _ _ _ => hr
            rename Fr h₀ L _ _ => F7
            rename News h₀ L _ _ => N7
            have F8 := fr_to F7 (m' := kstB (fun _ => none) [(Str.ofString "due", .ref DU), (Str.ofString "words", .ref D), (Str.ofString "script", .ref ax)]) rfl
            have N8 := news_sub [(DU, W.listOf #[] 0), (D3, LCg.lst zs), (D2, LCg.lst ys), (NA, W.listOf vr.toArray 0), (L + 1 + 1 + 1 + 1 + 1, cw), (L + 1 + 1 + 1 + 1, ct), (L + 1 + 1 + 1, c3), (L + 1 + 1, cc), (L + 1, cn), (30, tabObj #[]), (70, tabObj #[])] N7 (by repeat' (first | exact (fun _ h => absurd h List.not_mem_nil) | refine List.forall_mem_cons.mpr ⟨by k_mem, ?_⟩))
            clear F7 N7
            refine for_range (n := vr.length) (fun i m led => m = kstB (fun _ => none) [(Str.ofString "due", .ref DU), (Str.ofString "words", .ref D), (Str.ofString "script", .ref ax)] ∧ ∃ (dv : List Value) (e : Nat) (ck : Obj) (x : Option Value),
              led = [(DU, W.listOf dv.toArray e), (D3, LCg.lst zs), (D2, LCg.lst ys), (NA, W.listOf vr.toArray 0), (L + 1 + 1 + 1 + 1 + 1, cw), (L + 1 + 1 + 1 + 1, ct), (L + 1 + 1 + 1, ck), (L + 1 + 1, cc), (L + 1, cn), (30, tabObj #[]), (70, tabObj #[])] ∧
                IntsAre dv ((dueN (fun j => cs.getD j 0) i).map fun (j : Nat) => (j : Int)) ∧ ck.data = .cell x) rfl hr ?hsm (by rw [rangeSize_nat]; lia  ) F8 N8 ⟨rfl, [], 0, c3, none, rfl, .nil, q3⟩ ?ht ?turn ?done
            case hsm => exact small_one (by lia  ) (by lia  ) (by lia  ) (by lia  )
            case ht => intro _ _; rfl
            case turn =>
              rintro i t m led h tk I oI E' hi ⟨rfl, dv, e, ck, x, rfl, hdv, hck⟩ F9 N9 hoff
              have hoff2 := hoff
              simp only [List.forall_mem_cons, List.not_mem_nil, false_imp_iff, implies_true, and_true] at hoff2
              obtain ⟨i1, i2, i3, i4, i5, i6, i7, i8, i9, i10, i11⟩ := hoff2
              clear F8 N8 hr
              (try dsimp only at F9 N9 ⊢)
              (try (with_reducible refine Blk.out ?_))
              clear mk208 mk209
              have mk205 : Mk 205 := trivial; have mk208 : Mk 208 := trivial; have mk210 : Mk 210 := trivial
              k_steps
              refine Blk.out ?_
              rename Fr h₀ L _ _ => F10
              rename News h₀ L _ _ => N10
              rename (_ = Data.cell (some (.int _ _))) => dk
              rename_i hK ck2
              refine LCt.ListComp_T (F₀ := F10) (by rfl) (by decide) (by rfl) (by decide) (by rfl) ?_
              k_steps
              refine Blk.out ?_
              have hdl := hdv.length
              rw [List.length_map, dueN_len] at hdl
              have hil : i < cs.length := by lia  
              refine LCt.CompSrcT.ledger (by rfl) (by k_asm) (by k_asm) (by k_mem) (by rw [List.size_toArray, PySem.sizeLine_eq]; lia  ) ?_
              intro g2
              refine rest_filt (fun a => decide (cs.getD ((dueN (fun j => cs.getD j 0) i).getD a 0) 0 ≤ cs.getD i 0)) ?_ ?_
              · intro a v J oJ C oC D5 m₂ us h tk E' ha hv hC hx F3 N3 off ne
                obtain ⟨tv, rfl⟩ := hdv.int_at a v (by simpa using hv)
                have ha2 : a < (dueN (fun j => cs.getD j 0) i).length := by rw [dueN_len]; rw [List.size_toArray] at ha; lia  
                have hj : ((dueN (fun j => cs.getD j 0) i).map fun (j : Nat) => (j : Int)).getD a 0 = (((dueN (fun j => cs.getD j 0) i).getD a 0 : Nat) : Int) := getD_cast _ ha2
                rw [hj] at hv hx
                have hjl : (dueN (fun j => cs.getD j 0) i).getD a 0 < i := by
                  rw [List.getD, List.getElem?_eq_getElem ha2]
                  exact dueN_lt _ _ _ (List.getElem_mem ha2)
                generalize (dueN (fun j => cs.getD j 0) i).getD a 0 = jj at hv hx hjl ⊢
                (try dsimp only at hx F3 N3 ⊢)
                k_steps
                all_goals (rename Fr h₀ L _ _ => F5; rename News h₀ L _ _ => N5; exact LCg.CompEnd.intro F5 N5 _ (fun _ h => h) off (.inr ⟨_, by k_mem, rfl, _, rfl⟩) rfl)
              · intro us hul D5 h tk F3 N3 off
                have hus : us.length = ((dueN (fun j => cs.getD j 0) i).filter fun j => decide (cs.getD j 0 ≤ cs.getD i 0)).length := by
                  rw [hul, List.size_toArray, hdl, ← filt_places (fun j => decide (cs.getD j 0 ≤ cs.getD i 0)), dueN_len]
                have hpos : us.length ≤ i := by
                  have := List.length_filter_le (fun j => decide (cs.getD j 0 ≤ cs.getD i 0)) (dueN (fun j => cs.getD j 0) i)
                  rw [dueN_len] at this
                  lia  
                clear off hul
                (try dsimp only at F3 N3 ⊢)
                k_steps
                rename Fr h₀ L _ _ => F5
                rename News h₀ L _ _ => N5
                have hxp : ((us.toArray.size : Nat) : Int) = (us.length : Int) := by rw [List.size_toArray]
                rw [hxp]
                have N5 := news_sub [(I, oI), (DU, W.listOf dv.toArray e), (D3, LCg.lst zs), (D2, LCg.lst ys), (NA, W.listOf vr.toArray 0), (L + 1 + 1 + 1 + 1 + 1, cw), (L + 1 + 1 + 1 + 1, ct), (L + 1 + 1 + 1, ck2), (L + 1 + 1, cc), (L + 1, cn), (30, tabObj #[]), (70, tabObj #[])] N5 (fun p hp => .tail _ hp)
                refine kl_insert F5 N5 (by simp [Builtin.List.listFitsIndex]; lia  ) rfl (by k_upd) (by show dv.length ≤ _; rw [PySem.sizeLine_eq]; lia  ) ?_
                intro h6 F6 N6
                refine wpAny_execs_nil ?_
                refine ⟨_, _, _, _, rfl, F6, N6, ?_, rfl, _, _, _, _, rfl, due_ins hdv hus, dk⟩
                simp only [List.forall_mem_cons, List.not_mem_nil, false_imp_iff, implies_true, and_true]
                exact ⟨i1, i2, i3, i4, i5, i6, i7, i8, i9, i10, i11⟩
            case done =>
              rintro m led h tk ⟨rfl, dv, e, ck, x, rfl, hdv, hck⟩ F9 N9
              clear F8 N8 hr
              (try dsimp only at F9 N9 ⊢)
              (try (with_reducible refine Blk.out ?_))
              clear mk208 mk209
              have mk208 : Mk 208 := trivial; have mk211 : Mk 211 := trivial
              rename (∀ (b : Addr) (o : Obj), _ → _) => zz
              clear zz
              have hlt0 := news_lt N9
              simp only [List.forall_mem_cons, List.not_mem_nil, false_imp_iff, implies_true, and_true] at hlt0
              have hLh : L < Array.size (Heap.objs _) := F9.ns.lt
              k_steps
              refine Blk.out ?_
              rename IsRange _ _ _ _ _ _ _ _ => hr
              rename Fr h₀ L _ _ => F10
              rename News h₀ L _ _ => N10
              have N11 := news_add F10 N10 hr hLh
              clear N10 hr
              rename_i tr1 tr2 tr3
              generalize Array.size (Heap.objs _) = RG at N11 hlt0 hLh
              (try dsimp only at F10 N11 ⊢)
              (try (with_reducible refine Blk.out ?_))
              clear mk208 mk211
              have mk200 : Mk 200 := trivial; have mk212 : Mk 212 := trivial; have mk213 : Mk 213 := trivial
              k_steps
              refine Blk.out ?_
              rename Fr h₀ L _ _ => F12
              rename News h₀ L _ _ => N12
              with_unfolding_all refine' ck_call (own := [(_, _), (_, _), (RG, _), (DU, _), (D3, _), (D2, _), (NA, _), (L + 1 + 1 + 1 + 1 + 1, _), (L + 1 + 1 + 1 + 1, _), (L + 1 + 1 + 1, _), (L + 1 + 1, _), (L + 1, _)]) ?k1 ?k2 ?k3 ?k4 ?k5 ?kK ?kd ?ku ?ko ?kr ?_
              case k1 => k_asm
              case k2 => exact F12
              case k3 => k_asm
              case k4 => exact N12
              case k5 => k_asm
              case kK => exact rfl
              case kd => first | ktr_room | decide
              case ku => first | ktr_units | decide
              case ko => k_all
              case kr => k_all
              intro K9 cell kn oc2 ps h13 tk13 F13 N13 hKL hoc2
              (try dsimp only)
              clear F12 N12
              rename (_ = Data.fields _) => d1
              rename (_[1]? = some _) => d2
              k_steps
              refine Blk.out ?_
              simp only [List.cons_append, List.nil_append] at N13
              with_unfolding_all refine' sorted_K (n := vr.length) (c := fun j => cs.getD j 0) (hKL := hKL) (hoc := hoc2) ?k1 ?k2 ?k3 ?k4 ?k5 ?kK ?kd ?ku ?m1 ?m2 ?m3 ?m4 ?g1 ?g2 ?cmp ?ret
              case k1 => k_asm
              case k2 => exact F13
              case k3 => k_asm
              case k4 => exact N13
              case k5 => k_asm
              case kK => exact rfl
              case kd => first | ktr_room | decide
              case ku => first | ktr_units | decide
              case m1 => exact fun q hq => List.mem_append_left _ hq
              case m2 => exact List.mem_append_right _ (.head _)
              case m3 => exact List.mem_append_right _ (.tail _ (.head _))
              case m4 => exact List.mem_append_right _ (.tail _ (.tail _ (.tail _ (.head _))))
              case g1 => lia  
              case g2 => lia  
              case cmp =>
                intro led hsub i j ti tj hi hj
                have up := up_of hsub
                exact sub_lam _ _ _ _ (up _ (.head _)) (up _ (.tail _ (.head _))) d1 d2 (up _ (by k_mem)) dt (up _ (by k_mem)) hzs (by lia  ) (by lia  ) (by lia  )
              case ret =>
                intro DS h14 tk14 e14 sv F14 N14 hlt14 hsv
                (try dsimp only at F14 N14 ⊢)
                have N15 := news_sub [(DS, W.listOf sv.toArray e14), (DU, W.listOf dv.toArray e), (D3, LCg.lst zs), (D2, LCg.lst ys), (NA, W.listOf vr.toArray 0), (L + 1 + 1 + 1 + 1 + 1, cw), (L + 1 + 1 + 1 + 1, ct), (L + 1 + 1 + 1, ck), (L + 1 + 1, cc), (L + 1, cn), (30, tabObj ps), (70, tabObj _)] N14 (by refine List.forall_mem_cons.mpr ⟨.head _, fun p hp => .tail _ (List.mem_append_right _ (.tail _ (.tail _ (.tail _ (.tail _ hp)))))⟩)
                clear F13 N13 N14 hlt14 hKL hoc2 d1 d2
                (try dsimp only at N15 ⊢)
                k_steps
                refine Blk.out ?_
                rename Fr h₀ L _ _ => F16
                rename News h₀ L _ _ => N16
                (try (with_reducible refine Blk.out ?_))
                clear mk200 mk212 mk213
                have mk200 : Mk 200 := trivial; have mk214 : Mk 214 := trivial
                rename IntsAre us cs => z1
                rename IntsAre dv _ => hdv
                rename (us.length = _) => z2
                clear z1 z2
                have hDU : @LT.lt Nat _ 30 DU ∧ @LT.lt Nat _ 70 DU := by lia  
                clear hlt0 tr3 hLh
                have hn5 : 4 ≤ xr.length ∧ xr.length ≤ 8 := by lia  
                clear hnl hxr hsv
                obtain ⟨g1, g2⟩ := hDU
                have N17 := news_sub [(DU, W.listOf dv.toArray e), (D3, LCg.lst zs), (D2, LCg.lst ys), (NA, W.listOf vr.toArray 0), (L + 1 + 1 + 1 + 1 + 1, cw), (L + 1 + 1 + 1 + 1, ct), (L + 1 + 1 + 1, ck), (L + 1 + 1, cc), (L + 1, cn), (30, tabObj ps), (70, tabObj _)] N16 (fun p hp => .tail _ hp)
                clear N16
                have F17 := F16
                clear F16
                rename (dv.length = _) => z3
                rename (D4 < DU ∧ _) => z5
                rename (RG < _ ∧ _) => z6
                clear z3 z5 z6 hI hc lifted C34 q2 q3 q4 e1 e2 e3 e4 e5 e6 e7 f1 f2 f3 f4 f5 f6 f7 f8
                have hdl := dueN_len (fun j => cs.getD j 0) vr.length
                obtain ⟨d0, dr, hd0⟩ : ∃ d0 dr, dueN (fun j => cs.getD j 0) vr.length = d0 :: dr := by
                  cases h : dueN (fun j => cs.getD j 0) vr.length with
                  | nil => rw [h] at hdl; simp at hdl; lia  
                  | cons d0 dr => exact ⟨d0, dr, rfl⟩
                have hdm := due_first hd0
                clear hdl
                have hd0c : d0 < xr.length := hlr ▸ hdm.1
                obtain ⟨tn, hn⟩ := str_get hvr hd0c
                rw [hd0, List.map_cons] at hdv
                refine wpAny_execs_cons ?_
                k_steps
                refine Blk.out ?_
                change wpAny _ _ (subscriptTail _ _ (.ref NA) (.int ((d0 : Nat) : Int) _)) _ _ _
                refine item_listL (News.isList N17 (by k_mem)) (k := (d0:Int)) (by lia  ) (by lia  ) (by rw [Int.toNat_natCast]; exact hn) ?_
                k_steps
                refine Blk.out ?_
                change wpAny _ _ (subscriptTail _ _ (.ref D2) (.int ((d0 : Nat) : Int) _)) _ _ _
                obtain ⟨tc, hc0⟩ := int_get hys (k := d0) (by lia  )
                refine item_listL (News.isList N17 (by k_mem)) (k := (d0:Int)) (by lia  ) (by lia  ) (by rw [Int.toNat_natCast]; exact hc0) ?_
                k_steps
                refine Blk.out ?_
                rename Fr h₀ L _ _ => F18
                rename News h₀ L _ _ => N18
                rename (_ ∧ _) => l18
                rename_i LE hh1 hh2
                have g3 : @LT.lt Nat _ 70 LE := by lia  
                clear l18 hn hc0
                have F19 := fr_to F18 (m' := kstB (fun _ => none) [(Str.ofString "least", .ref LE), (Str.ofString "due", .ref DU), (Str.ofString "words", .ref D), (Str.ofString "script", .ref ax)]) rfl
                clear F18
                (try (with_reducible refine Blk.out ?_))
                clear mk200 mk214
                have mk200 : Mk 200 := trivial; have mk203 : Mk 203 := trivial; have mk208 : Mk 208 := trivial; have mk215 : Mk 215 := trivial; have mk216 : Mk 216 := trivial
                refine wpAny_execs_cons ?_
                refine LCg.Assign_ListComp_U F19 rfl (by with_unfolding_all rfl) (by rfl) (by decide) (by rfl) (by decide) (by rfl) (by rfl) (by rfl) ?_
                k_steps
                refine Blk.out ?_
                rename IsRange _ _ _ _ _ _ _ _ => hr
                rename News h₀ L _ _ => N19
                rename Fr h₀ L _ _ => F20
                refine LCg.CompSrc.range (by rfl) F20 (news_sub [(LE, W.listOf #[Value.str (xr.getD d0 { cps := #[] }) tn, Value.int (cs.getD d0 0) tc] 0), (DU, W.listOf dv.toArray e), (D3, LCg.lst zs), (D2, LCg.lst ys), (NA, W.listOf vr.toArray 0), (L + 1 + 1 + 1 + 1 + 1, cw), (L + 1 + 1 + 1 + 1, ct), (L + 1 + 1 + 1, ck), (L + 1 + 1, cc), (L + 1, cn), (30, tabObj ps), (70, tabObj _)] N19 (fun _ h => h)) hr (small_one (by lia  ) (by lia  ) (by lia  ) (by lia  )) (by rw [rangeSize_nat]) (by rw [PySem.sizeLine_eq]; lia  ) ?_
                intro g
                clear N19 F20 hr
                refine rest_led (fun i ys' nw => ∃ pl, nw = (LE, W.listOf #[Value.str (xr.getD d0 { cps := #[] }) tn, Value.int (cs.getD d0 0) tc] 0) :: (DU, W.listOf dv.toArray e) :: (D3, LCg.lst zs) :: (D2, LCg.lst ys) :: (NA, W.listOf vr.toArray 0) :: (L + 1 + 1 + 1 + 1 + 1, cw) :: (L + 1 + 1 + 1 + 1, ct) :: (L + 1 + 1 + 1, ck) :: (L + 1 + 1, cc) :: (L + 1, cn) :: (30, tabObj ps) :: (70, tabObj _) :: pl ∧ ys'.length = i ∧ (∀ p ∈ pl, p.1 ≠ 70) ∧ PairsAt xr cs ys' pl)
                  ⟨[], rfl, rfl, by simp, fun j hj => absurd hj (by simp)⟩ ?turn ?fin
                case turn =>
                  rintro i v I oI C oC D' m₂ ys' nw h tk E' hi ⟨t, rfl⟩ ⟨pl, rfl, hl, hp70, hpa⟩ hC hx F3 N3 off ne
                  obtain ⟨tn', hn'⟩ := str_get hvr (k := i) (by lia  )
                  obtain ⟨tt, ht⟩ := int_get hzs (k := i) (by lia  )
                  have e0 : (0 : Int) + (i : Int) = (i : Int) := by lia  
                  rw [e0] at hx
                  (try dsimp only at hx F3 N3 ⊢)
                  k_steps
                  refine Blk.out ?_
                  refine item_listL (News.isList N3 (by k_mem)) (k := (i:Int)) (by lia  ) (by lia  ) (by rw [Int.toNat_natCast]; exact hn') ?_
                  k_steps
                  refine Blk.out ?_
                  refine item_listL (News.isList N3 (by k_mem)) (k := (i:Int)) (by lia  ) (by lia  ) (by rw [Int.toNat_natCast]; exact ht) ?_
                  k_steps
                  rename Fr h₀ L _ _ => F5
                  rename News h₀ L _ _ => N5
                  rename (_ ∧ _) => l5
                  rename_i PP hh3
                  refine LCg.CompEnd.intro F5 N5 _ ?sub ?off trivial ⟨(PP, W.listOf #[.str (xr.getD i ⟨#[]⟩) tn', .int (cs.getD i 0) tt] 0) :: pl, rfl, by simp [hl], ?h70, pairs_snoc hl hpa⟩
                  case sub => repeat (first | exact (fun _ h => h) | refine rot_cons ?_)
                  case off => 
                    refine LCg.Off3.of fun p hp => off_new (o := W.listOf #[.str (xr.getD i ⟨#[]⟩) tn', .int (cs.getD i 0) tt] 0) off l5.1 l5.2.1 l5.2.2.1 p (List.mem_cons.mp ?_)
                    revert p
                    repeat (first | exact (fun _ h => h) | refine rot_cons ?_)
                  case h70 =>
                    intro p hp
                    rcases List.mem_cons.mp hp with rfl | hp
                    · show (_ : Nat) ≠ 70
                      lia  
                    · exact hp70 p hp
                case fin =>
                  rintro ys' nw ⟨pl, rfl, hl, hp70, hpa⟩ PS h tk F3 N3 off
                  have hP := off1_mem _ off
                  have g4 : Dif 70 PS := hP (70, tabObj _) (by k_mem)
                  clear hP
                  (try dsimp only at F3 N3 ⊢)
                  have hl2 : ys'.length = xr.length := by lia  
                  have F21 := fr_to F3 (m' := kstB (fun _ => none) [(Str.ofString "pairs", .ref PS), (Str.ofString "least", .ref LE), (Str.ofString "due", .ref DU), (Str.ofString "words", .ref D), (Str.ofString "script", .ref ax)]) rfl
                  have N21 := N3
                  clear F3 N3 off hl
                  (try (with_reducible refine Blk.out ?_))
                  clear mk200 mk203 mk208 mk215 mk216
                  have mk200 : Mk 200 := trivial; have mk217 : Mk 217 := trivial
                  have mk100 : Mk 100 := trivial
                  refine wpAny_execs_cons ?_
                  k_steps
                  refine Blk.out ?_
                  rename Fr h₀ L _ _ => F22
                  rename News h₀ L _ _ => N22
                  rename (_ = Data.fields _) => d1
                  rename (_[1]? = some _) => d2
                  obtain ⟨P0, tn0, tt0, hP0, hm0⟩ := hpa 0 (by lia  )
                  with_unfolding_all refine' red2_call (e := ys'.length) (v₀ := .ref P0) (JA xr cs ys' pl) ?k1 F22 ?k3 N22 ?k5 ?kK ?kd ?ku (.head _) ?hl hP0 ⟨rfl, 0, P0, tn0, tt0, FMin.one _, rfl, hP0, hm0⟩ (by lia  ) ?turn ?ret
                  case k1 => k_asm
                  case k3 => k_asm
                  case k5 => k_asm
                  case kK => exact rfl
                  case kd => first | ktr_room | decide
                  case ku => first | ktr_units | decide
                  case hl => exact .tail _ (.tail _ (.head _))
                  case turn =>
                    rintro i v x nw all hx ⟨rfl, k, P, tn8, tt8, hk8, rfl, hP8, hm8⟩ hsub
                    obtain ⟨P', tn9, tt9, hP9, hm9⟩ := hpa i (List.getElem?_eq_some_iff.mp hx).1
                    obtain rfl : x = .ref P' := by rw [hP9] at hx; exact (Option.some.inj hx).symm
                    have in_pl : ∀ p ∈ pl, p ∈ all := fun p hp => hsub p (by repeat (first | exact hp | refine List.Mem.tail _ ?_))
                    exact FunC.mono (lamA w0 mean mg mb (hsub _ (.head _)) (hsub _ (.tail _ (.head _))) d1 d2 (in_pl _ hm8) (in_pl _ hm9)) (JA.step hk8 hP8 hm8 hP9 hm9)
                  case ret =>
                    rintro v nw h8 tk8 ⟨rfl, k, P, tn8, tt8, hk8, rfl, hP8, hm8⟩ F23 N23 hd23
                    obtain rfl : k = d0 := by
                      rw [show ys'.length = vr.length by lia  ] at hk8
                      exact hk8.uniq hdm
                    clear hd23 F22 N22
                    have N24 := news_put N23 (p := (P, W.listOf #[.str (xr.getD k ⟨#[]⟩) tn8, .int (cs.getD k 0) tt8] 0)) (by repeat (first | exact hm8 | refine List.Mem.tail _ ?_)) N23
                    clear N23
                    (try dsimp only at F23 N24 ⊢)
                    k_steps
                    refine ne_pair N24 (.head _) (by k_mem) (str_ok (hxr4 _ (by rw [List.getD, List.getElem?_eq_getElem hd0c]; exact List.getElem_mem hd0c))) (by first | ktr_units | decide | lia  ) ?_
                    k_steps
                    refine Blk.out ?_
                    rename Fr h₀ L _ _ => F25
                    rename News h₀ L _ _ => N25
                    have N26 := news_sub ((PS, LCg.lst ys') :: (LE, W.listOf #[Value.str (xr.getD k { cps := #[] }) tn, Value.int (cs.getD k 0) tc] 0) :: (DU, W.listOf dv.toArray e) :: (D3, LCg.lst zs) :: (D2, LCg.lst ys) :: (NA, W.listOf vr.toArray 0) :: (L + 1 + 1 + 1 + 1 + 1, cw) :: (L + 1 + 1 + 1 + 1, ct) :: (L + 1 + 1 + 1, ck) :: (L + 1 + 1, cc) :: (L + 1, cn) :: (30, tabObj ps) :: (70, tabObj _) :: pl) N25 (fun p hp => .tail _ (.tail _ (.tail _ hp)))
                    rename (_ ∧ _) => z9
                    clear N25 d1 d2 z9 hP8 hm8 hP0 hm0
                    (try (with_reducible refine Blk.out ?_))
                    clear mk200 mk217
                    have mk200 : Mk 200 := trivial; have mk217 : Mk 217 := trivial
                    rename (PS < _ ∧ _) => z8
                    rename (dv.length = _) => z7
                    clear z8 z7
                    refine wpAny_execs_cons ?_
                    k_steps
                    refine Blk.out ?_
                    rename Fr h₀ L _ _ => F22
                    rename News h₀ L _ _ => N22
                    rename (_ = Data.fields _) => d1
                    rename (_[1]? = some _) => d2
                    rename_i f5 c5' oc5 vs5 t5 ct5 h5 tk5 z1 z2 S h55 z3
                    with_unfolding_all refine' red_call (e := 0) (vs := vr) (JB xr cs S (W.listOf #[Value.str (Str.ofString "") tk5, Value.int 99 (tk5 + 1)] 0)) ?k1 F22 ?k3 N22 ?k5 ?kK ?kd ?ku (.tail _ (.head _)) ?hl (notMiss_ref w0 (.head _) (fun e => absurd (Value.type.inj e) (by decide))) ⟨_, _, _, _, rfl, .head _, Or.inl ⟨rfl, rfl⟩⟩ (by lia  ) ?turn ?ret
                    case k1 => k_asm
                    case k3 => k_asm
                    case k5 => k_asm
                    case kK => exact rfl
                    case kd => first | ktr_room | decide
                    case ku => first | ktr_units | decide
                    case hl => k_mem
                    case turn =>
                      rintro i v x nw all hx ⟨B, bv, m, tm, rfl, hB, hq⟩ hsub
                      obtain ⟨hi, tv, rfl⟩ := str_at hvr i x hx
                      have hy3 : (xr.getD i ⟨#[]⟩).length ≤ 3 := hxr3 _ (by rw [List.getD, List.getElem?_eq_getElem hi]; exact List.getElem_mem hi)
                      have hBa : (B, W.listOf #[bv, .int m tm] 0) ∈ all := by
                        refine hsub _ ?_
                        rcases List.mem_append.mp hB with q | q
                        · exact List.mem_append_left _ q
                        · rw [List.mem_singleton] at q
                          exact List.mem_append_right _ (q ▸ .head _)
                      have up := fun p hp => hsub p (List.mem_append_right _ hp)
                      exact FunC.mono (lamB w0 mean mg mb (up _ (.tail _ (.head _))) (up _ (.tail _ (.tail _ (.head _)))) d1 d2 (up _ (by k_mem)) dw hBa hx0 hy3) (near_step hcs hx4 hxr4 hi hB hq)
                    case ret =>
                      rintro v nw h8 tk8 ⟨B, bv, m, tm, rfl, hB, hq⟩ F23 N23 hd23
                      rcases hq with ⟨h0, _⟩ | ⟨k2, tb, hk2, rfl, rfl⟩
                      · exfalso; lia  
                      obtain rfl : k2 = k := by
                        rw [hl2, ← hlr] at hk8
                        exact hk2.uniq hk8
                      clear hd23
                      have N24 := news_put N23 (p := (B, W.listOf #[.str (xr.getD k2 ⟨#[]⟩) tb, .int (cs.getD k2 0) tm] 0)) (by
                        rcases List.mem_append.mp hB with q | q
                        · exact List.mem_append_left _ q
                        · rw [List.mem_singleton] at q
                          exact List.mem_append_right _ (q ▸ .head _)) (news_sub ((PS, LCg.lst ys') :: (LE, W.listOf #[Value.str (xr.getD k2 { cps := #[] }) tn, Value.int (cs.getD k2 0) tc] 0) :: (DU, W.listOf dv.toArray e) :: (D3, LCg.lst zs) :: (D2, LCg.lst ys) :: (NA, W.listOf vr.toArray 0) :: (L + 1 + 1 + 1 + 1 + 1, cw) :: (L + 1 + 1 + 1 + 1, ct) :: (L + 1 + 1 + 1, ck) :: (L + 1 + 1, cc) :: (L + 1, cn) :: (30, tabObj ps) :: (70, tabObj _) :: pl) N23 (fun p hp => List.mem_append_right _ (.tail _ (.tail _ (.tail _ hp)))))
                      clear N23 hB F22 N22 d1 d2
                      (try dsimp only at F23 N24 ⊢)
                      k_steps
                      refine ne_pair N24 (.head _) (by k_mem) (str_ok (hxr4 _ (by rw [List.getD, List.getElem?_eq_getElem hd0c]; exact List.getElem_mem hd0c))) (by first | ktr_units | decide | lia  ) ?_
                      k_steps
                      refine Blk.out ?_
                      rename Fr h₀ L _ _ => F25
                      have N26 := news_sub ((PS, LCg.lst ys') :: (LE, W.listOf #[Value.str (xr.getD k2 { cps := #[] }) tn, Value.int (cs.getD k2 0) tc] 0) :: (DU, W.listOf dv.toArray e) :: (D3, LCg.lst zs) :: (D2, LCg.lst ys) :: (NA, W.listOf vr.toArray 0) :: (L + 1 + 1 + 1 + 1 + 1, cw) :: (L + 1 + 1 + 1 + 1, ct) :: (L + 1 + 1 + 1, ck) :: (L + 1 + 1, cc) :: (L + 1, cn) :: (30, tabObj ps) :: (70, tabObj _) :: pl) N24 (fun p hp => .tail _ hp)
                      clear N24
                      clear z1 z2 z3 hk8
                      (try (with_reducible refine Blk.out ?_))
                      clear mk200 mk217
                      have mk200 : Mk 200 := trivial; have mk217 : Mk 217 := trivial
                      refine wpAny_execs_cons ?_
                      k_steps
                      refine Blk.out ?_
                      rename Fr h₀ L _ _ => F22
                      rename News h₀ L _ _ => N22
                      rename (_ = Data.fields _) => d1
                      rename (_[1]? = some _) => d2
                      with_unfolding_all refine' red_call (e := ys'.length) (vs := ys') (fun i v nw => nw = [] ∧ ∃ t, v = .int (maxN (fun j => cs.getD j 0) i) t) ?k1 F22 ?k3 N22 ?k5 ?kK ?kd ?ku (.head _) ?hl (notMiss_int w0 _ _ _) ⟨rfl, _, rfl⟩ (by lia  ) ?turn ?ret
                      case k1 => k_asm
                      case k3 => k_asm
                      case k5 => k_asm
                      case kK => exact rfl
                      case kd => first | ktr_room | decide
                      case ku => first | ktr_units | decide
                      case hl => exact .tail _ (.tail _ (.head _))
                      case turn =>
                        rintro i v x nw all hx ⟨rfl, tv, rfl⟩ hsub
                        obtain ⟨P', tn9, tt9, hP9, hm9⟩ := hpa i (List.getElem?_eq_some_iff.mp hx).1
                        obtain rfl : x = .ref P' := by rw [hP9] at hx; exact (Option.some.inj hx).symm
                        have in_pl : ∀ p ∈ pl, p ∈ all := fun p hp => hsub p (by repeat (first | exact hp | refine List.Mem.tail _ ?_))
                        refine FunC.mono (lamC w0 mean mg mb (hsub _ (.head _)) (hsub _ (.tail _ (.head _))) d1 d2 (in_pl _ hm9)) ?_
                        rintro v nw ⟨rfl, t, rfl⟩
                        exact ⟨rfl, t, rfl⟩
                      case ret =>
                        rintro v nw h8 tk8 ⟨rfl, tv, rfl⟩ F23 N23 hd23
                        have N24 := news_sub ((PS, LCg.lst ys') :: (LE, W.listOf #[Value.str (xr.getD k2 { cps := #[] }) tn, Value.int (cs.getD k2 0) tc] 0) :: (DU, W.listOf dv.toArray e) :: (D3, LCg.lst zs) :: (D2, LCg.lst ys) :: (NA, W.listOf vr.toArray 0) :: (L + 1 + 1 + 1 + 1 + 1, cw) :: (L + 1 + 1 + 1 + 1, ct) :: (L + 1 + 1 + 1, ck) :: (L + 1 + 1, cc) :: (L + 1, cn) :: (30, tabObj ps) :: (70, tabObj _) :: pl) N23 (fun p hp => .tail _ (.tail _ hp))
                        rename (PS < _ ∧ _) => z9
                        clear N23 F22 N22 d1 d2 hd23 z9
                        (try dsimp only at F23 N24 ⊢)
                        k_steps
                        refine Blk.out ?_
                        rename Fr h₀ L _ _ => F25
                        rename News h₀ L _ _ => N25
                        (try (with_reducible refine Blk.out ?_))
                        clear mk200 mk217
                        have mk217 : Mk 217 := trivial; have mk218 : Mk 218 := trivial
                        obtain ⟨dr2, dl, he⟩ : ∃ dr2 dl, k2 :: dr = dr2 ++ [dl] := ⟨(k2 :: dr).dropLast, (k2 :: dr).getLast (by simp), (List.dropLast_concat_getLast _).symm⟩
                        have hlast := due_last (hd0.trans he)
                        have hmax := maxN_due (fun j hj => cs_pos hcs hx4 hxr4 j (by lia  )) (hd0.trans he)
                        have e9 : ys'.length = vr.length := by lia  
                        rw [e9] at F25
                        simp only [hmax] at F25
                        k_steps
                        refine Blk.out ?_
                        rw [last_at he]
                        obtain ⟨tc9, hc9⟩ := int_get hys (k := dl) (by have := hlast.1; lia  )
                        refine item_listL (News.isList N25 (by k_mem)) (k := (dl:Int)) (by lia  ) (by have := hlast.1; lia  ) (by rw [Int.toNat_natCast]; exact hc9) ?_
                        k_steps
                        rotate_left
                        · exfalso
                          simp_all
                        refine Blk.out ?_
                        rename Fr h₀ L _ _ => F22
                        rename News h₀ L _ _ => N22
                        rename (_ = Data.fields _) => d1
                        rename (_[1]? = some _) => d2
                        with_unfolding_all refine' red_call (e := ys'.length) (vs := ys') (fun i v nw => nw = [] ∧ ∃ t, v = .int (sumN (fun j => cs.getD j 0) i) t) ?k1 F22 ?k3 N22 ?k5 ?kK ?kd ?ku (.head _) ?hl (notMiss_int w0 _ _ _) ⟨rfl, _, rfl⟩ (by lia  ) ?turn ?ret
                        case k1 => k_asm
                        case k3 => k_asm
                        case k5 => k_asm
                        case kK => exact rfl
                        case kd => first | ktr_room | decide
                        case ku => first | ktr_units | decide
                        case hl => exact .tail _ (.tail _ (.head _))
                        case turn =>
                          rintro i v x nw all hx ⟨rfl, tv, rfl⟩ hsub
                          obtain ⟨P', tn9, tt9, hP9, hm9⟩ := hpa i (List.getElem?_eq_some_iff.mp hx).1
                          obtain rfl : x = .ref P' := by rw [hP9] at hx; exact (Option.some.inj hx).symm
                          have in_pl : ∀ p ∈ pl, p ∈ all := fun p hp => hsub p (by repeat (first | exact hp | refine List.Mem.tail _ ?_))
                          refine FunC.mono (lamD w0 mean mg mb (hsub _ (.head _)) (hsub _ (.tail _ (.head _))) d1 d2 (in_pl _ hm9)) ?_
                          rintro v nw ⟨rfl, t, rfl⟩
                          exact ⟨rfl, t, rfl⟩
                        case ret =>
                          rintro v nw h8 tk8 ⟨rfl, tv, rfl⟩ F23 N23 hd23
                          have N24 := news_sub [(D2, LCg.lst ys), (L + 1 + 1, cc), (30, tabObj ps), (70, tabObj _)] N23 (by repeat' (first | exact (fun _ h => absurd h List.not_mem_nil) | refine List.forall_mem_cons.mpr ⟨by k_mem, ?_⟩))
                          have hsum : sumN (fun j => cs.getD j 0) ys'.length = cs.sum := by
                            rw [hl2, ← hcl]; exact sumN_all cs
                          rename (PS < _ ∧ _) => z9
                          clear N23 F22 N22 d1 d2 hd23 z9
                          rw [hsum]
                          (try dsimp only at F23 N24 ⊢)
                          k_steps
                          rename Fr h₀ L _ _ => F30
                          rename News h₀ L _ _ => N30
                          exact ⟨by rw [beq_self_eq_true], _, _, _, [(D2, LCg.lst ys), (L + 1 + 1, cc)], ps, _, rfl, F30, N30⟩
)
end Mine
end
open PySem PySem.W PyProof.Rows
theorem PySem.Challenge.cw_mq0210_01_holds : PySem.Challenge.rw_mq0210_01.Holds :=
  Mine.law0
