import PyProof.Rows.All
import Wide.All
import OpenK.AllK
import Wide.FinOn
import PyProof.Walk
import PyProof.WalkLemmas
import PySem.Challenge.RW_mq0210_02
set_option compiler.extract_closed false
set_option genSizeOf false
set_option genSizeOfSpec false
set_option genInjectivity false
section
open PySem PySem.W PyProof.Rows
set_option Elab.async false
namespace Mine
open_top hd for PySem.Challenge.rw_mq0210_02
end Mine
end
section
open PySem PySem.W PyProof.Rows
set_option Elab.async false
namespace Mine
noncomputable abbrev LOO : List Str := (looseW hd.view_39 [Str.ofString "_initial_missing", Str.ofString "reduce"] ++
          List.map (fun x => x.name) (recsOf hd.view_39) ++
        List.map (fun x => x.fst) (litsOf hd.view_39) ++
      List.map (fun x => x.name)
        (clssOf hd.view_39 (looseW hd.view_39 [Str.ofString "_initial_missing", Str.ofString "reduce"])))
/-- what a call of the def at f does: it hands back R, and all that stood stands -/
noncomputable def Clm (w : World) (mean : ExcName → Option Value) (mg mb : Str → Option Value) (f : Addr) (kd ku : Nat) (pre : Prop) (vs : List Value) (R : Tok → Value) : Prop :=
  ∀ (dp un : Nat) (gd : Option (List Code)) (cn : Str) (cs : Scope) (a : Addr) (ccd : Value) (cl : List (Str × Addr)) (outer : List Env) (A₀ : Around) (base h₀ : Heap) (L : Addr) (m : Str → Option Value) (news : List (Addr × Obj)) (s : Shared) (Q E : Value → Shared → Prop),
    Below A₀ base outer h₀ → Fr h₀ L s.heap m → (hd.heap_39 w.params).In h₀ → News h₀ L s.heap news → Top topProg LOO mean mg mb h₀ → cs.kind = .function →
    pre → dp + kd < recursionLimit → un + ku < cLine →
    (∀ (t : Tok) (h' : Heap) (tk' : Nat), Fr h₀ L h' m → News h₀ L h' news → Q (R t) { s with heap := h', toks := tk' }) →
      wpAny (model PySem.Challenge.rw_mq0210_02.row.prog w) (ktrTop dp un gd cn cs L a ccd cl outer) (call (.ref f) vs) Q E s
noncomputable def subc (x y : Str) : Int := if x = y then 0 else if Txt.lower x = Txt.lower y then 1 else 2
set_option maxRecDepth 100000 in
set_option maxHeartbeats 8000000 in
theorem sub_claim (w : World) (mean : ExcName → Option Value) (mg mb : Str → Option Value) (x y : Str) (tx ty : Tok) :
   Clm w mean mg mb 37 10 50 (x.length ≤ 64 ∧ y.length ≤ 64) [.str x tx, .str y ty] (fun t => .int (subc x y) t) := by
   have hx : PySem.Challenge.rw_mq0210_02 = PySem.Challenge.rw_mq0210_02 := rfl
   have hy : hd.heap_39 = hd.heap_39 := rfl
   revert hx hy
   k_fill
   intro hx hy
   clear hx hy
   w_on
   intro dp un gd cn cs a ccd clo outer A₀ base h₀ L mm news s Q E hB F X N T hk hpre hdp hun hret
   obtain ⟨hlx, hly⟩ := hpre
   refine wpAny_call ?_
   k_dflt cell_enter
   k_steps
   all_goals (refine cb_retI hret ?_ (by assumption) (by assumption); simp_all [subc])
end Mine
end
section
namespace Mine
noncomputable def Blk (p : Prop) : Prop := p
theorem Blk.mk {p : Prop} (h : Blk p) : p := h
theorem Blk.out {p : Prop} (h : p) : Blk p := h
/-- the goal behind a variable, while something is taken apart -/
theorem gh {G : Prop} (k : ∀ p : Prop, (G → p) → p) : G := k G id
/-- a fact of a list's entries, entry by entry -/
theorem fac {α : Type} {P : α → Prop} {a : α} {l : List α} (h : P a) (h2 : ∀ p ∈ l, P p) : ∀ p ∈ a :: l, P p := List.forall_mem_cons.mpr ⟨h, h2⟩
end Mine
end
section
open PySem PySem.W PyProof.Rows
set_option Elab.async false
namespace Mine
/-- a mark: which stops of the walk are on -/
noncomputable def Mk (_ : Nat) : Prop := True
theorem Mk.go (n : Nat) {p : Prop} (_ : Mk n) (q : p) : p := q
theorem Blk.at (n : Nat) {p : Prop} (_ : Mk n) (q : Blk p) : p := q
/-- the tactic text of a marked stop -/
def stopAt (n : Nat) : Lean.MacroM (Lean.TSyntax `tactic) := do
  let k := Lean.quote n
  `(tactic| (refine Blk.at $k ?_ ?_; with_reducible assumption))
/-- the tactic text of a stop -/
def blkM : Lean.MacroM (Lean.TSyntax `tactic) := `(tactic| refine Blk.mk ?_)
end Mine
end
section
open PySem PySem.W PyProof.Rows
set_option Elab.async false
namespace Mine
/-- the signs' numbers of a text -/
noncomputable abbrev cl (x : Str) : List Nat := x.cps.toList
theorem cl_len (x : Str) : (cl x).length = x.length := by simp [cl, Str.length]
theorem cl_inj {x y : Str} (h : cl x = cl y) : x = y := Str.ext' (Array.ext' h)
theorem sl_from {x : Str} {k : Nat} (h : k ≤ x.length) : cl (Txt.slice x (some (k : Int)) none) = (cl x).drop k := by
  rw [slice_from_eq (b := x.length) (by lia  ) (by lia  ) rfl]
  show ((x.cps.toList.drop (k : Int).toNat).take ((x.length : Int) - (k : Int)).toNat) = _
  have e1 : ((k : Nat) : Int).toNat = k := by lia  
  rw [e1]
  apply List.take_of_length_le
  have : x.cps.toList.length = x.length := cl_len x
  rw [List.length_drop]; lia  
theorem sl_all (x : Str) : Txt.slice x none none = x := by
  have e : Txt.slice x none none = Txt.slice x (some ((0 : Nat) : Int)) none := by
    unfold Txt.slice
    rw [StrLaws.sliceIdx_none_lo]; rfl
  apply cl_inj
  rw [e, sl_from (Nat.zero_le _)]; rfl
theorem idx_neg {j len : Nat} (hj : 0 < j) (hl : j ≤ len) : Builtin.Str.strSliceIndices none (some (-(j : Int))) 1 len = Builtin.Str.strSliceIndices none (some ((len - j : Nat) : Int)) 1 len := by
  have a : -(j : Int) < 0 := by lia  
  have b : ¬ (((len - j : Nat) : Int) < 0) := by lia  
  have e : -(j : Int) + len = ((len - j : Nat) : Int) := by lia  
  simp only [Builtin.Str.strSliceIndices, a, b, if_true, if_false, e]
theorem sl_neg {x : Str} {j : Nat} (hj : 0 < j) (hl : j ≤ x.length) : cl (Txt.slice x none (some (-(j : Int)))) = (cl x).take (x.length - j) := by
  have e : Txt.slice x none (some (-(j : Int))) = Txt.slice x none (some ((x.length - j : Nat) : Int)) := by
    unfold Txt.slice
    rw [idx_neg hj hl]
  rw [e]
  have q := beq_iff_eq.mp (slice_closes_toL (x := x) (j := ((x.length - j : Nat) : Int)) (by lia  ) (by lia  ))
  rw [q]
  show ((x.cps.toList.drop (0 : Int).toNat).take (((x.length - j : Nat) : Int) - 0).toNat) = _
  have e1 : (((x.length - j : Nat) : Int) - 0).toNat = x.length - j := by lia  
  rw [e1]; rfl
theorem it_pos {x : Str} {k : Nat} (h : k < x.length) : Txt.item x (k : Int) = ⟨#[(cl x).getD k 0]⟩ := by
  unfold Txt.item Txt.charAt
  rw [StrLaws.seqIndex_nonneg (by lia  ) (by lia  )]
  simp [cl, List.getD]
theorem it_neg {x : Str} {j : Nat} (h : j < x.length) : Txt.item x (-(j : Int) - 1) = ⟨#[(cl x).reverse.getD j 0]⟩ := by
  unfold Txt.item Txt.charAt
  rw [StrLaws.seqIndex_neg (by lia  ) (by lia  )]
  have hl : (cl x).length = x.length := cl_len x
  have e : (-(j : Int) - 1 + x.length).toNat = x.length - 1 - j := by lia  
  rw [e]
  simp only [Option.bind_some]
  have : (cl x).reverse.getD j 0 = (cl x).getD (x.length - 1 - j) 0 := by
    simp only [List.getD]
    rw [List.getElem?_reverse (by lia  ), hl]
  rw [this]
  simp [cl, List.getD]
theorem one_inj {a b : Nat} : ((⟨#[a]⟩ : Str) == ⟨#[b]⟩) = (a == b) := by
  by_cases h : a = b
  · subst h; simp
  · have : (⟨#[a]⟩ : Str) ≠ ⟨#[b]⟩ := by
      intro e; injection e with e; simp at e; exact h e
    rw [beq_eq_false_iff_ne.mpr this, beq_eq_false_iff_ne.mpr h]
noncomputable def cpl : List Nat → List Nat → Nat
  | a :: as, b :: bs => if a = b then cpl as bs + 1 else 0
  | _, _ => 0
theorem cpl_le1 : ∀ xs ys : List Nat, cpl xs ys ≤ xs.length
  | [], _ => by simp [cpl]
  | _ :: _, [] => by simp [cpl]
  | a :: as, b :: bs => by
    unfold cpl; split
    · have := cpl_le1 as bs; simp; lia  
    · simp
theorem cpl_le2 : ∀ xs ys : List Nat, cpl xs ys ≤ ys.length
  | [], _ => by simp [cpl]
  | _ :: _, [] => by simp [cpl]
  | a :: as, b :: bs => by
    unfold cpl; split
    · have := cpl_le2 as bs; simp; lia  
    · simp
theorem cpl_more : ∀ {xs ys : List Nat} {k : Nat}, k ≤ cpl xs ys → k < xs.length → k < ys.length → xs.getD k 0 = ys.getD k 0 → k + 1 ≤ cpl xs ys
  | [], _, _, _, h, _, _ => by simp at h
  | _ :: _, [], _, _, _, h, _ => by simp at h
  | a :: as, b :: bs, 0, _, _, _, e => by
    simp at e; subst e; simp [cpl]
  | a :: as, b :: bs, k + 1, h, h1, h2, e => by
    unfold cpl at h ⊢
    split at h
    · rename_i q; rw [if_pos q]
      have := cpl_more (xs := as) (ys := bs) (k := k) (by lia  ) (by simpa using h1) (by simpa using h2) (by simpa using e)
      lia  
    · lia  
theorem cpl_stop : ∀ {xs ys : List Nat} {k : Nat}, k ≤ cpl xs ys → (k < xs.length → k < ys.length → xs.getD k 0 ≠ ys.getD k 0) → k = cpl xs ys
  | [], _, k, h, _ => by simp [cpl] at h ⊢; lia  
  | _ :: _, [], k, h, _ => by simp [cpl] at h ⊢; lia  
  | a :: as, b :: bs, 0, _, e => by
    have := e (by simp) (by simp)
    simp at this
    simp [cpl, this]
  | a :: as, b :: bs, k + 1, h, e => by
    unfold cpl at h ⊢
    split at h
    · rename_i q; rw [if_pos q]
      have := cpl_stop (xs := as) (ys := bs) (k := k) (by lia  ) (fun h1 h2 => by simpa using e (by simpa using h1) (by simpa using h2))
      lia  
    · lia  

noncomputable def MAXI : Int := 9223372036854775807
noncomputable def inner (sc : Nat → Int) : List Nat → List Int → Int → Int → Int → List Int × Int × Int
  | a :: as, r :: row, d, res, mn =>
    let res' := min (min res r + 2) (d + sc a)
    let q := inner sc as row r res' (if res' < mn then res' else mn)
    (res' :: q.1, q.2)
  | _, _, _, res, mn => ([], res, mn)
noncomputable def outer (sc : Nat → Nat → Int) (as : List Nat) (m : Int) : List Nat → Nat → List Int → Int → Int
  | [], _, _, res => res
  | b :: bs, i, row, _ =>
    let q := inner (sc b) as row (i * 2) (i * 2) MAXI
    if m < q.2.2 then m + 1 else outer sc as m bs (i + 1) q.1 q.2.1
noncomputable def levM (sc : Nat → Nat → Int) (as bs : List Nat) (m : Int) : Int :=
  if m < ((bs.length : Int) - as.length) * 2 then m + 1 else outer sc as m bs 0 ((List.range as.length).map fun (i : Nat) => 2 + (i : Int) * 2) 0
noncomputable def levT (sc : Nat → Nat → Int) (as bs : List Nat) (m : Int) : Int :=
  if as.length = 0 ∨ bs.length = 0 then 2 * ((as.length : Int) + bs.length)
  else if bs.length < as.length then levM sc bs as m else levM sc as bs m
noncomputable def cutBack (as bs : List Nat) : List Nat := as.take (as.length - cpl as.reverse bs.reverse)
noncomputable def levL (sc : Nat → Nat → Int) (xs ys : List Nat) (m : Int) : Int :=
  if xs = ys then 0 else
  let as := xs.drop (cpl xs ys)
  let bs := ys.drop (cpl xs ys)
  levT sc (cutBack as bs) (bs.take (bs.length - cpl as.reverse bs.reverse)) m
noncomputable def InnOk (sc : Nat → Int) (as : List Nat) (R0 : List Int) (Z : List Int × Int × Int) (n : Nat) (row : List Int) (d res mn : Int) : Prop :=
  row.length = R0.length ∧ ∃ done : List Int, done.length = n ∧ row = done ++ R0.drop n ∧ done ++ (inner sc (as.drop n) (R0.drop n) d res mn).1 = Z.1 ∧ (inner sc (as.drop n) (R0.drop n) d res mn).2 = Z.2
theorem InnOk.start (sc : Nat → Int) (as : List Nat) (R0 : List Int) (d res mn : Int) : InnOk sc as R0 (inner sc as R0 d res mn) 0 R0 d res mn :=
  ⟨rfl, [], rfl, rfl, rfl, rfl⟩
theorem InnOk.step {sc : Nat → Int} {as : List Nat} {R0 : List Int} {Z : List Int × Int × Int} {n : Nat} {row : List Int} {d res mn : Int} (h : InnOk sc as R0 Z n row d res mn) (hn : n < as.length) (he : as.length = R0.length) :
    InnOk sc as R0 Z (n + 1) (row.set n (min (min res (row.getD n 0) + 2) (d + sc (as.getD n 0)))) (row.getD n 0) (min (min res (row.getD n 0) + 2) (d + sc (as.getD n 0))) (if min (min res (row.getD n 0) + 2) (d + sc (as.getD n 0)) < mn then min (min res (row.getD n 0) + 2) (d + sc (as.getD n 0)) else mn) := by
  obtain ⟨hl, done, hd, hr, h1, h2⟩ := h
  have ea : as.drop n = as.getD n 0 :: as.drop (n + 1) := by
    rw [List.drop_eq_getElem_cons hn]; congr 1; simp [List.getD, hn]
  have hn' : n < R0.length := by lia  
  have er : R0.drop n = R0.getD n 0 :: R0.drop (n + 1) := by
    rw [List.drop_eq_getElem_cons hn']; congr 1; simp [List.getD, hn']
  have ew : row.getD n 0 = R0.getD n 0 := by
    rw [hr, List.getD, List.getElem?_append_right (by lia  ), hd, er]
    simp
  rw [ew]
  rw [ea, er] at h1 h2
  refine ⟨by rw [List.length_set]; exact hl, done ++ [min (min res (R0.getD n 0) + 2) (d + sc (as.getD n 0))], by simp [hd], ?_, ?_, ?_⟩
  · rw [hr, List.set_append_right _ _ (by lia  ), hd, er]
    simp
  · rw [List.append_assoc]
    simpa [inner] using h1
  · simpa [inner] using h2
theorem InnOk.fin {sc : Nat → Int} {as : List Nat} {R0 : List Int} {Z : List Int × Int × Int} {n : Nat} {row : List Int} {d res mn : Int} (h : InnOk sc as R0 Z n row d res mn) (hn : n = as.length) (he : as.length = R0.length) : row = Z.1 ∧ res = Z.2.1 ∧ mn = Z.2.2 := by
  obtain ⟨hl, done, hd, hr, h1, h2⟩ := h
  rw [List.drop_of_length_le (by lia  ), List.drop_of_length_le (by lia  )] at h1 h2
  rw [List.drop_of_length_le (by lia  ), List.append_nil] at hr
  simp only [inner, List.append_nil] at h1 h2
  exact ⟨by rw [hr, h1], by rw [← h2], by rw [← h2]⟩
theorem outer_step {sc : Nat → Nat → Int} {as : List Nat} {m : Int} {q : List Nat} {i : Nat} {row : List Int} {res : Int} (h : i < q.length) :
    outer sc as m (q.drop i) i row res = if m < (inner (sc (q.getD i 0)) as row (i * 2) (i * 2) MAXI).2.2 then m + 1 else outer sc as m (q.drop (i + 1)) (i + 1) (inner (sc (q.getD i 0)) as row (i * 2) (i * 2) MAXI).1 (inner (sc (q.getD i 0)) as row (i * 2) (i * 2) MAXI).2.1 := by
  have e : q.drop i = q.getD i 0 :: q.drop (i + 1) := by
    rw [List.drop_eq_getElem_cons h]; congr 1; simp [List.getD, h]
  rw [e]
  rfl
end Mine
end
section
open PySem PySem.W PyProof.Rows
set_option Elab.async false
namespace Mine
theorem kst_look (r : Str → Option Value) : ∀ (C : List (Str × Value)) (z : Str), kstB r C z = (C.lookup z).or (r z)
  | [], z => rfl
  | (n, v) :: C, z => by
    show (if z = n then some v else kstB r C z) = _
    rw [List.lookup_cons]
    by_cases h : z = n
    · subst h; simp
    · rw [if_neg h, beq_eq_false_iff_ne.mpr h, kst_look r C z]
noncomputable def AllSame (C l : List (Str × Value)) : List Str → Prop
  | [] => True
  | n :: ns => C.lookup n = l.lookup n ∧ AllSame C l ns
theorem AllSame.at {C l : List (Str × Value)} : ∀ {ns : List Str}, AllSame C l ns → ∀ n ∈ ns, C.lookup n = l.lookup n
  | [], _, _, h => nomatch h
  | _ :: _, h, n, hn => by
    rcases List.mem_cons.mp hn with rfl | hn
    · exact h.1
    · exact AllSame.at h.2 n hn
theorem lk_none {C : List (Str × Value)} {z : Str} (h : z ∉ C.map (·.1)) : C.lookup z = none := by
  induction C with
  | nil => rfl
  | cons p C ih =>
    simp only [List.map_cons, List.mem_cons, not_or] at h
    rw [List.lookup_cons, beq_eq_false_iff_ne.mpr h.1]
    exact ih h.2
theorem kst_same {r : Str → Option Value} {C l : List (Str × Value)} (h : AllSame C l (C.map (·.1) ++ l.map (·.1))) : kstB r C = kstB r l := by
  funext z
  rw [kst_look, kst_look]
  by_cases hz : z ∈ C.map (·.1) ++ l.map (·.1)
  · rw [h.at z hz]
  · simp only [List.mem_append, not_or] at hz
    rw [lk_none hz.1, lk_none hz.2]
theorem fr_same {h₀ h : Heap} {L : Addr} {r : Str → Option Value} {C l : List (Str × Value)} (F : Fr h₀ L h (kstB r C)) (e : AllSame C l (C.map (·.1) ++ l.map (·.1))) : Fr h₀ L h (kstB r l) := kst_same e ▸ F
theorem lk_kst (l : List (Str × Value)) : (fun z => List.lookup z l) = kstB (fun _ => none) l := by
  funext z
  rw [kst_look]; simp
theorem fr_start {h₀ h : Heap} {L : Addr} {l l' : List (Str × Value)} (F : Fr h₀ L h (fun z => List.lookup z l)) (e : l = l') : Fr h₀ L h (kstB (fun _ => none) l') := by
  subst e; rw [← lk_kst]; exact F

/-- the end of a while's turn -/
inductive WT {σ : Type} (h₀ : Heap) (L : Addr) (s : Shared) (Led : σ → List (Addr × Obj)) (ps : σ → List (Str × Value)) (r : Str → Option Value) (P : σ → Prop) (μ : σ → Nat) (n : Nat) : Flow → Shared → Prop
  | mk (c : σ) (h : Heap) (tk : Nat) (hP : P c) (hm : μ c < n) (F : Fr h₀ L h (kstB r (ps c))) (N : News h₀ L h (Led c)) : WT h₀ L s Led ps r P μ n .next { s with heap := h, toks := tk }
/-- the exit of a while -/
inductive WX {σ : Type} (h₀ : Heap) (L : Addr) (s : Shared) (Led : σ → List (Addr × Obj)) (ps : σ → List (Str × Value)) (r : Str → Option Value) (D : σ → Prop) (c : σ) : Shared → Prop
  | mk (h : Heap) (tk : Nat) (hD : D c) (F : Fr h₀ L h (kstB r (ps c))) (N : News h₀ L h (Led c)) : WX h₀ L s Led ps r D c { s with heap := h, toks := tk }
/-- between a while's turns -/
inductive WI {σ : Type} (Led : σ → List (Addr × Obj)) (ps : σ → List (Str × Value)) (r : Str → Option Value) (P : σ → Prop) (μ : σ → Nat) : Nat → (Str → Option Value) → List (Addr × Obj) → Prop
  | mk (c : σ) (hP : P c) : WI Led ps r P μ (μ c) (kstB r (ps c)) (Led c)
/-- the end of a for's turn (the library's kst_range) -/
theorem kst_end {σ : Type} {h₀ : Heap} {L : Addr} {Led : σ → List (Addr × Obj)} {ps : σ → List (Str × Value)} {Facts : σ → Prop} {x : Str} {stored : List Str} {m₀ m' : Str → Option Value} {P : List Int → σ → Prop} {pre : List Int} {own news' : List (Addr × Obj)} {adr : List Addr} {s : Shared} {Q : Flow → Shared → Prop} {h' : Heap} {tk : Nat}
    (c : σ) (F : Fr h₀ L h' m') (N : News h₀ L h' news') (h1 : ∀ p ∈ Led c, p ∈ news') (h2 : ∀ p ∈ own, p ∈ news') (e : (Led c).map (·.1) = adr) (hf : Facts c) (hk : ∀ p ∈ ps c, m' p.1 = some p.2) (hr : ∀ z, z ≠ x → (∀ p ∈ ps c, z ≠ p.1) → stored.contains z = false → m' z = m₀ z) (hp : P pre c) :
    InvPostN h₀ L (KstS Led ps Facts x stored m₀ P pre) own adr s Q .next { s with heap := h', toks := tk } := ⟨h', tk, m', news', Led c, rfl, F, N, h1, h2, e, c, rfl, hf, hk, hr, hp⟩
theorem my_while {prog : Program} {w : World} {A : Around} {E : Value → Shared → Prop} {Q : Flow → Shared → Prop} {s : Shared} {env : Env} {h₀ : Heap} {L : Addr}
    {σ : Type} {test : Expr} {body : List Stmt} {pos : Pos} {r : Str → Option Value} (Led : σ → List (Addr × Obj)) (ps : σ → List (Str × Value)) (P : σ → Prop) (D : σ → Prop) (μ : σ → Nat) (c₀ : σ)
    (F : Fr h₀ L s.heap (kstB r (ps c₀))) (N : News h₀ L s.heap (Led c₀)) (hp : P c₀)
    (turn : ∀ (c : σ) h tk (T : Flow → Shared → Prop) (X : Shared → Prop), (∀ c' h tk, P c' → μ c' < μ c → Fr h₀ L h (kstB r (ps c')) → News h₀ L h (Led c') → T .next { s with heap := h, toks := tk }) → (∀ h tk, D c → Fr h₀ L h (kstB r (ps c)) → News h₀ L h (Led c) → X { s with heap := h, toks := tk }) →
      P c → Fr h₀ L h (kstB r (ps c)) → News h₀ L h (Led c) →
      wpAny (model prog w) A (isTrue test env (eval test env)) (fun b s₂ =>
        if b = true then wpAny (model prog w) A (execs body env) T E s₂ else X s₂) E { s with heap := h, toks := tk })
    (done : ∀ (c : σ) h tk, D c → Fr h₀ L h (kstB r (ps c)) → News h₀ L h (Led c) → Q .next { s with heap := h, toks := tk })
    (hE : PassesOwn (model prog w) A env E := by passes_own) :
    wpAny (model prog w) A (exec (.While test body [] pos) env) Q E s := by
  refine While_inv2 (WI Led ps r P μ) F N (.mk c₀ hp) ?_ hE
  intro n m₁ nx h tk F₁ N₁ hJ0
  obtain ⟨c, hP⟩ := hJ0
  refine wpAny_mono (turn c h tk (WT h₀ L s Led ps r P μ (μ c)) (WX h₀ L s Led ps r D c) (fun c' _ _ hP hm F N => .mk c' _ _ hP hm F N) (fun _ _ hD F N => .mk _ _ hD F N) hP F₁ N₁) (fun b s₂ p => ?_) fun _ _ x => x
  cases b with
  | true =>
    rw [if_pos rfl] at p ⊢
    refine wpAny_mono p (fun f s₃ q => ?_) fun _ _ x => x
    obtain ⟨c', h', tk', hP', hm, F', N'⟩ := q
    exact ⟨h', tk', _, _, _, rfl, F', N', hm, .mk c' hP'⟩
  | false =>
    rw [if_neg Bool.false_ne_true] at p ⊢
    obtain ⟨h', tk', hD, F', N'⟩ := p
    exact done c h' tk' hD F' N'

theorem execs_cut (env : Env) : ∀ (n : Nat) (l : List Stmt), execs l env = (execs (l.take n) env).bind (fun f => match f with | .next => execs (l.drop n) env | f => pure f)
  | 0, l => rfl
  | n + 1, [] => rfl
  | n + 1, st :: rest => by
    have ih := execs_cut env n rest
    rw [List.take_succ_cons, List.drop_succ_cons]
    have e1 : execs (st :: rest) env = (exec st env).bind (fun f => match f with | .next => execs rest env | f => pure f) := rfl
    have e2 : execs (st :: rest.take n) env = (exec st env).bind (fun f => match f with | .next => execs (rest.take n) env | f => pure f) := rfl
    rw [e1, e2, Sem.bind_assoc]
    congr 1
    funext f
    cases f with
    | next => exact ih
    | brk => rfl
    | cont => rfl
    | ret v => rfl
/-- a meeting of paths ahead of the n-th statement -/
inductive JX (h₀ : Heap) (L : Addr) (s : Shared) (news : List (Addr × Obj)) (R : (Str → Option Value) → Prop) : Shared → Prop
  | mk (h : Heap) (tk : Nat) (m : Str → Option Value) (hR : R m) (F : Fr h₀ L h m) (N : News h₀ L h news) : JX h₀ L s news R { s with heap := h, toks := tk }
theorem cut_fr {prog : Program} {w : World} {A : Around} {E : Value → Shared → Prop} {Q : Flow → Shared → Prop} {s : Shared} {env : Env} {h₀ : Heap} {L : Addr} {h : Heap} {m : Str → Option Value} {l : List Stmt} (n : Nat) (news : List (Addr × Obj)) (R : (Str → Option Value) → Prop)
    (_F : Fr h₀ L h m)
    (h1 : ∀ Q1 : Flow → Shared → Prop, (∀ h tk m', R m' → Fr h₀ L h m' → News h₀ L h news → Q1 .next { s with heap := h, toks := tk }) → (∀ v s', Q (.ret v) s' → Q1 (.ret v) s') → wpAny (model prog w) A (execs (l.take n) env) Q1 E s)
    (h2 : ∀ h tk m', R m' → Fr h₀ L h m' → News h₀ L h news → wpAny (model prog w) A (execs (l.drop n) env) Q E { s with heap := h, toks := tk }) :
    wpAny (model prog w) A (execs l env) Q E s := by
  rw [execs_cut env n l]
  refine wpAny_bind (wpAny_mono (h1 (fun f s' => match f with | .next => JX h₀ L s news R s' | f => Q f s') (fun _ _ _ hR F N => .mk _ _ _ hR F N) fun _ _ z => z) (fun f s' p => ?_) fun _ _ e => e)
  cases f with
  | next =>
    obtain ⟨h', tk, m', hR, F', N'⟩ := p
    exact h2 h' tk m' hR F' N'
  | brk => exact wpAny_pure p
  | cont => exact wpAny_pure p
  | ret v => exact wpAny_pure p
theorem range2_ints : ∀ (vs : List Value) (a c : Int) (n : Nat), vs.length = n → (∀ (j : Nat) (v : Value), vs[j]? = some v → ∃ t, v = .int (a + j * c) t) → IntsAre vs ((List.range n).map fun (i : Nat) => a + i * c)
  | [], a, c, n, e, _ => by
    subst e
    exact IntsAre.nil
  | v :: r, a, c, n, e, h => by
    subst e
    rw [List.length_cons, List.range_succ_eq_map, List.map_cons, List.map_map]
    obtain ⟨t, ht⟩ := h 0 v rfl
    have hv : v = .int (a + ((0 : Nat) : Int) * c) t := ht
    rw [hv]
    refine IntsAre.cons _ _ ?_
    have := range2_ints r (a + c) c r.length rfl (fun j v hj => by
      obtain ⟨t', ht'⟩ := h (j + 1) v hj
      refine ⟨t', ht'.trans ?_⟩
      congr 1
      rw [Int.natCast_succ, Int.add_mul, Int.one_mul]; omega)
    have e2 : (List.map (fun (i : Nat) => a + c + (i : Int) * c) (List.range r.length)) = List.map ((fun (i : Nat) => a + (i : Int) * c) ∘ Nat.succ) (List.range r.length) := by
      apply List.map_congr_left
      intro i _
      simp only [Function.comp]
      rw [Int.natCast_succ, Int.add_mul, Int.one_mul]; omega
    rw [← e2]
    exact this
theorem list_range {prog : Program} {w : World} {A : Around} {E : Value → Shared → Prop} {s : Shared} {h₀ : Heap} {L r : Addr} {m : Str → Option Value} {news : List (Addr × Obj)} {a b c : Int} {t₀ u₀ v₀ : Tok} {n : Nat} {Q : Value → Shared → Prop}
    (hh : A.handled = none) (F : Fr h₀ L s.heap m) (N : News h₀ L s.heap news) (hr : IsRange s.heap r a b c t₀ u₀ v₀) (hsmall : Builtin.Range.small a b c = true) (hn : Builtin.Range.rangeSize a b c = (n : Int)) (hz : n ≤ 2 ^ 24)
    (h : ∀ D us c' h' tk, Fr h₀ L h' m → News h₀ L h' ((D, listOf (List.toArray us) c') :: news) → (∀ p ∈ news, p.1 < D) → IntsAre us ((List.range n).map fun (i : Nat) => a + i * c) → Q (.ref D) { s with heap := h', toks := tk }) :
    wpAny (model prog w) A (call (.type "list") [.ref r]) Q E s := by
  refine call_list_range hh hr hsmall hn hz fun h' tk acc c' hk hD hI => ?_
  have hD' : h'.get? s.heap.objs.size = some (listOf (List.toArray acc.toList) c') := by
    rw [Array.toArray_toList]
    exact hD
  exact h _ acc.toList c' h' tk (F.keeps hk) (news_pushed F N hk hD' rfl) (fun p hp => Heap.lt_size (N p hp).1) (range2_ints _ _ _ _ (by rw [Array.length_toList]; exact hI.1) fun j v hj => hI.2 j v (by rw [← hj, Array.getElem?_toList]))
theorem truthy_yes {prog : Program} {w : World} {A : Around} {E : Value → Shared → Prop} {s : Shared} {a : Int} {t : Tok} {Q : Bool → Shared → Prop} (h0 : a ≠ 0) (h : Q true s) : wpAny (model prog w) A (truthy (.int a t)) Q E s :=
  truthy_int (by rw [bne_iff_ne.mpr h0]; exact h)
theorem truthy_no {prog : Program} {w : World} {A : Around} {E : Value → Shared → Prop} {s : Shared} {a : Int} {t : Tok} {Q : Bool → Shared → Prop} (h0 : a = 0) (h : Q false s) : wpAny (model prog w) A (truthy (.int a t)) Q E s :=
  truthy_int (by rw [h0]; exact h)
theorem slice_all {prog : Program} {w : World} {A : Around} {E : Value → Shared → Prop} {s : Shared} {value slice : Expr} {x : Str} {t : Tok} {h₀ : Heap} {L : Addr} {m : Str → Option Value} {news : List (Addr × Obj)} {Q : Value → Shared → Prop}
    (hF : Fr h₀ L s.heap m) (hN : News h₀ L s.heap news) (h : ∀ h' t' k, Fr h₀ L h' m → News h₀ L h' news → Q (.str x t') { s with heap := h', toks := k })
    (hs : subscripted slice false (.str x t) (.ref s.heap.objs.size) = operate [.ref s.heap.objs.size, .str x t] (getItem (.str x t) (.ref s.heap.objs.size)) := by with_unfolding_all rfl)
    (ht : ∀ r, letTemporaryGo value (.str x t) r = pure () := by intro _; with_unfolding_all rfl) (hsz : x.length ≤ sizeLine := by size_fits) :
    wpAny (model prog w) A (subscriptTail value slice (.str x t) (.ref s.heap.objs.size)) Q E { s with heap := s.heap.push { cls := .type "slice", data := .fields #[.none, .none, .none] } } :=
  slice_strN_nn hF hN (by rw [sl_all]; exact h) hs ht hsz
theorem ifmin (a b : Int) : (if b < a then b else a) = min a b := by
  by_cases h : b < a
  · rw [if_pos h]; omega
  · rw [if_neg h]; omega
end Mine
end
section
open PySem PySem.W PyProof.Rows
set_option Elab.async false
namespace Mine
local macro_rules | `(tactic| walk_at "subscriptTail Name BinOp str int") => stopAt 1
local macro_rules | `(tactic| walk_at "exec While BoolOp cons nil") => blkM
local macro_rules | `(tactic| walk_at "pyIter ref") => blkM
local macro_rules | `(tactic| walk_at "subscriptTail Name Slice str ref") => `(tactic| ((with_reducible show wpAny _ _ (subscriptTail _ (Expr.Slice none (some _) none _) _ _) _ _ _); (with_reducible rename Fr _ _ _ _ => F'); (with_reducible rename News _ _ _ _ => N'); refine slice_all (s := ⟨_, _, _, _, _⟩) F' N' ?_ (hsz := by size_fits); intro _ _ _ _ _; (try dsimp only)))
local macro_rules | `(tactic| walk_at "call type:list cons nil") => blkM
local macro_rules | `(tactic| walk_at "truthy int") => `(tactic| first | (refine truthy_yes (by lia  ) ?_; (try dsimp only)) | (refine truthy_no (by lia  ) ?_; (try dsimp only)))
local macro_rules | `(tactic| walk_at "ite") => `(tactic| ((with_reducible show (if (BEq.beq (α := Str) _ _) = true then _ else _)); (refine split_bool ?_ ?_ <;> (intro _; (try dsimp only)))))
theorem sub_call {w : World} {mean : ExcName → Option Value} {mg mb : Str → Option Value} {dp un : Nat} {gd : Option (List Code)} {cn : Str} {cs : Scope} {a : Addr} {ccd : Value} {cl : List (Str × Addr)} {outer : List Env} {A₀ : Around} {base h₀ : Heap} {L : Addr} {m : Str → Option Value} {news : List (Addr × Obj)} {s : Shared} {Q E : Value → Shared → Prop} {x y : Str} {tx ty : Tok}
    (hB : Below A₀ base outer h₀) (F : Fr h₀ L s.heap m) (X : (hd.heap_39 w.params).In h₀) (N : News h₀ L s.heap news) (T : Top topProg LOO mean mg mb h₀) (hk : cs.kind = .function) (hx : x.length ≤ 64) (hy : y.length ≤ 64) (hd : dp + 10 < recursionLimit) (hu : un + 50 < cLine)
    (hret : ∀ (t : Tok) (h' : Heap) (tk' : Nat), Fr h₀ L h' m → News h₀ L h' news → Q (.int (subc x y) t) { s with heap := h', toks := tk' }) :
      wpAny (model PySem.Challenge.rw_mq0210_02.row.prog w) (ktrTop dp un gd cn cs L a ccd cl outer) (call (.ref 37) [.str x tx, .str y ty]) Q E s :=
  sub_claim w mean mg mb x y tx ty dp un gd cn cs a ccd cl outer A₀ base h₀ L m news s Q E hB F X N T hk ⟨hx, hy⟩ hd hu hret
local macro_rules | `(tactic| walk_at "call ref cons nil") => blkM
local macro_rules | `(tactic| walk_at "setItem ref int int") => blkM
theorem lt_of_sl {n a j : Nat} (e : n = a - j) (h : ((n : Nat) : Int) ≠ 0) : j < a := by omega
theorem eq_of_sl {n a j : Nat} (e : n = a - j) (hj : j ≤ a) (h : ((n : Nat) : Int) = 0) : j = a := by omega
theorem sub_lt1 {a j : Nat} (h : j < a) : a - (j + 1) < a - j := by omega
theorem lt_of0 {a j : Nat} (e : 2 * (j : Int) < 1) (h : ((a : Nat) : Int) ≠ 0) : j < a := by omega
theorem eq_of0 {a j : Nat} (e : 2 * (j : Int) < 1) (h : ((a : Nat) : Int) = 0) : j = a := by omega
theorem wp_hide {α : Type} {M : Model} {A : Around} {x : Sem α} {Q : α → Shared → Prop} {E : Value → Shared → Prop} {s : Shared} (h : ∀ Q' : α → Shared → Prop, (∀ v s', Q v s' → Q' v s') → wpAny M A x Q' E s) : wpAny M A x Q E s := h Q fun _ _ z => z
theorem lenS (l : List Int) (a : Int) : l.length + 1 = (l ++ [a]).length := by simp
structure OS where
  us : List Value
  cc : Nat
  row : List Int
  res : Int
  t : Tok
structure IS where
  us : List Value
  cc : Nat
  row : List Int
  d : Int
  res : Int
  mn : Int
  td : Tok
  tr : Tok
  tn : Tok
noncomputable def sub2 (b a : Nat) : Int := subc ⟨#[b]⟩ ⟨#[a]⟩
set_option maxRecDepth 100000 in
set_option maxHeartbeats 0 in
theorem lev_claim (w : World) (mean : ExcName → Option Value) (mg mb : Str → Option Value) (x y : Str) (m : Int) (tx ty tm : Tok) :
   Clm w mean mg mb 44 20 100 (x.length ≤ 3 ∧ y.length ≤ 3) [.str x tx, .str y ty, .int m tm] (fun t => .int (levL sub2 (cl x) (cl y) m) t) := by
   have hx : PySem.Challenge.rw_mq0210_02 = PySem.Challenge.rw_mq0210_02 := rfl
   have hy : hd.heap_39 = hd.heap_39 := rfl
   revert hx hy
   k_fill
   intro hx hy
   clear hx hy
   w_on
   intro dp un gd cn cs aa ccd clo outs A₀ base h₀ L mm news s Q E hB F X N T hk hpre hdp hun hret
   obtain ⟨hlx, hly⟩ := hpre
   refine wpAny_call ?_
   k_dflt cell_enter
   (rename Fr _ _ _ _ => F0)
   have F0' := fr_start F0 (l' := [(Str.ofString "max_cost", .int m tm), (Str.ofString "b", .str y ty), (Str.ofString "a", .str x tx)]) rfl
   clear F0
   k_steps
   · rename (x == y) = true => he
     have he' : x = y := beq_iff_eq.mp he
     refine cb_retI hret ?_ (by assumption) (by assumption)
     subst he'
     simp [levL]
   · refine Blk.out ?_
     rename Fr _ _ _ _ => F1
     rename News _ _ _ _ => N1
     refine' my_while (σ := Nat × Tok) (r := kstB (fun _ => none) [(Str.ofString "max_cost", .int m tm), (Str.ofString "b", .str y ty), (Str.ofString "a", .str x tx)]) (fun _ => news) (fun c => [(Str.ofString "pre", Value.int c.1 c.2)]) (fun c => c.1 ≤ cpl (cl x) (cl y)) (fun c => c.1 = cpl (cl x) (cl y)) (fun c => x.length - c.1) (0, _) F1 N1 ?hp ?turn ?done ?hE
     case hp => exact Nat.zero_le _
     case hE => passes_own
     case turn =>
       rintro ⟨k, tk⟩ h tk' T X hT hX hP F2 N2
       clear F1 N1
       dsimp only at hP F2 N2 ⊢
       have hk1 := cpl_le1 (cl x) (cl y)
       have hk2 := cpl_le2 (cl x) (cl y)
       rw [cl_len] at hk1 hk2
       have hkx : k ≤ x.length := by lia  
       have hky : k ≤ y.length := by lia  
       k_steps
       · rename Fr _ _ _ _ => F3
         rename News _ _ _ _ => N3
         rename (Txt.item x _ == Txt.item y _) = true => he
         rw [it_pos (by lia  ), it_pos (by lia  ), one_inj] at he
         have hm := cpl_more hP (by rw [cl_len]; lia  ) (by rw [cl_len]; lia  ) (beq_iff_eq.mp he)
         exact hT (k + 1, _) _ _ hm (by show x.length - (k + 1) < x.length - k; lia  ) (fr_same (C := [(_, _), (_, _)]) F3 ⟨rfl, rfl, rfl, trivial⟩) N3
       · rename Fr _ _ _ _ => F3
         rename News _ _ _ _ => N3
         rename (Txt.item x _ == Txt.item y _) = false => he
         rw [it_pos (by lia  ), it_pos (by lia  ), one_inj] at he
         exact hX _ _ (cpl_stop hP fun _ _ => beq_eq_false_iff_ne.mp he) F3 N3
       · rename Fr _ _ _ _ => F3
         rename News _ _ _ _ => N3
         exact hX _ _ (cpl_stop hP fun _ h2 => by rw [cl_len] at h2; lia  ) F3 N3
       · rename Fr _ _ _ _ => F3
         rename News _ _ _ _ => N3
         exact hX _ _ (cpl_stop hP fun h2 _ => by rw [cl_len] at h2; lia  ) F3 N3
     case done =>
       rintro ⟨k, tk⟩ h tk' hD F2 N2
       clear F1 N1
       dsimp only at hD F2 N2 ⊢
       k_steps
       have hk1 := cpl_le1 (cl x) (cl y)
       have hk2 := cpl_le2 (cl x) (cl y)
       rw [cl_len] at hk1 hk2
       have hA := sl_from (x := x) (k := k) (by lia  )
       have hB := sl_from (x := y) (k := k) (by lia  )
       rename Fr _ _ _ _ => F3
       rename News _ _ _ _ => N3
       generalize Txt.slice x (some (k : Int)) none = a at *
       generalize Txt.slice y (some (k : Int)) none = b at *
       have F4 := fr_same (C := [(_, _), (_, _), (_, _), (_, _), (_, _), (_, _), (_, _)]) (l := [(Str.ofString "post", _), (Str.ofString "b", .str b _), (Str.ofString "a", .str a _), (Str.ofString "pre", _), (Str.ofString "max_cost", .int m tm)]) F3 ⟨rfl, rfl, rfl, rfl, rfl, rfl, rfl, rfl, rfl, rfl, rfl, rfl, trivial⟩
       clear F3
       refine Blk.out ?_
       refine' my_while (σ := Nat × Tok) (r := kstB (fun _ => none) [(Str.ofString "b", .str b _), (Str.ofString "a", .str a _), (Str.ofString "pre", _), (Str.ofString "max_cost", .int m tm)]) (fun _ => news) (fun c => [(Str.ofString "post", Value.int (-(c.1 : Int)) c.2)]) (fun c => c.1 ≤ cpl (cl a).reverse (cl b).reverse) (fun c => c.1 = cpl (cl a).reverse (cl b).reverse) (fun c => a.length - c.1) (0, _) F4 N3 ?hp ?turn ?done ?hE
       case hp => exact Nat.zero_le _
       case hE => passes_own
       case turn =>
         rintro ⟨j, tj⟩ h tk' T X hT hX hP F5 N5
         clear F4 N3
         dsimp only at hP F5 N5 ⊢
         have hj1 := cpl_le1 (cl a).reverse (cl b).reverse
         have hj2 := cpl_le2 (cl a).reverse (cl b).reverse
         rw [List.length_reverse, cl_len] at hj1 hj2
         have hja : j ≤ a.length := by lia  
         have hjb : j ≤ b.length := by lia  
         have saj : 0 < j → (Txt.slice a none (some (-(j : Int)))).length = a.length - j := fun h0 => by
           rw [← cl_len, sl_neg h0 hja, List.length_take, cl_len]; lia  
         have sbj : 0 < j → (Txt.slice b none (some (-(j : Int)))).length = b.length - j := fun h0 => by
           rw [← cl_len, sl_neg h0 hjb, List.length_take, cl_len]; lia  
         have fin : ∀ (z : Txt.item a (-(j : Int) - 1) == Txt.item b (-(j : Int) - 1)) (hja : j < a.length) (hjb : j < b.length), j + 1 ≤ cpl (cl a).reverse (cl b).reverse := fun he _ _ => by
           rw [it_neg (by lia  ), it_neg (by lia  ), one_inj] at he
           exact cpl_more hP (by rw [List.length_reverse, cl_len]; lia  ) (by rw [List.length_reverse, cl_len]; lia  ) (beq_iff_eq.mp he)
         have fin2 : ∀ (z : (Txt.item a (-(j : Int) - 1) == Txt.item b (-(j : Int) - 1)) = false) (hja : j < a.length) (hjb : j < b.length), j = cpl (cl a).reverse (cl b).reverse := fun he _ _ => by
           rw [it_neg (by lia  ), it_neg (by lia  ), one_inj] at he
           exact cpl_stop hP fun _ _ => beq_eq_false_iff_ne.mp he
         have fin3 : Unit → j = a.length ∨ j = b.length → j = cpl (cl a).reverse (cl b).reverse := fun _ h => cpl_stop hP fun h1 h2 => by
           rw [List.length_reverse, cl_len] at h1 h2; lia  
         have ev : (-(j : Int) - 1) = -((j + 1 : Nat) : Int) := by lia  
         rcases Nat.eq_zero_or_pos j with h0 | h0
         · have h0' : 2 * (j : Int) < 1 := by lia  
           clear h0 saj sbj
           k_steps
           all_goals (rename Fr _ _ _ _ => F3; rename News _ _ _ _ => N3)
           · rename (Txt.item a _ == Txt.item b _) = true => he
             rw [ev] at F3
             exact hT (j + 1, _) _ _ (fin he (lt_of0 h0' (by assumption)) (lt_of0 h0' (by assumption))) (sub_lt1 (lt_of0 h0' (by assumption))) (fr_same (C := [(_, _), (_, _)]) F3 ⟨rfl, rfl, rfl, trivial⟩) N3
           · rename (Txt.item a _ == Txt.item b _) = false => he
             exact hX _ _ (fin2 he (lt_of0 h0' (by assumption)) (lt_of0 h0' (by assumption))) F3 N3
           · exact hX _ _ (fin3 () (.inr (eq_of0 h0' (by assumption)))) F3 N3
           · exact hX _ _ (fin3 () (.inl (eq_of0 h0' (by assumption)))) F3 N3
         · replace saj := saj h0
           replace sbj := sbj h0
           have mk1 : Mk 1 := trivial
           k_steps
           · refine Blk.out ?_
             have ja := lt_of_sl saj (by assumption)
             have jb := lt_of_sl sbj (by assumption)
             clear mk1 saj sbj
             iterate 2 (try (rename (_ → _) ∧ _ => z1; clear z1))
             iterate 2 (try (rename _ ≠ (0 : Int) => z1; clear z1))
             k_steps
             all_goals (rename Fr _ _ _ _ => F3; rename News _ _ _ _ => N3)
             · rename (Txt.item a _ == Txt.item b _) = true => he
               rw [ev] at F3
               exact hT (j + 1, _) _ _ (fin he ja jb) (sub_lt1 ja) (fr_same (C := [(_, _), (_, _)]) F3 ⟨rfl, rfl, rfl, trivial⟩) N3
             · rename (Txt.item a _ == Txt.item b _) = false => he
               exact hX _ _ (fin2 he ja jb) F3 N3
           all_goals (rename Fr _ _ _ _ => F3; rename News _ _ _ _ => N3)
           · exact hX _ _ (fin3 () (.inr (eq_of_sl sbj hjb (by assumption)))) F3 N3
           · exact hX _ _ (fin3 () (.inl (eq_of_sl saj hja (by assumption)))) F3 N3
       case done =>
         rintro ⟨j, tj⟩ h tk' hD2 F5 N5
         clear F4 N3
         dsimp only at hD2 F5 N5 ⊢
         have hj1 := cpl_le1 (cl a).reverse (cl b).reverse
         have hj2 := cpl_le2 (cl a).reverse (cl b).reverse
         rw [List.length_reverse, cl_len] at hj1 hj2
         refine cut_fr 2 news (fun m' => ∃ a' b' ta tb, cl a' = (cl a).take (a.length - j) ∧ cl b' = (cl b).take (b.length - j) ∧ m' = kstB (fun _ => none) [(Str.ofString "b", .str b' tb), (Str.ofString "a", .str a' ta), (Str.ofString "post", Value.int (-(j : Int)) tj), (Str.ofString "pre", .int k tk), (Str.ofString "max_cost", .int m tm)]) F5 ?_ ?_
         · intro Q7 hT hQ7
           dsimp only [List.take]
           rcases Nat.eq_zero_or_pos j with h0 | h0
           · have h0' : 2 * (j : Int) < 1 := by lia  
             have e1 : a.length - j = a.length := by lia  
             have e2 : b.length - j = b.length := by lia  
             clear h0
             k_steps
             rename Fr _ _ _ _ => F3
             rename News _ _ _ _ => N3
             exact hT _ _ _ ⟨a, b, _, _, by rw [e1, ← cl_len, List.take_length], by rw [e2, ← cl_len, List.take_length], kst_same (C := [(_, _), (_, _), (_, _), (_, _), (_, _), (_, _), (_, _)]) ⟨rfl, rfl, rfl, rfl, rfl, rfl, rfl, rfl, rfl, rfl, rfl, rfl, trivial⟩⟩ F3 N3
           · have ha' := sl_neg (x := a) h0 (by lia  )
             have hb' := sl_neg (x := b) h0 (by lia  )
             k_steps
             rename Fr _ _ _ _ => F3
             rename News _ _ _ _ => N3
             exact hT _ _ _ ⟨_, _, _, _, ha', hb', kst_same (C := [(_, _), (_, _), (_, _), (_, _), (_, _), (_, _), (_, _)]) ⟨rfl, rfl, rfl, rfl, rfl, rfl, rfl, rfl, rfl, rfl, rfl, rfl, trivial⟩⟩ F3 N3
         · dsimp only [List.drop]
           intro h6 tk6 _ hJ0
           refine gh fun pG hpG => ?_
           obtain ⟨a', b', ta, tb, ha', hb', rfl⟩ := hJ0
           refine hpG ?_
           clear hpG pG
           intro F6 N6
           clear F5 N5
           have la : a'.length = a.length - j := by rw [← cl_len, ha', List.length_take, cl_len]; lia  
           have lb : b'.length = b.length - j := by rw [← cl_len, hb', List.length_take, cl_len]; lia  
           have hne : ¬ cl x = cl y := by
             rename (x == y) = false => hxy
             intro e
             rw [cl_inj e] at hxy
             simp at hxy
           have hlev : levL sub2 (cl x) (cl y) m = levT sub2 (cl a') (cl b') m := by
             unfold levL
             rw [if_neg hne]
             dsimp only
             rw [← hD, ← hA, ← hB]
             unfold cutBack
             rw [← hD2, cl_len, cl_len, ← ha', ← hb']
           clear hne hk1 hk2 hj1 hj2 hA hB hD hD2 ha' hb'
           have hla : a'.length ≤ 3 := by lia  
           have hlb : b'.length ≤ 3 := by lia  
           clear la lb
           refine cut_fr 3 news (fun m' => ∃ p q tp tq, m' = kstB (fun _ => none) [(Str.ofString "b", .str q tq), (Str.ofString "a", .str p tp), (Str.ofString "post", Value.int (-(j : Int)) tj), (Str.ofString "pre", .int k tk), (Str.ofString "max_cost", .int m tm)] ∧ 0 < p.length ∧ p.length ≤ q.length ∧ q.length ≤ 3 ∧ levT sub2 (cl a') (cl b') m = levM sub2 (cl p) (cl q) m) F6 ?_ ?_
           · intro Q7 hT hQ7
             dsimp only [List.take]
             k_steps
             · rename Fr _ _ _ _ => F3
               rename News _ _ _ _ => N3
               refine hT _ _ _ ⟨b', a', _, _, kst_same (C := [(_, _), (_, _), (_, _), (_, _), (_, _), (_, _), (_, _)]) ⟨rfl, rfl, rfl, rfl, rfl, rfl, rfl, rfl, rfl, rfl, rfl, rfl, trivial⟩, by lia  , by lia  , by lia  , ?_⟩ F3 fun p hp => N3 p (.tail _ hp)
               unfold levT
               rw [cl_len, cl_len, if_neg (by lia  ), if_pos (by lia  )]
             · refine hT _ _ _ ⟨a', b', _, _, rfl, by lia  , by lia  , by lia  , ?_⟩ F6 N6
               unfold levT
               rw [cl_len, cl_len, if_neg (by lia  ), if_neg (by lia  )]
             all_goals
               refine hQ7 _ _ ?_
               (try dsimp only)
               k_steps
               refine cb_retI hret ?_ (by assumption) (by assumption)
               rw [hlev]
               unfold levT
               rw [cl_len, cl_len, if_pos (by lia  )]
           · dsimp only [List.drop]
             intro h7 tk7 _ hJ0
             refine gh fun pG hpG => ?_
             obtain ⟨p, q, tp, tq, rfl, hp0, hpq, hq3, hlv⟩ := hJ0
             refine hpG ?_
             clear hpG pG
             intro F7 N7
             clear F6 N6
             rw [hlv] at hlev
             clear hlv hla hlb
             k_steps
             · refine cb_retI hret ?_ (by assumption) (by assumption)
               rw [hlev]
               unfold levM
               rw [cl_len, cl_len, if_pos (by assumption)]
             · refine Blk.out ?_
               rename Fr _ _ _ _ => F3
               rename News _ _ _ _ => N3
               rename IsRange _ _ _ _ _ _ _ _ => hr
               refine list_range (n := p.length) rfl F3 N3 hr ?_ ?_ (by lia  ) ?_
               · clear hlev hr F3 N3
                 have h3 : p.length = 1 ∨ p.length = 2 ∨ p.length = 3 := by lia  
                 rcases h3 with e | e | e <;> rw [e] <;> decide
               · clear hlev hr F3 N3
                 have h3 : p.length = 1 ∨ p.length = 2 ∨ p.length = 3 := by lia  
                 rcases h3 with e | e | e <;> rw [e] <;> decide
               intro D us c' h' tk F' N' l1 hI
               clear F3 N3 hr
               k_steps
               refine Blk.out ?_
               rename Fr _ _ _ _ => F3
               rename News _ _ _ _ => N3
               rename IsRange _ _ _ _ _ _ _ _ => hr
               have F4 := fr_same (C := [(_, _), (_, _), (_, _), (_, _), (_, _), (_, _), (_, _)]) (l := [(Str.ofString "result", _), (Str.ofString "row", .ref D), (Str.ofString "b", .str q tq), (Str.ofString "a", .str p tp), (Str.ofString "max_cost", .int m tm), (Str.ofString "post", _), (Str.ofString "pre", _)]) F3 ⟨rfl, rfl, rfl, rfl, rfl, rfl, rfl, rfl, rfl, rfl, rfl, rfl, rfl, rfl, trivial⟩
               clear F3
               refine' kst_range (σ := OS) (n := q.length) (fun c => (D, W.listOf c.us.toArray c.cc) :: news) (fun c => [(Str.ofString "result", .int c.res c.t)]) (fun c => IntsAre c.us c.row) [Str.ofString "bchar", Str.ofString "distance", Str.ofString "minimum", Str.ofString "index", Str.ofString "substitute", Str.ofString "insert_delete"]
                 (fun pre c => c.row.length = p.length ∧ outer sub2 (cl p) m ((cl q).drop pre.length) pre.length c.row c.res = outer sub2 (cl p) m (cl q) 0 ((List.range p.length).map fun (i : Nat) => 2 + (i : Int) * 2) 0)
                 ⟨us, c', (List.range p.length).map fun (i : Nat) => 2 + (i : Int) * 2, 0, _⟩ ?hh hr ?hsmall ?hn F4 N3 ?hf ?hk ?hp ?turn ?done
               case hh => rfl
               case hsmall => exact small_one (by lia  ) (by lia  ) (by lia  ) (by lia  )
               case hn => rw [rangeSize_nat]; lia  
               case hf => assumption
               case hk =>
                 intro p hp
                 rcases List.mem_singleton.mp hp with rfl
                 exact rfl
               case hp =>
                 refine ⟨by simp, rfl⟩
               case turn =>
                 intro c pre kk tkk u h9 tk9 own hkk hlt hoff hfa hP F9 N9
                 clear F4 N3 hr
                 obtain ⟨hP1, hP2⟩ := hP
                 dsimp only at hfa F9 N9 ⊢
                 obtain rfl : kk = (pre.length : Int) := by lia  
                 refine wp_hide fun Q8 hQ8 => ?_
                 k_steps
                 refine Blk.out ?_
                 rename Fr _ _ _ _ => F3
                 rename News _ _ _ _ => N3
                 rename IsRange _ _ _ _ _ _ _ _ => hr
                 refine' kst_range (σ := IS) (n := p.length) (fun c => (D, W.listOf c.us.toArray c.cc) :: (news ++ own)) (fun c => [(Str.ofString "distance", .int c.d c.td), (Str.ofString "result", .int c.res c.tr), (Str.ofString "minimum", .int c.mn c.tn)]) (fun c => IntsAre c.us c.row) [Str.ofString "substitute", Str.ofString "insert_delete"]
                   (fun pre2 c2 => InnOk (sub2 ((cl q).getD pre.length 0)) (cl p) c.row (inner (sub2 ((cl q).getD pre.length 0)) (cl p) c.row (pre.length * 2) (pre.length * 2) MAXI) pre2.length c2.row c2.d c2.res c2.mn)
                   ⟨c.us, c.cc, c.row, pre.length * 2, pre.length * 2, MAXI, _, _, _⟩ ?hh2 hr ?hsmall2 ?hn2 F3 N3 ?hf2 ?hk2 ?hp2 ?turn2 ?done2
                 case hh2 => rfl
                 case hsmall2 => exact small_one (by lia  ) (by lia  ) (by lia  ) (by lia  )
                 case hn2 => rw [rangeSize_nat]; lia  
                 case hf2 => assumption
                 case hk2 =>
                   intro p hp
                   rcases List.mem_cons.mp hp with rfl | hp
                   · exact rfl
                   rcases List.mem_cons.mp hp with rfl | hp
                   · exact rfl
                   rcases List.mem_singleton.mp hp with rfl
                   exact rfl
                 case hp2 =>
                   exact InnOk.start _ _ _ _ _ _
                 case turn2 =>
                   intro c2 pre2 k2 tk2 u2 h10 tk10 own2 hk2 hlt2 hoff2 hfa2 hQ F10 N10
                   clear F3 N3 hr
                   dsimp only at hfa2 hQ F10 N10 ⊢
                   have hl2 : c2.row.length = p.length := hQ.1.trans hP1
                   have hl3 := hfa2.length
                   obtain rfl : k2 = (pre2.length : Int) := by lia  
                   have ei : subc (Txt.item q (pre.length : Int)) (Txt.item p (pre2.length : Int)) = sub2 ((cl q).getD pre.length 0) ((cl p).getD pre2.length 0) := by
                     rw [it_pos (by lia  ), it_pos (by lia  )]; rfl
                   have hst := hQ.step (by rw [cl_len]; lia  ) (by rw [cl_len]; lia  )
                   have hD : ∀ p ∈ (news ++ own) ++ own2, p.1 ≠ D := by
                     intro p hp
                     rcases List.mem_append.mp hp with hp | hp
                     · rcases List.mem_append.mp hp with hp | hp
                       · exact Nat.ne_of_lt (l1 p hp)
                       · exact hoff p hp D (.head _)
                     · exact hoff2 p hp D (.head _)
                   refine wp_hide fun Q9 hQ9 => ?_
                   k_steps
                   refine Blk.out ?_
                   with_unfolding_all refine' sub_call ?k1 ?k2 ?k3 ?k4 ?k5 ?kK ?kx ?ky ?kd ?ku ?_
                   case k1 => k_asm
                   case k2 => k_asm
                   case k3 => k_asm
                   case k4 => k_asm
                   case k5 => k_asm
                   case kK => first | exact rfl | assumption
                   case kx => first | assumption | lia | decide | exact (by decide : (1 : Nat) ≤ 64)
                   case ky => first | assumption | lia | decide
                   case kd => first | ktr_room | decide | lia
                   case ku => first | ktr_units | decide | lia
                   intro t9 h9 tk9 F9 N9
                   (try dsimp only)
                   k_steps
                   refine Blk.out ?_
                   rename Fr _ _ _ _ => F11
                   rename News _ _ _ _ => N11
                   refine ksa_set (news' := (D, W.listOf (c2.us.set (pre2.length : Int).toNat (.int _ _)).toArray c2.cc) :: ((news ++ own) ++ own2)) F11 N11 (Upd.head hD) hfa2 (by lia  ) (by lia  ) (by lia  ) ?_
                   intro h12 F12 N12 hi12 hl12 hs12
                   clear F11 N11 hs12
                   simp only [ifmin, ei, Int.toNat_natCast] at F12 N12 hi12 hl12 ⊢
                   k_steps
                   · rename Fr _ _ _ _ => F13
                     rename News _ _ _ _ => N13
                     rename (_ < c2.mn) => hlt9
                     rw [if_pos hlt9] at hst
                     have hst' := (lenS pre2 (pre2.length : Int)) ▸ hst
                     refine hQ9 _ _ ?_
                     refine' kst_end ⟨_, c2.cc, _, _, _, _, _, _, _⟩ F13 N13 (fun p hp => List.mem_append_left own2 hp) (fun p hp => List.mem_append_right (_ :: (news ++ own)) hp) rfl hi12 ?hk9 ?hr9 hst'
                     case hk9 =>
                       intro p hp
                       rcases List.mem_cons.mp hp with rfl | hp
                       · exact rfl
                       rcases List.mem_cons.mp hp with rfl | hp
                       · exact rfl
                       rcases List.mem_singleton.mp hp with rfl
                       exact rfl
                     case hr9 =>
                       intro z hz hz2 hz3
                       have z1 := hz2 _ (.head _)
                       have z2 := hz2 _ (.tail _ (.head _))
                       have z3 := hz2 _ (.tail _ (.tail _ (.head _)))
                       simp only [List.contains_cons, List.contains_nil, Bool.or_false, Bool.or_eq_false_iff, beq_eq_false_iff_ne, ne_eq] at hz3
                       simp [kstB, hz, z1, z2, z3, hz3]
                   · rename Fr _ _ _ _ => F13
                     rename News _ _ _ _ => N13
                     rename (¬ _ < c2.mn) => hlt9
                     rw [if_neg hlt9] at hst
                     have hst' := (lenS pre2 (pre2.length : Int)) ▸ hst
                     refine hQ9 _ _ ?_
                     refine' kst_end ⟨_, c2.cc, _, _, _, _, _, _, _⟩ F13 N13 (fun p hp => List.mem_append_left own2 hp) (fun p hp => List.mem_append_right (_ :: (news ++ own)) hp) rfl hi12 ?hk9 ?hr9 hst'
                     case hk9 =>
                       intro p hp
                       rcases List.mem_cons.mp hp with rfl | hp
                       · exact rfl
                       rcases List.mem_cons.mp hp with rfl | hp
                       · exact rfl
                       rcases List.mem_singleton.mp hp with rfl
                       exact rfl
                     case hr9 =>
                       intro z hz hz2 hz3
                       have z1 := hz2 _ (.head _)
                       have z2 := hz2 _ (.tail _ (.head _))
                       have z3 := hz2 _ (.tail _ (.tail _ (.head _)))
                       simp only [List.contains_cons, List.contains_nil, Bool.or_false, Bool.or_eq_false_iff, beq_eq_false_iff_ne, ne_eq] at hz3
                       simp [kstB, hz, z1, z2, z3, hz3]
                 case done2 =>
                   intro c2 u2 h10 tk10 hfa2 hQ F10 N10
                   clear F3 N3 hr
                   dsimp only at hfa2 hQ F10 N10 ⊢
                   rw [rangeKs_length] at hQ
                   obtain ⟨f1, f2, f3⟩ := hQ.fin (by rw [cl_len]) (by rw [cl_len]; exact hP1.symm)
                   rw [outer_step (by rw [cl_len]; lia  ), ← f1, ← f2, ← f3] at hP2
                   have hl2 : c2.row.length = p.length := hQ.1.trans hP1
                   clear f1 f2 f3 hQ
                   k_steps
                   · refine hQ8 _ _ ?_
                     (try dsimp only)
                     k_steps
                     refine cb_retI hret ?_ (by assumption) (cb_drop (by assumption) fun _ h => .tail _ (List.mem_append_left _ h))
                     rename (m < c2.mn) => hlt9
                     rw [if_pos hlt9] at hP2
                     rw [hlev]
                     unfold levM
                     rw [cl_len, cl_len, if_neg (by assumption), ← hP2]
                   · rename (¬ m < c2.mn) => hlt9
                     rw [if_neg hlt9] at hP2
                     have hP2' := (lenS pre (pre.length : Int)) ▸ hP2
                     refine hQ8 _ _ ?_
                     refine' kst_end ⟨_, c2.cc, c2.row, c2.res, _⟩ F10 N10 (fun p hp => List.mem_append_left own hp) (fun p hp => List.mem_append_right (_ :: news) hp) rfl hfa2 ?hk9 ?hr9 ⟨hl2, hP2'⟩
                     case hk9 =>
                       intro p hp
                       rcases List.mem_singleton.mp hp with rfl
                       exact rfl
                     case hr9 =>
                       intro z hz hz2 hz3
                       have z1 := hz2 _ (.head _)
                       simp only [List.contains_cons, List.contains_nil, Bool.or_false, Bool.or_eq_false_iff, beq_eq_false_iff_ne, ne_eq] at hz3
                       simp [kstB, hz, z1, hz3]
               case done =>
                 intro c u h9 tk9 hfa hP F9 N9
                 clear F4 N3 hr
                 obtain ⟨hP1, hP2⟩ := hP
                 dsimp only at hfa F9 N9 ⊢
                 k_steps
                 rw [rangeKs_length, List.drop_of_length_le (by rw [cl_len]; lia  )] at hP2
                 refine cb_retI hret ?_ (by assumption) (cb_drop (by assumption) fun _ h => .tail _ h)
                 rw [hlev]
                 unfold levM
                 rw [cl_len, cl_len, if_neg (by assumption), ← hP2]
                 rfl
end Mine
end
section
open PySem PySem.W PyProof.Rows
set_option Elab.async false
namespace Mine
noncomputable def prc (x y : Str) : Int := if x = y then 0 else if (Builtin.Str.occurrences (x ++ y) (Str.ofString "b") 0 (x ++ y).length 1).isEmpty then 1 else 2
end Mine
end
section
open PySem PySem.W PyProof.Rows
set_option Elab.async false
namespace Mine
/-- the end of a turn of my_for, the flow going on -/
inductive FN {σ : Type} (h₀ : Heap) (L : Addr) (s : Shared) (x : Str) (Led : σ → List (Addr × Obj)) (ps : σ → List (Str × Value)) (stored : List Str) (r : Str → Option Value) (P : σ → Prop) (off : σ → Prop) : Shared → Prop
  | mk (c : σ) (h : Heap) (tk : Nat) (m' : Str → Option Value) (hP : P c) (F : Fr h₀ L h m') (hk : ∀ p ∈ ps c, m' p.1 = some p.2) (hr : ∀ z, z ≠ x → (∀ p ∈ ps c, z ≠ p.1) → stored.contains z = false → m' z = r z) (N : News h₀ L h (Led c)) (hw : off c) : FN h₀ L s x Led ps stored r P off { s with heap := h, toks := tk }
/-- the end of a turn of my_for -/
noncomputable def FT {σ : Type} (h₀ : Heap) (L : Addr) (s : Shared) (x : Str) (Led : σ → List (Addr × Obj)) (ps : σ → List (Str × Value)) (stored : List Str) (r : Str → Option Value) (wr : List Addr) (own : List (Addr × Obj)) (P : σ → Prop) (Q : Flow → Shared → Prop) (f : Flow) (s₂ : Shared) : Prop :=
  match f with
  | .ret v => Q (.ret v) s₂
  | .brk => Q .next s₂
  | _ => FN h₀ L s x (fun c => own ++ Led c) ps stored r P (fun c => ∀ p ∈ Led c, p.1 ∉ wr) s₂
/-- between the turns of my_for -/
inductive FI {σ : Type} (x : Str) (Led : σ → List (Addr × Obj)) (ps : σ → List (Str × Value)) (stored : List Str) (r : Str → Option Value) (P : Nat → σ → Prop) (i : Nat) (m : Str → Option Value) : List (Addr × Obj) → Prop
  | mk (c : σ) (hP : P i c) (hk : ∀ p ∈ ps c, m p.1 = some p.2) (hr : ∀ z, z ≠ x → (∀ p ∈ ps c, z ≠ p.1) → stored.contains z = false → m z = r z) : FI x Led ps stored r P i m (Led c)
theorem my_for {prog : Program} {w : World} {A : Around} {E : Value → Shared → Prop} {Q : Flow → Shared → Prop} {s : Shared} {env : Env} {h₀ : Heap} {x : Str} {body : List Stmt} {I : Addr} {fp wr : List Addr} {n : Nat} {PW : Nat → Value → Prop} {St : Nat → Heap → Prop}
    {σ : Type} {r : Str → Option Value} (Led : σ → List (Addr × Obj)) (ps : σ → List (Str × Value)) (stored : List Str) (P : Nat → σ → Prop) (c₀ : σ)
    (W : Walks prog w A I fp wr n PW St) (hLf : env.locals ∉ fp) (hwr : ∀ b ∈ wr, h₀.get? b = none) (hnw : ∀ p ∈ Led c₀, p.1 ∉ wr) (hst : St 0 s.heap)
    (F : Fr h₀ env.locals s.heap r) (N : News h₀ env.locals s.heap (Led c₀)) (hk : ∀ p ∈ ps c₀, r p.1 = some p.2) (hp : P 0 c₀)
    (turn : ∀ i v (c : σ) (u : Str → Option Value) h tk own, i < n → PW i v → P i c → (∀ p ∈ Led c, p.1 ∉ wr) → (∀ p ∈ own, p.1 ∈ fp) → (∀ b ∈ fp, h₀.get? b = none → ∀ o, h.get? b = some o → (b, o) ∈ own) → St (i + 1) h →
      Fr h₀ env.locals h (fun y => if y = x then some v else kstB (fun z => if stored.contains z then u z else r z) (ps c) y) → News h₀ env.locals h (own ++ Led c) →
      wpAny (model prog w) A (execs body env) (FT h₀ env.locals s x Led ps stored r wr own (P (i + 1)) Q) E { s with heap := h, toks := tk })
    (done : ∀ (c : σ) (u : Str → Option Value) h tk, P n c → Fr h₀ env.locals h (fun y => if y = x then u y else kstB (fun z => if stored.contains z then u z else r z) (ps c) y) → News h₀ env.locals h (Led c) → Q .next { s with heap := h, toks := tk }) :
    LoopAtV prog w A h₀ env x body Q E (.ref I) s := by
  refine ⟨I, fp, wr, n, PW, St, r, Led c₀, FI x Led ps stored r P, rfl, W, hLf, hwr, hnw, hst, F, N, .mk c₀ hp hk fun _ _ _ _ => rfl, ?_, ?_⟩
  · rintro i v m₁ nx s₁ own ⟨h, tk, rfl⟩ hi hv ⟨c, hP, h1, h2⟩ hw hf _ hfu hSt F₁ N₁
    refine wpAny_mono (turn i v c m₁ h tk own hi hv hP hw hf hfu hSt (kst_fr h1 h2 F₁) N₁) (fun f s₂ p => ?_) fun _ _ e => e
    cases f with
    | ret v => exact .ret p
    | brk => exact .brk p
    | next =>
      obtain ⟨c', h', tk', m', hP', F', k1, k2, N', hw'⟩ := p
      exact .next ⟨rfl, h', tk', m', Led c', rfl, F', N', hw', .mk c' hP' k1 k2⟩
    | cont =>
      obtain ⟨c', h', tk', m', hP', F', k1, k2, N', hw'⟩ := p
      exact .cont ⟨rfl, h', tk', m', Led c', rfl, F', N', hw', .mk c' hP' k1 k2⟩
  · rintro h tk m' nx F' N' _ ⟨c, hP, h1, h2⟩
    exact done c m' h tk hP (kst_frOut h1 h2 F') N'
end Mine
end
section
open PySem PySem.W PyProof.Rows
set_option Elab.async false
namespace Mine
/-- the end of a turn of my_text, my_list -/
noncomputable def FU {σ : Type} (h₀ : Heap) (L : Addr) (s : Shared) (x : Str) (Led : σ → List (Addr × Obj)) (ps : σ → List (Str × Value)) (stored : List Str) (r : Str → Option Value) (I : Addr) (own : List (Addr × Obj)) (P : σ → Prop) (Q : Flow → Shared → Prop) (f : Flow) (s₂ : Shared) : Prop :=
  match f with
  | .ret v => Q (.ret v) s₂
  | .brk => Q .next s₂
  | _ => FN h₀ L s x (fun c => Led c ++ own) ps stored r P (fun c => ∀ p ∈ Led c, p.1 ≠ I) s₂
theorem news_comm {h₀ h : Heap} {L : Addr} {a b : List (Addr × Obj)} (N : News h₀ L h (a ++ b)) : News h₀ L h (b ++ a) := fun p hp => N p (by rcases List.mem_append.mp hp with q | q; exact List.mem_append_right _ q; exact List.mem_append_left _ q)
theorem FN.to {σ : Type} {h₀ : Heap} {L : Addr} {s : Shared} {x : Str} {Led : σ → List (Addr × Obj)} {ps : σ → List (Str × Value)} {stored : List Str} {r : Str → Option Value} {I : Addr} {own : List (Addr × Obj)} {P : σ → Prop} {s₂ : Shared} {g : Heap}
    (h : FN h₀ L s x (fun c => Led c ++ own) ps stored r P (fun c => ∀ p ∈ Led c, p.1 ≠ I) s₂) : FN h₀ L { s with heap := g } x (fun c => own ++ Led c) ps stored r P (fun c => ∀ p ∈ Led c, p.1 ∉ [I]) s₂ := by
  obtain ⟨c', h', tk', m', hP', F', k1, k2, N', hw'⟩ := h
  exact ⟨c', h', tk', m', hP', F', k1, k2, news_comm N', fun p hp q => hw' p hp (List.mem_singleton.mp q)⟩
theorem FU.to {σ : Type} {h₀ : Heap} {L : Addr} {s : Shared} {x : Str} {Led : σ → List (Addr × Obj)} {ps : σ → List (Str × Value)} {stored : List Str} {r : Str → Option Value} {I : Addr} {own : List (Addr × Obj)} {P : σ → Prop} {Q : Flow → Shared → Prop} {g : Heap} : ∀ {f : Flow} {s₂ : Shared}
    (_h : FU h₀ L s x Led ps stored r I own P Q f s₂), FT h₀ L { s with heap := g } x Led ps stored r [I] own P Q f s₂
  | .ret _, _, h => h
  | .brk, _, h => h
  | .next, _, h => FN.to h
  | .cont, _, h => FN.to h
theorem my_text {prog : Program} {w : World} {A : Around} {E : Value → Shared → Prop} {Q : Flow → Shared → Prop} {s : Shared} {env : Env} {h₀ : Heap} {x : Str} {body : List Stmt} {xt : Str} {tx : Tok}
    {σ : Type} {r : Str → Option Value} (Led : σ → List (Addr × Obj)) (ps : σ → List (Str × Value)) (stored : List Str) (P : Nat → σ → Prop) (c₀ : σ)
    (hh : A.handled = none)
    (F : Fr h₀ env.locals s.heap r) (N : News h₀ env.locals s.heap (Led c₀)) (hk : ∀ p ∈ ps c₀, r p.1 = some p.2) (hp : P 0 c₀)
    (turn : ∀ i t I o (c : σ) (u : Str → Option Value) h tk own, i < xt.length → P i c → (∀ p ∈ Led c, p.1 ≠ I) → (∀ p ∈ own, p.1 = I) → (I, o) ∈ own →
      Fr h₀ env.locals h (fun y => if y = x then some (.str ⟨#[(cl xt).getD i 0]⟩ t) else kstB (fun z => if stored.contains z then u z else r z) (ps c) y) → News h₀ env.locals h (Led c ++ own) →
      wpAny (model prog w) A (execs body env) (FU h₀ env.locals s x Led ps stored r I own (P (i + 1)) Q) E { s with heap := h, toks := tk })
    (done : ∀ (c : σ) (u : Str → Option Value) h tk, P xt.length c → Fr h₀ env.locals h (fun y => if y = x then u y else kstB (fun z => if stored.contains z then u z else r z) (ps c) y) → News h₀ env.locals h (Led c) → Q .next { s with heap := h, toks := tk }) :
    wpAny (model prog w) A (pyIter (.str xt tx)) (fun it s₂ => LoopAtV prog w A h₀ env x body Q E it s₂) E s := by
  have key : ∀ (o : Obj) (St : Nat → Heap → Prop), Walks prog w A s.heap.objs.size [s.heap.objs.size] [s.heap.objs.size] xt.cps.size (SignAt xt) St → St 0 (s.heap.push o) → (∀ i h, St i h → ∃ o', h.get? s.heap.objs.size = some o') →
      LoopAtV prog w A h₀ env x body Q E (.ref s.heap.objs.size) { s with heap := s.heap.push o } := by
    intro o St W hst hex
    refine my_for Led ps stored P c₀ W ?_ ?_ ?_ hst (F.push _) (fun p hp => ⟨Heap.get?_push_of_some _ (N p hp).1, (N p hp).2⟩) hk hp ?_ ?_
    · intro hm
      exact absurd F.ns.lt ((List.mem_singleton.mp hm) ▸ Nat.lt_irrefl _)
    · intro b' hb
      rw [List.mem_singleton.mp hb]
      exact next_is_new F
    · intro p hp hI
      exact absurd (Heap.lt_size (N p hp).1) ((List.mem_singleton.mp hI) ▸ Nat.lt_irrefl _)
    · intro i v c u h tk own hi hJ0
      refine gh fun pG hpG => ?_
      obtain ⟨n, t, hn, rfl⟩ := hJ0
      refine hpG ?_
      clear hpG pG
      intro hP hw hf hfu hSt F₁ N₁
      have e : n = (cl xt).getD i 0 := by
        show n = xt.cps.toList.getD i 0
        rw [← Array.getElem?_toList] at hn
        rw [List.getD, hn]; rfl
      subst e
      obtain ⟨o', ho'⟩ := hex _ _ hSt
      refine wpAny_mono (turn i t _ o' c u h tk own hi hP (fun p hp => fun q => hw p hp (List.mem_singleton.mpr q)) (fun p hp => List.mem_singleton.mp (hf p hp)) (hfu _ (.head _) (next_is_new F) _ ho') F₁ (news_comm N₁)) (fun f s₂ p => ?_) fun _ _ e => e
      exact FU.to p
    · exact done
  cases ha : xt.cps.all (· < 128)
  · exact wpAny_pyIter_wide ha (key _ _ (Walks.strWide hh _ xt tx) ⟨_, Heap.get?_push_size _ rfl, rfl, rfl⟩ fun i h hs => ⟨_, hs.choose_spec.1⟩)
  · exact wpAny_pyIter_ascii ha (key _ _ (Walks.strAscii hh _ xt tx) ⟨_, Heap.get?_push_size _ rfl, rfl, rfl⟩ fun i h hs => ⟨_, hs.choose_spec.1⟩)
end Mine
end
section
open PySem PySem.W PyProof.Rows
set_option Elab.async false
namespace Mine
/-- the law's own row: told's tail -/
noncomputable def cgo (pc : Nat → Int) : List Nat → List Int → Int → List Int
  | y :: ys, r :: r' :: rs, t => min (min (r + pc y) (r' + 2)) (t + 2) :: cgo pc ys (r' :: rs) (min (min (r + pc y) (r' + 2)) (t + 2))
  | _, _, _ => []
noncomputable def crow (pc : Nat → Int) (ys : List Nat) (row : List Int) : List Int := (row.getD 0 0 + 2) :: cgo pc ys row (row.getD 0 0 + 2)
noncomputable def costR (pc : Nat → Nat → Int) (xs ys : List Nat) : List Int := xs.foldl (fun row s => crow (pc s) ys row) ((List.range (ys.length + 1)).map fun (k : Nat) => 2 * (k : Int))
noncomputable def costL (pc : Nat → Nat → Int) (xs ys : List Nat) : Int := (costR pc xs ys).getD ys.length 0
theorem cgo_len (pc : Nat → Int) : ∀ (ys : List Nat) (row : List Int) (t : Int), row.length = ys.length + 1 → (cgo pc ys row t).length = ys.length
  | [], _, _, _ => by unfold cgo; rfl
  | y :: ys, [], _, h => by simp at h
  | y :: ys, [r], _, h => by simp at h
  | y :: ys, r :: r' :: rs, t, h => by
    unfold cgo
    rw [List.length_cons, cgo_len pc ys (r' :: rs) _ (by simpa using h), List.length_cons]
theorem crow_len (pc : Nat → Int) (ys : List Nat) (row : List Int) (h : row.length = ys.length + 1) : (crow pc ys row).length = ys.length + 1 := by
  unfold crow; rw [List.length_cons, cgo_len pc ys row _ h]
/-- what stands in the inner loop ahead of turn k -/
noncomputable def CokI (pc : Nat → Int) (ys : List Nat) (row told : List Int) (k : Nat) : Prop :=
  told.length = k + 1 ∧ told ++ cgo pc (ys.drop k) (row.drop k) (told.getD k 0) = crow pc ys row
theorem CokI.start (pc : Nat → Int) (ys : List Nat) (row : List Int) : CokI pc ys row [row.getD 0 0 + 2] 0 := ⟨rfl, rfl⟩
theorem CokI.step {pc : Nat → Int} {ys : List Nat} {row told : List Int} {k : Nat} (h : CokI pc ys row told k) (hk : k < ys.length) (hr : row.length = ys.length + 1) :
    CokI pc ys row (told ++ [min (min (row.getD k 0 + pc (ys.getD k 0)) (row.getD (k + 1) 0 + 2)) (told.getD k 0 + 2)]) (k + 1) := by
  obtain ⟨hl, he⟩ := h
  have ey : ys.drop k = ys.getD k 0 :: ys.drop (k + 1) := by
    rw [List.drop_eq_getElem_cons hk]; congr 1; simp [List.getD, hk]
  have h1 : k < row.length := by omega
  have h2 : k + 1 < row.length := by omega
  have e1 : row.drop k = row.getD k 0 :: row.drop (k + 1) := by
    rw [List.drop_eq_getElem_cons h1]; congr 1; simp [List.getD, h1]
  have e2 : row.drop (k + 1) = row.getD (k + 1) 0 :: row.drop (k + 2) := by
    rw [List.drop_eq_getElem_cons h2]; congr 1; simp [List.getD, h2]
  rw [ey, e1, e2] at he
  refine ⟨by simp [hl], ?_⟩
  have eg : (told ++ [min (min (row.getD k 0 + pc (ys.getD k 0)) (row.getD (k + 1) 0 + 2)) (told.getD k 0 + 2)]).getD (k + 1) 0 = min (min (row.getD k 0 + pc (ys.getD k 0)) (row.getD (k + 1) 0 + 2)) (told.getD k 0 + 2) := by
    rw [List.getD, List.getElem?_append_right (by omega)]
    simp [hl]
  rw [eg, e2, List.append_assoc]
  exact he
theorem CokI.fin {pc : Nat → Int} {ys : List Nat} {row told : List Int} {k : Nat} (h : CokI pc ys row told k) (hk : k = ys.length) : told = crow pc ys row := by
  obtain ⟨_, he⟩ := h
  rw [List.drop_of_length_le (by omega)] at he
  have e : cgo pc [] (row.drop k) (told.getD k 0) = [] := by unfold cgo; rfl
  rw [e, List.append_nil] at he
  exact he
end Mine
end
section
open PySem PySem.W PyProof.Rows
set_option Elab.async false
namespace Mine
local macro_rules | `(tactic| walk_at "pyIter str") => blkM
local macro_rules | `(tactic| walk_at "pyIter ref") => blkM
noncomputable def Hd (p : Prop) : Prop := p
theorem min3_N {prog : Program} {w : World} {A : Around} {E : Value → Shared → Prop} {s : Shared} {h₀ : Heap} {L : Addr} {m : Str → Option Value} {news : List (Addr × Obj)} {a b c : Int} {t u x : Tok} {Q : Value → Shared → Prop} (hh : A.handled = none) (F : Fr h₀ L s.heap m) (N : News h₀ L s.heap news)
    (h : ∀ h' tk t', Fr h₀ L h' m → News h₀ L h' news → Q (.int (min (min a b) c) t') { s with heap := h', toks := tk }) :
    wpAny (model prog w) A (call (.builtin "min") [.int a t, .int b u, .int c x]) Q E s := by
  refine min_three_ints hh fun h' tk hk => ?_
  have g := fun t' => h h' tk t' (F.grownK hk) (N.grown hk)
  by_cases h1 : b < a
  · rw [if_pos h1]
    by_cases h2 : c < b
    · rw [if_pos h2]
      have e : min (min a b) c = c := by lia  
      rw [e] at g; exact g _
    · rw [if_neg h2]
      have e : min (min a b) c = b := by lia  
      rw [e] at g; exact g _
  · rw [if_neg h1]
    by_cases h2 : c < a
    · rw [if_pos h2]
      have e : min (min a b) c = c := by lia  
      rw [e] at g; exact g _
    · rw [if_neg h2]
      have e : min (min a b) c = a := by lia  
      rw [e] at g; exact g _
local macro_rules | `(tactic| walk_at "call builtin:min cons nil") => `(tactic| ((with_reducible show wpAny _ _ (call (Value.builtin _) [Value.int _ _, Value.int _ _, Value.int _ _]) _ _ _); (with_unfolding_all refine' min3_N ?kh ?kF ?kN ?_; (case kh => rfl); (case kF => k_asm); (case kN => k_asm)); intro _ _ _ _ _; (try dsimp only)))
local macro_rules | `(tactic| walk_at "call builtin:list.append") => blkM
structure TS where
  us : List Value
  cc : Nat
  row : List Int
theorem news_name {P : Prop} {h₀ h : Heap} {L D : Addr} {o : Obj} {rest : List (Addr × Obj)} (_N : News h₀ L h ((D, o) :: rest)) (k : ∀ D', D' = D → P) : P := k D rfl
structure CS where
  D : Addr
  us : List Value
  cc : Nat
  row : List Int
noncomputable def prc2 (b a : Nat) : Int := prc ⟨#[b]⟩ ⟨#[a]⟩
theorem fr_as {h₀ h : Heap} {L : Addr} {m m' : Str → Option Value} (F : Fr h₀ L h m) (e : m = m') : Fr h₀ L h m' := e ▸ F
/-- the frame's map in the inner loop's turn -/
noncomputable def cMp (u2 u : Str → Option Value) (x y : Str) (tx ty t tk : Tok) (D' cD D2 : Addr) (sg : Str) (kk : Int) : Str → Option Value := fun y_1 =>
  if y_1 = Str.ofString "k" then some (Value.int kk tk)
  else kstB (fun z => if [Str.ofString "price"].contains z = true then u2 z
    else if z = Str.ofString "told" then some (Value.ref D2)
    else if z = Str.ofString "sign" then some (Value.str sg t)
    else kstB (fun z => if [Str.ofString "told", Str.ofString "k", Str.ofString "price"].contains z = true then u z
      else if z = Str.ofString "row" then some (Value.ref D')
      else kstB (fun _ => none) [(Str.ofString "two", Value.str y ty), (Str.ofString "one", Value.str x tx)] z) [(Str.ofString "row", Value.ref cD)] z) [] y_1
set_option maxRecDepth 100000 in
set_option maxHeartbeats 8000000 in
theorem cost_claim (w : World) (mean : ExcName → Option Value) (mg mb : Str → Option Value) (x y : Str) (tx ty : Tok) :
   Clm w mean mg mb 54 20 100 (x.length ≤ 3 ∧ y.length ≤ 3) [.str x tx, .str y ty] (fun t => .int (costL prc2 (cl x) (cl y)) t) := by
   have hx : PySem.Challenge.rw_mq0210_02 = PySem.Challenge.rw_mq0210_02 := rfl
   have hy : hd.heap_39 = hd.heap_39 := rfl
   revert hx hy
   k_fill
   intro hx hy
   clear hx hy
   w_on
   intro dp un gd cn cs a ccd clo outs A₀ base h₀ L mm news s Q E hB F X N T hk hpre hdp hun hret
   obtain ⟨hlx, hly⟩ := hpre
   refine wpAny_call ?_
   k_dflt cell_enter
   rename Fr _ _ _ _ => F0
   have F0' := fr_start F0 (l' := [(Str.ofString "two", .str y ty), (Str.ofString "one", .str x tx)]) rfl
   clear F0
   k_steps
   refine Blk.out ?_
   rename Fr _ _ _ _ => F1
   rename News _ _ _ _ => N1
   rename IntsAre _ _ => hI1
   rename LCg.Off1 _ _ => hO1
   have e0 : (List.map (fun k' => 2 * k') (rangeKs 0 ((y.length : Int) + 1 - 0).toNat)) = (List.range ((cl y).length + 1)).map fun (k : Nat) => 2 * (k : Int) := by
     rw [cl_len]
     have e : ((y.length : Int) + 1 - 0).toNat = y.length + 1 := by lia  
     rw [e]
     unfold rangeKs
     rw [List.map_map]
     apply List.map_congr_left
     intro i _
     simp [Function.comp]
   rw [e0] at hI1
   have N2 : News _ _ _ ((_, W.listOf _ _) :: news) := N1
   clear N1
   refine my_text (σ := CS) (fun c => (c.D, W.listOf c.us.toArray c.cc) :: news) (fun c => [(Str.ofString "row", .ref c.D)]) [Str.ofString "told", Str.ofString "k", Str.ofString "price"] (fun i c => IntsAre c.us c.row ∧ c.row = ((cl x).take i).foldl (fun row s => crow (prc2 s) (cl y) row) ((List.range ((cl y).length + 1)).map fun (k : Nat) => 2 * (k : Int)) ∧ c.row.length = (cl y).length + 1) ⟨_, _, _, _⟩ (by first | rfl | assumption) F1 N2 ?_ ⟨hI1, rfl, by simp⟩ ?turn ?done
   · intro p hp
     rcases List.mem_singleton.mp hp with rfl
     exact rfl
   case turn =>
     intro i t I Io c u h tk own hi hP hIne hown hIin F3 N3
     refine gh fun pG hpG => ?_
     obtain ⟨hI, hrow, hlen⟩ := hP
     refine hpG ?_
     clear hpG pG
     have hcl := hI.length
     clear F1 N2 hI1 hO1 e0
     dsimp only at F3 N3 hI hrow hlen ⊢
     have hlen2 : (cl y).length = y.length := cl_len y
     have hly' : Hd (y.length ≤ 3) := hly
     have hly4 : y.length ≤ 4000 := by lia  
     clear hly
     refine wp_hide fun Q8 hQ8 => ?_
     k_steps
     refine Blk.out ?_
     have hly : y.length ≤ 3 := hly'
     rename Fr _ _ _ _ => F4
     rename News _ _ _ _ => N4
     rename IsRange _ _ _ _ _ _ _ _ => hr
     rename (∀ p ∈ ((c.D, W.listOf c.us.toArray c.cc) :: news ++ own), p.1 < _) => l1
     refine news_name N4 fun D2 hD2 => ?_
     subst hD2
     refine kst_range (σ := TS) (n := y.length) (fun d => (D2, W.listOf d.us.toArray d.cc) :: ((c.D, W.listOf c.us.toArray c.cc) :: news ++ own)) (fun _ => []) (fun d => IntsAre d.us d.row) [Str.ofString "price"]
       (fun pre d => CokI (prc2 ((cl x).getD i 0)) (cl y) c.row d.row pre.length) ⟨[.int (c.row.getD 0 0 + 2) _], _, [c.row.getD 0 0 + 2]⟩ ?hh hr ?hsmall ?hn F4 N4 ?hf ?hk2 ?hp2 ?turn2 ?done2
     case hh => rfl
     case hsmall => exact small_one (by lia  ) (by lia  ) (by lia  ) (by lia  )
     case hn => rw [rangeSize_nat]; lia  
     case hf => exact .cons _ _ .nil
     case hk2 => intro p hp; exact absurd hp (by simp)
     case hp2 => exact CokI.start _ _ _
     case turn2 =>
       intro d pre kk tkk u2 h9 tk9 own2 hkk hlt hoff hfa hC F9 N9
       clear F4 N4 hr
       dsimp only at hfa hC F9 N9 ⊢
       obtain rfl : kk = (pre.length : Int) := by lia  
       have hdl := hfa.length
       have hC1 := hC.1
       have hD : ∀ p ∈ ((c.D, W.listOf c.us.toArray c.cc) :: news ++ own) ++ own2, p.1 ≠ D2 := by
         intro p hp
         rcases List.mem_append.mp hp with hp | hp
         · exact Nat.ne_of_lt (l1 p hp)
         · exact hoff p hp D2 (.head _)
       refine wp_hide fun Q9 hQ9 => ?_
       have F10 := fr_as F9 (m' := cMp u2 u x y tx ty t tkk _ c.D D2 ⟨#[(cl x).getD i 0]⟩ (pre.length : Int)) rfl
       clear F9
       have ei : prc ⟨#[(cl x).getD i 0]⟩ (Txt.item y (pre.length : Int)) = prc2 ((cl x).getD i 0) ((cl y).getD pre.length 0) := by
         rw [it_pos (by lia  )]; rfl
       refine cut_fr 1 ((D2, W.listOf d.us.toArray d.cc) :: ((c.D, W.listOf c.us.toArray c.cc) :: news ++ own) ++ own2) (fun m' => ∃ D9 tp, m' = fun z => if z = Str.ofString "price" then some (.int (prc2 ((cl x).getD i 0) ((cl y).getD pre.length 0)) tp) else cMp u2 u x y tx ty t tkk D9 c.D D2 ⟨#[(cl x).getD i 0]⟩ (pre.length : Int) z) F10 ?_ ?_
       · intro Q7 hT hQ7
         dsimp only [List.take]
         k_steps
         all_goals (rename Fr _ _ _ _ => F3; rename News _ _ _ _ => N3)
         · have epr : prc ⟨#[(cl x).getD i 0]⟩ (Txt.item y (pre.length : Int)) = 0 := by
             unfold prc; simp_all
           exact hT _ _ _ ⟨_, _, by rw [← ei, epr]⟩ F3 N3
         · have epr : prc ⟨#[(cl x).getD i 0]⟩ (Txt.item y (pre.length : Int)) = 1 := by
             unfold prc; simp_all
           exact hT _ _ _ ⟨_, _, by rw [← ei, epr]⟩ F3 N3
         · have epr : prc ⟨#[(cl x).getD i 0]⟩ (Txt.item y (pre.length : Int)) = 2 := by
             unfold prc; simp_all
           exact hT _ _ _ ⟨_, _, by rw [← ei, epr]⟩ F3 N3
       · dsimp only [List.drop]
         intro h6 tk6 m6 hR F9 N6
         obtain ⟨D9, tp, rfl⟩ := hR
         clear F10 N9
         k_steps
         refine Blk.out ?_
         rename Fr _ _ _ _ => F11
         rename News _ _ _ _ => N11
         refine append_K F11 N11 (Upd.head hD) ?_ ?_
         · intro h12 F12 N12
           dsimp only at F12 N12 ⊢
           clear F11 N11
           have hst := hC.step (by lia  ) (by lia  )
           simp only [Int.toNat_natCast, List.push_toArray] at N12
           k_steps
           rename Fr _ _ _ _ => F13
           rename News _ _ _ _ => N13
           refine hQ9 _ _ ?_
           refine' kst_end (news' := _ :: (((c.D, W.listOf c.us.toArray c.cc) :: news) ++ own) ++ own2) ⟨d.us ++ [_], _, _⟩ F13 N13 (fun p hp => List.mem_append_left own2 hp) (fun p hp => List.mem_append_right (_ :: (((c.D, W.listOf c.us.toArray c.cc) :: news) ++ own)) hp) rfl (hfa.append (.cons _ _ .nil)) ?hk9 ?hr9 ?hst9
           case hst9 => dsimp only; rw [← lenS]; exact hst
           case hk9 => intro p hp; exact absurd hp (by simp)
           case hr9 =>
             intro z hz hz2 hz3
             simp only [List.contains_cons, List.contains_nil, Bool.or_false, beq_eq_false_iff_ne, ne_eq] at hz3
             by_cases hrow : z = Str.ofString "row"
             · subst hrow; rfl
             · simp [cMp, kstB, hz, hz3, hrow]
         · show d.us.toArray.size ≤ _
           rw [List.size_toArray, sizeLine_eq]; lia  
     case done2 =>
       intro d u2 h9 tk9 hfa hC F9 N9
       clear F4 N4 hr
       dsimp only at hfa hC F9 N9 ⊢
       rw [rangeKs_length] at hC
       have hfin := hC.fin (by lia  )
       k_steps
       rename Fr _ _ _ _ => F11
       rename News _ _ _ _ => N11
       refine hQ8 _ _ ?_
       refine' FN.mk ⟨D2, d.us, d.cc, d.row⟩ _ _ _ ⟨hfa, ?_, ?_⟩ F11 ?_ ?_ ?_ ?_
       · dsimp only
         rw [hfin, hrow]
         have hi' : i < (cl x).length := by rw [cl_len]; exact hi
         rw [List.take_succ_eq_append_getElem hi', List.foldl_append]
         have eg : (cl x).getD i 0 = (cl x)[i] := by rw [List.getD, List.getElem?_eq_getElem hi']; rfl
         rw [eg]
         rfl
       · dsimp only
         rw [hfin]
         exact crow_len _ _ _ hlen
       · intro p hp
         rcases List.mem_singleton.mp hp with rfl
         exact rfl
       · intro z hz hz2 hz3
         have z1 := hz2 _ (.head _)
         simp only [List.contains_cons, List.contains_nil, Bool.or_false, Bool.or_eq_false_iff, beq_eq_false_iff_ne, ne_eq] at hz3 z1
         simp [kstB, hz, z1, hz3]
       · intro p hp
         rcases List.mem_append.mp hp with hp | hp
         · rcases List.mem_cons.mp hp with rfl | hp
           · exact N11 _ (.head _)
           · exact N11 p (.tail _ (List.mem_append_left _ (.tail _ hp)))
         · exact N11 p (.tail _ (List.mem_append_right _ hp))
       · intro p hp
         have hlI := l1 _ (List.mem_append_right _ hIin)
         rcases List.mem_cons.mp hp with rfl | hp
         · exact (Nat.ne_of_lt hlI).symm
         · exact hIne p (.tail _ hp)
   case done =>
     intro c u h tk hP F3 N3
     refine gh fun pG hpG => ?_
     obtain ⟨hI, hrow, hlen⟩ := hP
     refine hpG ?_
     clear hpG pG
     have hcl := hI.length
     clear F1 N2 hI1 hO1 e0
     dsimp only at F3 N3 hI hrow hlen ⊢
     k_steps
     refine cb_retI hret ?_ (by assumption) (cb_drop (by assumption) fun _ h => .tail _ h)
     unfold costL costR
     rw [← cl_len, List.take_length] at hrow
     rw [← hrow]
     congr 1
     lia  
end Mine
end
section
open PySem PySem.W PyProof.Rows
set_option Elab.async false
namespace Mine
theorem strs_of (g : Nat → Str) : ∀ (ys : List Value) (k : Nat), (∀ i y, ys[i]? = some y → ∃ t, y = Value.str (g (k + i)) t) → StrsAre ys ((List.range' k ys.length).map g)
  | [], _, _ => .nil
  | y :: r, k, h => by
    obtain ⟨t, ht⟩ := h 0 y rfl
    have ih := strs_of g r (k + 1) (fun i z hz => by
      obtain ⟨t, ht⟩ := h (i + 1) z (by simpa using hz)
      exact ⟨t, by rw [ht]; congr 2; omega⟩)
    rw [ht]
    exact .cons _ _ ih
theorem strs_of0 {g : Nat → Str} {ys : List Value} {n : Nat} (hl : ys.length = n) (h : ∀ i y, ys[i]? = some y → ∃ t, y = Value.str (g i) t) : StrsAre ys ((List.range n).map g) := by
  subst hl
  rw [List.range_eq_range']
  exact strs_of g ys 0 (fun i y hy => by rw [Nat.zero_add]; exact h i y hy)
theorem ints_of (g : Nat → Int) : ∀ (ys : List Value) (k : Nat), (∀ i y, ys[i]? = some y → ∃ t, y = Value.int (g (k + i)) t) → IntsAre ys ((List.range' k ys.length).map g)
  | [], _, _ => .nil
  | y :: r, k, h => by
    obtain ⟨t, ht⟩ := h 0 y rfl
    have ih := ints_of g r (k + 1) (fun i z hz => by
      obtain ⟨t, ht⟩ := h (i + 1) z (by simpa using hz)
      exact ⟨t, by rw [ht]; congr 2; omega⟩)
    rw [ht]
    exact .cons _ _ ih
theorem ints_of0 {g : Nat → Int} {ys : List Value} {n : Nat} (hl : ys.length = n) (h : ∀ i y, ys[i]? = some y → ∃ t, y = Value.int (g i) t) : IntsAre ys ((List.range n).map g) := by
  subst hl
  rw [List.range_eq_range']
  exact ints_of g ys 0 (fun i y hy => by rw [Nat.zero_add]; exact h i y hy)
section
variable {prog : Program} {w : World} {A : Around} {h₀ : Heap} {L : Addr} {m : Str → Option Value} {env : Env} {elt : Expr} {x : Str} {scope : Scope} {cl : List (Str × Addr)} {s : Shared} {S : List (Addr × Obj) → Prop} {P : Nat → Value → Prop} {Fin : List Value → List (Addr × Obj) → Prop} {news : List (Addr × Obj)}
/-- a comprehension whose ledger may grow: J says what stands after i items -/
theorem rest_led {n : Nat} (J : Nat → List Value → List (Addr × Obj) → Prop) (h0 : J 0 [] news)
    (turn : ∀ i v I oI C oC D m₂ ys nw h tk (E' : Value → Shared → Prop), i < n → P i v → J i ys nw → LCg.NsObj oC m₂ → m₂ x = some v → Fr h₀ L h m → News h₀ L h ((I, oI) :: (C, oC) :: (D, LCg.lst ys) :: nw) → LCg.Off3 I C D nw → ((@Ne Nat I C) ∧ (@Ne Nat I D) ∧ (@Ne Nat C D)) →
      wpAny (model prog w) A (eval elt (compEnvC scope cl C env)) (LCg.CompEnd h₀ L m { s with heap := h, toks := tk } I oI C oC D (LCg.lst ys) S (fun y nw' => J (i + 1) (ys ++ [y]) nw')) E' { s with heap := h, toks := tk })
    (fin : ∀ ys nw, J n ys nw → Fin ys nw) : LCg.CompRest prog w A h₀ L m env elt x scope cl s S P Fin n 0 [] news := by
  have key : ∀ (j i : Nat) (ys : List Value) nw, i + j = n → J i ys nw → LCg.CompRest prog w A h₀ L m env elt x scope cl s S P Fin j i ys nw := by
    intro j
    induction j with
    | zero =>
      intro i ys nw hi hy
      obtain rfl : i = n := by omega
      exact LCg.CompRest.zero (fin ys nw hy)
    | succ j ih =>
      intro i ys nw hi hy
      refine LCg.CompRest.succ ?_
      intro v I oI C oC D m₂ h tk E' hv hC hx F N off ne
      refine wpAny_mono (turn i v I oI C oC D m₂ ys nw h tk E' (by omega) hv hy hC hx F N off ne) (fun y s₂ hq => ?_) fun _ _ e => e
      refine gh fun pG hpG => ?_
      obtain ⟨h', tk', nw', e, F', N', off', hS, hn⟩ := hq
      refine hpG ?_
      clear hpG pG
      exact ⟨h', tk', nw', e, F', N', off', hS, ih (i + 1) _ _ (by omega) hn⟩
  exact key n 0 [] news (by omega) h0
theorem rest_gen {n : Nat} (R : Nat → Value → Prop)
    (turn : ∀ i v I oI C oC D m₂ ys h tk (E' : Value → Shared → Prop), i < n → P i v → LCg.NsObj oC m₂ → m₂ x = some v → Fr h₀ L h m → News h₀ L h ((I, oI) :: (C, oC) :: (D, LCg.lst ys) :: news) → LCg.Off3 I C D news → ((@Ne Nat I C) ∧ (@Ne Nat I D) ∧ (@Ne Nat C D)) →
      wpAny (model prog w) A (eval elt (compEnvC scope cl C env)) (LCg.CompEnd h₀ L m { s with heap := h, toks := tk } I oI C oC D (LCg.lst ys) S (fun y nw' => nw' = news ∧ R i y)) E' { s with heap := h, toks := tk })
    (fin : ∀ ys, ys.length = n → (∀ i y, ys[i]? = some y → R i y) → Fin ys news) : LCg.CompRest prog w A h₀ L m env elt x scope cl s S P Fin n 0 [] news := by
  refine rest_led (fun i ys nw => nw = news ∧ ys.length = i ∧ ∀ i y, ys[i]? = some y → R i y) ⟨rfl, rfl, by simp⟩ ?_ ?_
  · intro i v I oI C oC D m₂ ys nw h tk E' hi hv hJ0
    refine gh fun pG hpG => ?_
    obtain ⟨rfl, hl, hr⟩ := hJ0
    refine hpG ?_
    clear hpG pG
    intro hC hx F N off ne
    refine wpAny_mono (turn i v I oI C oC D m₂ ys h tk E' hi hv hC hx F N off ne) (fun y s₂ hq => ?_) fun _ _ e => e
    refine gh fun pG hpG => ?_
    obtain ⟨h', tk', nw', e, F', N', off', hS, hn, hR⟩ := hq
    refine hpG ?_
    clear hpG pG
    subst hn
    refine ⟨h', tk', _, e, F', N', off', hS, rfl, by simp [hl], fun j z hj => ?_⟩
    rcases Nat.lt_trichotomy j ys.length with q | q | q
    · exact hr j z (by rwa [List.getElem?_append_left q] at hj)
    · subst q
      simp at hj
      subst hj
      rw [hl]; exact hR
    · rw [List.getElem?_eq_none (by rw [List.length_append, List.length_singleton]; omega)] at hj
      cases hj
  · intro ys nw hJ0
    refine gh fun pG hpG => ?_
    obtain ⟨rfl, hl, hr⟩ := hJ0
    refine hpG ?_
    clear hpG pG
    exact fin ys hl hr
end
end Mine
end
section
open PySem PySem.W PyProof.Rows
set_option Elab.async false
namespace Mine
local macro_rules | `(tactic| walk_at "eval ListComp") => blkM
local macro_rules | `(tactic| walk_at "CompSrc") => blkM
theorem fr_to {h₀ h : Heap} {L : Addr} {m m' : Str → Option Value} (F : Fr h₀ L h m) (e : m = m') : Fr h₀ L h m' := e ▸ F
noncomputable def sgn (x : Int) (i : Nat) : Str := ⟨#[[97, 65, 98].getD (((x.fdiv 4).fdiv (3 ^ i)).fmod 3).toNat 0]⟩
noncomputable def nameS (x : Int) : Str := ⟨((List.range (x.fmod 4).toNat).map fun i => [97, 65, 98].getD (((x.fdiv 4).fdiv (3 ^ i)).fmod 3).toNat 0).toArray⟩
theorem sgn_at {d : Int} (h0 : 0 ≤ d) (h1 : d < 3) : Txt.item (Str.ofString "aAb") d = ⟨#[[97, 65, 98].getD d.toNat 0]⟩ := by
  have h : d = 0 ∨ d = 1 ∨ d = 2 := by lia  
  rcases h with rfl | rfl | rfl <;> decide +kernel
theorem le_of_ones : ∀ (l : List Str), (∀ y ∈ l, y.length = 1) → (l.map (·.length)).sum = l.length
  | [], _ => rfl
  | y :: r, h => by
    rw [List.map_cons, List.sum_cons, h y (.head _), le_of_ones r fun z hz => h z (.tail _ hz), List.length_cons]; lia  
theorem join_name (x : Int) (h1 : x.fmod 4 < 4) : Txt.join (Str.ofString "") ((List.range (x.fmod 4).toNat).map (sgn x)) = nameS x := by
  have e0 : (Str.ofString "") = ⟨#[]⟩ := by decide +kernel
  have hn : (x.fmod 4).toNat = 0 ∨ (x.fmod 4).toNat = 1 ∨ (x.fmod 4).toNat = 2 ∨ (x.fmod 4).toNat = 3 := by lia  
  rw [e0]
  unfold nameS
  rcases hn with h | h | h | h <;> rw [h] <;> rfl
local macro_rules | `(tactic| walk_at "call builtin:str.join") => blkM
set_option maxRecDepth 100000 in
set_option maxHeartbeats 8000000 in
theorem name_claim (w : World) (mean : ExcName → Option Value) (mg mb : Str → Option Value) (x : Int) (tx : Tok) :
   Clm w mean mg mb 49 10 50 True [.int x tx] (fun t => .str (nameS x) t) := by
   have hx : PySem.Challenge.rw_mq0210_02 = PySem.Challenge.rw_mq0210_02 := rfl
   have hy : hd.heap_39 = hd.heap_39 := rfl
   revert hx hy
   k_fill
   intro hx hy
   clear hx hy
   w_on
   intro dp un gd cn cs a ccd clo outer A₀ base h₀ L mm news s Q E hB F X N T hk hpre hdp hun hret
   refine wpAny_call ?_
   k_dflt (refine' code_defC ?k1 ?k2 ?k3 ?k4 ?k5 ?kA ?kF ?kK ?k6 ?k7 ?k8 ?k9 ?kB ?kD ?_ ?c2 ?c3 ?c4; (case kA => exact rfl); (case kF => exact rfl); (case kK => assumption); (case k1 => k_asm); (case k2 => k_asm); (case k3 => k_asm); (case k4 => k_asm); (case k5 => k_asm); (case k6 => k_is); (case k7 => k_is); (case k8 => ktr_room); (case k9 => exact BindsTo.of_eq rfl); (case kB => exact rfl); (case kD => decide +kernel); (case c2 => exact rfl); (case c3 => exact rfl); (case c4 => exact rfl); k_whole; intro g' L' h' tk' cells' FG' F' N' Y' B' X' T' l1; (try k_lt l1); k_cells Y'; (try simp only [List.cons_append, List.nil_append] at N'); (try dsimp only); (try k_lift B'); (try k_fold))
   rename Fr _ _ _ _ => F0
   have F0' := fr_to F0 (m' := fun _ => none) (by funext z; with_unfolding_all rfl)
   clear F0
   k_steps
   refine Blk.out ?_
   refine LCg.ListComp_U (F₀ := by k_asm) (by with_unfolding_all rfl) (by decide) (by rfl) (by decide) (by rfl) ?_
   k_steps
   refine Blk.out ?_
   rename IsRange _ _ _ _ _ _ _ _ => hr
   rename Fr _ _ _ _ => F1
   rename News _ _ _ _ => N1
   have h0 := fmod_lo x (n := 4) (by decide)
   have h1 := fmod_hi x (n := 4) (by decide)
   refine LCg.CompSrc.range (n := (x.fmod 4).toNat) (by rfl) F1 N1 hr (by exact small_one (by lia  ) (by lia  ) (by lia  ) (by lia  )) ?_ (by rw [sizeLine_eq]; lia  ) ?_
   · rw [show x.fmod 4 = (((x.fmod 4).toNat : Nat) : Int) by lia  , rangeSize_nat]; lia  
   intro g2
   refine rest_gen (fun i y => ∃ t, y = Value.str (sgn x i) t) ?_ ?_
   · rintro i v I oI C oC D m₂ ys h tk E' hi ⟨t, rfl⟩ hC hx F2 N2 off ne
     clear F1 N1 hr
     simp only [LCg.Off3] at off
     have hi3 : i = 0 ∨ i = 1 ∨ i = 2 := by lia  
     rcases hi3 with rfl | rfl | rfl
     all_goals
       dsimp only at F2 N2 ⊢
       k_steps
       exact LCg.CompEnd.intro F2 N2 _ (fun _ h => h) off trivial ⟨rfl, _, congrArg (fun z => Value.str z _) (sgn_at (fmod_lo _ (by decide)) (fmod_hi _ (by decide)))⟩
   · intro ys hl hR D h tk F2 N2 off
     clear F1 N1 hr
     dsimp only at F2 N2 ⊢
     k_steps
     refine Blk.out ?_
     have hs := strs_of0 hl hR
     refine join_listW (ys := (List.range (x.fmod 4).toNat).map (sgn x)) (News.isList N2 (.head _)) (by simpa using hs) (by decide) ?_ ?_
     · have hb := le_of_ones ((List.range (x.fmod 4).toNat).map (sgn x)) (by intro y hy; obtain ⟨i, _, rfl⟩ := List.mem_map.mp hy; rfl)
       rw [List.length_map, List.length_range] at hb
       rw [List.length_map, List.length_range]
       lia  
     · intro t' k
       k_steps
       exact cb_retS hret (join_name x h1) (by assumption) (cb_drop (by assumption) fun _ h => .tail _ (.tail _ h))
end Mine
end
section
open PySem PySem.W PyProof.Rows
set_option Elab.async false
namespace Mine
/-- two addresses are not one; hidden from omega -/
noncomputable def Dif (a b : Nat) : Prop := a ≠ b
theorem Dif.ne {a b : Addr} (h : Dif a b) : a ≠ b := h
theorem Dif.ne' {a b : Addr} (h : Dif b a) : a ≠ b := Ne.symm h
/-- strings from a list's own places -/
theorem strs_map {α : Type} {g : α → Str} {l : List α} {d : α} {ys : List Value} {n : Nat} (hn : n = l.length) (hl : ys.length = n) (h : ∀ i y, ys[i]? = some y → ∃ t, y = Value.str (g (l.getD i d)) t) : StrsAre ys (l.map g) := by
  subst hn
  have e : (List.range l.length).map (fun i => g (l.getD i d)) = l.map g := by
    apply List.ext_getElem
    · simp
    · intro i h1 h2
      simp only [List.length_map] at h2
      simp [List.getD, List.getElem?_eq_getElem h2]
  rw [← e]
  exact strs_of0 hl h
theorem str_at {vs : List Value} {ss : List Str} (h : StrsAre vs ss) (i : Nat) (v : Value) (e : vs[i]? = some v) : i < ss.length ∧ ∃ t, v = .str (ss.getD i ⟨#[]⟩) t := by
  obtain ⟨y, t, rfl, hy⟩ := h.item i v e
  refine ⟨(List.getElem?_eq_some_iff.mp hy).1, t, ?_⟩
  rw [List.getD, hy]; rfl
theorem nameS_len (x : Int) : (nameS x).length ≤ 3 := by
  show (List.map _ (List.range (x.fmod 4).toNat)).toArray.size ≤ 3
  rw [List.size_toArray, List.length_map, List.length_range]
  have := fmod_hi x (show (0 : Int) < 4 by decide)
  omega
theorem news_sub {h₀ h : Heap} {L : Addr} {news : List (Addr × Obj)} (news' : List (Addr × Obj)) (N : News h₀ L h news) (hs : ∀ p ∈ news', p ∈ news) : News h₀ L h news' := fun p hp => N p (hs p hp)
theorem news_lt {h₀ h : Heap} {L : Addr} {news : List (Addr × Obj)} (N : News h₀ L h news) : ∀ p ∈ news, @LT.lt Nat _ p.1 h.objs.size := fun p hp => Heap.lt_size (N p hp).1
theorem off1_mem {D : Addr} (news : List (Addr × Obj)) : LCg.Off1 D news → ∀ p ∈ news, Dif p.1 D := by
  induction news with
  | nil => intro _ p hp; exact absurd hp List.not_mem_nil
  | cons q r ih =>
    intro h p hp
    have h' : (@Ne Nat q.1 D) ∧ LCg.Off1 D r := h
    rcases List.mem_cons.mp hp with rfl | hp
    · exact h'.1
    · exact ih h'.2 p hp
theorem all_conj {P : Addr × Obj → Prop} {l l' : List (Addr × Obj)} (h : ∀ p ∈ l, P p) (hs : ∀ p ∈ l', p ∈ l) : ∀ p ∈ l', P p := fun p hp => h p (hs p hp)
end Mine
end
section
open PySem PySem.W PyProof.Rows
set_option Elab.async false
namespace Mine
theorem name_call {w : World} {mean : ExcName → Option Value} {mg mb : Str → Option Value} {dp un : Nat} {gd : Option (List Code)} {cn : Str} {cs : Scope} {a : Addr} {ccd : Value} {cl : List (Str × Addr)} {outer : List Env} {A₀ : Around} {base h₀ : Heap} {L : Addr} {m : Str → Option Value} {news : List (Addr × Obj)} {s : Shared} {Q E : Value → Shared → Prop} {x : Int} {tx : Tok}
    (hB : Below A₀ base outer h₀) (F : Fr h₀ L s.heap m) (X : (hd.heap_39 w.params).In h₀) (N : News h₀ L s.heap news) (T : Top topProg LOO mean mg mb h₀) (hk : cs.kind = .function) (hd : dp + 10 < recursionLimit) (hu : un + 50 < cLine)
    (hret : ∀ (t : Tok) (h' : Heap) (tk' : Nat), Fr h₀ L h' m → News h₀ L h' news → Q (.str (nameS x) t) { s with heap := h', toks := tk' }) :
      wpAny (model PySem.Challenge.rw_mq0210_02.row.prog w) (ktrTop dp un gd cn cs L a ccd cl outer) (call (.ref 49) [.int x tx]) Q E s :=
  name_claim w mean mg mb x tx dp un gd cn cs a ccd cl outer A₀ base h₀ L m news s Q E hB F X N T hk trivial hd hu hret
theorem cost_call {w : World} {mean : ExcName → Option Value} {mg mb : Str → Option Value} {dp un : Nat} {gd : Option (List Code)} {cn : Str} {cs : Scope} {a : Addr} {ccd : Value} {cls : List (Str × Addr)} {outer : List Env} {A₀ : Around} {base h₀ : Heap} {L : Addr} {m : Str → Option Value} {news : List (Addr × Obj)} {s : Shared} {Q E : Value → Shared → Prop} {x y : Str} {tx ty : Tok}
    (hB : Below A₀ base outer h₀) (F : Fr h₀ L s.heap m) (X : (hd.heap_39 w.params).In h₀) (N : News h₀ L s.heap news) (T : Top topProg LOO mean mg mb h₀) (hk : cs.kind = .function) (hx : x.length ≤ 3) (hy : y.length ≤ 3) (hd : dp + 20 < recursionLimit) (hu : un + 100 < cLine)
    (hret : ∀ (t : Tok) (h' : Heap) (tk' : Nat), Fr h₀ L h' m → News h₀ L h' news → Q (.int (costL prc2 (cl x) (cl y)) t) { s with heap := h', toks := tk' }) :
      wpAny (model PySem.Challenge.rw_mq0210_02.row.prog w) (ktrTop dp un gd cn cs L a ccd cls outer) (call (.ref 54) [.str x tx, .str y ty]) Q E s :=
  cost_claim w mean mg mb x y tx ty dp un gd cn cs a ccd cls outer A₀ base h₀ L m news s Q E hB F X N T hk ⟨hx, hy⟩ hd hu hret
theorem lev_call {w : World} {mean : ExcName → Option Value} {mg mb : Str → Option Value} {dp un : Nat} {gd : Option (List Code)} {cn : Str} {cs : Scope} {a : Addr} {ccd : Value} {cls : List (Str × Addr)} {outer : List Env} {A₀ : Around} {base h₀ : Heap} {L : Addr} {m : Str → Option Value} {news : List (Addr × Obj)} {s : Shared} {Q E : Value → Shared → Prop} {x y : Str} {k : Int} {tx ty tk : Tok}
    (hB : Below A₀ base outer h₀) (F : Fr h₀ L s.heap m) (X : (hd.heap_39 w.params).In h₀) (N : News h₀ L s.heap news) (T : Top topProg LOO mean mg mb h₀) (hk : cs.kind = .function) (hx : x.length ≤ 3) (hy : y.length ≤ 3) (hd : dp + 20 < recursionLimit) (hu : un + 100 < cLine)
    (hret : ∀ (t : Tok) (h' : Heap) (tk' : Nat), Fr h₀ L h' m → News h₀ L h' news → Q (.int (levL sub2 (cl x) (cl y) k) t) { s with heap := h', toks := tk' }) :
      wpAny (model PySem.Challenge.rw_mq0210_02.row.prog w) (ktrTop dp un gd cn cs L a ccd cls outer) (call (.ref 44) [.str x tx, .str y ty, .int k tk]) Q E s :=
  lev_claim w mean mg mb x y k tx ty tk dp un gd cn cs a ccd cls outer A₀ base h₀ L m news s Q E hB F X N T hk ⟨hx, hy⟩ hd hu hret
end Mine
end
section
open PySem PySem.W PyProof.Rows
set_option Elab.async false
namespace Mine
section
variable {prog : Program} {w : World} {A : Around} {E : Value → Shared → Prop} {s : Shared} {h₀ : Heap} {L l : Addr} {m : Str → Option Value} {news : List (Addr × Obj)} {value slice : PySem.Expr} {vs : List Value} {ns ms : List Int} {vl vu : Value} {lo hi : Option Int} {Q : Value → Shared → Prop}
/-- a slice of a list of ints, whatever its expression is -/
theorem slice_T (F : Fr h₀ L s.heap m) (N : News h₀ L s.heap news) {c : Nat} (hl : (l, W.listOf vs.toArray c) ∈ news) (pl : IsPart vl lo) (pu : IsPart vu hi) (hm : IntsAre (slicePick vs.toArray lo hi none).toList ms) (hz : vs.length ≤ 64)
    (h : ∀ D ws h', Fr h₀ L h' m → News h₀ L h' ((D, W.listOf (List.toArray ws) 0) :: news) → (∀ p ∈ news, p.1 < D) → IntsAre ws ms → Q (.ref D) { s with heap := h' })
    (hs : subscripted slice false (.ref l) (.ref s.heap.objs.size) = operate [.ref s.heap.objs.size, .ref l] (getItem (.ref l) (.ref s.heap.objs.size))) :
    wpAny (model prog w) A (subscriptTail value slice (.ref l) (.ref s.heap.objs.size)) Q E { s with heap := s.heap.push { cls := .type "slice", data := .fields #[vl, vu, .none] } } := by
  have hl := News.isList N hl
  have hsz : vs.toArray.size ≤ sizeLine := by rw [List.size_toArray, sizeLine_eq]; omega
  refine tail_any (Heap.IsList.typeIs (s := { s with heap := s.heap.push { cls := .type "slice", data := .fields #[vl, vu, .none] } }) (hl.push _)) list_getitem_lookup
    (wpAny_getItem_list_slice (hl.push _) (Heap.IsSliceOf.new ..) pl pu .none (by simp) ?_ hsz) hs
  have N1 := News.push (F.push { cls := .type "slice", data := .fields #[vl, vu, .none] }) (N.grown fun _ _ e => Heap.get?_push_of_some _ e) { cls := .type "list", data := .seq (slicePick vs.toArray lo hi none) }
  rw [Heap.size_push] at N1
  show Q (.ref (s.heap.push _).objs.size) _
  rw [Heap.size_push]
  refine h _ (slicePick vs.toArray lo hi none).toList _ ((F.push _).push _) ?_ (fun p hp => Nat.lt_succ_of_lt (Heap.lt_size (N p hp).1)) hm
  rw [Array.toArray_toList]
  exact N1
/-- an item of a list, whatever its expression is -/
theorem item_T {c k : Nat} {u : Tok} {x : Value} (N : News h₀ L s.heap news) (hm : (l, ({ cls := .type "list", data := .seq vs.toArray c } : Obj)) ∈ news) (hx : vs[k]? = some x) (h9 : vs.length < 100) (h : Q x s)
    (hs : subscripted slice false (.ref l) (.int (k : Int) u) = operate [.ref l, .int (k : Int) u] (getItem (.ref l) (.int (k : Int) u))) : wpAny (model prog w) A (subscriptTail value slice (.ref l) (.int (k : Int) u)) Q E s := by
  have hl : s.heap.IsList l vs.toArray := ⟨_, (N _ hm).1, rfl, _, rfl⟩
  have hk : k < vs.length := (List.getElem?_eq_some_iff.mp hx).1
  exact tail_any hl.typeIs slot_list_getitem.lookup (wpAny_getItem_list hl (Int.natCast_nonneg k) (by omega) (by rw [Int.toNat_natCast, List.getElem?_toArray]; exact hx) h) hs
end
end Mine
end
section
open PySem PySem.W PyProof.Rows
set_option Elab.async false
namespace Mine
noncomputable def L3 : List Nat := [97, 65, 98]
noncomputable def t3 (b a : Nat) : Int := if a = b then 0 else if a = 98 ∨ b = 98 then 2 else 1
noncomputable def sub3 (b a : Nat) : Int := if L3.contains b && L3.contains a then t3 b a else sub2 b a
noncomputable def prc3 (b a : Nat) : Int := if L3.contains b && L3.contains a then t3 b a else prc2 b a
theorem l3_or {b : Nat} (h : L3.contains b = true) : b = 97 ∨ b = 65 ∨ b = 98 := by simpa [L3] using h
theorem sub3_eq : sub2 = sub3 := by
  funext b a
  unfold sub3
  split
  · rename_i h
    rw [Bool.and_eq_true] at h
    rcases l3_or h.1 with rfl | rfl | rfl <;> rcases l3_or h.2 with rfl | rfl | rfl <;> decide +kernel
  · rfl
theorem prc3_eq : prc2 = prc3 := by
  funext b a
  unfold prc3
  split
  · rename_i h
    rw [Bool.and_eq_true] at h
    rcases l3_or h.1 with rfl | rfl | rfl <;> rcases l3_or h.2 with rfl | rfl | rfl <;> decide +kernel
  · rfl
/-- all the costs, as one number to the base 8 -/
noncomputable def BIG : Nat := 3145262976741538045949775064499310733976809664993331230706924530059309923025355738341950648494615787576793645837246472700901730675178922314640615600591068615974125844697624941117098107770522183900974716074243526694080068033352701162758270889281080393942076140457539021224385666555997477555878624564757216716967230919995558438377084294286068284781582353419933626713743847899609954746368307745580642694393751819913081261098313760957750984880199005154250409390434355928999390659006243739048790839467384942771810845834577835498478118074426253166342684117350771522989208255628905321380411041735997274331961007705908863503232854374056733893874620472827611392502697868812257367223816677949836896177017388230650151732206862556230588239412078633342111937221543939413907536119490222784652081955713947304279761902887569961329825179417472496367529601018056539289835079252262006920284731431511154430595781433968515114996562500522016361153055311961001830629048220092048379942544529874546036856405702674594959977725955781821255093710580322888815170353258445480673118494364465315645018190449984825762106345411124070783414676623596890384784650929353541852947784584885928280483303432758227959112828001784631233848297763061423372022758751655169116290736927359299729072094559197217743786174565551649134684757542246495680148528688043183731979228602989061808331646046366173402758745781397699317078383368186032555575494714042761130761709739227912437110030390191604880
/-- the cost of the words at the places i and j -/
noncomputable def mm (i j : Nat) : Nat := BIG / 8 ^ (40 * i + j) % 8
noncomputable def N40 : List (List Nat) := [[]] ++ L3.map (fun a => [a]) ++ L3.flatMap (fun a => L3.map fun b => [a, b]) ++ L3.flatMap (fun a => L3.flatMap fun b => L3.map fun c => [a, b, c])
noncomputable def okAt (i : Nat) : List (List Nat) → Nat → List Nat → Bool
  | [], _, _ => true
  | b :: r, j, a => (levL sub3 a b 99 == (mm i j : Int)) && (costL prc3 a b == (mm i j : Int)) && (Nat.beq (mm i j) 0 == (a == b)) && Nat.beq (mm i j) (mm j i) && okAt i r (j + 1) a
noncomputable def allB (p : Nat → Bool) : Nat → Bool
  | 0 => true
  | n + 1 => p n && allB p n
theorem allB_at {p : Nat → Bool} : ∀ {n : Nat}, allB p n = true → ∀ {i : Nat}, i < n → p i = true
  | n + 1, h, i, hi => by
    unfold allB at h
    rw [Bool.and_eq_true] at h
    rcases Nat.lt_succ_iff_lt_or_eq.mp hi with q | rfl
    · exact allB_at h.2 q
    · exact h.1
noncomputable def triB (i j : Nat) : Bool := allB (fun k => Nat.ble (mm i k) (mm i j + mm j k)) 40
noncomputable def triR (i : Nat) : Bool := allB (triB i) 40
noncomputable def N40at (i : Nat) : List Nat := N40.getD i []
theorem okr0 : allB (fun i => okAt (5 * 0 + i) N40 0 (N40at (5 * 0 + i))) 5 = true := by decide +kernel
theorem okr1 : allB (fun i => okAt (5 * 1 + i) N40 0 (N40at (5 * 1 + i))) 5 = true := by decide +kernel
theorem okr2 : allB (fun i => okAt (5 * 2 + i) N40 0 (N40at (5 * 2 + i))) 5 = true := by decide +kernel
theorem okr3 : allB (fun i => okAt (5 * 3 + i) N40 0 (N40at (5 * 3 + i))) 5 = true := by decide +kernel
theorem okr4 : allB (fun i => okAt (5 * 4 + i) N40 0 (N40at (5 * 4 + i))) 5 = true := by decide +kernel
theorem okr5 : allB (fun i => okAt (5 * 5 + i) N40 0 (N40at (5 * 5 + i))) 5 = true := by decide +kernel
theorem okr6 : allB (fun i => okAt (5 * 6 + i) N40 0 (N40at (5 * 6 + i))) 5 = true := by decide +kernel
theorem okr7 : allB (fun i => okAt (5 * 7 + i) N40 0 (N40at (5 * 7 + i))) 5 = true := by decide +kernel
theorem trr0 : allB (fun i => triR (5 * 0 + i)) 5 = true := by decide +kernel
theorem trr1 : allB (fun i => triR (5 * 1 + i)) 5 = true := by decide +kernel
theorem trr2 : allB (fun i => triR (5 * 2 + i)) 5 = true := by decide +kernel
theorem trr3 : allB (fun i => triR (5 * 3 + i)) 5 = true := by decide +kernel
theorem trr4 : allB (fun i => triR (5 * 4 + i)) 5 = true := by decide +kernel
theorem trr5 : allB (fun i => triR (5 * 5 + i)) 5 = true := by decide +kernel
theorem trr6 : allB (fun i => triR (5 * 6 + i)) 5 = true := by decide +kernel
theorem trr7 : allB (fun i => triR (5 * 7 + i)) 5 = true := by decide +kernel
theorem all40 {p : Nat → Bool} (h : ∀ c, c < 8 → allB (fun i => p (5 * c + i)) 5 = true) {i : Nat} (hi : i < 40) : p i = true := by
  have := allB_at (h (i / 5) (by omega)) (i := i % 5) (by omega)
  rwa [show 5 * (i / 5) + i % 5 = i by omega] at this
theorem ok40 {i : Nat} (hi : i < 40) : okAt i N40 0 (N40at i) = true :=
  all40 (p := fun i => okAt i N40 0 (N40at i)) (fun c hc => match c, hc with | 0, _ => okr0 | 1, _ => okr1 | 2, _ => okr2 | 3, _ => okr3 | 4, _ => okr4 | 5, _ => okr5 | 6, _ => okr6 | 7, _ => okr7) hi
theorem tri40 {i j k : Nat} (hi : i < 40) (hj : j < 40) (hk : k < 40) : mm i k ≤ mm i j + mm j k :=
  Nat.le_of_ble_eq_true (allB_at (allB_at (all40 (p := triR) (fun c hc => match c, hc with | 0, _ => trr0 | 1, _ => trr1 | 2, _ => trr2 | 3, _ => trr3 | 4, _ => trr4 | 5, _ => trr5 | 6, _ => trr6 | 7, _ => trr7) hi) hj) hk)
theorem okAt_get {i : Nat} {a : List Nat} : ∀ {r : List (List Nat)} {j : Nat}, okAt i r j a = true → ∀ {t : Nat} {b : List Nat}, r[t]? = some b →
    ((levL sub3 a b 99 = (mm i (j + t) : Int) ∧ costL prc3 a b = (mm i (j + t) : Int)) ∧ (mm i (j + t) = 0 ↔ a = b)) ∧ mm i (j + t) = mm (j + t) i
  | b :: r, j, h, t, b', e => by
    unfold okAt at h
    simp only [Bool.and_eq_true] at h
    obtain ⟨⟨⟨⟨h1, h2⟩, h3⟩, h4⟩, h5⟩ := h
    cases t with
    | zero =>
      obtain rfl : b = b' := Option.some.inj e
      refine ⟨⟨⟨beq_iff_eq.mp h1, beq_iff_eq.mp h2⟩, ?_⟩, Nat.eq_of_beq_eq_true h4⟩
      rw [beq_iff_eq] at h3
      exact ⟨fun q => beq_iff_eq.mp (h3.symm.trans (by rw [show mm i j = 0 from q]; rfl)), fun q => Nat.eq_of_beq_eq_true (h3.trans (beq_iff_eq.mpr q))⟩
    | succ t =>
      have := okAt_get h5 (t := t) e
      rwa [show j + 1 + t = j + (t + 1) by omega] at this
theorem place {x : List Nat} (h : x ∈ N40) : ∃ i, i < 40 ∧ N40[i]? = some x ∧ N40at i = x := by
  obtain ⟨i, hi, e⟩ := List.getElem_of_mem h
  have h40 : N40.length = 40 := by decide +kernel
  refine ⟨i, h40 ▸ hi, e ▸ List.getElem?_eq_getElem hi, ?_⟩
  unfold N40at
  rw [List.getD, List.getElem?_eq_getElem hi]; exact e
/-- the costs of two names -/
noncomputable def cst (x y : Str) : Int := costL prc2 (cl x) (cl y)
theorem metric {x y : Str} (hx : cl x ∈ N40) (hy : cl y ∈ N40) : (levL sub2 (cl x) (cl y) 99 = cst x y ∧ 0 ≤ cst x y) ∧ (cst x y = 0 ↔ cl x = cl y) ∧ cst x y = cst y x ∧ ∀ z : Str, cl z ∈ N40 → cst x z ≤ cst x y + cst y z := by
  obtain ⟨i, hi, ei, ai⟩ := place hx
  obtain ⟨j, hj, ej, aj⟩ := place hy
  have g : ∀ {p q : Nat}, p < 40 → ∀ {b : List Nat}, N40[q]? = some b → costL prc2 (N40at p) b = (mm p q : Int) := fun hp b e => by
    have := (okAt_get (ok40 hp) e).1.1.2
    rw [Nat.zero_add] at this
    rw [prc3_eq]; exact this
  obtain ⟨⟨⟨h1, h2⟩, h3⟩, h4⟩ := okAt_get (ok40 hi) ej
  rw [Nat.zero_add, ai] at h1 h2 h3
  rw [Nat.zero_add] at h4
  have exy : cst x y = (mm i j : Int) := by unfold cst; rw [← ai]; exact g hi ej
  refine ⟨⟨?_, ?_⟩, ?_, ?_, fun z hz => ?_⟩
  · rw [sub3_eq, h1, exy]
  · rw [exy]; omega
  · rw [exy, ← h3]; omega
  · rw [exy, h4]
    unfold cst; rw [← aj]; exact (g hj ei).symm
  · obtain ⟨k, hk, ek, ak⟩ := place hz
    have exz : cst x z = (mm i k : Int) := by unfold cst; rw [← ai]; exact g hi ek
    have eyz : cst y z = (mm j k : Int) := by unfold cst; rw [← aj]; exact g hj ek
    have := tri40 hi hj hk
    rw [exy, exz, eyz]; omega
theorem in40 {l : List Nat} (h3 : l.length ≤ 3) (hl : ∀ a ∈ l, L3.contains a = true) : l ∈ N40 := by
  have h : ∀ a ∈ l, a ∈ L3 := fun a ha => List.contains_iff_mem.mp (hl a ha)
  unfold N40
  rcases l with _ | ⟨a, _ | ⟨b, _ | ⟨c, _ | ⟨d, r⟩⟩⟩⟩
  · simp
  · exact List.mem_append_left _ (List.mem_append_left _ (List.mem_append_right _ (List.mem_map_of_mem (h a (.head _)))))
  · exact List.mem_append_left _ (List.mem_append_right _ (List.mem_flatMap.mpr ⟨a, h a (.head _), List.mem_map_of_mem (h b (.tail _ (.head _)))⟩))
  · exact List.mem_append_right _ (List.mem_flatMap.mpr ⟨a, h a (.head _), List.mem_flatMap.mpr ⟨b, h b (.tail _ (.head _)), List.mem_map_of_mem (h c (.tail _ (.tail _ (.head _))))⟩⟩)
  · simp at h3
theorem name_in (x : Int) : cl (nameS x) ∈ N40 := by
  refine in40 (by rw [cl_len]; exact nameS_len x) fun a ha => ?_
  have ha' : a ∈ (List.range (x.fmod 4).toNat).map (fun i => [97, 65, 98].getD (((x.fdiv 4).fdiv (3 ^ i)).fmod 3).toNat 0) := by
    simpa [cl, nameS] using ha
  obtain ⟨i, _, rfl⟩ := List.mem_map.mp ha'
  have h0 := fmod_lo ((x.fdiv 4).fdiv (3 ^ i)) (show (0 : Int) < 3 by decide)
  have h1 := fmod_hi ((x.fdiv 4).fdiv (3 ^ i)) (show (0 : Int) < 3 by decide)
  generalize ((x.fdiv 4).fdiv (3 ^ i)).fmod 3 = d at h0 h1
  have hd : d = 0 ∨ d = 1 ∨ d = 2 := by omega
  rcases hd with rfl | rfl | rfl <;> decide
end Mine
end
section
open PySem PySem.W PyProof.Rows PySem.Calls
set_option Elab.async false
namespace Mine
section
variable {prog : Program} {w : World} {A : Around} {E : Value → Shared → Prop} {s : Shared} {h₀ : Heap} {L : Addr} {m : Str → Option Value} {env : Env}
/-- what a comprehension's source is: its iterator, made at the heap's end, gives n values -/
structure SrcOk (prog : Program) (w : World) (A : Around) (h₀ : Heap) (L : Addr) (xv : Value) (s₁ : Shared) (n : Nat) (P : Nat → Value → Prop) (S : List (Addr × Obj) → Prop) (o : Obj) (fp : List Addr) (St : Nat → Heap → Prop) : Prop where
  iter : ∀ (E Q : Value → Shared → Prop), Q (.ref s₁.heap.objs.size) { s₁ with heap := s₁.heap.push o } → wpAny (model prog w) A (pyIter xv) Q E s₁
  W : Walks prog w A s₁.heap.objs.size fp [s₁.heap.objs.size] n P St
  low : ∀ b ∈ fp, b < s₁.heap.objs.size + 1
  st : St 0 (s₁.heap.push o)
  ob : ∀ i h, St i h → ∃ o, h.get? s₁.heap.objs.size = some o
  keep : ∀ i (h h' : Heap) (o : Obj) nw, St i h → h.get? s₁.heap.objs.size = some o → h'.get? s₁.heap.objs.size = some o → (∀ b o, h₀.get? b = some o → h'.get? b = some o) → News h₀ L h' nw → S nw → St i h'
theorem src_list {s₁ : Shared} {ax : Addr} {its : Array Value} {k : Nat} {news : List (Addr × Obj)} (hh : A.handled = none) (F : Fr h₀ L s₁.heap m) (N : News h₀ L s₁.heap news) (hm : (ax, ({ cls := .type "list", data := .seq its k } : Obj)) ∈ news) :
    SrcOk prog w A h₀ L (.ref ax) s₁ its.size (fun i v => its[i]? = some v) (LCg.SrcAt h₀ ax its) { cls := .type "list_iterator", data := .fields #[.ref ax, .int 0 0] } [s₁.heap.objs.size, ax] (fun i h => h.IsListIter s₁.heap.objs.size ax i ∧ h.IsList ax its) := by
  have hl : s₁.heap.IsList ax its := LCg.SrcAt.list (.inr ⟨_, hm, rfl, _, rfl⟩) F.keep N
  have hlt : ax < s₁.heap.objs.size := by obtain ⟨_, e, _⟩ := hl; exact Heap.lt_size e
  refine ⟨fun _ _ hq => wpAny_pyIter_list hl hq, Walks.list hh _ ax (Nat.ne_of_lt hlt) its, fun b hb => ?_, ⟨⟨_, Heap.get?_push_size _ rfl, rfl, rfl⟩, hl.push _⟩, fun i h st => by obtain ⟨o, e, _⟩ := st.1; exact ⟨o, e⟩, LCg.list_st⟩
  rcases List.mem_cons.mp hb with rfl | hb
  · exact Nat.lt_succ_self _
  · rw [List.mem_singleton.mp hb]; exact Nat.lt_succ_of_lt hlt
theorem src_range {s₁ : Shared} {r : Addr} {a b : Int} {t u v : Tok} {n : Nat} (hh : A.handled = none) (hr : IsRange s₁.heap r a b 1 t u v) (hsm : Builtin.Range.small a b 1 = true) (hn : Builtin.Range.rangeSize a b 1 = ((n : Nat) : Int)) :
    SrcOk prog w A h₀ L (.ref r) s₁ n (fun i v => ∃ t, v = .int (a + (i : Int)) t) (fun _ => True) { cls := .type "range_iterator", data := .fields #[rawInt a, rawInt (Builtin.Range.rangeSize a b 1), rawInt 1] } [s₁.heap.objs.size] (fun i h => IsRangeIter h s₁.heap.objs.size (a + (i : Nat) * 1) ((n : Int) - (i : Nat)) 1) := by
  refine ⟨fun _ _ hq => wpAny_pyIter_range hr hsm hq, LCg.range_walks hh a n, fun b hb => ?_, ?_, fun i h st => ⟨_, st⟩, LCg.range_st⟩
  · rw [List.mem_singleton.mp hb]; exact Nat.lt_succ_self _
  · show IsRangeIter _ _ _ _ _
    rw [hn]; simpa using Heap.get?_push_size _ rfl
theorem nfe_cell {M : Model} {E : Value → Shared → Prop} {scope : Scope} {g : Addr} {cl : List (Str × Addr)} {qual : Str} {x : Str} {b : Addr} {Q : Env → Shared → Prop}
    (hcf : ∀ k cl, cellsFrom k scope.names cl = (x, k) :: cl) (hpc : ∀ h, pushCells h scope.names = h.push { cls := .type "cell", data := .cell none })
    (hQ : Q (newEnv scope s.heap.objs.size g ((x, s.heap.objs.size + 1) :: cl) qual none .none (some env) b) { s with heap := (s.heap.push { cls := .type "dict", data := .dict #[] }).push { cls := .type "cell", data := .cell none } }) :
    wpAny M A (newFunctionEnv scope g cl [] qual none .none (some env) b) Q E s := by
  simp only [newFunctionEnv, Option.isSome_some, if_true]
  refine wpAny_bind (wpAny_alloc ?_)
  refine wpAny_bind (wpAny_layCells _ (fun name kind cells => by cases kind == NameKind.cell <;> simp) _ _ _ _ ?_)
  refine wpAny_bind ?_
  rw [List.forIn_nil]
  refine wpAny_pure (wpAny_pure ?_)
  rw [hcf, hpc]
  have e : ({ s with heap := s.heap.push { cls := .type "dict", data := .dict #[] } } : Shared).heap.objs.size = s.heap.objs.size + 1 := Heap.size_push ..
  rw [e]
  exact hQ
/-- the end of a turn: the variable's cell stands -/
noncomputable def CEnd (h₀ : Heap) (L : Addr) (m : Str → Option Value) (s₁ : Shared) (I : Addr) (oI : Obj) (C : Addr) (oC : Obj) (D : Addr) (ys : List Value) (X : Addr) (oX : Obj) (S : List (Addr × Obj) → Prop) (R : Value → List (Addr × Obj) → Prop) : Value → Shared → Prop :=
  LCg.CompEnd h₀ L m s₁ I oI C oC D (LCg.lst ys) S (fun y nw => ∃ nw', nw = (X, oX) :: nw' ∧ (∀ p ∈ nw', Dif p.1 X) ∧ R y nw')
/-- the same, in one piece -/
inductive CEnd1 (h₀ : Heap) (L : Addr) (m : Str → Option Value) (s₁ : Shared) (I : Addr) (oI : Obj) (C : Addr) (oC : Obj) (D : Addr) (ys : List Value) (X : Addr) (oX : Obj) (S : List (Addr × Obj) → Prop) (R : Value → List (Addr × Obj) → Prop) (y : Value) : Shared → Prop
  | mk (h : Heap) (tk : Nat) (nw : List (Addr × Obj)) (F : Fr h₀ L h m) (N : News h₀ L h ((I, oI) :: (C, oC) :: (D, LCg.lst ys) :: (X, oX) :: nw)) (off : LCg.Off3 I C D ((X, oX) :: nw)) (hS : S ((X, oX) :: nw)) (ox : ∀ p ∈ nw, Dif p.1 X) (hR : R y nw) : CEnd1 h₀ L m s₁ I oI C oC D ys X oX S R y { s₁ with heap := h, toks := tk }
theorem CEnd.one {L I C D X : Addr} {s₁ s₂ : Shared} {oI oC oX : Obj} {ys : List Value} {S : List (Addr × Obj) → Prop} {R : Value → List (Addr × Obj) → Prop} {y : Value} {g : Heap} {k : Nat} (h : CEnd h₀ L m { s₁ with heap := g, toks := k } I oI C oC D ys X oX S R y s₂) : CEnd1 h₀ L m s₁ I oI C oC D ys X oX S R y s₂ := by
  obtain ⟨h, tk, _, rfl, F, N, off, hS, nw, rfl, ox, hR⟩ := h
  exact .mk h tk nw F N off hS ox hR
noncomputable def tests (ifs : List Expr) (env : Env) : Sem Bool := forIn ifs true fun c r => if r = true then do let ok ← isTrue c env (eval c env); pure (ForInStep.yield ok) else pure (ForInStep.yield r)
/-- the turns of a comprehension whose variable x is a cell -/
noncomputable def CTurn (prog : Program) (w : World) (A : Around) (h₀ : Heap) (L : Addr) (m : Str → Option Value) (env : Env) (ifs : List Expr) (elt : Expr) (x : Str) (scope : Scope) (cl : List (Str × Addr)) (s : Shared) (S : List (Addr × Obj) → Prop) (P : Nat → Value → Prop) (n : Nat) (J : Nat → List Value → List (Addr × Obj) → Prop) : Prop :=
  ∀ i v I oI C oC D X oX ys nw h tk (E' : Value → Shared → Prop), i < n → P i v → J i ys nw → oX.data = .cell (some v) → Fr h₀ L h m → News h₀ L h ((I, oI) :: (C, oC) :: (D, LCg.lst ys) :: (X, oX) :: nw) → LCg.Off3 I C D ((X, oX) :: nw) → (∀ p ∈ nw, Dif p.1 X) →
    wpAny (model prog w) A (tests ifs (compEnvC scope ((x, X) :: cl) C env)) (fun ok s' => if ok = true then
      wpAny (model prog w) A (eval elt (compEnvC scope ((x, X) :: cl) C env)) (CEnd h₀ L m { s with heap := h, toks := tk } I oI C oC D ys X oX S (fun y nw' => J (i + 1) (ys ++ [y]) nw')) E' s'
      else CEnd h₀ L m { s with heap := h, toks := tk } I oI C oC D ys X oX S (fun _ nw' => J (i + 1) ys nw') Value.none s') E' { s with heap := h, toks := tk }
theorem four {L I : Nat} (h : L < I) : ((I ≠ L ∧ I + 1 ≠ L) ∧ (I + 1 + 1 ≠ L ∧ I + 1 + 1 + 1 ≠ L)) ∧ ((I + 1 + 1 + 1 ≠ I ∧ I + 1 + 1 ≠ I ∧ I + 1 ≠ I) ∧ (I + 1 + 1 + 1 ≠ I + 1 + 1 ∧ I + 1 + 1 + 1 ≠ I + 1 ∧ I + 1 + 1 ≠ I + 1)) :=
  have a := Nat.lt_succ_self I
  have b := Nat.lt_succ_self (I + 1)
  have c := Nat.lt_succ_self (I + 1 + 1)
  ⟨⟨⟨Nat.ne_of_gt h, Nat.ne_of_gt (Nat.lt_trans h a)⟩, Nat.ne_of_gt (Nat.lt_trans (Nat.lt_trans h a) b), Nat.ne_of_gt (Nat.lt_trans (Nat.lt_trans (Nat.lt_trans h a) b) c)⟩,
   ⟨Nat.ne_of_gt (Nat.lt_trans (Nat.lt_trans a b) c), Nat.ne_of_gt (Nat.lt_trans a b), Nat.ne_of_gt a⟩, Nat.ne_of_gt c, Nat.ne_of_gt (Nat.lt_trans b c), Nat.ne_of_gt b⟩
theorem low4 {a I : Nat} (h : a < I) : a ≠ I ∧ a ≠ I + 1 + 1 ∧ a ≠ I + 1 := ⟨Nat.ne_of_lt h, Nat.ne_of_lt (Nat.lt_succ_of_lt (Nat.lt_succ_of_lt h)), Nat.ne_of_lt (Nat.lt_succ_of_lt h)⟩
theorem kpred {k i n : Nat} (h : k + i = n + 1) (hi : i < n) : k - 1 < k := by omega
theorem kpred2 {k i n : Nat} (h : k + i = n + 1) (hi : i < n) : k - 1 + (i + 1) = n + 1 := by omega
theorem offI {I : Nat} {ys : List Value} {oX oC : Obj} {nw : List (Addr × Obj)} (off : LCg.Off3 I (I + 1 + 1) (I + 1) ((I + 1 + 1 + 1, oX) :: nw)) : ∀ p ∈ (I + 1 + 1, oC) :: (I + 1, LCg.lst ys) :: (I + 1 + 1 + 1, oX) :: nw, p.1 ≠ I := by
  refine fac (Nat.ne_of_gt (Nat.lt_succ_of_lt (Nat.lt_succ_self I))) ?_
  refine fac (Nat.ne_of_gt (Nat.lt_succ_self I)) ?_
  intro p hp
  exact (off.mem p hp).1
/-- what stands between the turns -/
inductive CInv (h₀ : Heap) (L : Addr) (m : Str → Option Value) (s₁ : Shared) (I : Nat) (n : Nat) (St : Nat → Heap → Prop) (J : Nat → List Value → List (Addr × Obj) → Prop) (k : Nat) : Shared → Prop
  | mk (h' : Heap) (tk i : Nat) (ys : List Value) (oC oX : Obj) (nw : List (Addr × Obj)) (m' : Str → Option Value) (c : Option Value) (hk : k + i = n + 1) (hi : i ≤ n) (hyl : ys.length ≤ i) (hst : St i h') (F : Fr h₀ L h' m) (N : News h₀ L h' ((I + 1 + 1, oC) :: (I + 1, LCg.lst ys) :: (I + 1 + 1 + 1, oX) :: nw))
     (hC : LCg.NsObj oC m') (hX : oX.data = .cell c) (off : LCg.Off3 I (I + 1 + 1) (I + 1) ((I + 1 + 1 + 1, oX) :: nw)) (ox : ∀ p ∈ nw, Dif p.1 (I + 1 + 1 + 1)) (hJ : J i ys nw) : CInv h₀ L m s₁ I n St J k { s₁ with heap := h', toks := tk }
theorem block_C {ifs : List Expr} {elt it : Expr} {x : Str} {px : Pos} {scope : Scope} {cl : List (Str × Addr)} {pos : Pos} {xv : Value} {s₁ : Shared} {n : Nat} {P : Nat → Value → Prop} {S : List (Addr × Obj) → Prop} {o₁ : Obj} {fp : List Addr} {St : Nat → Heap → Prop} {news : List (Addr × Obj)}
    {J : Nat → List Value → List (Addr × Obj) → Prop} {RR : Value → Addr → Result → Shared → Prop}
    (O : SrcOk prog w A h₀ L xv s₁ n P S o₁ fp St) (hsz : n ≤ sizeLine)
    (hcf : ∀ k cl, cellsFrom k scope.names cl = (x, k) :: cl) (hpc : ∀ h, pushCells h scope.names = h.push { cls := .type "cell", data := .cell none }) (hkind : scope.kind = .function)
    (hx : ∀ cl C, (compEnvC scope cl C env).kindOf x = some .cell)
    (F : Fr h₀ L s₁.heap m) (N : News h₀ L s₁.heap news) (hS : ∀ p, S (p :: news)) (h0 : J 0 [] news)
    (turn : ∀ g, CTurn prog w A h₀ L m env ifs elt x scope cl { s₁ with heap := g } S P n J)
    (hRR : ∀ D C h tk m' ys pX nw, Fr h₀ L h m → News h₀ L h ((D, LCg.lst ys) :: pX :: nw) → LCg.Off1 D (pX :: nw) → h.Ns C m' → h₀.get? C = none → C ≠ L → D ≠ C → (∀ p ∈ pX :: nw, p.1 ≠ C) → J n ys nw → RR (.ref D) C (.ok .next) { s₁ with heap := h, toks := tk }) :
    wpAny (model prog w) A (pyIter xv) (fun itv s₂ => wpAny (model prog w) A (newList []) (fun acc s₃ => wpAny (model prog w) A (newFunctionEnv scope env.globals cl [] env.qual none .none (some env)) (fun cenv s₄ =>
      codeAny (model prog w) A (.compStart (.ListComp elt [⟨.Name x px, it, ifs, 0⟩] scope pos) 0 itv acc { cenv with scope := relabel scope env }) (RR acc cenv.locals) s₄) E s₃) E s₂) E s₁ := by
  refine O.iter _ _ ?_
  have hLI : @LT.lt Nat _ L s₁.heap.objs.size := F.ns.lt
  have W := O.W
  have hSt := O.keep
  have hob := O.ob
  have hlow := O.low
  have hst := O.st
  clear O
  generalize hI : s₁.heap.objs.size = I at W hSt hob hlow ⊢
  generalize hH1 : s₁.heap.push o₁ = H1 at hst ⊢
  have z1 : H1.objs.size = I + 1 := by rw [← hH1, Heap.size_push, hI]
  have up1 : ∀ b o, s₁.heap.get? b = some o → H1.get? b = some o := fun b o e => hH1 ▸ Heap.get?_push_of_some _ e
  refine wpAny_newObj_type (nfe_cell hcf hpc ?_)
  dsimp only
  generalize hH2 : H1.push { cls := .type "list", dict := none, data := .seq ([] : List Value).toArray } = H2
  have z2 : H2.objs.size = I + 1 + 1 := by rw [← hH2, Heap.size_push, z1]
  generalize hH3 : H2.push { cls := .type "dict", data := .dict #[] } = H3
  have z3 : H3.objs.size = I + 1 + 1 + 1 := by rw [← hH3, Heap.size_push, z2]
  generalize hH4 : H3.push { cls := .type "cell", data := .cell none } = H4
  rw [z1, z2]
  have up2 : ∀ b o, H1.get? b = some o → H4.get? b = some o := fun b o e => hH4 ▸ Heap.get?_push_of_some _ (hH3 ▸ Heap.get?_push_of_some _ (hH2 ▸ Heap.get?_push_of_some _ e))
  have gD : H4.get? (I + 1) = some (LCg.lst []) := hH4 ▸ Heap.get?_push_of_some _ (hH3 ▸ Heap.get?_push_of_some _ (by rw [← hH2, ← z1]; exact Heap.get?_push_size _ rfl))
  have gC : H4.get? (I + 1 + 1) = some { cls := .type "dict", data := .dict #[] } := hH4 ▸ Heap.get?_push_of_some _ (by rw [← hH3, ← z2]; exact Heap.get?_push_size _ rfl)
  have gX : H4.get? (I + 1 + 1 + 1) = some { cls := .type "cell", data := .cell none } := by rw [← hH4, ← z3]; exact Heap.get?_push_size _ rfl
  have old : ∀ b o, s₁.heap.get? b = some o → H4.get? b = some o := fun b o e => up2 b o (up1 b o e)
  have hst4 : St 0 H4 := W.frame _ _ _ hst fun b _ o e => up2 b o e
  rw [hI] at hLI
  have fresh : ∀ a, I ≤ a → h₀.get? a = none := fun a ha => Heap.get?_none_of_le (Nat.le_trans F.above (Nat.le_trans (Nat.le_of_lt hLI) ha))
  have low : ∀ p ∈ news, @LT.lt Nat _ p.1 I := fun p hp => hI ▸ Heap.lt_size (N p hp).1
  clear up1 up2 hH1 hH2 hH3 hH4 z1 z2 z3 hst
  have gI₀ := fresh I (Nat.le_refl _)
  have gD₀ := fresh (I + 1) (Nat.le_succ _)
  have gC₀ := fresh (I + 1 + 1) (Nat.le_succ_of_le (Nat.le_succ _))
  have gX₀ := fresh (I + 1 + 1 + 1) (Nat.le_succ_of_le (Nat.le_succ_of_le (Nat.le_succ _)))
  clear fresh
  refine gh fun pG hpG => ?_
  obtain ⟨⟨⟨nI, nD⟩, nC, nX⟩, ⟨XI, CI, DI⟩, XC, XD, CD⟩ := four hLI
  refine hpG ?_
  clear hpG pG
  have loop : ∀ s₃ : Shared, s₃ = { s₁ with heap := H4 } → codeAny (model prog w) A (.compLoop (.ListComp elt [⟨.Name x px, it, ifs, 0⟩] scope pos) 0 (.ref I) (.ref (I + 1)) (compEnvC scope ((x, I + 1 + 1 + 1) :: cl) (I + 1 + 1) env)) (RR (.ref (I + 1)) (I + 1 + 1)) s₃ := by
    rintro s₃ rfl
    refine codeAny_compLoop_tests (CInv h₀ L m s₁ I n St J) ?_ (n + 1) (CInv.mk H4 s₁.toks 0 [] { cls := .type "dict", data := .dict #[] } { cls := .type "cell", data := .cell none } news (fun _ => none) none rfl (Nat.zero_le _) (Nat.le_refl _) hst4 (F.keeps old) ?_ ⟨#[], 0, rfl, by simp [StrKeys], fun _ => rfl⟩ rfl ?_ ?_ h0)
    · intro k s' hJ0
      obtain ⟨h', tk, i, ys, oC, oX, nw, m', c, hki, hi, hyl, hst', F', N', hC, hX, off', offX, hJ⟩ := hJ0
      by_cases hlt : i < n
      · refine W.item i _ _ _ hlt hst' fun v h₂ tk₂ hPv hst₂ hk₂ => ?_
        dsimp -zeta only at hk₂ ⊢
        have N₂ := LCg.news_but N' hk₂ (offI off')
        have F₂ := LCg.fr_but F' hk₂ (Ne.symm nI) gI₀
        refine wpAny_assign_Name (wpAny_storeName_cell hkind (hx _ _) (by simp [compEnvC]) ⟨oX, (N₂ _ (.tail _ (.tail _ (.head _)))).1, hX⟩ fun h₃ hX₃ hs₃ => ?_)
        dsimp -zeta only at hs₃ ⊢
        refine gh fun pG hpG => ?_
        obtain ⟨oX', gX₃, hX'⟩ := hX₃
        refine hpG ?_
        clear hpG pG
        have hst₃ : St (i + 1) h₃ := W.frame _ _ _ hst₂ fun b hb o e => hs₃.extBut b o (Nat.ne_of_lt (Nat.lt_succ_of_lt (Nat.lt_succ_of_lt (hlow b hb)))) e
        obtain ⟨oI, gI₃⟩ := hob _ _ hst₃
        have up : ∀ q ∈ (I + 1 + 1, oC) :: (I + 1, LCg.lst ys) :: (I + 1 + 1 + 1, oX) :: nw, q.1 ≠ I + 1 + 1 + 1 → h₃.get? q.1 = some q.2 ∧ q.1 ≠ L ∧ h₀.get? q.1 = none := fun q hq hc => ⟨hs₃.extBut _ _ hc (N₂ q hq).1, (N₂ q hq).2⟩
        have N₃ : News h₀ L h₃ ((I, oI) :: (I + 1 + 1, oC) :: (I + 1, LCg.lst ys) :: (I + 1 + 1 + 1, oX') :: nw) := by
          refine fac (⟨gI₃, nI, gI₀⟩) ?_
          refine fac (up _ (.head _) (Ne.symm XC)) ?_
          refine fac (up _ (.tail _ (.head _)) (Ne.symm XD)) ?_
          refine fac (⟨gX₃, nX, gX₀⟩) ?_
          intro p hp
          exact up p (.tail _ (.tail _ (.tail _ hp))) (offX p hp)
        have close : ∀ (h₄ : Heap) (tk₄ : Nat) (zs : List Value) (nw₄ : List (Addr × Obj)), zs.length ≤ i + 1 → St (i + 1) h₄ → Fr h₀ L h₄ m → News h₀ L h₄ ((I + 1 + 1, oC) :: (I + 1, LCg.lst zs) :: (I + 1 + 1 + 1, oX') :: nw₄) → LCg.Off3 I (I + 1 + 1) (I + 1) ((I + 1 + 1 + 1, oX') :: nw₄) → (∀ p ∈ nw₄, Dif p.1 (I + 1 + 1 + 1)) → J (i + 1) zs nw₄ →
            ∃ k', k' < k ∧ CInv h₀ L m s₁ I n St J k' { s₁ with heap := h₄, toks := tk₄ } :=
          fun h₄ tk₄ zs nw₄ hz st₄ F₄ N₄ o₄ x₄ j₄ => ⟨k - 1, kpred hki hlt, CInv.mk h₄ tk₄ (i + 1) zs oC oX' nw₄ m' _ (kpred2 hki hlt) hlt hz st₄ F₄ N₄ hC hX' o₄ x₄ j₄⟩
        have ended : ∀ (h₄ : Heap) (nw₄ : List (Addr × Obj)), Fr h₀ L h₄ m → News h₀ L h₄ ((I, oI) :: (I + 1 + 1, oC) :: (I + 1, LCg.lst ys) :: nw₄) → S nw₄ → St (i + 1) h₄ := fun h₄ nw₄ F₄ N₄ S₄ =>
          hSt _ _ _ _ _ hst₃ gI₃ (N₄ _ (.head _)).1 F₄.keep (fun p hp => N₄ p (.tail _ (.tail _ (.tail _ hp)))) S₄
        refine wpAny_mono (turn H4 i v I oI (I + 1 + 1) oC (I + 1) (I + 1 + 1 + 1) oX' ys nw h₃ tk₂ _ hlt hPv hJ hX' (F₂.change hs₃ nX gX₀) N₃ ⟨off'.1, off'.2⟩ offX) (fun ok s₄ h₄ => ?_) fun _ _ e => e
        cases ok with
        | true =>
          rw [if_pos rfl] at h₄ ⊢
          refine wpAny_mono h₄ (fun y s₅ h₅ => ?_) fun _ _ e => e
          obtain ⟨h₄, tk₄, nw₄, F₄, N₄, off₄, hS₄, x₄, j₄⟩ := CEnd.one (s₁ := s₁) h₅
          refine append_at (hsz := by show ys.toArray.size ≤ sizeLine; rw [List.size_toArray]; exact Nat.le_trans (Nat.le_trans hyl hi) hsz) (N₄ _ (.tail _ (.tail _ (.head _)))).1 fun h₅ hs₅ hD₅ => ?_
          dsimp -zeta only at hs₅ ⊢
          refine close h₅ tk₄ (ys ++ [y]) nw₄ (by rw [List.length_append, List.length_singleton]; exact Nat.succ_le_succ hyl) (W.frame _ _ _ (ended h₄ _ F₄ N₄ hS₄) fun b hb o e => hs₅.extBut b o (Nat.ne_of_lt (hlow b hb)) e) (F₄.change hs₅ nD gD₀) ?_ off₄ x₄ j₄
          refine fac (⟨hs₅.extBut _ _ CD (N₄ _ (.tail _ (.head _))).1, nC, gC₀⟩) ?_
          refine fac (⟨hD₅.trans (congrArg some (LCg.lst_snoc ys y)), nD, gD₀⟩) ?_
          intro p hp
          have z := N₄ _ (.tail _ (.tail _ (.tail _ hp)))
          exact ⟨hs₅.extBut _ _ (off₄.mem p hp).2.2 z.1, z.2⟩
        | false =>
          rw [if_neg Bool.false_ne_true] at h₄ ⊢
          obtain ⟨g₄, tk₄, nw₄, F₄, N₄, off₄, hS₄, x₄, j₄⟩ := CEnd.one (s₁ := s₁) h₄
          exact close g₄ tk₄ ys nw₄ (Nat.le_succ_of_le hyl) (ended g₄ _ F₄ N₄ hS₄) F₄ (fun p hp => N₄ p (.tail _ hp)) off₄ x₄ j₄
      · obtain rfl : i = n := Nat.le_antisymm hi (Nat.not_lt.mp hlt)
        refine W.done _ _ _ hst' fun h₂ tk₂ hk₂ => ?_
        have N₂ := LCg.news_but N' hk₂ (offI off')
        exact hRR (I + 1) (I + 1 + 1) h₂ tk₂ m' ys (I + 1 + 1 + 1, oX) nw (LCg.fr_but F' hk₂ (Ne.symm nI) gI₀) (fun p hp => N₂ p (.tail _ hp)) off'.one (hC.ns (N₂ _ (.head _)).1) gC₀ nC (Ne.symm CD) (fun p hp => (off'.mem p hp).2.1) hJ
    · refine fac (⟨gC, nC, gC₀⟩) ?_
      refine fac (⟨gD, nD, gD₀⟩) ?_
      refine fac (⟨gX, nX, gX₀⟩) ?_
      intro p hp
      exact ⟨old _ _ (N p hp).1, (N p hp).2⟩
    · refine LCg.Off3.of fun p hp => ?_
      rcases List.mem_cons.mp hp with rfl | hp
      · exact ⟨XI, XC, XD⟩
      · exact low4 (low p hp)
    · exact fun p hp => Nat.ne_of_lt (Nat.lt_succ_of_lt (Nat.lt_succ_of_lt (Nat.lt_succ_of_lt (low p hp))))
  exact codeAny_compStart_list (loop _ rfl) (W.self 0 _ _ _ hst4 (loop _ rfl))
inductive CSrc (prog : Program) (w : World) (A : Around) (h₀ : Heap) (L : Addr) (m : Str → Option Value) (env : Env) (ifs : List Expr) (elt : Expr) (x : Str) (scope : Scope) (cl : List (Str × Addr)) (Fin : Shared → List Value → List (Addr × Obj) → Prop) (xv : Value) (s₁ : Shared) : Prop
  | mk (n : Nat) (P : Nat → Value → Prop) (S : List (Addr × Obj) → Prop) (o₁ : Obj) (fp : List Addr) (St : Nat → Heap → Prop) (news : List (Addr × Obj)) (J : Nat → List Value → List (Addr × Obj) → Prop) (O : SrcOk prog w A h₀ L xv s₁ n P S o₁ fp St) (hsz : n ≤ sizeLine) (F : Fr h₀ L s₁.heap m) (N : News h₀ L s₁.heap news) (hS : ∀ p, S (p :: news)) (h0 : J 0 [] news)
    (turn : ∀ g, CTurn prog w A h₀ L m env ifs elt x scope cl { s₁ with heap := g } S P n J) (fin : ∀ ys nw, J n ys nw → Fin s₁ ys nw) : CSrc prog w A h₀ L m env ifs elt x scope cl Fin xv s₁
theorem CSrc.ledger {ifs : List Expr} {elt : Expr} {x : Str} {scope : Scope} {cl : List (Str × Addr)} {Fin : Shared → List Value → List (Addr × Obj) → Prop} {ax : Addr} {its : Array Value} {k : Nat} {news : List (Addr × Obj)} {s₁ : Shared} (J : Nat → List Value → List (Addr × Obj) → Prop)
    (hh : A.handled = none) (F : Fr h₀ L s₁.heap m) (N : News h₀ L s₁.heap news) (hm : (ax, ({ cls := .type "list", data := .seq its k } : Obj)) ∈ news) (hsz : its.size ≤ sizeLine) (h0 : J 0 [] news)
    (turn : ∀ g, CTurn prog w A h₀ L m env ifs elt x scope cl { s₁ with heap := g } (LCg.SrcAt h₀ ax its) (fun i v => its[i]? = some v) its.size J)
    (fin : ∀ ys nw, J its.size ys nw → Fin s₁ ys nw) : CSrc prog w A h₀ L m env ifs elt x scope cl Fin (.ref ax) s₁ :=
  ⟨_, _, _, _, _, _, news, J, src_list hh F N hm, hsz, F, N, fun _ => .inr ⟨_, .tail _ hm, rfl, _, rfl⟩, h0, turn, fin⟩
theorem CSrc.range {ifs : List Expr} {elt : Expr} {x : Str} {scope : Scope} {cl : List (Str × Addr)} {Fin : Shared → List Value → List (Addr × Obj) → Prop} {r : Addr} {b : Int} {t u v : Tok} {n : Nat} {news : List (Addr × Obj)} {s₁ : Shared} (J : Nat → List Value → List (Addr × Obj) → Prop)
    (hh : A.handled = none) (F : Fr h₀ L s₁.heap m) (N : News h₀ L s₁.heap news) (hr : IsRange s₁.heap r 0 b 1 t u v) (hsm : Builtin.Range.small 0 b 1 = true) (hn : Builtin.Range.rangeSize 0 b 1 = ((n : Nat) : Int)) (hsz : n ≤ sizeLine) (h0 : J 0 [] news)
    (turn : ∀ g, CTurn prog w A h₀ L m env ifs elt x scope cl { s₁ with heap := g } (fun _ => True) (fun i v => ∃ t, v = .int (0 + (i : Int)) t) n J)
    (fin : ∀ ys nw, J n ys nw → Fin s₁ ys nw) : CSrc prog w A h₀ L m env ifs elt x scope cl Fin (.ref r) s₁ :=
  ⟨_, _, _, _, _, _, news, J, src_range hh hr hsm hn, hsz, F, N, fun _ => trivial, h0, turn, fin⟩
noncomputable def CFinE (h₀ : Heap) (L : Addr) (m : Str → Option Value) (Q : Value → Shared → Prop) (s : Shared) (ys : List Value) (nw : List (Addr × Obj)) : Prop :=
  ∀ D h tk, Fr h₀ L h m → News h₀ L h ((D, LCg.lst ys) :: nw) → (∀ p ∈ nw, Dif p.1 D) → Q (.ref D) { s with heap := h, toks := tk }
noncomputable def CFinA (h₀ : Heap) (L : Addr) (m : Str → Option Value) (y : Str) (Q : Flow → Shared → Prop) (s : Shared) (ys : List Value) (nw : List (Addr × Obj)) : Prop :=
  ∀ D h tk, Fr h₀ L h (fun z => if z = y then some (.ref D) else m z) → News h₀ L h ((D, LCg.lst ys) :: nw) → (∀ p ∈ nw, Dif p.1 D) → Q .next { s with heap := h, toks := tk }
theorem off1_dif {D : Addr} {pX : Addr × Obj} {nw : List (Addr × Obj)} (o : LCg.Off1 D (pX :: nw)) : ∀ p ∈ nw, Dif p.1 D := fun p hp => off1_mem _ o p (.tail _ hp)
theorem ListComp_C {ifs : List Expr} {elt iter : Expr} {x : Str} {px : Pos} {scope : Scope} {cl : List (Str × Addr)} {pos : Pos} {Q : Value → Shared → Prop}
    (hclos : closureFor scope env = pure cl) (hcf : ∀ k cl, cellsFrom k scope.names cl = (x, k) :: cl) (hpc : ∀ h, pushCells h scope.names = h.push { cls := .type "cell", data := .cell none }) (hkind : scope.kind = .function)
    (hnames : ∀ y ∈ scope.names, y.2 = .local → scope.names.lookup y.1 = some .local) (hx : ∀ cl C, (compEnvC scope cl C env).kindOf x = some .cell)
    (h : wpAny (model prog w) A (eval iter env) (CSrc prog w A h₀ L m env ifs elt x scope cl (CFinE h₀ L m Q)) E s)
    (hs : ∀ x, foldedSetIterable iter env x = pure x := by intro _; rfl) :
    wpAny (model prog w) A (eval (.ListComp elt [⟨.Name x px, iter, ifs, 0⟩] scope pos) env) Q E s := by
  rw [eval_ListComp]
  refine wpAny_comprehension_free (use := none) rfl hs hclos hkind hnames (wpAny_mono h (fun xv s₁ h₁ => ?_) fun _ _ e => e)
  obtain ⟨n, P, S, o₁, fp, St, news, J, O, hsz, F, N, hS, h0, turn, fin⟩ := h₁
  refine block_C O hsz hcf hpc hkind hx F N hS h0 turn ?_
  intro D C h tk m' ys pX nw' F' N' o1 hn hC₀ hCL hDC offC hJ
  refine ⟨m', hn, fun h'' hs'' => fin ys nw' hJ D h'' tk (F'.change hs'' hCL hC₀) (fun p hp => ?_) (off1_dif o1)⟩
  rcases List.mem_cons.mp hp with rfl | hp
  · exact ⟨hs''.extBut _ _ hDC (N' _ (.head _)).1, (N' _ (.head _)).2⟩
  · have z := N' p (.tail _ (.tail _ hp))
    exact ⟨hs''.extBut _ _ (offC p (.tail _ hp)) z.1, z.2⟩
/-- an assignment whose value is a comprehension: what is to be shown ahead of its first iterator -/
theorem comp_assign {elt t iter : Expr} {ifs : List Expr} {gens : List Comprehension} {scope : Scope} {cl : List (Str × Addr)} {pos pz spos : Pos} {z : Str} {Q : Flow → Shared → Prop}
    (hsw : swapsWith (.ListComp elt (⟨t, iter, ifs, 0⟩ :: gens) scope pos) (some (.Name z pz)) spos.line env = pure true) (hclos : closureFor scope env = pure cl) (hkind : scope.kind = .function)
    (hnames : ∀ y ∈ scope.names, y.2 = .local → scope.names.lookup y.1 = some .local) (hs : ∀ x, foldedSetIterable iter env x = pure x)
    (h : wpAny (model prog w) A (eval iter env) (fun xv s₁ => wpAny (model prog w) A (pyIter xv) (fun it s₂ => wpAny (model prog w) A (newList []) (fun acc s₃ => wpAny (model prog w) A (newFunctionEnv scope env.globals cl [] env.qual none .none (some env)) (fun cenv s₄ =>
      codeAny (model prog w) A (.compStart (.ListComp elt (⟨t, iter, ifs, 0⟩ :: gens) scope pos) 0 it acc { cenv with scope := relabel scope env }) (compPost (model prog w) A E (some (assign (.Name z pz) env)) (fun _ s' => Q .next s') acc cenv.locals) s₄) E s₃) E s₂) E s₁) E s) :
    wpAny (model prog w) A (exec (.Assign [.Name z pz] (.ListComp elt (⟨t, iter, ifs, 0⟩ :: gens) scope pos) spos) env) Q E s := by
  rw [exec_Assign_Name_used _ _ _ _ hsw]
  exact wpAny_bind (wpAny_standAt (wpAny_bind (wpAny_bind (m := comprehension _ scope env _ (newList []) false (eval iter env) (some (assign (.Name z pz) env))) (wpAny_mono (wpAny_comprehension_free rfl hs hclos hkind hnames h) (fun _ _ q => wpAny_pure (wpAny_pure q)) fun _ _ e => e))))
/-- the made list is stored, the comprehension's names are let go -/
theorem comp_put {z : Str} {pz : Pos} {D C : Addr} {h : Heap} {tk : Nat} {m' : Str → Option Value} {led : List (Addr × Obj)} {Q : Flow → Shared → Prop}
    (hz : env.kindOf z = some .local) (hp : (env.scope.kind == .class || (env.scope.kind == .module && env.locals != env.globals)) = false) (F : Fr h₀ env.locals h m) (hn : h.Ns C m') (hC₀ : h₀.get? C = none) (hCL : C ≠ env.locals)
    (N : News h₀ env.locals h led) (off : ∀ p ∈ led, p.1 ≠ C)
    (k : ∀ h' tk', Fr h₀ env.locals h' (fun q => if q = z then some (.ref D) else m q) → News h₀ env.locals h' led → Q .next { s with heap := h', toks := tk' }) :
    compPost (model prog w) A E (some (assign (.Name z pz) env)) (fun _ s' => Q .next s') (.ref D) C (.ok .next) { s with heap := h, toks := tk } := by
  have lo : h₀.get? env.locals = none := Heap.get?_none_of_le F.above
  refine wpAny_assign_Name (wpAny_storeName_local hz F.ns (fun h₂ hn₂ hs₂ => ⟨m', hn.sameBut hs₂ hCL, fun h₃ hs₃ => k h₃ _ (Fr.change ⟨hn₂, fun b o e => ?_, F.above⟩ hs₃ hCL hC₀) fun p hp => ?_⟩) hp)
  · exact hs₂.extBut b o (fun q => by rw [q, lo] at e; cases e) (F.keep b o e)
  · have n := N p hp
    exact ⟨hs₃.extBut _ _ (off p hp) (hs₂.extBut _ _ n.2.1 n.1), n.2⟩
theorem Assign_ListComp_C {ifs : List Expr} {elt iter : Expr} {x y : Str} {px py : Pos} {scope : Scope} {cl : List (Str × Addr)} {pos spos : Pos} {Q : Flow → Shared → Prop} (hLe : env.locals = L)
    (hsw : swapsWith (.ListComp elt [⟨.Name x px, iter, ifs, 0⟩] scope pos) (some (.Name y py)) spos.line env = pure true)
    (hclos : closureFor scope env = pure cl) (hcf : ∀ k cl, cellsFrom k scope.names cl = (x, k) :: cl) (hpc : ∀ h, pushCells h scope.names = h.push { cls := .type "cell", data := .cell none }) (hkind : scope.kind = .function)
    (hnames : ∀ y ∈ scope.names, y.2 = .local → scope.names.lookup y.1 = some .local) (hx : ∀ cl C, (compEnvC scope cl C env).kindOf x = some .cell)
    (hy : env.kindOf y = some .local) (hp : (env.scope.kind == .class || (env.scope.kind == .module && env.locals != env.globals)) = false)
    (h : wpAny (model prog w) A (eval iter env) (CSrc prog w A h₀ L m env ifs elt x scope cl (CFinA h₀ L m y Q)) E s)
    (hs : ∀ x, foldedSetIterable iter env x = pure x := by intro _; rfl) :
    wpAny (model prog w) A (exec (.Assign [.Name y py] (.ListComp elt [⟨.Name x px, iter, ifs, 0⟩] scope pos) spos) env) Q E s := by
  subst hLe
  refine comp_assign hsw hclos hkind hnames hs (wpAny_mono h (fun xv s₁ h₁ => ?_) fun _ _ e => e)
  obtain ⟨n, P, S, o₁, fp, St, news, J, O, hsz, F, N, hS, h0, turn, fin⟩ := h₁
  exact block_C O hsz hcf hpc hkind hx F N hS h0 turn fun D C h tk m' ys pX nw' F' N' o1 hn hC₀ hCL hDC offC hJ =>
    comp_put hy hp F' hn hC₀ hCL (led := (D, LCg.lst ys) :: nw') (fac (N' _ (.head _)) fun p hp => N' p (.tail _ (.tail _ hp))) (fac hDC fun p hp => offC p (.tail _ hp)) fun h' tk' F2 N2 => fin ys nw' hJ D h' tk' F2 N2 (off1_dif o1)
end
end Mine
end
section
open PySem PySem.W PyProof.Rows
set_option Elab.async false
namespace Mine
/-- the end of a loop's turn -/
inductive IE (s : Shared) (h₀ : Heap) (L I : Addr) (oI : Obj) (J : (Str → Option Value) → List (Addr × Obj) → Prop) : Shared → Prop
  | mk (h : Heap) (tk : Nat) (m : Str → Option Value) (led : List (Addr × Obj)) (F : Fr h₀ L h m) (N : News h₀ L h ((I, oI) :: led)) (off : ∀ p ∈ led, Dif p.1 I) (hJ : J m led) : IE s h₀ L I oI J { s with heap := h, toks := tk }
/-- what stands between the turns of a for over a range -/
inductive RInv (s : Shared) (h₀ : Heap) (L I : Addr) (n : Nat) (J : Nat → (Str → Option Value) → List (Addr × Obj) → Prop) (k : Nat) : Shared → Prop
  | mk (i : Nat) (h : Heap) (tk : Nat) (m : Str → Option Value) (led : List (Addr × Obj)) (hk : k = n - i) (hi : i ≤ n) (hst : IsRangeIter h I (0 + (i : Nat) * 1) ((n : Int) - (i : Nat)) 1) (F : Fr h₀ L h m) (N : News h₀ L h led) (off : ∀ p ∈ led, Dif p.1 I) (hJ : J i m led) : RInv s h₀ L I n J k { s with heap := h, toks := tk }
theorem rinv_next {s : Shared} {h₀ h' : Heap} {L I : Addr} {n i : Nat} {J : Nat → (Str → Option Value) → List (Addr × Obj) → Prop} {oI : Obj} {s₃ : Shared} (hlt : i < n) (hoI : h'.get? I = some oI) (hst : IsRangeIter h' I (0 + ((i + 1 : Nat) : Nat) * 1) ((n : Int) - ((i + 1 : Nat) : Nat)) 1) (h : IE s h₀ L I oI (J (i + 1)) s₃) : ∃ m, m < n - i ∧ RInv s h₀ L I n J m s₃ := by
  obtain ⟨h4, tk4, m4, led4, F4, N4, off4, hJ4⟩ := h
  refine ⟨n - (i + 1), Nat.sub_lt_sub_left hlt (Nat.lt_succ_self i), .mk (i + 1) h4 tk4 m4 led4 rfl hlt ?_ F4 (fun p hp => N4 p (.tail _ hp)) off4 hJ4⟩
  have e : h4.get? I = h'.get? I := (N4 _ (.head _)).1.trans hoI.symm
  unfold IsRangeIter at hst ⊢
  rw [e]; exact hst
/-- a for over a range whatever its target is -/
theorem for_range {prog : Program} {w : World} {A : Around} {E : Value → Shared → Prop} {s : Shared} {h₀ : Heap} {L : Addr} {m : Str → Option Value} {led : List (Addr × Obj)} {target : Expr} {body : List Stmt} {env : Env} {Q : Flow → Shared → Prop}
    {r : Addr} {t u v : Tok} {b : Int} {n : Nat} (J : Nat → (Str → Option Value) → List (Addr × Obj) → Prop)
    (hh : A.handled = none) (hr : IsRange s.heap r 0 b 1 t u v) (hsmall : Builtin.Range.small 0 b 1 = true) (hn : Builtin.Range.rangeSize 0 b 1 = (n : Int)) (F : Fr h₀ L s.heap m) (N : News h₀ L s.heap led) (hJ : J 0 m led)
    (ht : ∀ it v, letOwnedTupleGo target it v = pure ())
    (turn : ∀ (i : Nat) (t : Tok) m led h tk (I : Addr) oI (E' : Value → Shared → Prop), i < n → J i m led → Fr h₀ L h m → News h₀ L h ((I, oI) :: led) → (∀ p ∈ led, Dif p.1 I) →
      wpAny (model prog w) A (assign target env (.int i t)) (fun _ s₂ => wpAny (model prog w) A (execs body env) (fun f s₃ => match f with
          | .next | .cont => IE s h₀ L I oI (J (i + 1)) s₃
          | .brk => Q .next s₃
          | .ret v => Q (.ret v) s₃) E' s₂) E' { s with heap := h, toks := tk })
    (done : ∀ m led h tk, J n m led → Fr h₀ L h m → News h₀ L h led → Q .next { s with heap := h, toks := tk }) :
    wpAny (model prog w) A (pyIter (.ref r)) (fun it s₂ => codeAny (model prog w) A (.forLoop target it body [] env) (fun r s' => match r with | .ok f => Q f s' | .error e => cameBackBy (model prog w) A env E e s') s₂) E s := by
  refine wpAny_pyIter_range hr hsmall ?_
  have W := (Walks.range (prog := prog) (w := w) hh s.heap.objs.size 0 1 n)
  have hLI : L ≠ s.heap.objs.size := Nat.ne_of_lt F.ns.lt
  have hI0 : h₀.get? s.heap.objs.size = none := next_is_new F
  refine codeAny_forLoop (I := RInv s h₀ L s.heap.objs.size n J) ?_ n ?_ (ht _)
  · intro k s' hJ0
    obtain ⟨i, h, tk, m₁, led₁, rfl, hi, hst, F₁, N₁, off, hJ₁⟩ := hJ0
    by_cases hlt : i < n
    · refine W.item i { s with heap := h, toks := tk } _ _ hlt hst fun v h' tk' hv hst' hk => ?_
      obtain ⟨t, rfl⟩ := hv
      have e1 : (0 : Int) + (i : Int) * 1 = (i : Int) := by omega
      rw [e1]
      have F₂ : Fr h₀ L h' m₁ := LCg.fr_but F₁ hk hLI hI0
      have N₂ : News h₀ L h' led₁ := LCg.news_but N₁ hk off
      obtain ⟨oI, hoI⟩ : ∃ oI, h'.get? s.heap.objs.size = some oI := ⟨_, hst'⟩
      have N₃ : News h₀ L h' ((s.heap.objs.size, oI) :: led₁) := by
        refine fac (⟨hoI, Ne.symm hLI, hI0⟩) ?_
        intro p hp
        exact N₂ p hp
      refine wpAny_mono (turn i t m₁ led₁ h' tk' s.heap.objs.size oI _ hlt hJ₁ F₂ N₃ off) (fun _ s₂ h₂ => wpAny_mono h₂ (fun f s₃ h₃ => ?_) fun _ _ e => e) fun _ _ e => e
      have key : IE s h₀ L s.heap.objs.size oI (J (i + 1)) s₃ → ∃ m, m < n - i ∧ RInv s h₀ L s.heap.objs.size n J m s₃ := rinv_next hlt hoI hst'
      cases f with
      | next => exact key h₃
      | cont => exact key h₃
      | brk => exact h₃
      | ret v => exact h₃
    · obtain rfl : i = n := by omega
      refine W.done { s with heap := h, toks := tk } _ _ hst fun h' tk' hk => ?_
      exact wpAny_execs_nil (done m₁ led₁ h' tk' hJ₁ (LCg.fr_but F₁ hk hLI hI0) (LCg.news_but N₁ hk off))
  · refine .mk 0 _ _ m led rfl (Nat.zero_le _) ?_ (F.push _) ( fun p hp => ⟨Heap.get?_push_of_some _ (N p hp).1, (N p hp).2⟩) (fun p hp => Nat.ne_of_lt (Heap.lt_size (N p hp).1)) hJ
    show IsRangeIter _ _ _ _ _
    rw [hn]; simpa using Heap.get?_push_size _ rfl
end Mine
end
section
open PySem PySem.W PyProof.Rows
set_option Elab.async false
namespace Mine
theorem str_get {vr : List Value} {xr : List Str} (h : StrsAre vr xr) {k : Nat} (hk : k < xr.length) : ∃ t, vr[k]? = some (.str (xr.getD k ⟨#[]⟩) t) := by
  have hl := StrsAre.length h
  have h2 : k < vr.length := by omega
  obtain ⟨_, t, e⟩ := str_at h k vr[k] (List.getElem?_eq_getElem h2)
  exact ⟨t, by rw [← e]; exact List.getElem?_eq_getElem h2⟩
theorem int_get : ∀ {zs : List Value} {cs : List Int}, IntsAre zs cs → ∀ {k : Nat}, k < cs.length → ∃ t, zs[k]? = some (.int (cs.getD k 0) t)
  | _, _, .nil, k, h => by simp at h
  | _, _, .cons _ t _, 0, _ => ⟨t, rfl⟩
  | _, _, .cons _ _ r, k + 1, h => by
    obtain ⟨t, e⟩ := int_get r (k := k) (by simp at h; omega)
    exact ⟨t, by simpa using e⟩
/-- the distance of two words -/
noncomputable def dst (ww : List Str) (j k : Nat) : Int := cst (ww.getD j ⟨#[]⟩) (ww.getD k ⟨#[]⟩)
noncomputable def rowD (d : Nat → Nat → Int) (j : Nat) : List Int := (List.range 4).map (d j)
noncomputable def rowL (ww : List Str) (j : Nat) : List Int := rowD (dst ww) j
noncomputable def Far (L : Nat) (a : Addr) : Prop := Dif 16 a ∧ Dif (L + 1 + 1) a ∧ Dif (L + 1 + 1 + 1) a
/-- the rows that ys points to -/
noncomputable def RowsAt (f : Nat → List Int) (ys : List Value) (rl : List (Addr × Obj)) : Prop :=
  ∀ j, j < ys.length → ∃ R zs, ys[j]? = some (.ref R) ∧ (R, LCg.lst zs) ∈ rl ∧ IntsAre zs (f j)
theorem rows_snoc {f : Nat → List Int} {ys zs : List Value} {rl : List (Addr × Obj)} {i : Nat} {R : Addr} (hl : ys.length = i) (h : RowsAt f ys rl) (hz : IntsAre zs (f i)) : RowsAt f (ys ++ [.ref R]) ((R, LCg.lst zs) :: rl) := by
  intro j hj
  rw [List.length_append, List.length_singleton] at hj
  by_cases e : j = i
  · subst e
    exact ⟨R, zs, by rw [List.getElem?_append_right (Nat.le_of_eq hl)]; simp [hl], .head _, hz⟩
  · obtain ⟨R', zs', h1, h2, h3⟩ := h j (Nat.lt_of_le_of_ne (Nat.le_of_lt_succ hj) (hl ▸ e))
    exact ⟨R', zs', by rw [List.getElem?_append_left (Nat.lt_of_le_of_ne (Nat.le_of_lt_succ hj) (hl ▸ e))]; exact h1, .tail _ h2, h3⟩
theorem mem_mid {α : Type} {a p : α} {l r : List α} (h : p ∈ l ++ a :: r) : p ∈ a :: (l ++ r) := by
  rcases List.mem_append.mp h with h | h
  · exact .tail _ (List.mem_append_left _ h)
  · rcases List.mem_cons.mp h with rfl | h
    · exact .head _
    · exact .tail _ (List.mem_append_right _ h)
/-- a new object behind the fixed part of the ledger -/
theorem grow_led {I C D X G : Addr} {oI oC oD oX oG : Obj} {base rl : List (Addr × Obj)} (off : LCg.Off3 I C D ((X, oX) :: (base ++ rl))) (offX : ∀ p ∈ base ++ rl, Dif p.1 X) (hG : ∀ p ∈ (I, oI) :: (C, oC) :: (D, oD) :: (X, oX) :: (base ++ rl), Dif p.1 G) :
    (∀ p ∈ (I, oI) :: (C, oC) :: (D, oD) :: (X, oX) :: (base ++ (G, oG) :: rl), p ∈ (G, oG) :: (I, oI) :: (C, oC) :: (D, oD) :: (X, oX) :: (base ++ rl)) ∧ LCg.Off3 I C D ((X, oX) :: (base ++ (G, oG) :: rl)) ∧ ∀ p ∈ base ++ (G, oG) :: rl, Dif p.1 X := by
  refine ⟨fun p hp => mem_mid (l := (I, oI) :: (C, oC) :: (D, oD) :: (X, oX) :: base) hp, LCg.Off3.of fun p hp => ?_, fun p hp => ?_⟩
  · rcases List.mem_cons.mp (mem_mid (l := (X, oX) :: base) hp) with rfl | hp
    · exact ⟨(hG _ (.head _)).symm, (hG _ (.tail _ (.head _))).symm, (hG _ (.tail _ (.tail _ (.head _)))).symm⟩
    · exact off.mem p hp
  · rcases List.mem_cons.mp (mem_mid (l := base) hp) with rfl | hp
    · exact (hG _ (.tail _ (.tail _ (.tail _ (.head _))))).symm
    · exact offX p hp
/-- the frame's map where j and k are set -/
noncomputable def mJK (M : Str → Option Value) (uj uk : Option Value) : Str → Option Value := fun y => if y = Str.ofString "k" then uk else if y = Str.ofString "j" then uj else M y
theorem mJK_j (M : Str → Option Value) (uj uk v : Option Value) : (fun z => if z = Str.ofString "j" then v else mJK M uj uk z) = mJK M v uk := by
  funext z
  unfold mJK
  by_cases h : z = Str.ofString "j"
  · subst h; rfl
  · rw [if_neg h, if_neg h, if_neg h]
theorem mJK_k (M : Str → Option Value) (uj uk v : Option Value) : (fun z => if z = Str.ofString "k" then v else mJK M uj uk z) = mJK M uj v := by
  funext z
  unfold mJK
  by_cases h : z = Str.ofString "k"
  · subst h; rfl
  · rw [if_neg h, if_neg h, if_neg h]
theorem mJK_0 (M : Str → Option Value) (hj : M (Str.ofString "j") = none) (hk : M (Str.ofString "k") = none) : M = mJK M none none := by
  funext z
  unfold mJK
  by_cases h : z = Str.ofString "k"
  · subst h; rw [if_pos rfl]; exact hk
  · rw [if_neg h]
    by_cases h : z = Str.ofString "j"
    · subst h; rw [if_pos rfl]; exact hj
    · rw [if_neg h]
theorem rowD_at (d : Nat → Nat → Int) (j : Nat) {k : Nat} (hk : k < 4) : (rowD d j).getD k 0 = d j k := by
  unfold rowD
  rw [List.getD, List.getElem?_map, List.getElem?_range hk]; rfl
theorem rowL_at (ww : List Str) (j : Nat) {k : Nat} (hk : k < 4) : (rowL ww j).getD k 0 = dst ww j k := rowD_at _ _ hk
theorem rowD_len (d : Nat → Nat → Int) (j : Nat) : (rowD d j).length = 4 := by simp [rowD]
/-- a for over a range, its turn's end hidden -/
theorem for_rangeQ {prog : Program} {w : World} {A : Around} {E : Value → Shared → Prop} {s : Shared} {h₀ : Heap} {L : Addr} {m : Str → Option Value} {led : List (Addr × Obj)} {target : Expr} {body : List Stmt} {env : Env} {Q : Flow → Shared → Prop}
    {r : Addr} {t u v : Tok} {b : Int} {n : Nat} (J : Nat → (Str → Option Value) → List (Addr × Obj) → Prop)
    (hh : A.handled = none) (hr : IsRange s.heap r 0 b 1 t u v) (hb : b = (n : Int)) (h9 : n < 100) (F : Fr h₀ L s.heap m) (N : News h₀ L s.heap led) (hJ : J 0 m led)
    (ht : ∀ it v, letOwnedTupleGo target it v = pure ())
    (turn : ∀ (i : Nat) (t : Tok) m led h tk (I : Addr) oI (E' : Value → Shared → Prop) (QT : Flow → Shared → Prop), i < n → J i m led → Fr h₀ L h m → News h₀ L h ((I, oI) :: led) → (∀ p ∈ led, Dif p.1 I) →
      (∀ h' tk' m' led', Fr h₀ L h' m' → News h₀ L h' ((I, oI) :: led') → (∀ p ∈ led', Dif p.1 I) → J (i + 1) m' led' → QT .next { s with heap := h', toks := tk' }) →
      wpAny (model prog w) A (assign target env (.int i t)) (fun _ s₂ => wpAny (model prog w) A (execs body env) QT E' s₂) E' { s with heap := h, toks := tk })
    (done : ∀ m led h tk, J n m led → Fr h₀ L h m → News h₀ L h led → Q .next { s with heap := h, toks := tk }) :
    wpAny (model prog w) A (pyIter (.ref r)) (fun it s₂ => codeAny (model prog w) A (.forLoop target it body [] env) (fun r s' => match r with | .ok f => Q f s' | .error e => cameBackBy (model prog w) A env E e s') s₂) E s := by
  subst hb
  refine for_range J hh hr (small_one (by omega) (by omega) (by omega) (by omega)) (by rw [rangeSize_nat]; omega) F N hJ ht (fun i t m led h tk I oI E' hi hj F' N' off => ?_) done
  refine turn i t m led h tk I oI E' _ hi hj F' N' off fun h' tk' m' led' F2 N2 o2 j2 => ⟨h', tk', m', led', F2, N2, o2, j2⟩
theorem dst_facts {ww : List Str} (hw40 : ∀ y ∈ ww, cl y ∈ N40) (hw3 : ∀ y ∈ ww, y.length ≤ 3) {i k : Nat} (hi : i < ww.length) (hk : k < ww.length) :
    dst ww k i = dst ww i k ∧ (dst ww i k = 0 ↔ ww.getD i ⟨#[]⟩ = ww.getD k ⟨#[]⟩) ∧ costL prc2 (cl (ww.getD i ⟨#[]⟩)) (cl (ww.getD k ⟨#[]⟩)) = dst ww i k ∧ (ww.getD i ⟨#[]⟩).length ≤ 3 ∧ (ww.getD k ⟨#[]⟩).length ≤ 3 := by
  have hm : ∀ {j : Nat}, j < ww.length → ww.getD j ⟨#[]⟩ ∈ ww := fun hj => by rw [List.getD, List.getElem?_eq_getElem hj]; exact List.getElem_mem hj
  have h := metric (hw40 _ (hm hi)) (hw40 _ (hm hk))
  exact ⟨h.2.2.1.symm, ⟨fun e => cl_inj (h.2.1.mp e), fun e => h.2.1.mpr (congrArg cl e)⟩, rfl, hw3 _ (hm hi), hw3 _ (hm hk)⟩
theorem zero_ne {d : Int} {x y : Str} (h : d = 0 ↔ x = y) : ¬ ((d == 0) != (x == y)) = true := by
  by_cases e : d = 0
  · rw [h.mp e, e]; simp
  · have : x ≠ y := fun q => e (h.mpr q)
    rw [beq_eq_false_iff_ne.mpr e, beq_eq_false_iff_ne.mpr this]; simp
/-- the distances of four words are a metric -/
noncomputable def Met (d : Nat → Nat → Int) : Prop := ∀ j k, j < 4 → k < 4 → d j j = 0 ∧ d k j = d j k ∧ 0 ≤ d j k ∧ ∀ m, m < 4 → d j k ≤ d j m + d m k
theorem dist_met {ww : List Str} (hw40 : ∀ y ∈ ww, cl y ∈ N40) (h4 : ww.length = 4) : Met (dst ww) := by
  have hm : ∀ {j : Nat}, j < 4 → cl (ww.getD j ⟨#[]⟩) ∈ N40 := fun {j} hj => by
    have hj' : j < ww.length := h4 ▸ hj
    rw [List.getD, List.getElem?_eq_getElem hj']; exact hw40 _ (List.getElem_mem hj')
  intro j k hj hk
  have h := metric (hm hj) (hm hk)
  exact ⟨(metric (hm hj) (hm hj)).2.1.mpr rfl, h.2.2.1.symm, h.1.2, fun m h9 => (metric (hm hj) (hm h9)).2.2.2 _ (hm hk)⟩
theorem rotA {α : Type} {p a b c x y : α} {r : List α} (h : p ∈ x :: y :: a :: b :: c :: r) : p ∈ a :: b :: c :: x :: y :: r := by
  rcases List.mem_cons.mp h with rfl | h
  · exact .tail _ (.tail _ (.tail _ (.head _)))
  rcases List.mem_cons.mp h with rfl | h
  · exact .tail _ (.tail _ (.tail _ (.tail _ (.head _))))
  rcases List.mem_cons.mp h with rfl | h
  · exact .head _
  rcases List.mem_cons.mp h with rfl | h
  · exact .tail _ (.head _)
  rcases List.mem_cons.mp h with rfl | h
  · exact .tail _ (.tail _ (.head _))
  · exact .tail _ (.tail _ (.tail _ (.tail _ (.tail _ h))))
theorem rotB {α : Type} {p a b c x y : α} {r : List α} (h : p ∈ a :: b :: c :: x :: y :: r) : p ∈ x :: y :: a :: b :: c :: r := by
  rcases List.mem_cons.mp h with rfl | h
  · exact .tail _ (.tail _ (.head _))
  rcases List.mem_cons.mp h with rfl | h
  · exact .tail _ (.tail _ (.tail _ (.head _)))
  rcases List.mem_cons.mp h with rfl | h
  · exact .tail _ (.tail _ (.tail _ (.tail _ (.head _))))
  rcases List.mem_cons.mp h with rfl | h
  · exact .head _
  rcases List.mem_cons.mp h with rfl | h
  · exact .tail _ (.head _)
  · exact .tail _ (.tail _ (.tail _ (.tail _ (.tail _ h))))
theorem ints_range_snoc {xs : List Value} {f : Nat → Int} {k : Nat} {t : Tok} (h : IntsAre xs ((List.range k).map f)) : IntsAre (xs ++ [.int (f k) t]) ((List.range (k + 1)).map f) := by
  rw [List.range_succ, List.map_append]
  exact h.append (.cons _ _ .nil)
theorem RowsAt.mono {f : Nat → List Int} {ys : List Value} {rl rr : List (Addr × Obj)} (h : RowsAt f ys rl) (hs : ∀ p ∈ rl, p ∈ rr) : RowsAt f ys rr := fun j hj => by
  obtain ⟨R, zs, h1, h2, h3⟩ := h j hj
  exact ⟨R, zs, h1, hs _ h2, h3⟩
end Mine
end
section
open PySem PySem.W PyProof.Rows
set_option Elab.async false
namespace Mine
section
variable {prog : Program} {w : World} {A : Around} {h₀ : Heap} {L : Addr} {m : Str → Option Value} {env : Env} {ct elt : Expr} {x : Str} {scope : Scope} {cl : List (Str × Addr)} {s : Shared} {S : List (Addr × Obj) → Prop} {P : Nat → Value → Prop} {Fin : List Value → List (Addr × Obj) → Prop} {news : List (Addr × Obj)}
end
/-- the law's own order: each number ahead of the first that costs more -/
noncomputable def dueN (c : Nat → Int) : Nat → List Nat
  | 0 => []
  | k + 1 => (dueN c k).take ((dueN c k).filter fun j => decide (c j ≤ c k)).length ++ k :: (dueN c k).drop ((dueN c k).filter fun j => decide (c j ≤ c k)).length
theorem dueN_len (c : Nat → Int) : ∀ k, (dueN c k).length = k
  | 0 => rfl
  | k + 1 => by
    unfold dueN
    have h := dueN_len c k
    have hf := List.length_filter_le (fun j => decide (c j ≤ c k)) (dueN c k)
    rw [List.length_append, List.length_take, List.length_cons, List.length_drop]
    omega
theorem dueN_lt (c : Nat → Int) : ∀ k, ∀ j ∈ dueN c k, j < k
  | 0, j, h => by simp [dueN] at h
  | k + 1, j, h => by
    unfold dueN at h
    have ih := dueN_lt c k
    rcases List.mem_append.mp h with h | h
    · exact Nat.lt_succ_of_lt (ih j (List.mem_of_mem_take h))
    · rcases List.mem_cons.mp h with rfl | h
      · exact Nat.lt_succ_self _
      · exact Nat.lt_succ_of_lt (ih j (List.mem_of_mem_drop h))
end Mine
end
section
open PySem PySem.W PyProof.Rows
set_option Elab.async false
namespace Mine
/-- an answer known ahead -/
noncomputable def pc (c : Nat → Int) (N : Nat) (i j : Nat) (C : Bool → Shared → Prop) (s : Shared) : Prop := i < N ∧ j < N ∧ C (decide (c i < c j)) s
structure Pre (c : Nat → Int) (N n : Nat) (p : Array Nat) : Prop where
  sz : p.size = N
  le : n ≤ N
  tl : ∀ k, n ≤ k → k < N → p.getD k 0 = k
  sm : ∀ k, k < n → p.getD k 0 < n
noncomputable def Rr (c : Nat → Int) (x y : Nat) : Prop := c x < c y ∨ (c x = c y ∧ x < y)
noncomputable def Asc (c : Nat → Int) (n : Nat) (p : Array Nat) : Prop := ∀ a b, a < b → b < n → Rr c (p.getD a 0) (p.getD b 0)
noncomputable def ltF (F : List (Nat × Nat × Bool)) (x y : Nat) : Bool := F.any fun f => Nat.beq f.1 x && Nat.beq f.2.1 y && f.2.2
noncomputable def leF (F : List (Nat × Nat × Bool)) (x y : Nat) : Bool := F.any fun f => (Nat.beq f.1 x && Nat.beq f.2.1 y && f.2.2) || (Nat.beq f.1 y && Nat.beq f.2.1 x && !f.2.2)
/-- a way of answers from x to y, one of them strict unless s -/
noncomputable def way (F : List (Nat × Nat × Bool)) : Nat → Bool → Nat → Nat → Bool
  | 0, s, x, y => s && Nat.beq x y
  | n + 1, s, x, y => (s && Nat.beq x y) || [0, 1, 2, 3, 4, 5].any fun z => leF F x z && way F n (s || ltF F x z) z y
/-- does what was told make x come ahead of y -/
noncomputable def told (F : List (Nat × Nat × Bool)) (x y : Nat) : Bool := ltF F x y || (Nat.blt x y && leF F x y) || way F 5 false x y || (Nat.blt x y && way F 5 true x y)
noncomputable def good (F : List (Nat × Nat × Bool)) : List Nat → Bool
  | x :: y :: r => told F x y && good F (y :: r)
  | _ => true
noncomputable def schk (t : KasT (Array Nat)) : List (Nat × Nat × Bool) → Bool :=
  @KasT.rec (Array Nat) (fun _ => List (Nat × Nat × Bool) → Bool) (fun p F => Nat.beq p.toList.length 6 && p.toList.all (fun x => Nat.blt x 6) && good F p.toList)
    (fun i j _ ih F => Nat.blt i 6 && Nat.blt j 6 && (ltF F j i || ih true ((i, j, true) :: F)) && ih false ((i, j, false) :: F)) t
set_option maxRecDepth 100000 in
theorem schk6 : schk (kas_sort 6) [] = true := by decide +kernel
section
variable {c : Nat → Int} {F : List (Nat × Nat × Bool)}
noncomputable def Ok (c : Nat → Int) (F : List (Nat × Nat × Bool)) : Prop := ∀ f ∈ F, decide (c f.1 < c f.2.1) = f.2.2
theorem ltF_ok (h : Ok c F) {x y : Nat} (e : ltF F x y = true) : c x < c y := by
  obtain ⟨⟨i, j, b⟩, hf, e⟩ := List.any_eq_true.mp e
  have h := h _ hf
  have e1 := Bool.and_eq_true_iff.mp e
  have e2 := Bool.and_eq_true_iff.mp e1.1
  have ei : i = x := Nat.eq_of_beq_eq_true e2.1
  have ej : j = y := Nat.eq_of_beq_eq_true e2.2
  have eb : b = true := e1.2
  subst ei ej eb
  exact of_decide_eq_true h
theorem leF_ok (h : Ok c F) {x y : Nat} (e : leF F x y = true) : c x ≤ c y := by
  obtain ⟨⟨i, j, b⟩, hf, e⟩ := List.any_eq_true.mp e
  have h := h _ hf
  rcases Bool.or_eq_true_iff.mp e with e | e
  · have e1 := Bool.and_eq_true_iff.mp e
    have e2 := Bool.and_eq_true_iff.mp e1.1
    have ei : i = x := Nat.eq_of_beq_eq_true e2.1
    have ej : j = y := Nat.eq_of_beq_eq_true e2.2
    have eb : b = true := e1.2
    subst ei ej eb
    exact Int.le_of_lt (of_decide_eq_true h)
  · have e1 := Bool.and_eq_true_iff.mp e
    have e2 := Bool.and_eq_true_iff.mp e1.1
    have ei : i = y := Nat.eq_of_beq_eq_true e2.1
    have ej : j = x := Nat.eq_of_beq_eq_true e2.2
    have eb : b = false := Bool.not_eq_true' _ ▸ e1.2
    subst ei ej eb
    exact Int.not_lt.mp (of_decide_eq_false h)
theorem way_ok (h : Ok c F) {y : Nat} : ∀ (n : Nat) (s : Bool) (x : Nat), way F n s x y = true → c x ≤ c y ∧ (s = false → c x < c y)
  | 0, s, x, e => by
    have e1 := Bool.and_eq_true_iff.mp e
    have ex : x = y := Nat.eq_of_beq_eq_true e1.2
    exact ⟨ex ▸ Int.le_refl _, fun z => absurd (z.symm.trans e1.1) Bool.false_ne_true⟩
  | n + 1, s, x, e => by
    rcases Bool.or_eq_true_iff.mp e with e | e
    · have e1 := Bool.and_eq_true_iff.mp e
      have ex : x = y := Nat.eq_of_beq_eq_true e1.2
      exact ⟨ex ▸ Int.le_refl _, fun z => absurd (z.symm.trans e1.1) Bool.false_ne_true⟩
    · obtain ⟨z, _, e⟩ := List.any_eq_true.mp e
      have e1 := Bool.and_eq_true_iff.mp e
      have l1 := leF_ok h e1.1
      have r := way_ok h n _ z e1.2
      refine ⟨Int.le_trans l1 r.1, fun hs => ?_⟩
      subst hs
      cases hl : ltF F x z with
      | true => exact Int.lt_of_lt_of_le (ltF_ok h hl) r.1
      | false => exact Int.lt_of_le_of_lt l1 (r.2 hl)
theorem rr_of {x y : Nat} (l : c x ≤ c y) (b : Nat.blt x y = true) : Rr c x y := by
  rcases Int.lt_or_eq_of_le l with l | l
  · exact .inl l
  · exact .inr ⟨l, Nat.blt_eq.mp b⟩
theorem told_ok (h : Ok c F) {x y : Nat} (e : told F x y = true) : Rr c x y := by
  rcases Bool.or_eq_true_iff.mp e with e | e
  · rcases Bool.or_eq_true_iff.mp e with e | e
    · rcases Bool.or_eq_true_iff.mp e with e | e
      · exact .inl (ltF_ok h e)
      · have e1 := Bool.and_eq_true_iff.mp e
        exact rr_of (leF_ok h e1.2) e1.1
    · exact .inl ((way_ok h 5 false x e).2 rfl)
  · have e1 := Bool.and_eq_true_iff.mp e
    exact rr_of (way_ok h 5 true x e1.2).1 e1.1
theorem Rr.trans {x y z : Nat} (a : Rr c x y) (b : Rr c y z) : Rr c x z := by
  rcases a with a | ⟨a, a2⟩
  · rcases b with b | ⟨b, _⟩
    · exact .inl (Int.lt_trans a b)
    · exact .inl (b ▸ a)
  · rcases b with b | ⟨b, b2⟩
    · exact .inl (a ▸ b)
    · exact .inr ⟨a.trans b, Nat.lt_trans a2 b2⟩
theorem good_ok (h : Ok c F) : ∀ (l : List Nat), good F l = true → ∀ a b, a < b → b < l.length → Rr c (l.getD a 0) (l.getD b 0)
  | [], _, _, _, _, hb => absurd hb (Nat.not_lt_zero _)
  | [_], _, _, 0, hab, _ => absurd hab (Nat.not_lt_zero _)
  | [_], _, _, b + 1, _, hb => absurd (Nat.lt_of_succ_lt_succ hb) (Nat.not_lt_zero _)
  | x :: y :: r, e, a, b, hab, hb => by
    have e1 := Bool.and_eq_true_iff.mp e
    have ih := good_ok h (y :: r) e1.2
    match a, b, hab, hb with
    | a + 1, b + 1, hab, hb => exact ih a b (Nat.lt_of_succ_lt_succ hab) (Nat.lt_of_succ_lt_succ hb)
    | 0, 1, _, _ => exact told_ok h e1.1
    | 0, b + 2, _, hb => exact (told_ok h e1.1).trans (ih 0 (b + 1) (Nat.succ_pos _) (Nat.lt_of_succ_lt_succ hb))
theorem schk_ok {s : Shared} {Q : Array Nat → Shared → Prop} (hQ : ∀ p', Pre c 6 6 p' → Asc c 6 p' → Q p' s) : ∀ (t : KasT (Array Nat)) (F : List (Nat × Nat × Bool)), Ok c F → schk t F = true → t.kasWp (pc c 6) Q s
  | .ret ⟨l⟩, F, h, e => by
    have e1 := Bool.and_eq_true_iff.mp e
    have e2 := Bool.and_eq_true_iff.mp e1.1
    have hl : l.length = 6 := Nat.eq_of_beq_eq_true e2.1
    have g : ∀ k, Array.getD ⟨l⟩ k 0 = l.getD k 0 := fun k => by rw [Array.getD_eq_getD_getElem?, List.getElem?_toArray]; rfl
    refine hQ ⟨l⟩ ⟨hl, Nat.le_refl _, fun k h1 h2 => absurd h2 (Nat.not_lt.mpr h1), fun k hk => ?_⟩ fun a b hab hb => ?_
    · rw [g, List.getD, List.getElem?_eq_getElem (hl ▸ hk : k < l.length)]
      exact Nat.blt_eq.mp (List.all_eq_true.mp e2.2 _ (List.getElem_mem _))
    · rw [g, g]
      exact good_ok h l e1.2 a b hab (hl ▸ hb)
  | .ask i j k, F, h, e => by
    have e1 := Bool.and_eq_true_iff.mp e
    have e2 := Bool.and_eq_true_iff.mp e1.1
    have e3 := Bool.and_eq_true_iff.mp e2.1
    refine ⟨Nat.blt_eq.mp e3.1, Nat.blt_eq.mp e3.2, ?_⟩
    cases hd : decide (c i < c j) with
    | false => exact schk_ok hQ (k false) _ (fun f hf => by rcases List.mem_cons.mp hf with rfl | hf; exact hd; exact h f hf) e1.2
    | true =>
      rcases Bool.or_eq_true_iff.mp e2.2 with z | z
      · exact absurd (ltF_ok h z) (Int.not_lt.mpr (Int.le_of_lt (of_decide_eq_true hd)))
      · exact schk_ok hQ (k true) _ (fun f hf => by rcases List.mem_cons.mp hf with rfl | hf; exact hd; exact h f hf) z
end
theorem sort_run {c : Nat → Int} {N : Nat} {s : Shared} {Q : Array Nat → Shared → Prop} (hN : N = 6) (hQ : ∀ p', Pre c N N p' → Asc c N p' → Q p' s) : (kas_sort N).kasWp (pc c N) Q s := by
  subst hN
  exact schk_ok hQ _ [] (fun _ h => absurd h List.not_mem_nil) schk6
end Mine
end
section
open PySem PySem.W PyProof.Rows
set_option Elab.async false
namespace Mine
theorem rr_irr {c : Nat → Int} {x y : Nat} (h1 : Rr c x y) (h2 : Rr c y x) : False := by
  unfold Rr at h1 h2; lia  
/-- two rising lists with the same members are one -/
theorem asc_unique {c : Nat → Int} : ∀ {l₁ l₂ : List Nat}, l₁.Pairwise (Rr c) → l₂.Pairwise (Rr c) → (∀ x, x ∈ l₁ ↔ x ∈ l₂) → l₁ = l₂
  | [], [], _, _, _ => rfl
  | [], y :: r, _, _, h => absurd ((h y).mpr (.head _)) List.not_mem_nil
  | x :: r, [], _, _, h => absurd ((h x).mp (.head _)) List.not_mem_nil
  | x :: r, y :: t, h1, h2, h => by
    obtain ⟨a1, b1⟩ := List.pairwise_cons.mp h1
    obtain ⟨a2, b2⟩ := List.pairwise_cons.mp h2
    have hx : x = y := by
      rcases List.mem_cons.mp ((h x).mp (.head _)) with e | e
      · exact e
      · rcases List.mem_cons.mp ((h y).mpr (.head _)) with e' | e'
        · exact e'.symm
        · exact (rr_irr (a2 x e) (a1 y e')).elim
    subst hx
    congr 1
    refine asc_unique b1 b2 fun z => ⟨fun hz => ?_, fun hz => ?_⟩
    · rcases List.mem_cons.mp ((h z).mp (.tail _ hz)) with rfl | e
      · exact (rr_irr (a1 _ hz) (a1 _ hz)).elim
      · exact e
    · rcases List.mem_cons.mp ((h z).mpr (.tail _ hz)) with rfl | e
      · exact (rr_irr (a2 _ hz) (a2 _ hz)).elim
      · exact e
/-- no more numbers below n than n -/
theorem nodup_le : ∀ (n : Nat) (l : List Nat), l.Nodup → (∀ x ∈ l, x < n) → l.length ≤ n
  | 0, [], _, _ => Nat.le_refl _
  | 0, x :: _, _, h => absurd (h x (.head _)) (Nat.not_lt_zero _)
  | n + 1, l, hn, h => by
    have ih := nodup_le n (l.erase n) (hn.erase n) fun x hx => by
      have h1 := h x (List.mem_of_mem_erase hx)
      have h2 : x ≠ n := fun e => (hn.not_mem_erase (a := n)) (e ▸ hx)
      lia  
    rw [List.length_erase] at ih
    split at ih <;> lia  
theorem nodup_all {n : Nat} {l : List Nat} (hn : l.Nodup) (h : ∀ x ∈ l, x < n) (hl : l.length = n) {j : Nat} (hj : j < n) : j ∈ l := by
  by_cases hm : j ∈ l
  · exact hm
  · have := nodup_le n (j :: l) (List.nodup_cons.mpr ⟨hm, hn⟩) fun x hx => by
      rcases List.mem_cons.mp hx with rfl | hx
      · exact hj
      · exact h x hx
    rw [List.length_cons] at this
    lia  
theorem asc_nodup {c : Nat → Int} {l : List Nat} (h : l.Pairwise (Rr c)) : l.Nodup := h.imp fun h1 e => by subst e; exact rr_irr h1 h1
theorem asc_same {c : Nat → Int} {n : Nat} {l₁ l₂ : List Nat} (h1 : l₁.Pairwise (Rr c)) (h2 : l₂.Pairwise (Rr c)) (e1 : l₁.length = n) (e2 : l₂.length = n) (b1 : ∀ x ∈ l₁, x < n) (b2 : ∀ x ∈ l₂, x < n) : l₁ = l₂ :=
  asc_unique h1 h2 fun x => ⟨fun hx => nodup_all (asc_nodup h2) b2 e2 (b1 x hx), fun hx => nodup_all (asc_nodup h1) b1 e1 (b2 x hx)⟩
/-- those at most v stand ahead -/
theorem cut_asc {c : Nat → Int} (v : Int) : ∀ {l : List Nat}, l.Pairwise (Rr c) → (∀ x ∈ l.take (l.filter fun j => decide (c j ≤ v)).length, c x ≤ v) ∧ ∀ x ∈ l.drop (l.filter fun j => decide (c j ≤ v)).length, v < c x
  | [], _ => ⟨by simp, by simp⟩
  | a :: r, h => by
    obtain ⟨h1, h2⟩ := List.pairwise_cons.mp h
    by_cases ha : c a ≤ v
    · have e : (List.filter (fun j => decide (c j ≤ v)) (a :: r)).length = (r.filter fun j => decide (c j ≤ v)).length + 1 := by
        rw [List.filter_cons_of_pos (by simpa using ha), List.length_cons]
      rw [e, List.take_succ_cons, List.drop_succ_cons]
      obtain ⟨i1, i2⟩ := cut_asc v h2
      refine ⟨fun x hx => ?_, i2⟩
      rcases List.mem_cons.mp hx with rfl | hx
      · exact ha
      · exact i1 x hx
    · have hall : ∀ x ∈ a :: r, v < c x := fun x hx => by
        rcases List.mem_cons.mp hx with rfl | hx
        · lia  
        · have := h1 x hx
          unfold Rr at this; lia  
      have e : (List.filter (fun j => decide (c j ≤ v)) (a :: r)) = [] := List.filter_eq_nil_iff.mpr fun x hx => by
        have := hall x hx
        simp; lia  
      rw [e]
      exact ⟨by simp, hall⟩
theorem dueN_asc (c : Nat → Int) : ∀ k, (dueN c k).Pairwise (Rr c)
  | 0 => .nil
  | k + 1 => by
    have ih := dueN_asc c k
    obtain ⟨h1, h2⟩ := cut_asc (c k) ih
    unfold dueN
    refine List.pairwise_append.mpr ⟨ih.take, List.pairwise_cons.mpr ⟨fun x hx => ?_, ih.drop⟩, fun x hx y hy => ?_⟩
    · have := h2 x hx
      unfold Rr; lia  
    · have hx1 := h1 x hx
      have hx2 := dueN_lt c k x (List.mem_of_mem_take hx)
      rcases List.mem_cons.mp hy with rfl | hy
      · unfold Rr; lia  
      · have := h2 y hy
        unfold Rr; lia  
theorem sorted_due {c : Nat → Int} {n : Nat} {p : Array Nat} (hp : Pre c n n p) (ha : Asc c n p) : p.toList = dueN c n := by
  have hs := hp.sz
  have g : ∀ i (h : i < p.toList.length), p.toList[i] = p.getD i 0 := fun i h => by
    rw [Array.getD_eq_getD_getElem?, Array.getElem?_eq_getElem (by simpa using h)]; simp
  refine asc_same (n := n) ?_ (dueN_asc c n) (by simpa using hs) (dueN_len c n) ?_ (dueN_lt c n)
  · rw [List.pairwise_iff_getElem]
    intro i j hi hj hij
    rw [g, g]
    exact ha i j hij (by simpa [hs] using hj)
  · intro x hx
    obtain ⟨i, hi, rfl⟩ := List.getElem_of_mem hx
    rw [g]
    exact hp.sm i (by simpa [hs] using hi)
end Mine
end
section
open PySem PySem.W PyProof.Rows
set_option Elab.async false
namespace Mine
/-- the ends of the pair at the place i -/
noncomputable def EJ (i : Nat) : Nat := [1, 2, 2, 3, 3, 3].getD i 0
noncomputable def EK (i : Nat) : Nat := [0, 0, 1, 0, 1, 2].getD i 0
/-- what _law_joined does to the groups -/
noncomputable def kjoin (g : List Nat) (i : Nat) : List Nat := g.map fun x => if x = g.getD (EK i) 0 then g.getD (EJ i) 0 else x
noncomputable def kstep (c : Nat → Int) (st : List Nat × Int) (i : Nat) : List Nat × Int :=
  if st.1.getD (EJ i) 0 = st.1.getD (EK i) 0 then st else (kjoin st.1 i, st.2 + c i)
noncomputable def kstepA (st : List Nat × List Nat) (i : Nat) : List Nat × List Nat :=
  if st.1.getD (EJ i) 0 = st.1.getD (EK i) 0 then st else (kjoin st.1 i, st.2 ++ [i])
/-- a row of three that holds both ends -/
noncomputable def rowB (r : List Nat) (i : Nat) : Bool := r.contains (EJ i) && r.contains (EK i)
noncomputable def rows4 : List (List Nat) := [[0, 1, 2], [0, 1, 3], [0, 2, 3], [1, 2, 3]]
noncomputable def treeB (j k m : Nat) : Bool := rows4.all fun r => !(rowB r j && rowB r k && rowB r m)
noncomputable def S3 (c : Nat → Int) (j k : Nat) : Nat → List Int
  | 0 => []
  | m + 1 => S3 c j k m ++ if treeB j k m then [c j + c k + c m] else []
noncomputable def S2 (c : Nat → Int) (j : Nat) : Nat → List Int
  | 0 => []
  | k + 1 => S2 c j k ++ S3 c j k k
noncomputable def S1 (c : Nat → Int) : Nat → List Int
  | 0 => []
  | j + 1 => S1 c j ++ S2 c j j
noncomputable def trees : List (Nat × Nat × Nat) := [(3, 1, 0), (3, 2, 0), (3, 2, 1), (4, 1, 0), (4, 2, 0), (4, 2, 1), (4, 3, 1), (4, 3, 2), (5, 1, 0), (5, 2, 0), (5, 2, 1), (5, 3, 0), (5, 3, 2), (5, 4, 0), (5, 4, 1), (5, 4, 3)]
theorem S1_eq (c : Nat → Int) : S1 c 6 = trees.map fun t => c t.1 + c t.2.1 + c t.2.2 := rfl
noncomputable def pos : List Nat → Nat → Nat
  | [], _ => 0
  | a :: r, e => bif Nat.beq a e then 0 else pos r e + 1
noncomputable def le3 (pl : List Nat) (a b : Nat × Nat × Nat) : Bool := Nat.ble (pos pl a.1) (pos pl b.1) && Nat.ble (pos pl a.2.1) (pos pl b.2.1) && Nat.ble (pos pl a.2.2) (pos pl b.2.2)
noncomputable def perm6 (t : Nat × Nat × Nat) : List (Nat × Nat × Nat) := [(t.1, t.2.1, t.2.2), (t.1, t.2.2, t.2.1), (t.2.1, t.1, t.2.2), (t.2.1, t.2.2, t.1), (t.2.2, t.1, t.2.1), (t.2.2, t.2.1, t.1)]
noncomputable def triOf : List Nat → Nat × Nat × Nat
  | [a, b, c] => (a, b, c)
  | _ => (9, 9, 9)
noncomputable def chk (pl : List Nat) : Bool :=
  let st := pl.foldl kstepA ([0, 1, 2, 3], [])
  (st.1 == [st.1.getD 0 0, st.1.getD 0 0, st.1.getD 0 0, st.1.getD 0 0]) && (st.2.length == 3) && (trees.all fun t => (perm6 t).any (le3 pl (triOf st.2))) && (trees.any fun t => (perm6 t).contains (triOf st.2))
noncomputable def go : Nat → List Nat → Bool
  | 0, pre => chk pre.reverse
  | k + 1, pre => allB (fun a => pre.contains a || go k (a :: pre)) 6
theorem go0 : go 5 [0] = true := by decide +kernel
theorem go1 : go 5 [1] = true := by decide +kernel
theorem go2 : go 5 [2] = true := by decide +kernel
theorem go3 : go 5 [3] = true := by decide +kernel
theorem go4 : go 5 [4] = true := by decide +kernel
theorem go5 : go 5 [5] = true := by decide +kernel
theorem go_chk : ∀ (k : Nat) (pre : List Nat), go k pre = true → ∀ l : List Nat, l.length = k → (∀ x ∈ l, x < 6) → (pre.reverse ++ l).Nodup → chk (pre.reverse ++ l) = true
  | 0, pre, h, l, hl, _, _ => by
    rw [List.eq_nil_of_length_eq_zero hl, List.append_nil]; exact h
  | k + 1, pre, h, a :: l, hl, h6, hn => by
    have h' := allB_at h (h6 a (.head _))
    have e : pre.reverse ++ a :: l = (a :: pre).reverse ++ l := by simp
    rw [Bool.or_eq_true] at h'
    rcases h' with h' | h'
    · have hm := List.contains_iff_mem.mp h'
      exact absurd rfl ((List.nodup_append.mp hn).2.2 a (List.mem_reverse.mpr hm) a (.head _))
    · rw [e] at hn ⊢
      exact go_chk k (a :: pre) h' l (Nat.succ.inj hl) (fun x hx => h6 x (.tail _ hx)) hn
theorem chk_all {pl : List Nat} (hl : pl.length = 6) (h6 : ∀ x ∈ pl, x < 6) (hn : pl.Nodup) : chk pl = true := by
  obtain _ | ⟨a, l⟩ := pl
  · cases hl
  have ha := h6 a (.head _)
  have g : go 5 [a] = true := by
    match a, ha with | 0, _ => exact go0 | 1, _ => exact go1 | 2, _ => exact go2 | 3, _ => exact go3 | 4, _ => exact go4 | 5, _ => exact go5
  exact go_chk 5 [a] g l (Nat.succ.inj hl) (fun x hx => h6 x (.tail _ hx)) hn
theorem pos_le {c : Nat → Int} : ∀ {pl : List Nat}, pl.Pairwise (fun a b => c a ≤ c b) → ∀ {e f : Nat}, f ∈ pl → Nat.ble (pos pl e) (pos pl f) = true → c e ≤ c f
  | a :: r, hp, e, f, hf, h => by
    obtain ⟨h1, h2⟩ := List.pairwise_cons.mp hp
    unfold pos at h
    cases he : Nat.beq a e with
    | true =>
      obtain rfl := Nat.eq_of_beq_eq_true he
      rcases List.mem_cons.mp hf with rfl | hf
      · exact Int.le_refl _
      · exact h1 _ hf
    | false =>
      rw [he] at h
      cases hg : Nat.beq a f with
      | true => rw [hg] at h; exact absurd (Nat.le_of_ble_eq_true h) (Nat.not_succ_le_zero _)
      | false =>
        rw [hg] at h
        have hf' : f ∈ r := by
          rcases List.mem_cons.mp hf with rfl | hf
          · rw [Nat.beq_refl] at hg; cases hg
          · exact hf
        exact pos_le h2 hf' (Nat.ble_eq_true_of_le (Nat.le_of_succ_le_succ (Nat.le_of_ble_eq_true h)))
noncomputable def csum (c : Nat → Int) (t : Nat × Nat × Nat) : Int := c t.1 + c t.2.1 + c t.2.2
theorem csum_perm {c : Nat → Int} {t t' : Nat × Nat × Nat} (h : t' ∈ perm6 t) : csum c t' = csum c t := by
  simp only [perm6, List.mem_cons, List.not_mem_nil, or_false] at h
  unfold csum
  rcases h with rfl | rfl | rfl | rfl | rfl | rfl <;> dsimp only <;> try omega
theorem kfold_A {c : Nat → Int} : ∀ (pl : List Nat) (g : List Nat) (u : Int) (acc : List Nat), u = (acc.map c).sum → (pl.foldl (kstep c) (g, u)).1 = (pl.foldl kstepA (g, acc)).1 ∧ (pl.foldl (kstep c) (g, u)).2 = ((pl.foldl kstepA (g, acc)).2.map c).sum
  | [], g, u, acc, h => ⟨rfl, h⟩
  | i :: r, g, u, acc, h => by
    rw [List.foldl_cons, List.foldl_cons]
    unfold kstep kstepA
    dsimp only
    by_cases q : g.getD (EJ i) 0 = g.getD (EK i) 0
    · rw [if_pos q, if_pos q]; exact kfold_A r g u acc h
    · rw [if_neg q, if_neg q]
      exact kfold_A r _ _ _ (by rw [List.map_append, List.sum_append, h]; simp)
/-- the sum of what the rising pairs join is the least of the trees' sums -/
theorem kruskal {c : Nat → Int} {pl : List Nat} (hl : pl.length = 6) (h6 : ∀ x ∈ pl, x < 6) (hn : pl.Nodup) (hp : pl.Pairwise (fun a b => c a ≤ c b)) :
    (∃ z, (pl.foldl (kstep c) ([0, 1, 2, 3], 0)).1 = [z, z, z, z]) ∧ (pl.foldl (kstep c) ([0, 1, 2, 3], 0)).2 ∈ S1 c 6 ∧ ∀ x ∈ S1 c 6, (pl.foldl (kstep c) ([0, 1, 2, 3], 0)).2 ≤ x := by
  have hc := chk_all hl h6 hn
  obtain ⟨e1, e2⟩ := kfold_A (c := c) pl [0, 1, 2, 3] 0 [] rfl
  unfold chk at hc
  rw [e1, e2, S1_eq]
  generalize pl.foldl kstepA ([0, 1, 2, 3], []) = st at hc
  dsimp only at hc
  simp only [Bool.and_eq_true] at hc
  obtain ⟨⟨⟨h1, h2⟩, h3⟩, h4⟩ := hc
  obtain ⟨g, acc⟩ := st
  dsimp only at h1 h2 h3 h4 ⊢
  obtain _ | ⟨a1, _ | ⟨a2, _ | ⟨a3, _ | ⟨a4, r⟩⟩⟩⟩ := acc
  · cases h2
  · cases h2
  · cases h2
  · have hs : (List.map c [a1, a2, a3]).sum = csum c (triOf [a1, a2, a3]) := by
      simp only [List.map_cons, List.map_nil, List.sum_cons, List.sum_nil, csum, triOf]; omega
    rw [hs]
    refine ⟨⟨_, beq_iff_eq.mp h1⟩, ?_, fun x hx => ?_⟩
    · obtain ⟨t, ht, h⟩ := List.any_eq_true.mp h4
      rw [csum_perm (List.contains_iff_mem.mp h)]
      exact List.mem_map_of_mem (f := csum c) ht
    · obtain ⟨t, ht, rfl⟩ := List.mem_map.mp hx
      obtain ⟨t', ht', h⟩ := List.any_eq_true.mp (List.all_eq_true.mp h3 t ht)
      show _ ≤ csum c t
      rw [← csum_perm ht']
      have hin : ∀ e, e < 6 → e ∈ pl := fun e he => nodup_all hn h6 hl he
      have hb : t'.1 < 6 ∧ t'.2.1 < 6 ∧ t'.2.2 < 6 := by
        have : (trees.all fun t => (perm6 t).all fun t' => decide (t'.1 < 6 ∧ t'.2.1 < 6 ∧ t'.2.2 < 6)) = true := by decide +kernel
        exact of_decide_eq_true (List.all_eq_true.mp (List.all_eq_true.mp this t ht) t' ht')
      unfold le3 at h
      rw [Bool.and_eq_true, Bool.and_eq_true] at h
      exact Int.add_le_add (Int.add_le_add (pos_le hp (hin _ hb.1) h.1.1) (pos_le hp (hin _ hb.2.1) h.1.2)) (pos_le hp (hin _ hb.2.2) h.2)
  · cases h2
end Mine
end
section
open PySem PySem.W PyProof.Rows PySem.Calls
set_option Elab.async false
namespace Mine
set_option maxRecDepth 100000
/-- o is the iterator over the list at l, i items on -/
noncomputable def ItOf (o : Obj) (l : Addr) (i : Nat) : Prop := o.cls = .type "list_iterator" ∧ o.data = .fields #[.ref l, .int i 0]
section
variable {prog : Program} {w : World} {A : Around} {E : Value → Shared → Prop} {s : Shared} {h₀ : Heap} {L l I : Addr} {m : Str → Option Value} {news : List (Addr × Obj)} {oI : Obj} {items : Array Value} {i : Nat} {v : Value}
theorem ItOf.at {h : Heap} (a : ItOf oI l i) (h1 : h.get? I = some oI) : h.IsListIter I l i := ⟨_, h1, a.1, a.2⟩
theorem kli_iter {Q : Value → Shared → Prop} (F : Fr h₀ L s.heap m) (N : News h₀ L s.heap news) (hl : s.heap.IsList l items)
    (h : ∀ (I : Addr) h' oI, Fr h₀ L h' m → News h₀ L h' ((I, oI) :: news) → (∀ p ∈ news, Dif p.1 I) → ItOf oI l 0 → L < I → Q (.ref I) { s with heap := h' }) :
    wpAny (model prog w) A (call (.builtin "iter") [.ref l]) Q E s := by
  refine call_function_entry (by decide +kernel) (by decide +kernel) kdk_entry_iter (kdk_args_iter _) ?_
  unfold Builtin.«iter»
  refine wpAny_bind (m := someArgs "iter" 1 2 _) (wpAny_of_eq (a := [Value.ref l]) (by first | rfl | kernel_rfl!) ?_)
  show wpAny _ _ (pyIter (.ref l) >>= _) _ _ _
  refine wpAny_bind (wpAny_pyIter_list hl ?_)
  exact wpAny_pure ⟨_, rfl, h _ _ _ (F.push _) (News.push F N _ rfl) (fun q hq => Nat.ne_of_lt (Heap.lt_size (N q hq).1)) ⟨rfl, rfl⟩ F.ns.lt⟩
theorem kli_special {Q : Option Value → Shared → Prop} (hit : s.heap.IsListIter I l i) (hl : s.heap.IsList l items) (hx : items[i]? = some v)
    (hQ : ∀ h', h'.IsListIter I l (i + 1) → Heap.SameBut I s.heap h' → Q (some v) { s with heap := h' }) :
    wpAny (model prog w) A (callSpecial? (.ref I) (Str.ofString "__next__")) Q E s := by
  refine gh fun pG hpG => ?_
  obtain ⟨o, ho, hc, hd⟩ := id hit
  refine hpG ?_
  clear hpG pG
  refine gh fun pG hpG => ?_
  obtain ⟨ol, hol, _, nl, hdl⟩ := hl
  refine hpG ?_
  clear hpG pG
  refine wpAny_callSpecial?_slot (name := Str.ofString "__next__") hit.typeIs slot_listiter_next
    (wpAny_call_entry slot_listiter_next hit.typeIs entry_listiter_next ?_ (args_listiter_next _))
  show wpAny _ _ (field (.ref I) 0 >>= _) _ _ s
  refine wpAny_bind (wpAny_field ho hd (x := .ref l) rfl ?_)
  show wpAny _ _ (if (Value.ref l == Value.none) = true then _ else _) _ _ s
  rw [if_neg (show ¬ ((Value.ref l == Value.none) = true) from Bool.false_ne_true)]
  show wpAny _ _ (field (.ref I) 1 >>= _) _ _ s
  refine wpAny_bind (wpAny_field ho hd (x := .int i 0) rfl ?_)
  show wpAny _ _ (seqItems? (.ref l) >>= _) _ _ s
  refine wpAny_bind (wpAny_seqItems hol hdl ?_)
  simp only [Int.toNat_natCast, hx]
  refine wpAny_bind (wpAny_setField ho hd (by simp) (wpAny_pure ⟨v, rfl, hQ _ ?_ (Heap.SameBut.update ..)⟩))
  exact ⟨_, Heap.get?_update_self _ ho (Obj.isFreed_of_fields (Obj.data_mapFields hd _)), (Obj.cls_mapFields ..).trans hc, by
    rw [Obj.data_mapFields hd]; simp [rawInt]⟩
theorem kli_moved {h h' : Heap} (F : Fr h₀ L h m) (N : News h₀ L h ((I, oI) :: news)) (off : ∀ p ∈ news, Dif p.1 I) (hit : h'.IsListIter I l i) (hs : ∀ b o, b ≠ I → h.get? b = some o → h'.get? b = some o) :
    ∃ oI', Fr h₀ L h' m ∧ News h₀ L h' ((I, oI') :: news) ∧ ItOf oI' l i := by
  have hI := N _ (.head _)
  refine gh fun pG hpG => ?_
  obtain ⟨o', ho', hc', hd'⟩ := hit
  refine hpG ?_
  clear hpG pG
  have hk : ∀ b o, b ∉ [I] → h.get? b = some o → h'.get? b = some o := fun b o hb e => hs b o (fun c => hb (by simp [c])) e
  refine ⟨o', LCg.fr_but F hk (Ne.symm hI.2.1) hI.2.2, fun p hp => ?_, hc', hd'⟩
  rcases List.mem_cons.mp hp with rfl | hp
  · exact ⟨ho', hI.2.1, hI.2.2⟩
  · exact LCg.news_but (fun q hq => N q (.tail _ hq)) hk off p hp
theorem kli_next {Q : Value → Shared → Prop} (F : Fr h₀ L s.heap m) (N : News h₀ L s.heap ((I, oI) :: news)) (off : ∀ p ∈ news, Dif p.1 I) (hi : ItOf oI l i) (hl : s.heap.IsList l items) (hx : items[i]? = some v)
    (h : ∀ h' oI', Fr h₀ L h' m → News h₀ L h' ((I, oI') :: news) → ItOf oI' l (i + 1) → Q v { s with heap := h' }) :
    wpAny (model prog w) A (call (.builtin "next") [.ref I]) Q E s := by
  have hit := hi.at (N _ (.head _)).1
  refine call_function_entry (by decide +kernel) (by decide +kernel) kdk_entry_next (kdk_args_next _) ?_
  unfold Builtin.«next»
  refine wpAny_bind (m := someArgs "next" 1 2 _) (wpAny_of_eq (a := [Value.ref I]) (by first | rfl | kernel_rfl!) ?_)
  dsimp only
  refine wpAny_bind (wpAny_specialOf (name := Str.ofString "__next__") hit.typeIs slot_listiter_next.lookup ?_)
  refine wpAny_ite_split (fun hab => absurd hab (by decide)) (fun _ => ?_)
  refine wpAny_bind (kli_special hit hl hx fun h' hit' hs => ?_)
  refine gh fun pG hpG => ?_
  obtain ⟨oI', F', N', hi'⟩ := kli_moved F N off hit' fun b o hb e => hs.extBut b o hb e
  refine hpG ?_
  clear hpG pG
  exact wpAny_pure ⟨_, rfl, h h' oI' F' N' hi'⟩
/-- what stands between the turns -/
inductive TInv (s : Shared) (h₀ : Heap) (L I l : Addr) (n : Nat) (J : Nat → (Str → Option Value) → List (Addr × Obj) → Prop) (k : Nat) : Shared → Prop
  | mk (i : Nat) (h : Heap) (tk : Nat) (m : Str → Option Value) (led : List (Addr × Obj)) (oI : Obj) (hk : k = n - i) (hi : i ≤ n) (hst : ItOf oI l i) (F : Fr h₀ L h m) (N : News h₀ L h ((I, oI) :: led)) (off : ∀ p ∈ led, Dif p.1 I) (hJ : J i m led) : TInv s h₀ L I l n J k { s with heap := h, toks := tk }
theorem tinv_next {s : Shared} {h₀ : Heap} {L I l : Addr} {n i : Nat} {J : Nat → (Str → Option Value) → List (Addr × Obj) → Prop} {oI : Obj} {s₃ : Shared} (hlt : i < n) (hi : ItOf oI l (i + 1)) (h : IE s h₀ L I oI (J (i + 1)) s₃) : ∃ m, m < n - i ∧ TInv s h₀ L I l n J m s₃ := by
  obtain ⟨h4, tk4, m4, led4, F4, N4, off4, hJ4⟩ := h
  exact ⟨n - (i + 1), Nat.sub_lt_sub_left hlt (Nat.lt_succ_self i), .mk (i + 1) h4 tk4 m4 led4 oI rfl hlt hi F4 N4 off4 hJ4⟩
/-- a for over a list's iterator that stands in the ledger -/
theorem for_iter {target : Expr} {body : List Stmt} {env : Env} {Q : Flow → Shared → Prop} {vs : List Value} {e j₀ : Nat} {led : List (Addr × Obj)} (J : Nat → (Str → Option Value) → List (Addr × Obj) → Prop)
    (hh : A.handled = none) (F : Fr h₀ L s.heap m) (N : News h₀ L s.heap ((I, oI) :: led)) (off : ∀ p ∈ led, Dif p.1 I) (hi : ItOf oI l j₀) (hle : j₀ ≤ vs.length) (hJ : J j₀ m led)
    (hmem : ∀ i m led, J i m led → (l, W.listOf vs.toArray e) ∈ led)
    (ht : ∀ it v, letOwnedTupleGo target it v = pure ())
    (turn : ∀ (i : Nat) v m led h tk oI (E' : Value → Shared → Prop), i < vs.length → vs[i]? = some v → J i m led → Fr h₀ L h m → News h₀ L h ((I, oI) :: led) → (∀ p ∈ led, Dif p.1 I) →
      wpAny (model prog w) A (assign target env v) (fun _ s₂ => wpAny (model prog w) A (execs body env) (fun f s₃ => match f with
          | .next | .cont => IE s h₀ L I oI (J (i + 1)) s₃
          | .brk => Q .next s₃
          | .ret v => Q (.ret v) s₃) E' s₂) E' { s with heap := h, toks := tk })
    (done : ∀ m led h tk, J vs.length m led → Fr h₀ L h m → News h₀ L h led → Q .next { s with heap := h, toks := tk }) :
    wpAny (model prog w) A (pyIter (.ref I)) (fun it s₂ => codeAny (model prog w) A (.forLoop target it body [] env) (fun r s' => match r with | .ok f => Q f s' | .error e => cameBackBy (model prog w) A env E e s') s₂) E s := by
  refine wpAny_pyIter_listiter (hi.at (N _ (.head _)).1) ?_
  have hI := N _ (.head _)
  have isl : ∀ {h i m led}, J i m led → News h₀ L h led → h.IsList l vs.toArray := fun hJ N => News.isList N (hmem _ _ _ hJ)
  refine codeAny_forLoop (I := TInv s h₀ L I l vs.length J) ?_ (vs.length - j₀) ?_ (ht _)
  · intro k s' hJ0
    obtain ⟨i, h, tk, m₁, led₁, oI₁, rfl, hle, hst, F₁, N₁, off₁, hJ₁⟩ := hJ0
    have N₀ : News h₀ L h led₁ := fun p hp => N₁ p (.tail _ hp)
    by_cases hlt : i < vs.length
    · have hx : vs.toArray[i]? = some vs[i] := by simp [hlt]
      refine wpAny_pyNext_list_item (s := { s with heap := h, toks := tk }) (hst.at (N₁ _ (.head _)).1) (isl hJ₁ N₀) hx fun h' hit' hs => ?_
      refine gh fun pG hpG => ?_
      obtain ⟨oI', F', N', hi'⟩ := kli_moved F₁ N₁ off₁ hit' fun b o hb e => hs.extBut b o hb e
      refine hpG ?_
      clear hpG pG
      refine wpAny_mono (turn i _ m₁ led₁ h' tk oI' _ hlt (List.getElem?_eq_getElem hlt) hJ₁ F' N' off₁) (fun _ s₂ h₂ => wpAny_mono h₂ (fun f s₃ h₃ => ?_) fun _ _ e => e) fun _ _ e => e
      have key : IE s h₀ L I oI' (J (i + 1)) s₃ → ∃ m, m < vs.length - i ∧ TInv s h₀ L I l vs.length J m s₃ := tinv_next hlt hi'
      cases f with
      | next => exact key h₃
      | cont => exact key h₃
      | brk => exact h₃
      | ret v => exact h₃
    · obtain rfl : i = vs.length := by omega
      refine wpAny_pyNext_list_end (s := { s with heap := h, toks := tk }) hh (hst.at (N₁ _ (.head _)).1) (isl hJ₁ N₀) (by simp) fun h' he => ?_
      have hk : ∀ b o, b ∉ [I] → h.get? b = some o → h'.get? b = some o := fun b o hb e => he b o (fun c => hb (by simp [c])) e
      exact wpAny_execs_nil (done m₁ led₁ h' tk hJ₁ (LCg.fr_but F₁ hk (Ne.symm hI.2.1) hI.2.2) (LCg.news_but N₀ hk off₁))
  · exact .mk j₀ s.heap s.toks m led oI rfl hle hi F N off hJ
end
end Mine
end
section
open PySem PySem.W PyProof.Rows
set_option Elab.async false
namespace Mine
/-- what a call of the function fv on vx, vy hands back where the ledger is news: a value and the objects it made -/
noncomputable def FunV (w : World) (mean : ExcName → Option Value) (mg mb : Str → Option Value) (fv : Value) (news : List (Addr × Obj)) (vx vy : Value) (R : Value → List (Addr × Obj) → Prop) : Prop :=
  ∀ (dp un : Nat) (gd : Option (List Code)) (cn : Str) (cs : Scope) (a : Addr) (ccd : Value) (cl : List (Str × Addr)) (outer : List Env) (A₀ : Around) (base h₀ : Heap) (L : Addr) (m : Str → Option Value) (s : Shared) (Q E : Value → Shared → Prop),
    Below A₀ base outer h₀ → Fr h₀ L s.heap m → (hd.heap_39 w.params).In h₀ → News h₀ L s.heap news → Top topProg LOO mean mg mb h₀ → cs.kind = .function → dp + 25 < recursionLimit → un + 130 < cLine →
    (∀ (v : Value) (nw : List (Addr × Obj)) (h' : Heap) (tk' : Nat), R v nw → Fr h₀ L h' m → News h₀ L h' (nw ++ news) → (∀ p ∈ nw, ∀ q ∈ news, Dif q.1 p.1) → Q v { s with heap := h', toks := tk' }) →
      wpAny (model PySem.Challenge.rw_mq0210_02.row.prog w) (ktrTop dp un gd cn cs L a ccd cl outer) (call fv [vx, vy]) Q E s
theorem funV_call {w : World} {mean : ExcName → Option Value} {mg mb : Str → Option Value} {fv vx vy : Value} {R : Value → List (Addr × Obj) → Prop} {dp un : Nat} {gd : Option (List Code)} {cn : Str} {cs : Scope} {a : Addr} {ccd : Value} {cl : List (Str × Addr)} {outer : List Env} {A₀ : Around} {base h₀ : Heap} {L : Addr} {m : Str → Option Value} {news : List (Addr × Obj)} {s : Shared} {Q E : Value → Shared → Prop}
    (hB : Below A₀ base outer h₀) (F : Fr h₀ L s.heap m) (X : (hd.heap_39 w.params).In h₀) (N : News h₀ L s.heap news) (T : Top topProg LOO mean mg mb h₀) (hk : cs.kind = .function) (hd : dp + 25 < recursionLimit) (hu : un + 130 < cLine)
    (C : FunV w mean mg mb fv news vx vy R)
    (hret : ∀ (v : Value) (nw : List (Addr × Obj)) (h' : Heap) (tk' : Nat), R v nw → Fr h₀ L h' m → News h₀ L h' (nw ++ news) → (∀ p ∈ nw, ∀ q ∈ news, Dif q.1 p.1) → Q v { s with heap := h', toks := tk' }) :
      wpAny (model PySem.Challenge.rw_mq0210_02.row.prog w) (ktrTop dp un gd cn cs L a ccd cl outer) (call fv [vx, vy]) Q E s :=
  C dp un gd cn cs a ccd cl outer A₀ base h₀ L m s Q E hB F X N T hk hd hu hret
/-- how the machine keeps the function fv -/
noncomputable def KeepV (w : World) (fv : Value) : Prop := ∀ (M : Model) (h : Heap), (hd.heap_39 w.params).In h → ∃ k, (k = Keeper.frame ∨ k = Keeper.machine ∨ k = Keeper.boundFrame) ∧ Looks M h (keeperOf fv) k
/-- a meeting of paths ahead of the n-th statement -/
theorem cut_any {prog : Program} {w : World} {A : Around} {E : Value → Shared → Prop} {Q : Flow → Shared → Prop} {s : Shared} {env : Env} {l : List Stmt} (n : Nat) (G : Shared → Prop)
    (h1 : wpAny (model prog w) A (execs (l.take n) env) (fun f s' => f = .next ∧ G s') E s) (h2 : ∀ s', G s' → wpAny (model prog w) A (execs (l.drop n) env) Q E s') : wpAny (model prog w) A (execs l env) Q E s := by
  rw [execs_cut env n l]
  refine wpAny_bind (wpAny_mono h1 (fun f s' p => ?_) fun _ _ e => e)
  obtain ⟨rfl, hG⟩ := p
  exact h2 s' hG
/-- the value is not the mark of a missing one -/
noncomputable def NotMiss (w : World) (led : List (Addr × Obj)) (v : Value) : Prop := ∀ (A : Around) (E : Value → Shared → Prop) (s : Shared) (Q : Value → Shared → Prop) (h₀ : Heap) (L : Addr) (m : Str → Option Value),
  (hd.heap_39 w.params).In h₀ → Fr h₀ L s.heap m → News h₀ L s.heap led → Q (.bool false) s → wpAny (model PySem.Challenge.rw_mq0210_02.row.prog w) A (compareOp .Is v (.ref 22)) Q E s
theorem kept36 : ∃ o, ∀ w : World, (hd.heap_39 w.params).lookup 22 = some o := ⟨_, fun _ => rfl⟩
theorem notMiss_ref (w : World) {led : List (Addr × Obj)} {S : Addr} {o : Obj} (hm : (S, o) ∈ led) (hc : o.cls ≠ .type "tuple") : NotMiss w led (.ref S) := fun _ _ _ _ _ _ _ X F N h => by
  obtain ⟨ob, hb⟩ := kept36
  exact wpAny_is_ref_other (kto_neNK N hm X (hb w)) (N _ hm).1 (F.keep _ _ (X _ _ (hb w))) hc h
/-- reduce's frame -/
noncomputable def rM (v I iv l fv : Value) : Str → Option Value := kstB (fun _ => none) [(Str.ofString "value", v), (Str.ofString "it", I), (Str.ofString "initial", iv), (Str.ofString "sequence", l), (Str.ofString "function", fv)]
noncomputable def rE (u : Option Value) (v I iv l fv : Value) : Str → Option Value := fun y => if y = Str.ofString "element" then u else rM v I iv l fv y
theorem red_map (v₀ I iv l fv : Value) : (fun y => if y = Str.ofString "value" then some v₀ else if y = Str.ofString "it" then some I else kstB (fun _ => none) [(Str.ofString "initial", iv), (Str.ofString "sequence", l), (Str.ofString "function", fv)] y) =
    rM v₀ I iv l fv := rfl
section
variable {M : Model} {A : Around} {E : Value → Shared → Prop} {s : Shared} {env : Env} {pos : Pos} {Q : Value → Shared → Prop}
theorem callWith_V {w : World} {fv : Value} {e : Expr} {rest : List Expr} (hk : KeepV w fv) (h : wpAny M A (spliced (backTo pos (starEach (e :: rest) env))) (fun vs s₁ => (hd.heap_39 w.params).In s₁.heap ∧ wpAny M A (call fv vs) Q E s₁) E s)
    (he : starEach (e :: rest) env = (false, eval e env) :: starEach rest env := by rfl) (hplain : (backTo pos (starEach rest env)).any (·.1) = false := by rfl) :
    wpAny M A (callWith pos fv [] (backTo pos (starEach (e :: rest) env)) []) Q E s := by
  rw [he] at h ⊢
  exact PySem.W.callWith_of (by show ((false || (backTo pos (starEach rest env)).any (·.1)) || false) = false; rw [hplain]; rfl) (hk M) (PySem.Calls.evalArgs_plain h)
end
/-- a for over a list's iterator, its turn's end hidden -/
theorem for_iterQ {prog : Program} {w : World} {A : Around} {E : Value → Shared → Prop} {s : Shared} {h₀ : Heap} {L l I : Addr} {m : Str → Option Value} {oI : Obj} {target : Expr} {body : List Stmt} {env : Env} {Q : Flow → Shared → Prop} {vs : List Value} {e j₀ : Nat} {led : List (Addr × Obj)} (J : Nat → (Str → Option Value) → List (Addr × Obj) → Prop)
    (hh : A.handled = none) (F : Fr h₀ L s.heap m) (N : News h₀ L s.heap ((I, oI) :: led)) (off : ∀ p ∈ led, Dif p.1 I) (hi : ItOf oI l j₀) (hle : j₀ ≤ vs.length) (hJ : J j₀ m led)
    (hmem : ∀ i m led, J i m led → (l, W.listOf vs.toArray e) ∈ led)
    (ht : ∀ it v, letOwnedTupleGo target it v = pure ())
    (turn : ∀ (i : Nat) v m led h tk oI (E' : Value → Shared → Prop) (QT : Flow → Shared → Prop), i < vs.length → vs[i]? = some v → J i m led → Fr h₀ L h m → News h₀ L h ((I, oI) :: led) → (∀ p ∈ led, Dif p.1 I) →
      (∀ h' tk' m' led', Fr h₀ L h' m' → News h₀ L h' ((I, oI) :: led') → (∀ p ∈ led', Dif p.1 I) → J (i + 1) m' led' → QT .next { s with heap := h', toks := tk' }) →
      wpAny (model prog w) A (assign target env v) (fun _ s₂ => wpAny (model prog w) A (execs body env) QT E' s₂) E' { s with heap := h, toks := tk })
    (done : ∀ m led h tk, J vs.length m led → Fr h₀ L h m → News h₀ L h led → Q .next { s with heap := h, toks := tk }) :
    wpAny (model prog w) A (pyIter (.ref I)) (fun it s₂ => codeAny (model prog w) A (.forLoop target it body [] env) (fun r s' => match r with | .ok f => Q f s' | .error e => cameBackBy (model prog w) A env E e s') s₂) E s := by
  refine for_iter J hh F N off hi hle hJ hmem ht (fun i v m led h tk oI E' hi hx hj F' N' off => ?_) done
  exact turn i v m led h tk oI E' _ hi hx hj F' N' off fun h' tk' m' led' F2 N2 o2 j2 => ⟨h', tk', m', led', F2, N2, o2, j2⟩
theorem red_map2 (x v v₂ I iv l fv : Value) (uu : Option Value) : (fun y => if y = Str.ofString "value" then some v₂ else if y = Str.ofString "element" then some x else rE uu v I iv l fv y) = rE (some x) v₂ I iv l fv := by
  funext y
  unfold rE rM
  by_cases hy : y = Str.ofString "value"
  · subst hy; rfl
  · unfold kstB
    simp only [if_neg hy]
    by_cases h2 : y = Str.ofString "element"
    · rw [if_pos h2, if_pos h2]
    · rw [if_neg h2, if_neg h2, if_neg h2]
/-- reduce ahead of its loop -/
inductive RS0 (s : Shared) (led : List (Addr × Obj)) (g' : Heap) (L' l : Addr) (j₀ : Nat) (v₀ iv fv : Value) : Shared → Prop
  | mk (h2 : Heap) (tk2 : Nat) (I : Addr) (oI : Obj) (F : Fr g' L' h2 (rM v₀ (.ref I) iv (.ref l) fv)) (N : News g' L' h2 ((I, oI) :: led)) (off : ∀ p ∈ led, Dif p.1 I) (hi : ItOf oI l j₀) : RS0 s led g' L' l j₀ v₀ iv fv { s with heap := h2, toks := tk2 }
/-- between reduce's turns -/
inductive RJ0 (J : Nat → Value → List (Addr × Obj) → Prop) (led : List (Addr × Obj)) (I iv l fv : Value) (i : Nat) : (Str → Option Value) → List (Addr × Obj) → Prop
  | mk (v : Value) (nw : List (Addr × Obj)) (u : Option Value) (hnw : ∀ p ∈ nw, ∀ q ∈ led, Dif q.1 p.1) (hJ : J i v nw) : RJ0 J led I iv l fv i (rE u v I iv l fv) (nw ++ led)
local macro_rules | `(tactic| walk_at "call builtin:iter") => blkM
local macro_rules | `(tactic| walk_at "compareOp Is") => blkM
local macro_rules | `(tactic| walk_at "call") => blkM
local macro_rules | `(tactic| walk_at "call builtin:next") => blkM
local macro_rules | `(tactic| walk_at "pyIter ref") => blkM
set_option maxRecDepth 100000 in
set_option maxHeartbeats 8000000 in
theorem red_claim (w : World) (mean : ExcName → Option Value) (mg mb : Str → Option Value) {l e : Nat} {fv : Value} {ini : Option Value} {vs : List Value} {led : List (Addr × Obj)} (J : Nat → Value → List (Addr × Obj) → Prop)
   (dp un : Nat) (gd : Option (List Code)) (cn : Str) (cs : Scope) (a : Addr) (ccd : Value) (clo : List (Str × Addr)) (outer : List Env) (A₀ : Around) (base h₀ : Heap) (L : Addr) (mm : Str → Option Value) (s : Shared) (Q E : Value → Shared → Prop)
   (hB : Below A₀ base outer h₀) (F : Fr h₀ L s.heap mm) (X : (hd.heap_39 w.params).In h₀) (N : News h₀ L s.heap led) (T : Top topProg LOO mean mg mb h₀) (hk : cs.kind = .function) (hdp : dp + 30 < recursionLimit) (hun : un + 150 < cLine)
   (hst : ∃ j₀ v₀, J j₀ v₀ [] ∧ j₀ ≤ vs.length ∧ ((ini = some v₀ ∧ j₀ = 0 ∧ NotMiss w led v₀) ∨ (ini = none ∧ j₀ = 1 ∧ vs[0]? = some v₀))) (hfv : KeepV w fv) (hl : (l, W.listOf vs.toArray e) ∈ led)
   (turn : ∀ i v x nw all, vs[i]? = some x → J i v nw → (∀ p ∈ nw ++ led, p ∈ all) → FunV w mean mg mb fv all v x fun v' nw' => J (i + 1) v' (nw' ++ nw))
   (hret : ∀ (v : Value) (nw : List (Addr × Obj)) (h' : Heap) (tk' : Nat), J vs.length v nw → Fr h₀ L h' mm → News h₀ L h' (nw ++ led) → (∀ p ∈ nw, ∀ q ∈ led, Dif q.1 p.1) → Q v { s with heap := h', toks := tk' }) :
   wpAny (model PySem.Challenge.rw_mq0210_02.row.prog w) (ktrTop dp un gd cn cs L a ccd clo outer) (call (.ref 30) (fv :: .ref l :: ini.toList)) Q E s := by
   have hx : PySem.Challenge.rw_mq0210_02 = PySem.Challenge.rw_mq0210_02 := rfl
   have hy : hd.heap_39 = hd.heap_39 := rfl
   revert hx hy
   k_fill
   intro hx hy
   clear hx hy
   w_on
   refine wpAny_call ?_
   k_dflt (refine' code_def (binds := [(Str.ofString "function", fv), (Str.ofString "sequence", .ref l), (Str.ofString "initial", ini.getD (.ref 22))]) ?k1 ?k2 ?k3 ?k4 ?k5 ?kA ?kF ?kK ?k6 ?k7 ?k8 ?k9 ?kB ?_ ?c2 ?c3 ?c4 ?c5; (case kA => exact rfl); (case kF => exact rfl); (case kK => assumption); (case k1 => k_asm); (case k2 => k_asm); (case k3 => k_asm); (case k4 => k_asm); (case k5 => k_asm); (case k6 => k_is); (case k7 => k_is); (case k8 => ktr_room); (case k9 => cases ini <;> exact binds_K (by k_in) rfl (by k_is) rfl rfl rfl); (case c5 => decide); (case kB => exact locs rfl); (case c2 => exact rfl); (case c3 => exact rfl); (case c4 => exact rfl); k_whole; intro g' L' h' FG' F' N' B' X' T'; (try dsimp only); (try k_lift B'); (try k_fold))
   refine gh fun pG hpG => ?_
   obtain ⟨j₀, v₀, hJ0, hj0, hini⟩ := hst
   refine hpG ?_
   clear hpG pG
   rename Fr g' L' h' _ => F0
   rename News g' L' h' _ => N1
   have F1 := fr_start F0 (l' := [(Str.ofString "initial", ini.getD (.ref 22)), (Str.ofString "sequence", .ref l), (Str.ofString "function", fv)]) rfl
   clear F0
   generalize hiv : ini.getD (.ref 22) = iv at F1
   refine cut_any 2 (RS0 s led g' L' l j₀ v₀ iv fv) ?p1 ?p2
   case p1 =>
     dsimp only [List.take]
     refine wp_hide fun Q8 hQ8 => ?_
     k_steps
     refine Blk.out ?_
     refine kli_iter F1 N1 (News.isList N1 hl) fun I h2 oI F2 N2 off2 hi2 hLI => ?_
     clear F1 N1
     dsimp only at F2 N2 ⊢
     k_steps
     refine Blk.out ?_
     rename Fr g' L' _ _ => F3
     rename News g' L' _ _ => N3
     rcases hini with ⟨rfl, rfl, hv0⟩ | ⟨rfl, rfl, hv0⟩
     · obtain rfl : v₀ = iv := hiv
       refine hv0 _ _ _ _ _ _ _ (by k_asm) F3 (news_sub _ N3 fun p hp => .tail _ hp) ?_
       k_steps
       rename Fr g' L' _ _ => F4
       rename News g' L' _ _ => N4
       exact hQ8 _ _ ⟨rfl, .mk _ _ I oI (fr_to F4 (red_map _ _ _ _ _)) N4 off2 hi2⟩
     · obtain rfl : Value.ref 22 = iv := hiv
       k_steps
       refine Blk.out ?_
       rename Fr g' L' _ _ => F3
       rename News g' L' _ _ => N3
       refine kli_next F3 N3 off2 hi2 (News.isList N3 (.tail _ hl)) (by rw [List.getElem?_toArray]; exact hv0) fun h3 oI3 F5 N5 hi3 => ?_
       dsimp only at F5 N5 ⊢
       k_steps
       rename Fr g' L' _ _ => F4
       rename News g' L' _ _ => N4
       exact hQ8 _ _ ⟨rfl, .mk _ _ I oI3 (fr_to F4 (red_map _ _ _ _ _)) N4 off2 hi3⟩
   case p2 =>
     rintro s' ⟨h2, tk2, I, oI, F2, N2, off2, hi2⟩
     clear F1 N1
     dsimp only [List.drop]
     refine wpAny_execs_cons ?_
     refine wpAny_For ?_
     k_steps
     refine Blk.out ?_
     rename Fr g' L' _ _ => F4
     rename News g' L' _ _ => N4
     have F5 := fr_to F4 (m' := rE none v₀ (.ref I) iv (.ref l) fv) (funext fun y => by
       unfold rE
       by_cases hy : y = Str.ofString "element"
       · subst hy; rfl
       · rw [if_neg hy])
     clear F4 hini hiv
     refine for_iterQ (vs := vs) (e := e) (j₀ := j₀) (led := led) (RJ0 J led (.ref I) iv (.ref l) fv)
       rfl F5 N4 off2 hi2 hj0 (.mk v₀ [] none (fun _ h => absurd h List.not_mem_nil) hJ0) ?hmem ?ht ?turn ?done
     case hmem => rintro i m led' ⟨v, nw, u, _, _⟩; exact List.mem_append_right _ hl
     case ht => intro _ _; rfl
     case turn =>
       rintro i x m led' h tk oI E' QT hi hxi ⟨v, nw, u, hnw, hJ⟩ F6 N6 hoff hQT
       clear F5 N4 hi2 off2
       dsimp only at F6 N6 ⊢
       k_steps
       rename Fr g' L' _ _ => F7
       rename News g' L' _ _ => N7
       refine callWith_V hfv ?_
       k_steps
       with_unfolding_all refine' funV_call (R := fun v' nw' => J (i + 1) v' (nw' ++ nw)) ?k1 F7 ?k3 N7 ?k5 ?kK ?kd ?ku (turn i v x nw _ hxi hJ fun p hp => .tail _ hp) ?_
       case k1 => k_asm
       case k3 => k_asm
       case k5 => k_asm
       case kK => exact rfl
       case kd => first | ktr_room | decide
       case ku => first | ktr_units | decide
       intro v2 nw2 h8 tk8 hJ2 F8 N8 hd8
       clear F7 N7
       dsimp only at F8 N8 ⊢
       k_steps
       rename Fr g' L' _ _ => F9
       rename News g' L' _ _ => N9
       refine hQT _ _ _ _ (fr_to F9 (red_map2 _ _ _ _ _ _ _ _)) (news_sub ((I, oI) :: ((nw2 ++ nw) ++ led)) N9 fun p hp => ?_) (fun p hp => ?_) (.mk v2 (nw2 ++ nw) (some x) (fun p hp q hq => ?_) hJ2)
       · rcases List.mem_cons.mp hp with rfl | hp
         · exact List.mem_append_right _ (.head _)
         · rw [List.append_assoc] at hp
           rcases List.mem_append.mp hp with hp | hp
           · exact List.mem_append_left _ hp
           · exact List.mem_append_right _ (.tail _ hp)
       · rw [List.append_assoc] at hp
         rcases List.mem_append.mp hp with hp | hp
         · exact Ne.symm (hd8 p hp _ (.head _))
         · exact hoff p hp
       · rcases List.mem_append.mp hp with hp | hp
         · exact hd8 p hp q (.tail _ (List.mem_append_right _ hq))
         · exact hnw p hp q hq
     case done =>
       rintro m led' h tk ⟨v, nw, u, hnw, hJ⟩ F6 N6
       clear F5 N4 hi2 off2
       dsimp only at F6 N6 ⊢
       k_steps
       exact hret _ nw _ _ hJ (by assumption) (by assumption) hnw
end Mine
end
section
open PySem PySem.W PyProof.Rows
set_option Elab.async false
namespace Mine
theorem keep_min (w : World) : KeepV w (.builtin "min") := fun _ _ _ => ⟨.machine, .inr (.inl rfl), .now⟩
theorem fun_min (w : World) (mean : ExcName → Option Value) (mg mb : Str → Option Value) (news : List (Addr × Obj)) (a b : Int) (t u : Tok) :
    FunV w mean mg mb (.builtin "min") news (.int a t) (.int b u) (fun v nw => nw = [] ∧ ∃ t, v = .int (if b < a then b else a) t) := by
  intro dp un gd cn cs a' ccd cl outer A₀ base h₀ L m s Q E hB F X N T hk hd hu hret
  exact min_two_N rfl F N fun h' tk F' N' => hret _ [] h' tk ⟨rfl, _, rfl⟩ F' N' (fun _ h => absurd h List.not_mem_nil)
/-- z is the least of the numbers zs -/
noncomputable def LeastOf (zs : List Int) (z : Int) : Prop := z ∈ zs ∧ ∀ x ∈ zs, z ≤ x
theorem LeastOf.snoc {zs : List Int} {z y : Int} (h : LeastOf zs z) : LeastOf (zs ++ [y]) (if y < z then y else z) := by
  by_cases c : y < z
  · rw [if_pos c]
    refine ⟨List.mem_append_right _ (.head _), fun x hx => ?_⟩
    rcases List.mem_append.mp hx with hx | hx
    · exact Int.le_trans (Int.le_of_lt c) (h.2 x hx)
    · rw [List.mem_singleton.mp hx]; exact Int.le_refl _
  · rw [if_neg c]
    refine ⟨List.mem_append_left _ h.1, fun x hx => ?_⟩
    rcases List.mem_append.mp hx with hx | hx
    · exact h.2 x hx
    · rw [List.mem_singleton.mp hx]; exact Int.not_lt.mp c
theorem LeastOf.uniq {zs : List Int} {z y : Int} (h : LeastOf zs z) (hy : LeastOf zs y) : z = y := Int.le_antisymm (h.2 y hy.1) (hy.2 z h.1)
/-- reduce(min, a list of ints) -/
theorem red_min {w : World} {mean : ExcName → Option Value} {mg mb : Str → Option Value} {l e : Nat} {zv : List Value} {zs : List Int} {led : List (Addr × Obj)}
   {dp un : Nat} {gd : Option (List Code)} {cn : Str} {cs : Scope} {a : Addr} {ccd : Value} {clo : List (Str × Addr)} {outer : List Env} {A₀ : Around} {base h₀ : Heap} {L : Addr} {mm : Str → Option Value} {s : Shared} {Q E : Value → Shared → Prop}
   (hB : Below A₀ base outer h₀) (F : Fr h₀ L s.heap mm) (X : (hd.heap_39 w.params).In h₀) (N : News h₀ L s.heap led) (T : Top topProg LOO mean mg mb h₀) (hk : cs.kind = .function) (hdp : dp + 30 < recursionLimit) (hun : un + 150 < cLine)
   (hl : (l, W.listOf zv.toArray e) ∈ led) (hz : IntsAre zv zs) (h0 : 0 < zs.length)
   (hret : ∀ (z : Int) (t : Tok) (h' : Heap) (tk' : Nat), LeastOf zs z → Fr h₀ L h' mm → News h₀ L h' led → Q (.int z t) { s with heap := h', toks := tk' }) :
   wpAny (model PySem.Challenge.rw_mq0210_02.row.prog w) (ktrTop dp un gd cn cs L a ccd clo outer) (call (.ref 30) [.builtin "min", .ref l]) Q E s := by
  have hln := hz.length
  obtain ⟨t0, e0⟩ := int_get hz (k := 0) h0
  have hd0 : zs.take 1 = [zs.getD 0 0] := by
    cases zs with
    | nil => cases h0
    | cons x r => rfl
  refine red_claim (ini := none) w mean mg mb (fun i v nw => nw = [] ∧ ∃ z t, v = .int z t ∧ LeastOf (zs.take i) z) dp un gd cn cs a ccd clo outer A₀ base h₀ L mm s Q E hB F X N T hk hdp hun ⟨1, _, ⟨rfl, _, _, rfl, ?_⟩, by rw [hln]; exact h0, .inr ⟨rfl, rfl, e0⟩⟩ (keep_min w) hl ?_ ?_
  · rw [hd0]; exact ⟨.head _, fun x hx => by rw [List.mem_singleton.mp hx]; exact Int.le_refl _⟩
  · intro i v x nw all hx hJ0
    refine gh fun pG hpG => ?_
    obtain ⟨rfl, z, t, rfl, hz9⟩ := hJ0
    refine hpG ?_
    clear hpG pG
    intro _
    obtain ⟨ti, rfl⟩ := hz.int_at i x hx
    have hi : i < zs.length := hln ▸ (List.getElem?_eq_some_iff.mp hx).1
    intro dp un gd cn cs a' ccd cl outer A₀ base h₀ L m s Q E hB F X N T hk hd hu hret
    refine fun_min w mean mg mb all z _ t ti dp un gd cn cs a' ccd cl outer A₀ base h₀ L m s Q E hB F X N T hk hd hu ?_
    intro v nw h' tk' hJ0
    refine gh fun pG hpG => ?_
    obtain ⟨rfl, t', rfl⟩ := hJ0
    refine hpG ?_
    clear hpG pG
    intro F' N' hd'
    refine hret _ _ h' tk' ⟨rfl, _, t', rfl, ?_⟩ F' N' hd'
    rw [List.take_succ_eq_append_getElem hi]
    have := hz9.snoc (y := zs.getD i 0)
    rwa [List.getD, List.getElem?_eq_getElem hi] at this ⊢
  · intro v nw h' tk' hJ0
    refine gh fun pG hpG => ?_
    obtain ⟨rfl, z, t, rfl, hz9⟩ := hJ0
    refine hpG ?_
    clear hpG pG
    intro F' N' _
    rw [hln, List.take_length] at hz9
    exact hret z t h' tk' hz9 F' N'
theorem sq_min {d : Nat → Nat → Int} (hm : Met d) {i k : Nat} (hi : i < 4) (hk : k < 4) {z : Int} (h : LeastOf ((List.range 4).map fun q => d i q + d q k) z) : z = d i k := by
  refine h.uniq ⟨List.mem_map.mpr ⟨i, List.mem_range.mpr hi, by rw [(hm i i hi hi).1, Int.zero_add]⟩, fun x hx => ?_⟩
  refine gh fun pG hpG => ?_
  obtain ⟨q, hq, rfl⟩ := List.mem_map.mp hx
  refine hpG ?_
  clear hpG pG
  exact (hm i k hi hk).2.2.2 q (List.mem_range.mp hq)
end Mine
end
section
open PySem PySem.W PyProof.Rows PySem.Calls
set_option Elab.async false
namespace Mine
theorem news_set {h₀ h h' : Heap} {L a : Addr} {o o' : Obj} {pre post : List (Addr × Obj)} (N : News h₀ L h (pre ++ (a, o) :: post)) (hk : ∀ b o, b ≠ a → h.get? b = some o → h'.get? b = some o) (e : h'.get? a = some o') (ne : ∀ p ∈ pre ++ post, p.1 ≠ a) : News h₀ L h' (pre ++ (a, o') :: post) := by
  have up : ∀ p ∈ pre ++ post, p ∈ pre ++ (a, o) :: post → h'.get? p.1 = some p.2 ∧ p.1 ≠ L ∧ h₀.get? p.1 = none := fun p hp hq => ⟨hk _ _ (ne p hp) (N p hq).1, (N p hq).2⟩
  intro p hp
  rcases List.mem_append.mp hp with hp | hp
  · exact up p (List.mem_append_left _ hp) (List.mem_append_left _ hp)
  rcases List.mem_cons.mp hp with rfl | hp
  · exact ⟨e, (N (a, o) (List.mem_append_right _ (.head _))).2⟩
  · exact up p (List.mem_append_right _ hp) (List.mem_append_right _ (.tail _ hp))
theorem ne4 {a x y z : Nat} {r : List (Addr × Obj)} {oy oz ox : Obj} (h1 : x ≠ a) (h2 : y ≠ a) (h3 : z ≠ a) (h : ∀ p ∈ r, @Ne Nat p.1 a) : ∀ p ∈ (x, ox) :: (y, oy) :: (z, oz) :: r, @Ne Nat p.1 a := by
  refine fac (h1) ?_
  refine fac (h2) ?_
  refine fac (h3) ?_
  intro p hp
  exact h p hp
/-- o is the iterator over the numbers below n, i numbers on -/
noncomputable def RI (o : Obj) (i n : Nat) : Prop := ∀ (h : Heap) (I : Addr), h.get? I = some o → IsRangeIter h I (0 + (i : Nat) * 1) ((n : Int) - (i : Nat)) 1
/-- a ledger off the four own objects -/
noncomputable def Off4 (I I2 C D : Addr) (nw : List (Addr × Obj)) : Prop := ∀ p ∈ nw, (@Ne Nat p.1 I) ∧ (@Ne Nat p.1 I2) ∧ (@Ne Nat p.1 C) ∧ (@Ne Nat p.1 D)
section
variable {prog : Program} {w : World} {A : Around} {s : Shared} {h₀ : Heap} {L : Addr} {m : Str → Option Value} {env : Env} {R : Result → Shared → Prop}
variable {elt it0 it1 : Expr} {x y : Str} {px py : Pos} {scope : Scope} {pos : Pos} {acc : Value} {cenv : Env}
noncomputable abbrev two (elt it0 it1 : Expr) (x y : Str) (px py : Pos) (scope : Scope) (pos : Pos) : Expr := .ListComp elt [⟨.Name x px, it0, [], 0⟩, ⟨.Name y py, it1, [], 0⟩] scope pos
theorem wpAny_letOwnedTupleGo_Name {E : Value → Shared → Prop} {Q : Unit → Shared → Prop} {z : Str} {pz : Pos} {it v : Value} (h : Q () s) : wpAny (model prog w) A (letOwnedTupleGo (.Name z pz) it v) Q E s := wpAny_of_eq (a := ()) rfl h
theorem turn_in (it : Value) : compTurn (two elt it0 it1 x y px py scope pos) 1 it acc cenv = (standAt it1.pos >>= fun _ => pyNext it >>= fun r => match r with
      | none => pure (.done .next)
      | some v => letOwnedTupleGo (.Name y py) it v >>= fun _ => assign (.Name y py) cenv v >>= fun _ =>
        (eval elt cenv >>= fun z => call (.builtin "list.append") [acc, z] >>= fun _ => pure ()) >>= fun _ => again (.compLoop (two elt it0 it1 x y px py scope pos) 1 it acc cenv)) := by rfl
theorem turn_out (it : Value) : compTurn (two elt it0 it1 x y px py scope pos) 0 it acc cenv = (standAt it0.pos >>= fun _ => pyNext it >>= fun r => match r with
      | none => pure (.done .next)
      | some v => letOwnedTupleGo (.Name x px) it v >>= fun _ => assign (.Name x px) cenv v >>= fun _ => eval it1 cenv >>= fun z => standAt it1.pos >>= fun _ => foldedSetIterable it1 cenv z >>= fun z =>
        holding [z] (pyIter z) >>= fun z => runOwn (.compStart (two elt it0 it1 x y px py scope pos) 1 z acc cenv) cenv >>= fun _ => again (.compLoop (two elt it0 it1 x y px py scope pos) 0 it acc cenv)) := by rfl
theorem loop_in {it : Value} (I : Nat → Shared → Prop)
    (turn : ∀ n s, I n s → wpAny (model prog w) A (pyNext it) (fun r s₁ => match r with
      | none => R (.ok .next) s₁
      | some v => wpAny (model prog w) A (assign (.Name y py) cenv v) (fun _ s₂ => wpAny (model prog w) A (eval elt cenv) (fun z s₃ =>
          wpAny (model prog w) A (call (.builtin "list.append") [acc, z]) (fun _ s₄ => ∃ m, m < n ∧ I m s₄) (notedBy (model prog w) A cenv fun e s' => R (.error e) s') s₃)
          (notedBy (model prog w) A cenv fun e s' => R (.error e) s') s₂) (notedBy (model prog w) A cenv fun e s' => R (.error e) s') s₁) (notedBy (model prog w) A cenv fun e s' => R (.error e) s') s)
    (n : Nat) (h : I n s) : codeAny (model prog w) A (.compLoop (two elt it0 it1 x y px py scope pos) 1 it acc cenv) R s := by
  refine codeAny_loop rfl I (fun n s hI => ?_) n h
  show wpAny _ A ((compTurn (two elt it0 it1 x y px py scope pos) 1 it acc cenv).onRaise (fun x => do noteFrame x cenv; theTreesLotGoes x)) _ _ s
  refine wpAny_noted ?_
  rw [turn_in]
  refine wpAny_bind (wpAny_standAt (wpAny_bind (wpAny_mono (turn n s hI) (fun r s₁ h₁ => ?_) fun _ _ h' => h')))
  cases r with
  | none => exact wpAny_pure h₁
  | some v =>
    refine wpAny_bind (wpAny_letOwnedTupleGo_Name ?_)
    exact wpAny_bind (wpAny_mono h₁ (fun _ s₂ h₂ => wpAny_bind (wpAny_bind (wpAny_mono h₂ (fun z s₃ h₃ => wpAny_bind (wpAny_mono h₃
      (fun _ s₄ h₄ => wpAny_pure (wpAny_pure ⟨rfl, h₄⟩)) fun _ _ h' => h')) fun _ _ h' => h'))) fun _ _ h' => h')
theorem loop_out {it : Value} (I : Nat → Shared → Prop) (hs : ∀ z, foldedSetIterable it1 cenv z = pure z)
    (turn : ∀ n s, I n s → wpAny (model prog w) A (pyNext it) (fun r s₁ => match r with
      | none => R (.ok .next) s₁
      | some v => wpAny (model prog w) A (assign (.Name x px) cenv v) (fun _ s₂ => wpAny (model prog w) A (eval it1 cenv) (fun z s₃ =>
          wpAny (model prog w) A (pyIter z) (fun z s₄ => codeAny (model prog w) A (.compStart (two elt it0 it1 x y px py scope pos) 1 z acc cenv) (fun r s₅ => match r with
            | .ok _ => ∃ m, m < n ∧ I m s₅
            | .error e => cameBackBy (model prog w) A cenv (notedBy (model prog w) A cenv fun e s' => R (.error e) s') e s₅) s₄) (notedBy (model prog w) A cenv fun e s' => R (.error e) s') s₃)
          (notedBy (model prog w) A cenv fun e s' => R (.error e) s') s₂) (notedBy (model prog w) A cenv fun e s' => R (.error e) s') s₁) (notedBy (model prog w) A cenv fun e s' => R (.error e) s') s)
    (n : Nat) (h : I n s) : codeAny (model prog w) A (.compLoop (two elt it0 it1 x y px py scope pos) 0 it acc cenv) R s := by
  refine codeAny_loop rfl I (fun n s hI => ?_) n h
  show wpAny _ A ((compTurn (two elt it0 it1 x y px py scope pos) 0 it acc cenv).onRaise (fun x => do noteFrame x cenv; theTreesLotGoes x)) _ _ s
  refine wpAny_noted ?_
  rw [turn_out]
  refine wpAny_bind (wpAny_standAt (wpAny_bind (wpAny_mono (turn n s hI) (fun r s₁ h₁ => ?_) fun _ _ h' => h')))
  cases r with
  | none => exact wpAny_pure h₁
  | some v =>
    refine wpAny_bind (wpAny_letOwnedTupleGo_Name ?_)
    refine wpAny_bind (wpAny_mono h₁ (fun _ s₂ h₂ => wpAny_bind (wpAny_mono h₂ (fun z s₃ h₃ => wpAny_bind (wpAny_standAt (wpAny_bind (wpAny_of_eq (hs z) ?_)))) fun _ _ h' => h')) fun _ _ h' => h')
    refine wpAny_bind (wpAny_holding (wpAny_mono h₃ (fun z s₄ h₄ => wpAny_bind (wpAny_mono (wpAny_runOwn (Q := fun _ s₅ => ∃ m, m < n ∧ I m s₅) (codeAny_mono h₄ fun r s₅ h₅ => ?_)) (fun _ s₅ h₅ => wpAny_pure ⟨rfl, h₅⟩) fun _ _ h' => h')) fun _ _ h' => h'))
    cases r <;> exact h₅
theorem start_in {it : Value}
    (h0 : codeAny (model prog w) A (.compLoop (two elt it0 it1 x y px py scope pos) 1 it acc cenv) R s)
    (h : wpAny (model prog w) A (pyIter it) (fun it' s' => codeAny (model prog w) A (.compLoop (two elt it0 it1 x y px py scope pos) 1 it' acc cenv) R s') (notedBy (model prog w) A cenv fun e s' => R (.error e) s') s) :
    codeAny (model prog w) A (.compStart (two elt it0 it1 x y px py scope pos) 1 it acc cenv) R s := by
  refine codeAny_of_tree ?_
  show wpAny _ _ ((compStart (two elt it0 it1 x y px py scope pos) 1 it acc cenv).onRaise (fun x => do noteFrame x cenv; standAt theWindowsPlace)) _ _ s
  refine wpAny_notedAt ?_
  unfold compStart
  show wpAny _ _ (ask >>= _) _ _ s
  refine wpAny_bind (wpAny_askSetting (wpAny_ite ?_))
  split
  · first
      | exact wpAny_bind (wpAny_pure (wpAny_pure (And.intro rfl h0)))
      | exact wpAny_pure (And.intro rfl h0)
  · refine wpAny_bind (wpAny_rule ?_)
    show wpAny _ _ (standAt it1.pos >>= _) _ _ s
    exact wpAny_bind (wpAny_standAt (wpAny_bind (wpAny_mono h (fun it' s' h' => wpAny_pure (And.intro rfl h')) fun _ _ x => x)))
end
/-- between the outer turns -/
inductive OInv (h₀ : Heap) (L : Addr) (m : Str → Option Value) (s₁ : Shared) (I C D : Addr) (n : Nat) (J : Nat → Nat → List Value → List (Addr × Obj) → Prop) (k : Nat) : Shared → Prop
  | mk (h' : Heap) (tk i : Nat) (ys : List Value) (oI oC : Obj) (nw : List (Addr × Obj)) (m' : Str → Option Value) (hk : k + i = n + 1) (hi : i ≤ n) (hoI : RI oI i n) (F : Fr h₀ L h' m) (N : News h₀ L h' ((I, oI) :: (C, oC) :: (D, LCg.lst ys) :: nw))
     (hC : LCg.NsObj oC m') (off : LCg.Off3 I C D nw) (hJ : J i 0 ys nw) : OInv h₀ L m s₁ I C D n J k { s₁ with heap := h', toks := tk }
/-- between the inner turns -/
inductive IInv (h₀ : Heap) (L : Addr) (m : Str → Option Value) (s₁ : Shared) (x : Str) (I : Addr) (oI : Obj) (I2 C D : Addr) (i : Nat) (t : Tok) (J : Nat → Nat → List Value → List (Addr × Obj) → Prop) (k : Nat) : Shared → Prop
  | mk (h' : Heap) (tk q : Nat) (ys : List Value) (oI2 oC : Obj) (nw : List (Addr × Obj)) (m' : Str → Option Value) (hk : k + q = i + 1) (hq : q ≤ i) (hoI : RI oI2 q i) (F : Fr h₀ L h' m) (N : News h₀ L h' ((I2, oI2) :: (I, oI) :: (C, oC) :: (D, LCg.lst ys) :: nw))
     (hC : LCg.NsObj oC m') (hx : m' x = some (.int (i : Int) t)) (off : Off4 I I2 C D nw) (hJ : J i q ys nw) : IInv h₀ L m s₁ x I oI I2 C D i t J k { s₁ with heap := h', toks := tk }
/-- what evaluating the inner source hands back -/
inductive InSrc (h₀ : Heap) (L : Addr) (m : Str → Option Value) (s : Shared) (led : List (Addr × Obj)) (i : Nat) : Value → Shared → Prop
  | mk (r : Addr) (t u v : Tok) (h' : Heap) (tk : Nat) (F : Fr h₀ L h' m) (N : News h₀ L h' led) (hr : IsRange h' r 0 (i : Int) 1 t u v) : InSrc h₀ L m s led i (.ref r) { s with heap := h', toks := tk }
/-- the end of an element's evaluation -/
inductive ElEnd (h₀ : Heap) (L : Addr) (m : Str → Option Value) (s : Shared) (I : Addr) (oI : Obj) (I2 : Addr) (oI2 : Obj) (C : Addr) (oC : Obj) (D : Addr) (ys : List Value) (G : Value → List (Addr × Obj) → Prop) (v : Value) : Shared → Prop
  | mk (h' : Heap) (tk : Nat) (nw' : List (Addr × Obj)) (F : Fr h₀ L h' m) (N : News h₀ L h' ((I2, oI2) :: (I, oI) :: (C, oC) :: (D, LCg.lst ys) :: nw')) (off : Off4 I I2 C D nw') (hG : G v nw') : ElEnd h₀ L m s I oI I2 oI2 C oC D ys G v { s with heap := h', toks := tk }
section
variable {prog : Program} {w : World} {A : Around} {s : Shared} {h₀ : Heap} {L : Addr} {m : Str → Option Value} {env : Env}
variable {elt it0 it1 : Expr} {x y : Str} {px py : Pos} {scope : Scope} {pos : Pos} {cl : List (Str × Addr)} {n : Nat} {J : Nat → Nat → List Value → List (Addr × Obj) → Prop}
noncomputable def Src2 (prog : Program) (w : World) (A : Around) (h₀ : Heap) (L : Addr) (m : Str → Option Value) (env : Env) (it1 : Expr) (x : Str) (scope : Scope) (cl : List (Str × Addr)) (s : Shared) (n : Nat) (J : Nat → Nat → List Value → List (Addr × Obj) → Prop) : Prop :=
  ∀ i t I oI C oC D m' ys nw h tk (E' : Value → Shared → Prop), i < n → J i 0 ys nw → LCg.NsObj oC m' → m' x = some (.int (i : Int) t) → Fr h₀ L h m → News h₀ L h ((I, oI) :: (C, oC) :: (D, LCg.lst ys) :: nw) →
    wpAny (model prog w) A (eval it1 (compEnvC scope cl C env)) (InSrc h₀ L m { s with heap := h, toks := tk } ((I, oI) :: (C, oC) :: (D, LCg.lst ys) :: nw) i) E' { s with heap := h, toks := tk }
noncomputable def Elt2 (prog : Program) (w : World) (A : Around) (h₀ : Heap) (L : Addr) (m : Str → Option Value) (env : Env) (elt : Expr) (x y : Str) (scope : Scope) (cl : List (Str × Addr)) (s : Shared) (n : Nat) (J : Nat → Nat → List Value → List (Addr × Obj) → Prop) : Prop :=
  ∀ i q t t2 I oI I2 oI2 C oC D m' ys nw h tk (E' : Value → Shared → Prop), i < n → q < i → J i q ys nw → LCg.NsObj oC m' → m' x = some (.int (i : Int) t) → m' y = some (.int (q : Int) t2) → Fr h₀ L h m → News h₀ L h ((I2, oI2) :: (I, oI) :: (C, oC) :: (D, LCg.lst ys) :: nw) → Off4 I I2 C D nw →
    wpAny (model prog w) A (eval elt (compEnvC scope cl C env)) (ElEnd h₀ L m { s with heap := h, toks := tk } I oI I2 oI2 C oC D ys fun v nw' => J i (q + 1) (ys ++ [v]) nw') E' { s with heap := h, toks := tk }
theorem inner_2 {R : Result → Shared → Prop} {I : Addr} {oI : Obj} {I2 C D : Addr} {i : Nat} {t : Tok} {s₁ : Shared} (hh : A.handled = none) (hkind : scope.kind = .function) (hy : scope.names.lookup y = some .local) (hxy : x ≠ y) (hJl : ∀ i q ys nw, J i q ys nw → ys.length ≤ 64)
    (hi : i < n) (el : Elt2 prog w A h₀ L m env elt x y scope cl s₁ n J)
    (nL : I2 ≠ L) (n0 : h₀.get? I2 = none) (cL : C ≠ L) (c0 : h₀.get? C = none) (dL : D ≠ L) (d0 : h₀.get? D = none) (a1 : I ≠ I2) (a2 : C ≠ I2) (a3 : D ≠ I2) (a4 : I ≠ C) (a5 : I ≠ D) (a6 : C ≠ D)
    (fin : ∀ h' tk ys oC nw m', Fr h₀ L h' m → News h₀ L h' ((I, oI) :: (C, oC) :: (D, LCg.lst ys) :: nw) → LCg.NsObj oC m' → LCg.Off3 I C D nw → J i i ys nw → R (.ok .next) { s₁ with heap := h', toks := tk })
    (k : Nat) {s₃ : Shared} (h : IInv h₀ L m s₁ x I oI I2 C D i t J k s₃) : codeAny (model prog w) A (.compLoop (two elt it0 it1 x y px py scope pos) 1 (.ref I2) (.ref D) (compEnvC scope cl C env)) R s₃ := by
  refine loop_in (IInv h₀ L m s₁ x I oI I2 C D i t J) ?_ k h
  rintro k s' ⟨h', tk, q, ys, oI2, oC, nw, m', hk, hq, hoI, F, N, hC, hx, off, hJ⟩
  have W := LCg.range_walks (prog := prog) (w := w) (I := I2) hh 0 i
  have st := hoI _ _ (N _ (.head _)).1
  have offn : ∀ {a : Addr}, (∀ p ∈ nw, p.1 ≠ I ∧ p.1 ≠ I2 ∧ p.1 ≠ C ∧ p.1 ≠ D → p.1 ≠ a) → ∀ p ∈ nw, @Ne Nat p.1 a := fun h p hp => h p hp (off p hp)
  by_cases hlt : q < i
  · refine W.item q _ _ _ hlt st fun v h₂ tk₂ hv st₂ hk₂ => ?_
    obtain ⟨t2, rfl⟩ := hv
    dsimp -zeta only at hk₂ ⊢
    rw [Int.zero_add]
    have F₂ := LCg.fr_but F hk₂ (Ne.symm nL) n0
    have N₂ : News h₀ L h₂ ([] ++ (I2, _) :: (I, oI) :: (C, oC) :: (D, LCg.lst ys) :: nw) := news_set (pre := []) N (fun b o hb => hk₂ b o (fun hm => hb (List.mem_singleton.mp hm))) st₂ (ne4 a1 a2 a3 fun p hp => (off p hp).2.1)
    refine wpAny_assign_Name (wpAny_storeName_local (lookup_relabel_local hy) (hC.ns (N₂ _ (.tail _ (.tail _ (.head _)))).1) (fun h₃ hn₃ hs₃ => ?_) (by simp [compEnvC, relabel, hkind]))
    refine gh fun pG hpG => ?_
    obtain ⟨oC', eC, hC'⟩ := LCg.ns_obj hn₃
    refine hpG ?_
    clear hpG pG
    dsimp -zeta only at hs₃ ⊢
    have F₃ := F₂.change hs₃ cL c0
    have N₃ : News h₀ L h₃ ([(I2, _), (I, oI)] ++ (C, oC') :: (D, LCg.lst ys) :: nw) := news_set (pre := [(I2, _), (I, oI)]) N₂ (fun b o hb e => hs₃.extBut b o hb e) eC (ne4 (Ne.symm a2) a4 (Ne.symm a6) fun p hp => (off p hp).2.2.1)
    refine wpAny_mono (el i q t t2 I oI I2 _ C oC' D _ ys nw h₃ _ _ hi hlt hJ hC' (by rw [if_neg hxy]; exact hx) (if_pos rfl) F₃ N₃ off) (fun z s₄ h₄ => ?_) fun _ _ e => e
    obtain ⟨h₄, tk₄, nw', F₄, N₄, off₄, hJ₄⟩ := h₄
    dsimp -zeta only
    have hlen := hJl _ _ _ _ hJ
    refine append_at (hsz := by show ys.toArray.size ≤ sizeLine; rw [List.size_toArray, sizeLine_eq]; exact Nat.le_trans hlen (by decide)) (N₄ _ (.tail _ (.tail _ (.tail _ (.head _))))).1 fun h₅ hs₅ hD₅ => ?_
    have N₅ : News h₀ L h₅ ([(I2, _), (I, oI), (C, oC')] ++ (D, LCg.lst (ys ++ [z])) :: nw') := news_set (pre := [(I2, _), (I, oI), (C, oC')]) N₄ (fun b o hb e => hs₅.extBut b o hb e) (hD₅.trans (congrArg some (LCg.lst_snoc ys z))) (ne4 (Ne.symm a3) a5 a6 fun p hp => (off₄ p hp).2.2.2)
    refine ⟨k - 1, kpred hk hlt, IInv.mk h₅ _ (q + 1) (ys ++ [z]) _ oC' nw' _ (kpred2 hk hlt) hlt (fun h I e => ?_) (F₄.change hs₅ dL d0) N₅ hC' (by rw [if_neg hxy]; exact hx) off₄ hJ₄⟩
    exact e
  · obtain rfl : q = i := Nat.le_antisymm hq (Nat.not_lt.mp hlt)
    refine W.done _ _ _ st fun h₂ tk₂ hk₂ => ?_
    exact fin h₂ tk₂ ys oC nw m' (LCg.fr_but F hk₂ (Ne.symm nL) n0) (LCg.news_but (fun p hp => N p (.tail _ hp)) hk₂ (ne4 a1 a2 a3 fun p hp => (off p hp).2.1)) hC (LCg.Off3.of fun p hp => ⟨(off p hp).1, (off p hp).2.2⟩) hJ
theorem outer_2 {R : Result → Shared → Prop} {I C D : Addr} {s₁ : Shared} (hh : A.handled = none) (hkind : scope.kind = .function) (hx : scope.names.lookup x = some .local) (hy : scope.names.lookup y = some .local) (hxy : x ≠ y) (hJl : ∀ i q ys nw, J i q ys nw → ys.length ≤ 64)
    (hJe : ∀ i ys nw, J i i ys nw → J (i + 1) 0 ys nw) (hn : n ≤ 64) (hs : ∀ z, foldedSetIterable it1 (compEnvC scope cl C env) z = pure z)
    (sr : Src2 prog w A h₀ L m env it1 x scope cl s₁ n J) (el : Elt2 prog w A h₀ L m env elt x y scope cl s₁ n J)
    (iL : I ≠ L) (i0 : h₀.get? I = none) (cL : C ≠ L) (c0 : h₀.get? C = none) (dL : D ≠ L) (d0 : h₀.get? D = none) (a4 : I ≠ C) (a5 : I ≠ D) (a6 : C ≠ D)
    (fin : ∀ h' tk ys oC nw m', Fr h₀ L h' m → News h₀ L h' ((C, oC) :: (D, LCg.lst ys) :: nw) → LCg.NsObj oC m' → LCg.Off3 I C D nw → J n 0 ys nw → R (.ok .next) { s₁ with heap := h', toks := tk })
    (k : Nat) {s₃ : Shared} (h : OInv h₀ L m s₁ I C D n J k s₃) : codeAny (model prog w) A (.compLoop (two elt it0 it1 x y px py scope pos) 0 (.ref I) (.ref D) (compEnvC scope cl C env)) R s₃ := by
  refine loop_out (OInv h₀ L m s₁ I C D n J) hs ?_ k h
  rintro k s' ⟨h', tk, i, ys, oI, oC, nw, m', hk, hi, hoI, F, N, hC, off, hJ⟩
  have W := LCg.range_walks (prog := prog) (w := w) (I := I) hh 0 n
  have st := hoI _ _ (N _ (.head _)).1
  by_cases hlt : i < n
  · refine W.item i _ _ _ hlt st fun v h₂ tk₂ hv st₂ hk₂ => ?_
    obtain ⟨t, rfl⟩ := hv
    dsimp -zeta only at hk₂ ⊢
    rw [Int.zero_add]
    have F₂ := LCg.fr_but F hk₂ (Ne.symm iL) i0
    have N₂ : News h₀ L h₂ ([] ++ (I, _) :: (C, oC) :: (D, LCg.lst ys) :: nw) := news_set (pre := []) N (fun b o hb => hk₂ b o (fun hm => hb (List.mem_singleton.mp hm))) st₂ (by
      refine fac (Ne.symm a4) ?_
      refine fac (Ne.symm a5) ?_
      intro p hp
      exact (off.mem p hp).1)
    refine wpAny_assign_Name (wpAny_storeName_local (lookup_relabel_local hx) (hC.ns (N₂ _ (.tail _ (.head _))).1) (fun h₃ hn₃ hs₃ => ?_) (by simp [compEnvC, relabel, hkind]))
    refine gh fun pG hpG => ?_
    obtain ⟨oC', eC, hC'⟩ := LCg.ns_obj hn₃
    refine hpG ?_
    clear hpG pG
    dsimp -zeta only at hs₃ ⊢
    have F₃ := F₂.change hs₃ cL c0
    have N₃ : News h₀ L h₃ ([(I, _)] ++ (C, oC') :: (D, LCg.lst ys) :: nw) := news_set (pre := [(I, _)]) N₂ (fun b o hb e => hs₃.extBut b o hb e) eC (by
      refine fac (a4) ?_
      refine fac (Ne.symm a6) ?_
      intro p hp
      exact (off.mem p hp).2.1)
    refine wpAny_mono (sr i t I _ C oC' D _ ys nw h₃ _ _ hlt hJ hC' (if_pos rfl) F₃ N₃) (fun z s₄ h₄ => ?_) fun _ _ e => e
    obtain ⟨r, t2, u2, v2, h₄, tk₄, F₄, N₄, hr₄⟩ := h₄
    have hi9 : (0 : Int) ≤ (i : Int) := Int.natCast_nonneg i
    refine wpAny_pyIter_range hr₄ (small_one (by omega) (by omega) (by omega) (by omega)) ?_
    have hz : Builtin.Range.rangeSize 0 (i : Int) 1 = ((i : Nat) : Int) := by rw [rangeSize_nat]; omega
    rw [hz]
    have hoI2 : RI ({ cls := .type "range_iterator", data := .fields #[rawInt 0, rawInt ((i : Nat) : Int), rawInt 1] } : Obj) 0 i := fun h I e => by
      show IsRangeIter _ _ _ _ _
      simpa using e
    have lt4 : ∀ p ∈ [(I, _)] ++ (C, oC') :: (D, LCg.lst ys) :: nw, @LT.lt Nat _ p.1 h₄.objs.size := fun p hp => Heap.lt_size (N₄ p hp).1
    have N₅ := News.push F₄ N₄ ({ cls := .type "range_iterator", data := .fields #[rawInt 0, rawInt ((i : Nat) : Int), rawInt 1] } : Obj)
    have loop : ∀ s₅ : Shared, s₅ = { s₁ with heap := h₄.push { cls := .type "range_iterator", data := .fields #[rawInt 0, rawInt ((i : Nat) : Int), rawInt 1] }, toks := tk₄ } →
        codeAny (model prog w) A (.compLoop (two elt it0 it1 x y px py scope pos) 1 (.ref h₄.objs.size) (.ref D) (compEnvC scope cl C env)) (fun r s₅ => match r with
            | .ok _ => ∃ m', m' < k ∧ OInv h₀ L m s₁ I C D n J m' s₅
            | .error e => cameBackBy (model prog w) A (compEnvC scope cl C env) (notedBy (model prog w) A (compEnvC scope cl C env) fun e s' => R (.error e) s') e s₅) s₅ := by
      rintro s₅ rfl
      refine inner_2 (I := I) (I2 := h₄.objs.size) (i := i) (t := t) (s₁ := s₁) (oI := _) hh hkind hy hxy hJl hlt el (Nat.ne_of_gt F₄.ns.lt) (next_is_new F₄) cL c0 dL d0 (Nat.ne_of_lt (lt4 _ (.head _))) (Nat.ne_of_lt (lt4 _ (.tail _ (.head _)))) (Nat.ne_of_lt (lt4 _ (.tail _ (.tail _ (.head _))))) a4 a5 a6 ?_ (i + 1)
        (IInv.mk _ tk₄ 0 ys _ oC' nw _ rfl (Nat.zero_le _) hoI2 (F₄.push _) N₅ hC' (if_pos rfl) (fun p hp => ⟨(off.mem p hp).1, Nat.ne_of_lt (lt4 p (.tail _ (.tail _ (.tail _ hp)))), (off.mem p hp).2⟩) hJ)
      intro h₆ tk₆ ys₆ oC₆ nw₆ m₆ F₆ N₆ hC₆ off₆ hJ₆
      exact ⟨k - 1, kpred hk hlt, OInv.mk h₆ tk₆ (i + 1) ys₆ _ oC₆ nw₆ m₆ (kpred2 hk hlt) hlt (fun h I e => e) F₆ N₆ hC₆ off₆ (hJe i ys₆ nw₆ hJ₆)⟩
    exact start_in (loop _ rfl) (wpAny_pyIter_rangeiter (hoI2 _ _ (N₅ _ (.head _)).1) (loop _ rfl))
  · obtain rfl : i = n := Nat.le_antisymm hi (Nat.not_lt.mp hlt)
    refine W.done _ _ _ st fun h₂ tk₂ hk₂ => ?_
    refine fin h₂ tk₂ ys oC nw m' (LCg.fr_but F hk₂ (Ne.symm iL) i0) (LCg.news_but (fun p hp => N p (.tail _ hp)) hk₂ (fun p hp => ?_)) hC off hJ
    rcases List.mem_cons.mp hp with rfl | hp
    · exact Ne.symm a4
    rcases List.mem_cons.mp hp with rfl | hp
    · exact Ne.symm a5
    · exact (off.mem p hp).1
/-- the source of a comprehension of two clauses -/
inductive PSrc (prog : Program) (w : World) (A : Around) (h₀ : Heap) (L : Addr) (m : Str → Option Value) (env : Env) (it1 elt : Expr) (x y : Str) (scope : Scope) (cl : List (Str × Addr)) (n : Nat) (J : Nat → Nat → List Value → List (Addr × Obj) → Prop) (Fin : Shared → List Value → List (Addr × Obj) → Prop) : Value → Shared → Prop
  | mk (s₁ : Shared) (r : Addr) (t u v : Tok) (news : List (Addr × Obj)) (hh : A.handled = none) (F : Fr h₀ L s₁.heap m) (N : News h₀ L s₁.heap news) (hr : IsRange s₁.heap r 0 (n : Int) 1 t u v) (hJ : J 0 0 [] news) (sr : Src2 prog w A h₀ L m env it1 x scope cl s₁ n J) (el : Elt2 prog w A h₀ L m env elt x y scope cl s₁ n J) (fin : ∀ ys nw, J n 0 ys nw → Fin s₁ ys nw) : PSrc prog w A h₀ L m env it1 elt x y scope cl n J Fin (.ref r) s₁
theorem Assign_ListComp_2 {z : Str} {pz spos : Pos} {E : Value → Shared → Prop} {Q : Flow → Shared → Prop} (hLe : env.locals = L)
    (hsw : swapsWith (two elt it0 it1 x y px py scope pos) (some (.Name z pz)) spos.line env = pure true)
    (hclos : closureFor scope env = pure cl) (hcell : ∀ z ∈ scope.names, z.2 ≠ .cell) (hkind : scope.kind = .function) (hx : scope.names.lookup x = some .local) (hy : scope.names.lookup y = some .local) (hxy : x ≠ y)
    (hnames : ∀ y ∈ scope.names, y.2 = .local → scope.names.lookup y.1 = some .local)
    (hz : env.kindOf z = some .local) (hp : (env.scope.kind == .class || (env.scope.kind == .module && env.locals != env.globals)) = false)
    (hJl : ∀ i q ys nw, J i q ys nw → ys.length ≤ 64) (hJe : ∀ i ys nw, J i i ys nw → J (i + 1) 0 ys nw) (hn : n ≤ 64)
    (h : wpAny (model prog w) A (eval it0 env) (PSrc prog w A h₀ L m env it1 elt x y scope cl n J (CFinA h₀ L m z Q)) E s)
    (hs : ∀ z, foldedSetIterable it0 env z = pure z := by intro _; rfl) (hs1 : ∀ C z, foldedSetIterable it1 (compEnvC scope cl C env) z = pure z := by intro _ _; rfl) :
    wpAny (model prog w) A (exec (.Assign [.Name z pz] (two elt it0 it1 x y px py scope pos) spos) env) Q E s := by
  subst hLe
  refine comp_assign hsw hclos hkind hnames hs (wpAny_mono h (fun xv s₁ h₁ => ?_) fun _ _ e => e)
  obtain ⟨_, r, t, u, v, news, hh, F, N, hr, hJ0, sr, el, fin⟩ := h₁
  have hn9 : (0 : Int) ≤ (n : Int) := Int.natCast_nonneg n
  refine wpAny_pyIter_range hr (small_one (by omega) (by omega) (by omega) (by omega)) ?_
  have hz0 : Builtin.Range.rangeSize 0 (n : Int) 1 = ((n : Nat) : Int) := by rw [rangeSize_nat]; omega
  rw [hz0]
  have hoI : RI ({ cls := .type "range_iterator", data := .fields #[rawInt 0, rawInt ((n : Nat) : Int), rawInt 1] } : Obj) 0 n := fun h I e => by
    show IsRangeIter _ _ _ _ _
    simpa using e
  have ltI : @LT.lt Nat _ env.locals s₁.heap.objs.size := F.ns.lt
  have lowI : ∀ p ∈ news, @LT.lt Nat _ p.1 s₁.heap.objs.size := fun p hp => Heap.lt_size (N p hp).1
  have N1 := News.push F N ({ cls := .type "range_iterator", data := .fields #[rawInt 0, rawInt ((n : Nat) : Int), rawInt 1] } : Obj)
  have F1 := F.push ({ cls := .type "range_iterator", data := .fields #[rawInt 0, rawInt ((n : Nat) : Int), rawInt 1] } : Obj)
  have i0 := next_is_new F
  generalize hI : s₁.heap.objs.size = I at ltI lowI N1 i0 ⊢
  have z1 : (s₁.heap.push ({ cls := .type "range_iterator", data := .fields #[rawInt 0, rawInt ((n : Nat) : Int), rawInt 1] } : Obj)).objs.size = I + 1 := by rw [Heap.size_push, hI]
  generalize s₁.heap.push ({ cls := .type "range_iterator", data := .fields #[rawInt 0, rawInt ((n : Nat) : Int), rawInt 1] } : Obj) = H1 at N1 F1 z1
  refine wpAny_newObj_type ?_
  have N2 := News.push F1 N1 (LCg.lst [])
  have F2 := F1.push (LCg.lst [])
  have d0 := next_is_new F1
  rw [z1] at N2 d0
  show wpAny _ A (newFunctionEnv scope env.globals cl [] env.qual none .none (some env)) _ _ { s₁ with heap := H1.push (LCg.lst []) }
  have z2 : (H1.push (LCg.lst [])).objs.size = I + 1 + 1 := by rw [Heap.size_push, z1]
  have e1 : Value.ref H1.objs.size = .ref (I + 1) := congrArg _ z1
  dsimp only
  rw [e1]
  generalize H1.push (LCg.lst []) = H2 at N2 F2 z2
  have c0 := next_is_new F2
  refine wpAny_newFunctionEnv hcell (by intro y hy; simp at hy) (fun h₁ hns₁ hsb₁ => ?_) hkind
  dsimp only [Option.isSome] at hns₁ hsb₁ ⊢
  rw [z2] at hns₁ hsb₁ c0
  rw [z2]
  refine gh fun pG hpG => ?_
  obtain ⟨⟨⟨nI, nD⟩, nC, _⟩, ⟨_, CI, DI⟩, _, _, CD⟩ := four ltI
  refine hpG ?_
  clear hpG pG
  refine gh fun pG hpG => ?_
  obtain ⟨oC, eC, hC⟩ := LCg.ns_obj hns₁
  refine hpG ?_
  clear hpG pG
  have up : ∀ p ∈ (I + 1, LCg.lst []) :: (I, _) :: news, @Ne Nat p.1 (I + 1 + 1) → h₁.get? p.1 = some p.2 := fun p hp hne => hsb₁.extBut _ _ hne (Heap.get?_push_of_some _ (N2 p hp).1)
  have N3 : News h₀ env.locals h₁ ((I, _) :: (I + 1 + 1, oC) :: (I + 1, LCg.lst []) :: news) := fun p hp => by
    rcases List.mem_cons.mp hp with rfl | hp
    · exact ⟨up _ (.tail _ (.head _)) (Ne.symm CI), (N2 _ (.tail _ (.head _))).2⟩
    rcases List.mem_cons.mp hp with rfl | hp
    · exact ⟨eC, nC, c0⟩
    rcases List.mem_cons.mp hp with rfl | hp
    · exact ⟨up _ (.head _) (Ne.symm CD), (N2 _ (.head _)).2⟩
    · exact ⟨up p (.tail _ (.tail _ hp)) (low4 (lowI p hp)).2.1, (N2 p (.tail _ (.tail _ hp))).2⟩
  have F3 : Fr h₀ env.locals h₁ m := (F2.push _).change hsb₁ nC c0
  have loop : ∀ s₃ : Shared, s₃ = { s₁ with heap := h₁, toks := s₁.toks + ([] : List (Str × Value)).length } → codeAny (model prog w) A (.compLoop (two elt it0 it1 x y px py scope pos) 0 (.ref I) (.ref (I + 1)) (compEnvC scope cl (I + 1 + 1) env)) (compPost (model prog w) A E (some (assign (.Name z pz) env)) (fun _ s' => Q .next s') (.ref (I + 1)) (I + 1 + 1)) s₃ := by
    rintro s₃ rfl
    refine outer_2 (s₁ := s₁) (n := n) (J := J) hh hkind hx hy hxy hJl hJe hn (hs1 _) sr el nI i0 nC c0 nD d0 (Ne.symm CI) (Ne.symm DI) CD ?_ (n + 1) (OInv.mk h₁ _ 0 [] _ oC news _ rfl (Nat.zero_le _) hoI F3 N3 hC (LCg.Off3.of fun p hp => low4 (lowI p hp)) hJ0)
    intro h' tk ys oC' nw m' F' N' hC' off' hJ'
    exact comp_put hz hp F' (hC'.ns (N' _ (.head _)).1) c0 nC (led := (I + 1, LCg.lst ys) :: nw) (fun p hp => N' p (.tail _ hp)) (fac (Ne.symm CD) fun p hp => (off'.mem p hp).2.1) fun h'' tk'' F2 N2 => fin ys nw hJ' (I + 1) h'' tk'' F2 N2 fun p hp => (off'.mem p hp).2.2
  exact codeAny_compStart_list (loop _ rfl) (wpAny_pyIter_rangeiter (hoI _ _ (N3 _ (.head _)).1) (loop _ rfl))
end
end Mine
end
section
open PySem PySem.W PyProof.Rows
set_option Elab.async false
namespace Mine
noncomputable def tri (i q : Nat) : Nat := [0, 0, 1, 3, 6].getD i 0 + q
/-- the pair at a place: its distance, its ends -/
noncomputable def prO (c : Nat → Int) (t : Nat) (t1 t2 t3 : Tok) : Obj := W.listOf #[.int (c t) t1, .int (EJ t) t2, .int (EK t) t3] 0
noncomputable def PrsAt (c : Nat → Int) (ys : List Value) (pl : List (Addr × Obj)) : Prop := ∀ t, t < ys.length → ∃ P t1 t2 t3, ys[t]? = some (.ref P) ∧ (P, prO c t t1 t2 t3) ∈ pl
theorem prs_snoc {c : Nat → Int} {ys : List Value} {pl : List (Addr × Obj)} {t P : Nat} {t1 t2 t3 : Tok} (hl : ys.length = t) (h : PrsAt c ys pl) : PrsAt c (ys ++ [.ref P]) ((P, prO c t t1 t2 t3) :: pl) := by
  intro j hj
  rw [List.length_append, List.length_singleton] at hj
  by_cases e : j = t
  · subst e
    exact ⟨P, t1, t2, t3, by rw [List.getElem?_append_right (Nat.le_of_eq hl)]; simp [hl], .head _⟩
  · obtain ⟨P', a, b, c, h1, h2⟩ := h j (Nat.lt_of_le_of_ne (Nat.le_of_lt_succ hj) (hl ▸ e))
    exact ⟨P', a, b, c, by rw [List.getElem?_append_left (Nat.lt_of_le_of_ne (Nat.le_of_lt_succ hj) (hl ▸ e))]; exact h1, .tail _ h2⟩
theorem tri_next {i : Nat} (h : i < 4) : tri i i = tri (i + 1) 0 := by
  match i, h with | 0, _ => rfl | 1, _ => rfl | 2, _ => rfl | 3, _ => rfl
theorem tri_ends {i q : Nat} (h : i < 4) (hq : q < i) : EJ (tri i q) = i ∧ EK (tri i q) = q := by
  match i, h, q, hq with | 1, _, 0, _ => exact ⟨rfl, rfl⟩ | 2, _, 0, _ => exact ⟨rfl, rfl⟩ | 2, _, 1, _ => exact ⟨rfl, rfl⟩ | 3, _, 0, _ => exact ⟨rfl, rfl⟩ | 3, _, 1, _ => exact ⟨rfl, rfl⟩ | 3, _, 2, _ => exact ⟨rfl, rfl⟩
noncomputable def cOf (d : Nat → Nat → Int) (t : Nat) : Int := d (EJ t) (EK t)
theorem allLt_mem {d : Addr} : ∀ {l : List (Addr × Obj)}, AllLt d l → ∀ p ∈ l, @LT.lt Nat _ p.1 d
  | [], _, _, h => nomatch h
  | _ :: _, h, p, hp => by
    rcases List.mem_cons.mp hp with rfl | hp
    · exact h.1
    · exact allLt_mem h.2 p hp
end Mine
end
section
open PySem PySem.W PyProof.Rows PySem.W.X PySem.Calls Builtin
set_option Elab.async false
namespace Mine
set_option maxRecDepth 100000
theorem boot_bc : bootBuiltins "__build_class__" = some (.builtin "__build_class__") := by kernel_rfl
noncomputable def isStrV (x : Option (Option Value)) (s : Str) : Bool := match x with
  | some (some (.str y _)) => decide (y = s)
  | _ => false
theorem isStrV_get {x : Option (Option Value)} {s : Str} (h : isStrV x s = true) : ∃ t, x = some (some (.str s t)) := by
  unfold isStrV at h
  split at h
  · rename_i y t; rw [of_decide_eq_true h]; exact ⟨t, rfl⟩
  · cases h
theorem glob_name (w : World) : ∃ t, nsIn (hd.heap_39 w.params) mainGlobals "__name__" = some (some (.str (Str.ofString "law_mq0210_02") t)) := isStrV_get (by kernel_rfl)
end Mine
end
section
open PySem PySem.W PyProof.Rows PySem.W.X PySem.Calls Builtin
set_option Elab.async false
namespace Mine
noncomputable def ent (h : Int) (k : String) (t : Tok) (v : Value) : DictEntry := ⟨h, .str (Str.ofString k) t, v⟩
section
variable {M : Model} {A : Around} {E : Value → Shared → Prop} {s : Shared}
theorem stop_collect {v : Value} {Q : List Value → Shared → Prop} (h : Blk (wpAny M A (collect v) Q E s)) : wpAny M A (collect v) Q E s := h
theorem stop_read {nm : Str} {b : List Value} {es : Array DictEntry} {Q : Slots.Plan → Shared → Prop} (h : Blk (wpAny M A (Slots.read nm b es) Q E s)) : wpAny M A (Slots.read nm b es) Q E s := h
theorem wp_nota {l : List Value} {Q : Unit → Shared → Prop} (h : Q () s) (hl : l = [.type "object"] := by with_unfolding_all rfl) : wpAny M A (notOverATurnedClass l) Q E s := by
  subst hl; exact wpAny_of_eq (by kernel_rfl) h
theorem wp_ext {l : List Value} {Q : Value → Shared → Prop} (h : Q (.type "object") s) (hl : l = [.type "object"] := by with_unfolding_all rfl) : wpAny M A (extendedBase l) Q E s := by
  subst hl; exact wpAny_of_eq (by kernel_rfl) h
end
end Mine
end
section
open PySem PySem.W PyProof.Rows PySem.W.X PySem.Calls Builtin
set_option Elab.async false
namespace Mine

set_option maxRecDepth 100000 in
set_option maxHeartbeats 8000000 in
theorem slots_read {prog : Program} {w : World} {A : Around} {Q : Slots.Plan → Shared → Prop} {E : Value → Shared → Prop} {h : Heap} {g : Array GenState} {d : Drawn} {t : Nat} {os : OsState} {sl : Addr} {es : Array DictEntry} {hh : Int} {tt ts : Tok}
   (hf : es.find? (·.key.isStr "__slots__") = some ⟨hh, .str "__slots__" tt, .ref sl⟩) (hl : h.IsList sl #[.str "obj" ts]) (ho : h.get? sl = some { cls := .type "list", data := .seq #[.str "obj" ts] 0 }) (hno : es.any (·.key.isStr "obj") = false)
   (hQ : ∀ h', (∀ b o, h.get? b = some o → h'.get? b = some o) → Q { names := ["obj"], dict := false, weak := false } ⟨h', g, d, t, os⟩) :
   wpAny (model prog w) A (Slots.read (Str.ofString "K") [.type "object"] es) Q E ⟨h, g, d, t, os⟩ := by
  have e1 : Slots.bestBase [.type "object"] = pure (.type "object") := by kernel_rfl
  have e2 : Slots.slotNamesOf (.type "object") = pure [] := by kernel_rfl
  have e3 : Slots.givesDict (.type "object") = pure false := by kernel_rfl
  have e4 : Slots.givesWeak (.type "object") = pure false := by kernel_rfl
  have e5 : Slots.varSize (.type "object") = pure false := by kernel_rfl
  have e6 : asStr? (.ref sl) = asStr? (.ref sl) := rfl
  unfold Slots.read
  rw [hf]
  wp_walk using stop_collect
  refine Blk.out ?_
  refine collect_list hl ?_ (by rw [sizeLine_eq]; exact Nat.le_of_ble_eq_true rfl)
  have hk : ∀ b o, h.get? b = some o → ((h.push (seqObj "list" #[] 0)).update h.objs.size (Obj.mapSeq (· ++ [Value.str "obj" ts].toArray))).get? b = some o := fun b o e => by
    rw [Heap.get?_update_ne _ _ _ _ (Nat.ne_of_lt (Heap.lt_size e))]
    exact Heap.get?_push_of_some _ e
  have hq := hQ _ hk
  clear hQ
  dsimp only at hq ⊢
  generalize (h.push (seqObj "list" #[] 0)).update h.objs.size (Obj.mapSeq (· ++ [Value.str "obj" ts].toArray)) = H at *
  wp_walk
  have d1 : Slots.isIdentifier (Str.ofString "obj") = some true := by kernel_rfl
  have d2 : (Str.ofString "obj" == Str.ofString "__dict__") = false := by decide +kernel
  have d3 : (Str.ofString "obj" == Str.ofString "__weakref__") = false := by decide +kernel
  rw [d1]
  wp_walk
  have dm : ∀ i (hi : i < (#[].push (Str.ofString "obj")).size), Slots.mangle (Str.ofString "K") ((#[].push (Str.ofString "obj"))[i]) = Str.ofString "obj" := fun i hi => by
    have h0 : i = 0 := by simpa using hi
    subst h0
    kernel_rfl
  simp only [dm]
  have d4 : (Str.ofString "obj" == Str.ofString "__del__") = false := by decide +kernel
  wp_walk
  exact hq
end Mine
end
section
open PySem PySem.W PyProof.Rows PySem.W.X PySem.Calls Builtin
set_option Elab.async false
namespace Mine
section
variable {M : Model} {A : Around} {E : Value → Shared → Prop} {h0 h : Heap} {g : Array GenState} {d : Drawn} {t : Nat} {os : OsState} {chg news : List (Addr × Obj)}
theorem mm_alloc {o : Obj} {Q : Addr → Shared → Prop} (D : Mem h0 h chg news) (hf : o.isFreed = false) (hq : ∀ a h', Mem h0 h' chg ((a, o) :: news) → Q a ⟨h', g, d, t, os⟩) : wpAny M A (alloc o) Q E ⟨h, g, d, t, os⟩ := wpAny_alloc (hq _ _ (D.alloc hf))
theorem mm_update {a : Addr} {f : Obj → Obj} {o : Obj} {i : Nat} {Q : Unit → Shared → Prop} (D : Mem h0 h chg news) (hi : news[i]? = some (a, o)) (hf : (f o).isFreed = false) (hq : ∀ h', Mem h0 h' chg (news.set i (a, f o)) → Q () ⟨h', g, d, t, os⟩) : wpAny M A (update a f) Q E ⟨h, g, d, t, os⟩ := wpAny_update (D.at i a o hi) (hq _ (D.update hi hf))
theorem mm_updatePart {a : Addr} {p : Option Value} {f : Obj → Obj} {o : Obj} {i : Nat} {Q : Unit → Shared → Prop} (D : Mem h0 h chg news) (hi : news[i]? = some (a, o)) (hf : (f o).isFreed = false) (hq : ∀ h', Mem h0 h' chg (news.set i (a, f o)) → Q () ⟨h', g, d, t, os⟩) : wpAny M A (updatePart a p f) Q E ⟨h, g, d, t, os⟩ := wpAny_updatePart (D.at i a o hi) (hq _ (D.update hi hf))
theorem mm_newObj {T : String} {data : Data} {dict : Option Addr} {Q : Value → Shared → Prop} (D : Mem h0 h chg news) (hf : ({ cls := .type T, dict, data } : Obj).isFreed = false) (hq : ∀ a h', Mem h0 h' chg ((a, { cls := .type T, dict, data }) :: news) → Q (.ref a) ⟨h', g, d, t, os⟩) (hd : sizeOk data) : wpAny M A (newObj (.type T) data dict) Q E ⟨h, g, d, t, os⟩ :=
  wpAny_newObj_type (hq _ _ (D.alloc hf)) hd
theorem mm_nsGet {a : Addr} {nm : Str} {o : Obj} {r : Option Value} {Q : Option Value → Shared → Prop} (ho : h.get? a = some o) (hl : nsLook nm o = pure r) (hq : Q r ⟨h, g, d, t, os⟩) : wpAny M A (nsGet a nm) Q E ⟨h, g, d, t, os⟩ :=
  wpAny_bind (wpAny_loadPart ho (wpAny_of_eq hl hq))
theorem mm_ite_t {α : Type} {c : Prop} {dc : Decidable c} {a b : Sem α} {s : Shared} {Q : α → Shared → Prop} (hc : @decide c dc = true) (h : wpAny M A a Q E s) : wpAny M A (@ite _ c dc a b) Q E s := PySem.wpAny_ite_true hc h
theorem mm_ite_f {α : Type} {c : Prop} {dc : Decidable c} {a b : Sem α} {s : Shared} {Q : α → Shared → Prop} (hc : @decide c dc = false) (h : wpAny M A b Q E s) : wpAny M A (@ite _ c dc a b) Q E s := PySem.wpAny_ite_false hc h
theorem mm_nsHas {nm : Str} {o : Obj} {r : Bool} {s : Shared} {Q : Bool → Shared → Prop} (hl : nsHas nm o = pure r) (hq : Q r s) : wpAny M A (nsHas nm o) Q E s := wpAny_of_eq hl hq
end
end Mine
end
section
open PySem PySem.W PyProof.Rows PySem.W.X PySem.Calls Builtin
set_option Elab.async false
namespace Mine
theorem tf_mroType : mroHook? (.type "type") = pure none := by
  unfold mroHook?; rw [typeLookup_type, builtinLookup_eq_fast]; kernel_rfl
theorem tf_lin : linearize [.type "object"] mroOf = pure [.type "object"] := by kernel_rfl
theorem tf_weak : Slots.givesWeak (.type "object") = pure false := by
  unfold Slots.givesWeak; rw [typeLookup_type, builtinLookup_eq_fast]; kernel_rfl
theorem tf_dict : Slots.givesDict (.type "object") = pure false := by kernel_rfl
theorem tf_del : ((Manifest.find? "object").elim false fun ty => ty.attrs.any (·.1 == "__del__")) = false := by decide +kernel
theorem tf_filter (a : Addr) : List.filter (fun x => x != Value.ref a) (Value.ref a :: [Value.type "object"]) = [Value.type "object"] := by simp
theorem tf_new : typeLookup (.type "object") "__new__" = pure (some (.builtin "object.__new__")) := by
  rw [typeLookup_type, builtinLookup_eq_fast]; kernel_rfl
theorem tf_ends : ("object.__new__".endsWith ".__new__") = true := by decide +kernel
theorem tf_mroObj : mroOf (.type "object") = pure [.type "object"] := by kernel_rfl
theorem tf_maker : Bind.madeBy (.type "object") = pure (some "object.__new__") := madeBy_type tf_mroObj tf_new (by decide +kernel)
section
variable {M : Model} {A : Around} {E : Value → Shared → Prop} {h0 h : Heap} {g : Array GenState} {d : Drawn} {t : Nat} {os : OsState} {chg news : List (Addr × Obj)}
theorem mm_anyM {p : Value → Sem Bool} {l : List Value} {v : Value} {s : Shared} {Q : Bool → Shared → Prop} (hl : l = [v]) (hp : p v = pure false) (hq : Q false s) : wpAny M A (List.anyM p l) Q E s := by
  subst hl
  show wpAny M A (p v >>= _) Q E s
  rw [hp]
  exact wpAny_pure hq
theorem mm_updateCls {a : Addr} {f : ClassData → ClassData} {c : Value} {cd : ClassData} {dt : Option Addr} {sl : Array (Option Value)} {i : Nat} {Q : Unit → Shared → Prop} (D : Mem h0 h chg news)
   (hi : news[i]? = some (a, ⟨c, dt, .cls cd, sl⟩)) (hp : (Data.cls (f cd)).pastItsLine = none) (hq : ∀ h', Mem h0 h' chg (news.set i (a, ⟨c, dt, .cls (f cd), sl⟩)) → Q () ⟨h', g, d, t, os⟩) : wpAny M A (updateCls a f) Q E ⟨h, g, d, t, os⟩ := by
  unfold updateCls
  refine wpAny_bind (wpAny_load (D.at i a _ hi) ?_)
  dsimp only
  refine wpAny_bind (mm_update D hi rfl fun h' D' => ?_)
  have hl : i < news.length := (List.getElem?_eq_some_iff.mp hi).1
  exact wpAny_lookBehind (D'.at i a ⟨c, dt, .cls (f cd), sl⟩ (by rw [List.getElem?_set_self hl]; rfl)) hp (hq h' D')
end
end Mine
end
section
open PySem PySem.W PyProof.Rows PySem.W.X PySem.Calls Builtin
set_option Elab.async false
namespace Mine
section
variable {M : Model} {A : Around} {E : Value → Shared → Prop} {h0 h : Heap} {g : Array GenState} {d : Drawn} {t : Nat} {os : OsState} {chg news : List (Addr × Obj)}
theorem mm_mro {a : Addr} {o : Obj} {cd : ClassData} {Q : List Value → Shared → Prop} (ho : h.get? a = some o) (hd : o.data = .cls cd) (hq : Q cd.mro ⟨h, g, d, t, os⟩) : wpAny M A (mroOf (.ref a)) Q E ⟨h, g, d, t, os⟩ := by
  unfold mroOf
  refine wpAny_bind ?_
  unfold classData
  refine wpAny_bind (wpAny_load ho ?_)
  rw [hd]
  exact wpAny_pure (wpAny_pure hq)
theorem mm_look {a : Addr} {o oN : Obj} {cd : ClassData} {nm : Str} {r : Option Value} {Q : Option Value → Shared → Prop} (ho : h.get? a = some o) (hd : o.data = .cls cd) (hm : cd.mro = [.ref a, .type "object"])
   (hN : h.get? cd.ns = some oN) (hl : nsLook nm oN = pure none) (ht : typeLookup (.type "object") nm = pure r) (hq : Q r ⟨h, g, d, t, os⟩) : wpAny M A (typeLookup (.ref a) nm) Q E ⟨h, g, d, t, os⟩ := by
  have hrest : lookupAlong [.type "object"] nm = pure r := by rw [typeLookup_eq, tf_mroObj] at ht; exact ht
  rw [typeLookup_eq]
  refine wpAny_bind (mm_mro ho hd ?_)
  rw [hm, lookupAlong_cons]
  refine wpAny_bind ?_
  unfold classOwn classData
  refine wpAny_bind (wpAny_bind (wpAny_load ho ?_))
  rw [hd]
  refine wpAny_pure (mm_nsGet hN hl ?_)
  dsimp only
  rw [hrest]
  exact wpAny_pure hq
theorem mm_slotAt {a : Addr} {i : Nat} {o : Obj} {Q : Option Value → Shared → Prop} (ho : h.get? a = some o) (hq : Q (o.slots[i]?).join ⟨h, g, d, t, os⟩) : wpAny M A (slotAt a i) Q E ⟨h, g, d, t, os⟩ := by
  unfold slotAt
  exact wpAny_bind (wpAny_loadPart ho (wpAny_pure hq))
theorem mm_refresh {a : Addr} {o oN : Obj} {cd : ClassData} {v : Value} {Q : Unit → Shared → Prop} (ho : h.get? a = some o) (hd : o.data = .cls cd) (hm : cd.mro = [.ref a, .type "object"])
   (hN : h.get? cd.ns = some oN) (hl : nsLook "__new__" oN = pure none) (hs : (o.slots[4]?).join = some v) (hq : Q () ⟨h, g, d, t, os⟩) : wpAny M A (Bind.refreshMaker a) Q E ⟨h, g, d, t, os⟩ := by
  unfold Bind.refreshMaker
  refine wpAny_bind (mm_slotAt ho ?_)
  rw [hs]
  refine mm_ite_f (by rfl) ?_
  refine wpAny_bind (mm_look ho hd hm hN hl tf_new ?_)
  dsimp only
  refine mm_ite_f (by decide +kernel) ?_
  exact wpAny_pure hq
end
end Mine
end
section
open PySem PySem.W PyProof.Rows PySem.W.X PySem.Calls Builtin
set_option Elab.async false
namespace Mine
noncomputable def kcls (bT : Addr) (tn tq : Tok) (qn : Str) (N a : Addr) : Obj := { cls := .type "type", data := .cls { name := Str.ofString "K", bases := [.type "object"], mro := [.ref a, .type "object"], ns := N, qualname := qn }, slots := #[some (.ref bT), none, some (.str (Str.ofString "K") tn), some (.str qn tq), some (.builtin "object.__new__")] }
noncomputable def kdict (l : List DictEntry) (n : Nat) : Obj := { cls := .type "dict", data := .dict l.toArray n }
theorem mem_to {h0 h : Heap} {chg : List (Addr × Obj)} {a1 a2 : Addr} {o1 o2 o2' : Obj} (k : Addr → Addr → Obj) (D : Mem h0 h chg [(a1, o1), (a2, o2)]) (e1 : o1 = k a2 a1) (e2 : o2 = o2') : Mem h0 h chg [(a1, k a2 a1), (a2, o2')] := by subst e1 e2; exact D
section
variable {h1 h2 h3 h4 h5 h6 h7 h8 h9 h10 h11 h12 : Int} {t1 t2 t3 t4 t5 t6 t7 t8 t9 t10 t11 t12 tm tq ti : Tok} {ln : Int} {md qn : Str} {sl f1 f2 f3 f4 f5 f6 st : Addr}
theorem ns_drop {n : Nat} : Obj.dropName (Str.ofString "__qualname__") { cls := Value.type "dict", data := .dict #[ent h1 "__module__" t1 (.str md tm), ent h2 "__qualname__" t2 (.str qn tq), ent h3 "__firstlineno__" t3 (.int ln ti), ent h4 "__slots__" t4 (.ref sl), ent h5 "__init__" t5 (.ref f1), ent h6 "__lt__" t6 (.ref f2), ent h7 "__gt__" t7 (.ref f3), ent h8 "__eq__" t8 (.ref f4), ent h9 "__le__" t9 (.ref f5), ent h10 "__ge__" t10 (.ref f6), ent h11 "__hash__" t11 .none, ent h12 "__static_attributes__" t12 (.ref st)] n } =
   kdict [ent h1 "__module__" t1 (.str md tm), ent h3 "__firstlineno__" t3 (.int ln ti), ent h4 "__slots__" t4 (.ref sl), ent h5 "__init__" t5 (.ref f1), ent h6 "__lt__" t6 (.ref f2), ent h7 "__gt__" t7 (.ref f3), ent h8 "__eq__" t8 (.ref f4), ent h9 "__le__" t9 (.ref f5), ent h10 "__ge__" t10 (.ref f6), ent h11 "__hash__" t11 .none, ent h12 "__static_attributes__" t12 (.ref st)] (n + 1) := by kernel_rfl
theorem ns_del : (#[ent h1 "__module__" t1 (.str md tm), ent h2 "__qualname__" t2 (.str qn tq), ent h3 "__firstlineno__" t3 (.int ln ti), ent h4 "__slots__" t4 (.ref sl), ent h5 "__init__" t5 (.ref f1), ent h6 "__lt__" t6 (.ref f2), ent h7 "__gt__" t7 (.ref f3), ent h8 "__eq__" t8 (.ref f4), ent h9 "__le__" t9 (.ref f5), ent h10 "__ge__" t10 (.ref f6), ent h11 "__hash__" t11 .none, ent h12 "__static_attributes__" t12 (.ref st)] : Array DictEntry).any (fun x => x.key.isStr (Str.ofString "__del__")) = false := by rw [List.any_toArray]; rfl
theorem ns_none {n : Nat} {nm : Str} (hn : nm ∈ (["__new__", "__init_subclass__", "__class_getitem__", "obj", "__doc__", "__set_name__", "__getattribute__", "__getattr__", "__setattr__", "__del__"] : List Str)) : nsLook nm (kdict [ent h1 "__module__" t1 (.str md tm), ent h3 "__firstlineno__" t3 (.int ln ti), ent h4 "__slots__" t4 (.ref sl), ent h5 "__init__" t5 (.ref f1), ent h6 "__lt__" t6 (.ref f2), ent h7 "__gt__" t7 (.ref f3), ent h8 "__eq__" t8 (.ref f4), ent h9 "__le__" t9 (.ref f5), ent h10 "__ge__" t10 (.ref f6), ent h11 "__hash__" t11 .none, ent h12 "__static_attributes__" t12 (.ref st)] n) = pure none := by
  simp only [List.mem_cons, List.not_mem_nil, or_false] at hn
  rcases hn with rfl | rfl | rfl | rfl | rfl | rfl | rfl | rfl | rfl | rfl <;> kernel_rfl
end
end Mine
end
section
open PySem PySem.W PyProof.Rows PySem.W.X PySem.Calls Builtin
set_option Elab.async false
namespace Mine
section
variable {prog : Program} {w : World} {A : Around} {E : Value → Shared → Prop} {h0 h : Heap} {g : Array GenState} {d : Drawn} {t : Nat} {os : OsState} {chg news : List (Addr × Obj)}
theorem mm_nsSet {a : Addr} {nm : Str} {v c : Value} {dt : Option Addr} {es : Array DictEntry} {n i : Nat} {sl : Array (Option Value)} {o' : Int → Tok → Obj} {Q : Unit → Shared → Prop} (D : Mem h0 h chg news) (hi : news[i]? = some (a, ⟨c, dt, .dict es n, sl⟩))
   (hk : aRefKeyMayBeTheName nm es = false) (hp : ∀ hh tk, Obj.putName nm hh (.str nm tk) v ⟨c, dt, .dict es n, sl⟩ = o' hh tk) (hf : ∀ hh tk, (o' hh tk).isFreed = false)
   (hq : ∀ h' hh, Mem h0 h' chg (news.set i (a, o' hh t)) → Q () ⟨h', g, d, t + 1, os⟩) : wpAny (model prog w) A (nsSet a nm v) Q E ⟨h, g, d, t, os⟩ := by
  unfold nsSet strHash
  refine wpAny_bind (wpAny_bind (wpAny_askSetting ?_))
  refine wpAny_pure ?_
  refine wpAny_bind (wpAny_mkText ?_)
  refine wpAny_bind (wpAny_loadPart (D.at i a _ hi) ?_)
  dsimp only
  rw [hk]
  refine mm_ite_f (by rfl) ?_
  refine mm_updatePart D hi (by rw [hp]; exact hf _ _) fun h' D' => ?_
  rw [hp] at D'
  exact hq h' _ D'
end
end Mine
end
section
open PySem PySem.W PyProof.Rows PySem.W.X PySem.Calls Builtin
set_option Elab.async false
namespace Mine
section
variable {h1 h3 h4 h5 h6 h7 h8 h9 h10 h11 h12 : Int} {t1 t3 t4 t5 t6 t7 t8 t9 t10 t11 t12 tm ti : Tok} {ln : Int} {md : Str} {sl f1 f2 f3 f4 f5 f6 st : Addr}
noncomputable abbrev kents (h1 h3 h4 h5 h6 h7 h8 h9 h10 h11 h12 : Int) (t1 t3 t4 t5 t6 t7 t8 t9 t10 t11 t12 tm ti : Tok) (ln : Int) (md : Str) (sl f1 f2 f3 f4 f5 f6 st : Addr) : List DictEntry :=
  [ent h1 "__module__" t1 (.str md tm), ent h3 "__firstlineno__" t3 (.int ln ti), ent h4 "__slots__" t4 (.ref sl), ent h5 "__init__" t5 (.ref f1), ent h6 "__lt__" t6 (.ref f2), ent h7 "__gt__" t7 (.ref f3), ent h8 "__eq__" t8 (.ref f4), ent h9 "__le__" t9 (.ref f5), ent h10 "__ge__" t10 (.ref f6), ent h11 "__hash__" t11 .none, ent h12 "__static_attributes__" t12 (.ref st)]
theorem put_obj {n : Nat} {m : Addr} (hh : Int) (tk : Tok) : Obj.putName (Str.ofString "obj") hh (.str (Str.ofString "obj") tk) (.ref m) (kdict (kents h1 h3 h4 h5 h6 h7 h8 h9 h10 h11 h12 t1 t3 t4 t5 t6 t7 t8 t9 t10 t11 t12 tm ti ln md sl f1 f2 f3 f4 f5 f6 st) n) =
   kdict (kents h1 h3 h4 h5 h6 h7 h8 h9 h10 h11 h12 t1 t3 t4 t5 t6 t7 t8 t9 t10 t11 t12 tm ti ln md sl f1 f2 f3 f4 f5 f6 st ++ [ent hh "obj" tk (.ref m)]) (n + 1) := by kernel_rfl
theorem put_doc {n : Nat} {m : Addr} {ho : Int} {to : Tok} (hh : Int) (tk : Tok) : Obj.putName (Str.ofString "__doc__") hh (.str (Str.ofString "__doc__") tk) .none (kdict (kents h1 h3 h4 h5 h6 h7 h8 h9 h10 h11 h12 t1 t3 t4 t5 t6 t7 t8 t9 t10 t11 t12 tm ti ln md sl f1 f2 f3 f4 f5 f6 st ++ [ent ho "obj" to (.ref m)]) n) =
   kdict (kents h1 h3 h4 h5 h6 h7 h8 h9 h10 h11 h12 t1 t3 t4 t5 t6 t7 t8 t9 t10 t11 t12 tm ti ln md sl f1 f2 f3 f4 f5 f6 st ++ [ent ho "obj" to (.ref m), ent hh "__doc__" tk .none]) (n + 1) := by kernel_rfl
theorem key_obj : aRefKeyMayBeTheName "obj" (kents h1 h3 h4 h5 h6 h7 h8 h9 h10 h11 h12 t1 t3 t4 t5 t6 t7 t8 t9 t10 t11 t12 tm ti ln md sl f1 f2 f3 f4 f5 f6 st).toArray = false := by kernel_rfl
theorem key_doc {m : Addr} {ho : Int} {to : Tok} : aRefKeyMayBeTheName "__doc__" (kents h1 h3 h4 h5 h6 h7 h8 h9 h10 h11 h12 t1 t3 t4 t5 t6 t7 t8 t9 t10 t11 t12 tm ti ln md sl f1 f2 f3 f4 f5 f6 st ++ [ent ho "obj" to (.ref m)]).toArray = false := by kernel_rfl
end
end Mine
end
section
open PySem PySem.W PyProof.Rows PySem.W.X PySem.Calls Builtin
set_option Elab.async false
namespace Mine
section
variable {prog : Program} {w : World} {A : Around} {E : Value → Shared → Prop} {h0 h : Heap} {g : Array GenState} {d : Drawn} {t : Nat} {os : OsState} {chg news : List (Addr × Obj)}
theorem mm_nsSetByValue {a : Addr} {nm : Str} {v c : Value} {dt : Option Addr} {es : Array DictEntry} {n i : Nat} {sl : Array (Option Value)} {o' : Int → Tok → Obj} {Q : Unit → Shared → Prop} (D : Mem h0 h chg news) (hi : news[i]? = some (a, ⟨c, dt, .dict es n, sl⟩))
   (hz : decide (es.size > sizeLine) = false)
   (hk : aRefKeyMayBeTheName nm es = false) (hp : ∀ hh tk, Obj.putName nm hh (.str nm tk) v ⟨c, dt, .dict es n, sl⟩ = o' hh tk) (hf : ∀ hh tk, (o' hh tk).isFreed = false)
   (hq : ∀ h' hh, Mem h0 h' chg (news.set i (a, o' hh t)) → Q () ⟨h', g, d, t + 1, os⟩) : wpAny (model prog w) A (nsSetByValue a nm v) Q E ⟨h, g, d, t, os⟩ := by
  unfold nsSetByValue
  refine wpAny_bind (wpAny_loadPart (D.at i a _ hi) ?_)
  dsimp only
  refine mm_ite_f ?_ ?_
  · rw [hz, Bool.false_and]; rfl
  · exact mm_nsSet D hi hk hp hf hq
end
end Mine
end
section
open PySem PySem.W PyProof.Rows PySem.W.X PySem.Calls Builtin
set_option Elab.async false
namespace Mine
section
variable {h1 h3 h4 h5 h6 h7 h8 h9 h10 h11 h12 : Int} {t1 t3 t4 t5 t6 t7 t8 t9 t10 t11 t12 tm ti : Tok} {ln : Int} {md : Str} {sl f1 f2 f3 f4 f5 f6 st m : Addr} {ho hd : Int} {to td : Tok}
theorem doc_none {n : Nat} : nsLook "__doc__" (kdict (kents h1 h3 h4 h5 h6 h7 h8 h9 h10 h11 h12 t1 t3 t4 t5 t6 t7 t8 t9 t10 t11 t12 tm ti ln md sl f1 f2 f3 f4 f5 f6 st ++ [ent ho "obj" to (.ref m)]) n) = pure none := by kernel_rfl
theorem eq_some {n : Nat} : nsLook "__eq__" (kdict (kents h1 h3 h4 h5 h6 h7 h8 h9 h10 h11 h12 t1 t3 t4 t5 t6 t7 t8 t9 t10 t11 t12 tm ti ln md sl f1 f2 f3 f4 f5 f6 st ++ [ent ho "obj" to (.ref m), ent hd "__doc__" td .none]) n) = pure (some (.ref f4)) := by kernel_rfl
theorem hash_some {n : Nat} : nsLook "__hash__" (kdict (kents h1 h3 h4 h5 h6 h7 h8 h9 h10 h11 h12 t1 t3 t4 t5 t6 t7 t8 t9 t10 t11 t12 tm ti ln md sl f1 f2 f3 f4 f5 f6 st ++ [ent ho "obj" to (.ref m), ent hd "__doc__" td .none]) n) = pure (some .none) := by kernel_rfl
end
end Mine
namespace Mine
theorem tf_note (a : Addr) : noteSubclassOfBuiltin "object" a = pure () := by
  unfold noteSubclassOfBuiltin
  rw [show typeSubclassesOfTheStartUp.contains "object" = true by decide +kernel]
  rfl
noncomputable def kclsF (bT : Addr) (tn tq : Tok) (qn : Str) (N a : Addr) : Obj := { cls := .type "type", data := .cls { name := Str.ofString "K", bases := [.type "object"], mro := [.ref a, .type "object"], ns := N, qualname := qn, hasDict := false, slotNames := [Str.ofString "obj"] }, slots := #[some (.ref bT), none, some (.str (Str.ofString "K") tn), some (.str qn tq), some (.builtin "object.__new__"), some (.bool false)] }
noncomputable def kmem (t : Tok) (a : Addr) : Obj := { cls := .type "member_descriptor", data := .fields #[.str (Str.ofString "obj") t, .ref a, .builtin "proto.slot", .builtin "proto.slot#set", .int 0 0] }
theorem mem_to3 {h0 h : Heap} {chg : List (Addr × Obj)} {a1 a2 a3 : Addr} {o1 o2 o3 : Obj} (k1 : Addr → Obj) (k2 : Addr → Addr → Obj) (D : Mem h0 h chg [(a1, o1), (a2, o2), (a3, o3)]) (e1 : o1 = k1 a2) (e2 : o2 = k2 a3 a2) : Mem h0 h chg [(a1, k1 a2), (a2, k2 a3 a2), (a3, o3)] := by subst e1 e2; exact D
theorem mm_forIn1 {M : Model} {A : Around} {E : Value → Shared → Prop} {β : Type} {v : Value} {l : List Value} {init : β} {body : Value → β → Sem (ForInStep β)} {s : Shared} {Q : β → Shared → Prop} (hl : l = [v]) (h : wpAny M A (body v init) (fun st s' => match st with | .done b => Q b s' | .yield b => Q b s') E s) : wpAny M A (forIn l init body) Q E s := by
  subst hl
  rw [List.forIn_cons]
  refine wpAny_bind (wpAny_mono h (fun st s' q => ?_) fun _ _ e => e)
  cases st with
  | done b => exact wpAny_pure q
  | yield b => exact wpAny_pure q
end Mine
end
section
open PySem PySem.W PyProof.Rows PySem.W.X PySem.Calls Builtin
set_option Elab.async false
namespace Mine
section
variable {M : Model} {A : Around} {E : Value → Shared → Prop} {h0 h : Heap} {g : Array GenState} {d : Drawn} {t : Nat} {os : OsState} {chg news : List (Addr × Obj)}
theorem mm_forL {α β : Type} {init : β} {s : Shared} : ∀ {l : List α} {body : α → β → Sem (ForInStep β)} {Q : β → Shared → Prop}, (∀ e ∈ l, wpAny M A (body e init) (fun st s' => st = .yield init ∧ s' = s) E s) → Q init s → wpAny M A (forIn l init body) Q E s
  | [], _, _, _, hq => by rw [List.forIn_nil]; exact wpAny_pure hq
  | e :: l, body, Q, hb, hq => by
    rw [List.forIn_cons]
    refine wpAny_bind (wpAny_mono (hb e (.head _)) (fun st s' q => ?_) fun _ _ e => e)
    obtain ⟨rfl, rfl⟩ := q
    exact mm_forL (fun e he => hb e (.tail _ he)) hq
theorem mm_forA {α β : Type} {init : β} {s : Shared} {l : List α} {body : α → β → Sem (ForInStep β)} {Q : β → Shared → Prop} (hb : ∀ e ∈ l, wpAny M A (body e init) (fun st s' => st = .yield init ∧ s' = s) E s) (hq : Q init s) : wpAny M A (forIn l.toArray init body) Q E s := by
  rw [List.forIn_toArray]; exact mm_forL hb hq
theorem mm_entries {a : Addr} {l : List DictEntry} {n : Nat} {Q : Array DictEntry → Shared → Prop} (ho : h.get? a = some (kdict l n)) (hq : Q l.toArray ⟨h, g, d, t, os⟩) : wpAny M A (dictEntries a) Q E ⟨h, g, d, t, os⟩ := by
  unfold dictEntries
  exact wpAny_bind (wpAny_loadPart ho (wpAny_pure hq))
theorem mm_special {v : Value} {T : String} {nm : Str} {s : Shared} {Q : Option Value → Shared → Prop} (hT : typeOf v = pure (.type T)) (hl : typeLookup (.type T) nm = pure none) (hq : Q none s) : wpAny M A (specialOf v nm) Q E s := by
  unfold specialOf
  rw [hT]
  refine wpAny_bind (wpAny_pure ?_)
  rw [hl]
  exact wpAny_pure hq
theorem mm_specialR {a : Addr} {o : Obj} {T : String} {nm : Str} {Q : Option Value → Shared → Prop} (ho : h.get? a = some o) (hc : o.cls = .type T) (hl : typeLookup (.type T) nm = pure none) (hq : Q none ⟨h, g, d, t, os⟩) : wpAny M A (specialOf (.ref a) nm) Q E ⟨h, g, d, t, os⟩ := by
  unfold specialOf typeOf
  refine wpAny_bind (wpAny_bind (wpAny_loadPart ho (wpAny_pure ?_)))
  rw [hc, hl]
  exact wpAny_pure hq
theorem tf_set (T : String) (hT : T ∈ ["str", "int", "list", "function", "NoneType", "tuple", "member_descriptor"]) : typeLookup (.type T) "__set_name__" = pure none := by
  simp only [List.mem_cons, List.not_mem_nil, or_false] at hT
  rcases hT with rfl | rfl | rfl | rfl | rfl | rfl | rfl <;> (rw [typeLookup_type, builtinLookup_eq_fast]; kernel_rfl)
/-- an entry of the class's dict is of a kind without __set_name__ -/
noncomputable def EntOk (h : Heap) (e : DictEntry) : Prop := (∃ k tk, e.key = .str k tk) ∧ laidUnderItsOwnName e.key e.val = false ∧
  ((∃ T, T ∈ ["str", "int", "list", "function", "NoneType", "tuple", "member_descriptor"] ∧ typeOf e.val = pure (.type T)) ∨ ∃ a o T, e.val = .ref a ∧ h.get? a = some o ∧ o.cls = .type T ∧ T ∈ ["str", "int", "list", "function", "NoneType", "tuple", "member_descriptor"])
theorem EntOk.special {e : DictEntry} (k : EntOk h e) {Q : Option Value → Shared → Prop} (hq : Q none ⟨h, g, d, t, os⟩) : wpAny M A (specialOf e.val "__set_name__") Q E ⟨h, g, d, t, os⟩ := by
  rcases k.2.2 with ⟨T, hT, ht⟩ | ⟨a, o, T, hv, ho, hc, hT⟩
  · exact mm_special ht (tf_set T hT) hq
  · rw [hv]; exact mm_specialR ho hc (tf_set T hT) hq
noncomputable def FnAt (h : Heap) (T : String) (a : Addr) : Prop := ∃ o, h.get? a = some o ∧ o.cls = .type T
theorem FnAt.old {T : String} {a : Addr} (k : FnAt h0 T a) (D : Mem h0 h chg news) : FnAt h T a := by
  obtain ⟨o, ho, hc⟩ := k
  exact ⟨o, D.old _ _ ho (by unfold hasCls; rw [hc]; rfl), hc⟩
theorem laid_ref (k : Str) (tk : Tok) (a : Addr) : laidUnderItsOwnName (.str k tk) (.ref a) = false := rfl
theorem ent_ref {hh : Int} {k : String} {tk : Tok} {a : Addr} {T : String} (F : FnAt h T a) (hT : T ∈ ["str", "int", "list", "function", "NoneType", "tuple", "member_descriptor"]) : EntOk h (ent hh k tk (.ref a)) :=
  ⟨⟨_, _, rfl⟩, rfl, .inr (F.elim fun o q => ⟨a, o, T, rfl, q.1, q.2, hT⟩)⟩
end
section
variable {h0 h : Heap} {h1 h3 h4 h5 h6 h7 h8 h9 h10 h11 h12 : Int} {t1 t3 t4 t5 t6 t7 t8 t9 t10 t11 t12 tm ti : Tok} {ln : Int} {md : Str} {sl f1 f2 f3 f4 f5 f6 st m : Addr} {ho hd : Int} {to td : Tok}
theorem ents_ok (hl : FnAt h "list" sl) (k1 : FnAt h "function" f1) (k2 : FnAt h "function" f2) (k3 : FnAt h "function" f3) (k4 : FnAt h "function" f4) (k5 : FnAt h "function" f5) (k6 : FnAt h "function" f6) (ks : FnAt h "tuple" st) (km : FnAt h "member_descriptor" m) :
   ∀ e ∈ kents h1 h3 h4 h5 h6 h7 h8 h9 h10 h11 h12 t1 t3 t4 t5 t6 t7 t8 t9 t10 t11 t12 tm ti ln md sl f1 f2 f3 f4 f5 f6 st ++ [ent ho "obj" to (.ref m), ent hd "__doc__" td .none], EntOk h e := by
  intro e he
  simp only [kents, List.cons_append, List.nil_append, List.mem_cons, List.not_mem_nil, or_false] at he
  have ml : "list" ∈ ["str", "int", "list", "function", "NoneType", "tuple", "member_descriptor"] := by decide
  have mf : "function" ∈ ["str", "int", "list", "function", "NoneType", "tuple", "member_descriptor"] := by decide
  have mt : "tuple" ∈ ["str", "int", "list", "function", "NoneType", "tuple", "member_descriptor"] := by decide
  have mm : "member_descriptor" ∈ ["str", "int", "list", "function", "NoneType", "tuple", "member_descriptor"] := by decide
  rcases he with rfl | rfl | rfl | rfl | rfl | rfl | rfl | rfl | rfl | rfl | rfl | rfl | rfl
  · exact ⟨⟨_, _, rfl⟩, rfl, .inl ⟨"str", by decide, rfl⟩⟩
  · exact ⟨⟨_, _, rfl⟩, rfl, .inl ⟨"int", by decide, rfl⟩⟩
  · exact ent_ref hl ml
  · exact ent_ref k1 mf
  · exact ent_ref k2 mf
  · exact ent_ref k3 mf
  · exact ent_ref k4 mf
  · exact ent_ref k5 mf
  · exact ent_ref k6 mf
  · exact ⟨⟨_, _, rfl⟩, rfl, .inl ⟨"NoneType", by decide, rfl⟩⟩
  · exact ent_ref ks mt
  · exact ent_ref km mm
  · exact ⟨⟨_, _, rfl⟩, rfl, .inl ⟨"NoneType", by decide, rfl⟩⟩
end
end Mine
end
section
open PySem PySem.W PyProof.Rows PySem.W.X PySem.Calls Builtin
set_option Elab.async false
namespace Mine
noncomputable def ksup (a : Addr) : Obj := { cls := .type "super", data := .fields #[.ref a, .ref a, .ref a] }
def closeMem : Lean.MacroM (Lean.TSyntax `tactic) :=
  `(tactic| (rename (∀ _ _, Mem _ _ _ _ → _) => hq9; first | (rename Mem _ _ _ _ => D9; exact hq9 _ _ D9 _) | exact hq9 _ _ (Mem.start _) _))
local macro_rules | `(tactic| x_close) => closeMem
set_option maxRecDepth 100000 in
set_option maxHeartbeats 8000000 in
theorem sup_call {prog : Program} {w : World} {A : Around} {Q : Value → Shared → Prop} {E : Value → Shared → Prop} {h : Heap} {g : Array GenState} {d : Drawn} {t : Nat} {os : OsState} {bT : Addr} {tn tq : Tok} {qn : Str} {N a : Addr}
   (hK : h.get? a = some (kclsF bT tn tq qn N a))
   (hq : ∀ sup h', Mem h h' [] [(sup, ksup a)] → ∀ tk, Q (.ref sup) ⟨h', g, d, tk, os⟩) :
   wpAny (model prog w) A (call (.type "super") [.ref a, .ref a]) Q E ⟨h, g, d, t, os⟩ := by
  unfold kclsF at hK
  x_run
end Mine
end
section
open PySem PySem.W PyProof.Rows PySem.W.X PySem.Calls Builtin
set_option Elab.async false
namespace Mine
theorem tf_own : classOwn (.type "object") "__init_subclass__" = pure (some (.builtin "object.__init_subclass__")) := by kernel_rfl
theorem tf_cmd : typeOf (.builtin "object.__init_subclass__") = pure (.type "classmethod_descriptor") := by kernel_rfl
theorem tf_cmget : typeLookup (.type "classmethod_descriptor") "__get__" = pure (some (.builtin "classmethod_descriptor.__get__")) := by rw [typeLookup_type, builtinLookup_eq_fast]; kernel_rfl
section
variable {prog : Program} {w : World} {M : Model} {A : Around} {E : Value → Shared → Prop} {h : Heap} {g : Array GenState} {d : Drawn} {t : Nat} {os : OsState}
theorem mm_notOpaque {what how : String} {a : Addr} {Q : Unit → Shared → Prop} (hno : Looks M h anyOpaqueLoaded false) (hq : Q () ⟨h, g, d, t, os⟩) : wpAny M A (notOfAnOpaqueClass what how (.ref a)) Q E ⟨h, g, d, t, os⟩ := by
  unfold notOfAnOpaqueClass opaqueClassAbove
  refine wpAny_bind ?_
  dsimp only
  refine wpAny_bind (hno.here ?_)
  refine wpAny_pure (wpAny_pure hq)
theorem mm_forD {β : Type} {c : Value} {l : List Value} {init : β} {body : Value → β → Sem (ForInStep β)} {s : Shared} {Q : β → Shared → Prop} (hl : l = [c]) (h : wpAny M A (body c init) (fun st s' => match st with | .done b => Q b s' | .yield b => Q b s') E s) : wpAny M A (forIn l init body) Q E s := mm_forIn1 hl h
theorem drop_self (a : Addr) : ([Value.ref a, Value.type "object"].dropWhile (· != .ref a)).drop 1 = [Value.type "object"] := by simp
set_option maxRecDepth 100000 in
theorem ga_sup {so bT N a : Addr} {tn tq : Tok} {qn : Str} {tk : Tok} {Q : Fin → Shared → Prop} (hso : h.get? so = some (ksup a)) (hK : h.get? a = some (kclsF bT tn tq qn N a)) (hno : Looks (model prog w) h anyOpaqueLoaded false)
   (hq : wpAny (model prog w) A (call (.builtin "classmethod_descriptor.__get__") [.builtin "object.__init_subclass__", .none, .ref a]) (fun v s' => Q (.done (.ret v)) s') E ⟨h, g, d, t, os⟩) :
   wpAny (model prog w) A (Builtin.«super.__getattribute__» ⟨[.ref so, .str "__init_subclass__" tk], []⟩) Q E ⟨h, g, d, t, os⟩ := by
  have hdt : (ksup a).data = .fields #[.ref a, .ref a, .ref a] := rfl
  have f0 : (#[.ref a, .ref a, .ref a] : Array Value)[0]? = some (.ref a) := rfl
  have f1 : (#[.ref a, .ref a, .ref a] : Array Value)[1]? = some (.ref a) := rfl
  have f2 : (#[.ref a, .ref a, .ref a] : Array Value)[2]? = some (.ref a) := rfl
  have hn : (Str.ofString "__init_subclass__" == Str.ofString "__class__") = false := by decide +kernel
  unfold Builtin.«super.__getattribute__»
  repeat (first
    | (with_reducible refine wpAny_field hso hdt f0 ?_) | (with_reducible refine wpAny_field hso hdt f1 ?_) | (with_reducible refine wpAny_field hso hdt f2 ?_)
    | (with_reducible refine mm_notOpaque hno ?_)
    | (with_reducible refine mm_mro hK rfl ?_)
    | (refine mm_forIn1 (drop_self a) ?_)
    | ((with_reducible show wpAny _ _ (call _ _) _ _ _); refine Blk.mk ?_)
    | (with_reducible refine wpAny_of_eq tf_own ?_)
    | (with_reducible refine wpAny_of_eq tf_cmd ?_)
    | (with_reducible refine wpAny_of_eq tf_cmget ?_)
    | (simp only [hn, Bool.or_false, Bool.false_eq_true, if_false])
    | wp_step
    | dsimp only)
  refine Blk.out ?_
  have e : (if (Value.ref a == Value.ref a) = true then Value.none else Value.ref a) = Value.none := by simp
  rw [e]
  refine wpAny_mono hq (fun v s' q => ?_) fun _ _ e => e
  repeat (first | wp_step | dsimp only)
  all_goals exact q
theorem ga_call {bT N a so : Addr} {tn tq : Tok} {qn : Str} {Q : Value → Shared → Prop} (hso : h.get? so = some (ksup a)) (hK : h.get? a = some (kclsF bT tn tq qn N a)) (hno : Looks (model prog w) h anyOpaqueLoaded false)
   (hq : ∀ A', wpAny (model prog w) A' (call (.builtin "classmethod_descriptor.__get__") [.builtin "object.__init_subclass__", .none, .ref a]) (fun v s' => ∃ x, v = .ref x ∧ Q v s') (fun _ _ => False) ⟨h, g, d, t + 1, os⟩) :
   wpAny (model prog w) A (getAttr (.ref so) "__init_subclass__") Q E ⟨h, g, d, t, os⟩ := by
  have hlk := F.ks_slot_super_ga.lookup
  have hT : ∀ t', (⟨h, g, d, t', os⟩ : Shared).TypeIs (.ref so) "super" := fun _ => ⟨_, hso, rfl⟩
  unfold getAttr getAttrBy
  refine wpAny_bind (wpAny_mkText (wpAny_holding (wpAny_bind (wpAny_typeOf (hT _) (wpAny_bind (wpAny_of_eq hlk ?_))))))
  show wpAny _ _ (getAttrByItsOwn (.ref so) (.str "__init_subclass__" t) (.type "super") (.builtin "super.__getattribute__") true false) _ _ _
  unfold getAttrByItsOwn hookBefore callGetattribute boundAndCalled
  refine wpAny_bind (wpAny_of_eq (show (if onTheHeap (.type "super") then typeLookup (.type "super") "__getattr__" else pure none) = pure none from rfl) ?_)
  refine wpAny_bind (wpAny_attempt (wpAny_holding ?_))
  show wpAny _ _ (bindSpecial (.builtin "super.__getattribute__") (.ref so) >>= _) _ _ _
  refine wpAny_bind (wpAny_of_eq (F.ks_slot_super_ga.bind _) ?_)
  refine wpAny_mono (Q := fun v s' => ∃ x, v = .ref x ∧ Q v s') (E := fun _ _ => False)
    (wpAny_call_entry F.ks_slot_super_ga (hT _) F.ks_entry_super_ga (ga_sup hso hK hno (wpAny_mono (hq _) (fun v s' k => ⟨_, rfl, k⟩) fun _ _ z => z)) (F.ks_gaArgs_super _ _)) (fun v s' hv => ?_) fun _ _ z => z.elim
  obtain ⟨x, rfl, q⟩ := hv
  exact wpAny_pure q
end
end Mine
end
section
open PySem PySem.W PyProof.Rows PySem.W.X PySem.Calls Builtin
set_option Elab.async false
namespace Mine
noncomputable def kbm (a : Addr) : Obj := { cls := .type "builtin_function_or_method", data := .fields #[.builtin "object.__init_subclass__", .ref a] }
local macro_rules | `(tactic| x_close) => closeMem
set_option maxRecDepth 100000 in
set_option maxHeartbeats 8000000 in
theorem cm_get {prog : Program} {w : World} {A : Around} {Q : Value → Shared → Prop} {E : Value → Shared → Prop} {h : Heap} {g : Array GenState} {d : Drawn} {t : Nat} {os : OsState} {bT : Addr} {tn tq : Tok} {qn : Str} {N a : Addr}
   (hK : h.get? a = some (kclsF bT tn tq qn N a))
   (hq : ∀ m h', Mem h h' [] [(m, kbm a)] → ∀ tk, Q (.ref m) ⟨h', g, d, tk, os⟩) :
   wpAny (model prog w) A (call (.builtin "classmethod_descriptor.__get__") [.builtin "object.__init_subclass__", .none, .ref a]) Q E ⟨h, g, d, t, os⟩ := by
  unfold kclsF at hK
  x_run
local macro_rules | `(tactic| x_close) => closeMem
set_option maxRecDepth 100000 in
set_option maxHeartbeats 8000000 in
theorem bm_call {prog : Program} {w : World} {A : Around} {Q : Value → Shared → Prop} {E : Value → Shared → Prop} {h : Heap} {g : Array GenState} {d : Drawn} {t : Nat} {os : OsState} {bT m : Addr} {tn tq : Tok} {qn : Str} {N a : Addr}
   (hK : h.get? a = some (kclsF bT tn tq qn N a)) (hm : h.get? m = some (kbm a)) (hqn : qn = Str.ofString "cmp_to_key.<locals>.K")
   (hq : ∀ h' news, Mem h h' [] news → ∀ tk, Q .none ⟨h', g, d, tk, os⟩) :
   wpAny (model prog w) A (call (.ref m) []) Q E ⟨h, g, d, t, os⟩ := by
  unfold kclsF at hK
  unfold kbm at hm
  subst hqn
  x_run
end Mine
namespace Mine
theorem mem_keep {h0 h : Heap} {news : List (Addr × Obj)} (D : Mem h0 h [] news) : ∀ b o, h0.get? b = some o → h.get? b = some o := fun b o e => D.keep b o e (by simp [away])
theorem mem_then {h0 h h' : Heap} {news : List (Addr × Obj)} (D : Mem h0 h [] news) (k : ∀ b o, h.get? b = some o → h'.get? b = some o) : Mem h0 h' [] news :=
  ⟨fun b o e _ => k _ _ (mem_keep D b o e), fun _ hp => (nomatch hp), List.nodup_nil, fun p hp => ⟨k _ _ (D.nw p hp).1, (D.nw p hp).2⟩, D.ord⟩
end Mine
end
section
open PySem PySem.W PyProof.Rows PySem.Calls Builtin
set_option Elab.async false
namespace Mine
noncomputable def passS : Stmt := .Pass ⟨0, 0, 0, 0⟩
noncomputable def isFnS (n : Str) : Stmt → Bool
  | .FunctionDef m .. => decide (m = n)
  | _ => false
noncomputable def findFn (p : Program) (n : Str) : Stmt := (p.main.body.find? (isFnS n)).getD passS
noncomputable def fnBody : Stmt → List Stmt
  | .FunctionDef _ _ b .. => b
  | _ => []
noncomputable def clsBody : Stmt → List Stmt
  | .ClassDef _ _ _ b .. => b
  | _ => []
noncomputable def kBody : List Stmt := clsBody ((fnBody (findFn PySem.Challenge.pw_mq0210_02 "cmp_to_key")).headD passS)
noncomputable def kInit : Stmt := kBody.getD 2 passS
noncomputable def kLt : Stmt := kBody.getD 3 passS
noncomputable def fnName : Stmt → Str | .FunctionDef n .. => n | _ => default
noncomputable def fnArgs : Stmt → Arguments | .FunctionDef _ a .. => a | _ => default
noncomputable def fnScope : Stmt → Scope | .FunctionDef _ _ _ _ _ _ s .. => s | _ => default
noncomputable def fnMadeS (st : Stmt) (qual : Str) (clos : List (Str × Addr)) (doc pm : Value) (c' : Addr) (ctv : Value) : Obj := fnMade (fnName st) qual (fnArgs st) (fnBody st) (fnScope st) clos doc pm c' ctv
noncomputable def NewAt (hA h : Heap) (l : List (Addr × Obj)) : Prop := ∀ p ∈ l, h.get? p.1 = some p.2 ∧ hA.get? p.1 = none
/-- the objects of a class made by cmp_to_key: cell holds mycmp -/
inductive KList (cell K9 : Addr) (kn : List (Addr × Obj)) : Prop
  | mk (bT N m fi fl ci cl sl f3 f4 f5 f6 st : Addr) (oci ocl : Obj) (vi vl : Array Value) (ui ul : Tok) (pm doci docl ctvi ctvl : Value)
      (tn tq t1' t1 t3 t4 t5 t6 t7 t8 t9 t10 t11 t12 tm ti to td : Tok) (h1 h3 h4 h5 h6 h7 h8 h9 h10 h11 h12 ho hd ln : Int) (md : Str) (n : Nat)
    (e : kn = [(K9, kclsF bT tn tq "cmp_to_key.<locals>.K" N K9), (m, kmem t1' K9),
      (N, kdict (kents h1 h3 h4 h5 h6 h7 h8 h9 h10 h11 h12 t1 t3 t4 t5 t6 t7 t8 t9 t10 t11 t12 tm ti ln md sl fi fl f3 f4 f5 f6 st ++ [ent ho "obj" to (.ref m), ent hd "__doc__" td .none]) n),
      (fi, fnMadeS kInit "cmp_to_key.<locals>.K.__init__" [] doci pm ci ctvi), (fl, fnMadeS kLt "cmp_to_key.<locals>.K.__lt__" [(Str.ofString "mycmp", cell)] docl pm cl ctvl), (ci, oci), (cl, ocl)])
    (r1 : oci.data = .fields vi) (r2 : vi[1]? = some (.str "cmp_to_key.<locals>.K.__init__" ui)) (r3 : ocl.data = .fields vl) (r4 : vl[1]? = some (.str "cmp_to_key.<locals>.K.__lt__" ul))
    (r5 : [K9, m, N, fi, fl, ci, cl].Nodup) : KList cell K9 kn
/-- what a call of cmp_to_key leaves: K9 is the class -/
structure KRes (hA : Heap) (s₀ : Shared) (cell K9 : Addr) (s9 : Shared) : Prop where
  st : s9.gens = s₀.gens ∧ s9.drawn = s₀.drawn ∧ s9.os = s₀.os
  old : ∀ b o, hA.get? b = some o → b ≠ 16 → s9.heap.get? b = some o
  tab : ∃ ps, s9.heap.get? 16 = some (tabObj ps)
  new : ∃ kn, NewAt hA s9.heap kn ∧ KList cell K9 kn
end Mine
end
section
open PySem PySem.W PyProof.Rows PySem.Calls Builtin
set_option Elab.async false
namespace Mine
theorem kres_news {g' h' : Heap} {L' cell K9 : Addr} {own rest : List (Addr × Obj)} {oc : Obj} {mm : Str → Option Value} {s₀ s9 : Shared} (F' : Fr g' L' h' mm) (N' : News g' L' h' ((L' + 1, oc) :: (own ++ (16, tabObj #[]) :: rest)))
   (hl : 16 < L') (ho : ∀ p ∈ own, p.1 ≠ 16) (hr : ∀ p ∈ rest, p.1 ≠ 16) (R : KRes h' s₀ cell K9 s9) :
   Fr g' L' s9.heap mm ∧ ∃ kn ps, KList cell K9 kn ∧ News g' L' s9.heap (kn ++ (L' + 1, oc) :: (own ++ (16, tabObj ps) :: rest)) := by
  obtain ⟨⟨e1, e2, e3⟩, old, ⟨ps, hps⟩, new⟩ := R
  obtain ⟨kn, new, hkl⟩ := new
  have n30 := N' (16, tabObj #[]) (.tail _ (List.mem_append_right _ (.head _)))
  have g30 : g'.get? 16 = none := n30.2.2
  have keepL : ∀ b o, g'.get? b = some o → s9.heap.get? b = some o := fun b o e => old b o (F'.keep b o e) fun q => by rw [q, g30] at e; cases e
  have F9 : Fr g' L' s9.heap mm := ⟨F'.ns.at fun o e => old L' o e (Nat.ne_of_gt hl), keepL, F'.above⟩
  refine ⟨F9, kn, ps, hkl, fun p hp => ?_⟩
  obtain ⟨oL, _, _, hL, _⟩ := F'.ns
  rcases List.mem_append.mp hp with hp | hp
  · have q := new p hp
    refine ⟨q.1, fun e => ?_, ?_⟩
    · rw [e, hL] at q; cases q.2
    · cases z : g'.get? p.1 with
      | none => rfl
      | some o => have := F'.keep _ _ z; rw [q.2] at this; cases this
  · rcases List.mem_cons.mp hp with rfl | hp
    · have q := N' _ (.head _)
      exact ⟨old _ _ q.1 (Nat.ne_of_gt (Nat.lt_succ_of_lt hl)), q.2⟩
    · rcases List.mem_append.mp hp with hp' | hp'
      · have q := N' p (.tail _ (List.mem_append_left _ hp'))
        exact ⟨old _ _ q.1 (ho p hp'), q.2⟩
      · rcases List.mem_cons.mp hp' with rfl | hp'
        · exact ⟨hps, n30.2⟩
        · have q := N' p (.tail _ (List.mem_append_right _ (.tail _ hp')))
          exact ⟨old _ _ q.1 (hr p hp'), q.2⟩
end Mine
end
section
open PySem PySem.W PyProof.Rows PySem.W.X PySem.Calls Builtin
set_option Elab.async false
namespace Mine
set_option maxRecDepth 100000 in
set_option maxHeartbeats 8000000 in
set_option linter.unusedSimpArgs false in
theorem tnew {prog : Program} {w : World} {A : Around} {Q : Fin → Shared → Prop} {E : Value → Shared → Prop} {h : Heap} {g : Array GenState} {d : Drawn} {t : Nat} {os : OsState} {tn : Tok} {bT nsA sl f1 f2 f3 f4 f5 f6 st : Addr} {n : Nat}
   {h1 h2 h3 h4 h5 h6 h7 h8 h9 h10 h11 h12 : Int} {t1 t2 t3 t4 t5 t6 t7 t8 t9 t10 t11 t12 tm tq ti ts : Tok} {ln : Int} {md qn : Str} {es : List DictEntry}
   (hes : es = [ent h1 "__module__" t1 (.str md tm), ent h2 "__qualname__" t2 (.str qn tq), ent h3 "__firstlineno__" t3 (.int ln ti), ent h4 "__slots__" t4 (.ref sl), ent h5 "__init__" t5 (.ref f1), ent h6 "__lt__" t6 (.ref f2), ent h7 "__gt__" t7 (.ref f3), ent h8 "__eq__" t8 (.ref f4), ent h9 "__le__" t9 (.ref f5), ent h10 "__ge__" t10 (.ref f6), ent h11 "__hash__" t11 .none, ent h12 "__static_attributes__" t12 (.ref st)])
   (hT : h.get? bT = some { cls := .type "tuple", data := .seq #[.type "object"] 0 }) (hN : h.get? nsA = some { cls := .type "dict", data := .dict es.toArray n })
   (hL : h.get? sl = some { cls := .type "list", data := .seq #[.str "obj" ts] 0 })
   (hsm : (nsA == sysModules) = false) (k1 : FnAt h "function" f1) (k2 : FnAt h "function" f2) (k3 : FnAt h "function" f3) (k4 : FnAt h "function" f4) (k5 : FnAt h "function" f5) (k6 : FnAt h "function" f6) (ks : FnAt h "tuple" st) (hno : Looks (model prog w) h anyOpaqueLoaded false) (hqn : qn = Str.ofString "cmp_to_key.<locals>.K")
   (hQ : ∀ (m a N : Addr) (h' : Heap) (ho hd : Int) (t1' t2' t3' tk' : Tok) (n' : Nat), Mem h h' [] [(m, kmem t1' a), (a, kclsF bT tn tq qn N a), (N, kdict (kents h1 h3 h4 h5 h6 h7 h8 h9 h10 h11 h12 t1 t3 t4 t5 t6 t7 t8 t9 t10 t11 t12 tm ti ln md sl f1 f2 f3 f4 f5 f6 st ++ [ent ho "obj" t2' (.ref m), ent hd "__doc__" t3' .none]) n')] → Q (.done (.ret (.ref a))) ⟨h', g, d, tk', os⟩) :
   wpAny (model prog w) A (Builtin.«type.__new__» ⟨[.type "type", .str (Str.ofString "K") tn, .ref bT, .ref nsA], []⟩) Q E ⟨h, g, d, t, os⟩ := by
  have e1 : isSubtype (.type "tuple") (.type "tuple") = pure true := by rw [isSubtype_type]; kernel_rfl
  have e2 : isSubtype (.type "dict") (.type "dict") = pure true := by rw [isSubtype_type]; kernel_rfl
  have e3 : isSubtype (.type "type") (.type "type") = pure true := by rw [isSubtype_type]; kernel_rfl
  have e4 : isType (.type "object") = pure true := by kernel_rfl
  have e5 : typeOf (.type "object") = pure (.type "type") := by kernel_rfl
  have e6 : typeLookup (.type "dict") "__iter__" = pure (some (.builtin "dict.__iter__")) := by rw [typeLookup_type, builtinLookup_eq_fast]; kernel_rfl
  have e7 : (es.toArray.isEmpty || some (Value.builtin "dict.__iter__") == some (Value.builtin "dict.__iter__")) = true := by simp
  have e8 : (es.toArray.any fun x => x.key.isStr "__module__") = true := by rw [hes, List.any_toArray]; rfl
  have e9 : typeLookup (.type "type") "mro" = pure (some (.builtin "type.mro")) := by rw [typeLookup_type, builtinLookup_eq_fast]; kernel_rfl
  have e10 : linearize [.type "object"] mroOf = pure [.type "object"] := by kernel_rfl
  have a1 : ((Str.ofString "K").cps.any fun c => decide (55296 ≤ c) && decide (c ≤ 57343)) = false := by decide +kernel
  have a2 : (Str.ofString "K").cps.contains 0 = false := by decide +kernel
  have hsz : es.toArray.size ≤ sizeLine + 1 := by rw [hes, sizeLine_eq]; exact Nat.le_of_ble_eq_true rfl
  unfold Builtin.«type.__new__»
  wp_walk using wp_nota, wp_ext, stop_read
  rotate_left
  · rfl
  · rfl
  refine Blk.out ?_
  dsimp -zeta only [Option.getD, List.isEmpty, Bool.false_eq_true, if_false]
  refine slots_read (hh := h4) (tt := t4) (sl := sl) (ts := ts) ?_ ⟨_, hL, rfl, _, rfl⟩ hL ?_ ?_
  · rw [hes, List.find?_toArray]; rfl
  · rw [hes, List.any_toArray]; rfl
  intro h' hk
  have D : Mem h h' [] [] := ⟨fun b o e _ => hk b o e, fun _ hp => (nomatch hp), List.nodup_nil, fun _ hp => (nomatch hp), List.Pairwise.nil⟩
  clear hk
  subst hes
  iterate 70 (first
    | (first | ((with_reducible show wpAny _ _ (List.anyM _ _) _ _ _); refine Blk.mk ?_) | ((with_reducible show wpAny _ _ (mroHook? _) _ _ _); refine Blk.mk ?_) | ((with_reducible show wpAny _ _ (linearize _ _) _ _ _); refine Blk.mk ?_) | ((with_reducible show wpAny _ _ (Bind.refreshMaker _) _ _ _); refine Blk.mk ?_) | ((with_reducible show wpAny _ _ (Bind.madeBy _) _ _ _); refine Blk.mk ?_) | ((with_reducible show wpAny _ _ (Slots.install _ _ _ _) _ _ _); refine Blk.mk ?_) | ((with_reducible show wpAny _ _ (getAttr _ _) _ _ _); refine Blk.mk ?_) | ((with_reducible show wpAny _ _ (call _ _) _ _ _); refine Blk.mk ?_))
    | ((with_reducible refine' mm_ite_f ?hc ?_); (case hc => (simp only [e8, a1, a2, List.isEmpty_cons, List.isEmpty_nil, Option.isNone_some, Option.isNone_none, Option.isSome_some, Option.isSome_none, Bool.not_true, Bool.not_false, Bool.false_eq_true, decide_false, decide_true, Bool.or_false, Bool.false_or]; done)))
    | ((with_reducible refine' mm_ite_t ?hc ?_); (case hc => (simp only [e8, a1, a2, List.isEmpty_cons, List.isEmpty_nil, Option.isNone_some, Option.isNone_none, Option.isSome_some, Option.isSome_none, Bool.not_true, Bool.not_false, Bool.false_eq_true, decide_false, decide_true, Bool.or_false, Bool.false_or]; done)))
    | (first | ((with_reducible refine' mm_nsGet ?ho ?hl ?_); (case ho => ((rename Mem _ _ _ _ => D'; first | exact Mem.at D' 0 _ _ rfl | exact Mem.at D' 1 _ _ rfl | exact Mem.at D' 2 _ _ rfl | exact Mem.at D' 3 _ _ rfl | exact Mem.at D' 4 _ _ rfl | exact Mem.at D' 5 _ _ rfl | exact Mem.old D' _ _ (by assumption) rfl))); (case hl => rfl)) | ((with_reducible refine' mm_nsHas ?hl ?_); (case hl => rfl)) | ((with_reducible apply PySem.wpAny_loadPart'); focus (((rename Mem _ _ _ _ => D'; first | exact Mem.at D' 0 _ _ rfl | exact Mem.at D' 1 _ _ rfl | exact Mem.at D' 2 _ _ rfl | exact Mem.at D' 3 _ _ rfl | exact Mem.at D' 4 _ _ rfl | exact Mem.at D' 5 _ _ rfl | exact Mem.old D' _ _ (by assumption) rfl)))) | ((with_reducible apply PySem.wpAny_load'); focus (((rename Mem _ _ _ _ => D'; first | exact Mem.at D' 0 _ _ rfl | exact Mem.at D' 1 _ _ rfl | exact Mem.at D' 2 _ _ rfl | exact Mem.at D' 3 _ _ rfl | exact Mem.at D' 4 _ _ rfl | exact Mem.at D' 5 _ _ rfl | exact Mem.old D' _ _ (by assumption) rfl)))) | (rename Mem _ _ _ _ => D'; (with_reducible refine' mm_updatePart (i := 0) D' ?hi ?hf ?_); (case hi => rfl); (case hf => rfl); ((intro _ D9; (try dsimp only [List.set] at D9)))) | (rename Mem _ _ _ _ => D'; (with_reducible refine' mm_updatePart (i := 1) D' ?hi ?hf ?_); (case hi => rfl); (case hf => rfl); ((intro _ D9; (try dsimp only [List.set] at D9)))) | (rename Mem _ _ _ _ => D'; (with_reducible refine' mm_updatePart (i := 2) D' ?hi ?hf ?_); (case hi => rfl); (case hf => rfl); ((intro _ D9; (try dsimp only [List.set] at D9)))) | (rename Mem _ _ _ _ => D'; (with_reducible refine' mm_update (i := 0) D' ?hi ?hf ?_); (case hi => rfl); (case hf => rfl); ((intro _ D9; (try dsimp only [List.set] at D9)))) | (rename Mem _ _ _ _ => D'; (with_reducible refine' mm_update (i := 1) D' ?hi ?hf ?_); (case hi => rfl); (case hf => rfl); ((intro _ D9; (try dsimp only [List.set] at D9)))) | (rename Mem _ _ _ _ => D'; (with_reducible refine' mm_update (i := 2) D' ?hi ?hf ?_); (case hi => rfl); (case hf => rfl); ((intro _ D9; (try dsimp only [List.set] at D9)))) | (rename Mem _ _ _ _ => D'; (with_reducible refine' mm_newObj D' ?hf ?_ ?hz); (case hf => rfl); (case hz => first | (show _ ≤ sizeLine + 1; assumption) | (show _ ≤ sizeLine + 2; rw [sizeLine_eq]; exact Nat.le_of_ble_eq_true rfl)); intro _ _ D9) | (rename Mem _ _ _ _ => D'; (with_reducible refine' mm_alloc D' ?hf ?_); (case hf => rfl); intro _ _ D9)) | wp_step | skip)
  refine Blk.out ?_
  refine wpAny_of_eq tf_mroType ?_
  iterate 16 (first
    | (first | ((with_reducible show wpAny _ _ (Bind.refreshMaker _) _ _ _); refine Blk.mk ?_) | ((with_reducible show wpAny _ _ (getAttr _ _) _ _ _); refine Blk.mk ?_) | ((with_reducible show wpAny _ _ (call _ _) _ _ _); refine Blk.mk ?_))
    | ((with_reducible show wpAny _ _ (linearize _ _) _ _ _); refine wpAny_of_eq tf_lin ?_)
    | ((with_reducible show wpAny _ _ (List.anyM _ _) _ _ _); refine mm_anyM (v := .type "object") (tf_filter _) (congrArg (fun b => (pure b : Sem Bool)) tf_del) ?_)
    | ((with_reducible show wpAny _ _ (Bind.madeBy _) _ _ _); refine wpAny_of_eq tf_maker ?_)
    | ((with_reducible show wpAny _ _ (Slots.givesWeak _) _ _ _); refine wpAny_of_eq tf_weak ?_)
    | ((with_reducible show wpAny _ _ (Slots.givesDict _) _ _ _); refine wpAny_of_eq tf_dict ?_)
    | (first | (rename Mem _ _ _ _ => D'; (with_reducible refine' mm_updateCls (i := 0) D' ?hi ?hp ?_); (case hi => rfl); (case hp => rfl); ((intro _ D9; (try dsimp only [List.set] at D9)))) | (rename Mem _ _ _ _ => D'; (with_reducible refine' mm_updateCls (i := 1) D' ?hi ?hp ?_); (case hi => rfl); (case hp => rfl); ((intro _ D9; (try dsimp only [List.set] at D9)))) | (rename Mem _ _ _ _ => D'; (with_reducible refine' mm_updateCls (i := 2) D' ?hi ?hp ?_); (case hi => rfl); (case hp => rfl); ((intro _ D9; (try dsimp only [List.set] at D9)))))
    | ((with_reducible refine' mm_ite_f ?hc ?_); (case hc => (simp only [e8, a1, a2, List.isEmpty_cons, List.isEmpty_nil, Option.isNone_some, Option.isNone_none, Option.isSome_some, Option.isSome_none, Bool.not_true, Bool.not_false, Bool.false_eq_true, decide_false, decide_true, Bool.or_false, Bool.false_or]; done)))
    | ((with_reducible refine' mm_ite_t ?hc ?_); (case hc => (simp only [e8, a1, a2, List.isEmpty_cons, List.isEmpty_nil, Option.isNone_some, Option.isNone_none, Option.isSome_some, Option.isSome_none, Bool.not_true, Bool.not_false, Bool.false_eq_true, decide_false, decide_true, Bool.or_false, Bool.false_or]; done)))
    | (first | ((with_reducible refine' mm_nsGet ?ho ?hl ?_); (case ho => ((rename Mem _ _ _ _ => D'; first | exact Mem.at D' 0 _ _ rfl | exact Mem.at D' 1 _ _ rfl | exact Mem.at D' 2 _ _ rfl | exact Mem.at D' 3 _ _ rfl | exact Mem.at D' 4 _ _ rfl | exact Mem.at D' 5 _ _ rfl | exact Mem.old D' _ _ (by assumption) rfl))); (case hl => rfl)) | ((with_reducible refine' mm_nsHas ?hl ?_); (case hl => rfl)) | ((with_reducible apply PySem.wpAny_loadPart'); focus (((rename Mem _ _ _ _ => D'; first | exact Mem.at D' 0 _ _ rfl | exact Mem.at D' 1 _ _ rfl | exact Mem.at D' 2 _ _ rfl | exact Mem.at D' 3 _ _ rfl | exact Mem.at D' 4 _ _ rfl | exact Mem.at D' 5 _ _ rfl | exact Mem.old D' _ _ (by assumption) rfl)))) | ((with_reducible apply PySem.wpAny_load'); focus (((rename Mem _ _ _ _ => D'; first | exact Mem.at D' 0 _ _ rfl | exact Mem.at D' 1 _ _ rfl | exact Mem.at D' 2 _ _ rfl | exact Mem.at D' 3 _ _ rfl | exact Mem.at D' 4 _ _ rfl | exact Mem.at D' 5 _ _ rfl | exact Mem.old D' _ _ (by assumption) rfl)))) | (rename Mem _ _ _ _ => D'; (with_reducible refine' mm_updatePart (i := 0) D' ?hi ?hf ?_); (case hi => rfl); (case hf => rfl); ((intro _ D9; (try dsimp only [List.set] at D9)))) | (rename Mem _ _ _ _ => D'; (with_reducible refine' mm_updatePart (i := 1) D' ?hi ?hf ?_); (case hi => rfl); (case hf => rfl); ((intro _ D9; (try dsimp only [List.set] at D9)))) | (rename Mem _ _ _ _ => D'; (with_reducible refine' mm_updatePart (i := 2) D' ?hi ?hf ?_); (case hi => rfl); (case hf => rfl); ((intro _ D9; (try dsimp only [List.set] at D9)))) | (rename Mem _ _ _ _ => D'; (with_reducible refine' mm_update (i := 0) D' ?hi ?hf ?_); (case hi => rfl); (case hf => rfl); ((intro _ D9; (try dsimp only [List.set] at D9)))) | (rename Mem _ _ _ _ => D'; (with_reducible refine' mm_update (i := 1) D' ?hi ?hf ?_); (case hi => rfl); (case hf => rfl); ((intro _ D9; (try dsimp only [List.set] at D9)))) | (rename Mem _ _ _ _ => D'; (with_reducible refine' mm_update (i := 2) D' ?hi ?hf ?_); (case hi => rfl); (case hf => rfl); ((intro _ D9; (try dsimp only [List.set] at D9)))) | (rename Mem _ _ _ _ => D'; (with_reducible refine' mm_newObj D' ?hf ?_ ?hz); (case hf => rfl); (case hz => first | (show _ ≤ sizeLine + 1; assumption) | (show _ ≤ sizeLine + 2; rw [sizeLine_eq]; exact Nat.le_of_ble_eq_true rfl)); intro _ _ D9) | (rename Mem _ _ _ _ => D'; (with_reducible refine' mm_alloc D' ?hf ?_); (case hf => rfl); intro _ _ D9)) | wp_step | skip)
  refine Blk.out ?_
  rename Mem _ _ _ _ => D1
  have D2 := mem_to (kcls bT tn tq qn) D1 (by simp only [ns_del, Bool.or_false]; kernel_rfl) ns_drop
  clear D1
  refine mm_refresh (D2.at 0 _ _ rfl) rfl rfl (D2.at 1 _ _ rfl) (ns_none (by decide)) rfl ?_
  iterate 19 (first
    | ((with_reducible show wpAny _ _ (nsSetByValue _ _ _) _ _ _); refine Blk.mk ?_)
    | (first | ((with_reducible show wpAny _ _ (Bind.refreshMaker _) _ _ _); refine Blk.mk ?_) | ((with_reducible show wpAny _ _ (getAttr _ _) _ _ _); refine Blk.mk ?_) | ((with_reducible show wpAny _ _ (call _ _) _ _ _); refine Blk.mk ?_))
    | ((with_reducible show wpAny _ _ (Slots.givesWeak _) _ _ _); refine wpAny_of_eq tf_weak ?_)
    | ((with_reducible show wpAny _ _ (Slots.givesDict _) _ _ _); refine wpAny_of_eq tf_dict ?_)
    | ((with_reducible show wpAny _ _ (nsGet _ _) _ _ _); refine mm_nsGet (D2.at 1 _ _ rfl) (ns_none (by decide)) ?_)
    | (first | (rename Mem _ _ _ _ => D'; (with_reducible refine' mm_updateCls (i := 0) D' ?hi ?hp ?_); (case hi => rfl); (case hp => rfl); ((intro _ D9; (try dsimp only [List.set] at D9)))) | (rename Mem _ _ _ _ => D'; (with_reducible refine' mm_updateCls (i := 1) D' ?hi ?hp ?_); (case hi => rfl); (case hp => rfl); ((intro _ D9; (try dsimp only [List.set] at D9)))) | (rename Mem _ _ _ _ => D'; (with_reducible refine' mm_updateCls (i := 2) D' ?hi ?hp ?_); (case hi => rfl); (case hp => rfl); ((intro _ D9; (try dsimp only [List.set] at D9)))))
    | ((with_reducible refine' mm_ite_f ?hc ?_); (case hc => (simp only [List.isEmpty_cons, List.isEmpty_nil, Option.isNone_some, Option.isNone_none, Option.isSome_some, Option.isSome_none, Bool.not_true, Bool.not_false, Bool.false_eq_true, decide_false, decide_true, Bool.or_false, Bool.false_or]; done)))
    | ((with_reducible refine' mm_ite_t ?hc ?_); (case hc => (simp only [List.isEmpty_cons, List.isEmpty_nil, Option.isNone_some, Option.isNone_none, Option.isSome_some, Option.isSome_none, Bool.not_true, Bool.not_false, Bool.false_eq_true, decide_false, decide_true, Bool.or_false, Bool.false_or]; done)))
    | (first | ((with_reducible refine' mm_nsGet ?ho ?hl ?_); (case ho => ((rename Mem _ _ _ _ => D'; first | exact Mem.at D' 0 _ _ rfl | exact Mem.at D' 1 _ _ rfl | exact Mem.at D' 2 _ _ rfl | exact Mem.at D' 3 _ _ rfl | exact Mem.at D' 4 _ _ rfl | exact Mem.at D' 5 _ _ rfl | exact Mem.old D' _ _ (by assumption) rfl))); (case hl => rfl)) | ((with_reducible refine' mm_nsHas ?hl ?_); (case hl => rfl)) | ((with_reducible apply PySem.wpAny_loadPart'); focus (((rename Mem _ _ _ _ => D'; first | exact Mem.at D' 0 _ _ rfl | exact Mem.at D' 1 _ _ rfl | exact Mem.at D' 2 _ _ rfl | exact Mem.at D' 3 _ _ rfl | exact Mem.at D' 4 _ _ rfl | exact Mem.at D' 5 _ _ rfl | exact Mem.old D' _ _ (by assumption) rfl)))) | ((with_reducible apply PySem.wpAny_load'); focus (((rename Mem _ _ _ _ => D'; first | exact Mem.at D' 0 _ _ rfl | exact Mem.at D' 1 _ _ rfl | exact Mem.at D' 2 _ _ rfl | exact Mem.at D' 3 _ _ rfl | exact Mem.at D' 4 _ _ rfl | exact Mem.at D' 5 _ _ rfl | exact Mem.old D' _ _ (by assumption) rfl)))) | (rename Mem _ _ _ _ => D'; (with_reducible refine' mm_updatePart (i := 0) D' ?hi ?hf ?_); (case hi => rfl); (case hf => rfl); ((intro _ D9; (try dsimp only [List.set] at D9)))) | (rename Mem _ _ _ _ => D'; (with_reducible refine' mm_updatePart (i := 1) D' ?hi ?hf ?_); (case hi => rfl); (case hf => rfl); ((intro _ D9; (try dsimp only [List.set] at D9)))) | (rename Mem _ _ _ _ => D'; (with_reducible refine' mm_updatePart (i := 2) D' ?hi ?hf ?_); (case hi => rfl); (case hf => rfl); ((intro _ D9; (try dsimp only [List.set] at D9)))) | (rename Mem _ _ _ _ => D'; (with_reducible refine' mm_update (i := 0) D' ?hi ?hf ?_); (case hi => rfl); (case hf => rfl); ((intro _ D9; (try dsimp only [List.set] at D9)))) | (rename Mem _ _ _ _ => D'; (with_reducible refine' mm_update (i := 1) D' ?hi ?hf ?_); (case hi => rfl); (case hf => rfl); ((intro _ D9; (try dsimp only [List.set] at D9)))) | (rename Mem _ _ _ _ => D'; (with_reducible refine' mm_update (i := 2) D' ?hi ?hf ?_); (case hi => rfl); (case hf => rfl); ((intro _ D9; (try dsimp only [List.set] at D9)))) | (rename Mem _ _ _ _ => D'; (with_reducible refine' mm_newObj D' ?hf ?_ ?hz); (case hf => rfl); (case hz => first | (show _ ≤ sizeLine + 1; assumption) | (show _ ≤ sizeLine + 2; rw [sizeLine_eq]; exact Nat.le_of_ble_eq_true rfl)); intro _ _ D9) | (rename Mem _ _ _ _ => D'; (with_reducible refine' mm_alloc D' ?hf ?_); (case hf => rfl); intro _ _ D9)) | wp_step | skip)
  refine Blk.out ?_
  rename Mem _ _ _ _ => D3
  refine mm_nsSetByValue (i := 2) D3 rfl (decide_eq_false (by rw [sizeLine_eq]; exact Nat.not_lt.mpr (Nat.le_of_ble_eq_true rfl))) key_obj put_obj (fun _ _ => rfl) ?_
  intro h4 hho D4
  dsimp only [List.set] at D4
  clear D3
  iterate 12 (first
    | (first | ((with_reducible show wpAny _ _ (Bind.refreshMaker _) _ _ _); refine Blk.mk ?_) | ((with_reducible show wpAny _ _ (getAttr _ _) _ _ _); refine Blk.mk ?_) | ((with_reducible show wpAny _ _ (call _ _) _ _ _); refine Blk.mk ?_))
    | ((with_reducible show wpAny _ _ (Slots.givesWeak _) _ _ _); refine wpAny_of_eq tf_weak ?_)
    | ((with_reducible show wpAny _ _ (Slots.givesDict _) _ _ _); refine wpAny_of_eq tf_dict ?_)
    | ((with_reducible show wpAny _ _ (nsSet _ _ _) _ _ _); refine Blk.mk ?_)
    | (first | (rename Mem _ _ _ _ => D'; (with_reducible refine' mm_updateCls (i := 0) D' ?hi ?hp ?_); (case hi => rfl); (case hp => rfl); ((intro _ D9; (try dsimp only [List.set] at D9)))) | (rename Mem _ _ _ _ => D'; (with_reducible refine' mm_updateCls (i := 1) D' ?hi ?hp ?_); (case hi => rfl); (case hp => rfl); ((intro _ D9; (try dsimp only [List.set] at D9)))) | (rename Mem _ _ _ _ => D'; (with_reducible refine' mm_updateCls (i := 2) D' ?hi ?hp ?_); (case hi => rfl); (case hp => rfl); ((intro _ D9; (try dsimp only [List.set] at D9)))))
    | ((with_reducible refine' mm_ite_f ?hc ?_); (case hc => (simp only [List.isEmpty_cons, List.isEmpty_nil, Option.isNone_some, Option.isNone_none, Option.isSome_some, Option.isSome_none, Bool.not_true, Bool.not_false, Bool.false_eq_true, decide_false, decide_true, Bool.or_false, Bool.false_or]; done)))
    | ((with_reducible refine' mm_ite_t ?hc ?_); (case hc => (simp only [List.isEmpty_cons, List.isEmpty_nil, Option.isNone_some, Option.isNone_none, Option.isSome_some, Option.isSome_none, Bool.not_true, Bool.not_false, Bool.false_eq_true, decide_false, decide_true, Bool.or_false, Bool.false_or]; done)))
    | (first | ((with_reducible refine' mm_nsGet ?ho ?hl ?_); (case ho => ((rename Mem _ _ _ _ => D'; first | exact Mem.at D' 0 _ _ rfl | exact Mem.at D' 1 _ _ rfl | exact Mem.at D' 2 _ _ rfl | exact Mem.at D' 3 _ _ rfl | exact Mem.at D' 4 _ _ rfl | exact Mem.at D' 5 _ _ rfl | exact Mem.old D' _ _ (by assumption) rfl))); (case hl => rfl)) | ((with_reducible refine' mm_nsHas ?hl ?_); (case hl => rfl)) | ((with_reducible apply PySem.wpAny_loadPart'); focus (((rename Mem _ _ _ _ => D'; first | exact Mem.at D' 0 _ _ rfl | exact Mem.at D' 1 _ _ rfl | exact Mem.at D' 2 _ _ rfl | exact Mem.at D' 3 _ _ rfl | exact Mem.at D' 4 _ _ rfl | exact Mem.at D' 5 _ _ rfl | exact Mem.old D' _ _ (by assumption) rfl)))) | ((with_reducible apply PySem.wpAny_load'); focus (((rename Mem _ _ _ _ => D'; first | exact Mem.at D' 0 _ _ rfl | exact Mem.at D' 1 _ _ rfl | exact Mem.at D' 2 _ _ rfl | exact Mem.at D' 3 _ _ rfl | exact Mem.at D' 4 _ _ rfl | exact Mem.at D' 5 _ _ rfl | exact Mem.old D' _ _ (by assumption) rfl)))) | (rename Mem _ _ _ _ => D'; (with_reducible refine' mm_updatePart (i := 0) D' ?hi ?hf ?_); (case hi => rfl); (case hf => rfl); ((intro _ D9; (try dsimp only [List.set] at D9)))) | (rename Mem _ _ _ _ => D'; (with_reducible refine' mm_updatePart (i := 1) D' ?hi ?hf ?_); (case hi => rfl); (case hf => rfl); ((intro _ D9; (try dsimp only [List.set] at D9)))) | (rename Mem _ _ _ _ => D'; (with_reducible refine' mm_updatePart (i := 2) D' ?hi ?hf ?_); (case hi => rfl); (case hf => rfl); ((intro _ D9; (try dsimp only [List.set] at D9)))) | (rename Mem _ _ _ _ => D'; (with_reducible refine' mm_update (i := 0) D' ?hi ?hf ?_); (case hi => rfl); (case hf => rfl); ((intro _ D9; (try dsimp only [List.set] at D9)))) | (rename Mem _ _ _ _ => D'; (with_reducible refine' mm_update (i := 1) D' ?hi ?hf ?_); (case hi => rfl); (case hf => rfl); ((intro _ D9; (try dsimp only [List.set] at D9)))) | (rename Mem _ _ _ _ => D'; (with_reducible refine' mm_update (i := 2) D' ?hi ?hf ?_); (case hi => rfl); (case hf => rfl); ((intro _ D9; (try dsimp only [List.set] at D9)))) | (rename Mem _ _ _ _ => D'; (with_reducible refine' mm_newObj D' ?hf ?_ ?hz); (case hf => rfl); (case hz => first | (show _ ≤ sizeLine + 1; assumption) | (show _ ≤ sizeLine + 2; rw [sizeLine_eq]; exact Nat.le_of_ble_eq_true rfl)); intro _ _ D9) | (rename Mem _ _ _ _ => D'; (with_reducible refine' mm_alloc D' ?hf ?_); (case hf => rfl); intro _ _ D9)) | wp_step | skip)
  iterate 3 (first | (first | ((with_reducible show wpAny _ _ (Slots.givesWeak _) _ _ _); refine wpAny_of_eq tf_weak ?_) | ((with_reducible show wpAny _ _ (Slots.givesDict _) _ _ _); refine wpAny_of_eq tf_dict ?_)) | (first | ((with_reducible refine' mm_ite_f ?hc ?_); (case hc => (simp only [List.isEmpty_cons, List.isEmpty_nil, Option.isNone_some, Option.isNone_none, Option.isSome_some, Option.isSome_none, Bool.not_true, Bool.not_false, Bool.false_eq_true, decide_false, decide_true, Bool.or_false, Bool.false_or]; done))) | ((with_reducible refine' mm_ite_t ?hc ?_); (case hc => (simp only [List.isEmpty_cons, List.isEmpty_nil, Option.isNone_some, Option.isNone_none, Option.isSome_some, Option.isSome_none, Bool.not_true, Bool.not_false, Bool.false_eq_true, decide_false, decide_true, Bool.or_false, Bool.false_or]; done)))) | (first | (rename Mem _ _ _ _ => D'; (with_reducible refine' mm_updateCls (i := 0) D' ?hi ?hp ?_); (case hi => rfl); (case hp => rfl); ((intro _ D9; (try dsimp only [List.set] at D9)))) | (rename Mem _ _ _ _ => D'; (with_reducible refine' mm_updateCls (i := 1) D' ?hi ?hp ?_); (case hi => rfl); (case hp => rfl); ((intro _ D9; (try dsimp only [List.set] at D9)))) | (rename Mem _ _ _ _ => D'; (with_reducible refine' mm_updateCls (i := 2) D' ?hi ?hp ?_); (case hi => rfl); (case hp => rfl); ((intro _ D9; (try dsimp only [List.set] at D9))))) | (first | ((with_reducible refine' mm_nsGet ?ho ?hl ?_); (case ho => ((rename Mem _ _ _ _ => D'; first | exact Mem.at D' 0 _ _ rfl | exact Mem.at D' 1 _ _ rfl | exact Mem.at D' 2 _ _ rfl | exact Mem.at D' 3 _ _ rfl | exact Mem.at D' 4 _ _ rfl | exact Mem.at D' 5 _ _ rfl | exact Mem.old D' _ _ (by assumption) rfl))); (case hl => rfl)) | ((with_reducible refine' mm_nsHas ?hl ?_); (case hl => rfl)) | ((with_reducible apply PySem.wpAny_loadPart'); focus (((rename Mem _ _ _ _ => D'; first | exact Mem.at D' 0 _ _ rfl | exact Mem.at D' 1 _ _ rfl | exact Mem.at D' 2 _ _ rfl | exact Mem.at D' 3 _ _ rfl | exact Mem.at D' 4 _ _ rfl | exact Mem.at D' 5 _ _ rfl | exact Mem.old D' _ _ (by assumption) rfl)))) | ((with_reducible apply PySem.wpAny_load'); focus (((rename Mem _ _ _ _ => D'; first | exact Mem.at D' 0 _ _ rfl | exact Mem.at D' 1 _ _ rfl | exact Mem.at D' 2 _ _ rfl | exact Mem.at D' 3 _ _ rfl | exact Mem.at D' 4 _ _ rfl | exact Mem.at D' 5 _ _ rfl | exact Mem.old D' _ _ (by assumption) rfl)))) | (rename Mem _ _ _ _ => D'; (with_reducible refine' mm_updatePart (i := 0) D' ?hi ?hf ?_); (case hi => rfl); (case hf => rfl); ((intro _ D9; (try dsimp only [List.set] at D9)))) | (rename Mem _ _ _ _ => D'; (with_reducible refine' mm_updatePart (i := 1) D' ?hi ?hf ?_); (case hi => rfl); (case hf => rfl); ((intro _ D9; (try dsimp only [List.set] at D9)))) | (rename Mem _ _ _ _ => D'; (with_reducible refine' mm_updatePart (i := 2) D' ?hi ?hf ?_); (case hi => rfl); (case hf => rfl); ((intro _ D9; (try dsimp only [List.set] at D9)))) | (rename Mem _ _ _ _ => D'; (with_reducible refine' mm_update (i := 0) D' ?hi ?hf ?_); (case hi => rfl); (case hf => rfl); ((intro _ D9; (try dsimp only [List.set] at D9)))) | (rename Mem _ _ _ _ => D'; (with_reducible refine' mm_update (i := 1) D' ?hi ?hf ?_); (case hi => rfl); (case hf => rfl); ((intro _ D9; (try dsimp only [List.set] at D9)))) | (rename Mem _ _ _ _ => D'; (with_reducible refine' mm_update (i := 2) D' ?hi ?hf ?_); (case hi => rfl); (case hf => rfl); ((intro _ D9; (try dsimp only [List.set] at D9)))) | (rename Mem _ _ _ _ => D'; (with_reducible refine' mm_newObj D' ?hf ?_ ?hz); (case hf => rfl); (case hz => first | (show _ ≤ sizeLine + 1; assumption) | (show _ ≤ sizeLine + 2; rw [sizeLine_eq]; exact Nat.le_of_ble_eq_true rfl)); intro _ _ D9) | (rename Mem _ _ _ _ => D'; (with_reducible refine' mm_alloc D' ?hf ?_); (case hf => rfl); intro _ _ D9)) | wp_step | skip)
  ((rename Mem _ _ _ _ => D0; revert D0; (repeat (rename Mem _ _ _ _ => Dz; clear Dz)); intro D0))
  clear hN e7 e8 hsz a1 a2 e10 e9 e6 e2 e3
  iterate 6 ((first | (first | ((with_reducible show wpAny _ _ (Slots.givesWeak _) _ _ _); refine wpAny_of_eq tf_weak ?_) | ((with_reducible show wpAny _ _ (Slots.givesDict _) _ _ _); refine wpAny_of_eq tf_dict ?_)) | (first | ((with_reducible refine' mm_ite_f ?hc ?_); (case hc => (simp only [List.isEmpty_cons, List.isEmpty_nil, Option.isNone_some, Option.isNone_none, Option.isSome_some, Option.isSome_none, Bool.not_true, Bool.not_false, Bool.false_eq_true, decide_false, decide_true, Bool.or_false, Bool.false_or]; done))) | ((with_reducible refine' mm_ite_t ?hc ?_); (case hc => (simp only [List.isEmpty_cons, List.isEmpty_nil, Option.isNone_some, Option.isNone_none, Option.isSome_some, Option.isSome_none, Bool.not_true, Bool.not_false, Bool.false_eq_true, decide_false, decide_true, Bool.or_false, Bool.false_or]; done)))) | (((with_reducible refine' mm_ite_f ?hc ?_); (case hc => exact decide_eq_false (by rw [sizeLine_eq]; exact Nat.not_lt.mpr (Nat.le_of_ble_eq_true rfl))))) | (first | (rename Mem _ _ _ _ => D'; (with_reducible refine' mm_updateCls (i := 0) D' ?hi ?hp ?_); (case hi => rfl); (case hp => rfl); ((intro _ D9; (try dsimp only [List.set] at D9)))) | (rename Mem _ _ _ _ => D'; (with_reducible refine' mm_updateCls (i := 1) D' ?hi ?hp ?_); (case hi => rfl); (case hp => rfl); ((intro _ D9; (try dsimp only [List.set] at D9)))) | (rename Mem _ _ _ _ => D'; (with_reducible refine' mm_updateCls (i := 2) D' ?hi ?hp ?_); (case hi => rfl); (case hp => rfl); ((intro _ D9; (try dsimp only [List.set] at D9))))) | (first | ((with_reducible refine' mm_nsGet ?ho ?hl ?_); (case ho => ((rename Mem _ _ _ _ => D'; first | exact Mem.at D' 0 _ _ rfl | exact Mem.at D' 1 _ _ rfl | exact Mem.at D' 2 _ _ rfl | exact Mem.at D' 3 _ _ rfl | exact Mem.at D' 4 _ _ rfl | exact Mem.at D' 5 _ _ rfl | exact Mem.old D' _ _ (by assumption) rfl))); (case hl => rfl)) | ((with_reducible refine' mm_nsHas ?hl ?_); (case hl => rfl)) | ((with_reducible apply PySem.wpAny_loadPart'); focus (((rename Mem _ _ _ _ => D'; first | exact Mem.at D' 0 _ _ rfl | exact Mem.at D' 1 _ _ rfl | exact Mem.at D' 2 _ _ rfl | exact Mem.at D' 3 _ _ rfl | exact Mem.at D' 4 _ _ rfl | exact Mem.at D' 5 _ _ rfl | exact Mem.old D' _ _ (by assumption) rfl)))) | ((with_reducible apply PySem.wpAny_load'); focus (((rename Mem _ _ _ _ => D'; first | exact Mem.at D' 0 _ _ rfl | exact Mem.at D' 1 _ _ rfl | exact Mem.at D' 2 _ _ rfl | exact Mem.at D' 3 _ _ rfl | exact Mem.at D' 4 _ _ rfl | exact Mem.at D' 5 _ _ rfl | exact Mem.old D' _ _ (by assumption) rfl)))) | (rename Mem _ _ _ _ => D'; (with_reducible refine' mm_updatePart (i := 0) D' ?hi ?hf ?_); (case hi => rfl); (case hf => rfl); ((intro _ D9; (try dsimp only [List.set] at D9)))) | (rename Mem _ _ _ _ => D'; (with_reducible refine' mm_updatePart (i := 1) D' ?hi ?hf ?_); (case hi => rfl); (case hf => rfl); ((intro _ D9; (try dsimp only [List.set] at D9)))) | (rename Mem _ _ _ _ => D'; (with_reducible refine' mm_updatePart (i := 2) D' ?hi ?hf ?_); (case hi => rfl); (case hf => rfl); ((intro _ D9; (try dsimp only [List.set] at D9)))) | (rename Mem _ _ _ _ => D'; (with_reducible refine' mm_update (i := 0) D' ?hi ?hf ?_); (case hi => rfl); (case hf => rfl); ((intro _ D9; (try dsimp only [List.set] at D9)))) | (rename Mem _ _ _ _ => D'; (with_reducible refine' mm_update (i := 1) D' ?hi ?hf ?_); (case hi => rfl); (case hf => rfl); ((intro _ D9; (try dsimp only [List.set] at D9)))) | (rename Mem _ _ _ _ => D'; (with_reducible refine' mm_update (i := 2) D' ?hi ?hf ?_); (case hi => rfl); (case hf => rfl); ((intro _ D9; (try dsimp only [List.set] at D9)))) | (rename Mem _ _ _ _ => D'; (with_reducible refine' mm_newObj D' ?hf ?_ ?hz); (case hf => rfl); (case hz => first | (show _ ≤ sizeLine + 1; assumption) | (show _ ≤ sizeLine + 2; rw [sizeLine_eq]; exact Nat.le_of_ble_eq_true rfl)); intro _ _ D9) | (rename Mem _ _ _ _ => D'; (with_reducible refine' mm_alloc D' ?hf ?_); (case hf => rfl); intro _ _ D9)) | wp_step | skip))
  ((rename Mem _ _ _ _ => D0; revert D0; (repeat (rename Mem _ _ _ _ => Dz; clear Dz)); intro D0))
  iterate 7 ((first | (first | ((with_reducible show wpAny _ _ (Slots.givesWeak _) _ _ _); refine wpAny_of_eq tf_weak ?_) | ((with_reducible show wpAny _ _ (Slots.givesDict _) _ _ _); refine wpAny_of_eq tf_dict ?_)) | (first | ((with_reducible refine' mm_ite_f ?hc ?_); (case hc => (simp only [List.isEmpty_cons, List.isEmpty_nil, Option.isNone_some, Option.isNone_none, Option.isSome_some, Option.isSome_none, Bool.not_true, Bool.not_false, Bool.false_eq_true, decide_false, decide_true, Bool.or_false, Bool.false_or]; done))) | ((with_reducible refine' mm_ite_t ?hc ?_); (case hc => (simp only [List.isEmpty_cons, List.isEmpty_nil, Option.isNone_some, Option.isNone_none, Option.isSome_some, Option.isSome_none, Bool.not_true, Bool.not_false, Bool.false_eq_true, decide_false, decide_true, Bool.or_false, Bool.false_or]; done)))) | (((with_reducible refine' mm_ite_f ?hc ?_); (case hc => exact decide_eq_false (by rw [sizeLine_eq]; exact Nat.not_lt.mpr (Nat.le_of_ble_eq_true rfl))))) | (first | (rename Mem _ _ _ _ => D'; (with_reducible refine' mm_updateCls (i := 0) D' ?hi ?hp ?_); (case hi => rfl); (case hp => rfl); ((intro _ D9; (try dsimp only [List.set] at D9)))) | (rename Mem _ _ _ _ => D'; (with_reducible refine' mm_updateCls (i := 1) D' ?hi ?hp ?_); (case hi => rfl); (case hp => rfl); ((intro _ D9; (try dsimp only [List.set] at D9)))) | (rename Mem _ _ _ _ => D'; (with_reducible refine' mm_updateCls (i := 2) D' ?hi ?hp ?_); (case hi => rfl); (case hp => rfl); ((intro _ D9; (try dsimp only [List.set] at D9))))) | (first | ((with_reducible refine' mm_nsGet ?ho ?hl ?_); (case ho => ((rename Mem _ _ _ _ => D'; first | exact Mem.at D' 0 _ _ rfl | exact Mem.at D' 1 _ _ rfl | exact Mem.at D' 2 _ _ rfl | exact Mem.at D' 3 _ _ rfl | exact Mem.at D' 4 _ _ rfl | exact Mem.at D' 5 _ _ rfl | exact Mem.old D' _ _ (by assumption) rfl))); (case hl => rfl)) | ((with_reducible refine' mm_nsHas ?hl ?_); (case hl => rfl)) | ((with_reducible apply PySem.wpAny_loadPart'); focus (((rename Mem _ _ _ _ => D'; first | exact Mem.at D' 0 _ _ rfl | exact Mem.at D' 1 _ _ rfl | exact Mem.at D' 2 _ _ rfl | exact Mem.at D' 3 _ _ rfl | exact Mem.at D' 4 _ _ rfl | exact Mem.at D' 5 _ _ rfl | exact Mem.old D' _ _ (by assumption) rfl)))) | ((with_reducible apply PySem.wpAny_load'); focus (((rename Mem _ _ _ _ => D'; first | exact Mem.at D' 0 _ _ rfl | exact Mem.at D' 1 _ _ rfl | exact Mem.at D' 2 _ _ rfl | exact Mem.at D' 3 _ _ rfl | exact Mem.at D' 4 _ _ rfl | exact Mem.at D' 5 _ _ rfl | exact Mem.old D' _ _ (by assumption) rfl)))) | (rename Mem _ _ _ _ => D'; (with_reducible refine' mm_updatePart (i := 0) D' ?hi ?hf ?_); (case hi => rfl); (case hf => rfl); ((intro _ D9; (try dsimp only [List.set] at D9)))) | (rename Mem _ _ _ _ => D'; (with_reducible refine' mm_updatePart (i := 1) D' ?hi ?hf ?_); (case hi => rfl); (case hf => rfl); ((intro _ D9; (try dsimp only [List.set] at D9)))) | (rename Mem _ _ _ _ => D'; (with_reducible refine' mm_updatePart (i := 2) D' ?hi ?hf ?_); (case hi => rfl); (case hf => rfl); ((intro _ D9; (try dsimp only [List.set] at D9)))) | (rename Mem _ _ _ _ => D'; (with_reducible refine' mm_update (i := 0) D' ?hi ?hf ?_); (case hi => rfl); (case hf => rfl); ((intro _ D9; (try dsimp only [List.set] at D9)))) | (rename Mem _ _ _ _ => D'; (with_reducible refine' mm_update (i := 1) D' ?hi ?hf ?_); (case hi => rfl); (case hf => rfl); ((intro _ D9; (try dsimp only [List.set] at D9)))) | (rename Mem _ _ _ _ => D'; (with_reducible refine' mm_update (i := 2) D' ?hi ?hf ?_); (case hi => rfl); (case hf => rfl); ((intro _ D9; (try dsimp only [List.set] at D9)))) | (rename Mem _ _ _ _ => D'; (with_reducible refine' mm_newObj D' ?hf ?_ ?hz); (case hf => rfl); (case hz => first | (show _ ≤ sizeLine + 1; assumption) | (show _ ≤ sizeLine + 2; rw [sizeLine_eq]; exact Nat.le_of_ble_eq_true rfl)); intro _ _ D9) | (rename Mem _ _ _ _ => D'; (with_reducible refine' mm_alloc D' ?hf ?_); (case hf => rfl); intro _ _ D9)) | wp_step | skip))
  ((rename Mem _ _ _ _ => D0; revert D0; (repeat (rename Mem _ _ _ _ => Dz; clear Dz)); intro D0))
  rename Mem _ _ _ _ => D0
  refine mm_nsGet (D0.at 2 _ _ rfl) doc_none ?_
  iterate 2 ((first | (first | ((with_reducible show wpAny _ _ (Slots.givesWeak _) _ _ _); refine wpAny_of_eq tf_weak ?_) | ((with_reducible show wpAny _ _ (Slots.givesDict _) _ _ _); refine wpAny_of_eq tf_dict ?_)) | (first | ((with_reducible refine' mm_ite_f ?hc ?_); (case hc => (simp only [List.isEmpty_cons, List.isEmpty_nil, Option.isNone_some, Option.isNone_none, Option.isSome_some, Option.isSome_none, Bool.not_true, Bool.not_false, Bool.false_eq_true, decide_false, decide_true, Bool.or_false, Bool.false_or]; done))) | ((with_reducible refine' mm_ite_t ?hc ?_); (case hc => (simp only [List.isEmpty_cons, List.isEmpty_nil, Option.isNone_some, Option.isNone_none, Option.isSome_some, Option.isSome_none, Bool.not_true, Bool.not_false, Bool.false_eq_true, decide_false, decide_true, Bool.or_false, Bool.false_or]; done)))) | (((with_reducible refine' mm_ite_f ?hc ?_); (case hc => exact decide_eq_false (by rw [sizeLine_eq]; exact Nat.not_lt.mpr (Nat.le_of_ble_eq_true rfl))))) | (first | (rename Mem _ _ _ _ => D'; (with_reducible refine' mm_updateCls (i := 0) D' ?hi ?hp ?_); (case hi => rfl); (case hp => rfl); ((intro _ D9; (try dsimp only [List.set] at D9)))) | (rename Mem _ _ _ _ => D'; (with_reducible refine' mm_updateCls (i := 1) D' ?hi ?hp ?_); (case hi => rfl); (case hp => rfl); ((intro _ D9; (try dsimp only [List.set] at D9)))) | (rename Mem _ _ _ _ => D'; (with_reducible refine' mm_updateCls (i := 2) D' ?hi ?hp ?_); (case hi => rfl); (case hp => rfl); ((intro _ D9; (try dsimp only [List.set] at D9))))) | (first | ((with_reducible refine' mm_nsGet ?ho ?hl ?_); (case ho => ((rename Mem _ _ _ _ => D'; first | exact Mem.at D' 0 _ _ rfl | exact Mem.at D' 1 _ _ rfl | exact Mem.at D' 2 _ _ rfl | exact Mem.at D' 3 _ _ rfl | exact Mem.at D' 4 _ _ rfl | exact Mem.at D' 5 _ _ rfl | exact Mem.old D' _ _ (by assumption) rfl))); (case hl => rfl)) | ((with_reducible refine' mm_nsHas ?hl ?_); (case hl => rfl)) | ((with_reducible apply PySem.wpAny_loadPart'); focus (((rename Mem _ _ _ _ => D'; first | exact Mem.at D' 0 _ _ rfl | exact Mem.at D' 1 _ _ rfl | exact Mem.at D' 2 _ _ rfl | exact Mem.at D' 3 _ _ rfl | exact Mem.at D' 4 _ _ rfl | exact Mem.at D' 5 _ _ rfl | exact Mem.old D' _ _ (by assumption) rfl)))) | ((with_reducible apply PySem.wpAny_load'); focus (((rename Mem _ _ _ _ => D'; first | exact Mem.at D' 0 _ _ rfl | exact Mem.at D' 1 _ _ rfl | exact Mem.at D' 2 _ _ rfl | exact Mem.at D' 3 _ _ rfl | exact Mem.at D' 4 _ _ rfl | exact Mem.at D' 5 _ _ rfl | exact Mem.old D' _ _ (by assumption) rfl)))) | (rename Mem _ _ _ _ => D'; (with_reducible refine' mm_updatePart (i := 0) D' ?hi ?hf ?_); (case hi => rfl); (case hf => rfl); ((intro _ D9; (try dsimp only [List.set] at D9)))) | (rename Mem _ _ _ _ => D'; (with_reducible refine' mm_updatePart (i := 1) D' ?hi ?hf ?_); (case hi => rfl); (case hf => rfl); ((intro _ D9; (try dsimp only [List.set] at D9)))) | (rename Mem _ _ _ _ => D'; (with_reducible refine' mm_updatePart (i := 2) D' ?hi ?hf ?_); (case hi => rfl); (case hf => rfl); ((intro _ D9; (try dsimp only [List.set] at D9)))) | (rename Mem _ _ _ _ => D'; (with_reducible refine' mm_update (i := 0) D' ?hi ?hf ?_); (case hi => rfl); (case hf => rfl); ((intro _ D9; (try dsimp only [List.set] at D9)))) | (rename Mem _ _ _ _ => D'; (with_reducible refine' mm_update (i := 1) D' ?hi ?hf ?_); (case hi => rfl); (case hf => rfl); ((intro _ D9; (try dsimp only [List.set] at D9)))) | (rename Mem _ _ _ _ => D'; (with_reducible refine' mm_update (i := 2) D' ?hi ?hf ?_); (case hi => rfl); (case hf => rfl); ((intro _ D9; (try dsimp only [List.set] at D9)))) | (rename Mem _ _ _ _ => D'; (with_reducible refine' mm_newObj D' ?hf ?_ ?hz); (case hf => rfl); (case hz => first | (show _ ≤ sizeLine + 1; assumption) | (show _ ≤ sizeLine + 2; rw [sizeLine_eq]; exact Nat.le_of_ble_eq_true rfl)); intro _ _ D9) | (rename Mem _ _ _ _ => D'; (with_reducible refine' mm_alloc D' ?hf ?_); (case hf => rfl); intro _ _ D9)) | wp_step | skip))
  refine mm_nsSet (i := 2) D0 rfl key_doc put_doc (fun _ _ => rfl) ?_
  intro h5 hhd D5
  dsimp only [List.set] at D5
  clear D0
  wp_step
  refine mm_nsGet (D5.at 2 _ _ rfl) eq_some ?_
  iterate 2 ((first | (first | ((with_reducible show wpAny _ _ (Slots.givesWeak _) _ _ _); refine wpAny_of_eq tf_weak ?_) | ((with_reducible show wpAny _ _ (Slots.givesDict _) _ _ _); refine wpAny_of_eq tf_dict ?_)) | (first | ((with_reducible refine' mm_ite_f ?hc ?_); (case hc => (simp only [List.isEmpty_cons, List.isEmpty_nil, Option.isNone_some, Option.isNone_none, Option.isSome_some, Option.isSome_none, Bool.not_true, Bool.not_false, Bool.false_eq_true, decide_false, decide_true, Bool.or_false, Bool.false_or]; done))) | ((with_reducible refine' mm_ite_t ?hc ?_); (case hc => (simp only [List.isEmpty_cons, List.isEmpty_nil, Option.isNone_some, Option.isNone_none, Option.isSome_some, Option.isSome_none, Bool.not_true, Bool.not_false, Bool.false_eq_true, decide_false, decide_true, Bool.or_false, Bool.false_or]; done)))) | (((with_reducible refine' mm_ite_f ?hc ?_); (case hc => exact decide_eq_false (by rw [sizeLine_eq]; exact Nat.not_lt.mpr (Nat.le_of_ble_eq_true rfl))))) | (first | (rename Mem _ _ _ _ => D'; (with_reducible refine' mm_updateCls (i := 0) D' ?hi ?hp ?_); (case hi => rfl); (case hp => rfl); ((intro _ D9; (try dsimp only [List.set] at D9)))) | (rename Mem _ _ _ _ => D'; (with_reducible refine' mm_updateCls (i := 1) D' ?hi ?hp ?_); (case hi => rfl); (case hp => rfl); ((intro _ D9; (try dsimp only [List.set] at D9)))) | (rename Mem _ _ _ _ => D'; (with_reducible refine' mm_updateCls (i := 2) D' ?hi ?hp ?_); (case hi => rfl); (case hp => rfl); ((intro _ D9; (try dsimp only [List.set] at D9))))) | (first | ((with_reducible refine' mm_nsGet ?ho ?hl ?_); (case ho => ((rename Mem _ _ _ _ => D'; first | exact Mem.at D' 0 _ _ rfl | exact Mem.at D' 1 _ _ rfl | exact Mem.at D' 2 _ _ rfl | exact Mem.at D' 3 _ _ rfl | exact Mem.at D' 4 _ _ rfl | exact Mem.at D' 5 _ _ rfl | exact Mem.old D' _ _ (by assumption) rfl))); (case hl => rfl)) | ((with_reducible refine' mm_nsHas ?hl ?_); (case hl => rfl)) | ((with_reducible apply PySem.wpAny_loadPart'); focus (((rename Mem _ _ _ _ => D'; first | exact Mem.at D' 0 _ _ rfl | exact Mem.at D' 1 _ _ rfl | exact Mem.at D' 2 _ _ rfl | exact Mem.at D' 3 _ _ rfl | exact Mem.at D' 4 _ _ rfl | exact Mem.at D' 5 _ _ rfl | exact Mem.old D' _ _ (by assumption) rfl)))) | ((with_reducible apply PySem.wpAny_load'); focus (((rename Mem _ _ _ _ => D'; first | exact Mem.at D' 0 _ _ rfl | exact Mem.at D' 1 _ _ rfl | exact Mem.at D' 2 _ _ rfl | exact Mem.at D' 3 _ _ rfl | exact Mem.at D' 4 _ _ rfl | exact Mem.at D' 5 _ _ rfl | exact Mem.old D' _ _ (by assumption) rfl)))) | (rename Mem _ _ _ _ => D'; (with_reducible refine' mm_updatePart (i := 0) D' ?hi ?hf ?_); (case hi => rfl); (case hf => rfl); ((intro _ D9; (try dsimp only [List.set] at D9)))) | (rename Mem _ _ _ _ => D'; (with_reducible refine' mm_updatePart (i := 1) D' ?hi ?hf ?_); (case hi => rfl); (case hf => rfl); ((intro _ D9; (try dsimp only [List.set] at D9)))) | (rename Mem _ _ _ _ => D'; (with_reducible refine' mm_updatePart (i := 2) D' ?hi ?hf ?_); (case hi => rfl); (case hf => rfl); ((intro _ D9; (try dsimp only [List.set] at D9)))) | (rename Mem _ _ _ _ => D'; (with_reducible refine' mm_update (i := 0) D' ?hi ?hf ?_); (case hi => rfl); (case hf => rfl); ((intro _ D9; (try dsimp only [List.set] at D9)))) | (rename Mem _ _ _ _ => D'; (with_reducible refine' mm_update (i := 1) D' ?hi ?hf ?_); (case hi => rfl); (case hf => rfl); ((intro _ D9; (try dsimp only [List.set] at D9)))) | (rename Mem _ _ _ _ => D'; (with_reducible refine' mm_update (i := 2) D' ?hi ?hf ?_); (case hi => rfl); (case hf => rfl); ((intro _ D9; (try dsimp only [List.set] at D9)))) | (rename Mem _ _ _ _ => D'; (with_reducible refine' mm_newObj D' ?hf ?_ ?hz); (case hf => rfl); (case hz => first | (show _ ≤ sizeLine + 1; assumption) | (show _ ≤ sizeLine + 2; rw [sizeLine_eq]; exact Nat.le_of_ble_eq_true rfl)); intro _ _ D9) | (rename Mem _ _ _ _ => D'; (with_reducible refine' mm_alloc D' ?hf ?_); (case hf => rfl); intro _ _ D9)) | wp_step | skip))
  refine mm_nsGet (D5.at 2 _ _ rfl) hash_some ?_
  iterate 2 ((first | (first | ((with_reducible show wpAny _ _ (Slots.givesWeak _) _ _ _); refine wpAny_of_eq tf_weak ?_) | ((with_reducible show wpAny _ _ (Slots.givesDict _) _ _ _); refine wpAny_of_eq tf_dict ?_)) | (first | ((with_reducible refine' mm_ite_f ?hc ?_); (case hc => (simp only [List.isEmpty_cons, List.isEmpty_nil, Option.isNone_some, Option.isNone_none, Option.isSome_some, Option.isSome_none, Bool.not_true, Bool.not_false, Bool.false_eq_true, decide_false, decide_true, Bool.or_false, Bool.false_or]; done))) | ((with_reducible refine' mm_ite_t ?hc ?_); (case hc => (simp only [List.isEmpty_cons, List.isEmpty_nil, Option.isNone_some, Option.isNone_none, Option.isSome_some, Option.isSome_none, Bool.not_true, Bool.not_false, Bool.false_eq_true, decide_false, decide_true, Bool.or_false, Bool.false_or]; done)))) | (((with_reducible refine' mm_ite_f ?hc ?_); (case hc => exact decide_eq_false (by rw [sizeLine_eq]; exact Nat.not_lt.mpr (Nat.le_of_ble_eq_true rfl))))) | (first | (rename Mem _ _ _ _ => D'; (with_reducible refine' mm_updateCls (i := 0) D' ?hi ?hp ?_); (case hi => rfl); (case hp => rfl); ((intro _ D9; (try dsimp only [List.set] at D9)))) | (rename Mem _ _ _ _ => D'; (with_reducible refine' mm_updateCls (i := 1) D' ?hi ?hp ?_); (case hi => rfl); (case hp => rfl); ((intro _ D9; (try dsimp only [List.set] at D9)))) | (rename Mem _ _ _ _ => D'; (with_reducible refine' mm_updateCls (i := 2) D' ?hi ?hp ?_); (case hi => rfl); (case hp => rfl); ((intro _ D9; (try dsimp only [List.set] at D9))))) | (first | ((with_reducible refine' mm_nsGet ?ho ?hl ?_); (case ho => ((rename Mem _ _ _ _ => D'; first | exact Mem.at D' 0 _ _ rfl | exact Mem.at D' 1 _ _ rfl | exact Mem.at D' 2 _ _ rfl | exact Mem.at D' 3 _ _ rfl | exact Mem.at D' 4 _ _ rfl | exact Mem.at D' 5 _ _ rfl | exact Mem.old D' _ _ (by assumption) rfl))); (case hl => rfl)) | ((with_reducible refine' mm_nsHas ?hl ?_); (case hl => rfl)) | ((with_reducible apply PySem.wpAny_loadPart'); focus (((rename Mem _ _ _ _ => D'; first | exact Mem.at D' 0 _ _ rfl | exact Mem.at D' 1 _ _ rfl | exact Mem.at D' 2 _ _ rfl | exact Mem.at D' 3 _ _ rfl | exact Mem.at D' 4 _ _ rfl | exact Mem.at D' 5 _ _ rfl | exact Mem.old D' _ _ (by assumption) rfl)))) | ((with_reducible apply PySem.wpAny_load'); focus (((rename Mem _ _ _ _ => D'; first | exact Mem.at D' 0 _ _ rfl | exact Mem.at D' 1 _ _ rfl | exact Mem.at D' 2 _ _ rfl | exact Mem.at D' 3 _ _ rfl | exact Mem.at D' 4 _ _ rfl | exact Mem.at D' 5 _ _ rfl | exact Mem.old D' _ _ (by assumption) rfl)))) | (rename Mem _ _ _ _ => D'; (with_reducible refine' mm_updatePart (i := 0) D' ?hi ?hf ?_); (case hi => rfl); (case hf => rfl); ((intro _ D9; (try dsimp only [List.set] at D9)))) | (rename Mem _ _ _ _ => D'; (with_reducible refine' mm_updatePart (i := 1) D' ?hi ?hf ?_); (case hi => rfl); (case hf => rfl); ((intro _ D9; (try dsimp only [List.set] at D9)))) | (rename Mem _ _ _ _ => D'; (with_reducible refine' mm_updatePart (i := 2) D' ?hi ?hf ?_); (case hi => rfl); (case hf => rfl); ((intro _ D9; (try dsimp only [List.set] at D9)))) | (rename Mem _ _ _ _ => D'; (with_reducible refine' mm_update (i := 0) D' ?hi ?hf ?_); (case hi => rfl); (case hf => rfl); ((intro _ D9; (try dsimp only [List.set] at D9)))) | (rename Mem _ _ _ _ => D'; (with_reducible refine' mm_update (i := 1) D' ?hi ?hf ?_); (case hi => rfl); (case hf => rfl); ((intro _ D9; (try dsimp only [List.set] at D9)))) | (rename Mem _ _ _ _ => D'; (with_reducible refine' mm_update (i := 2) D' ?hi ?hf ?_); (case hi => rfl); (case hf => rfl); ((intro _ D9; (try dsimp only [List.set] at D9)))) | (rename Mem _ _ _ _ => D'; (with_reducible refine' mm_newObj D' ?hf ?_ ?hz); (case hf => rfl); (case hz => first | (show _ ≤ sizeLine + 1; assumption) | (show _ ≤ sizeLine + 2; rw [sizeLine_eq]; exact Nat.le_of_ble_eq_true rfl)); intro _ _ D9) | (rename Mem _ _ _ _ => D'; (with_reducible refine' mm_alloc D' ?hf ?_); (case hf => rfl); intro _ _ D9)) | wp_step | skip))
  have D6 := mem_to3 (kmem t) (kclsF bT tn tq qn) D5 (by kernel_rfl) (by kernel_rfl)
  clear D5
  refine mm_forIn1 (v := .type "object") rfl ?_
  refine wpAny_bind (wpAny_of_eq (tf_note _) ?_)
  refine wpAny_pure ?_
  dsimp only
  iterate 1 ((first | (first | ((with_reducible show wpAny _ _ (Slots.givesWeak _) _ _ _); refine wpAny_of_eq tf_weak ?_) | ((with_reducible show wpAny _ _ (Slots.givesDict _) _ _ _); refine wpAny_of_eq tf_dict ?_)) | (first | ((with_reducible refine' mm_ite_f ?hc ?_); (case hc => (simp only [List.isEmpty_cons, List.isEmpty_nil, Option.isNone_some, Option.isNone_none, Option.isSome_some, Option.isSome_none, Bool.not_true, Bool.not_false, Bool.false_eq_true, decide_false, decide_true, Bool.or_false, Bool.false_or]; done))) | ((with_reducible refine' mm_ite_t ?hc ?_); (case hc => (simp only [List.isEmpty_cons, List.isEmpty_nil, Option.isNone_some, Option.isNone_none, Option.isSome_some, Option.isSome_none, Bool.not_true, Bool.not_false, Bool.false_eq_true, decide_false, decide_true, Bool.or_false, Bool.false_or]; done)))) | (((with_reducible refine' mm_ite_f ?hc ?_); (case hc => exact decide_eq_false (by rw [sizeLine_eq]; exact Nat.not_lt.mpr (Nat.le_of_ble_eq_true rfl))))) | (first | (rename Mem _ _ _ _ => D'; (with_reducible refine' mm_updateCls (i := 0) D' ?hi ?hp ?_); (case hi => rfl); (case hp => rfl); ((intro _ D9; (try dsimp only [List.set] at D9)))) | (rename Mem _ _ _ _ => D'; (with_reducible refine' mm_updateCls (i := 1) D' ?hi ?hp ?_); (case hi => rfl); (case hp => rfl); ((intro _ D9; (try dsimp only [List.set] at D9)))) | (rename Mem _ _ _ _ => D'; (with_reducible refine' mm_updateCls (i := 2) D' ?hi ?hp ?_); (case hi => rfl); (case hp => rfl); ((intro _ D9; (try dsimp only [List.set] at D9))))) | (first | ((with_reducible refine' mm_nsGet ?ho ?hl ?_); (case ho => ((rename Mem _ _ _ _ => D'; first | exact Mem.at D' 0 _ _ rfl | exact Mem.at D' 1 _ _ rfl | exact Mem.at D' 2 _ _ rfl | exact Mem.at D' 3 _ _ rfl | exact Mem.at D' 4 _ _ rfl | exact Mem.at D' 5 _ _ rfl | exact Mem.old D' _ _ (by assumption) rfl))); (case hl => rfl)) | ((with_reducible refine' mm_nsHas ?hl ?_); (case hl => rfl)) | ((with_reducible apply PySem.wpAny_loadPart'); focus (((rename Mem _ _ _ _ => D'; first | exact Mem.at D' 0 _ _ rfl | exact Mem.at D' 1 _ _ rfl | exact Mem.at D' 2 _ _ rfl | exact Mem.at D' 3 _ _ rfl | exact Mem.at D' 4 _ _ rfl | exact Mem.at D' 5 _ _ rfl | exact Mem.old D' _ _ (by assumption) rfl)))) | ((with_reducible apply PySem.wpAny_load'); focus (((rename Mem _ _ _ _ => D'; first | exact Mem.at D' 0 _ _ rfl | exact Mem.at D' 1 _ _ rfl | exact Mem.at D' 2 _ _ rfl | exact Mem.at D' 3 _ _ rfl | exact Mem.at D' 4 _ _ rfl | exact Mem.at D' 5 _ _ rfl | exact Mem.old D' _ _ (by assumption) rfl)))) | (rename Mem _ _ _ _ => D'; (with_reducible refine' mm_updatePart (i := 0) D' ?hi ?hf ?_); (case hi => rfl); (case hf => rfl); ((intro _ D9; (try dsimp only [List.set] at D9)))) | (rename Mem _ _ _ _ => D'; (with_reducible refine' mm_updatePart (i := 1) D' ?hi ?hf ?_); (case hi => rfl); (case hf => rfl); ((intro _ D9; (try dsimp only [List.set] at D9)))) | (rename Mem _ _ _ _ => D'; (with_reducible refine' mm_updatePart (i := 2) D' ?hi ?hf ?_); (case hi => rfl); (case hf => rfl); ((intro _ D9; (try dsimp only [List.set] at D9)))) | (rename Mem _ _ _ _ => D'; (with_reducible refine' mm_update (i := 0) D' ?hi ?hf ?_); (case hi => rfl); (case hf => rfl); ((intro _ D9; (try dsimp only [List.set] at D9)))) | (rename Mem _ _ _ _ => D'; (with_reducible refine' mm_update (i := 1) D' ?hi ?hf ?_); (case hi => rfl); (case hf => rfl); ((intro _ D9; (try dsimp only [List.set] at D9)))) | (rename Mem _ _ _ _ => D'; (with_reducible refine' mm_update (i := 2) D' ?hi ?hf ?_); (case hi => rfl); (case hf => rfl); ((intro _ D9; (try dsimp only [List.set] at D9)))) | (rename Mem _ _ _ _ => D'; (with_reducible refine' mm_newObj D' ?hf ?_ ?hz); (case hf => rfl); (case hz => first | (show _ ≤ sizeLine + 1; assumption) | (show _ ≤ sizeLine + 2; rw [sizeLine_eq]; exact Nat.le_of_ble_eq_true rfl)); intro _ _ D9) | (rename Mem _ _ _ _ => D'; (with_reducible refine' mm_alloc D' ?hf ?_); (case hf => rfl); intro _ _ D9)) | wp_step | skip))
  have hl9 := FnAt.old (⟨_, hL, rfl⟩ : FnAt h "list" sl) D6
  have hm9 : FnAt h5 "member_descriptor" _ := ⟨_, D6.at 0 _ _ rfl, rfl⟩
  refine wpAny_tryCatch (wpAny_holding (wpAny_bind ?_))
  refine mm_entries (D6.at 2 _ _ rfl) (wpAny_bind ?_)
  refine mm_forA (fun e he => ?_) ?_
  · obtain ⟨kk, tkk, hkey⟩ := (ents_ok hl9 (k1.old D6) (k2.old D6) (k3.old D6) (k4.old D6) (k5.old D6) (k6.old D6) (ks.old D6) hm9 e he).1
    rw [hkey]
    exact wpAny_bind (wpAny_pure (wpAny_pure ⟨rfl, rfl⟩))
  refine mm_ite_f (by rfl) ?_
  refine wpAny_bind (mm_entries (D6.at 2 _ _ rfl) (wpAny_bind ?_))
  refine mm_forA (fun e he => ?_) ?_
  · have he9 := ents_ok hl9 (k1.old D6) (k2.old D6) (k3.old D6) (k4.old D6) (k5.old D6) (k6.old D6) (ks.old D6) hm9 e he
    refine mm_ite_f (decide_eq_false (by rw [he9.2.1]; exact Bool.false_ne_true)) ?_
    exact wpAny_bind (he9.special (wpAny_pure ⟨rfl, rfl⟩))
  refine wpAny_bind (sup_call (D6.at 1 _ _ rfl) fun sup h6 D7 t7 => ?_)
  have D8 := mem_then D6 (mem_keep D7)
  refine wpAny_bind (wpAny_holding (ga_call (D7.at 0 _ _ rfl) (D8.at 1 _ _ rfl) (hno.keeps (mem_keep D8)) fun A' => ?_))
  refine cm_get (D8.at 1 _ _ rfl) fun bm h7 D9 t8 => ⟨_, rfl, ?_⟩
  have D10 := mem_then D8 (mem_keep D9)
  refine wpAny_bind (bm_call (D10.at 1 _ _ rfl) (D9.at 0 _ _ rfl) hqn fun h8 nw D11 t9 => ?_)
  have D12 := mem_then D10 (mem_keep D11)
  refine wpAny_pure ?_
  refine wpAny_pure ?_
  exact hQ _ _ _ _ _ _ _ _ _ _ _ D12
end Mine
end
section
open PySem PySem.W PyProof.Rows PySem.W.X PySem.Calls Builtin
set_option Elab.async false
namespace Mine
theorem e_plain : plainId "type.__new__" = true := by decide +kernel
theorem e_tnew : entryFor table "type.__new__" = some Builtin.«type.__new__» := entryFor_of_tree (by kernel_rfl)
theorem e_chk (a b c : Value) : checkBuiltinCall "type.__new__" ⟨[.type "type", a, b, c], []⟩ = pure () := by kernel_rfl
theorem e_slot : Slot "type" "__init__" "type.__init__" := .of (owner := "type") (n := "__init__") (by rw [typeLookup_type, builtinLookup_eq_fast]; kernel_rfl) (by decide +kernel) (by decide +kernel) (by decide +kernel)
  (by first | exact .inl (by decide +kernel) | exact .inr (by decide +kernel)) (by rw [isSubtype_type]; kernel_rfl)
theorem e_iargs (a b c d : Value) : argsOk "type.__init__" ⟨[a, b, c, d], []⟩ := by unfold argsOk; kernel_rfl
theorem e_init : entryFor table "type.__init__" = some Builtin.«type.__init__» := entryFor_of_tree (by kernel_rfl)
section
variable {prog : Program} {w : World} {A : Around} {E : Value → Shared → Prop} {h : Heap} {g : Array GenState} {d : Drawn} {t : Nat} {os : OsState}
set_option maxHeartbeats 8000000 in
set_option maxRecDepth 100000 in
theorem tcall {bT nsA : Addr} {tn : Tok} {Q : Value → Shared → Prop} {s : Shared} {P : Addr → Shared → Prop}
   (hP : ∀ a s', P a s' → ∃ o cd, s'.heap.get? a = some o ∧ o.cls = .type "type" ∧ o.data = .cls cd)
   (hnew : ∀ {A'} {Q' : PySem.Fin → Shared → Prop} {E'}, (∀ a s', P a s' → Q' (.done (.ret (.ref a))) s') → wpAny (model prog w) A' (Builtin.«type.__new__» ⟨[.type "type", .str (Str.ofString "K") tn, .ref bT, .ref nsA], []⟩) Q' E' s)
   (hq : ∀ a s', P a s' → Q (.ref a) s') :
   wpAny (model prog w) A (call (.type "type") [.str (Str.ofString "K") tn, .ref bT, .ref nsA]) Q E s := by
  have hm : mroOf (.type "type") = pure [.type "type", .type "object"] := by kernel_rfl
  have hnw : typeLookup (.type "type") "__new__" = pure (some (.builtin "type.__new__")) := by rw [typeLookup_type, builtinLookup_eq_fast]; kernel_rfl
  have hmade : Bind.madeBy (.type "type") = pure (some "type.__new__") := madeBy_type hm hnw (by decide +kernel)
  have hct : checkTypeCall "type" ⟨[.str (Str.ofString "K") tn, .ref bT, .ref nsA], []⟩ = pure () := by kernel_rfl
  refine wpAny_call (codeAny_of_tree ?_)
  show wpAny _ _ (callAny (.type "type") _) _ _ _
  refine wpAny_pure ⟨Code.quiet_builtin _ (by decide +kernel), codeAny_builtin F.entry_type_call ?_⟩
  rw [Around.under_plain (weight_type_call_type "type" [.str (Str.ofString "K") tn, .ref bT, .ref nsA] []) rfl]
  unfold Builtin.«type.__call__»
  obtain ⟨h, g, d, t, os⟩ := s
  iterate 30 (first
    | ((with_reducible show wpAny _ _ (call _ _) _ _ _); refine Blk.mk ?_)
    | (with_reducible refine wpAny_of_eq hct ?_)
    | (with_reducible refine wpAny_of_eq hm ?_)
    | (with_reducible refine wpAny_of_eq hmade ?_)
    | wp_step | dsimp only | skip)
  refine Blk.out ?_
  refine wpAny_call (codeAny_call_builtin e_plain e_tnew ?_)
  refine wpAny_of_eq (e_chk _ _ _) ?_
  refine hnew fun a s' hp => ?_
  obtain ⟨o, cd, ho, hc, hd⟩ := hP a s' hp
  obtain ⟨h2, g2, d2, t2, os2⟩ := s'
  dsimp only at ho ⊢
  have hT : (⟨h2, g2, d2, t2, os2⟩ : Shared).TypeIs (.ref a) "type" := ⟨_, ho, hc⟩
  have hsub : isSubtype (.type "type") (.type "type") = pure true := by rw [isSubtype_type]; kernel_rfl
  have hli := e_slot.lookup
  have hbi := e_slot.bind (.ref a)
  iterate 30 (first
    | ((with_reducible show wpAny _ _ (call _ _) _ _ _); refine Blk.mk ?_)
    | (with_reducible refine wpAny_typeOf hT ?_)
    | assumption
    | wp_step | dsimp only | skip)
  refine Blk.out ?_
  show wpAny _ _ (call (Value.builtin "type.__init__") (Value.ref a :: [Value.str (Str.ofString "K") tn, Value.ref bT, Value.ref nsA])) _ _ _
  refine wpAny_call_entry e_slot hT e_init ?_ (e_iargs _ _ _ _)
  unfold Builtin.«type.__init__»
  iterate 12 (first | (refine ⟨_, rfl, ?_⟩) | wp_step | dsimp only | skip)
  exact hq _ _ hp
end
end Mine
end
section
open PySem PySem.W PyProof.Rows PySem.W.X PySem.Calls Builtin
set_option Elab.async false
namespace Mine
section
variable {M : Model} {A : Around} {E : Value → Shared → Prop} {h0 h : Heap} {g : Array GenState} {d : Drawn} {t : Nat} {os : OsState} {chg news : List (Addr × Obj)}
theorem mm_newAsIs {T : String} {data : Data} {dict : Option Addr} {Q : Value → Shared → Prop} (D : Mem h0 h chg news) (hf : ({ cls := .type T, dict, data } : Obj).isFreed = false) (hq : ∀ a h', Mem h0 h' chg ((a, { cls := .type T, dict, data }) :: news) → Q (.ref a) ⟨h', g, d, t, os⟩) : wpAny M A (newObjAsIs (.type T) data dict) Q E ⟨h, g, d, t, os⟩ :=
  wpAny_newObjAsIs_type (hq _ _ (D.alloc hf))
theorem mm_tuple {l : List Value} {Q : Value → Shared → Prop} (D : Mem h0 h chg news) (hz : l.length ≤ 100) (hq : ∀ a h', Mem h0 h' chg ((a, { cls := .type "tuple", data := .seq l.toArray }) :: news) → Q (.ref a) ⟨h', g, d, t, os⟩) : wpAny M A (newTuple l) Q E ⟨h, g, d, t, os⟩ := by
  unfold newTuple
  refine mm_newObj D rfl hq ?_
  show l.toArray.size ≤ _
  rw [List.size_toArray, sizeLine_eq]; omega
theorem mm_list {l : List Value} {Q : Value → Shared → Prop} (D : Mem h0 h chg news) (hz : l.length ≤ 100) (hq : ∀ a h', Mem h0 h' chg ((a, { cls := .type "list", data := .seq l.toArray }) :: news) → Q (.ref a) ⟨h', g, d, t, os⟩) : wpAny M A (newList l) Q E ⟨h, g, d, t, os⟩ := by
  unfold newList
  refine mm_newObj D rfl hq ?_
  show l.toArray.size ≤ _
  rw [List.size_toArray, sizeLine_eq]; omega
end
noncomputable def kprep : Obj := { cls := .type "builtin_function_or_method", data := .fields #[.builtin "type.__prepare__", .type "type"] }
theorem mem_cast1 {h0 h : Heap} {chg : List (Addr × Obj)} {a : Addr} {o o' : Obj} (D : Mem h0 h chg [(a, o)]) (e : o = o') : Mem h0 h chg [(a, o')] := e ▸ D
local macro_rules | `(tactic| x_close) => `(tactic| (rename Mem _ _ _ _ => D9; rename (∀ _ _, Mem _ _ _ _ → _) => hq9; exact hq9 _ _ (mem_cast1 D9 (by kernel_rfl)) _))
set_option maxRecDepth 100000 in
set_option maxHeartbeats 8000000 in
theorem prep_get {prog : Program} {w : World} {A : Around} {Q : Option Value → Shared → Prop} {E : Value → Shared → Prop} {h : Heap} {g : Array GenState} {d : Drawn} {t : Nat} {os : OsState}
   (hq : ∀ m h', Mem h h' [] [(m, kprep)] → ∀ tk, Q (some (.ref m)) ⟨h', g, d, tk, os⟩) :
   wpAny (model prog w) A (getAttr? (.type "type") "__prepare__") Q E ⟨h, g, d, t, os⟩ := by
  unfold getAttr?
  refine wpAny_bind (wpAny_mkText ?_)
  x_run
theorem p_chk (a b : Value) : checkBoundCall "type.__prepare__" ⟨[.type "type", a, b], []⟩ = pure () := by kernel_rfl
theorem p_plain : plainId "type.__prepare__" = true := by decide +kernel
theorem p_entry : entryFor table "type.__prepare__" = some Builtin.«type.__prepare__» := entryFor_of_tree (by kernel_rfl)
set_option maxRecDepth 100000 in
theorem prep_call {prog : Program} {w : World} {A : Around} {Q : Value → Shared → Prop} {E : Value → Shared → Prop} {h : Heap} {g : Array GenState} {d : Drawn} {t : Nat} {os : OsState} {m bT : Addr} {tn : Tok}
   (hm : h.get? m = some kprep)
   (hq : Q (.ref h.objs.size) ⟨h.push { cls := .type "dict", data := .dict #[] 0 }, g, d, t, os⟩) :
   wpAny (model prog w) A (call (.ref m) [.str (Str.ofString "K") tn, .ref bT]) Q E ⟨h, g, d, t, os⟩ := by
  refine wpAny_call (codeAny_of_tree ?_)
  show wpAny _ _ (callAny (.ref m) _) _ _ _
  unfold callAny
  refine wpAny_bind (wpAny_load hm ?_)
  show wpAny _ _ (do checkBoundCall "type.__prepare__" _; again _) _ _ _
  refine wpAny_bind (wpAny_of_eq (p_chk _ _) ?_)
  refine wpAny_pure ⟨plainId_quiet p_plain _, codeAny_builtin p_entry ?_⟩
  unfold Builtin.«type.__prepare__» newDict
  refine wpAny_bind (wpAny_newObj_type ?_ (by size_fits))
  exact wpAny_pure hq
end Mine
namespace Mine
theorem mm_specialS {M : Model} {A : Around} {E : Value → Shared → Prop} {h : Heap} {g : Array GenState} {d : Drawn} {t : Nat} {os : OsState} {a : Addr} {o : Obj} {T : String} {nm : Str} {v : Option Value} {Q : Option Value → Shared → Prop} (ho : h.get? a = some o) (hc : o.cls = .type T) (hl : typeLookup (.type T) nm = pure v) (hq : Q v ⟨h, g, d, t, os⟩) : wpAny M A (specialOf (.ref a) nm) Q E ⟨h, g, d, t, os⟩ := by
  unfold specialOf typeOf
  refine wpAny_bind (wpAny_bind (wpAny_loadPart ho (wpAny_pure ?_)))
  rw [hc, hl]
  exact wpAny_pure hq
theorem beq_false {a b : Nat} (h : b < a) : (a == b) = false := by simp; omega
end Mine
end
section
open PySem PySem.W PyProof.Rows PySem.W.X PySem.Calls Builtin
set_option Elab.async false
namespace Mine
section
variable {M : Model} {A : Around} {E : Value → Shared → Prop} {h0 h : Heap} {g : Array GenState} {d : Drawn} {t : Nat} {os : OsState} {news : List (Addr × Obj)}
theorem class_code {env : Env} {c P : Addr} {pos : Pos} {line : Nat} {name qual : Str} {scope : Scope} {Q : Value → Shared → Prop} (D : Mem h0 h [] news) (hc : env.code = .ref c) (C : CodeHd h0 c P) (hP : h0.get? P = some (tabObj #[]))
   (hq : ∀ cc PP ft h' tk fs vs u, Mem h0 h' [(P, tableObj #[rawInt pos.line, rawInt pos.col, .ref cc])] ((cc, { cls := .type "code", data := .fields vs }) :: (PP, tabObj #[]) :: (ft, { cls := .type "tuple", data := .seq fs }) :: news) →
      CodeHd h' cc PP → vs[1]? = some (.str qual u) → Q (.ref cc) ⟨h', g, d, tk, os⟩) :
   wpAny M A (classCode env pos line name qual scope) Q E ⟨h, g, d, t, os⟩ := by
  have hP' := mem_keep D _ _ hP
  refine gh fun pG hpG => ?_
  obtain ⟨o, vs, file, tf, flags, tg, inF, text, tt, ho, hcl, hd, h11, h11', h18, h7, h9, h10, hne⟩ := C.keeps (mem_keep D)
  refine hpG ?_
  clear hpG pG
  have hT : h0.TableAt c P #[] := C.tab hP
  unfold classCode codeAt
  rw [hc, if_neg (show ¬ ((Value.ref c == Value.none) = true) from Bool.false_ne_true)]
  refine wpAny_bind (wpAny_fieldsOf ho hd ?_)
  rw [h11']
  refine wpAny_bind (wpAny_fieldsOf hP' rfl ?_)
  have hnf : codeAmong pos (#[] : Array Value).toList = none := rfl
  rw [hnf, h18, h7, h9, h10]
  refine wpAny_bind ?_
  unfold newCode
  refine wpAny_bind (wpAny_mkText (wpAny_bind (wpAny_mkText (wpAny_bind (wpAny_mkText (wpAny_bind (wpAny_mkStrs fun fs => wpAny_bind ?_))))))) 
  refine mm_newAsIs D rfl fun ft h1 D1 => ?_
  refine wpAny_bind (mm_alloc D1 rfl fun PP h2 D2 => ?_)
  refine wpAny_bind (wpAny_pure (wpAny_bind (wpAny_pure (wpAny_bind (wpAny_pure (wpAny_bind (wpAny_fresh (wpAny_bind (wpAny_mkText ?_)))))))))
  unfold newFields
  refine mm_newObj D2 rfl (fun cc h3 D3 => ?_) (by size_fits)
  have hP3 := mem_keep D3 _ _ hP
  refine wpAny_bind (wpAny_updateFieldsOfTheText hP3 rfl ?_)
  have D4 := D3.grow (f := fun o => Obj.mapFields (fun vs => if (codeAmong pos vs.toList).isSome = true then vs else vs ++ #[rawInt pos.line, rawInt pos.col, .ref cc]) o) (more := #[rawInt pos.line, rawInt pos.col, .ref cc]) hT rfl rfl
  have hget := D4.atC 0 _ _ rfl
  refine wpAny_bind (wpAny_fieldsOf hget rfl ?_)
  have hl : ((#[] : Array Value) ++ #[rawInt pos.line, rawInt pos.col, Value.ref cc]).toList = ([] : List Value) ++ [rawInt pos.line, rawInt pos.col, .ref cc] := by simp
  rw [hl, codeAmong_snoc ([] : List Value) (show TriplesOk [] from trivial) hnf]
  have hcc := D4.at 0 _ _ rfl
  refine wpAny_pure (hq cc PP ft _ _ _ _ _ (by simpa using D4) ⟨_, _, _, _, _, _, _, _, _, hcc, rfl, rfl, rfl, rfl, rfl, rfl, rfl, rfl, D4.ne 0 1 _ _ _ _ rfl rfl rfl⟩ rfl)
end
end Mine
namespace Mine
theorem mem_keepC {h0 h : Heap} {P : Addr} {x : Obj} {news : List (Addr × Obj)} (D : Mem h0 h [(P, x)] news) {b : Addr} {o : Obj} (hb : b ≠ P) (e : h0.get? b = some o) : h.get? b = some o :=
  D.keep b o e (by
    have : away [(P, x)] b = true := by
      unfold away
      simp only [List.all_cons, List.all_nil, Bool.and_true, Bool.not_eq_true']
      cases q : Nat.beq P b with
      | false => rfl
      | true => exact absurd (Nat.eq_of_beq_eq_true q).symm hb
    rw [this, Bool.or_true])
theorem ns_keepC {h0 h : Heap} {P a : Addr} {x : Obj} {news : List (Addr × Obj)} {m : Str → Option Value} (D : Mem h0 h [(P, x)] news) (hb : a ≠ P) (k : h0.Ns a m) : h.Ns a m := k.at fun _ e => mem_keepC D hb e
theorem lim_keepC {h0 h : Heap} {P : Addr} {x : Obj} {news : List (Addr × Obj)} (D : Mem h0 h [(P, x)] news) (hb : cStatics ≠ P) (k : h0.NoLimit) : h.NoLimit := let ⟨mc, a, r⟩ := k; ⟨mc, ns_keepC D hb a, r⟩
section
variable {M : Model} {A : Around} {E : Value → Shared → Prop} {h0 h : Heap} {g : Array GenState} {d : Drawn} {t : Nat} {os : OsState} {chg news : List (Addr × Obj)}
theorem mm_frame {code : Value} {globals locals builtins : Addr} {mg : Str → Option Value} {Q : Addr → Shared → Prop} (D : Mem h0 h chg news) (hg : h.Ns globals mg)
   (hq : ∀ a h', Mem h0 h' chg ((a, { cls := .type "frame", slots := #[some code, some (.ref globals), some (.ref locals), none, some ((mg "__name__").getD .none), none, some (.ref builtins)] }) :: news) → Q a ⟨h', g, d, t, os⟩) :
   wpAny M A (newBodyFrame code globals locals builtins) Q E ⟨h, g, d, t, os⟩ := by
  unfold newBodyFrame
  refine wpAny_bind (wpAny_nsGet hg ?_)
  exact mm_alloc D rfl hq
theorem mm_localSet {prog : Program} {w : World} {A : Around} {E : Value → Shared → Prop} {env : Env} {N : Addr} {nm : Str} {v : Value} {l : List DictEntry} {l' : Int → Tok → List DictEntry} {n n' i : Nat} {Q : Unit → Shared → Prop} (D : Mem h0 h chg news) (hN : env.locals = N) (hi : news[i]? = some (N, kdict l n))
   (hr : aRefKeyMayBeTheName nm l.toArray = false) (hp : ∀ hh tk, Obj.putName nm hh (.str nm tk) v (kdict l n) = kdict (l' hh tk) n')
   (hq : ∀ h' hh, Mem h0 h' chg (news.set i (N, kdict (l' hh t) n')) → Q () ⟨h', g, d, t + 1, os⟩) :
   wpAny (model prog w) A (localSet env nm v) Q E ⟨h, g, d, t, os⟩ := by
  subst hN
  unfold localSet
  refine wpAny_bind (wpAny_load (D.at i _ _ hi) ?_)
  refine mm_ite_t (by rfl) ?_
  exact mm_nsSet D hi hr hp (fun _ _ => rfl) hq
/-- a store into a class's body -/
theorem mm_store {prog : Program} {w : World} {A : Around} {E : Value → Shared → Prop} {env : Env} {N : Addr} {nm : Str} {v : Value} {l : List DictEntry} {l' : Int → Tok → List DictEntry} {n n' i : Nat} {Q : Unit → Shared → Prop} (D : Mem h0 h chg news) (he : storeName env nm v = localSet env nm v) (hN : env.locals = N) (hi : news[i]? = some (N, kdict l n))
   (hr : aRefKeyMayBeTheName nm l.toArray = false) (hp : ∀ hh tk, Obj.putName nm hh (.str nm tk) v (kdict l n) = kdict (l' hh tk) n')
   (hq : ∀ h' hh, Mem h0 h' chg (news.set i (N, kdict (l' hh t) n')) → Q () ⟨h', g, d, t + 1, os⟩) :
   wpAny (model prog w) A (storeName env nm v) Q E ⟨h, g, d, t, os⟩ := by
  rw [he]
  exact mm_localSet D hN hi hr hp hq
theorem put_new {l : List DictEntry} {n : Nat} {nm : Str} {hh : Int} {key v : Value} (h : l.all (fun e => !e.key.isStr nm) = true) : Obj.putName nm hh key v (kdict l n) = kdict (l ++ [⟨hh, key, v⟩]) (n + 1) := by
  rw [Obj.putName_eq]
  unfold kdict Obj.putNameByArray
  have : l.toArray.findIdx? (fun e => e.key.isStr nm) = none := by
    rw [List.findIdx?_toArray, List.findIdx?_eq_none_iff]
    intro e he
    have := List.all_eq_true.mp h e he
    simpa using this
  simp only [this, List.push_toArray]
theorem no_ref {l : List DictEntry} {nm : Str} (h : l.any (·.refKey) = false) : aRefKeyMayBeTheName nm l.toArray = false := by
  rw [aRefKeyMayBeTheName_at, List.any_toArray, List.any_toArray, h, Bool.and_false]
end
end Mine
end
section
open PySem PySem.W PyProof.Rows PySem.W.X PySem.Calls Builtin
set_option Elab.async false
namespace Mine
set_option maxRecDepth 100000
noncomputable def vStr : Value → Str × Tok | .str s t => (s, t) | _ => (default, 0)
noncomputable def vInt : Value → Int × Tok | .int s t => (s, t) | _ => (0, 0)
noncomputable def vBool : Value → Bool | .bool b => b | _ => false
noncomputable def dFields : Data → Array Value | .fields vs => vs | _ => #[]
noncomputable def ckO (w : World) : Obj := ((hd.heap_39 w.params).lookup 20).getD default
noncomputable def ckV (w : World) : Array Value := dFields (ckO w).data
theorem ck_code (w : World) {h : Heap} (X : (hd.heap_39 w.params).In h) : CodeHd h 20 16 :=
  ⟨ckO w, ckV w, (vStr ((ckV w).getD 18 .none)).1, (vStr ((ckV w).getD 18 .none)).2, (vInt ((ckV w).getD 7 .none)).1, (vInt ((ckV w).getD 7 .none)).2, vBool ((ckV w).getD 9 .none), (vInt ((ckV w).getD 10 .none)).1, (vInt ((ckV w).getD 10 .none)).2,
    X _ _ (by kernel_rfl), by kernel_rfl, by kernel_rfl, by kernel_rfl, by kernel_rfl, by kernel_rfl, by kernel_rfl, by kernel_rfl, by kernel_rfl, by decide⟩
end Mine
namespace Mine
noncomputable def ldClass (env : Env) (nm : Str) : Sem Value := do
  if let some v ← localGet env nm then return v
  loadGlobal env nm
section
variable {M : Model} {A : Around} {E : Value → Shared → Prop} {h0 h : Heap} {g : Array GenState} {d : Drawn} {t : Nat} {os : OsState} {chg news : List (Addr × Obj)}
theorem mm_ldClass {env : Env} {N : Addr} {nm : Str} {l : List DictEntry} {n i : Nat} {mg : Str → Option Value} {v : Value} {Q : Value → Shared → Prop} (D : Mem h0 h chg news) (hN : env.locals = N) (hi : news[i]? = some (N, kdict l n))
   (hl : nsLook nm (kdict l n) = pure none) (hg : h.Ns env.globals mg) (hv : mg nm = some v) (hq : Q v ⟨h, g, d, t, os⟩) : wpAny M A (ldClass env nm) Q E ⟨h, g, d, t, os⟩ := by
  subst hN
  unfold ldClass localGet
  refine wpAny_bind (wpAny_bind (wpAny_load (D.at i _ _ hi) ?_))
  refine mm_ite_t (by rfl) ?_
  refine mm_nsGet (D.at i _ _ hi) hl ?_
  dsimp only
  unfold loadGlobal
  refine wpAny_bind (wpAny_nsGet hg ?_)
  rw [hv]
  exact wpAny_pure hq
end
end Mine
end
section
open PySem PySem.W PyProof.Rows PySem.W.X PySem.Calls Builtin
set_option Elab.async false
namespace Mine
section
variable {h0 h h' : Heap} {chg news : List (Addr × Obj)}
theorem mem_thenC (D : Mem h0 h chg news) (k : ∀ b o, h.get? b = some o → h'.get? b = some o) : Mem h0 h' chg news :=
  ⟨fun b o e q => k _ _ (D.keep b o e q), fun p hp => ⟨k _ _ (D.ch p hp).1, (D.ch p hp).2⟩, D.cd, fun p hp => ⟨k _ _ (D.nw p hp).1, (D.nw p hp).2⟩, D.ord⟩
theorem mem_cons {a : Addr} {o : Obj} (D : Mem h0 h chg news) (e : h.get? a = some o) (l : ∀ p ∈ news, p.1 < a) (n : h0.get? a = none) : Mem h0 h chg ((a, o) :: news) :=
  ⟨D.keep, D.ch, D.cd, fun p hp => by
    rcases List.mem_cons.mp hp with rfl | hp
    · exact ⟨e, n⟩
    · exact D.nw p hp, List.Pairwise.cons (fun b hb => by
    refine gh fun pG hpG => ?_
    obtain ⟨p, hp, rfl⟩ := List.mem_map.mp hb
    refine hpG ?_
    clear hpG pG
    exact l p hp) D.ord⟩
theorem mem_none (D : Mem h0 h chg news) {a : Addr} (hl : h.objs.size ≤ a) : h0.get? a = none := by
  cases q : h0.get? a with
  | none => rfl
  | some o =>
    obtain ⟨o', e⟩ := D.there q
    exact absurd (Heap.lt_size e) (Nat.not_lt.mpr hl)
theorem mem_lt (D : Mem h0 h chg news) {p : Addr × Obj} (hp : p ∈ news) : p.1 < h.objs.size := Heap.lt_size (D.nw p hp).1
end
section
variable {M : Model} {A : Around} {E : Value → Shared → Prop} {h0 h : Heap} {g : Array GenState} {d : Drawn} {t : Nat} {os : OsState} {chg news : List (Addr × Obj)}
theorem mm_fn {env : Env} {c P : Addr} {mg : Str → Option Value} {ps : Array Value} {i : Nat} {name qual : Str} {params : Arguments} {body : List Stmt} {scope : Scope} {clos : List (Str × Addr)} {pos : Pos} {line : Nat} {Q : Value → Shared → Prop}
   (D : Mem h0 h chg news) (hi : news[i]? = some (P, tabObj ps)) (hcl : closureFor scope env = pure clos) (hge : env.globals = mainGlobals) (hg : h.Ns mainGlobals mg) (hcode : env.code = .ref c) (C : CodeHd h c P) (ht : TriplesOk ps.toList)
   (hnf : codeAmong pos ps.toList = none) (hgP : mainGlobals ≠ P) (hb : h.BuiltinsAt mg P)
   (hq : ∀ f c' oc vs u ctv doc h' tk, Mem h0 h' chg ((f, fnMade name qual params body scope clos doc ((mg "__name__").getD .none) c' ctv) :: (c', oc) :: news.set i (P, tabObj (ps ++ #[rawInt pos.line, rawInt pos.col, .ref c']))) →
      (∀ b o, b ≠ P → h.get? b = some o → h'.get? b = some o) → oc.data = .fields vs → vs[1]? = some (.str qual u) → Q (.ref f) ⟨h', g, d, tk, os⟩) :
   wpAny M A (makeFunction name qual params (.stmts body) scope env [] [] [] pos line) Q E ⟨h, g, d, t, os⟩ := by
  have hP := D.at i _ _ hi
  refine makeFunction_K (mg := mg) hcl hge hg hcode C hP ht hnf hgP hb fun c' ctv doc h' tk hx hge' hlt hrec htb => ?_
  refine gh fun pG hpG => ?_
  obtain ⟨c₂, oc, vs, u, e2, hoc, hd, hv⟩ := hrec
  refine hpG ?_
  clear hpG pG
  cases e2
  dsimp only at hx hge' hlt hoc htb ⊢
  have D1 := D.update (f := fun _ => tabObj (ps ++ #[rawInt pos.line, rawInt pos.col, .ref c'])) hi rfl
  have k1 : ∀ b o, (h.update P fun _ => tabObj (ps ++ #[rawInt pos.line, rawInt pos.col, .ref c'])).get? b = some o → h'.get? b = some o := fun b o e => by
    by_cases q : b = P
    · subst q
      rw [Heap.get?_update_self (fun _ => tabObj (ps ++ #[rawInt pos.line, rawInt pos.col, .ref c'])) hP rfl] at e
      rw [htb, ← e]
    · rw [Heap.get?_update_ne _ _ _ _ q] at e
      exact hx b o q e
  have D2 := mem_thenC D1 k1
  have hsz : ∀ p ∈ news.set i (P, tabObj (ps ++ #[rawInt pos.line, rawInt pos.col, .ref c'])), p.1 < h.objs.size := fun p hp => by
    rcases List.mem_or_eq_of_mem_set hp with hp | rfl
    · exact mem_lt D hp
    · exact Heap.lt_size hP
  have D3 := mem_cons D2 hoc (fun p hp => Nat.lt_of_lt_of_le (hsz p hp) hge') (mem_none D hge')
  have D4 := D3.alloc (o := fnMade name qual params body scope clos doc ((mg "__name__").getD .none) c' ctv) rfl
  exact hq _ _ _ _ _ _ _ _ _ D4 (fun b o hb e => Heap.get?_push_of_some _ (hx b o hb e)) hd hv
end
end Mine
namespace Mine
structure CB (h0 : Heap) (mg : Str → Option Value) (T : Addr) : Prop where
  g : h0.Ns mainGlobals mg
  b : h0.BuiltinsAt mg T
  t : mainGlobals ≠ T
theorem CB.ns {h0 h : Heap} {mg : Str → Option Value} {T : Addr} {x : Obj} {news : List (Addr × Obj)} (B : CB h0 mg T) (D : Mem h0 h [(T, x)] news) : h.Ns mainGlobals mg := ns_keepC D B.t B.g
theorem CB.ne {h0 h : Heap} {mg : Str → Option Value} {T P : Addr} {x o : Obj} {news : List (Addr × Obj)} {i : Nat} (B : CB h0 mg T) (D : Mem h0 h [(T, x)] news) (hi : news[i]? = some (P, o)) : mainGlobals ≠ P := by
  refine gh fun pG hpG => ?_
  obtain ⟨o', es, ep, e, _⟩ := B.g
  refine hpG ?_
  clear hpG pG
  exact (D.ne_old i P o hi mainGlobals o' e).symm
theorem CB.bt {h0 h : Heap} {mg : Str → Option Value} {T P : Addr} {x o : Obj} {news : List (Addr × Obj)} {i : Nat} (B : CB h0 mg T) (D : Mem h0 h [(T, x)] news) (hi : news[i]? = some (P, o)) : h.BuiltinsAt mg P := by
  refine gh fun pG hpG => ?_
  obtain ⟨bm, ob, b1, b2, b3, b4, b5, r⟩ := B.b
  refine hpG ?_
  clear hpG pG
  exact ⟨bm, ob, b1, b2, b3, (D.ne_old i P o hi bm ob b5).symm, mem_keepC D b4 b5, r⟩
theorem codeHd_at {h h' : Heap} {c P : Addr} (x : CodeHd h c P) (k : ∀ o, h.get? c = some o → h'.get? c = some o) : CodeHd h' c P := by
  have e : h'.get? c = h.get? c := by
    refine gh fun pG hpG => ?_
    obtain ⟨o, _, _, _, _, _, _, _, _, e, _⟩ := x
    refine hpG ?_
    clear hpG pG
    exact (k o e).trans e.symm
  unfold CodeHd at x ⊢
  rw [e]
  exact x
section
variable {prog : Program} {w : World} {A : Around} {E : Value → Shared → Prop} {h0 h : Heap} {g : Array GenState} {d : Drawn} {t : Nat} {os : OsState} {news : List (Addr × Obj)}
theorem mm_def {env : Env} {N c P T : Addr} {x : Obj} {mg : Str → Option Value} {pl : List Value} {iN iP iC n : Nat} {oc' : Obj} {l : List DictEntry} {name qual : Str} {params : Arguments} {body : List Stmt} {scope : Scope} {clos : List (Str × Addr)} {pos : Pos} {Q : Flow → Shared → Prop}
   (D : Mem h0 h [(T, x)] news) (B : CB h0 mg T) (hiN : news[iN]? = some (N, kdict l n)) (hiP : news[iP]? = some (P, tabObj pl.toArray)) (hiC : news[iC]? = some (c, oc')) (hne : iP ≠ iN) (hneC : iP ≠ iC) (hcl : closureFor scope env = pure clos) (hge : env.globals = mainGlobals) (hcode : env.code = .ref c) (C : CodeHd h c P) (ht : TriplesOk pl)
   (hnf : codeAmong pos pl = none) (hq0 : qualnameIn env name name = qual) (hd0 : params.defaults = []) (hk0 : params.kw_defaults = []) (ha : annTrees params none env = [])
   (hst : ∀ v, storeName env name v = localSet env name v) (hN : env.locals = N) (hr : l.any (·.refKey) = false) (hall : l.all (fun e => !e.key.isStr name) = true)
   (hq : ∀ f c' oc vs u ctv doc h' hh th tk, Mem h0 h' [(T, x)] ((f, fnMade name qual params body scope clos doc ((mg "__name__").getD .none) c' ctv) :: (c', oc) :: (news.set iP (P, tabObj (pl ++ [rawInt pos.line, rawInt pos.col, .ref c']).toArray)).set iN (N, kdict (l ++ [⟨hh, .str name th, .ref f⟩]) (n + 1))) →
      CodeHd h' c P → oc.data = .fields vs → vs[1]? = some (.str qual u) → Q .next ⟨h', g, d, tk, os⟩) :
   wpAny (model prog w) A (exec (.FunctionDef name params body [] none [] scope none name pos) env) Q E ⟨h, g, d, t, os⟩ := by
  refine nestDef_K hd0 hk0 ha ?_
  rw [hq0]
  refine mm_fn D hiP hcl hge (B.ns D) hcode C ht hnf (B.ne D hiP) (B.bt D hiP) fun f c' oc vs u ctv doc h' tk D1 hk1 hd hv => ?_
  rw [show pl.toArray ++ #[rawInt pos.line, rawInt pos.col, Value.ref c'] = (pl ++ [rawInt pos.line, rawInt pos.col, Value.ref c']).toArray by simp] at D1
  have hiN1 : ((f, fnMade name qual params body scope clos doc ((mg "__name__").getD .none) c' ctv) :: (c', oc) :: news.set iP (P, tabObj (pl ++ [rawInt pos.line, rawInt pos.col, .ref c']).toArray))[iN + 1 + 1]? = some (N, kdict l n) := by
    rw [List.getElem?_cons_succ, List.getElem?_cons_succ, List.getElem?_set_ne hne]; exact hiN
  refine mm_store D1 (hst _) hN hiN1 (no_ref hr) (fun hh tk => put_new hall) fun h2 hh D2 => ?_
  rw [List.set_cons_succ, List.set_cons_succ] at D2
  refine hq f c' oc vs u ctv doc h2 hh tk _ D2 ?_ hd hv
  have cP : c ≠ P := by obtain ⟨_, _, _, _, _, _, _, _, _, _, _, _, _, _, _, _, _, _, hn⟩ := C; exact hn
  refine codeHd_at C fun o e => ?_
  have e1 := hk1 c o cP e
  have e0 := D.at iC _ _ hiC
  rw [e] at e0
  cases e0
  by_cases q : iN = iC
  · subst q
    rw [hiN] at hiC
    cases hiC
    refine gh fun pG hpG => ?_
    obtain ⟨o3, vs3, _, _, _, _, _, _, _, e3, e4, e5, _⟩ := C
    refine hpG ?_
    clear hpG pG
    rw [e] at e3; cases e3
    cases e5
  · refine D2.at (iC + 1 + 1) _ _ ?_
    rw [List.getElem?_cons_succ, List.getElem?_cons_succ, List.getElem?_set_ne q, List.getElem?_set_ne hneC]
    exact hiC
end
end Mine
namespace Mine
theorem put_mod {h1 h2 h3 : Int} {t1 t2 t3 : Tok} {v1 v2 v3 v : Value} {n : Nat} {hh : Int} {key : Value} : Obj.putName "__module__" hh key v (kdict [ent h1 "__module__" t1 v1, ent h2 "__qualname__" t2 v2, ent h3 "__firstlineno__" t3 v3] n) =
   kdict [ent h1 "__module__" t1 v, ent h2 "__qualname__" t2 v2, ent h3 "__firstlineno__" t3 v3] n := by kernel_rfl
end Mine
end
section
open PySem PySem.W PyProof.Rows PySem.W.X PySem.Calls Builtin
set_option Elab.async false
namespace Mine
set_option maxRecDepth 100000
theorem look_opaque (w : World) {h : Heap} (X : (hd.heap_39 w.params).In h) : Looks (model PySem.Challenge.rw_mq0210_02.row.prog w) h anyOpaqueLoaded false := Looks.of_peek X (by kernel_rfl)
end Mine
end
section
open PySem PySem.W PyProof.Rows PySem.W.X PySem.Calls Builtin
set_option Elab.async false
namespace Mine
noncomputable def Blk2 (p : Prop) : Prop := p
theorem Blk2.mk {p : Prop} (h : Blk2 p) : p := h
theorem Blk2.out {p : Prop} (h : p) : Blk2 p := h
local macro_rules | `(tactic| walk_at "exec ClassDef") => `(tactic| refine Blk2.mk ?_)
theorem evalArgs_f {M : Model} {A : Around} {E : Value → Shared → Prop} {s : Shared} {f : Value} {x : Sem Value} {rest : List (Bool × Sem Value)} {Q : Args → Shared → Prop}
    (h : wpAny M A (spliced ((false, x) :: rest)) (fun vs s' => Q ⟨vs, []⟩ s') E s) : wpAny M A (evalArgs f false ((false, x) :: rest) []) Q E s :=
  PySem.Calls.evalArgs_plain h
theorem guard_ok {M : Model} {A : Around} {E : Value → Shared → Prop} {s : Shared} {env : Env} {mb : Str → Option Value} {Q : Unit → Shared → Prop} (hb : s.heap.Ns builtinsNs mb) (he : env.builtins = builtinsNs) (hv : mb "__build_class__" = some (.builtin "__build_class__")) (h : Q () s) : wpAny M A (buildClassGuard env) Q E s := by
  unfold buildClassGuard
  rw [he]
  refine wpAny_bind (wpAny_nsGet hb ?_)
  rw [hv]
  exact wpAny_pure h
theorem qual_K (L' : Addr) : qualnameIn (envOfC (Str.ofString "cmp_to_key")
      { kind := ScopeKind.function,
        names :=
          [(Str.ofString "mycmp", NameKind.cell), (Str.ofString "K", NameKind.local),
            (Str.ofString "object", NameKind.globalImplicit)],
        isGenerator := false, isCoroutine := false }
      L' 21 (Value.ref 20)) (Str.ofString "K") (Str.ofString "K") = Str.ofString "cmp_to_key.<locals>.K" := by kernel_rfl
local macro_rules | `(tactic| walk_at "buildClass") => `(tactic| refine Blk2.mk ?_)
theorem tf_isType : isType (.type "object") = pure true := by kernel_rfl
theorem tf_isType2 : isType (.type "type") = pure true := by kernel_rfl
theorem tf_sub : isSubtype (.type "type") (.type "type") = pure true := by rw [isSubtype_type]; kernel_rfl
theorem tf_typeOf : typeOf (.type "object") = pure (.type "type") := by kernel_rfl
theorem tf_dgi : typeLookup (.type "dict") "__getitem__" = pure (some (.builtin "dict.__getitem__")) := by rw [typeLookup_type, builtinLookup_eq_fast]; kernel_rfl
/-- what type.__new__ leaves -/
inductive TNew (h : Heap) (s₀ : Shared) (bT : Addr) (tn : Tok) (sl f1 f2 f3 f4 f5 f6 st : Addr) (a : Addr) (s' : Shared) : Prop
  | mk (m N : Addr) (tq t1' t2' t3' t1 t3 t4 t5 t6 t7 t8 t9 t10 t11 t12 tm ti : Tok) (ho hd h1 h3 h4 h5 h6 h7 h8 h9 h10 h11 h12 ln : Int) (md : Str) (n : Nat) (D : Mem h s'.heap [] [(m, kmem t1' a), (a, kclsF bT tn tq (Str.ofString "cmp_to_key.<locals>.K") N a),
    (N, kdict (kents h1 h3 h4 h5 h6 h7 h8 h9 h10 h11 h12 t1 t3 t4 t5 t6 t7 t8 t9 t10 t11 t12 tm ti ln md sl f1 f2 f3 f4 f5 f6 st ++ [ent ho "obj" t2' (.ref m), ent hd "__doc__" t3' .none]) n)]) (e1 : s'.gens = s₀.gens) (e2 : s'.drawn = s₀.drawn) (e3 : s'.os = s₀.os) : TNew h s₀ bT tn sl f1 f2 f3 f4 f5 f6 st a s'
theorem fr_eq {h₀ h : Heap} {L : Addr} {m m' : Str → Option Value} (F : Fr h₀ L h m) (e : m = m') : Fr h₀ L h m' := e ▸ F
theorem cell_in {h0 h h' : Heap} {L : Addr} {kn r : List (Addr × Obj)} {a : Addr} {o : Obj} (N : News h0 L h (kn ++ (a, o) :: r)) : h.get? a = some o := (N (a, o) (List.mem_append_right _ (.head _))).1
set_option maxRecDepth 100000 in
set_option maxHeartbeats 8000000 in
theorem ck_claim (w : World) (mean : ExcName → Option Value) (mg mb : Str → Option Value) (f : Addr) :
  ∀ (dp un : Nat) (gd : Option (List Code)) (cn : Str) (cs : Scope) (a : Addr) (ccd : Value) (cl : List (Str × Addr)) (outer : List Env) (A₀ : Around) (base h₀ : Heap) (L : Addr) (m : Str → Option Value) (own rest : List (Addr × Obj)) (s : Shared) (Q E : Value → Shared → Prop),
    Below A₀ base outer h₀ → Fr h₀ L s.heap m → (hd.heap_39 w.params).In h₀ → News h₀ L s.heap (own ++ (16, tabObj #[]) :: rest) → Top topProg LOO mean mg mb h₀ → cs.kind = .function →
    dp + 10 < recursionLimit → un + 50 < cLine → (∀ p ∈ own, p.1 ≠ 16) → (∀ p ∈ rest, p.1 ≠ 16) →
    (∀ (K9 cell : Addr) (kn : List (Addr × Obj)) (oc : Obj) (ps : Array Value) (h' : Heap) (tk' : Nat), Fr h₀ L h' m → News h₀ L h' (kn ++ (cell, oc) :: (own ++ (16, tabObj ps) :: rest)) → KList cell K9 kn → oc.data = .cell (some (.ref f)) → Q (.ref K9) { s with heap := h', toks := tk' }) →
      wpAny (model PySem.Challenge.rw_mq0210_02.row.prog w) (ktrTop dp un gd cn cs L a ccd cl outer) (call (.ref 21) [.ref f]) Q E s := by
   have hx : PySem.Challenge.rw_mq0210_02 = PySem.Challenge.rw_mq0210_02 := rfl
   have hy : hd.heap_39 = hd.heap_39 := rfl
   revert hx hy
   k_fill
   intro hx hy
   clear hx hy
   w_on
   intro dp un gd cn cs a ccd clo outer A₀ base h₀ L mm own rest s Q E hB F X N T hk hdp hun hown hrest hret
   refine wpAny_call ?_
   k_dflt (refine' code_defC ?k1 ?k2 ?k3 ?k4 ?k5 ?kA ?kF ?kK ?k6 ?k7 ?k8 ?k9 ?kB ?kD ?_ ?c2 ?c3 ?c4; (case kA => exact rfl); (case kF => exact rfl); (case kK => assumption); (case k1 => k_asm); (case k2 => k_asm); (case k3 => k_asm); (case k4 => k_asm); (case k5 => k_asm); (case k6 => k_is); (case k7 => k_is); (case k8 => ktr_room); (case k9 => exact BindsTo.of_eq rfl); (case kB => exact rfl); (case kD => decide +kernel); (case c2 => exact rfl); (case c3 => exact rfl); (case c4 => exact rfl); k_whole; intro g' L' h' tk' cells' FG' F' N' Y' B' X' T' l1; (try k_lt l1); k_cells Y'; (try simp only [List.cons_append, List.nil_append] at N'); (try dsimp only); (try k_lift B'); (try k_fold))
   k_steps
   refine Blk2.out ?_
   have hx : PySem.Challenge.rw_mq0210_02 = PySem.Challenge.rw_mq0210_02 := rfl
   have hy : hd.heap_39 = hd.heap_39 := rfl
   revert hx hy
   k_fill
   intro hx hy
   clear hx hy
   w_on
   rw [arm_exec_ClassDef]
   refine wpAny_bind (wpAny_pure ?_)
   refine wpAny_bind (wpAny_standAt ?_)
   refine wpAny_bind (guard_ok (T'.b.keeps F'.keep) rfl ((T'.builtins _ (by decide +kernel)).trans boot_bc) ?_)
   refine wpAny_bind (wpAny_holding (wpAny_bind ?_))
   refine evalArgs_f (Calls.spliced_cons (mm_ite_f (by decide) ?_))
   k_steps
   refine wpAny_bind (wpAny_standAt (wpAny_holding ?_))
   rw [qual_K]
   refine wpAny_mono (Q := fun v s9 => ∃ K9, v = .ref K9 ∧ KRes h' { heap := h', gens := s.gens, drawn := s.drawn, toks := tk', os := s.os } (L' + 1) K9 s9) (E := fun _ _ => False) ?build ?post (fun _ _ z => z.elim)
   case build =>
     have hdep : ((ktrTop dp un gd cn cs L a ccd clo outer).deeper (envOfC (Str.ofString "cmp_to_key")
       { kind := ScopeKind.function,
         names :=
           [(Str.ofString "mycmp", NameKind.cell), (Str.ofString "K", NameKind.local),
             (Str.ofString "object", NameKind.globalImplicit)],
         isGenerator := false, isCoroutine := false } L' 21 (Value.ref 20))).depth + 5 < recursionLimit := by
       show dp + 1 + 5 < recursionLimit
       omega
     have hun9 : ((ktrTop dp un gd cn cs L a ccd clo outer).deeper (envOfC (Str.ofString "cmp_to_key")
       { kind := ScopeKind.function,
         names :=
           [(Str.ofString "mycmp", NameKind.cell), (Str.ofString "K", NameKind.local),
             (Str.ofString "object", NameKind.globalImplicit)],
         isGenerator := false, isCoroutine := false } L' 21 (Value.ref 20))).handled = none := rfl
     generalize hA9 : ((ktrTop dp un gd cn cs L a ccd clo outer).deeper (envOfC (Str.ofString "cmp_to_key")
       { kind := ScopeKind.function,
         names :=
           [(Str.ofString "mycmp", NameKind.cell), (Str.ofString "K", NameKind.local),
             (Str.ofString "object", NameKind.globalImplicit)],
         isGenerator := false, isCoroutine := false } L' 21 (Value.ref 20))) = A9 at hdep hun9 ⊢
     clear hA9
     generalize henv : (envOfC (Str.ofString "cmp_to_key")
       { kind := ScopeKind.function,
         names :=
           [(Str.ofString "mycmp", NameKind.cell), (Str.ofString "K", NameKind.local),
             (Str.ofString "object", NameKind.globalImplicit)],
         isGenerator := false, isCoroutine := false } L' 21 (Value.ref 20)) = env9
     have D0 := Mem.start h'
     have hg9 := T'.g.keeps F'.keep
     have hX9 := X'.keeps F'.keep
     unfold buildClass
     refine wpAny_bind (mm_tuple D0 (by decide) fun bT h1 D1 => ?_)
     refine wpAny_bind (mm_forIn1 rfl (wpAny_bind (wpAny_of_eq tf_isType ?_)))
     refine mm_ite_t (by decide) ?_
     refine mm_ite_f (by decide) ?_
     refine wpAny_pure ?_
     dsimp -zeta only
     refine wpAny_bind (wpAny_of_eq tf_typeOf ?_)
     refine wpAny_bind (wpAny_of_eq tf_isType2 ?_)
     refine mm_ite_t (by decide) ?_
     refine wpAny_bind (mm_forIn1 rfl (wpAny_bind (wpAny_of_eq tf_typeOf (wpAny_bind (wpAny_of_eq tf_sub ?_)))))
     refine mm_ite_t (by decide) ?_
     refine wpAny_pure ?_
     dsimp -zeta only
     refine wpAny_bind (wpAny_mkText ?_)
     refine mm_ite_f (by decide) ?_
     refine wpAny_bind (wpAny_pure ?_)
     dsimp -zeta only
     refine wpAny_holding ?_
     refine wpAny_bind (prep_get fun mp h2 D2 t2 => ?_)
     refine wpAny_bind (prep_call (D2.at 0 _ _ rfl) ?_)
     have D3 := (mem_then D1 (mem_keep D2)).alloc (o := { cls := .type "dict", data := .dict #[] 0 }) rfl
     have hN35 : sysModules < h2.objs.size := Nat.lt_trans (by decide) (Heap.lt_size (mem_keep (mem_then D1 (mem_keep D2)) _ _ (hX9 21 _ rfl)))
     clear D0 D1 D2
     generalize h2.objs.size = N at D3 hN35 ⊢
     generalize h2.push { cls := .type "dict", data := .dict #[] 0 } = h3 at D3 ⊢
     dsimp -zeta only
     refine wpAny_bind ?_
     unfold notTheModulesDict
     refine mm_ite_f (decide_eq_false (by rw [beq_false hN35]; exact Bool.false_ne_true)) (wpAny_pure ?_)
     refine wpAny_bind (mm_specialS (D3.at 0 _ _ rfl) rfl tf_dgi ?_)
     refine mm_ite_f (by decide) ?_
     refine wpAny_holding ?_
     have h30 : h'.get? 16 = some (tabObj #[]) := (N' (16, tabObj #[]) (.tail _ (List.mem_append_right _ (.head _)))).1
     obtain ⟨oc9, hoc9⟩ : ∃ oc, h'.get? (L' + 1) = some oc := ⟨_, (N' _ (.head _)).1⟩
     refine mm_ite_f (by decide) ?_
     refine wpAny_bind (wpAny_pure ?_)
     refine mm_ite_f (by decide) ?_
     refine wpAny_bind (wpAny_pure ?_)
     refine wpAny_bind (class_code D3 (by rw [← henv]; rfl) (ck_code w hX9) h30 fun cc PP ft h4 t4 fs vs u D4 hC4 hv4 => ?_)
     have hg4 := ns_keepC D4 (by decide) hg9
     refine gh fun pG hpG => ?_
     obtain ⟨bm, ob, b1, b2, b3, b4, b5, b6⟩ := T'.bmain
     refine hpG ?_
     clear hpG pG
     have hob : h'.get? bm = some ob := F'.keep _ _ b3
     have hbm30 : bm ≠ 16 := fun e => by rw [e, h30] at hob; cases hob; cases b4
     refine wpAny_bind (wpAny_builtinsFor (by rw [← henv]; exact hg4) b1 b2 (mem_keepC D4 hbm30 hob) b4 b5 b6 ?_)
     refine wpAny_bind (mm_frame D4 (by rw [← henv]; exact hg4) fun fr h5 D5 => ?_)
     have hcl : ∀ sc : Scope, sc.names = [(Str.ofString "__module__", NameKind.local), (Str.ofString "__slots__", NameKind.local), (Str.ofString "__init__", NameKind.local), (Str.ofString "__lt__", NameKind.local), (Str.ofString "__gt__", NameKind.local), (Str.ofString "__eq__", NameKind.local), (Str.ofString "__le__", NameKind.local), (Str.ofString "__ge__", NameKind.local), (Str.ofString "__hash__", NameKind.local), (Str.ofString "mycmp", NameKind.free)] → closureFor sc env9 = pure [(Str.ofString "mycmp", L' + 1)] := by
       intro sc hsc
       unfold closureFor
       rw [hsc, ← henv]
       kernel_rfl
     refine wpAny_bind (wpAny_of_eq (hcl _ rfl) ?_)
     refine wpAny_holding ?_
     refine wpAny_bind (wpAny_enterFrame (lim_keepC D5 (by decide) (T'.nolimit.keeps F'.keep)) (Nat.lt_of_le_of_lt (Nat.le_add_right _ 5) hdep) ?_)
     have hgl : env9.globals = mainGlobals := by rw [← henv]; rfl
     rw [hgl] at D5 ⊢
     generalize hcenv : ({
                         scope :=
                           { kind := ScopeKind.class,
                             names :=
                               [(Str.ofString "__module__", NameKind.local), (Str.ofString "__slots__", NameKind.local),
                                 (Str.ofString "__init__", NameKind.local), (Str.ofString "__lt__", NameKind.local),
                                 (Str.ofString "__gt__", NameKind.local), (Str.ofString "__eq__", NameKind.local),
                                 (Str.ofString "__le__", NameKind.local), (Str.ofString "__ge__", NameKind.local),
                                 (Str.ofString "__hash__", NameKind.local), (Str.ofString "mycmp", NameKind.free)],
                             isGenerator := false, isCoroutine := false },
                         locals := N, globals := mainGlobals,
                         cells :=
                           (Option.map (fun x => (Str.ofString "__class__", x)) none).toList ++
                               (Option.map (fun x => (Str.ofString "__classdict__", x)) none).toList ++
                             [(Str.ofString "mycmp", L' + 1)],
                         qual := Str.ofString "cmp_to_key.<locals>.K" ++ Str.ofString ".", code := Value.ref cc,
                         frame := some fr, builtins := builtinsNs } : Env) = cenv
     obtain ⟨tn9, hn9⟩ := glob_name w
     have hmgn := mg_of hX9 hg9 hn9
     have hg5 := ns_keepC D5 (by decide) hg9
     have hcN : cenv.locals = N := by rw [← hcenv]
     have hcG : cenv.globals = mainGlobals := by rw [← hcenv]
     have eName : loadName cenv "__name__" = ldClass cenv "__name__" := by rw [← hcenv]; kernel_rfl
     have eMod : ∀ v, storeName cenv "__module__" v = localSet cenv "__module__" v := by intro v; rw [← hcenv]; kernel_rfl
     have eQual : ∀ v, storeName cenv "__qualname__" v = localSet cenv "__qualname__" v := by intro v; rw [← hcenv]; kernel_rfl
     have eLine : ∀ v, storeName cenv "__firstlineno__" v = localSet cenv "__firstlineno__" v := by intro v; rw [← hcenv]; kernel_rfl
     refine wpAny_bind (wpAny_onRaise ?_)
     rw [eName]
     refine wpAny_bind (mm_ldClass (i := 4) (l := []) (n := 0) D5 hcN rfl (by kernel_rfl) (by rw [hcG]; exact hg5) hmgn ?_)
     refine wpAny_bind (mm_store (i := 4) (l := []) (n := 0) D5 (eMod _) hcN rfl (no_ref rfl) (fun hh tk => put_new rfl) fun h6 hh6 D6 => ?_)
     dsimp only [List.set] at D6
     refine wpAny_bind (wpAny_mkText ?_)
     refine wpAny_bind (mm_store (i := 4) D6 (eQual _) hcN rfl (no_ref rfl) (fun hh tk => put_new (by kernel_rfl)) fun h7 hh7 D7 => ?_)
     dsimp only [List.set] at D7
     refine wpAny_bind ?_
     unfold mkInt
     refine wpAny_bind (wpAny_fresh (wpAny_pure ?_))
     refine wpAny_bind (mm_store (i := 4) D7 (eLine _) hcN rfl (no_ref rfl) (fun hh tk => put_new (by kernel_rfl)) fun h8 hh8 D8 => ?_)
     dsimp only [List.set] at D8
     refine wpAny_pure ?_
     clear D5 D6 D7
     have hbG9 : bm ≠ mainGlobals := fun e => by
       refine gh fun pG hpG => ?_
       obtain ⟨o, es, ep, e1, hd1, _⟩ := hg9
       refine hpG ?_
       clear hpG pG
       rw [e, e1] at hob; cases hob; rw [hd1] at b6; cases b6
     have hbs : CB h' mg 16 := ⟨hg9, ⟨bm, ob, b1, b2, hbG9, hbm30, hob, b4, b5, b6⟩, by decide⟩
     have hcC : cenv.code = .ref cc := by rw [← hcenv]
     have eSlots : ∀ v, storeName cenv "__slots__" v = localSet cenv "__slots__" v := by intro v; rw [← hcenv]; kernel_rfl
     refine wpAny_bind (wpAny_run (codeAny_of_tree ?_))
     refine wpAny_bind (wpAny_of_eq (show blockStart _ cenv = pure () by rw [← hcenv]; kernel_rfl) ?_)
     refine wpAny_bind (wpAny_onRaise ?_)
     refine wpAny_execs_cons (wpAny_Assign_Name (wpAny_Constant_str ?_))
     refine mm_store (i := 4) D8 (eMod _) hcN rfl (no_ref rfl) (fun hh tk => put_mod) fun h9 hh9 D9 => ?_
     dsimp only [List.set] at D9
     refine wpAny_execs_cons (wpAny_Assign_Name ?_)
     refine wpAny_bind (wpAny_standAt (wpAny_bind (spliced_more (wpAny_Constant_str (spliced_none ?_)))))
     refine mm_list D9 (Nat.le_of_ble_eq_true rfl) fun sl h10 D10 => ?_
     refine mm_store (i := 5) D10 (eSlots _) hcN rfl (no_ref rfl) (fun hh tk => put_new (by kernel_rfl)) fun h11 hh11 D11 => ?_
     dsimp only [List.set, List.cons_append, List.nil_append] at D11
     clear D8 D9 D10
     dsimp -zeta only
     have hC0 : CodeHd h11 cc PP := codeHd_at hC4 fun o e => by
       have e4 := D4.at 0 _ _ rfl
       rw [e] at e4; cases e4
       exact D11.at 2 _ _ rfl
     refine wpAny_execs_cons (mm_def (iN := 5) (iP := 3) (iC := 2) (clos := []) (qual := Str.ofString "cmp_to_key.<locals>.K.__init__") D11 hbs rfl rfl rfl (by decide) (by decide) (by rw [← hcenv]; kernel_rfl) hcG hcC hC0 trivial rfl (by rw [← hcenv]; kernel_rfl) rfl rfl rfl (by intro v; rw [← hcenv]; kernel_rfl) hcN rfl (by kernel_rfl) fun fi ci oci vi ui ctvi doci h12 hh12 th12 tk12 D12 hC1 hdi hvi => ?_)
     dsimp only [List.set, List.cons_append, List.nil_append] at D12
     refine wpAny_execs_cons (mm_def (iN := 7) (iP := 5) (iC := 4) (clos := [(Str.ofString "mycmp", L' + 1)]) (qual := Str.ofString "cmp_to_key.<locals>.K.__lt__") D12 hbs rfl rfl rfl (by decide) (by decide) (by rw [← hcenv]; kernel_rfl) hcG hcC hC1 trivial rfl (by rw [← hcenv]; kernel_rfl) rfl rfl rfl (by intro v; rw [← hcenv]; kernel_rfl) hcN rfl (by kernel_rfl) fun flt clt olt vlt ult wlt dlt h13 hh13 th13 tk13 D13 hC2 hdlt hvlt => ?_)
     dsimp only [List.set, List.cons_append, List.nil_append] at D13
     refine wpAny_execs_cons (mm_def (iN := 9) (iP := 7) (iC := 6) (clos := [(Str.ofString "mycmp", L' + 1)]) (qual := Str.ofString "cmp_to_key.<locals>.K.__gt__") D13 hbs rfl rfl rfl (by decide) (by decide) (by rw [← hcenv]; kernel_rfl) hcG hcC hC2 trivial rfl (by rw [← hcenv]; kernel_rfl) rfl rfl rfl (by intro v; rw [← hcenv]; kernel_rfl) hcN rfl (by kernel_rfl) fun fgt cgt ogt vgt ugt wgt dgt h14 hh14 th14 tk14 D14 hC3 hdgt hvgt => ?_)
     dsimp only [List.set, List.cons_append, List.nil_append] at D14
     clear D13 hC2
     refine wpAny_execs_cons (mm_def (iN := 11) (iP := 9) (iC := 8) (clos := [(Str.ofString "mycmp", L' + 1)]) (qual := Str.ofString "cmp_to_key.<locals>.K.__eq__") D14 hbs rfl rfl rfl (by decide) (by decide) (by rw [← hcenv]; kernel_rfl) hcG hcC hC3 trivial rfl (by rw [← hcenv]; kernel_rfl) rfl rfl rfl (by intro v; rw [← hcenv]; kernel_rfl) hcN rfl (by kernel_rfl) fun feq ceq oeq veq ueq weq deq h15 hh15 th15 tk15 D15 hC4 hdeq hveq => ?_)
     dsimp only [List.set, List.cons_append, List.nil_append] at D15
     clear D14 hC3
     refine wpAny_execs_cons (mm_def (iN := 13) (iP := 11) (iC := 10) (clos := [(Str.ofString "mycmp", L' + 1)]) (qual := Str.ofString "cmp_to_key.<locals>.K.__le__") D15 hbs rfl rfl rfl (by decide) (by decide) (by rw [← hcenv]; kernel_rfl) hcG hcC hC4 trivial rfl (by rw [← hcenv]; kernel_rfl) rfl rfl rfl (by intro v; rw [← hcenv]; kernel_rfl) hcN rfl (by kernel_rfl) fun fle cle ole vle ule wle dle h16 hh16 th16 tk16 D16 hC5 hdle hvle => ?_)
     dsimp only [List.set, List.cons_append, List.nil_append] at D16
     clear D15 hC4
     refine wpAny_execs_cons (mm_def (iN := 15) (iP := 13) (iC := 12) (clos := [(Str.ofString "mycmp", L' + 1)]) (qual := Str.ofString "cmp_to_key.<locals>.K.__ge__") D16 hbs rfl rfl rfl (by decide) (by decide) (by rw [← hcenv]; kernel_rfl) hcG hcC hC5 trivial rfl (by rw [← hcenv]; kernel_rfl) rfl rfl rfl (by intro v; rw [← hcenv]; kernel_rfl) hcN rfl (by kernel_rfl) fun fge cge oge vge uge wge dge h17 hh17 th17 tk17 D17 hC6 hdge hvge => ?_)
     dsimp only [List.set, List.cons_append, List.nil_append] at D17
     clear D16 hC5
     refine wpAny_execs_cons (wpAny_Assign_Name (wpAny_Constant_none ?_))
     refine mm_store (i := 17) D17 (by rw [← hcenv]; kernel_rfl) hcN rfl (no_ref rfl) (fun hh tk => put_new (by kernel_rfl)) fun h18 hh18 D18 => ?_
     dsimp only [List.set, List.cons_append, List.nil_append] at D18
     refine wpAny_execs_nil ?_
     clear D17
     refine wpAny_pure ?_
     dsimp -zeta only
     refine wpAny_bind (wpAny_onRaise ?_)
     refine wpAny_bind (wpAny_mkStrs fun fs2 => ?_)
     refine wpAny_bind ?_
     unfold newTextTuple
     refine mm_newAsIs D18 rfl fun st h19 D19 => ?_
     refine wpAny_bind (mm_store (i := 18) D19 (by rw [← hcenv]; kernel_rfl) hcN rfl (no_ref (by kernel_rfl)) (fun hh tk => put_new (by kernel_rfl)) fun h20 hh20 D20 => ?_)
     dsimp only [List.set, List.cons_append, List.nil_append] at D20
     clear D18 D19
     refine wpAny_pure ?_
     refine mm_ite_f (by decide) ?_
     have hno9 : Looks (model PySem.Challenge.rw_mq0210_02.row.prog w) h20 anyOpaqueLoaded false := look_opaque w (fun a o e => mem_keepC D20 (fun q => by subst q; rw [show ((hd.heap_39 w.params).lookup 16) = none by kernel_rfl] at e; cases e) (hX9 a o e))
     have gN := D20.at 18 _ _ rfl
     refine wpAny_bind (tcall (P := TNew h20 s bT tk' sl fi flt fgt feq fle fge st) (fun a s' hp => ?_) (fun {A'} {Q'} {E'} hq' => ?_) (fun a s' hp => ?_))
     · obtain ⟨m, N2, tq, t1', t2', t3', t1, t3, t4, t5, t6, t7, t8, t9, t10, t11, t12, tm, ti, ho, hd2, h1, h3, h4, h5, h6, h7, h8, h9, h10, h11, h12, ln, md, n, D21, _, _, _⟩ := hp
       exact ⟨_, _, D21.at 1 _ _ rfl, rfl, rfl⟩
     · refine tnew (h := h20) (sl := sl) (f1 := fi) (f2 := flt) (f3 := fgt) (f4 := feq) (f5 := fle) (f6 := fge) (st := st) rfl (D20.at 19 _ _ rfl) gN (D20.at 13 _ _ rfl) (beq_false hN35) ⟨_, D20.at 11 _ _ rfl, rfl⟩ ⟨_, D20.at 9 _ _ rfl, rfl⟩ ⟨_, D20.at 7 _ _ rfl, rfl⟩ ⟨_, D20.at 5 _ _ rfl, rfl⟩ ⟨_, D20.at 3 _ _ rfl, rfl⟩ ⟨_, D20.at 1 _ _ rfl, rfl⟩ ⟨_, D20.at 0 _ _ rfl, rfl⟩ hno9 rfl (fun m a N2 h9 ho hd2 t1 t2 t3 tk9 n D21 => hq' a _ ⟨_, _, _, _, _, _, _, _, _, _, _, _, _, _, _, _, _, _, _, _, _, _, _, _, _, _, _, _, _, _, _, _, _, _, _, D21, rfl, rfl, rfl⟩)
     · obtain ⟨m, N2, tq, t1', t2', t3', t1, t3, t4, t5, t6, t7, t8, t9, t10, t11, t12, tm, ti, ho, hd2, h1, h3, h4, h5, h6, h7, h8, h9, h10, h11, h12, ln, md, n, D21, e1, e2, e3⟩ := hp
       refine wpAny_pure ⟨a, rfl, ⟨⟨e1, e2, e3⟩, fun b o e hb => mem_keep D21 _ _ (mem_keepC D20 hb e), ⟨_, mem_keep D21 _ _ (D20.atC 0 _ _ rfl)⟩, ?_⟩⟩
       have nn : ∀ b, h20.get? b = none → h'.get? b = none := fun b e => by
         cases q : h'.get? b with
         | none => rfl
         | some o => obtain ⟨o', e'⟩ := D20.there q; rw [e] at e'; cases e'
       refine ⟨_, ?_, ⟨bT, N2, m, fi, flt, ci, clt, sl, fgt, feq, fle, fge, st, oci, olt, vi, vlt, ui, ult, (mg "__name__").getD .none, doci, dlt, ctvi, wlt, tk', tq, t1', t1, t3, t4, t5, t6, t7, t8, t9, t10, t11, t12, tm, ti, t2', t3', h1, h3, h4, h5, h6, h7, h8, h9, h10, h11, h12, ho, hd2, ln, md, n, rfl, hdi, hvi, hdlt, hvlt, ?_⟩⟩
       · intro p hp
         simp only [List.mem_cons, List.not_mem_nil, or_false] at hp
         rcases hp with rfl | rfl | rfl | rfl | rfl | rfl | rfl
         · exact ⟨D21.at 1 _ _ rfl, nn _ (D21.nw _ (List.mem_of_getElem? (i := 1) rfl)).2⟩
         · exact ⟨D21.at 0 _ _ rfl, nn _ (D21.nw _ (List.mem_of_getElem? (i := 0) rfl)).2⟩
         · exact ⟨D21.at 2 _ _ rfl, nn _ (D21.nw _ (List.mem_of_getElem? (i := 2) rfl)).2⟩
         · exact ⟨mem_keep D21 _ _ ((D20.at 11 fi _ rfl).trans (by kernel_rfl)), (D20.nw _ (List.mem_of_getElem? (i := 11) rfl)).2⟩
         · exact ⟨mem_keep D21 _ _ ((D20.at 9 flt _ rfl).trans (by kernel_rfl)), (D20.nw _ (List.mem_of_getElem? (i := 9) rfl)).2⟩
         · exact ⟨mem_keep D21 _ _ (D20.at 12 ci _ rfl), (D20.nw _ (List.mem_of_getElem? (i := 12) rfl)).2⟩
         · exact ⟨mem_keep D21 _ _ (D20.at 10 clt _ rfl), (D20.nw _ (List.mem_of_getElem? (i := 10) rfl)).2⟩
       · simp only [List.nodup_cons, List.mem_cons, List.not_mem_nil, or_false, not_or, not_false_eq_true, List.nodup_nil, and_true]
         exact ⟨⟨Ne.symm (D21.ne 0 1 _ _ _ _ rfl rfl rfl), (D21.ne 1 2 _ _ _ _ rfl rfl rfl), (D21.ne_old 1 _ _ rfl _ _ (D20.at 11 _ _ rfl)), (D21.ne_old 1 _ _ rfl _ _ (D20.at 9 _ _ rfl)), (D21.ne_old 1 _ _ rfl _ _ (D20.at 12 _ _ rfl)), (D21.ne_old 1 _ _ rfl _ _ (D20.at 10 _ _ rfl))⟩, ⟨(D21.ne 0 2 _ _ _ _ rfl rfl rfl), (D21.ne_old 0 _ _ rfl _ _ (D20.at 11 _ _ rfl)), (D21.ne_old 0 _ _ rfl _ _ (D20.at 9 _ _ rfl)), (D21.ne_old 0 _ _ rfl _ _ (D20.at 12 _ _ rfl)), (D21.ne_old 0 _ _ rfl _ _ (D20.at 10 _ _ rfl))⟩, ⟨(D21.ne_old 2 _ _ rfl _ _ (D20.at 11 _ _ rfl)), (D21.ne_old 2 _ _ rfl _ _ (D20.at 9 _ _ rfl)), (D21.ne_old 2 _ _ rfl _ _ (D20.at 12 _ _ rfl)), (D21.ne_old 2 _ _ rfl _ _ (D20.at 10 _ _ rfl))⟩, ⟨Ne.symm (D20.ne 9 11 _ _ _ _ rfl rfl rfl), (D20.ne 11 12 _ _ _ _ rfl rfl rfl), Ne.symm (D20.ne 10 11 _ _ _ _ rfl rfl rfl)⟩, ⟨(D20.ne 9 12 _ _ _ _ rfl rfl rfl), (D20.ne 9 10 _ _ _ _ rfl rfl rfl)⟩, Ne.symm (D20.ne 10 12 _ _ _ _ rfl rfl rfl)⟩
   case post =>
     intro v s9 hJ0
     refine gh fun pG hpG => ?_
     obtain ⟨K9, rfl, R⟩ := hJ0
     refine hpG ?_
     clear hpG pG
     refine gh fun pG hpG => ?_
     obtain ⟨h9, g9, d9, tk9, os9⟩ := s9
     refine hpG ?_
     clear hpG pG
     refine gh fun pG hpG => ?_
     obtain ⟨F9, kn, ps, hkn, N9⟩ := kres_news F' N' (l1 _ (List.mem_append_right _ (.head _))) hown hrest R
     refine hpG ?_
     clear hpG pG
     refine gh fun pG hpG => ?_
     obtain ⟨rfl, rfl, rfl⟩ := R.st
     refine hpG ?_
     clear hpG pG
     clear R
     dsimp only at F9 N9 ⊢
     refine wpAny_bind (wpAny_pure ?_)
     refine wpAny_bind (wpAny_standAt ?_)
     have hx : PySem.Challenge.rw_mq0210_02 = PySem.Challenge.rw_mq0210_02 := rfl
     have hy : hd.heap_39 = hd.heap_39 := rfl
     revert hx hy
     k_fill
     intro hx hy
     clear hx hy
     w_on
     clear F' N'
     have F9' := fr_eq F9 (m' := fun _ => none) (by funext z; with_unfolding_all rfl)
     clear F9
     refine wpAny_bind ?_
     k_steps
     refine wpAny_pure ?_
     dsimp -zeta only
     k_steps
     exact hret _ _ _ _ _ _ _ (by assumption) (by assumption) hkn (by assumption)
end Mine
end
section
open PySem PySem.W PyProof.Rows PySem.Calls Builtin
set_option Elab.async false
namespace Mine
set_option maxRecDepth 100000
section
variable {kn : Frag} {K9 : Addr} {o : Obj} {cd : ClassData} {name : Str}
theorem find_own {v : Value} {r : List Value} (l : kn.lookup K9 = some o) (hd : o.data = .cls cd) (hm : cd.mro = .ref K9 :: r) (hn : nsIn kn cd.ns name = some (some v)) : findIn kn (.ref K9) name = some (some v) := by
  obtain ⟨c, d, dt, s⟩ := o
  dsimp only at hd
  subst hd
  unfold findIn
  dsimp only
  rw [l]
  dsimp only
  rw [hm]
  unfold alongIn ownIn
  dsimp only
  rw [l]
  dsimp only
  rw [hn]
theorem find_obj {r : Option Value} (l : kn.lookup K9 = some o) (hd : o.data = .cls cd) (hm : cd.mro = [.ref K9, .type "object"]) (hn : nsIn kn cd.ns name = some none) (hr : alongIn kn name [.type "object"] = some r) : findIn kn (.ref K9) name = some r := by
  obtain ⟨c, d, dt, s⟩ := o
  dsimp only at hd
  subst hd
  unfold findIn
  dsimp only
  rw [l]
  dsimp only
  rw [hm]
  rw [alongIn]
  unfold ownIn
  dsimp only
  rw [l]
  dsimp only
  rw [hn]
  exact hr
end
/-- what the library asks of a class made by cmp_to_key -/
structure KC (kn : Frag) (K9 m fi fl : Addr) : Prop where
  mi : makesIn kn K9 = true
  fI : findIn kn (.ref K9) "__init__" = some (some (.ref fi))
  ti : typeIn kn (.ref fi) = some (.type "function")
  fL : findIn kn (.ref K9) "__lt__" = some (some (.ref fl))
  tl : isFn kn (.ref fl) = true
  po : plainOver kn K9 = true
  tk : takerIn kn K9 "obj" = some (some (.ref m))
  tm : typeIn kn (.ref m) = some (.type "member_descriptor")
  sl : slotIn kn m K9 = some 0
  sa : findIn kn (.ref K9) "__setattr__" = some (some (.builtin "object.__setattr__"))
  pg : plainGet kn K9 "obj" = true
  fo : ∀ od, findObj kn K9 od "obj" = some (.bind (.builtin "member_descriptor.__get__") (.ref m))
theorem kc_of {kn : Frag} {bT N m fi fl K9 sl f3 f4 f5 f6 st cell ci cl : Addr} {pm doci docl ctvi ctvl : Value} {tn tq t1' t1 t3 t4 t5 t6 t7 t8 t9 t10 t11 t12 tm ti to td : Tok} {h1 h3 h4 h5 h6 h7 h8 h9 h10 h11 h12 ho hd ln : Int} {md : Str} {n : Nat}
   (lK : kn.lookup K9 = some (kclsF bT tn tq "cmp_to_key.<locals>.K" N K9)) (lM : kn.lookup m = some (kmem t1' K9))
   (lN : kn.lookup N = some (kdict (kents h1 h3 h4 h5 h6 h7 h8 h9 h10 h11 h12 t1 t3 t4 t5 t6 t7 t8 t9 t10 t11 t12 tm ti ln md sl fi fl f3 f4 f5 f6 st ++ [ent ho "obj" to (.ref m), ent hd "__doc__" td .none]) n))
   (lfi : kn.lookup fi = some (fnMadeS kInit "cmp_to_key.<locals>.K.__init__" [] doci pm ci ctvi)) (lfl : kn.lookup fl = some (fnMadeS kLt "cmp_to_key.<locals>.K.__lt__" [(Str.ofString "mycmp", cell)] docl pm cl ctvl)) : KC kn K9 m fi fl := by
  have nsE : ∀ name, nsIn kn N name = (match (kents h1 h3 h4 h5 h6 h7 h8 h9 h10 h11 h12 t1 t3 t4 t5 t6 t7 t8 t9 t10 t11 t12 tm ti ln md sl fi fl f3 f4 f5 f6 st ++ [ent ho "obj" to (.ref m), ent hd "__doc__" td .none]).find? (·.key.isStr name) with
      | some e => some (some e.val)
      | none => some none) := by
    intro name
    unfold nsIn
    rw [lN]
    rfl
  have fI : findIn kn (.ref K9) "__init__" = some (some (.ref fi)) := find_own lK rfl rfl ((nsE _).trans (by kernel_rfl))
  have fL : findIn kn (.ref K9) "__lt__" = some (some (.ref fl)) := find_own lK rfl rfl ((nsE _).trans (by kernel_rfl))
  have fO : findIn kn (.ref K9) "obj" = some (some (.ref m)) := find_own lK rfl rfl ((nsE _).trans (by kernel_rfl))
  have fS : findIn kn (.ref K9) "__setattr__" = some (some (.builtin "object.__setattr__")) := find_obj lK rfl rfl ((nsE _).trans (by kernel_rfl)) (by kernel_rfl)
  have fG : findIn kn (.ref K9) "__getattribute__" = some (some (.builtin "object.__getattribute__")) := find_obj lK rfl rfl ((nsE _).trans (by kernel_rfl)) (by kernel_rfl)
  have fA : findIn kn (.ref K9) "__getattr__" = some none := find_obj lK rfl rfl ((nsE _).trans (by kernel_rfl)) (by kernel_rfl)
  have cI : clsIn kn K9 = some { name := Str.ofString "K", bases := [.type "object"], mro := [.ref K9, .type "object"], ns := N, qualname := "cmp_to_key.<locals>.K", hasDict := false, slotNames := [Str.ofString "obj"] } := by
    unfold clsIn; rw [lK]; rfl
  have tM : typeIn kn (.ref m) = some (.type "member_descriptor") := by unfold typeIn; dsimp only; rw [lM]; rfl
  have tK : typeIn kn (.ref K9) = some (.type "type") := by unfold typeIn; dsimp only; rw [lK]; rfl
  have tI : typeIn kn (.ref fi) = some (.type "function") := by unfold typeIn; dsimp only; rw [lfi]; kernel_rfl
  have tL : typeIn kn (.ref fl) = some (.type "function") := by unfold typeIn; dsimp only; rw [lfl]; kernel_rfl
  have sp : ∀ nm, specialIn kn (.ref m) nm = fastLookup "member_descriptor" nm := by intro nm; unfold specialIn; rw [tM]; rfl
  have tkI : takesIn kn (.ref m) = some true := by unfold takesIn; rw [sp]; kernel_rfl
  refine ⟨?_, fI, tI, fL, by unfold isFn; rw [tL]; simp, ?_, ?_, tM, ?_, fS, ?_, ?_⟩
  · unfold makesIn
    rw [lK]
    have e1 : specialIn kn (.ref K9) "__call__" = some (some (.builtin "type.__call__")) := by unfold specialIn; rw [tK]; kernel_rfl
    have e2 : instIn kn (.ref K9) (.type "type") = some true := by unfold instIn; rw [tK]; kernel_rfl
    show (_ && _ && _ && _ && _ && _ && _ && _) = true
    rw [e1, e2]
    simp [kclsF]
  · unfold plainOver; rw [cI]; kernel_rfl
  · unfold takerIn; rw [fO]; dsimp only [Option.bind]; rw [tkI]; rfl
  · unfold slotIn recIn; rw [lM, cI]; dsimp only [kmem]; simp
  · unfold plainGet; rw [fG, fA]; simp
  · intro od
    unfold findObj; rw [cI, fO]; dsimp only [Option.bind]
    have fg : fastLookup "member_descriptor" "__get__" = some (some (.builtin "member_descriptor.__get__")) := by kernel_rfl
    rw [sp, fg]
    dsimp only
    rw [tkI]
end Mine
end
section
open PySem PySem.W PyProof.Rows PySem.Calls Builtin
set_option Elab.async false
namespace Mine
noncomputable def kids : Expr → List Expr
  | .Compare a _ c _ => a :: c
  | .Call a b _ _ => a :: b
  | .Attribute a _ _ => [a]
  | _ => []
noncomputable def kOf : Expr → Nat
  | .Constant _ k _ => k
  | _ => 0
noncomputable def sKids : Stmt → List Expr
  | .Return (some e) _ => [e]
  | .Assign a b _ => b :: a
  | _ => []
noncomputable def kd (i : Nat) (e : Expr) : Expr := (kids e).getD i default
noncomputable def ltS : Stmt := (fnBody kLt).headD passS
noncomputable def ltE : Expr := (sKids ltS).getD 0 default
noncomputable def inS : Stmt := (fnBody kInit).headD passS
noncomputable def inE : Expr := (sKids inS).getD 1 default
theorem lt_body : ∃ p1 p2 p3 p4 p5 p6 p7 p8 p9 k, fnBody kLt = [.Return (some (.Compare (.Call (.Name (Str.ofString "mycmp") p1) [.Attribute (.Name (Str.ofString "self") p2) (Str.ofString "obj") p3, .Attribute (.Name (Str.ofString "other") p4) (Str.ofString "obj") p5] [] p6) [.Lt] [.Constant (.int 0) k p7] p8)) p9]  :=
  ⟨(kd 0 (kd 0 ltE)).pos, (kd 0 (kd 1 (kd 0 ltE))).pos, (kd 1 (kd 0 ltE)).pos, (kd 0 (kd 2 (kd 0 ltE))).pos, (kd 2 (kd 0 ltE)).pos, (kd 0 ltE).pos, (kd 1 ltE).pos, ltE.pos, ltS.pos, kOf (kd 1 ltE), by kernel_rfl⟩
theorem in_body : ∃ p1 p2 p3 p4, fnBody kInit = [.Assign [.Attribute (.Name (Str.ofString "self") p1) (Str.ofString "obj") p2] (.Name (Str.ofString "obj") p3) p4]  :=
  ⟨(kd 0 inE).pos, inE.pos, ((sKids inS).getD 0 default).pos, inS.pos, by kernel_rfl⟩
end Mine
end
section
open PySem PySem.W PyProof.Rows PySem.Calls Builtin
set_option Elab.async false
namespace Mine
set_option maxRecDepth 100000
inductive KX (cell K9 : Addr) (kn : List (Addr × Obj)) : Prop
  | mk (m fi fl ci cl : Addr) (oci ocl : Obj) (vi vl : Array Value) (ui ul : Tok) (pm doci docl ctvi ctvl : Value) (hC : KC kn K9 m fi fl)
    (m1 : (fi, fnMadeS kInit "cmp_to_key.<locals>.K.__init__" [] doci pm ci ctvi) ∈ kn) (m2 : (fl, fnMadeS kLt "cmp_to_key.<locals>.K.__lt__" [(Str.ofString "mycmp", cell)] docl pm cl ctvl) ∈ kn) (m3 : (ci, oci) ∈ kn) (m4 : (cl, ocl) ∈ kn)
    (r1 : oci.data = .fields vi) (r2 : vi[1]? = some (.str "cmp_to_key.<locals>.K.__init__" ui)) (r3 : ocl.data = .fields vl) (r4 : vl[1]? = some (.str "cmp_to_key.<locals>.K.__lt__" ul)) : KX cell K9 kn
theorem kx_of {kn : List (Addr × Obj)} {cell K9 : Addr} (h : KList cell K9 kn) : KX cell K9 kn := by
  refine gh fun pG hpG => ?_
  obtain ⟨bT, N, m, fi, fl, ci, cl, sl, f3, f4, f5, f6, st, oci, ocl, vi, vl, ui, ul, pm, doci, docl, ctvi, ctvl, tn, tq, t1', t1, t3, t4, t5, t6, t7, t8, t9, t10, t11, t12, tm, ti, to, td, h1, h3, h4, h5, h6, h7, h8, h9, h10, h11, h12, ho, hd, ln, md, n, e, r1, r2, r3, r4, nd⟩ := h
  refine hpG ?_
  clear hpG pG
  simp only [List.nodup_cons, List.mem_cons, List.not_mem_nil, or_false, not_or, not_false_eq_true, List.nodup_nil, and_true] at nd
  refine gh fun pG hpG => ?_
  obtain ⟨⟨a1, a2, a3, a4, a5, a6⟩, ⟨b1, b2, b3, b4, b5⟩, ⟨c1, c2, c3, c4⟩, ⟨d1, d2, d3⟩, ⟨e1, e2⟩, f1⟩ := nd
  refine hpG ?_
  clear hpG pG
  have lK : kn.lookup K9 = some (kclsF bT tn tq "cmp_to_key.<locals>.K" N K9) := by rw [e]; simp [List.lookup]
  have lM : kn.lookup m = some (kmem t1' K9) := by
    rw [e, List.lookup_cons, beq_eq_false_iff_ne.mpr (Ne.symm a1)]
    simp [List.lookup]
  have lN : kn.lookup N = some (kdict (kents h1 h3 h4 h5 h6 h7 h8 h9 h10 h11 h12 t1 t3 t4 t5 t6 t7 t8 t9 t10 t11 t12 tm ti ln md sl fi fl f3 f4 f5 f6 st ++ [ent ho "obj" to (.ref m), ent hd "__doc__" td .none]) n) := by
    rw [e, List.lookup_cons, beq_eq_false_iff_ne.mpr (Ne.symm a2)]
    dsimp only
    rw [List.lookup_cons, beq_eq_false_iff_ne.mpr (Ne.symm b1)]
    simp [List.lookup]
  have lfi : kn.lookup fi = some (fnMadeS kInit "cmp_to_key.<locals>.K.__init__" [] doci pm ci ctvi) := by
    rw [e, List.lookup_cons, beq_eq_false_iff_ne.mpr (Ne.symm a3)]
    dsimp only
    rw [List.lookup_cons, beq_eq_false_iff_ne.mpr (Ne.symm b2)]
    dsimp only
    rw [List.lookup_cons, beq_eq_false_iff_ne.mpr (Ne.symm c1)]
    simp [List.lookup]
  have lfl : kn.lookup fl = some (fnMadeS kLt "cmp_to_key.<locals>.K.__lt__" [(Str.ofString "mycmp", cell)] docl pm cl ctvl) := by
    rw [e, List.lookup_cons, beq_eq_false_iff_ne.mpr (Ne.symm a4)]
    dsimp only
    rw [List.lookup_cons, beq_eq_false_iff_ne.mpr (Ne.symm b3)]
    dsimp only
    rw [List.lookup_cons, beq_eq_false_iff_ne.mpr (Ne.symm c2)]
    dsimp only
    rw [List.lookup_cons, beq_eq_false_iff_ne.mpr (Ne.symm d1)]
    simp [List.lookup]
  have hC := kc_of lK lM lN lfi lfl
  clear lK lM lN lfi lfl
  subst e
  exact ⟨m, fi, fl, ci, cl, oci, ocl, vi, vl, ui, ul, pm, doci, docl, ctvi, ctvl, hC, .tail _ (.tail _ (.tail _ (.head _))), .tail _ (.tail _ (.tail _ (.tail _ (.head _)))), .tail _ (.tail _ (.tail _ (.tail _ (.tail _ (.head _))))), .tail _ (.tail _ (.tail _ (.tail _ (.tail _ (.tail _ (.head _)))))), r1, r2, r3, r4⟩
/-- the object of the class that holds v -/
noncomputable def instS (K9 dx : Addr) (v : Value) : Obj := { cls := .ref K9, dict := some dx, data := .plain, slots := #[some v] }
theorem madeS_eq {st : Stmt} (_ : True) (q : Str) (cl : List (Str × Addr)) (d p : Value) (c : Addr) (t : Value) : fnMadeS st q cl d p c t = fnMade (fnName st) q (fnArgs st) (fnBody st) (fnScope st) cl d p c t := rfl
theorem frag_in {h₀ h : Heap} {L : Addr} {kn news : List (Addr × Obj)} (N : News h₀ L h news) (hin : ∀ q ∈ kn, q ∈ news) : Frag.In kn h := fun a o e => (N (a, o) (hin _ (mem_of_lookupK e))).1
end Mine
end
section
open PySem PySem.W PyProof.Rows PySem.Calls Builtin
set_option Elab.async false
namespace Mine
set_option maxRecDepth 100000
section
variable {prog : Program} {w : World} {A A₀ : Around} {E : Value → Shared → Prop} {K : Frag} {h₀ base : Heap} {L : Addr} {m : Str → Option Value} {s : Shared} {news kn : List (Addr × Obj)} {cell K9 : Addr} {env : Env} {outer : List Env} {p : Program} {loose : List Str} {mean : ExcName → Option Value} {mg mb : Str → Option Value}
theorem mk_inst {v : Value} {Q : Value → Shared → Prop} (B : Below A₀ base outer h₀) (F : Fr h₀ L s.heap m) (X₀ : K.In h₀) (N : News h₀ L s.heap news) (T : Top p loose mean mg mb h₀) (hA : A.frames = some (env :: outer)) (hf : env.frame = some L) (hke : env.scope.kind = .function)
   (hk : KX cell K9 kn) (hin : ∀ q ∈ kn, q ∈ news) (hroom : A.depth + 1 < recursionLimit)
   (hq : ∀ x dx h' tk, Fr h₀ L h' m → News h₀ L h' ((x, instS K9 dx v) :: (dx, emptyDict) :: news) → (∀ q ∈ news, q.1 < dx) → dx < x → Q (.ref x) { s with heap := h', toks := tk }) :
   wpAny (model prog w) A (call (.ref K9) [v]) Q E s := by
  refine gh fun pG hpG => ?_
  obtain ⟨mm, fi, fl, ci, cl, oci, ocl, vi, vl, ui, ul, pm, doci, docl, ctvi, ctvl, hC, m1, m2, m3, m4, r1, r2, r3, r4⟩ := hk
  refine hpG ?_
  clear hpG pG
  refine wpAny_call (make_K F N (frag_in N hin) hC.mi hC.fI hC.ti fun x dx h' F' N' l1 l2 => ?_)
  have hfi : (fi, fnMade (fnName kInit) "cmp_to_key.<locals>.K.__init__" (fnArgs kInit) (fnBody kInit) (fnScope kInit) [] doci pm ci ctvi) ∈ (x, instObj K9 dx) :: (dx, emptyDict) :: news := by
    rw [← madeS_eq trivial]
    exact .tail _ (.tail _ (hin _ m1))
  have hst : (v' : Value) → True := fun _ => trivial
  refine code_nest (cl := []) (args := ⟨[.ref x, v], []⟩) (binds := [(Str.ofString "self", .ref x), (Str.ofString "obj", v)]) B F' X₀ N' T ?_ hf hke hfi (codeRec_news N' (.tail _ (.tail _ (hin _ m3))) r1 r2) ?_ (BindsTo.of_eq (by kernel_rfl)) ?_ (fun g L' h₁ FG F1 N1 B1 X1 T1 => ?_) (by kernel_rfl) (by kernel_rfl) (by kernel_rfl) ?_
  · show pushEnvs (Code.builtin "type.__call__" ⟨.ref K9 :: [v], []⟩).envs A.frames = _
    rw [hA]; rfl
  · show A.depth + (Code.builtin "type.__call__" ⟨.ref K9 :: [v], []⟩).weight < _
    rw [show (Code.builtin "type.__call__" ⟨.ref K9 :: [v], []⟩).weight = 1 from rfl]
    exact hroom
  · intro y hy
    simp only [List.mem_cons, List.not_mem_nil, or_false] at hy
    rcases hy with rfl | rfl <;> kernel_rfl
  · refine gh fun pG hpG => ?_
    obtain ⟨p1, p2, p3, p4, hb⟩ := in_body
    refine hpG ?_
    clear hpG pG
    rw [hb]
    have hx1 := (N1 _ (.head _)).1
    have hd1 := (N1 _ (.tail _ (.head _))).1
    have X9 : Frag.In kn h₁ := frag_in N1 fun q hq => .tail _ (.tail _ (hin q hq))
    have I : InstAt h₁ x (instObj K9 dx) K9 (some emptyDict) := ⟨hx1, rfl, rfl, hd1⟩
    refine wpAny_execs_cons (plainObj_wpAny_Assign_Attribute (wpAny_Name (wpAny_loadName_local (by kernel_rfl) (by kernel_rfl) F1.ns (v := v) rfl ?_)))
    refine wpAny_Name (wpAny_loadName_local (by kernel_rfl) (by kernel_rfl) F1.ns (v := .ref x) rfl ?_)
    refine set_plain X9 I hC.sa (osa_descr KF.slot_mset X9 I hC.po hC.tk hC.tm ?_)
    refine slot_set (pre := []) (ox' := instS K9 dx v) F1 N1 X9 I hC.sl (by decide) (fun _ hp => (nomatch hp)) ?_ rfl rfl fun h2 F2 N2 => ?_
    · intro p hp
      rcases List.mem_cons.mp hp with rfl | hp
      · exact Nat.ne_of_lt l2
      · exact Nat.ne_of_lt (Nat.lt_trans (l1 p hp) l2)
    · refine wpAny_execs_nil (leaveK_ F2 N2 fun F3 N3 => ⟨rfl, ?_⟩)
      exact hq x dx _ _ F3 N3 l1 l2
  · intro y hy
    have := List.all_eq_true.mp (show (fnScope kInit).names.all (fun x => decide (x.2 ≠ .cell)) = true by kernel_rfl) y hy
    exact of_decide_eq_true this
end
end Mine
end
section
open PySem PySem.W PyProof.Rows PySem.Calls Builtin
set_option Elab.async false
namespace Mine
set_option maxRecDepth 100000
section
variable {w : World} {K : Frag} {h₀ base : Heap} {L : Addr} {m : Str → Option Value} {s : Shared} {news kn : List (Addr × Obj)} {cell K9 : Addr} {mean : ExcName → Option Value} {mg mb : Str → Option Value} {E : Value → Shared → Prop}
/-- what a call of the function at f hands back for vx, vy where the ledger is news -/
noncomputable def CmpC (w : World) (mean : ExcName → Option Value) (mg mb : Str → Option Value) (f : Addr) (news : List (Addr × Obj)) (vx vy : Value) (r : Int) : Prop :=
  ∀ (dp un : Nat) (gd : Option (List Code)) (cn : Str) (cs : Scope) (a : Addr) (ccd : Value) (cl : List (Str × Addr)) (outer : List Env) (A₀ : Around) (base h₀ : Heap) (L : Addr) (m : Str → Option Value) (s : Shared) (Q E : Value → Shared → Prop),
    Below A₀ base outer h₀ → Fr h₀ L s.heap m → (hd.heap_39 w.params).In h₀ → News h₀ L s.heap news → Top topProg LOO mean mg mb h₀ → cs.kind = .function → dp + 10 < recursionLimit → un + 50 < cLine →
    (∀ (t : Tok) (h' : Heap) (tk' : Nat), Fr h₀ L h' m → News h₀ L h' news → Q (.int r t) { s with heap := h', toks := tk' }) →
      wpAny (model PySem.Challenge.rw_mq0210_02.row.prog w) (ktrTop dp un gd cn cs L a ccd cl outer) (call (.ref f) [vx, vy]) Q E s
theorem get_obj {prog : Program} {A : Around} {x dx mm fi fl : Addr} {v : Value} {Q : Value → Shared → Prop} (hC : KC kn K9 mm fi fl) (X : Frag.In kn s.heap) (I : InstAt s.heap x (instS K9 dx v) K9 (some emptyDict)) (hv : handedIn v = true) (h : Q v { s with toks := s.toks + 1 }) :
   wpAny (model prog w) A (getAttr (.ref x) "obj" true) Q E s :=
  get_bind X I (plainGet_of hC.pg).1 (hC.fo _) (plainGet_of hC.pg).2 (wpAny_call (slot_get (s := { s with toks := s.toks + 1 }) X I hC.sl (v := v) rfl (handed_on hv h)))
theorem lt_inst {dp un : Nat} {gd : Option (List Code)} {cn : Str} {cs : Scope} {a : Addr} {ccd : Value} {cl : List (Str × Addr)} {outer : List Env} {A₀ : Around} {x y dx dy f : Addr} {vx vy oc1 : Value} {od1 : Option Addr} {fd : FuncData} {sl1 : Array (Option Value)} {oc : Obj} {r : Int} {Q : Bool → Shared → Prop}
   (B : Below A₀ base outer h₀) (F : Fr h₀ L s.heap m) (X₀ : (hd.heap_39 w.params).In h₀) (N : News h₀ L s.heap news) (T : Top topProg LOO mean mg mb h₀) (hcs : cs.kind = .function) (hd : dp + 12 < recursionLimit) (hu : un + 60 < cLine)
   (hk : KX cell K9 kn) (hin : ∀ q ∈ kn, q ∈ news) (hx : (x, instS K9 dx vx) ∈ news) (hdx : (dx, emptyDict) ∈ news) (hy : (y, instS K9 dy vy) ∈ news) (hdy : (dy, emptyDict) ∈ news) (hcell : (cell, oc) ∈ news) (hoc : oc.data = .cell (some (.ref f)))
   (hf : (f, (⟨oc1, od1, .func fd, sl1⟩ : Obj)) ∈ news) (hvx : handedIn vx = true) (hvy : handedIn vy = true) (hcmp : CmpC w mean mg mb f news vx vy r)
   (hq : ∀ h' tk, Fr h₀ L h' m → News h₀ L h' news → Q (decide (r < 0)) { s with heap := h', toks := tk }) :
   wpAny (model PySem.Challenge.rw_mq0210_02.row.prog w) (ktrTop dp un gd cn cs L a ccd cl outer) (keyLt' oneType' (.ref x) (.ref y)) Q E s := by
  refine gh fun pG hpG => ?_
  obtain ⟨mm, fi, fl, ci, clt, oci, ocl, vi, vl, ui, ul, pm, doci, docl, ctvi, ctvl, hC, m1, m2, m3, m4, r1, r2, r3, r4⟩ := hk
  refine hpG ?_
  clear hpG pG
  have inst : ∀ {h' : Heap} {h₁ : Heap} {L₁ : Addr} {x dx : Addr} {v : Value}, News h₁ L₁ h' news → (x, instS K9 dx v) ∈ news → (dx, emptyDict) ∈ news → InstAt h' x (instS K9 dx v) K9 (some emptyDict) := fun N' h1 h2 => ⟨(N' _ h1).1, rfl, rfl, (N' _ h2).1⟩
  rw [keyLt'_oneType, oneLt'_eq]
  simp only [if_true]
  refine wpAny_bind (wpAny_cRoomFor (show un < cLine by omega) ?_)
  refine wpAny_bind (ifBound_K (frag_in N hin) (inst N hx hdx) hC.fL hC.tl (wpAny_mono (Q := W.BoolBack Q) ?_ (fun v s' hv => by cases v <;> first | exact hv.elim | exact wpAny_truthy_bool hv) fun _ _ e => e))
  have hfl : (fl, fnMade (fnName kLt) "cmp_to_key.<locals>.K.__lt__" (fnArgs kLt) (fnBody kLt) (fnScope kLt) [(Str.ofString "mycmp", cell)] docl pm clt ctvl) ∈ news := by
    rw [← madeS_eq trivial]
    exact hin _ m2
  refine wpAny_call (code_nest (cl := [(Str.ofString "mycmp", cell)]) (args := ⟨[.ref x, .ref y], []⟩) (binds := [(Str.ofString "self", .ref x), (Str.ofString "other", .ref y)]) B F X₀ N T rfl rfl hcs hfl (codeRec_news N (hin _ m4) r3 r4) (show dp < recursionLimit by omega) (BindsTo.of_eq (by kernel_rfl)) ?_ (fun g L' h₁ FG F1 N1 B1 X1 T1 => ?_) (by kernel_rfl) (by kernel_rfl) (by kernel_rfl) ?_)
  · intro y hy
    simp only [List.mem_cons, List.not_mem_nil, or_false] at hy
    rcases hy with rfl | rfl <;> kernel_rfl
  · refine gh fun pG hpG => ?_
    obtain ⟨p1, p2, p3, p4, p5, p6, p7, p8, p9, k, hb⟩ := lt_body
    refine hpG ?_
    clear hpG pG
    rw [hb]
    refine wpAny_execs_cons (wpAny_Return_some (wpAny_Compare1 (Call_ (wpAny_Name (wpAny_loadName_free (c := cell) (v := .ref f) (by kernel_rfl) (by kernel_rfl) rfl ⟨oc, (N1 _ hcell).1, hoc⟩ ?_)))))
    refine callWith_F (q := f) ⟨_, _, _, _, (N1 _ hf).1⟩ ?_
    refine spliced_more (Attribute_Name_ (wpAny_Name (wpAny_loadName_local (by kernel_rfl) (by kernel_rfl) F1.ns (v := .ref x) rfl ?_)))
    refine get_obj hC (frag_in N1 hin) (inst N1 hx hdx) hvx ?_
    refine spliced_more (Attribute_Name_ (wpAny_Name (wpAny_loadName_local (by kernel_rfl) (by kernel_rfl) F1.ns (v := .ref y) rfl ?_)))
    refine get_obj hC (frag_in N1 hin) (inst N1 hy hdy) hvy ?_
    refine spliced_none ⟨⟨_, _, _, _, (N1 _ hf).1⟩, ?_⟩
    refine hcmp (dp + 1) (un + 3) gd _ _ fl (.ref clt) [(Str.ofString "mycmp", cell)] (envX cn cs L a ccd cl :: outer) _ _ g L' _ _ _ _ B1 F1 X1 N1 T1 (by kernel_rfl) (by omega) (by omega) fun t h2 tk2 F2 N2 => ?_
    refine wpAny_Constant_int ?_
    refine wpAny_lt_int ?_
    refine leaveK_ F2 N2 fun F3 N3 => ?_
    exact hq _ _ F3 N3
  · intro y hy
    have := List.all_eq_true.mp (show (fnScope kLt).names.all (fun x => decide (x.2 ≠ .cell)) = true by kernel_rfl) y hy
    exact of_decide_eq_true this
end
end Mine
end
section
open PySem PySem.W PyProof.Rows PySem.Calls Builtin
set_option Elab.async false
namespace Mine
set_option maxRecDepth 100000
/-- an answer known ahead, run -/
theorem run_real {α : Type} {c : Nat → Int} {N : Nat} {cmp : Nat → Nat → (Bool → Shared → Prop) → Shared → Prop} {I : Shared → Prop} {G : α → Prop} {s0 : Shared}
   (hcmp : ∀ i j (C : Bool → Shared → Prop) s, i < N → j < N → I s → (∀ s', I s' → C (decide (c i < c j)) s') → cmp i j C s) : ∀ (t : KasT α) (s : Shared), t.kasWp (pc c N) (fun a _ => G a) s0 → I s → t.kasWp cmp (fun a s' => G a ∧ I s') s
  | .ret a, s, h, hI => ⟨h, hI⟩
  | .ask i j k, s, h, hI => by
    refine gh fun pG hpG => ?_
    obtain ⟨h1, h2, h3⟩ := (show i < N ∧ j < N ∧ (k (decide (c i < c j))).kasWp (pc c N) (fun a _ => G a) s0 from h)
    refine hpG ?_
    clear hpG pG
    exact hcmp i j _ s h1 h2 hI fun s' hI' => run_real hcmp _ s' h3 hI'
theorem item_zip {xs : List Addr} {vs : List Value} {i : Nat} {x : Addr} {v : Value} (hx : xs[i]? = some x) (hv : vs[i]? = some v) : kas_item ((List.toArray (xs.map Value.ref)).zip vs.toArray) i = (.ref x, v) := by
  unfold kas_item
  rw [Array.getD_eq_getD_getElem?]
  have : ((List.toArray (xs.map Value.ref)).zip vs.toArray)[i]? = some (.ref x, v) := by
    rw [List.zip_toArray, List.getElem?_toArray, List.getElem?_zip_eq_some]
    exact ⟨by rw [List.getElem?_map, hx]; rfl, hv⟩
  rw [this]; rfl
section
variable {prog : Program} {w : World} {A : Around} {E : Value → Shared → Prop} {s : Shared} {h₀ : Heap} {L : Addr} {m : Str → Option Value} {news : List (Addr × Obj)} {a K9 : Addr} {vs : List Value} {f : Value} {c : Nat → Int} {P : PySem.Fin → Shared → Prop}
/-- the instances made so far -/
noncomputable def Ins (K9 : Addr) (vs : List Value) (xs : List Addr) (inst : List (Addr × Obj)) : Prop := ∀ (j : Nat) (x : Addr), xs[j]? = some x → ∃ dx v, vs[j]? = some v ∧ (x, instS K9 dx v) ∈ inst ∧ (dx, emptyDict) ∈ inst
end
/-- the state of the key loop behind i signs -/
inductive MInv (h₀ : Heap) (L : Addr) (m : Str → Option Value) (s : Shared) (K9 : Addr) (vs : List Value) (a : Addr) (kS e1 : Nat) (news : List (Addr × Obj)) (i : Nat) (s' : Shared) : Prop
  | mk (h' : Heap) (tk : Nat) (kA : Array Value) (e : Nat) (inst : List (Addr × Obj)) (xs : List Addr) (eq : s' = { s with heap := h', toks := tk }) (F : Fr h₀ L h' m)
    (N : News h₀ L h' (inst ++ (kS, seqObj "list" kA e) :: (a, seqObj "list" #[] e1) :: news)) (hl : ∀ p ∈ inst, kS < p.1) (hk : kA.toList = xs.map Value.ref) (hx : xs.length = i) (hI : Ins K9 vs xs inst) : MInv h₀ L m s K9 vs a kS e1 news i s'
/-- what the call of the class hands back -/
inductive MNew (h₀ : Heap) (L : Addr) (m : Str → Option Value) (s : Shared) (K9 : Addr) (v : Value) (kS : Nat) (led : List (Addr × Obj)) (k : Value) (s2 : Shared) : Prop
  | mk (x dx : Addr) (h2 : Heap) (tk2 : Nat) (ek : k = .ref x) (es : s2 = { s with heap := h2, toks := tk2 }) (F : Fr h₀ L h2 m) (N : News h₀ L h2 ((x, instS K9 dx v) :: (dx, emptyDict) :: led)) (l1 : kS < dx) (l2 : dx < x) : MNew h₀ L m s K9 v kS led k s2
section
variable {prog : Program} {w : World} {A : Around} {E : Value → Shared → Prop} {s : Shared} {h₀ : Heap} {L : Addr} {m : Str → Option Value} {news : List (Addr × Obj)} {a K9 : Addr} {vs : List Value} {f : Value} {c : Nat → Int} {P : PySem.Fin → Shared → Prop}
/-- a list of the ledger, given new items -/
theorem relisted {g : Heap} {xs : Array Value} {n : Nat} (ys : Array Value) (F : Fr h₀ L g m) (N : News h₀ L g news) (o : g.get? a = some (seqObj "list" xs n) ∧ a ≠ L ∧ h₀.get? a = none) (hna : ∀ p ∈ news, p.1 ≠ a) :
    ∃ e, Fr h₀ L (g.update a (Obj.mapSeq fun _ => ys)) m ∧ News h₀ L (g.update a (Obj.mapSeq fun _ => ys)) ((a, seqObj "list" ys e) :: news) :=
  ⟨_, ksk_fr F (.update ..) o.2.1 o.2.2, List.forall_mem_cons.mpr ⟨⟨get?_update_seq o.1 _, o.2⟩, ksk_news N (.update ..) hna⟩⟩
theorem msort_tail {kS e1 e : Nat} {keys : Array Value} {inst : List (Addr × Obj)} {st : SortSt} {p : Array Nat} {xs : List Addr} (F : Fr h₀ L s.heap m) (N : News h₀ L s.heap (inst ++ (kS, seqObj "list" keys e) :: (a, seqObj "list" #[] e1) :: news)) (hka : kS ≠ a) (hnk : ∀ p ∈ news, p.1 ≠ kS) (hna : ∀ p ∈ news, p.1 ≠ a)
    (hks : keys.size ≤ 64) (hxs : xs.length = vs.length) (h64 : vs.length < 64) (har : arrOf st = p.map (kas_item ((List.toArray (xs.map Value.ref)).zip vs.toArray))) (hfl : failedOf st = none) (hp : Pre c vs.length vs.length p) (hasc : Asc c vs.length p)
    (h : ∀ h' tk c', Fr h₀ L h' m → News h₀ L h' ((a, seqObj "list" (List.toArray (p.toList.map fun i => vs.getD i .none)) c') :: news) → P (.done (.ret .none)) { s with heap := h', toks := tk }) :
    wpAny (model prog w) A (ksk_tail a false e1 (.ref kS) st) P E s := by
  have nk := N (kS, seqObj "list" keys e) (List.mem_append_right _ (.head _))
  have hout : (arrOf st).map (·.2) = List.toArray (p.toList.map fun i => vs.getD i .none) := by
    apply Array.toList_inj.mp
    rw [har, Array.map_map, Array.toList_map]
    refine List.map_congr_left fun i hi => ?_
    refine gh fun pG hpG => ?_
    obtain ⟨k, hk, rfl⟩ := List.getElem_of_mem hi
    refine hpG ?_
    clear hpG pG
    have hk' : k < vs.length := by rw [← hp.sz]; simpa using hk
    have e1 : p.toList[k] = p.getD k 0 := by
      rw [Array.getD_eq_getD_getElem?, ← Array.getElem?_toList, List.getElem?_eq_getElem hk]; rfl
    have hlt := hp.sm k hk'
    rw [← e1] at hlt
    show (kas_item _ _).2 = _
    rw [item_zip (List.getElem?_eq_getElem (by lia  )) (List.getElem?_eq_getElem hlt)]
    show vs[p.toList[k]]'hlt = vs.getD (p.toList[k]) Value.none
    rw [List.getD_eq_getElem?_getD, List.getElem?_eq_getElem hlt]
    rfl
  have hsz : (List.toArray (p.toList.map fun i => vs.getD i Value.none)).size = vs.length := by rw [List.size_toArray, List.length_map, Array.length_toList, hp.sz]
  obtain ⟨e2, F1, N1⟩ := relisted #[] F (news := (a, seqObj "list" #[] e1) :: news) (fun p hp => N p (List.mem_append_right _ (.tail _ hp))) nk (List.forall_mem_cons.mpr ⟨Ne.symm hka, hnk⟩)
  obtain ⟨c2, F2, N2⟩ := relisted (List.toArray (p.toList.map fun i => vs.getD i Value.none)) F1 (fun p hp => N1 p (.tail _ (.tail _ hp))) (N1 _ (.tail _ (.head _))) hna
  unfold ksk_tail
  refine wpAny_bind (listUpdate_at nk.1 rfl ?_ (Nat.le_trans hks (by decide)) (Nat.zero_le _))
  try dsimp only
  generalize s.heap.update kS _ = g at F1 N1 F2 N2 ⊢
  have na := (N1 _ (.tail _ (.head _))).1
  refine wpAny_bind (wpAny_letGo (wpAny_bind (seqEpoch_at na rfl ?_)))
  simp only [Bool.false_eq_true, if_false]
  rw [hout]
  refine wpAny_bind (listUpdate_at na rfl ?_ (Nat.zero_le _) (Nat.le_trans (Nat.le_of_eq hsz) (by rw [sizeLine_eq]; lia  )))
  rw [hfl]
  simp only [bne_self_eq_false, Bool.false_eq_true, if_false]
  exact wpAny_pure (h _ _ c2 F2 N2)
/-- the key loop and what is behind it -/
theorem msort_rest {kS e1 : Nat} (F : Fr h₀ L s.heap m) (N : News h₀ L s.heap ((kS, seqObj "list" #[] 0) :: (a, seqObj "list" #[] e1) :: news)) (hka : kS ≠ a) (hnk : ∀ p ∈ news, p.1 ≠ kS) (hna : ∀ p ∈ news, p.1 ≠ a)
    (h2 : vs.length = 6) (h64 : vs.length < 64)
    (turn : ∀ v ∈ vs, ∀ (h : Heap) (tk : Nat) (led : List (Addr × Obj)), Fr h₀ L h m → News h₀ L h led → (∀ q ∈ news, q ∈ led) → ∀ (Q : Value → Shared → Prop), (∀ x dx h' tk', Fr h₀ L h' m → News h₀ L h' ((x, instS K9 dx v) :: (dx, emptyDict) :: led) → (∀ q ∈ led, q.1 < dx) → dx < x → Q (.ref x) { s with heap := h', toks := tk' }) →
      wpAny (model prog w) A (call f [v]) Q (fun _ _ => False) { s with heap := h, toks := tk })
    (ask : ∀ (i j : Nat) (vi vj : Value), vs[i]? = some vi → vs[j]? = some vj → ∀ (h : Heap) (tk : Nat) (led : List (Addr × Obj)) (x y dx dy : Addr), Fr h₀ L h m → News h₀ L h led → (∀ q ∈ news, q ∈ led) → (x, instS K9 dx vi) ∈ led → (dx, emptyDict) ∈ led → (y, instS K9 dy vj) ∈ led → (dy, emptyDict) ∈ led →
      ∀ (C : Bool → Shared → Prop), (∀ h' tk', Fr h₀ L h' m → News h₀ L h' led → C (decide (c i < c j)) { s with heap := h', toks := tk' }) → wpAny (model prog w) A (keyLt' oneType' (.ref x) (.ref y)) C (fun _ _ => False) { s with heap := h, toks := tk })
    (h : ∀ h' tk c' p, Fr h₀ L h' m → News h₀ L h' ((a, seqObj "list" (List.toArray (p.toList.map fun i => vs.getD i .none)) c') :: news) → Pre c vs.length vs.length p → Asc c vs.length p → P (.done (.ret .none)) { s with heap := h', toks := tk }) :
    wpAny (model prog w) A (ksk_rest a f false vs.toArray e1 (.ref kS)) P E s := by
  unfold ksk_rest
  refine wpAny_bind (wpAny_rule ?_)
  first
    | rw [List.forIn_toArray]
    | (rw [← Array.forIn_toList]; simp only [List.toList_toArray])
    | rw [← Array.forIn_toList]
  refine wpAny_bind (ksk_fold (MInv h₀ L m s K9 vs a kS e1 news) vs 0 s
    ⟨s.heap, s.toks, #[], 0, [], [], rfl, F, N, fun _ hp => (nomatch hp), rfl, rfl, fun j x hx => by simp at hx⟩ ?step ?done)
  case step =>
    intro j v s' hv hJ0
    refine gh fun pG hpG => ?_
    obtain ⟨h', tk, kA, e, inst, xs, rfl, F', N', hlt, hkA, hlen, hI⟩ := hJ0
    refine hpG ?_
    clear hpG pG
    simp only [Nat.zero_add] at hlen ⊢
    have hj : j < vs.length := (List.getElem?_eq_some_iff.mp hv).1
    have hz : kA.size = j := by rw [← Array.length_toList, hkA, List.length_map, hlen]
    refine wpAny_bind (wpAny_attempt (wpAny_mono (turn v (List.mem_of_getElem? hv) h' tk _ F' N' (fun q hq => List.mem_append_right _ (.tail _ (.tail _ hq)))
      (MNew h₀ L m s K9 v kS (inst ++ (kS, seqObj "list" kA e) :: (a, seqObj "list" #[] e1) :: news))
      fun x dx h2 tk2 F2 N2 l1 l2 => ⟨x, dx, h2, tk2, rfl, rfl, F2, N2, l1 _ (List.mem_append_right _ (.head _)), l2⟩) (fun k s2 he => ?_) fun _ _ hF => hF.elim))
    refine gh fun pG hpG => ?_
    obtain ⟨x, dx, g, tk2, rfl, rfl, F2, N2, l1, l2⟩ := he
    refine hpG ?_
    clear hpG pG
    try dsimp only
    have nk := N2 (kS, seqObj "list" kA e) (.tail _ (.tail _ (List.mem_append_right _ (.head _))))
    have s1 := Heap.SameBut.update g kS (Obj.mapSeq (·.push (.ref x)))
    obtain ⟨c2, hc2⟩ : ∃ c2, (g.update kS (Obj.mapSeq (·.push (.ref x)))).get? kS = some (seqObj "list" (kA.push (.ref x)) c2) := ⟨_, get?_update_seq nk.1 (·.push (.ref x))⟩
    refine wpAny_bind (listUpdate_at nk.1 rfl ?_ (by rw [sizeLine_eq]; lia  ) (Nat.le_trans (Nat.le_of_eq (Array.size_push ..)) (by rw [sizeLine_eq]; lia  )))
    refine wpAny_pure ⟨rfl, _, _, kA.push (.ref x), c2, (x, instS K9 dx v) :: (dx, emptyDict) :: inst, xs ++ [x], rfl, ksk_fr F2 s1 nk.2.1 nk.2.2, fun p hp => ?_, fun p hp => ?_, by rw [Array.toList_push, hkA, List.map_append]; rfl, by simp [hlen], fun i y hy => ?_⟩
    · have same : ∀ q ∈ ((x, instS K9 dx v) :: (dx, emptyDict) :: (inst ++ (kS, seqObj "list" kA e) :: (a, seqObj "list" #[] e1) :: news)), q.1 ≠ kS → (g.update kS (Obj.mapSeq (·.push (.ref x)))).get? q.1 = some q.2 ∧ q.1 ≠ L ∧ h₀.get? q.1 = none := fun q hq hn =>
        ⟨(s1.2 q.1 hn).trans (N2 q hq).1, (N2 q hq).2⟩
      rcases List.mem_append.mp hp with hp | hp
      · rcases List.mem_cons.mp hp with rfl | hp
        · exact same _ (.head _) (Nat.ne_of_gt (Nat.lt_trans l1 l2))
        · rcases List.mem_cons.mp hp with rfl | hp
          · exact same _ (.tail _ (.head _)) (Nat.ne_of_gt l1)
          · exact same _ (.tail _ (.tail _ (List.mem_append_left _ hp))) (Nat.ne_of_gt (hlt p hp))
      · rcases List.mem_cons.mp hp with rfl | hp
        · exact ⟨hc2, nk.2⟩
        · rcases List.mem_cons.mp hp with rfl | hp
          · exact same _ (.tail _ (.tail _ (List.mem_append_right _ (.tail _ (.head _))))) hka.symm
          · exact same _ (.tail _ (.tail _ (List.mem_append_right _ (.tail _ (.tail _ hp))))) (hnk p hp)
    · rcases List.mem_cons.mp hp with rfl | hp
      · exact Nat.lt_trans l1 l2
      · rcases List.mem_cons.mp hp with rfl | hp
        · exact l1
        · exact hlt p hp
    · by_cases hi : i < xs.length
      · rw [List.getElem?_append_left hi] at hy
        refine gh fun pG hpG => ?_
        obtain ⟨d1, v1, q1, q2, q3⟩ := hI i y hy
        refine hpG ?_
        clear hpG pG
        exact ⟨d1, v1, q1, .tail _ (.tail _ q2), .tail _ (.tail _ q3)⟩
      · have hix : i = xs.length := by
          have := (List.getElem?_eq_some_iff.mp hy).1
          rw [List.length_append, List.length_singleton] at this
          lia  
        subst hix
        rw [List.getElem?_append_right (Nat.le_refl _)] at hy
        simp only [Nat.sub_self, List.getElem?_cons_zero, Option.some.injEq] at hy
        subst hy
        exact ⟨dx, v, by rw [hlen]; exact hv, .head _, .tail _ (.head _)⟩
  case done =>
    intro s' hJ0
    refine gh fun pG hpG => ?_
    obtain ⟨h', tk, kA, e, inst, xs, rfl, F', N', hlt, hkA, hlen, hI⟩ := hJ0
    refine hpG ?_
    clear hpG pG
    simp only [Nat.zero_add] at hlen
    have nk := N' (kS, seqObj "list" kA e) (List.mem_append_right _ (.head _))
    try dsimp only
    refine wpAny_bind (listItems_at nk.1 rfl ?_)
    have ekA : kA = List.toArray (xs.map Value.ref) := by rw [← hkA, Array.toArray_toList]
    have hks : kA.size ≤ 64 := by rw [ekA, List.size_toArray, List.length_map]; lia  
    unfold ksk_end
    try dsimp only
    simp only [Bool.false_eq_true, if_false]
    have n2 : ¬ vs.toArray.size < 2 := by rw [List.size_toArray]; lia  
    rw [if_neg n2, if_neg n2, ekA]
    have hT : ∀ v ∈ xs.map Value.ref, Looks (model prog w) h' (typeOf v) (.ref K9) := by
      intro v hv
      refine gh fun pG hpG => ?_
      obtain ⟨x, hx, rfl⟩ := List.mem_map.mp hv
      refine hpG ?_
      clear hpG pG
      refine gh fun pG hpG => ?_
      obtain ⟨i, hi, rfl⟩ := List.getElem_of_mem hx
      refine hpG ?_
      clear hpG pG
      refine gh fun pG hpG => ?_
      obtain ⟨d1, v1, q1, q2, q3⟩ := hI i _ (List.getElem?_eq_getElem hi)
      refine hpG ?_
      clear hpG pG
      exact (Looks.ld (N' _ (List.mem_append_left _ q2)).1).andThen .now
    refine wpAny_bind (kas_kind (T := .ref K9) (by rw [List.length_map]; lia  ) hT (by rfl) (by simp) ?_)
    have hzs : ((List.toArray (xs.map Value.ref)).zip vs.toArray).size = vs.length := by rw [Array.size_zip, List.size_toArray, List.length_map, List.size_toArray, hlen, Nat.min_self]
    have est : SortSt.mk' oneType' ((List.toArray (xs.map Value.ref)).zip vs.toArray) #[] 7 none = kas_st oneType' ((List.toArray (xs.map Value.ref)).zip vs.toArray) (List.toArray (List.range vs.length)) := by
      have e := kas_range ((List.toArray (xs.map Value.ref)).zip vs.toArray)
      rw [hzs] at e
      show _ = SortSt.mk' oneType' ((List.toArray (List.range vs.length)).map (kas_item ((List.toArray (xs.map Value.ref)).zip vs.toArray))) #[] 7 none
      rw [e]
    have sr := sort_run (c := c) (N := vs.length) (s := s) (Q := fun p _ => Pre c vs.length vs.length p ∧ Asc c vs.length p) h2 fun p h1 h2 => ⟨h1, h2⟩
    have rr := run_real (cmp := kas_cmp prog w A oneType' ((List.toArray (xs.map Value.ref)).zip vs.toArray)) (I := fun s' => ∃ h' tk, s' = { s with heap := h', toks := tk } ∧ Fr h₀ L h' m ∧ News h₀ L h' (inst ++ (kS, seqObj "list" kA e) :: (a, seqObj "list" #[] e1) :: news))
      (fun i j C s' hi hj hs hC => by
        refine gh fun pG hpG => ?_
        obtain ⟨h5, tk5, rfl, F5, N5⟩ := hs
        refine hpG ?_
        clear hpG pG
        have hxi := List.getElem?_eq_getElem (l := xs) (i := i) (by lia  )
        have hxj := List.getElem?_eq_getElem (l := xs) (i := j) (by lia  )
        refine gh fun pG hpG => ?_
        obtain ⟨d1, v1, q1, q2, q3⟩ := hI i _ hxi
        refine hpG ?_
        clear hpG pG
        refine gh fun pG hpG => ?_
        obtain ⟨d2, v2, y1, y2, y3⟩ := hI j _ hxj
        refine hpG ?_
        clear hpG pG
        unfold kas_cmp
        rw [item_zip hxi q1, item_zip hxj y1]
        exact ask i j v1 v2 q1 y1 h5 tk5 _ _ _ d1 d2 F5 N5 (fun q hq => List.mem_append_right _ (.tail _ (.tail _ hq))) (List.mem_append_left _ q2) (List.mem_append_left _ q3) (List.mem_append_left _ y2) (List.mem_append_left _ y3) C fun h6 tk6 F6 N6 => hC _ ⟨h6, tk6, rfl, F6, N6⟩)
      (kas_sort vs.length) { s with heap := h', toks := tk } sr ⟨h', tk, rfl, F', N'⟩
    have run := kas_runs (E := E) (prog := prog) (w := w) (A := A) (κ := oneType') (it := (List.toArray (xs.map Value.ref)).zip vs.toArray) (Q := fun _ st' s' => ∃ p : Array Nat, arrOf st' = p.map (kas_item ((List.toArray (xs.map Value.ref)).zip vs.toArray)) ∧ failedOf st' = none ∧ (Pre c vs.length vs.length p ∧ Asc c vs.length p) ∧ ∃ h' tk, s' = { s with heap := h', toks := tk } ∧ Fr h₀ L h' m ∧ News h₀ L h' (inst ++ (kS, seqObj "list" kA e) :: (a, seqObj "list" #[] e1) :: news))
      (h2 ▸ (by decide : 2 ≤ 6)) h64 (fun p' st' s' a1 a2 a3 a4 => ⟨p', a2, a3, a4.1, a4.2⟩) rr
    rw [← est] at run
    refine wpAny_bind (wpAny_mono run ?_ fun _ _ e => e)
    rintro ⟨⟨⟩, st'⟩ s' hJ0
    refine gh fun pG hpG => ?_
    obtain ⟨p, har, hf, ⟨hp, ha⟩, h7, tk7, rfl, F7, N7⟩ := hJ0
    refine hpG ?_
    clear hpG pG
    try dsimp only
    exact msort_tail F7 N7 hka hnk hna hks hlen h64 har hf hp ha fun h8 tk8 c8 F8 N8 => h h8 tk8 c8 p F8 N8 hp ha
end
end Mine
end
section
open PySem PySem.W PyProof.Rows PySem.Calls Builtin
set_option Elab.async false
namespace Mine
set_option maxRecDepth 100000
section
variable {prog : Program} {w : World} {A : Around} {E : Value → Shared → Prop} {s : Shared}
theorem pl_iadd : plainId "list.__iadd__" = true := by decide +kernel
theorem pl_coll : plainId "proto.collect" = true := by decide +kernel
end
end Mine
end
section
open PySem PySem.W PyProof.Rows PySem.Calls Builtin
set_option Elab.async false
namespace Mine
set_option maxRecDepth 100000
section
variable {prog : Program} {w : World} {A : Around} {E : Value → Shared → Prop} {s : Shared} {h₀ : Heap} {L : Addr} {m : Str → Option Value} {news : List (Addr × Obj)} {a K9 : Addr} {vs : List Value} {f : Value} {c : Nat → Int} {P : PySem.Fin → Shared → Prop}
/-- what the key function does for the values vs -/
noncomputable def Turn (prog : Program) (w : World) (A : Around) (h₀ : Heap) (L : Addr) (m : Str → Option Value) (news : List (Addr × Obj)) (K9 : Addr) (f : Value) (s : Shared) (vs : List Value) : Prop :=
  ∀ v ∈ vs, ∀ (h : Heap) (tk : Nat) (led : List (Addr × Obj)), Fr h₀ L h m → News h₀ L h led → (∀ q ∈ news, q ∈ led) → ∀ (Q : Value → Shared → Prop), (∀ x dx h' tk', Fr h₀ L h' m → News h₀ L h' ((x, instS K9 dx v) :: (dx, emptyDict) :: led) → (∀ q ∈ led, q.1 < dx) → dx < x → Q (.ref x) { s with heap := h', toks := tk' }) →
      wpAny (model prog w) A (call f [v]) Q (fun _ _ => False) { s with heap := h, toks := tk }
noncomputable def Ask (prog : Program) (w : World) (A : Around) (h₀ : Heap) (L : Addr) (m : Str → Option Value) (news : List (Addr × Obj)) (K9 : Addr) (c : Nat → Int) (s : Shared) (vs : List Value) : Prop :=
  ∀ (i j : Nat) (vi vj : Value), vs[i]? = some vi → vs[j]? = some vj → ∀ (h : Heap) (tk : Nat) (led : List (Addr × Obj)) (x y dx dy : Addr), Fr h₀ L h m → News h₀ L h led → (∀ q ∈ news, q ∈ led) → (x, instS K9 dx vi) ∈ led → (dx, emptyDict) ∈ led → (y, instS K9 dy vj) ∈ led → (dy, emptyDict) ∈ led →
      ∀ (C : Bool → Shared → Prop), (∀ h' tk', Fr h₀ L h' m → News h₀ L h' led → C (decide (c i < c j)) { s with heap := h', toks := tk' }) → wpAny (model prog w) A (keyLt' oneType' (.ref x) (.ref y)) C (fun _ _ => False) { s with heap := h, toks := tk }
theorem msort_tree {n : Nat} (F : Fr h₀ L s.heap m) (N : News h₀ L s.heap news) (ho : s.heap.get? a = some (seqObj "list" vs.toArray n)) (haL : a ≠ L) (ha0 : h₀.get? a = none) (hna : ∀ p ∈ news, p.1 ≠ a)
    (h2 : vs.length = 6) (h64 : vs.length < 64) (turn : Turn prog w A h₀ L m news K9 f s vs) (ask : Ask prog w A h₀ L m news K9 c s vs)
    (h : ∀ h' tk c' p, Fr h₀ L h' m → News h₀ L h' ((a, seqObj "list" (List.toArray (p.toList.map fun i => vs.getD i .none)) c') :: news) → Pre c vs.length vs.length p → Asc c vs.length p → P (.done (.ret .none)) { s with heap := h', toks := tk }) :
    wpAny (model prog w) A (ksk_tree a f false) P E s := by
  unfold ksk_tree
  have room : vs.length ≤ sizeLine := Nat.le_trans (Nat.le_of_lt h64) (by decide)
  refine wpAny_bind (listItems_at ho rfl (wpAny_bind (listUpdate_at ho rfl ?_ (by rw [List.size_toArray]; exact room) (Nat.zero_le _))))
  obtain ⟨e, F1, N1⟩ := relisted #[] F N ⟨ho, haL, ha0⟩ hna
  generalize s.heap.update a _ = g at F1 N1 ⊢
  refine wpAny_bind (seqEpoch_at (N1 _ (.head _)).1 rfl (wpAny_bind (wpAny_newTuple ?_ room)))
  have F2 := F1.push (seqObj "tuple" vs.toArray 0)
  have N2 := N1.pushKeep (seqObj "tuple" vs.toArray 0)
  dsimp only at F2 N2 ⊢
  generalize g.push _ = g2 at F2 N2 ⊢
  have low := fun p hp => Nat.ne_of_lt (Heap.lt_size (N2 p hp).1)
  exact wpAny_bind (wpAny_newList (wpAny_holding (msort_rest (s := { s with heap := g2.push (seqObj "list" #[] 0) }) (F2.push _) (News.push F2 N2 _) (Ne.symm (low _ (.head _))) (fun p hp => low p (.tail _ hp)) hna h2 h64 turn ask h)) (Nat.zero_le _))
theorem msorted {r : Value} {q : Addr} {PV : List Value → Prop} {Q : Value → Shared → Prop} (F : Fr h₀ L s.heap m) (N : News h₀ L s.heap news)
    (hcol : ∀ {A' : Around} {E' : Value → Shared → Prop} {Q' : List Value → Shared → Prop}, A'.handled = A.handled → (∀ h' tk vs, (∀ b o, s.heap.get? b = some o → h'.get? b = some o) → PV vs → Q' vs { s with heap := h', toks := tk }) → wpAny (model prog w) A' (collect r) Q' E' s)
    (hlen : ∀ vs, PV vs → vs.length = 6 ∧ vs.length < 64) (turn : ∀ vs, PV vs → Turn prog w A.in1.in1 h₀ L m news K9 (.ref q) s vs) (ask : ∀ vs, PV vs → Ask prog w A.in1.in1 h₀ L m news K9 c s vs)
    (h : ∀ vs, PV vs → ∀ D h' tk c' p, Fr h₀ L h' m → News h₀ L h' ((D, seqObj "list" (List.toArray (p.toList.map fun i => vs.getD i .none)) c') :: news) → (∀ q ∈ news, q.1 < D) → Pre c vs.length vs.length p → Asc c vs.length p → Q (.ref D) { s with heap := h', toks := tk }) :
    wpAny (model prog w) A (call (.builtin "sorted") [r] [(Str.ofString "key", .ref q)]) Q E s := by
  refine call_function_entry_kw kind_sorted plain_sorted entry_sorted (ksk_s1 _ _) ?_
  unfold Builtin.«sorted»
  refine wpAny_bind (m := checkCount "sorted" 1 1 _) (wpAny_pure ?_)
  refine wpAny_bind (hcol rfl fun h1 tk1 vs hk1 hpv => ?_)
  obtain ⟨l2, l64⟩ := hlen vs hpv
  refine wpAny_bind (wpAny_newList ?_ (by rw [sizeLine_eq]; omega))
  have F1 := F.keeps hk1
  have N1 := N.grown hk1
  have hoL : (h1.push (seqObj "list" vs.toArray 0)).get? h1.objs.size = some (seqObj "list" vs.toArray 0) := Heap.get?_push_size _ rfl
  have hL : L < h1.objs.size := F1.ns.lt
  refine wpAny_bind (wpAny_holding (wpAny_call_entry_kw slot_list_sort ⟨_, hoL, rfl⟩ entry_list_sort ?body (ksk_l1 _ _)))
  case body =>
    rw [ksk_t1]
    refine msort_tree (s := { s with heap := h1.push (seqObj "list" vs.toArray 0), toks := tk1 }) (F1.push _) (fun p hp => ⟨Heap.get?_push_of_some _ (N1 p hp).1, (N1 p hp).2⟩) hoL (Nat.ne_of_gt hL) (Heap.get?_none_of_le (Nat.le_trans F.above (Nat.le_of_lt hL)))
      (fun p hp => Nat.ne_of_lt (Heap.lt_size (N1 p hp).1)) l2 l64 (turn vs hpv) (ask vs hpv) fun h' tk c' p F' N' hp ha => ⟨_, rfl, ?_⟩
    exact wpAny_pure ⟨_, rfl, h vs hpv _ h' tk c' p F' N' (fun q hq => Heap.lt_size (N1 q hq).1) hp ha⟩
end
end Mine
end
section
open PySem PySem.W PyProof.Rows
set_option Elab.async false
namespace Mine
theorem ck_call {w : World} {mean : ExcName → Option Value} {mg mb : Str → Option Value} {dp un : Nat} {gd : Option (List Code)} {cn : Str} {cs : Scope} {a : Addr} {ccd : Value} {cl : List (Str × Addr)} {outer : List Env} {A₀ : Around} {base h₀ : Heap} {L : Addr} {m : Str → Option Value} {own rest : List (Addr × Obj)} {s : Shared} {Q E : Value → Shared → Prop} {f : Addr}
    (hB : Below A₀ base outer h₀) (F : Fr h₀ L s.heap m) (X : (hd.heap_39 w.params).In h₀) (N : News h₀ L s.heap (own ++ (16, tabObj #[]) :: rest)) (T : Top topProg LOO mean mg mb h₀) (hk : cs.kind = .function) (hd : dp + 10 < recursionLimit) (hu : un + 50 < cLine) (hown : ∀ p ∈ own, p.1 ≠ 16) (hrest : ∀ p ∈ rest, p.1 ≠ 16)
    (hret : ∀ (K9 cell : Addr) (kn : List (Addr × Obj)) (oc : Obj) (ps : Array Value) (h' : Heap) (tk' : Nat), Fr h₀ L h' m → News h₀ L h' (kn ++ (cell, oc) :: (own ++ (16, tabObj ps) :: rest)) → KList cell K9 kn → oc.data = .cell (some (.ref f)) → Q (.ref K9) { s with heap := h', toks := tk' }) :
      wpAny (model PySem.Challenge.rw_mq0210_02.row.prog w) (ktrTop dp un gd cn cs L a ccd cl outer) (call (.ref 21) [.ref f]) Q E s :=
  ck_claim w mean mg mb f dp un gd cn cs a ccd cl outer A₀ base h₀ L m own rest s Q E hB F X N T hk hd hu hown hrest hret
end Mine
end
section
open PySem PySem.W PyProof.Rows
set_option Elab.async false
namespace Mine
theorem news_put {h₀ h : Heap} {L : Addr} {p : Addr × Obj} {news all : List (Addr × Obj)} (N : News h₀ L h all) (hp : p ∈ all) (N' : News h₀ L h news) : News h₀ L h (p :: news) := fun q hq => by
  rcases List.mem_cons.mp hq with rfl | hq
  · exact N _ hp
  · exact N' q hq
end Mine
end
section
open PySem PySem.W PyProof.Rows
set_option Elab.async false
namespace Mine
set_option maxRecDepth 100000 in
set_option maxHeartbeats 8000000 in
theorem pair_lam (w : World) (mean : ExcName → Option Value) (mg mb : Str → Option Value) {f c' P1 P2 : Addr} {news : List (Addr × Obj)} {qual : Str} {q1 q2 p1 p2 p3 p4 p5 p6 p7 : Pos} {pm ctv : Value} {oc : Obj} {vsc : Array Value} {t a1 a2 a3 b1 b2 b3 : Tok} {c : Nat → Int} {i j : Nat}
  (hf : (f, kla_obj (Str.ofString "<lambda>") qual { posonlyargs := [], args := [{ arg := Str.ofString "one", annotation := none, pos := q1 }, { arg := Str.ofString "two", annotation := none, pos := q2 }], vararg := none, kwonlyargs := [], kw_defaults := [], kwarg := none, defaults := [] }
    (((Expr.Name (Str.ofString "one") p1).Subscript (Expr.Constant (Const.int 0) 0 p2) p3).BinOp Operator.Sub ((Expr.Name (Str.ofString "two") p4).Subscript (Expr.Constant (Const.int 0) 0 p5) p6) p7)
    { kind := ScopeKind.function, names := [(Str.ofString "one", NameKind.local), (Str.ofString "two", NameKind.local)], isGenerator := false, isCoroutine := false } [] pm c' ctv) ∈ news)
  (hc : (c', oc) ∈ news) (d1 : oc.data = .fields vsc) (d2 : vsc[1]? = some (.str qual t)) (h1 : (P1, prO c i a1 a2 a3) ∈ news) (h2 : (P2, prO c j b1 b2 b3) ∈ news) :
  CmpC w mean mg mb f news (.ref P1) (.ref P2) (c i - c j) := by
   unfold CmpC
   have hx : PySem.Challenge.rw_mq0210_02 = PySem.Challenge.rw_mq0210_02 := rfl
   have hy : hd.heap_39 = hd.heap_39 := rfl
   revert hx hy
   k_fill
   intro hx hy
   clear hx hy
   w_on
   intro dp un gd cn cs' a ccd clo outer A₀ base h₀ L mm s Q E hB F X N T hk hdp hun hret
   have N1 := news_put N hf (news_put N hc (news_put N h1 (news_put N h2 N)))
   unfold prO at N1
   refine wpAny_call ?_
   k_dflt (refine' kla_code (binds := [(Str.ofString "one", .ref P1), (Str.ofString "two", .ref P2)]) ?k1 ?k2 ?k3 ?k4 ?k5 ?kA ?kF ?kK ?k6 ?k7 ?k8 ?k9 ?kB ?_ ?c2 ?c3 ?c4 ?c5; (case kA => exact rfl); (case kF => exact rfl); (case kK => assumption); (case k1 => k_asm); (case k2 => k_asm); (case k3 => k_asm); (case k4 => exact N1); (case k5 => k_asm); (case k6 => k_mem); (case k7 => exact codeRec_news (by k_asm) (by k_mem) (by assumption) (by assumption)); (case k8 => show dp < _; omega); (case k9 => exact rfl); (case c5 => decide); (case kB => exact locs rfl); (case c2 => exact rfl); (case c3 => exact rfl); (case c4 => exact rfl); k_whole; intro g' L' h' FG' F' N' B' X' T'; (try dsimp only); (try k_lift B'); (try k_fold))
   k_steps
   exact cb_retI hret rfl (by assumption) (cb_drop (by assumption) fun _ h => .tail _ (.tail _ (.tail _ (.tail _ h))))
end Mine
end
section
open PySem PySem.W PyProof.Rows PySem.Calls Builtin
set_option Elab.async false
namespace Mine
set_option maxRecDepth 100000
set_option maxHeartbeats 2000000 in
theorem sorted_L {w : World} {mean : ExcName → Option Value} {mg mb : Str → Option Value} {dp un : Nat} {gd : Option (List Code)} {cn : Str} {cs : Scope} {a : Addr} {ccd : Value} {cl : List (Str × Addr)} {outer : List Env} {A₀ : Around} {base h₀ : Heap} {L : Addr} {m : Str → Option Value} {news kn : List (Addr × Obj)} {s : Shared} {Q E : Value → Shared → Prop} {f RG K9 cell : Addr} {oc : Obj} {pv : List Value} {e : Nat} {c : Nat → Int}
    {ocv : Value} {od1 : Option Addr} {fd : FuncData} {sl1 : Array (Option Value)}
    (B : Below A₀ base outer h₀) (F : Fr h₀ L s.heap m) (X : (hd.heap_39 w.params).In h₀) (N : News h₀ L s.heap news) (T : Top topProg LOO mean mg mb h₀) (hk : cs.kind = .function) (hd : dp + 20 < recursionLimit) (hu : un + 100 < cLine)
    (hKL : KList cell K9 kn) (hkn : ∀ q ∈ kn, q ∈ news) (hcell : (cell, oc) ∈ news) (hoc : oc.data = .cell (some (.ref f))) (hf : (f, (⟨ocv, od1, .func fd, sl1⟩ : Obj)) ∈ news)
    (hr : (RG, W.listOf pv.toArray e) ∈ news) (h2 : pv.length = 6) (h64 : pv.length < 64)
    (hcmp : ∀ led, (∀ q ∈ news, q ∈ led) → ∀ (i j : Nat) (vi vj : Value), pv[i]? = some vi → pv[j]? = some vj → (handedIn vi = true ∧ handedIn vj = true) ∧ CmpC w mean mg mb f led vi vj (c i - c j))
    (hret : ∀ D h' tk e, Fr h₀ L h' m → News h₀ L h' ((D, W.listOf (List.toArray ((dueN c pv.length).map fun i => pv.getD i .none)) e) :: news) → (∀ q ∈ news, q.1 < D) → Q (.ref D) { s with heap := h', toks := tk }) :
    wpAny (model PySem.Challenge.rw_mq0210_02.row.prog w) (ktrTop dp un gd cn cs L a ccd cl outer) (call (.builtin "sorted") [.ref RG] [(Str.ofString "key", .ref K9)]) Q E s := by
  have hKX := kx_of hKL
  have hRG : s.heap.get? RG = some (W.listOf pv.toArray e) := (N _ hr).1
  refine msorted (K9 := K9) (c := c) (PV := fun vs => vs = pv) F N ?col ?len ?turn ?ask ?fin
  case col =>
    intro A' E' Q' hh hq
    refine collect_list ⟨_, hRG, rfl, _, rfl⟩ (hq _ s.toks pv (fun b o q => ?_) rfl) (by rw [sizeLine_eq]; lia  )
    have hlt : b < s.heap.objs.size := Heap.lt_size q
    rw [Heap.get?_update_ne _ _ _ _ (Nat.ne_of_lt hlt), Heap.get?_push_ne _ _ _ (Nat.ne_of_lt hlt)]
    exact q
  case len => rintro vs rfl; exact ⟨h2, h64⟩
  case turn =>
    rintro vs rfl v hvm h tk led F1 N1 hsub Q1 hq1
    exact mk_inst (s := { s with heap := h, toks := tk }) B F1 X N1 T rfl rfl hk hKX (fun q hq => hsub q (hkn q hq)) (by show dp + 1 < _; lia  ) hq1
  case ask =>
    rintro vs rfl i j vi vj hi hj h tk led x y dx dy F1 N1 hsub m1 m2 m3 m4 C hC
    refine gh fun pG hpG => ?_
    obtain ⟨⟨hvi, hvj⟩, hcc⟩ := hcmp led hsub i j vi vj hi hj
    refine hpG ?_
    clear hpG pG
    refine lt_inst (s := { s with heap := h, toks := tk }) (dp := dp) (un := un + 2) B F1 X N1 T hk (by lia  ) (by lia  ) hKX (fun q hq => hsub q (hkn q hq)) m1 m2 m3 m4 (hsub _ hcell) hoc (hsub _ hf) hvi hvj hcc fun h' tk' F2 N2 => ?_
    have e : decide (c i - c j < 0) = decide (c i < c j) := decide_eq_decide.mpr ⟨fun _ => by lia  , fun _ => by lia  ⟩
    rw [e]
    exact hC h' tk' F2 N2
  case fin =>
    rintro vs rfl D h' tk e p F1 N1 hlt hp ha
    have hd := sorted_due hp ha
    rw [hd] at N1
    exact hret D h' tk e F1 N1 hlt
theorem up_of {α : Type} {kn l led : List α} {x : α} (h : ∀ q ∈ kn ++ x :: l, q ∈ led) : ∀ q ∈ l, q ∈ led := fun q hq => h q (List.mem_append_right _ (.tail _ hq))
end Mine
end
section
open PySem PySem.W PyProof.Rows
set_option Elab.async false
namespace Mine
local macro_rules | `(tactic| walk_at "eval ListComp") => blkM
local macro_rules | `(tactic| walk_at "CompSrc") => blkM
local macro_rules | `(tactic| walk_at "subscriptTail Name Name ref int") => blkM
local macro_rules | `(tactic| walk_at "assign Name") => `(tactic| refine wpAny_assign_Name ?_)
local macro_rules | `(tactic| k_all) => `(tactic| first | (with_reducible assumption) | exact List.forall_mem_nil _ | (refine List.forall_mem_cons.mpr ⟨by k_ne, ?_⟩; k_all))
local macro_rules | `(tactic| walk_at "execs cons") => blkM
noncomputable def zInts (g : List Nat) : List Int := g.map fun (x : Nat) => (x : Int)
/-- what _law_joined hands back -/
noncomputable def JoinR (c : Nat → Int) (ST : Addr) (g : List Nat) (u : Int) (i : Nat) (v : Value) (nw : List (Addr × Obj)) : Prop :=
  (g.getD (EJ i) 0 = g.getD (EK i) 0 ∧ v = .ref ST ∧ nw = []) ∨ (g.getD (EJ i) 0 ≠ g.getD (EK i) 0 ∧ ∃ S' G' gs' t', v = .ref S' ∧ nw = [(S', W.listOf #[.ref G', .int (u + c i) t'] 0), (G', LCg.lst gs')] ∧ IntsAre gs' (zInts (kjoin g i)))
theorem all_ne {d x : Addr} {l : List (Addr × Obj)} (h : AllLt d l) (hx : @LT.lt Nat _ d x) : ∀ p ∈ l, p.1 ≠ x := fun p hp => Nat.ne_of_lt (Nat.lt_trans (allLt_mem h p hp) hx)
theorem ends4 {i : Nat} (h : i < 6) : EJ i < 4 ∧ EK i < 4 := by
  match i, h with | 0, _ => decide | 1, _ => decide | 2, _ => decide | 3, _ => decide | 4, _ => decide | 5, _ => decide
theorem zInts_at (g : List Nat) (k : Nat) : (zInts g).getD k 0 = ((g.getD k 0 : Nat) : Int) := by
  unfold zInts
  rw [List.getD, List.getElem?_map, List.getD]
  cases g[k]? <;> rfl
theorem kjoin_hit {g : List Nat} {i k : Nat} (hl : g.length = 4) (hk : k < 4) (h : g.getD k 0 = g.getD (EK i) 0) : (zInts (kjoin g i)).getD k 0 = ((g.getD (EJ i) 0 : Nat) : Int) := by
  have hk' : k < g.length := hl ▸ hk
  rw [zInts_at]
  congr 1
  unfold kjoin
  rw [List.getD, List.getElem?_map, List.getElem?_eq_getElem hk']
  rw [List.getD, List.getElem?_eq_getElem hk'] at h
  exact if_pos h
theorem kjoin_miss {g : List Nat} {i k : Nat} (hl : g.length = 4) (hk : k < 4) (h : g.getD k 0 ≠ g.getD (EK i) 0) : (zInts (kjoin g i)).getD k 0 = ((g.getD k 0 : Nat) : Int) := by
  have hk' : k < g.length := hl ▸ hk
  rw [zInts_at]
  congr 1
  have e : g.getD k 0 = g[k] := by rw [List.getD, List.getElem?_eq_getElem hk']; rfl
  rw [e] at h ⊢
  show ((g.map _)[k]?).getD 0 = _
  rw [List.getElem?_map, List.getElem?_eq_getElem hk']
  exact if_neg h
theorem ints_at : ∀ {ys : List Value} {l : List Int}, ys.length = l.length → (∀ i y, ys[i]? = some y → ∃ t, y = Value.int (l.getD i 0) t) → IntsAre ys l
  | [], [], _, _ => .nil
  | y :: r, x :: l, hl, h => by
    obtain ⟨t, rfl⟩ := h 0 y rfl
    exact .cons _ _ (ints_at (Nat.succ.inj hl) fun i z hz => h (i + 1) z (by simpa using hz))
theorem cell_none {o : Obj} {x : Option Value} (h : o.data = .cell x) (e : x = none) : o.data = .cell none := e ▸ h
set_option maxRecDepth 100000 in
set_option maxHeartbeats 8000000 in
theorem fun_joined (w : World) (mean : ExcName → Option Value) (mg mb : Str → Option Value) {news : List (Addr × Obj)} {ST G P : Addr} {gs : List Value} {g : List Nat} {u : Int} {c : Nat → Int} {i : Nat} {tu t1 t2 t3 : Tok} {eg : Nat}
  (h1 : (ST, W.listOf #[.ref G, .int u tu] 0) ∈ news) (h2 : (G, W.listOf gs.toArray eg) ∈ news) (hg : IntsAre gs (zInts g)) (h3 : (P, prO c i t1 t2 t3) ∈ news) (hl : g.length = 4) (hi : i < 6) :
  FunV w mean mg mb (.ref 59) news (.ref ST) (.ref P) (JoinR c ST g u i) := by
   unfold FunV
   have hx : PySem.Challenge.rw_mq0210_02 = PySem.Challenge.rw_mq0210_02 := rfl
   have hy : hd.heap_39 = hd.heap_39 := rfl
   revert hx hy
   k_fill
   intro hx hy
   clear hx hy
   w_on
   intro dp un gd cn cs' a ccd clo outer A₀ base h₀ L mm s Q E hB F X N T hk hdp hun hret
   have N1 := news_put N h1 (news_put N h2 (news_put N h3 N))
   unfold prO at N1
   clear N
   refine wpAny_call ?_
   k_dflt (refine' code_defC ?k1 ?k2 ?k3 ?k4 ?k5 ?kA ?kF ?kK ?k6 ?k7 ?k8 ?k9 ?kB ?kD ?_ ?c2 ?c3 ?c4; (case kA => exact rfl); (case kF => exact rfl); (case kK => assumption); (case k1 => k_asm); (case k2 => k_asm); (case k3 => k_asm); (case k4 => k_asm); (case k5 => k_asm); (case k6 => k_is); (case k7 => k_is); (case k8 => ktr_room); (case k9 => exact BindsTo.of_eq rfl); (case kB => exact rfl); (case kD => decide +kernel); (case c2 => exact rfl); (case c3 => exact rfl); (case c4 => exact rfl); k_whole; intro g' L' h' tk' cells' FG' F' N' Y' B' X' T' l1; (try k_lt l1); k_cells Y'; (try simp only [List.cons_append, List.nil_append] at N'); (try dsimp only); (try k_lift B'); (try k_fold))
   k_steps
   refine Blk.out ?_
   rename Fr g' L' h' _ => F0
   rename News g' L' h' _ => N2
   have F1 := fr_to F0 (m' := kstB (fun _ => none) [(Str.ofString "pair", .ref P), (Str.ofString "state", .ref ST)]) (by funext z; with_unfolding_all rfl)
   clear F0
   rename (_ = Data.cell (bindC _ _ _ _)) => d1
   have q1 := cell_none d1 (by with_unfolding_all rfl)
   clear d1
   rename (_ = Data.cell (bindC _ _ _ _)) => d2
   have q2 := cell_none d2 (by with_unfolding_all rfl)
   clear d2
   rename (_ = Data.cell (bindC _ _ _ _)) => d3
   have q3 := cell_none d3 (by with_unfolding_all rfl)
   clear d3
   (try dsimp only at F1 N2)
   rename News g' L' _ _ => N2
   have z : ∀ {x : Addr}, @LT.lt Nat _ L' x → ∀ p ∈ (ST, W.listOf #[Value.ref G, Value.int u tu] 0) :: (G, W.listOf gs.toArray eg) :: (P, W.listOf #[Value.int (c i) t1, Value.int (EJ i : Int) t2, Value.int (EK i : Int) t3] 0) :: news, p.1 ≠ x := fun hx => all_ne (d := L') l1 hx
   have z1 := z (x := L' + 1) (Nat.lt_succ_self _)
   have z2 := z (x := L' + 1 + 1) (Nat.lt_succ_of_lt (Nat.lt_succ_self _))
   have z3 := z (x := L' + 1 + 1 + 1) (Nat.lt_succ_of_lt (Nat.lt_succ_of_lt (Nat.lt_succ_self _)))
   clear z
   refine wpAny_execs_cons ?_
   k_steps
   refine Blk.out ?_
   refine wpAny_execs_cons ?_
   k_steps
   refine Blk.out ?_
   obtain ⟨hj4, hk4⟩ := ends4 hi
   have hgl : gs.length = 4 := by rw [hg.length]; simpa [zInts] using hl
   obtain ⟨t7, e7⟩ := int_get hg (k := EJ i) (by simpa [zInts, hl] using hj4)
   obtain ⟨t8, e8⟩ := int_get hg (k := EK i) (by simpa [zInts, hl] using hk4)
   rw [zInts_at g] at e7 e8
   refine wpAny_execs_cons ?_
   k_steps
   refine Blk.out ?_
   rename News g' L' _ _ => N3
   refine item_T N3 (by k_mem) e7 (by omega) ?_ (by with_unfolding_all rfl)
   k_steps
   refine Blk.out ?_
   refine item_T N3 (by k_mem) e8 (by omega) ?_ (by with_unfolding_all rfl)
   k_steps
   · rename (_ = _) => hq
     refine Blk.out ?_
     refine wpAny_execs_cons ?_
     k_steps
     exact hret _ [] _ _ (.inl ⟨Int.ofNat.inj hq, rfl, rfl⟩) (by assumption) (news_sub _ (by assumption) fun p hp => .tail _ (.tail _ (.tail _ (.tail _ (.tail _ (.tail _ (.tail _ hp))))))) (fun p hp => nomatch hp)
   · rename (_ ≠ _) => hq
     have hq : g.getD (EJ i) 0 ≠ g.getD (EK i) 0 := fun e => hq (congrArg _ e)
     refine Blk.out ?_
     refine wpAny_execs_cons ?_
     k_steps
     refine Blk.out ?_
     rename Fr g' L' _ _ => F3
     refine LCg.ListComp_U (F₀ := F3) (by with_unfolding_all rfl) (by decide) (by rfl) (by decide) (by rfl) ?_
     k_steps
     refine Blk.out ?_
     refine LCg.CompSrc.ledger (by rfl) F3 N3 (.tail _ (.tail _ (.tail _ (.tail _ (.tail _ (.head _)))))) (by rw [List.size_toArray, PySem.sizeLine_eq]; omega) ?_
     intro g3
     refine rest_gen (fun k v => ∃ t, v = .int ((zInts (kjoin g i)).getD k 0) t) ?_ ?_
     · intro k v I2 oI2 C2 oC2 D4 m₂ zs h tk E' hk hv2 hC hx F4 N4 off2 ne
       clear F3
       have hk' : k < 4 := by rw [List.size_toArray] at hk; omega
       obtain ⟨t9, e9⟩ := int_get hg (k := k) (by simpa [zInts, hl] using hk')
       rw [zInts_at g] at e9
       obtain rfl : Value.int ((g.getD k 0 : Nat) : Int) t9 = v := Option.some.inj (e9.symm.trans (by simpa using hv2))
       dsimp only at hx F4 N4 ⊢
       k_steps
       refine Blk.out ?_
       refine item_T N4 (by k_mem) e8 (by omega) ?_ (by with_unfolding_all rfl)
       k_steps
       · rename (_ = _) => hz
         refine Blk.out ?_
         refine item_T N4 (by k_mem) e7 (by omega) ?_ (by with_unfolding_all rfl)
         exact LCg.CompEnd.intro F4 N4 _ (fun _ h => h) off2 (.inr ⟨_, by k_mem, rfl, _, rfl⟩) ⟨rfl, _, congrArg (fun z => Value.int z _) (kjoin_hit hl hk' (Int.ofNat.inj hz)).symm⟩
       · rename (¬ (_ = _)) => hz
         exact LCg.CompEnd.intro F4 N4 _ (fun _ h => h) off2 (.inr ⟨_, by k_mem, rfl, _, rfl⟩) ⟨rfl, _, congrArg (fun z => Value.int z _) (kjoin_miss hl hk' fun e => hz (congrArg _ e)).symm⟩
     · intro zs hl2 hR D4 h tk F4 N4 off2
       have hzl : zs.length = (zInts (kjoin g i)).length := by rw [hl2, List.size_toArray, hgl]; simp [zInts, kjoin, hl]
       have hz := ints_at hzl hR
       clear F3
       dsimp only at F4 N4 ⊢
       k_steps
       rename News h₀ L _ _ => N5
       rename (_ < _ ∧ _) => l5
       have hoff : ∀ q ∈ news, Dif q.1 D4 := fun q hq => off1_mem _ off2 q (.tail _ (.tail _ (.tail _ (.tail _ (.tail _ (.tail _ (.tail _ hq)))))))
       refine news_name N5 fun S' hS' => ?_
       subst hS'
       exact hret _ [(S', _), (D4, LCg.lst zs)] _ _ (.inr ⟨hq, S', D4, zs, _, rfl, rfl, hz⟩) (by assumption) (news_sub _ N5 fun p hp => by
         rcases List.mem_cons.mp hp with rfl | hp
         · exact .head _
         rcases List.mem_cons.mp hp with rfl | hp
         · exact .tail _ (.head _)
         · exact .tail _ (.tail _ (.tail _ (.tail _ (.tail _ (.tail _ (.tail _ (.tail _ (.tail _ hp))))))))) (fun p hp q hq => by
         rcases List.mem_cons.mp hp with rfl | hp
         · exact Nat.ne_of_lt (allLt_mem l5.2.2.2.2.2.2.2.2 q hq)
         · rw [List.mem_singleton.mp hp]; exact hoff q hq)
end Mine
end
section
open PySem PySem.W PyProof.Rows
set_option Elab.async false
namespace Mine
theorem keep59 (w : World) : KeepV w (.ref 59) := fun _ h X => keeps_K (by rfl) h X
/-- what stands after i of the rising pairs -/
noncomputable def JK (c : Nat → Int) (led : List (Addr × Obj)) (i : Nat) (v : Value) (nw : List (Addr × Obj)) : Prop :=
  ∃ S' G' gs g u tu eg, v = .ref S' ∧ ((dueN c 6).take i).foldl (kstep c) ([0, 1, 2, 3], 0) = (g, u) ∧ g.length = 4 ∧ IntsAre gs (zInts g) ∧ (S', W.listOf #[.ref G', .int u tu] 0) ∈ nw ++ led ∧ (G', W.listOf (List.toArray gs) eg) ∈ nw ++ led
theorem JK.step {c : Nat → Int} {led nw : List (Addr × Obj)} {i t : Nat} (ht : (dueN c 6)[i]? = some t) {S' G' : Addr} {gs : List Value} {g : List Nat} {u : Int} {tu : Tok} {eg : Nat}
    (hf : ((dueN c 6).take i).foldl (kstep c) ([0, 1, 2, 3], 0) = (g, u)) (hl : g.length = 4) (hg : IntsAre gs (zInts g)) (m1 : (S', W.listOf #[.ref G', .int u tu] 0) ∈ nw ++ led) (m2 : (G', W.listOf (List.toArray gs) eg) ∈ nw ++ led)
    {v' : Value} {nw' : List (Addr × Obj)} (h : JoinR c S' g u t v' nw') : JK c led (i + 1) v' (nw' ++ nw) := by
  have e : ((dueN c 6).take (i + 1)).foldl (kstep c) ([0, 1, 2, 3], 0) = kstep c (g, u) t := by
    obtain ⟨hi, he⟩ := List.getElem?_eq_some_iff.mp ht
    rw [List.take_succ_eq_append_getElem hi, List.foldl_append, hf, he]; rfl
  rcases h with ⟨h1, rfl, rfl⟩ | ⟨h1, S2, G2, gs2, t2, rfl, rfl, h2⟩
  · refine ⟨S', G', gs, g, u, tu, eg, rfl, ?_, hl, hg, m1, m2⟩
    rw [e]; unfold kstep; rw [if_pos (by first | exact h1 | exact h1.symm)]
  · refine ⟨S2, G2, gs2, kjoin g t, u + c t, t2, _, rfl, ?_, ?_, h2, .head _, .tail _ (.head _)⟩
    · rw [e]; unfold kstep; rw [if_neg (by first | exact h1 | exact fun z => h1 z.symm)]
    · unfold kjoin; rw [List.length_map]; exact hl
theorem red_joined {w : World} {mean : ExcName → Option Value} {mg mb : Str → Option Value} {l ST G : Addr} {e : Nat} {pv : List Value} {c : Nat → Int} {led : List (Addr × Obj)} {t0 u0 u1 u2 u3 : Tok}
   {dp un : Nat} {gd : Option (List Code)} {cn : Str} {cs : Scope} {a : Addr} {ccd : Value} {clo : List (Str × Addr)} {outer : List Env} {A₀ : Around} {base h₀ : Heap} {L : Addr} {mm : Str → Option Value} {s : Shared} {Q E : Value → Shared → Prop}
   (hB : Below A₀ base outer h₀) (F : Fr h₀ L s.heap mm) (X : (hd.heap_39 w.params).In h₀) (N : News h₀ L s.heap led) (T : Top topProg LOO mean mg mb h₀) (hk : cs.kind = .function) (hdp : dp + 30 < recursionLimit) (hun : un + 150 < cLine)
   (hl : (l, W.listOf (List.toArray ((dueN c pv.length).map fun i => pv.getD i .none)) e) ∈ led) (h6 : pv.length = 6) (hP : PrsAt c pv led)
   (hST : (ST, W.listOf #[.ref G, .int 0 t0] 0) ∈ led) (hG : (G, W.listOf #[.int 0 u0, .int 1 u1, .int 2 u2, .int 3 u3] 0) ∈ led)
   (hret : ∀ (S' G' : Addr) (gs : List Value) (z : Nat) (u : Int) (tu : Tok) (eg : Nat) (nw : List (Addr × Obj)) (h' : Heap) (tk' : Nat), u ∈ S1 c 6 → (∀ x ∈ S1 c 6, u ≤ x) → IntsAre gs (zInts [z, z, z, z]) → Fr h₀ L h' mm → News h₀ L h' (nw ++ led) →
     (S', W.listOf #[.ref G', .int u tu] 0) ∈ nw ++ led → (G', W.listOf (List.toArray gs) eg) ∈ nw ++ led → (∀ p ∈ nw, ∀ q ∈ led, Dif q.1 p.1) → Q (.ref S') { s with heap := h', toks := tk' }) :
   wpAny (model PySem.Challenge.rw_mq0210_02.row.prog w) (ktrTop dp un gd cn cs L a ccd clo outer) (call (.ref 30) [.ref 59, .ref l, .ref ST]) Q E s := by
  rw [h6] at hl
  have hlen : ((dueN c 6).map fun i => pv.getD i .none).length = 6 := by rw [List.length_map, dueN_len]
  refine red_claim (ini := some (.ref ST)) w mean mg mb (JK c led) dp un gd cn cs a ccd clo outer A₀ base h₀ L mm s Q E hB F X N T hk hdp hun ⟨0, _, ⟨ST, G, [.int 0 u0, .int 1 u1, .int 2 u2, .int 3 u3], [0, 1, 2, 3], 0, t0, 0, rfl, rfl, rfl, .cons _ _ (.cons _ _ (.cons _ _ (.cons _ _ .nil))), hST, hG⟩, Nat.zero_le _, .inl ⟨rfl, rfl, notMiss_ref w hST (by intro z; injection z with z; exact absurd z (by decide))⟩⟩ (keep59 w) hl ?_ ?_
  · intro i v x nw all hx hJ0
    refine gh fun pG hpG => ?_
    obtain ⟨S', G', gs, g, u, tu, eg, rfl, hf, hgl, hg, m1, m2⟩ := hJ0
    refine hpG ?_
    clear hpG pG
    intro hall
    rw [List.getElem?_map] at hx
    refine gh fun pG hpG => ?_
    obtain ⟨t, ht, rfl⟩ := Option.map_eq_some_iff.mp hx
    refine hpG ?_
    clear hpG pG
    have ht6 : t < 6 := dueN_lt c 6 t (List.mem_of_getElem? ht)
    refine gh fun pG hpG => ?_
    obtain ⟨P, a1, a2, a3, e1, e2⟩ := hP t (h6 ▸ ht6)
    refine hpG ?_
    clear hpG pG
    rw [List.getD, e1]
    intro dp un gd cn cs a' ccd cl outer A₀ base h₀ L m s Q E hB F X N T hk hd hu hret
    refine fun_joined w mean mg mb (hall _ m1) (hall _ m2) hg (hall _ (List.mem_append_right _ e2)) hgl ht6 dp un gd cn cs a' ccd cl outer A₀ base h₀ L m s Q E hB F X N T hk hd hu fun v' nw' h' tk' hJ F' N' hd' => ?_
    exact hret v' nw' h' tk' (JK.step ht hf hgl hg m1 m2 hJ) F' N' hd'
  · intro v nw h' tk' hJ0
    refine gh fun pG hpG => ?_
    obtain ⟨S', G', gs, g, u, tu, eg, rfl, hf, hgl, hg, m1, m2⟩ := hJ0
    refine hpG ?_
    clear hpG pG
    intro F' N' hdif
    rw [hlen, List.take_of_length_le (Nat.le_of_eq (dueN_len c 6))] at hf
    obtain ⟨⟨z, k1⟩, k2, k3⟩ := kruskal (c := c) (dueN_len c 6) (dueN_lt c 6) ((dueN_asc c 6).imp fun {a b} h e => by subst e; unfold Rr at h; lia) ((dueN_asc c 6).imp fun {a b} h => by unfold Rr at h; lia)
    rw [hf] at k1 k2 k3
    obtain rfl : g = [z, z, z, z] := k1
    exact hret S' G' gs z u tu eg nw h' tk' k2 k3 hg F' N' m1 m2 hdif
end Mine
end
section
open PySem PySem.W PyProof.Rows PyProof.V PySem.Spec
set_option Elab.async false
namespace Mine
/-- a value that is an int or a list of ints -/
noncomputable def Simple (h : Heap) (v : Value) : Prop := ∃ d as, Reads h v d as ∧ PyData.canLay0 d = true ∧ PyData.depth d ≤ 1
theorem ints_reads {h : Heap} : ∀ {zs : List Value} {ns : List Int}, IntsAre zs ns → ReadsAll h zs (ns.map .int) [] ∧ PyData.canLayAll0 (ns.map .int) = true ∧ PyData.depthAll (ns.map .int) = 0
  | _, _, .nil => ⟨.nil, rfl, rfl⟩
  | _, _, .cons i t r => by
    obtain ⟨h1, h2, h3⟩ := ints_reads (h := h) r
    refine ⟨.cons (Reads.int i t) h1, ?_, ?_⟩
    · simp only [List.map_cons, PyData.canLayAll0, PyData.canLay0, h2, Bool.and_self]
    · simp only [List.map_cons, PyData.depthAll, PyData.depth, h3, Nat.max_self]
theorem row_reads {h : Heap} {R : Addr} {e : Nat} {zs : List Value} {ns : List Int} (hR : h.get? R = some (W.listOf zs.toArray e)) (hz : IntsAre zs ns) : Reads h (.ref R) (.list (ns.map .int)) [R] ∧ PyData.canLay0 (.list (ns.map .int)) = true ∧ PyData.depth (.list (ns.map .int)) ≤ 1 := by
  obtain ⟨h1, h2, h3⟩ := ints_reads (h := h) hz
  refine ⟨reads_list_at hR rfl rfl h1, ?_, ?_⟩
  · simp only [PyData.canLay0, h2]
  · simp only [PyData.depth, h3]; decide
theorem simple_row {h : Heap} {R : Addr} {e : Nat} {zs : List Value} {ns : List Int} (hR : h.get? R = some (W.listOf zs.toArray e)) (hz : IntsAre zs ns) : Simple h (.ref R) := ⟨_, _, row_reads hR hz⟩
theorem simples {h : Heap} : ∀ {vs : List Value}, (∀ v ∈ vs, Simple h v) → ∃ ds as, ReadsAll h vs ds as ∧ PyData.canLayAll0 ds = true ∧ PyData.depthAll ds ≤ 1 ∧ ds.isEmpty = vs.isEmpty
  | [], _ => ⟨[], [], .nil, rfl, Nat.zero_le _, rfl⟩
  | v :: r, hv => by
    obtain ⟨d, a, h1, h2, h3⟩ := hv v (.head _)
    obtain ⟨ds, as, g1, g2, g3, _⟩ := simples (vs := r) fun x hx => hv x (.tail _ hx)
    refine ⟨d :: ds, _, .cons h1 g1, ?_, ?_, rfl⟩
    · simp only [PyData.canLayAll0, h2, g2, Bool.and_self]
    · simp only [PyData.depthAll]; omega
theorem shaped_list {ds : List PyData} (h2 : PyData.canLayAll0 ds = true) (h3 : PyData.depthAll ds ≤ 1) : SeqAt.shaped (.list ds) = true := by
  have e : PyData.depth (.list ds) = PyData.depthAll ds + 1 := by simp only [PyData.depth]
  unfold SeqAt.shaped
  rw [e]
  simp only [PyData.canLay0, h2, Bool.true_and, decide_eq_true_eq]
  omega
section
variable {prog : Program} {w : World} {A : Around} {E : Value → Shared → Prop} {s : Shared} {Q : Value → Shared → Prop} {D G : Addr}
/-- is a list empty? -/
theorem eq_nil {vs : List Value} (hS : ∀ v ∈ vs, Simple s.heap v) (hD : s.heap.get? D = some (LCg.lst vs)) (hG : s.heap.get? G = some (LCg.lst [])) (hu : A.units + 64 < cLine) (h : Q (.bool vs.isEmpty) s) :
    wpAny (model prog w) A (compareOp .Eq (.ref D) (.ref G)) Q E s := by
  obtain ⟨ds, as, h1, h2, h3, h4⟩ := simples hS
  refine eq_dataH (reads_list_at hD rfl rfl h1) (reads_list_at hG rfl rfl .nil) (shaped_list h2 h3) (shaped_list rfl (Nat.zero_le _)) hu ?_
  have e : PyData.eqv (.list ds) (.list []) = vs.isEmpty := by
    rw [← h4]
    cases ds <;> simp [PyData.eqv, PyData.eqvAll]
  rw [e]
  exact h
theorem rows_reads {h : Heap} {f : Nat → List Int} : ∀ (ys : List Value) (k : Nat), (∀ j y, ys[j]? = some y → ∃ R zs, y = .ref R ∧ h.get? R = some (LCg.lst zs) ∧ IntsAre zs (f (k + j))) →
    ∃ as, ReadsAll h ys ((List.range' k ys.length).map fun j => .list ((f j).map .int)) as
  | [], _, _ => ⟨_, .nil⟩
  | y :: r, k, hy => by
    obtain ⟨R, zs, rfl, h1, h2⟩ := hy 0 y rfl
    obtain ⟨as, ih⟩ := rows_reads r (k + 1) fun j z hz => by
      have := hy (j + 1) z (by simpa using hz)
      rwa [show k + (j + 1) = k + 1 + j by omega] at this
    exact ⟨_, .cons (row_reads h1 h2).1 ih⟩
theorem rows_shape {f : Nat → List Int} : ∀ (l : List Nat), PyData.canLayAll0 (l.map fun j => PyData.list ((f j).map .int)) = true ∧ PyData.depthAll (l.map fun j => PyData.list ((f j).map .int)) ≤ 1
  | [] => ⟨rfl, Nat.zero_le _⟩
  | x :: r => by
    obtain ⟨h1, h2⟩ := rows_shape (f := f) r
    have g : ∀ l : List Int, PyData.canLayAll0 (l.map .int) = true ∧ PyData.depthAll (l.map .int) = 0 := fun l => by
      induction l with
      | nil => exact ⟨rfl, rfl⟩
      | cons y q ih => exact ⟨by simp only [List.map_cons, PyData.canLayAll0, PyData.canLay0, ih.1, Bool.and_self], by simp only [List.map_cons, PyData.depthAll, PyData.depth, ih.2, Nat.max_self]⟩
    refine ⟨by simp only [List.map_cons, PyData.canLayAll0, PyData.canLay0, (g _).1, h1, Bool.and_self], ?_⟩
    simp only [List.map_cons, PyData.depthAll, PyData.depth, (g _).2]
    omega
/-- two tables with the same rows are equal -/
theorem eq_rows {f : Nat → List Int} {zs ys : List Value} {rl : List (Addr × Obj)} {h₀ : Heap} {L : Addr} (N : News h₀ L s.heap rl) (hD : s.heap.get? D = some (LCg.lst zs)) (hG : s.heap.get? G = some (LCg.lst ys)) (rz : RowsAt f zs rl) (ry : RowsAt f ys rl) (hl : zs.length = ys.length) (hu : A.units + 64 < cLine) (h : Q (.bool true) s) :
    wpAny (model prog w) A (compareOp .Eq (.ref D) (.ref G)) Q E s := by
  have g : ∀ {vs : List Value}, RowsAt f vs rl → ∃ as, ReadsAll s.heap vs ((List.range' 0 vs.length).map fun j => .list ((f j).map .int)) as := fun {vs} r => rows_reads vs 0 fun j y hy => by
    obtain ⟨R, zs, e, hm, hz⟩ := r j (List.getElem?_eq_some_iff.mp hy).1
    rw [hy] at e
    exact ⟨R, zs, Option.some.inj e, (N _ hm).1, by rw [Nat.zero_add]; exact hz⟩
  obtain ⟨a1, h1⟩ := g rz
  obtain ⟨a2, h2⟩ := g ry
  rw [hl] at h1
  obtain ⟨s1, s2⟩ := rows_shape (f := f) (List.range' 0 ys.length)
  refine eq_dataH (reads_list_at hD rfl rfl h1) (reads_list_at hG rfl rfl h2) (shaped_list s1 s2) (shaped_list s1 s2) hu ?_
  rw [SeqAt.eqv_refl _ (by simp only [PyData.canLay0, s1])]
  exact h
end
end Mine
end
section
open PySem PySem.W PyProof.Rows
set_option Elab.async false
namespace Mine
local macro_rules | `(tactic| k_ne) => `(tactic| first | (refine Dif.ne ?_; with_reducible assumption) | (refine Dif.ne' ?_; with_reducible assumption))
local macro_rules | `(tactic| k_all) => `(tactic| first | (with_reducible assumption) | exact List.forall_mem_nil _ | (refine List.forall_mem_cons.mpr ⟨by k_ne, ?_⟩; k_all))
local macro_rules | `(tactic| walk_at "exec For Name Call cons nil") => blkM
local macro_rules | `(tactic| walk_at "pyIter ref") => blkM
local macro_rules | `(tactic| walk_at "exec Assign cons ListComp") => blkM
local macro_rules | `(tactic| walk_at "eval ListComp") => blkM
local macro_rules | `(tactic| walk_at "CSrc") => blkM
local macro_rules | `(tactic| walk_at "CompSrcT") => blkM
local macro_rules | `(tactic| walk_at "compareOp Eq ref ref") => blkM
local macro_rules | `(tactic| walk_at "compareOp NotIn int ref") => blkM
local macro_rules | `(tactic| walk_at "subscriptTail Name Name ref int") => blkM
local macro_rules | `(tactic| walk_at "call builtin:min") => blkM
local macro_rules | `(tactic| walk_at "execs cons") => blkM
local macro_rules | `(tactic| walk_at "call builtin:list.append") => blkM
/-- the frame's map where the loops' names are set -/
noncomputable def mW (M : Str → Option Value) (uj uk um ul : Option Value) : Str → Option Value := fun y => if y = Str.ofString "loop" then ul else if y = Str.ofString "m" then um else if y = Str.ofString "k" then uk else if y = Str.ofString "j" then uj else M y
noncomputable def lM (SU PS TB : Addr) : Str → Option Value := kstB (fun _ => none) [(Str.ofString "sums", Value.ref SU), (Str.ofString "pairs", .ref PS), (Str.ofString "table", .ref TB)]
theorem mW_l (M : Str → Option Value) (uj uk um ul v : Option Value) : (fun z => if z = Str.ofString "loop" then v else mW M uj uk um ul z) = mW M uj uk um v := by
  funext z
  unfold mW
  by_cases h : z = Str.ofString "loop"
  · subst h; rfl
  · rw [if_neg h, if_neg h, if_neg h]
theorem mW_0 (M : Str → Option Value) (hj : M (Str.ofString "j") = none) (hk : M (Str.ofString "k") = none) (hm : M (Str.ofString "m") = none) (hl : M (Str.ofString "loop") = none) : M = mW M none none none none := by
  funext z
  unfold mW
  by_cases h : z = Str.ofString "loop"
  · subst h; rw [if_pos rfl]; exact hl
  rw [if_neg h]
  by_cases h : z = Str.ofString "m"
  · subst h; rw [if_pos rfl]; exact hm
  rw [if_neg h]
  by_cases h : z = Str.ofString "k"
  · subst h; rw [if_pos rfl]; exact hk
  rw [if_neg h]
  by_cases h : z = Str.ofString "j"
  · subst h; rw [if_pos rfl]; exact hj
  rw [if_neg h]
theorem mW_m (M : Str → Option Value) (uj uk um ul v : Option Value) : (fun z => if z = Str.ofString "m" then v else mW M uj uk um ul z) = mW M uj uk v ul := by
  funext z
  unfold mW
  by_cases h : z = Str.ofString "m"
  · subst h; rfl
  · simp only [if_neg h]
theorem mW_k (M : Str → Option Value) (uj uk um ul v : Option Value) : (fun z => if z = Str.ofString "k" then v else mW M uj uk um ul z) = mW M uj v um ul := by
  funext z
  unfold mW
  by_cases h : z = Str.ofString "k"
  · subst h; rfl
  · simp only [if_neg h]
theorem mW_j (M : Str → Option Value) (uj uk um ul v : Option Value) : (fun z => if z = Str.ofString "j" then v else mW M uj uk um ul z) = mW M v uk um ul := by
  funext z
  unfold mW
  by_cases h : z = Str.ofString "j"
  · subst h; rfl
  · simp only [if_neg h]
theorem news_hide {p : Prop} {h₀ h : Heap} {L : Addr} {l : List (Addr × Obj)} (N : News h₀ L h l) (k : ∀ LED, LED = l → News h₀ L h LED → p) : p := k l rfl N
theorem three_ends {EL A B C : Addr} {j k m : Nat} {a2 a3 b2 b3 c2 c3 : Tok} {tl LED : List (Addr × Obj)} (h : LED = (EL, W.listOf #[.ref A, .ref B, .ref C] 0) :: (C, W.listOf #[.int (EJ m : Int) c2, .int (EK m : Int) c3] 0) :: (B, W.listOf #[.int (EJ k : Int) b2, .int (EK k : Int) b3] 0) :: (A, W.listOf #[.int (EJ j : Int) a2, .int (EK j : Int) a3] 0) :: tl) :
    ∀ {p : Prop}, (∀ ev : List Value, (EL, W.listOf (List.toArray ev) 0) ∈ LED → ev.length = 3 → (∀ q v, ev[q]? = some v → ∃ E t1 t2, v = .ref E ∧ (E, W.listOf #[.int (EJ ([j, k, m].getD q 0)) t1, .int (EK ([j, k, m].getD q 0)) t2] 0) ∈ LED) → p) → p := by
  intro p kk
  subst h
  refine kk [.ref A, .ref B, .ref C] (.head _) rfl fun q v hq => ?_
  match q, hq with
  | 0, hq => exact ⟨A, a2, a3, (Option.some.inj hq).symm, .tail _ (.tail _ (.tail _ (.head _)))⟩
  | 1, hq => exact ⟨B, b2, b3, (Option.some.inj hq).symm, .tail _ (.tail _ (.head _))⟩
  | 2, hq => exact ⟨C, c2, c3, (Option.some.inj hq).symm, .tail _ (.head _)⟩
  | q + 3, hq => exact nomatch hq
theorem four_rows {RL A B C D : Addr} {a1 a2 a3 b1 b2 b3 c1 c2 c3 d1 d2 d3 : Tok} {tl LED : List (Addr × Obj)} (h : LED = (RL, W.listOf #[.ref A, .ref B, .ref C, .ref D] 0) :: (D, W.listOf #[.int 1 d1, .int 2 d2, .int 3 d3] 0) :: (C, W.listOf #[.int 0 c1, .int 2 c2, .int 3 c3] 0) :: (B, W.listOf #[.int 0 b1, .int 1 b2, .int 3 b3] 0) :: (A, W.listOf #[.int 0 a1, .int 1 a2, .int 2 a3] 0) :: tl) :
    ∀ {p : Prop}, (∀ rv : List Value, (RL, W.listOf (List.toArray rv) 0) ∈ LED → rv.length = 4 → (∀ q v, rv[q]? = some v → ∃ R zs, v = .ref R ∧ (R, W.listOf (List.toArray zs) 0) ∈ LED ∧ IntsAre zs (zInts (rows4.getD q []))) → (∀ p ∈ tl, p ∈ LED) → p) → p := by
  intro p kk
  subst h
  refine kk [.ref A, .ref B, .ref C, .ref D] (.head _) rfl (fun q v hq => ?_) fun p hp => .tail _ (.tail _ (.tail _ (.tail _ (.tail _ hp))))
  match q, hq with
  | 0, hq => exact ⟨A, _, (Option.some.inj hq).symm, .tail _ (.tail _ (.tail _ (.tail _ (.head _)))), .cons _ a1 (.cons _ a2 (.cons _ a3 .nil))⟩
  | 1, hq => exact ⟨B, _, (Option.some.inj hq).symm, .tail _ (.tail _ (.tail _ (.head _))), .cons _ b1 (.cons _ b2 (.cons _ b3 .nil))⟩
  | 2, hq => exact ⟨C, _, (Option.some.inj hq).symm, .tail _ (.tail _ (.head _)), .cons _ c1 (.cons _ c2 (.cons _ c3 .nil))⟩
  | 3, hq => exact ⟨D, _, (Option.some.inj hq).symm, .tail _ (.head _), .cons _ d1 (.cons _ d2 (.cons _ d3 .nil))⟩
  | q + 4, hq => exact nomatch hq
theorem led_sub {EL A B C Pj Pk Pm I3 I2 I SU CE : Addr} {o1 o2 o3 o4 o5 o6 o7 oI3 oI2 oI oS oc : Obj} {news LED : List (Addr × Obj)} (h : LED = (EL, o1) :: (C, o2) :: (B, o3) :: (A, o4) :: (Pj, o5) :: (Pk, o6) :: (Pm, o7) :: (I3, oI3) :: (I2, oI2) :: (I, oI) :: (SU, oS) :: (CE, oc) :: news) :
    ∀ p ∈ (SU, oS) :: (I3, oI3) :: (I2, oI2) :: (I, oI) :: (CE, oc) :: news, p ∈ LED := fun p hp => by
  subst h
  rcases List.mem_cons.mp hp with rfl | hp
  · exact .tail _ (.tail _ (.tail _ (.tail _ (.tail _ (.tail _ (.tail _ (.tail _ (.tail _ (.tail _ (.head _))))))))))
  rcases List.mem_cons.mp hp with rfl | hp
  · exact .tail _ (.tail _ (.tail _ (.tail _ (.tail _ (.tail _ (.tail _ (.head _)))))))
  rcases List.mem_cons.mp hp with rfl | hp
  · exact .tail _ (.tail _ (.tail _ (.tail _ (.tail _ (.tail _ (.tail _ (.tail _ (.head _))))))))
  rcases List.mem_cons.mp hp with rfl | hp
  · exact .tail _ (.tail _ (.tail _ (.tail _ (.tail _ (.tail _ (.tail _ (.tail _ (.tail _ (.head _)))))))))
  · exact .tail _ (.tail _ (.tail _ (.tail _ (.tail _ (.tail _ (.tail _ (.tail _ (.tail _ (.tail _ (.tail _ hp))))))))))
section
variable {prog : Program} {w : World} {A : Around} {h₀ : Heap} {L : Addr} {m : Str → Option Value} {env : Env} {ct elt : Expr} {x : Str} {scope : Scope} {cl : List (Str × Addr)} {s : Shared} {S : List (Addr × Obj) → Prop} {P : Nat → Value → Prop} {Fin : List Value → List (Addr × Obj) → Prop} {news : List (Addr × Obj)}
/-- a comprehension with a test: J says what stands after i items -/
theorem rest_ledT {n : Nat} (J : Nat → List Value → List (Addr × Obj) → Prop) (h0 : J 0 [] news)
    (turn : ∀ i v I oI C oC D m₂ ys nw h tk (E' : Value → Shared → Prop), i < n → P i v → J i ys nw → LCg.NsObj oC m₂ → m₂ x = some v → Fr h₀ L h m → News h₀ L h ((I, oI) :: (C, oC) :: (D, LCg.lst ys) :: nw) → LCg.Off3 I C D nw → ((@Ne Nat I C) ∧ (@Ne Nat I D) ∧ (@Ne Nat C D)) →
      wpAny (model prog w) A (isTrue ct (compEnvC scope cl C env) (eval ct (compEnvC scope cl C env))) (fun ok s' => if ok = true then
        wpAny (model prog w) A (eval elt (compEnvC scope cl C env)) (LCg.CompEnd h₀ L m { s with heap := h, toks := tk } I oI C oC D (LCg.lst ys) S (fun y nw' => J (i + 1) (ys ++ [y]) nw')) E' s'
        else LCg.CompEnd h₀ L m { s with heap := h, toks := tk } I oI C oC D (LCg.lst ys) S (fun _ nw' => J (i + 1) ys nw') Value.none s') E' { s with heap := h, toks := tk })
    (fin : ∀ ys nw, J n ys nw → Fin ys nw) : LCt.CompRestT prog w A h₀ L m env ct elt x scope cl s S P Fin n 0 [] news := by
  have key : ∀ (j i : Nat) (ys : List Value) nw, i + j = n → J i ys nw → LCt.CompRestT prog w A h₀ L m env ct elt x scope cl s S P Fin j i ys nw := by
    intro j
    induction j with
    | zero =>
      intro i ys nw hi hy
      obtain rfl : i = n := by omega
      exact LCt.CompRestT.zero (fin ys nw hy)
    | succ j ih =>
      intro i ys nw hi hy
      refine LCt.CompRestT.succ ?_
      intro v I oI C oC D m₂ h tk E' hv hC hx F N off ne
      refine wpAny_mono (turn i v I oI C oC D m₂ ys nw h tk E' (by omega) hv hy hC hx F N off ne) (fun ok s₂ hq => ?_) fun _ _ e => e
      cases ok with
      | true =>
        rw [if_pos rfl] at hq ⊢
        refine wpAny_mono hq (fun y s₃ hq => ?_) fun _ _ e => e
        obtain ⟨h', tk', nw', e, F', N', off', hS, hn⟩ := hq
        exact ⟨h', tk', nw', e, F', N', off', hS, ih (i + 1) _ _ (by omega) hn⟩
      | false =>
        rw [if_neg Bool.false_ne_true] at hq ⊢
        obtain ⟨h', tk', nw', e, F', N', off', hS, hn⟩ := hq
        exact ⟨h', tk', nw', e, F', N', off', hS, ih (i + 1) _ _ (by omega) hn⟩
  exact key n 0 [] news (by omega) h0
end
theorem any_row (row : List Nat) (a : Nat) : (zInts row).any (· == (a : Int)) = row.contains a := by
  unfold zInts
  induction row with
  | nil => rfl
  | cons x r ih =>
    rw [List.map_cons, List.any_cons, List.contains_cons, ih]
    congr 1
    rw [Bool.eq_iff_iff, beq_iff_eq, beq_iff_eq]
    exact ⟨fun h => (Int.ofNat.inj h).symm, fun h => congrArg _ h.symm⟩
theorem notin_row {prog : Program} {w : World} {A : Around} {E : Value → Shared → Prop} {s : Shared} {Q : Value → Shared → Prop} {h₀ : Heap} {L R : Addr} {led : List (Addr × Obj)} {zs : List Value} {row : List Nat} {a e : Nat} {t : Tok} (N : News h₀ L s.heap led) (hR : (R, W.listOf (List.toArray zs) e) ∈ led) (hz : IntsAre zs (zInts row)) (h : Q (.bool (!row.contains a)) s) :
    wpAny (model prog w) A (compareOp .NotIn (.int (a : Int) t) (.ref R)) Q E s := notin_list_ints (News.isList N hR) hz (by rw [any_row]; exact h)
theorem and3 (f : Nat → Bool) (j k m : Nat) : (List.take 3 [j, k, m]).all f = (f j && f k && f m) := by
  show (f j && (f k && (f m && true))) = _
  rw [Bool.and_true, Bool.and_assoc]
theorem S3_len (c : Nat → Int) (j k : Nat) : ∀ m, (S3 c j k m).length ≤ m
  | 0 => Nat.le_refl 0
  | m + 1 => by
    have h := S3_len c j k m
    show (S3 c j k m ++ if treeB j k m = true then [c j + c k + c m] else []).length ≤ _
    split <;> simp <;> omega
theorem S2_len (c : Nat → Int) (j : Nat) : ∀ k, k ≤ 6 → (S2 c j k).length ≤ 6 * k
  | 0, _ => Nat.le_refl 0
  | k + 1, hk => by
    have h := S2_len c j k (Nat.le_of_succ_le hk)
    have h3 := S3_len c j k k
    show (S2 c j k ++ S3 c j k k).length ≤ _
    rw [List.length_append]; omega
theorem S1_len (c : Nat → Int) : ∀ j, j ≤ 6 → (S1 c j).length ≤ 36 * j
  | 0, _ => Nat.le_refl 0
  | j + 1, hj => by
    have h := S1_len c j (Nat.le_of_succ_le hj)
    have h2 := S2_len c j j (Nat.le_of_succ_le hj)
    show (S1 c j ++ S2 c j j).length ≤ _
    rw [List.length_append]; omega
theorem S_len {c : Nat → Int} {sv : List Value} {j k m : Nat} (h : IntsAre sv (S1 c j ++ S2 c j k ++ S3 c j k m)) (hj : j < 6) (hk : k < j) (hm : m < k) : sv.length ≤ 4000 := by
  have e := h.length
  rw [List.length_append, List.length_append] at e
  have h1 := S1_len c j (by omega)
  have h2 := S2_len c j k (by omega)
  have h3 := S3_len c j k m
  omega
theorem rot4 {α : Type} {a b c d : α} {l : List α} : ∀ p ∈ b :: c :: d :: a :: l, p ∈ a :: b :: c :: d :: l := by
  refine fac (.tail _ (.head _)) ?_
  refine fac (.tail _ (.tail _ (.head _))) ?_
  refine fac (.tail _ (.tail _ (.tail _ (.head _)))) ?_
  refine fac (.head _) ?_
  intro p hp
  exact .tail _ (.tail _ (.tail _ (.tail _ hp)))
theorem forall_snoc {α : Type} {P : α → Prop} {l : List α} {y : α} (h : ∀ x ∈ l, P x) (hy : P y) : ∀ x ∈ l ++ [y], P x := fun x hx => by
  rcases List.mem_append.mp hx with hx | hx
  · exact h x hx
  · rw [List.mem_singleton.mp hx]; exact hy
theorem all_hit {α : Type} {l : List α} {f : α → Bool} {d : α} {q : Nat} {ys : List Value} {y : Value} (hq : q < l.length) (_h : ys.isEmpty = (l.take q).all f) (hf : f (l.getD q d) = false) : (ys ++ [y]).isEmpty = (l.take (q + 1)).all f := by
  rw [List.take_succ_eq_append_getElem hq, List.all_append]
  rw [List.getD, List.getElem?_eq_getElem hq] at hf
  have hf' : f l[q] = false := hf
  simp [hf']
theorem all_miss {α : Type} {l : List α} {f : α → Bool} {d : α} {q : Nat} {ys : List Value} (hq : q < l.length) (h : ys.isEmpty = (l.take q).all f) (hf : f (l.getD q d) = true) : ys.isEmpty = (l.take (q + 1)).all f := by
  rw [List.take_succ_eq_append_getElem hq, List.all_append, ← h]
  rw [List.getD, List.getElem?_eq_getElem hq] at hf
  have hf' : f l[q] = true := hf
  simp [hf']
theorem off_as {x : Addr} {l l' : List (Addr × Obj)} (h : ∀ p ∈ l, Dif p.1 x) (e : l'.map (·.1) = l.map (·.1)) : ∀ p ∈ l', Dif p.1 x := fun p hp => by
  have hp' := List.mem_map_of_mem (f := fun q : Addr × Obj => q.1) hp
  rw [e] at hp'
  obtain ⟨q, hq, e⟩ := List.mem_map.mp hp'
  exact e ▸ h q hq
/-- between the turns of the three loops -/
inductive LJ1 (c : Nat → Int) (SU PS TB C : Addr) (news : List (Addr × Obj)) (j : Nat) : (Str → Option Value) → List (Addr × Obj) → Prop
  | mk (sv : List Value) (e : Nat) (oe : Obj) (u uj uk um ul : Option Value) (hoe : oe.data = .cell u) (hsv : IntsAre sv (S1 c j)) : LJ1 c SU PS TB C news j (mW (lM SU PS TB) uj uk um ul) ((SU, W.listOf (List.toArray sv) e) :: (C, oe) :: news)
inductive LJ2 (c : Nat → Int) (SU PS TB C : Addr) (news : List (Addr × Obj)) (I : Addr) (oI : Obj) (j : Nat) (t : Tok) (k : Nat) : (Str → Option Value) → List (Addr × Obj) → Prop
  | mk (sv : List Value) (e : Nat) (oe : Obj) (u uk um ul : Option Value) (hoe : oe.data = .cell u) (hsv : IntsAre sv (S1 c j ++ S2 c j k)) : LJ2 c SU PS TB C news I oI j t k (mW (lM SU PS TB) (some (.int (j : Int) t)) uk um ul) ((I, oI) :: (SU, W.listOf (List.toArray sv) e) :: (C, oe) :: news)
inductive LJ3 (c : Nat → Int) (SU PS TB C : Addr) (news : List (Addr × Obj)) (I : Addr) (oI : Obj) (I2 : Addr) (oI2 : Obj) (j : Nat) (t : Tok) (k : Nat) (t2 : Tok) (m : Nat) : (Str → Option Value) → List (Addr × Obj) → Prop
  | mk (sv : List Value) (e : Nat) (oe : Obj) (u um ul : Option Value) (hoe : oe.data = .cell u) (hsv : IntsAre sv (S1 c j ++ S2 c j k ++ S3 c j k m)) : LJ3 c SU PS TB C news I oI I2 oI2 j t k t2 m (mW (lM SU PS TB) (some (.int (j : Int) t)) (some (.int (k : Int) t2)) um ul) ((I2, oI2) :: (I, oI) :: (SU, W.listOf (List.toArray sv) e) :: (C, oe) :: news)
theorem prs_at {c : Nat → Int} {pv : List Value} {led : List (Addr × Obj)} {t : Nat} {p : Prop} (h : PrsAt c pv led) (ht : t < pv.length) (k : ∀ P t1 t2 t3, pv[t]? = some (.ref P) → (P, prO c t t1 t2 t3) ∈ led → p) : p := by
  obtain ⟨P, t1, t2, t3, e, m⟩ := h t ht
  exact k P t1 t2 t3 e m
set_option maxRecDepth 100000 in
set_option maxHeartbeats 8000000 in
theorem least_call (w : World) (mean : ExcName → Option Value) (mg mb : Str → Option Value) {news : List (Addr × Obj)} {TB PS : Addr} {pv : List Value} {c : Nat → Int}
  (hPS : (PS, LCg.lst pv) ∈ news) (hpl : pv.length = 6) (hP : PrsAt c pv news)
  (dp un : Nat) (gd : Option (List Code)) (cn : Str) (cs : Scope) (a : Addr) (ccd : Value) (clo : List (Str × Addr)) (outer : List Env) (A₀ : Around) (base h₀ : Heap) (L : Addr) (mm : Str → Option Value) (s : Shared) (Q E : Value → Shared → Prop)
   (hB : Below A₀ base outer h₀) (F : Fr h₀ L s.heap mm) (X : (hd.heap_39 w.params).In h₀) (N : News h₀ L s.heap news) (T : Top topProg LOO mean mg mb h₀) (hk : cs.kind = .function) (hdp : dp + 25 < recursionLimit) (hun : un + 130 < cLine)
   (hret : ∀ (z : Int) (t : Tok) (h' : Heap) (tk' : Nat), LeastOf (S1 c 6) z → Fr h₀ L h' mm → News h₀ L h' news → Q (.int z t) { s with heap := h', toks := tk' }) :
   wpAny (model PySem.Challenge.rw_mq0210_02.row.prog w) (ktrTop dp un gd cn cs L a ccd clo outer) (call (.ref 64) [.ref TB, .ref PS]) Q E s := by
   have hx : PySem.Challenge.rw_mq0210_02 = PySem.Challenge.rw_mq0210_02 := rfl
   have hy : hd.heap_39 = hd.heap_39 := rfl
   revert hx hy
   k_fill
   intro hx hy
   clear hx hy
   w_on
   refine wpAny_call ?_
   k_dflt (refine' code_defC ?k1 ?k2 ?k3 ?k4 ?k5 ?kA ?kF ?kK ?k6 ?k7 ?k8 ?k9 ?kB ?kD ?_ ?c2 ?c3 ?c4; (case kA => exact rfl); (case kF => exact rfl); (case kK => assumption); (case k1 => k_asm); (case k2 => k_asm); (case k3 => k_asm); (case k4 => k_asm); (case k5 => k_asm); (case k6 => k_is); (case k7 => k_is); (case k8 => ktr_room); (case k9 => exact BindsTo.of_eq rfl); (case kB => exact rfl); (case kD => decide +kernel); (case c2 => exact rfl); (case c3 => exact rfl); (case c4 => exact rfl); k_whole; intro g' L' h' tk' cells' FG' F' N' Y' B' X' T' l1; (try k_lt l1); k_cells Y'; (try simp only [List.cons_append, List.nil_append] at N'); (try dsimp only); (try k_lift B'); (try k_fold))
   rename Fr g' L' h' _ => F0
   rename News g' L' h' _ => N2
   rename (_ = Data.cell (bindC _ _ _ _)) => d1
   have q1 := cell_none d1 (by with_unfolding_all rfl)
   clear d1
   have F1 := fr_to F0 (m' := kstB (fun _ => none) [(Str.ofString "pairs", .ref PS), (Str.ofString "table", .ref TB)]) (by funext z; with_unfolding_all rfl)
   clear F0
   k_steps
   refine Blk.out ?_
   refine wpAny_execs_cons ?_
   k_steps
   refine Blk.out ?_
   rename Fr g' L' _ _ => F1
   rename News g' L' _ _ => N3
   rename (_ ∧ AllLt _ _) => l2
   refine news_name N3 fun SU hSU => ?_
   subst hSU
   have F2 := fr_to (m' := lM SU PS TB) F1 rfl
   clear F1
   have hneC : ∀ p ∈ news, p.1 ≠ (L' + 1) := fun p hp => Nat.ne_of_lt (Nat.lt_succ_of_lt (l1 p hp))
   have hneS : ∀ p ∈ news, p.1 ≠ SU := fun p hp => Nat.ne_of_lt (allLt_mem l2.2 p hp)
   have hSC : Dif (L' + 1) SU := Nat.ne_of_lt l2.1
   have F2 := fr_to F2 (mW_0 (lM SU PS TB) (by rfl) (by rfl) (by rfl) (by rfl))
   refine wpAny_execs_cons ?_
   refine wpAny_For ?_
   k_steps
   refine Blk.out ?_
   rename IsRange _ _ _ _ _ _ _ _ => hr
   rename (∀ (b : Addr) (o : Obj), _ → _) => zz
   clear zz
   rename Fr g' L' _ _ => F9
   rename News g' L' _ _ => N9
   refine for_rangeQ (n := 6) (LJ1 c SU PS TB (L' + 1) news) rfl hr rfl (by decide) F9 N9 (.mk [] 0 _ none _ _ _ _ q1 .nil) (fun _ _ => rfl) ?turn ?done
   case turn =>
     rintro j t m led h tk I oI E' QT hi ⟨sv, e, oe, u, uj, uk, um, ul, hoe, hsv⟩ F3 N3 off hQT
     clear F9 N9 hr q1 l2
     dsimp only at F3 N3 ⊢
     k_steps
     refine Blk.out ?_
     rename Fr g' L' _ _ => F4
     have F5 := fr_to F4 (mW_j _ _ _ _ _ _)
     clear F4
     have hi' : j ≤ 4000 := by omega
     refine wpAny_execs_cons ?_
     refine wpAny_For ?_
     k_steps
     refine Blk.out ?_
     rename IsRange _ _ _ _ _ _ _ _ => hr
     rename (∀ (b : Addr) (o : Obj), _ → _) => zz
     clear zz
     rename Fr g' L' _ _ => F9
     rename News g' L' _ _ => N9
     rename IntsAre _ _ => hsv
     have dI := off (SU, W.listOf (List.toArray sv) e) (.head _)
     have dC := off ((L' + 1), oe) (.tail _ (.head _))
     refine for_rangeQ (n := j) (LJ2 c SU PS TB (L' + 1) news I oI j t) rfl hr (by omega) (by omega) F9 N9 (.mk sv e oe u _ _ _ hoe (by rw [show S2 c j 0 = [] from rfl, List.append_nil]; exact hsv)) (fun _ _ => rfl) ?turn2 ?done2
     case turn2 =>
       rintro k t2 m led h tk I2 oI2 E' QT2 hk2 ⟨sv, e, oe, u, uk, um, ul, hoe, hsv⟩ F3 N3 off2 hQT2
       clear F9 N9 hr
       dsimp only at F3 N3 ⊢
       k_steps
       refine Blk.out ?_
       rename Fr g' L' _ _ => F4
       have F5 := fr_to F4 (mW_k _ _ _ _ _ _)
       clear F4
       have hi2 : k ≤ 4000 := by omega
       refine wpAny_execs_cons ?_
       refine wpAny_For ?_
       k_steps
       refine Blk.out ?_
       rename IsRange _ _ _ _ _ _ _ _ => hr
       rename (∀ (b : Addr) (o : Obj), _ → _) => zz
       clear zz
       rename Fr g' L' _ _ => F9
       rename News g' L' _ _ => N9
       rename IntsAre _ _ => hsv
       have dI2 := off2 (SU, W.listOf (List.toArray sv) e) (.tail _ (.head _))
       have dC2 := off2 ((L' + 1), oe) (.tail _ (.tail _ (.head _)))
       refine for_rangeQ (n := k) (LJ3 c SU PS TB (L' + 1) news I oI I2 oI2 j t k t2) rfl hr (by omega) (by omega) F9 N9 (.mk sv e oe u _ _ hoe (by rw [show S3 c j k 0 = [] from rfl, List.append_nil]; exact hsv)) (fun _ _ => rfl) ?turn3 ?done3
       case turn3 =>
         rintro m t3 mp led h tk I3 oI3 E' QT3 hk3 ⟨sv, e, oe, u, um, ul, hoe, hsv⟩ F3 N3 off3 hQT3
         clear F9 N9 hr
         have dI3 := off3 (SU, W.listOf (List.toArray sv) e) (.tail _ (.tail _ (.head _)))
         have dC3 := off3 ((L' + 1), oe) (.tail _ (.tail _ (.tail _ (.head _))))
         refine prs_at hP (t := j) (by omega) fun Pj a1 a2 a3 ej mj => ?_
         refine prs_at hP (t := k) (by omega) fun Pk b1 b2 b3 ek mk => ?_
         refine prs_at hP (t := m) (by omega) fun Pm c1 c2 c3 em mm' => ?_
         have x1 : Dif Pj (L' + 1) := hneC _ mj
         have x2 : Dif Pk (L' + 1) := hneC _ mk
         have x3 : Dif Pm (L' + 1) := hneC _ mm'
         have N4 := news_put N3 (.tail _ (.tail _ (.tail _ (.tail _ (.tail _ mj))))) (news_put N3 (.tail _ (.tail _ (.tail _ (.tail _ (.tail _ mk))))) (news_put N3 (.tail _ (.tail _ (.tail _ (.tail _ (.tail _ mm'))))) N3))
         clear N3
         unfold prO at N4
         dsimp only at F3 N4 ⊢
         k_steps
         refine Blk.out ?_
         refine wp_hide fun Q9 hQ9 => ?_
         rename Fr g' L' _ _ => F4
         have F5 := fr_to F4 (mW_m _ _ _ _ _ _)
         clear F4
         refine wpAny_execs_cons ?_
         k_steps
         refine Blk.out ?_
         rename News g' L' _ _ => N5
         refine item_T N5 (.tail _ (.tail _ (.tail _ (.tail _ (.tail _ (.tail _ (.tail _ (.tail _ hPS)))))))) ej (by omega) ?_ (by with_unfolding_all rfl)
         k_steps
         refine Blk.out ?_
         rename (_ < _ ∧ _) => lD
         have y1 : Dif (L' + 1) _ := Nat.ne_of_lt lD.2.2.2.2.2.2.2.1
         clear lD
         rename News g' L' _ _ => N5
         refine item_T N5 (.tail _ (.tail _ (.tail _ (.tail _ (.tail _ (.tail _ (.tail _ (.tail _ (.tail _ hPS))))))))) ek (by omega) ?_ (by with_unfolding_all rfl)
         k_steps
         refine Blk.out ?_
         rename (_ < _ ∧ _) => lD
         have y2 : Dif (L' + 1) _ := Nat.ne_of_lt lD.2.2.2.2.2.2.2.2.1
         clear lD
         rename News g' L' _ _ => N5
         refine item_T N5 (.tail _ (.tail _ (.tail _ (.tail _ (.tail _ (.tail _ (.tail _ (.tail _ (.tail _ (.tail _ hPS)))))))))) em (by omega) ?_ (by with_unfolding_all rfl)
         k_steps
         refine Blk.out ?_
         refine wpAny_execs_cons ?_
         k_steps
         refine Blk.out ?_
         rename Fr g' L' _ _ => F6
         rename News g' L' _ _ => N6
         rename (Obj.data _ = Data.cell (some (.ref _))) => hoc
         have eI := dI
         have eI2 := dI2
         clear hQT hQT2 off off2 dI dC dI2 dC2
         dsimp only at N6 ⊢
         have hh := fun (p : Prop) k => @news_hide p _ _ _ _ N6 k
         refine hh _ ?_
         clear hh
         intro LED hLED N7
         have hh := fun (p : Prop) k => three_ends hLED (p := p) k
         refine hh _ ?_
         clear hh
         intro ev hev hel hend
         have hsub := led_sub hLED
         clear hLED N6
         rename (_ < _ ∧ _) => lE
         clear lE
         rename (_ < _ ∧ _) => lE
         clear lE
         refine' Assign_ListComp_C (h₀ := g') (L := L') (m := mW (lM SU PS TB) (some (.int (j : Int) t)) (some (.int (k : Int) t2)) (some (.int (m : Int) t3)) ul) ?z1 ?z2 ?z3 ?z4 ?z5 ?z6 ?z7 ?z8 ?z9 ?z10 ?z11 ?z12
         case z1 => rfl
         case z2 => with_unfolding_all rfl
         case z3 => with_unfolding_all rfl
         case z4 => exact fun _ _ => rfl
         case z5 => exact fun _ => rfl
         case z6 => rfl
         case z7 => decide
         case z8 => exact fun _ _ => rfl
         case z9 => rfl
         case z10 => rfl
         case z12 => intro _; rfl
         k_steps
         refine Blk.out ?_
         rename Fr g' L' _ _ => F8
         rename News g' L' _ _ => N8
         dsimp only at N8 ⊢
         have hh := fun (p : Prop) k => @news_hide p _ _ _ _ N8 k
         refine hh _ ?_
         clear hh
         intro LE2 hLE2 N9
         have hh := fun (p : Prop) k => four_rows hLE2 (p := p) k
         refine hh _ ?_
         clear hh
         intro rv hrv hrl hrow hs2
         clear hLE2 N8
         rename (_ < _ ∧ _) => lE
         clear lE
         rename (_ < _ ∧ _) => lE
         clear lE
         rename (_ < _ ∧ _) => lE
         clear lE
         rename (_ < _ ∧ _) => lE
         clear lE
         refine CSrc.ledger (fun r ys nw => nw = LE2 ∧ (∀ y ∈ ys, ∃ R zs ns, y = .ref R ∧ (R, W.listOf (List.toArray zs) 0) ∈ LE2 ∧ IntsAre zs ns) ∧ ys.isEmpty = (rows4.take r).all fun r => !(rowB r j && rowB r k && rowB r m)) (by rfl) F8 N9 hrv (by rw [List.size_toArray, PySem.sizeLine_eq]; omega) ⟨rfl, fun _ h => absurd h List.not_mem_nil, rfl⟩ ?_ ?_
         · rintro g2 r v I4 oI4 C oC D' X oX ys nw h tk E4 hr4 hv ⟨rfl, hys, hemp⟩ hoX F3 N3 off4 offX
           obtain ⟨R, zs, rfl, hR, hzs⟩ := hrow r v (by simpa using hv)
           have hc2 := hs2 _ (hsub _ (.tail _ (.tail _ (.tail _ (.tail _ (.head _))))))
           have N4 := news_put N3 (.tail _ (.tail _ (.tail _ (.tail _ hc2)))) N3
           clear N3 F8 N9
           refine' wpAny_tests_one ?y1
           dsimp only at F3 N4 ⊢
           k_steps
           refine' Blk.out ?y2
           refine' LCt.ListComp_T (F₀ := F3) ?u1 ?u2 ?u3 ?u4 ?u5 ?u6 ?u7
           case u1 => with_unfolding_all rfl
           case u2 => decide
           case u3 => rfl
           case u4 => decide
           case u5 => rfl
           case u7 => intro _; rfl
           k_steps
           refine' Blk.out ?y3
           have hh := fun (p : Prop) k => @news_hide p _ _ _ _ N4 k
           refine hh _ ?_
           clear hh
           intro LE3 hLE3 N5
           have k1 : ∀ p ∈ nw, p ∈ LE3 := fun p hp => by rw [hLE3]; exact .tail _ (.tail _ (.tail _ (.tail _ (.tail _ hp))))
           have k3 : ∀ p ∈ (I4, oI4) :: (C, oC) :: (D', LCg.lst ys) :: (X, oX) :: nw, p ∈ LE3 := fun p hp => by rw [hLE3]; exact .tail _ hp
           have k2 : (X, oX) ∈ LE3 := by rw [hLE3]; exact .tail _ (.tail _ (.tail _ (.tail _ (.head _))))
           refine' LCt.CompSrcT.ledger ?v1 F3 N5 (k1 _ (hs2 _ hev)) ?v3 ?v4
           case v1 => rfl
           case v3 => rw [List.size_toArray, PySem.sizeLine_eq]; omega
           intro g3
           refine' rest_ledT (fun q ys2 nw' => nw' = LE3 ∧ (∀ y ∈ ys2, ∃ R t1 t2 x y', y = .ref R ∧ (R, W.listOf #[.int x t1, .int y' t2] 0) ∈ LE3) ∧ ys2.isEmpty = ([j, k, m].take q).all (rowB (rows4.getD r []))) ?x5 ?x6 ?x7
           case x5 => exact ⟨rfl, fun _ h => absurd h List.not_mem_nil, rfl⟩
           case x6 =>
             rintro q v I5 oI5 C5 oC5 D5 m₂ ys2 nw' h tk E5 hq hv5 ⟨rfl, hy2, he2⟩ hC hx F4 N6 off5 ne
             obtain ⟨E6, t4, t5, rfl, hE⟩ := hend q v (by simpa using hv5)
             generalize hxq : [j, k, m].getD q 0 = xq at hE
             have N7 := news_put N6 (.tail _ (.tail _ (.tail _ (k1 _ (hs2 _ hE))))) (news_put N6 (.tail _ (.tail _ (.tail _ k2))) N6)
             dsimp only at hx F4 N7 ⊢
             k_steps
             refine' Blk.out ?y5
             refine' notin_row (a := EJ xq) N7 (.tail _ (.tail _ (.tail _ (.tail _ (.tail _ (k1 _ hR)))))) hzs ?y6
             k_steps
             · rename (_ = true) => hc1
               refine' Blk.out ?y7
               refine' notin_row (a := EK xq) N7 (.tail _ (.tail _ (.tail _ (.tail _ (.tail _ (k1 _ hR)))))) hzs ?y8
               k_steps
               · rename (List.contains _ (EK _) = true) => hc2
                 refine' LCg.CompEnd.intro F4 N6 nw' (fun _ h => h) off5 (.inr ⟨_, k1 _ (hs2 _ hev), rfl, _, rfl⟩) ⟨rfl, hy2, all_miss (d := 0) ?w1 he2 ?w2⟩
                 case w1 => simpa using (hel ▸ hq : q < 3)
                 case w2 => rw [hxq]; unfold rowB; rw [hc1, hc2]; rfl
               · rename (List.contains _ (EK _) = false) => hc2
                 refine' LCg.CompEnd.intro F4 N6 nw' (fun _ h => h) off5 (.inr ⟨_, k1 _ (hs2 _ hev), rfl, _, rfl⟩) ⟨rfl, forall_snoc hy2 ⟨E6, t4, t5, _, _, rfl, k1 _ (hs2 _ hE)⟩, all_hit (d := 0) ?w3 he2 ?w4⟩
                 case w3 => simpa using (hel ▸ hq : q < 3)
                 case w4 => rw [hxq]; unfold rowB; rw [hc1, hc2]; rfl
             · rename (List.contains _ (EJ _) = false) => hc1
               refine' LCg.CompEnd.intro F4 N6 nw' (fun _ h => h) off5 (.inr ⟨_, k1 _ (hs2 _ hev), rfl, _, rfl⟩) ⟨rfl, forall_snoc hy2 ⟨E6, t4, t5, _, _, rfl, k1 _ (hs2 _ hE)⟩, all_hit (d := 0) ?w5 he2 ?w6⟩
               case w5 => simpa using (hel ▸ hq : q < 3)
               case w6 => rw [hxq]; unfold rowB; rw [hc1]; rfl
           case x7 =>
             rintro ys2 nw' ⟨rfl, hy2, he2⟩
             rw [List.size_toArray, hel] at he2
             intro D5 h tk F4 N6 off5
             dsimp only at F4 N6 ⊢
             k_steps
             refine' Blk.out ?y9
             rename News g' L' _ _ => N8
             rename Fr g' L' _ _ => F8
             refine' eq_nil (vs := ys2) ?s1 (N8 _ (.tail _ (.head _))).1 (N8 _ (.head _)).1 ?s2 ?s3
             case s1 =>
               intro y hy
               obtain ⟨R', u1, u2, x', y', rfl, hR'⟩ := hy2 y hy
               exact simple_row (zs := [_, _]) (N8 _ (.tail _ (.tail _ hR'))).1 (.cons _ _ (.cons _ _ .nil))
             case s2 => ktr_units
             have N9 := news_put N8 (.tail _ (.tail _ k2)) N8
             clear N8
             k_steps
             · rename (_ = true) => hem
               refine' LCg.CompEnd.intro F8 N9 ((X, oX) :: nw) (fun p hp => .tail _ (.tail _ (.tail _ (k3 p hp)))) off4 (.inr ⟨_, .tail _ hrv, rfl, _, rfl⟩) ⟨nw, rfl, offX, rfl, forall_snoc hys ⟨R, zs, _, rfl, hR, hzs⟩, all_hit (d := []) ?r1 hemp ?r2⟩
               case r1 => rw [List.size_toArray, hrl] at hr4; exact hr4
               case r2 => rw [← and3, ← he2, hem]; rfl
             · rename (_ = false) => hem
               refine' LCg.CompEnd.intro F8 N9 ((X, oX) :: nw) (fun p hp => .tail _ (.tail _ (.tail _ (k3 p hp)))) off4 (.inr ⟨_, .tail _ hrv, rfl, _, rfl⟩) ⟨nw, rfl, offX, rfl, hys, all_miss (d := []) ?r3 hemp ?r4⟩
               case r3 => rw [List.size_toArray, hrl] at hr4; exact hr4
               case r4 => rw [← and3, ← he2, hem]; rfl
         · rintro ys nw ⟨rfl, hys, hemp⟩
           rw [List.size_toArray, hrl] at hemp
           intro LO h tk F3 N3 off4
           dsimp only at F3 N3 ⊢
           k_steps
           refine' Blk.out ?q1
           have F4 := fr_to F3 (mW_l _ _ _ _ _ _)
           clear F3
           refine' wpAny_execs_cons ?q2
           k_steps
           refine' Blk.out ?q3
           rename News g' L' _ _ => N4
           rename Fr g' L' _ _ => F5
           refine' eq_nil (vs := ys) ?q4 (N4 _ (.tail _ (.head _))).1 (N4 _ (.head _)).1 ?q5 ?q6
           case q4 =>
             intro y hy
             obtain ⟨R', zs', ns', rfl, hR', hz'⟩ := hys y hy
             exact simple_row (N4 _ (.tail _ (.tail _ hR'))).1 hz'
           case q5 => ktr_units
           have hin : ∀ p ∈ news, p ∈ nw := fun p hp => hs2 _ (hsub _ (.tail _ (.tail _ (.tail _ (.tail _ (.tail _ hp))))))
           have N5 := news_put N4 (.tail _ (.tail _ (hs2 _ (hsub _ (.head _))))) (news_put N4 (.tail _ (.tail _ (hin _ mj))) (news_put N4 (.tail _ (.tail _ (hin _ mk))) (news_put N4 (.tail _ (.tail _ (hin _ mm'))) N4)))
           unfold prO at N5
           clear N4
           k_steps
           · rename (_ = true) => hem
             have ht : treeB j k m = true := hemp.symm.trans hem
             refine' Blk.out ?n0
             refine' wpAny_execs_cons ?n1
             k_steps
             refine' Blk.out ?n2
             refine' item_T N5 (.tail _ (.tail _ (.tail _ (.tail _ (.tail _ (.tail _ (hin _ hPS))))))) ej ?n4 ?n5 ?n6
             case n4 => omega
             case n6 => with_unfolding_all rfl
             k_steps
             refine' Blk.out ?n7
             refine' item_T N5 (.tail _ (.tail _ (.tail _ (.tail _ (.tail _ (.tail _ (hin _ hPS))))))) ek ?n8 ?n9 ?n10
             case n8 => omega
             case n10 => with_unfolding_all rfl
             k_steps
             refine' Blk.out ?n11
             refine' item_T N5 (.tail _ (.tail _ (.tail _ (.tail _ (.tail _ (.tail _ (hin _ hPS))))))) em ?n12 ?n13 ?n14
             case n12 => omega
             case n14 => with_unfolding_all rfl
             k_steps
             refine' Blk.out ?n15
             rename Fr g' L' _ _ => F6
             have N6 := news_sub _ N5 (fun p hp => .tail _ (.tail _ (.tail _ (.tail _ (.tail _ (.tail _ (hs2 _ (hsub p hp))))))))
             clear N5
             refine' append_K F6 N6 (Upd.head ?o1) ?o2 ?o3
             case o1 => exact List.forall_mem_cons.mpr ⟨Dif.ne' dI3, List.forall_mem_cons.mpr ⟨Dif.ne' eI2, List.forall_mem_cons.mpr ⟨Dif.ne' eI, List.forall_mem_cons.mpr ⟨hSC, hneS⟩⟩⟩⟩
             case o3 => rw [List.size_toArray, PySem.sizeLine_eq]; exact Nat.le_trans (S_len hsv hi hk2 hk3) (by decide)
             intro h7 F7 N7
             dsimp only at F7 N7 ⊢
             rw [List.push_toArray] at N7
             k_steps
             rename Fr g' L' _ _ => F8
             refine hQ9 _ _ (hQT3 _ _ _ _ F8 (news_sub _ N7 rot4) (off_as off3 ?o4) (.mk _ _ _ _ _ _ hoc ?o6))
             case o4 => rfl
             case o6 =>
               show IntsAre _ (S1 c j ++ S2 c j k ++ (S3 c j k m ++ if treeB j k m = true then _ else []))
               rw [if_pos ht, ← List.append_assoc]
               exact hsv.append (.cons _ _ .nil)
           · rename (_ = false) => hem
             have ht : ¬ treeB j k m = true := fun z => Bool.false_ne_true (hem.symm.trans (hemp.trans z))
             rename Fr g' L' _ _ => F6
             have N6 := news_sub _ N5 (fun p hp => .tail _ (.tail _ (.tail _ (.tail _ (.tail _ (.tail _ (hs2 _ (hsub p hp))))))))
             clear N5
             refine hQ9 _ _ (hQT3 _ _ _ _ F6 (news_sub _ N6 rot4) (off_as off3 ?p4) (.mk sv _ _ _ _ _ hoc ?p6))
             case p4 => rfl
             case p6 =>
               show IntsAre _ (S1 c j ++ S2 c j k ++ (S3 c j k m ++ if treeB j k m = true then _ else []))
               rw [if_neg ht, List.append_nil]
               exact hsv
       case done3 =>
         rintro mp led h tk ⟨sv, e, oe, u, um, ul, hoe, hsv⟩ F3 N3
         clear F9 N9 hr
         dsimp only at F3 N3 ⊢
         k_steps
         exact hQT2 _ _ _ _ (by assumption) (by assumption) (off_as off2 (by rfl)) (.mk sv e oe u _ _ _ hoe (by rw [List.append_assoc] at hsv; exact hsv))
     case done2 =>
       rintro m led h tk ⟨sv, e, oe, u, uk, um, ul, hoe, hsv⟩ F3 N3
       clear F9 N9 hr
       dsimp only at F3 N3 ⊢
       k_steps
       exact hQT _ _ _ _ (by assumption) (by assumption) (off_as off (by rfl)) (.mk sv e oe u _ _ _ _ hoe hsv)
   case done =>
     rintro m led h tk ⟨sv, e, oe, u, uj, uk, um, ul, hoe, hsv⟩ F3 N3
     clear F9 N9 hr
     have hne : 0 < (S1 c 6).length := by rw [S1_eq, List.length_map]; decide
     refine Blk.out ?_
     refine wpAny_execs_cons ?_
     k_steps
     refine Blk.out ?_
     rename News g' L' _ _ => N4
     rename Fr g' L' _ _ => F4
     rename IntsAre _ _ => hsv
     refine kso_min F4 N4 (News.isList N4 (.head _)) hsv hne rfl ?_
     intro h' z tz tk F5 N5 hz1 hz2
     clear N4
     dsimp only at F5 N5 ⊢
     k_steps
     exact hret z _ _ _ ⟨hz1, hz2⟩ (by assumption) (news_sub _ (by assumption) fun p hp => .tail _ (.tail _ hp))
end Mine
end
section
open PySem PySem.W PyProof.Rows
set_option Elab.async false
namespace Mine
noncomputable def DoneL (h₀ : Heap) (L : Addr) (s : Shared) (fl : Flow) (s' : Shared) : Prop :=
  fl = .ret (.bool true) ∧ ∃ h' tk m' nw ps ps', s' = { s with heap := h', toks := tk } ∧ Fr h₀ L h' m' ∧ News h₀ L h' (nw ++ [(16, tabObj ps), (66, tabObj ps')])
theorem done_mono {M : Model} {A : Around} {x : Sem Flow} {Q : Flow → Shared → Prop} {E : Value → Shared → Prop} {s : Shared} {h₀ : Heap} {L : Addr} {m : Str → Option Value} (_F : Fr h₀ L s.heap m) (hb : wpAny M A x (DoneL h₀ L s) (fun _ _ => False) s)
    (hp : ∀ h' tk m' nw ps ps', Fr h₀ L h' m' → News h₀ L h' (nw ++ [(16, tabObj ps), (66, tabObj ps')]) → Q (.ret (.bool true)) { s with heap := h', toks := tk }) : wpAny M A x Q E s :=
  wpAny_mono hb (fun fl s' hd => by obtain ⟨rfl, h', tk, m', nw, ps, ps', rfl, F, N⟩ := hd; exact hp h' tk m' nw ps ps' F N) fun _ _ z => z.elim
noncomputable def argL (xs : List Int) : List Int := (xs.take 4 ++ [26, 18, 9, 75].drop xs.length).take 4
noncomputable def wordsL (xs : List Int) : List Str := (argL xs).map nameS
theorem argL_len (xs : List Int) : (argL xs).length = 4 := by
  unfold argL
  rw [List.length_take, List.length_append, List.length_take, List.length_drop]
  simp only [List.length_cons, List.length_nil]
  lia  
theorem far_of {L : Nat} {X I C D G : Addr} {oX oI oC oD ct c3 o16 : Obj} {rl2 LED : List (Addr × Obj)} (h : ∀ p ∈ (X, oX) :: (L + 1 + 1, ct) :: (I, oI) :: (C, oC) :: (D, oD) :: (rl2 ++ LED), Dif p.1 G) (h16 : (16, o16) ∈ LED) (h3 : (L + 1 + 1 + 1, c3) ∈ LED) : Far L G :=
  have g : ∀ {p}, p ∈ LED → p ∈ (X, oX) :: (L + 1 + 1, ct) :: (I, oI) :: (C, oC) :: (D, oD) :: (rl2 ++ LED) := fun hp => .tail _ (.tail _ (.tail _ (.tail _ (.tail _ (List.mem_append_right _ hp)))))
  ⟨h _ (g h16), h _ (.tail _ (.head _)), h _ (g h3)⟩
/-- the pairs made so far -/
noncomputable def JP (L : Nat) (c : Nat → Int) (ct : Obj) (LED : List (Addr × Obj)) (i q : Nat) (ys : List Value) (nw : List (Addr × Obj)) : Prop :=
  ∃ pl, nw = (L + 1 + 1, ct) :: (pl ++ LED) ∧ ys.length = tri i q ∧ ((i < 4 ∧ q ≤ i) ∨ (i = 4 ∧ q = 0)) ∧ (∀ p ∈ pl, Far L p.1) ∧ PrsAt c ys pl
theorem JP.len {L : Nat} {c : Nat → Int} {ct : Obj} {LED : List (Addr × Obj)} : ∀ i q ys nw, JP L c ct LED i q ys nw → ys.length ≤ 64 := by
  intro i q ys nw hJ0
  obtain ⟨pl, rfl, hl, hb, _⟩ := hJ0
  rw [hl]
  rcases hb with ⟨hi, hq⟩ | ⟨rfl, rfl⟩
  · match i, hi with | 0, _ => exact Nat.le_trans (Nat.add_le_add_left hq _) (by decide) | 1, _ => exact Nat.le_trans (Nat.add_le_add_left hq _) (by decide) | 2, _ => exact Nat.le_trans (Nat.add_le_add_left hq _) (by decide) | 3, _ => exact Nat.le_trans (Nat.add_le_add_left hq _) (by decide)
  · decide
theorem JP.next {L : Nat} {c : Nat → Int} {ct : Obj} {LED : List (Addr × Obj)} : ∀ i ys nw, JP L c ct LED i i ys nw → JP L c ct LED (i + 1) 0 ys nw := by
  rintro i ys nw ⟨pl, rfl, hl, hb, hf, hp⟩
  have hi : i < 4 := by lia  
  exact ⟨pl, rfl, hl.trans (tri_next hi), by lia  , hf, hp⟩
theorem off4_snoc {I I2 C D P : Addr} {a oP : Obj} {x : Addr} {pl LED : List (Addr × Obj)} (h : Off4 I I2 C D ((x, a) :: (pl ++ LED))) (h1 : @LT.lt Nat _ I P) (h2 : @LT.lt Nat _ I2 P) (h3 : @LT.lt Nat _ C P) (h4 : @LT.lt Nat _ D P) : Off4 I I2 C D ((x, a) :: ((P, oP) :: pl ++ LED)) := by
  refine fac (h _ (.head _)) ?_
  refine fac (⟨Nat.ne_of_gt h1, Nat.ne_of_gt h2, Nat.ne_of_gt h3, Nat.ne_of_gt h4⟩) ?_
  intro p hp
  exact h p (.tail _ hp)
theorem far_lt {L P : Nat} (h : L + 1 + 1 + 1 < P) (h16 : 16 < L) : Far L P := ⟨Nat.ne_of_lt (by lia  ), Nat.ne_of_lt (by lia  ), Nat.ne_of_lt h⟩
/-- a list of the ledger lies not where a table lies -/
theorem lst_ne {h₀ h : Heap} {L P T : Addr} {vs : Array Value} {e' : Nat} {ps : Array Value} {led : List (Addr × Obj)} (N : News h₀ L h led) (hP : (P, W.listOf vs e') ∈ led) (hT : (T, tabObj ps) ∈ led) : P ≠ T := fun z => by
  subst z
  have e := (N _ hP).1.symm.trans (N _ hT).1
  have e2 : W.listOf vs e' = tabObj ps := Option.some.inj e
  cases e2
theorem PrsAt.off {c : Nat → Int} {ys : List Value} {h₀ h : Heap} {L T : Addr} {ps : Array Value} {led rl : List (Addr × Obj)} (N : News h₀ L h led) (hT : (T, tabObj ps) ∈ led) (hs : ∀ p ∈ rl, p ∈ led) (hp : PrsAt c ys rl) : PrsAt c ys (rl.filter fun p => p.1 != T) := fun t ht => by
  refine gh fun pG hpG => ?_
  obtain ⟨P, t1, t2, t3, e, m⟩ := hp t ht
  refine hpG ?_
  clear hpG pG
  exact ⟨P, t1, t2, t3, e, List.mem_filter.mpr ⟨m, bne_iff_ne.mpr (lst_ne N (hs _ m) hT)⟩⟩
theorem RowsAt.off {f : Nat → List Int} {ys : List Value} {h₀ h : Heap} {L T : Addr} {ps : Array Value} {led rl : List (Addr × Obj)} (N : News h₀ L h led) (hT : (T, tabObj ps) ∈ led) (hs : ∀ p ∈ rl, p ∈ led) (hp : RowsAt f ys rl) : RowsAt f ys (rl.filter fun p => p.1 != T) := fun t ht => by
  refine gh fun pG hpG => ?_
  obtain ⟨R, zs, e, m, i⟩ := hp t ht
  refine hpG ?_
  clear hpG pG
  exact ⟨R, zs, e, List.mem_filter.mpr ⟨m, bne_iff_ne.mpr (lst_ne N (hs _ m) hT)⟩, i⟩
/-- a list of the ledger lies not where a cell lies -/
theorem cel_ne {h₀ h : Heap} {L P T : Addr} {vs : Array Value} {e' : Nat} {o : Obj} {x : Option Value} {led : List (Addr × Obj)} (N : News h₀ L h led) (hP : (P, W.listOf vs e') ∈ led) (hT : (T, o) ∈ led) (ho : o.data = .cell x) : Dif T P := fun z => by
  subst z
  have e := (N _ hP).1.symm.trans (N _ hT).1
  have e2 : W.listOf vs e' = o := Option.some.inj e
  subst e2
  cases ho
theorem sub_mem {α : Type} {l' l : List α} (h : List.Sublist l' l) : ∀ q ∈ l', q ∈ l := fun _ hq => h.subset hq
theorem lt1 {a b : Nat} (h : a < b) : a < b + 1 := Nat.lt_succ_of_lt h
local macro_rules | `(tactic| k_ne) => `(tactic| first | (refine Dif.ne ?_; with_reducible assumption) | (refine Dif.ne' ?_; with_reducible assumption) | (refine Nat.ne_of_lt ?_; walk_at "klt") | (refine Nat.ne_of_gt ?_; walk_at "klt"))
local macro_rules | `(tactic| walk_at "klt") => `(tactic| first | (with_reducible assumption) | (with_reducible exact Nat.lt_add_one _) | (with_reducible refine lt1 ?_; walk_at "klt"))
local macro_rules | `(tactic| k_all) => `(tactic| first | (with_reducible exact List.forall_mem_nil _) | (with_reducible assumption) | (refine List.forall_mem_cons.mpr ⟨by k_ne, ?_⟩; k_all))
local macro_rules | `(tactic| walk_at "execs cons") => stopAt 200
local macro_rules | `(tactic| walk_at "call ref cons nil") => stopAt 201
local macro_rules | `(tactic| walk_at "eval ListComp") => stopAt 202
local macro_rules | `(tactic| walk_at "subscriptTail") => stopAt 203
local macro_rules | `(tactic| walk_at "CompSrc") => stopAt 204
local macro_rules | `(tactic| walk_at "CSrc") => stopAt 205
local macro_rules | `(tactic| walk_at "exec For Name Call cons nil") => stopAt 206
local macro_rules | `(tactic| walk_at "pyIter ref") => stopAt 207
local macro_rules | `(tactic| walk_at "exec Assign cons ListComp") => stopAt 208
local macro_rules | `(tactic| walk_at "subscriptTail Name Name ref int") => stopAt 209
local macro_rules | `(tactic| walk_at "call ref") => stopAt 210
local macro_rules | `(tactic| walk_at "PSrc") => stopAt 211
local macro_rules | `(tactic| walk_at "InSrc") => stopAt 212
local macro_rules | `(tactic| walk_at "ElEnd") => stopAt 213
local macro_rules | `(tactic| walk_at "call builtin:sorted") => stopAt 214
local macro_rules | `(tactic| walk_at "assign Name") => stopAt 215
local macro_rules | `(tactic| walk_at "CompSrcT") => stopAt 216
local macro_rules | `(tactic| walk_at "compareOp Eq ref ref") => stopAt 217
set_option maxRecDepth 100000 in
set_option maxHeartbeats 8000000 in
theorem law0 : PySem.Challenge.rw_mq0210_02.Holds := hd (by
  k_go0
  (all_goals try k_fold)
  have mk200 : Mk 200 := trivial
  k_steps
  refine Blk.out ?_
  rename Fr _ _ _ _ => F1
  have F2 := fr_to F1 (m' := kstB (fun _ => none) [(Str.ofString "script", _)]) (by funext z; with_unfolding_all rfl)
  clear F1
  rename News _ _ _ _ => N1
  refine done_mono F2 ?body ?post
  case post =>
    intro h9 tk9 m9 nw ps ps' F9 N9
    clear N1 F2
    k_steps
  case body =>
    rename CellsAre _ _ _ => X0
    clear X0
    (try dsimp only at *)
    rename (_ = Data.cell (bindC _ _ _ _)) => d1
    have q1 := cell_none d1 (by with_unfolding_all rfl)
    clear d1
    rename (_ = Data.cell (bindC _ _ _ _)) => d2
    have q2 := cell_none d2 (by with_unfolding_all rfl)
    clear d2
    rename (_ = Data.cell (bindC _ _ _ _)) => d3
    have q3 := cell_none d3 (by with_unfolding_all rfl)
    clear d3
    rename Frag.In _ _ => X9
    rename Top topProg _ _ _ _ _ => T9
    rename Below _ _ _ _ => B9
    rename CodeHd _ 20 16 => C20
    rename CodeHd _ 68 66 => C68
    rename IntsAre _ _ => hI
    rename List Int => xs
    rename (¬ _ < _) => hc
    rename (_ ∧ _) => l0; have l16 := l0.1; have l66 := l0.2
    rename Ground _ _ _ _ _ _ _ _ _ => z1
    rename Hook.says _ _ _ => z2
    rename Heap.get? _ _ = some _ => z3
    rename Shared.gens _ = _ => z4
    rename Flt.MathXP _ _ _ => z5
    rename LooseAre _ _ _ => z6
    rename Top hd.view_39 _ _ _ _ _ => z7
    rename Tables _ _ _ _ => z8
    rename TopE _ _ _ _ => z9
    rename TopW _ _ _ => z10
    rename Heap.CodeRec _ _ _ => z11
    rename Spec.Shape.has _ _ = _ => z12
    rename PyData.layable0 _ = _ => z13
    rename Well _ _ _ _ => z14
    rename ReadsAllW _ _ _ _ _ _ => z15
    rename Reads _ _ _ _ => z16
    rename ReadsAll _ _ _ _ => z17
    rename Dflts _ _ _ _ _ _ => z18
    clear z1 z2 z3 z4 z5 z6 z7 z8 z9 z10 z11 z12 z13 z14 z15 z16 z17 z18 hT8 hT9
    rename_i w0 s0 s1 mg mb fa o pm doc hlay hr hl2 w9 w8 ax vs w5 hLi hcc h1 tk1 c3 c2 c1
    clear hlay hr hl2 hLi hcc o pm doc w9 w8 w5
    generalize ExcName.means s0.heap = mean at *
    generalize hg : ghostOf s1.heap _ = h₀ at *
    clear hg
    generalize hL : s1.heap.objs.size = L at *
    clear hL
    (try (with_reducible refine Blk.out ?_))
    clear mk200
    have mk200 : Mk 200 := trivial; have mk201 : Mk 201 := trivial; have mk202 : Mk 202 := trivial; have mk203 : Mk 203 := trivial; have mk204 : Mk 204 := trivial
    refine wpAny_execs_cons ?_
    k_steps
    refine Blk.out ?_
    refine LCg.ListComp_U (F₀ := F2) (by rfl) (by decide) (by rfl) (by decide) (by rfl) ?_
    k_steps
    refine Blk.out ?_
    refine slice_T (by k_asm) (by k_asm) (.head _) (IsPart.int _ _) IsPart.none (slice_ints_fromW (ns := [26, 18, 9, 75]) (.cons _ _ (.cons _ _ (.cons _ _ (.cons _ _ .nil)))) (by lia  )) (by show 4 ≤ 64; decide) ?_ (by with_unfolding_all rfl)
    intro D2 ws2 h2 F3 N3 l2 hI2
    rw [Int.toNat_natCast] at hI2
    (try dsimp only at N3 ⊢)
    k_steps
    refine Blk.out ?_
    have hl4 := argL_len xs
    rename IntsAre _ (List.take 4 xs ++ _) => hI5
    have hl5 := hI5.length
    rw [List.length_append, List.length_take, List.length_drop] at hl5
    simp only [List.length_cons, List.length_nil] at hl5
    refine slice_T (by k_asm) (by k_asm) (.head _) IsPart.none (IsPart.int _ _) (kmk_upto hI5 (by decide)) (by lia  ) ?_ (by with_unfolding_all rfl)
    intro D3 ws3 h3 F4 N4 l4 hI3
    have hI4 : IntsAre ws3 (argL xs) := hI3
    clear hI3 hl5 hI5
    (try dsimp only at N4 ⊢)
    k_steps
    refine Blk.out ?_
    have N5 := news_sub [(D3, W.listOf ws3.toArray 0), (L + 1 + 1 + 1, c3), (L + 1 + 1, c2), (L + 1, c1), (16, tabObj #[]), (66, tabObj #[])] N4 (by repeat' (first | exact (fun _ h => absurd h List.not_mem_nil) | refine List.forall_mem_cons.mpr ⟨by k_mem, ?_⟩))
    clear N4 l4 l2 hI2
    have hl6 := hI4.length
    refine LCg.CompSrc.ledger (by rfl) F4 N5 (.head _) (by rw [List.size_toArray, PySem.sizeLine_eq]; lia  ) ?_
    intro g
    refine rest_gen (fun i v => ∃ t, v = .str (nameS ((argL xs).getD i 0)) t) ?_ ?_
    · intro i v I oI C oC D m₂ ys h tk E' hi hv hC hx F3 N3 off ne
      obtain ⟨tv, rfl⟩ := hI4.int_at i v (by simpa using hv)
      clear F4 N5
      (try dsimp only at hx F3 N3 ⊢)
      k_steps
      refine Blk.out ?_
      with_unfolding_all refine' name_call ?k1 ?k2 ?k3 ?k4 ?k5 ?kK ?kd ?ku ?_
      case k1 => k_asm
      case k2 => k_asm
      case k3 => k_asm
      case k4 => k_asm
      case k5 => k_asm
      case kK => first | exact rfl | assumption
      case kd => first | ktr_room | decide | lia
      case ku => first | ktr_units | decide | lia
      intro t9 h9 tk9 F9 N9
      (try dsimp only)
      k_steps
      rename Fr h₀ L _ _ => F5
      rename News h₀ L _ _ => N5
      exact LCg.CompEnd.intro F5 N5 _ (fun _ h => h) off (.inr ⟨_, by k_mem, rfl, _, rfl⟩) ⟨rfl, _, rfl⟩
    · intro ys hl hR D h tk F3 N3 off
      have hys := strs_map (g := nameS) (d := 0) (l := argL xs) (by rw [List.size_toArray]; lia  ) hl hR
      have hys : StrsAre ys (wordsL xs) := hys
      have N4 := news_sub [(D, LCg.lst ys), (L + 1 + 1 + 1, c3), (L + 1 + 1, c2), (L + 1, c1), (16, tabObj #[]), (66, tabObj #[])] N3 (by repeat' (first | exact (fun _ h => absurd h List.not_mem_nil) | refine List.forall_mem_cons.mpr ⟨by k_mem, ?_⟩))
      have hD := all_conj (l' := [(L + 1 + 1 + 1, c3), (L + 1 + 1, c2), (L + 1, c1), (16, tabObj #[]), (66, tabObj #[])]) (off1_mem _ off) (by repeat' (first | exact (fun _ h => absurd h List.not_mem_nil) | refine List.forall_mem_cons.mpr ⟨by k_mem, ?_⟩))
      simp only [List.forall_mem_cons, List.not_mem_nil, false_imp_iff, implies_true, and_true] at hD
      refine gh fun pG hpG => ?_
      obtain ⟨hd3, hd2, hd1, hd16, hd66⟩ := hD
      refine hpG ?_
      clear hpG pG
      clear N3 hR hl4 hI4 off hl hl6 F4 N5
      (try dsimp only at F3 N4 ⊢)
      k_steps
      refine Blk.out ?_
      rename Fr h₀ L _ _ => F6
      rename News h₀ L _ _ => N6
      have hw4 : (wordsL xs).length = 4 := by unfold wordsL; rw [List.length_map]; exact argL_len xs
      have hw40 : ∀ y ∈ wordsL xs, cl y ∈ N40 := fun y hy => by obtain ⟨x, _, rfl⟩ := List.mem_map.mp hy; exact name_in x
      have hw3 : ∀ y ∈ wordsL xs, y.length ≤ 3 := fun y hy => by obtain ⟨x, _, rfl⟩ := List.mem_map.mp hy; exact nameS_len x
      generalize wordsL xs = ww at hys hw4 hw40 hw3
      rename StrsAre ys (List.map _ _) => z1
      clear z1
      rename IntsAre _ (List.take 4 xs) => z1
      clear z1
      rename ((List.take 4 xs).length = _) => z1
      rename ((List.take 4 xs).length ≤ _) => z2
      clear z1 z2
      rename (_ ∧ _ ∧ _ ∧ _ ∧ _ ∧ _ ∧ _ ∧ _) => z1
      clear z1
      rename (_ ∧ _ ∧ _ ∧ _ ∧ _ ∧ _) => z1
      clear z1
      rename (_ ∧ _ ∧ _ ∧ _ ∧ _) => z1
      clear z1
      rename (_ = Data.cell (some (.ref D))) => dw
      clear hI hc lifted q1
      rename_i cw
      (try (with_reducible refine Blk.out ?_))
      clear mk200 mk201 mk202 mk203 mk204
      have mk200 : Mk 200 := trivial; have mk201 : Mk 201 := trivial; have mk202 : Mk 202 := trivial; have mk204 : Mk 204 := trivial; have mk205 : Mk 205 := trivial
      refine wpAny_execs_cons ?_
      k_steps
      refine Blk.out ?_
      refine ListComp_C (h₀ := h₀) (L := L) (m := kstB (fun _ => none) [(Str.ofString "script", .ref ax)]) (by with_unfolding_all rfl) (fun _ _ => rfl) (fun _ => rfl) rfl (by decide) (fun _ _ => rfl) ?_
      k_steps
      refine Blk.out ?_
      have hyl := hys.length
      refine CSrc.ledger (fun i ys' nw => ∃ rl, nw = [(D, LCg.lst ys), (L + 1 + 1 + 1, c3), (L + 1 + 1, c2), (L + 1, cw), (16, tabObj #[]), (66, tabObj #[])] ++ rl ∧ ys'.length = i ∧ (∀ p ∈ rl, Far L p.1) ∧ RowsAt (rowL ww) ys' rl) (by rfl) F6 N6 (.head _) (by rw [List.size_toArray, PySem.sizeLine_eq]; lia  ) ⟨[], rfl, rfl, by simp, fun j hj => absurd hj (by simp)⟩ ?_ ?_
      · intro g2 i v I oI C oC D' X oX ys' nw h tk E' hi hv hJ0
        refine gh fun pG hpG => ?_
        obtain ⟨rl, rfl, hl', hfar, hra⟩ := hJ0
        refine hpG ?_
        clear hpG pG
        intro hoX F3 N3 off offX
        refine gh fun pG hpG => ?_
        obtain ⟨hi2, tv, rfl⟩ := str_at hys i v (by simpa using hv)
        refine hpG ?_
        clear hpG pG
        have hm1 : ww.getD i ⟨#[]⟩ ∈ ww := by rw [List.getD, List.getElem?_eq_getElem hi2]; exact List.getElem_mem hi2
        have hx3 := hw3 _ hm1
        clear F6 N6
        refine wpAny_tests_nil ?_
        rw [if_pos rfl]
        (try dsimp only [List.cons_append, List.nil_append] at F3 N3 ⊢)
        k_steps
        refine Blk.out ?_
        refine LCg.ListComp_U (F₀ := F3) (by with_unfolding_all rfl) (by decide) (by rfl) (by decide) (by rfl) ?_
        k_steps
        refine Blk.out ?_
        refine LCg.CompSrc.ledger (by rfl) F3 N3 (.tail _ (.tail _ (.tail _ (.tail _ (.head _))))) (by rw [List.size_toArray, PySem.sizeLine_eq]; lia  ) ?_
        intro g3
        refine rest_gen (fun k v => ∃ t, v = .int (dst ww i k) t) ?_ ?_
        · intro k v I2 oI2 C2 oC2 D4 m₂ zs h tk E' hk hv2 hC hx F4 N4 off2 ne
          clear F3 N3
          refine gh fun pG hpG => ?_
          obtain ⟨hk2, tv2, rfl⟩ := str_at hys k v (by simpa using hv2)
          refine hpG ?_
          clear hpG pG
          have hm2 : ww.getD k ⟨#[]⟩ ∈ ww := by rw [List.getD, List.getElem?_eq_getElem hk2]; exact List.getElem_mem hk2
          have hy3 := hw3 _ hm2
          have hdd := (metric (hw40 _ hm1) (hw40 _ hm2)).1.1
          (try dsimp only at hx F4 N4 ⊢)
          k_steps
          refine Blk.out ?_
          with_unfolding_all refine' lev_call ?k1 ?k2 ?k3 ?k4 ?k5 ?kK ?kx ?ky ?kd ?ku ?_
          case k1 => k_asm
          case k2 => k_asm
          case k3 => k_asm
          case k4 => k_asm
          case k5 => k_asm
          case kK => first | exact rfl | assumption
          case kx => first | assumption | lia | decide | exact (by decide : (1 : Nat) ≤ 64)
          case ky => first | assumption | lia | decide
          case kd => first | ktr_room | decide | lia
          case ku => first | ktr_units | decide | lia
          intro t9 h9 tk9 F9 N9
          (try dsimp only)
          k_steps
          rename Fr h₀ L _ _ => F5
          rename News h₀ L _ _ => N5
          exact LCg.CompEnd.intro F5 N5 _ (fun _ h => h) off2 (.inr ⟨_, by k_mem, rfl, _, rfl⟩) ⟨rfl, _, congrArg (fun z => Value.int z _) hdd⟩
        · intro zs hl hR D4 h tk F4 N4 off2
          have hz : IntsAre zs (rowL ww i) := ints_of0 (by rw [hl, List.size_toArray]; lia  ) hR
          have hD := off1_mem _ off2
          have hG := grow_led (oG := LCg.lst zs) off offX hD
          exact LCg.CompEnd.intro F4 N4 ((X, oX) :: ([(D, LCg.lst ys), (L + 1 + 1 + 1, c3), (L + 1 + 1, c2), (L + 1, cw), (16, tabObj #[]), (66, tabObj #[])] ++ (D4, LCg.lst zs) :: rl)) hG.1 hG.2.1 (.inr ⟨_, by k_mem, rfl, _, rfl⟩) ⟨_, rfl, hG.2.2, _, rfl, by rw [List.length_append, hl']; rfl,
            List.forall_mem_cons.mpr ⟨⟨hD (16, tabObj #[]) (by k_mem), hD (L + 1 + 1, c2) (by k_mem), hD (L + 1 + 1 + 1, c3) (by k_mem)⟩, hfar⟩, rows_snoc hl' hra hz⟩
      · intro ys' nw hJ0
        refine gh fun pG hpG => ?_
        obtain ⟨rl, rfl, hl', hfar, hra⟩ := hJ0
        refine hpG ?_
        clear hpG pG
        intro T h tk F3 N3 off
        clear F6 N6
        have hT := all_conj (l' := [(D, LCg.lst ys), (L + 1 + 1 + 1, c3), (L + 1 + 1, c2), (L + 1, cw), (16, tabObj #[]), (66, tabObj #[])]) off (fun p hp => List.mem_append_left _ hp)
        have hTr : ∀ p ∈ rl, Dif p.1 T := fun p hp => off p (List.mem_append_right _ hp)
        simp only [List.forall_mem_cons, List.not_mem_nil, false_imp_iff, implies_true, and_true] at hT
        refine gh fun pG hpG => ?_
        obtain ⟨g0, g3, g2', g1, g16, g66⟩ := hT
        refine hpG ?_
        clear hpG pG
        clear off
        have hf2 : ∀ p ∈ rl, p.1 ≠ L + 1 + 1 := fun p hp => (hfar p hp).2.1.symm
        (try dsimp only [List.cons_append, List.nil_append] at F3 N3 ⊢)
        k_steps
        refine Blk.out ?_
        rename Fr h₀ L _ _ => F7
        rename News h₀ L _ _ => N7
        have hl4 : ys'.length = 4 := by rw [hl', List.size_toArray]; lia  
        clear hl'
        rename (_ = Data.cell (some (.ref T))) => dt
        rename_i ct
        (try (with_reducible refine Blk.out ?_))
        clear mk200 mk201 mk202 mk204 mk205
        have mk201 : Mk 201 := trivial; have mk203 : Mk 203 := trivial; have mk206 : Mk 206 := trivial; have mk207 : Mk 207 := trivial; have mk208 : Mk 208 := trivial; have mk209 : Mk 209 := trivial
        refine wpAny_execs_cons ?_
        refine wpAny_For ?_
        k_steps
        refine Blk.out ?_
        rename IsRange _ _ _ _ _ _ _ _ => hr
        rename Fr h₀ L _ _ => F8
        rename News h₀ L _ _ => N8
        have F9 := fr_to F8 (mJK_0 _ rfl rfl)
        clear F8
        obtain ⟨LED, hLED⟩ : ∃ LED, LED = (T, LCg.lst ys') :: (D, LCg.lst ys) :: (L + 1 + 1 + 1, c3) :: (L + 1 + 1, ct) :: (L + 1, cw) :: (16, tabObj #[]) :: (66, tabObj #[]) :: rl := ⟨_, rfl⟩
        have N8' : News h₀ L _ LED := hLED ▸ N8
        refine for_rangeQ (n := 4) (fun i m led => led = LED ∧ ∃ uj uk, m = mJK (kstB (fun x => none) [(Str.ofString "script", Value.ref ax)]) uj uk) rfl hr rfl (by decide) F9 N8' ⟨rfl, _, _, rfl⟩ (fun _ _ => rfl) ?turn ?done
        case turn =>
          intro i t m led h tk I oI E' QT hi hJ0
          refine gh fun pG hpG => ?_
          obtain ⟨rfl, uj, uk, rfl⟩ := hJ0
          refine hpG ?_
          clear hpG pG
          intro F3 N3 off hQT
          subst hLED
          clear F9 N8 N8' hr
          (try dsimp only at F3 N3 ⊢)
          k_steps
          refine Blk.out ?_
          rename Fr h₀ L _ _ => F4
          have F5 := fr_to F4 (mJK_j _ _ _ _)
          clear F4
          have hi' : i ≤ 4000 := by lia  
          refine wpAny_For ?_
          k_steps
          refine Blk.out ?_
          rename IsRange _ _ _ _ _ _ _ _ => hr
          rename Fr h₀ L _ _ => F6
          rename News h₀ L _ _ => N6
          obtain ⟨LED, hLED⟩ : ∃ LED, LED = (I, oI) :: (T, LCg.lst ys') :: (D, LCg.lst ys) :: (L + 1 + 1 + 1, c3) :: (L + 1 + 1, ct) :: (L + 1, cw) :: (16, tabObj #[]) :: (66, tabObj #[]) :: rl := ⟨_, rfl⟩
          have N7 : News h₀ L _ LED := hLED ▸ N6
          refine gh fun pG hpG => ?_
          obtain ⟨Rj, zj, ej, mj, ij⟩ := hra i (by lia  )
          refine hpG ?_
          clear hpG pG
          have hzj : zj.length = 4 := by rw [ij.length]; exact rowD_len _ _
          refine for_rangeQ (n := i + 1) (fun k m led => led = LED ∧ ∃ uk, m = mJK (kstB (fun x => none) [(Str.ofString "script", Value.ref ax)]) (some (.int (i : Int) t)) uk) rfl hr (by lia  ) (by lia  ) F6 N7 ⟨rfl, _, rfl⟩ (fun _ _ => rfl) ?turn2 ?done2
          case turn2 =>
            intro k t2 m led h tk I2 oI2 E' QT2 hk hJ0
            refine gh fun pG hpG => ?_
            obtain ⟨rfl, uk, rfl⟩ := hJ0
            refine hpG ?_
            clear hpG pG
            intro F7 N7 off2 hQT2
            subst hLED
            clear F6 N6 hr
            refine gh fun pG hpG => ?_
            obtain ⟨Rk, zk, ek, mk, ik⟩ := hra k (by lia  )
            refine hpG ?_
            clear hpG pG
            have hzk : zk.length = 4 := by rw [ik.length]; exact rowD_len _ _
            have hz3 : (rowL ww i).length = 4 := by exact rowD_len _ _
            have hz4 : (rowL ww k).length = 4 := by exact rowD_len _ _
            obtain ⟨t3, e3⟩ := int_get ij (k := k) (by lia  )
            obtain ⟨t4, e4⟩ := int_get ik (k := i) (by lia  )
            obtain ⟨t5, w1⟩ := str_get hys (k := i) (by lia  )
            obtain ⟨t6, w2⟩ := str_get hys (k := k) (by lia  )
            rw [rowL_at ww _ (by lia  )] at e3 e4
            refine gh fun pG hpG => ?_
            obtain ⟨hsy, hzero, hcost, hlx, hly⟩ := dst_facts (i := i) (k := k) hw40 hw3 (by lia  ) (by lia  )
            refine hpG ?_
            clear hpG pG
            rw [hsy] at e4
            clear hsy hz3 hz4 ik
            generalize dst ww i k = dd at e3 e4 hzero hcost
            generalize ww.getD i ⟨#[]⟩ = x at w1 hzero hcost hlx
            generalize ww.getD k ⟨#[]⟩ = y at w2 hzero hcost hly
            (try dsimp only at F7 N7 ⊢)
            k_steps
            refine Blk.out ?_
            rename Fr h₀ L _ _ => F8
            rename News h₀ L _ _ => N8
            refine item_T N8 (by k_mem) ej (by lia  ) ?_ (by with_unfolding_all rfl)
            k_steps
            refine Blk.out ?_
            refine item_T N8 (.tail _ (.tail _ (.tail _ (.tail _ (.tail _ (.tail _ (.tail _ (.tail _ (.tail _ mj))))))))) e3 (by lia  ) ?_ (by with_unfolding_all rfl)
            k_steps
            refine Blk.out ?_
            refine item_T N8 (by k_mem) ek (by lia  ) ?_ (by with_unfolding_all rfl)
            k_steps
            refine Blk.out ?_
            refine item_T N8 (.tail _ (.tail _ (.tail _ (.tail _ (.tail _ (.tail _ (.tail _ (.tail _ (.tail _ mk))))))))) e4 (by lia  ) ?_ (by with_unfolding_all rfl)
            k_steps
            · exact absurd rfl (by assumption)
            refine Blk.out ?_
            refine item_T N8 (by k_mem) ej (by lia  ) ?_ (by with_unfolding_all rfl)
            k_steps
            refine Blk.out ?_
            refine item_T N8 (.tail _ (.tail _ (.tail _ (.tail _ (.tail _ (.tail _ (.tail _ (.tail _ (.tail _ mj))))))))) e3 (by lia  ) ?_ (by with_unfolding_all rfl)
            k_steps
            refine Blk.out ?_
            refine item_T N8 (by k_mem) w1 (by lia  ) ?_ (by with_unfolding_all rfl)
            k_steps
            refine Blk.out ?_
            refine item_T N8 (by k_mem) w2 (by lia  ) ?_ (by with_unfolding_all rfl)
            k_steps
            · exact absurd (by assumption) (zero_ne hzero)
            ·
              refine Blk.out ?_
              refine item_T N8 (by k_mem) ej (by lia  ) ?_ (by with_unfolding_all rfl)
              k_steps
              refine Blk.out ?_
              refine item_T N8 (.tail _ (.tail _ (.tail _ (.tail _ (.tail _ (.tail _ (.tail _ (.tail _ (.tail _ mj))))))))) e3 (by lia  ) ?_ (by with_unfolding_all rfl)
              k_steps
              refine Blk.out ?_
              refine item_T N8 (by k_mem) w1 (by lia  ) ?_ (by with_unfolding_all rfl)
              k_steps
              refine Blk.out ?_
              refine item_T N8 (by k_mem) w2 (by lia  ) ?_ (by with_unfolding_all rfl)
              k_steps
              refine Blk.out ?_
              with_unfolding_all refine' cost_call ?k1 ?k2 ?k3 ?k4 ?k5 ?kK ?kx ?ky ?kd ?ku ?_
              case k1 => k_asm
              case k2 => k_asm
              case k3 => k_asm
              case k4 => k_asm
              case k5 => k_asm
              case kK => first | exact rfl | assumption
              case kx => first | assumption | lia | decide | exact (by decide : (1 : Nat) ≤ 64)
              case ky => first | assumption | lia | decide
              case kd => first | ktr_room | decide | lia
              case ku => first | ktr_units | decide | lia
              intro t9 h9 tk9 F9 N9
              (try dsimp only)
              k_steps
              · exact absurd hcost.symm (by assumption)
              · exact hQT2 _ _ _ _ (by assumption) (by assumption) off2 ⟨rfl, _, mJK_k _ _ _ _⟩
            · exact hQT2 _ _ _ _ (by assumption) (by assumption) off2 ⟨rfl, _, mJK_k _ _ _ _⟩
          case done2 =>
            intro m led h tk hJ0
            refine gh fun pG hpG => ?_
            obtain ⟨rfl, uk, rfl⟩ := hJ0
            refine hpG ?_
            clear hpG pG
            intro F7 N7
            subst hLED
            clear F6 N6 hr
            (try dsimp only at F7 N7 ⊢)
            k_steps
            exact hQT _ _ _ _ (by assumption) (by assumption) off ⟨rfl, _, _, rfl⟩
        case done =>
          intro m led h tk hJ0
          refine gh fun pG hpG => ?_
          obtain ⟨rfl, uj, uk, rfl⟩ := hJ0
          refine hpG ?_
          clear hpG pG
          intro F7 N7
          subst hLED
          clear F9 N8 N8' hr
          (try dsimp only at F7 N7 ⊢)
          k_steps
          refine Blk.out ?_
          rename Fr h₀ L _ _ => F8
          rename News h₀ L _ _ => N8
          have N9 := news_sub ((T, LCg.lst ys') :: (L + 1 + 1 + 1, c3) :: (L + 1 + 1, ct) :: (16, tabObj #[]) :: (66, tabObj #[]) :: rl) N8 (by
            refine fac (.head _) ?_
            refine fac (.tail _ (.tail _ (.head _))) ?_
            refine fac (.tail _ (.tail _ (.tail _ (.head _)))) ?_
            intro p hp
            exact .tail _ (.tail _ (.tail _ (.tail _ (.tail _ hp)))))
          have hdm := dist_met hw40 hw4
          have hra' : RowsAt (rowD (dst ww)) ys' rl := hra
          generalize dst ww = d at hdm hra'
          generalize mJK _ uj uk = M at F8
          clear hra hys hw40 hw3 hw4 hyl g0 g1 hd1 hd2 hd3 hd16 hd66 dw q2 N8
          (try (with_reducible refine Blk.out ?_))
          clear mk201 mk203 mk206 mk207 mk208 mk209
          have mk202 : Mk 202 := trivial; have mk203 : Mk 203 := trivial; have mk204 : Mk 204 := trivial; have mk205 : Mk 205 := trivial; have mk208 : Mk 208 := trivial; have mk210 : Mk 210 := trivial
          obtain ⟨LED, hLED⟩ : ∃ LED, LED = (T, LCg.lst ys') :: (L + 1 + 1 + 1, c3) :: (16, tabObj #[]) :: (66, tabObj #[]) :: rl := ⟨_, rfl⟩
          have N10 : News h₀ L h ((L + 1 + 1, ct) :: LED) := news_sub _ N9 (by
            subst hLED
            refine fac (.tail _ (.tail _ (.head _))) ?_
            refine fac (.head _) ?_
            refine fac (.tail _ (.head _)) ?_
            intro p hp
            exact .tail _ (.tail _ (.tail _ hp)))
          have hT : (T, LCg.lst ys') ∈ LED := hLED ▸ .head _
          have hT3 : (L + 1 + 1 + 1, c3) ∈ LED := hLED ▸ .tail _ (.head _)
          have hT16 : (16, tabObj #[]) ∈ LED := hLED ▸ .tail _ (.tail _ (.head _))
          have hR : ∀ p ∈ rl, p ∈ LED := fun p hp => hLED ▸ .tail _ (.tail _ (.tail _ (.tail _ hp)))
          clear N9
          refine Assign_ListComp_C (h₀ := h₀) (L := L) (m := M) rfl (by with_unfolding_all rfl) (by with_unfolding_all rfl) (fun _ _ => rfl) (fun _ => rfl) rfl (by decide) (fun _ _ => rfl) (by rfl) (by rfl) ?_
          k_steps
          refine Blk.out ?_
          rename IsRange _ _ _ _ _ _ _ _ => hr
          rename Fr h₀ L _ _ => F9
          rename News h₀ L _ _ => N9
          refine CSrc.range (n := 4) (fun i ys' nw => ∃ rl2, nw = [(L + 1 + 1, ct)] ++ (rl2 ++ LED) ∧ ys'.length = i ∧ (∀ p ∈ rl2, Far L p.1) ∧ RowsAt (rowD d) ys' rl2) (by rfl) F9 (news_sub ([(L + 1 + 1, ct)] ++ ([] ++ LED)) N9 (fun p hp => hp)) hr rfl rfl (by rw [PySem.sizeLine_eq]; decide) ⟨[], rfl, rfl, fun p hp => absurd hp List.not_mem_nil, fun j hj => absurd hj (by simp)⟩ ?_ ?_
          · rintro g2 i v I oI C oC D' X oX zs nw h tk E' hi ⟨t, rfl⟩ hJ0
            refine gh fun pG hpG => ?_
            obtain ⟨rl2, rfl, hl', hfar2, hra2⟩ := hJ0
            refine hpG ?_
            clear hpG pG
            intro hoX F3 N3 off offX
            clear F9 N9 hr
            refine wpAny_tests_nil ?_
            rw [if_pos rfl]
            rw [Int.zero_add] at hoX
            (try dsimp only [List.cons_append, List.nil_append] at F3 N3 ⊢)
            k_steps
            refine Blk.out ?_
            refine wp_hide fun Q8 hQ8 => ?_
            obtain ⟨LE1, hLE1⟩ : ∃ LE1, LE1 = (I, oI) :: (C, oC) :: (D', LCg.lst zs) :: (rl2 ++ LED) := ⟨_, rfl⟩
            have hT1 : (T, LCg.lst ys') ∈ LE1 := hLE1 ▸ .tail _ (.tail _ (.tail _ (List.mem_append_right _ hT)))
            have hR1 : ∀ p ∈ rl, p ∈ LE1 := fun p hp => hLE1 ▸ .tail _ (.tail _ (.tail _ (List.mem_append_right _ (hR p hp))))
            have N4 : News h₀ L h ((X, oX) :: (L + 1 + 1, ct) :: LE1) := news_sub _ N3 (fun p hp => rotA (hLE1 ▸ hp))
            clear N3
            refine ListComp_C (h₀ := h₀) (L := L) (m := M) (by with_unfolding_all rfl) (fun _ _ => rfl) (fun _ => rfl) rfl (by decide) (fun _ _ => rfl) ?_
            k_steps
            refine Blk.out ?_
            rename IsRange _ _ _ _ _ _ _ _ => hr
            rename Fr h₀ L _ _ => F9
            rename News h₀ L _ _ => N9
            refine CSrc.range (n := 4) (fun k xs nw => nw = (X, oX) :: (L + 1 + 1, ct) :: LE1 ∧ IntsAre xs ((List.range k).map (d i))) (by rfl) F9 N9 hr rfl rfl (by rw [PySem.sizeLine_eq]; decide) ⟨rfl, .nil⟩ ?_ ?_
            · rintro g2 k v I2 oI2 C2 oC2 D4 X2 oX2 xs nw h tk E' hk ⟨t2, rfl⟩ ⟨rfl, hxs⟩ hoX2 F3 N3 off' offX'
              clear F9 N9 hr
              refine wpAny_tests_nil ?_
              rw [if_pos rfl]
              rw [Int.zero_add] at hoX2
              refine wp_hide fun Q9 hQ9 => ?_
              (try dsimp only at F3 N3 ⊢)
              k_steps
              refine Blk.out ?_
              refine LCg.ListComp_U (F₀ := by k_asm) (by with_unfolding_all rfl) (by decide) (by rfl) (by decide) (by rfl) ?_
              k_steps
              refine Blk.out ?_
              rename IsRange _ _ _ _ _ _ _ _ => hr
              rename Fr h₀ L _ M => F5
              rename News h₀ L _ _ => N5
              refine LCg.CompSrc.range (n := 4) (by rfl) F5 N5 hr rfl rfl (by rw [PySem.sizeLine_eq]; decide) ?_
              intro g3
              skip
              refine rest_gen (fun q v => ∃ t, v = .int (d i q + d q k) t) ?_ ?_
              · rintro q v I3 oI3 C3 oC3 D6 m₂ ws h tk E' hq ⟨t3, rfl⟩ hC hx F4 N4 off3 ne
                clear F5 N5 hr
                rw [Int.zero_add] at hx
                refine gh fun pG hpG => ?_
                obtain ⟨Rj, zj, ej, mj, ij⟩ := hra' i (by lia  )
                refine hpG ?_
                clear hpG pG
                refine gh fun pG hpG => ?_
                obtain ⟨Rq, zq, eq, mq, iq⟩ := hra' q (by lia  )
                refine hpG ?_
                clear hpG pG
                have hzj : zj.length = 4 := by rw [ij.length]; exact rowD_len _ _
                have hzq : zq.length = 4 := by rw [iq.length]; exact rowD_len _ _
                obtain ⟨t5, e5⟩ := int_get ij (k := q) (by rw [rowD_len]; exact hq)
                obtain ⟨t6, e6⟩ := int_get iq (k := k) (by rw [rowD_len]; exact hk)
                rw [rowD_at _ _ hq] at e5
                rw [rowD_at _ _ hk] at e6
                refine wp_hide fun Q7 hQ7 => ?_
                (try dsimp only at hx F4 N4 ⊢)
                k_steps
                refine Blk.out ?_
                refine item_T N4 (.tail _ (.tail _ (.tail _ (.tail _ (.tail _ (.tail _ (.tail _ (.tail _ (.tail _ hT1))))))))) ej (by lia  ) ?_ (by with_unfolding_all rfl)
                k_steps
                refine Blk.out ?_
                refine item_T N4 (.tail _ (.tail _ (.tail _ (.tail _ (.tail _ (.tail _ (.tail _ (.tail _ (.tail _ (hR1 _ mj)))))))))) e5 (by lia  ) ?_ (by with_unfolding_all rfl)
                k_steps
                refine Blk.out ?_
                refine item_T N4 (.tail _ (.tail _ (.tail _ (.tail _ (.tail _ (.tail _ (.tail _ (.tail _ (.tail _ hT1))))))))) eq (by lia  ) ?_ (by with_unfolding_all rfl)
                k_steps
                refine Blk.out ?_
                refine item_T N4 (.tail _ (.tail _ (.tail _ (.tail _ (.tail _ (.tail _ (.tail _ (.tail _ (.tail _ (hR1 _ mq)))))))))) e6 (by lia  ) ?_ (by with_unfolding_all rfl)
                k_steps
                rename Fr h₀ L _ M => F5
                rename News h₀ L _ _ => N5
                exact hQ7 _ _ (LCg.CompEnd.intro F5 N5 _ (fun _ h => h) off3 trivial ⟨rfl, _, rfl⟩)
              · intro ws hwl hR6 D6 h tk F4 N4 off6
                have hws : IntsAre ws ((List.range 4).map fun q => d i q + d q k) := ints_of0 hwl hR6
                clear F5 N5 hr
                (try dsimp only at F4 N4 ⊢)
                k_steps
                with_unfolding_all refine' red_min ?k1 F4 ?k3 N4 ?k5 ?kK ?kd ?ku (.head _) hws (by simp) ?_
                case k1 => k_asm
                case k3 => k_asm
                case k5 => k_asm
                case kK => exact rfl
                case kd => first | ktr_room | decide
                case ku => first | ktr_units | decide
                intro z tz h9 tk9 hz F9 N9
                obtain rfl := sq_min hdm hi hk hz
                clear F4 N4
                (try dsimp only at F9 N9 ⊢)
                k_steps
                rename Fr h₀ L _ M => F5
                rename News h₀ L _ _ => N5
                rename IntsAre xs _ => hxs
                exact hQ9 _ _ (LCg.CompEnd.intro F5 N5 ((X2, oX2) :: (X, oX) :: (L + 1 + 1, ct) :: LE1) (fun p hp => .tail _ hp) off' trivial ⟨_, rfl, offX', rfl, ints_range_snoc hxs⟩)
            · rintro xs nw ⟨rfl, hxs⟩ D5 h tk F4 N4 off5
              clear F9 N9 hr
              have hG := grow_led (oG := LCg.lst xs) off offX (G := D5) (fun p hp => off5 p (hLE1 ▸ rotB hp))
              refine hQ8 _ _ (LCg.CompEnd.intro F4 N4 ((X, oX) :: ([(L + 1 + 1, ct)] ++ (D5, LCg.lst xs) :: (rl2 ++ LED))) (fun p hp => ?_) hG.2.1 trivial ⟨_, rfl, hG.2.2, (D5, LCg.lst xs) :: rl2, rfl, by rw [List.length_append, hl']; rfl, List.forall_mem_cons.mpr ⟨far_of (fun p hp => off5 p (hLE1 ▸ hp)) hT16 hT3, hfar2⟩, rows_snoc hl' hra2 hxs⟩)
              rcases List.mem_cons.mp (hG.1 p hp) with rfl | hp
              · exact .head _
              · exact .tail _ (hLE1 ▸ rotB hp)
          · intro zs nw hJ0
            refine gh fun pG hpG => ?_
            obtain ⟨rl2, rfl, hl', hfar2, hra2⟩ := hJ0
            refine hpG ?_
            clear hpG pG
            intro S h tk F4 N4 off5
            clear F9 N9 hr
            (try dsimp only [List.cons_append, List.nil_append] at F4 N4 ⊢)
            k_steps
            all_goals (try refine Blk.out ?_)
            rename Fr h₀ L _ _ => F5
            rename News h₀ L _ _ => N5
            obtain ⟨rr, hrr⟩ : ∃ rr, rr = rl2 ++ rl := ⟨_, rfl⟩
            have N6 : News h₀ L h ((S, LCg.lst zs) :: (T, LCg.lst ys') :: (L + 1 + 1 + 1, c3) :: (L + 1 + 1, ct) :: (16, tabObj #[]) :: (66, tabObj #[]) :: rr) := news_sub _ N5 (by
              subst hrr
              refine fac (.head _) ?_
              refine fac (.tail _ (.tail _ (List.mem_append_right _ hT))) ?_
              refine fac (.tail _ (.tail _ (List.mem_append_right _ hT3))) ?_
              refine fac (.tail _ (.head _)) ?_
              refine fac (.tail _ (.tail _ (List.mem_append_right _ hT16))) ?_
              refine fac (.tail _ (.tail _ (List.mem_append_right _ (hLED ▸ .tail _ (.tail _ (.tail _ (.head _))))))) ?_
              intro p hp
              rcases List.mem_append.mp hp with hp | hp
              · exact .tail _ (.tail _ (List.mem_append_left _ hp))
              · exact .tail _ (.tail _ (List.mem_append_right _ (hR _ hp))))
            have off6 : ∀ p ∈ (L + 1 + 1, ct) :: (rl2 ++ LED), Dif p.1 S := off5
            have gS : Far L S := ⟨off6 (16, tabObj #[]) (.tail _ (List.mem_append_right _ hT16)), off6 (L + 1 + 1, ct) (.head _), off6 (L + 1 + 1 + 1, c3) (.tail _ (List.mem_append_right _ hT3))⟩
            have gT : Far L T := ⟨g16, g2', g3⟩
            have hfr : ∀ p ∈ rr, Far L p.1 := fun p hp => by
              rcases List.mem_append.mp (hrr ▸ hp) with hp | hp
              · exact hfar2 p hp
              · exact hfar p hp
            have hrS := hra2.mono (rr := rr) fun p hp => hrr ▸ List.mem_append_left _ hp
            have hrT := hra'.mono (rr := rr) fun p hp => hrr ▸ List.mem_append_right _ hp
            clear hrr hT hR hT3 hT16 hLED off5 off6 hra2 hra' hfar2 hfar N5 g3 g2' g16 g66 hTr hf2
            (try (with_reducible refine Blk.out ?_))
            clear mk202 mk203 mk204 mk205 mk208 mk210
            have mk200 : Mk 200 := trivial; have mk203 : Mk 203 := trivial; have mk211 : Mk 211 := trivial; have mk212 : Mk 212 := trivial; have mk213 : Mk 213 := trivial
            obtain ⟨M2, hM2⟩ : ∃ M2, M2 = (fun z => if z = Str.ofString "square" then some (Value.ref S) else M z) := ⟨_, rfl⟩
            rw [← hM2] at F5
            obtain ⟨LED, hLED⟩ : ∃ LED, LED = (S, LCg.lst zs) :: (T, LCg.lst ys') :: (L + 1 + 1 + 1, c3) :: (16, tabObj #[]) :: (66, tabObj #[]) :: rr := ⟨_, rfl⟩
            have N7 : News h₀ L h ((L + 1 + 1, ct) :: ([] ++ LED)) := news_sub _ N6 (by
              subst hLED
              refine fac (.tail _ (.tail _ (.tail _ (.head _)))) ?_
              refine fac (.head _) ?_
              refine fac (.tail _ (.head _)) ?_
              refine fac (.tail _ (.tail _ (.head _))) ?_
              intro p hp
              exact .tail _ (.tail _ (.tail _ (.tail _ hp))))
            have hT : (T, LCg.lst ys') ∈ LED := hLED ▸ .tail _ (.head _)
            have hT3 : (L + 1 + 1 + 1, c3) ∈ LED := hLED ▸ .tail _ (.tail _ (.head _))
            have hR : ∀ p ∈ rr, p ∈ LED := fun p hp => hLED ▸ .tail _ (.tail _ (.tail _ (.tail _ (.tail _ hp))))
            clear N6
            refine Assign_ListComp_2 (h₀ := h₀) (L := L) (m := M2) (n := 4) (J := JP L (cOf d) ct LED) rfl (by with_unfolding_all rfl) (by with_unfolding_all rfl) (by decide) (by rfl) (by rfl) (by rfl) (by decide) (by decide) (by rfl) (by rfl) JP.len JP.next (by decide) ?src
            case src =>
              k_steps
              refine Blk.out ?_
              rename IsRange _ _ _ _ _ _ _ _ => hr
              rename Fr h₀ L _ _ => F6
              rename News h₀ L _ _ => N6
              refine .mk _ _ _ _ _ _ rfl F6 N6 hr ⟨[], rfl, rfl, .inl ⟨by decide, by decide⟩, fun p hp => absurd hp List.not_mem_nil, fun j hj => absurd hj (by simp)⟩ ?_ ?_ ?_
              · intro i t I oI C oC D' m' ws nw h tk E' hi hJ hC hx F3 N3
                clear F6 N6 hr
                have hi' : i ≤ 4000 := by lia  
                (try dsimp only at hx F3 N3 ⊢)
                k_steps
                refine Blk.out ?_
                exact .mk _ _ _ _ _ _ (by assumption) (by assumption) (by assumption)
              · intro i q t t2 I oI I2 oI2 C oC D' m' ws nw h tk E' hi hq hJ0
                refine gh fun pG hpG => ?_
                obtain ⟨pl, rfl, hl, hb, hf, hp⟩ := hJ0
                refine hpG ?_
                clear hpG pG
                intro hC hx hy F3 N3 off
                clear F6 N6 hr
                refine gh fun pG hpG => ?_
                obtain ⟨Rj, zj, ej, mj, ij⟩ := hrT i (by lia  )
                refine hpG ?_
                clear hpG pG
                have hzj : zj.length = 4 := by rw [ij.length]; exact rowD_len _ _
                obtain ⟨t5, e5⟩ := int_get ij (k := q) (by rw [rowD_len]; lia  )
                rw [rowD_at _ _ (by lia  )] at e5
                obtain ⟨x1, x2⟩ := tri_ends hi hq
                refine wp_hide fun Q7 hQ7 => ?_
                (try dsimp only at hx hy F3 N3 ⊢)
                k_steps
                refine Blk.out ?_
                refine item_T N3 (.tail _ (.tail _ (.tail _ (.tail _ (.tail _ (List.mem_append_right _ hT)))))) ej (by lia  ) ?_ (by with_unfolding_all rfl)
                k_steps
                refine Blk.out ?_
                refine item_T N3 (.tail _ (.tail _ (.tail _ (.tail _ (.tail _ (List.mem_append_right _ (hR _ mj))))))) e5 (by lia  ) ?_ (by with_unfolding_all rfl)
                k_steps
                rename Fr h₀ L _ _ => F5
                rename News h₀ L _ _ => N5
                rename (_ ∧ _) => l5
                have eO : W.listOf #[Value.int (d i q) t5, Value.int (i : Int) t, Value.int (q : Int) t2] 0 = prO (cOf d) (tri i q) t5 t t2 := by unfold prO cOf; rw [x1, x2]
                rw [eO] at N5
                refine news_name N5 fun P hP => ?_
                subst hP
                have h3P := allLt_mem l5.2.2.2.2.2 _ (List.mem_append_right _ hT3)
                exact hQ7 _ _ (.mk _ _ ((L + 1 + 1, ct) :: (((P, prO (cOf d) (tri i q) t5 t t2) :: pl) ++ LED)) F5 (news_sub _ N5 (fun p hp => mem_mid (l := [(I2, oI2), (I, oI), (C, oC), (D', LCg.lst ws), (L + 1 + 1, ct)]) hp)) (off4_snoc off l5.2.1 l5.1 l5.2.2.1 l5.2.2.2.1)
                  ⟨(P, prO (cOf d) (tri i q) t5 t t2) :: pl, rfl, by rw [List.length_append, hl]; rfl, .inl ⟨hi, hq⟩, List.forall_mem_cons.mpr ⟨far_lt h3P l0.1, hf⟩, prs_snoc hl hp⟩)
              · intro pv nw hJ0
                refine gh fun pG hpG => ?_
                obtain ⟨pl, rfl, hl, hb, hf, hp⟩ := hJ0
                refine hpG ?_
                clear hpG pG
                intro PS h tk F3 N3 off
                clear F6 N6 hr
                (try dsimp only at F3 N3 ⊢)
                k_steps
                refine Blk.out ?_
                rename Fr h₀ L _ _ => F5
                rename News h₀ L _ _ => N5
                obtain ⟨r3, hr3⟩ : ∃ r3, r3 = pl ++ rr := ⟨_, rfl⟩
                have N6 : News h₀ L h ((PS, LCg.lst pv) :: (S, LCg.lst zs) :: (T, LCg.lst ys') :: (L + 1 + 1 + 1, c3) :: (L + 1 + 1, ct) :: (16, tabObj #[]) :: (66, tabObj #[]) :: r3) := news_sub _ N5 (by
                  subst hr3 hLED
                  refine fac (.head _) ?_
                  refine fac (.tail _ (.tail _ (List.mem_append_right _ (.head _)))) ?_
                  refine fac (.tail _ (.tail _ (List.mem_append_right _ (.tail _ (.head _))))) ?_
                  refine fac (.tail _ (.tail _ (List.mem_append_right _ hT3))) ?_
                  refine fac (.tail _ (.head _)) ?_
                  refine fac (.tail _ (.tail _ (List.mem_append_right _ (.tail _ (.tail _ (.tail _ (.head _))))))) ?_
                  refine fac (.tail _ (.tail _ (List.mem_append_right _ (.tail _ (.tail _ (.tail _ (.tail _ (.head _)))))))) ?_
                  intro p hp
                  rcases List.mem_append.mp hp with hp | hp
                  · exact .tail _ (.tail _ (List.mem_append_left _ hp))
                  · exact .tail _ (.tail _ (List.mem_append_right _ (hR _ hp))))
                have h16 : (16, tabObj #[]) ∈ LED := hLED ▸ .tail _ (.tail _ (.tail _ (.head _)))
                have gP : Far L PS := ⟨off (16, tabObj #[]) (.tail _ (List.mem_append_right _ h16)), off (L + 1 + 1, ct) (.head _), off (L + 1 + 1 + 1, c3) (.tail _ (List.mem_append_right _ hT3))⟩
                have hf3 : ∀ p ∈ r3, Far L p.1 := fun p hp => by
                  rcases List.mem_append.mp (hr3 ▸ hp) with hp | hp
                  · exact hf p hp
                  · exact hfr p hp
                have hpp : PrsAt (cOf d) pv r3 := fun j hj => by
                  refine gh fun pG hpG => ?_
                  obtain ⟨P, a, b, c, e1, e2⟩ := hp j hj
                  refine hpG ?_
                  clear hpG pG
                  exact ⟨P, a, b, c, e1, hr3 ▸ List.mem_append_left _ e2⟩
                have hS3 := hrS.mono (rr := r3) fun p hp => hr3 ▸ List.mem_append_right _ hp
                have hT3' := hrT.mono (rr := r3) fun p hp => hr3 ▸ List.mem_append_right _ hp
                have hl6 : pv.length = 6 := hl
                generalize hc : cOf d = cc at hpp
                subst hM2
                clear hr3 hT hT3 h16 hR hLED off hp hf hfr hrS hrT hl hb N5 hdm
                (try (with_reducible refine Blk.out ?_))
                clear mk200 mk203 mk211 mk212 mk213
                have mk200 : Mk 200 := trivial; have mk201 : Mk 201 := trivial; have mk214 : Mk 214 := trivial
                have m66 : (66, tabObj #[]) ∈ ((PS, LCg.lst pv) :: (S, LCg.lst zs) :: (T, LCg.lst ys') :: (L + 1 + 1 + 1, c3) :: (L + 1 + 1, ct) :: (16, tabObj #[]) :: (66, tabObj #[]) :: r3) := .tail _ (.tail _ (.tail _ (.tail _ (.tail _ (.tail _ (.head _))))))
                have ms : ∀ p ∈ r3, p ∈ ((PS, LCg.lst pv) :: (S, LCg.lst zs) :: (T, LCg.lst ys') :: (L + 1 + 1 + 1, c3) :: (L + 1 + 1, ct) :: (16, tabObj #[]) :: (66, tabObj #[]) :: r3) := fun p hp => .tail _ (.tail _ (.tail _ (.tail _ (.tail _ (.tail _ (.tail _ hp))))))
                have hpp2 := hpp.off N6 m66 ms
                have hS4 := hS3.off N6 m66 ms
                have hT4 := hT3'.off N6 m66 ms
                have eP : Dif PS 66 := lst_ne N6 (.head _) m66
                have eS : Dif S 66 := lst_ne N6 (.tail _ (.head _)) m66
                have eT : Dif T 66 := lst_ne N6 (.tail _ (.tail _ (.head _))) m66
                have e6 : ∀ p ∈ r3.filter (fun p => p.1 != 66), p.1 ≠ 66 := fun p hp => bne_iff_ne.mp (List.mem_filter.mp hp).2
                have hf4 : ∀ p ∈ r3.filter (fun p => p.1 != 66), Far L p.1 := fun p hp => hf3 p ((List.mem_filter.mp hp).1)
                have N7 := news_sub ((PS, LCg.lst pv) :: (S, LCg.lst zs) :: (T, LCg.lst ys') :: (L + 1 + 1 + 1, c3) :: (L + 1 + 1, ct) :: (16, tabObj #[]) :: (66, tabObj #[]) :: r3.filter (fun p => p.1 != 66)) N6 (by
                  refine fac (.head _) ?_
                  refine fac (.tail _ (.head _)) ?_
                  refine fac (.tail _ (.tail _ (.head _))) ?_
                  refine fac (.tail _ (.tail _ (.tail _ (.head _)))) ?_
                  refine fac (.tail _ (.tail _ (.tail _ (.tail _ (.head _))))) ?_
                  refine fac (.tail _ (.tail _ (.tail _ (.tail _ (.tail _ (.head _)))))) ?_
                  refine fac (m66) ?_
                  intro p hp
                  exact ms _ ((List.mem_filter.mp hp).1))
                clear N6 m66 ms hf3 hpp hS3 hT3'
                generalize r3.filter (fun p => p.1 != 66) = r4 at *
                refine gh fun pG hpG => ?_
                obtain ⟨p1, p2, p3⟩ := gP
                refine hpG ?_
                clear hpG pG
                refine gh fun pG hpG => ?_
                obtain ⟨s1', s2, s3⟩ := gS
                refine hpG ?_
                clear hpG pG
                refine gh fun pG hpG => ?_
                obtain ⟨t1, t2, t3⟩ := gT
                refine hpG ?_
                clear hpG pG
                have y1 : Dif (L + 1 + 1) 66 := Nat.ne_of_gt (by lia  )
                have y2 : Dif (L + 1 + 1 + 1) 66 := Nat.ne_of_gt (by lia  )
                have y3 : Dif 16 66 := Nat.ne_of_lt (by decide)
                have y4 : Dif 16 (L + 1 + 1) := Nat.ne_of_lt (by lia  )
                have y5 : Dif 16 (L + 1 + 1 + 1) := Nat.ne_of_lt (by lia  )
                refine wpAny_execs_cons ?_
                k_steps
                refine Blk.out ?_
                rename Fr h₀ L _ _ => F12
                rename News h₀ L _ _ => N12
                rename (_ < _ ∧ _) => lE
                rename (_ < _) => lF
                have y6 : Dif 16 _ := Nat.ne_of_lt lE.2.2.2.2.2.1
                have y7 : Dif 16 _ := Nat.ne_of_lt (Nat.lt_trans lE.2.2.2.2.2.1 lF)
                have e5 : ∀ p ∈ r4, p.1 ≠ 16 := fun p hp => Dif.ne' (hf4 p hp).1
                with_unfolding_all refine' ck_call (own := [(_, _), (_, _), (PS, _), (S, _), (T, _), (L + 1 + 1 + 1, _), (L + 1 + 1, _)]) ?k1 ?k2 ?k3 ?k4 ?k5 ?kK ?kd ?ku ?ko ?kr ?_
                case k1 => k_asm
                case k2 => exact F12
                case k3 => k_asm
                case k4 => exact N12
                case k5 => k_asm
                case kK => exact rfl
                case kd => first | ktr_room | decide
                case ku => first | ktr_units | decide
                case ko => k_all
                case kr => k_all
                intro K9 cell kn oc2 ps h13 tk13 F13 N13 hKL hoc2
                (try dsimp only)
                clear F12 N12
                rename (_ = Data.fields _) => d1
                rename (_[1]? = some _) => d2
                k_steps
                refine Blk.out ?_
                simp only [List.cons_append, List.nil_append] at N13
                with_unfolding_all refine' sorted_L (c := cc) (hKL := hKL) (hoc := hoc2) ?k1 ?k2 ?k3 ?k4 ?k5 ?kK ?kd ?ku ?m1 ?m2 ?m3 ?m4 ?g1 ?g2 ?cmp ?ret
                case k1 => k_asm
                case k2 => exact F13
                case k3 => k_asm
                case k4 => exact N13
                case k5 => k_asm
                case kK => exact rfl
                case kd => first | ktr_room | decide
                case ku => first | ktr_units | decide
                case m1 => exact fun q hq => List.mem_append_left _ hq
                case m2 => exact List.mem_append_right _ (.head _)
                case m3 => exact List.mem_append_right _ (.tail _ (.head _))
                case m4 => exact List.mem_append_right _ (.tail _ (.tail _ (.tail _ (.head _))))
                case g1 => lia  
                case g2 => lia  
                case cmp =>
                  intro led hsub i j vi vj hi hj
                  have up := up_of hsub
                  refine gh fun pG hpG => ?_
                  obtain ⟨P1, a1, a2, a3, ea, ma⟩ := hpp2 i (List.getElem?_eq_some_iff.mp hi).1
                  refine hpG ?_
                  clear hpG pG
                  refine gh fun pG hpG => ?_
                  obtain ⟨P2, b1, b2, b3, eb, mb⟩ := hpp2 j (List.getElem?_eq_some_iff.mp hj).1
                  refine hpG ?_
                  clear hpG pG
                  obtain rfl := Option.some.inj (hi.symm.trans ea)
                  obtain rfl := Option.some.inj (hj.symm.trans eb)
                  exact ⟨⟨rfl, rfl⟩, pair_lam _ _ _ _ (up _ (.head _)) (up _ (.tail _ (.head _))) d1 d2 (up _ (.tail _ (.tail _ (.tail _ (.tail _ (.tail _ (.tail _ (.tail _ (.tail _ (.tail _ ma)))))))))) (up _ (.tail _ (.tail _ (.tail _ (.tail _ (.tail _ (.tail _ (.tail _ (.tail _ (.tail _ mb))))))))))⟩
                case ret =>
                  intro DS h14 tk14 e14 F14 N14 hlt14
                  (try dsimp only at F14 N14 ⊢)
                  obtain ⟨ps2, N15⟩ : ∃ ps2, News h₀ L h14 ((DS, W.listOf (List.toArray ((dueN cc pv.length).map fun i => pv.getD i .none)) e14) :: (PS, LCg.lst pv) :: (S, LCg.lst zs) :: (T, LCg.lst ys') :: (L + 1 + 1 + 1, c3) :: (L + 1 + 1, ct) :: (16, tabObj ps) :: (66, tabObj ps2) :: r4) := ⟨_, news_sub _ N14 (by refine List.forall_mem_cons.mpr ⟨.head _, fun p hp => .tail _ (List.mem_append_right _ (.tail _ (.tail _ (.tail _ hp))))⟩)⟩
                  have v1 : Dif (L + 1 + 1 + 1) DS := Nat.ne_of_lt (hlt14 _ (List.mem_append_right _ (.tail _ (.tail _ (.tail _ (.tail _ (.tail _ (.tail _ (.head _)))))))))
                  clear F13 N13 N14 hlt14 hKL hoc2 d1 d2 lE lF y6 y7
                  (try dsimp only at N15 ⊢)
                  k_steps
                  refine Blk.out ?_
                  rename Fr h₀ L _ _ => F16
                  rename News h₀ L _ _ => N16
                  have v2 := p3
                  have v3 := s3
                  have v4 := t3
                  have v5 : ∀ p ∈ r4, p.1 ≠ (L + 1 + 1 + 1) := fun p hp => Dif.ne' (hf4 p hp).2.2
                  have v6 : Dif (L + 1 + 1 + 1) (L + 1 + 1) := Nat.ne_of_gt (Nat.lt_succ_self _)
                  clear hf4 e5 e6 t1 t2 s2 y1 y3 y4
                  (try (with_reducible refine Blk.out ?_))
                  clear mk200 mk201 mk214
                  have mk200 : Mk 200 := trivial; have mk210 : Mk 210 := trivial; have mk215 : Mk 215 := trivial
                  refine wpAny_execs_cons ?_
                  k_steps
                  refine Blk.out ?_
                  rename Fr h₀ L _ _ => F17
                  rename News h₀ L _ _ => N17
                  with_unfolding_all refine' red_joined (c := cc) (pv := pv) ?k1 F17 ?k3 N17 ?k5 ?kK ?kd ?ku (.tail _ (.tail _ (.head _))) hl6 (fun t ht => ?k7) (.head _) (.tail _ (.head _)) ?_
                  case k1 => k_asm
                  case k3 => k_asm
                  case k5 => k_asm
                  case kK => exact rfl
                  case kd => first | ktr_room | decide
                  case ku => first | ktr_units | decide
                  case k7 =>
                    refine gh fun pG hpG => ?_
                    obtain ⟨P, b1, b2, b3, e1, m1⟩ := hpp2 t ht
                    refine hpG ?_
                    clear hpG pG
                    exact ⟨P, b1, b2, b3, e1, .tail _ (.tail _ (.tail _ (.tail _ (.tail _ (.tail _ (.tail _ (.tail _ (.tail _ (.tail _ m1)))))))))⟩
                  intro S' G' gs z u tu eg nw h15 tk15 hu1 hu2 hgs F18 N18 m1 m2 hdif
                  (try dsimp only at F18 N18 ⊢)
                  have b1 := cel_ne N18 m1 (List.mem_append_right nw (.tail _ (.tail _ (.tail _ (.tail _ (.tail _ (.tail _ (.head _)))))))) q3
                  have b2 := cel_ne N18 m2 (List.mem_append_right nw (.tail _ (.tail _ (.tail _ (.tail _ (.tail _ (.tail _ (.head _)))))))) q3
                  have N19 := news_put N18 m1 (news_put N18 m2 (news_sub ((PS, LCg.lst pv) :: (S, LCg.lst zs) :: (T, LCg.lst ys') :: (L + 1 + 1 + 1, c3) :: (L + 1 + 1, ct) :: (16, tabObj ps) :: (66, tabObj ps2) :: r4) N18 fun p hp => List.mem_append_right nw (.tail _ (.tail _ (.tail _ hp)))))
                  clear F17 N17 N18 m1 m2 hdif
                  k_steps
                  refine Blk.out ?_
                  refine wpAny_assign_Name ?_
                  k_steps
                  refine Blk.out ?_
                  refine wpAny_assign_Name ?_
                  k_steps
                  refine Blk.out ?_
                  rename Fr h₀ L _ _ => F16
                  rename News h₀ L _ _ => N16
                  (try (with_reducible refine Blk.out ?_))
                  clear mk200 mk210 mk215
                  have mk200 : Mk 200 := trivial; have mk202 : Mk 202 := trivial; have mk210 : Mk 210 := trivial; have mk216 : Mk 216 := trivial; have mk217 : Mk 217 := trivial
                  rename Obj => oG
                  refine wpAny_execs_cons ?_
                  k_steps
                  refine Blk.out ?_
                  rename Fr h₀ L _ _ => F17
                  rename News h₀ L _ _ => N17
                  refine' eq_rows (f := rowD d) N17 (N17 _ (.tail _ (.tail _ (.tail _ (.head _))))).1 (N17 _ (.tail _ (.tail _ (.tail _ (.tail _ (.head _)))))).1 (hS4.mono ?i1) (hT4.mono ?i2) ?i3 ?i4 ?i5
                  case i1 => exact fun p hp => .tail _ (.tail _ (.tail _ (.tail _ (.tail _ (.tail _ (.tail _ (.tail _ (.tail _ hp))))))))
                  case i2 => exact fun p hp => .tail _ (.tail _ (.tail _ (.tail _ (.tail _ (.tail _ (.tail _ (.tail _ (.tail _ hp))))))))
                  case i3 => rw [hl', hl4]
                  case i4 => ktr_units
                  k_steps
                  refine Blk.out ?_
                  rename Fr h₀ L _ _ => F18
                  refine' LCt.ListComp_T (F₀ := F18) ?u1 ?u2 ?u3 ?u4 ?u5 ?u6 ?u7
                  case u1 => with_unfolding_all rfl
                  case u2 => decide
                  case u3 => rfl
                  case u4 => decide
                  case u5 => rfl
                  case u7 => intro _; rfl
                  k_steps
                  refine Blk.out ?_
                  rename News h₀ L _ _ => N18
                  rename IntsAre _ _ => hgs
                  have hgl : gs.length = 4 := hgs.length
                  have ez : ∀ k, k < 4 → (zInts [z, z, z, z]).getD k 0 = (z : Int) := by
                    intro k hk
                    match k, hk with
                    | 0, _ => rfl
                    | 1, _ => rfl
                    | 2, _ => rfl
                    | 3, _ => rfl
                  refine' LCt.CompSrcT.ledger ?v1 F18 N18 (.tail _ (.head _)) ?v3 ?v4
                  case v1 => rfl
                  case v3 => rw [List.size_toArray, PySem.sizeLine_eq]; lia  
                  intro g3
                  rw [List.size_toArray]
                  refine' rest_ledT (fun q ys2 nw' => nw' = (S', W.listOf #[.ref G', .int u tu] 0) :: (G', W.listOf (List.toArray gs) eg) :: (PS, LCg.lst pv) :: (S, LCg.lst zs) :: (T, LCg.lst ys') :: (L + 1 + 1 + 1, oG) :: (L + 1 + 1, ct) :: (16, tabObj ps) :: (66, tabObj ps2) :: r4 ∧ ys2 = []) ?x5 ?x6 ?x7
                  case x5 => exact ⟨rfl, rfl⟩
                  case x6 =>
                    rintro q v I5 oI5 C5 oC5 D5 m₂ ys2 nw' h tk E5 hq hv5 ⟨rfl, rfl⟩ hC hx F4 N6 off5 ne
                    obtain ⟨t5, e5⟩ := int_get hgs (k := q) (hgl ▸ hq : q < 4)
                    rw [ez q (hgl ▸ hq : q < 4)] at e5
                    obtain rfl : v = .int (z : Int) t5 := by
                      have hv6 : gs[q]? = some v := by simpa using hv5
                      exact Option.some.inj (hv6.symm.trans e5)
                    clear F18 N18
                    (try dsimp only at hx F4 N6 ⊢)
                    k_steps
                    · rename (_ ≠ _) => hne
                      exact absurd (ez 0 (by decide)).symm hne
                    · exact LCg.CompEnd.intro F4 N6 _ (fun _ h => h) off5 (.inr ⟨_, .tail _ (.head _), rfl, _, rfl⟩) ⟨rfl, rfl⟩
                  case x7 =>
                    rintro ys2 nw' ⟨rfl, rfl⟩
                    intro D5 h tk F4 N6 off5
                    clear F18 N18 ez
                    (try dsimp only at F4 N6 ⊢)
                    k_steps
                    refine' Blk.out ?y9
                    rename News h₀ L _ _ => N8
                    rename Fr h₀ L _ _ => F8
                    refine' eq_nil (vs := []) (fun _ h => absurd h List.not_mem_nil) (N8 _ (.tail _ (.head _))).1 (N8 _ (.head _)).1 ?s2 ?s3
                    case s2 => ktr_units
                    k_steps
                    refine' Blk.out ?z9
                    rename News h₀ L _ _ => N9
                    rename Fr h₀ L _ _ => F9
                    have hf : ∀ (p : Prop), (News h₀ L _ ((PS, LCg.lst pv) :: (16, tabObj ps) :: (66, tabObj ps2) :: r4) → p) → p := fun p k => k (news_sub _ N9 fun q hq => by
                      rcases List.mem_cons.mp hq with rfl | hq
                      · exact .tail _ (.tail _ (.tail _ (.tail _ (.head _))))
                      · exact .tail _ (.tail _ (.tail _ (.tail _ (.tail _ (.tail _ (.tail _ (.tail _ (.tail _ hq)))))))))
                    refine hf _ fun N10 => ?_
                    clear hf N9
                    with_unfolding_all refine' least_call _ _ _ _ (c := cc) (pv := pv) (.head _) hl6 ?hp _ _ _ _ _ _ _ _ _ _ _ _ _ _ _ _ _ ?k1 F9 ?k3 N10 ?k5 ?kK ?kd ?ku ?_
                    case k1 => k_asm
                    case k3 => k_asm
                    case k5 => k_asm
                    case kK => exact rfl
                    case kd => first | ktr_room | decide
                    case ku => first | ktr_units | decide
                    case hp =>
                      intro t ht
                      refine gh fun pG hpG => ?_
                      obtain ⟨P, b1, b2, b3, e1, m1⟩ := hpp2 t ht
                      refine hpG ?_
                      clear hpG pG
                      exact ⟨P, b1, b2, b3, e1, .tail _ (.tail _ (.tail _ m1))⟩
                    clear F9 N10
                    intro y ty h tk hy F9 N9
                    obtain rfl : u = y := LeastOf.uniq ⟨hu1, hu2⟩ hy
                    clear hy hu1 hu2 
                    (try dsimp only at F9 N9 ⊢)
                    k_steps
                    exact ⟨by rw [beq_self_eq_true], _, _, _, [], ps, ps2, rfl, F9, news_sub _ N9 (List.forall_mem_cons.mpr ⟨.tail _ (.head _), List.forall_mem_cons.mpr ⟨.tail _ (.tail _ (.head _)), fun _ h => absurd h List.not_mem_nil⟩⟩)⟩
)
end Mine
end
open PySem PySem.W PyProof.Rows
theorem PySem.Challenge.cw_mq0210_02_holds : PySem.Challenge.rw_mq0210_02.Holds :=
  Mine.law0
