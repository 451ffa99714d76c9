/- What the constraint expression captures of a term that is written in one of its ways. -/
import Derived.Test.YtekkaknpgdgjjaaGreatDoorFiW1
import Derived.Test.YtekkaknpgdgjjaaGreatDoorHaConsW1
import Derived.Test.YtekkaknpgdgjjaaGreatDoorFindW1
namespace Go.Proofs.YtekkaknpgdgjjaaGreatDoor.H
open Go.RowKit Go.Proofs.YtekkaknpgdgjjaaGreatDoorW.PrintWords
set_option linter.unusedVariables false
set_option linter.unusedSimpArgs false
set_option maxRecDepth 100000

def consO : List (List Nat) := [[], [0], [0], [0], [0], [0, 1], [0, 1], [0, 1], [0, 1], [0, 1], [0, 1], [0, 1], [0, 1], [0, 1], [0, 1], [0, 1], [0, 1], [0, 1], [0, 1], [0, 1], [0, 1], [0, 1], [0, 1], [0, 1], [0, 1], [0, 1], [0, 1], [0, 1], [0, 1], [0, 1], [0, 1], [0, 1], [0, 1], [0], [0], [0], [0, 2], [0, 2], [0, 2], [0, 2, 3], [0, 2, 3], [0, 2, 3], [0, 2], [0, 2, 4], [0, 2, 4], [0, 2, 4], [0, 2, 4], [0, 2], [0, 2], [0, 2, 5], [0, 2, 5], [0, 2, 5], [0, 2, 5], [0, 2], [0, 2], [0, 2, 6], [0, 2, 6], [0, 2, 6, 7], [0, 2, 6, 7], [0, 2, 6, 7], [0, 2, 6, 7, 8], [0, 2, 6, 7, 8], [0, 2, 6, 7, 8], [0, 2, 6, 7, 8], [0, 2, 6, 7], [0, 2, 6, 7], [0, 2, 6], [0, 2], [0, 2], [0, 2, 9], [0, 2, 9], [0, 2, 9, 10], [0, 2, 9, 10], [0, 2, 9, 10], [0, 2, 9, 10, 11], [0, 2, 9, 10, 11], [0, 2, 9, 10, 11], [0, 2, 9, 10, 11], [0, 2, 9, 10], [0, 2, 9, 10], [0, 2, 9], [0, 2], [0, 2], [0], [0], [0], [0]]
theorem consO_ok : opsOk consO 24 consL = true := by kernel_rfl
theorem consL_ops : ∀ (pc : Nat) (I : Bi), consL[pc]? = some I → IOk consL.length I := by
  have h : (consL.all fun I => decide (IOk 87 I)) = true := by kernel_rfl
  intro pc I hI
  exact of_decide_eq_true (List.all_eq_true.1 h I (List.mem_of_getElem? hI))
theorem vd24 : Vd consO 24 1 0 (c0 24) := by
  have h : ∀ g, g < 12 → vg ((consO.getD 1 []).contains g) 0 (rdI (c0 24) ((2 * g : Nat) : Int)) (rdI (c0 24) ((2 * g + 1 : Nat) : Int)) := by decide
  exact ⟨rfl, fun g hg => h g (by omega)⟩
/-- What the expression gives of a text, as the engine gives it. -/
theorem cons_fss {s : ByteArray} {c : List Int} (hs : s.size ≤ 200) (h1 : 1 ≤ s.size) (ha : ascB s = true) (hm : mat consL (rn s) s.size (80 * (s.size + 1) + 1) 1 0 (c0 24) = some (some c)) (W : World) (re : Nat) (hx : Rx W re consL 1 24 11 1 4) :
    Calls Tryz.prog 44 #[.pointer (some ⟨re, 0, none⟩), .string s] W fun e w' => Below W.heap.size W w' ∧ ∃ v, e = .returned v ∧ w'.ownsRow W.heap.size 9 1 v 12 ((capts s c 12).map Value.string) := by
  obtain ⟨hcl, hval⟩ := mat_valid (by decide) consO_ok _ 1 0 (c0 24) c (Nat.zero_le _) vd24 hm
  have hV : Valid s c 12 := by
    intro i hi h0
    rcases hval i (by omega) with h | ⟨h1, h2, h3⟩ | ⟨h, _⟩
    · omega
    · exact ⟨h2, h3⟩
    · cases h
  have hw : words 87 s.size ≤ 8192 := by
    have : 87 * (s.size + 1) ≤ 87 * 201 := Nat.mul_le_mul_left _ (by omega)
    unfold words
    omega
  have env : Env W re consL 1 24 11 1 4 s (words consL.length s.size) 20000 24 :=
    ⟨hx, by decide, consL_ops, by omega, asc_of ha, fun pc pos h1 h2 => words_fit h1 h2, by decide, by decide⟩
  refine (fss_calls env hw (by decide) (by decide) rfl (by decide) (k := 80 * (s.size + 1) + 1) (by omega) hm (fun hlt => by omega) (fun c' hc' => by cases hc'; exact hV)).mono ?_
  rintro e w' ⟨hb, v, rfl, ho⟩
  exact ⟨hb, v, rfl, ho⟩
theorem capts_at {s : ByteArray} {c : List Int} {i : Nat} {x : ByteArray} (hi : i < 12) (h : capt s c i = x) : (capts s c 12)[i]? = some x := by
  unfold capts
  rw [List.getElem?_map, List.getElem?_range hi]
  exact congrArg some h
/-- The captured texts. -/
structure Caps (s : ByteArray) (op ver D x4 x5 pre : List UInt8) : Prop where
  ex : ∃ c, mat consL (rn s) s.size (80 * (s.size + 1) + 1) 1 0 (c0 24) = some (some c) ∧ capt s c 1 = ba op ∧ capt s c 2 = ba ver ∧ capt s c 3 = ba D ∧ capt s c 4 = ba x4 ∧ capt s c 5 = ba x5 ∧ capt s c 6 = ba (dash pre)
section
variable {s : ByteArray} {b1 op bl lt D d e pre mt b2 : List UInt8}
theorem dash_nil : dash [] = [] := rfl
theorem caps1 (hT : s.data.toList = b1 ++ (op ++ (bl ++ (lt ++ (D ++ (dash pre ++ (mt ++ b2))))))) (hb1 : ∀ x ∈ b1, isb x.toNat = true) (hop : op ∈ opsL) (h0 : op = [] → bl = []) (hb : ∀ x ∈ bl, isb x.toNat = true) (hlt : isLt lt) (hne : D ≠ []) (hD : ∀ x ∈ D, ptB x.toNat = true)
    (hw : pre = [] ∨ wds true pre = true) (hm : isMt mt) (hb2 : ∀ x ∈ b2, isb x.toNat = true) : Caps s op (lt ++ (D ++ (dash pre ++ mt))) D [] [] pre := by
  have hlen : s.data.toList.length = b1.length + op.length + bl.length + lt.length + D.length + ((dash pre).length + mt.length + b2.length) := by rw [hT]; simp only [List.length_append]; omega
  have hd : s.data.toList.drop (b1.length + op.length + bl.length + lt.length + D.length) = dash pre ++ (mt ++ b2) := by
    rw [hT]
    have e : b1.length + op.length + bl.length + lt.length + D.length = (b1 ++ (op ++ (bl ++ (lt ++ D)))).length := by simp only [List.length_append]; omega
    rw [e, show b1 ++ (op ++ (bl ++ (lt ++ (D ++ (dash pre ++ (mt ++ b2)))))) = (b1 ++ (op ++ (bl ++ (lt ++ D)))) ++ (dash pre ++ (mt ++ b2)) by simp, List.drop_left]
  obtain ⟨c, hc, hh⟩ := start_acc hT hb1 hop h0 hb hlt hne hD (num1_acc (by omega) hd hw hm hb2)
  rw [← rn_txt, ← size_eq] at hc
  have h4 : capt s c 4 = ba [] := capt_none (by rw [hh _ (by decide) (by decide)]; simp [tlA, up]; split <;> rfl)
  have h5 : capt s c 5 = ba [] := capt_none (by rw [hh _ (by decide) (by decide)]; simp [tlA, up]; split <;> rfl)
  refine ⟨c, hc, ?_, ?_, ?_, h4, h5, ?_⟩
  · refine capt_ba (A := b1) (x := b1.length) (y := b1.length + op.length) ?_ ?_ hT rfl rfl
    · rw [hh _ (by decide) (by decide)]; simp [tlA, up]; split <;> rfl
    · rw [hh _ (by decide) (by decide)]; simp [tlA, up]; split <;> rfl
  · refine capt_ba (A := b1 ++ (op ++ bl)) (R := b2) (x := b1.length + op.length + bl.length) (y := b1.length + op.length + bl.length + lt.length + D.length + (dash pre).length + mt.length) ?_ ?_ (by rw [hT]; simp) (by simp only [List.length_append]; omega) (by simp only [List.length_append]; omega)
    · rw [hh _ (by decide) (by decide)]; simp [tlA, up]; split <;> rfl
    · rw [hh _ (by decide) (by decide)]; simp [tlA, up]
  · refine capt_ba (A := b1 ++ (op ++ (bl ++ lt))) (R := dash pre ++ (mt ++ b2)) (x := b1.length + op.length + bl.length + lt.length) (y := b1.length + op.length + bl.length + lt.length + D.length) ?_ ?_ (by rw [hT]; simp) (by simp only [List.length_append]; omega) (by simp only [List.length_append]; omega)
    · rw [hh _ (by decide) (by decide)]; simp [tlA, up]; split <;> rfl
    · rw [hh _ (by decide) (by decide)]; simp [tlA, up]; split <;> rfl
  · by_cases hp : pre = []
    · subst hp
      exact capt_none (by rw [hh _ (by decide) (by decide)]; simp [tlA, up])
    · refine capt_ba (A := b1 ++ (op ++ (bl ++ (lt ++ D)))) (R := mt ++ b2) (x := b1.length + op.length + bl.length + lt.length + D.length) (y := b1.length + op.length + bl.length + lt.length + D.length + (dash pre).length) ?_ ?_ (by rw [hT]; simp) (by simp only [List.length_append]; omega) (by simp only [List.length_append]; omega)
      · rw [hh _ (by decide) (by decide)]; simp [tlA, up, hp]
      · rw [hh _ (by decide) (by decide)]; simp [tlA, up, hp]
theorem caps2 (hT : s.data.toList = b1 ++ (op ++ (bl ++ (lt ++ (D ++ (46 :: (d ++ (dash pre ++ (mt ++ b2))))))))) (hb1 : ∀ x ∈ b1, isb x.toNat = true) (hop : op ∈ opsL) (h0 : op = [] → bl = []) (hb : ∀ x ∈ bl, isb x.toNat = true) (hlt : isLt lt) (hne : D ≠ []) (hD : ∀ x ∈ D, ptB x.toNat = true)
    (hne1 : d ≠ []) (hd1 : ∀ x ∈ d, ptB x.toNat = true) (hw : pre = [] ∨ wds true pre = true) (hm : isMt mt) (hb2 : ∀ x ∈ b2, isb x.toNat = true) : Caps s op (lt ++ (D ++ (46 :: (d ++ (dash pre ++ mt))))) D (46 :: d) [] pre := by
  have hlen : s.data.toList.length = b1.length + op.length + bl.length + lt.length + D.length + (1 + d.length + (dash pre).length + mt.length + b2.length) := by rw [hT]; simp only [List.length_append, List.length_cons]; omega
  have hd : s.data.toList.drop (b1.length + op.length + bl.length + lt.length + D.length) = 46 :: (d ++ (dash pre ++ (mt ++ b2))) := by
    rw [hT]
    have e : b1.length + op.length + bl.length + lt.length + D.length = (b1 ++ (op ++ (bl ++ (lt ++ D)))).length := by simp only [List.length_append]; omega
    rw [e, show b1 ++ (op ++ (bl ++ (lt ++ (D ++ (46 :: (d ++ (dash pre ++ (mt ++ b2)))))))) = (b1 ++ (op ++ (bl ++ (lt ++ D)))) ++ (46 :: (d ++ (dash pre ++ (mt ++ b2)))) by simp, List.drop_left]
  obtain ⟨c, hc, hh⟩ := start_acc hT hb1 hop h0 hb hlt hne hD (num2_acc hd hne1 hd1 hw hm hb2)
  rw [← rn_txt, ← size_eq] at hc
  have h5 : capt s c 5 = ba [] := capt_none (by rw [hh _ (by decide) (by decide)]; simp [tlA, up]; split <;> rfl)
  refine ⟨c, hc, ?_, ?_, ?_, ?_, h5, ?_⟩
  · refine capt_ba (A := b1) (x := b1.length) (y := b1.length + op.length) ?_ ?_ hT rfl rfl
    · rw [hh _ (by decide) (by decide)]; simp [tlA, up]; split <;> rfl
    · rw [hh _ (by decide) (by decide)]; simp [tlA, up]; split <;> rfl
  · refine capt_ba (A := b1 ++ (op ++ bl)) (R := b2) (x := b1.length + op.length + bl.length) (y := b1.length + op.length + bl.length + lt.length + D.length + 1 + d.length + (dash pre).length + mt.length) ?_ ?_ (by rw [hT]; simp) (by simp only [List.length_append]; omega) (by simp only [List.length_append, List.length_cons]; omega)
    · rw [hh _ (by decide) (by decide)]; simp [tlA, up]; split <;> rfl
    · rw [hh _ (by decide) (by decide)]; simp [tlA, up]
  · refine capt_ba (A := b1 ++ (op ++ (bl ++ lt))) (R := 46 :: (d ++ (dash pre ++ (mt ++ b2)))) (x := b1.length + op.length + bl.length + lt.length) (y := b1.length + op.length + bl.length + lt.length + D.length) ?_ ?_ (by rw [hT]; simp) (by simp only [List.length_append]; omega) (by simp only [List.length_append]; omega)
    · rw [hh _ (by decide) (by decide)]; simp [tlA, up]; split <;> rfl
    · rw [hh _ (by decide) (by decide)]; simp [tlA, up]; split <;> rfl
  · refine capt_ba (A := b1 ++ (op ++ (bl ++ (lt ++ D)))) (R := dash pre ++ (mt ++ b2)) (x := b1.length + op.length + bl.length + lt.length + D.length) (y := b1.length + op.length + bl.length + lt.length + D.length + 1 + d.length) ?_ ?_ (by rw [hT]; simp) (by simp only [List.length_append]; omega) (by simp only [List.length_append, List.length_cons]; omega)
    · rw [hh _ (by decide) (by decide)]; simp [tlA, up]; split <;> rfl
    · rw [hh _ (by decide) (by decide)]; simp [tlA, up]; split <;> rfl
  · by_cases hp : pre = []
    · subst hp
      exact capt_none (by rw [hh _ (by decide) (by decide)]; simp [tlA, up])
    · refine capt_ba (A := b1 ++ (op ++ (bl ++ (lt ++ (D ++ (46 :: d)))))) (R := mt ++ b2) (x := b1.length + op.length + bl.length + lt.length + D.length + 1 + d.length) (y := b1.length + op.length + bl.length + lt.length + D.length + 1 + d.length + (dash pre).length) ?_ ?_ (by rw [hT]; simp) (by simp only [List.length_append, List.length_cons]; omega) (by simp only [List.length_append, List.length_cons]; omega)
      · rw [hh _ (by decide) (by decide)]; simp [tlA, up, hp]
      · rw [hh _ (by decide) (by decide)]; simp [tlA, up, hp]
theorem caps3 (hT : s.data.toList = b1 ++ (op ++ (bl ++ (lt ++ (D ++ (46 :: (d ++ (46 :: (e ++ (dash pre ++ (mt ++ b2))))))))))) (hb1 : ∀ x ∈ b1, isb x.toNat = true) (hop : op ∈ opsL) (h0 : op = [] → bl = []) (hb : ∀ x ∈ bl, isb x.toNat = true) (hlt : isLt lt) (hne : D ≠ []) (hD : ∀ x ∈ D, ptB x.toNat = true)
    (hne1 : d ≠ []) (hd1 : ∀ x ∈ d, ptB x.toNat = true) (hne2 : e ≠ []) (he1 : ∀ x ∈ e, ptB x.toNat = true) (hw : pre = [] ∨ wds true pre = true) (hm : isMt mt) (hb2 : ∀ x ∈ b2, isb x.toNat = true) : Caps s op (lt ++ (D ++ (46 :: (d ++ (46 :: (e ++ (dash pre ++ mt))))))) D (46 :: d) (46 :: e) pre := by
  have hlen : s.data.toList.length = b1.length + op.length + bl.length + lt.length + D.length + (1 + d.length + 1 + e.length + (dash pre).length + mt.length + b2.length) := by rw [hT]; simp only [List.length_append, List.length_cons]; omega
  have hd : s.data.toList.drop (b1.length + op.length + bl.length + lt.length + D.length) = 46 :: (d ++ (46 :: (e ++ (dash pre ++ (mt ++ b2))))) := by
    rw [hT]
    have e1 : b1.length + op.length + bl.length + lt.length + D.length = (b1 ++ (op ++ (bl ++ (lt ++ D)))).length := by simp only [List.length_append]; omega
    rw [e1, show b1 ++ (op ++ (bl ++ (lt ++ (D ++ (46 :: (d ++ (46 :: (e ++ (dash pre ++ (mt ++ b2))))))))))= (b1 ++ (op ++ (bl ++ (lt ++ D)))) ++ (46 :: (d ++ (46 :: (e ++ (dash pre ++ (mt ++ b2)))))) by simp, List.drop_left]
  obtain ⟨c, hc, hh⟩ := start_acc hT hb1 hop h0 hb hlt hne hD (num3_acc hd hne1 hd1 hne2 he1 hw hm hb2)
  rw [← rn_txt, ← size_eq] at hc
  refine ⟨c, hc, ?_, ?_, ?_, ?_, ?_, ?_⟩
  · refine capt_ba (A := b1) (x := b1.length) (y := b1.length + op.length) ?_ ?_ hT rfl rfl
    · rw [hh _ (by decide) (by decide)]; simp [tlA, up]; split <;> rfl
    · rw [hh _ (by decide) (by decide)]; simp [tlA, up]; split <;> rfl
  · refine capt_ba (A := b1 ++ (op ++ bl)) (R := b2) (x := b1.length + op.length + bl.length) (y := b1.length + op.length + bl.length + lt.length + D.length + 1 + d.length + 1 + e.length + (dash pre).length + mt.length) ?_ ?_ (by rw [hT]; simp) (by simp only [List.length_append]; omega) (by simp only [List.length_append, List.length_cons]; omega)
    · rw [hh _ (by decide) (by decide)]; simp [tlA, up]; split <;> rfl
    · rw [hh _ (by decide) (by decide)]; simp [tlA, up]
  · refine capt_ba (A := b1 ++ (op ++ (bl ++ lt))) (R := 46 :: (d ++ (46 :: (e ++ (dash pre ++ (mt ++ b2)))))) (x := b1.length + op.length + bl.length + lt.length) (y := b1.length + op.length + bl.length + lt.length + D.length) ?_ ?_ (by rw [hT]; simp) (by simp only [List.length_append]; omega) (by simp only [List.length_append]; omega)
    · rw [hh _ (by decide) (by decide)]; simp [tlA, up]; split <;> rfl
    · rw [hh _ (by decide) (by decide)]; simp [tlA, up]; split <;> rfl
  · refine capt_ba (A := b1 ++ (op ++ (bl ++ (lt ++ D)))) (R := 46 :: (e ++ (dash pre ++ (mt ++ b2)))) (x := b1.length + op.length + bl.length + lt.length + D.length) (y := b1.length + op.length + bl.length + lt.length + D.length + 1 + d.length) ?_ ?_ (by rw [hT]; simp) (by simp only [List.length_append]; omega) (by simp only [List.length_append, List.length_cons]; omega)
    · rw [hh _ (by decide) (by decide)]; simp [tlA, up]; split <;> rfl
    · rw [hh _ (by decide) (by decide)]; simp [tlA, up]; split <;> rfl
  · refine capt_ba (A := b1 ++ (op ++ (bl ++ (lt ++ (D ++ (46 :: d)))))) (R := dash pre ++ (mt ++ b2)) (x := b1.length + op.length + bl.length + lt.length + D.length + 1 + d.length) (y := b1.length + op.length + bl.length + lt.length + D.length + 1 + d.length + 1 + e.length) ?_ ?_ (by rw [hT]; simp) (by simp only [List.length_append, List.length_cons]; omega) (by simp only [List.length_append, List.length_cons]; omega)
    · rw [hh _ (by decide) (by decide)]; simp [tlA, up]; split <;> rfl
    · rw [hh _ (by decide) (by decide)]; simp [tlA, up]; split <;> rfl
  · by_cases hp : pre = []
    · subst hp
      exact capt_none (by rw [hh _ (by decide) (by decide)]; simp [tlA, up])
    · refine capt_ba (A := b1 ++ (op ++ (bl ++ (lt ++ (D ++ (46 :: (d ++ (46 :: e)))))))) (R := mt ++ b2) (x := b1.length + op.length + bl.length + lt.length + D.length + 1 + d.length + 1 + e.length) (y := b1.length + op.length + bl.length + lt.length + D.length + 1 + d.length + 1 + e.length + (dash pre).length) ?_ ?_ (by rw [hT]; simp) (by simp only [List.length_append, List.length_cons]; omega) (by simp only [List.length_append, List.length_cons]; omega)
      · rw [hh _ (by decide) (by decide)]; simp [tlA, up, hp]
      · rw [hh _ (by decide) (by decide)]; simp [tlA, up, hp]
end
end Go.Proofs.YtekkaknpgdgjjaaGreatDoor.H
