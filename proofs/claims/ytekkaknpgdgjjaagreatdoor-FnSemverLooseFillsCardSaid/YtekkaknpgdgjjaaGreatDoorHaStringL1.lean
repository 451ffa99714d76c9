/- Version.String: the text of a version. -/
import Derived.Test.YtekkaknpgdgjjaaGreatDoorHaFmtL1
import Derived.Test.YtekkaknpgdgjjaaGreatDoorHaVerBL1
namespace Go.Proofs.YtekkaknpgdgjjaaGreatDoor.H
open Go.RowKit Go.Proofs.YtekkaknpgdgjjaaGreatDoorW.PrintWords
set_option linter.unusedVariables false
set_option linter.unusedSimpArgs false

def numText (a : Int) : ByteArray := ba (Lib.decDigits a.toNat)
theorem numText_size (a : Int) (h0 : 0 ≤ a) (h1 : a ≤ 18446744073709551615) : (numText a).size ≤ 20 := by
  unfold numText
  rw [ba_size, Lib.decDigits_length]
  by_cases h : a.toNat = 0
  · rw [h, ← Lib.decDigits_length, Lib.decDigits_one (by omega)]; simp
  · have := Lib.numDigits_eq a.toNat (by omega) (by omega)
    split at this <;> omega
def threeText (A B C : ByteArray) : ByteArray := A ++ (⟨#[46]⟩ : ByteArray) ++ B ++ (⟨#[46]⟩ : ByteArray) ++ C
def tailText (s p m : ByteArray) : ByteArray :=
  (fun s1 : ByteArray => if m.toList.isEmpty = true then s1 else s1 ++ ((⟨#[43]⟩ : ByteArray) ++ m)) (if p.toList.isEmpty = true then s else s ++ ((⟨#[45]⟩ : ByteArray) ++ p))
def verText (a b c : Int) (p m : ByteArray) : ByteArray := tailText (threeText (numText a) (numText b) (numText c)) p m
theorem ret_str {a b : ByteArray} (h : a = b) : Ending.returned (.string a) = .returned (.string b) := by rw [h]

set_option maxRecDepth 100000 in
set_option maxHeartbeats 4000000 in
theorem string_calls (a b c : Int) (p m o : ByteArray) (ya : 0 ≤ a ∧ a ≤ 18446744073709551615) (yb : 0 ≤ b ∧ b ≤ 18446744073709551615) (yc : 0 ≤ c ∧ c ≤ 18446744073709551615) (hp : p.size ≤ 2147483647) (hm : m.size ≤ 2147483647) (w : World) (hT : GT w) :
    Calls Tryz.prog 21 #[.agg #[.int .u64 a, .int .u64 b, .int .u64 c, .string p, .string m, .string o]] w fun e w' => e = .returned (.string (verText a b c p m)) ∧ Below w.heap.size w w' := by
  have hu88 := Tryz.underlying69
  have FA := Lib.hid (fun w h => fmt_calls a ya.1 ya.2 w h)
  have FB := Lib.hid (fun w h => fmt_calls b yb.1 yb.2 w h)
  have FC := Lib.hid (fun w h => fmt_calls c yc.1 yc.2 w h)
  have sA := numText_size a ya.1 ya.2
  have sB := numText_size b yb.1 yb.2
  have sC := numText_size c yc.1 yc.2
  unfold verText
  change Hid (∀ w, GT w → Calls Tryz.prog 32 #[.int .u64 a, .int .i64 10] w fun e w' => e = .returned (.string (numText a)) ∧ Below w.heap.size w w') at FA
  change Hid (∀ w, GT w → Calls Tryz.prog 32 #[.int .u64 b, .int .i64 10] w fun e w' => e = .returned (.string (numText b)) ∧ Below w.heap.size w w') at FB
  change Hid (∀ w, GT w → Calls Tryz.prog 32 #[.int .u64 c, .int .i64 10] w fun e w' => e = .returned (.string (numText c)) ∧ Below w.heap.size w w') at FC
  generalize numText a = A at *
  generalize numText b = B at *
  generalize numText c = C at *
  have s1 : (A ++ (⟨#[46]⟩ : ByteArray)).size = A.size + 1 := by rw [ByteArray.size_append]; rfl
  have s2 : (A ++ (⟨#[46]⟩ : ByteArray) ++ B).size = A.size + 1 + B.size := by rw [ByteArray.size_append, s1]
  have s3 : (A ++ (⟨#[46]⟩ : ByteArray) ++ B ++ (⟨#[46]⟩ : ByteArray)).size = A.size + 1 + B.size + 1 := by rw [ByteArray.size_append, s2]; rfl
  have s4 : (A ++ (⟨#[46]⟩ : ByteArray) ++ B ++ (⟨#[46]⟩ : ByteArray) ++ C).size = A.size + 1 + B.size + 1 + C.size := by rw [ByteArray.size_append, s3]
  have q1 := Ver.new w a b c p m o
  have q0 := below_new w (.cells #[.int .u64 a, .int .u64 b, .int .u64 c, .string p, .string m, .string o] 69)
  go_enter Tryz.func21, Tryz.ntmps21
  go_wp2_with fail
  refine region_row mixed (by kernel_rfl) (fun i _ v => match i with
      | 0 => v = .pointer (some ⟨w.heap.size, 0, none⟩)
      | 1 => v = .int .u64 a
      | 2 => v = .string A
      | 3 => v = .string (A ++ (⟨#[46]⟩ : ByteArray))
      | 4 => v = .pointer (some ⟨w.heap.size, 1, none⟩)
      | 5 => v = .int .u64 b
      | 6 => v = .string B
      | 7 => v = .string (A ++ (⟨#[46]⟩ : ByteArray) ++ B)
      | 8 => v = .string (A ++ (⟨#[46]⟩ : ByteArray) ++ B ++ (⟨#[46]⟩ : ByteArray))
      | 9 => v = .pointer (some ⟨w.heap.size, 2, none⟩)
      | 10 => v = .int .u64 c
      | 11 => v = .string C
      | 12 => v = .string (A ++ (⟨#[46]⟩ : ByteArray) ++ B ++ (⟨#[46]⟩ : ByteArray) ++ C)
      | 13 => v = .string (A ++ (⟨#[46]⟩ : ByteArray) ++ B ++ (⟨#[46]⟩ : ByteArray) ++ C)
      | _ => True) Gr (Gr.refl _) Gr.trans ?_ ?_ ?_
  · exact fun h _ => h
  · refine ⟨?_, ?_, ?_, ?_, ?_, ?_, ?_, ?_, ?_, ?_, ?_, ?_, ?_, ?_, trivial⟩
    · intro x wx hR hd hs
      have e1 := ev_of (hs 1 (by kernel_rfl) : x.eval (.tmp 1) = .pointer (some ⟨w.heap.size, 0, none⟩))
      clear hd hs
      refine wpOp_plain rfl rfl ?_
      go_simp
      exact ⟨_, rfl, rfl, Gr.refl _⟩
    · intro x wx hR hd hs
      have e4 := ev_of (hd 0 _ 4 rfl rfl (by kernel_rfl) : x.eval (.tmp 4) = .pointer (some ⟨w.heap.size, 0, none⟩))
      obtain ⟨z0, z1, z2, z3, z4, z5⟩ := Ver.cells (q1.drew.below hR)
      clear hd hs
      refine wpOp_plain rfl rfl ?_
      go_simp
      exact ⟨_, rfl, rfl, Gr.refl _⟩
    · intro x wx hR hd hs
      have e5 := ev_of (hd 1 _ 5 rfl rfl (by kernel_rfl) : x.eval (.tmp 5) = .int .u64 a)
      clear hd hs
      refine wpOp_plain rfl rfl ?_
      go_simp
      refine (FA.out _ (hT.below (chain q0 (drew_chain hR)))).mono ?_
      rintro e w1 ⟨rfl, hb⟩
      exact ⟨_, rfl, rfl, hb⟩
    · intro x wx hR hd hs
      have e6 := ev_of (hd 2 _ 6 rfl rfl (by kernel_rfl) : x.eval (.tmp 6) = .string A)
      clear hd hs
      refine wpOp_plain rfl rfl ?_
      go_simp
      rw [if_neg (by omega)]
      first | exact ⟨_, rfl, rfl, Gr.refl _⟩ | (go_simp; exact ⟨_, rfl, rfl, Gr.refl _⟩)
    · intro x wx hR hd hs
      have e1 := ev_of (hs 1 (by kernel_rfl) : x.eval (.tmp 1) = .pointer (some ⟨w.heap.size, 0, none⟩))
      clear hd hs
      refine wpOp_plain rfl rfl ?_
      go_simp
      exact ⟨_, rfl, rfl, Gr.refl _⟩
    · intro x wx hR hd hs
      have e8 := ev_of (hd 4 _ 8 rfl rfl (by kernel_rfl) : x.eval (.tmp 8) = .pointer (some ⟨w.heap.size, 1, none⟩))
      obtain ⟨z0, z1, z2, z3, z4, z5⟩ := Ver.cells (q1.drew.below hR)
      clear hd hs
      refine wpOp_plain rfl rfl ?_
      go_simp
      exact ⟨_, rfl, rfl, Gr.refl _⟩
    · intro x wx hR hd hs
      have e9 := ev_of (hd 5 _ 9 rfl rfl (by kernel_rfl) : x.eval (.tmp 9) = .int .u64 b)
      clear hd hs
      refine wpOp_plain rfl rfl ?_
      go_simp
      refine (FB.out _ (hT.below (chain q0 (drew_chain hR)))).mono ?_
      rintro e w1 ⟨rfl, hb⟩
      exact ⟨_, rfl, rfl, hb⟩
    · intro x wx hR hd hs
      have e7 := ev_of (hd 3 _ 7 rfl rfl (by kernel_rfl) : x.eval (.tmp 7) = .string (A ++ (⟨#[46]⟩ : ByteArray)))
      have e10 := ev_of (hd 6 _ 10 rfl rfl (by kernel_rfl) : x.eval (.tmp 10) = .string B)
      clear hd hs
      refine wpOp_plain rfl rfl ?_
      go_simp
      rw [if_neg (by omega)]
      first | exact ⟨_, rfl, rfl, Gr.refl _⟩ | (go_simp; exact ⟨_, rfl, rfl, Gr.refl _⟩)
    · intro x wx hR hd hs
      have e11 := ev_of (hd 7 _ 11 rfl rfl (by kernel_rfl) : x.eval (.tmp 11) = .string (A ++ (⟨#[46]⟩ : ByteArray) ++ B))
      clear hd hs
      refine wpOp_plain rfl rfl ?_
      go_simp
      rw [if_neg (by omega)]
      first | exact ⟨_, rfl, rfl, Gr.refl _⟩ | (go_simp; exact ⟨_, rfl, rfl, Gr.refl _⟩)
    · intro x wx hR hd hs
      have e1 := ev_of (hs 1 (by kernel_rfl) : x.eval (.tmp 1) = .pointer (some ⟨w.heap.size, 0, none⟩))
      clear hd hs
      refine wpOp_plain rfl rfl ?_
      go_simp
      exact ⟨_, rfl, rfl, Gr.refl _⟩
    · intro x wx hR hd hs
      have e13 := ev_of (hd 9 _ 13 rfl rfl (by kernel_rfl) : x.eval (.tmp 13) = .pointer (some ⟨w.heap.size, 2, none⟩))
      obtain ⟨z0, z1, z2, z3, z4, z5⟩ := Ver.cells (q1.drew.below hR)
      clear hd hs
      refine wpOp_plain rfl rfl ?_
      go_simp
      exact ⟨_, rfl, rfl, Gr.refl _⟩
    · intro x wx hR hd hs
      have e14 := ev_of (hd 10 _ 14 rfl rfl (by kernel_rfl) : x.eval (.tmp 14) = .int .u64 c)
      clear hd hs
      refine wpOp_plain rfl rfl ?_
      go_simp
      refine (FC.out _ (hT.below (chain q0 (drew_chain hR)))).mono ?_
      rintro e w1 ⟨rfl, hb⟩
      exact ⟨_, rfl, rfl, hb⟩
    · intro x wx hR hd hs
      have e12 := ev_of (hd 8 _ 12 rfl rfl (by kernel_rfl) : x.eval (.tmp 12) = .string (A ++ (⟨#[46]⟩ : ByteArray) ++ B ++ (⟨#[46]⟩ : ByteArray)))
      have e15 := ev_of (hd 11 _ 15 rfl rfl (by kernel_rfl) : x.eval (.tmp 15) = .string C)
      clear hd hs
      refine wpOp_plain rfl rfl ?_
      go_simp
      rw [if_neg (by omega)]
      first | exact ⟨_, rfl, rfl, Gr.refl _⟩ | (go_simp; exact ⟨_, rfl, rfl, Gr.refl _⟩)
    · intro x wx hR hd hs
      have e16 := ev_of (hd 12 _ 16 rfl rfl (by kernel_rfl) : x.eval (.tmp 16) = .string (A ++ (⟨#[46]⟩ : ByteArray) ++ B ++ (⟨#[46]⟩ : ByteArray) ++ C))
      clear hd hs
      refine wpOp_plain rfl rfl ?_
      go_simp
      exact ⟨_, rfl, rfl, Gr.refl _⟩
  · intro vs wq hl hR hv
    obtain ⟨v0, v1, v2, v3, v4, v5, v6, v7, v8, v9, v10, v11, v12, v13, rfl⟩ := list_14 hl
    obtain rfl : .pointer (some ⟨w.heap.size, 0, none⟩) = v0 := (hv 0 v0 rfl).symm
    obtain rfl : .int .u64 a = v1 := (hv 1 v1 rfl).symm
    obtain rfl : .string A = v2 := (hv 2 v2 rfl).symm
    obtain rfl : .string (A ++ (⟨#[46]⟩ : ByteArray)) = v3 := (hv 3 v3 rfl).symm
    obtain rfl : .pointer (some ⟨w.heap.size, 1, none⟩) = v4 := (hv 4 v4 rfl).symm
    obtain rfl : .int .u64 b = v5 := (hv 5 v5 rfl).symm
    obtain rfl : .string B = v6 := (hv 6 v6 rfl).symm
    obtain rfl : .string (A ++ (⟨#[46]⟩ : ByteArray) ++ B) = v7 := (hv 7 v7 rfl).symm
    obtain rfl : .string (A ++ (⟨#[46]⟩ : ByteArray) ++ B ++ (⟨#[46]⟩ : ByteArray)) = v8 := (hv 8 v8 rfl).symm
    obtain rfl : .pointer (some ⟨w.heap.size, 2, none⟩) = v9 := (hv 9 v9 rfl).symm
    obtain rfl : .int .u64 c = v10 := (hv 10 v10 rfl).symm
    obtain rfl : .string C = v11 := (hv 11 v11 rfl).symm
    obtain rfl : .string (A ++ (⟨#[46]⟩ : ByteArray) ++ B ++ (⟨#[46]⟩ : ByteArray) ++ C) = v12 := (hv 12 v12 rfl).symm
    obtain rfl : .string (A ++ (⟨#[46]⟩ : ByteArray) ++ B ++ (⟨#[46]⟩ : ByteArray) ++ C) = v13 := (hv 13 v13 rfl).symm
    clear hv hl
    simp only [List.map_cons, List.map_nil, putAll, Act.put, List.setIfInBounds_toArray, List.set_cons_zero, List.set_cons_succ]
    have hB := chain q0 (drew_chain hR)
    obtain ⟨z0, z1, z2, z3, z4, z5⟩ := Ver.cells (q1.drew.below hR)
    change Below w.heap.size w wq at hB
    clear hR q1 q0 hT FA FB FC
    have e4 : threeText A B C = A ++ (⟨#[46]⟩ : ByteArray) ++ B ++ (⟨#[46]⟩ : ByteArray) ++ C := rfl
    rw [← e4] at s4 ⊢
    clear s1 s2 s3
    generalize threeText A B C = S at *
    have p1 : ((⟨#[45]⟩ : ByteArray) ++ p).size = 1 + p.size := by rw [ByteArray.size_append]; rfl
    have p2 : (S ++ ((⟨#[45]⟩ : ByteArray) ++ p)).size = S.size + (1 + p.size) := by rw [ByteArray.size_append, p1]
    have m1 : ((⟨#[43]⟩ : ByteArray) ++ m).size = 1 + m.size := by rw [ByteArray.size_append]; rfl
    have m2 : (S ++ ((⟨#[43]⟩ : ByteArray) ++ m)).size = S.size + (1 + m.size) := by rw [ByteArray.size_append, m1]
    have m3 : (S ++ ((⟨#[45]⟩ : ByteArray) ++ p) ++ ((⟨#[43]⟩ : ByteArray) ++ m)).size = S.size + (1 + p.size) + (1 + m.size) := by rw [ByteArray.size_append, m1, p2]
    go_wp2
    all_goals
      go_ret
      exact ⟨ret_str (by simp_all [tailText, threeText, toList_eq]), hB⟩
end Go.Proofs.YtekkaknpgdgjjaaGreatDoor.H
