/- FnSemverStrictBuilt gives true for every argument. -/
import Derived.Test.YtgenbmhmcnaiiaaDoorBuiltKS
import Derived.Test.YtgenbmhmcnaiiaaDoorHaBuiltBKS
import Derived.Test.YtgenbmhmcnaiiaaDoorHaBuiltCKS
import Derived.Test.YtgenbmhmcnaiiaaDoorHaStructKS
namespace Go.Proofs.YtgenbmhmcnaiiaaDoor.lawStrictBuilt
open Go.RowKit Go.Proofs.YtgenbmhmcnaiiaaDoor.PG Go.Proofs.YtgenbmhmcnaiiaaDoor.H
open Go.Proofs.YtgenbmhmcnaiiaaDoorW.PrintWords hiding Ev Ev.bind
set_option linter.unusedVariables false
set_option linter.unusedSimpArgs false
set_option linter.unnecessarySimpa false

theorem fits_ev (a b c : Int) (p m : ByteArray) : ∃ r, laws_zzFits14.f a b c p m = some r := by
  unfold laws_zzFits14.f
  split
  · exact ⟨_, rfl⟩
  · split <;> exact ⟨_, rfl⟩

theorem strOf_one (n : Nat) (h : n < 256) : strOfNums [((n : Nat) : Int)] = ba [UInt8.ofNat n] := by
  simp [strOfNums, ba]
theorem dapp (a b : ByteArray) : (a ++ b).data.toList = a.data.toList ++ b.data.toList := by simp
theorem dec_len : ∀ (n u : Nat), u < 10 ^ (n + 1) → (Lib.decDigits u).length ≤ n + 1 := by
  intro n
  induction n with
  | zero => intro u h; rw [Lib.decDigits, dif_pos (by simpa using h)]; simp
  | succ n ih =>
    intro u h
    rw [Lib.decDigits]
    by_cases h10 : u < 10
    · rw [dif_pos h10]; simp
    · rw [dif_neg h10, List.length_append]
      have := ih (u / 10) (by rw [Nat.pow_succ] at h; omega)
      simp
      omega
theorem dec_size (u : Nat) (h : u ≤ 18446744073709551615) : (ba (Lib.decDigits u)).size ≤ 20 := by
  rw [size_eq, ba_data]
  exact dec_len 19 u (by omega)
theorem decimal_ev : ∀ (u : Nat), u ≤ 18446744073709551615 → Ev (fun k => spec_Decimal.f k (u : Int)) (ba (Lib.decDigits u)) := by
  intro u
  induction u using Nat.strongRecOn with
  | _ u ih =>
    intro hu
    refine Ev.succ ?_
    simp only [spec_Decimal.f]
    by_cases h : u < 10
    · refine Ev.pos (by omega) ((Ev.val _).eq ?_)
      have e : ((48 + ((u : Int) % 256)) % 256) = ((48 + u : Nat) : Int) := by omega
      rw [e, strOf_one _ (by omega), Lib.decDigits, dif_pos h]
    · refine Ev.neg (by omega) ?_
      have e1 : IntKind.u64.wrap (Int.tdiv (u : Int) 10) = ((u / 10 : Nat) : Int) := by
        have : Int.tdiv (u : Int) 10 = ((u / 10 : Nat) : Int) := rfl
        rw [this]
        simp only [IntKind.wrap, IntKind.bits, IntKind.signed]
        simp
        omega
      rw [e1]
      refine Ev.bind (ih (u / 10) (by omega) (by omega)) ?_
      have e2 : ((48 + (Int.tmod (u : Int) 10 % 256)) % 256) = ((48 + u % 10 : Nat) : Int) := by
        have : Int.tmod (u : Int) 10 = ((u % 10 : Nat) : Int) := rfl
        rw [this]
        omega
      simp only [Option.bind_some]
      rw [e2, strOf_one _ (by omega)]
      have hl := dec_size (u / 10) (by omega)
      refine Ev.pos (by have : (ba [UInt8.ofNat (48 + u % 10)]).size = 1 := rfl; omega) ((Ev.val _).eq ?_)
      conv => rhs; rw [Lib.decDigits, dif_neg h]
      apply eq_of_data
      rw [dapp, ba_data, ba_data, ba_data]

/-- The three numbers, between points. -/
def nums3 (a b c : Nat) : ByteArray := (ba (Lib.decDigits a) ++ ((⟨#[46]⟩ : ByteArray) ++ ba (Lib.decDigits b))) ++ ((⟨#[46]⟩ : ByteArray) ++ ba (Lib.decDigits c))
theorem nums3_data (a b c : Nat) : (nums3 a b c).data.toList = Lib.decDigits a ++ 46 :: (Lib.decDigits b ++ 46 :: Lib.decDigits c) := by
  unfold nums3
  simp only [dapp, ba_data]
  simp
theorem nums3_size (a b c : Nat) (ha : a ≤ 18446744073709551615) (hb : b ≤ 18446744073709551615) (hc : c ≤ 18446744073709551615) : (nums3 a b c).size ≤ 62 := by
  have h1 := dec_size a ha
  have h2 := dec_size b hb
  have h3 := dec_size c hc
  have d1 : (⟨#[46]⟩ : ByteArray).size = 1 := rfl
  unfold nums3
  simp only [ByteArray.size_append, d1]
  omega
theorem nums_ev (a b c : Nat) (ha : a ≤ 18446744073709551615) (hb : b ≤ 18446744073709551615) (hc : c ≤ 18446744073709551615) (p m : ByteArray) :
    Ev (fun k => laws_scNumbers.f k (a : Int) (b : Int) (c : Int) p m 3) (nums3 a b c) := by
  unfold laws_scNumbers.f
  have h1 := dec_size a ha
  have h2 := dec_size b hb
  have h3 := dec_size c hc
  have d1 : (⟨#[46]⟩ : ByteArray).size = 1 := rfl
  refine Ev.bind (decimal_ev a ha) (Ev.pos (by decide) (Ev.bind (decimal_ev b hb) (Ev.pos (by omega) (Ev.pos (by simp only [ByteArray.size_append, d1]; omega) (Ev.pos (by decide) (Ev.bind (decimal_ev c hc) (Ev.pos (by omega) (Ev.pos (by simp only [ByteArray.size_append, d1]; omega) (Ev.val _)))))))))

def oneByte (s : ByteArray) : List ByteArray := s.data.toList.map fun x => ba [x]
theorem bytes_loop (s : ByteArray) (hs : s.size ≤ 2147483647) : ∀ (j i : Nat) (acc : List ByteArray), i + j = s.size → acc.length = i →
    Ev (fun k => laws_svBytes.l0 k s acc (i : Int)) (acc ++ (s.data.toList.drop i).map fun x => ba [x]) := by
  intro j
  induction j with
  | zero =>
    intro i acc hi ha
    refine Ev.succ ?_
    simp only [laws_svBytes.l0]
    refine Ev.neg (by omega) ((Ev.val _).eq ?_)
    have : s.data.toList.drop i = [] := List.drop_eq_nil_of_le (by rw [← size_eq]; omega)
    rw [this]
    simp
  | succ j ih =>
    intro i acc hi ha
    refine Ev.succ ?_
    simp only [laws_svBytes.l0]
    have hl : i < s.data.toList.length := by rw [← size_eq]; omega
    have hw : wrap64 ((i : Int) + 1) = ((i + 1 : Nat) : Int) := wrap1 (n := s.size) (by omega) (by omega)
    rw [hw]
    refine Ev.pos (by omega) (Ev.pos (by omega) (Ev.pos (by omega) (Ev.pos (by omega) (Ev.pos (by omega) ?_))))
    rw [Int.toNat_natCast, Int.toNat_natCast]
    refine (ih (i + 1) _ (by omega) (by simp [ha])).eq ?_
    have e : s.extract i (i + 1) = ba [s.data.toList[i]] := by
      rw [extract_ba, List.drop_eq_getElem_cons hl]
      simp
    rw [e]
    conv => rhs; rw [List.drop_eq_getElem_cons hl]
    simp
theorem bytes_ev (s : ByteArray) (hs : s.size ≤ 2147483647) : Ev (fun k => laws_svBytes.f k s) (oneByte s) := by
  unfold laws_svBytes.f
  exact (bytes_loop s hs s.size 0 [] (by omega) rfl).eq (by simp [oneByte])
theorem find_loop (xs : List ByteArray) (hs : xs.length ≤ 2147483647) (x1 : ByteArray) : ∀ (j i : Nat), i + j = xs.length →
    ∃ r, Ev (fun k => laws_svFind.l0 k x1 xs (xs.length : Int) (i : Int)) r ∧ ((r = -1 ∧ ∀ x ∈ xs.drop i, x.toList ≠ x1.toList) ∨ 0 ≤ r) := by
  intro j
  induction j with
  | zero =>
    intro i hi
    refine ⟨-1, Ev.succ ?_, .inl ⟨rfl, ?_⟩⟩
    · simp only [laws_svFind.l0]
      exact Ev.neg (by omega) (Ev.val _)
    · have : xs.drop i = [] := List.drop_eq_nil_of_le (by omega)
      rw [this]
      simp
  | succ j ih =>
    intro i hi
    have hl : i < xs.length := by omega
    have hw : wrap64 ((i : Int) + 1) = ((i + 1 : Nat) : Int) := wrap1 hl (by omega)
    by_cases hx : xs[i].toList = x1.toList
    · refine ⟨(i : Int), Ev.succ ?_, .inr (by omega)⟩
      simp only [laws_svFind.l0]
      rw [rd_get hl]
      exact Ev.pos (by omega) (Ev.pos (by omega) (Ev.pos (by omega) (Ev.pos hx (Ev.val _))))
    · obtain ⟨r, h1, h2⟩ := ih (i + 1) (by omega)
      refine ⟨r, Ev.succ ?_, ?_⟩
      · simp only [laws_svFind.l0]
        rw [rd_get hl, hw]
        exact Ev.pos (by omega) (Ev.pos (by omega) (Ev.pos (by omega) (Ev.neg hx h1)))
      · rcases h2 with ⟨e, h2⟩ | h2
        · refine .inl ⟨e, fun x hm => ?_⟩
          rw [List.drop_eq_getElem_cons hl, List.mem_cons] at hm
          rcases hm with rfl | hm
          · exact hx
          · exact h2 x hm
        · exact .inr h2
theorem find_ev (s : ByteArray) (hs : s.size ≤ 2147483647) : ∃ r, Ev (fun k => laws_svFind.f k (oneByte s) ⟨#[43]⟩) r ∧ ((r = -1 ∧ 43 ∉ s.data.toList) ∨ 0 ≤ r) := by
  have hl : (oneByte s).length ≤ 2147483647 := by unfold oneByte; rw [List.length_map, ← size_eq]; exact hs
  obtain ⟨r, h1, h2⟩ := find_loop (oneByte s) hl ⟨#[43]⟩ (oneByte s).length 0 (by omega)
  refine ⟨r, h1, ?_⟩
  rcases h2 with ⟨e, h2⟩ | h2
  · refine .inl ⟨e, fun hm => ?_⟩
    refine h2 (ba [43]) ?_ rfl
    rw [List.drop_zero]
    exact List.mem_map.2 ⟨43, hm, rfl⟩
  · exact .inr h2

theorem ne_data {s : ByteArray} : s.toList = [] ↔ s.data.toList = [] := by rw [toList_eq]

theorem law (a b c : Int) (p m pr mt : ByteArray) (w : World) (t3 : TypeId) (p3 : Value) (t4 : TypeId) (p4 : Value) (hGV : GV w t3 p3 t4 p4) (t5 : TypeId) (p5 : Value) (hG5 : G5 w t5 p5) (ya : u64ok a) (yb : u64ok b) (yc : u64ok c) :
    Calls Tryd.prog 10 #[.agg #[.int .u64 a, .int .u64 b, .int .u64 c, .string p, .string m], .string pr, .string mt] w fun e w' => e = .returned (.bool true) ∧ Below w.heap.size w w' := by
  have ra := u64_range ya
  have rb := u64_range yb
  have rc := u64_range yc
  obtain ⟨a, rfl⟩ : ∃ u : Nat, a = u := ⟨a.toNat, by omega⟩
  obtain ⟨b, rfl⟩ : ∃ u : Nat, b = u := ⟨b.toNat, by omega⟩
  obtain ⟨c, rfl⟩ : ∃ u : Nat, c = u := ⟨c.toNat, by omega⟩
  have ha : a ≤ 18446744073709551615 := by omega
  have hb : b ≤ 18446744073709551615 := by omega
  have hc : c ≤ 18446744073709551615 := by omega
  obtain ⟨r14, h14⟩ := fits_ev (a : Int) (b : Int) (c : Int) p m
  cases r14 with
  | false => exact built_unfit 0 a b c p m pr mt w h14
  | true =>
    by_cases hp : pr.size ≤ 2147483647
    · by_cases hm : mt.size ≤ 2147483647
      · obtain ⟨N1, h1'⟩ := nums_ev a b c ha hb hc ⟨#[]⟩ ⟨#[]⟩
        have h1 : ∀ k, N1 ≤ k → laws_scNumbers.f k (a : Int) (b : Int) (c : Int) ⟨#[]⟩ ⟨#[]⟩ 3 = some (nums3 a b c) := h1'
        obtain ⟨N2, h2'⟩ := bytes_ev pr hp
        have h2 : ∀ k, N2 ≤ k → laws_svBytes.f k pr = some (oneByte pr) := h2'
        obtain ⟨r, ⟨N3, h3'⟩, hr⟩ := find_ev pr hp
        have h3 : ∀ k, N3 ≤ k → laws_svFind.f k (oneByte pr) ⟨#[43]⟩ = some r := h3'
        clear h1' h2' h3'
        obtain ⟨N, hN⟩ : ∃ N, N = N1 + N2 + N3 := ⟨_, rfl⟩
        replace h1 := h1 N (by omega)
        replace h2 := h2 N (by omega)
        replace h3 := h3 N (by omega)
        have hns := nums3_size a b c ha hb hc
        have hnd := nums3_data a b c
        generalize nums3 a b c = nums at *
        by_cases hp0 : pr.toList = []
        · exact built_nopre N a b c p m pr mt w nums h14 hp hm h1 hp0
        · by_cases hm0 : mt.toList = []
          · exact built_nometa N a b c p m pr mt w nums h14 hp hm h1 hp0 hm0
          · rcases hr with ⟨rfl, hno⟩ | hr
            · by_cases hl : 256 < nums.size + pr.size + mt.size + 2
              · exact built_long N a b c p m pr mt w nums h14 hp hm h1 (by omega) hl hp0 hm0 _ h2 h3
              · have hpl : 1 ≤ pr.size := by rw [size_eq]; exact List.length_pos_iff.2 (fun h => hp0 (ne_data.2 h))
                have hml : 1 ≤ mt.size := by rw [size_eq]; exact List.length_pos_iff.2 (fun h => hm0 (ne_data.2 h))
                have d1 : (⟨#[45]⟩ : ByteArray).size = 1 := rfl
                have d2 : (⟨#[43]⟩ : ByteArray).size = 1 := rfl
                have F0 : ∀ W, Below w.heap.size w W → Calls Tryd.prog 45 #[.string ((((nums ++ ⟨#[45]⟩) ++ pr) ++ ⟨#[43]⟩) ++ mt)] W fun e w' => e = .returned (svVal (preOk pr && metaOk mt) a b c pr mt) ∧ Below W.heap.size W w' := fun W hW =>
                  sv_full a b c ha hb hc _ pr mt (by simp only [ByteArray.size_append, d1, d2]; omega) hno (by simp only [dapp, hnd]; simp) W t3 p3 t4 p4 (hGV.below hW) t5 p5 (hG5.below hW)
                have F1 : ∀ W, Below w.heap.size w W → Calls Tryd.prog 45 #[.string ((nums ++ ⟨#[45]⟩) ++ pr)] W fun e w' => e = .returned (svVal (preOk pr) a b c pr ⟨#[]⟩) ∧ Below W.heap.size W w' := fun W hW =>
                  sv_hyphen a b c ha hb hc _ pr (by simp only [ByteArray.size_append, d1]; omega) hno (by simp only [dapp, hnd]; simp) W t3 p3 t4 p4 (hGV.below hW)
                have F2 : ∀ W, Below w.heap.size w W → Calls Tryd.prog 45 #[.string ((nums ++ ⟨#[43]⟩) ++ mt)] W fun e w' => e = .returned (svVal (metaOk mt) a b c ⟨#[]⟩ mt) ∧ Below W.heap.size W w' := fun W hW =>
                  sv_plus a b c ha hb hc _ mt (by simp only [ByteArray.size_append, d2]; omega) (by simp only [dapp, hnd]; simp) W t5 p5 (hG5.below hW)
                have F3 : ∀ W, Below w.heap.size w W → Calls Tryd.prog 45 #[.string nums] W fun e w' => e = .returned (svVal true a b c ⟨#[]⟩ ⟨#[]⟩) ∧ Below W.heap.size W w' := fun W hW =>
                  sv_bare a b c ha hb hc _ (by omega) hnd W
                have F4 : ∀ W, Below w.heap.size w W → Calls Tryd.prog 46 #[.string pr] W fun e w' => e = .returned (.bool (preOk pr)) ∧ Below W.heap.size W w' := fun W hW => vpre_calls pr hp t3 p3 t4 p4 W (hGV.below hW)
                have F5 : ∀ W, Below w.heap.size w W → Calls Tryd.prog 47 #[.string mt] W fun e w' => e = .returned (.bool (metaOk mt)) ∧ Below W.heap.size W w' := fun W hW => vmeta_calls mt hm t5 p5 W (hG5.below hW)
                cases hop : preOk pr with
                | true =>
                  rw [hop] at F0 F1 F4
                  cases hom : metaOk mt with
                  | true =>
                    rw [hom] at F0 F2 F5
                    exact built_tt N a b c p m pr mt w nums _ h14 hp0 hm0 (by omega) h1 h2 h3 (Lib.hid F0) (Lib.hid F1) (Lib.hid F2) (Lib.hid F3) (Lib.hid F4) (Lib.hid F5)
                  | false =>
                    rw [hom] at F0 F2 F5
                    exact built_tf N a b c p m pr mt w nums _ h14 hp0 hm0 (by omega) h1 h2 h3 (Lib.hid F0) (Lib.hid F1) (Lib.hid F2) (Lib.hid F3) (Lib.hid F4) (Lib.hid F5)
                | false =>
                  rw [hop] at F0 F1 F4
                  cases hom : metaOk mt with
                  | true =>
                    rw [hom] at F0 F2 F5
                    exact built_ft N a b c p m pr mt w nums _ h14 hp0 hm0 (by omega) h1 h2 h3 (Lib.hid F0) (Lib.hid F1) (Lib.hid F2) (Lib.hid F3) (Lib.hid F4) (Lib.hid F5)
                  | false =>
                    rw [hom] at F0 F2 F5
                    exact built_ff N a b c p m pr mt w nums _ h14 hp0 hm0 (by omega) h1 h2 h3 (Lib.hid F0) (Lib.hid F1) (Lib.hid F2) (Lib.hid F3) (Lib.hid F4) (Lib.hid F5)
            · exact built_plus N a b c p m pr mt w nums h14 hp hm h1 hp0 hm0 _ r h2 h3 hr
      · exact built_meta 0 a b c p m pr mt w h14 hp (by omega)
    · exact built_pre 0 a b c p m pr mt w h14 (by omega)
end Go.Proofs.YtgenbmhmcnaiiaaDoor.lawStrictBuilt
