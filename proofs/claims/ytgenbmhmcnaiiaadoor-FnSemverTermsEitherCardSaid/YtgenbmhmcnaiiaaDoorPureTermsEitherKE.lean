/- FnSemverTermsEither gives true for every argument. -/
import Derived.Test.YtgenbmhmcnaiiaaDoorEithKE
import Derived.Test.YtgenbmhmcnaiiaaDoorStrKE
import Derived.Test.YtgenbmhmcnaiiaaDoorHaTGoodKE
import Derived.Test.YtgenbmhmcnaiiaaDoorHaAntiKE
import Derived.Test.YtgenbmhmcnaiiaaDoorHaCheck3KE
namespace Go.Proofs.YtgenbmhmcnaiiaaDoor.lawTermsEither
open Go.RowKit Go.Proofs.YtgenbmhmcnaiiaaDoor.PG Go.Proofs.YtgenbmhmcnaiiaaDoor.H
open Go.Proofs.YtgenbmhmcnaiiaaDoorW.PrintWords hiding Ev Ev.bind
set_option linter.unusedVariables false
set_option linter.unusedSimpArgs false

theorem good_len {most : Int} : ∀ {c : List (List S54)} {n : Int}, goodC most n c = true → n ≤ most → n + (c.length : Int) ≤ most
  | [], n, h, hn => by simpa using hn
  | x :: c, n, h, hn => by
    simp only [goodC, Bool.and_eq_true, decide_eq_true_eq, Bool.not_eq_true', List.isEmpty_eq_false_iff] at h
    have := good_len h.2.2.2 h.2.2.1
    have hx := List.length_pos_iff.2 h.2.1
    rw [List.length_cons]
    omega
theorem okT_of {l0 : List (List S54)} (hf : fitsC l0 = true) (ht : ∀ l ∈ l0, ∀ t ∈ l, termOks t) : ∀ l ∈ l0, l.length ≤ 2147483647 ∧ ∀ x ∈ l, okT x := by
  intro l hl
  refine ⟨(fitsC_mem hf hl).1, fun x hx => ?_⟩
  obtain ⟨h1, h2, h3⟩ := ht l hl x hx
  exact ⟨(fitsC_mem hf hl).2 x hx, (u64_range h1).1, (u64_range h2).1, opText_known _⟩
theorem holds_of (l0 : List (List S54)) (hn : l0.length ≤ 2147483647) (hk : ∀ l ∈ l0, l.length ≤ 2147483647 ∧ ∀ x ∈ l, okT x) (a b c : Int) (p m : ByteArray) (pre : Bool) (hp : p.size ≤ 2147483647) : impl_TermsHold.f l0 a b c p m pre = some (l0.any (groupOk pre a b c p)) := by
  unfold impl_TermsHold.f
  rw [if_pos ⟨hp, hn, fun l hl => (hk l hl).1, fun l hl => (hk l hl).2⟩]
theorem own_holds (a b c : Int) (p : ByteArray) (pre : Bool) (hp : okPre p.data.toList) : groupOk pre a b c p [(⟨0, 3, a, b, c, p⟩ : S54)] = true := by
  unfold groupOk
  simp only [List.any_cons, List.any_nil, Bool.or_false, List.all_cons, List.all_nil, Bool.and_true]
  unfold termOk
  rw [checkHolds_op (show (0 : Int) ≤ 0 by decide) (show (0 : Int) < 8 by decide)]
  have hv := ver_same (a := a) (b := b) (c := c) hp
  unfold opHolds eqHolds hasPre
  rw [if_pos rfl, hv, toList_eq]
  cases h : p.data.toList <;> simp

theorem law (A0 : Option Addr) (c0 : Nat) (l0 : List (List S54)) (A1 : Option Addr) (c1 : Nat) (l1 : List (List S54)) (a b c : Int) (p m : ByteArray) (pre : Bool) (w : World) (hG : GE w) (hr0 : Kd.C (Kd.slice 54 k54) w A0 l0.length l0) (hc0 : l0.length ≤ c0) (hr1 : Kd.C (Kd.slice 54 k54) w A1 l1.length l1) (hc1 : l1.length ≤ c1)
    (ht0 : ∀ l ∈ l0, ∀ t ∈ l, termOks t) (ht1 : ∀ l ∈ l1, ∀ t ∈ l, termOks t) (ya : u64ok a) (yb : u64ok b) (yc : u64ok c) :
    Calls Tryd.prog 17 #[.slice A0 l0.length c0, .slice A1 l1.length c1, .agg #[.int .u64 a, .int .u64 b, .int .u64 c, .string p, .string m], .bool pre] w fun e w' => e = .returned (.bool true) ∧ Below w.heap.size w w' := by
  have ra := u64_range ya
  have rb := u64_range yb
  obtain ⟨N1, h1'⟩ := fits11_ev l0
  have h1 : ∀ k, N1 ≤ k → laws_zzFits11.f k l0 = some (fitsC l0) := h1'
  obtain ⟨N2, h2'⟩ := fits11_ev l1
  have h2 : ∀ k, N2 ≤ k → laws_zzFits11.f k l1 = some (fitsC l1) := h2'
  cases hf0 : fitsC l0 with
  | false => exact either_bad0 N1 A0 c0 l0 A1 c1 l1 a b c p m pre w hr0 hc0 hr1 hc1 (by rw [h1 _ (Nat.le_refl _), hf0])
  | true =>
    rw [hf0] at h1
    cases hf1 : fitsC l1 with
    | false => exact either_bad1 (N1 + N2) A0 c0 l0 A1 c1 l1 a b c p m pre w hr0 hc0 hr1 hc1 (h1 _ (by omega)) (by rw [h2 _ (by omega), hf1])
    | true =>
      rw [hf1] at h2
      cases h14 : fits14 p m with
      | false => exact either_bad2 (N1 + N2) A0 c0 l0 A1 c1 l1 a b c p m pre w hr0 hc0 hr1 hc1 (h1 _ (by omega)) (h2 _ (by omega)) (by rw [fits14_ev, h14])
      | true =>
        have h3 : laws_zzFits14.f a b c p m = some true := by rw [fits14_ev, h14]
        obtain ⟨sp, sm⟩ := fits14_iff.1 h14
        obtain ⟨N4, h4'⟩ := scGood_ev l0 hf0
        have h4 : ∀ k, N4 ≤ k → laws_scGood.f k l0 = some (scGood l0) := h4'
        obtain ⟨N5, h5'⟩ := scGood_ev l1 hf1
        have h5 : ∀ k, N5 ≤ k → laws_scGood.f k l1 = some (scGood l1) := h5'
        obtain ⟨N6, h6'⟩ := svGood_ev [⟨a, b, c, p, m⟩] (by
          intro v hv
          simp only [List.mem_cons, List.not_mem_nil, or_false] at hv
          subst hv
          exact ⟨by show p.size < _; omega, by show m.size < _; omega⟩) (by simp)
        have h6 : ∀ k, N6 ≤ k → laws_svGood.f k [⟨a, b, c, p, m⟩] = some (([⟨a, b, c, p, m⟩] : List S27).all okVer && true) := h6'
        clear h1' h2' h4' h5' h6'
        obtain ⟨N, hN⟩ : ∃ N, N = N1 + N2 + N4 + N5 + N6 := ⟨_, rfl⟩
        replace h1 := h1 N (by omega)
        replace h2 := h2 N (by omega)
        replace h4 := h4 N (by omega)
        replace h5 := h5 N (by omega)
        replace h6 := h6 N (by omega)
        cases hs0 : scGood l0 with
        | false => exact either_bad3 N A0 c0 l0 A1 c1 l1 a b c p m pre w hr0 hc0 hr1 hc1 h1 h2 h3 (by rw [h4, hs0])
        | true =>
          rw [hs0] at h4
          cases hs1 : scGood l1 with
          | false => exact either_bad4 N A0 c0 l0 A1 c1 l1 a b c p m pre w hr0 hc0 hr1 hc1 h1 h2 h3 h4 (by rw [h5, hs1])
          | true =>
            rw [hs1] at h5
            cases hv : (([⟨a, b, c, p, m⟩] : List S27).all okVer && true) with
            | false => exact either_bad5 N A0 c0 l0 A1 c1 l1 a b c p m pre w hr0 hc0 hr1 hc1 h1 h2 h3 h4 h5 (by rw [h6, hv])
            | true =>
              rw [hv] at h6
              simp only [List.all_cons, List.all_nil, Bool.and_true] at hv
              have hok : okPre p.data.toList := okVer_pre hv
              have g0 : goodC 24 0 l0 = true := by unfold scGood at hs0; rw [Bool.and_eq_true] at hs0; exact hs0.1
              have g1 : goodC 24 0 l1 = true := by unfold scGood at hs1; rw [Bool.and_eq_true] at hs1; exact hs1.1
              have n0 := good_len g0 (by omega)
              have n1 := good_len g1 (by omega)
              have k0 := okT_of hf0 ht0
              have k1 := okT_of hf1 ht1
              have ke : ∀ l ∈ l0 ++ l1, l.length ≤ 2147483647 ∧ ∀ x ∈ l, okT x := by
                intro l hl
                rcases List.mem_append.1 hl with hl | hl
                · exact k0 l hl
                · exact k1 l hl
              have ko : ∀ l ∈ (l0 ++ l1) ++ [[(⟨0, 3, a, b, c, p⟩ : S54)]], l.length ≤ 2147483647 ∧ ∀ x ∈ l, okT x := by
                intro l hl
                rcases List.mem_append.1 hl with hl | hl
                · exact ke l hl
                · simp only [List.mem_cons, List.not_mem_nil, or_false] at hl
                  subst hl
                  refine ⟨by simp, fun x hx => ?_⟩
                  simp only [List.mem_cons, List.not_mem_nil, or_false] at hx
                  subst hx
                  exact ⟨sp, ra.1, rb.1, opText_known _⟩
              have tC := holds_of l0 (by omega) k0 a b c p m pre sp
              have tD := holds_of l1 (by omega) k1 a b c p m pre sp
              have tE := holds_of (l0 ++ l1) (by rw [List.length_append]; omega) ke a b c p m pre sp
              have tO := holds_of ((l0 ++ l1) ++ [[(⟨0, 3, a, b, c, p⟩ : S54)]]) (by simp only [List.length_append, List.length_cons, List.length_nil]; omega) ko a b c p m pre sp
              rw [List.any_append] at tE
              rw [List.any_append, List.any_cons, own_holds a b c p pre hok, Bool.true_or, Bool.or_true] at tO
              cases hC : l0.any (groupOk pre a b c p) with
              | true =>
                rw [hC] at tC tE
                rw [Bool.true_or] at tE
                exact either_tt N A0 c0 l0 A1 c1 l1 a b c p m pre w hr0 hc0 hr1 hc1 h1 h2 h3 h4 h5 h6 hG (fitsC_len hf0) (fitsC_len hf1) tE tC tO
              | false =>
                rw [hC] at tC tE
                rw [Bool.false_or] at tE
                cases hD : l1.any (groupOk pre a b c p) with
                | true =>
                  rw [hD] at tD tE
                  exact either_ft N A0 c0 l0 A1 c1 l1 a b c p m pre w hr0 hc0 hr1 hc1 h1 h2 h3 h4 h5 h6 hG (fitsC_len hf0) (fitsC_len hf1) tE tC tD tO
                | false =>
                  rw [hD] at tD tE
                  exact either_ff N A0 c0 l0 A1 c1 l1 a b c p m pre w hr0 hc0 hr1 hc1 h1 h2 h3 h4 h5 h6 hG (fitsC_len hf0) (fitsC_len hf1) tE tC tD tO
end Go.Proofs.YtgenbmhmcnaiiaaDoor.lawTermsEither
