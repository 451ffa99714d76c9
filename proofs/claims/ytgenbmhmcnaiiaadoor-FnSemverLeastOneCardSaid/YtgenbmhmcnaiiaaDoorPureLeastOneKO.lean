/- FnSemverLeastOne gives true for every argument. -/
import Derived.Test.YtgenbmhmcnaiiaaDoorLeastKO
import Derived.Test.YtgenbmhmcnaiiaaDoorStrKO
namespace Go.Proofs.YtgenbmhmcnaiiaaDoor.lawLeastOne
open Go.RowKit Go.Proofs.YtgenbmhmcnaiiaaDoor.PG Go.Proofs.YtgenbmhmcnaiiaaDoor.H
open Go.Proofs.YtgenbmhmcnaiiaaDoorW.PrintWords hiding Ev Ev.bind
set_option linter.unusedVariables false
set_option linter.unusedSimpArgs false

theorem termR_of {t : S54} (h : termOks t) : termR t := by
  obtain ⟨h1, h2, h3⟩ := h
  have r1 := u64_range h1
  have r2 := u64_range h2
  have r3 := u64_range h3
  unfold termR inR
  omega
theorem holds_of (l0 : List (List S54)) (hf : fitsC l0 = true) (ht : ∀ l ∈ l0, ∀ t ∈ l, termOks t) (a b c : Int) (p m : ByteArray) (hp : p.size ≤ 2147483647) : impl_TermsHold.f l0 a b c p m false = some (l0.any (groupOk false a b c p)) := by
  have hok : ∀ l ∈ l0, ∀ x ∈ l, okT x := by
    intro l hl x hx
    have r := termR_of (ht l hl x hx)
    unfold termR inR at r
    exact ⟨(fitsC_mem hf hl).2 x hx, r.1.1, r.2.1.1, opText_known _⟩
  unfold impl_TermsHold.f
  rw [if_pos ⟨hp, fitsC_len hf, fun l hl => (fitsC_mem hf hl).1, hok⟩]
theorem all_holds (a b c : Int) (ha : 0 ≤ a) (hb : 0 ≤ b) (hc : 0 ≤ c) : impl_TermsHold.f siAllL a b c ⟨#[]⟩ ⟨#[]⟩ false = some true := by
  unfold impl_TermsHold.f siAllL
  have hp0 : hasPre (⟨4, 3, 0, 0, 0, ⟨#[48]⟩⟩ : S54) = true := by decide
  rw [if_pos ⟨by decide, by simp, by simp, by simp [okT, opText_known, show (⟨#[48]⟩ : ByteArray).size = 1 from rfl]⟩]
  have ht : termOk (⟨4, 3, 0, 0, 0, ⟨#[48]⟩⟩ : S54) true a b c ⟨#[]⟩ = true := by
    unfold termOk
    rw [checkHolds_op (show (0 : Int) ≤ 4 by decide) (show (4 : Int) < 8 by decide)]
    have h := (ver_EE a b c 0 0 0 (⟨#[48]⟩ : ByteArray)).1
    have hn : ¬ verCmp a b c EE 0 0 0 (⟨#[48]⟩ : ByteArray) < 0 := by
      rw [h]
      unfold le3
      omega
    have hge : 0 ≤ verCmp a b c EE 0 0 0 (⟨#[48]⟩ : ByteArray) := by omega
    unfold EE at hge
    simpa [opHolds, geHolds] using hge
  simp only [List.any_cons, List.any_nil, Bool.or_false, groupOk, List.all_cons, List.all_nil, hp0, Bool.and_true, Bool.false_or, ht]

theorem law (A0 : Option Addr) (c0 : Nat) (l0 : List (List S54)) (a b c : Int) (p m : ByteArray) (w : World) (hG : GE w) (hr0 : Kd.C (Kd.slice 54 k54) w A0 l0.length l0) (hc0 : l0.length ≤ c0) (ht : ∀ l ∈ l0, ∀ t ∈ l, termOks t) (ya : u64ok a) (yb : u64ok b) (yc : u64ok c) :
    Calls Tryd.prog 19 #[.slice A0 l0.length c0, .agg #[.int .u64 a, .int .u64 b, .int .u64 c, .string p, .string m]] w fun e w' => e = .returned (.bool true) ∧ Below w.heap.size w w' := by
  have ra := u64_range ya
  have rb := u64_range yb
  have rc := u64_range yc
  obtain ⟨N1, h1'⟩ := fits11_ev l0
  have h1 : ∀ k, N1 ≤ k → laws_zzFits11.f k l0 = some (fitsC l0) := h1'
  cases hf : fitsC l0 with
  | false => exact least_unfit1 N1 A0 c0 l0 a b c p m w hr0 hc0 (by rw [h1 N1 (Nat.le_refl _), hf])
  | true =>
    cases h14 : fits14 p m with
    | false => exact least_unfit2 N1 A0 c0 l0 a b c p m w hr0 hc0 (by rw [h1 N1 (Nat.le_refl _), hf]) (by rw [fits14_ev, h14])
    | true =>
      obtain ⟨N2, h2⟩ := siGood_ev l0 hf
      have k1 : laws_zzFits11.f (max N1 N2) l0 = some true := by rw [h1 _ (by omega), hf]
      have k2 : laws_zzFits14.f a b c p m = some true := by rw [fits14_ev, h14]
      have k3 : laws_siGood.f (max N1 N2) [l0] = some (siGood l0) := h2 _ (by omega)
      cases hs : siGood l0 with
      | false => exact least_bad (max N1 N2) A0 c0 l0 a b c p m w hr0 hc0 hG k1 k2 (by rw [k3, hs])
      | true =>
        rw [hs] at k3
        have hg0 : goodC 10 0 l0 = true := by
          unfold siGood at hs
          rw [Bool.and_eq_true] at hs
          exact hs.1
        have hsum := goodC_sum (by omega) (by omega) hg0
        have hgm := goodC_mem hg0
        have hr : ∀ l ∈ l0, ∀ t ∈ l, termR t := fun l hl t htm => termR_of (ht l hl t htm)
        have hv : isRel (⟨a, b, c, EE, EE⟩ : S27) := ⟨ra, rb, rc, rfl, rfl⟩
        have k4 := holds_of l0 hf ht a b c ⟨#[]⟩ ⟨#[]⟩ (by decide)
        cases hh : l0.any (groupOk false a b c ⟨#[]⟩) with
        | false =>
          rw [hh] at k4
          exact least_none (max N1 N2) A0 c0 l0 a b c p m w hr0 hc0 hG k1 k2 k3 k4 true (all_holds a b c ra.1 rb.1 rc.1)
        | true =>
          rw [hh] at k4
          have hrel := points_rel l0 hr
          have hsz : ∀ x ∈ pointsL l0, x.f3.size ≤ 2147483647 := fun x hx => by rw [(hrel x hx).2.2.2.1]; decide
          have := least_found (max N1 N2) A0 c0 l0 a b c p m w hr0 hc0 hG (fitsC_len hf) (by omega) k1 k2 k3 k4 (fun x hx => holds_of l0 hf ht x.f0 x.f1 x.f2 x.f3 x.f4 (hsz x hx)) hsz
          have hl := least_law l0 hgm hr ⟨a, b, c, EE, EE⟩ hv hh
          rw [show ((leastL l0).1 && decide (verCmp (leastL l0).2.f0 (leastL l0).2.f1 (leastL l0).2.f2 (leastL l0).2.f3 a b c ⟨#[]⟩ ≤ 0)) = true from hl] at this
          exact this
end Go.Proofs.YtgenbmhmcnaiiaaDoor.lawLeastOne
