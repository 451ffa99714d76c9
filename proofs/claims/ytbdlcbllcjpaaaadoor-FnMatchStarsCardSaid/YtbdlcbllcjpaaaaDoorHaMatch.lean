/- laws.matchName, over a pattern without a bracket and a backslash and a plain name that is not empty: whether the pattern matches; no error. -/
import Derived.Test.YtbdlcbllcjpaaaaDoorHaPm
import Derived.Test.YtbdlcbllcjpaaaaDoorHaRef
namespace Go.Proofs.YtbdlcbllcjpaaaaDoor.H
open Go.RowKit Go.Proofs.YtbdlcbllcjpaaaaDoorW.PrintWords Go.Proofs.YtbdlcbllcjpaaaaDoor.PG
set_option linter.unusedVariables false
set_option linter.unusedSimpArgs false
set_option maxRecDepth 100000

theorem famMatch_calls (p n : ByteArray) (g : Bool) (hg : ∃ k, path_Match.f k p n = some (g, none)) (w : World) :
    Calls Tryd.prog 11 #[.string p, .iface 49 (.agg #[.string ⟨#[]⟩, .string n])] w fun e w' => e = .returned (.tuple #[.bool g, .nilIface]) ∧ Below w.heap.size w w' := by
  obtain ⟨k, hk⟩ := hg
  have M := Lib.hid (fun W => (path_Match.calls k p n g none W hk : Calls Tryd.prog 13 #[.string p, .string n] W fun e w' => e = .returned (.tuple #[.bool g, .nilIface]) ∧ Below W.heap.size W w'))
  clear hk
  have hu34 := Tryd.underlying34
  have a1 := as49_44
  cases g with
  | true =>
    go_enter Tryd.func11, Tryd.ntmps11
    go_wp2_with (first | (go_at_call 14; refine (famString_calls n _).mono ?_; rintro e w1 ⟨rfl, hb⟩; have q1 := Lib.hid hb; clear hb) | (go_at_call 13; refine (M.out _).mono ?_; rintro e w2 ⟨rfl, hb⟩; have q2 := Lib.hid (chain q1.out hb); clear hb))
    go_ret2
    exact ⟨rfl, q2.out⟩
  | false =>
    go_enter Tryd.func11, Tryd.ntmps11
    go_wp2_with (first | (go_at_call 14; refine (famString_calls n _).mono ?_; rintro e w1 ⟨rfl, hb⟩; have q1 := Lib.hid hb; clear hb) | (go_at_call 15; refine (famName_calls n _).mono ?_; rintro e w3 ⟨rfl, hb⟩; have q1 := Lib.hid (chain q2.out hb); clear hb q2) | (go_at_call 13; refine (M.out _).mono ?_; rintro e w2 ⟨rfl, hb⟩; have q2 := Lib.hid (chain q1.out hb); clear hb q1))
    go_ret2
    exact ⟨rfl, q2.out⟩
theorem refMatch_calls (p n : ByteArray) (hn : n.toList ≠ []) (g : Bool) (hg : ∃ k, path_Match.f k p n = some (g, none)) (w : World) :
    Calls Tryd.prog 9 #[.string p, .agg #[.string ⟨#[]⟩, .string n, .string ⟨#[]⟩, .string ⟨#[]⟩]] w fun e w' => e = .returned (.tuple #[.bool g, .bool true]) ∧ Below w.heap.size w w' := by
  have M := Lib.hid (famMatch_calls p n g hg)
  have R := Lib.hid (ref_calls n hn)
  clear hg
  have hu32 := Tryd.underlying32
  have hu34 := Tryd.underlying34
  have hu37 := Tryd.underlying37
  have q0 := Lib.hid (below_new' w (.cells #[.string ⟨#[]⟩, .string n, .string ⟨#[]⟩, .string ⟨#[]⟩] 32))
  cases g with
  | true =>
    go_enter Tryd.func9, Tryd.ntmps9
    go_wp2_with (first | (go_at_call 10; refine (R.out _).mono ?_; rintro e w1 ⟨rfl, hb⟩; have q1 := Lib.hid (chain q0.out hb); clear hb) | (go_at_call 11; refine (M.out _).mono ?_; rintro e w2 ⟨rfl, hb⟩; have q2 := Lib.hid (chain q1.out hb); clear hb q1))
    repeat (go_quiet (fail); try go_wp2)
    go_ret2
    exact ⟨rfl, by repeat (first | exact q2.out | apply pw_below_drewN | apply below_drew1)⟩
  | false =>
    go_enter Tryd.func9, Tryd.ntmps9
    go_wp2_with (first | (go_at_call 10; refine (R.out _).mono ?_; rintro e w1 ⟨rfl, hb⟩; have q1 := Lib.hid (chain q0.out hb); clear hb) | (go_at_call 11; refine (M.out _).mono ?_; rintro e w2 ⟨rfl, hb⟩; have q2 := Lib.hid (chain q1.out hb); clear hb q1))
    repeat (go_quiet (fail); try go_wp2)
    go_ret2
    exact ⟨rfl, by repeat (first | exact q2.out | apply pw_below_drewN | apply below_drew1)⟩

/-- What is asked of a pattern and a name: no bracket, no backslash, plain bytes, a name, both of some size. -/
def askd (p n : List UInt8) : Bool := p.all (fun b => b != 91 && b != 92) && n.all (fun b => decide (b.toNat < 128)) && !n.isEmpty && decide (p.length ≤ 2147483647) && decide (n.length ≤ 2147483647)
def laws_matchName.f (a0 a1 : ByteArray) : Option (Bool × Bool) := if askd a0.data.toList a1.data.toList = true then some (glob a0.data.toList a1.data.toList, true) else none
theorem askd_of {p n : List UInt8} (h : askd p n = true) : NoB p ∧ Pl n ∧ n ≠ [] ∧ p.length ≤ 2147483647 ∧ n.length ≤ 2147483647 := by
  simp only [askd, Bool.and_eq_true, List.all_eq_true, Bool.not_eq_true', List.isEmpty_eq_false_iff, decide_eq_true_eq, bne_iff_ne] at h
  obtain ⟨⟨⟨⟨h1, h2⟩, h3⟩, h4⟩, h5⟩ := h
  exact ⟨fun b hb => h1 b hb, fun b hb => h2 b hb, h3, h4, h5⟩
theorem laws_matchName.calls (a0 a1 : ByteArray) (r1 r2 : Bool) (w : World) (h : laws_matchName.f a0 a1 = some (r1, r2)) :
    Calls Tryd.prog 7 #[.string a0, .string a1] w fun e w' => e = .returned (.tuple #[.bool r1, .bool r2]) ∧ Below w.heap.size w w' := by
  unfold laws_matchName.f at h
  split at h
  · rename_i ha
    obtain ⟨hp, hn, hne, hpl, hnl⟩ := askd_of ha
    simp only [Option.some.injEq, Prod.mk.injEq] at h
    obtain ⟨rfl, rfl⟩ := h
    have hk := (match_ev _ _ hp hpl hn hnl).get
    rw [ba_of, ba_of] at hk
    have M := Lib.hid (refMatch_calls a0 a1 (by rw [toList_eq]; exact hne) _ hk)
    clear hk hp hn hne hpl hnl ha
    generalize glob a0.data.toList a1.data.toList = g at *
    have hu32 := Tryd.underlying32
    go_enter Tryd.func7, Tryd.ntmps7
    go_wp2_with (go_at_call 9; refine (M.out _).mono ?_; rintro e w1 ⟨rfl, hb⟩)
    go_ret2
    exact ⟨rfl, hb⟩
  · cases h
end Go.Proofs.YtbdlcbllcjpaaaaDoor.H
