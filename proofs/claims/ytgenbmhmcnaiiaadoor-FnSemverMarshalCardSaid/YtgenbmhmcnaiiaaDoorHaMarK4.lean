/- MarshalText and the printed form of a version: the thin functions. -/
import Derived.Test.YtgenbmhmcnaiiaaDoorHaStringK4
namespace Go.Proofs.YtgenbmhmcnaiiaaDoor.H
open Go.RowKit Go.Proofs.YtgenbmhmcnaiiaaDoorW.PrintWords
set_option linter.unusedVariables false
set_option linter.unusedSimpArgs false

/-- A slice of bytes that is read (its block may be of any make). -/
def BR (w : World) (v : Value) (xs : List Int) : Prop := ∃ A c, v = .slice A xs.length c ∧ xs.length ≤ c ∧ Kd.C (Kd.int .u8) w A xs.length xs
theorem BR_below {w w' : World} {v : Value} {xs : List Int} (h : BR w v xs) (hb : Below w.heap.size w w') : BR w' v xs := by
  obtain ⟨A, c, e, hc, hr⟩ := h
  exact ⟨A, c, e, hc, Kd.C_below hr hb⟩
theorem BR_alloc {w : World} {v : Value} {xs : List Int} (h : BR w v xs) (o : Obj) : BR (w.alloc o) v xs := BR_below h (below_new _ _)
theorem BR_drewN {w : World} {v : Value} {xs : List Int} (h : BR w v xs) (n : Nat) : BR (w.drewN n) v xs := BR_below h (pw_below_drewN (Below.refl _ _) n)
theorem BR_drew {w : World} {v : Value} {xs : List Int} (h : BR w v xs) : BR w.drew v xs := BR_below h (Below.refl _ _).drew
theorem BR_lower {w : World} {v : Value} {xs : List Int} (h : BR w v xs) {p : Prop} (_ : p) : BR w v xs := h
theorem BR_slice {w : World} {v : Value} {xs : List Int} (h : BR w v xs) : ∃ A c, v = .slice A xs.length c := by
  obtain ⟨A, c, e, _⟩ := h
  exact ⟨A, c, e⟩
theorem BR_reads' {w : World} {A : Option Addr} {n c : Nat} {xs : List Int} (h : BR w (.slice A n c) xs) : n = xs.length ∧ n ≤ c ∧ Kd.C (Kd.int .u8) w A xs.length xs := by
  obtain ⟨A', c', he, hc, hr⟩ := h
  injection he with h1 h2 h3
  subst h1 h2 h3
  exact ⟨rfl, hc, hr⟩
theorem BR_bytes (W : World) (s : ByteArray) (hs : s.size ≤ 9223372036854775807) (c : Nat) (hc : s.size ≤ c) : BR (Lib.bytesWorld W 5 s) (.slice (some ⟨W.heap.size, 0, none⟩) s.size c) (bytesOf s) := by
  have h := bytes_reads W 5 s hs
  refine ⟨_, c, by rw [bytesOf_length], by rw [bytesOf_length]; exact hc, ?_⟩
  rw [bytesOf_length]
  exact Kd.C_of_reads (d := 0) h

theorem verText_size (a b c : Int) (p m : ByteArray) (ya : 0 ≤ a ∧ a ≤ 18446744073709551615) (yb : 0 ≤ b ∧ b ≤ 18446744073709551615) (yc : 0 ≤ c ∧ c ≤ 18446744073709551615) (hp : p.size ≤ 2147483647) (hm : m.size ≤ 2147483647) : (verText a b c p m).size ≤ 4294967400 := by
  have h1 := numText_size a ya.1 ya.2
  have h2 := numText_size b yb.1 yb.2
  have h3 := numText_size c yc.1 yc.2
  unfold verText tailText threeText
  have d1 : (⟨#[46]⟩ : ByteArray).size = 1 := rfl
  have d2 : (⟨#[45]⟩ : ByteArray).size = 1 := rfl
  have d3 : (⟨#[43]⟩ : ByteArray).size = 1 := rfl
  split <;> split <;> simp only [ByteArray.size_append, d1, d2, d3] <;> omega

set_option maxRecDepth 100000 in
set_option maxHeartbeats 2000000 in
theorem marshal_calls (a b c : Int) (p m o : ByteArray) (ya : 0 ≤ a ∧ a ≤ 18446744073709551615) (yb : 0 ≤ b ∧ b ≤ 18446744073709551615) (yc : 0 ≤ c ∧ c ≤ 18446744073709551615) (hp : p.size ≤ 2147483647) (hm : m.size ≤ 2147483647) (w : World) (hT : GT w) :
    Calls Tryd.prog 80 #[.agg #[.int .u64 a, .int .u64 b, .int .u64 c, .string p, .string m, .string o]] w fun e w' => (∃ v, e = .returned (.tuple #[v, .nilIface]) ∧ BR w' v (bytesOf (verText a b c p m))) ∧ Below w.heap.size w w' := by
  have hu88 := Tryd.underlying88
  have FS := Lib.hid (fun w h => string_calls a b c p m o ya yb yc hp hm w h)
  have ST := verText_size a b c p m ya yb yc hp hm
  have HT := Lib.hid hT
  generalize verText a b c p m = T at *
  have kb := fun W => print_bytes (P := Tryd.prog) 9 29 5 Tryd.underlying9 Tryd.underlying29 Tryd.underlying5 T W
  clear hp hm hT
  go_enter Tryd.func80, Tryd.ntmps80
  go_wp2_with (go_at_call 82; refine (FS.out _ (HT.out.below (below_new _ _))).mono ?_; rintro e w1 ⟨rfl, hb⟩)
  go_ret2
  exact ⟨⟨_, rfl, BR_bytes _ _ (by omega) _ (grownCap_ge _ _ _ _)⟩, bytes_below (chain (below_new _ _) hb) (by have := hb.size; simp at this; omega) _ _⟩

set_option maxRecDepth 100000 in
set_option maxHeartbeats 2000000 in
theorem vtext_calls (a b c : Int) (p m : ByteArray) (ya : 0 ≤ a ∧ a ≤ 18446744073709551615) (yb : 0 ≤ b ∧ b ≤ 18446744073709551615) (yc : 0 ≤ c ∧ c ≤ 18446744073709551615) (hp : p.size ≤ 2147483647) (hm : m.size ≤ 2147483647) (w : World) (hT : GT w) :
    Calls Tryd.prog 28 #[.agg #[.int .u64 a, .int .u64 b, .int .u64 c, .string p, .string m]] w fun e w' => e = .returned (.string (verText a b c p m)) ∧ Below w.heap.size w w' := by
  have hu88 := Tryd.underlying88
  have hu27 := Tryd.underlying27
  have FS := Lib.hid (fun w h => string_calls a b c p m ⟨#[]⟩ ya yb yc hp hm w h)
  have HT := Lib.hid hT
  generalize verText a b c p m = T at *
  have q0 : Below w.heap.size w (w.alloc (.cells #[.int .u64 a, .int .u64 b, .int .u64 c, .string p, .string m] 27)) := below_new _ _
  clear hp hm hT
  go_enter Tryd.func28, Tryd.ntmps28
  go_wp2_with (first
    | (go_at_call 79; refine (version_calls _ _ _ _ _ _).mono ?_; rintro e w1 ⟨⟨v, rfl, g, rfl, hv, hg⟩, hb⟩; obtain ⟨z0, z1, z2, z3, z4, z5⟩ := hv.cells; replace q0 := chain q0 hb)
    | (go_at_call 82; refine (FS.out _ (HT.out.below q0)).mono ?_; rintro e w2 ⟨rfl, hb2⟩; replace q0 := chain q0 hb2))
  go_ret
  exact ⟨rfl, q0⟩

set_option maxRecDepth 100000 in
set_option maxHeartbeats 2000000 in
theorem vmarshal_calls (a b c : Int) (p m : ByteArray) (ya : 0 ≤ a ∧ a ≤ 18446744073709551615) (yb : 0 ≤ b ∧ b ≤ 18446744073709551615) (yc : 0 ≤ c ∧ c ≤ 18446744073709551615) (hp : p.size ≤ 2147483647) (hm : m.size ≤ 2147483647) (w : World) (hT : GT w) :
    Calls Tryd.prog 25 #[.agg #[.int .u64 a, .int .u64 b, .int .u64 c, .string p, .string m]] w fun e w' => ∃ v, e = .returned (.tuple #[v, .bool true]) ∧ BR w' v (bytesOf (verText a b c p m)) ∧ Below w.heap.size w w' := by
  have hu88 := Tryd.underlying88
  have hu27 := Tryd.underlying27
  have hu79 := Tryd.underlying79
  have FS := Lib.hid (fun w h => marshal_calls a b c p m ⟨#[]⟩ ya yb yc hp hm w h)
  have HT := Lib.hid hT
  generalize bytesOf (verText a b c p m) = T at *
  have q0 : Below w.heap.size w (w.alloc (.cells #[.int .u64 a, .int .u64 b, .int .u64 c, .string p, .string m] 27)) := below_new _ _
  clear hp hm hT
  go_enter Tryd.func25, Tryd.ntmps25
  go_wp2_with (first
    | (go_at_call 79; refine (version_calls _ _ _ _ _ _).mono ?_; rintro e w1 ⟨⟨v, rfl, g, rfl, hv, hg⟩, hb⟩; obtain ⟨z0, z1, z2, z3, z4, z5⟩ := hv.cells; replace q0 := chain q0 hb)
    | (go_at_call 80; refine (FS.out _ (HT.out.below q0)).mono ?_; rintro e w2 ⟨⟨v2, rfl, hv2⟩, hb2⟩; replace q0 := chain q0 hb2; obtain ⟨A2, c2, rfl⟩ := BR_slice hv2))
  refine region_row mixed (by kernel_rfl) (fun i _ v => match i with
      | 0 => v = .slice A2 T.length c2
      | 1 => v = .nilIface
      | 2 => v = .bool true
      | 3 => v = .slice A2 T.length c2
      | 4 => v = .bool true
      | _ => True) Gr (Gr.refl _) Gr.trans ?_ ?_ ?_
  · exact fun h _ => h
  · refine ⟨?_, ?_, ?_, ?_, ?_, trivial⟩
    · intro x wx hR hd hs
      have e2 := ev_of (hs 2 (by kernel_rfl) : x.eval (.tmp 2) = .slice A2 T.length c2)
      clear hd hs
      refine wpOp_plain rfl rfl ?_
      go_simp
      exact ⟨_, rfl, rfl, Gr.refl _⟩
    · intro x wx hR hd hs
      have e4 := ev_of (hs 4 (by kernel_rfl) : x.eval (.tmp 4) = .nilIface)
      clear hd hs
      refine wpOp_plain rfl rfl ?_
      go_simp
      exact ⟨_, rfl, rfl, Gr.refl _⟩
    · intro x wx hR hd hs
      have e14 := ev_of (hd 1 _ 14 rfl rfl (by kernel_rfl) : x.eval (.tmp 14) = .nilIface)
      clear hd hs
      refine wpOp_plain rfl rfl ?_
      go_simp
      exact ⟨_, rfl, rfl, Gr.refl _⟩
    · intro x wx hR hd hs
      have e13 := ev_of (hd 0 _ 13 rfl rfl (by kernel_rfl) : x.eval (.tmp 13) = .slice A2 T.length c2)
      clear hd hs
      refine wpOp_plain rfl rfl ?_
      go_simp
      exact ⟨_, rfl, rfl, Gr.refl _⟩
    · intro x wx hR hd hs
      have e15 := ev_of (hd 2 _ 15 rfl rfl (by kernel_rfl) : x.eval (.tmp 15) = .bool true)
      clear hd hs
      refine wpOp_plain rfl rfl ?_
      go_simp
      exact ⟨_, rfl, rfl, Gr.refl _⟩
  · intro vs wq hl hR hv
    obtain ⟨v0, v1, v2, v3, v4, rfl⟩ := list_5 hl
    obtain rfl : .slice A2 T.length c2 = v0 := (hv 0 v0 rfl).symm
    obtain rfl : .nilIface = v1 := (hv 1 v1 rfl).symm
    obtain rfl : .bool true = v2 := (hv 2 v2 rfl).symm
    obtain rfl : .slice A2 T.length c2 = v3 := (hv 3 v3 rfl).symm
    obtain rfl : .bool true = v4 := (hv 4 v4 rfl).symm
    clear hv hl
    simp only [List.map_cons, List.map_nil, putAll, Act.put, List.setIfInBounds_toArray, List.set_cons_zero, List.set_cons_succ]
    go_wp2
    go_ret2
    exact ⟨_, rfl, BR_below hv2 (drew_chain hR), chain q0 (drew_chain hR)⟩

def okText (a b c : Int) (p m : ByteArray) : Prop := ((0 ≤ a ∧ a ≤ 18446744073709551615) ∧ (0 ≤ b ∧ b ≤ 18446744073709551615) ∧ (0 ≤ c ∧ c ≤ 18446744073709551615)) ∧ p.size ≤ 2147483647 ∧ m.size ≤ 2147483647
instance (a b c : Int) (p m : ByteArray) : Decidable (okText a b c p m) := by unfold okText; infer_instance
def impl_VersionText.f (a b c : Int) (p m : ByteArray) : Option ByteArray := if okText a b c p m then some (verText a b c p m) else none
theorem impl_VersionText.calls (a b c : Int) (p m : ByteArray) (r : ByteArray) (w : World) (hT : GT w) (h : impl_VersionText.f a b c p m = some r) :
    Calls Tryd.prog 28 #[.agg #[.int .u64 a, .int .u64 b, .int .u64 c, .string p, .string m]] w fun e w' => e = .returned (.string r) ∧ Below w.heap.size w w' := by
  unfold impl_VersionText.f at h
  split at h
  · rename_i hh
    cases h
    exact vtext_calls a b c p m hh.1.1 hh.1.2.1 hh.1.2.2 hh.2.1 hh.2.2 w hT
  · cases h
def impl_VersionMarshal.f (a b c : Int) (p m : ByteArray) : Option (List Int × Bool) := if okText a b c p m then some (bytesOf (verText a b c p m), true) else none
theorem impl_VersionMarshal.calls (a b c : Int) (p m : ByteArray) (r0 : List Int) (r1 : Bool) (w : World) (hT : GT w) (h : impl_VersionMarshal.f a b c p m = some (r0, r1)) :
    Calls Tryd.prog 25 #[.agg #[.int .u64 a, .int .u64 b, .int .u64 c, .string p, .string m]] w fun e w' => ∃ v, e = .returned (.tuple #[v, .bool r1]) ∧ BR w' v r0 ∧ Below w.heap.size w w' := by
  unfold impl_VersionMarshal.f at h
  split at h
  · rename_i hh
    simp only [Option.some.injEq, Prod.mk.injEq] at h
    obtain ⟨rfl, rfl⟩ := h
    exact vmarshal_calls a b c p m hh.1.1 hh.1.2.1 hh.1.2.2 hh.2.1 hh.2.2 w hT
  · cases h
end Go.Proofs.YtgenbmhmcnaiiaaDoor.H
