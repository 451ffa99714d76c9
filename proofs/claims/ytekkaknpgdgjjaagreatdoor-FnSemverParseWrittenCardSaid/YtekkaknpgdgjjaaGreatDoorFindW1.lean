/- Texts of this claim, joined. -/
import Derived.Test.YtekkaknpgdgjjaaGreatDoorHaTryW1
import Derived.Test.YtekkaknpgdgjjaaGreatDoorRstW1
import Derived.ArgAppend
import Derived.StillTailTactics
import Derived.BigQuiet
/- The backtracker on an anchored expression: it answers the first match by rank. -/
namespace Go.Proofs.YtekkaknpgdgjjaaGreatDoor.H
open Go.RowKit Go.Proofs.YtekkaknpgdgjjaaGreatDoorW.PrintWords
set_option linter.unusedVariables false
set_option linter.unusedSimpArgs false
set_option maxRecDepth 100000

theorem words_fit {n E pc pos : Nat} (hpc : pc < n) (hpos : pos ≤ E) : idx E pc pos / 32 < words n E := by
  have h : (pc + 1) * (E + 1) ≤ n * (E + 1) := Nat.mul_le_mul_right _ hpc
  rw [Nat.add_mul] at h
  unfold idx words
  generalize pc * (E + 1) = a at *
  generalize n * (E + 1) = b at *
  omega
/-- What the loop comes to from an empty stack. -/
theorem bt_runs {L : List Bi} {t : Nat → Int} {E B k pc pos : Nat} {c : List Int} {r : Option (List Int)} {V : Nat → Bool} (hargs : ∀ I ∈ L, I.op = 2 → 0 ≤ I.arg) (hpos : pos ≤ E) (hk : k ≤ B) (hm : mat L t E k pc pos c = some r) (hV : ∀ n, V n = false) :
    ∃ n R, bt L t E B n .pop [⟨pc, false, (pos : Int)⟩] (mark V (idx E pc pos)) c = some R ∧ R.1 = r.isSome ∧ ∀ c', r = some c' → R.2.2 = c' := by
  have hs := suc_mat (L := L) (t := t) (E := E) k pc pos c
  rw [hm] at hs
  have hI : Inv L t E k V := fun p q _ h => by rw [hV] at h; cases h
  have e : ∀ n, bt L t E B (n + 1) (.chk pc pos) [] V c = bt L t E B (n + 1) .pop [⟨pc, false, (pos : Int)⟩] (mark V (idx E pc pos)) c := by
    intro n
    rw [bt, bt, if_neg (by rw [hV]; decide), Int.toNat_natCast]
  obtain ⟨d1, d2⟩ := bt_does (B := B) hargs k pc pos hpos _ hs V hI [] c (by simpa using hk)
  cases r with
  | some c' =>
    obtain ⟨V', n, hn⟩ := d1 c' hm
    refine ⟨n + 1, (true, V', c'), ?_, rfl, fun c2 h => by cases h; rfl⟩
    rw [← e]
    exact hn (n + 1) (by omega)
  | none =>
    obtain ⟨V', _, hg⟩ := d2 hm
    obtain ⟨n, hn⟩ := hg (false, V', c) ⟨1, fun k hk => by
      cases k with
      | zero => omega
      | succ k => rfl⟩
    refine ⟨n + 1, (false, V', c), ?_, rfl, fun c2 h => by cases h⟩
    rw [← e]
    exact hn (n + 1) (by omega)

theorem Rx.start {w : World} {re : Nat} {L : List Bi} {start ncap nsub mn : Nat} {cond : Int} (h : Rx w re L start ncap nsub mn cond) : ∃ go gi c, w.cell? ⟨re, 1, none⟩ = some (.pointer (some ⟨go, 0, none⟩)) ∧ w.cell? ⟨go, 0, none⟩ = some (.slice (some ⟨gi, 0, none⟩) L.length c) ∧ w.cell? ⟨go, 1, none⟩ = some (.int .i64 (start : Int)) ∧ w.cell? ⟨go, 2, none⟩ = some (.int .i64 (ncap : Int)) := by
  obtain ⟨go, gi, c, a, b, d, e, _⟩ := h.prog
  exact ⟨go, gi, c, a, b, d, e⟩
/-- No match: nil; else a row of the captured places. -/
def BackOut (base : Nat) (w : World) (nc : Nat) (e : Ending) : Option (List Int) → Prop
  | none => e = .returned (.slice none 0 0)
  | some c => ∃ v, e = .returned v ∧ w.ownsRow base 3 1 v nc (nums .i64 c)
def c0 (nc : Nat) : List Int := (List.replicate nc (-1)).set 0 0
theorem after_reset {w : World} {n0 bs E nc : Nat} {s : ByteArray} {vc vm vv : Value} {ws : List Nat} {mc : List Int} (h : St w n0 bs E s vc vm vv [] ws (List.replicate nc (-1)) mc) (hn : 1 < nc) :
    ∃ gc cc, w.cell? ⟨bs, 1, none⟩ = some (.slice (some ⟨gc, 0, none⟩) nc cc) ∧ w.cell? ⟨gc, 0, none⟩ = some (.int .i64 (-1)) ∧ w.frozen? ⟨gc, 0, none⟩ = false ∧ n0 ≤ gc ∧ St (w.setCell ⟨gc, 0, none⟩ (.int .i64 0)) n0 bs E s vc vm vv [] ws (c0 nc) mc := by
  obtain ⟨gc, cc, hvc, hgc, hca, hcs⟩ := h.caps (by rw [List.length_replicate]; omega)
  obtain ⟨vj, hb, _⟩ := h.blk
  have c1 := (blk_cell hb 1).trans (show _ = some vc from rfl)
  rw [hvc, List.length_replicate] at c1
  obtain ⟨k1, f1⟩ := hca 0 (by decide) (by rw [List.length_replicate]; omega)
  rw [show rdI (List.replicate nc (-1)) 0 = -1 by simp only [rdI, List.getD_eq_getElem?_getD]; rw [List.getElem?_replicate, if_pos (by show 0 < nc; omega)]; rfl] at k1
  exact ⟨gc, cc, c1, k1, f1, hgc, hcs 0 0⟩
theorem after_try {w : World} {n0 bs E nc : Nat} {s : ByteArray} {vc vm vv : Value} {js : List Job} {ws : List Nat} {c mc : List Int} (h : St w n0 bs E s vc vm vv js ws c mc) (hl : mc.length = nc) (hn : 1 < nc) :
    ∃ gm cm, w.cell? ⟨bs, 2, none⟩ = some (.slice (some ⟨gm, 0, none⟩) nc cm) ∧ (∀ j v, (nums .i64 mc)[j]? = some v → w.cell? ((⟨gm, 0, none⟩ : Addr).add j) = some v) ∧ ∃ cs, w.heap[bs]? = some (.cells cs 151 (0, 0)) ∧ cs.size = 6 := by
  obtain ⟨gm, cm, cur, hvm, _⟩ := own_some h.rm (by omega)
  obtain ⟨vj, hb, _⟩ := h.blk
  have c2 := (blk_cell hb 2).trans (show _ = some vm from rfl)
  have hm := h.rm
  rw [hvm, hl] at c2
  refine ⟨gm, cm, c2, ?_, _, hb, rfl⟩
  intro j v hj
  rw [hvm] at hm
  exact hm.cells rfl j v hj
theorem own_rebase {w : World} {b b' e size n : Nat} {v : Value} {xs : List Value} (h : w.ownsRow b e size v n xs) (hb : b' ≤ b) : w.ownsRow b' e size v n xs := by
  obtain ⟨h1, h2⟩ := h
  refine ⟨h1, ?_⟩
  rcases h2 with h2 | ⟨g, cap, cur, a1, a2, a3⟩
  · exact .inl h2
  · exact .inr ⟨g, cap, cur, a1, by omega, a3⟩
theorem below_none {w w' : World} (h : w.grownBy w' none) : Below w.heap.size w w' := ⟨h.os, h.tape, h.output, h.size, fun k hk => h.block k hk (by simp)⟩
set_option maxHeartbeats 4000000 in
theorem back_calls {w0 : World} {re : Nat} {L : List Bi} {start ncap nsub mn : Nat} {s : ByteArray} {B nc gd k : Nat} (env : Env w0 re L start ncap nsub mn 4 s (words L.length s.size) B nc) (hN : words L.length s.size ≤ 8192) (hst : start < L.length) (h4 : 4 < nc) (hB0 : 1 ≤ B) {r : Option (List Int)} (hk : k ≤ B) (hm : mat L (rn s) s.size k start 0 (c0 nc) = some r) :
    Calls Tryz.prog 70 #[.pointer (some ⟨re, 0, none⟩), .slice none 0 0, .string s, .int .i64 0, .int .i64 (nc : Int), .slice (some ⟨gd, 0, none⟩) 0 4] w0 fun e w' => Below w0.heap.size w0 w' ∧ BackOut w0.heap.size w' nc e r := by
  obtain ⟨n, R, hbt, hR1, hR2⟩ := bt_runs (V := vb (List.replicate (words L.length s.size) 0)) (fun I hI h => by
    obtain ⟨i, hi⟩ := List.getElem?_of_mem hI
    exact ((env.ops i I hi).2.2.1 h).1) (Nat.zero_le _) hk hm (fun n => vb_zero _ n)
  have hcond := env.rx.cond
  obtain ⟨go, gi, cp, hgo, hinst, hstart, _⟩ := env.rx.start
  have hb0 : (w0.alloc bit0).heap[w0.heap.size]? = some bit0 := heap_alloc_new w0 _
  have hbb := below_new' w0 bit0
  have HN := Lib.hid (new_calls w0)
  have HI := Lib.hid (inputs_calls (w0.alloc bit0) w0.heap.size s hb0 rfl .nilIface)
  have hb1 := blk_set hb0 5 (.string s)
  have hbw := below_set (j := 5) (v := .string s) hbb (Nat.le_refl _)
  have hS0 : St ((w0.alloc bit0).setCell ⟨w0.heap.size, 5, none⟩ (.string s)) w0.heap.size w0.heap.size 0 s (.slice none 0 0) (.slice none 0 0) (.slice none 0 0) [] [] [] [] :=
    ⟨⟨.slice none 0 0, hb1, World.ownsRow_nil _ _ _ _⟩, Nat.le_refl _, World.ownsRow_nil _ _ _ _, World.ownsRow_nil _ _ _ _, World.ownsRow_nil _ _ _ _, ne_nil _⟩
  have RS := Lib.hid (reset_calls (nc := nc) hinst (by have := env.len; omega) env.sz hN (by have := env.nc2; omega) hbw hS0 hb1)
  have TRY := Lib.hid (fun (w : World) (vc vm vv : Value) (hS : Sx w0 w L w0.heap.size s vc vm vv (words L.length s.size) B nc [] (List.replicate (words L.length s.size) 0) (c0 nc) (List.replicate nc (-1))) => try_calls env 0 w hst (Nat.zero_le _) rfl hS (vb_zero _ _) hB0 hbt)
  have TRY : Hid (∀ (w : World) (vc vm vv : Value), Sx w0 w L w0.heap.size s vc vm vv (words L.length s.size) B nc [] (List.replicate (words L.length s.size) 0) (c0 nc) (List.replicate nc (-1)) → Calls Tryz.prog 90 #[.pointer (some ⟨re, 0, none⟩), .pointer (some ⟨w0.heap.size, 0, none⟩), .iface 178 (.pointer (some ⟨w0.heap.size, 5, none⟩)), .int .u32 (start : Int), .int .i64 0] w fun e w' => e = .returned (.bool R.1) ∧ relE w0 L w0.heap.size s vc vm vv (words L.length s.size) B nc (List.replicate nc (-1)) R w') := TRY
  have ba : bits .and .u8 4 4 = 4 := by kernel_rfl
  have us : IntKind.u32.wrap (start : Int) = (start : Int) := by have := env.len; rw [IntKind.wrap_u32]; omega
  have us' : (start : Int) % 4294967296 = (start : Int) := by have := env.len; omega
  have z1 : decide ((0 : Int) < (nc : Int)) = true := decide_eq_true (by omega)
  have z2 : (0 < nc) = True := eq_true (by omega)
  have z3 : ((0 : Int) < (nc : Int)) = True := eq_true (by omega)
  have hgo' := cell_below hgo (show Below w0.heap.size w0 ((w0.alloc bit0).setCell ⟨w0.heap.size, 5, none⟩ (.string s)) from hbw)
  have HG := Lib.hid (And.intro hgo hstart)
  have HE := Lib.hid env
  have HR := Lib.hid (And.intro hR1 hR2)
  have H4 := Lib.hid h4
  clear hR1 hR2 hbt hb0 hbb hb1 hbw hS0 hinst hN hst h4 hB0 hk hm env hgo hstart
  go_enter Tryz.func70, Tryz.ntmps70
  go_wp2
  refine wp_scope_straight ?_
  go_wp2_with (first | (go_at_call 87; refine HN.out.mono ?_; rintro e w1 ⟨rfl, rfl⟩) | (go_at_call 88; refine HI.out.mono ?_; rintro e w1 ⟨rfl, rfl⟩) | (go_at_call 89; refine RS.out.mono ?_; rintro e w3 ⟨rfl, hb3, vc, vm, vv, hs3⟩; obtain ⟨gc, cc, k0, k1, k2, k3, k4⟩ := after_reset hs3 HE.out.nc2.1; obtain ⟨k5, k6⟩ := HG.out; have k5 := cell_below k5 (below_set (j := 0) (v := .int .i64 0) hb3 k3); have k6 := cell_below k6 (below_set (j := 0) (v := .int .i64 0) hb3 k3); have KB := Lib.hid (below_set (j := 0) (v := .int .i64 0) hb3 k3); have KS := Lib.hid k4; clear k3 k4 hb3 hs3))
  refine (TRY.out _ _ _ _ ⟨KS.out, KB.out, List.length_replicate, fun x hx => by rw [List.eq_of_mem_replicate hx]; decide, fun j hj => (by cases hj), Nat.zero_le _, by rw [c0, List.length_set, List.length_replicate]⟩).mono ?_
  rintro e w5 ⟨rfl, js, ws, mc', hS5, _, hT, hF⟩
  clear KS KB k0 k1 k2 k5 k6 hcond hgo' ba us us' z1 z2 z3 TRY RS HI HN
  generalize w3.setCell ⟨gc, 0, none⟩ (.int .i64 0) = w4 at *
  cases r with
  | none =>
    have hR : R.1 = false := HR.out.1
    obtain ⟨rfl, rfl⟩ := hF hR
    obtain ⟨gm, cm, _, _, cs, hb, hz⟩ := after_try hS5.st List.length_replicate HE.out.nc2.1
    have FC := Lib.hid (free_calls w5 w0.heap.size hb hz)
    have HB := Lib.hid (below_set (j := 5) (v := .string ⟨#[]⟩) hS5.below hS5.st.base)
    clear hT hF hS5 hb hz
    go_wp2_with (go_at_call 91; refine FC.out.mono ?_; rintro e w6 ⟨rfl, rfl⟩)
    try simp only [Exit.noGoto]
    go_ret
    exact ⟨HB.out, rfl⟩
  | some c =>
    have hR : R.1 = true := HR.out.1
    have hc := HR.out.2 c rfl
    have hmc := (hT hR).trans hc
    have hlen : mc'.length = nc := by rw [hT hR]; exact hS5.clen
    obtain ⟨gm, cm, c2, hsrc, cs, hb, hz⟩ := after_try hS5.st hlen HE.out.nc2.1
    rw [hmc] at hsrc hlen
    have HS5 := Lib.hid hS5
    have HX := Lib.hid (And.intro hsrc (And.intro hlen (And.intro hb hz)))
    have hn := H4.out
    have hn2 := HE.out.nc2
    clear hT hF hS5 hb hz hsrc hlen hmc hc
    obtain ⟨i3, hi, hzz⟩ := Option.map_eq_some_iff.1 info3
    simp only [Prod.mk.injEq] at hzz
    have HI3 := Lib.hid (And.intro hi hzz)
    clear hi hzz
    go_wp2
    go_step3
    go_wp2_with (first | ((with_reducible refine gate_builtin (b := .append) (xs := #[.tmp 141, .tmp 145]) rfl ?_); at_builtin; refine wpList_append_grows _ rfl (.tmp 141) (.tmp 145) 105 rfl 3 i3 (.int .i64 0) 1 8 rfl HI3.out.1 HI3.out.2.1 HI3.out.2.2.1 HI3.out.2.2.2 rfl (by decide) (some ⟨gd, 0, none⟩) 0 4 [] rfl (by intro h; cases h) rfl (by intro b hb j u hu; cases hu) ⟨gm, 0, none⟩ nc cm (nums .i64 c) rfl (by rw [Nat.mul_one]; simp only [nums, List.length_map]; exact HX.out.2.1) HX.out.1 (by intro v hv; simp only [nums, List.mem_map] at hv; obtain ⟨x, _, rfl⟩ := hv; rfl) (by omega) (by unfold maxLen; omega) (by omega) ?_; intro v6 w6 h6 g6; have HO := Lib.hid h6; have HG6 := Lib.hid g6; have HF6 := Lib.hid (free_calls w6 w0.heap.size (blk_grown HX.out.2.2.1 g6 (by simp)) HX.out.2.2.2); clear h6 g6) | (go_at_call 91; refine HF6.out.mono ?_; rintro e w7 ⟨rfl, rfl⟩))
    try simp only [Exit.noGoto]
    go_ret
    refine ⟨below_set (HS5.out.below.trans ((below_none HG6.out).mono HS5.out.below.size)) (Nat.le_refl _), v6, rfl, ?_⟩
    have hO := own_rebase HO.out HS5.out.below.size
    rw [Nat.zero_add, List.nil_append] at hO
    exact own_other hO (grown_set w6 w0.heap.size 5 (.string ⟨#[]⟩)) (.inr (fun hh => own_ne hO (blk_grown HX.out.2.2.1 HG6.out (by simp)) (by decide) hh.symm))
end Go.Proofs.YtekkaknpgdgjjaaGreatDoor.H

/- find and FindStringSubmatch on an anchored expression. -/
namespace Go.Proofs.YtekkaknpgdgjjaaGreatDoor.H
open Go.RowKit Go.Proofs.YtekkaknpgdgjjaaGreatDoorW.PrintWords
set_option linter.unusedVariables false
set_option linter.unusedSimpArgs false
set_option maxRecDepth 100000

theorem Env.lift {w0 w1 : World} {re : Nat} {L : List Bi} {start ncap nsub mn : Nat} {cond : Int} {s : ByteArray} {N B nc : Nat} (h : Env w0 re L start ncap nsub mn cond s N B nc) (hb : Below w0.heap.size w0 w1) : Env w1 re L start ncap nsub mn cond s N B nc :=
  ⟨h.rx.below hb, h.len, h.ops, h.sz, h.asc, h.fit, h.room, h.nc2⟩
theorem eq105 (A : Addr) (n c : Nat) (w : World) : (binOp .eql 105 (.slice (some A) n c) (.slice none 0 0)).run Tryz.prog w = .ok (.bool false) w := rfl
theorem eq105n (w : World) : (binOp .eql 105 (.slice none 0 0) (.slice none 0 0)).run Tryz.prog w = .ok (.bool true) w := rfl
theorem find_calls {w0 : World} {re : Nat} {L : List Bi} {start ncap nsub mn : Nat} {s : ByteArray} {B nc gd k : Nat} (env : Env w0 re L start ncap nsub mn 4 s (words L.length s.size) B nc) (hN : words L.length s.size ≤ 8192) (hst : start < L.length) (h4 : 4 < nc) (hB0 : 1 ≤ B) {r : Option (List Int)} (hk : k ≤ B) (hm : mat L (rn s) s.size k start 0 (c0 nc) = some r) (hmn : s.size < mn → r = none) :
    Calls Tryz.prog 57 #[.pointer (some ⟨re, 0, none⟩), .nilIface, .slice none 0 0, .string s, .int .i64 0, .int .i64 (nc : Int), .slice (some ⟨gd, 0, none⟩) 0 4] w0 fun e w' => Below w0.heap.size w0 w' ∧ BackOut w0.heap.size w' nc e r := by
  have BC := Lib.hid (back_calls (gd := gd) env hN hst h4 hB0 hk hm)
  have hmin := env.rx.min
  have hsz := env.sz
  have w1 : wrap64 (s.size : Int) = (s.size : Int) := by unfold wrap64; omega
  have w2 : wrap64 (0 + (s.size : Int)) = (s.size : Int) := by unfold wrap64; omega
  have q1 := eq105 ⟨gd, 0, none⟩ 0 4
  by_cases hc : s.size < mn
  · have b1 : decide ((s.size : Int) < (mn : Int)) = true := decide_eq_true (by omega)
    have b2 : (s.size < mn) = True := eq_true hc
    have hr := hmn hc
    subst hr
    clear env hN hst h4 hB0 hk hm hmn hsz hc
    go_enter Tryz.func57, Tryz.ntmps57
    go_wp2
    go_ret
    exact ⟨Below.refl _ _, rfl⟩
  · have b1 : decide ((s.size : Int) < (mn : Int)) = false := decide_eq_false (by omega)
    have b2 : (s.size < mn) = False := eq_false hc
    clear env hN hst h4 hB0 hk hm hmn hsz hc
    cases r with
    | none =>
      go_enter Tryz.func57, Tryz.ntmps57
      go_wp2_with (go_at_call 70; refine BC.out.mono ?_; rintro e w1 ⟨hb, rfl⟩)
      go_ret
      exact ⟨hb, rfl⟩
    | some c =>
      go_enter Tryz.func57, Tryz.ntmps57
      go_wp2_with (go_at_call 70; refine BC.out.mono ?_; rintro e w1 ⟨hb, v, rfl, ho⟩; have HO := Lib.hid ho; clear ho)
      go_ret
      exact ⟨hb, v, rfl, HO.out⟩
end Go.Proofs.YtekkaknpgdgjjaaGreatDoor.H

/- FindStringSubmatch on an anchored expression: the captured texts. -/
namespace Go.Proofs.YtekkaknpgdgjjaaGreatDoor.H
open Go.RowKit Go.Proofs.YtekkaknpgdgjjaaGreatDoorW.PrintWords
set_option linter.unusedVariables false
set_option linter.unusedSimpArgs false
set_option maxRecDepth 100000

/-- The i-th captured text. -/
def capt (s : ByteArray) (c : List Int) (i : Nat) : ByteArray := if 0 ≤ rdI c ((2 * i : Nat) : Int) then s.extract (rdI c ((2 * i : Nat) : Int)).toNat (rdI c ((2 * i + 1 : Nat) : Int)).toNat else ⟨#[]⟩
def capts (s : ByteArray) (c : List Int) (n : Nat) : List ByteArray := (List.range n).map (capt s c)
/-- A row of texts of which the first i are told. -/
def Texts (s : ByteArray) (c : List Int) (n i : Nat) (xs : List Value) : Prop := xs.length = n ∧ ∀ j, j < n → xs[j]? = some (.string (if j < i then capt s c j else ⟨#[]⟩))
theorem Texts.all {s : ByteArray} {c : List Int} {n : Nat} {xs : List Value} (h : Texts s c n n xs) : xs = (capts s c n).map Value.string := by
  apply List.ext_getElem?
  intro j
  unfold capts
  rw [List.map_map, List.getElem?_map]
  by_cases hj : j < n
  · rw [h.2 j hj, if_pos hj, List.getElem?_range hj]
    rfl
  · rw [List.getElem?_eq_none (by rw [h.1]; omega), List.getElem?_eq_none (by simp; omega)]
    rfl
theorem Texts.step {s : ByteArray} {c : List Int} {n i : Nat} {xs : List Value} (h : Texts s c n i xs) (hi : i < n) : Texts s c n (i + 1) (xs.set i (.string (capt s c i))) := by
  refine ⟨by rw [List.length_set]; exact h.1, fun j hj => ?_⟩
  by_cases e : i = j
  · subst e
    rw [List.getElem?_set_self (by rw [h.1]; omega), if_pos (by omega)]
  · rw [List.getElem?_set_ne e, h.2 j hj]
    by_cases hji : j < i
    · rw [if_pos hji, if_pos (by omega)]
    · rw [if_neg hji, if_neg (by omega)]
theorem Texts.skip {s : ByteArray} {c : List Int} {n i : Nat} {xs : List Value} (h : Texts s c n i xs) (hc : ¬ 0 ≤ rdI c ((2 * i : Nat) : Int)) : Texts s c n (i + 1) xs := by
  refine ⟨h.1, fun j hj => ?_⟩
  rw [h.2 j hj]
  by_cases e : i = j
  · subst e
    rw [if_neg (by omega), if_pos (by omega), capt, if_neg hc]
  · by_cases hji : j < i
    · rw [if_pos hji, if_pos (by omega)]
    · rw [if_neg hji, if_neg (by omega)]
def Valid (s : ByteArray) (c : List Int) (n : Nat) : Prop := ∀ i, i < n → 0 ≤ rdI c ((2 * i : Nat) : Int) → rdI c ((2 * i : Nat) : Int) ≤ rdI c ((2 * i + 1 : Nat) : Int) ∧ rdI c ((2 * i + 1 : Nat) : Int) ≤ s.size
def FssOut (base : Nat) (w : World) (s : ByteArray) (n : Nat) (e : Ending) : Option (List Int) → Prop
  | none => e = .returned (.slice none 0 0)
  | some c => ∃ v, e = .returned v ∧ w.ownsRow base 9 1 v n ((capts s c n).map Value.string)
theorem info9 : (Tryz.prog.info? 9).map (fun i => (i.zero, i.size, i.bytes)) = some (some (.string ⟨#[]⟩), 1, 16) := by kernel_rfl
theorem make_of' (t e : TypeId) (z : Value) (size bytes : Nat) (ht : Tryz.prog.underlying t = some (.slice e)) (hinfo : (Tryz.prog.info? e).map (fun i => (i.zero, i.size, i.bytes)) = some (some z, size, bytes)) (l : Nat) (hb : bytes * l ≤ 281474976710656) (hc : l ≤ 9223372036854775807) (W : World) :
    (Instr.makeSlice t (.int .i64 (l : Int)) (.int .i64 (l : Int))).run Tryz.prog W = .ok (.slice (some ⟨W.heap.size, 0, none⟩) l l) (W.alloc (.cells (madeCells z.cells (l * size)) e)) := make_of t e z size bytes ht hinfo l l (Nat.le_refl _) hb hc W
set_option maxHeartbeats 4000000 in
theorem fss_calls {w0 : World} {re : Nat} {L : List Bi} {start nc nsub mn : Nat} {s : ByteArray} {B k : Nat} (env : Env w0 re L start nc nsub mn 4 s (words L.length s.size) B nc) (hN : words L.length s.size ≤ 8192) (hst : start < L.length) (h4 : 4 < nc) (hns : nc = 2 * (nsub + 1)) (hB0 : 1 ≤ B) {r : Option (List Int)} (hk : k ≤ B) (hm : mat L (rn s) s.size k start 0 (c0 nc) = some r) (hmn : s.size < mn → r = none) (hv : ∀ c, r = some c → Valid s c (nsub + 1)) :
    Calls Tryz.prog 44 #[.pointer (some ⟨re, 0, none⟩), .string s] w0 fun e w' => Below w0.heap.size w0 w' ∧ FssOut w0.heap.size w' s (nsub + 1) e r := by
  have hbb := below_new' w0 (.cells #[.int .i64 0, .int .i64 0, .int .i64 0, .int .i64 0] 104)
  have hb2 := below_drew hbb
  have FC := Lib.hid (find_calls (gd := w0.heap.size) ((env.lift hb2)) hN hst h4 hB0 hk hm hmn)
  obtain ⟨go, gi, cp, hgo, hinst, hstart, hcap⟩ := (env.rx.below hbb).start
  have HE := Lib.hid env
  have hc2 := env.nc2
  have HV := Lib.hid hv
  have HN := Lib.hid (And.intro h4 hns)
  have HB := Lib.hid hb2
  clear hN hst h4 hns hB0 hk hm hmn hv hbb hb2 env hinst hstart
  go_enter Tryz.func44, Tryz.ntmps44
  go_wp2
  generalize hw1 : w0.alloc (.cells #[.int .i64 0, .int .i64 0, .int .i64 0, .int .i64 0] 104) = w1 at *
  clear hw1
  go_still_tail 10, (by kernel_rfl)
  change wpList _ _ _ _ _ w1.drew
  generalize w1.drew = w2 at *
  clear hgo hcap
  cases r with
  | none =>
    go_wp2_with (go_at_call 57; refine FC.out.mono ?_; rintro e w3 ⟨hb3, rfl⟩; have q1 := eq105n; have HB3 := Lib.hid (HB.out.trans (hb3.mono HB.out.size)); clear hb3)
    go_ret
    exact ⟨HB3.out, rfl⟩
  | some c =>
    go_wp2_with (go_at_call 57; refine FC.out.mono ?_; rintro e w3 ⟨hb3, va, rfl, ho⟩; have HB3 := Lib.hid (HB.out.trans (hb3.mono HB.out.size)); have HO3 := Lib.hid (own_rebase ho HB.out.size); clear hb3 ho; obtain ⟨ga, ca, cur, rfl, _⟩ := own_some HO3.out (by have := HN.out.1; omega); have q1 := eq105 ⟨ga, 0, none⟩ nc ca; have hns := (HE.out.rx.below HB3.out).nsub; obtain ⟨n1, hn1⟩ : ∃ n1, nsub + 1 = n1 := ⟨_, rfl⟩; have w1 : wrap64 (1 + (nsub : Int)) = (n1 : Int) := (by have := HN.out.2; unfold wrap64; omega); have HN1 := Lib.hid hn1; have mk := make_of' 56 9 _ 1 16 rfl info9 n1 (by have := HN.out.2; omega) (by have := HN.out.2; omega); rw [Nat.mul_one] at mk; obtain ⟨Y, hY⟩ : ∃ Y, madeCells (Value.string ⟨#[]⟩).cells n1 = Y := ⟨_, rfl⟩; rw [hY] at mk; have HY := Lib.hid hY; clear hY)
    have HO7 : Hid ((w3.alloc (.cells Y 9)).ownsRow w0.heap.size 9 1 (.slice (some ⟨w3.heap.size, 0, none⟩) n1 n1) n1 (List.replicate n1 (.string ⟨#[]⟩))) := Lib.hid (by
      rw [← HY.out]
      exact own_new _ HB3.out.size (by rw [size_madeCells, Nat.mul_one]) (Nat.le_refl _) (by have := HN.out.2; have := HN1.out; unfold maxLen; omega) (made_take (.string ⟨#[]⟩) n1 n1 (Nat.le_refl _)) (by rw [List.length_replicate, Nat.mul_one]))
    have HO8 : Hid ((w3.alloc (.cells Y 9)).ownsRow w0.heap.size 3 1 (.slice (some ⟨ga, 0, none⟩) nc ca) nc (nums .i64 c)) := Lib.hid (pw_own_below HO3.out (below_new' _ _))
    have HB4 := Lib.hid (HB3.out.trans ((below_new' w3 (.cells Y 9)).mono HB3.out.size))
    have HNE : Hid (NeRow (.slice (some ⟨w3.heap.size, 0, none⟩) n1 n1) (.slice (some ⟨ga, 0, none⟩) nc ca)) := Lib.hid (ne_made HO3.out)
    have HVC := Lib.hid (HV.out c rfl)
    rw [HN1.out] at HVC
    have HNN := Lib.hid (show nc = 2 * n1 by have := HN.out.2; have := HN1.out; omega)
    clear mk HY w1 hns q1 HO3 HB3 FC HV
    generalize w3.alloc (.cells Y 9) = w4 at *
    generalize w3.heap.size = g7 at *
    go_loopg [30] (n1 + 1) (fun kq v30 wx => ∃ (i : Nat) (x : Int) (xs : List Value), v30 = .int .i64 x ∧ Hid (x = (i : Int) ∧ i ≤ n1) ∧ Hid (i + kq = n1 + 1) ∧ Hid (Texts s c n1 i xs) ∧ Hid (wx.ownsRow w0.heap.size 9 1 (.slice (some ⟨g7, 0, none⟩) n1 n1) n1 xs) ∧ Hid (wx.ownsRow w0.heap.size 3 1 (.slice (some ⟨ga, 0, none⟩) nc ca) nc (nums .i64 c)) ∧ Hid (Below w0.heap.size w0 wx))
    case atStart => exact ⟨0, 0, _, rfl, Lib.hid ⟨rfl, by omega⟩, Lib.hid (by omega), Lib.hid ⟨by simp, fun j hj => by rw [List.getElem?_replicate, if_pos hj]; simp⟩, HO7, HO8, HB4⟩
    case round =>
      clear HO7 HO8 HB4
      obtain ⟨i, x, xs, rfl, hx, hk, hT, hA, hC, hB⟩ := hrel
      by_cases hi : i < n1
      · have b0 : decide (x < (n1 : Int)) = true := decide_eq_true (by have := hx.out; omega)
        obtain ⟨y, hy, hyi⟩ : ∃ y : Int, wrap64 (2 * x) = y ∧ y = ((2 * i : Nat) : Int) := ⟨_, rfl, by have := hx.out; have := HNN.out; unfold wrap64; omega⟩
        have b1 : decide (y < (nc : Int)) = true := decide_eq_true (by have := HNN.out; omega)
        have b2 : (0 ≤ y) = True := eq_true (by omega)
        have b3 : (y < (nc : Int)) = True := eq_true (by have := HNN.out; omega)
        obtain ⟨k1, _⟩ := own_at hC.out y (by omega) (by have := HNN.out; omega)
        have HI := Lib.hid hi
        have HYI := Lib.hid hyi
        by_cases hp : 0 ≤ rdI c y
        · have hval := HVC.out i hi (by rw [← hyi]; exact hp)
          obtain ⟨p, hpp⟩ : ∃ p, rdI c y = p := ⟨_, rfl⟩
          replace k1 : wr.cell? ⟨ga, y.toNat, none⟩ = some (.int .i64 p) := by rw [← hpp]; exact k1
          obtain ⟨z, hz, hzi⟩ : ∃ z : Int, wrap64 (y + 1) = z ∧ z = ((2 * i + 1 : Nat) : Int) := ⟨_, rfl, by have := HNN.out; unfold wrap64; omega⟩
          obtain ⟨k2, _⟩ := own_at hC.out z (by omega) (by have := HNN.out; omega)
          obtain ⟨q, hqq⟩ : ∃ q, rdI c z = q := ⟨_, rfl⟩
          replace k2 : wr.cell? ⟨ga, z.toNat, none⟩ = some (.int .i64 q) := by rw [← hqq]; exact k2
          rw [← hyi, ← hzi, hpp, hqq] at hval
          rw [hpp] at hp
          have b4 : decide (p ≥ 0) = true := decide_eq_true hp
          have b5 : (0 ≤ p) = True := eq_true hp
          have b6 : decide (0 ≤ p) = true := decide_eq_true hp
          have b7 : (p ≤ q) = True := eq_true hval.1
          have b8 : (q ≤ (s.size : Int)) = True := eq_true hval.2
          have b9 : (0 ≤ z) = True := eq_true (by omega)
          have c0 : (z < (nc : Int)) = True := eq_true (by have := HNN.out; omega)
          have c1 : (0 ≤ q) = True := eq_true (by omega)
          have c2 : (0 ≤ x) = True := eq_true (by have := hx.out; omega)
          have c3 : (x < (n1 : Int)) = True := eq_true (by have := hx.out; omega)
          have hs : capt s c i = s.extract p.toNat q.toNat := by
            unfold capt
            rw [← hyi, ← hzi, hpp, hqq, if_pos hp]
          have HS := Lib.hid hs
          have k7 := hA.out.cells (g := g7) rfl x.toNat _ (hT.out.2 x.toNat (by have := hx.out; omega))
          rw [add_plain] at k7
          have f7 : wr.frozen? ⟨g7, x.toNat, none⟩ = false := by
            obtain ⟨g', cap', cur', hh, _, hb', _⟩ := own_some hA.out (by omega)
            injection hh with hh _ _
            injection hh with hh
            injection hh with hh
            subst hh
            exact blk_frozen hb' _
          clear hyi hzi hpp hqq hp hval hs
          go_wp2
          have hy' : IntKind.i64.wrap (2 * x) = y := by rw [IntKind.wrap_i64]; rw [← hy]; unfold wrap64; rfl
          have hz' : IntKind.i64.wrap (y + 1) = z := by rw [IntKind.wrap_i64]; rw [← hz]; unfold wrap64; rfl
          go_still_tail 16, (by kernel_rfl)
          change wpList _ _ _ _ _ wr.drew
          have k7 : wr.drew.cell? ⟨g7, x.toNat, none⟩ = _ := k7
          have f7 : wr.drew.frozen? ⟨g7, x.toNat, none⟩ = false := f7
          have HA5 : Hid (wr.drew.ownsRow w0.heap.size 9 1 (.slice (some ⟨g7, 0, none⟩) n1 n1) n1 xs) := hA
          have HC5 : Hid (wr.drew.ownsRow w0.heap.size 3 1 (.slice (some ⟨ga, 0, none⟩) nc ca) nc (nums .i64 c)) := hC
          have HB5 := Lib.hid (below_drew hB.out)
          clear k1 k2 hy hy' hz hz' hA hC hB b0 b1 b2 b3 b4 b5 b6 b7 b8 b9 c0 c1
          generalize wr.drew = w5 at *
          have HA6 := Lib.hid (HA5.out.stored x.toNat (.string (s.extract p.toNat q.toNat)))
          go_wp2
          go_roundg (n1 - i)
          case measure => have := hk.out; have := HI.out; omega
          case rel =>
            refine ⟨i + 1, _, xs.set x.toNat (.string (s.extract p.toNat q.toNat)), rfl, Lib.hid ⟨by have := hx.out; have := HNN.out; unfold wrap64; omega, HI.out⟩, Lib.hid (by have := hk.out; have := HI.out; omega), Lib.hid ?_, Lib.hid HA6.out.1, Lib.hid (own_other HC5.out HA6.out.2 (ne_other HNE.out)), Lib.hid (below_set HB5.out (own_base HA5.out _ rfl))⟩
            have := hT.out.step HI.out
            rw [HS.out] at this
            rwa [show x.toNat = i by have := hx.out; omega]
        · obtain ⟨p, hpp⟩ : ∃ p, rdI c y = p := ⟨_, rfl⟩
          replace k1 : wr.cell? ⟨ga, y.toNat, none⟩ = some (.int .i64 p) := by rw [← hpp]; exact k1
          have hsk := Lib.hid (hT.out.skip (by rw [← hyi]; exact hp))
          rw [hpp] at hp
          have b4 : decide (p ≥ 0) = false := decide_eq_false hp
          have b6 : decide (0 ≤ p) = false := decide_eq_false hp
          clear hyi hpp hp
          go_wp2
          go_roundg (n1 - i)
          case measure => have := hk.out; have := HI.out; omega
          case rel =>
            exact ⟨i + 1, _, xs, rfl, Lib.hid ⟨by have := hx.out; have := HNN.out; unfold wrap64; omega, HI.out⟩, Lib.hid (by have := hk.out; have := HI.out; omega), hsk, hA, hC, hB⟩
      · have b0 : decide (x < (n1 : Int)) = false := decide_eq_false (by have := hx.out; omega)
        have hi' : i = n1 := by have := hx.out; omega
        rw [hi'] at hT
        have hall := Lib.hid hT.out.all
        clear hi hi' hT
        go_wp2
        go_ret
        refine ⟨hB.out, _, rfl, ?_⟩
        rw [HN1.out, ← hall.out]
        exact hA.out
end Go.Proofs.YtekkaknpgdgjjaaGreatDoor.H
