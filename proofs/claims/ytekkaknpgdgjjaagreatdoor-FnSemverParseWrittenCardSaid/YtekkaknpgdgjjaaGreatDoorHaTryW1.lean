/- The backtracker: one search from a place of the text on, stepped through. -/
import Derived.Test.YtekkaknpgdgjjaaGreatDoorStxW1
import Derived.StillTailTactics
import Derived.BigQuiet
import Derived.Deep.Cut
import Derived.Laws.CopyOwn
namespace Go.Proofs.YtekkaknpgdgjjaaGreatDoor.H
open Go.RowKit Go.Proofs.YtekkaknpgdgjjaaGreatDoorW.PrintWords
set_option linter.unusedVariables false
set_option linter.unusedSimpArgs false
set_option maxRecDepth 100000
set_option maxHeartbeats 4000000 in
theorem try_calls {w0 : World} {re : Nat} {L : List Bi} {start ncap nsub mn : Nat} {cond : Int} {s : ByteArray} {N B nc : Nat} (env : Env w0 re L start ncap nsub mn cond s N B nc) {bs pc : Nat} {vc vm vv : Value} {ws : List Nat} {c mc : List Int} {R : Bool × (Nat → Bool) × List Int} {k : Nat} (pos : Nat) (W : World)
    (hpc : pc < L.length) (hpos : pos ≤ s.size) (hmc : mc = List.replicate nc (-1)) (hS : Sx w0 W L bs s vc vm vv N B nc [] ws c mc) (hne : vb ws (idx s.size pc pos) = false) (hB0 : 1 ≤ B)
    (hbt : bt L (rn s) s.size B k .pop [⟨pc, false, pos⟩] (mark (vb ws) (idx s.size pc pos)) c = some R) :
    Calls Tryz.prog 90 #[.pointer (some ⟨re, 0, none⟩), .pointer (some ⟨bs, 0, none⟩), .iface 178 (.pointer (some ⟨bs, 5, none⟩)), .int .u32 (pc : Int), .int .i64 (pos : Int)] W fun e w' => e = .returned (.bool R.1) ∧ relE w0 L bs s vc vm vv N B nc mc R w' := by
  have hl := (env.rx.below hS.below).longest
  have V : Hid (Calls Tryz.prog 99 #[.pointer (some ⟨bs, 0, none⟩), .pointer (some ⟨re, 0, none⟩), .int .u32 (pc : Int), .int .i64 (pos : Int), .bool false] W fun e w' => e = .returned (.tuple #[]) ∧ relL w0 L bs s vc vm vv N B nc mc R k w') := by
    obtain ⟨I, hI⟩ : ∃ I, L[pc]? = some I := ⟨_, List.getElem?_eq_getElem hpc⟩
    have h5 : I.op ≠ 5 := by
      intro h5
      obtain ⟨m, _, hm⟩ := bt_popF hbt
      exact bt_bad hm hI h5
    have hl := hS.wlen
    have hf := env.fit pc pos hpc hpos
    refine Lib.hid ((push0_calls env.rx hI h5 env.len pos env.sz hpos (by rw [hl]; exact hf) hS.bits (by have := env.room; simp only [List.length_nil]; omega) W hS.below hS.st).mono ?_)
    rintro e w1 ⟨rfl, hb, hs⟩
    rw [hne] at hs
    refine ⟨rfl, [⟨pc, false, (pos : Int)⟩], vput ws (idx s.size pc pos), c, ⟨hs, hb, by rw [vput_len]; exact hl, vput_lt hS.bits, fun j hj => ?_, hB0, hS.clen⟩, by rw [vput_vb _ _ (by rw [hl]; exact hf)]; exact hbt⟩
    rcases List.mem_cons.1 hj with rfl | hj
    · exact ⟨hpc, .inl ⟨by dsimp only; omega, by dsimp only; omega, fun h => by cases h⟩⟩
    · cases hj
  have HE := Lib.hid env
  have HM := Lib.hid hmc
  clear env hS hbt hne hpc hpos hmc
  go_enter Tryz.func90, Tryz.ntmps90
  go_wp2_with (go_at_call 99; refine V.out.mono ?_; rintro e w1 ⟨rfl, hb1⟩)
  refine wp_loop_ghost_k (fun n a w => Fx re bs a ∧ relL w0 L bs s vc vm vv N B nc mc R n w) k ⟨⟨rfl, rfl, rfl, rfl, rfl, rfl, rfl⟩, hb1⟩ ?_
  rintro gk a' wr ⟨hfx, H⟩ J K hJ hK
  obtain ⟨v13, h13⟩ : ∃ v, a'.tmps.getD 13 undef = v := ⟨_, rfl⟩
  obtain ⟨v14, h14⟩ : ∃ v, a'.tmps.getD 14 undef = v := ⟨_, rfl⟩
  obtain ⟨v15, h15⟩ : ∃ v, a'.tmps.getD 15 undef = v := ⟨_, rfl⟩
  obtain ⟨u, rfl⟩ := frame90 _ _ _ _ _ _ _ _ _ hfx.size hfx.nod hfx.h0 hfx.h1 hfx.h2 hfx.h10 hfx.h11 h13 h14 h15
  clear hl hb1 hfx h13 h14 h15 V
  obtain ⟨js, ws1, c1, H, hbt⟩ := H
  cases js with
  | nil =>
    have hR := bt_pop0 hbt
    obtain ⟨vj, hb, hj⟩ := H.st.blk
    obtain ⟨A, cj, rfl⟩ := own_slice hj
    have c3 : wr.cell? ⟨bs, 3, none⟩ = some (.slice A 0 cj) := (blk_cell hb 3).trans rfl
    have HH := Lib.hid H
    have HR := Lib.hid hR
    clear hbt hb hj H hR
    go_wp2
    go_ret
    refine ⟨by rw [HR.out]; rfl, [], ws1, mc, ?_, by rw [HR.out], fun h => (by rw [HR.out] at h; cases h), fun _ => ⟨rfl, rfl⟩⟩
    rw [HR.out]
    exact HH.out
  | cons j js =>
    obtain ⟨g, cp, a1, a2, a3, a4, a5, a6, a7, a8⟩ := H.top
    have HJ := Lib.hid a8
    have HX := Lib.hid a7
    have HB := Lib.hid hbt
    have hjl := H.jlen
    have room := HE.out.room
    have hcp : (js.length ≤ cp) = True := eq_true (by omega)
    have hcp' : ((js.length : Int) ≤ (cp : Int)) = True := eq_true (by omega)
    simp only [List.length_cons] at hjl
    have W1 : wrap64 (((js.length + 1 : Nat) : Int) - 1) = (js.length : Int) := by unfold wrap64; omega
    have G1 : decide (((js.length + 1 : Nat) : Int) > 0) = true := decide_eq_true (by omega)
    have G2 : decide (0 < js.length + 1) = true := decide_eq_true (by omega)
    have G5 : (0 < js.length + 1) = True := eq_true (by omega)
    have G3 : (0 ≤ (js.length : Int)) = True := eq_true (by omega)
    have G4 : (js.length < js.length + 1) = True := eq_true (by omega)
    have G6 : ((js.length : Int) < ((js.length + 1 : Nat) : Int)) = True := eq_true (by omega)
    obtain ⟨jp, ja, jq⟩ := j
    dsimp only at a3 a4 a5 HJ
    clear a7 a8 hbt hjl room H a2
    obtain ⟨l, hl⟩ : ∃ l, js.length = l := ⟨_, rfl⟩
    obtain ⟨m, hm⟩ : ∃ m, l + 1 = m := ⟨_, rfl⟩
    rw [hl] at a1 a3 a4 a5 HX hcp hcp' W1 G1 G2 G3 G4 G5 G6
    rw [hm] at a1 W1 G1 G2 G4 G5 G6
    have HL := Lib.hid (And.intro hl hm)
    clear hl hm
    go_wp2
    refine wp_mono (Q := postQ (fun a w => Fx re bs a ∧ ∃ n, n < gk ∧ relL w0 L bs s vc vm vv N B nc mc R n w) (fun a w => FxT re bs a ∧ R.1 = true ∧ relE w0 L bs s vc vm vv N B nc mc R w)) (wp_scope_two 0 1 (fun n a w => n ≤ gk ∧ Fx re bs a ∧ rel0 w0 L bs s vc vm vv N B nc mc R n (a.tmps.getD 13 undef) (a.tmps.getD 14 undef) (a.tmps.getD 15 undef) w) (fun n a w => n < gk ∧ Fx re bs a ∧ rel1 w0 L bs s vc vm vv N B nc mc R n (a.tmps.getD 13 undef) (a.tmps.getD 14 undef) (a.tmps.getD 15 undef) w) rfl rfl (by decide) ?_ ?_ ?_) ?_
    · intro KK hKK
      go_wp2
      go_step3
      cases ja with
      | false =>
        obtain ⟨n1, e1, e2⟩ := bt_popF HB.out
        rcases HJ.out.2 with h | ⟨h, _⟩
        · exact hKK n1 _ _ ⟨by omega, ⟨rfl, rfl, rfl, rfl, rfl, rfl, rfl⟩, jp, jq, false, js, ws1, c1, rfl, rfl, rfl, HX.out, HJ.out.1, .inl ⟨rfl, h.1, h.2.1, e2⟩⟩
        · cases h
      | true => exact hKK gk _ _ ⟨Nat.le_refl _, ⟨rfl, rfl, rfl, rfl, rfl, rfl, rfl⟩, jp, jq, true, js, ws1, c1, rfl, rfl, rfl, HX.out, HJ.out.1, .inr ⟨rfl, HJ.out, HB.out⟩⟩
    · clear a1 a3 a4 a5 a6 hcp hcp' W1 G1 G2 G3 G4 G5 G6 HX HJ HB HL
      rintro n a1 w1 ⟨hn, hfx, pc, p, arg, js, ws, c, h13, h14, h15, hS, hpc, hrel⟩ KK hKK
      obtain ⟨u, rfl⟩ := frame90 _ _ _ _ _ _ _ _ _ hfx.size hfx.nod hfx.h0 hfx.h1 hfx.h2 hfx.h10 hfx.h11 h13 h14 h15
      clear h13 h14 h15 hfx
      obtain ⟨I, hI⟩ : ∃ I, L[pc]? = some I := ⟨_, List.getElem?_eq_getElem hpc⟩
      have hx := HE.out.rx
      obtain ⟨_, _, _, _, _, go, gi, cp, h40, h60, _, _, h7⟩ := hx
      have hIns0 := h7 pc I hI
      rw [Nat.mul_comm] at hIns0
      have hIns := hIns0.below hS.below
      have h4 := cell_below h40 hS.below
      have h6 := cell_below h60 hS.below
      have hop := hIns.op
      have hout := hIns.out
      have harg := hIns.arg
      have IO := HE.out.ops pc I hI
      obtain ⟨⟨io1, io2⟩, i0, i2, i3, i7, i8, iop⟩ := IO
      obtain ⟨o, ho⟩ : ∃ o : Nat, I.out = (o : Int) := ⟨I.out.toNat, by omega⟩
      have hoL : o < L.length := by omega
      rw [ho] at hout
      have hout0 := hIns0.out
      rw [ho] at hout0
      have HW0 := Lib.hid (And.intro hout0 (And.intro h40 (And.intro h60 hIns0.arg)))
      have b0 : (0 ≤ (pc : Int)) = True := eq_true (by omega)
      have b1 : ((pc : Int) < (L.length : Int)) = True := eq_true (by omega)
      have b2 : (pc < L.length) = True := eq_true hpc
      obtain ⟨vj, hb, hj⟩ := hS.st.blk
      have c5 := (blk_cell hb 5).trans (show _ = some (.string s) from rfl)
      have HS := Lib.hid hS
      have HI := Lib.hid hI
      have HIns := Lib.hid hIns
      have HO := Lib.hid (And.intro hpc (And.intro hoL ho))
      have HBK := Lib.hid (And.intro hb hj)
      have AR := Lib.hid (And.intro i0 (And.intro i2 (And.intro i3 (And.intro i7 i8))))
      clear hS hI hIns h7 io1 io2 i0 i2 i3 i7 i8 hpc hoL ho hb hj hIns0 hout0 h40 h60
      rcases hrel with ⟨rfl, hp0, hp1, hbt⟩ | ⟨rfl, hj, hbt⟩
      · obtain ⟨q, rfl⟩ : ∃ q : Nat, p = (q : Int) := ⟨p.toNat, by omega⟩
        rw [Int.toNat_natCast] at hbt
        have HQ := Lib.hid (show q ≤ s.size by omega)
        have HB := Lib.hid hbt
        clear hp0 hp1 hbt
        rcases iop with h | h | h | h | h | h | h | h
        · -- 0
          obtain ⟨m, e1, hl, h1⟩ := bt_alt HB.out HI.out h
          rw [show I.out.toNat = o by have := HO.out.2.2; omega] at h1
          have H1 := Lib.hid h1
          have E1 := Lib.hid e1
          clear h1 e1
          have PU := Lib.hid (push_calls HE.out.rx HI.out (by rw [h]; decide) HE.out.len (q : Int) (by have := HE.out.room; omega) w1 HS.out.below HS.out.st)
          have HL := Lib.hid hl
          clear hl
          have HOP := Lib.hid h
          rw [h] at hop
          clear h
          go_wp2_with (go_at_call 99; refine PU.out.mono ?_; rintro e w2 ⟨rfl, hb1, hs1⟩; have hout2 := cell_below HW0.out.1 hb1; have HB1 := Lib.hid hb1; have HS1 := Lib.hid hs1; clear hb1 hs1)
          go_step3
          refine hKK m _ _ (by have := E1.out; omega) ⟨by have := E1.out; omega, ⟨rfl, rfl, rfl, rfl, rfl, rfl, rfl⟩, o, q, ⟨pc, true, (q : Int)⟩ :: js, ws, c, rfl, rfl, rfl, HS.out.push HS1.out rfl HB1.out (jobOk_at HO.out.1 HQ.out HI.out HOP.out) HL.out, HO.out.2.1, HQ.out, H1.out⟩
        · -- 2
          obtain ⟨m, e1, hm⟩ := bt_cap HB.out HI.out h
          obtain ⟨a, ha⟩ : ∃ a : Nat, I.arg = (a : Int) := ⟨I.arg.toNat, by have := AR.out.2.1 h; omega⟩
          have hn := HE.out.nc2
          have hcl := HS.out.clen
          obtain ⟨gc, cc, hvc, hgc, hca, hcs⟩ := HS.out.st.caps (by omega)
          have c1 := (blk_cell HBK.out.1 1).trans (show _ = some vc from rfl)
          rw [hvc, hcl] at c1
          have harg0 := HW0.out.2.2.2
          rw [ha] at harg harg0 hm
          rw [Int.toNat_natCast, hcl] at hm
          rw [show I.out.toNat = o by have := HO.out.2.2; omega] at hm
          have UU : IntKind.u32.wrap (nc : Int) = (nc : Int) := by rw [IntKind.wrap_u32]; omega
          have UV : (nc : Int) % 4294967296 = (nc : Int) := by omega
          have U0 : (0 ≤ (a : Int)) = True := eq_true (by omega)
          have HA := Lib.hid (And.intro harg0 (And.intro hvc (And.intro hgc (And.intro hn (And.intro hcl ha)))))
          have h5 : I.op ≠ 5 := by rw [h]; decide
          have HOP := Lib.hid h
          rw [h] at hop
          rcases hm with ⟨hlt, hl, h1⟩ | ⟨hlt, h1⟩
          · obtain ⟨kx, fx⟩ := hca (a : Int) (by omega) (by omega)
            have kx : w1.cell? ⟨gc, a, none⟩ = some (.int .i64 (rdI c (a : Int))) := kx
            have Z1 : (a < nc) = True := eq_true hlt
            have Z2 : decide ((a : Int) < (nc : Int)) = true := decide_eq_true (by omega)
            have Z3 : ((a : Int) < (nc : Int)) = True := eq_true (by omega)
            have PU := Lib.hid (fun (W : World) => push_calls HE.out.rx HI.out h5 HE.out.len (rdI c (a : Int)) (js := js) (ws := ws) (c := c) (mc := mc) (s := s) (bs := bs) (E := s.size) (vc := vc) (vm := vm) (vv := vv) (by have := HE.out.room; omega) W)
            have H1 := Lib.hid h1
            have E1 := Lib.hid e1
            have HL := Lib.hid hl
            have HLT := Lib.hid hlt
            clear h1 e1 hl hlt fx hca hcs h hn hcl hvc hgc ha harg0 h5
            go_wp2
            go_quiet (fail)
            have HS1 := Lib.hid (HS.out.drewN nq)
            generalize hwq : w1.drewN nq = w2 at HS1 ⊢
            have c1 : w2.cell? ⟨bs, 1, none⟩ = some (.slice (some ⟨gc, 0, none⟩) nc cc) := by rw [← hwq]; exact c1
            have harg : w2.cell? ⟨gi, pc * 4 + 2, none⟩ = some (.int .u32 (a : Int)) := by rw [← hwq]; exact harg
            have kx : w2.cell? ⟨gc, a, none⟩ = some (.int .i64 (rdI c (a : Int))) := by rw [← hwq]; exact kx
            clear hwq hop hout c5
            go_wp2
            go_still_tail 13, (by kernel_rfl)
            change wpList _ _ _ _ _ w2.drew
            have HS3 := Lib.hid HS1.out.drew
            generalize w2.drew = w3 at HS3 ⊢
            clear c1 harg kx HS1
            go_wp2_with (go_at_call 99; refine (PU.out w3 HS3.out.below HS3.out.st).mono ?_; rintro e w4 ⟨rfl, hb1, hs1⟩; have HB4 := Lib.hid hb1; have HS4 := Lib.hid hs1; clear hb1 hs1)
            have harg4 := cell_below HA.out.1 HB4.out
            obtain ⟨gd, cd, hvd, hgd, hda, hds⟩ := HS4.out.caps (by have := HA.out; omega)
            obtain ⟨vj4, hb4, _⟩ := HS4.out.blk
            have c4 := (blk_cell hb4 1).trans (show _ = some vc from rfl)
            rw [hvd, HA.out.2.2.2.2.1] at c4
            obtain ⟨ky, fy⟩ := hda (a : Int) (by omega) (by have := HA.out.2.2.2.2.1; have := HLT.out; omega)
            have ky : w4.cell? ⟨gd, a, none⟩ = some (.int .i64 (rdI c (a : Int))) := ky
            have fy : w4.frozen? ⟨gd, a, none⟩ = false := fy
            have HD := Lib.hid (And.intro hgd (hds (a : Int) (q : Int)))
            clear hb4 hvd hgd hda hds
            go_still_tail 10, (by kernel_rfl)
            change wpList _ _ _ _ _ w4.drew
            have c4 : w4.drew.cell? ⟨bs, 1, none⟩ = some (.slice (some ⟨gd, 0, none⟩) nc cd) := c4
            have ky : w4.drew.cell? ⟨gd, a, none⟩ = some (.int .i64 (rdI c (a : Int))) := ky
            have fy : w4.drew.frozen? ⟨gd, a, none⟩ = false := fy
            have HB5 := Lib.hid (below_drew HB4.out)
            have HD5 : Hid (St (w4.drew.setCell ⟨gd, a, none⟩ (.int .i64 (q : Int))) w0.heap.size bs s.size s vc vm vv (⟨pc, true, rdI c (a : Int)⟩ :: js) ws (c.set a (q : Int)) mc) := Lib.hid (by have := HD.out.2.drew; exact this)
            generalize w4.drew = w5 at *
            have hout5 := cell_below HW0.out.1 (below_set (j := a) (v := .int .i64 (q : Int)) HB5.out HD.out.1)
            go_wp2
            go_step3
            refine hKK m _ _ (by have := E1.out; omega) ⟨by have := E1.out; omega, ⟨rfl, rfl, rfl, rfl, rfl, rfl, rfl⟩, o, q, ⟨pc, true, rdI c (a : Int)⟩ :: js, ws, c.set a (q : Int), rfl, rfl, rfl, HS.out.push HD5.out (List.length_set ..) (below_set HB5.out HD.out.1) (jobOk_cap _ HO.out.1 HI.out HOP.out (by have := HA.out.2.2.2.2.2; have := HLT.out; omega)) HL.out, HO.out.2.1, HQ.out, H1.out⟩
          · have Z1 : (a < nc) = False := eq_false hlt
            have Z2 : decide ((a : Int) < (nc : Int)) = false := decide_eq_false (by omega)
            have Z3 : ((a : Int) < (nc : Int)) = False := eq_false (by omega)
            have H1 := Lib.hid h1
            have E1 := Lib.hid e1
            clear h1 e1 hlt hca hcs h hn hcl hvc hgc ha harg0 h5
            go_wp2
            go_quiet (fail)
            have HS1 := Lib.hid (HS.out.drewN nq)
            generalize hwq : w1.drewN nq = w2 at HS1 ⊢
            have hout : w2.cell? ⟨gi, pc * 4 + 1, none⟩ = some (.int .u32 (o : Int)) := by rw [← hwq]; exact hout
            clear hwq hop c5 c1 harg
            go_wp2
            go_step3
            refine hKK m _ _ (by have := E1.out; omega) ⟨by have := E1.out; omega, ⟨rfl, rfl, rfl, rfl, rfl, rfl, rfl⟩, o, q, js, ws, c, rfl, rfl, rfl, HS1.out, HO.out.2.1, HQ.out, H1.out⟩
        · -- 3
          have CT := Lib.hid (context_calls s bs 5 q HE.out.sz HQ.out HE.out.asc w1 c5)
          obtain ⟨m, e1, hm⟩ := bt_empty HB.out HI.out h
          have M4 := match4_calls (ctxOf s q) w1
          have M8 := match8_calls (ctxOf s q) w1
          rw [ctx4 HE.out.asc q HQ.out] at M4
          rw [ctx8 HE.out.asc q] at M8
          rw [h] at hop
          clear h
          rcases hm with ⟨ha, ⟨hq, h1⟩ | ⟨hq, h1⟩⟩ | ⟨ha, ⟨hq, h1⟩ | ⟨hq, h1⟩⟩
          · rw [ha] at harg
            rw [decide_eq_true hq] at M4
            rw [show I.out.toNat = o by have := HO.out.2.2; omega] at h1
            have M := Lib.hid M4
            have H1 := Lib.hid h1
            have E1 := Lib.hid e1
            clear h1 e1 hq ha M4 M8
            go_wp2_with (first | (go_at_call 130; refine CT.out.mono ?_; rintro e w2 ⟨rfl, rfl⟩) | (go_at_call 102; refine M.out.mono ?_; rintro e w2 ⟨rfl, rfl⟩))
            go_step3
            refine hKK m _ _ (by have := E1.out; omega) ⟨by have := E1.out; omega, ⟨rfl, rfl, rfl, rfl, rfl, rfl, rfl⟩, o, q, js, ws, c, rfl, rfl, rfl, HS.out, HO.out.2.1, HQ.out, H1.out⟩
          · rw [ha] at harg
            rw [decide_eq_false hq] at M4
            have M := Lib.hid M4
            have H1 := Lib.hid h1
            have E1 := Lib.hid e1
            clear h1 e1 hq ha M4 M8
            go_wp2_with (first | (go_at_call 130; refine CT.out.mono ?_; rintro e w2 ⟨rfl, rfl⟩) | (go_at_call 102; refine M.out.mono ?_; rintro e w2 ⟨rfl, rfl⟩))
            exact ⟨rfl, ⟨rfl, rfl, rfl, rfl, rfl, rfl, rfl⟩, m, by have := E1.out; omega, js, ws, c, HS.out, H1.out⟩
          · rw [ha] at harg
            rw [decide_eq_true hq] at M8
            rw [show I.out.toNat = o by have := HO.out.2.2; omega] at h1
            have M := Lib.hid M8
            have H1 := Lib.hid h1
            have E1 := Lib.hid e1
            clear h1 e1 hq ha M4 M8
            go_wp2_with (first | (go_at_call 130; refine CT.out.mono ?_; rintro e w2 ⟨rfl, rfl⟩) | (go_at_call 102; refine M.out.mono ?_; rintro e w2 ⟨rfl, rfl⟩))
            go_step3
            refine hKK m _ _ (by have := E1.out; omega) ⟨by have := E1.out; omega, ⟨rfl, rfl, rfl, rfl, rfl, rfl, rfl⟩, o, q, js, ws, c, rfl, rfl, rfl, HS.out, HO.out.2.1, HQ.out, H1.out⟩
          · rw [ha] at harg
            rw [decide_eq_false hq] at M8
            have M := Lib.hid M8
            have H1 := Lib.hid h1
            have E1 := Lib.hid e1
            clear h1 e1 hq ha M4 M8
            go_wp2_with (first | (go_at_call 130; refine CT.out.mono ?_; rintro e w2 ⟨rfl, rfl⟩) | (go_at_call 102; refine M.out.mono ?_; rintro e w2 ⟨rfl, rfl⟩))
            exact ⟨rfl, ⟨rfl, rfl, rfl, rfl, rfl, rfl, rfl⟩, m, by have := E1.out; omega, js, ws, c, HS.out, H1.out⟩
        · -- 4
          have hR := bt_acc HB.out HI.out h (by rw [HS.out.clen]; exact HE.out.nc2.1)
          have hn := HE.out.nc2
          have hcl := HS.out.clen
          obtain ⟨gc, cc, hvc, hgc, hca, hcs⟩ := HS.out.st.caps (by omega)
          have hs2 : St (w1.setCell ⟨gc, 1, none⟩ (.int .i64 (q : Int))) w0.heap.size bs s.size s vc vm vv js ws (c.set 1 (q : Int)) mc := hcs 1 (q : Int)
          obtain ⟨gm, cm, cur, hvm, hgm, hmb, hmc, hma, hms⟩ := hs2.mcaps (by rw [HM.out, List.length_replicate]; omega) (by rw [HM.out, List.length_replicate, List.length_set, hcl])
          have hml : mc.length = nc := by rw [HM.out, List.length_replicate]
          obtain ⟨vj2, hb2, _⟩ := hs2.blk
          have c1 := (blk_cell HBK.out.1 1).trans (show _ = some vc from rfl)
          have d1 := (blk_cell hb2 1).trans (show _ = some vc from rfl)
          have d2 := (blk_cell hb2 2).trans (show _ = some vm from rfl)
          rw [hvc, hcl] at c1 d1
          rw [hvm, hml] at d2
          obtain ⟨k1, f1⟩ := hca 1 (by decide) (by omega)
          have k1 : w1.cell? ⟨gc, 1, none⟩ = some (.int .i64 (rdI c 1)) := k1
          have f1 : w1.frozen? ⟨gc, 1, none⟩ = false := f1
          have m1 := hma 1 (by decide) (by omega)
          rw [show rdI mc 1 = -1 by rw [HM.out]; simp only [rdI, List.getD_eq_getElem?_getD]; rw [List.getElem?_replicate, if_pos (by show 1 < nc; omega)]; rfl] at m1
          have m1 : (w1.setCell ⟨gc, 1, none⟩ (.int .i64 (q : Int))).cell? ⟨gm, 1, none⟩ = some (.int .i64 (-1)) := m1
          have d1 : (w1.setCell ⟨gc, 1, none⟩ (.int .i64 (q : Int))).cell? ⟨bs, 1, none⟩ = some (.slice (some ⟨gc, 0, none⟩) nc cc) := d1
          have d2 : (w1.setCell ⟨gc, 1, none⟩ (.int .i64 (q : Int))).cell? ⟨bs, 2, none⟩ = some (.slice (some ⟨gm, 0, none⟩) nc cm) := d2
          have z0 : ((nc : Int) == 0) = false := by rw [beq_eq_false_iff_ne]; omega
          have z1 : decide ((1 : Int) < (nc : Int)) = true := decide_eq_true (by omega)
          have z2 : ((1 : Int) < (nc : Int)) = True := eq_true (by omega)
          have z3 : (1 < nc) = True := eq_true (by omega)
          have z4 : (nc == 0) = false := by rw [beq_eq_false_iff_ne]; omega
          have z5 : (nc = 0) = False := eq_false (by omega)
          rw [h] at hop
          have KK1 := Lib.hid (And.intro hvc (And.intro hgc hcs))
          have KK2 := Lib.hid (And.intro hvm (And.intro hgm (And.intro hmb (And.intro hmc hms))))
          have KK3 := Lib.hid (And.intro hR (And.intro hn (And.intro hcl hml)))
          have HS2 := Lib.hid hs2
          clear h hR hn hcl hvc hgc hca hcs hs2 hvm hgm hmb hmc hma hms hml hb2
          go_upto_region 70 with (fail)
          have HW2 := Lib.hid (below_set (j := 1) (v := .int .i64 (q : Int)) HS.out.below KK1.out.2.1)
          generalize w1.setCell ⟨gc, 1, none⟩ (.int .i64 (q : Int)) = w2 at *
          clear hop hout harg c5 k1 f1 c1 h4 h6
          go_upto_region 72 with (fail)
          go_still_tail 8, (by kernel_rfl)
          change wpList _ _ _ _ _ w2.drew
          have hl1 : (nums .i64 (c.set 1 (q : Int))).length = nc := by simp only [nums, List.length_map, List.length_set]; exact KK3.out.2.2.1
          refine wpList_copy_own rfl (.tmp 369) (.tmp 373) 105 105 rfl 3 rfl rfl gm 0 nc cm ⟨gc, 0, none⟩ nc cc rfl rfl cur 3 (show w2.drew.heap[gm]? = _ from KK2.out.2.2.1) (nums .i64 (c.set 1 (q : Int))) (by rw [hl1]; exact (Nat.min_self nc).symm) ?_ (by rw [hl1]; have := KK2.out.2.2.2.1; have := KK3.out.2.2.2; omega) (by intro v hv; simp only [nums, List.mem_map] at hv; obtain ⟨x, _, rfl⟩ := hv; rfl) ?_
          · intro j v hj
            have hr := HS2.out.rc
            rw [KK1.out.1] at hr
            exact hr.cells rfl j v hj
          · have HE3 := Lib.hid (KK2.out.2.2.2.2.drew)
            generalize hw3 : w2.drew.setRow gm _ = w3
            replace HE3 : Hid (St w3 w0.heap.size bs s.size s vc vm vv js ws (c.set 1 (q : Int)) (c.set 1 (q : Int))) := by rw [← hw3]; exact HE3
            have HW3 : Hid (Below w0.heap.size w0 w3) := by rw [← hw3]; exact Lib.hid (below_setRow (below_drew HW2.out) KK2.out.2.1 _)
            clear hw3 m1 d1 d2 hl1
            go_wp2
            refine ⟨⟨rfl, rfl, rfl⟩, by rw [KK3.out.1], js, ws, c.set 1 (q : Int), ?_, by rw [KK3.out.1], fun _ => by rw [KK3.out.1], fun hf => by rw [KK3.out.1] at hf; cases hf⟩
            rw [KK3.out.1]
            exact ⟨HE3.out, HW3.out, HS.out.wlen, HS.out.bits, HS.out.jobs, HS.out.jlen, by rw [List.length_set]; exact HS.out.clen⟩
        · -- 6
          obtain ⟨m, e1, h1⟩ := bt_nop HB.out HI.out h
          rw [show I.out.toNat = o by have := HO.out.2.2; omega] at h1
          have H1 := Lib.hid h1
          have E1 := Lib.hid e1
          clear h1 e1
          rw [h] at hop
          clear h
          go_wp2
          go_step3
          refine hKK m _ _ (by have := E1.out; omega) ⟨by have := E1.out; omega, ⟨rfl, rfl, rfl, rfl, rfl, rfl, rfl⟩, o, q, js, ws, c, rfl, rfl, rfl, HS.out, HO.out.2.1, HQ.out, H1.out⟩
        · -- 7
          have ST := Lib.hid (stepo_calls s bs 5 q HE.out.sz HE.out.asc w1 c5)
          have RC := Lib.hid (rune_calls (rn s q) HIns.out (AR.out.2.2.2.1 h))
          obtain ⟨m, e1, hm⟩ := bt_rune HB.out HI.out h
          rw [h] at hop
          clear h
          rcases hm with ⟨hm, h1⟩ | ⟨hm, hlt, h1⟩
          · rw [show (!(mrp I.rs (rn s q) == -1)) = false by rw [hm]; rfl] at RC
            have H1 := Lib.hid h1
            have E1 := Lib.hid e1
            clear h1 e1 hm
            go_wp2_with (first | (go_at_call 133; refine ST.out.mono ?_; rintro e w2 ⟨rfl, rfl⟩) | (go_at_call 101; refine RC.out.mono ?_; rintro e w2 ⟨rfl, rfl⟩))
            exact ⟨rfl, ⟨rfl, rfl, rfl, rfl, rfl, rfl, rfl⟩, m, by have := E1.out; omega, js, ws, c, HS.out, H1.out⟩
          · rw [show (!(mrp I.rs (rn s q) == -1)) = true by simp [hm]] at RC
            rw [show wd s q = 1 from if_pos hlt] at ST
            rw [show I.out.toNat = o by have := HO.out.2.2; omega] at h1
            have WW : wrap64 ((q : Int) + 1) = ((q + 1 : Nat) : Int) := by have := HE.out.sz; unfold wrap64; omega
            have H1 := Lib.hid h1
            have E1 := Lib.hid e1
            have H2 := Lib.hid hlt
            clear h1 e1 hm hlt
            go_wp2_with (first | (go_at_call 133; refine ST.out.mono ?_; rintro e w2 ⟨rfl, rfl⟩) | (go_at_call 101; refine RC.out.mono ?_; rintro e w2 ⟨rfl, rfl⟩))
            go_step3
            refine hKK m _ _ (by have := E1.out; omega) ⟨by have := E1.out; omega, ⟨rfl, rfl, rfl, rfl, rfl, rfl, rfl⟩, o, q + 1, js, ws, c, rfl, congrArg (Value.int .i64) WW, rfl, HS.out, HO.out.2.1, H2.out, H1.out⟩
        · -- 8
          have ST := Lib.hid (stepo_calls s bs 5 q HE.out.sz HE.out.asc w1 c5)
          obtain ⟨m, e1, hm⟩ := bt_rune1 HB.out HI.out h
          obtain ⟨A, ca, hsl, hrd⟩ := HIns.out.rs
          obtain ⟨x, hxs⟩ := List.length_eq_one_iff.1 (AR.out.2.2.2.2 h)
          rw [hxs] at hsl hrd hm
          obtain ⟨ad, hA, h00⟩ := hrd.at 0 (by omega) (by simp)
          rw [hA] at hsl
          have hx0 : w1.cell? ad = some (.int .i32 x) := by simpa [Addr.add, rdI] using h00
          have hsl : w1.cell? ⟨gi, pc * 4 + 3, none⟩ = some (.slice (some ad) 1 ca) := hsl
          rw [show rdI [x] 0 = x from rfl] at hm
          rw [h] at hop
          clear h hrd h00 hA hxs
          rcases hm with ⟨hm, h1⟩ | ⟨hm, hlt, h1⟩
          · have BB : (rn s q != x) = true := by rw [bne_iff_ne]; exact hm
            have H1 := Lib.hid h1
            have E1 := Lib.hid e1
            clear h1 e1 hm
            go_wp2_with (first | (go_at_call 133; refine ST.out.mono ?_; rintro e w2 ⟨rfl, rfl⟩))
            exact ⟨rfl, ⟨rfl, rfl, rfl, rfl, rfl, rfl, rfl⟩, m, by have := E1.out; omega, js, ws, c, HS.out, H1.out⟩
          · have BB : (rn s q != x) = false := by rw [hm]; simp
            rw [show wd s q = 1 from if_pos hlt] at ST
            rw [show I.out.toNat = o by have := HO.out.2.2; omega] at h1
            have WW : wrap64 ((q : Int) + 1) = ((q + 1 : Nat) : Int) := by have := HE.out.sz; unfold wrap64; omega
            have H1 := Lib.hid h1
            have E1 := Lib.hid e1
            have H2 := Lib.hid hlt
            clear h1 e1 hm hlt
            go_wp2_with (first | (go_at_call 133; refine ST.out.mono ?_; rintro e w2 ⟨rfl, rfl⟩))
            go_step3
            refine hKK m _ _ (by have := E1.out; omega) ⟨by have := E1.out; omega, ⟨rfl, rfl, rfl, rfl, rfl, rfl, rfl⟩, o, q + 1, js, ws, c, rfl, congrArg (Value.int .i64) WW, rfl, HS.out, HO.out.2.1, H2.out, H1.out⟩
        · exact (bt_bad HB.out HI.out h).elim
      · obtain ⟨m, e1, hm⟩ := bt_popT hbt HI.out
        rcases hm with ⟨h, h1⟩ | ⟨h, h1⟩
        · -- A
          obtain ⟨a, ha⟩ : ∃ a : Nat, I.arg = (a : Int) := ⟨I.arg.toNat, by have := AR.out.1 h; omega⟩
          have haL := (AR.out.1 h).2
          obtain ⟨q, rfl, hq⟩ : ∃ q : Nat, p = (q : Int) ∧ q ≤ s.size := by
            rcases hj.2 with h' | ⟨_, I', hI', h', _⟩
            · exact ⟨p.toNat, by have := h'.1; dsimp only at this; omega, by have := h'.1; have := h'.2.1; dsimp only at *; omega⟩
            · have := hI'.symm.trans HI.out
              cases this
              rw [h] at h'
              cases h'
          rw [ha] at harg h1 haL
          rw [Int.toNat_natCast, Int.toNat_natCast] at h1
          have HA := Lib.hid (And.intro hq (show a < L.length by omega))
          have H1 := Lib.hid h1
          have E1 := Lib.hid e1
          rw [h] at hop
          clear h1 e1 h ha haL hq hj hbt iop
          go_wp2
          go_step3
          refine hKK m _ _ (by have := E1.out; omega) ⟨by have := E1.out; omega, ⟨rfl, rfl, rfl, rfl, rfl, rfl, rfl⟩, a, q, js, ws, c, rfl, rfl, rfl, HS.out, HA.out.2, HA.out.1, H1.out⟩
        · -- B
          obtain ⟨a, ha⟩ : ∃ a : Nat, I.arg = (a : Int) := ⟨I.arg.toNat, by have := AR.out.2.1 h; omega⟩
          have hlt : a < nc := by
            rcases hj.2 with h' | ⟨_, I', hI', _, h'⟩
            · obtain ⟨I', hI', h'⟩ := h'.2.2 rfl
              have := hI'.symm.trans HI.out
              cases this
              rw [h] at h'
              cases h'
            · have := hI'.symm.trans HI.out
              cases this
              omega
          have hcl := HS.out.clen
          obtain ⟨gc, cc, hvc, hgc, hca, hcs⟩ := HS.out.st.caps (by omega)
          have c1 := (blk_cell HBK.out.1 1).trans (show _ = some vc from rfl)
          rw [hvc, hcl] at c1
          rw [ha] at harg h1
          rw [Int.toNat_natCast] at h1
          have U0 : (0 ≤ (a : Int)) = True := eq_true (by omega)
          have Z1 : (a < nc) = True := eq_true hlt
          have Z3 : ((a : Int) < (nc : Int)) = True := eq_true (by omega)
          obtain ⟨kx, fx⟩ := hca (a : Int) (by omega) (by omega)
          have kx : w1.cell? ⟨gc, a, none⟩ = some (.int .i64 (rdI c (a : Int))) := kx
          have fx : w1.frozen? ⟨gc, a, none⟩ = false := fx
          have HD := Lib.hid (And.intro hgc (hcs (a : Int) p))
          have H1 := Lib.hid h1
          have E1 := Lib.hid e1
          rw [h] at hop
          clear h1 e1 h ha hlt hj hbt iop hcl hvc hgc hca hcs
          go_wp2
          go_still_tail 10, (by kernel_rfl)
          change wpList _ _ _ _ _ w1.drew
          have c1 : w1.drew.cell? ⟨bs, 1, none⟩ = some (.slice (some ⟨gc, 0, none⟩) nc cc) := c1
          have kx : w1.drew.cell? ⟨gc, a, none⟩ = some (.int .i64 (rdI c (a : Int))) := kx
          have fx : w1.drew.frozen? ⟨gc, a, none⟩ = false := fx
          have HB5 := Lib.hid (below_drew HS.out.below)
          have HD5 : Hid (St (w1.drew.setCell ⟨gc, a, none⟩ (.int .i64 p)) w0.heap.size bs s.size s vc vm vv js ws (c.set a p) mc) := Lib.hid (by have := HD.out.2.drew; exact this)
          clear hop hout c5 harg
          generalize w1.drew = w5 at *
          go_wp2
          exact ⟨rfl, ⟨rfl, rfl, rfl, rfl, rfl, rfl, rfl⟩, m, by have := E1.out; omega, js, ws, c.set a p, ⟨HD5.out, below_set HB5.out HD.out.1, HS.out.wlen, HS.out.bits, HS.out.jobs, HS.out.jlen, (List.length_set ..).trans HS.out.clen⟩, H1.out⟩
    · clear a1 a3 a4 a5 a6 hcp hcp' W1 G1 G2 G3 G4 G5 G6 HX HJ HB HL
      rintro n a1 w1 ⟨hn, hfx, pc, p, js, ws, c, h13, h14, h15, hS, hpc, hp, hbt⟩ KK hKK
      obtain ⟨u, rfl⟩ := frame90 _ _ _ _ _ _ _ _ _ hfx.size hfx.nod hfx.h0 hfx.h1 hfx.h2 hfx.h10 hfx.h11 h13 h14 h15
      clear h13 h14 h15 hfx
      have V := Lib.hid (visit_calls HE.out.sz (show pc ≤ 2147483647 by have := HE.out.len; omega) hp (by rw [hS.wlen]; exact HE.out.fit _ _ hpc hp) hS.bits w1 hS.st)
      have HS := Lib.hid hS
      have HB := Lib.hid hbt
      have HP := Lib.hid (And.intro hpc hp)
      clear hS hbt hpc hp
      cases hv : vb ws (idx s.size pc p) with
      | true =>
        rw [hv] at V
        obtain ⟨m, e1, h1⟩ := bt_chk HB.out
        rw [if_pos hv] at h1
        have H1 := Lib.hid h1
        have E1 := Lib.hid e1
        clear h1 e1
        go_wp2_with (go_at_call 100; refine V.out.mono ?_; rintro e w2 ⟨rfl, hb1, hs1⟩)
        have HS := HS.out
        exact ⟨rfl, ⟨rfl, rfl, rfl, rfl, rfl, rfl, rfl⟩, m, by have := E1.out; omega, js, ws, c, ⟨hs1, HS.below.trans hb1, HS.wlen, HS.bits, HS.jobs, HS.jlen, HS.clen⟩, H1.out⟩
      | false =>
        rw [hv] at V
        obtain ⟨m, e1, h1⟩ := bt_chk HB.out
        rw [if_neg (by rw [hv]; decide)] at h1
        have H1 := Lib.hid h1
        have E1 := Lib.hid e1
        clear h1 e1
        go_wp2_with (go_at_call 100; refine V.out.mono ?_; rintro e w2 ⟨rfl, hb1, hs1⟩)
        go_step3
        have HS := HS.out
        have hlt : idx s.size pc p / 32 < ws.length := by rw [HS.wlen]; exact HE.out.fit _ _ HP.out.1 HP.out.2
        rename_i hk2
        refine hk2 _ _ ?_
        refine hKK m _ _ (by have := E1.out; omega) ?_
        exact ⟨by have := E1.out; omega, ⟨rfl, rfl, rfl, rfl, rfl, rfl, rfl⟩, pc, p, false, js, vput ws (idx s.size pc p), c, rfl, rfl, rfl, ⟨hs1, HS.below.trans hb1, by rw [vput_len]; exact HS.wlen, vput_lt HS.bits, HS.jobs, HS.jlen, HS.clen⟩, HP.out.1, .inl ⟨rfl, by omega, by have := HP.out.2; omega, by rw [Int.toNat_natCast, vput_vb _ _ hlt]; exact H1.out⟩⟩
    · intro e a w h
      cases e with
      | exit id =>
        obtain ⟨rfl, hfx, n, hn, hr⟩ := h
        exact hK _ _ (Handed.intro n hn (hJ _ _ _ ⟨hfx, hr⟩))
      | ret =>
        obtain ⟨hfx, hR, hE⟩ := h
        obtain ⟨v0, h0⟩ : ∃ v, a.tmps.getD 0 undef = v := ⟨_, rfl⟩
        obtain ⟨v1, h1⟩ : ∃ v, a.tmps.getD 1 undef = v := ⟨_, rfl⟩
        obtain ⟨v2, h2⟩ : ∃ v, a.tmps.getD 2 undef = v := ⟨_, rfl⟩
        obtain ⟨v11, h11⟩ : ∃ v, a.tmps.getD 11 undef = v := ⟨_, rfl⟩
        obtain ⟨v13, h13⟩ : ∃ v, a.tmps.getD 13 undef = v := ⟨_, rfl⟩
        obtain ⟨v14, h14⟩ : ∃ v, a.tmps.getD 14 undef = v := ⟨_, rfl⟩
        obtain ⟨v15, h15⟩ : ∃ v, a.tmps.getD 15 undef = v := ⟨_, rfl⟩
        obtain ⟨u, rfl⟩ := frame90 _ _ _ _ _ _ _ _ _ hfx.size hfx.nod h0 h1 h2 hfx.h10 h11 h13 h14 h15
        refine (show bodyPost Tryz.prog Tryz.f90 (fun e w' => e = .returned (.bool R.1) ∧ relE w0 L bs s vc vm vv N B nc mc R w') Exit.ret _ _ from ?_)
        dsimp only
        go_ret
        exact ⟨by rw [hR]; rfl, hE⟩
      | normal => exact h.elim
      | goto l => exact h.elim
      | panic ch => exact h.elim
      | outgrown => exact h.elim
end Go.Proofs.YtekkaknpgdgjjaaGreatDoor.H
