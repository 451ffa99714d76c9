/- What the printed path.Match comes to: the pattern matches, as it is meant. -/
import Derived.Test.YtbdlcbllcjpaaaaDoorHaMc
namespace Go.Proofs.YtbdlcbllcjpaaaaDoor.H
open Go.RowKit Go.Proofs.YtbdlcbllcjpaaaaDoorW.PrintWords Go.Proofs.YtbdlcbllcjpaaaaDoor.PG
set_option linter.unusedVariables false
set_option linter.unusedSimpArgs false

theorem NoB.mono {p q : List UInt8} (h : NoB p) (hq : ∀ b ∈ q, b ∈ p) : NoB q := fun b hb => h b (hq b hb)
theorem mem_drops {p : List UInt8} : ∀ b ∈ p.dropWhile (· == 42), b ∈ p := fun b hb => (List.dropWhile_suffix _).subset hb
theorem mem_chk {p : List UInt8} : ∀ b ∈ chk p, b ∈ p := fun b hb => (List.takeWhile_prefix _).subset hb
theorem mem_rst {p : List UInt8} : ∀ b ∈ rst p, b ∈ p := fun b hb => (List.dropWhile_suffix _).subset hb
theorem chk_no {p : List UInt8} : 42 ∉ chk p := by
  intro h
  have := List.all_takeWhile (p := fun b : UInt8 => b != 42) (l := p)
  rw [List.all_eq_true] at this
  simpa using this 42 h
theorem rst_head (p : List UInt8) : rst p = [] ∨ ∃ q, rst p = 42 :: q := by
  unfold rst
  induction p with
  | nil => exact .inl rfl
  | cons c p ih =>
    by_cases h : c = 42
    · right
      exact ⟨p, by rw [List.dropWhile_cons_of_neg (by simpa using h), h]⟩
    · rw [List.dropWhile_cons_of_pos (by simpa using h)]
      exact ih
theorem drops_len (p : List UInt8) : (p.dropWhile (· == 42)).length ≤ p.length := (List.dropWhile_suffix _).length_le
theorem rst_len (p : List UInt8) : (rst p).length ≤ p.length := (List.dropWhile_suffix _).length_le
theorem step_len (c : UInt8) (p : List UInt8) : (rst ((c :: p).dropWhile (· == 42))).length < (c :: p).length := by
  by_cases h : c = 42
  · rw [List.dropWhile_cons_of_pos (by simpa using h)]
    have := rst_len (p.dropWhile (· == 42))
    have := drops_len p
    simp
    omega
  · rw [List.dropWhile_cons_of_neg (by simpa using h), rst, List.dropWhile_cons_of_pos (by simpa using h)]
    have := (List.dropWhile_suffix (p := fun b : UInt8 => b != 42) (l := p)).length_le
    simp
    omega

theorem l2_ev : ∀ (n : Nat) (p : List UInt8), p.length = n → NoB p → p.length ≤ 2147483647 → Ev (fun k => path_Match.l2 k (ba p)) (false, none) := by
  intro n
  induction n using Nat.strongRecOn with
  | _ n ih =>
    intro p hn hp hl
    refine Ev.succ ?_
    simp only [path_Match.l2]
    cases p with
    | nil => exact Ev.neg (by simp) (Ev.val _)
    | cons c p =>
      refine Ev.pos (by rw [size_cons]; omega) (Ev.bind (sc_ev _ hp hl) ?_)
      have hc : NoB (chk ((c :: p).dropWhile (· == 42))) := hp.mono (fun b hb => mem_drops b (mem_chk b hb))
      have hr : NoB (rst ((c :: p).dropWhile (· == 42))) := hp.mono (fun b hb => mem_drops b (mem_rst b hb))
      have hlen := step_len c p
      refine Ev.bind (mc_ev _ [] hc (by intro b hb; cases hb)) ?_
      have e : (mcV (mcs (chk ((c :: p).dropWhile (· == 42))) [])).2.2 = none := by
        unfold mcV
        split <;> rfl
      simp only [e]
      exact Ev.pos rfl (ih _ (by omega) _ rfl hr (by omega))
theorem j6_ev (p : List UInt8) (hp : NoB p) (hl : p.length ≤ 2147483647) : Ev (fun k => path_Match.j6 k (ba p)) (false, none) := by
  refine Ev.succ ?_
  simp only [path_Match.j6]
  exact l2_ev _ p rfl hp hl

/-- A chunk at the beginning, and what stands behind it. -/
def Fc (c r : List UInt8) (u : List UInt8) : Bool := match mcs c u with
  | some t => glob r t
  | none => false
/-- .. at a place behind bytes that are no slash, at least one. -/
def sr (c r : List UInt8) : List UInt8 → Bool
  | [] => false
  | x :: m => x != 47 && anyTail (Fc c r) m
theorem any_sr {c r m : List UInt8} (h : Fc c r m = false) : anyTail (Fc c r) m = sr c r m := by
  cases m with
  | nil => exact h
  | cons x m => simp [anyTail, sr, h]
theorem hit_eq {c r m t : List UInt8} (hr : r = [] ∨ ∃ q, r = 42 :: q) (hm : mcs c m = some t) (hh : r = [] → t = []) : anyTail (Fc c r) m = glob r t := by
  have hF : Fc c r m = glob r t := by simp [Fc, hm]
  refine bool_iff ⟨fun h => ?_, fun h => anyTail_at (hF.trans h)⟩
  rcases hr with rfl | ⟨q, rfl⟩
  · rw [hh rfl]
    rfl
  · rw [glob_star]
    refine greedy (f := glob q) hm ?_
    have e : Fc c (42 :: q) = fun u => match mcs c u with | some t => anyTail (glob q) t | none => false := by
      funext u
      unfold Fc
      rw [glob_star]
    rw [e] at h
    exact h
theorem mcs_suffix : ∀ {c s t : List UInt8}, mcs c s = some t → ∃ h, s = h ++ t := fun h => let ⟨a, e, _⟩ := mcs_some h; ⟨a, e⟩
theorem Pl.mono {p q : List UInt8} (h : Pl p) (hq : ∀ b ∈ q, b ∈ p) : Pl q := fun b hb => h b (hq b hb)
theorem sz_gt (t : List UInt8) : ((ba t).size : Int) = (t.length : Int) := by simp

theorem l1_ev {c r : List UInt8} (hc : NoB c) (hr : NoB r) (hrl : r.length ≤ 2147483647) (hrh : r = [] ∨ ∃ q, r = 42 :: q)
    (ih : ∀ t, Pl t → t.length ≤ 2147483647 → Ev (fun k => path_Match.l0 k (ba r) (ba t)) (glob r t, none)) (n : List UInt8) (hn : Pl n) (hnl : n.length ≤ 2147483647) :
    ∀ (j i : Nat), n.length - i = j → i ≤ n.length → Ev (fun k => path_Match.l1 k (ba r) (ba n) (ba c) (i : Int)) (sr c r (n.drop i), none) := by
  intro j
  induction j with
  | zero =>
    intro i hj hi
    have : i = n.length := by omega
    subst this
    refine Ev.succ ?_
    simp only [path_Match.l1]
    refine Ev.neg (by simp) (Ev.succ ?_)
    simp only [path_Match.j4]
    refine Ev.neg (by simp) ((j6_ev r hr hrl).eq ?_)
    simp [sr]
  | succ j jh =>
    intro i hj hi
    have hlt : i < n.length := by omega
    have hd := List.drop_eq_getElem_cons hlt
    have next := jh (i + 1) (by omega) (by omega)
    refine Ev.succ ?_
    simp only [path_Match.l1, bt_ba n i hlt]
    refine Ev.pos (by rw [sz_gt]; omega) (Ev.pos (by omega) (Ev.succ ?_))
    simp only [path_Match.j4]
    by_cases h47 : n[i] = 47
    · refine Ev.neg (by rw [h47, show (((47 : UInt8).toNat : Int) != 47) = false from rfl]; exact Bool.false_ne_true) ((j6_ev r hr hrl).eq ?_)
      rw [hd, sr, h47]
      rfl
    · have e47 : (((n[i].toNat : Int)) != 47) = true := bne_iff_ne.2 (ne_lit (d := 47) rfl h47)
      have es : sr c r (n.drop i) = anyTail (Fc c r) (n.drop (i + 1)) := by rw [hd, sr, bne_iff_ne.2 h47, Bool.true_and]
      rw [es]
      have hnd : Pl (n.drop (i + 1)) := hn.mono (fun b hb => List.mem_of_mem_drop hb)
      refine Ev.pos e47 ?_
      rw [wrap1 hlt (by omega)]
      refine Ev.pos (by omega) (Ev.pos (by rw [sz_gt]; omega) ?_)
      rw [Int.toNat_natCast, extract_end, ba_data]
      refine Ev.bind (mc_ev c _ hc hnd) ?_
      cases hm : mcs c (n.drop (i + 1)) with
      | none =>
        simp only [mcV]
        refine Ev.neg (by simp) (Ev.pos rfl (next.eq ?_))
        rw [any_sr (by simp [Fc, hm])]
      | some t =>
        simp only [mcV]
        obtain ⟨a, ea⟩ := mcs_suffix hm
        have ht : Pl t := hnd.mono (fun b hb => by rw [ea]; exact List.mem_append_right _ hb)
        have htl : t.length ≤ 2147483647 := by
          have := congrArg List.length ea
          simp at this
          omega
        refine Ev.pos (by simp) (Ev.ite (fun h0 => ?_) (fun h0 => ?_))
        · have hr0 : r = [] := by rw [sz_gt] at h0; exact List.eq_nil_of_length_eq_zero (by omega)
          refine Ev.succ ?_
          simp only [path_Match.j5]
          rw [wrap1 hlt (by omega)]
          refine Ev.ite (fun hg => next.eq ?_) (fun hg => (ih t ht htl).eq ?_)
          · rw [any_sr]
            have hg := of_decide_eq_true hg
            simp only [sz_gt] at hg
            rw [hr0]
            simp only [Fc, hm, glob, List.isEmpty_eq_false_iff]
            rintro rfl
            simp at hg
          · have hg : ¬ ((t.length : Int) > 0) := fun e => hg (decide_eq_true (by simp only [sz_gt]; exact e))
            rw [hit_eq hrh hm (fun _ => List.eq_nil_of_length_eq_zero (by omega))]
        · have hr0 : r ≠ [] := by rintro rfl; exact h0 (by simp)
          refine Ev.succ ?_
          simp only [path_Match.j5]
          refine Ev.neg (by simp) ((ih t ht htl).eq ?_)
          rw [hit_eq hrh hm (fun e => absurd e hr0)]

theorem index_none (n : List UInt8) : Lib.indexByte n 47 < 0 ↔ 47 ∉ n := by
  induction n with
  | nil => simp [Lib.indexByte]
  | cons x n ih =>
    unfold Lib.indexByte
    have hge := Lib.indexByte_ge n 47
    by_cases hx : x = 47
    · simp [hx]
    · have e : (x == 47) = false := by simpa using hx
      rw [e]
      simp only [Bool.false_eq_true, if_false, List.mem_cons, not_or]
      by_cases h1 : Lib.indexByte n 47 == -1
      · rw [if_pos h1]
        have := eq_of_beq h1
        have hn := ih.1 (by omega)
        exact ⟨fun _ => ⟨fun e => hx e.symm, hn⟩, fun _ => by decide⟩
      · rw [if_neg h1]
        have h2 : Lib.indexByte n 47 ≠ -1 := fun e => h1 (by rw [e]; rfl)
        exact ⟨fun h => by omega, fun ⟨_, h⟩ => by have := ih.2 h; omega⟩
theorem any_empty (n : List UInt8) : anyTail (glob []) n = decide (47 ∉ n) := by
  refine bool_iff ⟨fun h => ?_, fun h => ?_⟩
  · obtain ⟨a, u, rfl, ha, hu⟩ := anyTail_iff.1 h
    have : u = [] := List.isEmpty_iff.1 hu
    subst this
    simpa using ha
  · exact anyTail_iff.2 ⟨n, [], by simp, of_decide_eq_true h, rfl⟩
theorem drops_head (p : List UInt8) : (p.dropWhile (· == 42)).head? ≠ some 42 := by
  induction p with
  | nil => simp
  | cons c p ih =>
    by_cases h : c = 42
    · rw [List.dropWhile_cons_of_pos (by simpa using h)]
      exact ih
    · rw [List.dropWhile_cons_of_neg (by simpa using h)]
      simpa using h
theorem chk_nil {p : List UInt8} (h : chk (p.dropWhile (· == 42)) = []) : p.dropWhile (· == 42) = [] := by
  have hh := drops_head p
  generalize p.dropWhile (· == 42) = q at *
  cases q with
  | nil => rfl
  | cons c q =>
    simp at hh
    rw [chk, List.takeWhile_cons_of_pos (by simpa using hh)] at h
    cases h

theorem pm_ev : ∀ (m : Nat) (p n : List UInt8), p.length = m → NoB p → p.length ≤ 2147483647 → Pl n → n.length ≤ 2147483647 → Ev (fun k => path_Match.l0 k (ba p) (ba n)) (glob p n, none) := by
  intro m
  induction m using Nat.strongRecOn with
  | _ m ih =>
    intro p n hm hp hl hn hnl
    refine Ev.succ ?_
    simp only [path_Match.l0]
    cases p with
    | nil =>
      refine Ev.neg (by simp) (Ev.eq (Ev.val _) ?_)
      cases n <;> simp [glob]
      omega
    | cons d p =>
      refine Ev.pos (by rw [size_cons]; omega) (Ev.bind (sc_ev _ hp hl) ?_)
      have hdrop := glob_drop (d :: p) n
      have hcr := chk_rst ((d :: p).dropWhile (· == 42))
      have hnil := @chk_nil (d :: p)
      have hc : NoB (chk ((d :: p).dropWhile (· == 42))) := hp.mono (fun b hb => mem_drops b (mem_chk b hb))
      have hr : NoB (rst ((d :: p).dropWhile (· == 42))) := hp.mono (fun b hb => mem_drops b (mem_rst b hb))
      have hlen := step_len d p
      have hrh := rst_head ((d :: p).dropWhile (· == 42))
      have hno := @chk_no ((d :: p).dropWhile (· == 42))
      generalize hq : (d :: p).dropWhile (· == 42) = q at *
      have hglob : ∀ s, glob q s = Fc (chk q) (rst q) s := by
        intro s
        conv => lhs; rw [← hcr]
        rw [glob_chunk _ _ _ hno]
        rfl
      have IH : ∀ t, Pl t → t.length ≤ 2147483647 → Ev (fun k => path_Match.l0 k (ba (rst q)) (ba t)) (glob (rst q) t, none) := fun t ht htl => ih _ (by omega) _ t rfl hr (by omega) ht htl
      have hrl : (rst q).length ≤ 2147483647 := by omega
      generalize hst : ((d :: p).head? == some 42) = st at *
      have hval : glob (d :: p) n = if st = true then anyTail (Fc (chk q) (rst q)) n else Fc (chk q) (rst q) n := by
        rw [hdrop]
        by_cases h : (d :: p).head? = some 42
        · have e : st = true := by rw [← hst, h]; rfl
          have e2 : glob q = Fc (chk q) (rst q) := funext hglob
          rw [if_pos h, e, if_pos rfl, e2]
        · have e : st = false := by rw [← hst]; exact beq_eq_false_iff_ne.2 h
          have e3 : (d :: p) = q := by
            rw [← hq, List.dropWhile_cons_of_neg]
            simpa using h
          rw [if_neg h, e, if_neg (by simp), e3, hglob]
      rw [hval]
      have main : ∀ (stc : Bool), (stc = true → st = true ∧ chk q = []) → (stc = false → st = true → chk q ≠ []) →
          Ev (fun k => path_Match.j1 k (ba (rst q)) (ba n) st (ba (chk q)) stc) (if st = true then anyTail (Fc (chk q) (rst q)) n else Fc (chk q) (rst q) n, none) := by
        intro stc h1 h2
        refine Ev.succ ?_
        simp only [path_Match.j1]
        refine Ev.ite (fun h => ?_) (fun h => ?_)
        · obtain ⟨hs, hc0⟩ := h1 h
          refine Ev.bind (Ev.of rfl) (Ev.eq (Ev.val _) ?_)
          have hq0 := hnil hc0
          have hr0 : rst q = [] := by rw [hq0]; rfl
          have e : Fc (chk q) (rst q) = glob [] := by
            funext u
            rw [hc0, hr0]
            rfl
          rw [if_pos hs, e, any_empty]
          congr 1
          rw [ba_data]
          exact decide_eq_decide.2 (index_none n)
        · refine Ev.bind (mc_ev _ n hc hn) ?_
          have miss : Fc (chk q) (rst q) n = false → Ev (fun k => path_Match.j2 k (ba (rst q)) (ba n) st (ba (chk q)) (mcV (mcs (chk q) n)).1 none false) (if st = true then anyTail (Fc (chk q) (rst q)) n else Fc (chk q) (rst q) n, none) := by
            intro hF
            refine Ev.succ ?_
            simp only [path_Match.j2]
            refine Ev.neg (by simp) (Ev.pos rfl (Ev.ite (fun hs => ?_) (fun hs => ?_)))
            · refine (l1_ev hc hr hrl hrh IH n hn hnl _ 0 rfl (by omega)).eq ?_
              rw [if_pos hs, any_sr hF]
              rfl
            · refine (j6_ev _ hr hrl).eq ?_
              rw [if_neg hs, hF]
          have hit : ∀ t, mcs (chk q) n = some t → (rst q = [] → t = []) → Ev (fun k => path_Match.j2 k (ba (rst q)) (ba n) st (ba (chk q)) (ba t) none true) (if st = true then anyTail (Fc (chk q) (rst q)) n else Fc (chk q) (rst q) n, none) := by
            intro t ht hh
            obtain ⟨a, ea⟩ := mcs_suffix ht
            refine Ev.succ ?_
            simp only [path_Match.j2]
            refine Ev.pos (by simp) ((IH t (hn.mono (fun b hb => by rw [ea]; exact List.mem_append_right _ hb)) ?_).eq ?_)
            · have := congrArg List.length ea
              simp at this
              omega
            · rw [hit_eq hrh ht hh]
              simp [Fc, ht]
          cases ht : mcs (chk q) n with
          | none =>
            simp only [ht] at miss
            simp only [mcV] at miss ⊢
            exact Ev.neg (by simp) (miss (by simp [Fc, ht]))
          | some t =>
            simp only [ht] at miss
            simp only [mcV] at miss ⊢
            refine Ev.pos (by simp) (Ev.ite (fun h0 => ?_) (fun h0 => ?_))
            · rw [sz_gt] at h0
              exact hit t ht (fun _ => List.eq_nil_of_length_eq_zero (by omega))
            · rw [sz_gt] at h0
              by_cases hr0 : rst q = []
              · have e : decide (((ba (rst q)).size : Int) > 0) = false := by rw [hr0]; rfl
                rw [e]
                refine miss ?_
                simp only [Fc, ht, hr0, glob, List.isEmpty_eq_false_iff]
                rintro rfl
                simp at h0
              · have e : decide (((ba (rst q)).size : Int) > 0) = true := by
                  rw [sz_gt]
                  refine decide_eq_true ?_
                  have := List.length_pos_iff.2 hr0
                  omega
                rw [e]
                exact hit t ht (fun e => absurd e hr0)
      refine Ev.ite (fun hs => ?_) (fun hs => ?_)
      · refine main _ (fun h => ⟨hs, ?_⟩) (fun h _ => ?_)
        · simpa using h
        · simpa using h
      · exact main false (by simp) (fun _ h => absurd h hs)
theorem match_ev (p n : List UInt8) (hp : NoB p) (hl : p.length ≤ 2147483647) (hn : Pl n) (hnl : n.length ≤ 2147483647) : Ev (fun k => path_Match.f k (ba p) (ba n)) (glob p n, none) := pm_ev _ p n rfl hp hl hn hnl
end Go.Proofs.YtbdlcbllcjpaaaaDoor.H
