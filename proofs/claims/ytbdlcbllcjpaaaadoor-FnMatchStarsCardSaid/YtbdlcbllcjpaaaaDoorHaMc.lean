/- What the printed scanChunk and matchChunk come to, of patterns without a bracket and a backslash and of plain names. -/
import Derived.Test.YtbdlcbllcjpaaaaDoorHaGlob
import Derived.Test.YtbdlcbllcjpaaaaDoorPGx6
namespace Go.Proofs.YtbdlcbllcjpaaaaDoor.H
open Go.RowKit Go.Proofs.YtbdlcbllcjpaaaaDoorW.PrintWords Go.Proofs.YtbdlcbllcjpaaaaDoor.PG
set_option linter.unusedVariables false
set_option linter.unusedSimpArgs false

def NoB (p : List UInt8) : Prop := ∀ b ∈ p, b ≠ 91 ∧ b ≠ 92
def Pl (s : List UInt8) : Prop := ∀ b ∈ s, b.toNat < 128
theorem NoB.tail {c : UInt8} {p : List UInt8} (h : NoB (c :: p)) : NoB p := fun b hb => h b (List.mem_cons_of_mem _ hb)
theorem Pl.tail {c : UInt8} {p : List UInt8} (h : Pl (c :: p)) : Pl p := fun b hb => h b (List.mem_cons_of_mem _ hb)
theorem u8_inj {c d : UInt8} : ((c.toNat : Int) = (d.toNat : Int)) ↔ c = d := ⟨fun h => UInt8.toNat_inj.1 (by omega), fun h => by rw [h]⟩
theorem bt0 (c : UInt8) (l : List UInt8) : bt (ba (c :: l)) 0 = (c.toNat : Int) := by
  obtain ⟨hh, h⟩ := bt_data (ba (c :: l)) 0 (by simp)
  simpa using h
theorem bt_ba (l : List UInt8) (i : Nat) (h : i < l.length) : bt (ba l) (i : Int) = (l[i].toNat : Int) := by
  obtain ⟨hh, e⟩ := bt_data (ba l) i (by simpa using h)
  rw [e]
  simp
theorem cut1 (c : UInt8) (l : List UInt8) : (ba (c :: l)).extract 1 (ba (c :: l)).size = ba l := by
  rw [extract_end]
  simp
theorem size_cons (c : UInt8) (l : List UInt8) : ((ba (c :: l)).size : Int) = (l.length : Int) + 1 := by simp
theorem ba_nil : (⟨#[]⟩ : ByteArray) = ba [] := rfl
theorem ne_lit {c d : UInt8} {n : Int} (hd : (d.toNat : Int) = n) (h : c ≠ d) : ¬ (c.toNat : Int) = n := fun e => h (u8_inj.1 (e.trans hd.symm))

theorem j1_true {c : UInt8} {cs s : List UInt8} {v : ByteArray × Bool × Option Int} (hc : NoB (c :: cs)) (h : Ev (fun k => path_matchChunk.l0 k (ba cs) (ba s) true) v) :
    Ev (fun k => path_matchChunk.j1 k (ba (c :: cs)) (ba s) true) v := by
  obtain ⟨h91, h92⟩ := hc c (List.mem_cons_self ..)
  refine Ev.succ ?_
  simp only [path_matchChunk.j1, bt0, cut1]
  refine Ev.pos (by rw [size_cons]; omega) (Ev.neg (ne_lit (d := 91) rfl h91) ?_)
  refine Ev.ite (fun _ => Ev.pos (by simp) (Ev.pos (by rw [size_cons]; omega) h)) (fun _ => Ev.neg (ne_lit (d := 92) rfl h92) (Ev.pos (by simp) (Ev.pos (by rw [size_cons]; omega) h)))
theorem mc_true : ∀ (c s : List UInt8), NoB c → Ev (fun k => path_matchChunk.l0 k (ba c) (ba s) true) (ba [], false, none) := by
  intro c
  induction c with
  | nil =>
    intro s _
    refine Ev.succ ?_
    simp only [path_matchChunk.l0]
    exact Ev.neg (by simp) (Ev.pos (by simp) (Ev.val _))
  | cons d c ih =>
    intro s h
    refine Ev.succ ?_
    simp only [path_matchChunk.l0]
    exact Ev.pos (by rw [size_cons]; omega) (Ev.pos (by simp) (j1_true h (ih s h.tail)))
theorem decode (x : UInt8) (s : List UInt8) (hx : x.toNat < 128) : ∃ r, utf8_DecodeRuneInString.f (ba (x :: s)) = some (r, 1) := by
  refine ⟨wrap32 (bt (ba (x :: s)) 0), ?_⟩
  unfold utf8_DecodeRuneInString.f
  rw [if_neg (by simp), if_pos (by rw [size_cons]; omega), if_pos (by rw [bt0]; omega)]
def mcV (o : Option (List UInt8)) : ByteArray × Bool × Option Int := match o with
  | some t => (ba t, true, none)
  | none => (ba [], false, none)
theorem mc_false : ∀ (c s : List UInt8), NoB c → Pl s → Ev (fun k => path_matchChunk.l0 k (ba c) (ba s) false) (mcV (mcs c s)) := by
  intro c
  induction c with
  | nil =>
    intro s _ _
    refine Ev.succ ?_
    simp only [path_matchChunk.l0]
    exact Ev.neg (by simp) (Ev.neg (by simp) (Ev.val _))
  | cons d c ih =>
    intro s h hs
    obtain ⟨h91, h92⟩ := h d (List.mem_cons_self ..)
    refine Ev.succ ?_
    simp only [path_matchChunk.l0]
    refine Ev.pos (by rw [size_cons]; omega) (Ev.neg (by simp) ?_)
    cases s with
    | nil =>
      have e : (((ba []).size : Int) == 0) = true := rfl
      rw [e]
      exact j1_true h (mc_true c [] h.tail)
    | cons x s =>
      have e : (((ba (x :: s)).size : Int) == 0) = false := by rw [beq_eq_false_iff_ne, size_cons]; omega
      rw [e]
      refine Ev.succ ?_
      simp only [path_matchChunk.j1, bt0, cut1]
      refine Ev.pos (by rw [size_cons]; omega) (Ev.neg (ne_lit (d := 91) rfl h91) ?_)
      obtain ⟨r, hr⟩ := decode x s (hs x (List.mem_cons_self ..))
      refine Ev.ite (fun h63 => ?_) (fun h63 => Ev.neg (ne_lit (d := 92) rfl h92) ?_)
      · have hd : d = 63 := u8_inj.1 h63
        refine Ev.neg (by simp) (Ev.pos (by rw [size_cons]; omega) ?_)
        rw [hr]
        simp only [Option.bind_some]
        refine Ev.pos (by omega) (Ev.pos (by rw [size_cons]; omega) (Ev.pos (by rw [size_cons]; omega) ?_))
        rw [show ((1 : Int).toNat) = 1 from rfl, cut1]
        by_cases hx : x = 47
        · have e1 : ((x.toNat : Int) == 47) = true := by rw [hx]; rfl
          have e2 : mcs (d :: c) (x :: s) = none := by simp [mcs, one, hd, hx]
          rw [e1, e2]
          exact mc_true c s h.tail
        · have e1 : ((x.toNat : Int) == 47) = false := beq_eq_false_iff_ne.2 (ne_lit (d := 47) rfl hx)
          have e2 : mcs (d :: c) (x :: s) = mcs c s := by simp [mcs, one, hd, hx]
          rw [e1, e2]
          exact ih s h.tail hs.tail
      · have hd : d ≠ 63 := fun e => h63 (by rw [e]; rfl)
        refine Ev.neg (by simp) (Ev.pos (by rw [size_cons]; omega) (Ev.pos (by rw [size_cons]; omega) (Ev.pos (by rw [size_cons]; omega) ?_)))
        by_cases hx : d = x
        · have e1 : ((d.toNat : Int) != (x.toNat : Int)) = false := by rw [hx]; simp
          have e2 : mcs (d :: c) (x :: s) = mcs c s := by rw [mcs, one, if_neg hd, hx, beq_self_eq_true, if_pos rfl]
          rw [e1, e2]
          exact ih s h.tail hs.tail
        · have e1 : ((d.toNat : Int) != (x.toNat : Int)) = true := by
            rw [bne_iff_ne]
            exact fun e => hx (u8_inj.1 e)
          have e2 : mcs (d :: c) (x :: s) = none := by simp [mcs, one, hd, hx]
          rw [e1, e2]
          exact mc_true c s h.tail
theorem mc_ev (c s : List UInt8) (hc : NoB c) (hs : Pl s) : Ev (fun k => path_matchChunk.f k (ba c) (ba s)) (mcV (mcs c s)) := mc_false c s hc hs

/-- A pattern's chunk and what stands behind it. -/
def chk (p : List UInt8) : List UInt8 := p.takeWhile (fun b => b != 42)
def rst (p : List UInt8) : List UInt8 := p.dropWhile (fun b => b != 42)
theorem chk_rst (p : List UInt8) : chk p ++ rst p = p := List.takeWhile_append_dropWhile
theorem sc_l1 (p : List UInt8) (x2 : Bool) (hp : NoB p) (hl : p.length ≤ 2147483647) : ∀ (n i : Nat), p.length - i = n → i ≤ p.length →
    Ev (fun k => path_scanChunk.l1 k (ba p) x2 false (i : Int)) (x2, ba (p.take i ++ chk (p.drop i)), ba (rst (p.drop i))) := by
  intro n
  induction n with
  | zero =>
    intro i hn hi
    have : i = p.length := by omega
    subst this
    refine Ev.succ ?_
    simp only [path_scanChunk.l1]
    refine Ev.neg (by simp) (Ev.eq (Ev.val _) ?_)
    simp [chk, rst, ba_nil]
  | succ n ih =>
    intro i hn hi
    have hlt : i < p.length := by omega
    have hd := List.drop_eq_getElem_cons hlt
    obtain ⟨h91, h92⟩ := hp p[i] (List.getElem_mem _)
    have next := ih (i + 1) (by omega) (by omega)
    refine Ev.succ ?_
    simp only [path_scanChunk.l1, bt_ba p i hlt]
    rw [wrap1 hlt (by omega)]
    refine Ev.pos (by simp; omega) (Ev.pos (by omega) (Ev.neg (ne_lit (d := 92) rfl h92) (Ev.neg (ne_lit (d := 91) rfl h91) ?_)))
    have go : p[i] ≠ 42 → Ev (fun k => path_scanChunk.l1 k (ba p) x2 false ((i + 1 : Nat) : Int)) (x2, ba (p.take i ++ chk (p.drop i)), ba (rst (p.drop i))) := by
      intro h42
      refine next.eq ?_
      have e1 : chk (p.drop i) = p[i] :: chk (p.drop (i + 1)) := by rw [hd, chk, List.takeWhile_cons_of_pos (by simpa using h42)]; rfl
      have e2 : rst (p.drop i) = rst (p.drop (i + 1)) := by rw [hd, rst, List.dropWhile_cons_of_pos (by simpa using h42)]; rfl
      rw [e1, e2, List.take_succ_eq_append_getElem hlt, List.append_assoc]
      rfl
    refine Ev.ite (fun h93 => go ?_) (fun h93 => Ev.ite (fun h42 => ?_) (fun h42 => go ?_))
    · intro e
      rw [e] at h93
      exact absurd h93 (by decide)
    · have e : p[i] = 42 := u8_inj.1 h42
      refine Ev.neg (by simp) (Ev.pos (by simp; omega) (Ev.eq (Ev.val _) ?_))
      have e1 : chk (p.drop i) = [] := by rw [hd, chk, List.takeWhile_cons_of_neg (by simpa using e)]
      have e2 : rst (p.drop i) = p.drop i := by rw [hd, rst, List.dropWhile_cons_of_neg (by simpa using e)]
      rw [e1, e2, List.append_nil, extract_zero, extract_end]
      simp
    · exact fun e => h42 (by rw [e]; rfl)
theorem sc_l0 : ∀ (p : List UInt8) (x2 : Bool), NoB p → p.length ≤ 2147483647 →
    Ev (fun k => path_scanChunk.l0 k (ba p) x2) (x2 || (p.head? == some 42), ba (chk (p.dropWhile (· == 42))), ba (rst (p.dropWhile (· == 42)))) := by
  intro p
  induction p with
  | nil =>
    intro x2 h hl
    refine Ev.succ ?_
    simp only [path_scanChunk.l0]
    refine Ev.neg (by simp) (Ev.succ ?_)
    simp only [path_scanChunk.j1]
    refine (sc_l1 [] x2 h hl 0 0 (by simp) (by simp)).eq ?_
    simp
  | cons c p ih =>
    intro x2 h hl
    refine Ev.succ ?_
    simp only [path_scanChunk.l0, bt0, cut1]
    refine Ev.pos (by rw [size_cons]; omega) (Ev.pos (by rw [size_cons]; omega) ?_)
    refine Ev.ite (fun h42 => ?_) (fun h42 => ?_)
    · have e : c = 42 := u8_inj.1 h42
      refine Ev.pos (by rw [size_cons]; omega) ((ih true h.tail (by simp at hl; omega)).eq ?_)
      subst e
      simp
    · have e : c ≠ 42 := fun e => h42 (by rw [e]; rfl)
      refine Ev.succ ?_
      simp only [path_scanChunk.j1]
      refine (sc_l1 (c :: p) x2 h hl _ 0 rfl (by simp)).eq ?_
      simp [List.dropWhile_cons_of_neg, e]
theorem sc_ev (p : List UInt8) (hp : NoB p) (hl : p.length ≤ 2147483647) :
    Ev (fun k => path_scanChunk.f k (ba p)) (p.head? == some 42, ba (chk (p.dropWhile (· == 42))), ba (rst (p.dropWhile (· == 42)))) := by
  refine (sc_l0 p false hp hl).eq ?_
  simp
end Go.Proofs.YtbdlcbllcjpaaaaDoor.H
