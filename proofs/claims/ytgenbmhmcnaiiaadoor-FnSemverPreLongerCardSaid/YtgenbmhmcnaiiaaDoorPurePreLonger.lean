/- The plain law of FnSemverPreLonger. -/
import Derived.Test.YtgenbmhmcnaiiaaDoorHaGood
import Derived.Test.YtgenbmhmcnaiiaaDoorHaStruct
import Derived.Test.YtgenbmhmcnaiiaaDoorPGx15
namespace Go.Proofs.YtgenbmhmcnaiiaaDoor.lawPreLonger
open Go.RowKit Go.Proofs.YtgenbmhmcnaiiaaDoor.PG Go.Proofs.YtgenbmhmcnaiiaaDoor.H
open Go.Proofs.YtgenbmhmcnaiiaaDoorW.PrintWords hiding Ev Ev.bind
set_option linter.unusedVariables false
set_option linter.unusedSimpArgs false

theorem parts_append (c : UInt8) (a b : List UInt8) : parts c (a ++ c :: b) = parts c a ++ parts c b := by
  induction a with
  | nil => simp [parts]
  | cons x r ih =>
    simp only [List.cons_append]
    rw [parts_cons, parts_cons, ih]
    split
    · rfl
    · have hne := parts_ne c r
      cases h : parts c r with
      | nil => exact absurd h hne
      | cons y t => rfl

theorem pcmp_self (x : ByteArray) : pcmp x x = 0 := by
  unfold pcmp partCmp
  simp
theorem longer (X : List (List UInt8)) (y : List UInt8) (Y : List (List UInt8)) (hy : y ≠ []) : preCmpL (X.map ba) ((X ++ y :: Y).map ba) = -1 := by
  induction X with
  | nil =>
    simp only [List.map_nil, List.nil_append, List.map_cons, preCmpL]
    rw [nil_pcmp hy]
    rfl
  | cons x X ih =>
    simp only [List.map_cons, List.cons_append, preCmpL]
    rw [pcmp_self, if_pos rfl, ih]

theorem seg_self (a : Int) : segCmp a a = 0 := by
  unfold segCmp
  rw [if_neg (by omega), if_neg (by omega)]

theorem below (a b c : Int) (p x : ByteArray) (hp : p.data.toList ≠ []) (hx : okPre x.data.toList) (hxn : x.data.toList ≠ []) : verCmp a b c p a b c (p ++ (⟨#[46]⟩ : ByteArray) ++ x) = -1 := by
  have hd : (p ++ (⟨#[46]⟩ : ByteArray) ++ x).data.toList = p.data.toList ++ 46 :: x.data.toList := by rw [data_append, data_append]; simp
  unfold verCmp
  rw [seg_self, seg_self, seg_self, if_pos rfl, if_pos rfl, if_pos rfl]
  unfold tailCmp preCmp
  rw [toList_eq, toList_eq, hd, parts_append]
  rw [if_neg (by simpa using hp), if_neg (by simp)]
  obtain ⟨vx, _⟩ := hx.resolve_left hxn
  have hne := parts_ne 46 x.data.toList
  cases h : parts 46 x.data.toList with
  | nil => exact absurd h hne
  | cons y Y => exact longer _ y Y (preIdent_ne (validPre_mem vx (by rw [h]; simp)))

theorem j0_true (x : ByteArray) (a b c : Int) (p m : ByteArray) : Ev (fun k => laws_FnSemverPreLonger.j0 k x true a b c p m) true := by
  refine Ev.succ ?_
  simp only [laws_FnSemverPreLonger.j0]
  exact Ev.pos (by simp) (Ev.val _)
theorem j1_true (x : ByteArray) (a b c : Int) (p m : ByteArray) : Ev (fun k => laws_FnSemverPreLonger.j1 k x true a b c p m) true := by
  refine Ev.succ ?_
  simp only [laws_FnSemverPreLonger.j1]
  exact Ev.pos (by simp) (Ev.val _)

theorem pure (a b c : Int) (p m x : ByteArray) (ya : u64ok a) (yb : u64ok b) (yc : u64ok c) : ∃ k, laws_FnSemverPreLonger.f k a b c p m x = some true := by
  refine Ev.get (g := fun k => laws_FnSemverPreLonger.f k a b c p m x) ?_
  unfold laws_FnSemverPreLonger.f
  rw [fits14_ev]
  simp only [Option.bind_some]
  refine Ev.ite (fun e1 => ?_) (fun _ => j0_true ..)
  obtain ⟨sp, sm⟩ := fits14_iff.1 e1
  cases e2 : decide ((x.size : Int) > 2147483647) with
  | true => exact j0_true ..
  | false =>
    have sx : ¬ (x.size : Int) > 2147483647 := by simpa using e2
    refine Ev.succ ?_
    simp only [laws_FnSemverPreLonger.j0]
    refine Ev.neg (by simp) ?_
    rw [toList_eq, toList_eq]
    refine Ev.ite (fun _ => j1_true ..) (fun hp => Ev.ite (fun _ => j1_true ..) (fun hx => ?_))
    have hg := svGood_ev [⟨a, b, c, p, m⟩, ⟨a, b, c, x, m⟩] (by
      intro v hv
      simp only [List.mem_cons, List.not_mem_nil, or_false] at hv
      rcases hv with rfl | rfl
      · exact ⟨by show p.size < _; omega, by show m.size < _; omega⟩
      · exact ⟨by show x.size < _; omega, by show m.size < _; omega⟩) (by simp)
    simp only [laws_svPre.f, Option.bind_some]
    refine Ev.bind hg ?_
    cases e : ([(⟨a, b, c, p, m⟩ : S27), (⟨a, b, c, x, m⟩ : S27)].all okVer && true) with
    | false => exact j1_true ..
    | true =>
      simp only [List.all_cons, List.all_nil, Bool.and_true, Bool.and_eq_true] at e
      have s1 := (okVer_size e.1).1
      have s2 := (okVer_size e.2).1
      simp only at s1 s2
      have z1 : (p ++ (⟨#[46]⟩ : ByteArray)).size = p.size + 1 := by rw [ByteArray.size_append]; rfl
      have z2 : (p ++ (⟨#[46]⟩ : ByteArray) ++ x).size = p.size + 1 + x.size := by rw [ByteArray.size_append, z1]
      refine Ev.succ ?_
      simp only [laws_FnSemverPreLonger.j1, laws_svPre.f, Option.bind_some, Bool.not_true]
      refine Ev.neg (by simp) (Ev.pos (by omega) (Ev.pos (by omega) ?_))
      rw [vless_of sp (by omega)]
      simp only [Option.bind_some]
      refine (Ev.val _).eq ?_
      rw [below a b c p x hp (okVer_pre e.2) hx]
      rfl
end Go.Proofs.YtgenbmhmcnaiiaaDoor.lawPreLonger
