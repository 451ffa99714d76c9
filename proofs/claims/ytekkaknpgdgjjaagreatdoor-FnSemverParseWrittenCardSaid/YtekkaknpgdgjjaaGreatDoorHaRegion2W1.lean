/- A statement whose operations may come up in any order, some of which write or make memory: as 'region_any' (HaRegion), with what is told of the world hanging on which operations are done. -/
import Derived.Test.YtekkaknpgdgjjaaGreatDoorHaRegionW1
namespace Go.Proofs.YtekkaknpgdgjjaaGreatDoor.H
open Go.RowKit
set_option linter.unusedVariables false
set_option linter.unusedSimpArgs false

section
variable {P : Program} {ops : Array Oper} {Q : Exit → Act → World → Prop}

def regionOk2 (ops : Array Oper) (size : Nat) : Bool :=
  ((List.range ops.size).all fun i => match ops[i]? with
    | some o => (o.after.all fun e => !Region.binds .any e || decide (e.on < i)) && (match o.dst with | some d => decide (d < size) | none => true)
    | none => true) &&
  ((List.range ops.size).all fun i => (List.range ops.size).all fun j => i == j || ((ops[i]?).bind (·.dst)).isNone || (ops[i]?).bind (·.dst) != (ops[j]?).bind (·.dst))

/-- One more operation is done. -/
def done1 (L : Nat → Bool) (i : Nat) : Nat → Bool := fun k => if k = i then true else L k

structure RegInv2 (ops : Array Oper) (V : Nat → World → Value → Prop) (I : (Nat → Bool) → Act → World → Prop) (a0 : Act) (listed : Array Bool) (a : Act) (w : World) : Prop where
  lsize : listed.size = ops.size
  size : a.tmps.size = a0.tmps.size
  defers : a.defers = a0.defers
  world : I (fun i => listed.getD i false) a w
  vals : ∀ (i : Nat) (o : Oper) (d : Tmp), ops[i]? = some o → o.dst = some d → listed.getD i false = true → V i w (a.eval (.tmp d))
  rest : ∀ t : Tmp, (∀ (k : Nat) (o : Oper), ops[k]? = some o → o.dst = some t → listed.getD k false = false) → a.eval (.tmp t) = a0.eval (.tmp t)
  closed : ∀ (k : Nat) (o : Oper), ops[k]? = some o → listed.getD k false = true → (o.after.all fun e => !Region.binds .any e || listed.getD e.on false) = true

theorem waits_listed2 {V : Nat → World → Value → Prop} {I : (Nat → Bool) → Act → World → Prop} {a0 a : Act} {w : World} {listed : Array Bool} (h : RegInv2 ops V I a0 listed a w) :
    ∀ (fuel k i : Nat), waits ops fuel k i = true → listed.getD k false = true → listed.getD i false = true := by
  intro fuel
  induction fuel with
  | zero => intro k i hw; simp [waits] at hw
  | succ fuel ih =>
    intro k i hw hk
    unfold waits at hw
    cases ho : ops[k]? with
    | none => rw [ho] at hw; simp at hw
    | some o =>
      rw [ho] at hw
      have hc := h.closed k o ho hk
      simp only [Array.any_eq_true] at hw
      obtain ⟨x, hx, he⟩ := hw
      have hc' := (Array.all_eq_true.1 hc) x hx
      simp only [Bool.and_eq_true, Bool.or_eq_true, beq_iff_eq] at he
      obtain ⟨hb, he⟩ := he
      simp only [hb, Bool.not_true, Bool.false_or] at hc'
      rcases he with e | e
      · rw [← e]; exact hc'
      · exact ih _ _ e hc'

/-- WHATEVER ORDER THE OPERATIONS COME UP IN: each yields what V tells of it, V is kept by all later steps, and what follows begins with every slot filled. -/
theorem region_any2 {id : Nat} {a0 : Act} {w0 : World} (hm : P.follows .mixedOrders = true) (hok : regionOk2 ops a0.tmps.size = true)
    (V : Nat → World → Value → Prop) (Rl : World → World → Prop) (I : (Nat → Bool) → Act → World → Prop) (hinit : I (fun _ => false) a0 w0.drew)
    (hkeep : ∀ {i v w w'}, V i w v → Rl w w' → V i w' v)
    (hstep : ∀ (i : Nat) (o : Oper), ops[i]? = some o → ∀ (a : Act) (w : World) (L : Nat → Bool), I L a w → (∀ j, (o.after.any fun e => Region.binds .any e && e.on == j) = true → L j = true) → (∀ k, (k == i || waits ops ops.size k i) = true → L k = false) →
      (∀ (j : Nat) (oj : Oper) (d : Tmp), ops[j]? = some oj → oj.dst = some d → (o.after.any fun e => Region.binds .any e && e.on == j) = true → V j w (a.eval (.tmp d))) →
      (∀ t : Tmp, (∀ (k : Nat) (ok : Oper), ops[k]? = some ok → ok.dst = some t → (k == i || waits ops ops.size k i) = true) → a.eval (.tmp t) = a0.eval (.tmp t)) →
      wpOp P ops Q i (fun a' w' => ∃ v, a' = a.put o.dst v ∧ (o.dst.isSome = true → V i w' v) ∧ Rl w w' ∧ I (done1 L i) a' w') a w)
    (hend : ∀ (vs : List Value) (w' : World), vs.length = ops.size → (∀ L, (∀ i, i < ops.size → L i = true) → (∀ i, ops.size ≤ i → L i = false) → I L (putAll (ops.toList.map (·.dst)) vs a0) w') → (∀ (i : Nat) (v : Value), vs[i]? = some v → ((ops[i]?).bind (·.dst)).isSome = true → V i w' v) → Q .normal (putAll (ops.toList.map (·.dst)) vs a0) w') :
    (Code.region id ops true).wp P Q a0 w0 := by
  refine wp_region_any hm ?_
  show wpAny P .any ops Q ops.size (Array.replicate ops.size false) a0 w0.drew
  unfold regionOk2 at hok
  rw [Bool.and_eq_true] at hok
  obtain ⟨hok1, hok2⟩ := hok
  have hlow : ∀ (i : Nat) (o : Oper), ops[i]? = some o → (o.after.all fun e => !Region.binds .any e || decide (e.on < i)) = true ∧ ∀ d, o.dst = some d → d < a0.tmps.size := by
    intro i o ho
    have hi : i < ops.size := (Array.getElem?_eq_some_iff.1 ho).1
    have := List.all_eq_true.1 hok1 i (List.mem_range.2 hi)
    rw [ho] at this
    simp only [Bool.and_eq_true] at this
    refine ⟨this.1, fun d hd => ?_⟩
    rw [hd] at this
    simpa using this.2
  have hdis : ∀ (i j : Nat) (oi oj : Oper) (d : Tmp), ops[i]? = some oi → ops[j]? = some oj → oi.dst = some d → oj.dst = some d → i = j := by
    intro i j oi oj d hi hj di dj
    have hi' : i < ops.size := (Array.getElem?_eq_some_iff.1 hi).1
    have hj' : j < ops.size := (Array.getElem?_eq_some_iff.1 hj).1
    have := List.all_eq_true.1 (List.all_eq_true.1 hok2 i (List.mem_range.2 hi')) j (List.mem_range.2 hj')
    simp [hi, hj, di, dj] at this
    exact this
  have main : ∀ (fuel : Nat) (listed : Array Bool) (a : Act) (w : World), ((List.range ops.size).filter fun i => !listed.getD i true).length ≤ fuel → RegInv2 ops V I a0 listed a w → wpAny P .any ops Q fuel listed a w := by
    intro fuel
    have hdone : ∀ (listed : Array Bool) (a : Act) (w : World), RegInv2 ops V I a0 listed a w → Region.ready .any ops listed = [] → Q .normal a w := by
      intro listed a w h hr
      have hall : ∀ i, i < ops.size → listed.getD i false = true := by
        intro i
        induction i using Nat.strongRecOn with
        | _ i ih =>
          intro hi
          cases hc : listed.getD i false with
          | true => rfl
          | false =>
            exfalso
            have hmem : i ∈ Region.ready .any ops listed := by
              unfold Region.ready
              rw [List.mem_filter]
              refine ⟨List.mem_range.2 hi, ?_⟩
              have ho : ops[i]? = some ops[i] := Array.getElem?_eq_getElem hi
              have hl : i < listed.size := by rw [h.lsize]; exact hi
              have hc2 : listed.getD i true = false := by
                simpa [Array.getD_eq_getD_getElem?, hl] using hc
              simp only [hc2, ho, Option.map_some, Option.getD_some, Bool.not_false, Bool.true_and]
              rw [Array.all_eq_true]
              intro x hx
              have hb := (Array.all_eq_true.1 (hlow i _ ho).1) x hx
              simp only [Bool.or_eq_true, decide_eq_true_eq] at hb ⊢
              rcases hb with hb | hb
              · exact .inl hb
              · exact .inr (ih _ hb (by omega))
            rw [hr] at hmem
            simp at hmem
      have e : a = putAll (ops.toList.map (·.dst)) (ops.toList.map fun o => match o.dst with | some d => a.eval (.tmp d) | none => undef) a0 := by
        refine act_ext ?_ ?_ ?_
        · rw [putAll_size]; exact h.size
        · rw [putAll_defers]; exact h.defers
        · intro t ht
          refine (putAll_eval _ _ a0 a t h.size (by rw [← h.size]; exact ht) (by simp) ?_ ?_ ?_).symm
          · intro i v hi hv
            simp only [List.getElem?_map, Option.map_eq_some_iff] at hi hv
            obtain ⟨o, ho, hd⟩ := hi
            obtain ⟨o', ho', hv⟩ := hv
            rw [ho] at ho'
            cases ho'
            rw [hd] at hv
            exact hv.symm
          · intro hno
            refine (h.rest t fun k o hk hd => ?_).symm
            exfalso
            refine hno k ?_
            have hk' : ops.toList[k]? = some o := by simpa using hk
            simp [hk', hd]
          · by_cases hx : ∃ i : Nat, (ops.toList.map (·.dst))[i]? = some (some t)
            · exact .inl hx
            · refine .inr (h.rest t fun k o hk hd => ?_).symm
              exfalso
              refine hx ⟨k, ?_⟩
              have hk' : ops.toList[k]? = some o := by simpa using hk
              simp [hk', hd]
      rw [e]
      refine hend _ w (by simp) (fun L h1 h2 => ?_) ?_
      · have eL : L = fun i => listed.getD i false := by
          funext i
          by_cases hi : i < ops.size
          · rw [h1 i hi, hall i hi]
          · rw [h2 i (by omega)]
            have : ¬ i < listed.size := by rw [h.lsize]; exact hi
            simp [Array.getD_eq_getD_getElem?, this]
        rw [eL, ← e]
        exact h.world
      intro i v hv hsome
      simp only [List.getElem?_map, Option.map_eq_some_iff] at hv
      obtain ⟨o, ho, hv⟩ := hv
      have ho' : ops[i]? = some o := by simpa using ho
      rw [ho', Option.bind_some] at hsome
      obtain ⟨d, hd⟩ := Option.isSome_iff_exists.1 hsome
      rw [hd] at hv
      have := h.vals i o d ho' hd (hall i (Array.getElem?_eq_some_iff.1 ho').1)
      have hv' : a.eval (.tmp d) = v := hv
      rw [hv'] at this
      exact this
    induction fuel with
    | zero =>
      intro listed a w hl h
      have hr : Region.ready .any ops listed = [] := by
        rcases hx : Region.ready .any ops listed with _ | ⟨i, l⟩
        · rfl
        · exfalso
          have hmem : i ∈ Region.ready .any ops listed := by rw [hx]; simp
          unfold Region.ready at hmem
          rw [List.mem_filter] at hmem
          have : i ∈ (List.range ops.size).filter fun i => !listed.getD i true := by
            rw [List.mem_filter]
            exact ⟨hmem.1, (Bool.and_eq_true _ _ ▸ hmem.2).1⟩
          rw [List.length_eq_zero_iff.1 (Nat.le_zero.1 hl)] at this
          simp at this
      exact ⟨hr, hdone listed a w h hr⟩
    | succ fuel ih =>
      intro listed a w hl h
      refine ⟨hdone listed a w h, ?_⟩
      intro i hi
      have hi0 := hi
      unfold Region.ready at hi
      rw [List.mem_filter] at hi
      obtain ⟨hi1, hi2⟩ := hi
      have hi1' : i < ops.size := List.mem_range.1 hi1
      have ho : ops[i]? = some ops[i] := Array.getElem?_eq_getElem hi1'
      generalize ops[i] = o at ho
      rw [ho, Bool.and_eq_true] at hi2
      simp only [Option.map_some, Option.getD_some] at hi2
      obtain ⟨hn, haft⟩ := hi2
      have hil : i < listed.size := by rw [h.lsize]; exact hi1'
      have hnf : listed.getD i false = false := by
        simpa [Array.getD_eq_getD_getElem?, hil] using hn
      refine wpOp_mono ?_ (hstep i o ho a w (fun k => listed.getD k false) h.world ?_ ?_ ?_ ?_)
      · rintro a' w' ⟨v, rfl, hv, hr, hI⟩
        have hset : ∀ k, (listed.setIfInBounds i true).getD k false = if k = i then true else listed.getD k false := by
          intro k
          by_cases hk : k = i
          · subst hk
            simp [Array.getD_eq_getD_getElem?, hil]
          · rw [if_neg hk]
            simp [Array.getD_eq_getD_getElem?, Ne.symm hk]
        refine ih _ _ _ ?_ ⟨by simp [h.lsize], ?_, ?_, ?_, ?_, ?_, ?_⟩
        · have hlt : ((List.range ops.size).filter fun k => !(listed.setIfInBounds i true).getD k true).length < ((List.range ops.size).filter fun k => !listed.getD k true).length := by
            refine filter_lt (i := i) ?_ hi1 hn ?_
            · intro k hk hk2
              by_cases e : k = i
              · subst e
                simp [Array.getD_eq_getD_getElem?, hil] at hk2
              · simpa [Array.getD_eq_getD_getElem?, Array.getElem?_setIfInBounds, Ne.symm e] using hk2
            · simp [Array.getD_eq_getD_getElem?, hil]
          omega
        · cases hd : o.dst <;> simpa [Act.put] using h.size
        · cases hd : o.dst <;> simpa [Act.put] using h.defers
        · have eL : (fun k => (listed.setIfInBounds i true).getD k false) = done1 (fun k => listed.getD k false) i := by
            funext k
            exact hset k
          rw [eL]
          exact hI
        · intro j oj dj hj hdj hlj
          rw [hset] at hlj
          by_cases e : j = i
          · subst e
            rw [ho] at hj
            cases hj
            rw [hdj] at hv ⊢
            rw [eval_put_same (by rw [h.size]; exact (hlow _ _ ho).2 _ hdj)]
            exact hv rfl
          · rw [if_neg e] at hlj
            cases hd : o.dst with
            | none => exact hkeep (h.vals j oj dj hj hdj hlj) hr
            | some d =>
              have hne : d ≠ dj := fun e' => e (hdis j i oj o d hj ho (by rw [hdj, e']) hd)
              rw [eval_put_other hne]
              exact hkeep (h.vals j oj dj hj hdj hlj) hr
        · intro t ht
          have hput : (a.put o.dst v).eval (.tmp t) = a.eval (.tmp t) := by
            cases hd : o.dst with
            | none => rfl
            | some d =>
              have hne : d ≠ t := by
                rintro rfl
                have := ht i o ho hd
                rw [hset, if_pos rfl] at this
                cases this
              exact eval_put_other hne
          rw [hput]
          refine h.rest t fun k ok hk hdk => ?_
          have := ht k ok hk hdk
          rw [hset] at this
          by_cases e : k = i
          · rw [if_pos e] at this; cases this
          · rwa [if_neg e] at this
        · intro k ok hk hlk
          rw [hset] at hlk
          rw [Array.all_eq_true]
          intro x hx
          by_cases e : k = i
          · subst e
            rw [ho] at hk
            cases hk
            have := (Array.all_eq_true.1 haft) x hx
            rw [hset]
            split
            · simp
            · exact this
          · rw [if_neg e] at hlk
            have := (Array.all_eq_true.1 (h.closed k ok hk hlk)) x hx
            rw [hset]
            split
            · simp
            · exact this
      · intro j hany
        rw [Array.any_eq_true] at hany
        obtain ⟨x, hx, hb⟩ := hany
        rw [Bool.and_eq_true] at hb
        have := (Array.all_eq_true.1 haft) x hx
        simp only [hb.1, Bool.not_true, Bool.false_or] at this
        have e : o.after[x].on = j := by simpa using hb.2
        rw [e] at this
        exact this
      · intro k hk
        rw [Bool.or_eq_true] at hk
        rcases hk with e | e
        · have : k = i := by simpa using e
          rw [this]; exact hnf
        · cases hc : listed.getD k false with
          | false => rfl
          | true =>
            have := waits_listed2 h _ _ _ e hc
            rw [hnf] at this
            cases this
      · intro j oj d hj hd hany
        refine h.vals j oj d hj hd ?_
        rw [Array.any_eq_true] at hany
        obtain ⟨x, hx, hb⟩ := hany
        rw [Bool.and_eq_true] at hb
        have := (Array.all_eq_true.1 haft) x hx
        simp only [hb.1, Bool.not_true, Bool.false_or] at this
        have e : o.after[x].on = j := by simpa using hb.2
        rw [e] at this
        exact this
      · intro t ht
        refine h.rest t fun k ok hk hdk => ?_
        have := ht k ok hk hdk
        rw [Bool.or_eq_true] at this
        rcases this with e | e
        · have : k = i := by simpa using e
          rw [this]; exact hnf
        · cases hc : listed.getD k false with
          | false => rfl
          | true =>
            have := waits_listed2 h _ _ _ e hc
            rw [hnf] at this
            cases this
  refine main ops.size _ a0 _ ?_ ⟨by simp, rfl, rfl, ?_, ?_, fun _ _ => rfl, ?_⟩
  · refine Nat.le_trans (List.length_filter_le _ _) (by simp)
  · have e0 : (fun i => (Array.replicate ops.size false).getD i false) = fun _ => false := by
      funext i
      simp [Array.getD_eq_getD_getElem?, Array.getElem?_replicate]
      split <;> rfl
    rw [e0]
    exact hinit
  · intro i o d _ _ h
    simp [Array.getD_eq_getD_getElem?, Array.getElem?_replicate] at h
    split at h <;> simp at h
  · intro k o _ h
    simp [Array.getD_eq_getD_getElem?, Array.getElem?_replicate] at h
    split at h <;> simp at h

/-- Operation i waits for operation j by an edge of its own. -/
def afterOf (o : Oper) (j : Nat) : Bool := o.after.any fun e => Region.binds .any e && e.on == j

def Steps2 (P : Program) (ops : Array Oper) (Q : Exit → Act → World → Prop) (a0 : Act) (V : Nat → World → Value → Prop) (Rl : World → World → Prop) (I : (Nat → Bool) → Act → World → Prop) : Nat → List Oper → Prop
  | _, [] => True
  | i, o :: l => (∀ (a : Act) (w : World) (L : Nat → Bool), I L a w → (∀ j, afterOf o j = true → L j = true) → (∀ k, (k == i || waits ops ops.size k i) = true → L k = false) →
      (∀ (j : Nat) (oj : Oper) (d : Tmp), ops[j]? = some oj → oj.dst = some d → (o.after.any fun e => Region.binds .any e && e.on == j) = true → V j w (a.eval (.tmp d))) →
      (∀ t : Tmp, unwritten ops i t = true → a.eval (.tmp t) = a0.eval (.tmp t)) →
      wpOp P ops Q i (fun a' w' => ∃ v, a' = a.put o.dst v ∧ (o.dst.isSome = true → V i w' v) ∧ Rl w w' ∧ I (done1 L i) a' w') a w) ∧ Steps2 P ops Q a0 V Rl I (i + 1) l

theorem Steps2.get {a0 : Act} {V : Nat → World → Value → Prop} {Rl : World → World → Prop} {I : (Nat → Bool) → Act → World → Prop} : ∀ (l : List Oper) (k : Nat), Steps2 P ops Q a0 V Rl I k l → ∀ (i : Nat) (o : Oper), l[i]? = some o →
    (∀ (a : Act) (w : World) (L : Nat → Bool), I L a w → (∀ j, afterOf o j = true → L j = true) → (∀ m, (m == k + i || waits ops ops.size m (k + i)) = true → L m = false) →
      (∀ (j : Nat) (oj : Oper) (d : Tmp), ops[j]? = some oj → oj.dst = some d → (o.after.any fun e => Region.binds .any e && e.on == j) = true → V j w (a.eval (.tmp d))) →
      (∀ t : Tmp, unwritten ops (k + i) t = true → a.eval (.tmp t) = a0.eval (.tmp t)) →
      wpOp P ops Q (k + i) (fun a' w' => ∃ v, a' = a.put o.dst v ∧ (o.dst.isSome = true → V (k + i) w' v) ∧ Rl w w' ∧ I (done1 L (k + i)) a' w') a w) := by
  intro l
  induction l with
  | nil => intro k _ i o h; simp at h
  | cons x l ih =>
    intro k hs i o h
    cases i with
    | zero => simp at h; subst h; exact hs.1
    | succ i =>
      have := ih (k + 1) hs.2 i o (by simpa using h)
      rw [Nat.add_assoc, Nat.add_comm 1 i] at this
      exact this

theorem region_row2 {id : Nat} {a0 : Act} {w0 : World} (hm : P.follows .mixedOrders = true) (hok : regionOk2 ops a0.tmps.size = true)
    (V : Nat → World → Value → Prop) (Rl : World → World → Prop) (I : (Nat → Bool) → Act → World → Prop) (hinit : I (fun _ => false) a0 w0.drew)
    (hkeep : ∀ {i v w w'}, V i w v → Rl w w' → V i w' v)
    (hstep : Steps2 P ops Q a0 V Rl I 0 ops.toList)
    (hend : ∀ (vs : List Value) (w' : World), vs.length = ops.size → (∀ L, (∀ i, i < ops.size → L i = true) → (∀ i, ops.size ≤ i → L i = false) → I L (putAll (ops.toList.map (·.dst)) vs a0) w') → (∀ (i : Nat) (v : Value), vs[i]? = some v → ((ops[i]?).bind (·.dst)).isSome = true → V i w' v) → Q .normal (putAll (ops.toList.map (·.dst)) vs a0) w') :
    (Code.region id ops true).wp P Q a0 w0 := by
  refine region_any2 hm hok V Rl I hinit hkeep ?_ hend
  intro i o ho a w L hI h1 h2 hd hs
  have := Steps2.get _ 0 hstep i o (by simpa using ho) a w L hI h1 (by rw [Nat.zero_add]; exact h2) hd ?_
  · rw [Nat.zero_add] at this
    exact this
  · intro t ht
    rw [Nat.zero_add] at ht
    refine hs t fun k ok hk hdk => ?_
    have hk' : k < ops.size := (Array.getElem?_eq_some_iff.1 hk).1
    have := List.all_eq_true.1 ht k (List.mem_range.2 hk')
    simp [hk, hdk] at this
    simpa using this
end
end Go.Proofs.YtekkaknpgdgjjaaGreatDoor.H
