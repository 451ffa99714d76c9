/- A statement whose operations may come up in any order, in one walk over each operation: what each operation yields is told by a predicate that all later steps keep. -/
import Derived.Orders
import Derived.WalkKit
namespace Go.Proofs.YtekkaknpgdgjjaaGreatDoor.H
open Go.RowKit
set_option linter.unusedVariables false
set_option linter.unusedSimpArgs false
set_option linter.unusedSimpArgs false

section
variable {P : Program} {ops : Array Oper} {Q : Exit → Act → World → Prop}

/-- Operation k waits for operation i, directly or through others. -/
def waits (ops : Array Oper) : Nat → Nat → Nat → Bool
  | 0, _, _ => false
  | fuel + 1, k, i => match ops[k]? with
    | some o => o.after.any fun e => Region.binds .any e && (e.on == i || waits ops fuel e.on i)
    | none => false

/-- Each binding edge leads to an earlier operation; each operation has a slot of its own. -/
def regionOk (ops : Array Oper) (size : Nat) : Bool :=
  ((List.range ops.size).all fun i => match ops[i]? with
    | some o => (o.after.all fun e => !Region.binds .any e || decide (e.on < i)) && (match o.dst with | some d => decide (d < size) | none => false)
    | none => true) &&
  ((List.range ops.size).all fun i => (List.range ops.size).all fun j => i == j || (ops[i]?).bind (·.dst) != (ops[j]?).bind (·.dst))

structure RegInv (ops : Array Oper) (V : Nat → World → Value → Prop) (Rl : World → World → Prop) (a0 : Act) (w0 : World) (listed : Array Bool) (a : Act) (w : World) : Prop where
  lsize : listed.size = ops.size
  size : a.tmps.size = a0.tmps.size
  defers : a.defers = a0.defers
  world : Rl w0 w
  vals : ∀ (i : Nat) (o : Oper) (d : Tmp), ops[i]? = some o → o.dst = some d → listed.getD i false = true → V i w (a.eval (.tmp d))
  rest : ∀ t : Tmp, (∀ (k : Nat) (o : Oper), ops[k]? = some o → o.dst = some t → listed.getD k false = false) → a.eval (.tmp t) = a0.eval (.tmp t)
  closed : ∀ (k : Nat) (o : Oper), ops[k]? = some o → listed.getD k false = true → (o.after.all fun e => !Region.binds .any e || listed.getD e.on false) = true

theorem waits_listed {V : Nat → World → Value → Prop} {Rl : World → World → Prop} {a0 a : Act} {w0 w : World} {listed : Array Bool} (h : RegInv ops V Rl a0 w0 listed a w) :
    ∀ (fuel k i : Nat), waits ops fuel k i = true → listed.getD k false = true → listed.getD i false = true := by
  intro fuel
  induction fuel with
  | zero => intro k i hw; simp [waits] at hw
  | succ fuel ih =>
    intro k i hw hk
    unfold waits at hw
    cases ho : ops[k]? with
    | none => rw [ho] at hw; simp at hw
    | some o =>
      rw [ho] at hw
      have hc := h.closed k o ho hk
      simp only [Array.any_eq_true] at hw
      obtain ⟨x, hx, he⟩ := hw
      have hc' := (Array.all_eq_true.1 hc) x hx
      simp only [Bool.and_eq_true, Bool.or_eq_true, beq_iff_eq] at he
      obtain ⟨hb, he⟩ := he
      simp only [hb, Bool.not_true, Bool.false_or] at hc'
      rcases he with e | e
      · rw [← e]; exact hc'
      · exact ih _ _ e hc'

/-- Each slot as its operation left it. -/
def putAll : List (Option Tmp) → List Value → Act → Act
  | d :: ds, v :: vs, a => putAll ds vs (a.put d v)
  | _, _, a => a

theorem putAll_size (ds : List (Option Tmp)) : ∀ (vs : List Value) (a : Act), (putAll ds vs a).tmps.size = a.tmps.size := by
  induction ds with
  | nil => intro vs a; rfl
  | cons d ds ih =>
    intro vs a
    cases vs with
    | nil => rfl
    | cons v vs =>
      unfold putAll
      rw [ih]
      cases d <;> simp [Act.put]

theorem putAll_defers (ds : List (Option Tmp)) : ∀ (vs : List Value) (a : Act), (putAll ds vs a).defers = a.defers := by
  induction ds with
  | nil => intro vs a; rfl
  | cons d ds ih =>
    intro vs a
    cases vs with
    | nil => rfl
    | cons v vs =>
      unfold putAll
      rw [ih]
      cases d <;> simp [Act.put]

theorem eval_put_same {a : Act} {d : Tmp} {v : Value} (h : d < a.tmps.size) : (a.put (some d) v).eval (.tmp d) = v := by
  simp [Act.put, Act.eval, Array.getD_eq_getD_getElem?, h]
theorem eval_put_other {a : Act} {d t : Tmp} {v : Value} (h : d ≠ t) : (a.put (some d) v).eval (.tmp t) = a.eval (.tmp t) := by
  simp [Act.put, Act.eval, Array.getD_eq_getD_getElem?, h]

theorem putAll_eval (ds : List (Option Tmp)) : ∀ (vs : List Value) (a b : Act) (t : Tmp), b.tmps.size = a.tmps.size → t < a.tmps.size → vs.length = ds.length →
    (∀ (i : Nat) (v : Value), ds[i]? = some (some t) → vs[i]? = some v → v = b.eval (.tmp t)) → ((∀ i : Nat, ds[i]? ≠ some (some t)) → a.eval (.tmp t) = b.eval (.tmp t)) →
    (∃ i : Nat, ds[i]? = some (some t)) ∨ a.eval (.tmp t) = b.eval (.tmp t) → (putAll ds vs a).eval (.tmp t) = b.eval (.tmp t) := by
  induction ds with
  | nil =>
    intro vs a b t _ _ _ _ _ h2
    rcases h2 with ⟨i, h⟩ | h
    · simp at h
    · exact h
  | cons d ds ih =>
    intro vs a b t hs ht hl h0 h1 h2
    cases vs with
    | nil => simp at hl
    | cons v vs =>
      unfold putAll
      have hsz : (a.put d v).tmps.size = a.tmps.size := by cases d <;> simp [Act.put]
      have hnew : d = some t → (a.put d v).eval (.tmp t) = b.eval (.tmp t) := by
        rintro rfl
        rw [eval_put_same ht]
        exact h0 0 v rfl rfl
      have hold : d ≠ some t → (a.put d v).eval (.tmp t) = a.eval (.tmp t) := by
        intro hd
        cases d with
        | none => rfl
        | some d => exact eval_put_other (fun e => hd (by rw [e]))
      refine ih vs _ b t (by rw [hsz]; exact hs) (by rw [hsz]; exact ht) (by simpa using hl) (fun i v' hi hv => h0 (i + 1) v' (by simpa using hi) (by simpa using hv)) ?_ ?_
      · intro hno
        by_cases hd : d = some t
        · exact hnew hd
        · rw [hold hd]
          apply h1
          intro i
          cases i with
          | zero => simpa using hd
          | succ i => simpa using hno i
      · by_cases hd : d = some t
        · exact .inr (hnew hd)
        · rcases h2 with ⟨i, h⟩ | h
          · cases i with
            | zero => simp at h; exact absurd h hd
            | succ i => exact .inl ⟨i, by simpa using h⟩
          · exact .inr (by rw [hold hd]; exact h)

theorem filter_lt {l : List Nat} {p q : Nat → Bool} {i : Nat} (h : ∀ k, k ∈ l → q k = true → p k = true) (hi : i ∈ l) (hp : p i = true) (hq : q i = false) : (l.filter q).length < (l.filter p).length := by
  induction l with
  | nil => simp at hi
  | cons x l ih =>
    have hle : (l.filter q).length ≤ (l.filter p).length := by
      clear ih hi
      have h' : ∀ k, k ∈ l → q k = true → p k = true := fun k hk => h k (by simp [hk])
      clear h
      induction l with
      | nil => simp
      | cons y l ih2 =>
        have := ih2 (fun k hk => h' k (by simp [hk]))
        have hy := h' y (by simp)
        by_cases e : q y = true
        · simp [List.filter_cons, e, hy e]; exact this
        · by_cases e2 : p y = true
          · simp [List.filter_cons, e, e2]; omega
          · simp [List.filter_cons, e, e2]; exact this
    by_cases hx : i = x
    · subst hx
      simp [List.filter_cons, hp, hq]
      omega
    · have hi' : i ∈ l := by
        rcases List.mem_cons.1 hi with e | e
        · exact absurd e hx
        · exact e
      have := ih (fun k hk => h k (by simp [hk])) hi'
      have hy := h x (by simp)
      by_cases e : q x = true
      · simp [List.filter_cons, e, hy e]; exact this
      · by_cases e2 : p x = true
        · simp [List.filter_cons, e, e2]; omega
        · simp [List.filter_cons, e, e2]; exact this

theorem act_ext {a b : Act} (hs : a.tmps.size = b.tmps.size) (hd : a.defers = b.defers) (h : ∀ t, t < a.tmps.size → a.eval (.tmp t) = b.eval (.tmp t)) : a = b := by
  obtain ⟨ta, da⟩ := a
  obtain ⟨tb, db⟩ := b
  simp only at hs hd h
  subst hd
  congr 1
  apply Array.ext hs
  intro i h1 h2
  have := h i h1
  simpa [Act.eval, Array.getD_eq_getD_getElem?, h1, h2] using this

theorem wpOp_plain {i : Nat} {o : Oper} {K : Act → World → Prop} {a : Act} {w : World} (h : ops[i]? = some o) (hg : o.guard = none) (hw : o.wp P a w K Q) : wpOp P ops Q i K a w := by
  unfold wpOp
  simp only [h, Region.wanted, hg, if_true]
  exact .inl hw

/-- WHATEVER ORDER THE OPERATIONS COME UP IN: each yields what V tells of it, V is kept by all later steps, and what follows begins with every slot filled. -/
theorem region_any {id : Nat} {a0 : Act} {w0 : World} (hm : P.follows .mixedOrders = true) (hok : regionOk ops a0.tmps.size = true)
    (V : Nat → World → Value → Prop) (Rl : World → World → Prop) (hrefl : Rl w0.drew w0.drew) (htrans : ∀ {x y z}, Rl x y → Rl y z → Rl x z)
    (hkeep : ∀ {i v w w'}, V i w v → Rl w w' → V i w' v)
    (hstep : ∀ (i : Nat) (o : Oper), ops[i]? = some o → ∀ (a : Act) (w : World), Rl w0.drew w →
      (∀ (j : Nat) (oj : Oper) (d : Tmp), ops[j]? = some oj → oj.dst = some d → (o.after.any fun e => Region.binds .any e && e.on == j) = true → V j w (a.eval (.tmp d))) →
      (∀ t : Tmp, (∀ (k : Nat) (ok : Oper), ops[k]? = some ok → ok.dst = some t → (k == i || waits ops ops.size k i) = true) → a.eval (.tmp t) = a0.eval (.tmp t)) →
      wpOp P ops Q i (fun a' w' => ∃ v, a' = a.put o.dst v ∧ V i w' v ∧ Rl w w') a w)
    (hend : ∀ (vs : List Value) (w' : World), vs.length = ops.size → Rl w0.drew w' → (∀ (i : Nat) (v : Value), vs[i]? = some v → V i w' v) → Q .normal (putAll (ops.toList.map (·.dst)) vs a0) w') :
    (Code.region id ops true).wp P Q a0 w0 := by
  refine wp_region_any hm ?_
  show wpAny P .any ops Q ops.size (Array.replicate ops.size false) a0 w0.drew
  unfold regionOk at hok
  rw [Bool.and_eq_true] at hok
  obtain ⟨hok1, hok2⟩ := hok
  have hlow : ∀ (i : Nat) (o : Oper), ops[i]? = some o → (o.after.all fun e => !Region.binds .any e || decide (e.on < i)) = true ∧ ∃ d, o.dst = some d ∧ d < a0.tmps.size := by
    intro i o ho
    have hi : i < ops.size := (Array.getElem?_eq_some_iff.1 ho).1
    have := List.all_eq_true.1 hok1 i (List.mem_range.2 hi)
    rw [ho] at this
    simp only [Bool.and_eq_true] at this
    refine ⟨this.1, ?_⟩
    cases hd : o.dst with
    | none => rw [hd] at this; simp at this
    | some d => rw [hd] at this; exact ⟨d, rfl, by simpa using this.2⟩
  have hdis : ∀ (i j : Nat) (oi oj : Oper) (d : Tmp), ops[i]? = some oi → ops[j]? = some oj → oi.dst = some d → oj.dst = some d → i = j := by
    intro i j oi oj d hi hj di dj
    have hi' : i < ops.size := (Array.getElem?_eq_some_iff.1 hi).1
    have hj' : j < ops.size := (Array.getElem?_eq_some_iff.1 hj).1
    have := List.all_eq_true.1 (List.all_eq_true.1 hok2 i (List.mem_range.2 hi')) j (List.mem_range.2 hj')
    simp [hi, hj, di, dj] at this
    exact this
  have main : ∀ (fuel : Nat) (listed : Array Bool) (a : Act) (w : World), ((List.range ops.size).filter fun i => !listed.getD i true).length ≤ fuel → RegInv ops V Rl a0 w0.drew listed a w → wpAny P .any ops Q fuel listed a w := by
    intro fuel
    have hdone : ∀ (listed : Array Bool) (a : Act) (w : World), RegInv ops V Rl a0 w0.drew listed a w → Region.ready .any ops listed = [] → Q .normal a w := by
      intro listed a w h hr
      have hall : ∀ i, i < ops.size → listed.getD i false = true := by
        intro i
        induction i using Nat.strongRecOn with
        | _ i ih =>
          intro hi
          cases hc : listed.getD i false with
          | true => rfl
          | false =>
            exfalso
            have hmem : i ∈ Region.ready .any ops listed := by
              unfold Region.ready
              rw [List.mem_filter]
              refine ⟨List.mem_range.2 hi, ?_⟩
              have ho : ops[i]? = some ops[i] := Array.getElem?_eq_getElem hi
              have hl : i < listed.size := by rw [h.lsize]; exact hi
              have hc2 : listed.getD i true = false := by
                simpa [Array.getD_eq_getD_getElem?, hl] using hc
              simp only [hc2, ho, Option.map_some, Option.getD_some, Bool.not_false, Bool.true_and]
              rw [Array.all_eq_true]
              intro x hx
              have hb := (Array.all_eq_true.1 (hlow i _ ho).1) x hx
              simp only [Bool.or_eq_true, decide_eq_true_eq] at hb ⊢
              rcases hb with hb | hb
              · exact .inl hb
              · exact .inr (ih _ hb (by omega))
            rw [hr] at hmem
            simp at hmem
      have e : a = putAll (ops.toList.map (·.dst)) (ops.toList.map fun o => match o.dst with | some d => a.eval (.tmp d) | none => undef) a0 := by
        refine act_ext ?_ ?_ ?_
        · rw [putAll_size]; exact h.size
        · rw [putAll_defers]; exact h.defers
        · intro t ht
          refine (putAll_eval _ _ a0 a t h.size (by rw [← h.size]; exact ht) (by simp) ?_ ?_ ?_).symm
          · intro i v hi hv
            simp only [List.getElem?_map, Option.map_eq_some_iff] at hi hv
            obtain ⟨o, ho, hd⟩ := hi
            obtain ⟨o', ho', hv⟩ := hv
            rw [ho] at ho'
            cases ho'
            rw [hd] at hv
            exact hv.symm
          · intro hno
            refine (h.rest t fun k o hk hd => ?_).symm
            exfalso
            refine hno k ?_
            have hk' : ops.toList[k]? = some o := by simpa using hk
            simp [hk', hd]
          · by_cases hx : ∃ i : Nat, (ops.toList.map (·.dst))[i]? = some (some t)
            · exact .inl hx
            · refine .inr (h.rest t fun k o hk hd => ?_).symm
              exfalso
              refine hx ⟨k, ?_⟩
              have hk' : ops.toList[k]? = some o := by simpa using hk
              simp [hk', hd]
      rw [e]
      refine hend _ w (by simp) h.world ?_
      intro i v hv
      simp only [List.getElem?_map, Option.map_eq_some_iff] at hv
      obtain ⟨o, ho, hv⟩ := hv
      have ho' : ops[i]? = some o := by simpa using ho
      obtain ⟨d, hd, _⟩ := (hlow i o ho').2
      rw [hd] at hv
      have := h.vals i o d ho' hd (hall i (Array.getElem?_eq_some_iff.1 ho').1)
      have hv' : a.eval (.tmp d) = v := hv
      rw [hv'] at this
      exact this
    induction fuel with
    | zero =>
      intro listed a w hl h
      have hr : Region.ready .any ops listed = [] := by
        rcases hx : Region.ready .any ops listed with _ | ⟨i, l⟩
        · rfl
        · exfalso
          have hmem : i ∈ Region.ready .any ops listed := by rw [hx]; simp
          unfold Region.ready at hmem
          rw [List.mem_filter] at hmem
          have : i ∈ (List.range ops.size).filter fun i => !listed.getD i true := by
            rw [List.mem_filter]
            exact ⟨hmem.1, (Bool.and_eq_true _ _ ▸ hmem.2).1⟩
          rw [List.length_eq_zero_iff.1 (Nat.le_zero.1 hl)] at this
          simp at this
      exact ⟨hr, hdone listed a w h hr⟩
    | succ fuel ih =>
      intro listed a w hl h
      refine ⟨hdone listed a w h, ?_⟩
      intro i hi
      have hi0 := hi
      unfold Region.ready at hi
      rw [List.mem_filter] at hi
      obtain ⟨hi1, hi2⟩ := hi
      have hi1' : i < ops.size := List.mem_range.1 hi1
      have ho : ops[i]? = some ops[i] := Array.getElem?_eq_getElem hi1'
      generalize ops[i] = o at ho
      rw [ho, Bool.and_eq_true] at hi2
      simp only [Option.map_some, Option.getD_some] at hi2
      obtain ⟨hn, haft⟩ := hi2
      have hil : i < listed.size := by rw [h.lsize]; exact hi1'
      have hnf : listed.getD i false = false := by
        simpa [Array.getD_eq_getD_getElem?, hil] using hn
      refine wpOp_mono ?_ (hstep i o ho a w h.world ?_ ?_)
      · rintro a' w' ⟨v, rfl, hv, hr⟩
        obtain ⟨d, hd, hdsz⟩ := (hlow i o ho).2
        have hset : ∀ k, (listed.setIfInBounds i true).getD k false = if k = i then true else listed.getD k false := by
          intro k
          by_cases hk : k = i
          · subst hk
            simp [Array.getD_eq_getD_getElem?, hil]
          · rw [if_neg hk]
            simp [Array.getD_eq_getD_getElem?, Ne.symm hk]
        refine ih _ _ _ ?_ ⟨by simp [h.lsize], ?_, ?_, htrans h.world hr, ?_, ?_, ?_⟩
        · have hlt : ((List.range ops.size).filter fun k => !(listed.setIfInBounds i true).getD k true).length < ((List.range ops.size).filter fun k => !listed.getD k true).length := by
            refine filter_lt (i := i) ?_ hi1 hn ?_
            · intro k hk hk2
              by_cases e : k = i
              · subst e
                simp [Array.getD_eq_getD_getElem?, hil] at hk2
              · simpa [Array.getD_eq_getD_getElem?, Array.getElem?_setIfInBounds, Ne.symm e] using hk2
            · simp [Array.getD_eq_getD_getElem?, hil]
          omega
        · rw [hd]; simpa [Act.put] using h.size
        · rw [hd]; simpa [Act.put] using h.defers
        · intro j oj dj hj hdj hlj
          rw [hset] at hlj
          by_cases e : j = i
          · subst e
            rw [ho] at hj
            cases hj
            rw [hd] at hdj ⊢
            cases hdj
            rw [eval_put_same (by rw [h.size]; exact hdsz)]
            exact hv
          · rw [if_neg e] at hlj
            have hne : d ≠ dj := fun e' => e (hdis j i oj o d hj ho (by rw [hdj, e']) hd)
            rw [hd, eval_put_other hne]
            exact hkeep (h.vals j oj dj hj hdj hlj) hr
        · intro t ht
          have hne : d ≠ t := by
            rintro rfl
            have := ht i o ho hd
            rw [hset, if_pos rfl] at this
            cases this
          rw [hd, eval_put_other hne]
          refine h.rest t fun k ok hk hdk => ?_
          have := ht k ok hk hdk
          rw [hset] at this
          by_cases e : k = i
          · rw [if_pos e] at this; cases this
          · rwa [if_neg e] at this
        · intro k ok hk hlk
          rw [hset] at hlk
          rw [Array.all_eq_true]
          intro x hx
          by_cases e : k = i
          · subst e
            rw [ho] at hk
            cases hk
            have := (Array.all_eq_true.1 haft) x hx
            rw [hset]
            split
            · simp
            · exact this
          · rw [if_neg e] at hlk
            have := (Array.all_eq_true.1 (h.closed k ok hk hlk)) x hx
            rw [hset]
            split
            · simp
            · exact this
      · intro j oj d hj hd hany
        refine h.vals j oj d hj hd ?_
        rw [Array.any_eq_true] at hany
        obtain ⟨x, hx, hb⟩ := hany
        rw [Bool.and_eq_true] at hb
        have := (Array.all_eq_true.1 haft) x hx
        simp only [hb.1, Bool.not_true, Bool.false_or] at this
        have e : o.after[x].on = j := by simpa using hb.2
        rw [e] at this
        exact this
      · intro t ht
        refine h.rest t fun k ok hk hdk => ?_
        have := ht k ok hk hdk
        rw [Bool.or_eq_true] at this
        rcases this with e | e
        · have : k = i := by simpa using e
          rw [this]; exact hnf
        · cases hc : listed.getD k false with
          | false => rfl
          | true =>
            have := waits_listed h _ _ _ e hc
            rw [hnf] at this
            cases this
  refine main ops.size _ a0 _ ?_ ⟨by simp, rfl, rfl, hrefl, ?_, fun _ _ => rfl, ?_⟩
  · refine Nat.le_trans (List.length_filter_le _ _) (by simp)
  · intro i o d _ _ h
    simp [Array.getD_eq_getD_getElem?, Array.getElem?_replicate] at h
    split at h <;> simp at h
  · intro k o _ h
    simp [Array.getD_eq_getD_getElem?, Array.getElem?_replicate] at h
    split at h <;> simp at h

/-- Nothing that comes up ahead of operation i writes slot t. -/
def unwritten (ops : Array Oper) (i : Nat) (t : Tmp) : Bool :=
  (List.range ops.size).all fun k => (ops[k]?).bind (·.dst) != some t || k == i || waits ops ops.size k i

/-- What is to be shown of each operation, in the order of the text. -/
def Steps (P : Program) (ops : Array Oper) (Q : Exit → Act → World → Prop) (a0 : Act) (w0 : World) (V : Nat → World → Value → Prop) (Rl : World → World → Prop) : Nat → List Oper → Prop
  | _, [] => True
  | i, o :: l => (∀ (a : Act) (w : World), Rl w0.drew w →
      (∀ (j : Nat) (oj : Oper) (d : Tmp), ops[j]? = some oj → oj.dst = some d → (o.after.any fun e => Region.binds .any e && e.on == j) = true → V j w (a.eval (.tmp d))) →
      (∀ t : Tmp, unwritten ops i t = true → a.eval (.tmp t) = a0.eval (.tmp t)) →
      wpOp P ops Q i (fun a' w' => ∃ v, a' = a.put o.dst v ∧ V i w' v ∧ Rl w w') a w) ∧ Steps P ops Q a0 w0 V Rl (i + 1) l

theorem Steps.get {a0 : Act} {w0 : World} {V : Nat → World → Value → Prop} {Rl : World → World → Prop} : ∀ (l : List Oper) (k : Nat), Steps P ops Q a0 w0 V Rl k l → ∀ (i : Nat) (o : Oper), l[i]? = some o →
    (∀ (a : Act) (w : World), Rl w0.drew w →
      (∀ (j : Nat) (oj : Oper) (d : Tmp), ops[j]? = some oj → oj.dst = some d → (o.after.any fun e => Region.binds .any e && e.on == j) = true → V j w (a.eval (.tmp d))) →
      (∀ t : Tmp, unwritten ops (k + i) t = true → a.eval (.tmp t) = a0.eval (.tmp t)) →
      wpOp P ops Q (k + i) (fun a' w' => ∃ v, a' = a.put o.dst v ∧ V (k + i) w' v ∧ Rl w w') a w) := by
  intro l
  induction l with
  | nil => intro k _ i o h; simp at h
  | cons x l ih =>
    intro k hs i o h
    cases i with
    | zero => simp at h; subst h; exact hs.1
    | succ i =>
      have := ih (k + 1) hs.2 i o (by simpa using h)
      rw [Nat.add_assoc, Nat.add_comm 1 i] at this
      exact this

/-- The region's theorem with its steps in a row. -/
theorem region_row {id : Nat} {a0 : Act} {w0 : World} (hm : P.follows .mixedOrders = true) (hok : regionOk ops a0.tmps.size = true)
    (V : Nat → World → Value → Prop) (Rl : World → World → Prop) (hrefl : Rl w0.drew w0.drew) (htrans : ∀ {x y z}, Rl x y → Rl y z → Rl x z)
    (hkeep : ∀ {i v w w'}, V i w v → Rl w w' → V i w' v)
    (hstep : Steps P ops Q a0 w0 V Rl 0 ops.toList)
    (hend : ∀ (vs : List Value) (w' : World), vs.length = ops.size → Rl w0.drew w' → (∀ (i : Nat) (v : Value), vs[i]? = some v → V i w' v) → Q .normal (putAll (ops.toList.map (·.dst)) vs a0) w') :
    (Code.region id ops true).wp P Q a0 w0 := by
  refine region_any hm hok V Rl hrefl htrans hkeep ?_ hend
  intro i o ho a w hR hd hs
  have := Steps.get _ 0 hstep i o (by simpa using ho) a w hR hd ?_
  · rw [Nat.zero_add] at this
    exact this
  · intro t ht
    rw [Nat.zero_add] at ht
    refine hs t fun k ok hk hdk => ?_
    have hk' : k < ops.size := (Array.getElem?_eq_some_iff.1 hk).1
    have := List.all_eq_true.1 ht k (List.mem_range.2 hk')
    simp [hk, hdk] at this
    simpa using this

theorem ev_of {a : Act} {t : Tmp} {v : Value} (h : a.eval (.tmp t) = v) : a.tmps[t]?.getD undef = v := by
  rw [← h]
  simp [Act.eval, Array.getD_eq_getD_getElem?]
theorem list_1 {vs : List Value} (h : vs.length = 1) : ∃ v0, vs = [v0] := by
  obtain ⟨v0, rfl⟩ := List.length_eq_one_iff.1 h
  exact ⟨v0, rfl⟩
theorem list_2 {vs : List Value} (h : vs.length = 2) : ∃ v0 v1, vs = [v0, v1] := by
  rcases vs with _ | ⟨v0, vs⟩
  · simp at h
  · obtain ⟨w0, rfl⟩ := list_1 (vs := vs) (by simpa using h)
    exact ⟨v0, w0, rfl⟩
theorem list_3 {vs : List Value} (h : vs.length = 3) : ∃ v0 v1 v2, vs = [v0, v1, v2] := by
  rcases vs with _ | ⟨v0, vs⟩
  · simp at h
  · obtain ⟨w0, w1, rfl⟩ := list_2 (vs := vs) (by simpa using h)
    exact ⟨v0, w0, w1, rfl⟩
theorem list_4 {vs : List Value} (h : vs.length = 4) : ∃ v0 v1 v2 v3, vs = [v0, v1, v2, v3] := by
  rcases vs with _ | ⟨v0, vs⟩
  · simp at h
  · obtain ⟨w0, w1, w2, rfl⟩ := list_3 (vs := vs) (by simpa using h)
    exact ⟨v0, w0, w1, w2, rfl⟩
theorem list_5 {vs : List Value} (h : vs.length = 5) : ∃ v0 v1 v2 v3 v4, vs = [v0, v1, v2, v3, v4] := by
  rcases vs with _ | ⟨v0, vs⟩
  · simp at h
  · obtain ⟨w0, w1, w2, w3, rfl⟩ := list_4 (vs := vs) (by simpa using h)
    exact ⟨v0, w0, w1, w2, w3, rfl⟩
theorem list_6 {vs : List Value} (h : vs.length = 6) : ∃ v0 v1 v2 v3 v4 v5, vs = [v0, v1, v2, v3, v4, v5] := by
  rcases vs with _ | ⟨v0, vs⟩
  · simp at h
  · obtain ⟨w0, w1, w2, w3, w4, rfl⟩ := list_5 (vs := vs) (by simpa using h)
    exact ⟨v0, w0, w1, w2, w3, w4, rfl⟩
theorem list_7 {vs : List Value} (h : vs.length = 7) : ∃ v0 v1 v2 v3 v4 v5 v6, vs = [v0, v1, v2, v3, v4, v5, v6] := by
  rcases vs with _ | ⟨v0, vs⟩
  · simp at h
  · obtain ⟨w0, w1, w2, w3, w4, w5, rfl⟩ := list_6 (vs := vs) (by simpa using h)
    exact ⟨v0, w0, w1, w2, w3, w4, w5, rfl⟩
theorem list_8 {vs : List Value} (h : vs.length = 8) : ∃ v0 v1 v2 v3 v4 v5 v6 v7, vs = [v0, v1, v2, v3, v4, v5, v6, v7] := by
  rcases vs with _ | ⟨v0, vs⟩
  · simp at h
  · obtain ⟨w0, w1, w2, w3, w4, w5, w6, rfl⟩ := list_7 (vs := vs) (by simpa using h)
    exact ⟨v0, w0, w1, w2, w3, w4, w5, w6, rfl⟩
theorem list_9 {vs : List Value} (h : vs.length = 9) : ∃ v0 v1 v2 v3 v4 v5 v6 v7 v8, vs = [v0, v1, v2, v3, v4, v5, v6, v7, v8] := by
  rcases vs with _ | ⟨v0, vs⟩
  · simp at h
  · obtain ⟨w0, w1, w2, w3, w4, w5, w6, w7, rfl⟩ := list_8 (vs := vs) (by simpa using h)
    exact ⟨v0, w0, w1, w2, w3, w4, w5, w6, w7, rfl⟩
theorem list_10 {vs : List Value} (h : vs.length = 10) : ∃ v0 v1 v2 v3 v4 v5 v6 v7 v8 v9, vs = [v0, v1, v2, v3, v4, v5, v6, v7, v8, v9] := by
  rcases vs with _ | ⟨v0, vs⟩
  · simp at h
  · obtain ⟨w0, w1, w2, w3, w4, w5, w6, w7, w8, rfl⟩ := list_9 (vs := vs) (by simpa using h)
    exact ⟨v0, w0, w1, w2, w3, w4, w5, w6, w7, w8, rfl⟩
theorem list_11 {vs : List Value} (h : vs.length = 11) : ∃ v0 v1 v2 v3 v4 v5 v6 v7 v8 v9 v10, vs = [v0, v1, v2, v3, v4, v5, v6, v7, v8, v9, v10] := by
  rcases vs with _ | ⟨v0, vs⟩
  · simp at h
  · obtain ⟨w0, w1, w2, w3, w4, w5, w6, w7, w8, w9, rfl⟩ := list_10 (vs := vs) (by simpa using h)
    exact ⟨v0, w0, w1, w2, w3, w4, w5, w6, w7, w8, w9, rfl⟩
theorem list_12 {vs : List Value} (h : vs.length = 12) : ∃ v0 v1 v2 v3 v4 v5 v6 v7 v8 v9 v10 v11, vs = [v0, v1, v2, v3, v4, v5, v6, v7, v8, v9, v10, v11] := by
  rcases vs with _ | ⟨v0, vs⟩
  · simp at h
  · obtain ⟨w0, w1, w2, w3, w4, w5, w6, w7, w8, w9, w10, rfl⟩ := list_11 (vs := vs) (by simpa using h)
    exact ⟨v0, w0, w1, w2, w3, w4, w5, w6, w7, w8, w9, w10, rfl⟩
theorem list_13 {vs : List Value} (h : vs.length = 13) : ∃ v0 v1 v2 v3 v4 v5 v6 v7 v8 v9 v10 v11 v12, vs = [v0, v1, v2, v3, v4, v5, v6, v7, v8, v9, v10, v11, v12] := by
  rcases vs with _ | ⟨v0, vs⟩
  · simp at h
  · obtain ⟨w0, w1, w2, w3, w4, w5, w6, w7, w8, w9, w10, w11, rfl⟩ := list_12 (vs := vs) (by simpa using h)
    exact ⟨v0, w0, w1, w2, w3, w4, w5, w6, w7, w8, w9, w10, w11, rfl⟩
theorem list_14 {vs : List Value} (h : vs.length = 14) : ∃ v0 v1 v2 v3 v4 v5 v6 v7 v8 v9 v10 v11 v12 v13, vs = [v0, v1, v2, v3, v4, v5, v6, v7, v8, v9, v10, v11, v12, v13] := by
  rcases vs with _ | ⟨v0, vs⟩
  · simp at h
  · obtain ⟨w0, w1, w2, w3, w4, w5, w6, w7, w8, w9, w10, w11, w12, rfl⟩ := list_13 (vs := vs) (by simpa using h)
    exact ⟨v0, w0, w1, w2, w3, w4, w5, w6, w7, w8, w9, w10, w11, w12, rfl⟩
theorem list_15 {vs : List Value} (h : vs.length = 15) : ∃ v0 v1 v2 v3 v4 v5 v6 v7 v8 v9 v10 v11 v12 v13 v14, vs = [v0, v1, v2, v3, v4, v5, v6, v7, v8, v9, v10, v11, v12, v13, v14] := by
  rcases vs with _ | ⟨v0, vs⟩
  · simp at h
  · obtain ⟨w0, w1, w2, w3, w4, w5, w6, w7, w8, w9, w10, w11, w12, w13, rfl⟩ := list_14 (vs := vs) (by simpa using h)
    exact ⟨v0, w0, w1, w2, w3, w4, w5, w6, w7, w8, w9, w10, w11, w12, w13, rfl⟩
theorem list_16 {vs : List Value} (h : vs.length = 16) : ∃ v0 v1 v2 v3 v4 v5 v6 v7 v8 v9 v10 v11 v12 v13 v14 v15, vs = [v0, v1, v2, v3, v4, v5, v6, v7, v8, v9, v10, v11, v12, v13, v14, v15] := by
  rcases vs with _ | ⟨v0, vs⟩
  · simp at h
  · obtain ⟨w0, w1, w2, w3, w4, w5, w6, w7, w8, w9, w10, w11, w12, w13, w14, rfl⟩ := list_15 (vs := vs) (by simpa using h)
    exact ⟨v0, w0, w1, w2, w3, w4, w5, w6, w7, w8, w9, w10, w11, w12, w13, w14, rfl⟩
theorem list_17 {vs : List Value} (h : vs.length = 17) : ∃ v0 v1 v2 v3 v4 v5 v6 v7 v8 v9 v10 v11 v12 v13 v14 v15 v16, vs = [v0, v1, v2, v3, v4, v5, v6, v7, v8, v9, v10, v11, v12, v13, v14, v15, v16] := by
  rcases vs with _ | ⟨v0, vs⟩
  · simp at h
  · obtain ⟨w0, w1, w2, w3, w4, w5, w6, w7, w8, w9, w10, w11, w12, w13, w14, w15, rfl⟩ := list_16 (vs := vs) (by simpa using h)
    exact ⟨v0, w0, w1, w2, w3, w4, w5, w6, w7, w8, w9, w10, w11, w12, w13, w14, w15, rfl⟩
theorem list_18 {vs : List Value} (h : vs.length = 18) : ∃ v0 v1 v2 v3 v4 v5 v6 v7 v8 v9 v10 v11 v12 v13 v14 v15 v16 v17, vs = [v0, v1, v2, v3, v4, v5, v6, v7, v8, v9, v10, v11, v12, v13, v14, v15, v16, v17] := by
  rcases vs with _ | ⟨v0, vs⟩
  · simp at h
  · obtain ⟨w0, w1, w2, w3, w4, w5, w6, w7, w8, w9, w10, w11, w12, w13, w14, w15, w16, rfl⟩ := list_17 (vs := vs) (by simpa using h)
    exact ⟨v0, w0, w1, w2, w3, w4, w5, w6, w7, w8, w9, w10, w11, w12, w13, w14, w15, w16, rfl⟩
theorem list_19 {vs : List Value} (h : vs.length = 19) : ∃ v0 v1 v2 v3 v4 v5 v6 v7 v8 v9 v10 v11 v12 v13 v14 v15 v16 v17 v18, vs = [v0, v1, v2, v3, v4, v5, v6, v7, v8, v9, v10, v11, v12, v13, v14, v15, v16, v17, v18] := by
  rcases vs with _ | ⟨v0, vs⟩
  · simp at h
  · obtain ⟨w0, w1, w2, w3, w4, w5, w6, w7, w8, w9, w10, w11, w12, w13, w14, w15, w16, w17, rfl⟩ := list_18 (vs := vs) (by simpa using h)
    exact ⟨v0, w0, w1, w2, w3, w4, w5, w6, w7, w8, w9, w10, w11, w12, w13, w14, w15, w16, w17, rfl⟩
theorem list_20 {vs : List Value} (h : vs.length = 20) : ∃ v0 v1 v2 v3 v4 v5 v6 v7 v8 v9 v10 v11 v12 v13 v14 v15 v16 v17 v18 v19, vs = [v0, v1, v2, v3, v4, v5, v6, v7, v8, v9, v10, v11, v12, v13, v14, v15, v16, v17, v18, v19] := by
  rcases vs with _ | ⟨v0, vs⟩
  · simp at h
  · obtain ⟨w0, w1, w2, w3, w4, w5, w6, w7, w8, w9, w10, w11, w12, w13, w14, w15, w16, w17, w18, rfl⟩ := list_19 (vs := vs) (by simpa using h)
    exact ⟨v0, w0, w1, w2, w3, w4, w5, w6, w7, w8, w9, w10, w11, w12, w13, w14, w15, w16, w17, w18, rfl⟩
theorem list_21 {vs : List Value} (h : vs.length = 21) : ∃ v0 v1 v2 v3 v4 v5 v6 v7 v8 v9 v10 v11 v12 v13 v14 v15 v16 v17 v18 v19 v20, vs = [v0, v1, v2, v3, v4, v5, v6, v7, v8, v9, v10, v11, v12, v13, v14, v15, v16, v17, v18, v19, v20] := by
  rcases vs with _ | ⟨v0, vs⟩
  · simp at h
  · obtain ⟨w0, w1, w2, w3, w4, w5, w6, w7, w8, w9, w10, w11, w12, w13, w14, w15, w16, w17, w18, w19, rfl⟩ := list_20 (vs := vs) (by simpa using h)
    exact ⟨v0, w0, w1, w2, w3, w4, w5, w6, w7, w8, w9, w10, w11, w12, w13, w14, w15, w16, w17, w18, w19, rfl⟩
theorem list_22 {vs : List Value} (h : vs.length = 22) : ∃ v0 v1 v2 v3 v4 v5 v6 v7 v8 v9 v10 v11 v12 v13 v14 v15 v16 v17 v18 v19 v20 v21, vs = [v0, v1, v2, v3, v4, v5, v6, v7, v8, v9, v10, v11, v12, v13, v14, v15, v16, v17, v18, v19, v20, v21] := by
  rcases vs with _ | ⟨v0, vs⟩
  · simp at h
  · obtain ⟨w0, w1, w2, w3, w4, w5, w6, w7, w8, w9, w10, w11, w12, w13, w14, w15, w16, w17, w18, w19, w20, rfl⟩ := list_21 (vs := vs) (by simpa using h)
    exact ⟨v0, w0, w1, w2, w3, w4, w5, w6, w7, w8, w9, w10, w11, w12, w13, w14, w15, w16, w17, w18, w19, w20, rfl⟩
theorem list_23 {vs : List Value} (h : vs.length = 23) : ∃ v0 v1 v2 v3 v4 v5 v6 v7 v8 v9 v10 v11 v12 v13 v14 v15 v16 v17 v18 v19 v20 v21 v22, vs = [v0, v1, v2, v3, v4, v5, v6, v7, v8, v9, v10, v11, v12, v13, v14, v15, v16, v17, v18, v19, v20, v21, v22] := by
  rcases vs with _ | ⟨v0, vs⟩
  · simp at h
  · obtain ⟨w0, w1, w2, w3, w4, w5, w6, w7, w8, w9, w10, w11, w12, w13, w14, w15, w16, w17, w18, w19, w20, w21, rfl⟩ := list_22 (vs := vs) (by simpa using h)
    exact ⟨v0, w0, w1, w2, w3, w4, w5, w6, w7, w8, w9, w10, w11, w12, w13, w14, w15, w16, w17, w18, w19, w20, w21, rfl⟩
theorem list_24 {vs : List Value} (h : vs.length = 24) : ∃ v0 v1 v2 v3 v4 v5 v6 v7 v8 v9 v10 v11 v12 v13 v14 v15 v16 v17 v18 v19 v20 v21 v22 v23, vs = [v0, v1, v2, v3, v4, v5, v6, v7, v8, v9, v10, v11, v12, v13, v14, v15, v16, v17, v18, v19, v20, v21, v22, v23] := by
  rcases vs with _ | ⟨v0, vs⟩
  · simp at h
  · obtain ⟨w0, w1, w2, w3, w4, w5, w6, w7, w8, w9, w10, w11, w12, w13, w14, w15, w16, w17, w18, w19, w20, w21, w22, rfl⟩ := list_23 (vs := vs) (by simpa using h)
    exact ⟨v0, w0, w1, w2, w3, w4, w5, w6, w7, w8, w9, w10, w11, w12, w13, w14, w15, w16, w17, w18, w19, w20, w21, w22, rfl⟩
theorem list_25 {vs : List Value} (h : vs.length = 25) : ∃ v0 v1 v2 v3 v4 v5 v6 v7 v8 v9 v10 v11 v12 v13 v14 v15 v16 v17 v18 v19 v20 v21 v22 v23 v24, vs = [v0, v1, v2, v3, v4, v5, v6, v7, v8, v9, v10, v11, v12, v13, v14, v15, v16, v17, v18, v19, v20, v21, v22, v23, v24] := by
  rcases vs with _ | ⟨v0, vs⟩
  · simp at h
  · obtain ⟨w0, w1, w2, w3, w4, w5, w6, w7, w8, w9, w10, w11, w12, w13, w14, w15, w16, w17, w18, w19, w20, w21, w22, w23, rfl⟩ := list_24 (vs := vs) (by simpa using h)
    exact ⟨v0, w0, w1, w2, w3, w4, w5, w6, w7, w8, w9, w10, w11, w12, w13, w14, w15, w16, w17, w18, w19, w20, w21, w22, w23, rfl⟩
theorem list_26 {vs : List Value} (h : vs.length = 26) : ∃ v0 v1 v2 v3 v4 v5 v6 v7 v8 v9 v10 v11 v12 v13 v14 v15 v16 v17 v18 v19 v20 v21 v22 v23 v24 v25, vs = [v0, v1, v2, v3, v4, v5, v6, v7, v8, v9, v10, v11, v12, v13, v14, v15, v16, v17, v18, v19, v20, v21, v22, v23, v24, v25] := by
  rcases vs with _ | ⟨v0, vs⟩
  · simp at h
  · obtain ⟨w0, w1, w2, w3, w4, w5, w6, w7, w8, w9, w10, w11, w12, w13, w14, w15, w16, w17, w18, w19, w20, w21, w22, w23, w24, rfl⟩ := list_25 (vs := vs) (by simpa using h)
    exact ⟨v0, w0, w1, w2, w3, w4, w5, w6, w7, w8, w9, w10, w11, w12, w13, w14, w15, w16, w17, w18, w19, w20, w21, w22, w23, w24, rfl⟩
end
end Go.Proofs.YtekkaknpgdgjjaaGreatDoor.H
