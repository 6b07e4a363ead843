/- Own laws on regions that draw their order. Conditions: none. -/
import Derived.Orders
import Derived.Defers
import Derived.BigFrame
set_option linter.unusedSimpArgs false
set_option linter.unusedVariables false

/-! Laws of my own on regions that draw their order. -/
namespace Go.Proofs.YtpkelgekannioaaGreatDoor
open Go
set_option linter.unusedSimpArgs false
set_option linter.unusedVariables false

theorem countP_set {l : List Bool} : ∀ {i : Nat}, l.getD i true = false → (l.set i true).countP (!·) + 1 = l.countP (!·) := by
  induction l with
  | nil => intro i h; simp at h
  | cons b l ih =>
    intro i h
    cases i with
    | zero =>
      have hb : b = false := by simpa using h
      subst hb
      simp
    | succ i =>
      have h1 := ih (i := i) (by simpa using h)
      rw [List.set_cons_succ, List.countP_cons, List.countP_cons]
      omega
theorem countP_zero {l : List Bool} (h : l.countP (!·) = 0) (i : Nat) : l.getD i true = true := by
  rw [List.countP_eq_zero] at h
  cases hi : l[i]? with
  | none => simp [List.getD, hi]
  | some b =>
    have := h b (List.mem_of_getElem? hi)
    simp [List.getD, hi]
    cases b
    · simp at this
    · rfl

section
variable {P : Program} {ops : Array Oper} {Q : Exit → Act → World → Prop} {md : Region.Mode}

/-- Whatever order is drawn: what each operation keeps, whenever it comes up, holds at the end. -/
theorem wpAny_inv (Inv : Array Bool → Act → World → Prop)
    (hstep : ∀ (listed : Array Bool) a w i o, Inv listed a w → ops[i]? = some o → listed.getD i true = false → (∀ e ∈ o.after, Region.binds md e = true → listed.getD e.on false = true) →
      Region.wanted o (yielded ops a.tmps) = true ∧ o.wp P a w (Inv (listed.setIfInBounds i true)) Q)
    (hdone : ∀ listed a w, Inv listed a w → Region.ready md ops listed = [] → Q .normal a w) :
    ∀ (fuel : Nat) (listed : Array Bool) (a : Act) (w : World), listed.toList.countP (!·) ≤ fuel → Inv listed a w → wpAny P md ops Q fuel listed a w
  | 0, listed, a, w, hf, h => by
    have h0 : Region.ready md ops listed = [] := by
      cases hr : Region.ready md ops listed with
      | nil => rfl
      | cons j l =>
        have h1 := (mem_ready.1 (show j ∈ Region.ready md ops listed by rw [hr]; simp)).1
        have h2 := countP_zero (Nat.le_zero.1 hf) j
        simp only [Array.getD_eq_getD_getElem?, List.getD_eq_getElem?_getD, Array.getElem?_toList] at h1 h2
        rw [h1] at h2
        cases h2
    exact ⟨h0, hdone _ _ _ h h0⟩
  | fuel + 1, listed, a, w, hf, h => by
    refine ⟨hdone _ _ _ h, fun i hi => ?_⟩
    obtain ⟨h1, o, ho, h2⟩ := mem_ready.1 hi
    obtain ⟨hw, hs⟩ := hstep listed a w i o h ho h1 h2
    unfold wpOp
    simp only [ho, hw, if_true]
    refine .inl (Oper.wp_mono (fun a' w' h' => wpAny_inv Inv hstep hdone fuel _ a' w' ?_ h') hs)
    have h3 : listed.toList.getD i true = false := by
      simpa [Array.getD_eq_getD_getElem?, List.getD_eq_getElem?_getD] using h1
    have := countP_set h3
    rw [Array.toList_setIfInBounds]
    omega

/-- The same at a region. -/
theorem wp_region_inv {id : Nat} {a : Act} {w : World} (hm : P.follows .mixedOrders = true) (Inv : Array Bool → Act → World → Prop)
    (h0 : Inv (Array.replicate ops.size false) a w.drew)
    (hstep : ∀ (listed : Array Bool) a w i o, Inv listed a w → ops[i]? = some o → listed.getD i true = false → (∀ e ∈ o.after, Region.binds .any e = true → listed.getD e.on false = true) →
      Region.wanted o (yielded ops a.tmps) = true ∧ o.wp P a w (Inv (listed.setIfInBounds i true)) Q)
    (hdone : ∀ listed a w, Inv listed a w → Region.ready .any ops listed = [] → Q .normal a w) : (Code.region id ops true).wp P Q a w :=
  wp_region_any hm (wpAny_inv Inv hstep hdone _ _ _ _ (by
    refine Nat.le_trans List.countP_le_length ?_
    simp) h0)

/-- The temporary, if there is one, holds v. -/
def Holds (a : Act) : Option Tmp → Value → Prop
  | some d, v => a.tmps[d]? = some v
  | none, _ => True
/-- One more operation is done. -/
def upd (M : Nat → Bool) (k : Nat) : Nat → Bool := fun i => if i = k then true else M i
/-- What an operation that is done waits for is done. -/
def Closed (ops : List Oper) (M : Nat → Bool) : Prop := ∀ j o, ops[j]? = some o → M j = true → ∀ e ∈ o.after, Region.binds .any e = true → M e.on = true
theorem Closed.not {ops : List Oper} {M : Nat → Bool} (h : Closed ops M) {k : Nat} (hk : M k = false) (j : Nat) (hj : ((ops[j]?).any fun o => o.after.any fun e => e.on == k && Region.binds .any e) = true) : M j = false := by
  cases hm : M j with
  | false => rfl
  | true =>
    obtain ⟨o, ho, h2⟩ := (Option.any_eq_true _ _).1 hj
    rw [Array.any_eq_true] at h2
    obtain ⟨i, hi, h3⟩ := h2
    simp only [Bool.and_eq_true, beq_iff_eq] at h3
    have h4 := h j o ho hm _ (Array.getElem_mem hi) h3.2
    rw [h3.1, hk] at h4
    cases h4
/-- What each operation of a region is asked: whenever it comes up, with what it waits for behind it, it leaves its value, and a world that S allows; S knows which operations are done. The operation 'fin' waits for all others. -/
def Stages (P : Program) (ops : List Oper) (fin : Nat) (Q : Exit → Act → World → Prop) (S : (Nat → Bool) → World → Prop) (val : Nat → Value) (a0 : Act) : List Oper → Nat → Prop
  | [], _ => True
  | o :: l, k => (o.guard = none ∧ ∀ (M : Nat → Bool) (a : Act) (w : World), S M w → M k = false → (k ≠ fin → M fin = false) → Closed ops M → a.defers = a0.defers → (∀ t, ops.all (fun o => o.dst != some t) = true → a.tmps[t]? = a0.tmps[t]?) →
      (∀ e ∈ o.after, Region.binds .any e = true → M e.on = true ∧ Holds a ((ops[e.on]?).bind (·.dst)) (val e.on)) →
      o.wp P a w (fun a' w' => a' = a.put o.dst (val k) ∧ S (upd M k) w') Q) ∧ Stages P ops fin Q S val a0 l (k + 1)

theorem Stages.at {ops : List Oper} {fin : Nat} {S : (Nat → Bool) → World → Prop} {val : Nat → Value} {a0 : Act} : ∀ {l : List Oper} {k : Nat}, Stages P ops fin Q S val a0 l k → ∀ {i : Nat} {o : Oper}, l[i]? = some o →
    o.guard = none ∧ ∀ (M : Nat → Bool) (a : Act) (w : World), S M w → M (k + i) = false → (k + i ≠ fin → M fin = false) → Closed ops M → a.defers = a0.defers → (∀ t, ops.all (fun o => o.dst != some t) = true → a.tmps[t]? = a0.tmps[t]?) →
      (∀ e ∈ o.after, Region.binds .any e = true → M e.on = true ∧ Holds a ((ops[e.on]?).bind (·.dst)) (val e.on)) →
      o.wp P a w (fun a' w' => a' = a.put o.dst (val (k + i)) ∧ S (upd M (k + i)) w') Q
  | [], _, _, i, o, h => by simp at h
  | x :: l, k, ht, 0, o, h => by
    have : x = o := by simpa using h
    subst this
    exact ht.1
  | x :: l, k, ht, i + 1, o, h => by
    have := Stages.at ht.2 (i := i) (o := o) (by simpa using h)
    rw [show k + (i + 1) = k + 1 + i by omega]
    exact this

/-- Each operation but 'fin' has one that waits for it. -/
def finB (l : List Oper) (fin : Nat) : Bool :=
  decide (fin < l.length) && (List.range l.length).all fun i => i == fin || l.any fun o => o.after.any fun e => e.on == i && Region.binds .any e
theorem fin_all {l : List Oper} {fin : Nat} {M : Nat → Bool} (hlex : (l.zipIdx.all fun p => p.1.after.all fun e => !Region.binds .any e || decide (e.on < p.2)) = true) (hF : finB l fin = true) (hc : Closed l M) (hm : M fin = true) :
    ∀ (d i : Nat), l.length - i ≤ d → i < l.length → M i = true := by
  unfold finB at hF
  rw [Bool.and_eq_true, List.all_eq_true] at hF
  intro d
  induction d with
  | zero => intro i h1 h2; omega
  | succ d ih =>
    intro i h1 h2
    have h3 := hF.2 i (List.mem_range.2 h2)
    rw [Bool.or_eq_true] at h3
    rcases h3 with h3 | h3
    · have : i = fin := by simpa using h3
      subst this
      exact hm
    · obtain ⟨o, ho, h4⟩ := List.any_eq_true.1 h3
      obtain ⟨j, hj⟩ := List.getElem?_of_mem ho
      rw [Array.any_eq_true] at h4
      obtain ⟨k, hk, h5⟩ := h4
      simp only [Bool.and_eq_true, beq_iff_eq] at h5
      rw [List.all_eq_true] at hlex
      have h6 := hlex (o, j) (List.mem_zipIdx_iff_getElem?.2 hj)
      rw [Array.all_eq_true_iff_forall_mem] at h6
      have h7 : (o.after[k]).on < j := by simpa [h5.2] using h6 _ (Array.getElem_mem hk)
      have hjl := (List.getElem?_eq_some_iff.1 hj).1
      have h8 := ih j (by omega) hjl
      have h9 := hc j o hj h8 _ (Array.getElem_mem hk) h5.2
      rw [h5.1] at h9
      exact h9

/-- The operations' temporaries are apart, and each waits only for earlier ones. -/
def tableB (ops : List Oper) (n : Nat) : Bool :=
  decide ((ops.filterMap (·.dst)).Nodup) && ops.all (fun o => match o.dst with | some d => decide (d < n) | none => true) && (ops.zipIdx.all fun p => p.1.after.all fun e => !Region.binds .any e || decide (e.on < p.2))

theorem nodup_filterMap {l : List Oper} (h : (l.filterMap (·.dst)).Nodup) : ∀ {i j : Nat} {o o' : Oper} {d : Tmp}, l[i]? = some o → l[j]? = some o' → o.dst = some d → o'.dst = some d → i = j := by
  induction l with
  | nil => intro i j o o' d h1; simp at h1
  | cons x l ih =>
    intro i j o o' d h1 h2 h3 h4
    have hmem : ∀ {k : Nat} {p : Oper}, l[k]? = some p → p.dst = some d → d ∈ l.filterMap (·.dst) := fun hk hp => List.mem_filterMap.2 ⟨_, List.mem_of_getElem? hk, hp⟩
    have hl : (l.filterMap (·.dst)).Nodup := by
      rw [List.filterMap_cons] at h
      split at h
      · exact h
      · exact (List.nodup_cons.1 h).2
    have hx : ∀ {k : Nat} {p : Oper}, x.dst = some d → l[k]? = some p → p.dst = some d → False := fun hxd hk hp => by
      rw [List.filterMap_cons, hxd] at h
      exact (List.nodup_cons.1 h).1 (hmem hk hp)
    match i, j, h1, h2 with
    | 0, 0, _, _ => rfl
    | 0, j + 1, h1, h2 =>
      have : x = o := by simpa using h1
      subst this
      exact (hx h3 (by simpa using h2) h4).elim
    | i + 1, 0, h1, h2 =>
      have : x = o' := by simpa using h2
      subst this
      exact (hx h4 (by simpa using h1) h3).elim
    | i + 1, j + 1, h1, h2 =>
      have := ih hl (i := i) (j := j) (by simpa using h1) (by simpa using h2) h3 h4
      rw [this]

/-- The frame behind all operations: each temporary holds its value. -/
def putAll (val : Nat → Value) : List Oper → Nat → Array Value → Array Value
  | [], _, t => t
  | o :: l, k, t => putAll val l (k + 1) (match o.dst with | some d => t.setIfInBounds d (val k) | none => t)

theorem putAll_size (val : Nat → Value) : ∀ (l : List Oper) (k : Nat) (t : Array Value), (putAll val l k t).size = t.size
  | [], _, _ => rfl
  | o :: l, k, t => by rw [putAll, putAll_size]; split <;> simp
theorem putAll_free (val : Nat → Value) {d : Nat} : ∀ (l : List Oper) (k : Nat) (t : Array Value), (∀ o ∈ l, o.dst ≠ some d) → (putAll val l k t)[d]? = t[d]?
  | [], _, _, _ => rfl
  | o :: l, k, t, h => by
    rw [putAll, putAll_free val l _ _ (fun o ho => h o (by simp [ho]))]
    split
    · rename_i d' hd'
      rw [Array.getElem?_setIfInBounds_ne]
      intro e
      exact h o (by simp) (by rw [hd', e])
    · rfl
theorem putAll_at (val : Nat → Value) {d : Nat} : ∀ (l : List Oper) (k : Nat) (t : Array Value) (i : Nat) (o : Oper), (l.filterMap (·.dst)).Nodup → l[i]? = some o → o.dst = some d → d < t.size → (putAll val l k t)[d]? = some (val (k + i))
  | [], _, _, i, o, _, h, _, _ => by simp at h
  | x :: l, k, t, 0, o, hn, h, hd, hs => by
    have : x = o := by simpa using h
    subst this
    rw [putAll, putAll_free, hd]
    · simp [hs]
    · intro o' ho' hd'
      rw [List.filterMap_cons, hd] at hn
      exact (List.nodup_cons.1 hn).1 (List.mem_filterMap.2 ⟨o', ho', hd'⟩)
  | x :: l, k, t, i + 1, o, hn, h, hd, hs => by
    rw [putAll, putAll_at val l (k + 1) _ i o (by
      rw [List.filterMap_cons] at hn
      split at hn
      · exact hn
      · exact (List.nodup_cons.1 hn).2) (by simpa using h) hd (by split <;> simpa using hs)]
    rw [show k + 1 + i = k + (i + 1) by omega]

theorem all_listed {l : List Oper} {listed : Array Bool} (hlex : (l.zipIdx.all fun p => p.1.after.all fun e => !Region.binds .any e || decide (e.on < p.2)) = true) (hr : Region.ready .any l.toArray listed = []) :
    ∀ (n i : Nat), i < n → i < l.length → listed.getD i true = true := by
  intro n
  induction n with
  | zero => intro i hi; omega
  | succ n ih =>
    intro i hi hl
    cases hc : listed.getD i true with
    | true => rfl
    | false =>
      obtain ⟨o, ho⟩ : ∃ o, l[i]? = some o := ⟨_, List.getElem?_eq_getElem hl⟩
      have hmem : i ∈ Region.ready .any l.toArray listed := by
        refine mem_ready.2 ⟨hc, o, by simpa using ho, fun e he hb => ?_⟩
        rw [List.all_eq_true] at hlex
        have h1 := hlex (o, i) (List.mem_zipIdx_iff_getElem?.2 ho)
        rw [Array.all_eq_true_iff_forall_mem] at h1
        have h2 : e.on < i := by simpa [hb] using h1 e he
        have h3 := ih e.on (by omega) (by omega)
        by_cases hs : e.on < listed.size
        · simp [Array.getD, hs] at h3 ⊢
          exact h3
        · exfalso
          have : i < listed.size := by
            rcases Nat.lt_or_ge i listed.size with h | h
            · exact h
            · simp [Array.getD, Nat.not_lt.2 h] at hc
          omega
      rw [hr] at hmem
      cases hmem

/-- A region that draws its order and ends with an operation that waits for all others: each operation's value is known, and the world by what is done. -/
theorem wp_region_stage {id : Nat} {l : List Oper} {a0 : Act} {w : World} (fin : Nat) (hm : P.follows .mixedOrders = true) (S : (Nat → Bool) → World → Prop) (val : Nat → Value)
    (hB : (tableB l a0.tmps.size && (finB l fin || decide (l.length ≤ fin))) = true) (h0 : S (fun _ => false) w.drew)
    (hop : Stages P l fin Q S val a0 l 0)
    (hdone : ∀ (M : Nat → Bool) (w' : World), (∀ i, i < l.length → M i = true) → S M w' → Q .normal { tmps := putAll val l 0 a0.tmps, defers := a0.defers } w') : (Code.region id l.toArray true).wp P Q a0 w := by
  rw [Bool.and_eq_true] at hB
  obtain ⟨hB, hF⟩ := hB
  simp only [tableB, Bool.and_eq_true, decide_eq_true_eq] at hB
  obtain ⟨⟨hnd, hlt⟩, hlex⟩ := hB
  rw [List.all_eq_true] at hlt
  refine wp_region_inv hm (fun listed a w => listed.size = l.length ∧ S (fun i => listed.getD i false) w ∧ a.defers = a0.defers ∧ a.tmps.size = a0.tmps.size ∧ (∀ t, l.all (fun o => o.dst != some t) = true → a.tmps[t]? = a0.tmps[t]?) ∧
    (∀ i o, l[i]? = some o → listed.getD i false = true → (∀ d, o.dst = some d → a.tmps[d]? = some (val i))) ∧ Closed l (fun i => listed.getD i false)) ?_ ?_ ?_
  · refine ⟨by simp, ?_, rfl, rfl, fun t _ => rfl, fun i o hi hl => ?_, fun j o hj hl => ?_⟩
    · have : (fun i => (Array.replicate l.toArray.size false).getD i false) = fun _ => false := by
        funext i
        simp [Array.getD]
      rw [this]
      exact h0
    · exfalso
      simp [Array.getD] at hl
    · exfalso
      simp [Array.getD] at hl
  · rintro listed a w i o ⟨hsz, hS, hD, hN, hFr, hL, hCl⟩ ho hun hdep
    have ho' : l[i]? = some o := by simpa using ho
    have hil := (List.getElem?_eq_some_iff.1 ho').1
    have hun' : listed.getD i false = false := by
      have : i < listed.size := by omega
      simp [Array.getD, this] at hun ⊢
      exact hun
    obtain ⟨hg, h1⟩ := hop.at ho'
    refine ⟨by simp [Region.wanted, hg], ?_⟩
    refine Oper.wp_mono ?_ (h1 (fun i => listed.getD i false) a w hS (by rw [Nat.zero_add]; exact hun') (fun _ => ?_) hCl hD hFr (fun e he hb => ?_))
    · rintro a' w' ⟨rfl, hS'⟩
      rw [Nat.zero_add] at hS'
      have hdi : ∀ d, o.dst = some d → d < a.tmps.size := fun d hd => by
        have := hlt o (List.mem_of_getElem? ho')
        rw [hd] at this
        rw [hN]
        simpa using this
      have hupd : (fun j => (listed.setIfInBounds i true).getD j false) = upd (fun j => listed.getD j false) i := by
        funext j
        unfold upd
        by_cases e : j = i
        · subst e
          have : j < listed.size := by omega
          simp [Array.getD, this]
        · rw [if_neg e]
          simp only [Array.getD_eq_getD_getElem?]
          rw [Array.getElem?_setIfInBounds_ne (fun h => e h.symm)]
      refine ⟨by simp [hsz], by rw [hupd]; exact hS', ?_, ?_, ?_, ?_, ?_⟩
      · unfold Act.put; split <;> exact hD
      · unfold Act.put; split <;> simpa using hN
      · intro t ht
        unfold Act.put
        split
        · rename_i d hd
          have ht' := ht
          rw [List.all_eq_true] at ht
          have h2 := ht o (List.mem_of_getElem? ho')
          simp only [hd] at h2
          rw [Array.getElem?_setIfInBounds_ne]
          · exact hFr t ht'
          · intro e; subst e; simp at h2
        · exact hFr t ht
      · intro j oj hj hlj d hdj
        by_cases e : j = i
        · subst e
          have : oj = o := Option.some.inj (hj.symm.trans ho')
          subst this
          unfold Act.put
          rw [hdj]
          simp [hdi d hdj]
        · have hlj' : listed.getD j false = true := by
            have h3 : (listed.setIfInBounds i true)[j]? = listed[j]? := Array.getElem?_setIfInBounds_ne (fun h => e h.symm)
            simp only [Array.getD_eq_getD_getElem?] at hlj ⊢
            rw [h3] at hlj
            exact hlj
          have hu := hL j oj hj hlj' d hdj
          unfold Act.put
          split
          · rename_i d' hd'
            rw [Array.getElem?_setIfInBounds_ne]
            · exact hu
            · intro e2
              subst e2
              exact e (nodup_filterMap hnd hj ho' hdj hd')
          · exact hu
      · rw [hupd]
        intro j oj hj hlj e he hb
        unfold upd at hlj ⊢
        by_cases e2 : e.on = i
        · rw [if_pos e2]
        · rw [if_neg e2]
          by_cases e3 : j = i
          · subst e3
            have : oj = o := Option.some.inj (hj.symm.trans ho')
            subst this
            exact hdep e he hb
          · rw [if_neg e3] at hlj
            exact hCl j oj hj hlj e he hb
    · cases hq : listed.getD fin false with
      | false => rfl
      | true =>
        rw [Bool.or_eq_true, decide_eq_true_eq] at hF
        rcases hF with hF | hF
        · have := fin_all hlex hF hCl hq (l.length - i) i (Nat.le_refl _) hil
          simp only [hun'] at this
          cases this
        · have : ¬ fin < listed.size := by omega
          simp [Array.getD, this] at hq
    · have h2 := hdep e he hb
      have h3 : e.on < l.length := by
        rw [List.all_eq_true] at hlex
        have h4 := hlex (o, i) (List.mem_zipIdx_iff_getElem?.2 ho')
        rw [Array.all_eq_true_iff_forall_mem] at h4
        have h5 : e.on < i := by simpa [hb] using h4 e he
        omega
      refine ⟨h2, ?_⟩
      have hv := hL e.on _ (List.getElem?_eq_getElem h3) h2
      rw [List.getElem?_eq_getElem h3]
      show Holds a (l[e.on]).dst (val e.on)
      cases hd : (l[e.on]).dst with
      | none => trivial
      | some d => exact hv d hd
  · rintro listed a w ⟨hsz, hS, hD, hN, hFr, hL, hCl⟩ hr
    have hlis : ∀ i, i < l.length → listed.getD i false = true := fun i hi => by
      have := all_listed hlex hr (i + 1) i (by omega) hi
      simp only [Array.getD, hsz, hi, dite_true] at this ⊢
      exact this
    have ha : a = { tmps := putAll val l 0 a0.tmps, defers := a0.defers } := by
      have ht : a.tmps = putAll val l 0 a0.tmps := by
        refine Array.ext_getElem? fun t => ?_
        by_cases hf : l.all (fun o => o.dst != some t) = true
        · rw [hFr t hf, putAll_free]
          intro o ho hd
          rw [List.all_eq_true] at hf
          have := hf o ho
          simp [hd] at this
        · have : ∃ o ∈ l, o.dst = some t := by
            simpa [List.all_eq_true] using hf
          obtain ⟨o, ho, hd⟩ := this
          obtain ⟨i, hi⟩ := List.getElem?_of_mem ho
          rw [hL i o hi (hlis i (List.getElem?_eq_some_iff.1 hi).1) t hd, putAll_at val l 0 _ i o hnd hi hd]
          · rw [Nat.zero_add]
          · have := hlt o ho
            rw [hd] at this
            simpa using this
      cases a
      simp_all
    rw [ha]
    exact hdone _ w hlis hS
end
end Go.Proofs.YtpkelgekannioaaGreatDoor

namespace Go.Proofs.YtpkelgekannioaaGreatDoor
open Go
set_option linter.unusedSimpArgs false
set_option linter.unusedVariables false
section
variable {P : Program} {ops : List Oper} {Q : Exit → Act → World → Prop}
/-- What each operation of a region is asked: whenever it comes up, with what it waits for behind it, it leaves a value of which R holds, and a world that S and Ext allow. -/
def TableOps (P : Program) (ops : List Oper) (Q : Exit → Act → World → Prop) (S : World → Prop) (Ext : World → World → Prop) (R : Nat → Value → World → Prop) (a0 : Act) : List Oper → Nat → Prop
  | [], _ => True
  | o :: l, k => (o.guard = none ∧ ∀ (a : Act) (w : World), S w → a.defers = a0.defers → (∀ t, ops.all (fun o => o.dst != some t) = true → a.tmps[t]? = a0.tmps[t]?) →
      (∀ e ∈ o.after, Region.binds .any e = true → ∃ v, Holds a ((ops[e.on]?).bind (·.dst)) v ∧ R e.on v w) →
      o.wp P a w (fun a' w' => ∃ v, a' = a.put o.dst v ∧ S w' ∧ Ext w w' ∧ R k v w') Q) ∧ TableOps P ops Q S Ext R a0 l (k + 1)

theorem TableOps.at {ops : List Oper} {S : World → Prop} {Ext : World → World → Prop} {R : Nat → Value → World → Prop} {a0 : Act} : ∀ {l : List Oper} {k : Nat}, TableOps P ops Q S Ext R a0 l k → ∀ {i : Nat} {o : Oper}, l[i]? = some o →
    o.guard = none ∧ ∀ (a : Act) (w : World), S w → a.defers = a0.defers → (∀ t, ops.all (fun o => o.dst != some t) = true → a.tmps[t]? = a0.tmps[t]?) →
      (∀ e ∈ o.after, Region.binds .any e = true → ∃ v, Holds a ((ops[e.on]?).bind (·.dst)) v ∧ R e.on v w) →
      o.wp P a w (fun a' w' => ∃ v, a' = a.put o.dst v ∧ S w' ∧ Ext w w' ∧ R (k + i) v w') Q
  | [], _, _, i, o, h => by simp at h
  | x :: l, k, ht, 0, o, h => by
    have : x = o := by simpa using h
    subst this
    exact ht.1
  | x :: l, k, ht, i + 1, o, h => by
    have := TableOps.at ht.2 (i := i) (o := o) (by simpa using h)
    rw [show k + (i + 1) = k + 1 + i by omega]
    exact this

end
section
variable {P : Program} {ops : Array Oper} {Q : Exit → Act → World → Prop}
/-- The last operation waits for all others. -/
def lastB (l : List Oper) (last : Oper) : Bool := (List.range l.length).all fun i => last.after.any fun e => e.on == i && Region.binds .any e

/-- A region that draws its order and ends with one operation that waits for all others: the others by a table, the last one by itself. -/
theorem wp_region_table_last {id : Nat} {l : List Oper} {last : Oper} {a0 : Act} {w : World} (hm : P.follows .mixedOrders = true) (S : World → Prop) (Ext : World → World → Prop) (R : Nat → Value → World → Prop)
    (hR : ∀ k v w w', Ext w w' → R k v w → R k v w') (hB : tableB l a0.tmps.size = true) (hlastB : lastB l last = true) (hg : last.guard = none) (h0 : S w.drew)
    (hop : TableOps P (l ++ [last]) Q S Ext R a0 l 0)
    (hdone : ∀ (val : Nat → Value) (w' : World), S w' → (∀ k, k < l.length → R k (val k) w') → last.wp P { tmps := putAll val l 0 a0.tmps, defers := a0.defers } w' (Q .normal) Q)
    (hfree : ∀ t, (l ++ [last]).all (fun o => o.dst != some t) = true → l.all (fun o => o.dst != some t) = true)
    (hdst : last.dst = none) (hlastlt' : (last.after.all fun e => decide (e.on < l.length)) = true) : (Code.region id (l ++ [last]).toArray true).wp P Q a0 w := by
  simp only [tableB, Bool.and_eq_true, decide_eq_true_eq] at hB
  obtain ⟨⟨hnd, hlt⟩, hlex⟩ := hB
  rw [List.all_eq_true] at hlt
  have hlastall : ∀ i, i < l.length → ∃ e ∈ last.after, e.on = i ∧ Region.binds .any e = true := fun i hi => by
    unfold lastB at hlastB
    rw [List.all_eq_true] at hlastB
    have h1 := hlastB i (List.mem_range.2 hi)
    rw [Array.any_eq_true] at h1
    obtain ⟨k, hk, h2⟩ := h1
    simp only [Bool.and_eq_true, beq_iff_eq] at h2
    exact ⟨_, Array.getElem_mem hk, h2.1, h2.2⟩
  have hlastlt : ∀ e ∈ last.after, ¬ ¬ e.on < l.length := fun e he => by
    rw [Array.all_eq_true_iff_forall_mem] at hlastlt'
    have := hlastlt' e he
    simpa using this
  have hfr : ∀ t, l.all (fun o => o.dst != some t) = true → (l ++ [last]).all (fun o => o.dst != some t) = true := fun t ht => by
    rw [List.all_append, ht]
    simp [hdst]
  have hidx : ∀ (i : Nat) (o : Oper), (l ++ [last])[i]? = some o → (i < l.length ∧ l[i]? = some o) ∨ (i = l.length ∧ o = last) := fun i o ho => by
    by_cases hi : i < l.length
    · rw [List.getElem?_append_left hi] at ho
      exact .inl ⟨hi, ho⟩
    · rw [List.getElem?_append_right (by omega)] at ho
      have h1 := (List.getElem?_eq_some_iff.1 ho).1
      simp at h1
      have h2 : i = l.length := by omega
      subst h2
      simp at ho
      exact .inr ⟨rfl, ho.symm⟩
  refine wp_region_inv hm (fun listed a w => listed.size = l.length + 1 ∧ ((∀ i, i < l.length + 1 → listed.getD i false = true) ∧ Q .normal a w ∨ (listed.getD l.length false = false ∧ S w ∧ a.defers = a0.defers ∧ a.tmps.size = a0.tmps.size ∧ (∀ t, l.all (fun o => o.dst != some t) = true → a.tmps[t]? = a0.tmps[t]?) ∧
    ∀ i o, l[i]? = some o → listed.getD i false = true → ∃ v, (∀ d, o.dst = some d → a.tmps[d]? = some v) ∧ R i v w))) ?_ ?_ ?_
  · refine ⟨by simp, .inr ⟨by simp [Array.getD], h0, rfl, rfl, fun t _ => rfl, fun i o hi hl => ?_⟩⟩
    exfalso
    simp [Array.getD] at hl
  · rintro listed a w i o ⟨hsz, hcase⟩ ho hun hdep
    have ho' : (l ++ [last])[i]? = some o := by simpa using ho
    have hilt : i < l.length + 1 := by have := (List.getElem?_eq_some_iff.1 ho').1; simpa using this
    have hun' : listed.getD i false = false := by
      have : i < listed.size := by omega
      simp [Array.getD, this] at hun ⊢
      exact hun
    rcases hcase with ⟨hall, _⟩ | ⟨hK, hS, hD, hN, hF, hL⟩
    · rw [hall i hilt] at hun'; cases hun'
    · rcases hidx i o ho' with ⟨hil, hli⟩ | ⟨rfl, rfl⟩
      · obtain ⟨hg1, h1⟩ := hop.at hli
        refine ⟨by simp [Region.wanted, hg1], ?_⟩
        refine Oper.wp_mono ?_ (h1 a w hS hD (fun t ht => hF t (hfree t ht)) (fun e he hb => ?_))
        · rintro a' w' ⟨v, rfl, hS', hE, hRv⟩
          rw [Nat.zero_add] at hRv
          have hdi : ∀ d, o.dst = some d → d < a.tmps.size := fun d hd => by
            have := hlt o (List.mem_of_getElem? hli)
            rw [hd] at this
            rw [hN]
            simpa using this
          refine ⟨by simp [hsz], .inr ⟨?_, hS', ?_, ?_, ?_, ?_⟩⟩
          · have h3 : (listed.setIfInBounds i true)[l.length]? = listed[l.length]? := Array.getElem?_setIfInBounds_ne (fun h => by omega)
            simp only [Array.getD_eq_getD_getElem?] at hK ⊢
            rw [h3]
            exact hK
          · unfold Act.put; split <;> exact hD
          · unfold Act.put; split <;> simpa using hN
          · intro t ht
            unfold Act.put
            split
            · rename_i d hd
              have ht' := ht
              rw [List.all_eq_true] at ht
              have h2 := ht o (List.mem_of_getElem? hli)
              simp only [hd] at h2
              rw [Array.getElem?_setIfInBounds_ne]
              · exact hF t ht'
              · intro e; subst e; simp at h2
            · exact hF t ht
          · intro j oj hj hlj
            by_cases e : j = i
            · subst e
              have : oj = o := Option.some.inj (hj.symm.trans hli)
              subst this
              refine ⟨v, fun d hd => ?_, hRv⟩
              unfold Act.put
              rw [hd]
              simp [hdi d hd]
            · have hlj' : listed.getD j false = true := by
                have h3 : (listed.setIfInBounds i true)[j]? = listed[j]? := Array.getElem?_setIfInBounds_ne (fun h => e h.symm)
                simp only [Array.getD_eq_getD_getElem?] at hlj ⊢
                rw [h3] at hlj
                exact hlj
              obtain ⟨u, hu, hRu⟩ := hL j oj hj hlj'
              refine ⟨u, fun d hd => ?_, hR _ _ _ _ hE hRu⟩
              unfold Act.put
              split
              · rename_i d' hd'
                rw [Array.getElem?_setIfInBounds_ne]
                · exact hu d hd
                · intro e2
                  subst e2
                  exact e (nodup_filterMap hnd hj hli hd hd')
              · exact hu d hd
        · have h2 := hdep e he hb
          have h3 : e.on < l.length := by
            rw [List.all_eq_true] at hlex
            have h4 := hlex (o, i) (List.mem_zipIdx_iff_getElem?.2 hli)
            rw [Array.all_eq_true_iff_forall_mem] at h4
            have h5 : e.on < i := by simpa [hb] using h4 e he
            omega
          obtain ⟨v, hv, hRv⟩ := hL e.on _ (List.getElem?_eq_getElem h3) h2
          refine ⟨v, ?_, hRv⟩
          rw [List.getElem?_append_left h3, List.getElem?_eq_getElem h3]
          show Holds a (l[e.on]).dst v
          cases hd : (l[e.on]).dst with
          | none => trivial
          | some d => exact hv d hd
      · refine ⟨by simp [Region.wanted, hg], ?_⟩
        have hlis : ∀ i, i < l.length → listed.getD i false = true := fun i hi => by
          obtain ⟨e, he, rfl, hb⟩ := hlastall i hi
          exact hdep e he hb
        have hall : ∀ i o, l[i]? = some o → ∃ v, (∀ d, o.dst = some d → a.tmps[d]? = some v) ∧ R i v w := fun i o hi =>
          hL i o hi (hlis i (List.getElem?_eq_some_iff.1 hi).1)
        have hval : ∃ val : Nat → Value, ∀ i o, l[i]? = some o → (∀ d, o.dst = some d → a.tmps[d]? = some (val i)) ∧ R i (val i) w := by
          refine ⟨fun i => if h : i < l.length then Classical.choose (hall i _ (List.getElem?_eq_getElem h)) else undef, fun i o hi => ?_⟩
          have hil := (List.getElem?_eq_some_iff.1 hi).1
          have := Classical.choose_spec (hall i _ (List.getElem?_eq_getElem hil))
          rw [List.getElem?_eq_getElem hil] at hi
          cases hi
          simp only [hil, dite_true]
          exact this
        obtain ⟨val, hv⟩ := hval
        have ha : a = { tmps := putAll val l 0 a0.tmps, defers := a0.defers } := by
          have ht : a.tmps = putAll val l 0 a0.tmps := by
            refine Array.ext_getElem? fun t => ?_
            by_cases hf : l.all (fun o => o.dst != some t) = true
            · rw [hF t hf, putAll_free]
              intro o ho hd
              rw [List.all_eq_true] at hf
              have := hf o ho
              simp [hd] at this
            · have : ∃ o ∈ l, o.dst = some t := by
                simpa [List.all_eq_true] using hf
              obtain ⟨o, ho, hd⟩ := this
              obtain ⟨i, hi⟩ := List.getElem?_of_mem ho
              rw [(hv i o hi).1 t hd, putAll_at val l 0 _ i o hnd hi hd]
              · rw [Nat.zero_add]
              · have := hlt o ho
                rw [hd] at this
                simpa using this
          cases a
          simp_all
        rw [ha]
        refine Oper.wp_mono ?_ (hdone val w hS fun k hk => (hv k _ (List.getElem?_eq_getElem hk)).2)
        intro a' w' hq
        refine ⟨by simp [hsz], .inl ⟨fun i hi => ?_, hq⟩⟩
        by_cases e : i = l.length
        · subst e
          simp [Array.getD, hsz]
        · have h3 : (listed.setIfInBounds l.length true)[i]? = listed[i]? := Array.getElem?_setIfInBounds_ne (fun h => e h.symm)
          have h4 := hlis i (by omega)
          simp only [Array.getD_eq_getD_getElem?] at h4 ⊢
          rw [h3]
          exact h4
  · rintro listed a w ⟨hsz, hcase⟩ hr
    rcases hcase with ⟨_, hq⟩ | ⟨hK, _, _, _, _, hL⟩
    · exact hq
    · exfalso
      have hlis : ∀ (n i : Nat), i < n → i < l.length → listed.getD i true = true := by
        intro n
        induction n with
        | zero => intro i hi; omega
        | succ n ih =>
          intro i hi hl
          cases hc : listed.getD i true with
          | true => rfl
          | false =>
            have hmem : i ∈ Region.ready .any (l ++ [last]).toArray listed := by
              refine mem_ready.2 ⟨hc, l[i], by simp [List.getElem?_append_left hl], fun e he hb => ?_⟩
              rw [List.all_eq_true] at hlex
              have h1 := hlex (l[i], i) (List.mem_zipIdx_iff_getElem?.2 (List.getElem?_eq_getElem hl))
              rw [Array.all_eq_true_iff_forall_mem] at h1
              have h2 : e.on < i := by simpa [hb] using h1 e he
              have h3 := ih e.on (by omega) (by omega)
              have hs : e.on < listed.size := by omega
              simp [Array.getD, hs] at h3 ⊢
              exact h3
            rw [hr] at hmem
            cases hmem
      have hmem : l.length ∈ Region.ready .any (l ++ [last]).toArray listed := by
        refine mem_ready.2 ⟨?_, last, by simp, fun e he hb => ?_⟩
        · have hs : l.length < listed.size := by omega
          simp [Array.getD, hs] at hK ⊢
          exact hK
        · by_cases hel : e.on < l.length
          · have h3 := hlis _ e.on (Nat.lt_succ_self _) hel
            have hs : e.on < listed.size := by omega
            simp [Array.getD, hs] at h3 ⊢
            exact h3
          · exact absurd hel (hlastlt e he)
      rw [hr] at hmem
      cases hmem

/-- The same, the region's operations in one row: all but the last one are n. -/
theorem wp_region_last {id : Nat} {L : List Oper} (n : Nat) {last : Oper} {a0 : Act} {w : World} (hm : P.follows .mixedOrders = true) (hL : L = L.take n ++ [last]) (S : World → Prop) (Ext : World → World → Prop) (R : Nat → Value → World → Prop)
    (hR : ∀ k v w w', Ext w w' → R k v w → R k v w') (hB : (tableB (L.take n) a0.tmps.size && lastB (L.take n) last && last.guard.isNone && last.dst.isNone && (last.after.all fun e => decide (e.on < (L.take n).length)) && (L.take n).length == n) = true) (h0 : S w.drew)
    (hop : TableOps P L Q S Ext R a0 (L.take n) 0)
    (hdone : ∀ (val : Nat → Value) (w' : World), S w' → (∀ k, k < n → R k (val k) w') → last.wp P { tmps := putAll val (L.take n) 0 a0.tmps, defers := a0.defers } w' (Q .normal) Q) : (Code.region id L.toArray true).wp P Q a0 w := by
  simp only [Bool.and_eq_true, Option.isNone_iff_eq_none] at hB
  obtain ⟨⟨⟨⟨⟨h1, h2⟩, h3⟩, h4⟩, h5⟩, h6⟩ := hB
  have h6' : (L.take n).length = n := by simpa using h6
  have h := wp_region_table_last (id := id) (l := L.take n) (last := last) (Q := Q) (w := w) hm S Ext R hR h1 h2 h3 h0 (by rw [← hL]; exact hop) (fun val w' hS hall => hdone val w' hS fun k hk => hall k (by rw [h6']; exact hk)) (fun t ht => by
    rw [List.all_append, Bool.and_eq_true] at ht
    exact ht.1) h4 h5
  rw [← hL] at h
  exact h
end
end Go.Proofs.YtpkelgekannioaaGreatDoor
