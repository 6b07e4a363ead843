import Derived.Orders
import Derived.Defers
import Derived.BigFrame
/-! Laws of my own on regions that draw their order. -/
namespace Go.Proofs.Ytgbeohhegckonaa
open Go
set_option linter.unusedSimpArgs false
set_option linter.unusedVariables false

theorem countP_set {l : List Bool} : ∀ {i : Nat}, l.getD i true = false → (l.set i true).countP (!·) + 1 = l.countP (!·) := by
  induction l with
  | nil => intro i h; simp at h
  | cons b l ih =>
    intro i h
    cases i with
    | zero =>
      have hb : b = false := by simpa using h
      subst hb
      simp
    | succ i =>
      have h1 := ih (i := i) (by simpa using h)
      rw [List.set_cons_succ, List.countP_cons, List.countP_cons]
      omega
theorem countP_zero {l : List Bool} (h : l.countP (!·) = 0) (i : Nat) : l.getD i true = true := by
  rw [List.countP_eq_zero] at h
  cases hi : l[i]? with
  | none => simp [List.getD, hi]
  | some b =>
    have := h b (List.mem_of_getElem? hi)
    simp [List.getD, hi]
    cases b
    · simp at this
    · rfl

section
variable {P : Program} {ops : Array Oper} {Q : Exit → Act → World → Prop} {md : Region.Mode}

/-- Whatever order is drawn: what each operation keeps, whenever it comes up, holds at the end. -/
theorem wpAny_inv (Inv : Array Bool → Act → World → Prop)
    (hstep : ∀ (listed : Array Bool) a w i o, Inv listed a w → ops[i]? = some o → listed.getD i true = false → (∀ e ∈ o.after, Region.binds md e = true → listed.getD e.on false = true) →
      Region.wanted o (yielded ops a.tmps) = true ∧ o.wp P a w (Inv (listed.setIfInBounds i true)) Q)
    (hdone : ∀ listed a w, Inv listed a w → Region.ready md ops listed = [] → Q .normal a w) :
    ∀ (fuel : Nat) (listed : Array Bool) (a : Act) (w : World), listed.toList.countP (!·) ≤ fuel → Inv listed a w → wpAny P md ops Q fuel listed a w
  | 0, listed, a, w, hf, h => by
    have h0 : Region.ready md ops listed = [] := by
      cases hr : Region.ready md ops listed with
      | nil => rfl
      | cons j l =>
        have h1 := (mem_ready.1 (show j ∈ Region.ready md ops listed by rw [hr]; simp)).1
        have h2 := countP_zero (Nat.le_zero.1 hf) j
        simp only [Array.getD_eq_getD_getElem?, List.getD_eq_getElem?_getD, Array.getElem?_toList] at h1 h2
        rw [h1] at h2
        cases h2
    exact ⟨h0, hdone _ _ _ h h0⟩
  | fuel + 1, listed, a, w, hf, h => by
    refine ⟨hdone _ _ _ h, fun i hi => ?_⟩
    obtain ⟨h1, o, ho, h2⟩ := mem_ready.1 hi
    obtain ⟨hw, hs⟩ := hstep listed a w i o h ho h1 h2
    unfold wpOp
    simp only [ho, hw, if_true]
    refine .inl (Oper.wp_mono (fun a' w' h' => wpAny_inv Inv hstep hdone fuel _ a' w' ?_ h') hs)
    have h3 : listed.toList.getD i true = false := by
      simpa [Array.getD_eq_getD_getElem?, List.getD_eq_getElem?_getD] using h1
    have := countP_set h3
    rw [Array.toList_setIfInBounds]
    omega

/-- The same at a region. -/
theorem wp_region_inv {id : Nat} {a : Act} {w : World} (hm : P.follows .mixedOrders = true) (Inv : Array Bool → Act → World → Prop)
    (h0 : Inv (Array.replicate ops.size false) a w.drew)
    (hstep : ∀ (listed : Array Bool) a w i o, Inv listed a w → ops[i]? = some o → listed.getD i true = false → (∀ e ∈ o.after, Region.binds .any e = true → listed.getD e.on false = true) →
      Region.wanted o (yielded ops a.tmps) = true ∧ o.wp P a w (Inv (listed.setIfInBounds i true)) Q)
    (hdone : ∀ listed a w, Inv listed a w → Region.ready .any ops listed = [] → Q .normal a w) : (Code.region id ops true).wp P Q a w :=
  wp_region_any hm (wpAny_inv Inv hstep hdone _ _ _ _ (by
    refine Nat.le_trans List.countP_le_length ?_
    simp) h0)

/-- The temporary, if there is one, holds v. -/
def Holds (a : Act) : Option Tmp → Value → Prop
  | some d, v => a.tmps[d]? = some v
  | none, _ => True
/-- What each operation of a region is asked: whenever it comes up, with what it waits for behind it, it leaves a value of which R holds, and a world that S and Ext allow. -/
def TableOps (P : Program) (ops : List Oper) (Q : Exit → Act → World → Prop) (S : World → Prop) (Ext : World → World → Prop) (R : Nat → Value → World → Prop) (a0 : Act) : List Oper → Nat → Prop
  | [], _ => True
  | o :: l, k => (o.guard = none ∧ ∀ (a : Act) (w : World), S w → a.defers = a0.defers → (∀ t, ops.all (fun o => o.dst != some t) = true → a.tmps[t]? = a0.tmps[t]?) →
      (∀ e ∈ o.after, Region.binds .any e = true → ∃ v, Holds a ((ops[e.on]?).bind (·.dst)) v ∧ R e.on v w) →
      o.wp P a w (fun a' w' => ∃ v, a' = a.put o.dst v ∧ S w' ∧ Ext w w' ∧ R k v w') Q) ∧ TableOps P ops Q S Ext R a0 l (k + 1)

theorem TableOps.at {ops : List Oper} {S : World → Prop} {Ext : World → World → Prop} {R : Nat → Value → World → Prop} {a0 : Act} : ∀ {l : List Oper} {k : Nat}, TableOps P ops Q S Ext R a0 l k → ∀ {i : Nat} {o : Oper}, l[i]? = some o →
    o.guard = none ∧ ∀ (a : Act) (w : World), S w → a.defers = a0.defers → (∀ t, ops.all (fun o => o.dst != some t) = true → a.tmps[t]? = a0.tmps[t]?) →
      (∀ e ∈ o.after, Region.binds .any e = true → ∃ v, Holds a ((ops[e.on]?).bind (·.dst)) v ∧ R e.on v w) →
      o.wp P a w (fun a' w' => ∃ v, a' = a.put o.dst v ∧ S w' ∧ Ext w w' ∧ R (k + i) v w') Q
  | [], _, _, i, o, h => by simp at h
  | x :: l, k, ht, 0, o, h => by
    have : x = o := by simpa using h
    subst this
    exact ht.1
  | x :: l, k, ht, i + 1, o, h => by
    have := TableOps.at ht.2 (i := i) (o := o) (by simpa using h)
    rw [show k + (i + 1) = k + 1 + i by omega]
    exact this

/-- The operations' temporaries are apart, and each waits only for earlier ones. -/
def tableB (ops : List Oper) (n : Nat) : Bool :=
  decide ((ops.filterMap (·.dst)).Nodup) && ops.all (fun o => match o.dst with | some d => decide (d < n) | none => true) && (ops.zipIdx.all fun p => p.1.after.all fun e => decide (e.on < p.2))

theorem nodup_filterMap {l : List Oper} (h : (l.filterMap (·.dst)).Nodup) : ∀ {i j : Nat} {o o' : Oper} {d : Tmp}, l[i]? = some o → l[j]? = some o' → o.dst = some d → o'.dst = some d → i = j := by
  induction l with
  | nil => intro i j o o' d h1; simp at h1
  | cons x l ih =>
    intro i j o o' d h1 h2 h3 h4
    have hmem : ∀ {k : Nat} {p : Oper}, l[k]? = some p → p.dst = some d → d ∈ l.filterMap (·.dst) := fun hk hp => List.mem_filterMap.2 ⟨_, List.mem_of_getElem? hk, hp⟩
    have hl : (l.filterMap (·.dst)).Nodup := by
      rw [List.filterMap_cons] at h
      split at h
      · exact h
      · exact (List.nodup_cons.1 h).2
    have hx : ∀ {k : Nat} {p : Oper}, x.dst = some d → l[k]? = some p → p.dst = some d → False := fun hxd hk hp => by
      rw [List.filterMap_cons, hxd] at h
      exact (List.nodup_cons.1 h).1 (hmem hk hp)
    match i, j, h1, h2 with
    | 0, 0, _, _ => rfl
    | 0, j + 1, h1, h2 =>
      have : x = o := by simpa using h1
      subst this
      exact (hx h3 (by simpa using h2) h4).elim
    | i + 1, 0, h1, h2 =>
      have : x = o' := by simpa using h2
      subst this
      exact (hx h4 (by simpa using h1) h3).elim
    | i + 1, j + 1, h1, h2 =>
      have := ih hl (i := i) (j := j) (by simpa using h1) (by simpa using h2) h3 h4
      rw [this]

/-- The frame behind all operations: each temporary holds its value. -/
def putAll (val : Nat → Value) : List Oper → Nat → Array Value → Array Value
  | [], _, t => t
  | o :: l, k, t => putAll val l (k + 1) (match o.dst with | some d => t.setIfInBounds d (val k) | none => t)

theorem putAll_size (val : Nat → Value) : ∀ (l : List Oper) (k : Nat) (t : Array Value), (putAll val l k t).size = t.size
  | [], _, _ => rfl
  | o :: l, k, t => by rw [putAll, putAll_size]; split <;> simp
theorem putAll_free (val : Nat → Value) {d : Nat} : ∀ (l : List Oper) (k : Nat) (t : Array Value), (∀ o ∈ l, o.dst ≠ some d) → (putAll val l k t)[d]? = t[d]?
  | [], _, _, _ => rfl
  | o :: l, k, t, h => by
    rw [putAll, putAll_free val l _ _ (fun o ho => h o (by simp [ho]))]
    split
    · rename_i d' hd'
      rw [Array.getElem?_setIfInBounds_ne]
      intro e
      exact h o (by simp) (by rw [hd', e])
    · rfl
theorem putAll_at (val : Nat → Value) {d : Nat} : ∀ (l : List Oper) (k : Nat) (t : Array Value) (i : Nat) (o : Oper), (l.filterMap (·.dst)).Nodup → l[i]? = some o → o.dst = some d → d < t.size → (putAll val l k t)[d]? = some (val (k + i))
  | [], _, _, i, o, _, h, _, _ => by simp at h
  | x :: l, k, t, 0, o, hn, h, hd, hs => by
    have : x = o := by simpa using h
    subst this
    rw [putAll, putAll_free, hd]
    · simp [hs]
    · intro o' ho' hd'
      rw [List.filterMap_cons, hd] at hn
      exact (List.nodup_cons.1 hn).1 (List.mem_filterMap.2 ⟨o', ho', hd'⟩)
  | x :: l, k, t, i + 1, o, hn, h, hd, hs => by
    rw [putAll, putAll_at val l (k + 1) _ i o (by
      rw [List.filterMap_cons] at hn
      split at hn
      · exact hn
      · exact (List.nodup_cons.1 hn).2) (by simpa using h) hd (by split <;> simpa using hs)]
    rw [show k + 1 + i = k + (i + 1) by omega]

theorem all_listed {l : List Oper} {listed : Array Bool} (hlex : (l.zipIdx.all fun p => p.1.after.all fun e => decide (e.on < p.2)) = true) (hr : Region.ready md l.toArray listed = []) :
    ∀ (n i : Nat), i < n → i < l.length → listed.getD i true = true := by
  intro n
  induction n with
  | zero => intro i hi; omega
  | succ n ih =>
    intro i hi hl
    cases hc : listed.getD i true with
    | true => rfl
    | false =>
      obtain ⟨o, ho⟩ : ∃ o, l[i]? = some o := ⟨_, List.getElem?_eq_getElem hl⟩
      have hmem : i ∈ Region.ready md l.toArray listed := by
        refine mem_ready.2 ⟨hc, o, by simpa using ho, fun e he hb => ?_⟩
        rw [List.all_eq_true] at hlex
        have h1 := hlex (o, i) (List.mem_zipIdx_iff_getElem?.2 ho)
        rw [Array.all_eq_true_iff_forall_mem] at h1
        have h2 : e.on < i := by simpa using h1 e he
        have h3 := ih e.on (by omega) (by omega)
        by_cases hs : e.on < listed.size
        · simp [Array.getD, hs] at h3 ⊢
          exact h3
        · exfalso
          have : i < listed.size := by
            rcases Nat.lt_or_ge i listed.size with h | h
            · exact h
            · simp [Array.getD, Nat.not_lt.2 h] at hc
          omega
      rw [hr] at hmem
      cases hmem

/-- A region that draws its order, by a table: what each operation leaves, whenever it comes up. -/
theorem wp_region_table {id : Nat} {l : List Oper} {a0 : Act} {w : World} (hm : P.follows .mixedOrders = true) (S : World → Prop) (Ext : World → World → Prop) (R : Nat → Value → World → Prop)
    (hR : ∀ k v w w', Ext w w' → R k v w → R k v w') (hB : tableB l a0.tmps.size = true) (h0 : S w.drew)
    (hop : TableOps P l Q S Ext R a0 l 0)
    (hdone : ∀ (val : Nat → Value) (w' : World), S w' → (∀ k, k < l.length → R k (val k) w') → Q .normal { tmps := putAll val l 0 a0.tmps, defers := a0.defers } w') : (Code.region id l.toArray true).wp P Q a0 w := by
  simp only [tableB, Bool.and_eq_true, decide_eq_true_eq] at hB
  obtain ⟨⟨hnd, hlt⟩, hlex⟩ := hB
  rw [List.all_eq_true] at hlt
  refine wp_region_inv hm (fun listed a w => listed.size = l.length ∧ S w ∧ a.defers = a0.defers ∧ a.tmps.size = a0.tmps.size ∧ (∀ t, l.all (fun o => o.dst != some t) = true → a.tmps[t]? = a0.tmps[t]?) ∧
    ∀ i o, l[i]? = some o → listed.getD i false = true → ∃ v, (∀ d, o.dst = some d → a.tmps[d]? = some v) ∧ R i v w) ?_ ?_ ?_
  · refine ⟨by simp, h0, rfl, rfl, fun t _ => rfl, fun i o hi hl => ?_⟩
    exfalso
    simp [Array.getD] at hl
  · rintro listed a w i o ⟨hsz, hS, hD, hN, hF, hL⟩ ho hun hdep
    have ho' : l[i]? = some o := by simpa using ho
    obtain ⟨hg, h1⟩ := hop.at ho'
    refine ⟨by simp [Region.wanted, hg], ?_⟩
    refine Oper.wp_mono ?_ (h1 a w hS hD hF (fun e he hb => ?_))
    · rintro a' w' ⟨v, rfl, hS', hE, hRv⟩
      rw [Nat.zero_add] at hRv
      have hdi : ∀ d, o.dst = some d → d < a.tmps.size := fun d hd => by
        have := hlt o (List.mem_of_getElem? ho')
        rw [hd] at this
        rw [hN]
        simpa using this
      refine ⟨by simp [hsz], hS', ?_, ?_, ?_, ?_⟩
      · unfold Act.put; split <;> exact hD
      · unfold Act.put; split <;> simpa using hN
      · intro t ht
        unfold Act.put
        split
        · rename_i d hd
          rw [List.all_eq_true] at ht
          have h2 := ht o (List.mem_of_getElem? ho')
          simp only [hd] at h2
          rw [Array.getElem?_setIfInBounds_ne]
          · exact hF t (by rw [List.all_eq_true]; exact ht)
          · intro e; subst e; simp at h2
        · exact hF t ht
      · intro j oj hj hlj
        by_cases e : j = i
        · subst e
          have : oj = o := Option.some.inj (hj.symm.trans ho')
          subst this
          refine ⟨v, fun d hd => ?_, hRv⟩
          unfold Act.put
          rw [hd]
          simp [hdi d hd]
        · have hlj' : listed.getD j false = true := by
            have h3 : (listed.setIfInBounds i true)[j]? = listed[j]? := Array.getElem?_setIfInBounds_ne (fun h => e h.symm)
            simp only [Array.getD_eq_getD_getElem?] at hlj ⊢
            rw [h3] at hlj
            exact hlj
          obtain ⟨u, hu, hRu⟩ := hL j oj hj hlj'
          refine ⟨u, fun d hd => ?_, hR _ _ _ _ hE hRu⟩
          unfold Act.put
          split
          · rename_i d' hd'
            rw [Array.getElem?_setIfInBounds_ne]
            · exact hu d hd
            · intro e2
              subst e2
              exact e (nodup_filterMap hnd hj ho' hd hd')
          · exact hu d hd
    · have h2 := hdep e he hb
      have h3 : e.on < l.length := by
        rw [List.all_eq_true] at hlex
        have h4 := hlex (o, i) (List.mem_zipIdx_iff_getElem?.2 ho')
        rw [Array.all_eq_true_iff_forall_mem] at h4
        have h5 : e.on < i := by simpa using h4 e he
        have := (List.getElem?_eq_some_iff.1 ho').1
        omega
      obtain ⟨v, hv, hRv⟩ := hL e.on _ (List.getElem?_eq_getElem h3) h2
      refine ⟨v, ?_, hRv⟩
      rw [List.getElem?_eq_getElem h3]
      show Holds a (l[e.on]).dst v
      cases hd : (l[e.on]).dst with
      | none => trivial
      | some d => exact hv d hd
  · rintro listed a w ⟨hsz, hS, hD, hN, hF, hL⟩ hr
    have hall : ∀ i o, l[i]? = some o → ∃ v, (∀ d, o.dst = some d → a.tmps[d]? = some v) ∧ R i v w := fun i o hi => by
      have hil := (List.getElem?_eq_some_iff.1 hi).1
      refine hL i o hi ?_
      have := all_listed hlex hr (i + 1) i (by omega) hil
      simp only [Array.getD, hsz, hil, dite_true] at this ⊢
      exact this
    have hval : ∃ val : Nat → Value, ∀ i o, l[i]? = some o → (∀ d, o.dst = some d → a.tmps[d]? = some (val i)) ∧ R i (val i) w := by
      refine ⟨fun i => if h : i < l.length then Classical.choose (hall i _ (List.getElem?_eq_getElem h)) else undef, fun i o hi => ?_⟩
      have hil := (List.getElem?_eq_some_iff.1 hi).1
      have := Classical.choose_spec (hall i _ (List.getElem?_eq_getElem hil))
      rw [List.getElem?_eq_getElem hil] at hi
      cases hi
      simp only [hil, dite_true]
      exact this
    obtain ⟨val, hv⟩ := hval
    have ha : a = { tmps := putAll val l 0 a0.tmps, defers := a0.defers } := by
      have ht : a.tmps = putAll val l 0 a0.tmps := by
        refine Array.ext_getElem? fun t => ?_
        by_cases hf : l.all (fun o => o.dst != some t) = true
        · rw [hF t hf, putAll_free]
          intro o ho hd
          rw [List.all_eq_true] at hf
          have := hf o ho
          simp [hd] at this
        · have : ∃ o ∈ l, o.dst = some t := by
            simpa [List.all_eq_true] using hf
          obtain ⟨o, ho, hd⟩ := this
          obtain ⟨i, hi⟩ := List.getElem?_of_mem ho
          rw [(hv i o hi).1 t hd, putAll_at val l 0 _ i o hnd hi hd]
          · rw [Nat.zero_add]
          · have := hlt o ho
            rw [hd] at this
            simpa using this
      cases a
      simp_all
    rw [ha]
    exact hdone val w hS fun k hk => (hv k _ (List.getElem?_eq_getElem hk)).2
end
end Go.Proofs.Ytgbeohhegckonaa
