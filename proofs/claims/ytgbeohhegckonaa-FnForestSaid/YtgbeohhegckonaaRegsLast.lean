import Derived.Test.YtgbeohhegckonaaRegs
/-! A law of my own on a region that draws its order and ends with one store. -/
namespace Go.Proofs.Ytgbeohhegckonaa
open Go
set_option linter.unusedSimpArgs false
set_option linter.unusedVariables false
section
variable {P : Program} {ops : Array Oper} {Q : Exit → Act → World → Prop} {md : Region.Mode}
/-- The last operation waits for all others. -/
def lastB (l : List Oper) (last : Oper) : Bool := (List.range l.length).all fun i => last.after.any fun e => e.on == i && Region.binds .any e

/-- A region that draws its order and ends with one operation that waits for all others: the others by a table, the last one by itself. -/
theorem wp_region_table_last {id : Nat} {l : List Oper} {last : Oper} {a0 : Act} {w : World} (hm : P.follows .mixedOrders = true) (S : World → Prop) (Ext : World → World → Prop) (R : Nat → Value → World → Prop)
    (hR : ∀ k v w w', Ext w w' → R k v w → R k v w') (hB : tableB l a0.tmps.size = true) (hlastB : lastB l last = true) (hg : last.guard = none) (h0 : S w.drew)
    (hop : TableOps P (l ++ [last]) Q S Ext R a0 l 0)
    (hdone : ∀ (val : Nat → Value) (w' : World), S w' → (∀ k, k < l.length → R k (val k) w') → last.wp P { tmps := putAll val l 0 a0.tmps, defers := a0.defers } w' (Q .normal) Q)
    (hfree : ∀ t, (l ++ [last]).all (fun o => o.dst != some t) = true → l.all (fun o => o.dst != some t) = true)
    (hdst : last.dst = none) (hlastlt' : (last.after.all fun e => decide (e.on < l.length)) = true) : (Code.region id (l ++ [last]).toArray true).wp P Q a0 w := by
  simp only [tableB, Bool.and_eq_true, decide_eq_true_eq] at hB
  obtain ⟨⟨hnd, hlt⟩, hlex⟩ := hB
  rw [List.all_eq_true] at hlt
  have hlastall : ∀ i, i < l.length → ∃ e ∈ last.after, e.on = i ∧ Region.binds .any e = true := fun i hi => by
    unfold lastB at hlastB
    rw [List.all_eq_true] at hlastB
    have h1 := hlastB i (List.mem_range.2 hi)
    rw [Array.any_eq_true] at h1
    obtain ⟨k, hk, h2⟩ := h1
    simp only [Bool.and_eq_true, beq_iff_eq] at h2
    exact ⟨_, Array.getElem_mem hk, h2.1, h2.2⟩
  have hlastlt : ∀ e ∈ last.after, ¬ ¬ e.on < l.length := fun e he => by
    rw [Array.all_eq_true_iff_forall_mem] at hlastlt'
    have := hlastlt' e he
    simpa using this
  have hfr : ∀ t, l.all (fun o => o.dst != some t) = true → (l ++ [last]).all (fun o => o.dst != some t) = true := fun t ht => by
    rw [List.all_append, ht]
    simp [hdst]
  have hidx : ∀ (i : Nat) (o : Oper), (l ++ [last])[i]? = some o → (i < l.length ∧ l[i]? = some o) ∨ (i = l.length ∧ o = last) := fun i o ho => by
    by_cases hi : i < l.length
    · rw [List.getElem?_append_left hi] at ho
      exact .inl ⟨hi, ho⟩
    · rw [List.getElem?_append_right (by omega)] at ho
      have h1 := (List.getElem?_eq_some_iff.1 ho).1
      simp at h1
      have h2 : i = l.length := by omega
      subst h2
      simp at ho
      exact .inr ⟨rfl, ho.symm⟩
  refine wp_region_inv hm (fun listed a w => listed.size = l.length + 1 ∧ ((∀ i, i < l.length + 1 → listed.getD i false = true) ∧ Q .normal a w ∨ (listed.getD l.length false = false ∧ S w ∧ a.defers = a0.defers ∧ a.tmps.size = a0.tmps.size ∧ (∀ t, l.all (fun o => o.dst != some t) = true → a.tmps[t]? = a0.tmps[t]?) ∧
    ∀ i o, l[i]? = some o → listed.getD i false = true → ∃ v, (∀ d, o.dst = some d → a.tmps[d]? = some v) ∧ R i v w))) ?_ ?_ ?_
  · refine ⟨by simp, .inr ⟨by simp [Array.getD], h0, rfl, rfl, fun t _ => rfl, fun i o hi hl => ?_⟩⟩
    exfalso
    simp [Array.getD] at hl
  · rintro listed a w i o ⟨hsz, hcase⟩ ho hun hdep
    have ho' : (l ++ [last])[i]? = some o := by simpa using ho
    have hilt : i < l.length + 1 := by have := (List.getElem?_eq_some_iff.1 ho').1; simpa using this
    have hun' : listed.getD i false = false := by
      have : i < listed.size := by omega
      simp [Array.getD, this] at hun ⊢
      exact hun
    rcases hcase with ⟨hall, _⟩ | ⟨hK, hS, hD, hN, hF, hL⟩
    · rw [hall i hilt] at hun'; cases hun'
    · rcases hidx i o ho' with ⟨hil, hli⟩ | ⟨rfl, rfl⟩
      · obtain ⟨hg1, h1⟩ := hop.at hli
        refine ⟨by simp [Region.wanted, hg1], ?_⟩
        refine Oper.wp_mono ?_ (h1 a w hS hD (fun t ht => hF t (hfree t ht)) (fun e he hb => ?_))
        · rintro a' w' ⟨v, rfl, hS', hE, hRv⟩
          rw [Nat.zero_add] at hRv
          have hdi : ∀ d, o.dst = some d → d < a.tmps.size := fun d hd => by
            have := hlt o (List.mem_of_getElem? hli)
            rw [hd] at this
            rw [hN]
            simpa using this
          refine ⟨by simp [hsz], .inr ⟨?_, hS', ?_, ?_, ?_, ?_⟩⟩
          · have h3 : (listed.setIfInBounds i true)[l.length]? = listed[l.length]? := Array.getElem?_setIfInBounds_ne (fun h => by omega)
            simp only [Array.getD_eq_getD_getElem?] at hK ⊢
            rw [h3]
            exact hK
          · unfold Act.put; split <;> exact hD
          · unfold Act.put; split <;> simpa using hN
          · intro t ht
            unfold Act.put
            split
            · rename_i d hd
              have ht' := ht
              rw [List.all_eq_true] at ht
              have h2 := ht o (List.mem_of_getElem? hli)
              simp only [hd] at h2
              rw [Array.getElem?_setIfInBounds_ne]
              · exact hF t ht'
              · intro e; subst e; simp at h2
            · exact hF t ht
          · intro j oj hj hlj
            by_cases e : j = i
            · subst e
              have : oj = o := Option.some.inj (hj.symm.trans hli)
              subst this
              refine ⟨v, fun d hd => ?_, hRv⟩
              unfold Act.put
              rw [hd]
              simp [hdi d hd]
            · have hlj' : listed.getD j false = true := by
                have h3 : (listed.setIfInBounds i true)[j]? = listed[j]? := Array.getElem?_setIfInBounds_ne (fun h => e h.symm)
                simp only [Array.getD_eq_getD_getElem?] at hlj ⊢
                rw [h3] at hlj
                exact hlj
              obtain ⟨u, hu, hRu⟩ := hL j oj hj hlj'
              refine ⟨u, fun d hd => ?_, hR _ _ _ _ hE hRu⟩
              unfold Act.put
              split
              · rename_i d' hd'
                rw [Array.getElem?_setIfInBounds_ne]
                · exact hu d hd
                · intro e2
                  subst e2
                  exact e (nodup_filterMap hnd hj hli hd hd')
              · exact hu d hd
        · have h2 := hdep e he hb
          have h3 : e.on < l.length := by
            rw [List.all_eq_true] at hlex
            have h4 := hlex (o, i) (List.mem_zipIdx_iff_getElem?.2 hli)
            rw [Array.all_eq_true_iff_forall_mem] at h4
            have h5 : e.on < i := by simpa using h4 e he
            omega
          obtain ⟨v, hv, hRv⟩ := hL e.on _ (List.getElem?_eq_getElem h3) h2
          refine ⟨v, ?_, hRv⟩
          rw [List.getElem?_append_left h3, List.getElem?_eq_getElem h3]
          show Holds a (l[e.on]).dst v
          cases hd : (l[e.on]).dst with
          | none => trivial
          | some d => exact hv d hd
      · refine ⟨by simp [Region.wanted, hg], ?_⟩
        have hlis : ∀ i, i < l.length → listed.getD i false = true := fun i hi => by
          obtain ⟨e, he, rfl, hb⟩ := hlastall i hi
          exact hdep e he hb
        have hall : ∀ i o, l[i]? = some o → ∃ v, (∀ d, o.dst = some d → a.tmps[d]? = some v) ∧ R i v w := fun i o hi =>
          hL i o hi (hlis i (List.getElem?_eq_some_iff.1 hi).1)
        have hval : ∃ val : Nat → Value, ∀ i o, l[i]? = some o → (∀ d, o.dst = some d → a.tmps[d]? = some (val i)) ∧ R i (val i) w := by
          refine ⟨fun i => if h : i < l.length then Classical.choose (hall i _ (List.getElem?_eq_getElem h)) else undef, fun i o hi => ?_⟩
          have hil := (List.getElem?_eq_some_iff.1 hi).1
          have := Classical.choose_spec (hall i _ (List.getElem?_eq_getElem hil))
          rw [List.getElem?_eq_getElem hil] at hi
          cases hi
          simp only [hil, dite_true]
          exact this
        obtain ⟨val, hv⟩ := hval
        have ha : a = { tmps := putAll val l 0 a0.tmps, defers := a0.defers } := by
          have ht : a.tmps = putAll val l 0 a0.tmps := by
            refine Array.ext_getElem? fun t => ?_
            by_cases hf : l.all (fun o => o.dst != some t) = true
            · rw [hF t hf, putAll_free]
              intro o ho hd
              rw [List.all_eq_true] at hf
              have := hf o ho
              simp [hd] at this
            · have : ∃ o ∈ l, o.dst = some t := by
                simpa [List.all_eq_true] using hf
              obtain ⟨o, ho, hd⟩ := this
              obtain ⟨i, hi⟩ := List.getElem?_of_mem ho
              rw [(hv i o hi).1 t hd, putAll_at val l 0 _ i o hnd hi hd]
              · rw [Nat.zero_add]
              · have := hlt o ho
                rw [hd] at this
                simpa using this
          cases a
          simp_all
        rw [ha]
        refine Oper.wp_mono ?_ (hdone val w hS fun k hk => (hv k _ (List.getElem?_eq_getElem hk)).2)
        intro a' w' hq
        refine ⟨by simp [hsz], .inl ⟨fun i hi => ?_, hq⟩⟩
        by_cases e : i = l.length
        · subst e
          simp [Array.getD, hsz]
        · have h3 : (listed.setIfInBounds l.length true)[i]? = listed[i]? := Array.getElem?_setIfInBounds_ne (fun h => e h.symm)
          have h4 := hlis i (by omega)
          simp only [Array.getD_eq_getD_getElem?] at h4 ⊢
          rw [h3]
          exact h4
  · rintro listed a w ⟨hsz, hcase⟩ hr
    rcases hcase with ⟨_, hq⟩ | ⟨hK, _, _, _, _, hL⟩
    · exact hq
    · exfalso
      have hlis : ∀ (n i : Nat), i < n → i < l.length → listed.getD i true = true := by
        intro n
        induction n with
        | zero => intro i hi; omega
        | succ n ih =>
          intro i hi hl
          cases hc : listed.getD i true with
          | true => rfl
          | false =>
            have hmem : i ∈ Region.ready .any (l ++ [last]).toArray listed := by
              refine mem_ready.2 ⟨hc, l[i], by simp [List.getElem?_append_left hl], fun e he hb => ?_⟩
              rw [List.all_eq_true] at hlex
              have h1 := hlex (l[i], i) (List.mem_zipIdx_iff_getElem?.2 (List.getElem?_eq_getElem hl))
              rw [Array.all_eq_true_iff_forall_mem] at h1
              have h2 : e.on < i := by simpa using h1 e he
              have h3 := ih e.on (by omega) (by omega)
              have hs : e.on < listed.size := by omega
              simp [Array.getD, hs] at h3 ⊢
              exact h3
            rw [hr] at hmem
            cases hmem
      have hmem : l.length ∈ Region.ready .any (l ++ [last]).toArray listed := by
        refine mem_ready.2 ⟨?_, last, by simp, fun e he hb => ?_⟩
        · have hs : l.length < listed.size := by omega
          simp [Array.getD, hs] at hK ⊢
          exact hK
        · by_cases hel : e.on < l.length
          · have h3 := hlis _ e.on (Nat.lt_succ_self _) hel
            have hs : e.on < listed.size := by omega
            simp [Array.getD, hs] at h3 ⊢
            exact h3
          · exact absurd hel (hlastlt e he)
      rw [hr] at hmem
      cases hmem

/-- The same, the region's operations in one row: all but the last one are n. -/
theorem wp_region_last {id : Nat} {L : List Oper} (n : Nat) {last : Oper} {a0 : Act} {w : World} (hm : P.follows .mixedOrders = true) (hL : L = L.take n ++ [last]) (S : World → Prop) (Ext : World → World → Prop) (R : Nat → Value → World → Prop)
    (hR : ∀ k v w w', Ext w w' → R k v w → R k v w') (hB : (tableB (L.take n) a0.tmps.size && lastB (L.take n) last && last.guard.isNone && last.dst.isNone && (last.after.all fun e => decide (e.on < (L.take n).length)) && (L.take n).length == n) = true) (h0 : S w.drew)
    (hop : TableOps P L Q S Ext R a0 (L.take n) 0)
    (hdone : ∀ (val : Nat → Value) (w' : World), S w' → (∀ k, k < n → R k (val k) w') → last.wp P { tmps := putAll val (L.take n) 0 a0.tmps, defers := a0.defers } w' (Q .normal) Q) : (Code.region id L.toArray true).wp P Q a0 w := by
  simp only [Bool.and_eq_true, Option.isNone_iff_eq_none] at hB
  obtain ⟨⟨⟨⟨⟨h1, h2⟩, h3⟩, h4⟩, h5⟩, h6⟩ := hB
  have h6' : (L.take n).length = n := by simpa using h6
  have h := wp_region_table_last (id := id) (l := L.take n) (last := last) (Q := Q) (w := w) hm S Ext R hR h1 h2 h3 h0 (by rw [← hL]; exact hop) (fun val w' hS hall => hdone val w' hS fun k hk => hall k (by rw [h6']; exact hk)) (fun t ht => by
    rw [List.all_append, Bool.and_eq_true] at ht
    exact ht.1) h4 h5
  rw [← hL] at h
  exact h
end
end Go.Proofs.Ytgbeohhegckonaa
