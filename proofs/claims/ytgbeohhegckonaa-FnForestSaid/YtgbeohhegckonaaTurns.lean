import Derived.Test.YtgbeohhegckonaaBeside
/-! Stores into the reference's forest. -/
namespace Go.Proofs.Ytgbeohhegckonaa
open Go.RowKit Go.Shelf Go.BigFrame
set_option linter.unusedSimpArgs false
set_option linter.unusedVariables false

theorem own_set {w : World} {base e n cap : Nat} {ad : Addr} {xs : List Value} (h : w.ownsRow base e 1 (.slice (some ad) n cap) n xs) {i : Nat} (hi : i < n) (u : Value) :
    (w.setCell (ad.add i) u).ownsRow base e 1 (.slice (some ad) n cap) n (xs.set i u) := by
  rcases h with ⟨hl, h2 | ⟨g, cap', cur, hv, hb, hh, h1, h2, h3, h4⟩⟩
  · cases h2.1
  · cases hv
    have ha : (⟨g, 0, none⟩ : Addr).add i = ⟨g, i, none⟩ := by
      unfold Addr.add
      split
      · rename_i e; rw [e]
      · simp
    rw [ha]
    refine ⟨by simp [hl], .inr ⟨g, cap, cur.setIfInBounds i u, rfl, hb, ?_, h1, h2, by simp [h3], ?_⟩⟩
    · simp [World.setCell, Array.getElem?_modify, hh]
    · rw [← h4]
      simp [List.take_set]

theorem own_addr {w : World} {base e n cap : Nat} {ad : Addr} {xs : List Value} (h : w.ownsRow base e 1 (.slice (some ad) n cap) n xs) : ∃ cur, w.heap[ad.block]? = some (.cells cur e (0, 0)) ∧ base ≤ ad.block := by
  rcases h.2 with h2 | ⟨g, cap', cur, hv, hb, hh, _⟩
  · cases h2.1
  · cases hv
    exact ⟨cur, hh, hb⟩
theorem own_frozen {w : World} {base e n cap : Nat} {ad : Addr} {xs : List Value} (h : w.ownsRow base e 1 (.slice (some ad) n cap) n xs) (i : Nat) : w.frozen? (ad.add i) = false := by
  obtain ⟨cur, hh, _⟩ := own_addr h
  simp [World.frozen?, block_add, hh]

/-- A store into a block of another type, or of another row. -/
theorem own_far {w : World} {base e n : Nat} {v : Value} {xs : List Value} (h : w.ownsRow base e 1 v n xs) {a : Addr} (ha : ∀ k, v.ownBlock = some k → k ≠ a.block) (u : Value) : (w.setCell a u).ownsRow base e 1 v n xs :=
  ownN_kept h fun k hk => Below.heap_setCell w a u k (ha k hk)

section
variable {base many : Nat} {f : Wood} {P : Nat} {Ap Ak : Option Addr} {Cp Ck : Nat} {vs : Nat → Value} {w : World}

theorem kidV_set (vs : Nat → Value) (many a : Nat) (v : Value) : (kidV vs many).set a v = kidV (fun p => if p = a then v else vs p) many := by
  refine List.ext_getElem? fun i => ?_
  rw [List.getElem?_set]
  by_cases hi : i < many
  · by_cases e : a = i
    · subst e; simp [kidV, hi]
    · simp [kidV, hi, e, show ¬ i = a from fun h => e h.symm]
  · by_cases e : a = i
    · subst e; simp [kidV, hi]
    · simp [kidV, hi, e]
theorem parV_set (f : Wood) (many b : Nat) (o : Option Nat) (kids : Nat → List Nat) : (parV f many).set b (.int .i64 (enc o)) = parV ⟨setP f.par b o, kids⟩ many := by
  refine List.ext_getElem? fun i => ?_
  rw [List.getElem?_set]
  by_cases hi : i < many
  · by_cases e : b = i
    · subst e; simp [parV, hi, setP]
    · simp [parV, hi, e, setP, show ¬ i = b from fun h => e h.symm]
  · by_cases e : b = i
    · subst e; simp [parV, hi]
    · simp [parV, hi, e]

theorem SpecAt.setKids {ak : Addr} (h : SpecAt base many f P Ap (some ak) Cp Ck vs w) {a : Nat} (ha : a < many) {v : Value} {l : List Nat} (hv : w.ownsRow base 3 1 v l.length (intsV (ints l))) (hap : ∀ k, v.ownBlock = some k → (Value.slice Ap many Cp).ownBlock ≠ some k) :
    SpecAt base many ⟨f.par, setL f.kids a l⟩ P Ap (some ak) Cp Ck (fun p => if p = a then v else vs p) (w.setCell (ak.add a) v) := by
  obtain ⟨cur, hh, _⟩ := own_addr h.kid
  have hne : ∀ k, (Value.slice (some ak) many Ck).ownBlock = some k → k = ak.block := fun k hk => by simpa [Value.ownBlock] using hk.symm
  have hfar : ∀ {b n : Nat} {u : Value} {xs : List Value}, w.ownsRow b 3 1 u n xs → (w.setCell (ak.add a) v).ownsRow b 3 1 u n xs := fun hu =>
    own_far hu (fun k hk e => own_apart hu h.kid (by decide) k hk (by rw [e, block_add]; rfl)) v
  refine ⟨h.pbase, ?_, hfar h.par, ?_, fun p hp => ?_, fun p hp k hk => ?_⟩
  · refine (Below.heap_setCell w (ak.add a) v P (fun e => ?_)).trans h.blk
    rw [block_add] at e
    rw [← e, h.blk] at hh
    cases hh
  · have := own_set h.kid ha v
    rw [kidV_set] at this
    exact this
  · by_cases e : p = a
    · subst e
      simp only [if_true, setL_same]
      exact hfar hv
    · simp only [e, if_false, setL_other _ _ e]
      exact hfar (h.kids p hp)
  · by_cases e : p = a
    · simp only [e, if_true] at hk; exact hap k hk
    · simp only [e, if_false] at hk; exact h.apart p hp k hk

theorem SpecAt.setPar {ap : Addr} (h : SpecAt base many f P (some ap) Ak Cp Ck vs w) {b : Nat} (hb : b < many) (o : Option Nat) :
    SpecAt base many ⟨setP f.par b o, f.kids⟩ P (some ap) Ak Cp Ck vs (w.setCell (ap.add b) (.int .i64 (enc o))) := by
  obtain ⟨cur, hh, _⟩ := own_addr h.par
  refine ⟨h.pbase, ?_, ?_, ?_, fun p hp => ?_, h.apart⟩
  · refine (Below.heap_setCell w (ap.add b) _ P (fun e => ?_)).trans h.blk
    rw [block_add] at e
    rw [← e, h.blk] at hh
    cases hh
  · have := own_set h.par hb (.int .i64 (enc o))
    rw [parV_set f many b o f.kids] at this
    exact this
  · exact own_far h.kid (fun k hk e => own_apart h.kid h.par (by decide) k hk (by rw [e, block_add]; rfl)) _
  · exact own_far (h.kids p hp) (fun k hk e => h.apart p hp k hk (by rw [e, block_add]; rfl)) _

theorem SpecAt.fresh {ap : Addr} (h : SpecAt base many f P (some ap) Ak Cp Ck vs w) {W : World} {B e s n : Nat} {v : Value} {xs : List Value} (hv : W.ownsRow B e s v n xs) (hB : w.heap.size ≤ B) : ∀ k, v.ownBlock = some k → (Value.slice (some ap) many Cp).ownBlock ≠ some k := by
  intro k hk e
  have h1 := (ownN_lt hv k hk).2
  have h2 := (ownN_lt h.par k e).1
  omega
theorem below_set {b : Nat} {A B : World} (h : Below b A B) {a : Addr} (ha : b ≤ a.block) (u : Value) : Below b A (B.setCell a u) := h.setCell ha u
end
end Go.Proofs.Ytgbeohhegckonaa
