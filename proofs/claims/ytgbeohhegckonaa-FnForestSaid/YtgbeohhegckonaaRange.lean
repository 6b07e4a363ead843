import Derived.Test.YtgbeohhegckonaaShelf
import Derived.RangeFuncNested
import Derived.RangeFuncBound
import Derived.RangeFuncCalls
import Derived.RangeFuncLeaves
import Derived.Shelf.Abstract
import Derived.Shelf.RegionOpen
import Derived.WalkKit
import Derived.OwnWalkIn
import Derived.TacticsInMore
import Derived.LoopNIn
import Derived.LoopIn
namespace Go.Proofs.Ytgbeohhegckonaa
open Go.RowKit Go.Shelf
set_option linter.unusedSimpArgs false
set_option linter.unusedVariables false

/-- The kinds of cells that a round may turn: a row of strings, a variable that holds one. -/
def roundKind (o : Obj) : Bool := match o with
  | .cells _ t _ => t == 9 || t == 24
  | _ => false

/-- A round's word: all blocks but those kinds lie as they lay. -/
structure Round (A B : World) : Prop where
  size : A.heap.size ≤ B.heap.size
  same : ∀ (k : Nat) (o : Obj), A.heap[k]? = some o → roundKind o = false → B.heap[k]? = some o

theorem Round.refl (A : World) : Round A A := ⟨Nat.le_refl _, fun _ _ h _ => h⟩
theorem Round.trans {A B C : World} (h : Round A B) (k : Round B C) : Round A C := ⟨Nat.le_trans h.size k.size, fun i o hi ho => k.same i o (h.same i o hi ho) ho⟩
theorem Round.alloc (A : World) (o : Obj) : Round A (A.alloc o) := ⟨by simp, fun k o' hk _ => (Below.heap_alloc A o k (Array.getElem?_eq_some_iff.1 hk).1).trans hk⟩
theorem Round.grown {A B : World} {row : Option Nat} (hg : A.grownBy B row) (hr : ∀ k o, row = some k → A.heap[k]? = some o → roundKind o = true) : Round A B :=
  ⟨hg.size, fun k o hk ho => (hg.block k (Array.getElem?_eq_some_iff.1 hk).1 (fun e => by rw [hr k o e.symm hk] at ho; cases ho)).trans hk⟩

/-- An iterator's word to its caller: what lies below base, and those kinds, lie as they lay. -/
structure Iter (base : Nat) (A B : World) : Prop where
  os : B.os = A.os
  tape : B.tape = A.tape
  output : B.output = A.output
  size : A.heap.size ≤ B.heap.size
  same : ∀ (k : Nat) (o : Obj), A.heap[k]? = some o → k < base ∨ roundKind o = true → B.heap[k]? = some o

theorem Iter.refl (b : Nat) (A : World) : Iter b A A := ⟨rfl, rfl, rfl, Nat.le_refl _, fun _ _ h _ => h⟩
theorem Iter.trans {b : Nat} {A B C : World} (h : Iter b A B) (k : Iter b B C) : Iter b A C :=
  ⟨k.os.trans h.os, k.tape.trans h.tape, k.output.trans h.output, Nat.le_trans h.size k.size, fun i o hi ho => k.same i o (h.same i o hi ho) ho⟩
theorem Iter.mono {b b' : Nat} {A B : World} (h : Iter b A B) (hb : b' ≤ b) : Iter b' A B :=
  ⟨h.os, h.tape, h.output, h.size, fun k o hk ho => h.same k o hk (ho.imp (fun e => Nat.lt_of_lt_of_le e hb) id)⟩
theorem Iter.alloc (b : Nat) (A : World) (o : Obj) : Iter b A (A.alloc o) := ⟨rfl, rfl, rfl, by simp, fun k o' hk _ => (Below.heap_alloc A o k (Array.getElem?_eq_some_iff.1 hk).1).trans hk⟩
theorem Iter.putObj {b : Nat} {A : World} {l : Nat} {o : Obj} (o' : Obj) (hl : b ≤ l) (ho : A.heap[l]? = some o) (hk : roundKind o = false) : Iter b A (A.putObj l o') :=
  ⟨rfl, rfl, rfl, by simp, fun k x hx hc => by
    by_cases e : k = l
    · subst e
      rw [ho] at hx
      cases hx
      rcases hc with h | h
      · omega
      · rw [hk] at h; cases h
    · exact (World.putObj_heap_other e).trans hx⟩
theorem Iter.setCell {b : Nat} {A : World} {l : Nat} {o : Obj} (i : Nat) (u : Value) (hl : b ≤ l) (ho : A.heap[l]? = some o) (hk : roundKind o = false) : Iter b A (A.setCell ⟨l, i, none⟩ u) :=
  ⟨rfl, rfl, rfl, by simp, fun k x hx hc => by
    by_cases e : k = l
    · subst e
      rw [ho] at hx
      cases hx
      rcases hc with h | h
      · omega
      · rw [hk] at h; cases h
    · exact (Below.heap_setCell A ⟨l, i, none⟩ u k e).trans hx⟩

/-- What a caller says between two rounds bears the iterator's steps. -/
def Bears {β : Type} (base : Nat) (J : β → World → Prop) : Prop := ∀ s A B, J s A → Iter base A B → J s B

/-- The iterator g, with what it has captured, hands out the list xs. -/
def SeqList {α : Type} (F : Fence) (P : Program) (g : Nat) (lb : Array Value) (enc : α → Array Value) (xs : List α) (w : World) : Prop :=
  ∀ (n l : Nat) (J : List α → World → Prop) (W : World), Round w W → Bears W.heap.size J →
    (∀ m pre x rest W1, xs = pre ++ x :: rest → J pre W1 → YieldAt F m P l (enc x) W1 fun e W' => e = .returned (.bool true) ∧ J (pre ++ [x]) W' ∧ Round W1 W') →
    J [] W → CallsIn F n P g (#[.func (.yield l) #[] #[]] ++ lb) W fun e W' => (∃ v, e = .returned v) ∧ J xs W' ∧ Round W W'

variable {F : Fence} {n : Nat} {P : Program}

/-- A range over an iterator that hands out a list, its body never leaving the loop. -/
theorem wpIn_range_list2 {α : Type} {g : Operand} {ps : Array Tmp} {assign body : Code} {Q : Exit → Act → World → Prop} {a : Act} {w : World}
    (hro : F.round = none) (hdp : F.depth = none) {gf : Nat} {lb : Array Value} (hg : a.eval g = .func (.func gf) #[] lb) (hFg : F.fn gf) (eg : ∀ args w, (callFunc gf args).run P w = .ok (.enter gf args) w)
    {enc : α → Array Value} {xs : List α} (hseq : SeqList F P gf lb enc xs w) (hps : ∀ x, (enc x).size = ps.size)
    (I : List α → World → Prop) (hI : Bears w.heap.size I) (h0 : I [] w)
    (hround : ∀ (l m : Nat) (pre : List α) (x : α) (rest : List α) (W : World), xs = pre ++ x :: rest →
      assign.wpIn (F.inRound l) m P (Exit.then (fun a₁ W₁ => W₁ = W ∧ ∀ W2, I pre W2 → body.wpIn (F.inRound l) m P (fun e _ W' => e = .normal ∧ I (pre ++ [x]) W' ∧ Round W2 W') a₁ W2) (fun _ _ _ => False))
        { tmps := (ps.zip (enc x)).foldl (fun t (p, v) => t.setIfInBounds p v) a.tmps, defers := [] } W)
    (hdone : ∀ (D : Nat) (W : World), w.heap.size ≤ D → I xs W → W.heap[D]? = some (.deferred (some [])) → Round w W → Q .normal { a with defers := { target := .collected D, args := #[] } :: a.defers } W) :
    (Code.rangeFunc g ps assign body).wpIn F n P Q a w := by
  refine wpIn_rangeFunc ?_
  intro fn hfn
  rw [hro]
  obtain ⟨rec, hrec⟩ : ∃ rec : LoopState → Option Code → Loop, rec = fun st pe => { state := st, pending := pe, fn, tmps := a.tmps, params := ps, assign, body, defers := w.heap.size } := ⟨_, rfl⟩
  obtain ⟨W1, hW1⟩ : ∃ W1, (w.alloc (.deferred (some []))).alloc (.loop (rec .ready none)) = W1 := ⟨_, rfl⟩
  have hL1 : W1.heap[w.heap.size + 1]? = some (.loop (rec .ready none)) := by
    rw [← hW1]; have := World.alloc_heap_new (w.alloc (.deferred (some []))) (.loop (rec .ready none)); rwa [World.size_alloc] at this
  have hK1 : W1.heap[w.heap.size]? = some (.deferred (some [])) := by
    rw [← hW1]; exact (Below.heap_alloc _ _ _ (by simp)).trans (World.alloc_heap_new w _)
  have hs1 : W1.heap.size = w.heap.size + 2 := by rw [← hW1]; simp
  have hI1 : I [] W1 := by rw [← hW1]; exact hI _ _ _ (hI _ _ _ h0 (Iter.alloc _ _ _)) (Iter.alloc _ _ _)
  have hr1 : Round w W1 := by rw [← hW1]; exact (Round.alloc _ _).trans (Round.alloc _ _)
  refine ⟨w.heap.size + 1, [{ target := .collected w.heap.size, args := #[] }], W1, { target := .fn (.func gf) lb, args := #[.func (.yield (w.heap.size + 1)) #[] #[]] }, W1, gf,
    #[.func (.yield (w.heap.size + 1)) #[] #[]] ++ lb, W1, ?_, ?_, ?_, ?_, ?_, ?_⟩
  · rw [← hW1, hrec]; exact run_enterLoop_outer _ _ _ _ _
  · simp only [resolve, hg]
    simp [go_sem]
  · intro f' hf'; simp [Target.leads] at hf'; subst hf'; exact hFg
  · simp [invoke, go_sem, eg]
  · intro h; rw [hdp] at h; cases h
  · refine (hseq (n - 1) (w.heap.size + 1)
      (fun pre W => I pre W ∧ W.heap[w.heap.size + 1]? = some (.loop (rec .ready none)) ∧ W.heap[w.heap.size]? = some (.deferred (some [])))
      W1 hr1 ?_ ?_ ⟨hI1, hL1, hK1⟩).mono ?_
    · rintro s A B ⟨h1, h2, h3⟩ hit
      exact ⟨hI s A B h1 (hit.mono (by omega)), hit.same _ _ h2 (.inl (by omega)), hit.same _ _ h3 (.inl (by omega))⟩
    · rintro m pre x rest W hx ⟨hi, hl, hk⟩
      have hlt : w.heap.size + 1 < W.heap.size := (Array.getElem?_eq_some_iff.1 hl).1
      have hy := run_yield (P := P) (args := enc x) hl (by rw [hrec]; exact hps x)
      rw [hrec] at hy
      refine ⟨fn, _, assign, body, hy, roundIn_of_wpIn hfn (wpIn_mono (hround _ _ pre x rest W hx) ?_)⟩
      clear hy
      rintro e a₁ W₀ he
      cases e with
      | exit id => exact he
      | goto id => exact he
      | ret => exact he
      | panic ch => exact he
      | outgrown => exact he
      | normal =>
      obtain ⟨hW0, hbody⟩ := he
      obtain rfl := hW0.symm
      refine ⟨_, run_beginRound hl (by rw [hrec]), ?_⟩
      have hl2 : (W.putObj (w.heap.size + 1) (.loop { rec .ready none with state := .busy })).heap[w.heap.size + 1]? = some (.loop { rec .ready none with state := .busy }) := World.putObj_heap_same hlt
      refine wpIn_mono (hbody _ (hI _ _ _ hi (Iter.putObj _ (by omega) hl rfl))) ?_
      rintro e a3 W3 ⟨rfl, hi3, hr3⟩
      have hl3 := hr3.same _ _ hl2 rfl
      have hk3 : W3.heap[w.heap.size]? = some (.deferred (some [])) := hr3.same _ _ ((World.putObj_heap_other (by omega)).trans hk) rfl
      have hend := run_endRound (P := P) none hl3
      have hlt3 : w.heap.size + 1 < W3.heap.size := (Array.getElem?_eq_some_iff.1 hl3).1
      rw [hrec] at hend
      refine ⟨_, _, hend, rfl, ⟨hI _ _ _ hi3 (Iter.putObj _ (by omega) hl3 rfl), by rw [hrec]; exact World.putObj_heap_same hlt3, (World.putObj_heap_other (by omega)).trans hk3⟩, ?_⟩
      refine ⟨?_, ?_⟩
      · have := hr3.size
        simp only [World.putObj_size] at this ⊢
        exact this
      · intro k o hko hro'
        by_cases e : k = w.heap.size + 1
        · subst e
          rw [hl] at hko
          cases hko
          rw [hrec]
          exact World.putObj_heap_same hlt3
        · rw [World.putObj_heap_other e]
          exact hr3.same k o ((World.putObj_heap_other e).trans hko) hro'
    · rintro e W2 ⟨⟨v, rfl⟩, ⟨hi, hl, hk⟩, hr2⟩
      have hlt : w.heap.size + 1 < W2.heap.size := (Array.getElem?_eq_some_iff.1 hl).1
      refine ⟨none, _, by have := run_endLoop (P := P) hl (by rw [hrec]; simp); rw [hrec] at this; exact this, hdone _ _ (Nat.le_refl _) (hI _ _ _ hi (Iter.putObj _ (by omega) hl rfl)) ((World.putObj_heap_other (by omega)).trans hk) ?_⟩
      refine ⟨by simp only [World.putObj_size]; exact Nat.le_trans hr1.size hr2.size, fun k o hko hkind => ?_⟩
      have hkl := (Array.getElem?_eq_some_iff.1 hko).1
      rw [World.putObj_heap_other (by omega)]
      exact hr2.same k o (hr1.same k o hko hkind) hkind
/-- A range over an iterator that hands out a list, its body never leaving the loop. -/
theorem wpIn_range_list {α : Type} {g : Operand} {ps : Array Tmp} {assign body : Code} {Q : Exit → Act → World → Prop} {a : Act} {w : World}
    (hro : F.round = none) (hdp : F.depth = none) {gf : Nat} {lb : Array Value} (hg : a.eval g = .func (.func gf) #[] lb) (hFg : F.fn gf) (eg : ∀ args w, (callFunc gf args).run P w = .ok (.enter gf args) w)
    {enc : α → Array Value} {xs : List α} (hseq : SeqList F P gf lb enc xs w) (hps : ∀ x, (enc x).size = ps.size)
    (I : List α → World → Prop) (hI : Bears w.heap.size I) (h0 : I [] w) (a₁ : α → Act)
    (hassign : ∀ (l m : Nat) (x : α) (W : World) (K : Act → World → Prop), K (a₁ x) W →
      assign.wpIn (F.inRound l) m P (Exit.then K (fun _ _ _ => False)) { tmps := (ps.zip (enc x)).foldl (fun t (p, v) => t.setIfInBounds p v) a.tmps, defers := [] } W)
    (hbody : ∀ (l m : Nat) (pre : List α) (x : α) (rest : List α) (W : World), xs = pre ++ x :: rest → I pre W →
      body.wpIn (F.inRound l) m P (fun e _ W' => e = .normal ∧ I (pre ++ [x]) W' ∧ Round W W') (a₁ x) W)
    (hdone : ∀ (D : Nat) (W : World), w.heap.size ≤ D → I xs W → W.heap[D]? = some (.deferred (some [])) → Round w W → Q .normal { a with defers := { target := .collected D, args := #[] } :: a.defers } W) :
    (Code.rangeFunc g ps assign body).wpIn F n P Q a w :=
  wpIn_range_list2 hro hdp hg hFg eg hseq hps I hI h0 (fun l m pre x rest W hx => hassign l m x W _ ⟨rfl, fun W2 hi => hbody l m pre x rest W2 hx hi⟩) hdone

end Go.Proofs.Ytgbeohhegckonaa
