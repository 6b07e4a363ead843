import Derived.Test.YtgbeohhegckonaaChild
namespace Go.Proofs.Ytgbeohhegckonaa
open Go.RowKit Go.Shelf Go.BigFrame
set_option linter.unusedSimpArgs false
set_option linter.unusedVariables false

/-- What a step of the script does with a list. -/
def stepN (l : List Int) : List Int → List Int
  | [a, i] => if a = 0 then (if 0 ≤ i ∧ i < l.length then l.take i.toNat ++ l.drop (i.toNat + 1) else l) else if a = 2 then l ++ [i] else l
  | [a, i, k] => if a = 1 then l.take (if i < 0 ∨ l.length < i then l.length else i.toNat) ++ k :: l.drop (if i < 0 ∨ l.length < i then l.length else i.toNat) else l
  | _ => l

theorem stepN_len (l s : List Int) : (stepN l s).length ≤ l.length + 1 := by
  unfold stepN
  split
  · split
    · split
      · simp; omega
      · omega
    · split
      · simp
      · omega
  · split
    · simp only [List.length_append, List.length_take, List.length_cons, List.length_drop]
      split <;> omega
    · omega
  · omega

/-- n is a node whose children, which have none, bear the numbers; all nodes lie from block B on. -/
structure UlC (B n : Nat) (nums : List Int) (W : World) (D : Nat → Option Info) (G : Nat → Nat → Option Nat) (K : Nat → List Nat) : Prop where
  nodes : Nodes W D G
  linked : Linked D G K
  root : (D n).isSome = true
  flat : ∀ p, p ≠ n → K p = []
  data : (K n).map (fun c => (D c).map (·.2)) = nums.map (fun k => some (numS k))
  base : ∀ b, b < B → D b = none
  size : B ≤ W.heap.size

def Ul (B n : Nat) (nums : List Int) (W : World) : Prop := ∃ D G K, UlC B n nums W D G K

section
variable {B n : Nat} {nums : List Int} {W W' : World} {D : Nat → Option Info} {G : Nat → Nat → Option Nat} {K : Nat → List Nat}

theorem UlC.len (h : UlC B n nums W D G K) : (K n).length = nums.length := by
  have := congrArg List.length h.data
  simpa using this
theorem UlC.heap (h : UlC B n nums W D G K) (hh : W'.heap = W.heap) : UlC B n nums W' D G K :=
  ⟨h.nodes.kept fun _ _ _ => by rw [hh], h.linked, h.root, h.flat, h.data, h.base, by rw [hh]; exact h.size⟩
theorem UlC.drew (h : UlC B n nums W D G K) : UlC B n nums W.drew D G K := h.heap rfl

theorem data_new {D : Nat → Option Info} {b : Nat} {d : Info} (hb : D b = none) (l : List Nat) (hl : ∀ c ∈ l, (D c).isSome = true) : l.map (fun c => (newD D b d c).map (·.2)) = l.map (fun c => (D c).map (·.2)) := by
  refine List.map_congr_left fun c hc => ?_
  rw [newD_other D d fun e => by have := hl c hc; rw [e, hb] at this; cases this]

/-- A new node among the children. -/
theorem UlC.ins (h : UlC B n nums W D G K) (k i : Int) :
    Calls Try.prog 32 #[ptr (some n), ptr (some W.heap.size), ptr (kidAt (K n) i)] (W.alloc (.cells (nodeCells (fun _ => none) (1, numS k)) 50)) fun e w' =>
      e = .returned (.tuple #[]) ∧ Ul B n (stepN nums [1, i, k]) w' ∧ Below B W w' := by
  have hfresh := h.nodes.fresh
  have hN := h.nodes.alloc (1, numS k)
  have hL := h.linked.new hfresh (1, numS k)
  have hnb : n ≠ W.heap.size := fun e => by have := h.root; rw [e, hfresh] at this; cases this
  have hroot : (newD D W.heap.size (1, numS k) n).isSome = true := by rw [newD_other D _ hnb]; exact h.root
  have hnew : (newD D W.heap.size (1, numS k) W.heap.size).isSome = true := by rw [newD_same]; rfl
  have hfree : ∀ p, W.heap.size ∉ K p := fun p hp => by have := (h.linked.dom p _ hp).2; rw [hfresh] at this; cases this
  have hdomK : ∀ c ∈ K n, (D c).isSome = true := fun c hc => (h.linked.dom n c hc).2
  obtain ⟨a, ha, hk, hat⟩ : ∃ a, a ≤ (K n).length ∧ kidAt (K n) i = ((K n).drop a).head? ∧ a = (if i < 0 ∨ (nums.length : Int) < i then nums.length else i.toNat) := by
    rw [← h.len]
    by_cases hi : i < 0
    · exact ⟨(K n).length, Nat.le_refl _, by rw [kidAt, if_pos hi]; simp, by rw [if_pos (.inl hi)]⟩
    · by_cases hj : ((K n).length : Int) < i
      · exact ⟨(K n).length, Nat.le_refl _, by rw [kidAt, if_neg hi, List.getElem?_eq_none (by omega)]; simp, by rw [if_pos (.inr hj)]⟩
      · exact ⟨i.toNat, by omega, by rw [kidAt, if_neg hi]; simp, by rw [if_neg (by omega)]⟩
  have hc := insertBefore_any hN hL (n := n) (c := W.heap.size) (l1 := (K n).take a) (l2 := (K n).drop a) hroot hnew (by simp) hfree hnb
  rw [← hk] at hc
  refine hc.mono ?_
  rintro e w' ⟨rfl, G', hN', hL', hK'⟩
  have hbase : ∀ b, b < B → newD D W.heap.size (1, numS k) b = none := fun b hb => by
    rw [newD_other D _ (by have := h.size; omega)]
    exact h.base b hb
  refine ⟨rfl, ⟨_, _, _, hN', hL', hroot, fun p hp => by rw [updK_other _ _ hp]; exact h.flat p hp, ?_, hbase, ?_⟩, ?_⟩
  · rw [updK_same]
    have hst : stepN nums [1, i, k] = nums.take a ++ k :: nums.drop a := by simp only [stepN]; rw [if_pos trivial, ← hat]
    rw [hst, List.map_append, List.map_cons, List.map_append, List.map_cons, newD_same, data_new hfresh _ fun c hc => hdomK c (List.mem_of_mem_take hc), data_new hfresh _ fun c hc => hdomK c (List.mem_of_mem_drop hc)]
    rw [List.map_take, List.map_drop, h.data, ← List.map_take, ← List.map_drop]
    rfl
  · rw [hK'.size]
    have := h.size
    simp
    omega
  · exact ((Below.refl B W).alloc h.size _).trans (hK'.below hbase)

/-- A new node behind the children. -/
theorem UlC.append (h : UlC B n nums W D G K) (k : Int) :
    Calls Try.prog 15 #[ptr (some n), ptr (some W.heap.size)] (W.alloc (.cells (nodeCells (fun _ => none) (1, numS k)) 50)) fun e w' =>
      e = .returned (.tuple #[]) ∧ Ul B n (nums ++ [k]) w' ∧ Below B W w' := by
  have hfresh := h.nodes.fresh
  have hN := h.nodes.alloc (1, numS k)
  have hL := h.linked.new hfresh (1, numS k)
  have hnb : n ≠ W.heap.size := fun e => by have := h.root; rw [e, hfresh] at this; cases this
  have hroot : (newD D W.heap.size (1, numS k) n).isSome = true := by rw [newD_other D _ hnb]; exact h.root
  have hnew : (newD D W.heap.size (1, numS k) W.heap.size).isSome = true := by rw [newD_same]; rfl
  have hfree : ∀ p, W.heap.size ∉ K p := fun p hp => by have := (h.linked.dom p _ hp).2; rw [hfresh] at this; cases this
  have hdomK : ∀ c ∈ K n, (D c).isSome = true := fun c hc => (h.linked.dom n c hc).2
  refine (appendChild_any hN hL (n := n) (c := W.heap.size) hroot hnew hfree hnb).mono ?_
  rintro e w' ⟨rfl, G', hN', hL', hK'⟩
  have hbase : ∀ b, b < B → newD D W.heap.size (1, numS k) b = none := fun b hb => by
    rw [newD_other D _ (by have := h.size; omega)]
    exact h.base b hb
  refine ⟨rfl, ⟨_, _, _, hN', hL', hroot, fun p hp => by rw [updK_other _ _ hp]; exact h.flat p hp, ?_, hbase, ?_⟩, ?_⟩
  · rw [updK_same, List.map_append, List.map_append, data_new hfresh _ hdomK, h.data]
    simp [newD_same]
  · rw [hK'.size]
    have := h.size
    simp
    omega
  · exact ((Below.refl B W).alloc h.size _).trans (hK'.below hbase)

/-- A child goes. -/
theorem UlC.rem (h : UlC B n nums W D G K) {i : Int} {c : Nat} (hc : kidAt (K n) i = some c) :
    Calls Try.prog 31 #[ptr (some n), ptr (some c)] W fun e w' => e = .returned (.tuple #[]) ∧ Ul B n (stepN nums [0, i]) w' ∧ Below B W w' := by
  have hi : ¬ i < 0 := fun hi => by rw [kidAt, if_pos hi] at hc; cases hc
  rw [kidAt, if_neg hi] at hc
  have hlt : i.toNat < (K n).length := (List.getElem?_eq_some_iff.1 hc).1
  have hk : K n = (K n).take i.toNat ++ c :: (K n).drop (i.toNat + 1) := by
    have h1 := (List.getElem?_eq_some_iff.1 hc).2
    have h2 := List.take_append_drop i.toNat (K n)
    rw [List.drop_eq_getElem_cons hlt, h1] at h2
    exact h2.symm
  refine (removeChild_any h.nodes h.linked hk).mono ?_
  rintro e w' ⟨rfl, G', hN', hL', hK'⟩
  refine ⟨rfl, ⟨_, _, _, hN', hL', h.root, fun p hp => by rw [updK_other _ _ hp]; exact h.flat p hp, ?_, h.base, ?_⟩, hK'.below h.base⟩
  · rw [updK_same]
    have hst : stepN nums [0, i] = nums.take i.toNat ++ nums.drop (i.toNat + 1) := by
      simp only [stepN]
      rw [if_pos trivial, if_pos ⟨by omega, by rw [← h.len]; omega⟩]
    rw [hst, List.map_append, List.map_append, List.map_take, List.map_drop, h.data, ← List.map_take, ← List.map_drop]
  · rw [hK'.size]; exact h.size

theorem stepN_none (h : UlC B n nums W D G K) {i : Int} (hc : kidAt (K n) i = none) : stepN nums [0, i] = nums := by
  simp only [stepN]
  rw [if_pos trivial]
  split
  · rename_i hh
    rw [kidAt, if_neg (by omega)] at hc
    rw [List.getElem?_eq_none_iff, h.len] at hc
    omega
  · rfl
end
end Go.Proofs.Ytgbeohhegckonaa
