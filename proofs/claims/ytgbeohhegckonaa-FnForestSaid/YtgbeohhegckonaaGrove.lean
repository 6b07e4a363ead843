import Derived.Test.YtgbeohhegckonaaWood
import Derived.Test.YtgbeohhegckonaaIters
import Derived.WalkLawsBesides
/-! Numbers' nodes: what there is of a node, by the numbers' forest; the calls that panic. -/
namespace Go.Proofs.Ytgbeohhegckonaa
open Go.RowKit Go.Shelf Go.BigFrame
set_option linter.unusedSimpArgs false
set_option linter.unusedVariables false

/-- The number ahead of one among its parent's children. -/
def prevOf (f : Wood) (i : Nat) : Option Nat := match f.par i with
  | none => none
  | some p => if (f.kids p).idxOf i = 0 then none else (f.kids p)[(f.kids p).idxOf i - 1]?
/-- The number behind one among its parent's children. -/
def nextOf (f : Wood) (i : Nat) : Option Nat := match f.par i with
  | none => none
  | some p => (f.kids p)[(f.kids p).idxOf i + 1]?

theorem Wood.Ok.split {many : Nat} {f : Wood} (h : f.Ok many) {i p : Nat} (hp : f.par i = some p) : ∃ l1 l2, f.kids p = l1 ++ i :: l2 ∧ i ∉ l1 ∧ i ∉ l2 := by
  obtain ⟨l1, l2, hk⟩ := List.append_of_mem ((h.kid p i).2 hp)
  have hn := h.nodup p
  rw [hk] at hn
  obtain ⟨_, h2, h3⟩ := List.nodup_append.1 hn
  exact ⟨l1, l2, hk, fun hi => h3 i hi i (by simp) rfl, (List.nodup_cons.1 h2).1⟩
theorem prevOf_split {f : Wood} {i p : Nat} {l1 l2 : List Nat} (hp : f.par i = some p) (hk : f.kids p = l1 ++ i :: l2) (h1 : i ∉ l1) : prevOf f i = l1.getLast? := by
  have hx : (f.kids p).idxOf i = l1.length := by rw [hk]; exact idxOf_at h1
  unfold prevOf
  simp only [hp, hx]
  rcases nil_or_snoc l1 with rfl | ⟨l, q, rfl⟩
  · simp
  · rw [if_neg (by simp), hk]
    simp
theorem nextOf_split {f : Wood} {i p : Nat} {l1 l2 : List Nat} (hp : f.par i = some p) (hk : f.kids p = l1 ++ i :: l2) (h1 : i ∉ l1) : nextOf f i = l2.head? := by
  have hx : (f.kids p).idxOf i = l1.length := by rw [hk]; exact idxOf_at h1
  unfold nextOf
  simp only [hp, hx]
  rw [hk, List.getElem?_append_right (by omega)]
  simp [List.head?_eq_getElem?]

/-- Number i's node is block B i. -/
structure Grove (base many : Nat) (B : Nat → Nat) (f : Wood) (D : Nat → Option Info) (G : Nat → Nat → Option Nat) (K : Nat → List Nat) (W : World) : Prop where
  nodes : Nodes W D G
  linked : Linked D G K
  data : ∀ i, i < many → D (B i) = some (3, decS i)
  dom : ∀ b, (D b).isSome = true → ∃ i, i < many ∧ b = B i
  kids : ∀ i, i < many → K (B i) = (f.kids i).map B
  inj : ∀ i j, i < many → j < many → B i = B j → i = j
  base : ∀ b, b < base → D b = none

section
variable {base many : Nat} {B : Nat → Nat} {f : Wood} {D : Nat → Option Info} {G : Nat → Nat → Option Nat} {K : Nat → List Nat} {W W' : World}

theorem Grove.kept (h : Grove base many B f D G K W) (hk : ∀ b d, D b = some d → W'.heap[b]? = W.heap[b]?) : Grove base many B f D G K W' :=
  ⟨h.nodes.kept hk, h.linked, h.data, h.dom, h.kids, h.inj, h.base⟩
theorem Grove.below (h : Grove base many B f D G K W) (hb : Below W.heap.size W W') : Grove base many B f D G K W' :=
  h.kept fun b _ hd => hb.block b (h.nodes.lt hd)

theorem Grove.node (h : Grove base many B f D G K W) {i : Nat} (hi : i < many) : (D (B i)).isSome = true := by rw [h.data i hi]; rfl
theorem Grove.not_kid (h : Grove base many B f D G K W) (hf : f.Ok many) {i : Nat} (hi : i < many) (hp : f.par i = none) : ∀ q, B i ∉ K q := by
  intro q hq
  obtain ⟨p, hpm, rfl⟩ := h.dom q (h.linked.dom q _ hq).1
  rw [h.kids p hpm] at hq
  obtain ⟨j, hj, e⟩ := List.mem_map.1 hq
  have := h.inj j i (hf.lt p j hj).2 hi e
  subst this
  exact hf.free hp p hj
theorem Grove.parent (h : Grove base many B f D G K W) (hf : f.Ok many) {i : Nat} (hi : i < many) : G (B i) 0 = (f.par i).map B := by
  cases hp : f.par i with
  | none => exact (h.linked.free _ (h.node hi) (h.not_kid hf hi hp)).1
  | some p =>
    have hk := (hf.kid p i).2 hp
    have hpm := (hf.lt p i hk).1
    exact (h.linked.seg (B p)).parent _ (by rw [h.kids p hpm]; exact List.mem_map_of_mem hk)
theorem Grove.first (h : Grove base many B f D G K W) {i : Nat} (hi : i < many) : G (B i) 1 = ((f.kids i).head?).map B := by
  rw [h.linked.first _ (h.node hi), h.kids i hi, List.head?_map]
theorem Grove.last (h : Grove base many B f D G K W) {i : Nat} (hi : i < many) : G (B i) 2 = ((f.kids i).getLast?).map B := by
  rw [h.linked.last _ (h.node hi), h.kids i hi, List.getLast?_map]
theorem Grove.beside (h : Grove base many B f D G K W) (hf : f.Ok many) {i : Nat} (hi : i < many) : G (B i) 3 = (prevOf f i).map B ∧ G (B i) 4 = (nextOf f i).map B := by
  cases hp : f.par i with
  | none =>
    have h1 := h.linked.free _ (h.node hi) (h.not_kid hf hi hp)
    refine ⟨?_, ?_⟩
    · rw [h1.2.1]; simp [prevOf, hp]
    · rw [h1.2.2]; simp [nextOf, hp]
  | some p =>
    obtain ⟨l1, l2, hk, h1, h2⟩ := hf.split hp
    have hpm := (hf.lt p i ((hf.kid p i).2 hp)).1
    have h3 := h.linked.next (p := B p) (c := B i) (l1.map B) (l2.map B) (by rw [h.kids p hpm, hk]; simp)
    rw [prevOf_split hp hk h1, nextOf_split hp hk h1, h3.2.1, h3.2.2]
    simp [List.getLast?_map, List.head?_map]

theorem Grove.turn (h : Grove base many B f D G K W) {G' : Nat → Nat → Option Nat} {a : Nat} {l : List Nat} (ha : a < many) (hN : Nodes W' D G') (hL : Linked D G' (updK K (B a) (l.map B))) (g : Nat → Option Nat) :
    Grove base many B ⟨g, setL f.kids a l⟩ D G' (updK K (B a) (l.map B)) W' := by
  refine ⟨hN, hL, h.data, h.dom, fun i hi => ?_, h.inj, h.base⟩
  show updK K (B a) (l.map B) (B i) = (setL f.kids a l i).map B
  by_cases e : i = a
  · subst e; rw [updK_same, setL_same]
  · rw [updK_other _ _ (fun e2 => e (h.inj i a hi ha e2)), setL_other _ _ e, h.kids i hi]

theorem descs_map (h : Grove base many B f D G K W) (hf : f.Ok many) : ∀ (k i : Nat), i < many → descs K k (B i) = (descs f.kids k i).map B
  | 0, i, _ => rfl
  | k + 1, i, hi => by
    show (K (B i)).flatMap _ = ((f.kids i).flatMap _).map B
    rw [h.kids i hi, List.flatMap_map, List.map_flatMap]
    rw [List.flatMap_def, List.flatMap_def]
    refine congrArg List.flatten (List.map_congr_left fun c hc => ?_)
    show B c :: descs K k (B c) = (c :: descs f.kids k c).map B
    rw [descs_map h hf k c (hf.lt i c hc).2]
    rfl
theorem deep_map (h : Grove base many B f D G K W) (hf : f.Ok many) : ∀ (k i : Nat), i < many → Deep f.kids k i → Deep K k (B i)
  | 0, i, hi, hd => by
    have hd' : f.kids i = [] := hd
    show K (B i) = []
    rw [h.kids i hi, hd']
    rfl
  | k + 1, i, hi, hd => by
    intro c hc
    rw [h.kids i hi] at hc
    obtain ⟨j, hj, rfl⟩ := List.mem_map.1 hc
    exact deep_map h hf k j (hf.lt i j hj).2 (hd j hj)
end

section
variable {P : Program} (w : World)
theorem run_neq_ptr_other {tp te : TypeId} {j : TypeInfo} {a b : Addr} {ca cb : Array Value} {ta tb : TypeId} (hp : P.underlying tp = some (.pointer te)) (hte : P.info? te = some j) (hsz : j.size ≠ 0)
    (hne : a ≠ b) (ha : w.heap[a.block]? = some (.cells ca ta (0, 0))) (hb : w.heap[b.block]? = some (.cells cb tb (0, 0))) :
    (binOp .neq tp (.pointer (some a)) (.pointer (some b))).run P w = .ok (.bool true) w := by
  have h : ∀ d : Nat, (Op.equalIn (d + 1) tp (.pointer (some a)) (.pointer (some b))).run P w = .ok false w := fun d => by
    simp [Op.equalIn, run_underlying hp, sizeOf, typeInfo, hte, hsz, run_sameAddr_other w hne ha hb]
  simp only [binOp]
  simp [Op.equal, Op.maxDepth, h 9999]
end

theorem run_neq_ptr_nil {P : Program} (w : World) {tp te : TypeId} {j : TypeInfo} {a : Addr} (hp : P.underlying tp = some (.pointer te)) (hte : P.info? te = some j) :
    (binOp .neq tp (.pointer none) (.pointer (some a))).run P w = .ok (.bool true) w := by
  have h : ∀ d : Nat, (Op.equalIn (d + 1) tp (.pointer none) (.pointer (some a))).run P w = .ok false w := fun d => by
    simp [Op.equalIn, run_underlying hp, sizeOf, typeInfo, hte]
  simp only [binOp]
  simp [Op.equal, Op.maxDepth, h 9999]

/-- A call that panics with a text and turns nothing. -/
def Cries (w : World) : Ending → World → Prop := fun e w' => ∃ s : ByteArray, e = .panicked [{ v := .iface 9 (.string s), recovered := false }] ∧ w' = w

set_option maxRecDepth 100000 in
set_option maxHeartbeats 2000000 in
/-- AppendChild of a node that has a parent. -/
theorem append_held {D : Nat → Option Info} {G : Nat → Nat → Option Nat} {w : World} (h : Nodes w D G) {n c : Nat} {d_c : Info} (hc : D c = some d_c) {p : Nat} (ec0 : G c 0 = some p) :
    Calls Try.prog 15 #[ptr (some n), ptr (some c)] w (Cries w) := by
  have kc0 := h.c0 hc
  rw [ec0] at kc0
  clear h hc ec0
  simp only [ptr, Option.map_some] at kc0 ⊢
  go_enter Try.func15, Try.ntmps15
  go_wp2
  exact ⟨rfl, _, rfl, rfl⟩

set_option maxRecDepth 100000 in
set_option maxHeartbeats 2000000 in
/-- InsertBefore of a node that has a parent. -/
theorem insert_held {D : Nat → Option Info} {G : Nat → Nat → Option Nat} {w : World} (h : Nodes w D G) {n c : Nat} {d_c : Info} (hc : D c = some d_c) {p : Nat} (ec0 : G c 0 = some p) (o : Option Nat) :
    Calls Try.prog 32 #[ptr (some n), ptr (some c), ptr o] w (Cries w) := by
  have kc0 := h.c0 hc
  rw [ec0] at kc0
  clear h hc ec0
  obtain ⟨u, hu⟩ : ∃ u : Option Addr, ptr o = .pointer u := ⟨_, rfl⟩
  rw [hu]
  clear hu
  simp only [ptr, Option.map_some] at kc0 ⊢
  go_enter Try.func32, Try.ntmps32
  go_wp2
  exact ⟨rfl, _, rfl, rfl⟩

set_option maxRecDepth 100000 in
set_option maxHeartbeats 2000000 in
/-- RemoveChild of a node that is no child. -/
theorem remove_strange {D : Nat → Option Info} {G : Nat → Nat → Option Nat} {w : World} (h : Nodes w D G) {n c : Nat} {d_n d_c : Info} (hn : D n = some d_n) (hc : D c = some d_c) (hd : ∀ q, G c 0 = some q → ∃ x, D q = some x) (ec0 : G c 0 ≠ some n) :
    Calls Try.prog 31 #[ptr (some n), ptr (some c)] w (Cries w) := by
  have kc0 := h.c0 hc
  cases hq : G c 0 with
  | none =>
    rw [hq] at kc0
    have hneq : (binOp .neq 44 (.pointer none) (.pointer (some ⟨n, 0, none⟩))).run Try.prog w = .ok (.bool true) w := by
      obtain ⟨j, hj, _⟩ := info50
      exact run_neq_ptr_nil w under44 hj
    clear h hc hn hd ec0 hq
    simp only [ptr, Option.map_some, Option.map_none] at kc0 ⊢
    go_enter Try.func31, Try.ntmps31
    go_wp2
    exact ⟨rfl, _, rfl, rfl⟩
  | some q =>
    rw [hq] at kc0
    have hne : q ≠ n := fun e => ec0 (by rw [hq, e])
    obtain ⟨x, hx⟩ := hd q hq
    have hneq : (binOp .neq 44 (.pointer (some ⟨q, 0, none⟩)) (.pointer (some ⟨n, 0, none⟩))).run Try.prog w = .ok (.bool true) w := by
      obtain ⟨j, hj, hs⟩ := info50
      exact run_neq_ptr_other w under44 hj hs (fun e => hne (by cases e; rfl)) (h q x hx) (h n d_n hn)
    clear h hc hn hd ec0 hq hx
    simp only [ptr, Option.map_some] at kc0 ⊢
    go_enter Try.func31, Try.ntmps31
    go_wp2
    exact ⟨rfl, _, rfl, rfl⟩
end Go.Proofs.Ytgbeohhegckonaa
