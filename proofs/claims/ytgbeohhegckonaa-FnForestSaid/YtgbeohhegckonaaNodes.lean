import Derived.Test.YtgbeohhegckonaaNum
import Derived.OwnWalk
import Derived.OneCell
import Derived.Below
import Derived.RegionTactic
import Derived.LaidEqlPtr
import Derived.Lib.Builder
namespace Go.Proofs.Ytgbeohhegckonaa
open Go.RowKit Go.Shelf Go.BigFrame
set_option linter.unusedSimpArgs false
set_option linter.unusedVariables false

/-- A pointer to a node: the node is a block of its own. -/
def ptr (o : Option Nat) : Value := .pointer (o.map fun b => ⟨b, 0, none⟩)

/-- What a node holds beside its links. -/
abbrev Info := Int × ByteArray

/-- A node's cells: the links by their number (0 parent, 1 first, 2 last, 3 previous, 4 next). -/
def nodeCells (g : Nat → Option Nat) (d : Info) : Array Value :=
  #[ptr (g 0), ptr (g 1), ptr (g 2), ptr (g 3), ptr (g 4), .int .u32 d.1, .int .u32 0, .string d.2, .string ⟨#[]⟩, .slice none 0 0]

/-- The nodes of D lie in W with the links G. -/
def Nodes (W : World) (D : Nat → Option Info) (G : Nat → Nat → Option Nat) : Prop :=
  ∀ b d, D b = some d → W.heap[b]? = some (.cells (nodeCells (G b) d) 50 (0, 0))

def upd (G : Nat → Nat → Option Nat) (b k : Nat) (v : Option Nat) : Nat → Nat → Option Nat := fun b' k' => if b' = b ∧ k' = k then v else G b' k'

theorem upd_same (G : Nat → Nat → Option Nat) (b k : Nat) (v : Option Nat) : upd G b k v b k = v := by simp [upd]
theorem upd_block (G : Nat → Nat → Option Nat) {b b' : Nat} (k k' : Nat) (v : Option Nat) (h : b' ≠ b) : upd G b k v b' k' = G b' k' := by simp [upd, h]
theorem upd_field (G : Nat → Nat → Option Nat) (b b' : Nat) {k k' : Nat} (v : Option Nat) (h : k' ≠ k) : upd G b k v b' k' = G b' k' := by simp [upd, h]

section
variable {W W' : World} {D : Nat → Option Info} {G : Nat → Nat → Option Nat} {b : Nat} {d : Info}

theorem Nodes.lt (h : Nodes W D G) (hb : D b = some d) : b < W.heap.size := lt_of_block (h b d hb)
theorem Nodes.cell (h : Nodes W D G) (hb : D b = some d) (i : Nat) : W.cell? ⟨b, i, none⟩ = (nodeCells (G b) d)[i]? := by
  have := h b d hb
  simp [World.cell?, this]
theorem Nodes.c0 (h : Nodes W D G) (hb : D b = some d) : W.cell? ⟨b, 0, none⟩ = some (ptr (G b 0)) := h.cell hb 0
theorem Nodes.c1 (h : Nodes W D G) (hb : D b = some d) : W.cell? ⟨b, 1, none⟩ = some (ptr (G b 1)) := h.cell hb 1
theorem Nodes.c2 (h : Nodes W D G) (hb : D b = some d) : W.cell? ⟨b, 2, none⟩ = some (ptr (G b 2)) := h.cell hb 2
theorem Nodes.c3 (h : Nodes W D G) (hb : D b = some d) : W.cell? ⟨b, 3, none⟩ = some (ptr (G b 3)) := h.cell hb 3
theorem Nodes.c4 (h : Nodes W D G) (hb : D b = some d) : W.cell? ⟨b, 4, none⟩ = some (ptr (G b 4)) := h.cell hb 4
theorem Nodes.c7 (h : Nodes W D G) (hb : D b = some d) : W.cell? ⟨b, 7, none⟩ = some (.string d.2) := h.cell hb 7
theorem Nodes.frozen (h : Nodes W D G) (hb : D b = some d) (i : Nat) : W.frozen? ⟨b, i, none⟩ = false := by
  have := h b d hb
  simp [World.frozen?, this]

theorem Nodes.kept (h : Nodes W D G) (hk : ∀ b d, D b = some d → W'.heap[b]? = W.heap[b]?) : Nodes W' D G := fun b d hb => (hk b d hb).trans (h b d hb)

/-- A store into a link. -/
theorem Nodes.set (h : Nodes W D G) (b : Nat) {k : Nat} (hk : k < 5) (v : Option Nat) : Nodes (W.setCell ⟨b, k, none⟩ (ptr v)) D (upd G b k v) := by
  intro b' d' hb'
  by_cases e : b' = b
  · subst e
    have := h b' d' hb'
    have hk5 : k = 0 ∨ k = 1 ∨ k = 2 ∨ k = 3 ∨ k = 4 := by omega
    rcases hk5 with rfl | rfl | rfl | rfl | rfl <;> simp [World.setCell, Array.getElem?_modify, this, nodeCells, upd]
  · rw [Below.heap_setCell W ⟨b, k, none⟩ _ b' e, h b' d' hb']
    have : (fun k' => upd G b k v b' k') = G b' := by
      funext k'; exact upd_block G k k' v e
    rw [show upd G b k v b' = G b' from this]
end

/-- What a change of nodes leaves: all that is no node, and the heap's size. -/
structure Kept (D : Nat → Option Info) (W W' : World) : Prop where
  os : W'.os = W.os
  tape : W'.tape = W.tape
  output : W'.output = W.output
  size : W'.heap.size = W.heap.size
  block : ∀ b, D b = none → W'.heap[b]? = W.heap[b]?

theorem Kept.refl (D : Nat → Option Info) (W : World) : Kept D W W := ⟨rfl, rfl, rfl, rfl, fun _ _ => rfl⟩
theorem Kept.trans {D : Nat → Option Info} {A B C : World} (h : Kept D A B) (k : Kept D B C) : Kept D A C :=
  ⟨k.os.trans h.os, k.tape.trans h.tape, k.output.trans h.output, k.size.trans h.size, fun b hb => (k.block b hb).trans (h.block b hb)⟩
theorem Kept.set {D : Nat → Option Info} {A W : World} (h : Kept D A W) {b : Nat} {d : Info} (hb : D b = some d) (k : Nat) (u : Value) : Kept D A (W.setCell ⟨b, k, none⟩ u) :=
  ⟨h.os, h.tape, h.output, by simpa using h.size, fun b' hb' => (Below.heap_setCell W ⟨b, k, none⟩ u b' (fun e => by
    have e' : b' = b := e
    rw [e', hb] at hb'; cases hb')).trans (h.block b' hb')⟩
theorem Kept.drew {D : Nat → Option Info} {A W : World} (h : Kept D A W) : Kept D A W.drew := ⟨h.os, h.tape, h.output, h.size, h.block⟩
theorem Kept.below {D : Nat → Option Info} {W W' : World} {B : Nat} (h : Kept D W W') (hB : ∀ b, b < B → D b = none) : Below B W W' :=
  ⟨h.os, h.tape, h.output, by rw [h.size]; exact Nat.le_refl _, fun k hk => h.block k (hB k hk)⟩

theorem Nodes.drew {W : World} {D : Nat → Option Info} {G : Nat → Nat → Option Nat} (h : Nodes W D G) : Nodes W.drew D G := h
theorem under44 : Try.prog.underlying 44 = some (.pointer 50) := by kernel_rfl
theorem size50 : (Try.prog.info? 50).map (·.size) = some 10 := by kernel_rfl
theorem info50 : ∃ j, Try.prog.info? 50 = some j ∧ j.size ≠ 0 := by
  obtain ⟨j, hj, hs⟩ := Option.map_eq_some_iff.1 size50
  exact ⟨j, hj, by rw [hs]; decide⟩
theorem eql_same (w : World) (a : Addr) : (binOp .eql 44 (.pointer (some a)) (.pointer (some a))).run Try.prog w = .ok (.bool true) w := by
  obtain ⟨j, hj, _⟩ := info50
  exact run_eql_ptr_same w a under44 hj
theorem neq_same (w : World) (a : Addr) : (binOp .neq 44 (.pointer (some a)) (.pointer (some a))).run Try.prog w = .ok (.bool false) w := by
  obtain ⟨j, hj, _⟩ := info50
  exact Lib.run_neq_ptr_same w a under44 hj
theorem Nodes.eql {D : Nat → Option Info} {G : Nat → Nat → Option Nat} {w : World} (h : Nodes w D G) {a b : Nat} {x y : Info} (ha : D a = some x) (hb : D b = some y) (hne : a ≠ b) :
    (binOp .eql 44 (.pointer (some ⟨a, 0, none⟩)) (.pointer (some ⟨b, 0, none⟩))).run Try.prog w = .ok (.bool false) w := by
  obtain ⟨j, hj, hs⟩ := info50
  exact run_eql_ptr_other w under44 hj hs (fun e => hne (by cases e; rfl)) (h a x ha) (h b y hb)

set_option maxRecDepth 100000 in
set_option maxHeartbeats 2000000 in
/-- AppendChild at a node without children. -/
theorem append_first {D : Nat → Option Info} {G : Nat → Nat → Option Nat} {w : World} (h : Nodes w D G) {n c : Nat} {d_n : Info} (hn : D n = some d_n) {d_c : Info} (hc : D c = some d_c)
     (ec0 : G c 0 = none) (ec3 : G c 3 = none) (ec4 : G c 4 = none) (en2 : G n 2 = none) :
    Calls Try.prog 15 #[ptr (some n), ptr (some c)] w fun e w' => e = .returned (.tuple #[]) ∧
      Nodes w' D (upd (upd (upd (upd G n 1 (some c)) n 2 (some c)) c 0 (some n)) c 3 none) ∧ Kept D w w' := by
  have kc0 := h.c0 hc
  have kc3 := h.c3 hc
  have kc4 := h.c4 hc
  have kn2 := h.c2 hn
  have kn1 := h.c1 hn
  have fn1 := h.frozen hn 1
  have fn2 := h.frozen hn 2
  have fc0 := h.frozen hc 0
  have fc3 := h.frozen hc 3
  rw [ec0] at kc0
  rw [ec3] at kc3
  rw [ec4] at kc4
  rw [en2] at kn2
  have HN := Lib.hid ((((h.set n (k := 1) (by omega) (some c)).set n (k := 2) (by omega) (some c)).set c (k := 0) (by omega) (some n)).set c (k := 3) (by omega) none)
  have HK := Lib.hid (((((Kept.refl D w).set hn 1 (ptr (some c))).set hn 2 (ptr (some c))).set hc 0 (ptr (some n))).set hc 3 (ptr none))
  clear h hn hc ec0 ec3 ec4 en2
  simp only [ptr, Option.map_some, Option.map_none] at kc0 kc3 kc4 kn2 ⊢
  go_enter Try.func15, Try.ntmps15
  go_wp2
  go_end0
  exact ⟨rfl, HN.out, HK.out⟩

set_option maxRecDepth 100000 in
set_option maxHeartbeats 2000000 in
/-- AppendChild at a node with a last child. -/
theorem append_last {D : Nat → Option Info} {G : Nat → Nat → Option Nat} {w : World} (h : Nodes w D G) {n c l : Nat} {d_n : Info} (hn : D n = some d_n) {d_c : Info} (hc : D c = some d_c) {d_l : Info} (hl : D l = some d_l)
    (hcp : c ≠ l) (ec0 : G c 0 = none) (ec3 : G c 3 = none) (ec4 : G c 4 = none) (en2 : G n 2 = (some l)) :
    Calls Try.prog 15 #[ptr (some n), ptr (some c)] w fun e w' => e = .returned (.tuple #[]) ∧
      Nodes w' D (upd (upd (upd (upd G l 4 (some c)) n 2 (some c)) c 0 (some n)) c 3 (some l)) ∧ Kept D w w' := by
  have kc0 := h.c0 hc
  have kc3 := h.c3 hc
  have kc4 := h.c4 hc
  have kn2 := h.c2 hn
  have kl4 := h.c4 hl
  have fl4 := h.frozen hl 4
  have fn2 := h.frozen hn 2
  have fc0 := h.frozen hc 0
  have fc3 := h.frozen hc 3
  rw [ec0] at kc0
  rw [ec3] at kc3
  rw [ec4] at kc4
  rw [en2] at kn2
  have HN := Lib.hid ((((h.set l (k := 4) (by omega) (some c)).set n (k := 2) (by omega) (some c)).set c (k := 0) (by omega) (some n)).set c (k := 3) (by omega) (some l))
  have HK := Lib.hid (((((Kept.refl D w).set hl 4 (ptr (some c))).set hn 2 (ptr (some c))).set hc 0 (ptr (some n))).set hc 3 (ptr (some l)))
  clear h hn hc hl ec0 ec3 ec4 en2
  simp only [ptr, Option.map_some, Option.map_none] at kc0 kc3 kc4 kn2 ⊢
  have hpc := Ne.symm hcp
  go_enter Try.func15, Try.ntmps15
  go_wp2
  go_end0
  exact ⟨rfl, HN.out, HK.out⟩

set_option maxRecDepth 100000 in
set_option maxHeartbeats 2000000 in
/-- InsertBefore at a node without children. -/
theorem insert_first {D : Nat → Option Info} {G : Nat → Nat → Option Nat} {w : World} (h : Nodes w D G) {n c : Nat} {d_n : Info} (hn : D n = some d_n) {d_c : Info} (hc : D c = some d_c)
     (ec0 : G c 0 = none) (ec3 : G c 3 = none) (ec4 : G c 4 = none) (en2 : G n 2 = none) :
    Calls Try.prog 32 #[ptr (some n), ptr (some c), ptr none] w fun e w' => e = .returned (.tuple #[]) ∧
      Nodes w' D (upd (upd (upd (upd (upd G n 1 (some c)) n 2 (some c)) c 0 (some n)) c 3 none) c 4 none) ∧ Kept D w w' := by
  have kc0 := h.c0 hc
  have kc3 := h.c3 hc
  have kc4 := h.c4 hc
  have kn2 := h.c2 hn
  have kn1 := h.c1 hn
  have fn1 := h.frozen hn 1
  have fn2 := h.frozen hn 2
  have fc0 := h.frozen hc 0
  have fc3 := h.frozen hc 3
  have fc4 := h.frozen hc 4
  rw [ec0] at kc0
  rw [ec3] at kc3
  rw [ec4] at kc4
  rw [en2] at kn2
  have HN := Lib.hid (((((h.set n (k := 1) (by omega) (some c)).set n (k := 2) (by omega) (some c)).set c (k := 0) (by omega) (some n)).set c (k := 3) (by omega) none).set c (k := 4) (by omega) none)
  have HK := Lib.hid ((((((Kept.refl D w).set hn 1 (ptr (some c))).set hn 2 (ptr (some c))).set hc 0 (ptr (some n))).set hc 3 (ptr none)).set hc 4 (ptr none))
  clear h hn hc ec0 ec3 ec4 en2
  simp only [ptr, Option.map_some, Option.map_none] at kc0 kc3 kc4 kn2 ⊢
  go_enter Try.func32, Try.ntmps32
  go_wp2
  go_end0
  exact ⟨rfl, HN.out, HK.out⟩

set_option maxRecDepth 100000 in
set_option maxHeartbeats 2000000 in
/-- InsertBefore at the end. -/
theorem insert_last {D : Nat → Option Info} {G : Nat → Nat → Option Nat} {w : World} (h : Nodes w D G) {n c l : Nat} {d_n : Info} (hn : D n = some d_n) {d_c : Info} (hc : D c = some d_c) {d_l : Info} (hl : D l = some d_l)
    (hcp : c ≠ l) (ec0 : G c 0 = none) (ec3 : G c 3 = none) (ec4 : G c 4 = none) (en2 : G n 2 = (some l)) :
    Calls Try.prog 32 #[ptr (some n), ptr (some c), ptr none] w fun e w' => e = .returned (.tuple #[]) ∧
      Nodes w' D (upd (upd (upd (upd (upd G l 4 (some c)) n 2 (some c)) c 0 (some n)) c 3 (some l)) c 4 none) ∧ Kept D w w' := by
  have kc0 := h.c0 hc
  have kc3 := h.c3 hc
  have kc4 := h.c4 hc
  have kn2 := h.c2 hn
  have kl4 := h.c4 hl
  have fl4 := h.frozen hl 4
  have fn2 := h.frozen hn 2
  have fc0 := h.frozen hc 0
  have fc3 := h.frozen hc 3
  have fc4 := h.frozen hc 4
  rw [ec0] at kc0
  rw [ec3] at kc3
  rw [ec4] at kc4
  rw [en2] at kn2
  have HN := Lib.hid (((((h.set l (k := 4) (by omega) (some c)).set n (k := 2) (by omega) (some c)).set c (k := 0) (by omega) (some n)).set c (k := 3) (by omega) (some l)).set c (k := 4) (by omega) none)
  have HK := Lib.hid ((((((Kept.refl D w).set hl 4 (ptr (some c))).set hn 2 (ptr (some c))).set hc 0 (ptr (some n))).set hc 3 (ptr (some l))).set hc 4 (ptr none))
  clear h hn hc hl ec0 ec3 ec4 en2
  simp only [ptr, Option.map_some, Option.map_none] at kc0 kc3 kc4 kn2 ⊢
  have hpc := Ne.symm hcp
  go_enter Try.func32, Try.ntmps32
  go_wp2
  go_end0
  exact ⟨rfl, HN.out, HK.out⟩

set_option maxRecDepth 100000 in
set_option maxHeartbeats 2000000 in
/-- InsertBefore ahead of the first child. -/
theorem insert_head {D : Nat → Option Info} {G : Nat → Nat → Option Nat} {w : World} (h : Nodes w D G) {n c o : Nat} {d_n : Info} (hn : D n = some d_n) {d_c : Info} (hc : D c = some d_c) {d_o : Info} (ho : D o = some d_o)
    (hco : c ≠ o) (ec0 : G c 0 = none) (ec3 : G c 3 = none) (ec4 : G c 4 = none) (eo3 : G o 3 = none) :
    Calls Try.prog 32 #[ptr (some n), ptr (some c), ptr (some o)] w fun e w' => e = .returned (.tuple #[]) ∧
      Nodes w' D (upd (upd (upd (upd (upd G n 1 (some c)) o 3 (some c)) c 0 (some n)) c 3 none) c 4 (some o)) ∧ Kept D w w' := by
  have kc0 := h.c0 hc
  have kc3 := h.c3 hc
  have kc4 := h.c4 hc
  have ko3 := h.c3 ho
  have kn1 := h.c1 hn
  have fn1 := h.frozen hn 1
  have fo3 := h.frozen ho 3
  have fc0 := h.frozen hc 0
  have fc3 := h.frozen hc 3
  have fc4 := h.frozen hc 4
  rw [ec0] at kc0
  rw [ec3] at kc3
  rw [ec4] at kc4
  rw [eo3] at ko3
  have HN := Lib.hid (((((h.set n (k := 1) (by omega) (some c)).set o (k := 3) (by omega) (some c)).set c (k := 0) (by omega) (some n)).set c (k := 3) (by omega) none).set c (k := 4) (by omega) (some o))
  have HK := Lib.hid ((((((Kept.refl D w).set hn 1 (ptr (some c))).set ho 3 (ptr (some c))).set hc 0 (ptr (some n))).set hc 3 (ptr none)).set hc 4 (ptr (some o)))
  clear h hn hc ho ec0 ec3 ec4 eo3
  simp only [ptr, Option.map_some, Option.map_none] at kc0 kc3 kc4 ko3 ⊢
  have hoc := Ne.symm hco
  go_enter Try.func32, Try.ntmps32
  go_wp2
  go_end0
  exact ⟨rfl, HN.out, HK.out⟩

set_option maxRecDepth 100000 in
set_option maxHeartbeats 2000000 in
/-- InsertBefore between two children. -/
theorem insert_mid {D : Nat → Option Info} {G : Nat → Nat → Option Nat} {w : World} (h : Nodes w D G) {n c o p : Nat} {d_n : Info} (hn : D n = some d_n) {d_c : Info} (hc : D c = some d_c) {d_o : Info} (ho : D o = some d_o) {d_p : Info} (hp : D p = some d_p)
    (hco : c ≠ o) (hcp : c ≠ p) (ec0 : G c 0 = none) (ec3 : G c 3 = none) (ec4 : G c 4 = none) (eo3 : G o 3 = (some p)) :
    Calls Try.prog 32 #[ptr (some n), ptr (some c), ptr (some o)] w fun e w' => e = .returned (.tuple #[]) ∧
      Nodes w' D (upd (upd (upd (upd (upd G p 4 (some c)) o 3 (some c)) c 0 (some n)) c 3 (some p)) c 4 (some o)) ∧ Kept D w w' := by
  have kc0 := h.c0 hc
  have kc3 := h.c3 hc
  have kc4 := h.c4 hc
  have ko3 := h.c3 ho
  have kp4 := h.c4 hp
  have fp4 := h.frozen hp 4
  have fo3 := h.frozen ho 3
  have fc0 := h.frozen hc 0
  have fc3 := h.frozen hc 3
  have fc4 := h.frozen hc 4
  rw [ec0] at kc0
  rw [ec3] at kc3
  rw [ec4] at kc4
  rw [eo3] at ko3
  have HN := Lib.hid (((((h.set p (k := 4) (by omega) (some c)).set o (k := 3) (by omega) (some c)).set c (k := 0) (by omega) (some n)).set c (k := 3) (by omega) (some p)).set c (k := 4) (by omega) (some o))
  have HK := Lib.hid ((((((Kept.refl D w).set hp 4 (ptr (some c))).set ho 3 (ptr (some c))).set hc 0 (ptr (some n))).set hc 3 (ptr (some p))).set hc 4 (ptr (some o)))
  clear h hn hc ho hp ec0 ec3 ec4 eo3
  simp only [ptr, Option.map_some, Option.map_none] at kc0 kc3 kc4 ko3 ⊢
  have hpc := Ne.symm hcp
  have hoc := Ne.symm hco
  go_enter Try.func32, Try.ntmps32
  go_wp2
  go_end0
  exact ⟨rfl, HN.out, HK.out⟩

set_option maxRecDepth 100000 in
set_option maxHeartbeats 2000000 in
/-- RemoveChild of the only child. -/
theorem remove_only {D : Nat → Option Info} {G : Nat → Nat → Option Nat} {w : World} (h : Nodes w D G) {n c : Nat} {d_n : Info} (hn : D n = some d_n) {d_c : Info} (hc : D c = some d_c)
    (nnc : n ≠ c) (ec0 : G c 0 = (some n)) (en1 : G n 1 = (some c)) (ec4 : G c 4 = none) (en2 : G n 2 = (some c)) (ec3 : G c 3 = none) :
    Calls Try.prog 31 #[ptr (some n), ptr (some c)] w fun e w' => e = .returned (.tuple #[]) ∧
      Nodes w' D (upd (upd (upd (upd (upd G n 1 none) n 2 none) c 0 none) c 3 none) c 4 none) ∧ Kept D w w' := by
  have kc0 := h.c0 hc
  have kn1 := h.c1 hn
  have kc4 := h.c4 hc
  have kn2 := h.c2 hn
  have kc3 := h.c3 hc
  have fn1 := h.frozen hn 1
  have fn2 := h.frozen hn 2
  have fc0 := h.frozen hc 0
  have fc3 := h.frozen hc 3
  have fc4 := h.frozen hc 4
  rw [ec0] at kc0
  rw [en1] at kn1
  rw [ec4] at kc4
  rw [en2] at kn2
  rw [ec3] at kc3
  have HN := Lib.hid (((((h.set n (k := 1) (by omega) none).set n (k := 2) (by omega) none).set c (k := 0) (by omega) none).set c (k := 3) (by omega) none).set c (k := 4) (by omega) none)
  have HK := Lib.hid ((((((Kept.refl D w).set hn 1 (ptr none)).set hn 2 (ptr none)).set hc 0 (ptr none)).set hc 3 (ptr none)).set hc 4 (ptr none))
  clear h hn hc ec0 en1 ec4 en2 ec3
  simp only [ptr, Option.map_some, Option.map_none] at kc0 kn1 kc4 kn2 kc3 ⊢
  have es := eql_same
  have ns := neq_same
  go_enter Try.func31, Try.ntmps31
  have ncn := Ne.symm nnc
  go_wp2
  go_end0
  exact ⟨rfl, HN.out, HK.out⟩

set_option maxRecDepth 100000 in
set_option maxHeartbeats 2000000 in
/-- RemoveChild of the first child of some. -/
theorem remove_head {D : Nat → Option Info} {G : Nat → Nat → Option Nat} {w : World} (h : Nodes w D G) {n c x l : Nat} {d_n : Info} (hn : D n = some d_n) {d_c : Info} (hc : D c = some d_c) {d_x : Info} (hx : D x = some d_x) {d_l : Info} (hl : D l = some d_l)
    (nnc : n ≠ c) (ncx : c ≠ x) (nnx : n ≠ x) (nlc : l ≠ c) (ec0 : G c 0 = (some n)) (en1 : G n 1 = (some c)) (ec4 : G c 4 = (some x)) (en2 : G n 2 = (some l)) (ec3 : G c 3 = none) (ex3 : G x 3 = (some c)) :
    Calls Try.prog 31 #[ptr (some n), ptr (some c)] w fun e w' => e = .returned (.tuple #[]) ∧
      Nodes w' D (upd (upd (upd (upd (upd G n 1 (some x)) x 3 none) c 0 none) c 3 none) c 4 none) ∧ Kept D w w' := by
  have kc0 := h.c0 hc
  have kn1 := h.c1 hn
  have kc4 := h.c4 hc
  have kn2 := h.c2 hn
  have kc3 := h.c3 hc
  have kx3 := h.c3 hx
  have fn1 := h.frozen hn 1
  have fx3 := h.frozen hx 3
  have fc0 := h.frozen hc 0
  have fc3 := h.frozen hc 3
  have fc4 := h.frozen hc 4
  rw [ec0] at kc0
  rw [en1] at kn1
  rw [ec4] at kc4
  rw [en2] at kn2
  rw [ec3] at kc3
  rw [ex3] at kx3
  have q1 := (((h.set n (k := 1) (by omega) (some x)).set x (k := 3) (by omega) none).drew).eql hl hc nlc
  have HN := Lib.hid (((((h.set n (k := 1) (by omega) (some x)).set x (k := 3) (by omega) none).drew.set c (k := 0) (by omega) none).set c (k := 3) (by omega) none).set c (k := 4) (by omega) none)
  have HK := Lib.hid ((((((Kept.refl D w).set hn 1 (ptr (some x))).set hx 3 (ptr none)).drew.set hc 0 (ptr none)).set hc 3 (ptr none)).set hc 4 (ptr none))
  clear h hn hc hx hl ec0 en1 ec4 en2 ec3 ex3
  try simp only [ptr, Option.map_some, Option.map_none] at q1
  simp only [ptr, Option.map_some, Option.map_none] at kc0 kn1 kc4 kn2 kc3 kx3 ⊢
  have es := eql_same
  have ns := neq_same
  go_enter Try.func31, Try.ntmps31
  have ncn := Ne.symm nnc
  have nxc := Ne.symm ncx
  have nxn := Ne.symm nnx
  have ncl := Ne.symm nlc
  go_wp2_with fail
  go_region
  all_goals go_wp2_with fail
  go_end0
  exact ⟨rfl, HN.out, HK.out⟩

set_option maxRecDepth 100000 in
set_option maxHeartbeats 2000000 in
/-- RemoveChild of the last child of some. -/
theorem remove_last {D : Nat → Option Info} {G : Nat → Nat → Option Nat} {w : World} (h : Nodes w D G) {n c p f : Nat} {d_n : Info} (hn : D n = some d_n) {d_c : Info} (hc : D c = some d_c) {d_p : Info} (hp : D p = some d_p) {d_f : Info} (hf : D f = some d_f)
    (nnc : n ≠ c) (ncp : c ≠ p) (nnp : n ≠ p) (nfc : f ≠ c) (ec0 : G c 0 = (some n)) (en1 : G n 1 = (some f)) (ec4 : G c 4 = none) (en2 : G n 2 = (some c)) (ec3 : G c 3 = (some p)) (ep4 : G p 4 = (some c)) :
    Calls Try.prog 31 #[ptr (some n), ptr (some c)] w fun e w' => e = .returned (.tuple #[]) ∧
      Nodes w' D (upd (upd (upd (upd (upd G n 2 (some p)) p 4 none) c 0 none) c 3 none) c 4 none) ∧ Kept D w w' := by
  have kc0 := h.c0 hc
  have kn1 := h.c1 hn
  have kc4 := h.c4 hc
  have kn2 := h.c2 hn
  have kc3 := h.c3 hc
  have kp4 := h.c4 hp
  have fn2 := h.frozen hn 2
  have fp4 := h.frozen hp 4
  have fc0 := h.frozen hc 0
  have fc3 := h.frozen hc 3
  have fc4 := h.frozen hc 4
  rw [ec0] at kc0
  rw [en1] at kn1
  rw [ec4] at kc4
  rw [en2] at kn2
  rw [ec3] at kc3
  rw [ep4] at kp4
  have q1 := (h).eql hf hc nfc
  have HN := Lib.hid (((((h.set n (k := 2) (by omega) (some p)).set p (k := 4) (by omega) none).drew.set c (k := 0) (by omega) none).set c (k := 3) (by omega) none).set c (k := 4) (by omega) none)
  have HK := Lib.hid ((((((Kept.refl D w).set hn 2 (ptr (some p))).set hp 4 (ptr none)).drew.set hc 0 (ptr none)).set hc 3 (ptr none)).set hc 4 (ptr none))
  clear h hn hc hp hf ec0 en1 ec4 en2 ec3 ep4
  try simp only [ptr, Option.map_some, Option.map_none] at q1
  simp only [ptr, Option.map_some, Option.map_none] at kc0 kn1 kc4 kn2 kc3 kp4 ⊢
  have es := eql_same
  have ns := neq_same
  go_enter Try.func31, Try.ntmps31
  have ncn := Ne.symm nnc
  have npc := Ne.symm ncp
  have npn := Ne.symm nnp
  have ncf := Ne.symm nfc
  go_wp2_with fail
  go_region
  all_goals go_wp2_with fail
  go_end0
  exact ⟨rfl, HN.out, HK.out⟩

set_option maxRecDepth 100000 in
set_option maxHeartbeats 2000000 in
/-- RemoveChild of a child between two. -/
theorem remove_mid {D : Nat → Option Info} {G : Nat → Nat → Option Nat} {w : World} (h : Nodes w D G) {n c p x f l : Nat} {d_n : Info} (hn : D n = some d_n) {d_c : Info} (hc : D c = some d_c) {d_p : Info} (hp : D p = some d_p) {d_x : Info} (hx : D x = some d_x) {d_f : Info} (hf : D f = some d_f) {d_l : Info} (hl : D l = some d_l)
    (nnc : n ≠ c) (ncp : c ≠ p) (nnp : n ≠ p) (nfc : f ≠ c) (nlc : l ≠ c) (ncx : c ≠ x) (nnx : n ≠ x) (npx : p ≠ x) (ec0 : G c 0 = (some n)) (en1 : G n 1 = (some f)) (ec4 : G c 4 = (some x)) (en2 : G n 2 = (some l)) (ec3 : G c 3 = (some p)) (ep4 : G p 4 = (some c)) (ex3 : G x 3 = (some c)) :
    Calls Try.prog 31 #[ptr (some n), ptr (some c)] w fun e w' => e = .returned (.tuple #[]) ∧
      Nodes w' D (upd (upd (upd (upd (upd G x 3 (some p)) p 4 (some x)) c 0 none) c 3 none) c 4 none) ∧ Kept D w w' := by
  have kc0 := h.c0 hc
  have kn1 := h.c1 hn
  have kc4 := h.c4 hc
  have kn2 := h.c2 hn
  have kc3 := h.c3 hc
  have kp4 := h.c4 hp
  have kx3 := h.c3 hx
  have fx3 := h.frozen hx 3
  have fp4 := h.frozen hp 4
  have fc0 := h.frozen hc 0
  have fc3 := h.frozen hc 3
  have fc4 := h.frozen hc 4
  rw [ec0] at kc0
  rw [en1] at kn1
  rw [ec4] at kc4
  rw [en2] at kn2
  rw [ec3] at kc3
  rw [ep4] at kp4
  rw [ex3] at kx3
  have q1 := (h).eql hf hc nfc
  have q2 := ((h.set x (k := 3) (by omega) (some p)).drew).eql hl hc nlc
  have HN := Lib.hid (((((h.set x (k := 3) (by omega) (some p)).drew.set p (k := 4) (by omega) (some x)).drew.set c (k := 0) (by omega) none).set c (k := 3) (by omega) none).set c (k := 4) (by omega) none)
  have HK := Lib.hid ((((((Kept.refl D w).set hx 3 (ptr (some p))).drew.set hp 4 (ptr (some x))).drew.set hc 0 (ptr none)).set hc 3 (ptr none)).set hc 4 (ptr none))
  clear h hn hc hp hx hf hl ec0 en1 ec4 en2 ec3 ep4 ex3
  try simp only [ptr, Option.map_some, Option.map_none] at q1 q2
  simp only [ptr, Option.map_some, Option.map_none] at kc0 kn1 kc4 kn2 kc3 kp4 kx3 ⊢
  have es := eql_same
  have ns := neq_same
  go_enter Try.func31, Try.ntmps31
  have ncn := Ne.symm nnc
  have npc := Ne.symm ncp
  have npn := Ne.symm nnp
  have ncf := Ne.symm nfc
  have ncl := Ne.symm nlc
  have nxc := Ne.symm ncx
  have nxn := Ne.symm nnx
  have nxp := Ne.symm npx
  go_wp2_with fail
  go_region
  all_goals go_wp2_with fail
  all_goals go_region
  all_goals go_wp2_with fail
  go_end0
  exact ⟨rfl, HN.out, HK.out⟩

end Go.Proofs.Ytgbeohhegckonaa
