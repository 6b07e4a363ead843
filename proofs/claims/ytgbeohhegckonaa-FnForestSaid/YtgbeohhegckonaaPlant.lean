import Derived.Test.YtgbeohhegckonaaGrove
import Derived.Test.YtgbeohhegckonaaRegs
import Derived.Test.YtgbeohhegckonaaEdited
import Derived.Recover
import Derived.Defers
import Derived.StillTailTactics
/-! impl.planted: a step of a script over the nodes. -/
namespace Go.Proofs.Ytgbeohhegckonaa
open Go.RowKit Go.Shelf Go.BigFrame
set_option linter.unusedSimpArgs false
set_option linter.unusedVariables false

/-- The deferred closure where the frame panics: recovered, the result turned. -/
theorem catch_panicking (p : Addr) (x : Value) (u : TypeId) (pv : Value) (older : List PanicEntry) (w : World) (hc : w.cell? p = some x) (hz : w.frozen? p = false) :
    CallsD Try.prog 38 #[.pointer (some p)] (.panicking ({ v := .iface u pv, recovered := false } :: older)) w fun e u' w' =>
      e = .returned (.tuple #[]) ∧ u' = .panicking ({ v := .iface u pv, recovered := true } :: older) ∧ w' = w.setCell p (.bool false) := by
  refine callsD_of_wpS Try.func38 rfl fun c₀ cs hu => ?_
  apply wpS_seq
  apply wpS_region
  simp [wpOpsS, go_sem, recoverD, hu, Try.ntmps38, Exit.thenS]
  refine wpS_cond (t := true) (by simp [Act.eval, Array.replicate]) ?_
  simp only [if_true]
  apply wpS_region
  simp [wpOpsS, go_sem, hc, hz, bodyPostS, results, Try.results38]

/-- The deferred closure where the frame returns: nothing is turned. -/
theorem catch_idle (p : Addr) (w : World) :
    CallsD Try.prog 38 #[.pointer (some p)] .returning w fun e u' w' => e = .returned (.tuple #[]) ∧ u' = .returning ∧ w' = w := by
  refine callsD_of_wpS Try.func38 rfl fun c₀ cs hu => ?_
  apply wpS_seq
  apply wpS_region
  simp [wpOpsS, go_sem, recoverD, hu, Try.ntmps38, Exit.thenS]
  refine wpS_cond (t := false) (by simp [Act.eval, Array.replicate]) ?_
  simp only [Bool.false_eq_true, if_false]
  refine wpS_of_wp (wp_skip ?_)
  cases c₀
  simp_all [bodyPostS, results, Try.results38]

/-- What lies beside the nodes is spared. -/
structure Spared (D : Nat → Option Info) (A B : World) : Prop where
  os : B.os = A.os
  tape : B.tape = A.tape
  output : B.output = A.output
  size : A.heap.size ≤ B.heap.size
  block : ∀ b, b < A.heap.size → D b = none → B.heap[b]? = A.heap[b]?
theorem Spared.refl (D : Nat → Option Info) (A : World) : Spared D A A := ⟨rfl, rfl, rfl, Nat.le_refl _, fun _ _ _ => rfl⟩
theorem Spared.trans {D : Nat → Option Info} {A B C : World} (h : Spared D A B) (k : Spared D B C) : Spared D A C :=
  ⟨k.os.trans h.os, k.tape.trans h.tape, k.output.trans h.output, Nat.le_trans h.size k.size, fun b hb hd => (k.block b (Nat.lt_of_lt_of_le hb h.size) hd).trans (h.block b hb hd)⟩
theorem Spared.kept {D : Nat → Option Info} {A B : World} (h : Kept D A B) : Spared D A B := ⟨h.os, h.tape, h.output, by rw [h.size]; exact Nat.le_refl _, fun b _ hd => h.block b hd⟩
theorem Spared.below {D : Nat → Option Info} {A B : World} (h : Below A.heap.size A B) : Spared D A B := ⟨h.os, h.tape, h.output, h.size, fun b hb _ => h.block b hb⟩
theorem Spared.own {D : Nat → Option Info} {A B : World} (h : Spared D A B) {b : Nat} (hb : A.heap.size ≤ b) (i : Nat) (u : Value) : Spared D A (B.setCell ⟨b, i, none⟩ u) :=
  ⟨h.os, h.tape, h.output, by simpa using h.size, fun k hk hd => (Below.heap_setCell B ⟨b, i, none⟩ u k (fun e => by
    have e' : k = b := e
    omega)).trans (h.block k hk hd)⟩
theorem Spared.toBelow {D : Nat → Option Info} {A B : World} (h : Spared D A B) {base : Nat} (hb : base ≤ A.heap.size) (hD : ∀ b, b < base → D b = none) : Below base A B :=
  ⟨h.os, h.tape, h.output, h.size, fun k hk => h.block k (by omega) (hD k hk)⟩

theorem wp_still_tail {P : Program} {id : Nat} {Q : Exit → Act → World → Prop} {a : Act} {w : World} {l : List Oper} (n : Nat) (hm : P.follows .mixedOrders = true) (hB : Region.lexTailB .any l.toArray n = true)
    (h : wpStill P l.toArray w.drew (fun a' => wpList P l.toArray Q (l.drop n) a' w.drew) (l.take n) a) : (Code.region id l.toArray true).wp P Q a w :=
  wp_region_still_tail n hm hB h

abbrev caught (n : Nat) : List Deferred := [{ target := .fn (.func 38) #[.pointer (some ⟨n, 0, none⟩)], args := #[] }]
theorem leaves_ok {R : Ending → World → Prop} {tmps : Array Value} {n : Nat} {b : Bool} {W : World} (hb : Boxed W n 4 (.bool b)) (ht : tmps[4]?.getD undef = .pointer (some ⟨n, 0, none⟩)) (h : R (.returned (.bool b)) W) :
    Leaves Try.prog Try.f27 tmps R (caught n) .returning W := by
  refine leaves_cons (f := 38) (args := #[.pointer (some ⟨n, 0, none⟩)]) (by simp) (by simp [go_sem]) ?_
  refine (catch_idle ⟨n, 0, none⟩ W).mono ?_
  rintro e u' w'' ⟨rfl, rfl, rfl⟩
  have hc := hb.cell
  exact ⟨.bool b, by simp [results, Try.results27, ht, go_sem, hc], h⟩
theorem leaves_bad {R : Ending → World → Prop} {tmps : Array Value} {n : Nat} {v : Value} {W : World} {u : TypeId} {pv : Value} (hb : Boxed W n 4 v) (ht : tmps[4]?.getD undef = .pointer (some ⟨n, 0, none⟩)) (h : R (.returned (.bool false)) (W.setCell ⟨n, 0, none⟩ (.bool false))) :
    Leaves Try.prog Try.f27 tmps R (caught n) (.panicking [{ v := .iface u pv, recovered := false }]) W := by
  refine leaves_cons (f := 38) (args := #[.pointer (some ⟨n, 0, none⟩)]) (by simp) (by simp [go_sem]) ?_
  refine (catch_panicking ⟨n, 0, none⟩ v u pv [] W hb.cell hb.frozen).mono ?_
  rintro e u' w'' ⟨rfl, rfl, rfl⟩
  have hc := (hb.set (.bool false)).cell
  exact ⟨.bool false, by simp [results, Try.results27, ht, go_sem, hc], h⟩

theorem boxed_in {D : Nat → Option Info} {w W1 : World} (hfresh : D w.heap.size = none) (hK : Kept D (w.alloc (.cells #[.bool false] 4)).drew W1) : Boxed W1 w.heap.size 4 (.bool false) :=
  (hK.block _ hfresh).trans (Boxed.new w 4 (.bool false))
theorem grove_own {base many : Nat} {B : Nat → Nat} {f : Wood} {D : Nat → Option Info} {G : Nat → Nat → Option Nat} {K : Nat → List Nat} {W : World} (h : Grove base many B f D G K W) {n : Nat} (hn : D n = none) (v : Value) :
    Grove base many B f D G K (W.setCell ⟨n, 0, none⟩ v) :=
  h.kept fun b d hd => Below.heap_setCell W ⟨n, 0, none⟩ v b (fun e => by
    have e' : b = n := e
    rw [e', hn] at hd; cases hd)
theorem spared_own {D : Nat → Option Info} {w W1 : World} {o : Obj} (hK : Kept D (w.alloc o).drew W1) (hn : D w.heap.size = none) (v : Value) : Spared D w (W1.setCell ⟨w.heap.size, 0, none⟩ v) :=
  ((Spared.below (((Below.refl _ w).alloc (Nat.le_refl _) o).drew)).trans (Spared.kept hK)).own (Nat.le_refl _) 0 v

abbrev ptrsV (B : Nat → Nat) (many : Nat) : List Value := (List.range many).map fun i => ptr (some (B i))

set_option maxRecDepth 100000 in
set_option maxHeartbeats 4000000 in
theorem planted_append {base many : Nat} {B : Nat → Nat} {f : Wood} {D : Nat → Option Info} {G : Nat → Nat → Option Nat} {K : Nat → List Nat} {w : World} (h : Grove base many B f D G K w) (hf : f.Ok many)
    {al : Addr} {Cl : Nat} (hl : Lies w w.heap.size (some al) (ptrsV B many)) (hlc : many ≤ Cl) {az : Addr} {C a b : Nat} (ha : a < many) (hb : b < many) (hp : f.par b = none) (hne : a ≠ b)
    (hs : Lies w w.heap.size (some az) (intsV [0, (a : Int), (b : Int)])) (hC : 3 ≤ C) :
    Calls Try.prog 27 #[.slice (some al) many Cl, .slice (some az) 3 C] w fun e w' => e = .returned (.bool true) ∧ (∃ G' K', Grove base many B ⟨setP f.par b (some a), setL f.kids a (f.kids a ++ b :: [])⟩ D G' K' w') ∧ Spared D w w' := by
  have hmf : ∀ (fn : Fn) (first cap : Array Value) (w : World), (Instr.makeFunc fn first cap).run Try.prog w = .ok (.func fn first cap) w := fun _ _ _ _ => rfl
  obtain ⟨ad, e1, _, hcs⟩ := hs.resolve_left (by simp)
  cases e1
  obtain ⟨ad2, e2, _, hla⟩ := hl.at_ (k := a) (u := ptr (some (B a))) (by simp [ha])
  cases e2
  obtain ⟨ad2, e2, _, hlb⟩ := hl.at_ (k := b) (u := ptr (some (B b))) (by simp [hb])
  cases e2
  have c0 : w.cell? az = some (.int .i64 (0)) := hcs 0 _ rfl
  have c1 : w.cell? ⟨az.block, az.off + 1, none⟩ = some (.int .i64 ((a : Int))) := by simpa [Addr.add] using hcs 1 (.int .i64 ((a : Int))) rfl
  have c2 : w.cell? ⟨az.block, az.off + 2, none⟩ = some (.int .i64 ((b : Int))) := by simpa [Addr.add] using hcs 2 (.int .i64 ((b : Int))) rfl
  have q1 : (a : Int) < (many : Int) := by omega
  have q2 : (b : Int) < (many : Int) := by omega
  have hka := h.kids a ha
  have hcall := fun (W : World) (hW : Below w.heap.size w W) => appendChild_any (w := W) (h.below hW).nodes h.linked (n := B a) (c := B b) (h.node ha) (h.node hb) (h.not_kid hf hb hp) (fun e => hne (h.inj a b ha hb e))
  simp only [ptr, Option.map_some, Option.map_none] at hla hlb hcall
  have hla' := fun o => cell_alloc_old o hla
  have hlb' := fun o => cell_alloc_old o hlb
  have c0' := fun o => cell_alloc_old o c0
  have c1' := fun o => cell_alloc_old o c1
  have c2' := fun o => cell_alloc_old o c2
  have hbw : ∀ o, Below w.heap.size w ((w.alloc o).drew) := fun o => ((Below.refl _ w).alloc (Nat.le_refl _) _).drew
  have hfresh := h.nodes.fresh
  clear hcs hs hl
  go_enter_defers Try.func27, Try.ntmps27
  go_wp2_with fail
  refine wp_still_tail 12 (by kernel_rfl) (by kernel_rfl) ?_
  simp only [List.take_succ_cons, List.take_zero, List.drop_succ_cons, List.drop_zero]
  repeat still_step
  try refine wpStill_nil ?_
  go_wp2_with (first
    | (go_at_call 15; go_must (refine (hcall _ (hbw _)).mono ?_; clear hcall; rintro e W1 ⟨rfl, G', hN, hL, hK⟩; have hbx := boxed_in hfresh hK; have kc := hbx.cell; have kf := hbx.frozen))
    | fail)
  refine leaves_ok (hbx.set _) rfl ⟨rfl, ⟨G', _, grove_own (h.turn ha hN (by rw [hka] at hL; simpa using hL) _) hfresh _⟩, spared_own hK hfresh _⟩

set_option maxRecDepth 100000 in
set_option maxHeartbeats 4000000 in
theorem planted_last {base many : Nat} {B : Nat → Nat} {f : Wood} {D : Nat → Option Info} {G : Nat → Nat → Option Nat} {K : Nat → List Nat} {w : World} (h : Grove base many B f D G K w) (hf : f.Ok many)
    {al : Addr} {Cl : Nat} (hl : Lies w w.heap.size (some al) (ptrsV B many)) (hlc : many ≤ Cl) {az : Addr} {C a b : Nat} {c : Int} (ha : a < many) (hb : b < many) (hp : f.par b = none) (hne : a ≠ b) (hc : c < 0)
    (hs : Lies w w.heap.size (some az) (intsV [1, (a : Int), (b : Int), c])) (hC : 4 ≤ C) :
    Calls Try.prog 27 #[.slice (some al) many Cl, .slice (some az) 4 C] w fun e w' => e = .returned (.bool true) ∧ (∃ G' K', Grove base many B ⟨setP f.par b (some a), setL f.kids a (f.kids a ++ b :: [])⟩ D G' K' w') ∧ Spared D w w' := by
  have hmf : ∀ (fn : Fn) (first cap : Array Value) (w : World), (Instr.makeFunc fn first cap).run Try.prog w = .ok (.func fn first cap) w := fun _ _ _ _ => rfl
  obtain ⟨ad, e1, _, hcs⟩ := hs.resolve_left (by simp)
  cases e1
  obtain ⟨ad2, e2, _, hla⟩ := hl.at_ (k := a) (u := ptr (some (B a))) (by simp [ha])
  cases e2
  obtain ⟨ad2, e2, _, hlb⟩ := hl.at_ (k := b) (u := ptr (some (B b))) (by simp [hb])
  cases e2
  have c0 : w.cell? az = some (.int .i64 (1)) := hcs 0 _ rfl
  have c1 : w.cell? ⟨az.block, az.off + 1, none⟩ = some (.int .i64 ((a : Int))) := by simpa [Addr.add] using hcs 1 (.int .i64 ((a : Int))) rfl
  have c2 : w.cell? ⟨az.block, az.off + 2, none⟩ = some (.int .i64 ((b : Int))) := by simpa [Addr.add] using hcs 2 (.int .i64 ((b : Int))) rfl
  have c3 : w.cell? ⟨az.block, az.off + 3, none⟩ = some (.int .i64 (c)) := by simpa [Addr.add] using hcs 3 (.int .i64 (c)) rfl
  have q1 : (a : Int) < (many : Int) := by omega
  have q2 : (b : Int) < (many : Int) := by omega
  have hcall := fun (W : World) (hW : Below w.heap.size w W) => insertBefore_any (w := W) (h.below hW).nodes h.linked (n := B a) (c := B b) (l1 := (f.kids a).map B) (l2 := []) (h.node ha) (h.node hb) (by rw [h.kids a ha]; simp) (h.not_kid hf hb hp) (fun e => hne (h.inj a b ha hb e))
  simp only [ptr, Option.map_some, Option.map_none, List.head?_nil] at hla hlb hcall
  have hla' := fun o => cell_alloc_old o hla
  have hlb' := fun o => cell_alloc_old o hlb
  have c0' := fun o => cell_alloc_old o c0
  have c1' := fun o => cell_alloc_old o c1
  have c2' := fun o => cell_alloc_old o c2
  have c3' := fun o => cell_alloc_old o c3
  have hbw : ∀ o, Below w.heap.size w ((w.alloc o).drew) := fun o => ((Below.refl _ w).alloc (Nat.le_refl _) _).drew
  have hfresh := h.nodes.fresh
  clear hcs hs hl
  go_enter_defers Try.func27, Try.ntmps27
  go_wp2_with fail
  refine wp_still_tail 12 (by kernel_rfl) (by kernel_rfl) ?_
  simp only [List.take_succ_cons, List.take_zero, List.drop_succ_cons, List.drop_zero]
  repeat still_step
  try refine wpStill_nil ?_
  go_wp2_with (first
    | (go_at_call 32; go_must (refine (hcall _ (hbw _)).mono ?_; clear hcall; rintro e W1 ⟨rfl, G', hN, hL, hK⟩; have hbx := boxed_in hfresh hK; have kc := hbx.cell; have kf := hbx.frozen))
    | fail)
  refine leaves_ok (hbx.set _) rfl ⟨rfl, ⟨G', _, grove_own (h.turn ha hN (by simpa using hL) _) hfresh _⟩, spared_own hK hfresh _⟩

set_option maxRecDepth 100000 in
set_option maxHeartbeats 4000000 in
theorem planted_insert {base many : Nat} {B : Nat → Nat} {f : Wood} {D : Nat → Option Info} {G : Nat → Nat → Option Nat} {K : Nat → List Nat} {w : World} (h : Grove base many B f D G K w) (hf : f.Ok many)
    {al : Addr} {Cl : Nat} (hl : Lies w w.heap.size (some al) (ptrsV B many)) (hlc : many ≤ Cl) {az : Addr} {C a b : Nat} {c : Nat} {l1 l2 : List Nat} (ha : a < many) (hb : b < many) (hp : f.par b = none) (hne : a ≠ b) (hk : f.kids a = l1 ++ c :: l2)
    (hs : Lies w w.heap.size (some az) (intsV [1, (a : Int), (b : Int), (c : Int)])) (hC : 4 ≤ C) :
    Calls Try.prog 27 #[.slice (some al) many Cl, .slice (some az) 4 C] w fun e w' => e = .returned (.bool true) ∧ (∃ G' K', Grove base many B ⟨setP f.par b (some a), setL f.kids a (l1 ++ b :: c :: l2)⟩ D G' K' w') ∧ Spared D w w' := by
  have hmf : ∀ (fn : Fn) (first cap : Array Value) (w : World), (Instr.makeFunc fn first cap).run Try.prog w = .ok (.func fn first cap) w := fun _ _ _ _ => rfl
  have hcm : c < many := (hf.lt a c (by rw [hk]; simp)).2
  obtain ⟨ad, e1, _, hcs⟩ := hs.resolve_left (by simp)
  cases e1
  obtain ⟨ad2, e2, _, hla⟩ := hl.at_ (k := a) (u := ptr (some (B a))) (by simp [ha])
  cases e2
  obtain ⟨ad2, e2, _, hlb⟩ := hl.at_ (k := b) (u := ptr (some (B b))) (by simp [hb])
  cases e2
  obtain ⟨ad2, e2, _, hlc⟩ := hl.at_ (k := c) (u := ptr (some (B c))) (by simp [hcm])
  cases e2
  have c0 : w.cell? az = some (.int .i64 (1)) := hcs 0 _ rfl
  have c1 : w.cell? ⟨az.block, az.off + 1, none⟩ = some (.int .i64 ((a : Int))) := by simpa [Addr.add] using hcs 1 (.int .i64 ((a : Int))) rfl
  have c2 : w.cell? ⟨az.block, az.off + 2, none⟩ = some (.int .i64 ((b : Int))) := by simpa [Addr.add] using hcs 2 (.int .i64 ((b : Int))) rfl
  have c3 : w.cell? ⟨az.block, az.off + 3, none⟩ = some (.int .i64 ((c : Int))) := by simpa [Addr.add] using hcs 3 (.int .i64 ((c : Int))) rfl
  have q1 : (a : Int) < (many : Int) := by omega
  have q2 : (b : Int) < (many : Int) := by omega
  have q3 : (c : Int) < (many : Int) := by omega
  have q4 : (0 : Int) ≤ (c : Int) := by omega
  have hcall := fun (W : World) (hW : Below w.heap.size w W) => insertBefore_any (w := W) (h.below hW).nodes h.linked (n := B a) (c := B b) (l1 := l1.map B) (l2 := (c :: l2).map B) (h.node ha) (h.node hb) (by rw [h.kids a ha, hk]; simp) (h.not_kid hf hb hp) (fun e => hne (h.inj a b ha hb e))
  simp only [ptr, Option.map_some, Option.map_none, List.map_cons, List.head?_cons] at hla hlb hcall hlc
  have hla' := fun o => cell_alloc_old o hla
  have hlb' := fun o => cell_alloc_old o hlb
  have hlc' := fun o => cell_alloc_old o hlc
  have c0' := fun o => cell_alloc_old o c0
  have c1' := fun o => cell_alloc_old o c1
  have c2' := fun o => cell_alloc_old o c2
  have c3' := fun o => cell_alloc_old o c3
  have hbw : ∀ o, Below w.heap.size w ((w.alloc o).drew) := fun o => ((Below.refl _ w).alloc (Nat.le_refl _) _).drew
  have hfresh := h.nodes.fresh
  clear hcs hs hl
  go_enter_defers Try.func27, Try.ntmps27
  go_wp2_with fail
  refine wp_still_tail 18 (by kernel_rfl) (by kernel_rfl) ?_
  simp only [List.take_succ_cons, List.take_zero, List.drop_succ_cons, List.drop_zero]
  repeat still_step
  try refine wpStill_nil ?_
  go_wp2_with (first
    | (go_at_call 32; go_must (refine (hcall _ (hbw _)).mono ?_; clear hcall; rintro e W1 ⟨rfl, G', hN, hL, hK⟩; have hbx := boxed_in hfresh hK; have kc := hbx.cell; have kf := hbx.frozen))
    | fail)
  refine leaves_ok (hbx.set _) rfl ⟨rfl, ⟨G', _, grove_own (h.turn ha hN (by simpa using hL) _) hfresh _⟩, spared_own hK hfresh _⟩

set_option maxRecDepth 100000 in
set_option maxHeartbeats 4000000 in
theorem planted_remove {base many : Nat} {B : Nat → Nat} {f : Wood} {D : Nat → Option Info} {G : Nat → Nat → Option Nat} {K : Nat → List Nat} {w : World} (h : Grove base many B f D G K w) (hf : f.Ok many)
    {al : Addr} {Cl : Nat} (hl : Lies w w.heap.size (some al) (ptrsV B many)) (hlc : many ≤ Cl) {az : Addr} {C a b : Nat} {l1 l2 : List Nat} (ha : a < many) (hb : b < many) (hk : f.kids a = l1 ++ b :: l2)
    (hs : Lies w w.heap.size (some az) (intsV [2, (a : Int), (b : Int)])) (hC : 3 ≤ C) :
    Calls Try.prog 27 #[.slice (some al) many Cl, .slice (some az) 3 C] w fun e w' => e = .returned (.bool true) ∧ (∃ G' K', Grove base many B ⟨setP f.par b none, setL f.kids a (l1 ++ l2)⟩ D G' K' w') ∧ Spared D w w' := by
  have hmf : ∀ (fn : Fn) (first cap : Array Value) (w : World), (Instr.makeFunc fn first cap).run Try.prog w = .ok (.func fn first cap) w := fun _ _ _ _ => rfl
  obtain ⟨ad, e1, _, hcs⟩ := hs.resolve_left (by simp)
  cases e1
  obtain ⟨ad2, e2, _, hla⟩ := hl.at_ (k := a) (u := ptr (some (B a))) (by simp [ha])
  cases e2
  obtain ⟨ad2, e2, _, hlb⟩ := hl.at_ (k := b) (u := ptr (some (B b))) (by simp [hb])
  cases e2
  have c0 : w.cell? az = some (.int .i64 (2)) := hcs 0 _ rfl
  have c1 : w.cell? ⟨az.block, az.off + 1, none⟩ = some (.int .i64 ((a : Int))) := by simpa [Addr.add] using hcs 1 (.int .i64 ((a : Int))) rfl
  have c2 : w.cell? ⟨az.block, az.off + 2, none⟩ = some (.int .i64 ((b : Int))) := by simpa [Addr.add] using hcs 2 (.int .i64 ((b : Int))) rfl
  have q1 : (a : Int) < (many : Int) := by omega
  have q2 : (b : Int) < (many : Int) := by omega
  have hcall := fun (W : World) (hW : Below w.heap.size w W) => removeChild_any (w := W) (h.below hW).nodes h.linked (n := B a) (c := B b) (l1 := l1.map B) (l2 := l2.map B) (by rw [h.kids a ha, hk]; simp)
  simp only [ptr, Option.map_some, Option.map_none] at hla hlb hcall
  have hla' := fun o => cell_alloc_old o hla
  have hlb' := fun o => cell_alloc_old o hlb
  have c0' := fun o => cell_alloc_old o c0
  have c1' := fun o => cell_alloc_old o c1
  have c2' := fun o => cell_alloc_old o c2
  have hbw : ∀ o, Below w.heap.size w ((w.alloc o).drew) := fun o => ((Below.refl _ w).alloc (Nat.le_refl _) _).drew
  have hfresh := h.nodes.fresh
  clear hcs hs hl
  go_enter_defers Try.func27, Try.ntmps27
  go_wp2_with fail
  refine wp_still_tail 12 (by kernel_rfl) (by kernel_rfl) ?_
  simp only [List.take_succ_cons, List.take_zero, List.drop_succ_cons, List.drop_zero]
  repeat still_step
  try refine wpStill_nil ?_
  go_wp2_with (first
    | (go_at_call 31; go_must (refine (hcall _ (hbw _)).mono ?_; clear hcall; rintro e W1 ⟨rfl, G', hN, hL, hK⟩; have hbx := boxed_in hfresh hK; have kc := hbx.cell; have kf := hbx.frozen))
    | fail)
  refine leaves_ok (hbx.set _) rfl ⟨rfl, ⟨G', _, grove_own (h.turn ha hN (by simpa using hL) _) hfresh _⟩, spared_own hK hfresh _⟩

set_option maxRecDepth 100000 in
set_option maxHeartbeats 4000000 in
theorem planted_held0 {base many : Nat} {B : Nat → Nat} {f : Wood} {D : Nat → Option Info} {G : Nat → Nat → Option Nat} {K : Nat → List Nat} {w : World} (h : Grove base many B f D G K w) (hf : f.Ok many)
    {al : Addr} {Cl : Nat} (hl : Lies w w.heap.size (some al) (ptrsV B many)) (hlc : many ≤ Cl) {az : Addr} {C a b : Nat} (ha : a < many) (hb : b < many) {q : Nat} (hp : f.par b = some q)
    (hs : Lies w w.heap.size (some az) (intsV [0, (a : Int), (b : Int)])) (hC : 3 ≤ C) :
    Calls Try.prog 27 #[.slice (some al) many Cl, .slice (some az) 3 C] w fun e w' => e = .returned (.bool false) ∧ Grove base many B f D G K w' ∧ Spared D w w' := by
  have hmf : ∀ (fn : Fn) (first cap : Array Value) (w : World), (Instr.makeFunc fn first cap).run Try.prog w = .ok (.func fn first cap) w := fun _ _ _ _ => rfl
  obtain ⟨ad, e1, _, hcs⟩ := hs.resolve_left (by simp)
  cases e1
  obtain ⟨ad2, e2, _, hla⟩ := hl.at_ (k := a) (u := ptr (some (B a))) (by simp [ha])
  cases e2
  obtain ⟨ad2, e2, _, hlb⟩ := hl.at_ (k := b) (u := ptr (some (B b))) (by simp [hb])
  cases e2
  have c0 : w.cell? az = some (.int .i64 (0)) := hcs 0 _ rfl
  have c1 : w.cell? ⟨az.block, az.off + 1, none⟩ = some (.int .i64 ((a : Int))) := by simpa [Addr.add] using hcs 1 (.int .i64 ((a : Int))) rfl
  have c2 : w.cell? ⟨az.block, az.off + 2, none⟩ = some (.int .i64 ((b : Int))) := by simpa [Addr.add] using hcs 2 (.int .i64 ((b : Int))) rfl
  have q1 : (a : Int) < (many : Int) := by omega
  have q2 : (b : Int) < (many : Int) := by omega
  have hcall := fun (W : World) (hW : Below w.heap.size w W) => append_held (w := W) (h.below hW).nodes (n := B a) (h.data b hb) (p := B q) (by rw [h.parent hf hb, hp]; rfl)
  simp only [ptr, Option.map_some, Option.map_none] at hla hlb hcall
  have hla' := fun o => cell_alloc_old o hla
  have hlb' := fun o => cell_alloc_old o hlb
  have c0' := fun o => cell_alloc_old o c0
  have c1' := fun o => cell_alloc_old o c1
  have c2' := fun o => cell_alloc_old o c2
  have hbw : ∀ o, Below w.heap.size w ((w.alloc o).drew) := fun o => ((Below.refl _ w).alloc (Nat.le_refl _) _).drew
  have hfresh := h.nodes.fresh
  clear hcs hs hl
  go_enter_defers Try.func27, Try.ntmps27
  go_wp2_with fail
  refine wp_still_tail 12 (by kernel_rfl) (by kernel_rfl) ?_
  simp only [List.take_succ_cons, List.take_zero, List.drop_succ_cons, List.drop_zero]
  repeat still_step
  try refine wpStill_nil ?_
  go_wp2_with (first
    | (go_at_call 15; go_must (refine (hcall _ (hbw _)).mono ?_; clear hcall; rintro e W1 ⟨s, rfl, rfl⟩))
    | fail)
  refine leaves_bad (Boxed.new w 4 (.bool false)) rfl ⟨rfl, grove_own (h.below (hbw _)) hfresh _, spared_own (Kept.refl D _) hfresh _⟩

set_option maxRecDepth 100000 in
set_option maxHeartbeats 4000000 in
theorem planted_held1 {base many : Nat} {B : Nat → Nat} {f : Wood} {D : Nat → Option Info} {G : Nat → Nat → Option Nat} {K : Nat → List Nat} {w : World} (h : Grove base many B f D G K w) (hf : f.Ok many)
    {al : Addr} {Cl : Nat} (hl : Lies w w.heap.size (some al) (ptrsV B many)) (hlc : many ≤ Cl) {az : Addr} {C a b : Nat} {c : Int} (ha : a < many) (hb : b < many) {q : Nat} (hp : f.par b = some q) (hc : c < 0)
    (hs : Lies w w.heap.size (some az) (intsV [1, (a : Int), (b : Int), c])) (hC : 4 ≤ C) :
    Calls Try.prog 27 #[.slice (some al) many Cl, .slice (some az) 4 C] w fun e w' => e = .returned (.bool false) ∧ Grove base many B f D G K w' ∧ Spared D w w' := by
  have hmf : ∀ (fn : Fn) (first cap : Array Value) (w : World), (Instr.makeFunc fn first cap).run Try.prog w = .ok (.func fn first cap) w := fun _ _ _ _ => rfl
  obtain ⟨ad, e1, _, hcs⟩ := hs.resolve_left (by simp)
  cases e1
  obtain ⟨ad2, e2, _, hla⟩ := hl.at_ (k := a) (u := ptr (some (B a))) (by simp [ha])
  cases e2
  obtain ⟨ad2, e2, _, hlb⟩ := hl.at_ (k := b) (u := ptr (some (B b))) (by simp [hb])
  cases e2
  have c0 : w.cell? az = some (.int .i64 (1)) := hcs 0 _ rfl
  have c1 : w.cell? ⟨az.block, az.off + 1, none⟩ = some (.int .i64 ((a : Int))) := by simpa [Addr.add] using hcs 1 (.int .i64 ((a : Int))) rfl
  have c2 : w.cell? ⟨az.block, az.off + 2, none⟩ = some (.int .i64 ((b : Int))) := by simpa [Addr.add] using hcs 2 (.int .i64 ((b : Int))) rfl
  have c3 : w.cell? ⟨az.block, az.off + 3, none⟩ = some (.int .i64 (c)) := by simpa [Addr.add] using hcs 3 (.int .i64 (c)) rfl
  have q1 : (a : Int) < (many : Int) := by omega
  have q2 : (b : Int) < (many : Int) := by omega
  have hcall := fun (W : World) (hW : Below w.heap.size w W) => insert_held (w := W) (h.below hW).nodes (n := B a) (h.data b hb) (p := B q) (by rw [h.parent hf hb, hp]; rfl) none
  simp only [ptr, Option.map_some, Option.map_none] at hla hlb hcall
  have hla' := fun o => cell_alloc_old o hla
  have hlb' := fun o => cell_alloc_old o hlb
  have c0' := fun o => cell_alloc_old o c0
  have c1' := fun o => cell_alloc_old o c1
  have c2' := fun o => cell_alloc_old o c2
  have c3' := fun o => cell_alloc_old o c3
  have hbw : ∀ o, Below w.heap.size w ((w.alloc o).drew) := fun o => ((Below.refl _ w).alloc (Nat.le_refl _) _).drew
  have hfresh := h.nodes.fresh
  clear hcs hs hl
  go_enter_defers Try.func27, Try.ntmps27
  go_wp2_with fail
  refine wp_still_tail 12 (by kernel_rfl) (by kernel_rfl) ?_
  simp only [List.take_succ_cons, List.take_zero, List.drop_succ_cons, List.drop_zero]
  repeat still_step
  try refine wpStill_nil ?_
  go_wp2_with (first
    | (go_at_call 32; go_must (refine (hcall _ (hbw _)).mono ?_; clear hcall; rintro e W1 ⟨s, rfl, rfl⟩))
    | fail)
  refine leaves_bad (Boxed.new w 4 (.bool false)) rfl ⟨rfl, grove_own (h.below (hbw _)) hfresh _, spared_own (Kept.refl D _) hfresh _⟩

set_option maxRecDepth 100000 in
set_option maxHeartbeats 4000000 in
theorem planted_held2 {base many : Nat} {B : Nat → Nat} {f : Wood} {D : Nat → Option Info} {G : Nat → Nat → Option Nat} {K : Nat → List Nat} {w : World} (h : Grove base many B f D G K w) (hf : f.Ok many)
    {al : Addr} {Cl : Nat} (hl : Lies w w.heap.size (some al) (ptrsV B many)) (hlc : many ≤ Cl) {az : Addr} {C a b : Nat} {c : Nat} (ha : a < many) (hb : b < many) {q : Nat} (hp : f.par b = some q) (hcm : c < many)
    (hs : Lies w w.heap.size (some az) (intsV [1, (a : Int), (b : Int), (c : Int)])) (hC : 4 ≤ C) :
    Calls Try.prog 27 #[.slice (some al) many Cl, .slice (some az) 4 C] w fun e w' => e = .returned (.bool false) ∧ Grove base many B f D G K w' ∧ Spared D w w' := by
  have hmf : ∀ (fn : Fn) (first cap : Array Value) (w : World), (Instr.makeFunc fn first cap).run Try.prog w = .ok (.func fn first cap) w := fun _ _ _ _ => rfl
  obtain ⟨ad, e1, _, hcs⟩ := hs.resolve_left (by simp)
  cases e1
  obtain ⟨ad2, e2, _, hla⟩ := hl.at_ (k := a) (u := ptr (some (B a))) (by simp [ha])
  cases e2
  obtain ⟨ad2, e2, _, hlb⟩ := hl.at_ (k := b) (u := ptr (some (B b))) (by simp [hb])
  cases e2
  obtain ⟨ad2, e2, _, hlc⟩ := hl.at_ (k := c) (u := ptr (some (B c))) (by simp [hcm])
  cases e2
  have c0 : w.cell? az = some (.int .i64 (1)) := hcs 0 _ rfl
  have c1 : w.cell? ⟨az.block, az.off + 1, none⟩ = some (.int .i64 ((a : Int))) := by simpa [Addr.add] using hcs 1 (.int .i64 ((a : Int))) rfl
  have c2 : w.cell? ⟨az.block, az.off + 2, none⟩ = some (.int .i64 ((b : Int))) := by simpa [Addr.add] using hcs 2 (.int .i64 ((b : Int))) rfl
  have c3 : w.cell? ⟨az.block, az.off + 3, none⟩ = some (.int .i64 ((c : Int))) := by simpa [Addr.add] using hcs 3 (.int .i64 ((c : Int))) rfl
  have q1 : (a : Int) < (many : Int) := by omega
  have q2 : (b : Int) < (many : Int) := by omega
  have q3 : (c : Int) < (many : Int) := by omega
  have q4 : (0 : Int) ≤ (c : Int) := by omega
  have hcall := fun (W : World) (hW : Below w.heap.size w W) => insert_held (w := W) (h.below hW).nodes (n := B a) (h.data b hb) (p := B q) (by rw [h.parent hf hb, hp]; rfl) (some (B c))
  simp only [ptr, Option.map_some, Option.map_none] at hla hlb hcall hlc
  have hla' := fun o => cell_alloc_old o hla
  have hlb' := fun o => cell_alloc_old o hlb
  have hlc' := fun o => cell_alloc_old o hlc
  have c0' := fun o => cell_alloc_old o c0
  have c1' := fun o => cell_alloc_old o c1
  have c2' := fun o => cell_alloc_old o c2
  have c3' := fun o => cell_alloc_old o c3
  have hbw : ∀ o, Below w.heap.size w ((w.alloc o).drew) := fun o => ((Below.refl _ w).alloc (Nat.le_refl _) _).drew
  have hfresh := h.nodes.fresh
  clear hcs hs hl
  go_enter_defers Try.func27, Try.ntmps27
  go_wp2_with fail
  refine wp_still_tail 18 (by kernel_rfl) (by kernel_rfl) ?_
  simp only [List.take_succ_cons, List.take_zero, List.drop_succ_cons, List.drop_zero]
  repeat still_step
  try refine wpStill_nil ?_
  go_wp2_with (first
    | (go_at_call 32; go_must (refine (hcall _ (hbw _)).mono ?_; clear hcall; rintro e W1 ⟨s, rfl, rfl⟩))
    | fail)
  refine leaves_bad (Boxed.new w 4 (.bool false)) rfl ⟨rfl, grove_own (h.below (hbw _)) hfresh _, spared_own (Kept.refl D _) hfresh _⟩

set_option maxRecDepth 100000 in
set_option maxHeartbeats 4000000 in
theorem planted_strange {base many : Nat} {B : Nat → Nat} {f : Wood} {D : Nat → Option Info} {G : Nat → Nat → Option Nat} {K : Nat → List Nat} {w : World} (h : Grove base many B f D G K w) (hf : f.Ok many)
    {al : Addr} {Cl : Nat} (hl : Lies w w.heap.size (some al) (ptrsV B many)) (hlc : many ≤ Cl) {az : Addr} {C a b : Nat} (ha : a < many) (hb : b < many) (hp : f.par b ≠ some a)
    (hs : Lies w w.heap.size (some az) (intsV [2, (a : Int), (b : Int)])) (hC : 3 ≤ C) :
    Calls Try.prog 27 #[.slice (some al) many Cl, .slice (some az) 3 C] w fun e w' => e = .returned (.bool false) ∧ Grove base many B f D G K w' ∧ Spared D w w' := by
  have hmf : ∀ (fn : Fn) (first cap : Array Value) (w : World), (Instr.makeFunc fn first cap).run Try.prog w = .ok (.func fn first cap) w := fun _ _ _ _ => rfl
  obtain ⟨ad, e1, _, hcs⟩ := hs.resolve_left (by simp)
  cases e1
  obtain ⟨ad2, e2, _, hla⟩ := hl.at_ (k := a) (u := ptr (some (B a))) (by simp [ha])
  cases e2
  obtain ⟨ad2, e2, _, hlb⟩ := hl.at_ (k := b) (u := ptr (some (B b))) (by simp [hb])
  cases e2
  have c0 : w.cell? az = some (.int .i64 (2)) := hcs 0 _ rfl
  have c1 : w.cell? ⟨az.block, az.off + 1, none⟩ = some (.int .i64 ((a : Int))) := by simpa [Addr.add] using hcs 1 (.int .i64 ((a : Int))) rfl
  have c2 : w.cell? ⟨az.block, az.off + 2, none⟩ = some (.int .i64 ((b : Int))) := by simpa [Addr.add] using hcs 2 (.int .i64 ((b : Int))) rfl
  have q1 : (a : Int) < (many : Int) := by omega
  have q2 : (b : Int) < (many : Int) := by omega
  have hpar := h.parent hf hb
  have hpq : ∀ q, G (B b) 0 = some q → ∃ x, D q = some x := fun q hq => by
    rw [hpar] at hq
    obtain ⟨p, hp2, rfl⟩ := Option.map_eq_some_iff.1 hq
    exact ⟨_, h.data p (hf.lt p b ((hf.kid p b).2 hp2)).1⟩
  have hpa : G (B b) 0 ≠ some (B a) := fun e => by
    rw [hpar] at e
    obtain ⟨p, hp2, e2⟩ := Option.map_eq_some_iff.1 e
    have := h.inj p a (hf.lt p b ((hf.kid p b).2 hp2)).1 ha e2
    rw [this] at hp2
    exact hp hp2
  have hcall := fun (W : World) (hW : Below w.heap.size w W) => remove_strange (w := W) (h.below hW).nodes (n := B a) (h.data a ha) (h.data b hb) hpq hpa
  simp only [ptr, Option.map_some, Option.map_none] at hla hlb hcall
  have hla' := fun o => cell_alloc_old o hla
  have hlb' := fun o => cell_alloc_old o hlb
  have c0' := fun o => cell_alloc_old o c0
  have c1' := fun o => cell_alloc_old o c1
  have c2' := fun o => cell_alloc_old o c2
  have hbw : ∀ o, Below w.heap.size w ((w.alloc o).drew) := fun o => ((Below.refl _ w).alloc (Nat.le_refl _) _).drew
  have hfresh := h.nodes.fresh
  clear hcs hs hl
  go_enter_defers Try.func27, Try.ntmps27
  go_wp2_with fail
  refine wp_still_tail 12 (by kernel_rfl) (by kernel_rfl) ?_
  simp only [List.take_succ_cons, List.take_zero, List.drop_succ_cons, List.drop_zero]
  repeat still_step
  try refine wpStill_nil ?_
  go_wp2_with (first
    | (go_at_call 31; go_must (refine (hcall _ (hbw _)).mono ?_; clear hcall; rintro e W1 ⟨s, rfl, rfl⟩))
    | fail)
  refine leaves_bad (Boxed.new w 4 (.bool false)) rfl ⟨rfl, grove_own (h.below (hbw _)) hfresh _, spared_own (Kept.refl D _) hfresh _⟩
end Go.Proofs.Ytgbeohhegckonaa
