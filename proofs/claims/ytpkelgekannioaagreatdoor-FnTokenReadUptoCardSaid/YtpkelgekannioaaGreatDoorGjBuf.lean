/- A bytes.Buffer whose row may bear a mark beyond its cells: all that writes into it. Conditions: sizes below 2^47. -/
import Derived.Test.YtpkelgekannioaaGreatDoorGcFacts
import Derived.Test.YtpkelgekannioaaGreatDoorGaEsc
import Derived.Shelf.RegionOpenPlain
import Derived.RegionTactic
import Derived.Deep.RegionWith
import Derived.Deep.Draws
import Derived.Lib.BufferGrow
import Derived.Lib.LazyBuf
import Derived.Defers
import Derived.Recover
set_option linter.unusedSimpArgs false
set_option linter.unusedVariables false

namespace Go.Proofs.YtpkelgekannioaaGreatDoor
open Go.RowKit Go.Shelf Go.BigFrame
set_option linter.unusedSimpArgs false
set_option linter.unusedVariables false

/-- A row's mark lies beyond its cells. -/
def Fine (fz : Nat × Nat) (cap : Nat) : Prop := cap ≤ fz.1 ∨ fz.2 = 0
theorem Fine.frz {w : World} {g i cap : Nat} {cs : Array Value} {t : TypeId} {fz : Nat × Nat} (hf : Fine fz cap) (h : w.heap[g]? = some (.cells cs t fz)) (hi : i < cap) : w.frozen? ⟨g, i, none⟩ = false := by
  rcases hf with hf | hf
  · simp [World.frozen?, h]
    omega
  · simp [World.frozen?, h, hf]

/-- Block b is a buffer over the row g, which has cap cells and is not marked within them. -/
def Mk (B b g cap : Nat) (bs : List Value) (w : World) : Prop :=
  B ≤ b ∧ B ≤ g ∧ g ≠ b ∧ 0 < bs.length ∧ bs.length ≤ cap ∧ cap ≤ maxLen ∧
  ∃ lr cur fz, w.heap[b]? = some (.cells #[.slice (some ⟨g, 0, none⟩) bs.length cap, .int .i64 0, .int .i8 lr] 77 (0, 0)) ∧
    w.heap[g]? = some (.cells cur 5 fz) ∧ Fine fz cap ∧ cur.size = cap ∧ cur.toList.take bs.length = bs

theorem sz5 : (Tryz.prog.info? 5).map (·.size) = some 1 := by kernel_rfl

theorem heap_setCells {g : Nat} {t : TypeId} {fz : Nat × Nat} : ∀ (vs : List Value) (o : Nat) (cur : Array Value) (w : World), w.heap[g]? = some (.cells cur t fz) → o + vs.length ≤ cur.size →
    (w.setCells g o vs).heap[g]? = some (.cells (cur.toList.take o ++ vs ++ cur.toList.drop (o + vs.length)).toArray t fz)
  | [], o, cur, w, h, _ => by
    rw [World.setCells, h]
    simp
  | v :: vs, o, cur, w, h, hl => by
    have hlt : o < cur.toList.length := by simp at hl ⊢; omega
    rw [World.setCells, heap_setCells vs (o + 1) _ _ (blk_set' h o v) (by simp at hl ⊢; omega)]
    congr 3
    rw [Array.toList_setIfInBounds, List.take_add_one, List.take_set_of_le (Nat.le_refl _), List.getElem?_set_self hlt, List.drop_set_of_lt (by omega)]
    simp [Nat.add_assoc, Nat.add_comm 1]

theorem heap_setCells_ne {g k : Nat} (h : k ≠ g) : ∀ (vs : List Value) (o : Nat) (w : World), (w.setCells g o vs).heap[k]? = w.heap[k]?
  | [], _, _ => rfl
  | v :: vs, o, w => by rw [World.setCells, heap_setCells_ne h vs, Below.heap_setCell _ _ _ _ h]

set_option maxHeartbeats 2000000 in
set_option maxRecDepth 100000 in
theorem len_mk (b : Nat) (ao : Option Addr) (l cap : Nat) (lr : Int) (w : World) (hbk : w.heap[b]? = some (.cells #[.slice ao l cap, .int .i64 0, .int .i8 lr] 77 (0, 0))) (hl : l ≤ 140737488355328) :
    Calls Tryz.prog 80 #[.pointer (some ⟨b, 0, none⟩)] w fun e w' => e = .returned (.int .i64 l) ∧ ∃ n, w' = w.drewN n := by
  have c0 : w.cell? ⟨b, 0, none⟩ = some (.slice ao l cap) := by rw [Lib.cell_of_heap hbk]; rfl
  have c1 : w.cell? ⟨b, 1, none⟩ = some (.int .i64 0) := by rw [Lib.cell_of_heap hbk]; rfl
  clear hbk
  have mixed : Tryz.prog.follows Departure.mixedOrders = true := by kernel_rfl
  go_enter Tryz.func80, Tryz.ntmps80
  go_wp2
  go_region_o
  all_goals (go_wp2; go_ret; exact ⟨rfl, 1, rfl⟩)

set_option maxHeartbeats 8000000 in
set_option maxRecDepth 100000 in
/-- growSlice at a row with any mark: a new row without one. -/
theorem growSlice_mk (g l c n : Nat) (cur : Array Value) (fz : Nat × Nat) (w : World) (hg : w.heap[g]? = some (.cells cur 5 fz)) (hcs : cur.size = c) (hlc : l ≤ c) (hn : 1 ≤ n)
    (hlim : l + n ≤ 140737488355328) (hc2 : c ≤ 140737488355328) (h1 : ∀ v ∈ cur.toList.take l, v.oneCell' = true) :
    Calls Tryz.prog 82 #[.slice (some ⟨g, 0, none⟩) l c, .int .i64 n] w fun e w' => ∃ cap2 cells, e = .returned (.slice (some ⟨w.heap.size, 0, none⟩) l cap2) ∧ w'.heap[w.heap.size]? = some (.cells cells 5 (0, 0)) ∧
      cells.size = cap2 ∧ cells.toList.take l = cur.toList.take l ∧ l + n ≤ cap2 ∧ cap2 ≤ maxLen ∧ Below w.heap.size w w' := by
  obtain ⟨i0, hi, hz0, hz1, hz2⟩ := info_parts Tryz.laysM290.i5
  obtain ⟨C, hC, hCe⟩ : ∃ C : Nat, C = (if l + n < 2 * c then 2 * c else l + n) ∧ l + n ≤ C ∧ C ≤ 281474976710656 := ⟨_, rfl, by split <;> omega, by split <;> omega⟩
  have happ := Lib.run_append_nil_zeros (P := Tryz.prog) w 45 3 45 5 i0 (.int .u8 0) .i64 .i64 Tryz.underlying45 Tryz.underlying3 hi hz0 C (by omega) (by omega) (by omega) (by rw [hz2]; omega)
  have hcapge := grownCap_ge w C 0 5
  have hcaple : grownCap w C 0 5 ≤ maxLen := grownCap_le_maxLen w _ 0 5 (by unfold maxLen; omega)
  generalize grownCap w C 0 5 = cap2 at happ hcapge hcaple
  generalize hZ : (Builtin.zeroCells (Value.int .u8 0).cells C ++ Builtin.zeroCells (Value.int .u8 0).cells (cap2 - C)) = Z at happ
  have hZs : Z.size = cap2 := by rw [← hZ]; simp [size_zeroCells, Value.cells]; omega
  clear hZ
  have hgl := Lib.lt_of_heap hg
  have hg1 : (w.alloc (.cells Z 5)).drew.heap[g]? = some (.cells cur 5 fz) := (RowKit.Below.heap_alloc w _ g hgl).trans hg
  have hxl : (cur.toList.take l).length = l := by rw [List.length_take, Array.length_toList]; omega
  have hcopy := run_copy_row (P := Tryz.prog) (w.alloc (.cells Z 5)).drew 45 45 3 5 w.heap.size 0 C cap2 ⟨g, 0, none⟩ l c Z 5 (cur.toList.take l) Tryz.underlying45 sz5 (heap_alloc_new w _) (by rw [hxl]; exact (Nat.min_eq_left (by omega)).symm) (Lib.cells_of_row hg1 l) (by rw [hxl]; omega) h1
  rw [hxl] at hcopy
  generalize hY : (Z.toList.take 0 ++ cur.toList.take l ++ Z.toList.drop (0 + l)).toArray = Y at hcopy
  have hYl : Y.toList = cur.toList.take l ++ Z.toList.drop l := by rw [← hY]; simp
  have hYs : Y.size = cap2 := by
    rw [← Array.length_toList, hYl, List.length_append, hxl, List.length_drop, Array.length_toList, hZs]
    omega
  have hYt : Y.toList.take l = cur.toList.take l := by rw [hYl, List.take_append_of_le_length (by rw [hxl]; exact Nat.le_refl _), List.take_of_length_le (by rw [hxl]; exact Nat.le_refl _)]
  clear hY hYl
  by_cases hcase : l + n < 2 * c
  · rw [if_pos hcase] at hC
    rw [show (C : Int) = 2 * (c : Int) by omega] at happ
    subst hC
    go_enter_defers Tryz.func82, Tryz.ntmps82
    go_wp2_with (at_builtin; refine Lib.wpList_append_run _ rfl _ _ _ _ rfl _ _ rfl rfl _ _ happ ?_)
    refine leaves_cons (f := 91) (args := #[]) (by simp) (enters_of Tryz.func91 (by kernel_rfl) rfl _ _) ?_
    refine (Tryz.growSlice_catch_idle _).mono ?_
    rintro e u' w'' ⟨rfl, rfl, rfl⟩
    refine ⟨_, results_tmp rfl _ _ _, ?_⟩
    exact ⟨cap2, Y, rfl, setRow_heap _ _ Z Y 5 (0, 0) (heap_alloc_new w _), hYs, hYt, by omega, hcaple, rfl, rfl, rfl, by simp, fun k hk => by rw [setRow_other _ _ _ _ (by omega)]; exact Below.heap_alloc w _ k hk⟩
  · rw [if_neg hcase] at hC
    rw [show (C : Int) = (l : Int) + (n : Int) by omega] at happ
    subst hC
    go_enter_defers Tryz.func82, Tryz.ntmps82
    go_wp2_with (at_builtin; refine Lib.wpList_append_run _ rfl _ _ _ _ rfl _ _ rfl rfl _ _ happ ?_)
    refine leaves_cons (f := 91) (args := #[]) (by simp) (enters_of Tryz.func91 (by kernel_rfl) rfl _ _) ?_
    refine (Tryz.growSlice_catch_idle _).mono ?_
    rintro e u' w'' ⟨rfl, rfl, rfl⟩
    refine ⟨_, results_tmp rfl _ _ _, ?_⟩
    exact ⟨cap2, Y, rfl, setRow_heap _ _ Z Y 5 (0, 0) (heap_alloc_new w _), hYs, hYt, by omega, hcaple, rfl, rfl, rfl, by simp, fun k hk => by rw [setRow_other _ _ _ _ (by omega)]; exact Below.heap_alloc w _ k hk⟩

set_option maxHeartbeats 12800000 in
set_option maxRecDepth 100000 in
/-- grow where the marked row has no room: the buffer has a row of its own behind it. -/
theorem grow_mk (B b g cap n : Nat) (bs : List Value) (w : World) (h : Mk B b g cap bs w) (hBw : B ≤ w.heap.size) (h1 : ∀ v ∈ bs, v.oneCell' = true) (hn : 1 ≤ n) (hroom : cap - bs.length < n) (hlim : bs.length + n ≤ 140737488355328) :
    Calls Tryz.prog 69 #[.pointer (some ⟨b, 0, none⟩), .int .i64 n] w fun e w' => e = .returned (.int .i64 bs.length) ∧ ∃ xs, xs.length = n ∧ Lib.IsBuffer 77 5 B b (bs ++ xs) w' ∧ Below B w w' ∧ Lib.OthersKept 5 (some b) w w' := by
  obtain ⟨hB, hBg, hgb, hpos, hlc, hcm, lr, cur, fz, hbk, hg, hfz, hcs, htake⟩ := h
  obtain ⟨l, hl⟩ : ∃ l, bs.length = l := ⟨_, rfl⟩
  rw [hl] at hpos hlc hbk htake hroom hlim ⊢
  have hnil : ∀ W, (binOp .eql 45 (.slice (some ⟨g, 0, none⟩) l cap) (.slice none 0 0)).run Tryz.prog W = .ok (.bool false) W := fun W => Lib.run_eql_slice_some_nil W _ _ _ Tryz.underlying45
  have mixed : Tryz.prog.follows Departure.mixedOrders = true := by kernel_rfl
  go_enter Tryz.func69, Tryz.ntmps69
  have HL := Lib.hid hl
  clear hl
  have hcm' := hcm
  unfold maxLen at hcm'
  go_wp2_with (go_at_call 80; go_must (refine (len_mk b _ l cap lr _ hbk (by omega)).mono ?_; rintro e W0 ⟨rfl, k, hW0⟩; have HW0 := Lib.hid hW0; clear hW0))
  have hbk0 : W0.heap[b]? = some (.cells #[.slice (some ⟨g, 0, none⟩) l cap, .int .i64 0, .int .i8 lr] 77 (0, 0)) := by rw [HW0.out]; exact hbk
  have hg0 : W0.heap[g]? = some (.cells cur 5 fz) := by rw [HW0.out]; exact hg
  have c0 : W0.cell? ⟨b, 0, none⟩ = some (.slice (some ⟨g, 0, none⟩) l cap) := by rw [Lib.cell_of_heap hbk0]; rfl
  have c1 : W0.cell? ⟨b, 1, none⟩ = some (.int .i64 0) := by rw [Lib.cell_of_heap hbk0]; rfl
  have f0 : W0.frozen? ⟨b, 0, none⟩ = false := Lib.frozen_of_heap hbk0 0
  have f1 : W0.frozen? ⟨b, 1, none⟩ = false := Lib.frozen_of_heap hbk0 1
  go_wp2_with (go_at_call 68; go_must (refine (Tryz.Buffer_tryGrow_none b _ l cap n _ c0 hlc hcm hroom).mono ?_; rintro e w' ⟨rfl, rfl⟩))
  have hc2 : cap ≤ 140737488355328 := by omega
  have h1' : ∀ v ∈ cur.toList.take l, v.oneCell' = true := by rw [htake]; exact h1
  have hbW := Lib.lt_of_heap hbk0
  have hwn : IntKind.i64.wrap (n : Int) = n := by rw [IntKind.wrap_i64]; omega
  go_region_with_o (
      go_at_call 82
      refine (growSlice_mk g l cap n cur fz _ ?_ hcs hlc hn hlim hc2 h1').mono ?_
      exact hg0
      rintro e w2 ⟨cap2, cells, rfl, hN, hcsz, htk, hcap2, hcm2, hbel⟩
      have hbk2 : w2.heap[b]? = some (.cells #[.slice (some ⟨g, 0, none⟩) l cap, .int .i64 0, .int .i8 lr] 77 (0, 0)) := (hbel.block b hbW).trans hbk0
      have d0 : w2.cell? ⟨b, 0, none⟩ = some (.slice (some ⟨g, 0, none⟩) l cap) := by rw [Lib.cell_of_heap hbk2]; rfl
      have d1 : w2.cell? ⟨b, 1, none⟩ = some (.int .i64 0) := by rw [Lib.cell_of_heap hbk2]; rfl
      have e0 : w2.frozen? ⟨b, 0, none⟩ = false := Lib.frozen_of_heap hbk2 0
      have e1 : w2.frozen? ⟨b, 1, none⟩ = false := Lib.frozen_of_heap hbk2 1)
  all_goals (
    go_wp2
    go_ret
    have hsz0 : w'.heap.size = w.heap.size := by rw [HW0.out]; rfl
    have hb0 : Below B w w'.drew := by rw [HW0.out]; exact ⟨rfl, rfl, rfl, Nat.le_refl _, fun _ _ => rfl⟩
    obtain ⟨xs, q1, q2, q3⟩ := Lib.grow_end hB hbk2 hN (by show B ≤ w'.heap.size; omega) (by show w'.heap.size ≠ b; omega) hcsz (htk.trans htake) hcap2 hcm2 (hb0.trans (hbel.mono (by show B ≤ w'.heap.size; omega))) _
    have hk2 : Lib.OthersKept 5 (some b) w w2 := Lib.OthersKept.below (w := w'.drew) (by rw [HW0.out]; exact fun _ _ h _ _ => h) hbel
    exact ⟨rfl, xs, q1, q2, q3, ((hk2.setCell ⟨b, 0, none⟩ rfl _).setCell ⟨b, 1, none⟩ rfl _).setCell ⟨b, 0, none⟩ rfl _⟩)

/-- grow, with what it lays told. -/
theorem grow_mk2 (B b g cap n l : Nat) (bs : List Value) (w : World) (hl : bs.length = l) (h : Mk B b g cap bs w) (hBw : B ≤ w.heap.size) (h1 : ∀ v ∈ bs, v.oneCell' = true) (hn : 1 ≤ n) (hroom : cap - l < n) (hlim : l + n ≤ 140737488355328) :
    Calls Tryz.prog 69 #[.pointer (some ⟨b, 0, none⟩), .int .i64 n] w fun e w' => e = .returned (.int .i64 l) ∧ ∃ lr g2 cap2 cur, w'.heap[b]? = some (.cells #[.slice (some ⟨g2, 0, none⟩) (l + n) cap2, .int .i64 0, .int .i8 lr] 77 (0, 0)) ∧ B ≤ g2 ∧
      w'.heap[g2]? = some (.cells cur 5 (0, 0)) ∧ l + n ≤ cap2 ∧ cap2 ≤ maxLen ∧ cur.size = cap2 ∧ cur.toList.take l = bs ∧ g2 ≠ b ∧ Below B w w' ∧ Lib.OthersKept 5 (some b) w w' := by
  subst hl
  refine (grow_mk B b g cap n bs w h hBw h1 hn hroom hlim).mono ?_
  rintro e w' ⟨rfl, xs, hxl, hI, hb⟩
  refine ⟨rfl, ?_⟩
  obtain ⟨-, lr2, hc⟩ := hI.cases
  rcases hc with ⟨hnil, -⟩ | ⟨g2, cap2, cur, hbk2, hBg, hg, hnc, hcm, hcs, htk, hgb⟩
  · exact absurd (congrArg List.length hnil) (by rw [List.length_append, hxl, List.length_nil]; omega)
  · rw [List.length_append, hxl] at hbk2 hnc htk
    refine ⟨lr2, g2, cap2, cur, hbk2, hBg, hg, hnc, hcm, hcs, ?_, hgb, hb⟩
    have h3 := congrArg (List.take bs.length) htk
    rwa [List.take_take, Nat.min_eq_left (Nat.le_add_right _ _), List.take_left' rfl] at h3

end Go.Proofs.YtpkelgekannioaaGreatDoor

namespace Go.Proofs.YtpkelgekannioaaGreatDoor
open Go.RowKit Go.Shelf Go.BigFrame
open Go.Proofs.YtpkelgekannioaaGreatDoorW.PrintWords
set_option linter.unusedSimpArgs false
set_option linter.unusedVariables false

/-- A buffer that has been written, its row marked beyond its cells or not. -/
def Buf (B b : Nat) (bs : List Value) (w : World) : Prop := Lib.IsBuffer 77 5 B b bs w ∨ ∃ g cap, Mk B b g cap bs w

theorem Mk.old {B b g cap : Nat} {bs : List Value} {w w' : World} (h : Mk B b g cap bs w) (hb : Below w.heap.size w w') : Mk B b g cap bs w' := by
  obtain ⟨h1, h2, h3, h4, h5, h6, lr, cur, fz, hbk, hg, hc⟩ := h
  exact ⟨h1, h2, h3, h4, h5, h6, lr, cur, fz, (hb.block b (Lib.lt_of_heap hbk)).trans hbk, (hb.block g (Lib.lt_of_heap hg)).trans hg, hc⟩
theorem Buf.old {B b : Nat} {bs : List Value} {w w' : World} (h : Buf B b bs w) (hb : Below w.heap.size w w') : Buf B b bs w' := by
  rcases h with h | ⟨g, cap, h⟩
  · exact .inl (h.old hb)
  · exact .inr ⟨g, cap, h.old hb⟩
theorem Buf.drew {B b : Nat} {bs : List Value} {w : World} (h : Buf B b bs w) : Buf B b bs w.drew := by
  rcases h with h | ⟨g, cap, h⟩
  · exact .inl h.drew
  · exact .inr ⟨g, cap, h⟩

theorem take_le' {α : Type} {l m : List α} {n : Nat} (h : l.take n = m) (k : Nat) (hk : k ≤ n) : l.take k = m.take k := by
  rw [← h, List.take_take, Nat.min_eq_left hk]

theorem below_setCells' {B g : Nat} (hg : B ≤ g) : ∀ (vs : List Value) (o : Nat) (w : World) {a : World}, Below B a w → Below B a (w.setCells g o vs)
  | [], _, _, _, h => h
  | v :: vs, o, w, _, h => below_setCells' hg vs (o + 1) _ (h.setCell (p := ⟨g, o, none⟩) hg v)

theorem kept_setCells {g : Nat} {fz : Nat × Nat} {bo : Option Nat} {a : World} : ∀ (vs : List Value) (o : Nat) (w : World) (cur : Array Value), w.heap[g]? = some (.cells cur 5 fz) → Lib.OthersKept 5 bo a w → Lib.OthersKept 5 bo a (w.setCells g o vs)
  | [], _, _, _, _, h => h
  | v :: vs, o, w, cur, hg, h => kept_setCells vs (o + 1) _ _ (blk_set' hg o v) (h.setRowCell hg o v)

theorem mk_written {B b g cap l : Nat} {lr : Int} {cur : Array Value} {fz : Nat × Nat} {bs news : List Value} {w W : World} (hB : B ≤ b) (hBg : B ≤ g) (hgb : g ≠ b) (hpos : 0 < l) (hcm : cap ≤ maxLen) (hl : bs.length = l)
    (hbk : W.heap[b]? = some (.cells #[.slice (some ⟨g, 0, none⟩) (l + news.length) cap, .int .i64 0, .int .i8 lr] 77 (0, 0))) (hg : W.heap[g]? = some (.cells cur 5 fz)) (hfz : Fine fz cap) (hcs : cur.size = cap) (htake : cur.toList.take l = bs) (hn : l + news.length ≤ cap) (hbel : Below B w W) (hk : Lib.OthersKept 5 (some b) w W) :
    Mk B b g cap (bs ++ news) (W.setCells g l news) ∧ Below B w (W.setCells g l news) ∧ Lib.OthersKept 5 (some b) w (W.setCells g l news) := by
  have hlen : (bs ++ news).length = l + news.length := by rw [List.length_append, hl]
  refine ⟨⟨hB, hBg, hgb, by omega, by omega, hcm, lr, _, fz, ?_, heap_setCells news l cur W hg (by omega), hfz, ?_, ?_⟩, below_setCells' hBg news l W hbel, kept_setCells news l W cur hg hk⟩
  · rw [heap_setCells_ne (Ne.symm hgb), hlen]; exact hbk
  · simp only [List.size_toArray, List.length_append, List.length_take, List.length_drop, Array.length_toList]
    omega
  · rw [htake, List.toList_toArray, List.take_append_of_le_length (Nat.le_refl _), List.take_of_length_le (Nat.le_refl _)]

set_option maxHeartbeats 8000000 in
set_option maxRecDepth 100000 in
theorem writeByte_mk (B b g cap : Nat) (bs : List Value) (c : Int) (w : World) (h : Mk B b g cap bs w) (hBw : B ≤ w.heap.size) (h1 : ∀ v ∈ bs, v.oneCell' = true) (hlim : bs.length + 1 ≤ 140737488355328) :
    Calls Tryz.prog 49 #[.pointer (some ⟨b, 0, none⟩), .int .u8 c] w fun e w' => e = .returned .nilIface ∧ Buf B b (bs ++ [.int .u8 c]) w' ∧ Below B w w' ∧ Lib.OthersKept 5 (some b) w w' := by
  obtain ⟨hB, hBg, hgb, hpos, hlc, hcm, lr, cur, fz, hbk, hg, hfz, hcs, htake⟩ := h
  have c2 : w.cell? ⟨b, 2, none⟩ = some (.int .i8 lr) := by rw [Lib.cell_of_heap hbk]; rfl
  have f2 : w.frozen? ⟨b, 2, none⟩ = false := Lib.frozen_of_heap hbk 2
  have hbk1 := Lib.heap_setCell_same (i := 2) hbk (.int .i8 0)
  have hg1 : (w.setCell ⟨b, 2, none⟩ (.int .i8 0)).heap[g]? = some (.cells cur 5 fz) := (Below.heap_setCell _ _ _ _ hgb).trans hg
  have hbel1 : Below B w (w.setCell ⟨b, 2, none⟩ (.int .i8 0)) := (Below.refl B w).setCell (p := ⟨b, 2, none⟩) hB _
  have hk1 : Lib.OthersKept 5 (some b) w (w.setCell ⟨b, 2, none⟩ (.int .i8 0)) := (Lib.OthersKept.refl _ _ w).setCell ⟨b, 2, none⟩ rfl _
  have hsz1 : B ≤ (w.setCell ⟨b, 2, none⟩ (.int .i8 0)).heap.size := by simpa [World.setCell] using hBw
  obtain ⟨l, hl⟩ : ∃ l, bs.length = l := ⟨_, rfl⟩
  by_cases hroom : l + 1 ≤ cap
  · rw [hl] at hbk1 hpos hlc htake hlim
    have hT : Calls Tryz.prog 68 #[.pointer (some ⟨b, 0, none⟩), .int .i64 1] (w.setCell ⟨b, 2, none⟩ (.int .i8 0)) fun e W => e = .returned (.tuple #[.int .i64 l, .bool true]) ∧
        W.heap[b]? = some (.cells #[.slice (some ⟨g, 0, none⟩) (l + 1) cap, .int .i64 0, .int .i8 0] 77 (0, 0)) ∧ W.heap[g]? = some (.cells cur 5 fz) ∧ Below B w W ∧ Lib.OthersKept 5 (some b) w W := by
      refine (Tryz.Buffer_tryGrow_room b (some ⟨g, 0, none⟩) l cap 1 (w.setCell ⟨b, 2, none⟩ (.int .i8 0)) (by rw [Lib.cell_of_heap hbk1]; rfl) (Lib.frozen_of_heap hbk1 0) hlc hcm (by omega)).mono ?_
      rintro e W ⟨rfl, rfl⟩
      exact ⟨rfl, Lib.heap_setCell_same (i := 0) hbk1 _, (Below.heap_setCell _ _ _ _ hgb).trans hg1, hbel1.setCell (p := ⟨b, 0, none⟩) hB _, hk1.setCell ⟨b, 0, none⟩ rfl _⟩
    have hcm' := hcm
    unfold maxLen at hcm'
    have hlt : l < cur.size := by omega
    clear hbk1 hg1 hbel1 hsz1 hbk hg
    go_enter Tryz.func49, Tryz.ntmps49
    go_wp2_with (
      go_at_call 68
      go_must (
        refine hT.mono ?_
        rintro e W ⟨rfl, hbW, hgW, hW, hkW⟩
        have d0 : W.cell? ⟨b, 0, none⟩ = some (.slice (some ⟨g, 0, none⟩) (l + 1) cap) := by rw [Lib.cell_of_heap hbW]; rfl
        have dg : W.cell? ⟨g, l, none⟩ = some cur[l] := by rw [Lib.cell_of_heap hgW, Array.getElem?_eq_getElem hlt]
        have fg : W.frozen? ⟨g, l, none⟩ = false := hfz.frz hgW (by omega)))
    go_ret
    have hend := mk_written (news := [.int .u8 c]) hB hBg hgb hpos hcm hl hbW hgW hfz hcs htake hroom hW hkW
    exact ⟨rfl, .inr ⟨g, cap, hend.1⟩, hend.2⟩
  · have hM : Mk B b g cap bs (w.setCell ⟨b, 2, none⟩ (.int .i8 0)) := ⟨hB, hBg, hgb, hpos, hlc, hcm, 0, cur, fz, hbk1, hg1, hfz, hcs, htake⟩
    have hT : Calls Tryz.prog 68 #[.pointer (some ⟨b, 0, none⟩), .int .i64 1] (w.setCell ⟨b, 2, none⟩ (.int .i8 0)) fun e W => e = .returned (.tuple #[.int .i64 0, .bool false]) ∧ W = w.setCell ⟨b, 2, none⟩ (.int .i8 0) :=
      Tryz.Buffer_tryGrow_none b (some ⟨g, 0, none⟩) bs.length cap 1 _ (by rw [Lib.cell_of_heap hbk1]; rfl) hlc hcm (by omega)
    have hG : Calls Tryz.prog 69 #[.pointer (some ⟨b, 0, none⟩), .int .i64 1] (w.setCell ⟨b, 2, none⟩ (.int .i8 0)) _ := grow_mk2 B b g cap 1 l bs _ hl hM hsz1 h1 (Nat.le_refl 1) (by omega) (by omega)
    clear hbk1 hg1 hM hbk hg
    go_enter Tryz.func49, Tryz.ntmps49
    go_wp2_with (first
      | (go_at_call 68
         go_must (
           refine hT.mono ?_
           rintro e W ⟨rfl, rfl⟩))
      | (go_at_call 69
         go_must (
           refine hG.mono ?_
           rintro e W ⟨rfl, lr2, g2, cap2, cur2, hbW, hBg2, hgW, hlc2, hcm2, hcs2, htk2, hgb2, hW, hkW⟩
           have hlt : l < cur2.size := by omega
           have d0 : W.cell? ⟨b, 0, none⟩ = some (.slice (some ⟨g2, 0, none⟩) (l + 1) cap2) := by rw [Lib.cell_of_heap hbW]; rfl
           have dg : W.cell? ⟨g2, l, none⟩ = some cur2[l] := by rw [Lib.cell_of_heap hgW, Array.getElem?_eq_getElem hlt]
           have fg : W.frozen? ⟨g2, l, none⟩ = false := Lib.frozen_of_heap hgW _
           have hcm' := hcm2
           unfold maxLen at hcm')))
    go_ret
    have hend := mk_written (news := [.int .u8 c]) hB hBg2 hgb2 (by omega) hcm2 hl hbW hgW (.inr rfl) hcs2 htk2 hlc2 (hbel1.trans hW) (hk1.trans hkW)
    exact ⟨rfl, .inr ⟨g2, cap2, hend.1⟩, hend.2⟩

theorem so5 : ∀ w, (Go.sizeOf 5).run Tryz.prog w = .ok 1 w := fun w => by kernel_rfl

set_option maxHeartbeats 8000000 in
set_option maxRecDepth 100000 in
theorem writeString_mk (B b g cap : Nat) (bs : List Value) (s : ByteArray) (w : World) (h : Mk B b g cap bs w) (hBw : B ≤ w.heap.size) (h1 : ∀ v ∈ bs, v.oneCell' = true) (hlim : bs.length + s.size ≤ 140737488355328) :
    Calls Tryz.prog 50 #[.pointer (some ⟨b, 0, none⟩), .string s] w fun e w' => e = .returned (.tuple #[.int .i64 s.size, .nilIface]) ∧ Buf B b (bs ++ Lib.byteCells s.data.toList) w' ∧ Below B w w' ∧ Lib.OthersKept 5 (some b) w w' := by
  obtain ⟨hB, hBg, hgb, hpos, hlc, hcm, lr, cur, fz, hbk, hg, hfz, hcs, htake⟩ := h
  have c2 : w.cell? ⟨b, 2, none⟩ = some (.int .i8 lr) := by rw [Lib.cell_of_heap hbk]; rfl
  have f2 : w.frozen? ⟨b, 2, none⟩ = false := Lib.frozen_of_heap hbk 2
  have hbk1 := Lib.heap_setCell_same (i := 2) hbk (.int .i8 0)
  have hg1 : (w.setCell ⟨b, 2, none⟩ (.int .i8 0)).heap[g]? = some (.cells cur 5 fz) := (Below.heap_setCell _ _ _ _ hgb).trans hg
  have hbel1 : Below B w (w.setCell ⟨b, 2, none⟩ (.int .i8 0)) := (Below.refl B w).setCell (p := ⟨b, 2, none⟩) hB _
  have hk1 : Lib.OthersKept 5 (some b) w (w.setCell ⟨b, 2, none⟩ (.int .i8 0)) := (Lib.OthersKept.refl _ _ w).setCell ⟨b, 2, none⟩ rfl _
  have hsz1 : B ≤ (w.setCell ⟨b, 2, none⟩ (.int .i8 0)).heap.size := by simpa [World.setCell] using hBw
  have hnl : (Lib.byteCells s.data.toList).length = s.size := by rw [Lib.byteCells_length, ← Lib.size_eq]
  obtain ⟨l, hl⟩ : ∃ l, bs.length = l := ⟨_, rfl⟩
  by_cases hroom : l + s.size ≤ cap
  · rw [hl] at hbk1 hpos hlc htake hlim
    have hT : ∀ m : Nat, m = s.size → Calls Tryz.prog 68 #[.pointer (some ⟨b, 0, none⟩), .int .i64 m] (w.setCell ⟨b, 2, none⟩ (.int .i8 0)) fun e W => e = .returned (.tuple #[.int .i64 l, .bool true]) ∧
        W.heap[b]? = some (.cells #[.slice (some ⟨g, 0, none⟩) (l + m) cap, .int .i64 0, .int .i8 0] 77 (0, 0)) ∧ W.heap[g]? = some (.cells cur 5 fz) ∧ Below B w W ∧ Lib.OthersKept 5 (some b) w W := by
      intro m hm
      refine (Tryz.Buffer_tryGrow_room b (some ⟨g, 0, none⟩) l cap m (w.setCell ⟨b, 2, none⟩ (.int .i8 0)) (by rw [Lib.cell_of_heap hbk1]; rfl) (Lib.frozen_of_heap hbk1 0) hlc hcm (by omega)).mono ?_
      rintro e W ⟨rfl, rfl⟩
      exact ⟨rfl, Lib.heap_setCell_same (i := 0) hbk1 _, (Below.heap_setCell _ _ _ _ hgb).trans hg1, hbel1.setCell (p := ⟨b, 0, none⟩) hB _, hk1.setCell ⟨b, 0, none⟩ rfl _⟩
    have hcm' := hcm
    unfold maxLen at hcm'
    clear hbk1 hg1 hbel1 hsz1 hbk hg
    by_cases hs0 : s.size = 0
    · have hce : ∀ d dLen dCap W, (Builtin.copy_ #[45, 9] 3 #[.slice d dLen dCap, .string s]).run Tryz.prog W = .ok (goInt 0) W := fun d dLen dCap W => Lib.run_copy_empty_string W 45 9 3 5 d dLen dCap s Tryz.underlying45 (by rw [sz5]; rfl) hs0
      have hbc : Lib.byteCells s.data.toList = [] := List.eq_nil_of_length_eq_zero (by rw [hnl]; exact hs0)
      have hT0 := hT 0 hs0.symm
      go_enter Tryz.func50, Tryz.ntmps50
      go_wp2_with (
        go_at_call 68
        go_must (
          refine hT0.mono ?_
          rintro e W ⟨rfl, hbW, hgW, hW, hkW⟩
          have d0 : W.cell? ⟨b, 0, none⟩ = some (.slice (some ⟨g, 0, none⟩) l cap) := by rw [Lib.cell_of_heap hbW]; rfl))
      all_goals (
        go_ret2
        have hfin : Buf B b bs W := .inr ⟨g, cap, hB, hBg, hgb, by omega, by omega, hcm, 0, cur, fz, by rw [hl]; exact hbW, hgW, hfz, hcs, by rw [hl]; exact htake⟩
        first | exact ⟨rfl, hfin, hW, hkW⟩ | exact ⟨by simp [hs0], by simpa [hbc] using hfin, hW, hkW⟩)
    · have hT1 := hT s.size rfl
      have hne : ¬ cap = l := by omega
      go_enter Tryz.func50, Tryz.ntmps50
      go_wp2_with (
        go_at_call 68
        go_must (
          refine hT1.mono ?_
          rintro e W ⟨rfl, hbW, hgW, hW, hkW⟩
          have d0 : W.cell? ⟨b, 0, none⟩ = some (.slice (some ⟨g, 0, none⟩) (l + s.size) cap) := by rw [Lib.cell_of_heap hbW]; rfl
          have hcp := run_copy_string (P := Tryz.prog) W 45 9 3 5 g l s.size (cap - l) s Tryz.underlying45 so5 (Nat.le_refl _) (fun j hj => by rw [Lib.cell_of_heap hgW, Array.getElem?_eq_getElem (by omega)]; rfl) (fun j hj => hfz.frz hgW (by omega))))
      go_ret2
      have hend := mk_written (news := Lib.byteCells s.data.toList) hB hBg hgb hpos hcm hl (by rw [hnl]; exact hbW) hgW hfz hcs htake (by rw [hnl]; exact hroom) hW hkW
      exact ⟨rfl, .inr ⟨g, cap, hend.1⟩, hend.2⟩
  · have hM : Mk B b g cap bs (w.setCell ⟨b, 2, none⟩ (.int .i8 0)) := ⟨hB, hBg, hgb, hpos, hlc, hcm, 0, cur, fz, hbk1, hg1, hfz, hcs, htake⟩
    have hT : Calls Tryz.prog 68 #[.pointer (some ⟨b, 0, none⟩), .int .i64 s.size] (w.setCell ⟨b, 2, none⟩ (.int .i8 0)) fun e W => e = .returned (.tuple #[.int .i64 0, .bool false]) ∧ W = w.setCell ⟨b, 2, none⟩ (.int .i8 0) :=
      Tryz.Buffer_tryGrow_none b (some ⟨g, 0, none⟩) bs.length cap s.size _ (by rw [Lib.cell_of_heap hbk1]; rfl) hlc hcm (by omega)
    have hG : Calls Tryz.prog 69 #[.pointer (some ⟨b, 0, none⟩), .int .i64 s.size] (w.setCell ⟨b, 2, none⟩ (.int .i8 0)) _ := grow_mk2 B b g cap s.size l bs _ hl hM hsz1 h1 (by omega) (by omega) (by omega)
    have hlim2 : l + s.size ≤ 140737488355328 := by omega
    have hs0 : 0 < s.size := by omega
    clear hbk1 hg1 hM hbk hg hroom
    go_enter Tryz.func50, Tryz.ntmps50
    go_wp2_with (first
      | (go_at_call 68
         go_must (
           refine hT.mono ?_
           rintro e W ⟨rfl, rfl⟩))
      | (go_at_call 69
         go_must (
           refine hG.mono ?_
           rintro e W ⟨rfl, lr2, g2, cap2, cur2, hbW, hBg2, hgW, hlc2, hcm2, hcs2, htk2, hgb2, hW, hkW⟩
           have hne : ¬ cap2 = l := by omega
           have d0 : W.cell? ⟨b, 0, none⟩ = some (.slice (some ⟨g2, 0, none⟩) (l + s.size) cap2) := by rw [Lib.cell_of_heap hbW]; rfl
           have hcp := run_copy_string (P := Tryz.prog) W 45 9 3 5 g2 l s.size (cap2 - l) s Tryz.underlying45 so5 (Nat.le_refl _) (fun j hj => by rw [Lib.cell_of_heap hgW, Array.getElem?_eq_getElem (by omega)]; rfl) (fun j hj => Lib.frozen_of_heap hgW _)
           have hcm' := hcm2
           unfold maxLen at hcm')))
    go_ret2
    have hend := mk_written (news := Lib.byteCells s.data.toList) hB hBg2 hgb2 (by omega) hcm2 hl (by rw [hnl]; exact hbW) hgW (.inr rfl) hcs2 htk2 (by rw [hnl]; exact hlc2) (hbel1.trans hW) (hk1.trans hkW)
    exact ⟨rfl, .inr ⟨g2, cap2, hend.1⟩, hend.2⟩

set_option maxHeartbeats 4000000 in
set_option maxRecDepth 100000 in
theorem string_mk (B b g cap : Nat) (l : List UInt8) (w : World) (h : Mk B b g cap (Lib.byteCells l) w) (hlim : l.length ≤ 140737488355328) :
    Calls Tryz.prog 46 #[.pointer (some ⟨b, 0, none⟩)] w fun e w' => e = .returned (.string ⟨l.toArray⟩) ∧ ∃ n, w' = w.drewN n := by
  obtain ⟨hB, hBg, hgb, hpos, hlc, hcm, lr, cur, fz, hbk, hg, hfz, hcs, htake⟩ := h
  rw [Lib.byteCells_length] at hbk hlc htake
  have c0 : w.cell? ⟨b, 0, none⟩ = some (.slice (some ⟨g, 0, none⟩) l.length cap) := by rw [Lib.cell_of_heap hbk]; rfl
  have c1 : w.cell? ⟨b, 1, none⟩ = some (.int .i64 0) := by rw [Lib.cell_of_heap hbk]; rfl
  have hcv := run_convert_bytes_back (P := Tryz.prog) w.drew 45 9 5 ⟨g, 0, none⟩ cap l Tryz.underlying45 Tryz.underlying5 Tryz.underlying9 (Lib.bytes_of_row (w := w.drew) hg htake)
  have mixed : Tryz.prog.follows Departure.mixedOrders = true := by kernel_rfl
  unfold maxLen at hcm
  go_enter Tryz.func46, Tryz.ntmps46
  go_wp2
  go_region_o
  all_goals (go_wp2; go_ret; exact ⟨rfl, 1, rfl⟩)

end Go.Proofs.YtpkelgekannioaaGreatDoor

namespace Go.Proofs.YtpkelgekannioaaGreatDoor
open Go.RowKit Go.Shelf Go.BigFrame
open Go.Proofs.YtpkelgekannioaaGreatDoorW.PrintWords
set_option linter.unusedSimpArgs false
set_option linter.unusedVariables false

theorem bufByte (B b : Nat) (bs : List Value) (c : Int) (w : World) (h : Buf B b bs w) (hBw : B ≤ w.heap.size) (h1 : ∀ v ∈ bs, v.oneCell' = true) (hlim : bs.length + 1 ≤ 140737488355328) :
    Calls Tryz.prog 49 #[.pointer (some ⟨b, 0, none⟩), .int .u8 c] w fun e w' => e = .returned .nilIface ∧ Buf B b (bs ++ [.int .u8 c]) w' ∧ Below B w w' ∧ Lib.OthersKept 5 (some b) w w' := by
  rcases h with h | ⟨g, cap, h⟩
  · exact (Tryz.Buffer_WriteByte_kept B b bs c w h hBw h1 hlim).mono fun e w' h => ⟨h.1, .inl h.2.1, h.2.2⟩
  · exact writeByte_mk B b g cap bs c w h hBw h1 hlim
theorem bufString (B b : Nat) (bs : List Value) (s : ByteArray) (w : World) (h : Buf B b bs w) (hBw : B ≤ w.heap.size) (h1 : ∀ v ∈ bs, v.oneCell' = true) (hlim : bs.length + s.size ≤ 140737488355328) :
    Calls Tryz.prog 50 #[.pointer (some ⟨b, 0, none⟩), .string s] w fun e w' => e = .returned (.tuple #[.int .i64 s.size, .nilIface]) ∧ Buf B b (bs ++ Lib.byteCells s.data.toList) w' ∧ Below B w w' ∧ Lib.OthersKept 5 (some b) w w' := by
  rcases h with h | ⟨g, cap, h⟩
  · exact (Tryz.Buffer_WriteString_kept B b bs s w h hBw h1 hlim).mono fun e w' h => ⟨h.1, .inl h.2.1, h.2.2⟩
  · exact writeString_mk B b g cap bs s w h hBw h1 hlim
theorem bufText (B b : Nat) (l : List UInt8) (w : World) (h : Buf B b (Lib.byteCells l) w) (hlim : l.length ≤ 140737488355328) :
    Calls Tryz.prog 46 #[.pointer (some ⟨b, 0, none⟩)] w fun e w' => e = .returned (.string ⟨l.toArray⟩) ∧ ∃ n, w' = w.drewN n := by
  rcases h with h | ⟨g, cap, h⟩
  · exact Tryz.Buffer_String B b l w h
  · exact string_mk B b g cap l w h hlim

set_option maxHeartbeats 2000000 in
set_option maxRecDepth 100000 in
/-- bytes.NewBufferString. -/
theorem newBufferString (s : ByteArray) (w : World) (hs : s.size ≤ 1099511627776) (h0 : 0 < s.size) :
    Calls Tryz.prog 48 #[.string s] w fun e w' => ∃ b, e = .returned (.pointer (some ⟨b, 0, none⟩)) ∧ Buf w.heap.size b (Lib.byteCells s.data.toList) w' ∧ Below w.heap.size w w' := by
  have hkb := print_bytes (P := Tryz.prog) 9 45 5 Tryz.underlying9 Tryz.underlying45 Tryz.underlying5 s w
  have hb0 := bytes_below (Below.refl w.heap.size w) (Nat.le_refl _) 5 s
  have hr0 := Lib.bytesWorld_at_new w 5 s
  have hz0 := Lib.bytesWorld_size w 5 s
  have hcap := grownCap_ge w s.size 0 5
  have hcm := grownCap_le_maxLen w s.size 0 5 (by unfold maxLen; omega)
  have hcs : (Lib.bytesCells w 5 s).size = grownCap w s.size 0 5 := by
    unfold Lib.bytesCells
    rw [Array.size_append, Array.size_map, Array.size_replicate]
    have : s.data.size = s.size := rfl
    omega
  have htk : (Lib.bytesCells w 5 s).toList.take s.size = Lib.byteCells s.data.toList := by
    unfold Lib.bytesCells
    rw [Array.toList_append, Array.toList_map]
    have hl : (s.data.toList.map fun b => Value.int .u8 b.toNat).length = s.size := by simp
    rw [List.take_append_of_le_length (by omega), List.take_of_length_le (by omega)]
    rfl
  have hnl : (Lib.byteCells s.data.toList).length = s.size := by rw [Lib.byteCells_length, ← Lib.size_eq]
  generalize Lib.bytesWorld w 5 s = w0 at hkb hb0 hr0 hz0
  generalize grownCap w s.size 0 5 = cap at hkb hcap hcm hcs
  generalize Lib.bytesCells w 5 s = cur at hr0 hcs htk
  go_enter Tryz.func48, Tryz.ntmps48
  go_wp2_with fail
  go_ret
  refine ⟨w.heap.size + 1, rfl, .inr ⟨w.heap.size, cap, by omega, Nat.le_refl _, by omega, by omega, by omega, hcm, 0, cur, (cur.size, cur.size + 1), ?_, ?_, .inl (by show cap ≤ cur.size; omega), hcs, by rw [hnl]; exact htk⟩, hb0.alloc (by omega) _⟩
  · rw [hnl, ← hz0]; exact heap_alloc_new w0 _
  · rw [RowKit.Below.heap_alloc w0 _ _ (by omega)]; exact hr0

set_option maxHeartbeats 8000000 in
set_option maxRecDepth 100000 in
theorem bufEscape (B b : Nat) (bs : List Value) (s : ByteArray) (w : World) (h : Buf B b bs w) (hBw : B ≤ w.heap.size) (h1 : ∀ v ∈ bs, v.oneCell' = true) (hlim : bs.length + 5 * s.size ≤ 140737488355328) :
    Calls Tryz.prog 45 #[.iface 81 (.pointer (some ⟨b, 0, none⟩)), .string s] w fun e w' => e = .returned .nilIface ∧ Buf B b (bs ++ Lib.byteCells (esc s.data.toList)) w' ∧ Below B w w' := by
  have hm := fun n => meth_ws n ⟨b, 0, none⟩
  have hnl := fun n => nil_ws n ⟨b, 0, none⟩
  go_enter Tryz.func45, Tryz.ntmps45
  go_wp2_with (first | (go_at_call 44; go_must (refine (indexAny_esc s _ (by omega)).mono ?_; rintro e w1 ⟨rfl, hb1⟩)))
  go_loopg [1, 5] (s.size + 1) (fun g s1 s5 wx => ∃ (t : ByteArray) (done : List UInt8), t.size + 1 = g ∧ s1 = .string t ∧ s5 = .int .i64 (Lib.indexAny t.data.toList escChars) ∧ esc s.data.toList = done ++ esc t.data.toList ∧
    Buf B b (bs ++ Lib.byteCells done) wx ∧ Below B w wx ∧ bs.length + done.length + 5 * t.size ≤ 140737488355328)
  case atStart => exact ⟨s, [], rfl, rfl, rfl, rfl, by simpa [Lib.byteCells] using h.old hb1, hb1.mono hBw, by simpa using hlim⟩
  case round =>
    obtain ⟨t, done, hg, rfl, rfl, he, hB, hbw, hl⟩ := hrel
    rcases indexAny_cases t.data.toList escChars with ⟨hi, hno⟩ | ⟨i, x, hi, hno, hx, hc⟩
    · rw [hi]
      have HNO := Lib.hid hno
      have HE := Lib.hid he
      clear hno he
      go_wp2_with fail
      refine (bufString B b (bs ++ Lib.byteCells done) t wr hB (by have := hbw.size; omega) (one_app h1 (Lib.byteCells_one _)) (by rw [List.length_append, Lib.byteCells_length]; omega)).mono ?_
      rintro e w2 ⟨rfl, hB2, hb2, hk2⟩
      go_wp2_with fail
      go_ret
      refine ⟨rfl, ?_, hbw.trans hb2⟩
      rw [HE.out, esc_noAny (by rw [← Lib.size_eq]; rw [← Lib.size_eq] at HNO; exact HNO.out), Lib.byteCells_append, ← List.append_assoc]
      exact hB2
    · rw [hi]
      have HNO := Lib.hid hno
      have HE := Lib.hid he
      clear hno he hi
      have hil : i < t.size := by have := (List.getElem?_eq_some_iff.1 hx).1; simpa using this
      have HX := Lib.hid hx
      have HC := Lib.hid hc
      clear hx hc
      go_upto_region 3 with fail
      go_cut [6, 7] (fun s6 s7 wx => s7 = .nilIface ∧ Buf B b ((bs ++ Lib.byteCells done) ++ Lib.byteCells (t.extract 0 i).data.toList) wx ∧ Below B w wx)
      case first =>
        have hWS := bufString B b (bs ++ Lib.byteCells done) (t.extract 0 i) wr.drew hB.drew (by have := hbw.size; simp; omega) (one_app h1 (Lib.byteCells_one _)) (by rw [List.length_append, Lib.byteCells_length, ByteArray.size_extract]; omega)
        go_region_with ((go_at_call 50; refine hWS.mono ?_; rintro e w2 ⟨rfl, hB2, hb2, hk2⟩))
        all_goals
          go_wp2_with fail
          go_meet
          exact ⟨rfl, hB2, hbw.drew.trans hb2⟩
      case rest =>
        obtain ⟨rfl, hB2, hb2⟩ := hcut
        have hxi : t[i]'hil = x := by
          have h1 := HX.out
          rw [Lib.data_getElem? t i hil] at h1
          exact Option.some.inj h1
        have hxc : x ∈ escChars := by simpa using HC.out
        have hl1 : (bs ++ Lib.byteCells done ++ Lib.byteCells (t.extract 0 i).data.toList).length + 5 ≤ 140737488355328 := by
          simp only [List.length_append, Lib.byteCells_length, ← Lib.size_eq, ByteArray.size_extract]
          omega
        have ho1 := one_app (one_app h1 (Lib.byteCells_one done)) (Lib.byteCells_one (t.extract 0 i).data.toList)
        have hsl : (t.extract (i + 1) t.size).size = t.size - (i + 1) := by rw [ByteArray.size_extract]; omega
        have HSL := Lib.hid hsl
        clear hsl
        have hle : t.size - (i + 1) ≤ 140737488355328 := by omega
        have hle2 : t.size ≤ 140737488355328 := by omega
        simp only [escChars, List.mem_cons, List.mem_nil_iff, or_false] at hxc
        rcases hxc with rfl | rfl | rfl | rfl | rfl | rfl
        · have HR := Lib.hid (esc_round #[38, 97, 109, 112, 59] (by decide) HNO.out HX.out HE.out hl (bs := bs))
          have hws := bufString B b _ ⟨#[38, 97, 109, 112, 59]⟩ wc hB2 (by have := hb2.size; omega) ho1 (Nat.le_trans (Nat.add_le_add_left (by decide) _) hl1)
          have HB2 := Lib.hid hb2
          have HBW := Lib.hid hBw
          clear hl hB hB2 hl1 ho1 hb1 hbw hb2 h h1 hlim hBw
          go_wp2_with fail
          refine hws.mono ?_
          rintro e w3 ⟨rfl, hB3, hb3, hk3⟩
          clear hws hk3
          go_wp2_with (first | (go_at_call 44; go_must (refine (indexAny_esc (t.extract (i + 1) t.size) _ (by rw [HSL.out]; exact hle)).mono ?_; rintro e w4 ⟨rfl, hb4⟩)))
          go_roundg (t.size - (i + 1) + 1)
          case measure => omega
          case rel => exact ⟨t.extract (i + 1) t.size, done ++ (t.extract 0 i).data.toList ++ (#[38, 97, 109, 112, 59] : Array UInt8).toList, by rw [HSL.out], rfl, by rw [Lib.extract_data], HR.out.1, by rw [← HR.out.2.1]; exact hB3.old hb4, (HB2.out.trans hb3).trans (hb4.mono (by have := HB2.out.size; have := hb3.size; have := HBW.out; omega)), HR.out.2.2⟩
        · have HR := Lib.hid (esc_round #[38, 35, 51, 57, 59] (by decide) HNO.out HX.out HE.out hl (bs := bs))
          have hws := bufString B b _ ⟨#[38, 35, 51, 57, 59]⟩ wc hB2 (by have := hb2.size; omega) ho1 (Nat.le_trans (Nat.add_le_add_left (by decide) _) hl1)
          have HB2 := Lib.hid hb2
          have HBW := Lib.hid hBw
          clear hl hB hB2 hl1 ho1 hb1 hbw hb2 h h1 hlim hBw
          go_wp2_with fail
          refine hws.mono ?_
          rintro e w3 ⟨rfl, hB3, hb3, hk3⟩
          clear hws hk3
          go_wp2_with (first | (go_at_call 44; go_must (refine (indexAny_esc (t.extract (i + 1) t.size) _ (by rw [HSL.out]; exact hle)).mono ?_; rintro e w4 ⟨rfl, hb4⟩)))
          go_roundg (t.size - (i + 1) + 1)
          case measure => omega
          case rel => exact ⟨t.extract (i + 1) t.size, done ++ (t.extract 0 i).data.toList ++ (#[38, 35, 51, 57, 59] : Array UInt8).toList, by rw [HSL.out], rfl, by rw [Lib.extract_data], HR.out.1, by rw [← HR.out.2.1]; exact hB3.old hb4, (HB2.out.trans hb3).trans (hb4.mono (by have := HB2.out.size; have := hb3.size; have := HBW.out; omega)), HR.out.2.2⟩
        · have HR := Lib.hid (esc_round #[38, 108, 116, 59] (by decide) HNO.out HX.out HE.out hl (bs := bs))
          have hws := bufString B b _ ⟨#[38, 108, 116, 59]⟩ wc hB2 (by have := hb2.size; omega) ho1 (Nat.le_trans (Nat.add_le_add_left (by decide) _) hl1)
          have HB2 := Lib.hid hb2
          have HBW := Lib.hid hBw
          clear hl hB hB2 hl1 ho1 hb1 hbw hb2 h h1 hlim hBw
          go_wp2_with fail
          refine hws.mono ?_
          rintro e w3 ⟨rfl, hB3, hb3, hk3⟩
          clear hws hk3
          go_wp2_with (first | (go_at_call 44; go_must (refine (indexAny_esc (t.extract (i + 1) t.size) _ (by rw [HSL.out]; exact hle)).mono ?_; rintro e w4 ⟨rfl, hb4⟩)))
          go_roundg (t.size - (i + 1) + 1)
          case measure => omega
          case rel => exact ⟨t.extract (i + 1) t.size, done ++ (t.extract 0 i).data.toList ++ (#[38, 108, 116, 59] : Array UInt8).toList, by rw [HSL.out], rfl, by rw [Lib.extract_data], HR.out.1, by rw [← HR.out.2.1]; exact hB3.old hb4, (HB2.out.trans hb3).trans (hb4.mono (by have := HB2.out.size; have := hb3.size; have := HBW.out; omega)), HR.out.2.2⟩
        · have HR := Lib.hid (esc_round #[38, 103, 116, 59] (by decide) HNO.out HX.out HE.out hl (bs := bs))
          have hws := bufString B b _ ⟨#[38, 103, 116, 59]⟩ wc hB2 (by have := hb2.size; omega) ho1 (Nat.le_trans (Nat.add_le_add_left (by decide) _) hl1)
          have HB2 := Lib.hid hb2
          have HBW := Lib.hid hBw
          clear hl hB hB2 hl1 ho1 hb1 hbw hb2 h h1 hlim hBw
          go_wp2_with fail
          refine hws.mono ?_
          rintro e w3 ⟨rfl, hB3, hb3, hk3⟩
          clear hws hk3
          go_wp2_with (first | (go_at_call 44; go_must (refine (indexAny_esc (t.extract (i + 1) t.size) _ (by rw [HSL.out]; exact hle)).mono ?_; rintro e w4 ⟨rfl, hb4⟩)))
          go_roundg (t.size - (i + 1) + 1)
          case measure => omega
          case rel => exact ⟨t.extract (i + 1) t.size, done ++ (t.extract 0 i).data.toList ++ (#[38, 103, 116, 59] : Array UInt8).toList, by rw [HSL.out], rfl, by rw [Lib.extract_data], HR.out.1, by rw [← HR.out.2.1]; exact hB3.old hb4, (HB2.out.trans hb3).trans (hb4.mono (by have := HB2.out.size; have := hb3.size; have := HBW.out; omega)), HR.out.2.2⟩
        · have HR := Lib.hid (esc_round #[38, 35, 51, 52, 59] (by decide) HNO.out HX.out HE.out hl (bs := bs))
          have hws := bufString B b _ ⟨#[38, 35, 51, 52, 59]⟩ wc hB2 (by have := hb2.size; omega) ho1 (Nat.le_trans (Nat.add_le_add_left (by decide) _) hl1)
          have HB2 := Lib.hid hb2
          have HBW := Lib.hid hBw
          clear hl hB hB2 hl1 ho1 hb1 hbw hb2 h h1 hlim hBw
          go_wp2_with fail
          refine hws.mono ?_
          rintro e w3 ⟨rfl, hB3, hb3, hk3⟩
          clear hws hk3
          go_wp2_with (first | (go_at_call 44; go_must (refine (indexAny_esc (t.extract (i + 1) t.size) _ (by rw [HSL.out]; exact hle)).mono ?_; rintro e w4 ⟨rfl, hb4⟩)))
          go_roundg (t.size - (i + 1) + 1)
          case measure => omega
          case rel => exact ⟨t.extract (i + 1) t.size, done ++ (t.extract 0 i).data.toList ++ (#[38, 35, 51, 52, 59] : Array UInt8).toList, by rw [HSL.out], rfl, by rw [Lib.extract_data], HR.out.1, by rw [← HR.out.2.1]; exact hB3.old hb4, (HB2.out.trans hb3).trans (hb4.mono (by have := HB2.out.size; have := hb3.size; have := HBW.out; omega)), HR.out.2.2⟩
        · have HR := Lib.hid (esc_round #[38, 35, 49, 51, 59] (by decide) HNO.out HX.out HE.out hl (bs := bs))
          have hws := bufString B b _ ⟨#[38, 35, 49, 51, 59]⟩ wc hB2 (by have := hb2.size; omega) ho1 (Nat.le_trans (Nat.add_le_add_left (by decide) _) hl1)
          have HB2 := Lib.hid hb2
          have HBW := Lib.hid hBw
          clear hl hB hB2 hl1 ho1 hb1 hbw hb2 h h1 hlim hBw
          go_wp2_with fail
          refine hws.mono ?_
          rintro e w3 ⟨rfl, hB3, hb3, hk3⟩
          clear hws hk3
          go_wp2_with (first | (go_at_call 44; go_must (refine (indexAny_esc (t.extract (i + 1) t.size) _ (by rw [HSL.out]; exact hle)).mono ?_; rintro e w4 ⟨rfl, hb4⟩)))
          go_roundg (t.size - (i + 1) + 1)
          case measure => omega
          case rel => exact ⟨t.extract (i + 1) t.size, done ++ (t.extract 0 i).data.toList ++ (#[38, 35, 49, 51, 59] : Array UInt8).toList, by rw [HSL.out], rfl, by rw [Lib.extract_data], HR.out.1, by rw [← HR.out.2.1]; exact hB3.old hb4, (HB2.out.trans hb3).trans (hb4.mono (by have := HB2.out.size; have := hb3.size; have := HBW.out; omega)), HR.out.2.2⟩

end Go.Proofs.YtpkelgekannioaaGreatDoor
