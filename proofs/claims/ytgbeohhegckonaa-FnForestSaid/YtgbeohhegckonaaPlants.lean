import Derived.Test.YtgbeohhegckonaaPlant
/-! impl.planted at every row that is no unknown one. -/
namespace Go.Proofs.Ytgbeohhegckonaa
open Go.RowKit Go.Shelf Go.BigFrame
set_option linter.unusedSimpArgs false
set_option linter.unusedVariables false

set_option maxRecDepth 100000 in
set_option maxHeartbeats 4000000 in
theorem planted_beyond {base many : Nat} {B : Nat → Nat} {f : Wood} {D : Nat → Option Info} {G : Nat → Nat → Option Nat} {K : Nat → List Nat} {w : World} (h : Grove base many B f D G K w)
    {al : Addr} {Cl : Nat} (hl : Lies w w.heap.size (some al) (ptrsV B many)) (hlc : many ≤ Cl) {az : Addr} {C a b : Nat} {c : Int} (ha : a < many) (hb : b < many) (hc : (many : Int) ≤ c) (hc63 : c ≤ 9223372036854775807)
    (hs : Lies w w.heap.size (some az) (intsV [1, (a : Int), (b : Int), c])) (hC : 4 ≤ C) :
    Calls Try.prog 27 #[.slice (some al) many Cl, .slice (some az) 4 C] w fun e w' => e = .returned (.bool false) ∧ Grove base many B f D G K w' ∧ Spared D w w' := by
  have hmf : ∀ (fn : Fn) (first cap : Array Value) (w : World), (Instr.makeFunc fn first cap).run Try.prog w = .ok (.func fn first cap) w := fun _ _ _ _ => rfl
  obtain ⟨ad, e1, _, hcs⟩ := hs.resolve_left (by simp)
  cases e1
  obtain ⟨ad2, e2, _, hla⟩ := hl.at_ (k := a) (u := ptr (some (B a))) (by simp [ha])
  cases e2
  obtain ⟨ad2, e2, _, hlb⟩ := hl.at_ (k := b) (u := ptr (some (B b))) (by simp [hb])
  cases e2
  have c0 : w.cell? az = some (.int .i64 1) := hcs 0 _ rfl
  have c1 : w.cell? ⟨az.block, az.off + 1, none⟩ = some (.int .i64 a) := by simpa [Addr.add] using hcs 1 (.int .i64 a) rfl
  have c2 : w.cell? ⟨az.block, az.off + 2, none⟩ = some (.int .i64 b) := by simpa [Addr.add] using hcs 2 (.int .i64 b) rfl
  have c3 : w.cell? ⟨az.block, az.off + 3, none⟩ = some (.int .i64 c) := by simpa [Addr.add] using hcs 3 (.int .i64 c) rfl
  have q1 : (a : Int) < (many : Int) := by omega
  have q2 : (b : Int) < (many : Int) := by omega
  have q3 : ¬ c < (many : Int) := by omega
  have q4 : (0 : Int) ≤ c := by omega
  have q5 : ¬ c < 0 := by omega
  simp only [ptr, Option.map_some, Option.map_none] at hla hlb
  have hla' := fun o => cell_alloc_old o hla
  have hlb' := fun o => cell_alloc_old o hlb
  have c0' := fun o => cell_alloc_old o c0
  have c1' := fun o => cell_alloc_old o c1
  have c2' := fun o => cell_alloc_old o c2
  have c3' := fun o => cell_alloc_old o c3
  have hbw : ∀ o, Below w.heap.size w ((w.alloc o).drew) := fun o => ((Below.refl _ w).alloc (Nat.le_refl _) _).drew
  have hfresh := h.nodes.fresh
  clear hcs hs hl
  go_enter_defers Try.func27, Try.ntmps27
  go_wp2_with fail
  obtain ⟨W, hW⟩ : ∃ W, (w.alloc (.cells #[.bool false] 4)).drew = W := ⟨_, rfl⟩
  have k1 : W.cell? ⟨az.block, az.off + 1, none⟩ = some (.int .i64 a) := by rw [← hW]; exact c1' _
  have k2 : W.cell? ⟨az.block, az.off + 2, none⟩ = some (.int .i64 b) := by rw [← hW]; exact c2' _
  have k3 : W.cell? ⟨az.block, az.off + 3, none⟩ = some (.int .i64 c) := by rw [← hW]; exact c3' _
  have ka : W.cell? (al.add a) = some (.pointer (some ⟨B a, 0, none⟩)) := by rw [← hW]; exact hla' _
  have kb : W.cell? (al.add b) = some (.pointer (some ⟨B b, 0, none⟩)) := by rw [← hW]; exact hlb' _
  refine wp_region_table (by kernel_rfl) (fun w' => w' = W) (fun w1 w2 => w1 = w2) (fun k v _ => match k with
    | 0 | 6 | 12 => v = .slice (some al) many Cl
    | 1 | 7 | 13 => v = .slice (some az) 4 C
    | 2 => v = .pointer (some ⟨az.block, az.off + 1, none⟩)
    | 3 => v = .int .i64 a
    | 4 => v = .pointer (some (al.add a))
    | 5 => v = .pointer (some ⟨B a, 0, none⟩)
    | 8 => v = .pointer (some ⟨az.block, az.off + 2, none⟩)
    | 9 => v = .int .i64 b
    | 10 => v = .pointer (some (al.add b))
    | 11 => v = .pointer (some ⟨B b, 0, none⟩)
    | 14 => v = .pointer (some ⟨az.block, az.off + 3, none⟩)
    | 15 => v = .int .i64 c
    | _ => False) (fun k v w1 w2 _ hr => hr) (by kernel_rfl) hW ?_ ?_
  · simp only [TableOps]
    refine ⟨⟨trivial, ?_⟩, ⟨trivial, ?_⟩, ⟨trivial, ?_⟩, ⟨trivial, ?_⟩, ⟨trivial, ?_⟩, ⟨trivial, ?_⟩, ⟨trivial, ?_⟩, ⟨trivial, ?_⟩, ⟨trivial, ?_⟩, ⟨trivial, ?_⟩, ⟨trivial, ?_⟩, ⟨trivial, ?_⟩, ⟨trivial, ?_⟩, ⟨trivial, ?_⟩, ⟨trivial, ?_⟩, ⟨trivial, ?_⟩, ⟨trivial, ?_⟩, ⟨trivial, ?_⟩, ⟨trivial, ?_⟩, trivial⟩
    all_goals
      rintro a' w' rfl hD hF hdep
      have f0 := hF 0 (by kernel_rfl)
      have f1 := hF 1 (by kernel_rfl)
      have f4 := hF 4 (by kernel_rfl)
      simp [Region.binds, Holds] at hdep f0 f1 f4
    rotate_left 16
    · simp [Oper.wp, execOp, Act.eval, hdep, go_sem, *]
      rw [if_neg (by omega)]
      simp [boundsPanic, go_sem]
      have hbx : Boxed w' w.heap.size 4 (.bool false) := by rw [← hW]; exact Boxed.new w 4 (.bool false)
      have hgr : Grove base many B f D G K w' := by rw [← hW]; exact h.below (hbw _)
      have hsp : Spared D w w' := by rw [← hW]; exact Spared.below (hbw _)
      have hsd : Spared D w w'.drew := ⟨hsp.os, hsp.tape, hsp.output, hsp.size, hsp.block⟩
      have hgd : Grove base many B f D G K w'.drew := ⟨hgr.nodes, hgr.linked, hgr.data, hgr.dom, hgr.kids, hgr.inj, hgr.base⟩
      split
      · show Leaves Try.prog Try.f27 a'.tmps _ a'.defers (.panicking [{ v := .iface 8 _, recovered := false }]) w'.drew
        rw [hD]
        exact leaves_bad (v := .bool false) hbx (by rw [f4]; rfl) ⟨rfl, grove_own hgd hfresh _, hsd.own (Nat.le_refl _) 0 _⟩
      · show Leaves Try.prog Try.f27 a'.tmps _ a'.defers (.panicking [{ v := .iface 8 _, recovered := false }]) w'
        rw [hD]
        exact leaves_bad (v := .bool false) hbx (by rw [f4]; rfl) ⟨rfl, grove_own hgr hfresh _, hsp.own (Nat.le_refl _) 0 _⟩
    all_goals simp [Oper.wp, execOp, Act.eval, hdep, f0, f1, go_sem, *]
  · intro val w' hS hall
    exact (hall 16 (by decide)).elim

section
variable {base many : Nat} {B : Nat → Nat} {f : Wood} {D : Nat → Option Info} {G : Nat → Nat → Option Nat} {K : Nat → List Nat} {w : World}

theorem lies_some {w : World} {b : Nat} {A : Option Addr} {xs : List Value} (h : Lies w b A xs) (hx : xs ≠ []) : ∃ a, A = some a := by
  obtain ⟨a, ha, _⟩ := h.resolve_left hx
  exact ⟨a, ha⟩

theorem planted_taken (h : Grove base many B f D G K w) (hf : f.Ok many) {Al : Option Addr} {Cl : Nat} (hl : Lies w w.heap.size Al (ptrsV B many)) (hlc : many ≤ Cl) {row : List Int} {f' : Wood} (hs : StepW many f row (.taken f'))
    {A : Option Addr} {C : Nat} (hr : Lies w w.heap.size A (intsV row)) (hC : row.length ≤ C) :
    Calls Try.prog 27 #[.slice Al many Cl, .slice A row.length C] w fun e w' => e = .returned (.bool true) ∧ (∃ G' K', Grove base many B f' D G' K' w') ∧ Spared D w w' := by
  cases hs with
  | remove a b l1 l2 ha hb hk =>
    obtain ⟨al, rfl⟩ := lies_some hl (by intro e; have := congrArg List.length e; simp at this; omega)
    obtain ⟨az, rfl⟩ := lies_some hr (by simp)
    exact planted_remove h hf hl hlc ha hb hk hr hC
  | append a b up ha hb hp hne hu hbu =>
    obtain ⟨al, rfl⟩ := lies_some hl (by intro e; have := congrArg List.length e; simp at this; omega)
    obtain ⟨az, rfl⟩ := lies_some hr (by simp)
    exact planted_append h hf hl hlc ha hb hp hne hr hC
  | last a b c up ha hb hc hp hne hu hbu =>
    obtain ⟨al, rfl⟩ := lies_some hl (by intro e; have := congrArg List.length e; simp at this; omega)
    obtain ⟨az, rfl⟩ := lies_some hr (by simp)
    exact planted_last h hf hl hlc ha hb hp hne hc hr hC
  | insert a b c l1 l2 up ha hb hp hne hu hbu hk =>
    obtain ⟨al, rfl⟩ := lies_some hl (by intro e; have := congrArg List.length e; simp at this; omega)
    obtain ⟨az, rfl⟩ := lies_some hr (by simp)
    exact planted_insert h hf hl hlc ha hb hp hne hk hr hC

theorem planted_panics (h : Grove base many B f D G K w) (hf : f.Ok many) {Al : Option Addr} {Cl : Nat} (hl : Lies w w.heap.size Al (ptrsV B many)) (hlc : many ≤ Cl) {row : List Int} (hs : StepW many f row .panics)
    (h63 : ∀ x ∈ row, x ≤ 9223372036854775807) {A : Option Addr} {C : Nat} (hr : Lies w w.heap.size A (intsV row)) (hC : row.length ≤ C) :
    Calls Try.prog 27 #[.slice Al many Cl, .slice A row.length C] w fun e w' => e = .returned (.bool false) ∧ Grove base many B f D G K w' ∧ Spared D w w' := by
  cases hs with
  | strange a b ha hb hp =>
    obtain ⟨al, rfl⟩ := lies_some hl (by intro e; have := congrArg List.length e; simp at this; omega)
    obtain ⟨az, rfl⟩ := lies_some hr (by simp)
    exact planted_strange h hf hl hlc ha hb hp hr hC
  | held0 a b ha hb hp =>
    obtain ⟨al, rfl⟩ := lies_some hl (by intro e; have := congrArg List.length e; simp at this; omega)
    obtain ⟨az, rfl⟩ := lies_some hr (by simp)
    obtain ⟨q, hq⟩ := Option.ne_none_iff_exists'.1 hp
    exact planted_held0 h hf hl hlc ha hb hq hr hC
  | held1 a b c ha hb hp =>
    obtain ⟨al, rfl⟩ := lies_some hl (by intro e; have := congrArg List.length e; simp at this; omega)
    obtain ⟨az, rfl⟩ := lies_some hr (by simp)
    obtain ⟨q, hq⟩ := Option.ne_none_iff_exists'.1 hp
    by_cases hc : c < 0
    · exact planted_held1 h hf hl hlc ha hb hq hc hr hC
    · obtain ⟨m, rfl⟩ := Int.eq_ofNat_of_zero_le (by omega : 0 ≤ c)
      by_cases hm : m < many
      · exact planted_held2 h hf hl hlc ha hb hq hm hr hC
      · exact planted_beyond h hl hlc ha hb (by omega) (h63 _ (by simp)) hr hC
end
end Go.Proofs.Ytgbeohhegckonaa
