import Derived.Test.YtgbeohhegckonaaUl
import Derived.Deep.RegionWith
namespace Go.Proofs.Ytgbeohhegckonaa
open Go.RowKit Go.Shelf Go.BigFrame
set_option linter.unusedSimpArgs false
set_option linter.unusedVariables false

theorem newNode (s : ByteArray) : (.cells #[.pointer none, .pointer none, .pointer none, .pointer none, .pointer none, .int .u32 1, .int .u32 0, .string s, .string ⟨#[]⟩, .slice none 0 0] 50 : Obj) = .cells (nodeCells (fun _ => none) (1, s)) 50 := rfl

theorem Nodes.alloc_kept {W : World} {D : Nat → Option Info} {G : Nat → Nat → Option Nat} (h : Nodes W D G) (o : Obj) : Nodes (W.alloc o) D G :=
  fun b d hb => (Below.heap_alloc W o b (h.lt hb)).trans (h b d hb)

set_option maxRecDepth 100000 in
set_option maxHeartbeats 1000000 in
theorem step_append {B n : Nat} {nums : List Int} {w : World} (h : Ul B n nums w) (k : Int) (ad : Addr) (cap : Nat) (h0 : w.cell? ad = some (.int .i64 2)) (h1 : w.cell? ⟨ad.block, ad.off + 1, none⟩ = some (.int .i64 k)) 
   (hk : k ≤ 9223372036854775807) (hk' : -9223372036854775808 ≤ k) :
    Calls Try.prog 17 #[ptr (some n), .slice (some ad) 2 cap] w fun e w' => e = .returned (.tuple #[]) ∧ Ul B n (nums ++ [k]) w' ∧ Below B w w' := by
  obtain ⟨D, G, K, hU⟩ := h
  have hA := hU.append k
  simp only [← newNode] at hA
  clear hU
  simp only [ptr, Option.map_some] at hA ⊢
  go_enter Try.func17, Try.ntmps17
  go_wp2_with (first 
    | (go_at_call 16; go_must (refine (numbered_int _ k hk hk').mono ?_; rintro e w' ⟨rfl, rfl⟩))
    | (go_at_call 15; go_must (refine hA.mono ?_; clear hA; rintro e w1 ⟨rfl, hu1, hb1⟩)))
  go_end0
  exact ⟨rfl, hu1, hb1⟩

set_option maxRecDepth 100000 in
set_option maxHeartbeats 1000000 in
theorem step_remove {B n : Nat} {nums : List Int} {w : World} (h : Ul B n nums w) (i : Int) (ad : Addr) (cap : Nat) (h0 : w.cell? ad = some (.int .i64 0)) (h1 : w.cell? ⟨ad.block, ad.off + 1, none⟩ = some (.int .i64 i)) 
   (hk : i ≤ 9223372036854775807) (hk' : -9223372036854775808 ≤ i) :
    Calls Try.prog 17 #[ptr (some n), .slice (some ad) 2 cap] w fun e w' => e = .returned (.tuple #[]) ∧ Ul B n (stepN nums [0, i]) w' ∧ Below B w w' := by
  obtain ⟨D, G, K, hU⟩ := h
  have hC := child_any hU.nodes hU.linked hU.root i hk hk'
  cases hc : kidAt (K n) i with
  | none =>
    have hs := stepN_none hU hc
    rw [hc] at hC
    have HU : Ul B n (stepN nums [0, i]) w := by rw [hs]; exact ⟨D, G, K, hU⟩
    have H := Lib.hid HU
    clear hU HU hs hc
    simp only [ptr, Option.map_some, Option.map_none] at hC ⊢
    go_enter Try.func17, Try.ntmps17
    go_wp2_with (go_at_call 30; go_must (refine hC.mono ?_; clear hC; rintro e w' ⟨rfl, h⟩; obtain rfl := h.symm))
    go_end0
    exact ⟨rfl, H.out, Below.refl _ _⟩
  | some c =>
    have hR := hU.rem hc
    rw [hc] at hC
    clear hU hc
    simp only [ptr, Option.map_some, Option.map_none] at hC hR ⊢
    go_enter Try.func17, Try.ntmps17
    go_wp2_with (first
      | (go_at_call 30; go_must (refine hC.mono ?_; clear hC; rintro e w' ⟨rfl, h⟩; obtain rfl := h.symm))
      | (go_at_call 31; go_must (refine hR.mono ?_; clear hR; rintro e w1 ⟨rfl, hu1, hb1⟩)))
    go_end0
    exact ⟨rfl, hu1, hb1⟩

set_option maxRecDepth 100000 in
set_option maxHeartbeats 4000000 in
theorem step_insert {B n : Nat} {nums : List Int} {w : World} (h : Ul B n nums w) (i k : Int) (ad : Addr) (cap : Nat) (h0 : w.cell? ad = some (.int .i64 1)) (h1 : w.cell? ⟨ad.block, ad.off + 1, none⟩ = some (.int .i64 i)) 
   (h2 : w.cell? ⟨ad.block, ad.off + 2, none⟩ = some (.int .i64 k)) (hk : k ≤ 9223372036854775807) (hk' : -9223372036854775808 ≤ k) (hi : i ≤ 9223372036854775807) (hi' : -9223372036854775808 ≤ i) :
    Calls Try.prog 17 #[ptr (some n), .slice (some ad) 3 cap] w fun e w' => e = .returned (.tuple #[]) ∧ Ul B n (stepN nums [1, i, k]) w' ∧ Below B w w' := by
  obtain ⟨D, G, K, hU⟩ := h
  have hC := fun W (hh : Nodes W D G) => child_any hh hU.linked hU.root i hi hi'
  obtain ⟨u, hu⟩ : ∃ u, ptr (kidAt (K n) i) = .pointer u := ⟨_, rfl⟩
  have hadb : ad.block < w.heap.size := by
    unfold World.cell? at h0
    split at h0
    · rename_i hh
      exact lt_of_block hh
    all_goals cases h0
  have h1a : ∀ o, (w.alloc o).cell? ⟨ad.block, ad.off + 1, none⟩ = some (.int .i64 i) := fun o => (World.cell?_alloc_lt w o ⟨ad.block, ad.off + 1, none⟩ hadb).trans h1
  have h2a : ∀ o, (w.alloc o).cell? ⟨ad.block, ad.off + 2, none⟩ = some (.int .i64 k) := fun o => (World.cell?_alloc_lt w o ⟨ad.block, ad.off + 2, none⟩ hadb).trans h2
  have hI := hU.drew.ins k i
  simp only [← newNode] at hI
  rw [show (w.drew.heap.size) = w.heap.size from rfl, hu] at hI
  rw [hu] at hC
  have hI' : ∀ o : Obj, w.drew.alloc o = (w.alloc o).drew := fun _ => rfl
  rw [hI'] at hI
  simp only [ptr, Option.map_some, Option.map_none] at hC hI ⊢
  go_enter Try.func17, Try.ntmps17
  go_wp2_with fail
  go_region_with (first
    | (go_at_call 16; go_must (refine (numbered_int _ k hk hk').mono ?_; rintro e w' ⟨rfl, h⟩; obtain rfl := h.symm))
    | (go_at_call 32; go_must (refine hI.mono ?_; clear hI; rintro e w1 ⟨rfl, hu1, hb1⟩))
    | (go_at_call 30; go_must (refine (hC _ (by repeat first | exact hU.nodes | refine Nodes.drew ?_ | refine Nodes.alloc_kept ?_ _)).mono ?_; rintro e w' ⟨rfl, h⟩; obtain rfl := h.symm)))
  all_goals (try go_wp2)
  all_goals go_end0
  all_goals exact ⟨rfl, hu1, ⟨hb1.os, hb1.tape, hb1.output, hb1.size, hb1.block⟩⟩

set_option maxRecDepth 100000 in
set_option maxHeartbeats 1000000 in
theorem step_none {B n : Nat} {nums : List Int} {w : World} (h : Ul B n nums w) (A : Option Addr) (len cap : Nat) (hl : (len : Int) ≤ 9223372036854775807) (h2 : len ≠ 2) (h3 : len ≠ 3) :
    Calls Try.prog 17 #[ptr (some n), .slice A len cap] w fun e w' => e = .returned (.tuple #[]) ∧ Ul B n nums w' ∧ Below B w w' := by
  have H := Lib.hid h
  clear h
  have h2' : ((len : Int) == 2) = false := by simp; omega
  have h3' : ((len : Int) == 3) = false := by simp; omega
  simp only [ptr, Option.map_some, Option.map_none]
  go_enter Try.func17, Try.ntmps17
  go_wp2
  go_end0
  exact ⟨rfl, H.out, Below.refl _ _⟩

set_option maxRecDepth 100000 in
set_option maxHeartbeats 1000000 in
theorem step_none2 {B n : Nat} {nums : List Int} {w : World} (h : Ul B n nums w) (a : Int) (ad : Addr) (cap : Nat) (h0 : w.cell? ad = some (.int .i64 a)) (ha : a ≠ 0) (ha2 : a ≠ 2) :
    Calls Try.prog 17 #[ptr (some n), .slice (some ad) 2 cap] w fun e w' => e = .returned (.tuple #[]) ∧ Ul B n nums w' ∧ Below B w w' := by
  have H := Lib.hid h
  clear h
  have h2' : (a == 0) = false := by simp; omega
  have h3' : (a == 2) = false := by simp; omega
  simp only [ptr, Option.map_some, Option.map_none]
  go_enter Try.func17, Try.ntmps17
  go_wp2
  go_end0
  exact ⟨rfl, H.out, Below.refl _ _⟩

set_option maxRecDepth 100000 in
set_option maxHeartbeats 1000000 in
theorem step_none3 {B n : Nat} {nums : List Int} {w : World} (h : Ul B n nums w) (a : Int) (ad : Addr) (cap : Nat) (h0 : w.cell? ad = some (.int .i64 a)) (ha : a ≠ 1) :
    Calls Try.prog 17 #[ptr (some n), .slice (some ad) 3 cap] w fun e w' => e = .returned (.tuple #[]) ∧ Ul B n nums w' ∧ Below B w w' := by
  have H := Lib.hid h
  clear h
  have h2' : (a == 1) = false := by simp; omega
  simp only [ptr, Option.map_some, Option.map_none]
  go_enter Try.func17, Try.ntmps17
  go_wp2
  go_end0
  exact ⟨rfl, H.out, Below.refl _ _⟩

/-- A slice of numbers lies at its address. -/
def IntsAt (W : World) (A : Option Addr) (xs : List Int) : Prop := xs = [] ∨ ∃ ad, A = some ad ∧ ∀ j x, xs[j]? = some x → W.cell? (ad.add j) = some (.int .i64 x)

theorem len_two {l : List Int} (h : l.length = 2) : ∃ a b, l = [a, b] := by
  cases l with
  | nil => cases h
  | cons a l =>
    cases l with
    | nil => cases h
    | cons b l =>
      cases l with
      | nil => exact ⟨a, b, rfl⟩
      | cons c l => simp at h
theorem len_three {l : List Int} (h : l.length = 3) : ∃ a b c, l = [a, b, c] := by
  cases l with
  | nil => cases h
  | cons a l =>
    obtain ⟨b, c, rfl⟩ := len_two (l := l) (by simpa using h)
    exact ⟨a, b, c, rfl⟩

/-- A step, whatever it is. -/
theorem step_any {B n : Nat} {nums : List Int} {w : World} (h : Ul B n nums w) (A : Option Addr) (cap : Nat) (xs : List Int) (hl : (xs.length : Int) ≤ 9223372036854775807) (hx : IntsAt w A xs)
    (hr : ∀ x ∈ xs, -9223372036854775808 ≤ x ∧ x ≤ 9223372036854775807) :
    Calls Try.prog 17 #[ptr (some n), .slice A xs.length cap] w fun e w' => e = .returned (.tuple #[]) ∧ Ul B n (stepN nums xs) w' ∧ Below B w w' := by
  by_cases hl2 : xs.length = 2
  · obtain ⟨a, i, rfl⟩ := len_two hl2
    obtain ⟨ad, rfl, hc⟩ := hx.resolve_left (by simp)
    have h0 := hc 0 a rfl
    have h1 := hc 1 i rfl
    simp only [Addr.add, if_true, if_false, Nat.one_ne_zero] at h0 h1
    obtain ⟨hi1, hi2⟩ := hr i (by simp)
    by_cases ha : a = 0
    · subst ha
      exact step_remove h i ad cap h0 h1 hi2 hi1
    · by_cases ha2 : a = 2
      · subst ha2
        exact step_append h i ad cap h0 h1 hi2 hi1
      · have hs : stepN nums [a, i] = nums := by simp only [stepN]; rw [if_neg ha, if_neg ha2]
        rw [hs]
        exact step_none2 h a ad cap h0 ha ha2
  · by_cases hl3 : xs.length = 3
    · obtain ⟨a, i, k, rfl⟩ := len_three hl3
      obtain ⟨ad, rfl, hc⟩ := hx.resolve_left (by simp)
      have h0 := hc 0 a rfl
      have h1 := hc 1 i rfl
      have h2 := hc 2 k rfl
      simp only [Addr.add, if_true, if_false, Nat.one_ne_zero] at h0 h1 h2
      rw [if_neg (by omega)] at h2
      obtain ⟨hi1, hi2⟩ := hr i (by simp)
      obtain ⟨hk1, hk2⟩ := hr k (by simp)
      by_cases ha : a = 1
      · subst ha
        exact step_insert h i k ad cap h0 h1 h2 hk2 hk1 hi2 hi1
      · have hs : stepN nums [a, i, k] = nums := by simp only [stepN]; rw [if_neg ha]
        rw [hs]
        exact step_none3 h a ad cap h0 ha
    · have hs : stepN nums xs = nums := by
        unfold stepN
        split
        · exact absurd rfl hl2
        · exact absurd rfl hl3
        · rfl
      rw [hs]
      exact step_none h A _ cap hl hl2 hl3
end Go.Proofs.Ytgbeohhegckonaa
