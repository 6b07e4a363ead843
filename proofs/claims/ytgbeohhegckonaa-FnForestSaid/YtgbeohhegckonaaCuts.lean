import Derived.Test.YtgbeohhegckonaaApp
import Derived.Deep.RegionHeld3
import Derived.Deep.RegionLaw
namespace Go.Proofs.Ytgbeohhegckonaa
open Go.RowKit Go.Shelf Go.BigFrame
set_option linter.unusedSimpArgs false
set_option linter.unusedVariables false

set_option maxRecDepth 100000 in
set_option maxHeartbeats 2000000 in
theorem without_any (w : World) (ad : Addr) (n cap : Nat) (xs : List Int) (hx : Lies w w.heap.size (some ad) (intsV xs)) (hlen : xs.length = n) (hnc : n ≤ cap) (hcap : cap ≤ maxLen) (i : Nat) (hi : i < n) (hsm : n ≤ 1099511627776) :
    Calls Try.prog 12 #[.slice (some ad) n cap, .int .i64 i] w fun e w' => ∃ v, e = .returned v ∧ w'.ownsRow w.heap.size 3 1 v (n - 1) (intsV (xs.take i ++ xs.drop (i + 1))) ∧ Below w.heap.size w w' := by
  obtain ⟨i0, hi0, hz0, hz1, hz2⟩ := info_parts infoInt
  have hb1 : (0 : Int) ≤ (i : Int) := by omega
  have hb2 : (i : Int) ≤ (cap : Int) := by omega
  have hb3 : (i : Int) + 1 ≤ (n : Int) := by omega
  have hb4 : (n : Int) ≤ (cap : Int) := by omega
  have hb5 : IntKind.i64.wrap ((i : Int) + 1) = (i : Int) + 1 := by rw [IntKind.wrap_i64]; omega
  have hb6 : (0 : Int) ≤ (i : Int) + 1 := by omega
  have hb7 : (n : Int) ≤ (n : Int) := by omega
  have hown0 : ((w.alloc (.cells #[] 3)).drew).ownsRow w.heap.size 3 1 (.slice (some ⟨w.heap.size, 0, none⟩) 0 0) 0 [] := World.ownsRow_lit (base := w.heap.size) (e := 3) (size := 1) w #[] 0 (Nat.le_refl _) (by decide) rfl
  have hl1 : Lies ((w.alloc (.cells #[] 3)).drew) w.heap.size (some ad) (intsV (xs.take i)) := by
    rw [intsV, List.map_take]
    exact (hx.take i).keep fun p hp => World.cell?_alloc_lt w _ p hp
  have hl2 := (hx.drop (i + 1) (cap := cap) (by simp; omega))
  rw [← List.map_drop] at hl2
  have hadd : ad.add (i + 1) = ⟨ad.block, ad.off + (i + 1), none⟩ := by simp [Addr.add]
  simp only [Option.map_some, hadd] at hl2
  have hdl : (intsV (xs.drop (i + 1))).length = n - (i + 1) := by simp; omega
  go_enter Try.func12, Try.ntmps12
  go_wp2_with fail
  go_region_held3 (fun _ => True) (trivial) (first
    | (refine step_app _ (by rfl) (.tmp 9) (.tmp 13) 40 (by rfl) w.heap.size 3 i0 (.int .i64 0) 8 underInts hi0 hz0 hz1 hz2 (by rfl) v1 (0 + i) ([] ++ intsV (xs.take i)) (by rfl) hown1 w.heap.size (if cap = i + 1 then some ad else some ⟨ad.block, ad.off + (i + 1), none⟩) (n - (i + 1)) (cap - (i + 1)) (intsV (xs.drop (i + 1))) hdl (fun h => by split at h <;> cases h) (by rfl) (hl2.below hbw1) (intsV_one _) (by simp only [maxLen]; omega) (by omega) hbw1.size ?_; intro v2 w2 hown2 hg2 hat2)
    | (refine step_app _ (by rfl) (.tmp 5) (.tmp 8) 40 (by rfl) w.heap.size 3 i0 (.int .i64 0) 8 underInts hi0 hz0 hz1 hz2 (by rfl) (.slice (some ⟨w.heap.size, 0, none⟩) 0 0) 0 [] (by rfl) hown0 w.heap.size (some ad) i cap (intsV (xs.take i)) (by simp; omega) (fun h => by cases h) (by rfl) hl1 (intsV_one _) (by simp only [maxLen]; omega) (by omega) (by simp) ?_; intro v1 w1 hown1 hg1 hat1; have hbw1 : Below w.heap.size w w1 := (((Below.refl _ w).alloc (Nat.le_refl _) _).drew).grown hg1 (by simp) (own_base hown0)))
  have hB2 := hbw1.grown hg2 hbw1.size (own_base hown1)
  have hn1 : 0 + i + (n - (i + 1)) = n - 1 := by omega
  rw [hn1] at hown2
  have HF := Lib.hid (And.intro hown2 hB2)
  clear hown2 hB2 hg2 hat2 hown1 hg1 hat1 hbw1 hown0 hl1 hl2 hn1
  go_wp2_with fail
  all_goals go_ret
  all_goals exact ⟨v2, rfl, by simpa using HF.out.1, HF.out.2⟩

theorem lies_one {W W1 : World} {g : Nat} {row : Option Nat} {x : Value} {t : TypeId} (hg : W.grownBy W1 row) (hc : W.heap[g]? = some (.cells #[x] t (0, 0))) (hne : some g ≠ row) : Lies W1 W1.heap.size (some ⟨g, 0, none⟩) [x] := by
  have hlt := lt_of_block hc
  refine .inr ⟨_, rfl, Nat.lt_of_lt_of_le hlt hg.size, fun j u hu => ?_⟩
  match j, hu with
  | 0, hu =>
    have : x = u := by simpa using hu
    subst this
    have h2 := hg.block g hlt hne
    simp [Addr.add, World.cell?, h2, hc]
theorem lies_new (W : World) (x : Value) (t : TypeId) : Lies (W.alloc (.cells #[x] t)) (W.heap.size + 1) (some ⟨W.heap.size, 0, none⟩) [x] :=
  .inr ⟨_, rfl, Nat.lt_succ_self _, cell_one_new W x t⟩

set_option maxRecDepth 100000 in
set_option maxHeartbeats 2000000 in
theorem with_any (w : World) (A : Option Addr) (n cap : Nat) (xs : List Int) (hx : Lies w w.heap.size A (intsV xs)) (hlen : xs.length = n) (hA0 : A = none → cap = 0) (hnc : n ≤ cap) (hcap : cap ≤ maxLen) (i : Nat) (hi : i ≤ n) (k : Int) (hsm : n ≤ 1099511627776) :
    Calls Try.prog 13 #[.slice A n cap, .int .i64 i, .int .i64 k] w fun e w' => ∃ v, e = .returned v ∧ w'.ownsRow w.heap.size 3 1 v (n + 1) (intsV (xs.take i ++ k :: xs.drop i)) ∧ Below w.heap.size w w' := by
  obtain ⟨i0, hi0, hz0, hz1, hz2⟩ := info_parts infoInt
  have hb1 : (0 : Int) ≤ (i : Int) := by omega
  have hb2 : (i : Int) ≤ (cap : Int) := by omega
  have hb3 : (i : Int) ≤ (n : Int) := by omega
  have hb4 : (n : Int) ≤ (cap : Int) := by omega
  have hb7 : (n : Int) ≤ (n : Int) := by omega
  have hownA : ((w.alloc (.cells #[] 3)).drew).ownsRow w.heap.size 3 1 (.slice (some ⟨w.heap.size, 0, none⟩) 0 0) 0 [] := World.ownsRow_lit (base := w.heap.size) (e := 3) (size := 1) w #[] 0 (Nat.le_refl _) (by decide) rfl
  have hownB : (((w.alloc (.cells #[] 3)).alloc (.cells #[.int .i64 k] 3)).drew).ownsRow w.heap.size 3 1 (.slice (some ⟨w.heap.size, 0, none⟩) 0 0) 0 [] := (World.ownsRow_lit (base := w.heap.size) (e := 3) (size := 1) w #[] 0 (Nat.le_refl _) (by decide) rfl).alloc _
  have hownC : (((w.alloc (.cells #[.int .i64 k] 3)).alloc (.cells #[] 3)).drew).ownsRow w.heap.size 3 1 (.slice (some ⟨w.heap.size + 1, 0, none⟩) 0 0) 0 [] := by
    have := World.ownsRow_lit (base := w.heap.size) (e := 3) (size := 1) (w.alloc (.cells #[.int .i64 k] 3)) #[] 0 (by simp) (by decide) rfl
    simp only [World.size_alloc] at this
    exact this
  have hl1 : ∀ W, Below w.heap.size w W → Lies W w.heap.size A (intsV (xs.take i)) := fun W hW => by
    have := (hx.take i).below hW
    simpa using this
  have hl2 : ∀ W, Below w.heap.size w W → Lies W w.heap.size (if cap = i then A else A.map (fun x => x.add i)) (intsV (xs.drop i)) := fun W hW => by
    have := (hx.drop i (cap := cap) (by simp; omega)).below hW
    simpa using this
  have hbA : ∀ o, Below w.heap.size w ((w.alloc o).drew) := fun o => ((Below.refl _ w).alloc (Nat.le_refl _) _).drew
  have hbB : ∀ o o', Below w.heap.size w (((w.alloc o).alloc o').drew) := fun o o' => (((Below.refl _ w).alloc (Nat.le_refl _) _).alloc (by simp) _).drew
  have hnA : (if cap = i then A else A.map (fun x => x.add i)) = none → n - i = 0 := fun h => by
    split at h
    · have := hA0 h; omega
    · cases A with
      | none => have := hA0 rfl; omega
      | some a => cases h
  have hkB : ((w.alloc (.cells #[] 3)).alloc (.cells #[.int .i64 k] 3)).drew.heap[w.heap.size + 1]? = some (.cells #[.int .i64 k] 3 (0, 0)) := by
    have := heap_alloc_new (w.alloc (.cells #[] 3)) (.cells #[.int .i64 k] 3)
    rw [World.size_alloc] at this
    exact this
  have hkC : ((w.alloc (.cells #[.int .i64 k] 3)).alloc (.cells #[] 3)).drew.heap[w.heap.size]? = some (.cells #[.int .i64 k] 3 (0, 0)) :=
    (Below.heap_alloc (w.alloc (.cells #[.int .i64 k] 3)) (.cells #[] 3) w.heap.size (by simp)).trans (heap_alloc_new w _)
  go_enter Try.func13, Try.ntmps13
  go_wp2_with fail
  go_region_held3 (fun _ => True) (trivial) (first
    | (refine step_app _ (by rfl) (.tmp 14) (.tmp 17) 40 (by rfl) w.heap.size 3 i0 (.int .i64 0) 8 underInts hi0 hz0 hz1 hz2 (by rfl) v2 (0 + i + 1) ([] ++ intsV (xs.take i) ++ [.int .i64 k]) (by rfl) hown2 w.heap.size (if cap = i then A else A.map (fun x => x.add i)) (n - i) (cap - i) (intsV (xs.drop i)) (by simp; omega) hnA (by rfl) (hl2 _ hbw2) (intsV_one _) (by simp only [maxLen]; omega) (by omega) hbw2.size ?_; intro v3 w3 hown3 hg3 hat3)
    | (refine step_app _ (by rfl) (.tmp 11) (.tmp 13) 40 (by rfl) w.heap.size 3 i0 (.int .i64 0) 8 underInts hi0 hz0 hz1 hz2 (by rfl) v1 (0 + i) ([] ++ intsV (xs.take i)) (by rfl) (hown1.alloc _) (w1.heap.size + 1) (some ⟨w1.heap.size, 0, none⟩) 1 1 [.int .i64 k] rfl (fun h => by cases h) (by rfl) (lies_new w1 _ 3) (by simp [Value.oneCell']) (by simp only [maxLen]; omega) (by omega) (by simp; have := hbw1.size; omega) ?_; intro v2 w2 hown2 hg2 hat2; have hbw2 : Below w.heap.size w w2 := (hbw1.alloc hbw1.size (.cells #[.int .i64 k] 3)).grown hg2 (by simp; have := hbw1.size; omega) (own_base hown1))
    | (refine step_app _ (by rfl) (.tmp 11) (.tmp 13) 40 (by rfl) w.heap.size 3 i0 (.int .i64 0) 8 underInts hi0 hz0 hz1 hz2 (by rfl) v1 (0 + i) ([] ++ intsV (xs.take i)) (by rfl) hown1 w1.heap.size (some ⟨w.heap.size + 1, 0, none⟩) 1 1 [.int .i64 k] rfl (fun h => by cases h) (by rfl) hk1 (by simp [Value.oneCell']) (by simp only [maxLen]; omega) (by omega) hbw1.size ?_; intro v2 w2 hown2 hg2 hat2; have hbw2 : Below w.heap.size w w2 := hbw1.grown hg2 hbw1.size (own_base hown1))
    | (refine step_app _ (by rfl) (.tmp 11) (.tmp 13) 40 (by rfl) w.heap.size 3 i0 (.int .i64 0) 8 underInts hi0 hz0 hz1 hz2 (by rfl) v1 (0 + i) ([] ++ intsV (xs.take i)) (by rfl) hown1 w1.heap.size (some ⟨w.heap.size, 0, none⟩) 1 1 [.int .i64 k] rfl (fun h => by cases h) (by rfl) hk1 (by simp [Value.oneCell']) (by simp only [maxLen]; omega) (by omega) hbw1.size ?_; intro v2 w2 hown2 hg2 hat2; have hbw2 : Below w.heap.size w w2 := hbw1.grown hg2 hbw1.size (own_base hown1))
    | (refine step_app _ (by rfl) (.tmp 7) (.tmp 10) 40 (by rfl) w.heap.size 3 i0 (.int .i64 0) 8 underInts hi0 hz0 hz1 hz2 (by rfl) (.slice (some ⟨w.heap.size, 0, none⟩) 0 0) 0 [] (by rfl) hownA w.heap.size A i cap (intsV (xs.take i)) (by simp; omega) (fun h => by have := hA0 h; omega) (by rfl) (hl1 _ (hbA _)) (intsV_one _) (by simp only [maxLen]; omega) (by omega) (hbA _).size ?_; intro v1 w1 hown1 hg1 hat1; have hbw1 : Below w.heap.size w w1 := Below.grown (hbA _) hg1 (hbA _).size (own_base hownA))
    | (refine step_app _ (by rfl) (.tmp 7) (.tmp 10) 40 (by rfl) w.heap.size 3 i0 (.int .i64 0) 8 underInts hi0 hz0 hz1 hz2 (by rfl) (.slice (some ⟨w.heap.size, 0, none⟩) 0 0) 0 [] (by rfl) hownB w.heap.size A i cap (intsV (xs.take i)) (by simp; omega) (fun h => by have := hA0 h; omega) (by rfl) (hl1 _ (hbB _ _)) (intsV_one _) (by simp only [maxLen]; omega) (by omega) (hbB _ _).size ?_; intro v1 w1 hown1 hg1 hat1; have hbw1 : Below w.heap.size w w1 := Below.grown (hbB _ _) hg1 (hbB _ _).size (own_base hownB); have hk1 := lies_one (g := w.heap.size + 1) hg1 hkB (by simp [Value.ownBlock]))
    | (refine step_app _ (by rfl) (.tmp 7) (.tmp 10) 40 (by rfl) w.heap.size 3 i0 (.int .i64 0) 8 underInts hi0 hz0 hz1 hz2 (by rfl) (.slice (some ⟨w.heap.size + 1, 0, none⟩) 0 0) 0 [] (by rfl) hownC w.heap.size A i cap (intsV (xs.take i)) (by simp; omega) (fun h => by have := hA0 h; omega) (by rfl) (hl1 _ (hbB _ _)) (intsV_one _) (by simp only [maxLen]; omega) (by omega) (hbB _ _).size ?_; intro v1 w1 hown1 hg1 hat1; have hbw1 : Below w.heap.size w w1 := Below.grown (hbB _ _) hg1 (hbB _ _).size (own_base hownC); have hk1 := lies_one (g := w.heap.size) hg1 hkC (by simp [Value.ownBlock]))
    | fail)
  all_goals
    have hB3 := hbw2.grown hg3 hbw2.size (own_base hown2)
    have hn1 : 0 + i + 1 + (n - i) = n + 1 := by omega
    rw [hn1] at hown3
    have HF := Lib.hid (And.intro hown3 hB3)
    clear hown3 hB3 hg3 hat3 hown2 hg2 hat2 hown1 hg1 hat1 hbw1 hbw2 hl1 hl2 hnA hn1 hkB hkC
    go_wp2_with fail
    all_goals go_ret
    all_goals exact ⟨v3, rfl, by simpa using HF.out.1, HF.out.2⟩
end Go.Proofs.Ytgbeohhegckonaa
