import Derived.Test.YtgbeohhegckonaaLinks
import Derived.Deep.LoopGhost
namespace Go.Proofs.Ytgbeohhegckonaa
open Go.RowKit Go.Shelf Go.BigFrame
set_option linter.unusedSimpArgs false
set_option linter.unusedVariables false

/-- The child at a place, if there is one. -/
def kidAt (l : List Nat) (i : Int) : Option Nat := if i < 0 then none else l[i.toNat]?

set_option maxRecDepth 100000 in
set_option maxHeartbeats 1000000 in
theorem child_any {D : Nat → Option Info} {G : Nat → Nat → Option Nat} {K : Nat → List Nat} {w : World} (hN : Nodes w D G) (hL : Linked D G K) {n : Nat} (hn : (D n).isSome = true)
    (i : Int) (hi : i ≤ 9223372036854775807) (hi' : -9223372036854775808 ≤ i) :
    Calls Try.prog 30 #[ptr (some n), .int .i64 i] w fun e w' => e = .returned (ptr (kidAt (K n) i)) ∧ w' = w := by
  obtain ⟨dn, hdn⟩ := some_of hn
  have k1 := hN.c1 hdn
  rw [hL.first n hn] at k1
  obtain ⟨u, hu⟩ : ∃ u : Option Addr, ptr (K n).head? = .pointer u := ⟨_, rfl⟩
  rw [hu] at k1
  have HU := Lib.hid hu
  clear hu
  simp only [ptr, Option.map_some]
  go_enter Try.func30, Try.ntmps30
  go_wp2
  go_loopg [1, 5] ((K n).length + 1) (fun g s1 s5 wx => ∃ l1 l2, K n = l1 ++ l2 ∧ g = l2.length + 1 ∧ s5 = ptr l2.head? ∧ s1 = .int .i64 (i - l1.length) ∧ (l1 = [] ∨ (l1.length : Int) ≤ i) ∧ wx = w)
  case atStart => exact ⟨[], K n, rfl, rfl, HU.out.symm, by simp, .inl rfl, rfl⟩
  case round =>
    obtain ⟨l1, l2, hk, rfl, rfl, rfl, hl, rfl⟩ := hrel
    cases l2 with
    | nil =>
      simp only [List.head?_nil, ptr, Option.map_none]
      rw [List.append_nil] at hk
      have hend : kidAt (K n) i = none := by
        unfold kidAt
        split
        · rfl
        · rcases hl with rfl | hl
          · rw [hk]; rfl
          · rw [hk]; exact List.getElem?_eq_none (by omega)
      have HE := Lib.hid hend
      clear hend
      go_wp2
      all_goals go_ret
      all_goals rw [HE.out]
      all_goals exact ⟨rfl, rfl⟩
    | cons x l2 =>
      simp only [List.head?_cons, ptr, Option.map_some]
      have hxK : x ∈ K n := by rw [hk]; simp
      obtain ⟨dx, hdx⟩ := some_of (hL.dom n x hxK).2
      have k4 := hN.c4 hdx
      rw [(hL.next l1 l2 hk).2.2] at k4
      obtain ⟨v, hv⟩ : ∃ v : Option Addr, ptr l2.head? = .pointer v := ⟨_, rfl⟩
      rw [hv] at k4
      have HV := Lib.hid hv
      have HK := Lib.hid hk
      clear hv hk
      by_cases hp : 0 < i - l1.length
      · go_wp2
        go_roundg (l2.length + 1)
        case measure => simp
        case rel => exact ⟨l1 ++ [x], l2, by rw [HK.out]; simp, rfl, HV.out.symm, by rw [List.length_append]; go_num, .inr (by simp; omega), rfl⟩
      · have hend : i < 0 → kidAt (K n) i = none := fun h => by rw [kidAt, if_pos h]
        have hend2 : 0 ≤ i → kidAt (K n) i = some x := fun h => by
          rw [kidAt, if_neg (by omega), HK.out]
          have : i.toNat = l1.length := by
            rcases hl with rfl | hl
            · simp at hp ⊢; omega
            · omega
          rw [this]
          simp
        have HE := Lib.hid (And.intro hend hend2)
        have HL := Lib.hid hl
        clear hend hend2 hl
        by_cases hneg : i - l1.length < 0
        · go_wp2
          go_ret
          rw [HE.out.1 (by rcases HL.out with rfl | h <;> simp at * <;> omega)]
          exact ⟨rfl, rfl⟩
        · go_wp2
          go_ret
          rw [HE.out.2 (by omega)]
          exact ⟨rfl, rfl⟩
end Go.Proofs.Ytgbeohhegckonaa
