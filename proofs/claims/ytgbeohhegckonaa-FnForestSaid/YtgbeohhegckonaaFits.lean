import Derived.Test.YtgbeohhegckonaaEdited
namespace Go.Proofs.Ytgbeohhegckonaa
open Go.RowKit Go.Shelf Go.BigFrame
set_option linter.unusedSimpArgs false
set_option linter.unusedVariables false

theorem ScriptAt.more {w : World} {B B' : Nat} {A : Option Addr} {rows : List (List Int)} (h : ScriptAt w B A rows) (hB : B ≤ B') : ScriptAt w B' A rows := by
  rcases h with h | ⟨a, hA, hab, hc⟩
  · exact .inl h
  · refine .inr ⟨a, hA, by omega, fun r xs hr => ?_⟩
    obtain ⟨A', C, h1, h2, h3⟩ := hc r xs hr
    exact ⟨A', C, h1, h2.more hB, h3⟩

set_option maxRecDepth 100000 in
set_option maxHeartbeats 1000000 in
theorem fits6_any (w : World) (B : Nat) (A : Option Addr) (cap : Nat) (rows : List (List Int)) (hcap : rows.length ≤ cap) (hmx : cap ≤ maxLen) (hS : ScriptAt w B A rows) :
    Calls Try.prog 5 #[.slice A rows.length cap] w fun e w' => ∃ b, e = .returned (.bool b) ∧ w' = w := by
  have hm : (rows.length : Int) ≤ 9223372036854775807 := by unfold maxLen at hmx; omega
  have HS := Lib.hid hS
  clear hS
  by_cases hbig : (2147483647 : Int) < rows.length
  · go_enter Try.func5, Try.ntmps5
    go_wp2
    go_ret
    exact ⟨false, rfl, rfl⟩
  · go_enter Try.func5, Try.ntmps5
    go_wp2_with fail
    go_loopg [10] rows.length (fun g s10 wx => ∃ k : Nat, k + g = rows.length ∧ s10 = .int .i64 k ∧ wx = w)
    case atStart => exact ⟨0, by omega, rfl, rfl⟩
    case round =>
      obtain ⟨k, hg, rfl, rfl⟩ := hrel
      by_cases hk : k < rows.length
      · obtain ⟨xs, hxs⟩ : ∃ xs, rows[k]? = some xs := ⟨_, List.getElem?_eq_getElem hk⟩
        obtain ⟨a, rfl, hab, hall⟩ := HS.out.resolve_left (fun h => by rw [h] at hk; simp at hk)
        obtain ⟨A', C, hc, hx, hC1, hC2, hC3, hrange⟩ := hall k xs hxs
        have hxm : (xs.length : Int) ≤ 9223372036854775807 := by unfold maxLen at hC2; omega
        clear hall hx hrange hxs
        by_cases hx : (2147483647 : Int) < xs.length
        · go_wp2
          go_ret
          exact ⟨false, rfl, rfl⟩
        · go_wp2
          go_roundg (rows.length - (k + 1))
          case measure => omega
          case rel => exact ⟨k + 1, by omega, by go_num, rfl⟩
      · obtain rfl : k = rows.length := by omega
        go_wp2
        go_ret
        exact ⟨true, rfl, rfl⟩
end Go.Proofs.Ytgbeohhegckonaa
