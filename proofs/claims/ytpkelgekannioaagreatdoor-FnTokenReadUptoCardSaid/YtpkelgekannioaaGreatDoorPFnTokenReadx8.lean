-- PRINTED BY print.sh 35421559b90ae4d0a3588c463048766b98c2df88dd9212a6774a882060cdf62d: not written by this session
import Derived.Test.YtpkelgekannioaaGreatDoorPFnTokenReadx0
import Derived.Test.YtpkelgekannioaaGreatDoorPFnTokenReadx7
namespace Go.Proofs.YtpkelgekannioaaGreatDoor.PFnTokenRead
open Go.RowKit Go.Proofs.YtpkelgekannioaaGreatDoorW.PrintWords Go.Proofs.YtpkelgekannioaaGreatDoorW.PrintLast Go.Proofs.YtpkelgekannioaaGreatDoorW.PrintMore
attribute [local go_sem] max2_int min2_int max_two min_two max_three min_three max_four min_four   -- for this text's walks alone
set_option linter.unusedVariables false
set_option linter.unusedSimpArgs false

/-! ### spec_Valid: function 13 -/
def spec_Valid.l0 : Nat → ByteArray → Int → Option (Bool)
  | 0, _, _ => none
  | k + 1, x0, x3 => if x3 < (x0.size : Int) then (if 0 ≤ x3 then (if x3 ≤ (x0.size : Int) then ((spec_size.f k (x0.extract (x3 : Int).toNat x0.size)).bind fun t110 => (if t110 = 0 then (some false) else (if (bt x0 x3) = 0 then (some false) else (spec_Valid.l0 k x0 (wrap64 (x3 + t110)))))) else (none)) else (none)) else (some true)
def spec_Valid.f (k : Nat) (a0 : ByteArray) : Option (Bool) := spec_Valid.l0 k a0 0
theorem spec_Valid.mono_l : ∀ k, (∀ y0 y1, LeO (spec_Valid.l0 k y0 y1) (spec_Valid.l0 (k + 1) y0 y1))
  | 0 => fun _ _ r h => by simp [spec_Valid.l0] at h
  | k + 1 => by
    have ih0 := spec_Valid.mono_l k
    · intro y0 y1
      unfold spec_Valid.l0
      repeat' first
      | (with_reducible exact ih0 _ _)
      | (with_reducible exact spec_size.mono _ _)
      | (with_reducible exact LeO.refl _)
      | (with_reducible exact LeO.none _)
      | (with_reducible refine LeO.ite ?_ ?_)
      | (with_reducible refine LeO.bind ?_ (fun _ => ?_))
      | exact ih0 _ _
      | exact spec_size.mono _ _
      | exact LeO.none _
      | refine LeO.ite ?_ ?_
      | refine LeO.bind ?_ (fun _ => ?_)
theorem spec_Valid.mono : ∀ a0 k, LeO (spec_Valid.f k a0) (spec_Valid.f (k + 1) a0) := by
  intro a0 k
  have ih0 := spec_Valid.mono_l k
  unfold spec_Valid.f
  repeat' first
      | (with_reducible exact ih0 _ _)
      | (with_reducible exact spec_size.mono _ _)
      | (with_reducible exact LeO.refl _)
      | (with_reducible exact LeO.none _)
      | (with_reducible refine LeO.ite ?_ ?_)
      | (with_reducible refine LeO.bind ?_ (fun _ => ?_))
      | exact ih0 _ _
      | exact spec_size.mono _ _
      | exact LeO.none _
      | refine LeO.ite ?_ ?_
      | refine LeO.bind ?_ (fun _ => ?_)
set_option maxHeartbeats 8000000 in
set_option maxRecDepth 100000 in
theorem spec_Valid.calls (k : Nat) (a0 : ByteArray) (r : Bool) (w : World) (h : spec_Valid.f k a0 = some r) :
    Calls Tryz.prog 13 #[.string a0] w fun e w' => e = .returned (.bool r) ∧ Drawn0 w w' := by
  have H : (spec_Valid.l0 k a0 0) = some r := h
  clear h
  have H' := Aside0.mk H
  clear H
  go_enter Tryz.func13, Tryz.ntmps13
  go_wp2
  go_loopg [3] k (fun kq v3 w' => ∃ (x3_1 : Int), v3 = .int .i64 x3_1 ∧ Aside0 (spec_Valid.l0 kq a0 x3_1 = some r) ∧ Aside0 (kq ≤ k) ∧ Drawn0 w w')
  case atStart => exact ⟨(0), (by first | rfl | (simp; done) | (simp [*]; done)), H', ⟨Nat.le_refl _⟩, by repeat (first | exact Drawn0.refl _ | apply Drawn0.step)⟩
  case round =>
    clear H'
    try clear c1
    obtain ⟨x3_1, rfl, HA, HK1, ⟨m1, rfl⟩⟩ := hrel
    cases gk with
    | zero => exact absurd HA.out (by simp [spec_Valid.l0])
    | succ k1 =>
      have H := HA.out
      clear HA
      simp only [spec_Valid.l0] at H
      by_cases c2 : x3_1 < (a0.size : Int)
      · rw [if_pos c2] at H
        have c2b0 : decide (x3_1 < (a0.size : Int)) = true := decide_eq_true c2
        clear c2
        by_cases c3 : 0 ≤ x3_1
        · rw [if_pos c3] at H
          have c3b0 := eq_true c3
          have c3b1 : decide (0 ≤ x3_1) = true := decide_eq_true c3
          clear c3
          by_cases c4 : x3_1 ≤ (a0.size : Int)
          · rw [if_pos c4] at H
            have c4b0 := eq_true c4
            have c4b1 : decide (x3_1 ≤ (a0.size : Int)) = true := decide_eq_true c4
            clear c4
            replace H := Option.bind_eq_some_iff.mp H
            obtain ⟨t110, A50, H⟩ := H
            replace H : (if t110 = 0 then (some false) else (if (bt a0 x3_1) = 0 then (some false) else (spec_Valid.l0 k1 a0 (wrap64 (x3_1 + t110))))) = some r := H
            have A5 := Aside0.mk A50
            clear A50
            by_cases c6 : t110 = 0
            · rw [if_pos c6] at H
              have c6b0 : (t110 == 0) = true := beq_iff_eq.mpr c6
              have c6b1 : (t110 != 0) = false := bne_eq_false_iff_eq.mpr c6
              clear c6
              obtain rfl := Option.some.inj H
              go_wp2_with (first | ((with_reducible refine gate_callee (f := 24) rfl ?_); refine goesL_ (some 12) rfl rfl Tryz.func24 (by kernel_rfl) rfl #[.string (a0.extract (x3_1 : Int).toNat a0.size)] rfl (by (try simp only [List.map_toArray, List.map_cons, List.map_nil]); first | done | rfl | (simp only [List.length_drop, List.length_take]; rfl)) ?_; (with_reducible refine (spec_size.calls k1 (a0.extract (x3_1 : Int).toNat a0.size) t110 _ A5.out).mono ?_); rintro e w' ⟨rfl, ⟨nd, rfl⟩⟩; refine ⟨_, rfl, ?_⟩))
              go_ret
              exact ⟨by first | rfl | (simp; done) | (simp [*]; done), by repeat (first | exact Drawn0.refl _ | apply Drawn0.step)⟩
            · rw [if_neg c6] at H
              have c6b0 : (t110 == 0) = false := beq_eq_false_iff_ne.mpr c6
              have c6b1 : (t110 != 0) = true := bne_iff_ne.mpr c6
              by_cases c8 : (bt a0 x3_1) = 0
              · rw [if_pos c8] at H
                have c8b0 : ((bt a0 x3_1) == 0) = true := beq_iff_eq.mpr c8
                have c8b1 : ((bt a0 x3_1) != 0) = false := bne_eq_false_iff_eq.mpr c8
                clear c8
                obtain rfl := Option.some.inj H
                go_wp2_with (first | ((with_reducible refine gate_callee (f := 24) rfl ?_); refine goesL_ (some 12) rfl rfl Tryz.func24 (by kernel_rfl) rfl #[.string (a0.extract (x3_1 : Int).toNat a0.size)] rfl (by (try simp only [List.map_toArray, List.map_cons, List.map_nil]); first | done | rfl | (simp only [List.length_drop, List.length_take]; rfl)) ?_; (with_reducible refine (spec_size.calls k1 (a0.extract (x3_1 : Int).toNat a0.size) t110 _ A5.out).mono ?_); rintro e w' ⟨rfl, ⟨nd, rfl⟩⟩; refine ⟨_, rfl, ?_⟩; have p7 : 0 ≤ (x3_1 : Int) := of_decide_eq_true (by first | (with_reducible assumption) | assumption); have q7 : x3_1 < (a0.size : Int) := of_decide_eq_true (by first | (with_reducible assumption) | assumption); have hx7 := bt_at a0 x3_1; replace p7 := eq_true p7; replace q7 := eq_true q7))
                go_ret
                exact ⟨by first | rfl | (simp; done) | (simp [*]; done), by repeat (first | exact Drawn0.refl _ | apply Drawn0.step)⟩
              · rw [if_neg c8] at H
                have c8b0 : ((bt a0 x3_1) == 0) = false := beq_eq_false_iff_ne.mpr c8
                have c8b1 : ((bt a0 x3_1) != 0) = true := bne_iff_ne.mpr c8
                have H' := Aside0.mk H
                clear H
                go_wp2_with (first | ((with_reducible refine gate_callee (f := 24) rfl ?_); refine goesL_ (some 12) rfl rfl Tryz.func24 (by kernel_rfl) rfl #[.string (a0.extract (x3_1 : Int).toNat a0.size)] rfl (by (try simp only [List.map_toArray, List.map_cons, List.map_nil]); first | done | rfl | (simp only [List.length_drop, List.length_take]; rfl)) ?_; (with_reducible refine (spec_size.calls k1 (a0.extract (x3_1 : Int).toNat a0.size) t110 _ A5.out).mono ?_); rintro e w' ⟨rfl, ⟨nd, rfl⟩⟩; refine ⟨_, rfl, ?_⟩; have p7 : 0 ≤ (x3_1 : Int) := of_decide_eq_true (by first | (with_reducible assumption) | assumption); have q7 : x3_1 < (a0.size : Int) := of_decide_eq_true (by first | (with_reducible assumption) | assumption); have hx7 := bt_at a0 x3_1; replace p7 := eq_true p7; replace q7 := eq_true q7))
                go_roundg k1
                case measure => have := HK1.out; omega
                case rel => exact ⟨(wrap64 (x3_1 + t110)), (by first | rfl | (simp; done) | (simp [*]; done)), H', ⟨by have := HK1.out; omega⟩, by repeat (first | exact Drawn0.refl _ | apply Drawn0.step)⟩
          · rw [if_neg c4] at H
            exact absurd H (by simp)
        · rw [if_neg c3] at H
          exact absurd H (by simp)
      · rw [if_neg c2] at H
        have c2b0 : decide (x3_1 < (a0.size : Int)) = false := decide_eq_false c2
        clear c2
        obtain rfl := Option.some.inj H
        go_wp2
        go_ret
        exact ⟨by first | rfl | (simp; done) | (simp [*]; done), by repeat (first | exact Drawn0.refl _ | apply Drawn0.step)⟩

end Go.Proofs.YtpkelgekannioaaGreatDoor.PFnTokenRead
