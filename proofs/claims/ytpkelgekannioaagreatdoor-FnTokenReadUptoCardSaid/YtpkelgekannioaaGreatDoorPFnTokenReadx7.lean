-- PRINTED BY print.sh 35421559b90ae4d0a3588c463048766b98c2df88dd9212a6774a882060cdf62d: not written by this session
import Derived.Test.YtpkelgekannioaaGreatDoorPFnTokenReadx0
namespace Go.Proofs.YtpkelgekannioaaGreatDoor.PFnTokenRead
open Go.RowKit Go.Proofs.YtpkelgekannioaaGreatDoorW.PrintWords Go.Proofs.YtpkelgekannioaaGreatDoorW.PrintLast Go.Proofs.YtpkelgekannioaaGreatDoorW.PrintMore
attribute [local go_sem] max2_int min2_int max_two min_two max_three min_three max_four min_four   -- for this text's walks alone
set_option linter.unusedVariables false
set_option linter.unusedSimpArgs false

/-! ### spec_size: function 24 -/
mutual
def spec_size.j2 : Nat → ByteArray → Int → Int → Int → Option (Int)
  | 0, _, _, _, _ => none
  | k + 1, x0, x3, x4, x5 => if (x0.size : Int) < x4 then (some 0) else (spec_size.l0 k x0 x3 x4 x5 1)
def spec_size.l0 : Nat → ByteArray → Int → Int → Int → Int → Option (Int)
  | 0, _, _, _, _, _ => none
  | k + 1, x0, x3, x4, x5, x6 => if x6 < x4 then (if 0 ≤ x6 then (if x6 < (x0.size : Int) then (if (Go.bits .and .u8 (bt x0 x6) 192) = 128 then (spec_size.l0 k x0 (Go.bits .or .i64 (wrap64 (x3 * 64)) (wrap64 (Go.bits .and .u8 (bt x0 x6) 63))) x4 x5 (wrap64 (x6 + 1))) else (some 0)) else (none)) else (none)) else (if x3 < x5 then (some 0) else (if x3 > 1114111 then (some 0) else (if x3 ≥ 55296 then (if x3 ≤ 57343 then (some 0) else (some x4)) else (some x4))))
def spec_size.j0 : Nat → ByteArray → Int → Bool → Option (Int)
  | 0, _, _, _ => none
  | k + 1, x0, x3, x13 => if x13 = true then (spec_size.j2 k x0 (Go.bits .and .i64 x3 31) 2 128) else (if x3 ≥ 224 then (spec_size.j1 k x0 x3 (decide (x3 < 240))) else (spec_size.j1 k x0 x3 false))
def spec_size.j1 : Nat → ByteArray → Int → Bool → Option (Int)
  | 0, _, _, _ => none
  | k + 1, x0, x3, x22 => if x22 = true then (spec_size.j2 k x0 (Go.bits .and .i64 x3 15) 3 2048) else (if x3 ≥ 240 then (if x3 < 245 then (spec_size.j2 k x0 (Go.bits .and .i64 x3 7) 4 65536) else (some 0)) else (some 0))
end
def spec_size.f (k : Nat) (a0 : ByteArray) : Option (Int) := if 0 < (a0.size : Int) then (if (wrap64 (bt a0 0)) < 128 then (some 1) else (if (wrap64 (bt a0 0)) ≥ 194 then (spec_size.j0 k a0 (wrap64 (bt a0 0)) (decide ((wrap64 (bt a0 0)) < 224))) else (spec_size.j0 k a0 (wrap64 (bt a0 0)) false))) else (none)
theorem spec_size.mono_l : ∀ k, (∀ y0 y1 y2 y3, LeO (spec_size.j2 k y0 y1 y2 y3) (spec_size.j2 (k + 1) y0 y1 y2 y3)) ∧ (∀ y0 y1 y2 y3 y4, LeO (spec_size.l0 k y0 y1 y2 y3 y4) (spec_size.l0 (k + 1) y0 y1 y2 y3 y4)) ∧ (∀ y0 y1 y2, LeO (spec_size.j0 k y0 y1 y2) (spec_size.j0 (k + 1) y0 y1 y2)) ∧ (∀ y0 y1 y2, LeO (spec_size.j1 k y0 y1 y2) (spec_size.j1 (k + 1) y0 y1 y2))
  | 0 => ⟨fun _ _ _ _ r h => by simp [spec_size.j2] at h, fun _ _ _ _ _ r h => by simp [spec_size.l0] at h, fun _ _ _ r h => by simp [spec_size.j0] at h, fun _ _ _ r h => by simp [spec_size.j1] at h⟩
  | k + 1 => by
    obtain ⟨ih0, ih1, ih2, ih3⟩ := spec_size.mono_l k
    refine ⟨?_, ?_, ?_, ?_⟩
    · intro y0 y1 y2 y3
      unfold spec_size.j2
      repeat' first
      | (with_reducible exact ih0 _ _ _ _)
      | (with_reducible exact ih1 _ _ _ _ _)
      | (with_reducible exact ih2 _ _ _)
      | (with_reducible exact ih3 _ _ _)
      | (with_reducible exact LeO.refl _)
      | (with_reducible exact LeO.none _)
      | (with_reducible refine LeO.ite ?_ ?_)
      | (with_reducible refine LeO.bind ?_ (fun _ => ?_))
      | exact ih0 _ _ _ _
      | exact ih1 _ _ _ _ _
      | exact ih2 _ _ _
      | exact ih3 _ _ _
      | exact LeO.none _
      | refine LeO.ite ?_ ?_
      | refine LeO.bind ?_ (fun _ => ?_)
    · intro y0 y1 y2 y3 y4
      unfold spec_size.l0
      repeat' first
      | (with_reducible exact ih0 _ _ _ _)
      | (with_reducible exact ih1 _ _ _ _ _)
      | (with_reducible exact ih2 _ _ _)
      | (with_reducible exact ih3 _ _ _)
      | (with_reducible exact LeO.refl _)
      | (with_reducible exact LeO.none _)
      | (with_reducible refine LeO.ite ?_ ?_)
      | (with_reducible refine LeO.bind ?_ (fun _ => ?_))
      | exact ih0 _ _ _ _
      | exact ih1 _ _ _ _ _
      | exact ih2 _ _ _
      | exact ih3 _ _ _
      | exact LeO.none _
      | refine LeO.ite ?_ ?_
      | refine LeO.bind ?_ (fun _ => ?_)
    · intro y0 y1 y2
      unfold spec_size.j0
      repeat' first
      | (with_reducible exact ih0 _ _ _ _)
      | (with_reducible exact ih1 _ _ _ _ _)
      | (with_reducible exact ih2 _ _ _)
      | (with_reducible exact ih3 _ _ _)
      | (with_reducible exact LeO.refl _)
      | (with_reducible exact LeO.none _)
      | (with_reducible refine LeO.ite ?_ ?_)
      | (with_reducible refine LeO.bind ?_ (fun _ => ?_))
      | exact ih0 _ _ _ _
      | exact ih1 _ _ _ _ _
      | exact ih2 _ _ _
      | exact ih3 _ _ _
      | exact LeO.none _
      | refine LeO.ite ?_ ?_
      | refine LeO.bind ?_ (fun _ => ?_)
    · intro y0 y1 y2
      unfold spec_size.j1
      repeat' first
      | (with_reducible exact ih0 _ _ _ _)
      | (with_reducible exact ih1 _ _ _ _ _)
      | (with_reducible exact ih2 _ _ _)
      | (with_reducible exact ih3 _ _ _)
      | (with_reducible exact LeO.refl _)
      | (with_reducible exact LeO.none _)
      | (with_reducible refine LeO.ite ?_ ?_)
      | (with_reducible refine LeO.bind ?_ (fun _ => ?_))
      | exact ih0 _ _ _ _
      | exact ih1 _ _ _ _ _
      | exact ih2 _ _ _
      | exact ih3 _ _ _
      | exact LeO.none _
      | refine LeO.ite ?_ ?_
      | refine LeO.bind ?_ (fun _ => ?_)
theorem spec_size.mono : ∀ a0 k, LeO (spec_size.f k a0) (spec_size.f (k + 1) a0) := by
  intro a0 k
  obtain ⟨ih0, ih1, ih2, ih3⟩ := spec_size.mono_l k
  unfold spec_size.f
  repeat' first
      | (with_reducible exact ih0 _ _ _ _)
      | (with_reducible exact ih1 _ _ _ _ _)
      | (with_reducible exact ih2 _ _ _)
      | (with_reducible exact ih3 _ _ _)
      | (with_reducible exact LeO.refl _)
      | (with_reducible exact LeO.none _)
      | (with_reducible refine LeO.ite ?_ ?_)
      | (with_reducible refine LeO.bind ?_ (fun _ => ?_))
      | exact ih0 _ _ _ _
      | exact ih1 _ _ _ _ _
      | exact ih2 _ _ _
      | exact ih3 _ _ _
      | exact LeO.none _
      | refine LeO.ite ?_ ?_
      | refine LeO.bind ?_ (fun _ => ?_)
set_option maxHeartbeats 8000000 in
set_option maxRecDepth 100000 in
theorem spec_size.calls (k : Nat) (a0 : ByteArray) (r : Int) (w : World) (h : spec_size.f k a0 = some r) :
    Calls Tryz.prog 24 #[.string a0] w fun e w' => e = .returned (.int .i64 r) ∧ Drawn0 w w' := by
  have H : (if 0 < (a0.size : Int) then (if (wrap64 (bt a0 0)) < 128 then (some 1) else (if (wrap64 (bt a0 0)) ≥ 194 then (spec_size.j0 k a0 (wrap64 (bt a0 0)) (decide ((wrap64 (bt a0 0)) < 224))) else (spec_size.j0 k a0 (wrap64 (bt a0 0)) false))) else (none)) = some r := h
  clear h
  by_cases c2 : 0 < (a0.size : Int)
  · rw [if_pos c2] at H
    have c2b0 : decide (0 < (a0.size : Int)) = true := decide_eq_true c2
    have c2b1 : decide (0 < a0.size) = true := decide_eq_true (by omega)
    clear c2
    have HC4 := Aside0.mk H
    clear H
    have p3 : 0 ≤ (0 : Int) := (by omega)
    have q3 : 0 < a0.size := (by have : (0 : Int) < (a0.size : Int) := of_decide_eq_true (by first | (with_reducible assumption) | assumption); omega)
    have hx3 : ∀ h : 0 < a0.size, ((a0[0]'h).toNat : Int) = bt a0 0 := bt_at a0 0
    clear p3
    have qi3 : (0 < (a0.size : Int)) = True := eq_true (of_decide_eq_true (by first | (with_reducible assumption) | assumption))
    replace q3 := eq_true q3
    go_enter Tryz.func24, Tryz.ntmps24
    go_upto_block 0 with (fail)
    go_cut [3, 4, 5] (fun v3 v4 v5 wc => ∃ (kq : Nat) (x3_3 : Int) (x4_3 : Int) (x5_3 : Int), v3 = .int .i64 x3_3 ∧ v4 = .int .i64 x4_3 ∧ v5 = .int .i64 x5_3 ∧ Aside0 (spec_size.j2 kq a0 x3_3 x4_3 x5_3 = some r) ∧ Aside0 (kq ≤ k) ∧ Drawn0 w wc)
    case first =>
      have H := HC4.out
      clear HC4
      by_cases c5 : (wrap64 (bt a0 0)) < 128
      · rw [if_pos c5] at H
        have c5b0 : decide ((wrap64 (bt a0 0)) < 128) = true := decide_eq_true c5
        clear c5
        (first | rw [c5b0] | (simp only [i64_w, i32_w]; rw [c5b0]) | skip)
        obtain rfl := Option.some.inj H
        go_wp2
        go_ret
        exact ⟨by first | rfl | (simp; done) | (simp [*]; done), by repeat (first | exact Drawn0.refl _ | apply Drawn0.step)⟩
      · rw [if_neg c5] at H
        have c5b0 : decide ((wrap64 (bt a0 0)) < 128) = false := decide_eq_false c5
        clear c5
        (first | rw [c5b0] | (simp only [i64_w, i32_w]; rw [c5b0]) | skip)
        have HC6 := Aside0.mk H
        clear H
        go_upto_region 6 with (fail)
        go_cut [13] (fun v13 wc => ∃ (kq : Nat) (x13_5 : Bool), v13 = .bool x13_5 ∧ Aside0 (spec_size.j0 kq a0 (wrap64 (bt a0 0)) x13_5 = some r) ∧ Aside0 (kq ≤ k) ∧ Drawn0 w wc)
        case first =>
          have H := HC6.out
          clear HC6
          by_cases c7 : (wrap64 (bt a0 0)) ≥ 194
          · rw [if_pos c7] at H
            have c7b0 : decide (194 ≤ (wrap64 (bt a0 0))) = true := decide_eq_true c7
            clear c7
            (first | rw [c7b0] | (simp only [i64_w, i32_w]; rw [c7b0]) | skip)
            have H' := Aside0.mk H
            clear H
            go_wp2
            go_meet
            case rel => exact ⟨_, (decide ((wrap64 (bt a0 0)) < 224)), (by first | rfl | (simp; done) | (simp [*]; done)), H', ⟨by first | omega | exact Nat.le_refl _⟩, by repeat (first | exact Drawn0.refl _ | apply Drawn0.step)⟩
          · rw [if_neg c7] at H
            have c7b0 : decide (194 ≤ (wrap64 (bt a0 0))) = false := decide_eq_false c7
            clear c7
            (first | rw [c7b0] | (simp only [i64_w, i32_w]; rw [c7b0]) | skip)
            have H' := Aside0.mk H
            clear H
            go_wp2
            go_meet
            case rel => exact ⟨_, (false), (by first | rfl | (simp; done) | (simp [*]; done)), H', ⟨by first | omega | exact Nat.le_refl _⟩, by repeat (first | exact Drawn0.refl _ | apply Drawn0.step)⟩
        case rest =>
          clear HC6
          try clear c2
          try clear c2b0
          try clear c2b1
          try clear p2
          try clear p3
          try clear q3
          try clear hx3
          try clear qi3
          try clear c5
          try clear c5b0
          try clear p6
          try clear c7
          try clear c7b0
          try clear p3
          try clear q3
          obtain ⟨kq, x13_5, rfl, HA, HJ5, ⟨mc5, rfl⟩⟩ := hcut
          cases kq with
          | zero => exact absurd HA.out (by simp [spec_size.j0])
          | succ kj5 =>
            have H := HA.out
            clear HA
            simp only [spec_size.j0] at H
            by_cases c8 : x13_5 = true
            · subst c8
              have H1 : (spec_size.j2 kj5 a0 (Go.bits .and .i64 (wrap64 (bt a0 0)) 31) 2 128) = some r := by rw [if_pos rfl] at H; exact H
              clear H
              have H := H1
              clear H1
              have H' := Aside0.mk H
              clear H
              go_wp2
              go_meet
              case rel => exact ⟨_, (Go.bits .and .i64 (wrap64 (bt a0 0)) 31), (2), (128), (by first | rfl | (simp; done) | (simp [*]; done)), (by first | rfl | (simp; done) | (simp [*]; done)), (by first | rfl | (simp; done) | (simp [*]; done)), H', ⟨by have := HJ5.out; first | omega | exact Nat.le_refl _⟩, by repeat (first | exact Drawn0.refl _ | apply Drawn0.step)⟩
            · replace c8 := Bool.eq_false_iff.mpr c8
              subst c8
              have H1 : (if (wrap64 (bt a0 0)) ≥ 224 then (spec_size.j1 kj5 a0 (wrap64 (bt a0 0)) (decide ((wrap64 (bt a0 0)) < 240))) else (spec_size.j1 kj5 a0 (wrap64 (bt a0 0)) false)) = some r := by rw [if_neg (show ¬ (false = true) by decide)] at H; exact H
              clear H
              have H := H1
              clear H1
              have HC9 := Aside0.mk H
              clear H
              go_upto_region 8 with (fail)
              go_cut [22] (fun v22 wc => ∃ (kq : Nat) (x22_8 : Bool), v22 = .bool x22_8 ∧ Aside0 (spec_size.j1 kq a0 (wrap64 (bt a0 0)) x22_8 = some r) ∧ Aside0 (kq ≤ kj5) ∧ Drawn0 w wc)
              case first =>
                have H := HC9.out
                clear HC9
                by_cases c10 : (wrap64 (bt a0 0)) ≥ 224
                · rw [if_pos c10] at H
                  have c10b0 : decide (224 ≤ (wrap64 (bt a0 0))) = true := decide_eq_true c10
                  clear c10
                  (first | rw [c10b0] | (simp only [i64_w, i32_w]; rw [c10b0]) | skip)
                  have H' := Aside0.mk H
                  clear H
                  go_wp2
                  go_meet
                  case rel => exact ⟨_, (decide ((wrap64 (bt a0 0)) < 240)), (by first | rfl | (simp; done) | (simp [*]; done)), H', ⟨by have := HJ5.out; first | omega | exact Nat.le_refl _⟩, by repeat (first | exact Drawn0.refl _ | apply Drawn0.step)⟩
                · rw [if_neg c10] at H
                  have c10b0 : decide (224 ≤ (wrap64 (bt a0 0))) = false := decide_eq_false c10
                  clear c10
                  (first | rw [c10b0] | (simp only [i64_w, i32_w]; rw [c10b0]) | skip)
                  have H' := Aside0.mk H
                  clear H
                  go_wp2
                  go_meet
                  case rel => exact ⟨_, (false), (by first | rfl | (simp; done) | (simp [*]; done)), H', ⟨by have := HJ5.out; first | omega | exact Nat.le_refl _⟩, by repeat (first | exact Drawn0.refl _ | apply Drawn0.step)⟩
              case rest =>
                clear HC9
                try clear c1
                try clear c2
                try clear c2b0
                try clear c2b1
                try clear p2
                try clear p3
                try clear q3
                try clear hx3
                try clear qi3
                try clear c5
                try clear c5b0
                try clear p6
                try clear c7
                try clear c7b0
                try clear c8
                try clear c10
                try clear c10b0
                try clear p2
                try clear p3
                try clear p6
                try clear q3
                obtain ⟨kq, x22_8, rfl, HA, HJ8, ⟨mc8, rfl⟩⟩ := hcut
                cases kq with
                | zero => exact absurd HA.out (by simp [spec_size.j1])
                | succ kj8 =>
                  have H := HA.out
                  clear HA
                  simp only [spec_size.j1] at H
                  by_cases c11 : x22_8 = true
                  · subst c11
                    have H1 : (spec_size.j2 kj8 a0 (Go.bits .and .i64 (wrap64 (bt a0 0)) 15) 3 2048) = some r := by rw [if_pos rfl] at H; exact H
                    clear H
                    have H := H1
                    clear H1
                    have H' := Aside0.mk H
                    clear H
                    go_wp2
                    go_meet
                    case rel => exact ⟨_, (Go.bits .and .i64 (wrap64 (bt a0 0)) 15), (3), (2048), (by first | rfl | (simp; done) | (simp [*]; done)), (by first | rfl | (simp; done) | (simp [*]; done)), (by first | rfl | (simp; done) | (simp [*]; done)), H', ⟨by have := HJ5.out; have := HJ8.out; first | omega | exact Nat.le_refl _⟩, by repeat (first | exact Drawn0.refl _ | apply Drawn0.step)⟩
                  · replace c11 := Bool.eq_false_iff.mpr c11
                    subst c11
                    have H1 : (if (wrap64 (bt a0 0)) ≥ 240 then (if (wrap64 (bt a0 0)) < 245 then (spec_size.j2 kj8 a0 (Go.bits .and .i64 (wrap64 (bt a0 0)) 7) 4 65536) else (some 0)) else (some 0)) = some r := by rw [if_neg (show ¬ (false = true) by decide)] at H; exact H
                    clear H
                    have H := H1
                    clear H1
                    by_cases c12 : (wrap64 (bt a0 0)) ≥ 240
                    · rw [if_pos c12] at H
                      have c12b0 : decide (240 ≤ (wrap64 (bt a0 0))) = true := decide_eq_true c12
                      clear c12
                      by_cases c13 : (wrap64 (bt a0 0)) < 245
                      · rw [if_pos c13] at H
                        have c13b0 : decide ((wrap64 (bt a0 0)) < 245) = true := decide_eq_true c13
                        clear c13
                        have H' := Aside0.mk H
                        clear H
                        go_wp2
                        go_meet
                        case rel => exact ⟨_, (Go.bits .and .i64 (wrap64 (bt a0 0)) 7), (4), (65536), (by first | rfl | (simp; done) | (simp [*]; done)), (by first | rfl | (simp; done) | (simp [*]; done)), (by first | rfl | (simp; done) | (simp [*]; done)), H', ⟨by have := HJ5.out; have := HJ8.out; first | omega | exact Nat.le_refl _⟩, by repeat (first | exact Drawn0.refl _ | apply Drawn0.step)⟩
                      · rw [if_neg c13] at H
                        have c13b0 : decide ((wrap64 (bt a0 0)) < 245) = false := decide_eq_false c13
                        clear c13
                        obtain rfl := Option.some.inj H
                        go_wp2
                        go_ret
                        exact ⟨by first | rfl | (simp; done) | (simp [*]; done), by repeat (first | exact Drawn0.refl _ | apply Drawn0.step)⟩
                    · rw [if_neg c12] at H
                      have c12b0 : decide (240 ≤ (wrap64 (bt a0 0))) = false := decide_eq_false c12
                      clear c12
                      obtain rfl := Option.some.inj H
                      go_wp2
                      go_ret
                      exact ⟨by first | rfl | (simp; done) | (simp [*]; done), by repeat (first | exact Drawn0.refl _ | apply Drawn0.step)⟩
    case rest =>
      clear HC4
      try clear c1
      try clear c2
      try clear c2b0
      try clear c2b1
      try clear p2
      try clear p3
      try clear q3
      try clear hx3
      try clear qi3
      try clear c5
      try clear c5b0
      try clear p6
      try clear c7
      try clear c7b0
      try clear c8
      try clear c10
      try clear c10b0
      try clear c11
      try clear c12
      try clear c12b0
      try clear c13
      try clear c13b0
      try clear p2
      try clear p3
      try clear p6
      try clear q3
      obtain ⟨kq, x3_3, x4_3, x5_3, rfl, rfl, rfl, HA, HJ3, ⟨mc3, rfl⟩⟩ := hcut
      cases kq with
      | zero => exact absurd HA.out (by simp [spec_size.j2])
      | succ kj3 =>
        have H := HA.out
        clear HA
        simp only [spec_size.j2] at H
        by_cases c14 : (a0.size : Int) < x4_3
        · rw [if_pos c14] at H
          have c14b0 : decide ((a0.size : Int) < x4_3) = true := decide_eq_true c14
          clear c14
          obtain rfl := Option.some.inj H
          go_wp2
          go_ret
          exact ⟨by first | rfl | (simp; done) | (simp [*]; done), by repeat (first | exact Drawn0.refl _ | apply Drawn0.step)⟩
        · rw [if_neg c14] at H
          have c14b0 : decide ((a0.size : Int) < x4_3) = false := decide_eq_false c14
          clear c14
          have H' := Aside0.mk H
          clear H
          go_wp2
          go_loopg [3, 6] kj3 (fun kq v3 v6 w' => ∃ (x3_2 : Int) (x6_2 : Int), v3 = .int .i64 x3_2 ∧ v6 = .int .i64 x6_2 ∧ Aside0 (spec_size.l0 kq a0 x3_2 x4_3 x5_3 x6_2 = some r) ∧ Aside0 (kq ≤ kj3) ∧ Drawn0 w w')
          case atStart => exact ⟨(x3_3), (1), (by first | rfl | (simp; done) | (simp [*]; done)), (by first | rfl | (simp; done) | (simp [*]; done)), H', ⟨Nat.le_refl _⟩, by repeat (first | exact Drawn0.refl _ | apply Drawn0.step)⟩
          case round =>
            clear H'
            try clear c1
            try clear c2
            try clear c2b0
            try clear c2b1
            try clear p2
            try clear c3
            try clear p3
            try clear q3
            try clear hx3
            try clear qi3
            try clear c5
            try clear c5b0
            try clear p6
            try clear c7
            try clear c7b0
            try clear c8
            try clear c10
            try clear c10b0
            try clear c11
            try clear c12
            try clear c12b0
            try clear c13
            try clear c13b0
            try clear c14
            try clear c14b0
            try clear p2
            try clear p3
            try clear p6
            try clear q3
            obtain ⟨x3_2, x6_2, rfl, rfl, HA, HK2, ⟨m2, rfl⟩⟩ := hrel
            cases gk with
            | zero => exact absurd HA.out (by simp [spec_size.l0])
            | succ k2 =>
              have H := HA.out
              clear HA
              simp only [spec_size.l0] at H
              by_cases c15 : x6_2 < x4_3
              · rw [if_pos c15] at H
                have c15b0 : decide (x6_2 < x4_3) = true := decide_eq_true c15
                clear c15
                by_cases c16 : 0 ≤ x6_2
                · rw [if_pos c16] at H
                  have c16b0 : decide (0 ≤ x6_2) = true := decide_eq_true c16
                  clear c16
                  by_cases c17 : x6_2 < (a0.size : Int)
                  · rw [if_pos c17] at H
                    have c17b0 : decide (x6_2 < (a0.size : Int)) = true := decide_eq_true c17
                    clear c17
                    by_cases c19 : (Go.bits .and .u8 (bt a0 x6_2) 192) = 128
                    · rw [if_pos c19] at H
                      have c19b0 : ((Go.bits .and .u8 (bt a0 x6_2) 192) == 128) = true := beq_iff_eq.mpr c19
                      have c19b1 : ((Go.bits .and .u8 (bt a0 x6_2) 192) != 128) = false := bne_eq_false_iff_eq.mpr c19
                      clear c19
                      have H' := Aside0.mk H
                      clear H
                      have p18 : 0 ≤ (x6_2 : Int) := of_decide_eq_true (by first | (with_reducible assumption) | assumption)
                      have q18 : x6_2 < (a0.size : Int) := of_decide_eq_true (by first | (with_reducible assumption) | assumption)
                      have hx18 := bt_at a0 x6_2
                      replace p18 := eq_true p18
                      replace q18 := eq_true q18
                      have p20 : 0 ≤ (x6_2 : Int) := of_decide_eq_true (by first | (with_reducible assumption) | assumption)
                      have q20 : x6_2 < (a0.size : Int) := of_decide_eq_true (by first | (with_reducible assumption) | assumption)
                      have hx20 := bt_at a0 x6_2
                      replace p20 := eq_true p20
                      replace q20 := eq_true q20
                      go_wp2
                      go_roundg k2
                      case measure => have := HJ3.out; have := HK2.out; omega
                      case rel => exact ⟨(Go.bits .or .i64 (wrap64 (x3_2 * 64)) (wrap64 (Go.bits .and .u8 (bt a0 x6_2) 63))), (wrap64 (x6_2 + 1)), (by first | rfl | (simp; done) | (simp [*]; done)), (by first | rfl | (simp; done) | (simp [*]; done)), H', ⟨by have := HJ3.out; have := HK2.out; omega⟩, by repeat (first | exact Drawn0.refl _ | apply Drawn0.step)⟩
                    · rw [if_neg c19] at H
                      have c19b0 : ((Go.bits .and .u8 (bt a0 x6_2) 192) == 128) = false := beq_eq_false_iff_ne.mpr c19
                      have c19b1 : ((Go.bits .and .u8 (bt a0 x6_2) 192) != 128) = true := bne_iff_ne.mpr c19
                      obtain rfl := Option.some.inj H
                      have p18 : 0 ≤ (x6_2 : Int) := of_decide_eq_true (by first | (with_reducible assumption) | assumption)
                      have q18 : x6_2 < (a0.size : Int) := of_decide_eq_true (by first | (with_reducible assumption) | assumption)
                      have hx18 := bt_at a0 x6_2
                      replace p18 := eq_true p18
                      replace q18 := eq_true q18
                      go_wp2
                      go_ret
                      exact ⟨by first | rfl | (simp; done) | (simp [*]; done), by repeat (first | exact Drawn0.refl _ | apply Drawn0.step)⟩
                  · rw [if_neg c17] at H
                    exact absurd H (by simp)
                · rw [if_neg c16] at H
                  exact absurd H (by simp)
              · rw [if_neg c15] at H
                have c15b0 : decide (x6_2 < x4_3) = false := decide_eq_false c15
                clear c15
                by_cases c21 : x3_2 < x5_3
                · rw [if_pos c21] at H
                  have c21b0 : decide (x3_2 < x5_3) = true := decide_eq_true c21
                  clear c21
                  obtain rfl := Option.some.inj H
                  go_wp2
                  go_ret
                  exact ⟨by first | rfl | (simp; done) | (simp [*]; done), by repeat (first | exact Drawn0.refl _ | apply Drawn0.step)⟩
                · rw [if_neg c21] at H
                  have c21b0 : decide (x3_2 < x5_3) = false := decide_eq_false c21
                  clear c21
                  by_cases c22 : x3_2 > 1114111
                  · rw [if_pos c22] at H
                    have c22b0 : decide (1114111 < x3_2) = true := decide_eq_true c22
                    clear c22
                    obtain rfl := Option.some.inj H
                    go_wp2
                    go_ret
                    exact ⟨by first | rfl | (simp; done) | (simp [*]; done), by repeat (first | exact Drawn0.refl _ | apply Drawn0.step)⟩
                  · rw [if_neg c22] at H
                    have c22b0 : decide (1114111 < x3_2) = false := decide_eq_false c22
                    clear c22
                    by_cases c23 : x3_2 ≥ 55296
                    · rw [if_pos c23] at H
                      have c23b0 : decide (55296 ≤ x3_2) = true := decide_eq_true c23
                      clear c23
                      by_cases c24 : x3_2 ≤ 57343
                      · rw [if_pos c24] at H
                        have c24b0 : decide (x3_2 ≤ 57343) = true := decide_eq_true c24
                        clear c24
                        obtain rfl := Option.some.inj H
                        go_wp2
                        go_ret
                        exact ⟨by first | rfl | (simp; done) | (simp [*]; done), by repeat (first | exact Drawn0.refl _ | apply Drawn0.step)⟩
                      · rw [if_neg c24] at H
                        have c24b0 : decide (x3_2 ≤ 57343) = false := decide_eq_false c24
                        clear c24
                        obtain rfl := Option.some.inj H
                        go_wp2
                        go_ret
                        exact ⟨by first | rfl | (simp; done) | (simp [*]; done), by repeat (first | exact Drawn0.refl _ | apply Drawn0.step)⟩
                    · rw [if_neg c23] at H
                      have c23b0 : decide (55296 ≤ x3_2) = false := decide_eq_false c23
                      clear c23
                      obtain rfl := Option.some.inj H
                      go_wp2
                      go_ret
                      exact ⟨by first | rfl | (simp; done) | (simp [*]; done), by repeat (first | exact Drawn0.refl _ | apply Drawn0.step)⟩
  · rw [if_neg c2] at H
    exact absurd H (by simp)

end Go.Proofs.YtpkelgekannioaaGreatDoor.PFnTokenRead
