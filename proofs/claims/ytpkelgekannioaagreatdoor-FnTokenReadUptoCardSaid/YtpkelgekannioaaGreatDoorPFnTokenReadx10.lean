-- PRINTED BY print.sh 35421559b90ae4d0a3588c463048766b98c2df88dd9212a6774a882060cdf62d: not written by this session
import Derived.Test.YtpkelgekannioaaGreatDoorPFnTokenReadx0
namespace Go.Proofs.YtpkelgekannioaaGreatDoor.PFnTokenRead
open Go.RowKit Go.Proofs.YtpkelgekannioaaGreatDoorW.PrintWords Go.Proofs.YtpkelgekannioaaGreatDoorW.PrintLast Go.Proofs.YtpkelgekannioaaGreatDoorW.PrintMore
attribute [local go_sem] max2_int min2_int max_two min_two max_three min_three max_four min_four   -- for this text's walks alone
set_option linter.unusedVariables false
set_option linter.unusedSimpArgs false

/-! ### spec_modeOf: function 23 -/
mutual
def spec_modeOf.j0 : Nat → ByteArray → Bool → Option (Int)
  | 0, _, _ => none
  | k + 1, x3, x4 => if x4 = true then (some 1) else (if x3.toList = ([115, 116, 121, 108, 101] : List UInt8) then (spec_modeOf.j1 k x3 (x3.toList == ([115, 116, 121, 108, 101] : List UInt8))) else (if x3.toList = ([120, 109, 112] : List UInt8) then (spec_modeOf.j1 k x3 (x3.toList == ([120, 109, 112] : List UInt8))) else (if x3.toList = ([105, 102, 114, 97, 109, 101] : List UInt8) then (spec_modeOf.j1 k x3 (x3.toList == ([105, 102, 114, 97, 109, 101] : List UInt8))) else (if x3.toList = ([110, 111, 101, 109, 98, 101, 100] : List UInt8) then (spec_modeOf.j1 k x3 (x3.toList == ([110, 111, 101, 109, 98, 101, 100] : List UInt8))) else (spec_modeOf.j1 k x3 (x3.toList == ([110, 111, 102, 114, 97, 109, 101, 115] : List UInt8)))))))
def spec_modeOf.j1 : Nat → ByteArray → Bool → Option (Int)
  | 0, _, _ => none
  | k + 1, x3, x7 => if x7 = true then (some 2) else (if x3.toList = ([115, 99, 114, 105, 112, 116] : List UInt8) then (some 3) else (if x3.toList = ([112, 108, 97, 105, 110, 116, 101, 120, 116] : List UInt8) then (some 4) else (some 0)))
end
def spec_modeOf.f (k : Nat) (a0 : ByteArray) : Option (Int) := if a0.toList = ([116, 105, 116, 108, 101] : List UInt8) then (spec_modeOf.j0 k a0 (a0.toList == ([116, 105, 116, 108, 101] : List UInt8))) else (spec_modeOf.j0 k a0 (a0.toList == ([116, 101, 120, 116, 97, 114, 101, 97] : List UInt8)))
theorem spec_modeOf.mono_l : ∀ k, (∀ y0 y1, LeO (spec_modeOf.j0 k y0 y1) (spec_modeOf.j0 (k + 1) y0 y1)) ∧ (∀ y0 y1, LeO (spec_modeOf.j1 k y0 y1) (spec_modeOf.j1 (k + 1) y0 y1))
  | 0 => ⟨fun _ _ r h => by simp [spec_modeOf.j0] at h, fun _ _ r h => by simp [spec_modeOf.j1] at h⟩
  | k + 1 => by
    obtain ⟨ih0, ih1⟩ := spec_modeOf.mono_l k
    refine ⟨?_, ?_⟩
    · intro y0 y1
      unfold spec_modeOf.j0
      repeat' first
      | (with_reducible exact ih0 _ _)
      | (with_reducible exact ih1 _ _)
      | (with_reducible exact LeO.refl _)
      | (with_reducible exact LeO.none _)
      | (with_reducible refine LeO.ite ?_ ?_)
      | (with_reducible refine LeO.bind ?_ (fun _ => ?_))
      | exact ih0 _ _
      | exact ih1 _ _
      | exact LeO.none _
      | refine LeO.ite ?_ ?_
      | refine LeO.bind ?_ (fun _ => ?_)
    · intro y0 y1
      unfold spec_modeOf.j1
      repeat' first
      | (with_reducible exact ih0 _ _)
      | (with_reducible exact ih1 _ _)
      | (with_reducible exact LeO.refl _)
      | (with_reducible exact LeO.none _)
      | (with_reducible refine LeO.ite ?_ ?_)
      | (with_reducible refine LeO.bind ?_ (fun _ => ?_))
      | exact ih0 _ _
      | exact ih1 _ _
      | exact LeO.none _
      | refine LeO.ite ?_ ?_
      | refine LeO.bind ?_ (fun _ => ?_)
theorem spec_modeOf.mono : ∀ a0 k, LeO (spec_modeOf.f k a0) (spec_modeOf.f (k + 1) a0) := by
  intro a0 k
  obtain ⟨ih0, ih1⟩ := spec_modeOf.mono_l k
  unfold spec_modeOf.f
  repeat' first
      | (with_reducible exact ih0 _ _)
      | (with_reducible exact ih1 _ _)
      | (with_reducible exact LeO.refl _)
      | (with_reducible exact LeO.none _)
      | (with_reducible refine LeO.ite ?_ ?_)
      | (with_reducible refine LeO.bind ?_ (fun _ => ?_))
      | exact ih0 _ _
      | exact ih1 _ _
      | exact LeO.none _
      | refine LeO.ite ?_ ?_
      | refine LeO.bind ?_ (fun _ => ?_)
set_option maxHeartbeats 8000000 in
set_option maxRecDepth 100000 in
theorem spec_modeOf.calls (k : Nat) (a0 : ByteArray) (r : Int) (w : World) (h : spec_modeOf.f k a0 = some r) :
    Calls Tryz.prog 23 #[.string a0] w fun e w' => e = .returned (.int .i64 r) ∧ Drawn0 w w' := by
  have H : (if a0.toList = ([116, 105, 116, 108, 101] : List UInt8) then (spec_modeOf.j0 k a0 (a0.toList == ([116, 105, 116, 108, 101] : List UInt8))) else (spec_modeOf.j0 k a0 (a0.toList == ([116, 101, 120, 116, 97, 114, 101, 97] : List UInt8)))) = some r := h
  clear h
  have HC2 := Aside0.mk H
  clear H
  go_enter Tryz.func23, Tryz.ntmps23
  go_upto_if 4 with (fail)
  go_cut [4] (fun v4 wc => ∃ (kq : Nat) (x4_1 : Bool), v4 = .bool x4_1 ∧ Aside0 (spec_modeOf.j0 kq a0 x4_1 = some r) ∧ Aside0 (kq ≤ k) ∧ Drawn0 w wc)
  case first =>
    have H := HC2.out
    clear HC2
    by_cases c3 : a0.toList = ([116, 105, 116, 108, 101] : List UInt8)
    · rw [if_pos c3] at H
      have c3b0 : (a0.toList == ([116, 105, 116, 108, 101] : List UInt8)) = true := beq_iff_eq.mpr c3
      have c3b1 : (a0.toList != ([116, 105, 116, 108, 101] : List UInt8)) = false := bne_eq_false_iff_eq.mpr c3
      clear c3
      (first | rw [c3b0] | (simp only [i64_w, i32_w]; rw [c3b0]) | skip)
      have H' := Aside0.mk H
      clear H
      go_wp2
      go_meet
      case rel => exact ⟨_, ((a0.toList == ([116, 105, 116, 108, 101] : List UInt8))), (by first | rfl | (simp; done) | (simp [*]; done)), H', ⟨by first | omega | exact Nat.le_refl _⟩, by repeat (first | exact Drawn0.refl _ | apply Drawn0.step)⟩
    · rw [if_neg c3] at H
      have c3b0 : (a0.toList == ([116, 105, 116, 108, 101] : List UInt8)) = false := beq_eq_false_iff_ne.mpr c3
      have c3b1 : (a0.toList != ([116, 105, 116, 108, 101] : List UInt8)) = true := bne_iff_ne.mpr c3
      (first | rw [c3b0] | (simp only [i64_w, i32_w]; rw [c3b0]) | skip)
      have H' := Aside0.mk H
      clear H
      go_wp2
      go_meet
      case rel => exact ⟨_, ((a0.toList == ([116, 101, 120, 116, 97, 114, 101, 97] : List UInt8))), (by first | rfl | (simp; done) | (simp [*]; done)), H', ⟨by first | omega | exact Nat.le_refl _⟩, by repeat (first | exact Drawn0.refl _ | apply Drawn0.step)⟩
  case rest =>
    clear HC2
    try clear c2
    try clear p2
    try clear c3
    try clear c3b0
    try clear c3b1
    obtain ⟨kq, x4_1, rfl, HA, HJ1, ⟨mc1, rfl⟩⟩ := hcut
    cases kq with
    | zero => exact absurd HA.out (by simp [spec_modeOf.j0])
    | succ kj1 =>
      have H := HA.out
      clear HA
      simp only [spec_modeOf.j0] at H
      by_cases c4 : x4_1 = true
      · subst c4
        have H1 : (some 1) = some r := by rw [if_pos rfl] at H; exact H
        clear H
        have H := H1
        clear H1
        obtain rfl := Option.some.inj H
        go_wp2
        go_ret
        exact ⟨by first | rfl | (simp; done) | (simp [*]; done), by repeat (first | exact Drawn0.refl _ | apply Drawn0.step)⟩
      · replace c4 := Bool.eq_false_iff.mpr c4
        subst c4
        have H1 : (if a0.toList = ([115, 116, 121, 108, 101] : List UInt8) then (spec_modeOf.j1 kj1 a0 (a0.toList == ([115, 116, 121, 108, 101] : List UInt8))) else (if a0.toList = ([120, 109, 112] : List UInt8) then (spec_modeOf.j1 kj1 a0 (a0.toList == ([120, 109, 112] : List UInt8))) else (if a0.toList = ([105, 102, 114, 97, 109, 101] : List UInt8) then (spec_modeOf.j1 kj1 a0 (a0.toList == ([105, 102, 114, 97, 109, 101] : List UInt8))) else (if a0.toList = ([110, 111, 101, 109, 98, 101, 100] : List UInt8) then (spec_modeOf.j1 kj1 a0 (a0.toList == ([110, 111, 101, 109, 98, 101, 100] : List UInt8))) else (spec_modeOf.j1 kj1 a0 (a0.toList == ([110, 111, 102, 114, 97, 109, 101, 115] : List UInt8))))))) = some r := by rw [if_neg (show ¬ (false = true) by decide)] at H; exact H
        clear H
        have H := H1
        clear H1
        have HC5 := Aside0.mk H
        clear H
        go_upto_if 7 with (fail)
        go_cut [7] (fun v7 wc => ∃ (kq : Nat) (x7_4 : Bool), v7 = .bool x7_4 ∧ Aside0 (spec_modeOf.j1 kq a0 x7_4 = some r) ∧ Aside0 (kq ≤ kj1) ∧ Drawn0 w wc)
        case first =>
          have H := HC5.out
          clear HC5
          by_cases c6 : a0.toList = ([115, 116, 121, 108, 101] : List UInt8)
          · rw [if_pos c6] at H
            have c6b0 : (a0.toList == ([115, 116, 121, 108, 101] : List UInt8)) = true := beq_iff_eq.mpr c6
            have c6b1 : (a0.toList != ([115, 116, 121, 108, 101] : List UInt8)) = false := bne_eq_false_iff_eq.mpr c6
            clear c6
            (first | rw [c6b0] | (simp only [i64_w, i32_w]; rw [c6b0]) | skip)
            have H' := Aside0.mk H
            clear H
            go_wp2
            go_meet
            case rel => exact ⟨_, ((a0.toList == ([115, 116, 121, 108, 101] : List UInt8))), (by first | rfl | (simp; done) | (simp [*]; done)), H', ⟨by have := HJ1.out; first | omega | exact Nat.le_refl _⟩, by repeat (first | exact Drawn0.refl _ | apply Drawn0.step)⟩
          · rw [if_neg c6] at H
            have c6b0 : (a0.toList == ([115, 116, 121, 108, 101] : List UInt8)) = false := beq_eq_false_iff_ne.mpr c6
            have c6b1 : (a0.toList != ([115, 116, 121, 108, 101] : List UInt8)) = true := bne_iff_ne.mpr c6
            (first | rw [c6b0] | (simp only [i64_w, i32_w]; rw [c6b0]) | skip)
            by_cases c7 : a0.toList = ([120, 109, 112] : List UInt8)
            · rw [if_pos c7] at H
              have c7b0 : (a0.toList == ([120, 109, 112] : List UInt8)) = true := beq_iff_eq.mpr c7
              have c7b1 : (a0.toList != ([120, 109, 112] : List UInt8)) = false := bne_eq_false_iff_eq.mpr c7
              clear c7
              have H' := Aside0.mk H
              clear H
              go_wp2
              go_meet
              case rel => exact ⟨_, ((a0.toList == ([120, 109, 112] : List UInt8))), (by first | rfl | (simp; done) | (simp [*]; done)), H', ⟨by have := HJ1.out; first | omega | exact Nat.le_refl _⟩, by repeat (first | exact Drawn0.refl _ | apply Drawn0.step)⟩
            · rw [if_neg c7] at H
              have c7b0 : (a0.toList == ([120, 109, 112] : List UInt8)) = false := beq_eq_false_iff_ne.mpr c7
              have c7b1 : (a0.toList != ([120, 109, 112] : List UInt8)) = true := bne_iff_ne.mpr c7
              by_cases c8 : a0.toList = ([105, 102, 114, 97, 109, 101] : List UInt8)
              · rw [if_pos c8] at H
                have c8b0 : (a0.toList == ([105, 102, 114, 97, 109, 101] : List UInt8)) = true := beq_iff_eq.mpr c8
                have c8b1 : (a0.toList != ([105, 102, 114, 97, 109, 101] : List UInt8)) = false := bne_eq_false_iff_eq.mpr c8
                clear c8
                have H' := Aside0.mk H
                clear H
                go_wp2
                go_meet
                case rel => exact ⟨_, ((a0.toList == ([105, 102, 114, 97, 109, 101] : List UInt8))), (by first | rfl | (simp; done) | (simp [*]; done)), H', ⟨by have := HJ1.out; first | omega | exact Nat.le_refl _⟩, by repeat (first | exact Drawn0.refl _ | apply Drawn0.step)⟩
              · rw [if_neg c8] at H
                have c8b0 : (a0.toList == ([105, 102, 114, 97, 109, 101] : List UInt8)) = false := beq_eq_false_iff_ne.mpr c8
                have c8b1 : (a0.toList != ([105, 102, 114, 97, 109, 101] : List UInt8)) = true := bne_iff_ne.mpr c8
                by_cases c9 : a0.toList = ([110, 111, 101, 109, 98, 101, 100] : List UInt8)
                · rw [if_pos c9] at H
                  have c9b0 : (a0.toList == ([110, 111, 101, 109, 98, 101, 100] : List UInt8)) = true := beq_iff_eq.mpr c9
                  have c9b1 : (a0.toList != ([110, 111, 101, 109, 98, 101, 100] : List UInt8)) = false := bne_eq_false_iff_eq.mpr c9
                  clear c9
                  have H' := Aside0.mk H
                  clear H
                  go_wp2
                  go_meet
                  case rel => exact ⟨_, ((a0.toList == ([110, 111, 101, 109, 98, 101, 100] : List UInt8))), (by first | rfl | (simp; done) | (simp [*]; done)), H', ⟨by have := HJ1.out; first | omega | exact Nat.le_refl _⟩, by repeat (first | exact Drawn0.refl _ | apply Drawn0.step)⟩
                · rw [if_neg c9] at H
                  have c9b0 : (a0.toList == ([110, 111, 101, 109, 98, 101, 100] : List UInt8)) = false := beq_eq_false_iff_ne.mpr c9
                  have c9b1 : (a0.toList != ([110, 111, 101, 109, 98, 101, 100] : List UInt8)) = true := bne_iff_ne.mpr c9
                  have H' := Aside0.mk H
                  clear H
                  go_wp2
                  go_meet
                  case rel => exact ⟨_, ((a0.toList == ([110, 111, 102, 114, 97, 109, 101, 115] : List UInt8))), (by first | rfl | (simp; done) | (simp [*]; done)), H', ⟨by have := HJ1.out; first | omega | exact Nat.le_refl _⟩, by repeat (first | exact Drawn0.refl _ | apply Drawn0.step)⟩
        case rest =>
          clear HC5
          try clear c1
          try clear c2
          try clear p2
          try clear c3
          try clear c3b0
          try clear c3b1
          try clear c4
          try clear c6
          try clear c6b0
          try clear c6b1
          try clear c7
          try clear c7b0
          try clear c7b1
          try clear c8
          try clear c8b0
          try clear c8b1
          try clear c9
          try clear c9b0
          try clear c9b1
          try clear p2
          obtain ⟨kq, x7_4, rfl, HA, HJ4, ⟨mc4, rfl⟩⟩ := hcut
          cases kq with
          | zero => exact absurd HA.out (by simp [spec_modeOf.j1])
          | succ kj4 =>
            have H := HA.out
            clear HA
            simp only [spec_modeOf.j1] at H
            by_cases c10 : x7_4 = true
            · subst c10
              have H1 : (some 2) = some r := by rw [if_pos rfl] at H; exact H
              clear H
              have H := H1
              clear H1
              obtain rfl := Option.some.inj H
              go_wp2
              go_ret
              exact ⟨by first | rfl | (simp; done) | (simp [*]; done), by repeat (first | exact Drawn0.refl _ | apply Drawn0.step)⟩
            · replace c10 := Bool.eq_false_iff.mpr c10
              subst c10
              have H1 : (if a0.toList = ([115, 99, 114, 105, 112, 116] : List UInt8) then (some 3) else (if a0.toList = ([112, 108, 97, 105, 110, 116, 101, 120, 116] : List UInt8) then (some 4) else (some 0))) = some r := by rw [if_neg (show ¬ (false = true) by decide)] at H; exact H
              clear H
              have H := H1
              clear H1
              by_cases c11 : a0.toList = ([115, 99, 114, 105, 112, 116] : List UInt8)
              · rw [if_pos c11] at H
                have c11b0 : (a0.toList == ([115, 99, 114, 105, 112, 116] : List UInt8)) = true := beq_iff_eq.mpr c11
                have c11b1 : (a0.toList != ([115, 99, 114, 105, 112, 116] : List UInt8)) = false := bne_eq_false_iff_eq.mpr c11
                clear c11
                obtain rfl := Option.some.inj H
                go_wp2
                go_ret
                exact ⟨by first | rfl | (simp; done) | (simp [*]; done), by repeat (first | exact Drawn0.refl _ | apply Drawn0.step)⟩
              · rw [if_neg c11] at H
                have c11b0 : (a0.toList == ([115, 99, 114, 105, 112, 116] : List UInt8)) = false := beq_eq_false_iff_ne.mpr c11
                have c11b1 : (a0.toList != ([115, 99, 114, 105, 112, 116] : List UInt8)) = true := bne_iff_ne.mpr c11
                by_cases c12 : a0.toList = ([112, 108, 97, 105, 110, 116, 101, 120, 116] : List UInt8)
                · rw [if_pos c12] at H
                  have c12b0 : (a0.toList == ([112, 108, 97, 105, 110, 116, 101, 120, 116] : List UInt8)) = true := beq_iff_eq.mpr c12
                  have c12b1 : (a0.toList != ([112, 108, 97, 105, 110, 116, 101, 120, 116] : List UInt8)) = false := bne_eq_false_iff_eq.mpr c12
                  clear c12
                  obtain rfl := Option.some.inj H
                  go_wp2
                  go_ret
                  exact ⟨by first | rfl | (simp; done) | (simp [*]; done), by repeat (first | exact Drawn0.refl _ | apply Drawn0.step)⟩
                · rw [if_neg c12] at H
                  have c12b0 : (a0.toList == ([112, 108, 97, 105, 110, 116, 101, 120, 116] : List UInt8)) = false := beq_eq_false_iff_ne.mpr c12
                  have c12b1 : (a0.toList != ([112, 108, 97, 105, 110, 116, 101, 120, 116] : List UInt8)) = true := bne_iff_ne.mpr c12
                  obtain rfl := Option.some.inj H
                  go_wp2
                  go_ret
                  exact ⟨by first | rfl | (simp; done) | (simp [*]; done), by repeat (first | exact Drawn0.refl _ | apply Drawn0.step)⟩

end Go.Proofs.YtpkelgekannioaaGreatDoor.PFnTokenRead
