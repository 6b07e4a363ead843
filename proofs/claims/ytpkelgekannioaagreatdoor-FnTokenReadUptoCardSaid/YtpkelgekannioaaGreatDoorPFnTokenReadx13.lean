-- PRINTED BY print.sh 35421559b90ae4d0a3588c463048766b98c2df88dd9212a6774a882060cdf62d: not written by this session
import Derived.Test.YtpkelgekannioaaGreatDoorPFnTokenReadx0
import Derived.Test.YtpkelgekannioaaGreatDoorPFnTokenReadx12
namespace Go.Proofs.YtpkelgekannioaaGreatDoor.PFnTokenRead
open Go.RowKit Go.Proofs.YtpkelgekannioaaGreatDoorW.PrintWords Go.Proofs.YtpkelgekannioaaGreatDoorW.PrintLast Go.Proofs.YtpkelgekannioaaGreatDoorW.PrintMore
attribute [local go_sem] max2_int min2_int max_two min_two max_three min_three max_four min_four   -- for this text's walks alone
set_option linter.unusedVariables false
set_option linter.unusedSimpArgs false

/-! ### spec_Contains: function 15 -/
def spec_Contains.f (k : Nat) (a0 : ByteArray) (a1 : ByteArray) : Option (Bool) := if a1.toList = ([] : List UInt8) then (some true) else ((spec_find.f k a0 0 a1).bind fun t117 => (some (decide (t117 < (a0.size : Int)))))
theorem spec_Contains.mono : ∀ a0 a1 k, LeO (spec_Contains.f k a0 a1) (spec_Contains.f (k + 1) a0 a1) := by
  intro a0 a1 k
  unfold spec_Contains.f
  repeat' first
      | (with_reducible exact spec_find.mono _ _ _ _)
      | (with_reducible exact LeO.refl _)
      | (with_reducible exact LeO.none _)
      | (with_reducible refine LeO.ite ?_ ?_)
      | (with_reducible refine LeO.bind ?_ (fun _ => ?_))
      | exact spec_find.mono _ _ _ _
      | exact LeO.none _
      | refine LeO.ite ?_ ?_
      | refine LeO.bind ?_ (fun _ => ?_)
set_option maxHeartbeats 8000000 in
set_option maxRecDepth 100000 in
theorem spec_Contains.calls (k : Nat) (a0 : ByteArray) (a1 : ByteArray) (r : Bool) (w : World) (h : spec_Contains.f k a0 a1 = some r) :
    Calls Tryz.prog 15 #[.string a0, .string a1] w fun e w' => e = .returned (.bool r) ∧ Drawn0 w w' := by
  have H : (if a1.toList = ([] : List UInt8) then (some true) else ((spec_find.f k a0 0 a1).bind fun t117 => (some (decide (t117 < (a0.size : Int)))))) = some r := h
  clear h
  by_cases c3 : a1.toList = ([] : List UInt8)
  · rw [if_pos c3] at H
    have c3b0 : (a1.toList == ([] : List UInt8)) = true := beq_iff_eq.mpr c3
    have c3b1 : (a1.toList != ([] : List UInt8)) = false := bne_eq_false_iff_eq.mpr c3
    clear c3
    obtain rfl := Option.some.inj H
    go_enter Tryz.func15, Tryz.ntmps15
    go_wp2
    go_ret
    exact ⟨by first | rfl | (simp; done) | (simp [*]; done), by repeat (first | exact Drawn0.refl _ | apply Drawn0.step)⟩
  · rw [if_neg c3] at H
    have c3b0 : (a1.toList == ([] : List UInt8)) = false := beq_eq_false_iff_ne.mpr c3
    have c3b1 : (a1.toList != ([] : List UInt8)) = true := bne_iff_ne.mpr c3
    replace H := Option.bind_eq_some_iff.mp H
    obtain ⟨t117, A40, H⟩ := H
    replace H : (some (decide (t117 < (a0.size : Int)))) = some r := H
    have A4 := Aside0.mk A40
    clear A40
    obtain rfl := Option.some.inj H
    go_enter Tryz.func15, Tryz.ntmps15
    go_wp2_with (first | (go_at_call 25; (with_reducible refine (spec_find.calls k a0 0 a1 t117 _ A4.out).mono ?_); rintro e w' ⟨rfl, ⟨nd, rfl⟩⟩))
    go_ret
    exact ⟨by first | rfl | (simp; done) | (simp [*]; done), by repeat (first | exact Drawn0.refl _ | apply Drawn0.step)⟩

end Go.Proofs.YtpkelgekannioaaGreatDoor.PFnTokenRead
