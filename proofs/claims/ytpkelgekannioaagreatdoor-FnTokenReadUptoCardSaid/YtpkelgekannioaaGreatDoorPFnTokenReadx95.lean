-- PRINTED BY print.sh 35421559b90ae4d0a3588c463048766b98c2df88dd9212a6774a882060cdf62d: not written by this session
import Derived.Test.YtpkelgekannioaaGreatDoorPFnTokenReadx0
import Derived.Test.YtpkelgekannioaaGreatDoorPFnTokenReadx78
namespace Go.Proofs.YtpkelgekannioaaGreatDoor.PFnTokenRead
open Go.RowKit Go.Proofs.YtpkelgekannioaaGreatDoorW.PrintWords Go.Proofs.YtpkelgekannioaaGreatDoorW.PrintLast Go.Proofs.YtpkelgekannioaaGreatDoorW.PrintMore
attribute [local go_sem] max2_int min2_int max_two min_two max_three min_three max_four min_four   -- for this text's walks alone
set_option linter.unusedVariables false
set_option linter.unusedSimpArgs false

/-! ### spec_Trimmed: function 21 -/
def spec_Trimmed.f (k : Nat) (a0 : ByteArray) : Option (ByteArray) := (spec_trimmed.f k a0).bind fun t199 => (some t199)
theorem spec_Trimmed.mono : ∀ a0 k, LeO (spec_Trimmed.f k a0) (spec_Trimmed.f (k + 1) a0) := by
  intro a0 k
  unfold spec_Trimmed.f
  repeat' first
      | (with_reducible exact spec_trimmed.mono _ _)
      | (with_reducible exact LeO.refl _)
      | (with_reducible exact LeO.none _)
      | (with_reducible refine LeO.ite ?_ ?_)
      | (with_reducible refine LeO.bind ?_ (fun _ => ?_))
      | exact spec_trimmed.mono _ _
      | exact LeO.none _
      | refine LeO.ite ?_ ?_
      | refine LeO.bind ?_ (fun _ => ?_)
set_option maxHeartbeats 8000000 in
set_option maxRecDepth 100000 in
theorem spec_Trimmed.calls (k : Nat) (a0 : ByteArray) (r : ByteArray) (w : World) (h : spec_Trimmed.f k a0 = some r) :
    Calls Tryz.prog 21 #[.string a0] w fun e w' => e = .returned (.string r) ∧ Drawn0 w w' := by
  have H : ((spec_trimmed.f k a0).bind fun t199 => (some t199)) = some r := h
  clear h
  replace H := Option.bind_eq_some_iff.mp H
  obtain ⟨t199, A20, H⟩ := H
  replace H : (some t199) = some r := H
  have A2 := Aside0.mk A20
  clear A20
  obtain rfl := Option.some.inj H
  go_enter Tryz.func21, Tryz.ntmps21
  go_wp2_with (first | ((with_reducible refine gate_callee (f := 31) rfl ?_); refine goesL_ (some 4) rfl rfl Tryz.func31 (by kernel_rfl) rfl #[.string a0] rfl (by (try simp only [List.map_toArray, List.map_cons, List.map_nil]); first | done | rfl | (simp only [List.length_drop, List.length_take]; rfl)) ?_; (with_reducible refine (spec_trimmed.calls k a0 t199 _ A2.out).mono ?_); rintro e w' ⟨rfl, ⟨nd, rfl⟩⟩; refine ⟨_, rfl, ?_⟩))
  go_ret
  exact ⟨by first | rfl | (simp; done) | (simp [*]; done), by repeat (first | exact Drawn0.refl _ | apply Drawn0.step)⟩

end Go.Proofs.YtpkelgekannioaaGreatDoor.PFnTokenRead
