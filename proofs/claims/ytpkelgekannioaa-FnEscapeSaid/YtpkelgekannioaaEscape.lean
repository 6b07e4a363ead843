/- FnEscape: a text without carriage returns is escaped so that each of the five characters is a reference that stands for it, and nothing else is changed: for every string, no condition. (The frame of the row's proof was written by the kit's proof-skeleton.mjs.) -/
import Derived.Test.YtpkelgekannioaaRows
import Derived.Test.YtpkelgekannioaaWorks
import Derived.Test.YtpkelgekannioaaScan
import Derived.WalkKit
import Derived.ProofKit
import Derived.OpenShut
import Derived.ShutString
namespace Go.Proofs.Ytpkelgekannioaa.fnEscape
open Go.ChangeShapes Go.WideShapes Go.ChangeAt Go.RowKit
open Go.ChangeMaps (open_string shut_string)
set_option linter.unusedVariables false

theorem own : ownKnob Try.prog.godebug = none := by kernel_rfl

set_option maxHeartbeats 1000000 in
set_option maxRecDepth 100000 in
/-- spec.Has, for the carriage return. -/
theorem has_cr (s : ByteArray) (w : World) (hs : s.size ≤ 140737488355328) :
    Calls Try.prog 5 #[.string s, .int .u8 13] w fun e w' => (∃ b : Bool, e = .returned (.bool b) ∧ (b = false → ∀ x ∈ s.data.toList, x ≠ 13)) ∧ w' = w := by
  go_enter Try.func5, Try.ntmps5
  go_wp2
  go_loopg [8] (s.size + 1) (fun g s8 wx => ∃ i : Nat, i + g = s.size + 1 ∧ i ≤ s.size ∧ s8 = .int .i64 i ∧ (∀ (j : Nat) x, j < i → s.data.toList[j]? = some x → x ≠ 13) ∧ wx = w)
  case atStart => exact ⟨0, by omega, by omega, rfl, fun j x hj => by omega, rfl⟩
  case round =>
    obtain ⟨i, hg, hi, rfl, hno, rfl⟩ := hrel
    have HN := Lib.hid hno
    clear hno
    by_cases hlt : i < s.size
    · obtain ⟨c, hc⟩ : ∃ c : UInt8, s[i]'hlt = c := ⟨_, rfl⟩
      have HC := Lib.hid (show s.data.toList[i]? = some c by rw [← hc]; exact Lib.data_getElem? s i hlt)
      by_cases h13 : c = 13
      · subst h13
        go_wp2
        go_ret
        exact ⟨⟨true, rfl, fun h => by cases h⟩, rfl⟩
      · have e13 : ((c.toNat : Int) == 13) = false := beq_eq_false_iff_ne.2 fun e => h13 (UInt8.toNat_inj.1 (by show c.toNat = 13; omega))
        have H13 := Lib.hid h13
        clear h13
        go_wp2
        go_roundg (s.size - i)
        case measure => omega
        case rel => exact ⟨i + 1, by omega, by omega, by go_num, fun j x hj hx => by
            by_cases e : j = i
            · subst e
              have := HC.out
              rw [hx] at this
              cases this
              exact H13.out
            · exact HN.out j x (by omega) hx, rfl⟩
    · obtain rfl : i = s.size := by omega
      go_wp2
      go_ret
      refine ⟨⟨false, rfl, fun _ x hx => ?_⟩, rfl⟩
      obtain ⟨j, hj⟩ := List.getElem?_of_mem hx
      exact HN.out j x (by have := (List.getElem?_eq_some_iff.1 hj).1; simpa using this) hj

set_option maxHeartbeats 1000000 in
set_option maxRecDepth 100000 in
theorem walk (a0 : ByteArray) (w : World) :
    Calls Try.prog 3 #[.string a0] w fun e w' => e = .returned (.bool true) ∧ Below w.heap.size w w' := by
  by_cases h0 : a0.size ≤ 2147483647
  · go_enter Try.func3, Try.ntmps3
    go_wp2_with (go_at_call 5; fail)
    refine (has_cr a0 _ (by omega)).mono ?_
    rintro e w1 ⟨⟨b, rfl, hb⟩, hw1⟩
    obtain rfl := hw1.symm
    cases b
    · have HB := Lib.hid (hb rfl)
      clear hb
      go_wp2_with (first
        | (go_at_call 6; go_must (refine (works_any _).mono ?_; rintro e w1 ⟨rfl, hb1⟩))
        | (go_at_call 8; go_must (refine (implEscape_any a0 _ (by omega)).mono ?_; rintro e w2 ⟨rfl, hb2⟩))
        | (go_at_call 7; go_must (refine (escapes_any (escStr a0) a0 _ (by omega) rfl HB.out).mono ?_; rintro e w3 ⟨rfl, hb3⟩)))
      go_ret
      exact ⟨rfl, (hb1.trans (hb2.mono hb1.size)).trans (hb3.mono (by have := hb1.size; have := hb2.size; omega))⟩
    · clear hb
      go_wp2
      go_ret
      exact ⟨rfl, Below.refl _ _⟩
  · have hd : (2147483647 : Int) < (a0.size : Int) := by omega
    go_enter Try.func3, Try.ntmps3
    go_wp2
    go_ret
    exact ⟨rfl, Below.refl _ _⟩

/-! ### THE ROW's STEP: WRITTEN OUT: LEAVE IT -/
set_option maxRecDepth 100000 in
theorem lifted (os : Os) (started : os.Started) (H : Type) (enc : TypeId × Value → H) :
    ReturnsInHanded {} Try.checked os 3 .any (Rows.fnEscapeSpec.pre6 enc Try.prog Try.f3 Rows.fnEscapeRow.domain false) (Rows.fnEscapeSpec.post enc Try.prog Try.f3 false true false false) := by
  refine returnsInHanded_of_change (C := Try.checked) own started (by kernel_rfl) Try.func3
    (ChangeSpec.witness6 (enc := enc) (C := Try.checked) false ⟨#[], #[.string ByteArray.empty], []⟩ 8 (by kernel_rfl) (by kernel_rfl) (by kernel_rfl) (by kernel_rfl)) ?_
  intro W base args ds gs before hval0 hW hcnd _
  have hval : ∀ (j : Nat) t v, Try.f3.params[j]? = some t → args[j]? = some v → Value.okWide Try.prog W .any base t v := hval0
  have hW' := hW
  obtain ⟨p, q, hA0, hV, rfl, hfz, hnd⟩ := hW
  have hA : DataW.TrodAll enc Try.prog W 0 (fun _ => true) true Try.f3.params.toList args.toList ds p := hA0
  rw [Try.params3] at hA hval
  obtain ⟨v0, vs0, d0, ds0, p0, q0, hargs, rfl, rfl, h0, r0⟩ := trodAll_cons hA
  obtain ⟨rfl, rfl, rfl⟩ := trodAll_nil r0
  obtain rfl : args = #[v0] := by cases args; simp_all
  obtain ⟨rfl, rfl⟩ := trodVars_none hV
  obtain ⟨a0, rfl, rfl, rfl, w0⟩ := open_string Try.underlying9 (hval 0 9 v0 rfl rfl) h0
  clear hA0 hval0
  simp only [List.append_nil] at hW'
  refine (walk a0 W).mono fun e W' ⟨he, hg⟩ => ?_
  subst he
  exact ⟨_, rfl, post_of_below (pa := []) (pv := []) hW' (fun _ _ _ => (trodAll_cons_mk (shut_bool Try.underlying4 _) trodAll_mk0)) (fun sp _ => (trodAll_cons_mk (shut_string Try.underlying9 w0) trodAll_mk0)) (fun _ _ => rfl) rfl hg (ok_one (by kernel_rfl) rfl (okWide_bool_mk Try.underlying4 _))⟩

theorem over : Rows.fnEscapeRow.holds Try.pinned (OpenSpec.ofChange Rows.fnEscapeSpec) :=
  OpenClaim.holds_of_wide 3 Try.f3 rfl rfl rfl rfl rfl rfl rfl ⟨rfl, rfl, rfl, rfl, rfl⟩ rfl rfl rfl rfl rfl (by kernel_rfl) Try.func3 (by kernel_rfl)
    (of_decide_eq_true (by kernel_rfl)) (by unfold Func.isWrapper; first | (rw [if_pos (by decide +kernel)]; kernel_rfl) | (rw [if_neg (by decide +kernel)]; exact ⟨rfl, rfl⟩))
    (fun os started H enc _ => lifted os started H enc)

/-- The statement. -/
theorem proved : Rows.FnEscapeSaid :=
  over
#print axioms proved
end Go.Proofs.Ytpkelgekannioaa.fnEscape
