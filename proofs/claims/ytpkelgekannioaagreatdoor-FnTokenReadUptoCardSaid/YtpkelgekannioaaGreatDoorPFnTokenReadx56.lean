-- PRINTED BY print.sh 35421559b90ae4d0a3588c463048766b98c2df88dd9212a6774a882060cdf62d: not written by this session
import Derived.Test.YtpkelgekannioaaGreatDoorPFnTokenReadx0
namespace Go.Proofs.YtpkelgekannioaaGreatDoor.PFnTokenRead
open Go.RowKit Go.Proofs.YtpkelgekannioaaGreatDoorW.PrintWords Go.Proofs.YtpkelgekannioaaGreatDoorW.PrintLast Go.Proofs.YtpkelgekannioaaGreatDoorW.PrintMore
attribute [local go_sem] max2_int min2_int max_two min_two max_three min_three max_four min_four   -- for this text's walks alone
set_option linter.unusedVariables false
set_option linter.unusedSimpArgs false

/-! ### spec_normal: function 17 -/
def spec_normal.l0 : Nat → ByteArray → List Int → Int → Int → Option (ByteArray)
  | 0, _, _, _, _ => none
  | k + 1, x0, x3, x6, x7 => if x7 < x6 then (if 0 ≤ x7 then (if x7 < (x0.size : Int) then (if (bt x0 x7) = 13 then (if (wrap64 (x7 + 1)) = (x0.size : Int) then (if x3.length < 140737488355328 then (spec_normal.l0 k x0 (x3 ++ [10]) x6 (wrap64 (x7 + 1))) else (none)) else (if 0 ≤ (wrap64 (x7 + 1)) then (if (wrap64 (x7 + 1)) < (x0.size : Int) then (if (bt x0 (wrap64 (x7 + 1))) = 10 then (spec_normal.l0 k x0 x3 x6 (wrap64 (x7 + 1))) else (if x3.length < 140737488355328 then (spec_normal.l0 k x0 (x3 ++ [10]) x6 (wrap64 (x7 + 1))) else (none))) else (none)) else (none))) else (if x3.length < 140737488355328 then (spec_normal.l0 k x0 (x3 ++ [bt x0 x7]) x6 (wrap64 (x7 + 1))) else (none))) else (none)) else (none)) else (some (strOfNums x3))
def spec_normal.f (k : Nat) (a0 : ByteArray) : Option (ByteArray) := spec_normal.l0 k a0 ([] : List Int) (a0.size : Int) 0
theorem spec_normal.mono_l : ∀ k, (∀ y0 y1 y2 y3, LeO (spec_normal.l0 k y0 y1 y2 y3) (spec_normal.l0 (k + 1) y0 y1 y2 y3))
  | 0 => fun _ _ _ _ r h => by simp [spec_normal.l0] at h
  | k + 1 => by
    have ih0 := spec_normal.mono_l k
    · intro y0 y1 y2 y3
      unfold spec_normal.l0
      repeat' first
      | (with_reducible exact ih0 _ _ _ _)
      | (with_reducible exact LeO.refl _)
      | (with_reducible exact LeO.none _)
      | (with_reducible refine LeO.ite ?_ ?_)
      | (with_reducible refine LeO.bind ?_ (fun _ => ?_))
      | exact ih0 _ _ _ _
      | exact LeO.none _
      | refine LeO.ite ?_ ?_
      | refine LeO.bind ?_ (fun _ => ?_)
theorem spec_normal.mono : ∀ a0 k, LeO (spec_normal.f k a0) (spec_normal.f (k + 1) a0) := by
  intro a0 k
  have ih0 := spec_normal.mono_l k
  unfold spec_normal.f
  repeat' first
      | (with_reducible exact ih0 _ _ _ _)
      | (with_reducible exact LeO.refl _)
      | (with_reducible exact LeO.none _)
      | (with_reducible refine LeO.ite ?_ ?_)
      | (with_reducible refine LeO.bind ?_ (fun _ => ?_))
      | exact ih0 _ _ _ _
      | exact LeO.none _
      | refine LeO.ite ?_ ?_
      | refine LeO.bind ?_ (fun _ => ?_)
set_option maxHeartbeats 8000000 in
set_option maxRecDepth 100000 in
theorem spec_normal.calls (k : Nat) (a0 : ByteArray) (r : ByteArray) (w : World) (h : spec_normal.f k a0 = some r) :
    Calls Tryz.prog 17 #[.string a0] w fun e w' => e = .returned (.string r) ∧ Below w.heap.size w w' := by
  have HB := Aside0.mk (Below.refl w.heap.size w)
  have H : (spec_normal.l0 k a0 ([] : List Int) (a0.size : Int) 0) = some r := h
  clear h
  have H' := Aside0.mk H
  clear H
  go_enter Tryz.func17, Tryz.ntmps17
  go_wp2
  go_loopg [3, 7] k (fun kq v3 v7 w' => ∃ (x3_1 : List Int) (x7_1 : Int), v7 = .int .i64 x7_1 ∧ Aside0 (spec_normal.l0 kq a0 x3_1 (a0.size : Int) x7_1 = some r) ∧ Aside0 (kq ≤ k) ∧ Aside0 (Kd.R (Kd.int .u8) 5 w' w.heap.size (fun _ => True) v3 x3_1) ∧ Aside0 (Below w.heap.size w w'))
  case atStart => exact ⟨(([] : List Int)), (0), (by first | rfl | (simp; done) | (simp [*]; done)), H', ⟨Nat.le_refl _⟩, ⟨by first | exact Kd.R_nil _ _ _ _ _ | exact Kd.N_nil _ _ _ _ _ | exact Kd.V_nil _ _ _ _ _ | exact Kd.Q_nil _ _ _ _ _ | exact Kd.S_nil _ _ _ _ _⟩, ⟨by repeat (first | (with_reducible first | exact HB.out | apply below_alloc | apply pw_below_drewN | apply below_drew1) | exact HB.out)⟩⟩
  case round =>
    clear H'
    try clear c1
    obtain ⟨x3_1, x7_1, rfl, HA, HK1, HO_3, HB⟩ := hrel
    cases gk with
    | zero => exact absurd HA.out (by simp [spec_normal.l0])
    | succ k1 =>
      have H := HA.out
      clear HA
      simp only [spec_normal.l0] at H
      by_cases c2 : x7_1 < (a0.size : Int)
      · rw [if_pos c2] at H
        have c2b0 : decide (x7_1 < (a0.size : Int)) = true := decide_eq_true c2
        clear c2
        by_cases c3 : 0 ≤ x7_1
        · rw [if_pos c3] at H
          have c3b0 : decide (0 ≤ x7_1) = true := decide_eq_true c3
          clear c3
          by_cases c4 : x7_1 < (a0.size : Int)
          · rw [if_pos c4] at H
            have c4b0 : decide (x7_1 < (a0.size : Int)) = true := decide_eq_true c4
            clear c4
            by_cases c6 : (bt a0 x7_1) = 13
            · rw [if_pos c6] at H
              have c6b0 : ((bt a0 x7_1) == 13) = true := beq_iff_eq.mpr c6
              have c6b1 : ((bt a0 x7_1) != 13) = false := bne_eq_false_iff_eq.mpr c6
              clear c6
              by_cases c7 : (wrap64 (x7_1 + 1)) = (a0.size : Int)
              · rw [if_pos c7] at H
                have c7b0 : ((wrap64 (x7_1 + 1)) == (a0.size : Int)) = true := beq_iff_eq.mpr c7
                have c7b1 : ((wrap64 (x7_1 + 1)) != (a0.size : Int)) = false := bne_eq_false_iff_eq.mpr c7
                clear c7
                by_cases c8 : x3_1.length < 140737488355328
                · rw [if_pos c8] at H
                  have LMc8 := Aside0.mk c8
                  clear c8
                  obtain ⟨y152, hy152⟩ : ∃ y_ : List Int, y_ = (x3_1 ++ [10]) := ⟨_, rfl⟩
                  replace H : (spec_normal.l0 k1 a0 y152 (a0.size : Int) (wrap64 (x7_1 + 1))) = some r := by first | (rw [hy152]; with_reducible exact H) | (have H2_ := (Option.bind_some _ _).symm.trans H; rw [hy152]; with_reducible exact H2_) | (have H2_ := (Option.bind_some _ _).symm.trans H; with_reducible exact H2_) | with_reducible exact H | (rw [hy152]; exact H) | exact H
                  have Ny152 := Aside0.mk hy152
                  clear hy152
                  have H' := Aside0.mk H
                  clear H
                  have p5 : 0 ≤ (x7_1 : Int) := of_decide_eq_true (by first | (with_reducible assumption) | assumption)
                  have q5 : x7_1 < (a0.size : Int) := of_decide_eq_true (by first | (with_reducible assumption) | assumption)
                  have hx5 := bt_at a0 x7_1
                  replace p5 := eq_true p5
                  replace q5 := eq_true q5
                  go_wp2_with (first | ((with_reducible refine gate_builtin (b := .append) (xs := #[.tmp 34, .tmp 35]) rfl ?_); at_builtin; refine Kd.R_append (Kd.int .u8) (w0 := w) w.heap.size rfl (.tmp 34) (.tmp 35) 45 5 (.int .u8 0) 1 rfl Tryz.underlying45 info5 rfl (by decide) (by omega) u3 x3_1 10 [.int .u8 10] (fun _ => True) (fun _ => False) rfl rfl ?aP (fun _ hk => hk.elim) ?aF ?aO ?aB ?aS ?aL ?_; (case aP => exact rfl); (case aB => exact (by repeat (first | (with_reducible first | exact HB.out | apply below_alloc | apply pw_below_drewN | apply below_drew1) | exact HB.out))); (case aF => exact (fun _ _ => trivial)); (case aO => exact (by (with_reducible repeat (first | apply Kd.R_alloc | apply Kd.R_drewN | apply Kd.R_drew)); exact HO_3.out)); (case aS => exact (below_size (by repeat (first | (with_reducible first | exact HB.out | apply below_alloc | apply pw_below_drewN | apply below_drew1) | exact HB.out)))); (case aL => have := LMc8.out; omega); intro v153 w9 ho hb hg hat; rw [← Ny152.out] at ho; have n0_ := Aside0.mk (hb); have n1_ := Aside0.mk (ho); clear HB; clear HO_3; have HB := n0_; have HO154 := n1_; clear n0_ n1_; clear ho hb hg hat))
                  go_roundg k1
                  case measure => have := HK1.out; omega
                  case rel => exact ⟨(y152), (wrap64 (x7_1 + 1)), (by first | rfl | (simp; done) | (simp [*]; done)), H', ⟨by have := HK1.out; omega⟩, ⟨by (with_reducible repeat (first | apply Kd.R_alloc | apply Kd.R_drewN | apply Kd.R_drew)); exact HO154.out⟩, ⟨by repeat (first | (with_reducible first | exact HB.out | apply below_alloc | apply pw_below_drewN | apply below_drew1) | exact HB.out)⟩⟩
                · rw [if_neg c8] at H
                  exact absurd H (by simp)
              · rw [if_neg c7] at H
                have c7b0 : ((wrap64 (x7_1 + 1)) == (a0.size : Int)) = false := beq_eq_false_iff_ne.mpr c7
                have c7b1 : ((wrap64 (x7_1 + 1)) != (a0.size : Int)) = true := bne_iff_ne.mpr c7
                obtain ⟨ji10, hji10⟩ : ∃ j_ : Int, (wrap64 (x7_1 + 1)) = j_ := ⟨_, rfl⟩
                replace H : (if 0 ≤ (ji10) then (if (ji10) < (a0.size : Int) then (if (bt a0 (ji10)) = 10 then (spec_normal.l0 k1 a0 x3_1 (a0.size : Int) ji10) else (if x3_1.length < 140737488355328 then (spec_normal.l0 k1 a0 (x3_1 ++ [10]) (a0.size : Int) ji10) else (none))) else (none)) else (none)) = some r := by first | (rw [hji10] at H; exact H) | (simp only [hji10] at H ⊢; exact H)
                (try rw [hji10] at c7b0)
                (try rw [hji10] at c7b1)
                have hji10w : (IntKind.i64.wrap (x7_1 + 1)) = ji10 := (i64_w _).trans hji10
                by_cases c11 : 0 ≤ (ji10)
                · rw [if_pos c11] at H
                  have c11b0 : decide (0 ≤ (ji10)) = true := decide_eq_true c11
                  clear c11
                  by_cases c12 : (ji10) < (a0.size : Int)
                  · rw [if_pos c12] at H
                    have c12b0 : decide ((ji10) < (a0.size : Int)) = true := decide_eq_true c12
                    clear c12
                    by_cases c14 : (bt a0 (ji10)) = 10
                    · rw [if_pos c14] at H
                      have c14b0 : ((bt a0 (ji10)) == 10) = true := beq_iff_eq.mpr c14
                      have c14b1 : ((bt a0 (ji10)) != 10) = false := bne_eq_false_iff_eq.mpr c14
                      clear c14
                      have H' := Aside0.mk H
                      clear H
                      have p5 : 0 ≤ (x7_1 : Int) := of_decide_eq_true (by first | (with_reducible assumption) | assumption)
                      have q5 : x7_1 < (a0.size : Int) := of_decide_eq_true (by first | (with_reducible assumption) | assumption)
                      have hx5 := bt_at a0 x7_1
                      replace p5 := eq_true p5
                      replace q5 := eq_true q5
                      have p13 : 0 ≤ ((ji10) : Int) := of_decide_eq_true (by first | (with_reducible assumption) | assumption)
                      have q13 : (ji10) < (a0.size : Int) := of_decide_eq_true (by first | (with_reducible assumption) | assumption)
                      have hx13 := bt_at a0 (ji10)
                      replace p13 := eq_true p13
                      replace q13 := eq_true q13
                      go_wp2
                      go_roundg k1
                      case measure => have := HK1.out; omega
                      case rel => exact ⟨(x3_1), (ji10), (by first | rfl | (simp; done) | (simp only [← hji10] <;> (first | rfl | simp)) | (simp [*]; done)), H', ⟨by have := HK1.out; omega⟩, ⟨by (with_reducible repeat (first | apply Kd.R_alloc | apply Kd.R_drewN | apply Kd.R_drew)); exact HO_3.out⟩, ⟨by repeat (first | (with_reducible first | exact HB.out | apply below_alloc | apply pw_below_drewN | apply below_drew1) | exact HB.out)⟩⟩
                    · rw [if_neg c14] at H
                      have c14b0 : ((bt a0 (ji10)) == 10) = false := beq_eq_false_iff_ne.mpr c14
                      have c14b1 : ((bt a0 (ji10)) != 10) = true := bne_iff_ne.mpr c14
                      by_cases c15 : x3_1.length < 140737488355328
                      · rw [if_pos c15] at H
                        have LMc15 := Aside0.mk c15
                        clear c15
                        obtain ⟨y155, hy155⟩ : ∃ y_ : List Int, y_ = (x3_1 ++ [10]) := ⟨_, rfl⟩
                        replace H : (spec_normal.l0 k1 a0 y155 (a0.size : Int) ji10) = some r := by first | (rw [hy155]; with_reducible exact H) | (have H2_ := (Option.bind_some _ _).symm.trans H; rw [hy155]; with_reducible exact H2_) | (have H2_ := (Option.bind_some _ _).symm.trans H; with_reducible exact H2_) | with_reducible exact H | (rw [hy155]; exact H) | exact H
                        have Ny155 := Aside0.mk hy155
                        clear hy155
                        have H' := Aside0.mk H
                        clear H
                        have p5 : 0 ≤ (x7_1 : Int) := of_decide_eq_true (by first | (with_reducible assumption) | assumption)
                        have q5 : x7_1 < (a0.size : Int) := of_decide_eq_true (by first | (with_reducible assumption) | assumption)
                        have hx5 := bt_at a0 x7_1
                        replace p5 := eq_true p5
                        replace q5 := eq_true q5
                        have p13 : 0 ≤ ((ji10) : Int) := of_decide_eq_true (by first | (with_reducible assumption) | assumption)
                        have q13 : (ji10) < (a0.size : Int) := of_decide_eq_true (by first | (with_reducible assumption) | assumption)
                        have hx13 := bt_at a0 (ji10)
                        replace p13 := eq_true p13
                        replace q13 := eq_true q13
                        go_wp2_with (first | ((with_reducible refine gate_builtin (b := .append) (xs := #[.tmp 34, .tmp 35]) rfl ?_); at_builtin; refine Kd.R_append (Kd.int .u8) (w0 := w) w.heap.size rfl (.tmp 34) (.tmp 35) 45 5 (.int .u8 0) 1 rfl Tryz.underlying45 info5 rfl (by decide) (by omega) u3 x3_1 10 [.int .u8 10] (fun _ => True) (fun _ => False) rfl rfl ?aP (fun _ hk => hk.elim) ?aF ?aO ?aB ?aS ?aL ?_; (case aP => exact rfl); (case aB => exact (by repeat (first | (with_reducible first | exact HB.out | apply below_alloc | apply pw_below_drewN | apply below_drew1) | exact HB.out))); (case aF => exact (fun _ _ => trivial)); (case aO => exact (by (with_reducible repeat (first | apply Kd.R_alloc | apply Kd.R_drewN | apply Kd.R_drew)); exact HO_3.out)); (case aS => exact (below_size (by repeat (first | (with_reducible first | exact HB.out | apply below_alloc | apply pw_below_drewN | apply below_drew1) | exact HB.out)))); (case aL => have := LMc15.out; omega); intro v156 w16 ho hb hg hat; rw [← Ny155.out] at ho; have n0_ := Aside0.mk (hb); have n1_ := Aside0.mk (ho); clear HB; clear HO_3; have HB := n0_; have HO157 := n1_; clear n0_ n1_; clear ho hb hg hat))
                        go_roundg k1
                        case measure => have := HK1.out; omega
                        case rel => exact ⟨(y155), (ji10), (by first | rfl | (simp; done) | (simp only [← hji10] <;> (first | rfl | simp)) | (simp [*]; done)), H', ⟨by have := HK1.out; omega⟩, ⟨by (with_reducible repeat (first | apply Kd.R_alloc | apply Kd.R_drewN | apply Kd.R_drew)); exact HO157.out⟩, ⟨by repeat (first | (with_reducible first | exact HB.out | apply below_alloc | apply pw_below_drewN | apply below_drew1) | exact HB.out)⟩⟩
                      · rw [if_neg c15] at H
                        exact absurd H (by simp)
                  · rw [if_neg c12] at H
                    exact absurd H (by simp)
                · rw [if_neg c11] at H
                  exact absurd H (by simp)
            · rw [if_neg c6] at H
              have c6b0 : ((bt a0 x7_1) == 13) = false := beq_eq_false_iff_ne.mpr c6
              have c6b1 : ((bt a0 x7_1) != 13) = true := bne_iff_ne.mpr c6
              by_cases c18 : x3_1.length < 140737488355328
              · rw [if_pos c18] at H
                have LMc18 := Aside0.mk c18
                clear c18
                obtain ⟨y158, hy158⟩ : ∃ y_ : List Int, y_ = (x3_1 ++ [bt a0 x7_1]) := ⟨_, rfl⟩
                replace H : (spec_normal.l0 k1 a0 y158 (a0.size : Int) (wrap64 (x7_1 + 1))) = some r := by first | (rw [hy158]; with_reducible exact H) | (have H2_ := (Option.bind_some _ _).symm.trans H; rw [hy158]; with_reducible exact H2_) | (have H2_ := (Option.bind_some _ _).symm.trans H; with_reducible exact H2_) | with_reducible exact H | (rw [hy158]; exact H) | exact H
                have Ny158 := Aside0.mk hy158
                clear hy158
                have H' := Aside0.mk H
                clear H
                have p5 : 0 ≤ (x7_1 : Int) := of_decide_eq_true (by first | (with_reducible assumption) | assumption)
                have q5 : x7_1 < (a0.size : Int) := of_decide_eq_true (by first | (with_reducible assumption) | assumption)
                have hx5 := bt_at a0 x7_1
                replace p5 := eq_true p5
                replace q5 := eq_true q5
                have p17 : 0 ≤ (x7_1 : Int) := of_decide_eq_true (by first | (with_reducible assumption) | assumption)
                have q17 : x7_1 < (a0.size : Int) := of_decide_eq_true (by first | (with_reducible assumption) | assumption)
                have hx17 := bt_at a0 x7_1
                replace p17 := eq_true p17
                replace q17 := eq_true q17
                go_wp2_with (first | ((with_reducible refine gate_builtin (b := .append) (xs := #[.tmp 15, .tmp 19]) rfl ?_); at_builtin; refine Kd.R_append (Kd.int .u8) (w0 := w) w.heap.size rfl (.tmp 15) (.tmp 19) 45 5 (.int .u8 0) 1 rfl Tryz.underlying45 info5 rfl (by decide) (by omega) u3 x3_1 (bt a0 x7_1) [.int .u8 (bt a0 x7_1)] (fun _ => True) (fun _ => False) rfl rfl ?aP (fun _ hk => hk.elim) ?aF ?aO ?aB ?aS ?aL ?_; (case aP => exact rfl); (case aB => exact (by repeat (first | (with_reducible first | exact HB.out | apply below_alloc | apply pw_below_drewN | apply below_drew1) | exact HB.out))); (case aF => exact (fun _ _ => trivial)); (case aO => exact (by (with_reducible repeat (first | apply Kd.R_alloc | apply Kd.R_drewN | apply Kd.R_drew)); exact HO_3.out)); (case aS => exact (below_size (by repeat (first | (with_reducible first | exact HB.out | apply below_alloc | apply pw_below_drewN | apply below_drew1) | exact HB.out)))); (case aL => have := LMc18.out; omega); intro v159 w19 ho hb hg hat; rw [← Ny158.out] at ho; have n0_ := Aside0.mk (hb); have n1_ := Aside0.mk (ho); clear HB; clear HO_3; have HB := n0_; have HO160 := n1_; clear n0_ n1_; clear ho hb hg hat))
                go_roundg k1
                case measure => have := HK1.out; omega
                case rel => exact ⟨(y158), (wrap64 (x7_1 + 1)), (by first | rfl | (simp; done) | (simp [*]; done)), H', ⟨by have := HK1.out; omega⟩, ⟨by (with_reducible repeat (first | apply Kd.R_alloc | apply Kd.R_drewN | apply Kd.R_drew)); exact HO160.out⟩, ⟨by repeat (first | (with_reducible first | exact HB.out | apply below_alloc | apply pw_below_drewN | apply below_drew1) | exact HB.out)⟩⟩
              · rw [if_neg c18] at H
                exact absurd H (by simp)
          · rw [if_neg c4] at H
            exact absurd H (by simp)
        · rw [if_neg c3] at H
          exact absurd H (by simp)
      · rw [if_neg c2] at H
        have c2b0 : decide (x7_1 < (a0.size : Int)) = false := decide_eq_false c2
        clear c2
        obtain rfl := Option.some.inj H
        have hcv20 := own_string (P := Tryz.prog) Tryz.underlying45 Tryz.underlying5 Tryz.underlying9 (Kd.own_of_R HO_3.out)
        go_wp2
        go_ret
        exact ⟨by first | rfl | (simp [errW_none, errW_some] <;> rfl) | (simp [*, errW_none, errW_some] <;> rfl), by repeat (first | (with_reducible first | exact HB.out | apply below_alloc | apply pw_below_drewN | apply below_drew1) | exact HB.out)⟩

end Go.Proofs.YtpkelgekannioaaGreatDoor.PFnTokenRead
