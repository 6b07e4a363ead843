/- The reference's scanner at references, comments and the doctype. Conditions: sizes below 2^40. -/
import Derived.Test.YtpkelgekannioaaGreatDoorGeTell
import Derived.Test.YtpkelgekannioaaGreatDoorGbRef
import Derived.Lib.AppendStr
import Derived.Test.YtpkelgekannioaaGreatDoorGcFacts
import Derived.Test.YtpkelgekannioaaGreatDoorPFnTokenReadx78
set_option linter.unusedSimpArgs false
set_option linter.unusedVariables false

namespace Go.Proofs.YtpkelgekannioaaGreatDoor
open Go.RowKit Go.Shelf Go.BigFrame
open Go.Proofs.YtpkelgekannioaaGreatDoorW.PrintWords
open PFnTokenRead (S34 S38 S52 S54 k34 k38 k52 k54)
set_option linter.unusedSimpArgs false
set_option linter.unusedVariables false
attribute [local go_sem ↓] app_wrap

theorem encs_u8 (l : List UInt8) : encs (Value.int .u8) (bInts l) = Lib.strCells (bStr l) := by
  unfold encs Lib.strCells bStr bInts
  simp [List.map_map, Function.comp_def]

/-- append of a string. -/
theorem txt_append_str {B : Nat} {w : World} {tv : Value} {txt : List UInt8} (l : List UInt8) (ty : TypeId) (hQ : (Kd.int .u8).R 5 w B anyB tv (bInts txt)) (hBw : B ≤ w.heap.size) (hl : txt.length + l.length ≤ 140737488355328) :
    ∃ v1 w1, (appW #[45, 9] ty #[tv, .string (bStr l)]).run Tryz.prog w = .ok v1 w1 ∧ (Kd.int .u8).R 5 w1 B anyB v1 (bInts (txt ++ l)) ∧ w.grownBy w1 tv.ownBlock ∧
      (∀ k, tv.ownBlock = some k → B ≤ k ∧ ∃ cells, w.heap[k]? = some (.cells cells 5 (0, 0))) := by
  obtain ⟨i0, hi, hzz⟩ := Option.map_eq_some_iff.1 PFnTokenRead.info5
  simp only [Prod.mk.injEq] at hzz
  obtain ⟨hz0, hz1, hz2⟩ := hzz
  have hown := Kd.own_of_R hQ
  have hsz : (bStr l).size = l.length := by rw [Lib.size_eq]; simp [bStr]
  have hlt : (bInts txt).length = txt.length := by simp
  obtain ⟨v1, w1, h1, h2, h3, _⟩ := Lib.run_append_own_string (P := Tryz.prog) w B 45 9 ty 5 i0 Tryz.underlying45 Tryz.underlying9 hi hz0 hz1 hz2 tv _ _ hown (bStr l) (by rw [hsz, hlt]; simp only [maxLen]; omega) (by rw [hsz, hlt]; omega) hBw
  refine ⟨v1, w1, h1, Kd.R_of_own ?_ (fun _ _ => trivial), h3, fun k hk => ⟨Kd.R_base hQ k hk, Kd.R_typed hQ k hk⟩⟩
  rw [hsz, hlt] at h2
  have e1 : (bInts (txt ++ l)).length = txt.length + l.length := by simp
  rw [e1]
  have e2 : encs (Value.int .u8) (bInts (txt ++ l)) = encs (Value.int .u8) (bInts txt) ++ Lib.strCells (bStr l) := by
    rw [← encs_u8]
    unfold encs bInts
    simp
  rw [e2]
  exact h2

set_option maxHeartbeats 4000000 in
set_option maxRecDepth 100000 in
theorem reference_any (B b i : Nat) (s : ByteArray) (txt : List UInt8) (out : List S52) (w : World) (h : Sc B b s i txt out w) (hs : s.size ≤ 1099511627776) (c : UInt8) (h5 : five c) (rest : List UInt8) (hr : s.data.toList.drop i = escB c ++ rest) (hl : txt.length + 1 ≤ 1099511627776) :
    Calls Tryz.prog 36 #[.pointer (some ⟨b, 0, none⟩)] w fun e w' => e = .returned (.tuple #[]) ∧ Sc B b s (i + (escB c).length) (txt ++ [c]) out w' ∧ Went B w w' := by
  have hm : Tryz.prog.follows .mixedOrders = true := by kernel_rfl
  have hBw := h.base
  have h1le : 1 ≤ (escB c).length ∧ (escB c).length ≤ 5 := escB_le c
  have hil : i < s.size := by
    rcases Nat.lt_or_ge i s.size with h | h
    · exact h
    · rw [List.drop_of_length_le (by rw [← Lib.size_eq]; exact h)] at hr
      have := congrArg List.length hr
      simp at this
      omega
  obtain ⟨hB, nm, tv, ov, hb, ht, ho⟩ := h
  have hbd : Below w.heap.size w w.drew := Below.drew (Below.refl _ _)
  have hwd : Went B w w.drew := Went.of_below hbd hBw
  have hb0 := (hbd.block b (blk_lt hb)).trans hb
  have ht0 := Kd.R_below ht hbd
  have ho0 := Kd.R_below ho hbd
  obtain ⟨w0, hw0⟩ : ∃ w0, w.drew = w0 := ⟨_, rfl⟩
  rw [hw0] at hwd hb0 ht0 ho0
  have hBw0 : B ≤ w0.heap.size := by rw [← hw0]; exact hBw
  have hblt := blk_lt hb0
  have d0 : w0.cell? ⟨b, 0, none⟩ = some (.string s) := by rw [blk_cell hb0]; rfl
  have d1 : w0.cell? ⟨b, 1, none⟩ = some (.int .i64 i) := by rw [blk_cell hb0]; rfl
  have hle : (i : Int) ≤ (s.size : Int) := by omega
  have hxs : (s.extract i s.size).size ≤ 140737488355328 := by rw [ByteArray.size_extract]; omega
  have hdat : (s.extract i s.size).data.toList = escB c ++ rest := by rw [Lib.extract_to_end, hr]
  have href := fun W => ref_esc c (s.extract i s.size) rest W hxs h5 hdat false
  have HH := Lib.hid (And.intro hb0 (And.intro ht0 (And.intro ho0 hwd)))
  obtain ⟨ne, hnee⟩ : ∃ ne, (escB c).length = ne := ⟨_, rfl⟩
  rw [hnee] at href h1le
  rw [hnee]
  clear hb ht ho hbd hb0 ht0 ho0 hwd hr hdat
  go_enter Tryz.func36, Tryz.ntmps36
  go_upto_region 0 with fail
  refine wp_region_stage 17 hm (fun M w' => Below w0.heap.size w0 w' ∧ (M 9 = false → w' = w0)) (fun k => match k with
      | 0 | 1 | 4 | 5 => .pointer (some ⟨b, 0, none⟩)
      | 2 => .pointer (some ⟨b, 0, none⟩)
      | 3 => .string s
      | 6 => .pointer (some ⟨b, 1, none⟩)
      | 7 => .int .i64 i
      | 8 => .string (s.extract i s.size)
      | 9 | 10 => .tuple #[.string ⟨#[c]⟩, .int .i64 ne, .bool true]
      | 11 | 14 => .string ⟨#[c]⟩
      | 12 | 15 => .int .i64 ne
      | 13 | 16 => .bool true
      | _ => undef) (by kernel_rfl) ⟨by rw [hw0]; exact Below.refl _ _, fun _ => hw0⟩ ?_ ?_
  · repeat' (first | exact trivial | refine Stages.cons rfl ?_ ?_)
    all_goals
      intro M a' w' hS hM hF hC hD hfr hdep
      have f0 := hfr 0 (by kernel_rfl)
      have g0 := (hS.1.cell (p := ⟨b, 0, none⟩) hblt).trans d0
      have g1 := (hS.1.cell (p := ⟨b, 1, none⟩) hblt).trans d1
      clear hfr hD hF
      simp [Region.binds, Holds] at hdep f0
    rotate_left 9
    · obtain rfl := hS.2 hM
      simp [Oper.wp, execOp, Act.eval, hdep, f0, go_sem, upd]
      refine (href w').mono ?_
      rintro e w'' ⟨rfl, hb2⟩
      exact ⟨rfl, hb2⟩
    all_goals
      simp [Oper.wp, execOp, Act.eval, hdep, f0, go_sem, g0, g1, upd, hle]
      first | exact hS | exact hS.1 | exact ⟨hS.1, fun h => by simpa [hdep] using hS.2 h⟩
  · intro M w1 hall hS
    simp only [putAll, List.setIfInBounds_toArray, List.set_cons_zero, List.set_cons_succ, Exit.then]
    obtain ⟨hbw, _⟩ := hS
    have hb1 := (hbw.block b (blk_lt HH.out.1)).trans HH.out.1
    have ht1 := Kd.R_below HH.out.2.1 hbw
    have ho1 := Kd.R_below HH.out.2.2.1 hbw
    have hBw1 : B ≤ w1.heap.size := Nat.le_trans hBw0 hbw.size
    have hw1 := HH.out.2.2.2.trans (Went.of_below hbw hBw0)
    obtain ⟨tv', wA, hrun, hR, hg, hty⟩ := txt_append_str [c] 45 ht1 hBw1 (by simp; omega)
    rw [show bStr [c] = ⟨#[c]⟩ from rfl] at hrun
    obtain ⟨Aw, nw, htv⟩ := Kd.R_slice ht1
    obtain ⟨A7, n7, htv'⟩ := Kd.R_slice hR
    have hne : some b ≠ tv.ownBlock := Kd.R_ne ht1 hb1 (by decide)
    have hbA : wA.heap[b]? = some (.cells #[.string s, .int .i64 i, .bool false, .int .i64 0, .string nm, tv, ov, .bool false] 47 (0, 0)) := (hg.block b (blk_lt hb1) hne).trans hb1
    have hoA := Kd.R_over' ho1 (fun k hk => (hty k hk).2) ne5_52 hg
    have hwA : Went B w wA := hw1.trans (Went.grown hg hBw1 (fun k hk => (hty k hk).1) (fun k hk => by
      obtain ⟨cells, hc⟩ := (hty k hk).2
      exact ⟨cells, 5, hc, by decide⟩))
    have e5 : w1.cell? ⟨b, 5, none⟩ = some tv := by rw [blk_cell hb1]; rfl
    have fA5 := blk_frozen hbA 5
    have cA5 : wA.cell? ⟨b, 5, none⟩ = some tv := by rw [blk_cell hbA]; rfl
    have fA1 := blk_frozen hbA 1
    have cA1 : wA.cell? ⟨b, 1, none⟩ = some (.int .i64 i) := by rw [blk_cell hbA]; rfl
    have H2 := Lib.hid (And.intro hbA (And.intro hR (And.intro hoA (And.intro hwA htv'))))
    clear hbA hR hoA hwA hg hty hne hb1 ht1 ho1 hw1 hbw HH hall
    rw [htv] at hrun cA5 e5
    rw [htv'] at hrun
    obtain ⟨ln, hln⟩ : ∃ ln, (bInts (txt ++ [c])).length = ln := ⟨_, rfl⟩
    obtain ⟨lt, hlt⟩ : ∃ lt, (bInts txt).length = lt := ⟨_, rfl⟩
    rw [hln, hlt] at hrun
    rw [hlt] at cA5 e5
    have hwr : IntKind.i64.wrap ((i : Int) + ne) = ((i + ne : Nat) : Int) := by
      simp [IntKind.wrap, IntKind.signed, IntKind.bits]
      omega
    go_upto_region 3 with fail
    have hb4 := blk_set H2.out.1 5 (Value.slice A7 ln n7)
    have hR4 := Kd.R_set H2.out.2.1 H2.out.1 ne47_5 5 (Value.slice A7 ln n7)
    have hT4 := Kd.R_set H2.out.2.2.1 H2.out.1 ne47_52 5 (Value.slice A7 ln n7)
    have hw4 := H2.out.2.2.2.1.trans (Went.set H2.out.1 hB 5 (Value.slice A7 ln n7))
    have hv4 := H2.out.2.2.2.2
    obtain ⟨W3, hW3⟩ : ∃ W3, wA.setCell ⟨b, 5, none⟩ (Value.slice A7 ln n7) = W3 := ⟨_, rfl⟩
    rw [hW3] at hb4 hR4 hT4 hw4 ⊢
    rw [hln] at hv4
    have x1 : W3.cell? ⟨b, 1, none⟩ = some (.int .i64 i) := by rw [blk_cell hb4]; rfl
    have y1 := blk_frozen hb4 1
    have H4 := Lib.hid (And.intro hb4 (And.intro hR4 (And.intro hT4 (And.intro hw4 hv4))))
    clear hb4 hR4 hT4 hw4 hv4 hW3
    go_wp2
    refine bodyPost_ret (results_none rfl _ _ _) rfl ?_
    have hb5 := blk_set H4.out.1 1 (.int .i64 ((i + ne : Nat) : Int))
    refine ⟨rfl, ⟨hB, nm, tv', ov, ?_, Kd.R_set H4.out.2.1 H4.out.1 ne47_5 1 _, Kd.R_set H4.out.2.2.1 H4.out.1 ne47_52 1 _⟩, H4.out.2.2.2.1.trans (Went.set H4.out.1 hB 1 _)⟩
    rw [H4.out.2.2.2.2]
    exact hb5

end Go.Proofs.YtpkelgekannioaaGreatDoor

namespace Go.Proofs.YtpkelgekannioaaGreatDoor
open Go.RowKit Go.Shelf Go.BigFrame
open Go.Proofs.YtpkelgekannioaaGreatDoorW.PrintWords
set_option linter.unusedSimpArgs false
set_option linter.unusedVariables false
attribute [local go_sem ↓] app_wrap

/-- A character as it is written: by itself, or by its reference. -/
inductive Un where
  | byte (c : UInt8)
  | ref (c : UInt8)
def Un.b : Un → List UInt8
  | .byte c => [c]
  | .ref c => escB c
def Un.v : Un → UInt8
  | .byte c => c
  | .ref c => c
def Un.ok : Un → Prop
  | .byte c => c ≠ 38
  | .ref c => five c
/-- What is written. -/
def unB (us : List Un) : List UInt8 := us.flatMap Un.b
/-- What it stands for. -/
def unV (us : List Un) : List UInt8 := us.map Un.v

theorem unB_cons (u : Un) (us : List Un) : unB (u :: us) = u.b ++ unB us := rfl
theorem unB_append (a b : List Un) : unB (a ++ b) = unB a ++ unB b := by simp [unB]
theorem Un.b_pos (u : Un) : 1 ≤ u.b.length := by
  cases u with
  | byte c => simp [Un.b]
  | ref c => exact (escB_le c).1
theorem unV_le (us : List Un) : us.length ≤ (unB us).length := by
  induction us with
  | nil => simp [unB]
  | cons u us ih =>
    rw [unB_cons, List.length_append, List.length_cons]
    have := u.b_pos
    omega

theorem unB_take {us : List Un} {k : Nat} {u : Un} (h : us[k]? = some u) : unB (us.take (k + 1)) = unB (us.take k) ++ u.b := by
  rw [List.take_add_one, h, unB_append]
  simp [unB]
theorem unV_take {us : List Un} {k : Nat} {u : Un} (h : us[k]? = some u) : unV (us.take (k + 1)) = unV (us.take k) ++ [u.v] := by
  rw [List.take_add_one, h]
  simp [unV]
theorem unB_split {us : List Un} {k : Nat} {u : Un} (h : us[k]? = some u) : (unB us).drop (unB (us.take k)).length = u.b ++ unB (us.drop (k + 1)) := by
  obtain ⟨hk, hu⟩ := List.getElem?_eq_some_iff.1 h
  have e : us = us.take k ++ u :: us.drop (k + 1) := by
    rw [← hu, List.getElem_cons_drop, List.take_append_drop]
  conv => lhs; arg 2; rw [e]
  rw [unB_append, List.drop_left, unB_cons]

set_option maxHeartbeats 4000000 in
set_option maxRecDepth 100000 in
theorem unescaped_any (s : ByteArray) (us : List Un) (hus : s.data.toList = unB us) (hok : ∀ u ∈ us, u.ok) (at' : Bool) (w : World) (hs : s.size ≤ 1099511627776) :
    Calls Tryz.prog 60 #[.string s, .bool at'] w fun e w' => e = .returned (.string (bStr (unV us))) ∧ Below w.heap.size w w' := by
  have e2 : s.data.toList.length = s.size := (Lib.size_eq _).symm
  have hlen : us.length ≤ s.size := by rw [← e2, hus]; exact unV_le us
  have HU := Lib.hid (And.intro hus (And.intro hok e2))
  clear hus hok e2
  go_enter Tryz.func60, Tryz.ntmps60
  go_wp2_with fail
  go_loopg [5, 6] (us.length + 1) (fun m s5 s6 wx => ∃ (k : Nat) (A : Option Addr) (c : Nat), k + m = us.length + 1 ∧ k ≤ us.length ∧ s5 = .slice A k c ∧ s6 = .int .i64 (unB (us.take k)).length ∧ Below w.heap.size w wx ∧ (Kd.int .u8).R 5 wx w.heap.size anyB (.slice A k c) (bInts (unV (us.take k))))
  case atStart => exact ⟨0, none, 0, by omega, by omega, rfl, rfl, Below.refl _ _, Kd.R_nil _ _ _ _ _⟩
  case round =>
    obtain ⟨k, A, c, hm, hk, rfl, rfl, hbw, hR⟩ := hrel
    by_cases hlt : k < us.length
    · obtain ⟨u, hu⟩ : ∃ u, us[k]? = some u := ⟨_, List.getElem?_eq_getElem hlt⟩
      have hsp := unB_split hu
      rw [← HU.out.1] at hsp
      have hub := unB_take hu
      have huv := unV_take hu
      have huok := HU.out.2.1 u (List.mem_of_getElem? hu)
      have hpos := u.b_pos
      obtain ⟨p, hp⟩ : ∃ p, (unB (us.take k)).length = p := ⟨_, rfl⟩
      rw [hp] at hsp
      have hpl : p < s.size := by
        rcases Nat.lt_or_ge p s.size with h | h
        · exact h
        · rw [List.drop_of_length_le (by rw [HU.out.2.2]; exact h)] at hsp
          have := congrArg List.length hsp
          simp at this
          omega
      have hpi : (p : Int) < (s.size : Int) := by omega
      have hul : (unV (us.take k)).length = k := by simp [unV]; omega
      have HB := Lib.hid (And.intro hub (And.intro huv (And.intro hul hp)))
      rw [hp]
      have hbase := hbw.size
      cases u with
      | byte c1 =>
        have h38 : c1 ≠ 38 := huok
        have hc1 : s[p]'hpl = c1 := by
          have h1 : (s.data.toList.drop p)[0]? = some c1 := by rw [hsp]; rfl
          rw [List.getElem?_drop, Nat.add_zero, Lib.data_getElem? s p hpl] at h1
          exact Option.some.inj h1
        have e38 := byte_ne h38 (k := 38) rfl
        obtain ⟨v1, wA, hrun, hR1, hg, hty⟩ := txt_append c1 45 hR (by omega) (by rw [hul]; omega)
        obtain ⟨A7, n7, hv7⟩ := Kd.R_slice hR1
        rw [hv7] at hrun hR1
        obtain ⟨V1, hV1⟩ : ∃ V1, wr.alloc (.cells #[.int .u8 c1.toNat] 5) = V1 := ⟨_, rfl⟩
        rw [hV1] at hrun
        have hbA := hbw.grown hg hbase (fun k hk => (hty k hk).1)
        have hwr := wrap_succ p (by omega)
        have hl2 : (bInts (unV (us.take k) ++ [c1])).length = k + 1 := by
          simp only [bInts, List.length_map, List.length_append, hul, List.length_singleton]
        rw [hl2] at hrun hR1
        have HR1 := Lib.hid (And.intro hR1 hbA)
        clear hR hsp hub huv huok hpos hul hp h38 hg hty hR1 hbA hv7 hu hbw
        go_wp2_with fail
        go_roundg (us.length - k)
        case measure => omega
        case rel =>
          refine ⟨k + 1, A7, n7, by omega, by omega, rfl, ?_, HR1.out.2, ?_⟩
          · rw [HB.out.1, List.length_append, HB.out.2.2.2]
            rfl
          · rw [HB.out.2.1]
            exact HR1.out.1
      | ref c1 =>
        have h5 : five c1 := huok
        have hsp' : s.data.toList.drop p = escB c1 ++ unB (us.drop (k + 1)) := hsp
        have hc1 : s[p]'hpl = 38 := by
          have h1 : (s.data.toList.drop p)[0]? = some 38 := by
            rw [hsp']
            rcases h5 with rfl | rfl | rfl | rfl | rfl <;> rfl
          rw [List.getElem?_drop, Nat.add_zero, Lib.data_getElem? s p hpl] at h1
          exact Option.some.inj h1
        have hxs : (s.extract p s.size).size ≤ 140737488355328 := by rw [ByteArray.size_extract]; omega
        have href := fun W => ref_esc c1 (s.extract p s.size) _ W hxs h5 (by rw [Lib.extract_to_end, hsp']) at'
        have hle : (p : Int) ≤ (s.size : Int) := by omega
        obtain ⟨ne, hne⟩ : ∃ ne, (escB c1).length = ne := ⟨_, rfl⟩
        have hne5 : ne ≤ 5 := by rw [← hne]; exact (escB_le c1).2
        rw [hne] at href
        have HR := Lib.hid (And.intro hR hbw)
        have HE := Lib.hid hne
        clear hR hsp hsp' hub huv huok hpos hp h5 hu hbw hne
        go_upto_region 7 with (go_at_call 53; go_must (refine (href _).mono ?_; rintro e w1 ⟨rfl, hb1⟩))
        have hR1 := Kd.R_below HR.out.1 (hb1.mono (Nat.le_refl _))
        have hbw1 := HR.out.2.trans (hb1.mono HR.out.2.size)
        obtain ⟨v1, wA, hrun, hR2, hg, hty⟩ := txt_append_str [c1] 45 hR1 hbw1.size (by rw [hul]; simp; omega)
        rw [show bStr [c1] = ⟨#[c1]⟩ from rfl] at hrun
        obtain ⟨A7, n7, hv7⟩ := Kd.R_slice hR2
        rw [hv7] at hrun hR2
        have hbA := hbw1.grown hg hbw1.size (fun k hk => (hty k hk).1)
        have hwr : IntKind.i64.wrap ((p : Int) + (ne : Int)) = (p : Int) + (ne : Int) := by simp [IntKind.wrap, IntKind.signed, IntKind.bits]; omega
        have hl2 : (bInts (unV (us.take k) ++ [c1])).length = k + 1 := by
          simp only [bInts, List.length_map, List.length_append, hul, List.length_singleton]
        rw [hl2] at hrun hR2
        have HR1 := Lib.hid (And.intro hR2 hbA)
        clear hR1 hR2 hbA hg hty hv7 hul hbw1 hb1 href
        go_wp2_with fail
        go_roundg (us.length - k)
        case measure => omega
        case rel =>
          refine ⟨k + 1, A7, n7, by omega, by omega, rfl, ?_, HR1.out.2, ?_⟩
          · rw [HB.out.1, List.length_append, HB.out.2.2.2]
            show Value.int IntKind.i64 ((p : Int) + (ne : Int)) = _
            rw [← HE.out]
            rfl
          · rw [HB.out.2.1]
            exact HR1.out.1
    · obtain rfl : k = us.length := by omega
      rw [List.take_of_length_le (Nat.le_refl _)] at hR ⊢
      rw [show (unB us).length = s.size from by rw [← HU.out.1, HU.out.2.2]]
      obtain ⟨q1, q2, hC⟩ := Kd.R_reads' hR
      have hconv : (convert 45 9 (.slice A us.length c)).run Tryz.prog wr = .ok (.string (bStr (unV us))) wr := by
        have := Kd.C_string Tryz.underlying45 Tryz.underlying5 Tryz.underlying9 (c := c) hC
        rw [strOf_bInts] at this
        rw [show (bInts (unV us)).length = us.length from by simp [unV]] at this
        exact this
      clear hR hC q1 q2
      go_wp2_with fail
      go_ret
      exact ⟨rfl, hbw⟩

end Go.Proofs.YtpkelgekannioaaGreatDoor

namespace Go.Proofs.YtpkelgekannioaaGreatDoor
open Go.RowKit Go.Shelf Go.BigFrame
open Go.Proofs.YtpkelgekannioaaGreatDoorW.PrintWords
open PFnTokenRead (S34 S38 S52 S54 k34 k38 k52 k54)
set_option linter.unusedSimpArgs false
set_option linter.unusedVariables false

/-- A token without attributes. -/
def tok0 (kind : Int) (l : List UInt8) : S52 := ⟨kind, bStr l, []⟩

/-! ### Where a comment ends -/
/-- No greater sign at the beginning, nor behind an exclamation mark or a dash. -/
def EC (E : List UInt8) : Prop := ∀ k : Nat, E[k]? = some (62 : UInt8) → 1 ≤ k ∧ E[k - 1]? ≠ some (33 : UInt8) ∧ E[k - 1]? ≠ some (45 : UInt8)

theorem occ_get {L K : List UInt8} {q : Nat} (h : occ L K q) {j : Nat} {c : UInt8} (hj : K[j]? = some c) : L[q + j]? = some c := by
  unfold occ at h
  rw [← h, List.getElem?_take, List.getElem?_drop] at hj
  split at hj
  · exact hj
  · cases hj

section
variable {L E rest : List UInt8} {f : Nat} (hE : L.drop f = E ++ 45 :: 45 :: 62 :: rest) (hC : EC E)
include hE
theorem tail_get (j : Nat) : L[f + j]? = (E ++ 45 :: 45 :: 62 :: rest)[j]? := by rw [← hE, List.getElem?_drop]
theorem tail_in {j : Nat} (hj : j < E.length) : L[f + j]? = E[j]? := by rw [tail_get hE, List.getElem?_append_left hj]
theorem tail_0 : L[f + E.length]? = some 45 := by rw [tail_get hE, List.getElem?_append_right (Nat.le_refl _)]; simp
theorem tail_1 : L[f + (E.length + 1)]? = some 45 := by rw [tail_get hE, List.getElem?_append_right (by omega)]; simp
theorem tail_2 : L[f + (E.length + 2)]? = some 62 := by rw [tail_get hE, List.getElem?_append_right (by omega)]; simp
theorem tail_len : f + E.length + 3 ≤ L.length := by
  have := (List.getElem?_eq_some_iff.1 (tail_2 hE)).1
  omega
theorem end_there : occ L [45, 45, 62] (f + E.length) := by
  unfold occ
  rw [← List.drop_drop, hE, List.drop_left]
  rfl
include hC
theorem end_not (q : Nat) (h1 : f ≤ q) (h2 : q < f + E.length) : ¬ occ L [45, 45, 62] q := fun h => by
  obtain ⟨p, rfl⟩ : ∃ p, q = f + p := ⟨q - f, by omega⟩
  have g1 := occ_get h (j := 1) (c := 45) rfl
  have g2 := occ_get h (j := 2) (c := 62) rfl
  rw [Nat.add_assoc] at g1 g2
  by_cases c1 : p + 2 < E.length
  · rw [tail_in hE c1] at g2
    rw [tail_in hE (by omega)] at g1
    have := (hC _ g2).2.2
    rw [show p + 2 - 1 = p + 1 from rfl] at this
    exact this g1
  · rcases (by omega : p + 2 = E.length ∨ p + 2 = E.length + 1) with c2 | c2
    · rw [c2, tail_0 hE] at g2
      exact absurd g2 (by decide)
    · rw [c2, tail_1 hE] at g2
      exact absurd g2 (by decide)
theorem bang_not (q : Nat) (h1 : f ≤ q) (h2 : q < f + E.length) : ¬ occ L [45, 45, 33, 62] q := fun h => by
  obtain ⟨p, rfl⟩ : ∃ p, q = f + p := ⟨q - f, by omega⟩
  have g1 := occ_get h (j := 2) (c := 33) rfl
  have g2 := occ_get h (j := 3) (c := 62) rfl
  rw [Nat.add_assoc] at g1 g2
  by_cases c1 : p + 3 < E.length
  · rw [tail_in hE c1] at g2
    rw [tail_in hE (by omega)] at g1
    have := (hC _ g2).2.1
    rw [show p + 3 - 1 = p + 2 from rfl] at this
    exact this g1
  · rcases (by omega : p + 3 = E.length ∨ p + 3 = E.length + 1 ∨ p + 2 = E.length + 1) with c2 | c2 | c2
    · rw [c2, tail_0 hE] at g2
      exact absurd g2 (by decide)
    · rw [c2, tail_1 hE] at g2
      exact absurd g2 (by decide)
    · rw [c2, tail_1 hE] at g1
      exact absurd g1 (by decide)
theorem no_gt : L[f]? ≠ some 62 := fun h => by
  by_cases c : 0 < E.length
  · have h' := tail_in hE c
    rw [Nat.add_zero, h] at h'
    have := (hC 0 h'.symm).1
    omega
  · have e : E.length = 0 := by omega
    have := tail_0 hE
    rw [e, Nat.add_zero, h] at this
    exact absurd this (by decide)
theorem no_dashgt (h0 : L[f]? = some 45) : L[f + 1]? ≠ some 62 := fun h => by
  by_cases c : 1 < E.length
  · have h' := tail_in hE c
    rw [h] at h'
    have := (hC 1 h'.symm).2.2
    rw [show 1 - 1 = 0 from rfl, ← tail_in hE (by omega), Nat.add_zero] at this
    exact this h0
  · by_cases c1 : E.length = 1
    · have := tail_0 hE
      rw [c1, h] at this
      exact absurd this (by decide)
    · have e : E.length = 0 := by omega
      have := tail_1 hE
      rw [e, Nat.zero_add, h] at this
      exact absurd this (by decide)
end

theorem lowB_small {c n : UInt8} (h : lowB c = n) (hn : n.toNat < 97) : c = n := by
  unfold lowB at h
  split at h
  · rename_i hc
    have := congrArg UInt8.toNat h
    simp at this
    omega
  · exact h
theorem lowS_data (s : ByteArray) : (lowS s).data.toList = s.data.toList.map lowB := by unfold lowS; rw [bStr_list]

/-- A word without letters stands at a place if, and only if, it does so letter for letter. -/
theorem starts_not {s what : ByteArray} {i : Nat} (hw : ∀ c ∈ what.data.toList, c.toNat < 97 ∧ lowB c = c) (h : ¬ occ s.data.toList what.data.toList i) : decide (i + what.size ≤ s.size ∧ lowS (s.extract i (i + what.size)) = lowS what) = false := by
  refine decide_eq_false fun ⟨h1, h2⟩ => h ?_
  have e := congrArg (fun x : ByteArray => x.data.toList) h2
  simp only [lowS_data] at e
  have e1 : (s.extract i (i + what.size)).data.toList = (s.data.toList.drop i).take what.data.toList.length := by
    rw [← Lib.size_eq]
    simp [ByteArray.data_extract, Array.toList_extract, List.extract_eq_take_drop]
  rw [e1] at e
  unfold occ
  refine List.ext_getElem? fun j => ?_
  have ej := congrArg (fun l : List UInt8 => l[j]?) e
  simp only [List.getElem?_map] at ej
  cases hx : what.data.toList[j]? with
  | none =>
    rw [hx] at ej
    simpa using ej
  | some c =>
    rw [hx] at ej
    obtain ⟨c', h3, h4⟩ := Option.map_eq_some_iff.1 ej
    have hc := hw c (List.mem_of_getElem? hx)
    rw [hc.2] at h4
    rw [h3, lowB_small h4 hc.1]

set_option maxHeartbeats 1000000 in
set_option maxRecDepth 100000 in
theorem remark_any (B b i : Nat) (s : ByteArray) (txt : List UInt8) (out : List S52) (w : World) (h : Sc B b s i txt out w) (s1 : ByteArray) (us : List Un) (hus : s1.data.toList = unB us) (hok : ∀ u ∈ us, u.ok) (hs1 : s1.size ≤ 1099511627776) (hl : out.length ≤ 1099511627776) :
    Calls Tryz.prog 61 #[.pointer (some ⟨b, 0, none⟩), .string s1] w fun e w' => e = .returned (.tuple #[]) ∧ Sc B b s i [] (out ++ textTok txt ++ [tok0 5 (unV us)]) w' ∧ Went B w w' := by
  have hu := fun W => unescaped_any s1 us hus hok false W hs1
  have hBw := h.base
  have HS := Lib.hid h
  clear h hus hok
  go_enter Tryz.func61, Tryz.ntmps61
  go_wp2_with (first
    | (go_at_call 60; go_must (refine (hu _).mono ?_; rintro e w1 ⟨rfl, hb1⟩))
    | (go_at_call 59; fail))
  have h1 := HS.out.keep hb1
  have hw1 := Went.of_below hb1 hBw
  refine (tell_any B b i s txt out w1 h1 (tok0 5 (unV us)) none 0 0 (Kd.R_nil _ _ _ _ _) (by omega)).mono ?_
  rintro e w2 ⟨rfl, hs2, hw2⟩
  have H2 := Lib.hid (And.intro hs2 (hw1.trans hw2))
  clear h1 hw1 hs2 hw2
  go_wp2_with fail
  go_end0
  exact ⟨rfl, H2.out⟩

def gtS : ByteArray := ⟨#[62]⟩
def dgS : ByteArray := ⟨#[45, 62]⟩
theorem set_at {B b i : Nat} {s : ByteArray} {txt : List UInt8} {out : List S52} {w : World} (h : Sc B b s i txt out w) (j : Nat) : w.cell? ⟨b, 1, none⟩ = some (.int .i64 i) ∧ w.frozen? ⟨b, 1, none⟩ = false ∧ w.cell? ⟨b, 0, none⟩ = some (.string s) ∧ Sc B b s j txt out (w.setCell ⟨b, 1, none⟩ (.int .i64 j)) ∧ Went B w (w.setCell ⟨b, 1, none⟩ (.int .i64 j)) := by
  obtain ⟨hB, nm, tv, ov, hb, ht, ho⟩ := h
  exact ⟨by rw [blk_cell hb]; rfl, blk_frozen hb 1, by rw [blk_cell hb]; rfl, ⟨hB, nm, tv, ov, blk_set hb 1 _, Kd.R_set ht hb ne47_5 1 _, Kd.R_set ho hb ne47_52 1 _⟩, Went.set hb hB 1 _⟩

set_option maxHeartbeats 1000000 in
set_option maxRecDepth 100000 in
theorem comment_any (B b i f : Nat) (s : ByteArray) (txt : List UInt8) (out : List S52) (w : World) (h : Sc B b s i txt out w) (hs : s.size ≤ 1099511627776) (us : List Un) (hok : ∀ u ∈ us, u.ok) (hC : EC (unB us)) (rest : List UInt8) (hE : s.data.toList.drop f = unB us ++ 45 :: 45 :: 62 :: rest) (hl : out.length ≤ 1099511627776) :
    Calls Tryz.prog 58 #[.pointer (some ⟨b, 0, none⟩), .int .i64 f] w fun e w' => e = .returned (.tuple #[]) ∧ Sc B b s (f + (unB us).length + 3) [] (out ++ textTok txt ++ [tok0 5 (unV us)]) w' ∧ Went B w w' := by
  have e2 : s.data.toList.length = s.size := (Lib.size_eq _).symm
  have hlen := tail_len hE
  have hBw := h.base
  have hblt := h.lt
  have hng := no_gt hE hC
  have hnd := no_dashgt hE hC
  have hst1 := starts_not (s := s) (what := gtS) (i := f) (by decide) (fun ho => hng (by have := occ_get ho (j := 0) (c := 62) rfl; rwa [Nat.add_zero] at this))
  have hst2 := starts_not (s := s) (what := dgS) (i := f) (by decide) (fun ho => hnd (by have := occ_get ho (j := 0) (c := 45) rfl; rwa [Nat.add_zero] at this) (occ_get ho (j := 1) (c := 62) rfl))
  have hc1 := fun W => starts_any s gtS f W hs (by decide) (by omega)
  have hc2 := fun W => starts_any s dgS f W hs (by decide) (by omega)
  rw [hst1] at hc1
  rw [hst2] at hc2
  obtain ⟨r1, hf1, hk1⟩ := find_any s ⟨#[45, 45, 62]⟩ hs (by decide) f (by omega)
  obtain ⟨r2, hf2, hk2⟩ := find_any s ⟨#[45, 45, 33, 62]⟩ hs (by decide) f (by omega)
  have hz1 := fun W n => Calls.quiet_of (w := W) (n := n) ((hk1 (W.drewN n)).mono fun e w' h => ⟨h.1, h.2.out⟩)
  have hz2 := fun W n => Calls.quiet_of (w := W) (n := n) ((hk2 (W.drewN n)).mono fun e w' h => ⟨h.1, h.2.out⟩)
  clear hk1 hk2
  have hr1 : r1 = f + (unB us).length := find_at hf1 (by omega) (by simp; omega) (end_there hE) (end_not hE hC)
  have hr2 : f + (unB us).length ≤ r2 := by
    rcases hf2 with ⟨g1, g2, g3, g4⟩ | ⟨g1, g2⟩
    · by_cases hlt : r2 < f + (unB us).length
      · exact absurd g3 (bang_not hE hC r2 g1 hlt)
      · omega
    · omega
  have hx : (s.extract f r1).data.toList = unB us := by
    simp only [ByteArray.data_extract, Array.toList_extract, List.extract_eq_take_drop]
    rw [hE, hr1, show f + (unB us).length - f = (unB us).length from by omega, List.take_left]
  have hxs : (s.extract f r1).size ≤ 1099511627776 := by rw [ByteArray.size_extract]; omega
  have HX := Lib.hid (And.intro hx (And.intro hok h))
  have hq1 : (r1 : Int) < (s.size : Int) := by omega
  have hq2 : (f : Int) ≤ (r1 : Int) := by omega
  have hq3 : (r1 : Int) ≤ (s.size : Int) := by omega
  have hq4 : ¬ (r2 : Int) < (r1 : Int) := by omega
  have HR := Lib.hid hr1
  have hgS : gtS = ⟨#[62]⟩ := rfl
  have hdS : dgS = ⟨#[45, 62]⟩ := rfl
  rw [hgS] at hc1
  rw [hdS] at hc2
  clear hgS hdS hE hC hng hnd hst1 hst2 hf1 hf2 hx hok hr1 hr2 hlen e2 h
  obtain ⟨w1, hw1⟩ : ∃ w1, w.alloc (.cells #[.string ⟨#[62]⟩, .string ⟨#[45, 62]⟩] 9) = w1 := ⟨_, rfl⟩
  have hbw1 : Below w.heap.size w w1 := by rw [← hw1]; exact (Below.refl _ _).alloc (Nat.le_refl _) _
  have hg1 : w1.heap[w.heap.size]? = some (.cells #[.string ⟨#[62]⟩, .string ⟨#[45, 62]⟩] 9 (0, 0)) := by rw [← hw1]; exact heap_alloc_new w _
  have hsz1 : w1.heap.size = w.heap.size + 1 := by rw [← hw1]; simp
  have HG := Lib.hid (And.intro hg1 (And.intro hbw1 hsz1))
  clear hbw1 hg1 hsz1
  go_enter Tryz.func58, Tryz.ntmps58
  go_wp2_with fail
  clear hw1
  go_loopg [10] 3 (fun m s10 wx => ∃ k : Nat, k + m = 3 ∧ k ≤ 2 ∧ s10 = .int .i64 k ∧ Below w1.heap.size w1 wx)
  case atStart => exact ⟨0, rfl, by omega, rfl, Below.refl _ _⟩
  case round =>
    obtain ⟨k, hm, hk, rfl, hbx⟩ := hrel
    have hblk := (hbx.block w.heap.size (by have := HG.out.2.2; omega)).trans HG.out.1
    have hsx := (HX.out.2.2.keep HG.out.2.1).keep hbx
    have x0 := (set_at hsx 0).2.2.1
    have y0 : wr.cell? ⟨w.heap.size, 0, none⟩ = some (.string ⟨#[62]⟩) := by rw [blk_cell hblk]; rfl
    have y1 : wr.cell? ⟨w.heap.size, 1, none⟩ = some (.string ⟨#[45, 62]⟩) := by rw [blk_cell hblk]; rfl
    have HS := Lib.hid hsx
    clear hblk hsx
    rcases (by omega : k = 0 ∨ k = 1 ∨ k = 2) with rfl | rfl | rfl
    · go_wp2_with (go_at_call 57; go_must (refine (hc1 _).mono ?_; rintro e w2 ⟨rfl, hb2⟩))
      go_roundg 2
      case measure => omega
      case rel => exact ⟨1, by omega, by omega, rfl, hbx.trans (hb2.mono hbx.size)⟩
    · go_wp2_with (go_at_call 57; go_must (refine (hc2 _).mono ?_; rintro e w2 ⟨rfl, hb2⟩))
      go_roundg 1
      case measure => omega
      case rel => exact ⟨2, by omega, by omega, rfl, hbx.trans (hb2.mono hbx.size)⟩
    · go_wp2_with fail
      go_quiet ((go_at_call 25; first | with_reducible exact hz1 _ _ | with_reducible exact hz2 _ _))
      clear hz1 hz2 hc1 hc2
      go_wp2_with (go_at_call 61; fail)
      have hbd : Below wr.heap.size wr (wr.drewN nq) := pw_below_drewN (Below.refl _ _) nq
      refine (remark_any B b i s txt out _ (HS.out.keep hbd) (s.extract f r1) us HX.out.1 HX.out.2.1 hxs hl).mono ?_
      rintro e w2 ⟨rfl, hs2, hw2⟩
      have hww : Went B w w2 := (Went.of_below (HG.out.2.1.trans (hbx.mono (by have := HG.out.2.2; omega))) hBw).trans ((Went.of_below hbd (by have := hbx.size; have := HG.out.2.2; omega)).trans hw2)
      obtain ⟨z1, z2, z3, z4, z5⟩ := set_at hs2 (r1 + 3)
      have hwr : IntKind.i64.wrap ((r1 : Int) + 3) = ((r1 + 3 : Nat) : Int) := by
        simp [IntKind.wrap, IntKind.signed, IntKind.bits]
        omega
      have HZ := Lib.hid (And.intro z4 (hww.trans z5))
      clear hs2 hw2 hww z3 z4 z5 hbd
      go_wp2_with fail
      first | go_end0 | refine bodyPost_ret (results_none rfl _ _ _) rfl ?_
      refine ⟨rfl, ?_, HZ.out.2⟩
      rw [← HR.out]
      exact HZ.out.1

end Go.Proofs.YtpkelgekannioaaGreatDoor

namespace Go.Proofs.YtpkelgekannioaaGreatDoor
open Go.RowKit Go.Shelf Go.BigFrame
open Go.Proofs.YtpkelgekannioaaGreatDoorW.PrintWords
open PFnTokenRead (S34 S38 S52 S54 k34 k38 k52 k54 spec_trimmed.f spec_trimmed.calls)
set_option linter.unusedSimpArgs false
set_option linter.unusedVariables false

theorem extract_take (s : ByteArray) (i n : Nat) : (s.extract i (i + n)).data.toList = (s.data.toList.drop i).take n := by
  simp [ByteArray.data_extract, Array.toList_extract, List.extract_eq_take_drop]

theorem starts_val {s what X : ByteArray} {i : Nat} (hx : X.size = what.size) (h : (s.data.toList.drop i).take X.size = X.data.toList) (hl : i + X.size ≤ s.size) : decide (i + what.size ≤ s.size ∧ lowS (s.extract i (i + what.size)) = lowS what) = decide (lowS X = lowS what) := by
  have e : s.extract i (i + what.size) = X := str_ext (by rw [extract_take, ← hx, h])
  rw [e]
  have : i + what.size ≤ s.size := by omega
  simp [this]

/-- What a text has at a place. -/
theorem at_take {s : ByteArray} {i : Nat} {P rest : List UInt8} (h : s.data.toList.drop i = P ++ rest) : i + P.length ≤ s.size ∨ P = [] := by
  have := congrArg List.length h
  rw [List.length_drop, List.length_append] at this
  by_cases hp : P.length = 0
  · exact .inr (List.eq_nil_of_length_eq_zero hp)
  · refine .inl ?_
    rw [Lib.size_eq]
    omega

set_option maxHeartbeats 1000000 in
set_option maxRecDepth 100000 in
theorem declared_comment (B b i : Nat) (s : ByteArray) (txt : List UInt8) (out : List S52) (w : World) (h : Sc B b s i txt out w) (hs : s.size ≤ 1099511627776) (us : List Un) (hok : ∀ u ∈ us, u.ok) (hC : EC (unB us)) (rest : List UInt8) (hE : s.data.toList.drop i = [60, 33, 45, 45] ++ (unB us ++ 45 :: 45 :: 62 :: rest)) (hl : out.length ≤ 1099511627776) :
    Calls Tryz.prog 40 #[.pointer (some ⟨b, 0, none⟩)] w fun e w' => e = .returned (.tuple #[]) ∧ Sc B b s (i + 4 + (unB us).length + 3) [] (out ++ textTok txt ++ [tok0 5 (unV us)]) w' ∧ Went B w w' := by
  have hil : i + 4 ≤ s.size := by
    rcases at_take hE with h | h
    · exact h
    · cases h
  have hBw := h.base
  have hst := starts_val (s := s) (what := ⟨#[45, 45]⟩) (X := ⟨#[45, 45]⟩) (i := i + 2) rfl (by rw [← List.drop_drop, hE]; rfl) (by show i + 2 + 2 ≤ s.size; omega)
  have hc := fun W => starts_any s ⟨#[45, 45]⟩ (i + 2) W hs (by decide) (by omega)
  rw [hst, show decide (lowS ⟨#[45, 45]⟩ = lowS ⟨#[45, 45]⟩) = true from by simp] at hc
  obtain ⟨z1, z2, z3, z4, z5⟩ := set_at h 0
  have hE2 : s.data.toList.drop (i + 4) = unB us ++ 45 :: 45 :: 62 :: rest := by rw [← List.drop_drop, hE]; rfl
  have hw1 : IntKind.i64.wrap ((i : Int) + 2) = ((i + 2 : Nat) : Int) := by
    simp [IntKind.wrap, IntKind.signed, IntKind.bits]
    omega
  have hw2 : IntKind.i64.wrap (((i + 2 : Nat) : Int) + 2) = ((i + 4 : Nat) : Int) := by
    simp [IntKind.wrap, IntKind.signed, IntKind.bits]
    omega
  have HH := Lib.hid (And.intro h (And.intro hE2 (And.intro hok hC)))
  clear h z4 z5 z2 hst hE hE2 hok hC
  go_enter Tryz.func40, Tryz.ntmps40
  go_wp2_with (first
    | (go_at_call 57; go_must (refine (hc _).mono ?_; rintro e w1 ⟨rfl, hb1⟩))
    | (go_at_call 58; fail))
  refine (comment_any B b i (i + 4) s txt out w1 (HH.out.1.keep hb1) hs us HH.out.2.2.1 HH.out.2.2.2 rest HH.out.2.1 hl).mono ?_
  rintro e w2 ⟨rfl, hs2, hg2⟩
  have H2 := Lib.hid (And.intro hs2 ((Went.of_below hb1 hBw).trans hg2))
  clear hs2 hg2 hb1 hc
  go_wp2_with fail
  first | go_end0 | refine bodyPost_ret (results_none rfl _ _ _) rfl ?_
  exact ⟨rfl, H2.out⟩

/-- '<!DOCTYPE html>' -/
def docB : List UInt8 := [60, 33, 68, 79, 67, 84, 89, 80, 69, 32, 104, 116, 109, 108, 62]
def htmlB : List UInt8 := [104, 116, 109, 108]

theorem trimmed_html (w : World) : Calls Tryz.prog 31 #[.string ⟨#[32, 104, 116, 109, 108]⟩] w fun e w' => e = .returned (.string ⟨#[104, 116, 109, 108]⟩) ∧ Drawn0 w w' :=
  spec_trimmed.calls 10 _ _ w (by kernel_rfl)

set_option maxHeartbeats 1000000 in
set_option maxRecDepth 100000 in
theorem declared_doctype (B b i : Nat) (s : ByteArray) (txt : List UInt8) (out : List S52) (w : World) (h : Sc B b s i txt out w) (hs : s.size ≤ 1099511627776) (rest : List UInt8) (hE : s.data.toList.drop i = docB ++ rest) (hl : out.length ≤ 1099511627776) :
    Calls Tryz.prog 40 #[.pointer (some ⟨b, 0, none⟩)] w fun e w' => e = .returned (.tuple #[]) ∧ Sc B b s (i + 15) [] (out ++ textTok txt ++ [tok0 6 htmlB]) w' ∧ Went B w w' := by
  have hil : i + 15 ≤ s.size := by
    rcases at_take hE with h | h
    · exact h
    · cases h
  have hBw := h.base
  have e2 : s.data.toList.length = s.size := (Lib.size_eq _).symm
  have hst1 := starts_val (s := s) (what := ⟨#[45, 45]⟩) (X := ⟨#[68, 79]⟩) (i := i + 2) rfl (by rw [← List.drop_drop, hE]; rfl) (by show i + 2 + 2 ≤ s.size; omega)
  have hst2 := starts_val (s := s) (what := ⟨#[100, 111, 99, 116, 121, 112, 101]⟩) (X := ⟨#[68, 79, 67, 84, 89, 80, 69]⟩) (i := i + 2) rfl (by rw [← List.drop_drop, hE]; rfl) (by show i + 2 + 7 ≤ s.size; omega)
  have hc1 := fun W => starts_any s ⟨#[45, 45]⟩ (i + 2) W hs (by decide) (by omega)
  have hc2 := fun W => starts_any s ⟨#[100, 111, 99, 116, 121, 112, 101]⟩ (i + 2) W hs (by decide) (by omega)
  rw [hst1, show decide (lowS ⟨#[68, 79]⟩ = lowS ⟨#[45, 45]⟩) = false from by
    refine decide_eq_false fun h => ?_
    have := congrArg (fun x : ByteArray => x.data.toList) h
    simp only [lowS_data] at this
    exact absurd this (by decide)] at hc1
  rw [hst2, show decide (lowS ⟨#[68, 79, 67, 84, 89, 80, 69]⟩ = lowS ⟨#[100, 111, 99, 116, 121, 112, 101]⟩) = true from by
    refine decide_eq_true (str_ext ?_)
    simp only [lowS_data]
    decide] at hc2
  have hget : ∀ p : Nat, p < 15 → s.data.toList[i + p]? = docB[p]? := fun p hp => by
    rw [← List.getElem?_drop, hE, List.getElem?_append_left (by show p < 15; exact hp)]
  obtain ⟨r1, hf1, hk1⟩ := find_any s ⟨#[62]⟩ hs (by decide) (i + 2) (by omega)
  have hr1 : r1 = i + 14 := by
    refine find_at hf1 (by omega) (by rw [e2]; show i + 14 + 1 ≤ s.size; omega) ?_ (fun q q1 q2 ho => ?_)
    · unfold occ
      rw [← List.drop_drop, hE]
      rfl
    · obtain ⟨p, rfl⟩ : ∃ p, q = i + p := ⟨q - i, by omega⟩
      have h1 := occ_get ho (j := 0) (c := 62) rfl
      rw [Nat.add_zero, hget p (by omega)] at h1
      have : ∀ p : Fin 14, docB[(p : Nat)]? ≠ some 62 := by decide
      exact this ⟨p, by omega⟩ h1
  subst hr1
  have hx : s.extract (i + 9) (i + 14) = ⟨#[32, 104, 116, 109, 108]⟩ := str_ext (by
    rw [show i + 14 = i + 9 + 5 from rfl, extract_take, ← List.drop_drop, hE]
    rfl)
  have hu := fun W => unescaped_any ⟨#[104, 116, 109, 108]⟩ [.byte 104, .byte 116, .byte 109, .byte 108] rfl (by
    intro u hu
    simp only [List.mem_cons, List.mem_nil_iff, or_false] at hu
    rcases hu with rfl | rfl | rfl | rfl <;> simp [Un.ok]) false W (by decide)
  have z3 := (set_at h 0).2.2.1
  have z1 := (set_at h 0).1
  have w1e : IntKind.i64.wrap ((i : Int) + 2) = ((i + 2 : Nat) : Int) := by
    simp [IntKind.wrap, IntKind.signed, IntKind.bits]
    omega
  have w2e : IntKind.i64.wrap (((i + 2 : Nat) : Int) + 7) = ((i + 9 : Nat) : Int) := by
    simp [IntKind.wrap, IntKind.signed, IntKind.bits]
    omega
  have w3e : IntKind.i64.wrap (((i + 14 : Nat) : Int) + 1) = ((i + 15 : Nat) : Int) := by
    simp [IntKind.wrap, IntKind.signed, IntKind.bits]
    omega
  have HH := Lib.hid (And.intro h (And.intro hu hx))
  have q1 : ((i + 9 : Nat) : Int) ≤ ((i + 14 : Nat) : Int) := by omega
  have q2 : ((i + 14 : Nat) : Int) ≤ (s.size : Int) := by omega
  have q3 : ((i + 15 : Nat) : Int) ≤ (s.size : Int) := by omega
  clear h hst1 hst2 hE hget hf1 hu hx e2
  go_enter Tryz.func40, Tryz.ntmps40
  go_wp2_with (go_at_call 57; fail)
  refine (hc1 _).mono ?_
  rintro e w1 ⟨rfl, hb1⟩
  have h1 := HH.out.1.keep hb1
  have y1 := (set_at h1 0).2.2.1
  have H1 := Lib.hid (And.intro h1 hb1)
  clear h1 hb1 hc1
  go_wp2_with (go_at_call 57; fail)
  refine (hc2 _).mono ?_
  rintro e w2 ⟨rfl, hb2⟩
  have h2 := H1.out.1.keep hb2
  have y2 := (set_at h2 0).2.2.1
  have H2 := Lib.hid (And.intro h2 (H1.out.2.trans (hb2.mono H1.out.2.size)))
  clear h2 hb2 hc2
  go_wp2_with (go_at_call 25; fail)
  refine (hk1 _).mono ?_
  rintro e w3 ⟨rfl, hd3⟩
  have h3 := H2.out.1.keep hd3.below
  have y3 := (set_at h3 0).2.2.1
  have H3 := Lib.hid (And.intro h3 (H2.out.2.trans (hd3.below.mono H2.out.2.size)))
  clear h3 hd3 hk1
  go_wp2_with (go_at_call 31; fail)
  rw [HH.out.2.2]
  refine (trimmed_html _).mono ?_
  rintro e w4 ⟨rfl, hd4⟩
  have h4 := H3.out.1.keep hd4.below
  have H4 := Lib.hid (And.intro h4 (H3.out.2.trans (hd4.below.mono H3.out.2.size)))
  clear h4 hd4
  go_wp2_with (go_at_call 60; fail)
  refine (HH.out.2.1 _).mono ?_
  rintro e w5 ⟨rfl, hb5⟩
  have h5 := H4.out.1.keep hb5
  have H5 := Lib.hid (And.intro h5 (H4.out.2.trans (hb5.mono H4.out.2.size)))
  clear h5 hb5
  go_wp2_with (go_at_call 59; fail)
  refine (tell_any B b i s txt out w5 H5.out.1 (tok0 6 htmlB) none 0 0 (Kd.R_nil _ _ _ _ _) (by omega)).mono ?_
  rintro e w6 ⟨rfl, hs6, hg6⟩
  have hww := (Went.of_below H5.out.2 hBw).trans hg6
  obtain ⟨t1, t2, t3, t4, t5⟩ := set_at hs6 (i + 15)
  have H6 := Lib.hid (And.intro t4 (hww.trans t5))
  clear hs6 hg6 hww t4 t5
  go_wp2_with fail
  first | go_end0 | refine bodyPost_ret (results_none rfl _ _ _) rfl ?_
  have hmin : min ((i : Int) + 14 + 1) (s.size : Int) = ((i + 15 : Nat) : Int) := by omega
  rw [hmin]
  exact ⟨rfl, H6.out⟩

end Go.Proofs.YtpkelgekannioaaGreatDoor
