import Derived.Test.YtgbeohhegckonaaRows
import Derived.Test.YtgbeohhegckonaaWorks
import Derived.Test.YtgbeohhegckonaaFits
import Derived.Test.YtgbeohhegckonaaEdit
import Derived.WalkKit
import Derived.ProofKit
import Derived.OpenShut
import Derived.ReadAgain
import Derived.Deep.Matrix
import Derived.WideKeyArgs
namespace Go.Proofs.Ytgbeohhegckonaa.fnEdit
open Go.ChangeShapes Go.WideShapes Go.ChangeAt Go.RowKit Go.Shelf Go.BigFrame
set_option linter.unusedVariables false

theorem own : ownKnob Try.prog.godebug = none := by kernel_rfl

set_option maxHeartbeats 4000000 in
set_option maxRecDepth 100000 in
theorem walk (w : World) (many : Int) (hlo : -9223372036854775808 ≤ many) (hhi : many ≤ 9223372036854775807) (A : Option Addr) (cap : Nat) (rows : List (List Int)) (hA : A = none → cap = 0) (hcap : rows.length ≤ cap) (hmx : cap ≤ maxLen) (hS : ScriptAt w w.heap.size A rows) :
    Calls Try.prog 3 #[.int .i64 many, .slice A rows.length cap] w fun e w' => e = .returned (.bool true) ∧ Below w.heap.size w w' := by
  have hfit := fits6_any w w.heap.size A cap rows hcap hmx hS
  have hm : (rows.length : Int) ≤ 9223372036854775807 := by unfold maxLen at hmx; omega
  have HS := Lib.hid hS
  clear hS
  by_cases hneg : many < 0
  · go_enter Try.func3, Try.ntmps3
    go_wp2_with (first
      | (go_at_call 5; go_must (refine hfit.mono ?_; clear hfit; rintro e w' ⟨b, rfl, h⟩; obtain rfl := h.symm; cases b))
      | fail)
    all_goals go_ret
    all_goals exact ⟨rfl, Below.refl _ _⟩
  · by_cases hbig : 500 < many
    · go_enter Try.func3, Try.ntmps3
      go_wp2_with (first
        | (go_at_call 5; go_must (refine hfit.mono ?_; clear hfit; rintro e w' ⟨b, rfl, h⟩; obtain rfl := h.symm; cases b))
        | fail)
      all_goals go_ret
      all_goals exact ⟨rfl, Below.refl _ _⟩
    · by_cases hlong : (500 : Int) < rows.length
      · go_enter Try.func3, Try.ntmps3
        go_wp2_with (first
          | (go_at_call 5; go_must (refine hfit.mono ?_; clear hfit; rintro e w' ⟨b, rfl, h⟩; obtain rfl := h.symm; cases b))
          | fail)
        all_goals go_ret
        all_goals exact ⟨rfl, Below.refl _ _⟩
      · obtain ⟨mn, rfl⟩ := Int.eq_ofNat_of_zero_le (by omega : 0 ≤ many)
        have hE := edited_any w mn A cap rows hA hcap HS.out (by omega) (by omega)
        have hT := fun (w1 : World) (hb : Below w.heap.size w w1) => edit_any w1 mn A cap rows hA hcap ((HS.out.below hb).more hb.size) (by omega) (by omega)
        have hL := played_len mn rows
        have hm5 : (mn : Int) ≤ 500 := by omega
        have hr5 : (rows.length : Int) ≤ 500 := by omega
        have hlen : (played mn rows).length ≤ 1000 := by omega
        obtain ⟨l, hl⟩ : ∃ l, (played mn rows).map numS = l := ⟨_, rfl⟩
        have hll : l.length = (played mn rows).length := by rw [← hl]; simp
        rw [hl] at hE hT
        rw [← hll] at hE hT hlen
        clear hL hl hll
        go_enter Try.func3, Try.ntmps3
        go_wp2_with fail
        refine hfit.mono ?_
        clear hfit
        rintro e w' ⟨b, rfl, h⟩
        obtain rfl := h.symm
        cases b
        · go_wp2
          go_ret
          exact ⟨rfl, Below.refl _ _⟩
        · go_wp2_with fail
          refine hE.mono ?_
          clear hE
          rintro e w1 ⟨v0, rfl, hown0, hb1⟩
          go_wp2_with fail
          refine (hT w1 hb1).mono ?_
          clear hT
          rintro e w2 ⟨v1, v2, v3, v4, rfl, hb2, hown1, hown2, hown3, hown4⟩
          have hb12 : Below w.heap.size w w2 := hb1.trans (hb2.mono hb1.size)
          have li0 := (Lies.of_own_any (own_below hown0 hb2))
          have li1 := Lies.of_own_any hown1
          have li2 := Lies.of_own_any hown2
          have li3 := Lies.of_own_any hown3
          have li4 := Lies.of_own_any hown4
          obtain ⟨A0, c0, rfl, q0, _, _⟩ := own_form hown0
          obtain ⟨A1, c1, rfl, q1, _, _⟩ := own_form hown1
          obtain ⟨A2, c2, rfl, q2, _, _⟩ := own_form hown2
          obtain ⟨A3, c3, rfl, q3, _, _⟩ := own_form hown3
          obtain ⟨A4, c4, rfl, q4, _, _⟩ := own_form hown4
          have HLI := Lib.hid (And.intro (li0 A0 _ c0 rfl) (And.intro (li1 A1 _ c1 rfl) (And.intro (li2 A2 _ c2 rfl) (And.intro (li3 A3 _ c3 rfl) (li4 A4 _ c4 rfl)))))
          have HB := Lib.hid hb12
          clear li0 li1 li2 li3 li4 hown0 hown1 hown2 hown3 hown4 hb1 hb2 hb12
          go_wp2_with fail
          go_loopg [65] l.length (fun g s65 wx => ∃ k : Nat, k + g = l.length ∧ s65 = .int .i64 k ∧ wx = w2)
          case atStart => exact ⟨0, by omega, rfl, rfl⟩
          case round =>
            obtain ⟨k, hg, rfl, rfl⟩ := hrel
            by_cases hk : k < l.length
            · obtain ⟨x, hx⟩ : ∃ x, l[k]? = some x := ⟨_, List.getElem?_eq_getElem hk⟩
              obtain ⟨r, hr⟩ : ∃ r : Nat, (l.length : Int) - 1 - k = r := ⟨l.length - 1 - k, by omega⟩
              have hrev : l.reverse[r]? = some x := by
                have hrn : r = l.length - 1 - k := by omega
                rw [List.getElem?_reverse (by omega), show l.length - 1 - r = k from by omega]; exact hx
              obtain ⟨a0, rfl, _, e0⟩ := HLI.out.1.at_ (k := k) (u := .string x) (by simp [hx])
              obtain ⟨a1, rfl, _, e1⟩ := HLI.out.2.1.at_ (k := k) (u := .string x) (by simp [hx])
              obtain ⟨a2, rfl, _, e2⟩ := HLI.out.2.2.1.at_ (k := r) (u := .string x) (by rw [List.getElem?_map, hrev]; rfl)
              obtain ⟨a3, rfl, _, e3⟩ := HLI.out.2.2.2.1.at_ (k := k) (u := .string x) (by simp [hx])
              obtain ⟨a4, rfl, _, e4⟩ := HLI.out.2.2.2.2.at_ (k := k) (u := .string x) (by simp [hx])
              have hrl : (r : Int) < l.length := by omega
              clear hx hrev
              go_wp2
              go_roundg (l.length - (k + 1))
              case measure => omega
              case rel => exact ⟨k + 1, by omega, by go_num, rfl⟩
            · obtain rfl : k = l.length := by omega
              go_wp2_with (first
                | (go_at_call 8; go_must (refine (works_any _).mono ?_; rintro e w3 ⟨rfl, hb3⟩))
                | fail)
              go_ret
              exact ⟨rfl, HB.out.trans (hb3.mono HB.out.size)⟩

theorem cells40 : Try.prog.cellsOf 40 = 1 := by kernel_rfl
theorem cells3 : Try.prog.cellsOf 3 = 1 := by kernel_rfl
theorem laidOut : laidOutB Try.prog = true := by kernel_rfl
theorem wf_range {x : Int} (h : (Lit.int .i64 x).wf = true) : -9223372036854775808 ≤ x ∧ x ≤ 9223372036854775807 := by
  have h1 : (decide (IntKind.min .i64 ≤ x) && decide (x ≤ IntKind.max .i64)) = true := h
  rw [Bool.and_eq_true, decide_eq_true_eq, decide_eq_true_eq] at h1
  exact h1

/-- The script as the row's reader opens it. -/
theorem script_open {H : Type} {enc : TypeId × Value → H} {W : World} {v : Value} {d : DataW H} {ps : List MemPlace} (h : DataW.Trod enc Try.prog W 0 (fun _ => true) true 22 v d ps) (hv : ∃ a len cap, v = .slice a len cap) :
    ∃ A cap rows, v = .slice A (rows.length) cap ∧ (A = none → cap = 0) ∧ rows.length ≤ cap ∧ cap ≤ maxLen ∧ ScriptAt W W.heap.size A rows := by
  obtain ⟨a0, len, cap, rfl⟩ := hv
  obtain ⟨fuel, hf⟩ := h
  rcases Go.Deep.open_int_rows Try.underlying22 Try.underlying40 Try.underlying3 cells40 cells3 hf with ⟨hcs, hx⟩ | ⟨a, len', cap', A, L, C, Z, hcs, _, hl, hm, hx, hrows⟩
  · simp [Value.cells] at hcs
    obtain ⟨rfl, rfl, rfl⟩ := hcs
    exact ⟨none, 0, [], rfl, fun _ => rfl, Nat.le_refl _, Nat.zero_le _, .inl rfl⟩
  · simp [Value.cells] at hcs
    obtain ⟨rfl, rfl, rfl⟩ := hcs
    refine ⟨some a, cap, (List.range len).map fun r => (Z r).take (L r), by simp, (fun h => by cases h), by simpa using hl, hm, ?_⟩
    have blk : ∀ (b : Addr) (v : Value), W.cell? b = some v → b.block < W.heap.size := fun b v h => World.block_lt_of_cell? _ _ h
    by_cases h0 : len = 0
    · exact .inl (by rw [h0]; rfl)
    · have hb := blk _ _ (hrows 0 (by omega)).1
      rw [block_add] at hb
      refine .inr ⟨a, rfl, hb, fun r xs hr => ?_⟩
      have hrl : r < len := by
        have := (List.getElem?_eq_some_iff.1 hr).1
        simpa using this
      have hxs : (Z r).take (L r) = xs := by
        rw [List.getElem?_map, List.getElem?_range hrl] at hr
        exact Option.some.inj hr
      obtain ⟨hc, hLC, hCm, hZ, hwf, hA0, hcells⟩ := hrows r (by omega)
      have hlen : xs.length = L r := by rw [← hxs, List.length_take]; omega
      refine ⟨A r, C r, by rw [hlen]; exact hc, ?_, by omega, hCm, hA0, fun x hx => ?_⟩
      · rcases Nat.eq_zero_or_pos (L r) with h1 | h1
        · exact .inl (by rw [List.map_eq_nil_iff]; exact List.eq_nil_of_length_eq_zero (by omega))
        · cases hAr : A r with
          | none => have := hA0 hAr; omega
          | some a' =>
            obtain ⟨_, hcell⟩ := hcells a' hAr
            have hb' := blk _ _ (hcell 0 (by omega))
            rw [block_add] at hb'
            refine .inr ⟨a', rfl, hb', fun j u hu => ?_⟩
            rw [List.getElem?_map] at hu
            obtain ⟨y, hy, rfl⟩ := Option.map_eq_some_iff.1 hu
            have hj : j < L r := by have := (List.getElem?_eq_some_iff.1 hy).1; omega
            rw [hcell j (by omega)]
            rw [← hxs, List.getElem?_take, if_pos hj] at hy
            simp [hy]
      · exact wf_range (hwf x (List.mem_of_mem_take (by rw [hxs]; exact hx)))

/-! ### THE ROW's STEP -/
set_option maxRecDepth 100000 in
theorem lifted (os : Os) (started : os.Started) (H : Type) (enc : TypeId × Value → H) :
    ReturnsInHanded {} Try.checked os 3 .any (Rows.fnEditSpec.pre6 enc Try.prog Try.f3 Rows.fnEditRow.domain false) (Rows.fnEditSpec.post enc Try.prog Try.f3 false true false false) := by
  refine returnsInHanded_of_change (C := Try.checked) own started (by kernel_rfl) Try.func3
    (ChangeSpec.witness6 (enc := enc) (C := Try.checked) false ⟨#[], #[.int .i64 0, .slice none 0 0], []⟩ 8 (by kernel_rfl) (by kernel_rfl) (by kernel_rfl) (by kernel_rfl)) ?_
  intro W base args ds gs before hval0 hW hcnd _
  have hval : ∀ (j : Nat) t v, Try.f3.params[j]? = some t → args[j]? = some v → Value.okWide Try.prog W .any base t v := hval0
  have hW' := hW
  obtain ⟨p, q, hA0, hV, rfl, hfz, hnd⟩ := hW
  have hA : DataW.TrodAll enc Try.prog W 0 (fun _ => true) true Try.f3.params.toList args.toList ds p := hA0
  rw [Try.params3] at hA hval
  obtain ⟨v0, vs0, d0, ds0, p0, q0, hargs, rfl, rfl, h0, r0⟩ := trodAll_cons hA
  obtain ⟨v1, vs1, d1, ds1, p1, q1, rfl, rfl, rfl, h1, r1⟩ := trodAll_cons r0
  obtain ⟨rfl, rfl, rfl⟩ := trodAll_nil r1
  obtain rfl : args = #[v0, v1] := by cases args; simp_all
  obtain ⟨rfl, rfl⟩ := trodVars_none hV
  obtain ⟨n0, rfl, rfl, rfl, w0⟩ := open_int Try.underlying3 (hval 0 3 v0 rfl rfl) h0
  have h1k := h1
  obtain ⟨A, cap, rows, rfl, hA1, hA2, hA3, hS⟩ := script_open h1 (okWide_slice Try.underlying22 (hval 1 22 v1 rfl rfl))
  clear hA0 hval0
  simp only [List.append_nil, List.nil_append] at hW'
  have hlt : ∀ x ∈ p1, x.block < W.heap.size := fun x hx => hW'.lt x hx
  have hw0 : -9223372036854775808 ≤ n0 ∧ n0 ≤ 9223372036854775807 := wf_range w0
  refine (walk W n0 hw0.1 hw0.2 A cap rows hA1 hA2 hA3 hS).mono fun e W' ⟨he, hg⟩ => ?_
  subst he
  exact ⟨_, rfl, post_of_below (pa := p1) (pv := []) hW' (fun _ _ _ => (trodAll_cons_mk (shut_bool Try.underlying4 _) trodAll_mk0))
    (fun sp hsp => by
      have h2 := WideElems.Trod_stays laidOut (by kernel_rfl) (of_decide_eq_true (by kernel_rfl)) (W' := W') (sp' := sp) h1k (fun x hx => hg.same (hlt x hx)) (fun x hx => hsp x hx)
      have := trodAll_cons_mk (shut_int (enc := enc) (P := Try.prog) (w := W') (base := 0) (spare := sp) (held := true) Try.underlying3 w0) (trodAll_cons_mk h2 trodAll_mk0)
      rw [List.append_nil, List.nil_append] at this
      exact this)
    (fun _ _ => rfl) (by simp) hg (ok_one (by kernel_rfl) rfl (okWide_bool_mk Try.underlying4 _))⟩

theorem over : Rows.fnEditRow.holds Try.pinned (OpenSpec.ofChange Rows.fnEditSpec) :=
  OpenClaim.holds_of_wide 3 Try.f3 rfl rfl rfl rfl rfl rfl rfl ⟨rfl, rfl, rfl, rfl, rfl⟩ rfl rfl rfl rfl rfl (by kernel_rfl) Try.func3 (by kernel_rfl)
    (of_decide_eq_true (by kernel_rfl)) (by unfold Func.isWrapper; first | (rw [if_pos (by decide +kernel)]; kernel_rfl) | (rw [if_neg (by decide +kernel)]; exact ⟨rfl, rfl⟩))
    (fun os started H enc _ => lifted os started H enc)

/-- The statement. -/
theorem proved : Rows.FnEditSaid :=
  over
#print axioms proved
end Go.Proofs.Ytgbeohhegckonaa.fnEdit
