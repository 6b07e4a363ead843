/- laws.FnForest returns true at every input, and the input reads as it did. No condition. -/
import Derived.Test.YtgbeohhegckonaaRows
import Derived.Test.YtgbeohhegckonaaWorks
import Derived.Test.YtgbeohhegckonaaFits
import Derived.Test.YtgbeohhegckonaaWoods
import Derived.Test.YtgbeohhegckonaaGrown
import Derived.Test.YtgbeohhegckonaaSame
import Derived.WalkKit
import Derived.ProofKit
import Derived.OpenShut
import Derived.ReadAgain
import Derived.Deep.Matrix
import Derived.WideKeyArgs
namespace Go.Proofs.Ytgbeohhegckonaa.fnForest
open Go.ChangeShapes Go.WideShapes Go.ChangeAt Go.RowKit Go.Shelf Go.BigFrame
set_option linter.unusedSimpArgs false
set_option linter.unusedVariables false

theorem own : ownKnob Try.prog.godebug = none := by kernel_rfl

set_option maxHeartbeats 3000000 in
set_option maxRecDepth 100000 in
theorem walk (w : World) (many : Int) (hlo : -9223372036854775808 ≤ many) (hhi : many ≤ 9223372036854775807) (A : Option Addr) (cap : Nat) (rows : List (List Int)) (hA : A = none → cap = 0) (hcap : rows.length ≤ cap) (hmx : cap ≤ maxLen) (hS : ScriptAt w w.heap.size A rows) :
    Calls Try.prog 4 #[.int .i64 many, .slice A rows.length cap] w fun e w' => e = .returned (.bool true) ∧ Below w.heap.size w w' := by
  have hfit := fits6_any w w.heap.size A cap rows hcap hmx hS
  have hm : (rows.length : Int) ≤ 9223372036854775807 := by unfold maxLen at hmx; omega
  have HS := Lib.hid hS
  clear hS
  by_cases hneg : many < 0
  · go_enter Try.func4, Try.ntmps4
    go_wp2_with (first
      | (go_at_call 5; go_must (refine hfit.mono ?_; clear hfit; rintro e w' ⟨b, rfl, h⟩; obtain rfl := h.symm; cases b))
      | fail)
    all_goals go_ret
    all_goals exact ⟨rfl, Below.refl _ _⟩
  · by_cases hbig : 100 < many
    · go_enter Try.func4, Try.ntmps4
      go_wp2_with (first
        | (go_at_call 5; go_must (refine hfit.mono ?_; clear hfit; rintro e w' ⟨b, rfl, h⟩; obtain rfl := h.symm; cases b))
        | fail)
      all_goals go_ret
      all_goals exact ⟨rfl, Below.refl _ _⟩
    · by_cases hlong : (300 : Int) < rows.length
      · go_enter Try.func4, Try.ntmps4
        go_wp2_with (first
          | (go_at_call 5; go_must (refine hfit.mono ?_; clear hfit; rintro e w' ⟨b, rfl, h⟩; obtain rfl := h.symm; cases b))
          | fail)
        all_goals go_ret
        all_goals exact ⟨rfl, Below.refl _ _⟩
      · obtain ⟨mn, rfl⟩ := Int.eq_ofNat_of_zero_le (by omega : 0 ≤ many)
        have hE := woods_any w mn A cap rows hA hcap HS.out (by omega) (by omega)
        have hT := fun (w1 : World) (hb : Below w.heap.size w w1) (d : Nat) (st : Nat → Wood) => grown_any w1 mn A cap rows hA hcap ((HS.out.below hb).more hb.size) (by omega) (by omega) (d := d) (st := st)
        have hm5 : (mn : Int) ≤ 100 := by omega
        have hr5 : (rows.length : Int) ≤ 300 := by omega
        go_enter Try.func4, Try.ntmps4
        go_wp2_with fail
        refine hfit.mono ?_
        clear hfit
        rintro e w' ⟨b, rfl, h⟩
        obtain rfl := h.symm
        cases b
        · go_wp2
          go_ret
          exact ⟨rfl, Below.refl _ _⟩
        · go_wp2_with fail
          refine hE.mono ?_
          clear hE
          rintro e w1 ⟨hb1, ⟨v0, n0, rfl⟩ | ⟨v0, d, st, rfl, hd, hto, hend, hcrop0⟩⟩
          · have HB := Lib.hid hb1
            clear hb1 hT
            go_wp2_with fail
            go_ret
            exact ⟨rfl, HB.out⟩
          · have hT1 := hT w1 hb1 d st hd hto hend
            have hok := hto.ok d (Nat.le_refl _)
            clear hT hto hend
            obtain ⟨f, hf⟩ : ∃ f, st d = f := ⟨_, rfl⟩
            rw [hf] at hT1 hcrop0 hok
            clear hf
            go_wp2_with fail
            refine hT1.mono ?_
            clear hT1
            rintro e w2 ⟨v1, rfl, hb2, hcrop1⟩
            have hb12 : Below w.heap.size w w2 := hb1.trans (hb2.mono hb1.size)
            have hcrop2 := hcrop0.below hb2
            obtain ⟨A0, c0, rfl, q0, z0⟩ := hcrop2.form
            obtain ⟨A1, c1, rfl, q1, z1⟩ := hcrop1.form
            have HC := Lib.hid (And.intro hcrop1 (And.intro hcrop2 hb12))
            clear hcrop0 hcrop1 hcrop2 hb1 hb2 hb12
            go_wp2_with fail
            go_loopg [10, 11, 12, 54] mn (fun g s10 s11 s12 s54 wx => ∃ k : Nat, k + g = mn ∧ s54 = .int .i64 k ∧ Below w2.heap.size w2 wx)
            case atStart => exact ⟨0, by omega, rfl, Below.refl _ _⟩
            case round =>
              obtain ⟨k, hg, rfl, hbw⟩ := hrel
              by_cases hk : k < mn
              · obtain ⟨g0, rfl, hg0⟩ := z0 (by omega)
                obtain ⟨g1, rfl, hg1⟩ := z1 (by omega)
                obtain ⟨cc1, hl1, hn1, hx1⟩ := (HC.out.1.below hbw).cells hk
                obtain ⟨cc0, hl0, hn0, hx0⟩ := (HC.out.2.1.below hbw).cells hk
                obtain ⟨vk1, va1, vb1, up, rfl, hch1, wk1, wa1, wb1⟩ := hl1
                obtain ⟨vk0, va0, vb0, up0, rfl, hch0, wk0, wa0, wb0⟩ := hl0
                obtain rfl : up0 = up := chain_unique hch0 hch1
                obtain ⟨X1, x1, rfl, wkl1, _, _⟩ := own_form wk1
                obtain ⟨Y1, y1, rfl, wal1, _, _⟩ := own_form wa1
                obtain ⟨Z1, z1, rfl, wbl1, _, _⟩ := own_form wb1
                obtain ⟨X0, x0, rfl, wkl0, _, _⟩ := own_form wk0
                obtain ⟨Y0, y0, rfl, wal0, _, _⟩ := own_form wa0
                obtain ⟨Z0, z0, rfl, wbl0, _, _⟩ := own_form wb0
                have hkm : (k : Int) < (mn : Int) := by omega
                have p10 := hx1 0 (by decide)
                have p00 := hx0 0 (by decide)
                have p11 := hx1 1 (by decide)
                have p01 := hx0 1 (by decide)
                have p12 := hx1 2 (by decide)
                have p02 := hx0 2 (by decide)
                have p13 := hx1 3 (by decide)
                have p03 := hx0 3 (by decide)
                have p14 := hx1 4 (by decide)
                have p04 := hx0 4 (by decide)
                have p15 := hx1 5 (by decide)
                have p05 := hx0 5 (by decide)
                have p16 := hx1 6 (by decide)
                have p06 := hx0 6 (by decide)
                have p17 := hx1 7 (by decide)
                have p07 := hx0 7 (by decide)
                simp only [List.getElem?_cons_zero, List.getElem?_cons_succ, Nat.add_zero] at p10 p11 p12 p13 p14 p15 p16 p17 p00 p01 p02 p03 p04 p05 p06 p07
                obtain ⟨P0, hP0⟩ : ∃ P, lab (f.par k) = P := ⟨_, rfl⟩
                rw [hP0] at p10 p00
                obtain ⟨P1, hP1⟩ : ∃ P, lab (prevOf f k) = P := ⟨_, rfl⟩
                rw [hP1] at p11 p01
                obtain ⟨P2, hP2⟩ : ∃ P, lab (nextOf f k) = P := ⟨_, rfl⟩
                rw [hP2] at p12 p02
                obtain ⟨P3, hP3⟩ : ∃ P, lab ((f.kids k).head?) = P := ⟨_, rfl⟩
                rw [hP3] at p13 p03
                obtain ⟨P4, hP4⟩ : ∃ P, lab ((f.kids k).getLast?) = P := ⟨_, rfl⟩
                rw [hP4] at p14 p04
                obtain ⟨ul, hul, hull, _, _⟩ := hok.above k
                have hupl : up0.length ≤ 101 := by
                  rw [← chain_unique hul hch0]
                  omega
                have hkl := hok.kids_len k
                have hbl := hok.below_len mn k
                have hbl2 : mn * (mn + 1) ≤ 100 * 101 := Nat.mul_le_mul (by omega) (by omega)
                have hsame := fun {Aa Bb : Option Addr} {ca cb : Nat} (l : List Nat) (ha : wr.ownsRow 0 9 1 (.slice Aa l.length ca) l.length (strsV (l.map decS))) (hb : wr.ownsRow 0 9 1 (.slice Bb l.length cb) l.length (strsV (l.map decS))) (h1 : l.length ≤ 20000) (h2 : l.length ≤ ca) (h3 : l.length ≤ cb) (W : World) (hW : Below wr.heap.size wr W) => by
                  have h := sameWords_any W (A := Aa) (B := Bb) (c := ca) (d := cb) (l.map decS) (((Lies.of_own_any ha _ _ _ rfl).below hW).more hW.size) (((Lies.of_own_any hb _ _ _ rfl).below hW).more hW.size) (by simpa using h1) (by simpa using h2) (by simpa using h3)
                  rw [List.length_map] at h
                  exact h
                have hWk := hsame (f.kids k) wk1 wk0 (by omega) wkl1 wkl0
                have hWa := hsame up0 wa1 wa0 (by omega) wal1 wal0
                have hWb := hsame (descs f.kids mn k) wb1 wb0 (by omega) wbl1 wbl0
                have HB := Lib.hid hbw
                have hBs := hbw.size
                have q11 := Nat.lt_of_lt_of_le hg1 hBs
                have q00 := Nat.lt_of_lt_of_le hg0 hBs
                have r0 := fun ob => cell_alloc_old ob p00
                have r1 := fun ob => cell_alloc_old ob p01
                have r2 := fun ob => cell_alloc_old ob p02
                have r3 := fun ob => cell_alloc_old ob p03
                have r4 := fun ob => cell_alloc_old ob p04
                have r5 := fun ob => cell_alloc_old ob p05
                have r6 := fun ob => cell_alloc_old ob p06
                have r7 := fun ob => cell_alloc_old ob p07
                clear hbw hx1 hx0 hn1 hn0 hch0 hch1 wk1 wa1 wb1 wk0 wa0 wb0 hP0 hP1 hP2 hP3 hP4 hsame hul hull
                go_upto_region 15 with fail
                obtain ⟨Wb, hWbe⟩ : ∃ Wb, (wr.alloc (.cells #[.string P0, .string P1, .string P2, .string P3, .string P4, .slice X1 (f.kids k).length x1, .slice Y1 up0.length y1, .slice Z1 (descs f.kids mn k).length z1] 37)).alloc (.cells #[.string P0, .string P1, .string P2, .string P3, .string P4, .slice X0 (f.kids k).length x0, .slice Y0 up0.length y0, .slice Z0 (descs f.kids mn k).length z0] 38) = Wb := ⟨_, rfl⟩
                have hb11 : Wb.heap[wr.heap.size]? = some (.cells #[.string P0, .string P1, .string P2, .string P3, .string P4, .slice X1 (f.kids k).length x1, .slice Y1 up0.length y1, .slice Z1 (descs f.kids mn k).length z1] 37 (0, 0)) := by
                  rw [← hWbe]
                  exact (Below.heap_alloc _ _ _ (by simp)).trans (heap_alloc_new wr _)
                have hb12 : Wb.heap[wr.heap.size + 1]? = some (.cells #[.string P0, .string P1, .string P2, .string P3, .string P4, .slice X0 (f.kids k).length x0, .slice Y0 up0.length y0, .slice Z0 (descs f.kids mn k).length z0] 38 (0, 0)) := by
                  rw [← hWbe]
                  have := heap_alloc_new (wr.alloc (.cells #[.string P0, .string P1, .string P2, .string P3, .string P4, .slice X1 (f.kids k).length x1, .slice Y1 up0.length y1, .slice Z1 (descs f.kids mn k).length z1] 37)) (.cells #[.string P0, .string P1, .string P2, .string P3, .string P4, .slice X0 (f.kids k).length x0, .slice Y0 up0.length y0, .slice Z0 (descs f.kids mn k).length z0] 38)
                  rw [World.size_alloc] at this
                  exact this
                have hbB : Below wr.heap.size wr Wb := by
                  rw [← hWbe]
                  exact ((Below.refl _ wr).alloc (Nat.le_refl _) _).alloc (by simp) _
                have e10 : Wb.cell? ⟨wr.heap.size, 0, none⟩ = _ := cell_of_row Wb _ 0 _ _ _ hb11
                have e00 : Wb.cell? ⟨wr.heap.size + 1, 0, none⟩ = _ := cell_of_row Wb _ 0 _ _ _ hb12
                have e11 : Wb.cell? ⟨wr.heap.size, 1, none⟩ = _ := cell_of_row Wb _ 1 _ _ _ hb11
                have e01 : Wb.cell? ⟨wr.heap.size + 1, 1, none⟩ = _ := cell_of_row Wb _ 1 _ _ _ hb12
                have e12 : Wb.cell? ⟨wr.heap.size, 2, none⟩ = _ := cell_of_row Wb _ 2 _ _ _ hb11
                have e02 : Wb.cell? ⟨wr.heap.size + 1, 2, none⟩ = _ := cell_of_row Wb _ 2 _ _ _ hb12
                have e13 : Wb.cell? ⟨wr.heap.size, 3, none⟩ = _ := cell_of_row Wb _ 3 _ _ _ hb11
                have e03 : Wb.cell? ⟨wr.heap.size + 1, 3, none⟩ = _ := cell_of_row Wb _ 3 _ _ _ hb12
                have e14 : Wb.cell? ⟨wr.heap.size, 4, none⟩ = _ := cell_of_row Wb _ 4 _ _ _ hb11
                have e04 : Wb.cell? ⟨wr.heap.size + 1, 4, none⟩ = _ := cell_of_row Wb _ 4 _ _ _ hb12
                have e15 : Wb.cell? ⟨wr.heap.size, 5, none⟩ = _ := cell_of_row Wb _ 5 _ _ _ hb11
                have e05 : Wb.cell? ⟨wr.heap.size + 1, 5, none⟩ = _ := cell_of_row Wb _ 5 _ _ _ hb12
                have e16 : Wb.cell? ⟨wr.heap.size, 6, none⟩ = _ := cell_of_row Wb _ 6 _ _ _ hb11
                have e06 : Wb.cell? ⟨wr.heap.size + 1, 6, none⟩ = _ := cell_of_row Wb _ 6 _ _ _ hb12
                have e17 : Wb.cell? ⟨wr.heap.size, 7, none⟩ = _ := cell_of_row Wb _ 7 _ _ _ hb11
                have e07 : Wb.cell? ⟨wr.heap.size + 1, 7, none⟩ = _ := cell_of_row Wb _ 7 _ _ _ hb12
                simp only [List.getElem?_toArray, List.getElem?_cons_zero, List.getElem?_cons_succ] at e10 e00 e11 e01 e12 e02 e13 e03 e14 e04 e15 e05 e16 e06 e17 e07
                rw [hWbe]
                have hB2 := Lib.hid (HB.out.trans (hbB.mono hBs))
                clear hWbe hb11 hb12 r0 r1 r2 r3 r4 r5 r6 r7 p10 p11 p12 p13 p14 p15 p16 p17 p00 p01 p02 p03 p04 p05 p06 p07
                by_cases hdl : d < rows.length
                · have hdl' : (d : Int) < (rows.length : Int) := by omega
                  go_wp2_with (first
                    | (go_at_call 8; go_must (refine (works_any _).mono ?_; rintro e w3 ⟨rfl, hb3⟩))
                    | fail)
                  go_ret
                  exact ⟨rfl, HC.out.2.2.trans ((hB2.out.trans (hb3.mono hB2.out.size)).mono HC.out.2.2.size)⟩
                · have hdl' : ¬ (d : Int) < (rows.length : Int) := by omega
                  go_wp2_with (first
                    | (go_at_call 11; refine (hWk _ (by first | exact hbB | exact below_drawn hbB _ | exact below_drawn (below_drawn hbB _) _)).mono ?_; clear hWk; rintro e w3 ⟨rfl, m1, rfl⟩)
                    | (go_at_call 11; refine (hWa _ (by first | exact hbB | exact below_drawn hbB _ | exact below_drawn (below_drawn hbB _) _)).mono ?_; clear hWa; rintro e w4 ⟨rfl, m2, rfl⟩)
                    | (go_at_call 11; refine (hWb _ (by first | exact hbB | exact below_drawn hbB _ | exact below_drawn (below_drawn hbB _) _)).mono ?_; clear hWb; rintro e w5 ⟨rfl, m3, rfl⟩)
                    | fail)
                  go_roundg (mn - (k + 1))
                  case measure => omega
                  case rel => exact ⟨k + 1, by omega, by go_num, below_drawn hB2.out _⟩
              · have HB := Lib.hid hbw
                clear hbw
                go_wp2_with (first
                  | (go_at_call 8; go_must (refine (works_any _).mono ?_; rintro e w3 ⟨rfl, hb3⟩))
                  | fail)
                go_ret
                exact ⟨rfl, HC.out.2.2.trans ((HB.out.trans (hb3.mono HB.out.size)).mono HC.out.2.2.size)⟩

theorem cells40 : Try.prog.cellsOf 40 = 1 := by kernel_rfl
theorem cells3 : Try.prog.cellsOf 3 = 1 := by kernel_rfl
theorem laidOut : laidOutB Try.prog = true := by kernel_rfl
theorem wf_range {x : Int} (h : (Lit.int .i64 x).wf = true) : -9223372036854775808 ≤ x ∧ x ≤ 9223372036854775807 := by
  have h1 : (decide (IntKind.min .i64 ≤ x) && decide (x ≤ IntKind.max .i64)) = true := h
  rw [Bool.and_eq_true, decide_eq_true_eq, decide_eq_true_eq] at h1
  exact h1

/-- The script as the row's reader opens it. -/
theorem script_open {H : Type} {enc : TypeId × Value → H} {W : World} {v : Value} {d : DataW H} {ps : List MemPlace} (h : DataW.Trod enc Try.prog W 0 (fun _ => true) true 22 v d ps) (hv : ∃ a len cap, v = .slice a len cap) :
    ∃ A cap rows, v = .slice A (rows.length) cap ∧ (A = none → cap = 0) ∧ rows.length ≤ cap ∧ cap ≤ maxLen ∧ ScriptAt W W.heap.size A rows := by
  obtain ⟨a0, len, cap, rfl⟩ := hv
  obtain ⟨fuel, hf⟩ := h
  rcases Go.Deep.open_int_rows Try.underlying22 Try.underlying40 Try.underlying3 cells40 cells3 hf with ⟨hcs, hx⟩ | ⟨a, len', cap', A, L, C, Z, hcs, _, hl, hm, hx, hrows⟩
  · simp [Value.cells] at hcs
    obtain ⟨rfl, rfl, rfl⟩ := hcs
    exact ⟨none, 0, [], rfl, fun _ => rfl, Nat.le_refl _, Nat.zero_le _, .inl rfl⟩
  · simp [Value.cells] at hcs
    obtain ⟨rfl, rfl, rfl⟩ := hcs
    refine ⟨some a, cap, (List.range len).map fun r => (Z r).take (L r), by simp, (fun h => by cases h), by simpa using hl, hm, ?_⟩
    have blk : ∀ (b : Addr) (v : Value), W.cell? b = some v → b.block < W.heap.size := fun b v h => World.block_lt_of_cell? _ _ h
    by_cases h0 : len = 0
    · exact .inl (by rw [h0]; rfl)
    · have hb := blk _ _ (hrows 0 (by omega)).1
      rw [block_add] at hb
      refine .inr ⟨a, rfl, hb, fun r xs hr => ?_⟩
      have hrl : r < len := by
        have := (List.getElem?_eq_some_iff.1 hr).1
        simpa using this
      have hxs : (Z r).take (L r) = xs := by
        rw [List.getElem?_map, List.getElem?_range hrl] at hr
        exact Option.some.inj hr
      obtain ⟨hc, hLC, hCm, hZ, hwf, hA0, hcells⟩ := hrows r (by omega)
      have hlen : xs.length = L r := by rw [← hxs, List.length_take]; omega
      refine ⟨A r, C r, by rw [hlen]; exact hc, ?_, by omega, hCm, hA0, fun x hx => ?_⟩
      · rcases Nat.eq_zero_or_pos (L r) with h1 | h1
        · exact .inl (by rw [List.map_eq_nil_iff]; exact List.eq_nil_of_length_eq_zero (by omega))
        · cases hAr : A r with
          | none => have := hA0 hAr; omega
          | some a' =>
            obtain ⟨_, hcell⟩ := hcells a' hAr
            have hb' := blk _ _ (hcell 0 (by omega))
            rw [block_add] at hb'
            refine .inr ⟨a', rfl, hb', fun j u hu => ?_⟩
            rw [List.getElem?_map] at hu
            obtain ⟨y, hy, rfl⟩ := Option.map_eq_some_iff.1 hu
            have hj : j < L r := by have := (List.getElem?_eq_some_iff.1 hy).1; omega
            rw [hcell j (by omega)]
            rw [← hxs, List.getElem?_take, if_pos hj] at hy
            simp [hy]
      · exact wf_range (hwf x (List.mem_of_mem_take (by rw [hxs]; exact hx)))

/-! ### THE ROW's STEP -/
set_option maxRecDepth 100000 in
theorem lifted (os : Os) (started : os.Started) (H : Type) (enc : TypeId × Value → H) :
    ReturnsInHanded {} Try.checked os 4 .any (Rows.fnForestSpec.pre6 enc Try.prog Try.f4 Rows.fnForestRow.domain false) (Rows.fnForestSpec.post enc Try.prog Try.f4 false true false false) := by
  refine returnsInHanded_of_change (C := Try.checked) own started (by kernel_rfl) Try.func4
    (ChangeSpec.witness6 (enc := enc) (C := Try.checked) false ⟨#[], #[.int .i64 0, .slice none 0 0], []⟩ 8 (by kernel_rfl) (by kernel_rfl) (by kernel_rfl) (by kernel_rfl)) ?_
  intro W base args ds gs before hval0 hW hcnd _
  have hval : ∀ (j : Nat) t v, Try.f4.params[j]? = some t → args[j]? = some v → Value.okWide Try.prog W .any base t v := hval0
  have hW' := hW
  obtain ⟨p, q, hA0, hV, rfl, hfz, hnd⟩ := hW
  have hA : DataW.TrodAll enc Try.prog W 0 (fun _ => true) true Try.f4.params.toList args.toList ds p := hA0
  rw [Try.params4] at hA hval
  obtain ⟨v0, vs0, d0, ds0, p0, q0, hargs, rfl, rfl, h0, r0⟩ := trodAll_cons hA
  obtain ⟨v1, vs1, d1, ds1, p1, q1, rfl, rfl, rfl, h1, r1⟩ := trodAll_cons r0
  obtain ⟨rfl, rfl, rfl⟩ := trodAll_nil r1
  obtain rfl : args = #[v0, v1] := by cases args; simp_all
  obtain ⟨rfl, rfl⟩ := trodVars_none hV
  obtain ⟨n0, rfl, rfl, rfl, w0⟩ := open_int Try.underlying3 (hval 0 3 v0 rfl rfl) h0
  have h1k := h1
  obtain ⟨A, cap, rows, rfl, hA1, hA2, hA3, hS⟩ := script_open h1 (okWide_slice Try.underlying22 (hval 1 22 v1 rfl rfl))
  clear hA0 hval0
  simp only [List.append_nil, List.nil_append] at hW'
  have hlt : ∀ x ∈ p1, x.block < W.heap.size := fun x hx => hW'.lt x hx
  have hw0 : -9223372036854775808 ≤ n0 ∧ n0 ≤ 9223372036854775807 := wf_range w0
  refine (walk W n0 hw0.1 hw0.2 A cap rows hA1 hA2 hA3 hS).mono fun e W' ⟨he, hg⟩ => ?_
  subst he
  exact ⟨_, rfl, post_of_below (pa := p1) (pv := []) hW' (fun _ _ _ => (trodAll_cons_mk (shut_bool Try.underlying4 _) trodAll_mk0))
    (fun sp hsp => by
      have h2 := WideElems.Trod_stays laidOut (by kernel_rfl) (of_decide_eq_true (by kernel_rfl)) (W' := W') (sp' := sp) h1k (fun x hx => hg.same (hlt x hx)) (fun x hx => hsp x hx)
      have := trodAll_cons_mk (shut_int (enc := enc) (P := Try.prog) (w := W') (base := 0) (spare := sp) (held := true) Try.underlying3 w0) (trodAll_cons_mk h2 trodAll_mk0)
      rw [List.append_nil, List.nil_append] at this
      exact this)
    (fun _ _ => rfl) (by simp) hg (ok_one (by kernel_rfl) rfl (okWide_bool_mk Try.underlying4 _))⟩

theorem over : Rows.fnForestRow.holds Try.pinned (OpenSpec.ofChange Rows.fnForestSpec) :=
  OpenClaim.holds_of_wide 4 Try.f4 rfl rfl rfl rfl rfl rfl rfl ⟨rfl, rfl, rfl, rfl, rfl⟩ rfl rfl rfl rfl rfl (by kernel_rfl) Try.func4 (by kernel_rfl)
    (of_decide_eq_true (by kernel_rfl)) (by unfold Func.isWrapper; first | (rw [if_pos (by decide +kernel)]; kernel_rfl) | (rw [if_neg (by decide +kernel)]; exact ⟨rfl, rfl⟩))
    (fun os started H enc _ => lifted os started H enc)

/-- The statement. -/
theorem proved : Rows.FnForestSaid :=
  over
#print axioms proved
end Go.Proofs.Ytgbeohhegckonaa.fnForest
