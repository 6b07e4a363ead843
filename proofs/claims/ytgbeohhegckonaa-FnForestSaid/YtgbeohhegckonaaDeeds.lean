import Derived.Test.YtgbeohhegckonaaTurns
import Derived.Test.YtgbeohhegckonaaCuts
import Derived.Deep.CutRange
import Derived.Test.YtgbeohhegckonaaRegsLast
/-! spec.step: a step of the script at the reference's forest. -/
namespace Go.Proofs.Ytgbeohhegckonaa
open Go.RowKit Go.Shelf Go.BigFrame
set_option linter.unusedSimpArgs false
set_option linter.unusedVariables false

/-- The guard at the step's head, the row long enough. -/
def BadI (L : Nat) (s0 s1 s2 : Int) (many : Nat) : Prop :=
  s0 < 0 ∨ 2 < s0 ∨ (L : Int) ≠ 3 + s0.tmod 2 ∨ s1 < 0 ∨ (many : Int) ≤ s1 ∨ s2 < 0 ∨ (many : Int) ≤ s2
instance (L : Nat) (s0 s1 s2 : Int) (many : Nat) : Decidable (BadI L s0 s1 s2 many) := by unfold BadI; infer_instance

theorem lies_heap {w W : World} {A : Option Addr} {xs : List Value} (h : Lies w w.heap.size A xs) (hW : W.heap = w.heap) : Lies W W.heap.size A xs := by
  rcases h with h | ⟨a', h1, h2, h3⟩
  · exact .inl h
  · exact .inr ⟨a', h1, by rw [hW]; exact h2, fun j u hu => by simpa [World.cell?, hW] using h3 j u hu⟩

theorem ints_cut (l1 l2 : List Nat) (b : Nat) : (ints (l1 ++ b :: l2)).take l1.length ++ (ints (l1 ++ b :: l2)).drop (l1.length + 1) = ints (l1 ++ l2) := by
  unfold ints
  rw [← List.map_take, ← List.map_drop, ← List.map_append]
  congr 1
  have h1 : (l1 ++ b :: l2).take l1.length = l1 := List.take_left' rfl
  have h2 : (l1 ++ b :: l2).drop (l1.length + 1) = l2 := by
    rw [show l1 ++ b :: l2 = (l1 ++ [b]) ++ l2 by simp]
    exact List.drop_left' (by simp)
  rw [h1, h2]
theorem ints_put (l1 l2 : List Nat) (b : Nat) : (ints (l1 ++ l2)).take l1.length ++ (b : Int) :: (ints (l1 ++ l2)).drop l1.length = ints (l1 ++ b :: l2) := by
  unfold ints
  rw [← List.map_take, ← List.map_drop]
  have h1 : (l1 ++ l2).take l1.length = l1 := List.take_left' rfl
  have h2 : (l1 ++ l2).drop l1.length = l2 := List.drop_left' rfl
  rw [h1, h2]
  simp

theorem below_any_drawn {base : Nat} {w W : World} {m : Nat} (h : Below (w.drewN m).heap.size (w.drewN m) W) (hb : base ≤ w.heap.size) : Below base w W :=
  Below.mono ⟨h.os, h.tape, h.output, h.size, h.block⟩ hb

/-- What a step leaves. -/
def Stepped (base many : Nat) (f : Wood) (P : Nat) (Ap Ak : Option Addr) (Cp Ck : Nat) (vs : Nat → Value) (row : List Int) (w : World) : Ending → World → Prop := fun e w' =>
  Below base w w' ∧ ((e = .returned (.int .i64 2)) ∨ (e = .returned (.int .i64 1) ∧ StepW many f row .panics ∧ SpecAt base many f P Ap Ak Cp Ck vs w') ∨
    (e = .returned (.int .i64 0) ∧ ∃ f' vs', StepW many f row (.taken f') ∧ SpecAt base many f' P Ap Ak Cp Ck vs' w'))

section
variable {base many : Nat} {f : Wood} {P : Nat} {Ap Ak : Option Addr} {Cp Ck : Nat} {vs : Nat → Value} {w : World}

theorem SpecAt.store_facts {ak : Addr} (h : SpecAt base many f P Ap (some ak) Cp Ck vs w) {a : Nat} (ha : a < many) {W1 : World} (hb : Below w.heap.size w W1) :
    W1.cell? ⟨P, 1, none⟩ = some (.slice (some ak) many Ck) ∧ (∀ u, (W1.setCell (ak.add a) u).cell? ⟨P, 1, none⟩ = some (.slice (some ak) many Ck)) ∧ W1.frozen? (ak.add a) = false ∧ W1.cell? (ak.add a) = some (vs a) := by
  have h1 := h.below hb
  obtain ⟨ad, A, C, e, _, hc, hv, _⟩ := h1.kidsAt ha
  cases e
  refine ⟨h1.f1, fun u => ?_, own_frozen h1.kid a, by rw [hc, hv]⟩
  refine (World.cell?_setCell_far W1 (ak.add a) ⟨P, 1, none⟩ u ?_).trans h1.f1
  rw [block_add]
  intro e
  obtain ⟨cur, hh, _⟩ := own_addr h1.kid
  have e' : ak.block = P := e
  rw [e', h1.blk] at hh
  cases hh

set_option maxRecDepth 100000 in
set_option maxHeartbeats 400000 in
theorem step_short (g0 : w.cell? ⟨P, 0, none⟩ = some (.slice Ap many Cp)) {A : Option Addr} {L C : Nat} (h3 : decide ((L : Int) < 3) = true) :
    Calls Try.prog 21 #[.pointer (some ⟨P, 0, none⟩), .slice A L C] w fun e w' => e = .returned (.int .i64 2) ∧ ∃ m, w' = w.drewN m := by
  go_enter Try.func21, Try.ntmps21
  go_wp2_with fail
  go_quiet (fail)
  go_wp2_with fail
  go_ret
  exact ⟨rfl, _, rfl⟩

set_option maxRecDepth 100000 in
set_option maxHeartbeats 4000000 in
theorem step_long (h : SpecAt base many f P Ap Ak Cp Ck vs w) (hf : f.Ok many) (hm : many ≤ 100) {az : Addr} {C L : Nat} {row : List Int} (hlen : row.length = L) (hL3 : 3 ≤ L) (hLC : L ≤ C) (hCm : C ≤ maxLen) (hlies : Lies w w.heap.size (some az) (intsV row)) (hrange : ∀ x ∈ row, inRange x) (hbase : base ≤ w.heap.size) :
    Calls Try.prog 21 #[.pointer (some ⟨P, 0, none⟩), .slice (some az) L C] w (Stepped base many f P Ap Ak Cp Ck vs row w) := by
  obtain ⟨s0, s1, s2, rest, rfl⟩ : ∃ s0 s1 s2 rest, row = s0 :: s1 :: s2 :: rest := by
    match row, hlen with
    | [], h | [_], h | [_, _], h => simp at h; omega
    | s0 :: s1 :: s2 :: rest, _ => exact ⟨s0, s1, s2, rest, rfl⟩
  obtain ⟨_, e1, _, hcs⟩ := hlies.resolve_left (by simp)
  cases e1
  have c0 : w.cell? az = some (.int .i64 s0) := hcs 0 _ rfl
  have c1 : w.cell? ⟨az.block, az.off + 1, none⟩ = some (.int .i64 s1) := by simpa [Addr.add] using hcs 1 (.int .i64 s1) rfl
  have c2 : w.cell? ⟨az.block, az.off + 2, none⟩ = some (.int .i64 s2) := by simpa [Addr.add] using hcs 2 (.int .i64 s2) rfl
  have g0 := h.f0
  have g1 := h.f1
  have h3 : decide ((L : Int) < 3) = false := decide_eq_false (by omega)
  have l0 : (0 : Int) < (L : Int) := by omega
  have l1 : (1 : Int) < (L : Int) := by omega
  have l2 : (2 : Int) < (L : Int) := by omega
  have lm : (L : Int) ≤ 9223372036854775807 := by unfold maxLen at hCm; omega
  have HH := Lib.hid (And.intro h (And.intro hlen (And.intro hlies (And.intro hcs hrange))))
  clear h hlen hlies hcs hrange
  go_enter Try.func21, Try.ntmps21
  go_upto_region 1 with fail
  go_cut [66] from 8 to 66 (fun s66 wx => s66 = .bool (decide (BadI L s0 s1 s2 many)) ∧ ∃ m, wx = w.drewN m)
  case first =>
    have hbad : BadI L s0 s1 s2 many → decide (BadI L s0 s1 s2 many) = true := fun h => decide_eq_true h
    have HB := Lib.hid hbad
    clear HH hbad
    by_cases k0 : s0 < 0
    · have d0 : decide (s0 < 0) = true := decide_eq_true k0
      go_quiet (fail)
      go_wp2_with fail
      go_meet
      case rel => exact ⟨congrArg Value.bool (HB.out (.inl k0)).symm, _, rfl⟩
    · have d0 : decide (s0 < 0) = false := decide_eq_false k0
      have K0 := Lib.hid k0
      by_cases k1 : 2 < s0
      · have d1 : decide (2 < s0) = true := decide_eq_true k1
        clear k0
        go_quiet (fail)
        go_wp2_with fail
        go_meet
        case rel => exact ⟨congrArg Value.bool (HB.out (.inr (.inl k1))).symm, _, rfl⟩
      · have d1 : decide (2 < s0) = false := decide_eq_false k1
        have K1 := Lib.hid k1
        have t2 : IntKind.i64.wrap (3 + s0.tmod 2) = 3 + s0.tmod 2 := by
          rcases (by omega : s0 = 0 ∨ s0 = 1 ∨ s0 = 2) with rfl | rfl | rfl <;> rfl
        by_cases k2 : (L : Int) = 3 + s0.tmod 2
        · have d2 : ((L : Int) != 3 + s0.tmod 2) = false := by simp [bne, k2]
          by_cases k3 : s1 < 0
          · have d3 : decide (s1 < 0) = true := decide_eq_true k3
            clear k2
            clear k0 k1
            go_quiet (fail)
            go_wp2_with fail
            go_meet
            case rel => exact ⟨congrArg Value.bool (HB.out (.inr (.inr (.inr (.inl k3))))).symm, _, rfl⟩
          · have d3 : decide (s1 < 0) = false := decide_eq_false k3
            have K3 := Lib.hid k3
            by_cases k4 : (many : Int) ≤ s1
            · have d4 : decide ((many : Int) ≤ s1) = true := decide_eq_true k4
              clear k2
              clear k0 k1 k3
              go_quiet (fail)
              go_wp2_with fail
              go_meet
              case rel => exact ⟨congrArg Value.bool (HB.out (.inr (.inr (.inr (.inr (.inl k4)))))).symm, _, rfl⟩
            · have d4 : decide ((many : Int) ≤ s1) = false := decide_eq_false k4
              have K4 := Lib.hid k4
              by_cases k5 : s2 < 0
              · have d5 : decide (s2 < 0) = true := decide_eq_true k5
                clear k2
                clear k0 k1 k3 k4
                go_quiet (fail)
                go_wp2_with fail
                go_meet
                case rel => exact ⟨congrArg Value.bool (HB.out (.inr (.inr (.inr (.inr (.inr (.inl k5))))))).symm, _, rfl⟩
              · have d5 : decide (s2 < 0) = false := decide_eq_false k5
                have K5 := Lib.hid k5
                by_cases k6 : (many : Int) ≤ s2
                · have d6 : decide ((many : Int) ≤ s2) = true := decide_eq_true k6
                  clear k2
                  clear k0 k1 k3 k4 k5
                  go_quiet (fail)
                  go_wp2_with fail
                  go_meet
                  case rel => exact ⟨congrArg Value.bool (HB.out (.inr (.inr (.inr (.inr (.inr (.inr k6))))))).symm, _, rfl⟩
                · have d6 : decide ((many : Int) ≤ s2) = false := decide_eq_false k6
                  have K6 := Lib.hid k6
                  have hno : decide (BadI L s0 s1 s2 many) = false := decide_eq_false (by
                    rintro (h | h | h | h | h | h | h)
                    · exact k0 h
                    · exact k1 h
                    · exact h k2
                    · exact k3 h
                    · exact k4 h
                    · exact k5 h
                    · exact k6 h)
                  have HN := Lib.hid hno
                  clear k2 hno
                  clear k0 k1 k3 k4 k5 k6
                  go_quiet (fail)
                  go_wp2_with fail
                  go_meet
                  case rel => exact ⟨congrArg Value.bool HN.out.symm, _, rfl⟩
        · have d2 : ((L : Int) != 3 + s0.tmod 2) = true := by simp [bne, k2]
          clear k0 k1
          go_quiet (fail)
          go_wp2_with fail
          go_meet
          case rel => exact ⟨congrArg Value.bool (HB.out (.inr (.inr (.inl k2)))).symm, _, rfl⟩
  case rest =>
    obtain ⟨rfl, m0, rfl⟩ := hcut
    by_cases hb : BadI L s0 s1 s2 many
    · rw [decide_eq_true hb]
      go_wp2_with fail
      go_ret
      exact ⟨below_drawn (Below.refl _ _) _, .inl rfl⟩
    · rw [decide_eq_false hb]
      unfold BadI at hb
      obtain ⟨n0, n1, n2, n3, n4, n5, n6⟩ : ¬ s0 < 0 ∧ ¬ 2 < s0 ∧ (L : Int) = 3 + s0.tmod 2 ∧ ¬ s1 < 0 ∧ ¬ (many : Int) ≤ s1 ∧ ¬ s2 < 0 ∧ ¬ (many : Int) ≤ s2 := by
        simp only [not_or] at hb
        refine ⟨?_, ?_, ?_, ?_, ?_, ?_, ?_⟩ <;> first | exact hb.1 | exact hb.2.1 | (exact Classical.not_not.1 hb.2.2.1) | exact hb.2.2.2.1 | exact hb.2.2.2.2.1 | exact hb.2.2.2.2.2.1 | exact hb.2.2.2.2.2.2
      clear hb
      obtain ⟨a, rfl⟩ := Int.eq_ofNat_of_zero_le (by omega : 0 ≤ s1)
      obtain ⟨b, rfl⟩ := Int.eq_ofNat_of_zero_le (by omega : 0 ≤ s2)
      have ha : a < many := by omega
      have hb : b < many := by omega
      have q1 : (a : Int) < (many : Int) := by omega
      have q2 : (b : Int) < (many : Int) := by omega
      obtain ⟨ap, rfl, hap, hpb⟩ := HH.out.1.parent hb
      obtain ⟨ak, Aa, Ca, rfl, hak, hka, hva, hka1, hka2, hka3, hkl⟩ := HH.out.1.kidsAt ha
      have hcap := HH.out.1.caps
      have hkl100 := hf.kids_len a
      go_upto_region 3 with fail
      go_cut [5, 6] from 8 to 190 (fun s5 s6 wx => s5 = .int .i64 a ∧ s6 = .int .i64 b ∧ ∃ m, wx = w.drewN m)
      case first =>
        go_quiet (fail)
        go_wp2_with fail
        go_meet
        case rel => exact ⟨rfl, rfl, _, rfl⟩
      case rest =>
        obtain ⟨rfl, rfl, m1, rfl⟩ := hcut
        by_cases h2 : s0 = 2
        · subst h2
          have hL : L = 3 := by have : (2 : Int).tmod 2 = 0 := rfl; omega
          subst hL
          have hrest : rest = [] := by have := HH.out.2.1; simpa using this
          subst hrest
          by_cases hpar : f.par b = some a
          · obtain ⟨l1, l2, hk, hb1, hb2⟩ := hf.split hpar
            rw [hpar] at hpb
            simp only [enc] at hpb
            have hll : (f.kids a).length = l1.length + 1 + l2.length := by rw [hk]; simp; omega
            have hpl : place (ints (f.kids a)) b = some l1.length := by rw [hk]; exact place_ints hb1
            have hI := fun (W : World) (hW : Below w.heap.size w W) => index_any W Aa (f.kids a).length Ca (ints (f.kids a)) ((hkl.below hW).more hW.size) (ints_len _) hka1 (by omega) (b : Int)
            rw [hpl] at hI
            simp only [enc] at hI
            obtain ⟨aa, rfl, _⟩ := hkl.at_ (k := l1.length) (u := .int .i64 b) (by simp [ints, hk])
            have hW := fun (W : World) (hW : Below w.heap.size w W) => without_any W aa (f.kids a).length Ca (ints (f.kids a)) ((hkl.below hW).more hW.size) (ints_len _) hka1 hka2 l1.length (by omega) (by omega)
            obtain ⟨x0, hx0⟩ : ∃ x, (f.kids a).length = x := ⟨_, rfl⟩
            obtain ⟨x1, hx1⟩ : ∃ x, l1.length = x := ⟨_, rfl⟩
            rw [hx0, hx1] at hI hW
            rw [hx0] at hka hka1
            have HK := Lib.hid (And.intro hk (And.intro hpar (And.intro hkl (And.intro hva (And.intro hx0 (And.intro hx1 hll))))))
            clear hk hpar hkl hva hpl hx0 hx1 hll
            have hPlt := lt_of_block HH.out.1.blk
            go_upto_region 7 with fail
            have hbw0 : Below w.heap.size w (w.drewN m1).drew := below_drawn (below_drawn (Below.refl _ _) m1) 1
            refine wp_region_last 23 (by kernel_rfl) rfl (fun w' => Below w.heap.size w w') (fun w1 w2 => Below w1.heap.size w1 w2) (fun k v w' => match k with
              | 0 | 1 | 5 | 6 | 12 | 13 => v = .pointer (some ⟨P, 0, none⟩)
              | 2 | 7 | 14 => v = .pointer (some ⟨P, 1, none⟩)
              | 3 | 8 | 15 => v = .slice (some ak) many Ck
              | 4 | 9 | 16 => v = .int .i64 a
              | 10 | 17 | 22 => v = .pointer (some (ak.add a))
              | 11 | 18 => v = .slice (some aa) x0 Ca
              | 19 => v = .int .i64 b
              | 20 => v = .int .i64 x1
              | 21 => w'.ownsRow w.heap.size 3 1 v (x0 - 1) (intsV ((ints (f.kids a)).take x1 ++ (ints (f.kids a)).drop (x1 + 1)))
              | _ => False) ?_ (by kernel_rfl) hbw0 ?_ ?_
            · intro k v w1 w2 he hr
              match k, hr with
              | 0, hr | 1, hr | 2, hr | 3, hr | 4, hr | 5, hr | 6, hr | 7, hr | 8, hr | 9, hr | 10, hr | 11, hr | 12, hr | 13, hr | 14, hr | 15, hr | 16, hr | 17, hr | 18, hr | 19, hr | 20, hr | 22, hr => exact hr
              | 21, hr => exact ownN_below hr he
            · simp only [List.take_succ_cons, List.take_zero, TableOps]
              refine ⟨⟨trivial, ?_⟩, ⟨trivial, ?_⟩, ⟨trivial, ?_⟩, ⟨trivial, ?_⟩, ⟨trivial, ?_⟩, ⟨trivial, ?_⟩, ⟨trivial, ?_⟩, ⟨trivial, ?_⟩, ⟨trivial, ?_⟩, ⟨trivial, ?_⟩, ⟨trivial, ?_⟩, ⟨trivial, ?_⟩, ⟨trivial, ?_⟩, ⟨trivial, ?_⟩, ⟨trivial, ?_⟩, ⟨trivial, ?_⟩, ⟨trivial, ?_⟩, ⟨trivial, ?_⟩, ⟨trivial, ?_⟩, ⟨trivial, ?_⟩, ⟨trivial, ?_⟩, ⟨trivial, ?_⟩, ⟨trivial, ?_⟩, trivial⟩
              all_goals
                intro a' w' hS hD hF hdep
                clear hD
                have f0 := hF 0 (by kernel_rfl)
                have f5 := hF 5 (by kernel_rfl)
                have f6 := hF 6 (by kernel_rfl)
                clear hF
                simp [Region.binds, Holds] at hdep f0 f5 f6
                have k1 := (hS.cell (p := ⟨P, 1, none⟩) hPlt).trans g1
                have k2 := (hS.cell (p := ak.add a) (by rw [block_add]; exact hak)).trans hka
              rotate_left 20
              · simp [Oper.wp, execOp, Act.eval, hdep, go_sem]
                refine (hI w' hS).mono ?_
                rintro e w'' ⟨rfl, h⟩
                obtain rfl := h.symm
                exact ⟨_, rfl, hS, Below.refl _ _, rfl⟩
              · simp [Oper.wp, execOp, Act.eval, hdep, go_sem]
                refine (hW w' hS).mono ?_
                rintro e w'' ⟨v, rfl, hown, hbb⟩
                exact ⟨_, rfl, hS.trans (hbb.mono hS.size), hbb, by simpa [intsV] using ownN_mono hown hS.size⟩
              all_goals
                clear HH HK
                simp [Oper.wp, execOp, Act.eval, hdep, f0, f5, f6, go_sem, Below.refl, hS, k1, k2, q1]
            · intro val W1 hS hall
              have r21 := hall 21 (by decide)
              have r22 : val 22 = .pointer (some (ak.add a)) := hall 22 (by decide)
              have hS' : Below w.heap.size w W1 := hS
              have hsp := HH.out.1
              have hsf := SpecAt.store_facts hsp ha hS'
              have kf := hsf.2.2.1
              have kc := hsf.2.2.2
              simp only [List.take_succ_cons, List.take_zero, putAll, List.setIfInBounds_toArray, List.set_cons_zero, List.set_cons_succ]
              rw [r22]
              obtain ⟨Av, Cv, hv1, _⟩ := own_form r21
              rw [hv1]
              simp [Oper.wp, execOp, Act.eval, go_sem, kf, kc, Exit.then]
              obtain ⟨W2, hW2⟩ : ∃ W2, W1.setCell (ak.add a) (.slice Av (x0 - 1) Cv) = W2 := ⟨_, rfl⟩
              rw [hW2]
              have hsp2 : SpecAt base many ⟨f.par, setL f.kids a (l1 ++ l2)⟩ P (some ap) (some ak) Cp Ck (fun p => if p = a then val 21 else vs p) W2 := by
                obtain ⟨hk, hpar, hkl, hva, hx0, hx1, hll⟩ := HK.out
                rw [← hW2, ← hv1]
                refine (hsp.below hS').setKids ha ?_ (hsp.fresh r21 (Nat.le_refl _))
                refine ownN_mono ?_ hbase
                have e1 : (ints (f.kids a)).take x1 ++ (ints (f.kids a)).drop (x1 + 1) = ints (l1 ++ l2) := by rw [hk, ← hx1]; exact ints_cut l1 l2 b
                have e2 : x0 - 1 = (l1 ++ l2).length := by rw [← hx0, hll]; simp
                have h21 : W1.ownsRow w.heap.size 3 1 (val 21) (x0 - 1) (intsV ((ints (f.kids a)).take x1 ++ (ints (f.kids a)).drop (x1 + 1))) := r21
                rw [e1, e2] at h21
                exact h21
              have m0 := hsp2.f0
              obtain ⟨_, ea, _, m1⟩ := hsp2.parent hb
              cases ea
              have m2 := own_frozen hsp2.par b
              have hbw2 : Below base w W2 := by
                rw [← hW2]
                exact (hS'.mono hbase).setCell (by rw [block_add]; exact (own_addr hsp.kid).choose_spec.2) _
              have HS2 := Lib.hid (And.intro hsp2 hbw2)
              clear hsp2 hbw2 r21 r22 hall hS hS' hsp hsf
              go_wp2_with fail
              go_ret
              exact ⟨below_set HS2.out.2 (by rw [block_add]; exact (own_addr HH.out.1.par).choose_spec.2) _, .inr (.inr ⟨rfl, _, _, .remove a b l1 l2 ha hb HK.out.1, HS2.out.1.setPar hb none⟩)⟩
          · have hne : (enc (f.par b) == (a : Int)) = false := by
              cases hq : f.par b with
              | none => simp [enc]
              | some q =>
                have : q ≠ a := fun e => hpar (by rw [hq, e])
                simp [enc]; omega
            obtain ⟨ep, hep⟩ : ∃ x, enc (f.par b) = x := ⟨_, rfl⟩
            rw [hep] at hne hpb
            have hne2 : (ep != (a : Int)) = true := by simp [bne, hne]
            have HP := Lib.hid hep
            clear hep
            go_wp2_with fail
            go_ret
            exact ⟨below_drawn (Below.refl _ _) _, .inr (.inl ⟨rfl, .strange a b ha hb hpar, HH.out.1.below (below_drawn (Below.refl _ _) _)⟩)⟩
        · have hs01 : s0 = 0 ∨ s0 = 1 := by omega
          have hs2 : (s0 == 2) = false := by simp [h2]
          cases hpar : f.par b with
          | some q =>
            rw [hpar] at hpb
            simp only [enc] at hpb
            have hq2 : ((q : Int) == -1) = false := by simp
            have hq3 : ((q : Int) != -1) = true := by simp
            have hst : StepW many f (s0 :: (a : Int) :: (b : Int) :: rest) .panics := by
              have hl := HH.out.2.1
              simp only [List.length_cons] at hl
              rcases hs01 with rfl | rfl
              · have : (0 : Int).tmod 2 = 0 := rfl
                have hr : rest = [] := List.eq_nil_of_length_eq_zero (by omega)
                rw [hr]
                exact .held0 a b ha hb (by rw [hpar]; simp)
              · have : (1 : Int).tmod 2 = 1 := rfl
                obtain ⟨c, hr⟩ : ∃ c, rest = [c] := List.length_eq_one_iff.1 (by omega)
                rw [hr]
                exact .held1 a b c ha hb (by rw [hpar]; simp)
            have HP := Lib.hid hst
            clear hst hs01
            go_wp2_with fail
            go_ret
            exact ⟨below_drawn (Below.refl _ _) _, .inr (.inl ⟨rfl, HP.out, HH.out.1.below (below_drawn (Below.refl _ _) _)⟩)⟩
          | none =>
            rw [hpar] at hpb
            simp only [enc] at hpb
            obtain ⟨up, hup, hul, hult, _⟩ := hf.above a
            have hll := HH.out.2.1
            simp only [List.length_cons] at hll
            rcases hs01 with rfl | rfl
            · have : (0 : Int).tmod 2 = 0 := rfl
              have hr : rest = [] := List.eq_nil_of_length_eq_zero (by omega)
              subst hr
              obtain ⟨i, hi⟩ : ∃ i, i = (f.kids a).length := ⟨_, rfl⟩
              have hil : i ≤ (f.kids a).length := by omega
              obtain ⟨l1, l2, hk, hil2, hst⟩ : ∃ l1 l2, f.kids a = l1 ++ l2 ∧ i = l1.length ∧ (a ≠ b → b ∉ up → StepW many f [0, (a : Int), (b : Int)] (.taken ⟨setP f.par b (some a), setL f.kids a (l1 ++ b :: l2)⟩)) :=
                ⟨f.kids a, [], by simp, hi, fun h1 h2 => .append a b up ha hb hpar h1 hup h2⟩
              have hwit : f.kids a = l1 ++ l2 ∧ i = l1.length := ⟨hk, hil2⟩
              have hstep := hst
              clear hk hil2 hst
              have hI1 := fun (W : World) (hW : Below w.heap.size w W) => above_any (HH.out.1.below hW) hm ha hup hul hult
              have hW := fun (W : World) (hW : Below w.heap.size w W) => with_any W Aa (f.kids a).length Ca (ints (f.kids a)) ((hkl.below hW).more hW.size) (ints_len _) hka3 hka1 hka2 i hil b (by omega)
              have hPlt := lt_of_block HH.out.1.blk
              obtain ⟨x0, hx0⟩ : ∃ x, (f.kids a).length = x := ⟨_, rfl⟩
              rw [hx0] at hW hka hka1
              have hix : i = x0 := by omega
              subst hix
              have hi1 : ((i : Int) == -1) = false := by simp
              have HK := Lib.hid (And.intro hup (And.intro hkl (And.intro hva (And.intro hx0 (And.intro hstep hwit)))))
              have hul2 : up.length ≤ 101 := by omega
              clear hup hkl hva hx0 hstep hwit hka3
              by_cases hab : a = b
              · subst hab
                go_wp2_with fail
                go_ret
                exact ⟨below_drawn (Below.refl _ _) _, .inl rfl⟩
              · have hab2 : ((a : Int) == (b : Int)) = false := by simp; omega
                by_cases hbu : b ∈ up
                · obtain ⟨q, hq⟩ : ∃ q, place (ints up) b = some q := by
                    have : (b : Int) ∈ ints up := List.mem_map.2 ⟨b, hbu, rfl⟩
                    exact ⟨_, by unfold place; rw [if_pos this]⟩
                  have hq1 : ((q : Int) == -1) = false := by simp
                  have hq2 : ((q : Int) != -1) = true := by simp
                  go_wp2_with (first
                    | (go_at_call 25; go_must (refine (hI1 _ (below_drawn (Below.refl _ w) _)).mono ?_; clear hI1; rintro e W1 ⟨v1, rfl, hown1, hb1⟩; obtain ⟨Au, Cu, hv1, hu1, _, _⟩ := own_form hown1; subst hv1; have hI2 := index_any W1 Au up.length Cu (ints up) (Lies.of_own_any hown1 _ _ _ rfl) (ints_len _) hu1 (by omega) (b : Int); rw [hq] at hI2; simp only [enc] at hI2; have HB1 := Lib.hid (show Below w.heap.size w W1 from ⟨hb1.os, hb1.tape, hb1.output, hb1.size, hb1.block⟩); clear hown1 hb1))
                    | (go_at_call 37; go_must (refine hI2.mono ?_; clear hI2; rintro e w' ⟨rfl, hw'⟩; obtain rfl := hw'.symm))
                    | fail)
                  go_ret
                  exact ⟨HB1.out.mono hbase, .inl rfl⟩
                · have hq : place (ints up) b = none := place_none (ints_not hbu)
                  go_upto_region 17 with (first
                    | (go_at_call 25; go_must (refine (hI1 _ (below_drawn (Below.refl _ w) _)).mono ?_; clear hI1; rintro e W1 ⟨v1, rfl, hown1, hb1⟩; obtain ⟨Au, Cu, hv1, hu1, _, _⟩ := own_form hown1; subst hv1; have hI2 := index_any W1 Au up.length Cu (ints up) (Lies.of_own_any hown1 _ _ _ rfl) (ints_len _) hu1 (by omega) (b : Int); rw [hq] at hI2; simp only [enc] at hI2; have hbW1 : Below w.heap.size w W1 := ⟨hb1.os, hb1.tape, hb1.output, hb1.size, hb1.block⟩; clear hown1 hb1))
                    | (go_at_call 37; go_must (refine hI2.mono ?_; clear hI2; rintro e w' ⟨rfl, hw'⟩; obtain rfl := hw'.symm))
                    | fail)
                  refine wp_region_last 16 (by kernel_rfl) rfl (fun w' => Below w.heap.size w w') (fun w1 w2 => Below w1.heap.size w1 w2) (fun k v w' => match k with
                    | 0 | 1 | 5 | 6 => v = .pointer (some ⟨P, 0, none⟩)
                    | 2 | 7 => v = .pointer (some ⟨P, 1, none⟩)
                    | 3 | 8 => v = .slice (some ak) many Ck
                    | 4 | 9 => v = .int .i64 a
                    | 10 | 15 => v = .pointer (some (ak.add a))
                    | 11 => v = .slice Aa i Ca
                    | 12 => v = .int .i64 i
                    | 13 => v = .int .i64 b
                    | 14 => w'.ownsRow w.heap.size 3 1 v (i + 1) (intsV ((ints (f.kids a)).take i ++ (b : Int) :: (ints (f.kids a)).drop i))
                    | _ => False) ?_ (by kernel_rfl) (below_drawn hbW1 1) ?_ ?_
                  · intro k v w1 w2 he hr
                    match k, hr with
                    | 0, hr | 1, hr | 2, hr | 3, hr | 4, hr | 5, hr | 6, hr | 7, hr | 8, hr | 9, hr | 10, hr | 11, hr | 12, hr | 13, hr | 15, hr => exact hr
                    | 14, hr => exact ownN_below hr he
                  · simp only [List.take_succ_cons, List.take_zero, TableOps]
                    refine ⟨⟨trivial, ?_⟩, ⟨trivial, ?_⟩, ⟨trivial, ?_⟩, ⟨trivial, ?_⟩, ⟨trivial, ?_⟩, ⟨trivial, ?_⟩, ⟨trivial, ?_⟩, ⟨trivial, ?_⟩, ⟨trivial, ?_⟩, ⟨trivial, ?_⟩, ⟨trivial, ?_⟩, ⟨trivial, ?_⟩, ⟨trivial, ?_⟩, ⟨trivial, ?_⟩, ⟨trivial, ?_⟩, ⟨trivial, ?_⟩, trivial⟩
                    all_goals
                      intro a' w' hS hD hF hdep
                      clear hD
                      have f0 := hF 0 (by kernel_rfl)
                      have f5 := hF 5 (by kernel_rfl)
                      have f6 := hF 6 (by kernel_rfl)
                      have f7 := hF 7 (by kernel_rfl)
                      clear hF
                      simp [Region.binds, Holds] at hdep f0 f5 f6 f7
                      have k1 := (hS.cell (p := ⟨P, 1, none⟩) hPlt).trans g1
                      have k2 := (hS.cell (p := ak.add a) (by rw [block_add]; exact hak)).trans hka
                    rotate_left 14
                    · simp [Oper.wp, execOp, Act.eval, hdep, go_sem]
                      refine (hW w' hS).mono ?_
                      rintro e w'' ⟨v, rfl, hown, hbb⟩
                      exact ⟨_, rfl, hS.trans (hbb.mono hS.size), hbb, by simpa [intsV] using ownN_mono hown hS.size⟩
                    all_goals
                      clear HH HK
                      simp [Oper.wp, execOp, Act.eval, hdep, f0, f5, f6, f7, go_sem, Below.refl, hS, k1, k2, q1]
                      try rw [← hi]
                  · intro val W2 hS hall
                    have r14 := hall 14 (by decide)
                    have r15 : val 15 = .pointer (some (ak.add a)) := hall 15 (by decide)
                    have hS' : Below w.heap.size w W2 := hS
                    have hsp := HH.out.1
                    have hsf := SpecAt.store_facts hsp ha hS'
                    have kf := hsf.2.2.1
                    have kc := hsf.2.2.2
                    simp only [List.take_succ_cons, List.take_zero, putAll, List.setIfInBounds_toArray, List.set_cons_zero, List.set_cons_succ]
                    rw [r15]
                    obtain ⟨Av, Cv, hv1, _⟩ := own_form r14
                    rw [hv1]
                    simp [Oper.wp, execOp, Act.eval, go_sem, kf, kc, Exit.then]
                    obtain ⟨W3, hW3⟩ : ∃ W3, W2.setCell (ak.add a) (.slice Av (i + 1) Cv) = W3 := ⟨_, rfl⟩
                    rw [hW3]
                    have hsp2 : SpecAt base many ⟨f.par, setL f.kids a (l1 ++ b :: l2)⟩ P (some ap) (some ak) Cp Ck (fun p => if p = a then val 14 else vs p) W3 := by
                      obtain ⟨_, hkl, hva, hx0, _, hk, hil2⟩ := HK.out
                      rw [← hW3, ← hv1]
                      refine (hsp.below hS').setKids ha ?_ (hsp.fresh r14 (Nat.le_refl _))
                      refine ownN_mono ?_ hbase
                      have e1 : (ints (f.kids a)).take i ++ (b : Int) :: (ints (f.kids a)).drop i = ints (l1 ++ b :: l2) := by rw [hk, hil2]; exact ints_put l1 l2 b
                      have e2 : i + 1 = (l1 ++ b :: l2).length := by rw [← hx0, hk]; simp; omega
                      have h14 : W2.ownsRow w.heap.size 3 1 (val 14) (i + 1) (intsV ((ints (f.kids a)).take i ++ (b : Int) :: (ints (f.kids a)).drop i)) := r14
                      rw [e1, e2] at h14
                      exact h14
                    have m0 := hsp2.f0
                    obtain ⟨_, ea, _, m1⟩ := hsp2.parent hb
                    cases ea
                    have m2 := own_frozen hsp2.par b
                    have hbw2 : Below base w W3 := by
                      rw [← hW3]
                      exact (hS'.mono hbase).setCell (by rw [block_add]; exact (own_addr hsp.kid).choose_spec.2) _
                    have HS2 := Lib.hid (And.intro hsp2 hbw2)
                    clear hsp2 hbw2 r14 r15 hall hS hS' hsp hsf
                    go_wp2_with fail
                    go_ret
                    exact ⟨below_set HS2.out.2 (by rw [block_add]; exact (own_addr HH.out.1.par).choose_spec.2) _, .inr (.inr ⟨rfl, _, _, HK.out.2.2.2.2.1 hab hbu, HS2.out.1.setPar hb (some a)⟩)⟩
            · have : (1 : Int).tmod 2 = 1 := rfl
              obtain ⟨c, hr⟩ : ∃ c, rest = [c] := List.length_eq_one_iff.1 (by omega)
              subst hr
              have c3 : w.cell? ⟨az.block, az.off + 3, none⟩ = some (.int .i64 c) := by simpa [Addr.add] using HH.out.2.2.2.1 3 (.int .i64 c) rfl
              have l3 : (3 : Int) < (L : Int) := by omega
              by_cases hc : c < 0
              · have hc2 : decide (c < 0) = true := decide_eq_true hc
                have hc3 : decide (0 ≤ c) = false := decide_eq_false (by omega)
                obtain ⟨i, hi⟩ : ∃ i, i = (f.kids a).length := ⟨_, rfl⟩
                have hil : i ≤ (f.kids a).length := by omega
                obtain ⟨l1, l2, hk, hil2, hst⟩ : ∃ l1 l2, f.kids a = l1 ++ l2 ∧ i = l1.length ∧ (a ≠ b → b ∉ up → StepW many f [1, (a : Int), (b : Int), c] (.taken ⟨setP f.par b (some a), setL f.kids a (l1 ++ b :: l2)⟩)) :=
                  ⟨f.kids a, [], by simp, hi, fun h1 h2 => .last a b c up ha hb hc hpar h1 hup h2⟩
                have hwit : f.kids a = l1 ++ l2 ∧ i = l1.length := ⟨hk, hil2⟩
                have hstep := hst
                clear hk hil2 hst
                have hI1 := fun (W : World) (hW : Below w.heap.size w W) => above_any (HH.out.1.below hW) hm ha hup hul hult
                have hW := fun (W : World) (hW : Below w.heap.size w W) => with_any W Aa (f.kids a).length Ca (ints (f.kids a)) ((hkl.below hW).more hW.size) (ints_len _) hka3 hka1 hka2 i hil b (by omega)
                have hPlt := lt_of_block HH.out.1.blk
                obtain ⟨x0, hx0⟩ : ∃ x, (f.kids a).length = x := ⟨_, rfl⟩
                rw [hx0] at hW hka hka1
                have hix : i = x0 := by omega
                subst hix
                have hi1 : ((i : Int) == -1) = false := by simp
                have HK := Lib.hid (And.intro hup (And.intro hkl (And.intro hva (And.intro hx0 (And.intro hstep hwit)))))
                have hul2 : up.length ≤ 101 := by omega
                clear hup hkl hva hx0 hstep hwit hka3
                by_cases hab : a = b
                · subst hab
                  go_wp2_with fail
                  go_ret
                  exact ⟨below_drawn (Below.refl _ _) _, .inl rfl⟩
                · have hab2 : ((a : Int) == (b : Int)) = false := by simp; omega
                  by_cases hbu : b ∈ up
                  · obtain ⟨q, hq⟩ : ∃ q, place (ints up) b = some q := by
                      have : (b : Int) ∈ ints up := List.mem_map.2 ⟨b, hbu, rfl⟩
                      exact ⟨_, by unfold place; rw [if_pos this]⟩
                    have hq1 : ((q : Int) == -1) = false := by simp
                    have hq2 : ((q : Int) != -1) = true := by simp
                    go_wp2_with (first
                      | (go_at_call 25; go_must (refine (hI1 _ (below_drawn (Below.refl _ w) _)).mono ?_; clear hI1; rintro e W1 ⟨v1, rfl, hown1, hb1⟩; obtain ⟨Au, Cu, hv1, hu1, _, _⟩ := own_form hown1; subst hv1; have hI2 := index_any W1 Au up.length Cu (ints up) (Lies.of_own_any hown1 _ _ _ rfl) (ints_len _) hu1 (by omega) (b : Int); rw [hq] at hI2; simp only [enc] at hI2; have HB1 := Lib.hid (show Below w.heap.size w W1 from ⟨hb1.os, hb1.tape, hb1.output, hb1.size, hb1.block⟩); clear hown1 hb1))
                      | (go_at_call 37; go_must (refine hI2.mono ?_; clear hI2; rintro e w' ⟨rfl, hw'⟩; obtain rfl := hw'.symm))
                      | fail)
                    go_ret
                    exact ⟨HB1.out.mono hbase, .inl rfl⟩
                  · have hq : place (ints up) b = none := place_none (ints_not hbu)
                    go_upto_region 17 with (first
                      | (go_at_call 25; go_must (refine (hI1 _ (below_drawn (Below.refl _ w) _)).mono ?_; clear hI1; rintro e W1 ⟨v1, rfl, hown1, hb1⟩; obtain ⟨Au, Cu, hv1, hu1, _, _⟩ := own_form hown1; subst hv1; have hI2 := index_any W1 Au up.length Cu (ints up) (Lies.of_own_any hown1 _ _ _ rfl) (ints_len _) hu1 (by omega) (b : Int); rw [hq] at hI2; simp only [enc] at hI2; have hbW1 : Below w.heap.size w W1 := ⟨hb1.os, hb1.tape, hb1.output, hb1.size, hb1.block⟩; clear hown1 hb1))
                      | (go_at_call 37; go_must (refine hI2.mono ?_; clear hI2; rintro e w' ⟨rfl, hw'⟩; obtain rfl := hw'.symm))
                      | fail)
                    refine wp_region_last 16 (by kernel_rfl) rfl (fun w' => Below w.heap.size w w') (fun w1 w2 => Below w1.heap.size w1 w2) (fun k v w' => match k with
                      | 0 | 1 | 5 | 6 => v = .pointer (some ⟨P, 0, none⟩)
                      | 2 | 7 => v = .pointer (some ⟨P, 1, none⟩)
                      | 3 | 8 => v = .slice (some ak) many Ck
                      | 4 | 9 => v = .int .i64 a
                      | 10 | 15 => v = .pointer (some (ak.add a))
                      | 11 => v = .slice Aa i Ca
                      | 12 => v = .int .i64 i
                      | 13 => v = .int .i64 b
                      | 14 => w'.ownsRow w.heap.size 3 1 v (i + 1) (intsV ((ints (f.kids a)).take i ++ (b : Int) :: (ints (f.kids a)).drop i))
                      | _ => False) ?_ (by kernel_rfl) (below_drawn hbW1 1) ?_ ?_
                    · intro k v w1 w2 he hr
                      match k, hr with
                      | 0, hr | 1, hr | 2, hr | 3, hr | 4, hr | 5, hr | 6, hr | 7, hr | 8, hr | 9, hr | 10, hr | 11, hr | 12, hr | 13, hr | 15, hr => exact hr
                      | 14, hr => exact ownN_below hr he
                    · simp only [List.take_succ_cons, List.take_zero, TableOps]
                      refine ⟨⟨trivial, ?_⟩, ⟨trivial, ?_⟩, ⟨trivial, ?_⟩, ⟨trivial, ?_⟩, ⟨trivial, ?_⟩, ⟨trivial, ?_⟩, ⟨trivial, ?_⟩, ⟨trivial, ?_⟩, ⟨trivial, ?_⟩, ⟨trivial, ?_⟩, ⟨trivial, ?_⟩, ⟨trivial, ?_⟩, ⟨trivial, ?_⟩, ⟨trivial, ?_⟩, ⟨trivial, ?_⟩, ⟨trivial, ?_⟩, trivial⟩
                      all_goals
                        intro a' w' hS hD hF hdep
                        clear hD
                        have f0 := hF 0 (by kernel_rfl)
                        have f5 := hF 5 (by kernel_rfl)
                        have f6 := hF 6 (by kernel_rfl)
                        have f7 := hF 7 (by kernel_rfl)
                        clear hF
                        simp [Region.binds, Holds] at hdep f0 f5 f6 f7
                        have k1 := (hS.cell (p := ⟨P, 1, none⟩) hPlt).trans g1
                        have k2 := (hS.cell (p := ak.add a) (by rw [block_add]; exact hak)).trans hka
                      rotate_left 14
                      · simp [Oper.wp, execOp, Act.eval, hdep, go_sem]
                        refine (hW w' hS).mono ?_
                        rintro e w'' ⟨v, rfl, hown, hbb⟩
                        exact ⟨_, rfl, hS.trans (hbb.mono hS.size), hbb, by simpa [intsV] using ownN_mono hown hS.size⟩
                      all_goals
                        clear HH HK
                        simp [Oper.wp, execOp, Act.eval, hdep, f0, f5, f6, f7, go_sem, Below.refl, hS, k1, k2, q1]
                        try rw [← hi]
                    · intro val W2 hS hall
                      have r14 := hall 14 (by decide)
                      have r15 : val 15 = .pointer (some (ak.add a)) := hall 15 (by decide)
                      have hS' : Below w.heap.size w W2 := hS
                      have hsp := HH.out.1
                      have hsf := SpecAt.store_facts hsp ha hS'
                      have kf := hsf.2.2.1
                      have kc := hsf.2.2.2
                      simp only [List.take_succ_cons, List.take_zero, putAll, List.setIfInBounds_toArray, List.set_cons_zero, List.set_cons_succ]
                      rw [r15]
                      obtain ⟨Av, Cv, hv1, _⟩ := own_form r14
                      rw [hv1]
                      simp [Oper.wp, execOp, Act.eval, go_sem, kf, kc, Exit.then]
                      obtain ⟨W3, hW3⟩ : ∃ W3, W2.setCell (ak.add a) (.slice Av (i + 1) Cv) = W3 := ⟨_, rfl⟩
                      rw [hW3]
                      have hsp2 : SpecAt base many ⟨f.par, setL f.kids a (l1 ++ b :: l2)⟩ P (some ap) (some ak) Cp Ck (fun p => if p = a then val 14 else vs p) W3 := by
                        obtain ⟨_, hkl, hva, hx0, _, hk, hil2⟩ := HK.out
                        rw [← hW3, ← hv1]
                        refine (hsp.below hS').setKids ha ?_ (hsp.fresh r14 (Nat.le_refl _))
                        refine ownN_mono ?_ hbase
                        have e1 : (ints (f.kids a)).take i ++ (b : Int) :: (ints (f.kids a)).drop i = ints (l1 ++ b :: l2) := by rw [hk, hil2]; exact ints_put l1 l2 b
                        have e2 : i + 1 = (l1 ++ b :: l2).length := by rw [← hx0, hk]; simp; omega
                        have h14 : W2.ownsRow w.heap.size 3 1 (val 14) (i + 1) (intsV ((ints (f.kids a)).take i ++ (b : Int) :: (ints (f.kids a)).drop i)) := r14
                        rw [e1, e2] at h14
                        exact h14
                      have m0 := hsp2.f0
                      obtain ⟨_, ea, _, m1⟩ := hsp2.parent hb
                      cases ea
                      have m2 := own_frozen hsp2.par b
                      have hbw2 : Below base w W3 := by
                        rw [← hW3]
                        exact (hS'.mono hbase).setCell (by rw [block_add]; exact (own_addr hsp.kid).choose_spec.2) _
                      have HS2 := Lib.hid (And.intro hsp2 hbw2)
                      clear hsp2 hbw2 r14 r15 hall hS hS' hsp hsf
                      go_wp2_with fail
                      go_ret
                      exact ⟨below_set HS2.out.2 (by rw [block_add]; exact (own_addr HH.out.1.par).choose_spec.2) _, .inr (.inr ⟨rfl, _, _, HK.out.2.2.2.2.1 hab hbu, HS2.out.1.setPar hb (some a)⟩)⟩
              · have hc0 : (0 : Int) ≤ c := by omega
                have hI0 := fun (W : World) (hW : Below w.heap.size w W) => index_any W Aa (f.kids a).length Ca (ints (f.kids a)) ((hkl.below hW).more hW.size) (ints_len _) hka1 (by omega) c
                cases hpl : place (ints (f.kids a)) c with
                | none =>
                  rw [hpl] at hI0
                  simp only [enc] at hI0
                  have HZ := Lib.hid (And.intro hkl (And.intro hva hpl))
                  clear hkl hva hpl
                  go_upto_region 14 with fail
                  obtain ⟨Wm, hWm⟩ : ∃ Wm, w.drewN m1 = Wm := ⟨_, rfl⟩
                  have hBm : Below w.heap.size w Wm := by rw [← hWm]; exact below_drawn (Below.refl _ w) m1
                  rw [hWm]
                  have y1 : Wm.cell? ⟨P, 1, none⟩ = some (.slice (some ak) many Ck) := by rw [← hWm]; exact g1
                  have y2 : Wm.cell? (ak.add a) = some (.slice Aa (f.kids a).length Ca) := by rw [← hWm]; exact hka
                  have y3 : Wm.cell? ⟨az.block, az.off + 3, none⟩ = some (.int .i64 c) := by rw [← hWm]; exact c3
                  have hI0' := fun n => hI0 (Wm.drewN n) (below_drawn hBm n)
                  go_quiet ((go_at_call 37; refine Calls.quiet_of_same (hI0' _)))
                  go_wp2_with fail
                  go_ret
                  exact ⟨(below_drawn hBm _).mono hbase, .inl rfl⟩
                | some i =>
                  rw [hpl] at hI0
                  simp only [enc] at hI0
                  obtain ⟨hil0, hic⟩ := place_some hpl
                  rw [ints_len] at hil0
                  have hil : i ≤ (f.kids a).length := by omega
                  obtain ⟨l1, l2, hk, hil2, hst⟩ : ∃ l1 l2, f.kids a = l1 ++ l2 ∧ i = l1.length ∧ (a ≠ b → b ∉ up → StepW many f [1, (a : Int), (b : Int), c] (.taken ⟨setP f.par b (some a), setL f.kids a (l1 ++ b :: l2)⟩)) := by
                    obtain ⟨x, hx⟩ : ∃ x, (f.kids a)[i]? = some x := ⟨_, List.getElem?_eq_getElem hil0⟩
                    have hcx : c = (x : Int) := by
                      have : (ints (f.kids a))[i]? = some (x : Int) := by simp [ints, hx]
                      rw [this] at hic
                      exact (Option.some.inj hic).symm
                    have hsp : f.kids a = (f.kids a).take i ++ x :: (f.kids a).drop (i + 1) := by
                      have h1 := (List.getElem?_eq_some_iff.1 hx).2
                      rw [← h1]
                      simp
                    refine ⟨(f.kids a).take i, x :: (f.kids a).drop (i + 1), hsp, by simp; omega, fun h1 h2 => ?_⟩
                    rw [hcx]
                    exact .insert a b x _ _ up ha hb hpar h1 hup h2 hsp
                  have hwit : f.kids a = l1 ++ l2 ∧ i = l1.length := ⟨hk, hil2⟩
                  have hstep := hst
                  have HWIT := Lib.hid hwit
                  clear hk hil2 hst hpl hil0 hic hwit
                  go_upto_region 14 with fail
                  obtain ⟨Wm, hWm⟩ : ∃ Wm, w.drewN m1 = Wm := ⟨_, rfl⟩
                  have hBm : Below w.heap.size w Wm := by rw [← hWm]; exact below_drawn (Below.refl _ w) m1
                  rw [hWm]
                  have y1 : Wm.cell? ⟨P, 1, none⟩ = some (.slice (some ak) many Ck) := by rw [← hWm]; exact g1
                  have y2 : Wm.cell? (ak.add a) = some (.slice Aa (f.kids a).length Ca) := by rw [← hWm]; exact hka
                  have y3 : Wm.cell? ⟨az.block, az.off + 3, none⟩ = some (.int .i64 c) := by rw [← hWm]; exact c3
                  have hI0' := fun n => hI0 (Wm.drewN n) (below_drawn hBm n)
                  go_quiet ((go_at_call 37; refine Calls.quiet_of_same (hI0' _)))
                  clear hI0'
                  have hwit := HWIT.out
                  clear HWIT
                  have hI1 := fun (W : World) (hW : Below w.heap.size w W) => above_any (HH.out.1.below hW) hm ha hup hul hult
                  have hW := fun (W : World) (hW : Below w.heap.size w W) => with_any W Aa (f.kids a).length Ca (ints (f.kids a)) ((hkl.below hW).more hW.size) (ints_len _) hka3 hka1 hka2 i hil b (by omega)
                  have hPlt := lt_of_block HH.out.1.blk
                  obtain ⟨x0, hx0⟩ : ∃ x, (f.kids a).length = x := ⟨_, rfl⟩
                  rw [hx0] at hW hka hka1
                  have hi1 : ((i : Int) == -1) = false := by simp
                  have HK := Lib.hid (And.intro hup (And.intro hkl (And.intro hva (And.intro hx0 (And.intro hstep hwit)))))
                  have hul2 : up.length ≤ 101 := by omega
                  clear hup hkl hva hx0 hstep hwit hka3
                  by_cases hab : a = b
                  · subst hab
                    go_wp2_with fail
                    go_ret
                    exact ⟨(below_drawn hBm _).mono hbase, .inl rfl⟩
                  · have hab2 : ((a : Int) == (b : Int)) = false := by simp; omega
                    by_cases hbu : b ∈ up
                    · obtain ⟨q, hq⟩ : ∃ q, place (ints up) b = some q := by
                        have : (b : Int) ∈ ints up := List.mem_map.2 ⟨b, hbu, rfl⟩
                        exact ⟨_, by unfold place; rw [if_pos this]⟩
                      have hq1 : ((q : Int) == -1) = false := by simp
                      have hq2 : ((q : Int) != -1) = true := by simp
                      go_wp2_with (first
                        | (go_at_call 25; go_must (refine (hI1 _ (below_drawn hBm _)).mono ?_; clear hI1; rintro e W1 ⟨v1, rfl, hown1, hb1⟩; obtain ⟨Au, Cu, hv1, hu1, _, _⟩ := own_form hown1; subst hv1; have hI2 := index_any W1 Au up.length Cu (ints up) (Lies.of_own_any hown1 _ _ _ rfl) (ints_len _) hu1 (by omega) (b : Int); rw [hq] at hI2; simp only [enc] at hI2; have HB1 := Lib.hid ((below_drawn hBm nq).trans (hb1.mono (below_drawn hBm nq).size)); clear hown1 hb1))
                        | (go_at_call 37; go_must (refine hI2.mono ?_; clear hI2; rintro e w' ⟨rfl, hw'⟩; obtain rfl := hw'.symm))
                        | fail)
                      go_ret
                      exact ⟨HB1.out.mono hbase, .inl rfl⟩
                    · have hq : place (ints up) b = none := place_none (ints_not hbu)
                      go_upto_region 17 with (first
                        | (go_at_call 25; go_must (refine (hI1 _ (below_drawn hBm _)).mono ?_; clear hI1; rintro e W1 ⟨v1, rfl, hown1, hb1⟩; obtain ⟨Au, Cu, hv1, hu1, _, _⟩ := own_form hown1; subst hv1; have hI2 := index_any W1 Au up.length Cu (ints up) (Lies.of_own_any hown1 _ _ _ rfl) (ints_len _) hu1 (by omega) (b : Int); rw [hq] at hI2; simp only [enc] at hI2; have hbW1 : Below w.heap.size w W1 := (below_drawn hBm nq).trans (hb1.mono (below_drawn hBm nq).size); clear hown1 hb1))
                        | (go_at_call 37; go_must (refine hI2.mono ?_; clear hI2; rintro e w' ⟨rfl, hw'⟩; obtain rfl := hw'.symm))
                        | fail)
                      refine wp_region_last 16 (by kernel_rfl) rfl (fun w' => Below w.heap.size w w') (fun w1 w2 => Below w1.heap.size w1 w2) (fun k v w' => match k with
                        | 0 | 1 | 5 | 6 => v = .pointer (some ⟨P, 0, none⟩)
                        | 2 | 7 => v = .pointer (some ⟨P, 1, none⟩)
                        | 3 | 8 => v = .slice (some ak) many Ck
                        | 4 | 9 => v = .int .i64 a
                        | 10 | 15 => v = .pointer (some (ak.add a))
                        | 11 => v = .slice Aa x0 Ca
                        | 12 => v = .int .i64 i
                        | 13 => v = .int .i64 b
                        | 14 => w'.ownsRow w.heap.size 3 1 v (x0 + 1) (intsV ((ints (f.kids a)).take i ++ (b : Int) :: (ints (f.kids a)).drop i))
                        | _ => False) ?_ (by kernel_rfl) (below_drawn hbW1 1) ?_ ?_
                      · intro k v w1 w2 he hr
                        match k, hr with
                        | 0, hr | 1, hr | 2, hr | 3, hr | 4, hr | 5, hr | 6, hr | 7, hr | 8, hr | 9, hr | 10, hr | 11, hr | 12, hr | 13, hr | 15, hr => exact hr
                        | 14, hr => exact ownN_below hr he
                      · simp only [List.take_succ_cons, List.take_zero, TableOps]
                        refine ⟨⟨trivial, ?_⟩, ⟨trivial, ?_⟩, ⟨trivial, ?_⟩, ⟨trivial, ?_⟩, ⟨trivial, ?_⟩, ⟨trivial, ?_⟩, ⟨trivial, ?_⟩, ⟨trivial, ?_⟩, ⟨trivial, ?_⟩, ⟨trivial, ?_⟩, ⟨trivial, ?_⟩, ⟨trivial, ?_⟩, ⟨trivial, ?_⟩, ⟨trivial, ?_⟩, ⟨trivial, ?_⟩, ⟨trivial, ?_⟩, trivial⟩
                        all_goals
                          intro a' w' hS hD hF hdep
                          clear hD
                          have f0 := hF 0 (by kernel_rfl)
                          have f5 := hF 5 (by kernel_rfl)
                          have f6 := hF 6 (by kernel_rfl)
                          have f7 := hF 7 (by kernel_rfl)
                          clear hF
                          simp [Region.binds, Holds] at hdep f0 f5 f6 f7
                          have k1 := (hS.cell (p := ⟨P, 1, none⟩) hPlt).trans g1
                          have k2 := (hS.cell (p := ak.add a) (by rw [block_add]; exact hak)).trans hka
                        rotate_left 14
                        · simp [Oper.wp, execOp, Act.eval, hdep, go_sem]
                          refine (hW w' hS).mono ?_
                          rintro e w'' ⟨v, rfl, hown, hbb⟩
                          exact ⟨_, rfl, hS.trans (hbb.mono hS.size), hbb, by simpa [intsV] using ownN_mono hown hS.size⟩
                        all_goals
                          clear HH HK
                          simp [Oper.wp, execOp, Act.eval, hdep, f0, f5, f6, f7, go_sem, Below.refl, hS, k1, k2, q1]
                      · intro val W2 hS hall
                        have r14 := hall 14 (by decide)
                        have r15 : val 15 = .pointer (some (ak.add a)) := hall 15 (by decide)
                        have hS' : Below w.heap.size w W2 := hS
                        have hsp := HH.out.1
                        have hsf := SpecAt.store_facts hsp ha hS'
                        have kf := hsf.2.2.1
                        have kc := hsf.2.2.2
                        simp only [List.take_succ_cons, List.take_zero, putAll, List.setIfInBounds_toArray, List.set_cons_zero, List.set_cons_succ]
                        rw [r15]
                        obtain ⟨Av, Cv, hv1, _⟩ := own_form r14
                        rw [hv1]
                        simp [Oper.wp, execOp, Act.eval, go_sem, kf, kc, Exit.then]
                        obtain ⟨W3, hW3⟩ : ∃ W3, W2.setCell (ak.add a) (.slice Av (x0 + 1) Cv) = W3 := ⟨_, rfl⟩
                        rw [hW3]
                        have hsp2 : SpecAt base many ⟨f.par, setL f.kids a (l1 ++ b :: l2)⟩ P (some ap) (some ak) Cp Ck (fun p => if p = a then val 14 else vs p) W3 := by
                          obtain ⟨_, hkl, hva, hx0, _, hk, hil2⟩ := HK.out
                          rw [← hW3, ← hv1]
                          refine (hsp.below hS').setKids ha ?_ (hsp.fresh r14 (Nat.le_refl _))
                          refine ownN_mono ?_ hbase
                          have e1 : (ints (f.kids a)).take i ++ (b : Int) :: (ints (f.kids a)).drop i = ints (l1 ++ b :: l2) := by rw [hk, hil2]; exact ints_put l1 l2 b
                          have e2 : x0 + 1 = (l1 ++ b :: l2).length := by rw [← hx0, hk]; simp; omega
                          have h14 : W2.ownsRow w.heap.size 3 1 (val 14) (x0 + 1) (intsV ((ints (f.kids a)).take i ++ (b : Int) :: (ints (f.kids a)).drop i)) := r14
                          rw [e1, e2] at h14
                          exact h14
                        have m0 := hsp2.f0
                        obtain ⟨_, ea, _, m1⟩ := hsp2.parent hb
                        cases ea
                        have m2 := own_frozen hsp2.par b
                        have hbw2 : Below base w W3 := by
                          rw [← hW3]
                          exact (hS'.mono hbase).setCell (by rw [block_add]; exact (own_addr hsp.kid).choose_spec.2) _
                        have HS2 := Lib.hid (And.intro hsp2 hbw2)
                        clear hsp2 hbw2 r14 r15 hall hS hS' hsp hsf
                        go_wp2_with fail
                        go_ret
                        exact ⟨below_set HS2.out.2 (by rw [block_add]; exact (own_addr HH.out.1.par).choose_spec.2) _, .inr (.inr ⟨rfl, _, _, HK.out.2.2.2.2.1 hab hbu, HS2.out.1.setPar hb (some a)⟩)⟩
end
end Go.Proofs.Ytgbeohhegckonaa
