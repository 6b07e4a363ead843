/- The reference's reading of the five references by which characters are escaped. Conditions: sizes below 2^40. -/
import Derived.Test.YtpkelgekannioaaGreatDoorProg
import Derived.WalkKit
import Derived.KernelRfl
import Derived.Laws.BytesArg
import Derived.Test.YtpkelgekannioaaGreatDoorShelf
import Derived.WalkSpells
import Derived.WalkLawsBesides
import Derived.Lib.Hide
import Derived.Lib.IndexBytes
import Derived.Deep.QuietTactic
import Derived.BigQuiet
import Derived.IntWalk
import Derived.Deep.LoopGhost
import Derived.Deep.DeepMust
import Derived.Deep.DeepFit
import Derived.Deep.DeepCutAuto
import Derived.BigCall
import Derived.Test.YtpkelgekannioaaGreatDoorGaEsc
set_option linter.unusedSimpArgs false
set_option linter.unusedVariables false

namespace Go.Proofs.YtpkelgekannioaaGreatDoor
open Go.RowKit

/-- A list of operations, run one behind the other; what a guard leaves out is left out. -/
def evalOps (P : Program) (ops : Array Oper) : List Oper → Act → World → Option (Act × World)
  | [], a, w => some (a, w)
  | o :: rest, a, w =>
    if Region.wanted o (yielded ops a.tmps) then
      match (execOp a.eval o).run P w with
      | .ok (.value v) w' => evalOps P ops rest (a.put o.dst v) w'
      | .ok .skip w' => evalOps P ops rest (a.put o.dst undef) w'
      | _ => none
    else evalOps P ops rest (a.put o.dst undef) w

theorem wpList_evalOps {P : Program} {ops : Array Oper} {Q : Exit → Act → World → Prop} : ∀ (l : List Oper) (a : Act) (w : World) (a' : Act) (w' : World),
    evalOps P ops l a w = some (a', w') → Q .normal a' w' → wpList P ops Q l a w
  | [], a, w, a', w', h, hq => by
    simp only [evalOps, Option.some.injEq, Prod.mk.injEq] at h
    obtain ⟨rfl, rfl⟩ := h
    exact wpList_nil hq
  | o :: rest, a, w, a', w', h, hq => by
    unfold evalOps at h
    refine wpList_step fun K hK => ?_
    split at h
    · rename_i hg
      rw [if_pos hg]
      unfold Oper.wp
      split at h
      · rename_i v w1 hr
        rw [hr, Oper.upon_value]
        exact hK _ _ (wpList_evalOps rest _ _ _ _ h hq)
      · rename_i w1 hr
        rw [hr, Oper.upon_skip]
        exact hK _ _ (wpList_evalOps rest _ _ _ _ h hq)
      · cases h
    · rename_i hg
      rw [if_neg hg]
      exact hK _ _ (wpList_evalOps rest _ _ _ _ h hq)

/-- A piece of code, run as it stands. -/
def evalCode (P : Program) : Code → Act → World → Option (Exit × Act × World)
  | .skip, a, w => some (.normal, a, w)
  | .ret, a, w => some (.ret, a, w)
  | .exit id, a, w => some (.exit id, a, w)
  | .region _ ops false, a, w => (evalOps P ops ops.toList a w).map fun p => (.normal, p.1, p.2)
  | .seq x y, a, w => match evalCode P x a w with
    | some (.normal, a', w') => evalCode P y a' w'
    | r => r
  | .cond c x y, a, w => match a.eval c with
    | .bool true => evalCode P x a w
    | .bool false => evalCode P y a w
    | _ => none
  | .block id c, a, w => match evalCode P c a w with
    | some (.exit id', a', w') => if id' = id then some (.normal, a', w') else some (.exit id', a', w')
    | r => r
  | _, _, _ => none

theorem wp_evalCode {P : Program} : ∀ (c : Code) (Q : Exit → Act → World → Prop) (a : Act) (w : World) (e : Exit) (a' : Act) (w' : World),
    evalCode P c a w = some (e, a', w') → Q e a' w' → c.wp P Q a w
  | .skip, Q, a, w, e, a', w', h, hq => by
    simp only [evalCode, Option.some.injEq, Prod.mk.injEq] at h
    obtain ⟨rfl, rfl, rfl⟩ := h
    exact wp_skip hq
  | .ret, Q, a, w, e, a', w', h, hq => by
    simp only [evalCode, Option.some.injEq, Prod.mk.injEq] at h
    obtain ⟨rfl, rfl, rfl⟩ := h
    exact wp_ret hq
  | .exit id, Q, a, w, e, a', w', h, hq => by
    simp only [evalCode, Option.some.injEq, Prod.mk.injEq] at h
    obtain ⟨rfl, rfl, rfl⟩ := h
    exact wp_exit hq
  | .region id ops false, Q, a, w, e, a', w', h, hq => by
    simp only [evalCode] at h
    cases h1 : evalOps P ops ops.toList a w with
    | none => rw [h1] at h; cases h
    | some p =>
      obtain ⟨a1, w1⟩ := p
      rw [h1] at h
      simp only [Option.map_some, Option.some.injEq, Prod.mk.injEq] at h
      obtain ⟨rfl, rfl, rfl⟩ := h
      exact wp_region_list (wpList_evalOps _ _ _ _ _ h1 hq)
  | .region id ops true, Q, a, w, e, a', w', h, hq => by simp [evalCode] at h
  | .seq x y, Q, a, w, e, a', w', h, hq => by
    simp only [evalCode] at h
    refine wp_seq ?_
    split at h
    · rename_i a1 w1 h1
      exact wp_evalCode x _ a w .normal a1 w1 h1 (wp_evalCode y Q a1 w1 e a' w' h hq)
    · rename_i r hr
      refine wp_evalCode x _ a w e a' w' h ?_
      cases e with
      | normal => exact absurd h (hr _ _)
      | _ => exact hq
  | .cond c x y, Q, a, w, e, a', w', h, hq => by
    simp only [evalCode] at h
    split at h
    · rename_i hc
      exact wp_cond_true hc (wp_evalCode x Q a w e a' w' h hq)
    · rename_i hc
      exact wp_cond_false hc (wp_evalCode y Q a w e a' w' h hq)
    · cases h
  | .block id c, Q, a, w, e, a', w', h, hq => by
    simp only [evalCode] at h
    refine wp_block ?_
    split at h
    · rename_i id' a1 w1 h1
      split at h
      · rename_i hid
        simp only [Option.some.injEq, Prod.mk.injEq] at h
        obtain ⟨rfl, rfl, rfl⟩ := h
        exact wp_evalCode c _ a w _ _ _ h1 (by simp only [Exit.inBlock, if_pos hid]; exact hq)
      · rename_i hid
        simp only [Option.some.injEq, Prod.mk.injEq] at h
        obtain ⟨rfl, rfl, rfl⟩ := h
        exact wp_evalCode c _ a w _ _ _ h1 (by simp only [Exit.inBlock, if_neg hid]; exact hq)
    · rename_i r hr
      refine wp_evalCode c _ a w e a' w' h ?_
      cases e with
      | exit id' => exact absurd h (hr _ _ _)
      | _ => exact hq
  | .loop c, Q, a, w, e, a', w', h, hq => by simp [evalCode] at h
  | .rangeFunc _ _ _ _, Q, a, w, e, a', w', h, hq => by simp [evalCode] at h
  | .scope _, Q, a, w, e, a', w', h, hq => by simp [evalCode] at h
  | .label _, Q, a, w, e, a', w', h, hq => by simp [evalCode] at h
  | .goto _, Q, a, w, e, a', w', h, hq => by simp [evalCode] at h
  | .refuse _, Q, a, w, e, a', w', h, hq => by simp [evalCode] at h

theorem calls_of_evalFn {P : Program} {f : FuncId} {fn : Func} {c : Code} {args : Array Value} {w w' : World} {v : Value} {R : Ending → World → Prop}
    (hf : P.funcs[f]? = some fn) (hb : fn.body = some c)
    (h : (match evalCode P c { tmps := args ++ Array.replicate (fn.ntmps - args.size) undef, defers := [] } w with
      | some (.ret, a, w1) => some (a.defers, (results fn a.tmps).run P w1, w1)
      | _ => none) = some ([], .ok v w', w')) (hr : R (.returned v) w') : Calls P f args w R := by
  refine calls_of_wp hf hb ?_
  split at h
  · rename_i a w1 h1
    simp only [Option.some.injEq, Prod.mk.injEq] at h
    obtain ⟨hd, hv, rfl⟩ := h
    exact wp_evalCode c _ _ _ _ _ _ h1 ⟨hd, v, hv, hr⟩
  · cases h

/-- spec.charOf at a number that is a plain character. -/
def charTable : List Int := [0x20ac, 0x81, 0x201a, 0x192, 0x201e, 0x2026, 0x2020, 0x2021, 0x2c6, 0x2030, 0x160, 0x2039, 0x152, 0x8d, 0x17d, 0x8f,
  0x90, 0x2018, 0x2019, 0x201c, 0x201d, 0x2022, 0x2013, 0x2014, 0x2dc, 0x2122, 0x161, 0x203a, 0x153, 0x9d, 0x17e, 0x178]
def charCells : Obj := .cells (charTable.map (Value.int .i64)).toArray 3

theorem charOf_39 (w : World) : Calls Tryz.prog 89 #[.int .i64 39] w fun e w' => e = .returned (.int .i64 39) ∧ w' = w.alloc charCells :=
  calls_of_evalFn Tryz.func89 rfl (by kernel_rfl) ⟨rfl, rfl⟩
theorem charOf_34 (w : World) : Calls Tryz.prog 89 #[.int .i64 34] w fun e w' => e = .returned (.int .i64 34) ∧ w' = w.alloc charCells :=
  calls_of_evalFn Tryz.func89 rfl (by kernel_rfl) ⟨rfl, rfl⟩

set_option maxHeartbeats 1000000 in
set_option maxRecDepth 100000 in
theorem coded_39 (w : World) : Calls Tryz.prog 88 #[.int .i64 39] w fun e w' => e = .returned (.string ⟨#[39]⟩) ∧ Below w.heap.size w w' := by
  have hcv := run_convert_bytes_arg (P := Tryz.prog) ((w.alloc (.cells #[.int .i64 39] 3)).alloc (.cells #[.int .u8 39] 5)) 45 5 Tryz.underlying45 Tryz.underlying5 (w.heap.size + 1) 0 1 1 [39] rfl
    (fun i hi => by obtain rfl : i = 0 := by omega
                    rw [World.cell?_alloc_at _ _ _ _ (by simp)]; rfl) 9 Tryz.underlying9
  rw [show strOfNums [39] = ⟨#[39]⟩ from rfl] at hcv
  go_enter Tryz.func88, Tryz.ntmps88
  go_wp2
  go_ret
  exact ⟨rfl, by repeat (first | exact Below.refl _ _ | refine Below.alloc ?_ (by simp) _ | refine Below.drew ?_)⟩

set_option maxHeartbeats 1000000 in
set_option maxRecDepth 100000 in
theorem coded_34 (w : World) : Calls Tryz.prog 88 #[.int .i64 34] w fun e w' => e = .returned (.string ⟨#[34]⟩) ∧ Below w.heap.size w w' := by
  have hcv := run_convert_bytes_arg (P := Tryz.prog) ((w.alloc (.cells #[.int .i64 34] 3)).alloc (.cells #[.int .u8 34] 5)) 45 5 Tryz.underlying45 Tryz.underlying5 (w.heap.size + 1) 0 1 1 [34] rfl
    (fun i hi => by obtain rfl : i = 0 := by omega
                    rw [World.cell?_alloc_at _ _ _ _ (by simp)]; rfl) 9 Tryz.underlying9
  rw [show strOfNums [34] = ⟨#[34]⟩ from rfl] at hcv
  go_enter Tryz.func88, Tryz.ntmps88
  go_wp2
  go_ret
  exact ⟨rfl, by repeat (first | exact Below.refl _ _ | refine Below.alloc ?_ (by simp) _ | refine Below.drew ?_)⟩

/-- A named reference: its name, what it stands for, and whether it also counts without a semicolon. -/
abbrev Ent : Type := ByteArray × ByteArray × Bool
def ent (n t : List UInt8) (l : Bool) : Ent := (⟨n.toArray⟩, ⟨t.toArray⟩, l)
def entCells (es : List Ent) : List Value := es.flatMap fun e => [.string e.1, .string e.2.1, .bool e.2.2]

def ents : List Ent := [
  ent [97, 109, 112] [38] true,
  ent [108, 116] [60] true,
  ent [103, 116] [62] true,
  ent [113, 117, 111, 116] [34] true,
  ent [65, 77, 80] [38] true,
  ent [76, 84] [60] true,
  ent [110, 98, 115, 112] [194, 160] true,
  ent [99, 111, 112, 121] [194, 169] true,
  ent [114, 101, 103] [194, 174] true,
  ent [97, 97, 99, 117, 116, 101] [195, 161] true,
  ent [65, 97, 99, 117, 116, 101] [195, 129] true,
  ent [101, 97, 99, 117, 116, 101] [195, 169] true,
  ent [97, 117, 109, 108] [195, 164] true,
  ent [111, 117, 109, 108] [195, 182] true,
  ent [117, 117, 109, 108] [195, 188] true,
  ent [115, 122, 108, 105, 103] [195, 159] true,
  ent [99, 99, 101, 100, 105, 108] [195, 167] true,
  ent [110, 116, 105, 108, 100, 101] [195, 177] true,
  ent [112, 111, 117, 110, 100] [194, 163] true,
  ent [121, 101, 110] [194, 165] true,
  ent [99, 101, 110, 116] [194, 162] true,
  ent [115, 101, 99, 116] [194, 167] true,
  ent [112, 97, 114, 97] [194, 182] true,
  ent [100, 101, 103] [194, 176] true,
  ent [112, 108, 117, 115, 109, 110] [194, 177] true,
  ent [116, 105, 109, 101, 115] [195, 151] true,
  ent [100, 105, 118, 105, 100, 101] [195, 183] true,
  ent [102, 114, 97, 99, 49, 50] [194, 189] true,
  ent [108, 97, 113, 117, 111] [194, 171] true,
  ent [114, 97, 113, 117, 111] [194, 187] true,
  ent [109, 105, 100, 100, 111, 116] [194, 183] true,
  ent [109, 105, 99, 114, 111] [194, 181] true,
  ent [110, 111, 116] [194, 172] true,
  ent [115, 104, 121] [194, 173] true,
  ent [97, 112, 111, 115] [39] false,
  ent [101, 117, 114, 111] [226, 130, 172] false,
  ent [104, 101, 108, 108, 105, 112] [226, 128, 166] false,
  ent [109, 100, 97, 115, 104] [226, 128, 148] false,
  ent [110, 100, 97, 115, 104] [226, 128, 147] false,
  ent [108, 115, 113, 117, 111] [226, 128, 152] false,
  ent [114, 115, 113, 117, 111] [226, 128, 153] false,
  ent [108, 100, 113, 117, 111] [226, 128, 156] false,
  ent [114, 100, 113, 117, 111] [226, 128, 157] false,
  ent [98, 117, 108, 108] [226, 128, 162] false,
  ent [97, 108, 112, 104, 97] [206, 177] false,
  ent [98, 101, 116, 97] [206, 178] false,
  ent [108, 97, 114, 114] [226, 134, 144] false,
  ent [114, 97, 114, 114] [226, 134, 146] false,
  ent [105, 110, 102, 105, 110] [226, 136, 158] false,
  ent [110, 101] [226, 137, 160] false,
  ent [108, 101] [226, 137, 164] false,
  ent [103, 101] [226, 137, 165] false,
  ent [110, 111, 116, 105, 110] [226, 136, 137] false,
  ent [78, 111, 116, 69, 113, 117, 97, 108, 84, 105, 108, 100, 101] [226, 137, 130, 204, 184] false]

/-- spec.entities: a new row that holds the list. -/
theorem ents_any (w : World) :
    Calls Tryz.prog 73 #[] w fun e w' => e = .returned (.slice (some ⟨w.heap.size, 0, none⟩) 54 54) ∧ w' = w.alloc (.cells (entCells ents).toArray 110) :=
  calls_of_evalFn Tryz.func73 rfl (by kernel_rfl) ⟨rfl, rfl⟩

end Go.Proofs.YtpkelgekannioaaGreatDoor

namespace Go.Proofs.YtpkelgekannioaaGreatDoor
open Go.RowKit Go.Shelf

/-- A letter. -/
def isAl (c : UInt8) : Bool := decide (97 ≤ (c.toNat : Int)) && decide ((c.toNat : Int) ≤ 122) || decide (65 ≤ (c.toNat : Int)) && decide ((c.toNat : Int) ≤ 90)
/-- A letter or a digit. -/
def isAn (c : UInt8) : Bool := isAl c || decide (48 ≤ (c.toNat : Int)) && decide ((c.toNat : Int) ≤ 57)

theorem ret_bool {a b : Bool} (h : a = b) : Ending.returned (.bool a) = Ending.returned (.bool b) := by rw [h]
theorem ret_str {a b : ByteArray} (h : a = b) : Ending.returned (.string a) = Ending.returned (.string b) := by rw [h]

set_option maxHeartbeats 1000000 in
set_option maxRecDepth 100000 in
theorem isAlpha_any (c : UInt8) (w : World) : Calls Tryz.prog 37 #[.int .u8 c.toNat] w fun e w' => e = .returned (.bool (isAl c)) ∧ w' = w := by
  go_enter Tryz.func37, Tryz.ntmps37
  go_wp2
  all_goals
    go_ret
    refine ⟨ret_bool ?_, rfl⟩
    unfold isAl
    rw [Bool.eq_iff_iff]
    simp
    try omega

set_option maxHeartbeats 1000000 in
set_option maxRecDepth 100000 in
theorem isAlnum_any (c : UInt8) (w : World) : Calls Tryz.prog 74 #[.int .u8 c.toNat] w fun e w' => e = .returned (.bool (isAn c)) ∧ w' = w := by
  have ha : isAn c = (isAl c || decide (48 ≤ (c.toNat : Int)) && decide ((c.toNat : Int) ≤ 57)) := rfl
  have HA := Lib.hid ha
  clear ha
  cases hb : isAl c
  all_goals
    rw [hb] at HA
    go_enter Tryz.func74, Tryz.ntmps74
    go_wp2_with (go_at_call 37; go_must (refine (isAlpha_any c _).mono ?_; rintro e w' ⟨rfl, rfl⟩; rw [hb]))
    all_goals
      go_ret
      refine ⟨ret_bool ?_, rfl⟩
      rw [HA.out]
      rw [Bool.eq_iff_iff]
      simp
      try omega

/-- How many letters and digits a text begins with. -/
def wl : List UInt8 → Nat
  | [] => 0
  | c :: l => if isAn c then wl l + 1 else 0

theorem wl_le : ∀ l : List UInt8, wl l ≤ l.length
  | [] => Nat.le_refl _
  | c :: l => by
    have := wl_le l
    unfold wl
    split <;> simp
    omega

theorem wl_drop {l : List UInt8} {n : Nat} {c : UInt8} (h : l[n]? = some c) : wl (l.drop n) = if isAn c then wl (l.drop (n + 1)) + 1 else 0 := by
  obtain ⟨hn, hc⟩ := List.getElem?_eq_some_iff.1 h
  rw [List.drop_eq_getElem_cons hn, hc, wl]

set_option maxHeartbeats 1000000 in
set_option maxRecDepth 100000 in
theorem word_any (s : ByteArray) (w : World) (hs : s.size ≤ 140737488355328) :
    Calls Tryz.prog 72 #[.string s] w fun e w' => e = .returned (.string (s.extract 0 (wl s.data.toList))) ∧ w' = w := by
  go_enter Tryz.func72, Tryz.ntmps72
  go_wp2
  go_loopg [3] (s.size + 1) (fun g s3 wx => ∃ n : Nat, n + g = s.size + 1 ∧ n ≤ s.size ∧ s3 = .int .i64 n ∧ n + wl (s.data.toList.drop n) = wl s.data.toList ∧ wx = w)
  case atStart => exact ⟨0, by omega, by omega, rfl, by simp, rfl⟩
  case round =>
    obtain ⟨n, hg, hn, rfl, hw, rfl⟩ := hrel
    have HW := Lib.hid hw
    clear hw
    by_cases hlt : n < s.size
    · obtain ⟨c, hc⟩ : ∃ c : UInt8, s[n]'hlt = c := ⟨_, rfl⟩
      have HC := Lib.hid (wl_drop (show s.data.toList[n]? = some c by rw [← hc]; exact Lib.data_getElem? s n hlt))
      cases hb : isAn c
      · rw [hb] at HC
        go_wp2_with (go_at_call 74; go_must (refine (isAlnum_any c _).mono ?_; rintro e w' ⟨rfl, rfl⟩; rw [hb]))
        go_ret
        exact ⟨ret_str (by rw [← HW.out, HC.out]; simp), rfl⟩
      · rw [hb] at HC
        go_wp2_with (go_at_call 74; go_must (refine (isAlnum_any c _).mono ?_; rintro e w' ⟨rfl, rfl⟩; rw [hb]))
        go_roundg (s.size - n)
        case measure => omega
        case rel => exact ⟨n + 1, by omega, by omega, by go_num, by rw [← HW.out, HC.out]; simp; omega, rfl⟩
    · obtain rfl : n = s.size := by omega
      go_wp2
      go_ret
      exact ⟨ret_str (by rw [← HW.out, List.drop_of_length_le (by rw [← Lib.size_eq]; exact Nat.le_refl _)]; simp [wl]), rfl⟩

theorem str_same {a b : ByteArray} (h : a.toList = b.toList) : a = b := by
  rw [Lib.toList_data, Lib.toList_data] at h
  obtain ⟨⟨a⟩⟩ := a
  obtain ⟨⟨b⟩⟩ := b
  simp at h
  rw [h]

theorem entCells_at : ∀ {es : List Ent} {k : Nat} {e : Ent}, es[k]? = some e → (entCells es)[k * 3]? = some (.string e.1) ∧ (entCells es)[k * 3 + 1]? = some (.string e.2.1) ∧ (entCells es)[k * 3 + 2]? = some (.bool e.2.2)
  | [], k, e, h => by simp at h
  | x :: es, 0, e, h => by
    simp at h
    subst h
    simp [entCells]
  | x :: es, k + 1, e, h => by
    have ih := entCells_at (es := es) (k := k) (e := e) (by simpa using h)
    have hc : entCells (x :: es) = [.string x.1, .string x.2.1, .bool x.2.2] ++ entCells es := rfl
    have h3 : ∀ j, (entCells (x :: es))[(k + 1) * 3 + j]? = (entCells es)[k * 3 + j]? := fun j => by
      rw [hc, List.getElem?_append_right (by simp; omega)]
      congr 1
      simp
      omega
    exact ⟨(h3 0).trans ih.1, (h3 1).trans ih.2.1, (h3 2).trans ih.2.2⟩

theorem ents_small (k : Nat) (e : Ent) (h : ents[k]? = some e) : e.1.size ≤ 20 := by
  have : ∀ e ∈ ents, e.1.size ≤ 20 := by decide
  exact this e (List.mem_of_getElem? h)

/-- How far the walk through the named references has come: before the name that fits nothing is taken, behind it just that one. -/
def RefSt (k0 k : Nat) (m : Int) (tx : ByteArray) (n : Int) (best : ByteArray) : Prop := (k ≤ k0 ∧ n = 0 ∧ best = ⟨#[]⟩) ∨ (k0 < k ∧ n = m ∧ best = tx)

theorem RefSt.next {k0 k : Nat} {m n : Int} {tx best : ByteArray} (h : RefSt k0 k m tx n best) (hk : ¬ k = k0) : RefSt k0 (k + 1) m tx n best := by
  rcases h with ⟨h1, h2, h3⟩ | ⟨h1, h2, h3⟩
  · exact .inl ⟨by omega, h2, h3⟩
  · exact .inr ⟨by omega, h2, h3⟩

set_option maxHeartbeats 4000000 in
set_option maxRecDepth 100000 in
/-- At a text that begins with an ampersand, then the name u of the list, then a semicolon, where no other name of the list is a beginning of u: what u stands for. -/
theorem ref_named (s u tx : ByteArray) (lg : Bool) (k0 : Nat) (w : World) (hs : s.size ≤ 140737488355328) (hk0 : ents[k0]? = some (u, tx, lg))
    (hno : ∀ k e, ents[k]? = some e → k ≠ k0 → u.size < e.1.size ∨ (e.1.size ≤ u.size ∧ ¬ u.extract 0 e.1.size = e.1))
    (hu : wl (s.extract 1 s.size).data.toList = u.size) (hue : (s.extract 1 s.size).extract 0 u.size = u)
    (hp0 : 0 < s.size) (hp1 : 1 < s.size) (hpu : u.size + 1 < s.size) (hl0 : s[0]'hp0 = 38) (hl1 : ((s[1]'hp1).toNat : Int) ≠ 35) (hsc : s[u.size + 1]'hpu = 59) (at' : Bool) :
    Calls Tryz.prog 53 #[.string s, .bool at'] w fun e w' => e = .returned (.tuple #[.string tx, .int .i64 (u.size + 2), .bool true]) ∧ Below w.heap.size w w' := by
  have hn1 : (((s[1]'hp1).toNat : Int) == 35) = false := beq_eq_false_iff_ne.2 hl1
  have HUE := Lib.hid hue
  have hsz : (s.extract 1 s.size).size ≤ 140737488355328 := by rw [ByteArray.size_extract]; omega
  have hw := word_any (s.extract 1 s.size)
  rw [hu, hue] at hw
  have HNO := Lib.hid hno
  have HK0 := Lib.hid hk0
  have HU := Lib.hid hu
  have HSC := Lib.hid hsc
  clear hue hl1 hno hk0 hu hsc
  have hss : 2 ≤ (s.size : Int) := by omega
  have hd2 : decide ((s.size : Int) < 2) = false := decide_eq_false (by omega)
  go_enter Tryz.func53, Tryz.ntmps53
  go_wp2_with (first
    | (go_at_call 72; go_must (refine (hw _ hsz).mono ?_; rintro e w' ⟨rfl, hww⟩; obtain rfl := hww.symm))
    | (go_at_call 73; go_must (refine (ents_any _).mono ?_; rintro e w' ⟨rfl, rfl⟩)))
  clear hw hn1
  obtain ⟨w1, hw1⟩ : ∃ w1, w.alloc (.cells (entCells ents).toArray 110) = w1 := ⟨_, rfl⟩
  have hrow : w1.heap[w.heap.size]? = some (.cells (entCells ents).toArray 110 (0, 0)) := by rw [← hw1]; exact (MapKept.heap_alloc w _).1
  have hbw1 : Below w.heap.size w w1 := by rw [← hw1]; exact (Below.refl _ _).alloc (Nat.le_refl _) _
  rw [hw1]
  clear hw1
  go_loopg [5, 7, 34] 54 (fun g s5 s7 s34 wx => ∃ (k : Nat) (n : Int) (best : ByteArray), k + g = 54 ∧ s34 = .int .i64 k ∧ s5 = .int .i64 n ∧ s7 = .string best ∧ RefSt k0 k (u.size + 2) tx n best ∧ Below w1.heap.size w1 wx)
  case atStart => exact ⟨0, 0, ⟨#[]⟩, rfl, rfl, rfl, rfl, .inl ⟨Nat.zero_le _, rfl, rfl⟩, Below.refl _ _⟩
  case round =>
    obtain ⟨k, n, best, hg, rfl, rfl, rfl, hst, hbw⟩ := hrel
    have HST := Lib.hid hst
    clear hst
    by_cases hk : k < 54
    · obtain ⟨⟨nm, tx', lg'⟩, he⟩ : ∃ e, ents[k]? = some e := ⟨_, List.getElem?_eq_getElem (by show k < 54; exact hk)⟩
      have hc := entCells_at he
      have HE := Lib.hid he
      clear he
      have hwsz : w.heap.size < w1.heap.size := (Array.getElem?_eq_some_iff.1 hrow).1
      have hcell : ∀ j v, (entCells ents)[k * 3 + j]? = some v → wr.cell? ⟨w.heap.size, k * 3 + j, none⟩ = some v := fun j v hj => by
        rw [hbw.cell (p := ⟨w.heap.size, k * 3 + j, none⟩) hwsz]
        simp [World.cell?, hrow, hj]
      have c0 : wr.cell? ⟨w.heap.size, k * 3, none⟩ = some (.string nm) := hcell 0 _ hc.1
      have c1 : wr.cell? ⟨w.heap.size, k * 3 + 1, none⟩ = some (.string tx') := hcell 1 _ hc.2.1
      have c2 : wr.cell? ⟨w.heap.size, k * 3 + 2, none⟩ = some (.bool lg') := hcell 2 _ hc.2.2
      clear hcell hc
      have hnm : nm.size ≤ 20 := ents_small _ _ HE.out
      by_cases hkk : k = k0
      · obtain ⟨rfl, rfl, rfl⟩ : u = nm ∧ tx = tx' ∧ lg = lg' := by
          have h := HK0.out
          rw [← hkk, HE.out] at h
          simp only [Option.some.injEq, Prod.mk.injEq] at h
          exact ⟨h.1.symm, h.2.1.symm, h.2.2.symm⟩
        obtain ⟨rfl, rfl⟩ : n = 0 ∧ best = ⟨#[]⟩ := by
          rcases HST.out with ⟨_, h2, h3⟩ | ⟨h1, _, _⟩
          · exact ⟨h2, h3⟩
          · omega
        have HKK := Lib.hid hkk
        clear hkk
        have hlong : (u.size : Int) + 1 < (s.size : Int) := by omega
        have hat : ((s[u.size + 1]'hpu).toNat : Int) = 59 := by rw [HSC.out]; rfl
        have hat2 : (((s[u.size + 1]'hpu).toNat : Int) == 59) = true := beq_iff_eq.2 hat
        have HAT := Lib.hid hat
        clear hat
        have hnlt : decide (u.size < u.size) = false := decide_eq_false (by omega)
        have hext : (u.extract 0 u.size).toList = u.toList := by simp
        have heq2 : (u.toList == u.toList) = true := beq_self_eq_true _
        have hngt : decide (u.size < u.size) = false := decide_eq_false (by omega)
        have hnle : decide ((u.size : Int) + 1 + 1 ≤ 0) = false := decide_eq_false (by omega)
        go_wp2_with fail
        go_quiet (fail)
        go_wp2_with fail
        go_roundg (54 - (k + 1))
        case measure => omega
        case rel => exact ⟨k + 1, (u.size : Int) + 2, tx, by omega, by go_num, by first | rfl | go_num | (congr 1), rfl, .inr ⟨by have := HKK.out; omega, rfl, rfl⟩, (hbw.alloc hbw.size _).trans ⟨rfl, rfl, rfl, Nat.le_refl _, fun _ _ => rfl⟩⟩
      · have hnot : u.size < nm.size ∨ (nm.size ≤ u.size ∧ ¬ u.extract 0 nm.size = nm) := HNO.out k _ HE.out hkk
        have HK := Lib.hid hkk
        clear hkk
        go_upto_region 11 with fail
        go_cut [12] (fun s12 wx => ∃ sb : Bool, s12 = .bool sb ∧ wx = wr.alloc (.cells #[.string nm, .string tx', .bool lg'] 110))
        case first =>
          by_cases hlong : (nm.size : Int) + 1 < s.size
          · go_wp2_with fail
            all_goals go_meet
            all_goals exact ⟨_, rfl, rfl⟩
          · go_wp2_with fail
            all_goals go_meet
            all_goals exact ⟨_, rfl, rfl⟩
        case rest =>
          obtain ⟨sb, rfl, rfl⟩ := hcut
          rcases hnot with hlt | ⟨hle, hne⟩
          · go_wp2_with fail
            go_quiet (fail)
            go_wp2_with fail
            go_roundg (54 - (k + 1))
            case measure => omega
            case rel => exact ⟨k + 1, n, best, by omega, by go_num, rfl, rfl, HST.out.next HK.out, (hbw.alloc hbw.size _).trans ⟨rfl, rfl, rfl, Nat.le_refl _, fun _ _ => rfl⟩⟩
          · have hle' : (nm.size : Int) ≤ (u.size : Int) := by omega
            have hnlt : decide (u.size < nm.size) = false := decide_eq_false (by omega)
            have hneq : ((u.extract 0 nm.size).toList == nm.toList) = false := beq_eq_false_iff_ne.2 fun h => hne (str_same h)
            have HL := Lib.hid hle
            clear hne hle
            go_wp2_with fail
            go_quiet (fail)
            go_wp2_with fail
            go_roundg (54 - (k + 1))
            case measure => omega
            case rel => exact ⟨k + 1, n, best, by omega, by go_num, rfl, rfl, HST.out.next HK.out, (hbw.alloc hbw.size _).trans ⟨rfl, rfl, rfl, Nat.le_refl _, fun _ _ => rfl⟩⟩
    · obtain rfl : k = 54 := by omega
      have hk54 : k0 < 54 := (List.getElem?_eq_some_iff.1 HK0.out).1
      obtain ⟨rfl, rfl⟩ : n = (u.size : Int) + 2 ∧ best = tx := by
        rcases HST.out with ⟨h1, _, _⟩ | ⟨_, h2, h3⟩
        · omega
        · exact ⟨h2, h3⟩
      have hz : (((u.size : Int) + 2) == 0) = false := beq_eq_false_iff_ne.2 (by omega)
      cases at'
      · go_wp2_with fail
        go_ret3
        exact ⟨rfl, hbw1.trans (hbw.mono hbw1.size)⟩
      · have hsub : IntKind.i64.wrap ((u.size : Int) + 2 - 1) = (u.size : Int) + 1 := by
          simp [IntKind.wrap, IntKind.signed, IntKind.bits]
          omega
        have hit : ((u.size : Int) + 1).toNat = u.size + 1 := by omega
        have hin0 : (0 : Int) ≤ (u.size : Int) + 1 := by omega
        have hin1 : (u.size : Int) + 1 < (s.size : Int) := by omega
        have hat : ((s[u.size + 1]'hpu).toNat : Int) = 59 := by rw [HSC.out]; rfl
        have hat2 : (((s[u.size + 1]'hpu).toNat : Int) != 59) = false := by simp [bne, hat]
        clear hat
        go_wp2_with fail
        go_ret3
        exact ⟨rfl, hbw1.trans (hbw.mono hbw1.size)⟩

theorem digit_51 (w : World) : Calls Tryz.prog 87 #[.int .u8 51, .int .i64 10] w fun e w' => e = .returned (.tuple #[.int .i64 3, .bool true]) ∧ w' = w :=
  calls_of_evalFn Tryz.func87 rfl (by kernel_rfl) ⟨rfl, rfl⟩
theorem digit_57 (w : World) : Calls Tryz.prog 87 #[.int .u8 57, .int .i64 10] w fun e w' => e = .returned (.tuple #[.int .i64 9, .bool true]) ∧ w' = w :=
  calls_of_evalFn Tryz.func87 rfl (by kernel_rfl) ⟨rfl, rfl⟩
theorem digit_52 (w : World) : Calls Tryz.prog 87 #[.int .u8 52, .int .i64 10] w fun e w' => e = .returned (.tuple #[.int .i64 4, .bool true]) ∧ w' = w :=
  calls_of_evalFn Tryz.func87 rfl (by kernel_rfl) ⟨rfl, rfl⟩
theorem digit_59 (w : World) : Calls Tryz.prog 87 #[.int .u8 59, .int .i64 10] w fun e w' => e = .returned (.tuple #[.int .i64 99, .bool false]) ∧ w' = w :=
  calls_of_evalFn Tryz.func87 rfl (by kernel_rfl) ⟨rfl, rfl⟩

set_option maxHeartbeats 2000000 in
set_option maxRecDepth 100000 in
theorem numeric_39 (s : ByteArray) (w : World) (hs : s.size ≤ 140737488355328) (hp2 : 2 < s.size) (hp3 : 3 < s.size) (hp4 : 4 < s.size) (h2 : s[2]'hp2 = 51) (h3 : s[3]'hp3 = 57) (h4 : s[4]'hp4 = 59) :
    Calls Tryz.prog 71 #[.string s] w fun e w' => e = .returned (.tuple #[.string ⟨#[39]⟩, .int .i64 5, .bool true]) ∧ Below w.heap.size w w' := by
  have hd2 : decide ((2 : Int) < (s.size : Int)) = true := decide_eq_true (by omega)
  have hl2 : (2 : Int) < (s.size : Int) := by omega
  have hl3 : (3 : Int) < (s.size : Int) := by omega
  have hl4 : (4 : Int) < (s.size : Int) := by omega
  go_enter Tryz.func71, Tryz.ntmps71
  go_wp2
  go_loopg [6, 7] 2 (fun g s6 s7 wx => wx = w ∧ ((g = 2 ∧ s6 = .int .i64 2 ∧ s7 = .int .i64 0) ∨ (g = 1 ∧ s6 = .int .i64 3 ∧ s7 = .int .i64 3) ∨ (g = 0 ∧ s6 = .int .i64 4 ∧ s7 = .int .i64 39)))
  case atStart => exact ⟨rfl, .inl ⟨rfl, rfl, rfl⟩⟩
  case round =>
    obtain ⟨rfl, ⟨rfl, rfl, rfl⟩ | ⟨rfl, rfl, rfl⟩ | ⟨rfl, rfl, rfl⟩⟩ := hrel
    · go_wp2_with (go_at_call 87; go_must (refine (digit_51 _).mono ?_; rintro e w' ⟨rfl, hw⟩; obtain rfl := hw.symm))
      go_roundg 1
      case measure => omega
      case rel => exact ⟨rfl, .inr (.inl ⟨rfl, rfl, rfl⟩)⟩
    · go_wp2_with (go_at_call 87; go_must (refine (digit_57 _).mono ?_; rintro e w' ⟨rfl, hw⟩; obtain rfl := hw.symm))
      go_roundg 0
      case measure => omega
      case rel => exact ⟨rfl, .inr (.inr ⟨rfl, rfl, rfl⟩)⟩
    · go_wp2_with (first
        | (go_at_call 87; go_must (refine (digit_59 _).mono ?_; rintro e w' ⟨rfl, hw⟩; obtain rfl := hw.symm))
        | (go_at_call 89; go_must (refine (charOf_39 _).mono ?_; rintro e w2 ⟨rfl, rfl⟩))
        | (go_at_call 88; go_must (refine (coded_39 _).mono ?_; rintro e w3 ⟨rfl, hb3⟩)))
      go_ret3
      exact ⟨rfl, ((Below.refl _ _).alloc (Nat.le_refl _) _).trans (hb3.mono (by simp))⟩

set_option maxHeartbeats 2000000 in
set_option maxRecDepth 100000 in
theorem numeric_34 (s : ByteArray) (w : World) (hs : s.size ≤ 140737488355328) (hp2 : 2 < s.size) (hp3 : 3 < s.size) (hp4 : 4 < s.size) (h2 : s[2]'hp2 = 51) (h3 : s[3]'hp3 = 52) (h4 : s[4]'hp4 = 59) :
    Calls Tryz.prog 71 #[.string s] w fun e w' => e = .returned (.tuple #[.string ⟨#[34]⟩, .int .i64 5, .bool true]) ∧ Below w.heap.size w w' := by
  have hd2 : decide ((2 : Int) < (s.size : Int)) = true := decide_eq_true (by omega)
  have hl2 : (2 : Int) < (s.size : Int) := by omega
  have hl3 : (3 : Int) < (s.size : Int) := by omega
  have hl4 : (4 : Int) < (s.size : Int) := by omega
  go_enter Tryz.func71, Tryz.ntmps71
  go_wp2
  go_loopg [6, 7] 2 (fun g s6 s7 wx => wx = w ∧ ((g = 2 ∧ s6 = .int .i64 2 ∧ s7 = .int .i64 0) ∨ (g = 1 ∧ s6 = .int .i64 3 ∧ s7 = .int .i64 3) ∨ (g = 0 ∧ s6 = .int .i64 4 ∧ s7 = .int .i64 34)))
  case atStart => exact ⟨rfl, .inl ⟨rfl, rfl, rfl⟩⟩
  case round =>
    obtain ⟨rfl, ⟨rfl, rfl, rfl⟩ | ⟨rfl, rfl, rfl⟩ | ⟨rfl, rfl, rfl⟩⟩ := hrel
    · go_wp2_with (go_at_call 87; go_must (refine (digit_51 _).mono ?_; rintro e w' ⟨rfl, hw⟩; obtain rfl := hw.symm))
      go_roundg 1
      case measure => omega
      case rel => exact ⟨rfl, .inr (.inl ⟨rfl, rfl, rfl⟩)⟩
    · go_wp2_with (go_at_call 87; go_must (refine (digit_52 _).mono ?_; rintro e w' ⟨rfl, hw⟩; obtain rfl := hw.symm))
      go_roundg 0
      case measure => omega
      case rel => exact ⟨rfl, .inr (.inr ⟨rfl, rfl, rfl⟩)⟩
    · go_wp2_with (first
        | (go_at_call 87; go_must (refine (digit_59 _).mono ?_; rintro e w' ⟨rfl, hw⟩; obtain rfl := hw.symm))
        | (go_at_call 89; go_must (refine (charOf_34 _).mono ?_; rintro e w2 ⟨rfl, rfl⟩))
        | (go_at_call 88; go_must (refine (coded_34 _).mono ?_; rintro e w3 ⟨rfl, hb3⟩)))
      go_ret3
      exact ⟨rfl, ((Below.refl _ _).alloc (Nat.le_refl _) _).trans (hb3.mono (by simp))⟩

set_option maxHeartbeats 1000000 in
set_option maxRecDepth 100000 in
/-- At a text that begins with the numeric reference of character 39. -/
theorem ref_39 (s : ByteArray) (w : World) (hs : s.size ≤ 140737488355328) (hp0 : 0 < s.size) (hp1 : 1 < s.size) (hp2 : 2 < s.size) (hp3 : 3 < s.size) (hp4 : 4 < s.size) (h0 : s[0]'hp0 = 38) (h1 : s[1]'hp1 = 35) (h2 : s[2]'hp2 = 51) (h3 : s[3]'hp3 = 57) (h4 : s[4]'hp4 = 59) (at' : Bool) :
    Calls Tryz.prog 53 #[.string s, .bool at'] w fun e w' => e = .returned (.tuple #[.string ⟨#[39]⟩, .int .i64 5, .bool true]) ∧ Below w.heap.size w w' := by
  have hc := numeric_39 s w hs hp2 hp3 hp4 h2 h3 h4
  have hl1 : (1 : Int) < (s.size : Int) := by omega
  have hd2 : decide ((s.size : Int) < 2) = false := decide_eq_false (by omega)
  clear h2 h3 h4
  go_enter Tryz.func53, Tryz.ntmps53
  go_wp2_with (go_at_call 71; go_must (refine hc.mono ?_; rintro e w' ⟨rfl, hb⟩))
  go_ret3
  exact ⟨rfl, hb⟩

set_option maxHeartbeats 1000000 in
set_option maxRecDepth 100000 in
/-- At a text that begins with the numeric reference of character 34. -/
theorem ref_34 (s : ByteArray) (w : World) (hs : s.size ≤ 140737488355328) (hp0 : 0 < s.size) (hp1 : 1 < s.size) (hp2 : 2 < s.size) (hp3 : 3 < s.size) (hp4 : 4 < s.size) (h0 : s[0]'hp0 = 38) (h1 : s[1]'hp1 = 35) (h2 : s[2]'hp2 = 51) (h3 : s[3]'hp3 = 52) (h4 : s[4]'hp4 = 59) (at' : Bool) :
    Calls Tryz.prog 53 #[.string s, .bool at'] w fun e w' => e = .returned (.tuple #[.string ⟨#[34]⟩, .int .i64 5, .bool true]) ∧ Below w.heap.size w w' := by
  have hc := numeric_34 s w hs hp2 hp3 hp4 h2 h3 h4
  have hl1 : (1 : Int) < (s.size : Int) := by omega
  have hd2 : decide ((s.size : Int) < 2) = false := decide_eq_false (by omega)
  clear h2 h3 h4
  go_enter Tryz.func53, Tryz.ntmps53
  go_wp2_with (go_at_call 71; go_must (refine hc.mono ?_; rintro e w' ⟨rfl, hb⟩))
  go_ret3
  exact ⟨rfl, hb⟩

end Go.Proofs.YtpkelgekannioaaGreatDoor

namespace Go.Proofs.YtpkelgekannioaaGreatDoor
open Go.RowKit Go.Shelf

theorem byte_at {t : ByteArray} {l : List UInt8} (h : t.data.toList = l) {j : Nat} {b : UInt8} (hb : l[j]? = some b) : ∃ hp : j < t.size, t[j]'hp = b := by
  subst h
  have hp : j < t.size := by have := (List.getElem?_eq_some_iff.1 hb).1; simpa using this
  refine ⟨hp, ?_⟩
  rw [Lib.data_getElem? t j hp] at hb
  exact Option.some.inj hb

theorem wl_append {u : List UInt8} {l : List UInt8} (h : u.all isAn = true) (hl : wl l = 0) : wl (u ++ l) = u.length := by
  induction u with
  | nil => exact hl
  | cons c u ih =>
    simp only [List.all_cons, Bool.and_eq_true] at h
    rw [List.cons_append, wl, if_pos h.1, ih h.2]
    rfl

/-- No other name of the list is a beginning of the word. -/
def aloneB (u : List UInt8) (k0 : Nat) : Bool :=
  ents.zipIdx.all fun x => x.2 == k0 || decide (u.length < x.1.1.data.toList.length) || !(u.take x.1.1.data.toList.length == x.1.1.data.toList)

theorem alone_of {u : ByteArray} {k0 : Nat} (h : aloneB u.data.toList k0 = true) (k : Nat) (e : Ent) (he : ents[k]? = some e) (hk : k ≠ k0) : u.size < e.1.size ∨ (e.1.size ≤ u.size ∧ ¬ u.extract 0 e.1.size = e.1) := by
  have hm : (e, k) ∈ ents.zipIdx := by
    rw [List.mem_zipIdx_iff_getElem?]
    simpa using he
  have := List.all_eq_true.1 h _ hm
  simp only [Bool.or_eq_true, beq_iff_eq, decide_eq_true_eq, Bool.not_eq_true', beq_eq_false_iff_ne, ne_eq, ← Lib.size_eq] at this
  rcases this with (h1 | h1) | h1
  · exact absurd h1 hk
  · exact .inl h1
  · by_cases hlt : u.size < e.1.size
    · exact .inl hlt
    · refine .inr ⟨by omega, fun h2 => h1 ?_⟩
      rw [← h2]
      simp

/-- At a text that begins with an ampersand, a name and a semicolon. -/
theorem ref_name (nm tx : List UInt8) (lg : Bool) (k0 : Nat) (t : ByteArray) (rest : List UInt8) (w : World) (hs : t.size ≤ 140737488355328) (ht : t.data.toList = 38 :: (nm ++ 59 :: rest))
    (hk0 : ents[k0]? = some (ent nm tx lg)) (hal : aloneB nm k0 = true) (han : nm.all isAn = true) (hne : nm ≠ []) (at' : Bool) :
    Calls Tryz.prog 53 #[.string t, .bool at'] w fun e w' => e = .returned (.tuple #[.string ⟨tx.toArray⟩, .int .i64 ((nm.length : Int) + 2), .bool true]) ∧ Below w.heap.size w w' := by
  have hsz : t.size = nm.length + rest.length + 2 := by rw [Lib.size_eq, ht]; simp; omega
  obtain ⟨hp0, h0⟩ := byte_at ht (j := 0) (b := 38) rfl
  have hx : (t.extract 1 t.size).data.toList = nm ++ 59 :: rest := by rw [Lib.extract_to_end, ht]; rfl
  have hus : (⟨nm.toArray⟩ : ByteArray).size = nm.length := by rw [Lib.size_eq]
  have hpu : (⟨nm.toArray⟩ : ByteArray).size + 1 < t.size := by rw [hus]; omega
  obtain ⟨hq, hsc⟩ := byte_at ht (j := (⟨nm.toArray⟩ : ByteArray).size + 1) (b := 59) (by rw [hus]; simp)
  obtain ⟨c, nm', rfl⟩ : ∃ c nm', nm = c :: nm' := by cases nm with | nil => exact absurd rfl hne | cons c l => exact ⟨c, l, rfl⟩
  obtain ⟨hp1, h1⟩ := byte_at ht (j := 1) (b := c) rfl
  have hc : isAn c = true := by simp only [List.all_cons, Bool.and_eq_true] at han; exact han.1
  have h := ref_named t ⟨(c :: nm').toArray⟩ ⟨tx.toArray⟩ lg k0 w hs hk0 (alone_of hal) (by rw [hx, wl_append han (by rfl), hus]) (str_same (by
      rw [Lib.toList_data, Lib.toList_data, Lib.extract_data, hx, hus]
      simp)) hp0 hp1 hpu h0 (by
      rw [h1]
      intro e
      have : c = 35 := UInt8.toNat_inj.1 (by show c.toNat = 35; omega)
      rw [this] at hc
      exact absurd hc (by decide)) hsc at'
  rw [hus] at h
  exact h

/-- At what one of the five characters is escaped to. -/
theorem ref_esc (c : UInt8) (t : ByteArray) (rest : List UInt8) (w : World) (hs : t.size ≤ 140737488355328) (hc : c = 38 ∨ c = 39 ∨ c = 60 ∨ c = 62 ∨ c = 34) (ht : t.data.toList = escB c ++ rest) (at' : Bool) :
    Calls Tryz.prog 53 #[.string t, .bool at'] w fun e w' => e = .returned (.tuple #[.string ⟨#[c]⟩, .int .i64 (escB c).length, .bool true]) ∧ Below w.heap.size w w' := by
  rcases hc with rfl | rfl | rfl | rfl | rfl
  · exact ref_name [97, 109, 112] [38] true 0 t rest w hs ht rfl (by decide) (by decide) (by decide) at'
  · obtain ⟨hp0, h0⟩ := byte_at ht (j := 0) (b := 38) rfl
    obtain ⟨hp1, h1⟩ := byte_at ht (j := 1) (b := 35) rfl
    obtain ⟨hp2, h2⟩ := byte_at ht (j := 2) (b := 51) rfl
    obtain ⟨hp3, h3⟩ := byte_at ht (j := 3) (b := 57) rfl
    obtain ⟨hp4, h4⟩ := byte_at ht (j := 4) (b := 59) rfl
    exact ref_39 t w hs hp0 hp1 hp2 hp3 hp4 h0 h1 h2 h3 h4 at'
  · exact ref_name [108, 116] [60] true 1 t rest w hs ht rfl (by decide) (by decide) (by decide) at'
  · exact ref_name [103, 116] [62] true 2 t rest w hs ht rfl (by decide) (by decide) (by decide) at'
  · obtain ⟨hp0, h0⟩ := byte_at ht (j := 0) (b := 38) rfl
    obtain ⟨hp1, h1⟩ := byte_at ht (j := 1) (b := 35) rfl
    obtain ⟨hp2, h2⟩ := byte_at ht (j := 2) (b := 51) rfl
    obtain ⟨hp3, h3⟩ := byte_at ht (j := 3) (b := 52) rfl
    obtain ⟨hp4, h4⟩ := byte_at ht (j := 4) (b := 59) rfl
    exact ref_34 t w hs hp0 hp1 hp2 hp3 hp4 h0 h1 h2 h3 h4 at'


/-- Is it one of the five. -/
def five (c : UInt8) : Prop := c = 38 ∨ c = 39 ∨ c = 60 ∨ c = 62 ∨ c = 34
instance (c : UInt8) : Decidable (five c) := by unfold five; infer_instance

end Go.Proofs.YtpkelgekannioaaGreatDoor
