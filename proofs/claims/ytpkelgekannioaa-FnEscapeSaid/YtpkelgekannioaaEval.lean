/- A piece of code without calls, loops and open orders, run as it stands: where the run comes to an end, the call has that end. For every world, no condition. -/
import Derived.Test.YtpkelgekannioaaProg
import Derived.WalkKit
import Derived.KernelRfl
import Derived.Laws.BytesArg
namespace Go.Proofs.Ytpkelgekannioaa
open Go.RowKit

/-- A list of operations, run one behind the other; what a guard leaves out is left out. -/
def evalOps (P : Program) (ops : Array Oper) : List Oper → Act → World → Option (Act × World)
  | [], a, w => some (a, w)
  | o :: rest, a, w =>
    if Region.wanted o (yielded ops a.tmps) then
      match (execOp a.eval o).run P w with
      | .ok (.value v) w' => evalOps P ops rest (a.put o.dst v) w'
      | .ok .skip w' => evalOps P ops rest (a.put o.dst undef) w'
      | _ => none
    else evalOps P ops rest (a.put o.dst undef) w

theorem wpList_evalOps {P : Program} {ops : Array Oper} {Q : Exit → Act → World → Prop} : ∀ (l : List Oper) (a : Act) (w : World) (a' : Act) (w' : World),
    evalOps P ops l a w = some (a', w') → Q .normal a' w' → wpList P ops Q l a w
  | [], a, w, a', w', h, hq => by
    simp only [evalOps, Option.some.injEq, Prod.mk.injEq] at h
    obtain ⟨rfl, rfl⟩ := h
    exact wpList_nil hq
  | o :: rest, a, w, a', w', h, hq => by
    unfold evalOps at h
    refine wpList_step fun K hK => ?_
    split at h
    · rename_i hg
      rw [if_pos hg]
      unfold Oper.wp
      split at h
      · rename_i v w1 hr
        rw [hr, Oper.upon_value]
        exact hK _ _ (wpList_evalOps rest _ _ _ _ h hq)
      · rename_i w1 hr
        rw [hr, Oper.upon_skip]
        exact hK _ _ (wpList_evalOps rest _ _ _ _ h hq)
      · cases h
    · rename_i hg
      rw [if_neg hg]
      exact hK _ _ (wpList_evalOps rest _ _ _ _ h hq)

/-- A piece of code, run as it stands. -/
def evalCode (P : Program) : Code → Act → World → Option (Exit × Act × World)
  | .skip, a, w => some (.normal, a, w)
  | .ret, a, w => some (.ret, a, w)
  | .exit id, a, w => some (.exit id, a, w)
  | .region _ ops false, a, w => (evalOps P ops ops.toList a w).map fun p => (.normal, p.1, p.2)
  | .seq x y, a, w => match evalCode P x a w with
    | some (.normal, a', w') => evalCode P y a' w'
    | r => r
  | .cond c x y, a, w => match a.eval c with
    | .bool true => evalCode P x a w
    | .bool false => evalCode P y a w
    | _ => none
  | .block id c, a, w => match evalCode P c a w with
    | some (.exit id', a', w') => if id' = id then some (.normal, a', w') else some (.exit id', a', w')
    | r => r
  | _, _, _ => none

theorem wp_evalCode {P : Program} : ∀ (c : Code) (Q : Exit → Act → World → Prop) (a : Act) (w : World) (e : Exit) (a' : Act) (w' : World),
    evalCode P c a w = some (e, a', w') → Q e a' w' → c.wp P Q a w
  | .skip, Q, a, w, e, a', w', h, hq => by
    simp only [evalCode, Option.some.injEq, Prod.mk.injEq] at h
    obtain ⟨rfl, rfl, rfl⟩ := h
    exact wp_skip hq
  | .ret, Q, a, w, e, a', w', h, hq => by
    simp only [evalCode, Option.some.injEq, Prod.mk.injEq] at h
    obtain ⟨rfl, rfl, rfl⟩ := h
    exact wp_ret hq
  | .exit id, Q, a, w, e, a', w', h, hq => by
    simp only [evalCode, Option.some.injEq, Prod.mk.injEq] at h
    obtain ⟨rfl, rfl, rfl⟩ := h
    exact wp_exit hq
  | .region id ops false, Q, a, w, e, a', w', h, hq => by
    simp only [evalCode] at h
    cases h1 : evalOps P ops ops.toList a w with
    | none => rw [h1] at h; cases h
    | some p =>
      obtain ⟨a1, w1⟩ := p
      rw [h1] at h
      simp only [Option.map_some, Option.some.injEq, Prod.mk.injEq] at h
      obtain ⟨rfl, rfl, rfl⟩ := h
      exact wp_region_list (wpList_evalOps _ _ _ _ _ h1 hq)
  | .region id ops true, Q, a, w, e, a', w', h, hq => by simp [evalCode] at h
  | .seq x y, Q, a, w, e, a', w', h, hq => by
    simp only [evalCode] at h
    refine wp_seq ?_
    split at h
    · rename_i a1 w1 h1
      exact wp_evalCode x _ a w .normal a1 w1 h1 (wp_evalCode y Q a1 w1 e a' w' h hq)
    · rename_i r hr
      refine wp_evalCode x _ a w e a' w' h ?_
      cases e with
      | normal => exact absurd h (hr _ _)
      | _ => exact hq
  | .cond c x y, Q, a, w, e, a', w', h, hq => by
    simp only [evalCode] at h
    split at h
    · rename_i hc
      exact wp_cond_true hc (wp_evalCode x Q a w e a' w' h hq)
    · rename_i hc
      exact wp_cond_false hc (wp_evalCode y Q a w e a' w' h hq)
    · cases h
  | .block id c, Q, a, w, e, a', w', h, hq => by
    simp only [evalCode] at h
    refine wp_block ?_
    split at h
    · rename_i id' a1 w1 h1
      split at h
      · rename_i hid
        simp only [Option.some.injEq, Prod.mk.injEq] at h
        obtain ⟨rfl, rfl, rfl⟩ := h
        exact wp_evalCode c _ a w _ _ _ h1 (by simp only [Exit.inBlock, if_pos hid]; exact hq)
      · rename_i hid
        simp only [Option.some.injEq, Prod.mk.injEq] at h
        obtain ⟨rfl, rfl, rfl⟩ := h
        exact wp_evalCode c _ a w _ _ _ h1 (by simp only [Exit.inBlock, if_neg hid]; exact hq)
    · rename_i r hr
      refine wp_evalCode c _ a w e a' w' h ?_
      cases e with
      | exit id' => exact absurd h (hr _ _ _)
      | _ => exact hq
  | .loop c, Q, a, w, e, a', w', h, hq => by simp [evalCode] at h
  | .rangeFunc _ _ _ _, Q, a, w, e, a', w', h, hq => by simp [evalCode] at h
  | .scope _, Q, a, w, e, a', w', h, hq => by simp [evalCode] at h
  | .label _, Q, a, w, e, a', w', h, hq => by simp [evalCode] at h
  | .goto _, Q, a, w, e, a', w', h, hq => by simp [evalCode] at h
  | .refuse _, Q, a, w, e, a', w', h, hq => by simp [evalCode] at h

theorem calls_of_evalFn {P : Program} {f : FuncId} {fn : Func} {c : Code} {args : Array Value} {w w' : World} {v : Value} {R : Ending → World → Prop}
    (hf : P.funcs[f]? = some fn) (hb : fn.body = some c)
    (h : (match evalCode P c { tmps := args ++ Array.replicate (fn.ntmps - args.size) undef, defers := [] } w with
      | some (.ret, a, w1) => some (a.defers, (results fn a.tmps).run P w1, w1)
      | _ => none) = some ([], .ok v w', w')) (hr : R (.returned v) w') : Calls P f args w R := by
  refine calls_of_wp hf hb ?_
  split at h
  · rename_i a w1 h1
    simp only [Option.some.injEq, Prod.mk.injEq] at h
    obtain ⟨hd, hv, rfl⟩ := h
    exact wp_evalCode c _ _ _ _ _ _ h1 ⟨hd, v, hv, hr⟩
  · cases h

/-- spec.charOf at a number that is a plain character. -/
def charTable : List Int := [0x20ac, 0x81, 0x201a, 0x192, 0x201e, 0x2026, 0x2020, 0x2021, 0x2c6, 0x2030, 0x160, 0x2039, 0x152, 0x8d, 0x17d, 0x8f,
  0x90, 0x2018, 0x2019, 0x201c, 0x201d, 0x2022, 0x2013, 0x2014, 0x2dc, 0x2122, 0x161, 0x203a, 0x153, 0x9d, 0x17e, 0x178]
def charCells : Obj := .cells (charTable.map (Value.int .i64)).toArray 3

theorem charOf_39 (w : World) : Calls Try.prog 21 #[.int .i64 39] w fun e w' => e = .returned (.int .i64 39) ∧ w' = w.alloc charCells :=
  calls_of_evalFn Try.func21 rfl (by kernel_rfl) ⟨rfl, rfl⟩
theorem charOf_34 (w : World) : Calls Try.prog 21 #[.int .i64 34] w fun e w' => e = .returned (.int .i64 34) ∧ w' = w.alloc charCells :=
  calls_of_evalFn Try.func21 rfl (by kernel_rfl) ⟨rfl, rfl⟩

set_option maxHeartbeats 1000000 in
set_option maxRecDepth 100000 in
theorem coded_39 (w : World) : Calls Try.prog 20 #[.int .i64 39] w fun e w' => e = .returned (.string ⟨#[39]⟩) ∧ Below w.heap.size w w' := by
  have hcv := run_convert_bytes_arg (P := Try.prog) ((w.alloc (.cells #[.int .i64 39] 3)).alloc (.cells #[.int .u8 39] 5)) 37 5 Try.underlying37 Try.underlying5 (w.heap.size + 1) 0 1 1 [39] rfl
    (fun i hi => by obtain rfl : i = 0 := by omega
                    rw [World.cell?_alloc_at _ _ _ _ (by simp)]; rfl) 9 Try.underlying9
  rw [show strOfNums [39] = ⟨#[39]⟩ from rfl] at hcv
  go_enter Try.func20, Try.ntmps20
  go_wp2
  go_ret
  exact ⟨rfl, by repeat (first | exact Below.refl _ _ | refine Below.alloc ?_ (by simp) _ | refine Below.drew ?_)⟩

set_option maxHeartbeats 1000000 in
set_option maxRecDepth 100000 in
theorem coded_34 (w : World) : Calls Try.prog 20 #[.int .i64 34] w fun e w' => e = .returned (.string ⟨#[34]⟩) ∧ Below w.heap.size w w' := by
  have hcv := run_convert_bytes_arg (P := Try.prog) ((w.alloc (.cells #[.int .i64 34] 3)).alloc (.cells #[.int .u8 34] 5)) 37 5 Try.underlying37 Try.underlying5 (w.heap.size + 1) 0 1 1 [34] rfl
    (fun i hi => by obtain rfl : i = 0 := by omega
                    rw [World.cell?_alloc_at _ _ _ _ (by simp)]; rfl) 9 Try.underlying9
  rw [show strOfNums [34] = ⟨#[34]⟩ from rfl] at hcv
  go_enter Try.func20, Try.ntmps20
  go_wp2
  go_ret
  exact ⟨rfl, by repeat (first | exact Below.refl _ _ | refine Below.alloc ?_ (by simp) _ | refine Below.drew ?_)⟩

/-- A named reference: its name, what it stands for, and whether it also counts without a semicolon. -/
abbrev Ent : Type := ByteArray × ByteArray × Bool
def ent (n t : List UInt8) (l : Bool) : Ent := (⟨n.toArray⟩, ⟨t.toArray⟩, l)
def entCells (es : List Ent) : List Value := es.flatMap fun e => [.string e.1, .string e.2.1, .bool e.2.2]

def ents : List Ent := [
  ent [97, 109, 112] [38] true,
  ent [108, 116] [60] true,
  ent [103, 116] [62] true,
  ent [113, 117, 111, 116] [34] true,
  ent [65, 77, 80] [38] true,
  ent [76, 84] [60] true,
  ent [110, 98, 115, 112] [194, 160] true,
  ent [99, 111, 112, 121] [194, 169] true,
  ent [114, 101, 103] [194, 174] true,
  ent [97, 97, 99, 117, 116, 101] [195, 161] true,
  ent [65, 97, 99, 117, 116, 101] [195, 129] true,
  ent [101, 97, 99, 117, 116, 101] [195, 169] true,
  ent [97, 117, 109, 108] [195, 164] true,
  ent [111, 117, 109, 108] [195, 182] true,
  ent [117, 117, 109, 108] [195, 188] true,
  ent [115, 122, 108, 105, 103] [195, 159] true,
  ent [99, 99, 101, 100, 105, 108] [195, 167] true,
  ent [110, 116, 105, 108, 100, 101] [195, 177] true,
  ent [112, 111, 117, 110, 100] [194, 163] true,
  ent [121, 101, 110] [194, 165] true,
  ent [99, 101, 110, 116] [194, 162] true,
  ent [115, 101, 99, 116] [194, 167] true,
  ent [112, 97, 114, 97] [194, 182] true,
  ent [100, 101, 103] [194, 176] true,
  ent [112, 108, 117, 115, 109, 110] [194, 177] true,
  ent [116, 105, 109, 101, 115] [195, 151] true,
  ent [100, 105, 118, 105, 100, 101] [195, 183] true,
  ent [102, 114, 97, 99, 49, 50] [194, 189] true,
  ent [108, 97, 113, 117, 111] [194, 171] true,
  ent [114, 97, 113, 117, 111] [194, 187] true,
  ent [109, 105, 100, 100, 111, 116] [194, 183] true,
  ent [109, 105, 99, 114, 111] [194, 181] true,
  ent [110, 111, 116] [194, 172] true,
  ent [115, 104, 121] [194, 173] true,
  ent [97, 112, 111, 115] [39] false,
  ent [101, 117, 114, 111] [226, 130, 172] false,
  ent [104, 101, 108, 108, 105, 112] [226, 128, 166] false,
  ent [109, 100, 97, 115, 104] [226, 128, 148] false,
  ent [110, 100, 97, 115, 104] [226, 128, 147] false,
  ent [108, 115, 113, 117, 111] [226, 128, 152] false,
  ent [114, 115, 113, 117, 111] [226, 128, 153] false,
  ent [108, 100, 113, 117, 111] [226, 128, 156] false,
  ent [114, 100, 113, 117, 111] [226, 128, 157] false,
  ent [98, 117, 108, 108] [226, 128, 162] false,
  ent [97, 108, 112, 104, 97] [206, 177] false,
  ent [98, 101, 116, 97] [206, 178] false,
  ent [108, 97, 114, 114] [226, 134, 144] false,
  ent [114, 97, 114, 114] [226, 134, 146] false,
  ent [105, 110, 102, 105, 110] [226, 136, 158] false,
  ent [110, 101] [226, 137, 160] false,
  ent [108, 101] [226, 137, 164] false,
  ent [103, 101] [226, 137, 165] false,
  ent [110, 111, 116, 105, 110] [226, 136, 137] false,
  ent [78, 111, 116, 69, 113, 117, 97, 108, 84, 105, 108, 100, 101] [226, 137, 130, 204, 184] false]

/-- spec.entities: a new row that holds the list. -/
theorem ents_any (w : World) :
    Calls Try.prog 14 #[] w fun e w' => e = .returned (.slice (some ⟨w.heap.size, 0, none⟩) 54 54) ∧ w' = w.alloc (.cells (entCells ents).toArray 34) :=
  calls_of_evalFn Try.func14 rfl (by kernel_rfl) ⟨rfl, rfl⟩

end Go.Proofs.Ytpkelgekannioaa
