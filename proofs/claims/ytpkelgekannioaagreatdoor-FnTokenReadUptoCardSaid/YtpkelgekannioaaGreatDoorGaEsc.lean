/- strings.IndexAny at any bytes, html.escape into a buffer, html.EscapeString, and that the law's test of the package says yes. Conditions: sizes below 2^47. -/
import Derived.Test.YtpkelgekannioaaGreatDoorShelf
import Derived.WalkKit
import Derived.WalkSpells
import Derived.WalkLawsBesides
import Derived.Lib.OthersKept
import Derived.Lib.TrimU
import Derived.Lib.Hide
import Derived.Deep.QuietTactic
import Derived.BigQuiet
import Derived.IntWalk
import Derived.Deep.LoopGhost
import Derived.Lib.IndexBytes
import Derived.Deep.DeepMust
import Derived.Deep.DeepFit
import Derived.Lib.BufferOld
import Derived.Deep.RegionHeld3
import Derived.Deep.DeepCutAuto
import Derived.Deep.RegionWith
import Derived.BigCall
import Derived.ChangeSame
set_option linter.unusedSimpArgs false
set_option linter.unusedVariables false

namespace Go.Proofs.YtpkelgekannioaaGreatDoor
open Go.RowKit Go.Shelf Go.BigFrame

theorem encode_high (r : Int) (h : 128 ≤ r) : 1 ≤ (Utf8.encode r).size ∧ (Utf8.encode r).size ≤ 4 ∧ ∀ (j : Nat) (hj : j < (Utf8.encode r).size), 128 ≤ ((Utf8.encode r)[j]'hj).toNat := by
  have key : ∀ c : Nat, 128 ≤ c → c < 1114112 → ∀ E : ByteArray, E = (if c < 0x80 then (⟨#[UInt8.ofNat c]⟩ : ByteArray)
      else if c < 0x800 then ⟨#[UInt8.ofNat (0xC0 + c / 64), UInt8.ofNat (0x80 + c % 64)]⟩
      else if c < 0x10000 then ⟨#[UInt8.ofNat (0xE0 + c / 4096), UInt8.ofNat (0x80 + c / 64 % 64), UInt8.ofNat (0x80 + c % 64)]⟩
      else ⟨#[UInt8.ofNat (0xF0 + c / 262144), UInt8.ofNat (0x80 + c / 4096 % 64), UInt8.ofNat (0x80 + c / 64 % 64), UInt8.ofNat (0x80 + c % 64)]⟩) →
      1 ≤ E.size ∧ E.size ≤ 4 ∧ ∀ (j : Nat) (hj : j < E.size), 128 ≤ (E[j]'hj).toNat := by
    intro c h1 h2 E hE
    have pick : ∀ (l : List UInt8), (∀ b ∈ l, 128 ≤ b.toNat) → ∀ E : ByteArray, E = ⟨l.toArray⟩ → ∀ (j : Nat) (hj : j < E.size), 128 ≤ (E[j]'hj).toNat := by
      intro l hl E hE j hj
      subst hE
      apply hl
      show l.toArray[j] ∈ l
      simp
    rw [if_neg (by omega)] at hE
    have hn : ∀ n, n < 256 → (UInt8.ofNat n).toNat = n := fun n hn => by simp; omega
    split at hE
    · refine ⟨by subst hE; exact (by decide : 1 ≤ 2), by subst hE; exact (by decide : 2 ≤ 4), pick [_, _] ?_ E hE⟩
      intro b hb
      simp only [List.mem_cons, List.mem_nil_iff, or_false] at hb
      rcases hb with rfl | rfl <;> rw [hn _ (by omega)] <;> omega
    · split at hE
      · refine ⟨by subst hE; exact (by decide : 1 ≤ 3), by subst hE; exact (by decide : 3 ≤ 4), pick [_, _, _] ?_ E hE⟩
        intro b hb
        simp only [List.mem_cons, List.mem_nil_iff, or_false] at hb
        rcases hb with rfl | rfl | rfl <;> rw [hn _ (by omega)] <;> omega
      · refine ⟨by subst hE; exact (by decide : 1 ≤ 4), by subst hE; exact (by decide : 4 ≤ 4), pick [_, _, _, _] ?_ E hE⟩
        intro b hb
        simp only [List.mem_cons, List.mem_nil_iff, or_false] at hb
        rcases hb with rfl | rfl | rfl | rfl <;> rw [hn _ (by omega)] <;> omega
  refine key (if Utf8.valid r then r.toNat else Utf8.runeError) ?_ ?_ _ rfl
  · split
    · omega
    · decide
  · split
    · rename_i hv
      simp [Utf8.valid] at hv
      omega
    · decide

theorem indexByte_high : ∀ (l : List UInt8) (y : UInt8), 128 ≤ y.toNat → (∀ b ∈ l, b.toNat < 128) → Lib.indexByte l y = -1
  | [], _, _, _ => rfl
  | b :: l, y, hy, h => by
    have hb : (b == y) = false := beq_eq_false_iff_ne.2 fun e => by have := h b (by simp); subst e; omega
    rw [Lib.indexByte, indexByte_high l y hy (fun c hc => h c (by simp [hc])), hb]
    rfl

set_option maxHeartbeats 1000000 in
set_option maxRecDepth 100000 in
theorem idxr_high (s : ByteArray) (r : Int) (w : World) (h0 : 128 ≤ r) (h1 : r ≤ 1114111) (hne : (r == 65533) = false) (_hs : s.size ≤ 100)
    (hascii : ∀ (j : Nat) b, s.data.toList[j]? = some b → b.toNat < 128) :
    Calls Tryz.prog 64 #[.string s, .int .i32 r] w fun e w' => e = .returned (.int .i64 (-1)) ∧ Below w.heap.size w w' := by
  have HA := Lib.hid hascii
  clear hascii
  have hd : decide (r < 128) = false := decide_eq_false (by omega)
  go_enter Tryz.func64, Tryz.ntmps64
  cases hv : Lib.validRune r
  · go_wp2_with (first | (go_at_call 77; go_must (refine (Tryz.utf8_ValidRune r _).mono ?_; rintro e w' ⟨rfl, rfl⟩; rw [hv])))
    go_ret
    exact ⟨rfl, Below.refl _ _⟩
  · go_wp2_with (first | (go_at_call 77; go_must (refine (Tryz.utf8_ValidRune r _).mono ?_; rintro e w' ⟨rfl, rfl⟩; rw [hv])))
    obtain ⟨E, hE⟩ : ∃ E, Utf8.encode r = E := ⟨_, rfl⟩
    have hEh := encode_high r h0
    rw [hE] at hEh
    obtain ⟨hE1, hE4, hEb⟩ := hEh
    have HB := Lib.hid hEb
    clear hEb
    obtain ⟨k, hk⟩ : ∃ k, E.size = k + 1 := ⟨E.size - 1, by omega⟩
    have hk4 : k < 4 := by omega
    clear hE1 hE4
    go_step3
    go_wp2_with fail
    go_loop [9] (fun i => i = .int .i64 (k : Int)) (fun _ => 1)
    case atStart => rfl
    case round =>
      obtain rfl := hrel
      by_cases hlt : k < s.size
      · obtain ⟨x, hx⟩ : ∃ x : UInt8, s[k]'hlt = x := ⟨_, rfl⟩
        have hke : k < E.size := by omega
        obtain ⟨y, hy⟩ : ∃ y : UInt8, E[k]'hke = y := ⟨_, rfl⟩
        have hyh : 128 ≤ y.toNat := by rw [← hy]; exact HB.out k hke
        have hxl : x.toNat < 128 := HA.out k x (by rw [← hx]; exact Lib.data_getElem? s k hlt)
        have hxy : ((x.toNat : Int) == (y.toNat : Int)) = false := beq_eq_false_iff_ne.2 (by omega)
        have hxy2 : ((x.toNat : Int) != (y.toNat : Int)) = true := by rw [bne, hxy]; rfl
        have hib : Lib.indexByte (List.take (s.size - (k + 1)) (List.drop (k + 1) s.data.toList)) y = -1 :=
          indexByte_high _ _ hyh fun b hb => by
            obtain ⟨j, hj⟩ := List.getElem?_of_mem (List.mem_of_mem_drop (List.mem_of_mem_take hb))
            exact HA.out j b hj
        clear hyh hxl
        go_wp2_with fail
        go_step3
        go_wp2_with fail
        go_quiet (fail)
        go_wp2_with fail
        have e1 : IntKind.i64.wrap ((k : Int) + 1) = (k : Int) + 1 := IntWalk.i64_in _ (by omega)
        have e2 : 0 ≤ (k : Int) + 1 := by omega
        have e3 : ((k : Int) + 1).toNat = k + 1 := by omega
        have e4 : (k : Int) + 1 ≤ (s.size : Int) := by omega
        go_quiet ((go_at_call 76; refine (Tryz.strings_IndexByte _ _ _).mono ?_; rintro e w'' ⟨rfl, rfl⟩; exact ⟨rfl, _, rfl⟩))
        clear e1 e2 e3 e4
        go_wp2_with fail
        rw [Exit.noGoto_ret]
        simp +zetaDelta only [Exit.inBlock, Exit.then, Exit.noGoto]
        go_ret
        exact ⟨rfl, ⟨rfl, rfl, rfl, Nat.le_refl _, fun _ _ => rfl⟩⟩
      · go_wp2_with fail
        go_ret
        exact ⟨rfl, Below.refl _ _⟩

set_option maxHeartbeats 1000000 in
set_option maxRecDepth 100000 in
/-- At U+FFFD: the text is gone through rune by rune: no ASCII byte is it. -/
theorem idxr_fffd_at (s : ByteArray) (r : Int) (w : World) (hr : (r == 65533) = true) (hr1 : 128 ≤ r) (_hs : s.size ≤ 100) (hascii : ∀ (j : Nat) b, s.data.toList[j]? = some b → b.toNat < 128) :
    Calls Tryz.prog 64 #[.string s, .int .i32 r] w fun e w' => e = .returned (.int .i64 (-1)) ∧ Below w.heap.size w w' := by
  have HA := Lib.hid hascii
  clear hascii
  have hd : decide (r < 128) = false := decide_eq_false (by omega)
  go_enter Tryz.func64, Tryz.ntmps64
  go_wp2_with fail
  go_loopg [5, 6] s.size (fun g _ _ wx => ∃ i : Nat, i + g = s.size ∧ wx = w.iter s i)
  case atStart => exact ⟨0, by omega, rfl⟩
  case round =>
    obtain ⟨i, hig, rfl⟩ := hrel
    cases gk with
    | zero =>
      obtain rfl : i = s.size := by omega
      have hnx := run_next_end (P := Tryz.prog) w s s.size
      go_wp2
      go_ret
      exact ⟨rfl, (Below.refl _ _).alloc (Nat.le_refl _) _⟩
    | succ g =>
      have hi : i < s.size := by omega
      obtain ⟨x, hx⟩ : ∃ x : UInt8, s[i]'hi = x := ⟨_, rfl⟩
      have hx128 : x.toNat < 128 := HA.out i x (by rw [← hx]; exact Lib.data_getElem? s i hi)
      have hnx := fun ty => run_next_ascii (P := Tryz.prog) w s i ty hi (by rw [hx]; exact hx128)
      rw [hx] at hnx
      have hne : ((x.toNat : Int) == 65533) = false := beq_eq_false_iff_ne.2 (by omega)
      clear hx
      go_wp2
      go_roundg g
      case measure => omega
      case rel => exact ⟨i + 1, by omega, rfl⟩

/-- At whatever rune from 128 on: no ASCII byte is it. -/
theorem idxr_none (s : ByteArray) (r : Int) (w : World) (h0 : 128 ≤ r) (h1 : r ≤ 1114111) (hs : s.size ≤ 100) (hascii : ∀ (j : Nat) b, s.data.toList[j]? = some b → b.toNat < 128) :
    Calls Tryz.prog 64 #[.string s, .int .i32 r] w fun e w' => e = .returned (.int .i64 (-1)) ∧ Below w.heap.size w w' := by
  cases h : (r == 65533)
  · exact idxr_high s r w h0 h1 h hs hascii
  · exact idxr_fffd_at s r w h h0 hs hascii

open Go.Lib in
set_option maxHeartbeats 8000000 in
set_option maxRecDepth 1000000 in
theorem anyLong {P : Program} {ρ : Ren} (L : Lays.n153 P ρ) (hv116 : ∀ w, (zeroValue (ρ.t 116)).run P w = .ok (.agg (Array.replicate 256 (.bool false))) w) (hi116 : (P.info? (ρ.t 116)).map (·.size) = some 256) (s chars : ByteArray) (w : World) (h2 : 2 ≤ chars.size) (h8 : 8 < s.size) (hs : s.size ≤ 140737488355328) (hcs : chars.size < 4294967281)
    (hascii : ∀ (j : Nat) b, chars.data.toList[j]? = some b → b.toNat < 128) :
    Calls P (ρ.f 153) #[.string s, .string chars] w fun e w' => e = .returned (.int .i64 (Lib.indexAny s.data.toList chars.data.toList)) ∧ w' = ((w.alloc (.cells (Lib.setCells chars.data.toList) (ρ.t 116))).alloc (.cells (Lib.setCells chars.data.toList) (ρ.t 116))) := by
  have hM := Any.strings_makeASCIISet { L with } hv116 hi116 chars w hcs hascii
  clear hascii
  have hemp : chars.toList.isEmpty = false := by
    rw [Lib.toList_data]
    cases h : chars.data.toList with
    | nil => have := Lib.size_eq chars; rw [h, List.length_nil] at this; omega
    | cons _ _ => rfl
  have hn1 : ((chars.size : Int) == 1) = false := beq_eq_false_iff_ne.2 (by omega)
  have h8z : decide ((8 : Int) < (s.size : Int)) = true := decide_eq_true (by omega)
  have hsc : (storeCells ⟨w.heap.size + 1, 0, none⟩ (Lib.setCells chars.data.toList).toList 0).run P ((w.alloc (.cells (Lib.setCells chars.data.toList) (ρ.t 116))).alloc (.cells (Array.replicate 256 (.bool false)) (ρ.t 116))) = .ok () ((w.alloc (.cells (Lib.setCells chars.data.toList) (ρ.t 116))).alloc (.cells (Lib.setCells chars.data.toList) (ρ.t 116))) := by
    have := run_storeCells_new (P := P) (w.alloc (.cells (Lib.setCells chars.data.toList) (ρ.t 116))) (ρ.t 116) (Array.replicate 256 (.bool false)) (Lib.setCells chars.data.toList) (by rw [Lib.setCells_size]; exact hi116) (by rw [Lib.setCells_size, Array.size_replicate]) (Lib.setCells_one _)
    simpa using this
  have hsz := Lib.setCells_size chars.data.toList
  have hcellAt : ∀ x : UInt8, ((w.alloc (.cells (Lib.setCells chars.data.toList) (ρ.t 116))).alloc (.cells (Lib.setCells chars.data.toList) (ρ.t 116))).cell? ⟨w.heap.size + 1, x.toNat, none⟩ = some (.bool (chars.data.toList.contains x)) := fun x => by
    rw [World.cell?_alloc_at _ _ _ _ (by simp), Lib.setCells_at]
  have HC : Aside (∀ x : UInt8, ((w.alloc (.cells (Lib.setCells chars.data.toList) (ρ.t 116))).alloc (.cells (Lib.setCells chars.data.toList) (ρ.t 116))).cell? ⟨w.heap.size + 1, x.toNat, none⟩ = some (.bool (chars.data.toList.contains x))) := hcellAt
  clear hcellAt
  have t3 := L.t3; have a3 := L.a3; have z3 := L.z3; have v3 := L.v3
  have t4 := L.t4; have a4 := L.a4; have z4 := L.z4; have v4 := L.v4
  have t5 := L.t5; have a5 := L.a5; have z5 := L.z5; have v5 := L.v5
  have t9 := L.t9; have a9 := L.a9; have z9 := L.z9; have v9 := L.v9
  have t21 := L.t21; have a21 := L.a21; have z21 := L.z21; have v21 := L.v21
  have t116 := L.t116
  have e226 : ∀ args w, (callFunc (ρ.f 226) args).run P w = .ok (.enter (ρ.f 226) args) w := enters_of L.f226 (by kernel_rfl) rfl
  have e227 : ∀ args w, (callFunc (ρ.f 227) args).run P w = .ok (.enter (ρ.f 227) args) w := enters_of L.f227 (by kernel_rfl) rfl
  have e228 : ∀ args w, (callFunc (ρ.f 228) args).run P w = .ok (.enter (ρ.f 228) args) w := enters_of L.f228 (by kernel_rfl) rfl
  go_enter L.f153, Body.n153_ntmps ρ
  go_wp2_with (first
    | (go_at_fn (ρ.f 226); refine (Any.strings_shouldUseASCIISet { L with } _ _).mono ?_; rintro e w' ⟨rfl, hw⟩; rw [hw, h8z])
    | (go_at_fn (ρ.f 227); refine hM.mono ?_; rintro e w' ⟨rfl, hw⟩; rw [hw]))
  -- (the whole set goes into a variable of IndexAny's own: that one step by hand: Derived/Deep/WholeRow.lean's head)
  simp only [L.z116, Result.andThen, ↓reduceIte, hsc]
  rw [Oper.upon_skip]
  go_wp2
  clear hM hsc
  go_loopg [8] s.size (fun g s8 wx => ∃ i : Nat, i + g = s.size ∧ s8 = .int .i64 i ∧ wx = ((w.alloc (.cells (Lib.setCells chars.data.toList) (ρ.t 116))).alloc (.cells (Lib.setCells chars.data.toList) (ρ.t 116))) ∧ Lib.NoAny s.data.toList chars.data.toList i)
  case atStart => exact ⟨0, by omega, rfl, rfl, Lib.NoAny.zero _ _⟩
  case round =>
    obtain ⟨i, hig, rfl, rfl, hno⟩ := hrel
    have HN : Aside (Lib.NoAny s.data.toList chars.data.toList i) := hno
    clear hno
    cases gk with
    | zero =>
      obtain rfl : i = s.size := by omega
      have hiz : ¬ ((s.size : Int) < (s.size : Int)) := by omega
      go_wp2
      go_ret
      exact ⟨by rw [Lib.indexAny_none (by rw [← Lib.size_eq]; exact HN.out)]; rfl, rfl⟩
    | succ g =>
      have hi : i < s.size := by omega
      have hiz : (i : Int) < (s.size : Int) := by omega
      obtain ⟨x, hx⟩ : ∃ x : UInt8, s[i]'hi = x := ⟨_, rfl⟩
      have hxl : s.data.toList[i]? = some x := by rw [← hx]; exact Lib.data_getElem? s i hi
      have Hx : Aside (s.data.toList[i]? = some x) := hxl
      clear hxl
      have hcx := HC.out x
      cases hin : chars.data.toList.contains x <;> rw [hin] at hcx
      · go_wp2_with (go_at_fn (ρ.f 228); refine (Any.asciiSet_contains { L with } _ x _ _ hcx).mono ?_; rintro e w' ⟨rfl, hw⟩; rw [hw])
        go_roundg g
        case measure => omega
        case rel => exact ⟨i + 1, by omega, by first | rfl | simp, rfl, HN.out.succ Hx.out hin⟩
      · go_wp2_with (go_at_fn (ρ.f 228); refine (Any.asciiSet_contains { L with } _ x _ _ hcx).mono ?_; rintro e w' ⟨rfl, hw⟩; rw [hw])
        go_ret
        exact ⟨by rw [Lib.indexAny_hit HN.out Hx.out hin]; rfl, rfl⟩


theorem get_of_list {s : ByteArray} {n : Nat} {b : UInt8} (h : s.data.toList[n]? = some b) : s.get! n = b := by
  obtain ⟨hn, hb⟩ := List.getElem?_eq_some_iff.1 h
  have hs : n < s.size := by simpa using hn
  have := get_at s n hs
  rw [Nat.add_zero] at this
  rw [this, ← hb]
  simp
  rfl

/-- What a decoded character that does not begin with an ASCII byte is made of: no ASCII byte. -/
theorem decode_span (s : ByteArray) (pos : Nat) (h : pos < s.size) (ha : 128 ≤ (s[pos]'h).toNat) :
    1 ≤ (Utf8.decode s pos).2 ∧ pos + (Utf8.decode s pos).2 ≤ s.size ∧ ∀ j b, j < (Utf8.decode s pos).2 → s.data.toList[pos + j]? = some b → 128 ≤ b.toNat := by
  have h0 : (s.get! (pos + 0)) = s[pos]'h := get_at s pos h
  have hz : ∀ b, s.data.toList[pos + 0]? = some b → 128 ≤ b.toNat := fun b hb => by
    rw [← get_of_list hb, h0]; exact ha
  have hk : ∀ k b, ((s.get! (pos + k)).toNat / 64 == 2) = true → s.data.toList[pos + k]? = some b → 128 ≤ b.toNat := fun k b hc hb => by
    rw [get_of_list hb] at hc
    have := beq_iff_eq.1 hc
    omega
  have one : 1 ≤ 1 ∧ pos + 1 ≤ s.size ∧ ∀ j b, j < 1 → s.data.toList[pos + j]? = some b → 128 ≤ b.toNat :=
    ⟨Nat.le_refl _, h, fun j b hj hb => by obtain rfl : j = 0 := by omega
                                           exact hz b hb⟩
  have hn : ¬ (s.get! (pos + 0)).toNat < 0x80 := by rw [h0]; omega
  simp only [Utf8.decode]
  rw [if_neg hn]
  split
  · rename_i hc
    simp only [Bool.and_eq_true, decide_eq_true_eq] at hc
    split
    · exact ⟨(by decide : 1 ≤ 2), by omega, fun j b hj hb => by
        match j, hj, hb with
        | 0, _, hb => exact hz b hb
        | 1, _, hb => exact hk 1 b hc.2.2 hb⟩
    · exact one
  · split
    · rename_i hc
      simp only [Bool.and_eq_true, decide_eq_true_eq] at hc
      split
      · exact ⟨(by decide : 1 ≤ 3), by omega, fun j b hj hb => by
          match j, hj, hb with
          | 0, _, hb => exact hz b hb
          | 1, _, hb => exact hk 1 b hc.1.2.2 hb
          | 2, _, hb => exact hk 2 b hc.2.2 hb⟩
      · exact one
    · split
      · rename_i hc
        simp only [Bool.and_eq_true, decide_eq_true_eq] at hc
        split
        · exact ⟨(by decide : 1 ≤ 4), by omega, fun j b hj hb => by
            match j, hj, hb with
            | 0, _, hb => exact hz b hb
            | 1, _, hb => exact hk 1 b hc.1.1.2.2 hb
            | 2, _, hb => exact hk 2 b hc.1.2.2 hb
            | 3, _, hb => exact hk 3 b hc.2.2 hb⟩
        · exact one
      · exact one

theorem noAny_span {s : ByteArray} {chars : List UInt8} {pos K : Nat} (h : Lib.NoAny s.data.toList chars pos) (hc : ∀ c ∈ chars, c.toNat < 128)
    (hk : ∀ j b, j < K → s.data.toList[pos + j]? = some b → 128 ≤ b.toNat) : Lib.NoAny s.data.toList chars (pos + K) := fun j b hj hb => by
  by_cases hlt : j < pos
  · exact h j b hlt hb
  · have h1 := hk (j - pos) b (by omega) (by rw [show pos + (j - pos) = j by omega]; exact hb)
    rw [← Bool.not_eq_true]
    intro hm
    have := hc b (by simpa using hm)
    omega

open Go.Lib in
set_option maxHeartbeats 8000000 in
set_option maxRecDepth 1000000 in
/-- strings.IndexAny at a text of at most 8 bytes, whatever they are. -/
theorem anyShort (s chars : ByteArray) (w : World) (h2 : 2 ≤ chars.size) (hcs : chars.size ≤ 100) (h8 : s.size ≤ 8) (hascii : ∀ (j : Nat) b, chars.data.toList[j]? = some b → b.toNat < 128) :
    Calls Tryz.prog 44 #[.string s, .string chars] w fun e w' => e = .returned (.int .i64 (Lib.indexAny s.data.toList chars.data.toList)) ∧ Below w.heap.size w w' := by
  have HA : Aside (∀ (j : Nat) b, chars.data.toList[j]? = some b → b.toNat < 128) := hascii
  clear hascii
  have hemp : chars.toList.isEmpty = false := by
    rw [Lib.toList_data]
    cases h : chars.data.toList with
    | nil => have := Lib.size_eq chars; rw [h, List.length_nil] at this; omega
    | cons _ _ => rfl
  have hn1 : ((chars.size : Int) == 1) = false := beq_eq_false_iff_ne.2 (by omega)
  have h8z : decide ((8 : Int) < (s.size : Int)) = false := decide_eq_false (by omega)
  go_enter Tryz.func44, Tryz.ntmps44
  go_wp2_with (go_at_call 65; refine (Tryz.strings_shouldUseASCIISet _ _).mono ?_; rintro e w' ⟨rfl, hw⟩; rw [hw, h8z])
  go_loopg [9, 10] s.size (fun g _ _ wx => ∃ i : Nat, s.size ≤ i + g ∧ i ≤ s.size ∧ wx.heap[w.heap.size]? = some (.stringIter s i) ∧ Below w.heap.size w wx ∧ Lib.NoAny s.data.toList chars.data.toList i)
  case atStart => exact ⟨0, by omega, by omega, World.iter_heap w s 0, (Below.refl _ _).alloc (Nat.le_refl _) _, Lib.NoAny.zero _ _⟩
  case round =>
    obtain ⟨i, hig, hin, hit, hbw, hno⟩ := hrel
    have HN : Aside (Lib.NoAny s.data.toList chars.data.toList i) := hno
    clear hno
    by_cases hi : i < s.size
    · obtain ⟨g, rfl⟩ : ∃ g, gk = g + 1 := ⟨gk - 1, by omega⟩
      have hnx : ∀ ty, (Instr.next (.pointer (some ⟨w.heap.size, 0, none⟩)) true ty).run Tryz.prog wr = _ := fun ty => Lib.run_next_any_at wr w.heap.size s i ty hit hi
      obtain ⟨R, hR⟩ : ∃ R, (Utf8.decode s i).1 = R := ⟨_, rfl⟩
      obtain ⟨K, hK⟩ : ∃ K, (Utf8.decode s i).2 = K := ⟨_, rfl⟩
      rw [hR, hK] at hnx
      have hit2 := Lib.iterAt_heap wr w.heap.size s i (i + K) hit
      have hbw2 := Lib.below_iterAt hbw (k := w.heap.size) (Nat.le_refl _) s (i + K)
      obtain ⟨W, hWd⟩ : ∃ W, wr.iterAt w.heap.size s (i + K) = W := ⟨_, rfl⟩
      rw [hWd] at hnx hit2 hbw2
      have hWsz : w.heap.size < W.heap.size := (Array.getElem?_eq_some_iff.1 hit2).1
      clear hit hbw
      obtain ⟨x, hx⟩ : ∃ x : UInt8, s[i]'hi = x := ⟨_, rfl⟩
      have hxl : s.data.toList[i]? = some x := by rw [← hx]; exact Lib.data_getElem? s i hi
      by_cases hx128 : x.toNat < 128
      · have hdec := decode_ascii s i hi (by rw [hx]; exact hx128)
        rw [hx] at hdec
        obtain rfl : R = x.toNat := by rw [← hR, hdec]
        obtain rfl : K = 1 := by rw [← hK, hdec]
        clear hR hK hdec hx hWd
        have Hx : Aside (s.data.toList[i]? = some x) := hxl
        clear hxl
        have hcon := Lib.contains_iff_indexByte chars.data.toList x
        have hback : ((x.toNat : Int)).toNat.toUInt8 = x := by simp
        cases hinc : chars.data.toList.contains x
        · rw [hinc] at hcon
          have hlt : ¬ ((0 : Int) ≤ Lib.indexByte chars.data.toList x) := of_decide_eq_false hcon.symm
          clear hcon
          go_wp2_with (go_at_call 64; refine (Tryz.strings_IndexRune_ascii _ _ _ (by omega) (by omega)).mono ?_; rintro e w' ⟨rfl, hw⟩; rw [hw, hback])
          go_roundg g
          case measure => omega
          case rel => exact ⟨i + 1, by omega, by omega, hit2, hbw2, HN.out.succ Hx.out hinc⟩
        · rw [hinc] at hcon
          have hge : (0 : Int) ≤ Lib.indexByte chars.data.toList x := of_decide_eq_true hcon.symm
          clear hcon
          go_wp2_with (go_at_call 64; refine (Tryz.strings_IndexRune_ascii _ _ _ (by omega) (by omega)).mono ?_; rintro e w' ⟨rfl, hw⟩; rw [hw, hback])
          go_ret
          exact ⟨by rw [Lib.indexAny_hit HN.out Hx.out hinc]; rfl, hbw2⟩
      · have hsp := decode_span s i hi (by rw [hx]; omega)
        have hRh := (decode_high s i hi (by rw [hx]; omega)).1
        have hR1 := Lib.rune_le s i
        rw [hK] at hsp
        rw [hR] at hRh hR1
        have HS : Aside (∀ j b, j < K → s.data.toList[i + j]? = some b → 128 ≤ b.toNat) := hsp.2.2
        have hk1 := hsp.1
        have hk2 := hsp.2.1
        clear hsp hR hK hx hxl hWd
        have HC : Aside (∀ c ∈ chars.data.toList, c.toNat < 128) := fun c hc => by
          obtain ⟨j, hj⟩ := List.getElem?_of_mem hc
          exact HA.out j c hj
        go_wp2_with (go_at_call 64; refine (idxr_none _ _ _ (by omega) (by omega) hcs HA.out).mono ?_; rintro e w' ⟨rfl, hb⟩)
        go_roundg g
        case measure => omega
        case rel => exact ⟨i + K, by omega, by omega, (hb.block _ hWsz).trans hit2, hbw2.trans (hb.mono hbw2.size), noAny_span HN.out HC.out HS.out⟩
    · obtain rfl : i = s.size := by omega
      have hnx := fun ty => Lib.run_next_end_at (P := Tryz.prog) wr w.heap.size s s.size ty hit (by omega)
      clear hit
      go_wp2
      go_ret
      exact ⟨by rw [Lib.indexAny_none (by rw [← Lib.size_eq]; exact HN.out)]; rfl, hbw⟩

/-- strings.IndexAny at a text of at most 2^47 bytes, whatever they are: the index of the first byte that is among the sought ASCII characters. -/
theorem indexAny_bytes (s chars : ByteArray) (w : World) (h2 : 2 ≤ chars.size) (hcs : chars.size ≤ 100) (hs : s.size ≤ 140737488355328) (hascii : ∀ (j : Nat) b, chars.data.toList[j]? = some b → b.toNat < 128) :
    Calls Tryz.prog 44 #[.string s, .string chars] w fun e w' => e = .returned (.int .i64 (Lib.indexAny s.data.toList chars.data.toList)) ∧ Below w.heap.size w w' := by
  by_cases h8 : s.size ≤ 8
  · exact anyShort s chars w h2 hcs h8 hascii
  · have h54 : (Tryz.prog.info? 97).map (fun i => (i.zero, i.size)) = some (some (.agg (Array.replicate 256 (.bool false))), 256) := by kernel_rfl
    refine (anyLong Tryz.lays153 (zero_of_info h54).1 (zero_of_info h54).2 s chars w h2 (by omega) hs (by omega) hascii).mono fun e w' ⟨h1, h2⟩ => ⟨h1, ?_⟩
    rw [h2]
    exact ((Below.refl _ _).alloc (Nat.le_refl _) _).alloc (by simp) _

end Go.Proofs.YtpkelgekannioaaGreatDoor

namespace Go.Proofs.YtpkelgekannioaaGreatDoor
open Go.RowKit Go.Shelf Go.BigFrame

/-- The characters that are escaped. -/
def escChars : List UInt8 := [38, 39, 60, 62, 34, 13]
def escB (c : UInt8) : List UInt8 :=
  if c = 38 then [38, 97, 109, 112, 59] else if c = 39 then [38, 35, 51, 57, 59] else if c = 60 then [38, 108, 116, 59]
  else if c = 62 then [38, 103, 116, 59] else if c = 34 then [38, 35, 51, 52, 59] else if c = 13 then [38, 35, 49, 51, 59] else [c]
/-- A text escaped, byte by byte. -/
def esc (l : List UInt8) : List UInt8 := l.flatMap escB

theorem escB_same {c : UInt8} (h : escChars.contains c = false) : escB c = [c] := by
  have h' : ¬ c ∈ escChars := by simpa using h
  simp only [escChars, List.mem_cons, List.mem_nil_iff, or_false, not_or] at h'
  obtain ⟨h1, h2, h3, h4, h5, h6⟩ := h'
  simp [escB, h1, h2, h3, h4, h5, h6]

theorem escB_le (c : UInt8) : 1 ≤ (escB c).length ∧ (escB c).length ≤ 5 := by
  unfold escB
  repeat' split
  all_goals simp

theorem esc_cons (c : UInt8) (l : List UInt8) : esc (c :: l) = escB c ++ esc l := rfl
theorem esc_append (a b : List UInt8) : esc (a ++ b) = esc a ++ esc b := by simp [esc]

theorem esc_le : ∀ l : List UInt8, (esc l).length ≤ 5 * l.length
  | [] => Nat.le_refl _
  | c :: l => by
    have := esc_le l
    have := (escB_le c).2
    rw [esc_cons, List.length_append, List.length_cons]
    omega

theorem esc_noAny : ∀ {l : List UInt8}, Lib.NoAny l escChars l.length → esc l = l
  | [], _ => rfl
  | c :: l, h => by
    rw [esc_cons, escB_same (h 0 c (by simp) rfl), esc_noAny (l := l) (fun j b hj hb => h (j + 1) b (by simp; omega) (by simpa using hb))]
    rfl

theorem esc_hit {l : List UInt8} {i : Nat} {x : UInt8} (h : Lib.NoAny l escChars i) (hx : l[i]? = some x) : esc l = l.take i ++ (escB x ++ esc (l.drop (i + 1))) := by
  have hi : i < l.length := (List.getElem?_eq_some_iff.1 hx).1
  have hx' := (List.getElem?_eq_some_iff.1 hx).2
  have e : l = l.take i ++ x :: l.drop (i + 1) := by
    rw [← hx', List.getElem_cons_drop, List.take_append_drop]
  have ht : esc (l.take i) = l.take i := esc_noAny fun j b hj hb => by
    have hl : (l.take i).length ≤ i := List.length_take_le _ _
    rw [List.getElem?_take] at hb
    split at hb
    · exact h j b (by omega) hb
    · cases hb
  conv => lhs; rw [e]
  rw [esc_append, esc_cons, ht]

theorem indexAny_cases : ∀ (l chars : List UInt8), (Lib.indexAny l chars = -1 ∧ Lib.NoAny l chars l.length) ∨ ∃ i x, Lib.indexAny l chars = (i : Nat) ∧ Lib.NoAny l chars i ∧ l[i]? = some x ∧ chars.contains x = true
  | [], chars => .inl ⟨rfl, Lib.NoAny.zero _ _⟩
  | b :: l, chars => by
    cases hb : chars.contains b
    · rcases indexAny_cases l chars with ⟨h1, h2⟩ | ⟨i, x, h1, h2, h3, h4⟩
      · refine .inl ⟨?_, fun j c hj hc => ?_⟩
        · rw [Lib.indexAny, hb, h1]; rfl
        · match j, hc with
          | 0, hc => simp at hc; subst hc; exact hb
          | j + 1, hc => exact h2 j c (by simp at hj; omega) (by simpa using hc)
      · have hno : Lib.NoAny (b :: l) chars (i + 1) := fun j c hj hc => by
          match j, hc with
          | 0, hc => simp at hc; subst hc; exact hb
          | j + 1, hc => exact h2 j c (by omega) (by simpa using hc)
        exact .inr ⟨i + 1, x, Lib.indexAny_hit hno (by simpa using h3) h4, hno, by simpa using h3, h4⟩
    · exact .inr ⟨0, b, Lib.indexAny_hit (Lib.NoAny.zero _ _) rfl hb, Lib.NoAny.zero _ _, rfl, hb⟩

/-- The constant that the program looks for. -/
def escS : ByteArray := ⟨#[38, 39, 60, 62, 34, 13]⟩

theorem escS_ascii : ∀ (j : Nat) b, escS.data.toList[j]? = some b → b.toNat < 128 := by
  intro j b hj
  have := List.mem_of_getElem? hj
  simp only [escS, List.mem_cons, List.mem_nil_iff, or_false] at this
  rcases this with rfl | rfl | rfl | rfl | rfl | rfl <;> decide

/-- strings.IndexAny for the characters that are escaped. -/
theorem indexAny_esc (s : ByteArray) (w : World) (hs : s.size ≤ 140737488355328) :
    Calls Tryz.prog 44 #[.string s, .string ⟨#[38, 39, 60, 62, 34, 13]⟩] w fun e w' => e = .returned (.int .i64 (Lib.indexAny s.data.toList escChars)) ∧ Below w.heap.size w w' :=
  indexAny_bytes s escS w (by decide) (by decide) hs escS_ascii

theorem meth_ws (n : Nat) (a : Addr) (w : World) : (method (n + 1) 81 (.pointer (some a)) "WriteString").run Tryz.prog w = .ok (50, .pointer (some a)) w := by kernel_rfl
theorem nil_ws (n : Nat) (a : Addr) (w : World) : (nilAhead (n + 1) 81 (.pointer (some a)) "WriteString").run Tryz.prog w = .ok (some false) w := by kernel_rfl

theorem one_app {a c : List Value} (ha : ∀ v ∈ a, v.oneCell' = true) (hc : ∀ v ∈ c, v.oneCell' = true) : ∀ v ∈ a ++ c, v.oneCell' = true := fun v hv => by
  rcases List.mem_append.1 hv with h | h
  · exact ha v h
  · exact hc v h

theorem esc_round {t : ByteArray} {i : Nat} {x : UInt8} {S done : List UInt8} {bs : List Value} (a : Array UInt8) (ha : (escB x).toArray = a) (hno : Lib.NoAny t.data.toList escChars i) (hx : t.data.toList[i]? = some x) (he : S = done ++ esc t.data.toList) (hl : bs.length + done.length + 5 * t.size ≤ 140737488355328) :
    S = (done ++ (t.extract 0 i).data.toList ++ a.toList) ++ esc (t.extract (i + 1) t.size).data.toList ∧
    ((bs ++ Lib.byteCells done) ++ Lib.byteCells (t.extract 0 i).data.toList) ++ Lib.byteCells (⟨a⟩ : ByteArray).data.toList = bs ++ Lib.byteCells (done ++ (t.extract 0 i).data.toList ++ a.toList) ∧
    bs.length + (done ++ (t.extract 0 i).data.toList ++ a.toList).length + 5 * (t.extract (i + 1) t.size).size ≤ 140737488355328 := by
  have hi : i < t.size := by have := (List.getElem?_eq_some_iff.1 hx).1; simpa using this
  subst ha
  refine ⟨?_, ?_, ?_⟩
  · rw [he, esc_hit hno hx, Lib.extract_to_end, Lib.extract_data]
    simp [List.append_assoc]
  · simp [Lib.byteCells_append, List.append_assoc]
  · have h5 := (escB_le x).2
    simp only [List.length_append, ← Lib.size_eq, ByteArray.size_extract]
    omega

set_option maxHeartbeats 8000000 in
set_option maxRecDepth 100000 in
theorem escape_any (B b : Nat) (bs : List Value) (s : ByteArray) (w : World) (h : Lib.IsBuffer 77 5 B b bs w) (hBw : B ≤ w.heap.size) (h1 : ∀ v ∈ bs, v.oneCell' = true) (hlim : bs.length + 5 * s.size ≤ 140737488355328) :
    Calls Tryz.prog 45 #[.iface 81 (.pointer (some ⟨b, 0, none⟩)), .string s] w fun e w' => e = .returned .nilIface ∧ Lib.IsBuffer 77 5 B b (bs ++ Lib.byteCells (esc s.data.toList)) w' ∧ Below B w w' := by
  have hm := fun n => meth_ws n ⟨b, 0, none⟩
  have hnl := fun n => nil_ws n ⟨b, 0, none⟩
  go_enter Tryz.func45, Tryz.ntmps45
  go_wp2_with (first | (go_at_call 44; go_must (refine (indexAny_esc s _ (by omega)).mono ?_; rintro e w1 ⟨rfl, hb1⟩)))
  go_loopg [1, 5] (s.size + 1) (fun g s1 s5 wx => ∃ (t : ByteArray) (done : List UInt8), t.size + 1 = g ∧ s1 = .string t ∧ s5 = .int .i64 (Lib.indexAny t.data.toList escChars) ∧ esc s.data.toList = done ++ esc t.data.toList ∧
    Lib.IsBuffer 77 5 B b (bs ++ Lib.byteCells done) wx ∧ Below B w wx ∧ bs.length + done.length + 5 * t.size ≤ 140737488355328)
  case atStart => exact ⟨s, [], rfl, rfl, rfl, rfl, by simpa [Lib.byteCells] using h.old hb1, hb1.mono hBw, by simpa using hlim⟩
  case round =>
    obtain ⟨t, done, hg, rfl, rfl, he, hB, hbw, hl⟩ := hrel
    rcases indexAny_cases t.data.toList escChars with ⟨hi, hno⟩ | ⟨i, x, hi, hno, hx, hc⟩
    · rw [hi]
      have HNO := Lib.hid hno
      have HE := Lib.hid he
      clear hno he
      go_wp2_with fail
      refine (Tryz.Buffer_WriteString_kept B b (bs ++ Lib.byteCells done) t wr hB (by have := hbw.size; omega) (one_app h1 (Lib.byteCells_one _)) (by rw [List.length_append, Lib.byteCells_length]; omega)).mono ?_
      rintro e w2 ⟨rfl, hB2, hb2, hk2⟩
      go_wp2_with fail
      go_ret
      refine ⟨rfl, ?_, hbw.trans hb2⟩
      rw [HE.out, esc_noAny (by rw [← Lib.size_eq]; rw [← Lib.size_eq] at HNO; exact HNO.out), Lib.byteCells_append, ← List.append_assoc]
      exact hB2
    · rw [hi]
      have HNO := Lib.hid hno
      have HE := Lib.hid he
      clear hno he hi
      have hil : i < t.size := by have := (List.getElem?_eq_some_iff.1 hx).1; simpa using this
      have HX := Lib.hid hx
      have HC := Lib.hid hc
      clear hx hc
      go_upto_region 3 with fail
      go_cut [6, 7] (fun s6 s7 wx => s7 = .nilIface ∧ Lib.IsBuffer 77 5 B b ((bs ++ Lib.byteCells done) ++ Lib.byteCells (t.extract 0 i).data.toList) wx ∧ Below B w wx)
      case first =>
        have hWS := Tryz.Buffer_WriteString_kept B b (bs ++ Lib.byteCells done) (t.extract 0 i) wr.drew hB.drew (by have := hbw.size; simp; omega) (one_app h1 (Lib.byteCells_one _)) (by rw [List.length_append, Lib.byteCells_length, ByteArray.size_extract]; omega)
        go_region_with ((go_at_call 50; refine hWS.mono ?_; rintro e w2 ⟨rfl, hB2, hb2, hk2⟩))
        all_goals
          go_wp2_with fail
          go_meet
          exact ⟨rfl, hB2, hbw.drew.trans hb2⟩
      case rest =>
        obtain ⟨rfl, hB2, hb2⟩ := hcut
        have hxi : t[i]'hil = x := by
          have h1 := HX.out
          rw [Lib.data_getElem? t i hil] at h1
          exact Option.some.inj h1
        have hxc : x ∈ escChars := by simpa using HC.out
        have hl1 : (bs ++ Lib.byteCells done ++ Lib.byteCells (t.extract 0 i).data.toList).length + 5 ≤ 140737488355328 := by
          simp only [List.length_append, Lib.byteCells_length, ← Lib.size_eq, ByteArray.size_extract]
          omega
        have ho1 := one_app (one_app h1 (Lib.byteCells_one done)) (Lib.byteCells_one (t.extract 0 i).data.toList)
        have hsl : (t.extract (i + 1) t.size).size = t.size - (i + 1) := by rw [ByteArray.size_extract]; omega
        have HSL := Lib.hid hsl
        clear hsl
        have hle : t.size - (i + 1) ≤ 140737488355328 := by omega
        have hle2 : t.size ≤ 140737488355328 := by omega
        simp only [escChars, List.mem_cons, List.mem_nil_iff, or_false] at hxc
        rcases hxc with rfl | rfl | rfl | rfl | rfl | rfl
        · have HR := Lib.hid (esc_round #[38, 97, 109, 112, 59] (by decide) HNO.out HX.out HE.out hl (bs := bs))
          have hws := Tryz.Buffer_WriteString_kept B b _ ⟨#[38, 97, 109, 112, 59]⟩ wc hB2 (by have := hb2.size; omega) ho1 (Nat.le_trans (Nat.add_le_add_left (by decide) _) hl1)
          have HB2 := Lib.hid hb2
          have HBW := Lib.hid hBw
          clear hl hB hB2 hl1 ho1 hb1 hbw hb2 h h1 hlim hBw
          go_wp2_with fail
          refine hws.mono ?_
          rintro e w3 ⟨rfl, hB3, hb3, hk3⟩
          clear hws hk3
          go_wp2_with (first | (go_at_call 44; go_must (refine (indexAny_esc (t.extract (i + 1) t.size) _ (by rw [HSL.out]; exact hle)).mono ?_; rintro e w4 ⟨rfl, hb4⟩)))
          go_roundg (t.size - (i + 1) + 1)
          case measure => omega
          case rel => exact ⟨t.extract (i + 1) t.size, done ++ (t.extract 0 i).data.toList ++ (#[38, 97, 109, 112, 59] : Array UInt8).toList, by rw [HSL.out], rfl, by rw [Lib.extract_data], HR.out.1, by rw [← HR.out.2.1]; exact hB3.old hb4, (HB2.out.trans hb3).trans (hb4.mono (by have := HB2.out.size; have := hb3.size; have := HBW.out; omega)), HR.out.2.2⟩
        · have HR := Lib.hid (esc_round #[38, 35, 51, 57, 59] (by decide) HNO.out HX.out HE.out hl (bs := bs))
          have hws := Tryz.Buffer_WriteString_kept B b _ ⟨#[38, 35, 51, 57, 59]⟩ wc hB2 (by have := hb2.size; omega) ho1 (Nat.le_trans (Nat.add_le_add_left (by decide) _) hl1)
          have HB2 := Lib.hid hb2
          have HBW := Lib.hid hBw
          clear hl hB hB2 hl1 ho1 hb1 hbw hb2 h h1 hlim hBw
          go_wp2_with fail
          refine hws.mono ?_
          rintro e w3 ⟨rfl, hB3, hb3, hk3⟩
          clear hws hk3
          go_wp2_with (first | (go_at_call 44; go_must (refine (indexAny_esc (t.extract (i + 1) t.size) _ (by rw [HSL.out]; exact hle)).mono ?_; rintro e w4 ⟨rfl, hb4⟩)))
          go_roundg (t.size - (i + 1) + 1)
          case measure => omega
          case rel => exact ⟨t.extract (i + 1) t.size, done ++ (t.extract 0 i).data.toList ++ (#[38, 35, 51, 57, 59] : Array UInt8).toList, by rw [HSL.out], rfl, by rw [Lib.extract_data], HR.out.1, by rw [← HR.out.2.1]; exact hB3.old hb4, (HB2.out.trans hb3).trans (hb4.mono (by have := HB2.out.size; have := hb3.size; have := HBW.out; omega)), HR.out.2.2⟩
        · have HR := Lib.hid (esc_round #[38, 108, 116, 59] (by decide) HNO.out HX.out HE.out hl (bs := bs))
          have hws := Tryz.Buffer_WriteString_kept B b _ ⟨#[38, 108, 116, 59]⟩ wc hB2 (by have := hb2.size; omega) ho1 (Nat.le_trans (Nat.add_le_add_left (by decide) _) hl1)
          have HB2 := Lib.hid hb2
          have HBW := Lib.hid hBw
          clear hl hB hB2 hl1 ho1 hb1 hbw hb2 h h1 hlim hBw
          go_wp2_with fail
          refine hws.mono ?_
          rintro e w3 ⟨rfl, hB3, hb3, hk3⟩
          clear hws hk3
          go_wp2_with (first | (go_at_call 44; go_must (refine (indexAny_esc (t.extract (i + 1) t.size) _ (by rw [HSL.out]; exact hle)).mono ?_; rintro e w4 ⟨rfl, hb4⟩)))
          go_roundg (t.size - (i + 1) + 1)
          case measure => omega
          case rel => exact ⟨t.extract (i + 1) t.size, done ++ (t.extract 0 i).data.toList ++ (#[38, 108, 116, 59] : Array UInt8).toList, by rw [HSL.out], rfl, by rw [Lib.extract_data], HR.out.1, by rw [← HR.out.2.1]; exact hB3.old hb4, (HB2.out.trans hb3).trans (hb4.mono (by have := HB2.out.size; have := hb3.size; have := HBW.out; omega)), HR.out.2.2⟩
        · have HR := Lib.hid (esc_round #[38, 103, 116, 59] (by decide) HNO.out HX.out HE.out hl (bs := bs))
          have hws := Tryz.Buffer_WriteString_kept B b _ ⟨#[38, 103, 116, 59]⟩ wc hB2 (by have := hb2.size; omega) ho1 (Nat.le_trans (Nat.add_le_add_left (by decide) _) hl1)
          have HB2 := Lib.hid hb2
          have HBW := Lib.hid hBw
          clear hl hB hB2 hl1 ho1 hb1 hbw hb2 h h1 hlim hBw
          go_wp2_with fail
          refine hws.mono ?_
          rintro e w3 ⟨rfl, hB3, hb3, hk3⟩
          clear hws hk3
          go_wp2_with (first | (go_at_call 44; go_must (refine (indexAny_esc (t.extract (i + 1) t.size) _ (by rw [HSL.out]; exact hle)).mono ?_; rintro e w4 ⟨rfl, hb4⟩)))
          go_roundg (t.size - (i + 1) + 1)
          case measure => omega
          case rel => exact ⟨t.extract (i + 1) t.size, done ++ (t.extract 0 i).data.toList ++ (#[38, 103, 116, 59] : Array UInt8).toList, by rw [HSL.out], rfl, by rw [Lib.extract_data], HR.out.1, by rw [← HR.out.2.1]; exact hB3.old hb4, (HB2.out.trans hb3).trans (hb4.mono (by have := HB2.out.size; have := hb3.size; have := HBW.out; omega)), HR.out.2.2⟩
        · have HR := Lib.hid (esc_round #[38, 35, 51, 52, 59] (by decide) HNO.out HX.out HE.out hl (bs := bs))
          have hws := Tryz.Buffer_WriteString_kept B b _ ⟨#[38, 35, 51, 52, 59]⟩ wc hB2 (by have := hb2.size; omega) ho1 (Nat.le_trans (Nat.add_le_add_left (by decide) _) hl1)
          have HB2 := Lib.hid hb2
          have HBW := Lib.hid hBw
          clear hl hB hB2 hl1 ho1 hb1 hbw hb2 h h1 hlim hBw
          go_wp2_with fail
          refine hws.mono ?_
          rintro e w3 ⟨rfl, hB3, hb3, hk3⟩
          clear hws hk3
          go_wp2_with (first | (go_at_call 44; go_must (refine (indexAny_esc (t.extract (i + 1) t.size) _ (by rw [HSL.out]; exact hle)).mono ?_; rintro e w4 ⟨rfl, hb4⟩)))
          go_roundg (t.size - (i + 1) + 1)
          case measure => omega
          case rel => exact ⟨t.extract (i + 1) t.size, done ++ (t.extract 0 i).data.toList ++ (#[38, 35, 51, 52, 59] : Array UInt8).toList, by rw [HSL.out], rfl, by rw [Lib.extract_data], HR.out.1, by rw [← HR.out.2.1]; exact hB3.old hb4, (HB2.out.trans hb3).trans (hb4.mono (by have := HB2.out.size; have := hb3.size; have := HBW.out; omega)), HR.out.2.2⟩
        · have HR := Lib.hid (esc_round #[38, 35, 49, 51, 59] (by decide) HNO.out HX.out HE.out hl (bs := bs))
          have hws := Tryz.Buffer_WriteString_kept B b _ ⟨#[38, 35, 49, 51, 59]⟩ wc hB2 (by have := hb2.size; omega) ho1 (Nat.le_trans (Nat.add_le_add_left (by decide) _) hl1)
          have HB2 := Lib.hid hb2
          have HBW := Lib.hid hBw
          clear hl hB hB2 hl1 ho1 hb1 hbw hb2 h h1 hlim hBw
          go_wp2_with fail
          refine hws.mono ?_
          rintro e w3 ⟨rfl, hB3, hb3, hk3⟩
          clear hws hk3
          go_wp2_with (first | (go_at_call 44; go_must (refine (indexAny_esc (t.extract (i + 1) t.size) _ (by rw [HSL.out]; exact hle)).mono ?_; rintro e w4 ⟨rfl, hb4⟩)))
          go_roundg (t.size - (i + 1) + 1)
          case measure => omega
          case rel => exact ⟨t.extract (i + 1) t.size, done ++ (t.extract 0 i).data.toList ++ (#[38, 35, 49, 51, 59] : Array UInt8).toList, by rw [HSL.out], rfl, by rw [Lib.extract_data], HR.out.1, by rw [← HR.out.2.1]; exact hB3.old hb4, (HB2.out.trans hb3).trans (hb4.mono (by have := HB2.out.size; have := hb3.size; have := HBW.out; omega)), HR.out.2.2⟩

/-- The text s escaped, as a string. -/
def escStr (s : ByteArray) : ByteArray := ⟨(esc s.data.toList).toArray⟩

theorem str_ext {a b : ByteArray} (h : a.data.toList = b.data.toList) : a = b := by
  obtain ⟨⟨a⟩⟩ := a
  obtain ⟨⟨b⟩⟩ := b
  simp at h
  rw [h]

theorem escStr_le (s : ByteArray) : (escStr s).size ≤ 5 * s.size := by
  have h := esc_le s.data.toList
  have e : (escStr s).size = (esc s.data.toList).length := by rw [Lib.size_eq]; simp [escStr]
  rw [e, Lib.size_eq s]
  exact h

theorem escStr_none {s : ByteArray} (h : Lib.NoAny s.data.toList escChars s.data.toList.length) : escStr s = s :=
  str_ext (by rw [escStr, esc_noAny h])

set_option maxHeartbeats 2000000 in
set_option maxRecDepth 100000 in
/-- html.EscapeString. -/
theorem escapeString_any (s : ByteArray) (w : World) (hlim : 5 * s.size ≤ 140737488355328) :
    Calls Tryz.prog 30 #[.string s] w fun e w' => e = .returned (.string (escStr s)) ∧ Below w.heap.size w w' := by
  rcases indexAny_cases s.data.toList escChars with ⟨hi, hno⟩ | ⟨i, x, hi, hno, hx, hc⟩
  · have HNO := Lib.hid hno
    clear hno
    go_enter Tryz.func30, Tryz.ntmps30
    go_wp2_with (first | (go_at_call 44; go_must (refine (indexAny_esc s _ (by omega)).mono ?_; rintro e w1 ⟨rfl, hb1⟩; rw [hi])))
    go_ret
    exact ⟨by rw [escStr_none HNO.out]; rfl, hb1⟩
  · clear hno hx hc
    go_enter Tryz.func30, Tryz.ntmps30
    go_wp2_with (first | (go_at_call 44; go_must (refine (indexAny_esc s _ (by omega)).mono ?_; rintro e w1 ⟨rfl, hb1⟩; rw [hi])))
    have hf := Lib.fresh_isBuffer 77 5 w1
    refine (escape_any w1.heap.size w1.heap.size [] s _ hf (by simp) (by simp) (by simpa using hlim)).mono ?_
    rintro e w2 ⟨rfl, hB, hb2⟩
    rw [List.nil_append] at hB
    go_wp2_with (first | (go_at_call 46; go_must (refine (Tryz.Buffer_String w1.heap.size w1.heap.size _ w2 hB).mono ?_; rintro e w3 ⟨rfl, n, rfl⟩)))
    go_ret
    refine ⟨rfl, ?_⟩
    exact (hb1.trans (((Below.refl _ w1).alloc (Nat.le_refl _) _ |>.trans hb2).mono hb1.size)).trans ⟨rfl, rfl, rfl, Nat.le_refl _, fun _ _ => rfl⟩

end Go.Proofs.YtpkelgekannioaaGreatDoor

namespace Go.Proofs.YtpkelgekannioaaGreatDoor
open Go.RowKit Go.Shelf Go.WideShapes Go.ChangeShapes

set_option maxRecDepth 100000 in
/-- impl.Escape. -/
theorem implEscape_any (s : ByteArray) (w : World) (hlim : 5 * s.size ≤ 140737488355328) :
    Calls Tryz.prog 19 #[.string s] w fun e w' => e = .returned (.string (escStr s)) ∧ Below w.heap.size w w' := by
  go_enter Tryz.func19, Tryz.ntmps19
  go_wp2_with (first | (go_at_call 30; go_must (refine (escapeString_any s _ hlim).mono ?_; rintro e w1 ⟨rfl, hb1⟩)))
  go_ret
  exact ⟨rfl, hb1⟩

set_option maxRecDepth 100000 in
/-- laws.works: the package answers. -/
theorem works_any (w : World) : Calls Tryz.prog 7 #[] w fun e w' => e = .returned (.bool true) ∧ Below w.heap.size w w' := by
  have he : escStr ⟨#[60]⟩ = ⟨#[38, 108, 116, 59]⟩ := rfl
  go_enter Tryz.func7, Tryz.ntmps7
  go_wp2_with (first | (go_at_call 19; go_must (refine (implEscape_any ⟨#[60]⟩ _ (by decide)).mono ?_; rintro e w1 ⟨rfl, hb1⟩; rw [he])))
  go_ret
  exact ⟨rfl, hb1⟩

section
variable {H : Type} {enc : TypeId × Value → H} {P : Program}
theorem post_of_below {f : Func} {s : ChangeSpec} {apart fresh handsOn again : Bool} {W W' : World} {args : Array Value} {v : Value} {ds gs : List (DataW H)} {before pa pv : List MemPlace}
    (hW : DataW.Whole enc P f.params.toList s.vars apart W args.toList ds gs before)
    (hres : ∀ (b : Nat) (sp : Nat → Bool) (hd : Bool), DataW.TrodAll enc P W' b sp hd f.resultTypes.toList (v.resultList f.resultTypes.size) (s.fn H (ds ++ gs)).results [])
    (hargs : ∀ sp : Nat → Bool, (∀ p ∈ before, sp p.block = true) → DataW.TrodAll enc P W' 0 sp true f.params.toList args.toList (s.fn H (ds ++ gs)).args pa)
    (hvars : ∀ sp : Nat → Bool, (∀ p ∈ before, sp p.block = true) → DataW.TrodVars enc P W' sp s.vars (s.fn H (ds ++ gs)).vars pv)
    (hps : before = pa ++ pv) (hb : Below W.heap.size W W')
    (hok : ∀ (j : Nat) (t : TypeId) (r : Value), f.resultTypes[j]? = some t → (v.resultList f.resultTypes.size)[j]? = some r → Value.okWide P W' .any 0 t r) :
    s.post enc P f apart fresh handsOn again W args v W' := by
  have hlt : ∀ p ∈ before, p.block < W.heap.size := fun p hp => hW.lt p hp
  have hold : ∀ p ∈ before, (fun b => decide (b < W.heap.size)) p.block = true := fun p hp => by simpa using hlt p hp
  refine ⟨ds, gs, before, [], pa, pv, hW, hres _ _ _, hargs _ hold, hvars _ hold, World.keptBut_mono (fun p hp => ⟨hp, ?_⟩) (hb.frame (· ∈ before)), fun _ => ?_⟩
  · rw [hps, List.mem_append] at hp
    exact Or.inr hp
  · obtain ⟨_, _, _, _, _, hz, hn⟩ := hW
    refine ⟨hok, _, _, ([] ++ pa) ++ pv, ⟨[] ++ pa, pv, trodAll_append (hargs _ (fun _ _ => rfl)) (hres _ _ _), hvars _ (fun _ _ => rfl), rfl, ?_, ?_⟩, ?_⟩
    · intro b off hp
      have hin : MemPlace.cell b off ∈ before := by rw [hps]; simpa using hp
      rw [hb.frozen (hlt _ hin)]
      exact hz b off hin
    · intro ha
      have := hn ha
      rw [hps] at this
      simpa using this
    · intro p hp _
      rw [hps]
      simpa using hp
end

end Go.Proofs.YtpkelgekannioaaGreatDoor
