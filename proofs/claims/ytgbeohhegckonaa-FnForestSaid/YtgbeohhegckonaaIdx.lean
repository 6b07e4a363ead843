/- strings.IndexRune and strings.IndexAny at whatever bytes, where the characters that are sought are ASCII: the index of the first byte that is among them. Conditions: the text is of at most 2^47 bytes, the sought characters are two to a hundred ASCII bytes. -/
import Derived.Test.YtgbeohhegckonaaShelf
import Derived.WalkKit
import Derived.WalkSpells
import Derived.WalkLawsBesides
import Derived.Lib.OthersKept
import Derived.Lib.TrimU
import Derived.Lib.Hide
import Derived.Deep.QuietTactic
import Derived.BigQuiet
import Derived.IntWalk
import Derived.Deep.LoopGhost
import Derived.Lib.IndexBytes
import Derived.Deep.DeepMust
import Derived.Deep.DeepFit
namespace Go.Proofs.Ytgbeohhegckonaa
open Go.RowKit Go.Shelf Go.BigFrame

theorem encode_high (r : Int) (h : 128 ≤ r) : 1 ≤ (Utf8.encode r).size ∧ (Utf8.encode r).size ≤ 4 ∧ ∀ (j : Nat) (hj : j < (Utf8.encode r).size), 128 ≤ ((Utf8.encode r)[j]'hj).toNat := by
  have key : ∀ c : Nat, 128 ≤ c → c < 1114112 → ∀ E : ByteArray, E = (if c < 0x80 then (⟨#[UInt8.ofNat c]⟩ : ByteArray)
      else if c < 0x800 then ⟨#[UInt8.ofNat (0xC0 + c / 64), UInt8.ofNat (0x80 + c % 64)]⟩
      else if c < 0x10000 then ⟨#[UInt8.ofNat (0xE0 + c / 4096), UInt8.ofNat (0x80 + c / 64 % 64), UInt8.ofNat (0x80 + c % 64)]⟩
      else ⟨#[UInt8.ofNat (0xF0 + c / 262144), UInt8.ofNat (0x80 + c / 4096 % 64), UInt8.ofNat (0x80 + c / 64 % 64), UInt8.ofNat (0x80 + c % 64)]⟩) →
      1 ≤ E.size ∧ E.size ≤ 4 ∧ ∀ (j : Nat) (hj : j < E.size), 128 ≤ (E[j]'hj).toNat := by
    intro c h1 h2 E hE
    have pick : ∀ (l : List UInt8), (∀ b ∈ l, 128 ≤ b.toNat) → ∀ E : ByteArray, E = ⟨l.toArray⟩ → ∀ (j : Nat) (hj : j < E.size), 128 ≤ (E[j]'hj).toNat := by
      intro l hl E hE j hj
      subst hE
      apply hl
      show l.toArray[j] ∈ l
      simp
    rw [if_neg (by omega)] at hE
    have hn : ∀ n, n < 256 → (UInt8.ofNat n).toNat = n := fun n hn => by simp; omega
    split at hE
    · refine ⟨by subst hE; exact (by decide : 1 ≤ 2), by subst hE; exact (by decide : 2 ≤ 4), pick [_, _] ?_ E hE⟩
      intro b hb
      simp only [List.mem_cons, List.mem_nil_iff, or_false] at hb
      rcases hb with rfl | rfl <;> rw [hn _ (by omega)] <;> omega
    · split at hE
      · refine ⟨by subst hE; exact (by decide : 1 ≤ 3), by subst hE; exact (by decide : 3 ≤ 4), pick [_, _, _] ?_ E hE⟩
        intro b hb
        simp only [List.mem_cons, List.mem_nil_iff, or_false] at hb
        rcases hb with rfl | rfl | rfl <;> rw [hn _ (by omega)] <;> omega
      · refine ⟨by subst hE; exact (by decide : 1 ≤ 4), by subst hE; exact (by decide : 4 ≤ 4), pick [_, _, _, _] ?_ E hE⟩
        intro b hb
        simp only [List.mem_cons, List.mem_nil_iff, or_false] at hb
        rcases hb with rfl | rfl | rfl | rfl <;> rw [hn _ (by omega)] <;> omega
  refine key (if Utf8.valid r then r.toNat else Utf8.runeError) ?_ ?_ _ rfl
  · split
    · omega
    · decide
  · split
    · rename_i hv
      simp [Utf8.valid] at hv
      omega
    · decide

theorem indexByte_high : ∀ (l : List UInt8) (y : UInt8), 128 ≤ y.toNat → (∀ b ∈ l, b.toNat < 128) → Lib.indexByte l y = -1
  | [], _, _, _ => rfl
  | b :: l, y, hy, h => by
    have hb : (b == y) = false := beq_eq_false_iff_ne.2 fun e => by have := h b (by simp); subst e; omega
    rw [Lib.indexByte, indexByte_high l y hy (fun c hc => h c (by simp [hc])), hb]
    rfl

set_option maxHeartbeats 1000000 in
set_option maxRecDepth 100000 in
theorem idxr_high (s : ByteArray) (r : Int) (w : World) (h0 : 128 ≤ r) (h1 : r ≤ 1114111) (hne : (r == 65533) = false) (_hs : s.size ≤ 100)
    (hascii : ∀ (j : Nat) b, s.data.toList[j]? = some b → b.toNat < 128) :
    Calls Try.prog 43 #[.string s, .int .i32 r] w fun e w' => e = .returned (.int .i64 (-1)) ∧ Below w.heap.size w w' := by
  have HA := Lib.hid hascii
  clear hascii
  have hd : decide (r < 128) = false := decide_eq_false (by omega)
  go_enter Try.func43, Try.ntmps43
  cases hv : Lib.validRune r
  · go_wp2_with (first | (go_at_call 48; go_must (refine (Try.utf8_ValidRune r _).mono ?_; rintro e w' ⟨rfl, rfl⟩; rw [hv])))
    go_ret
    exact ⟨rfl, Below.refl _ _⟩
  · go_wp2_with (first | (go_at_call 48; go_must (refine (Try.utf8_ValidRune r _).mono ?_; rintro e w' ⟨rfl, rfl⟩; rw [hv])))
    obtain ⟨E, hE⟩ : ∃ E, Utf8.encode r = E := ⟨_, rfl⟩
    have hEh := encode_high r h0
    rw [hE] at hEh
    obtain ⟨hE1, hE4, hEb⟩ := hEh
    have HB := Lib.hid hEb
    clear hEb
    obtain ⟨k, hk⟩ : ∃ k, E.size = k + 1 := ⟨E.size - 1, by omega⟩
    have hk4 : k < 4 := by omega
    clear hE1 hE4
    go_step3
    go_wp2_with fail
    go_loop [9] (fun i => i = .int .i64 (k : Int)) (fun _ => 1)
    case atStart => rfl
    case round =>
      obtain rfl := hrel
      by_cases hlt : k < s.size
      · obtain ⟨x, hx⟩ : ∃ x : UInt8, s[k]'hlt = x := ⟨_, rfl⟩
        have hke : k < E.size := by omega
        obtain ⟨y, hy⟩ : ∃ y : UInt8, E[k]'hke = y := ⟨_, rfl⟩
        have hyh : 128 ≤ y.toNat := by rw [← hy]; exact HB.out k hke
        have hxl : x.toNat < 128 := HA.out k x (by rw [← hx]; exact Lib.data_getElem? s k hlt)
        have hxy : ((x.toNat : Int) == (y.toNat : Int)) = false := beq_eq_false_iff_ne.2 (by omega)
        have hxy2 : ((x.toNat : Int) != (y.toNat : Int)) = true := by rw [bne, hxy]; rfl
        have hib : Lib.indexByte (List.take (s.size - (k + 1)) (List.drop (k + 1) s.data.toList)) y = -1 :=
          indexByte_high _ _ hyh fun b hb => by
            obtain ⟨j, hj⟩ := List.getElem?_of_mem (List.mem_of_mem_drop (List.mem_of_mem_take hb))
            exact HA.out j b hj
        clear hyh hxl
        go_wp2_with fail
        go_step3
        go_wp2_with fail
        go_quiet (fail)
        go_wp2_with fail
        have e1 : IntKind.i64.wrap ((k : Int) + 1) = (k : Int) + 1 := IntWalk.i64_in _ (by omega)
        have e2 : 0 ≤ (k : Int) + 1 := by omega
        have e3 : ((k : Int) + 1).toNat = k + 1 := by omega
        have e4 : (k : Int) + 1 ≤ (s.size : Int) := by omega
        go_quiet ((go_at_call 47; refine (Try.strings_IndexByte _ _ _).mono ?_; rintro e w'' ⟨rfl, rfl⟩; exact ⟨rfl, _, rfl⟩))
        clear e1 e2 e3 e4
        go_wp2_with fail
        rw [Exit.noGoto_ret]
        simp +zetaDelta only [Exit.inBlock, Exit.then, Exit.noGoto]
        go_ret
        exact ⟨rfl, ⟨rfl, rfl, rfl, Nat.le_refl _, fun _ _ => rfl⟩⟩
      · go_wp2_with fail
        go_ret
        exact ⟨rfl, Below.refl _ _⟩

set_option maxHeartbeats 1000000 in
set_option maxRecDepth 100000 in
/-- At U+FFFD: the text is gone through rune by rune: no ASCII byte is it. -/
theorem idxr_fffd_at (s : ByteArray) (r : Int) (w : World) (hr : (r == 65533) = true) (hr1 : 128 ≤ r) (_hs : s.size ≤ 100) (hascii : ∀ (j : Nat) b, s.data.toList[j]? = some b → b.toNat < 128) :
    Calls Try.prog 43 #[.string s, .int .i32 r] w fun e w' => e = .returned (.int .i64 (-1)) ∧ Below w.heap.size w w' := by
  have HA := Lib.hid hascii
  clear hascii
  have hd : decide (r < 128) = false := decide_eq_false (by omega)
  go_enter Try.func43, Try.ntmps43
  go_wp2_with fail
  go_loopg [5, 6] s.size (fun g _ _ wx => ∃ i : Nat, i + g = s.size ∧ wx = w.iter s i)
  case atStart => exact ⟨0, by omega, rfl⟩
  case round =>
    obtain ⟨i, hig, rfl⟩ := hrel
    cases gk with
    | zero =>
      obtain rfl : i = s.size := by omega
      have hnx := run_next_end (P := Try.prog) w s s.size
      go_wp2
      go_ret
      exact ⟨rfl, (Below.refl _ _).alloc (Nat.le_refl _) _⟩
    | succ g =>
      have hi : i < s.size := by omega
      obtain ⟨x, hx⟩ : ∃ x : UInt8, s[i]'hi = x := ⟨_, rfl⟩
      have hx128 : x.toNat < 128 := HA.out i x (by rw [← hx]; exact Lib.data_getElem? s i hi)
      have hnx := fun ty => run_next_ascii (P := Try.prog) w s i ty hi (by rw [hx]; exact hx128)
      rw [hx] at hnx
      have hne : ((x.toNat : Int) == 65533) = false := beq_eq_false_iff_ne.2 (by omega)
      clear hx
      go_wp2
      go_roundg g
      case measure => omega
      case rel => exact ⟨i + 1, by omega, rfl⟩

/-- At whatever rune from 128 on: no ASCII byte is it. -/
theorem idxr_none (s : ByteArray) (r : Int) (w : World) (h0 : 128 ≤ r) (h1 : r ≤ 1114111) (hs : s.size ≤ 100) (hascii : ∀ (j : Nat) b, s.data.toList[j]? = some b → b.toNat < 128) :
    Calls Try.prog 43 #[.string s, .int .i32 r] w fun e w' => e = .returned (.int .i64 (-1)) ∧ Below w.heap.size w w' := by
  cases h : (r == 65533)
  · exact idxr_high s r w h0 h1 h hs hascii
  · exact idxr_fffd_at s r w h h0 hs hascii

open Go.Lib in
set_option maxHeartbeats 8000000 in
set_option maxRecDepth 1000000 in
theorem anyLong {P : Program} {ρ : Ren} (L : Lays.n153 P ρ) (hv116 : ∀ w, (zeroValue (ρ.t 116)).run P w = .ok (.agg (Array.replicate 256 (.bool false))) w) (hi116 : (P.info? (ρ.t 116)).map (·.size) = some 256) (s chars : ByteArray) (w : World) (h2 : 2 ≤ chars.size) (h8 : 8 < s.size) (hs : s.size ≤ 140737488355328) (hcs : chars.size < 4294967281)
    (hascii : ∀ (j : Nat) b, chars.data.toList[j]? = some b → b.toNat < 128) :
    Calls P (ρ.f 153) #[.string s, .string chars] w fun e w' => e = .returned (.int .i64 (Lib.indexAny s.data.toList chars.data.toList)) ∧ w' = ((w.alloc (.cells (Lib.setCells chars.data.toList) (ρ.t 116))).alloc (.cells (Lib.setCells chars.data.toList) (ρ.t 116))) := by
  have hM := Any.strings_makeASCIISet { L with } hv116 hi116 chars w hcs hascii
  clear hascii
  have hemp : chars.toList.isEmpty = false := by
    rw [Lib.toList_data]
    cases h : chars.data.toList with
    | nil => have := Lib.size_eq chars; rw [h, List.length_nil] at this; omega
    | cons _ _ => rfl
  have hn1 : ((chars.size : Int) == 1) = false := beq_eq_false_iff_ne.2 (by omega)
  have h8z : decide ((8 : Int) < (s.size : Int)) = true := decide_eq_true (by omega)
  have hsc : (storeCells ⟨w.heap.size + 1, 0, none⟩ (Lib.setCells chars.data.toList).toList 0).run P ((w.alloc (.cells (Lib.setCells chars.data.toList) (ρ.t 116))).alloc (.cells (Array.replicate 256 (.bool false)) (ρ.t 116))) = .ok () ((w.alloc (.cells (Lib.setCells chars.data.toList) (ρ.t 116))).alloc (.cells (Lib.setCells chars.data.toList) (ρ.t 116))) := by
    have := run_storeCells_new (P := P) (w.alloc (.cells (Lib.setCells chars.data.toList) (ρ.t 116))) (ρ.t 116) (Array.replicate 256 (.bool false)) (Lib.setCells chars.data.toList) (by rw [Lib.setCells_size]; exact hi116) (by rw [Lib.setCells_size, Array.size_replicate]) (Lib.setCells_one _)
    simpa using this
  have hsz := Lib.setCells_size chars.data.toList
  have hcellAt : ∀ x : UInt8, ((w.alloc (.cells (Lib.setCells chars.data.toList) (ρ.t 116))).alloc (.cells (Lib.setCells chars.data.toList) (ρ.t 116))).cell? ⟨w.heap.size + 1, x.toNat, none⟩ = some (.bool (chars.data.toList.contains x)) := fun x => by
    rw [World.cell?_alloc_at _ _ _ _ (by simp), Lib.setCells_at]
  have HC : Aside (∀ x : UInt8, ((w.alloc (.cells (Lib.setCells chars.data.toList) (ρ.t 116))).alloc (.cells (Lib.setCells chars.data.toList) (ρ.t 116))).cell? ⟨w.heap.size + 1, x.toNat, none⟩ = some (.bool (chars.data.toList.contains x))) := hcellAt
  clear hcellAt
  have t3 := L.t3; have a3 := L.a3; have z3 := L.z3; have v3 := L.v3
  have t4 := L.t4; have a4 := L.a4; have z4 := L.z4; have v4 := L.v4
  have t5 := L.t5; have a5 := L.a5; have z5 := L.z5; have v5 := L.v5
  have t9 := L.t9; have a9 := L.a9; have z9 := L.z9; have v9 := L.v9
  have t21 := L.t21; have a21 := L.a21; have z21 := L.z21; have v21 := L.v21
  have t116 := L.t116
  have e226 : ∀ args w, (callFunc (ρ.f 226) args).run P w = .ok (.enter (ρ.f 226) args) w := enters_of L.f226 (by kernel_rfl) rfl
  have e227 : ∀ args w, (callFunc (ρ.f 227) args).run P w = .ok (.enter (ρ.f 227) args) w := enters_of L.f227 (by kernel_rfl) rfl
  have e228 : ∀ args w, (callFunc (ρ.f 228) args).run P w = .ok (.enter (ρ.f 228) args) w := enters_of L.f228 (by kernel_rfl) rfl
  go_enter L.f153, Body.n153_ntmps ρ
  go_wp2_with (first
    | (go_at_fn (ρ.f 226); refine (Any.strings_shouldUseASCIISet { L with } _ _).mono ?_; rintro e w' ⟨rfl, hw⟩; rw [hw, h8z])
    | (go_at_fn (ρ.f 227); refine hM.mono ?_; rintro e w' ⟨rfl, hw⟩; rw [hw]))
  -- (the whole set goes into a variable of IndexAny's own: that one step by hand: Derived/Deep/WholeRow.lean's head)
  simp only [L.z116, Result.andThen, ↓reduceIte, hsc]
  rw [Oper.upon_skip]
  go_wp2
  clear hM hsc
  go_loopg [8] s.size (fun g s8 wx => ∃ i : Nat, i + g = s.size ∧ s8 = .int .i64 i ∧ wx = ((w.alloc (.cells (Lib.setCells chars.data.toList) (ρ.t 116))).alloc (.cells (Lib.setCells chars.data.toList) (ρ.t 116))) ∧ Lib.NoAny s.data.toList chars.data.toList i)
  case atStart => exact ⟨0, by omega, rfl, rfl, Lib.NoAny.zero _ _⟩
  case round =>
    obtain ⟨i, hig, rfl, rfl, hno⟩ := hrel
    have HN : Aside (Lib.NoAny s.data.toList chars.data.toList i) := hno
    clear hno
    cases gk with
    | zero =>
      obtain rfl : i = s.size := by omega
      have hiz : ¬ ((s.size : Int) < (s.size : Int)) := by omega
      go_wp2
      go_ret
      exact ⟨by rw [Lib.indexAny_none (by rw [← Lib.size_eq]; exact HN.out)]; rfl, rfl⟩
    | succ g =>
      have hi : i < s.size := by omega
      have hiz : (i : Int) < (s.size : Int) := by omega
      obtain ⟨x, hx⟩ : ∃ x : UInt8, s[i]'hi = x := ⟨_, rfl⟩
      have hxl : s.data.toList[i]? = some x := by rw [← hx]; exact Lib.data_getElem? s i hi
      have Hx : Aside (s.data.toList[i]? = some x) := hxl
      clear hxl
      have hcx := HC.out x
      cases hin : chars.data.toList.contains x <;> rw [hin] at hcx
      · go_wp2_with (go_at_fn (ρ.f 228); refine (Any.asciiSet_contains { L with } _ x _ _ hcx).mono ?_; rintro e w' ⟨rfl, hw⟩; rw [hw])
        go_roundg g
        case measure => omega
        case rel => exact ⟨i + 1, by omega, by first | rfl | simp, rfl, HN.out.succ Hx.out hin⟩
      · go_wp2_with (go_at_fn (ρ.f 228); refine (Any.asciiSet_contains { L with } _ x _ _ hcx).mono ?_; rintro e w' ⟨rfl, hw⟩; rw [hw])
        go_ret
        exact ⟨by rw [Lib.indexAny_hit HN.out Hx.out hin]; rfl, rfl⟩


theorem get_of_list {s : ByteArray} {n : Nat} {b : UInt8} (h : s.data.toList[n]? = some b) : s.get! n = b := by
  obtain ⟨hn, hb⟩ := List.getElem?_eq_some_iff.1 h
  have hs : n < s.size := by simpa using hn
  have := get_at s n hs
  rw [Nat.add_zero] at this
  rw [this, ← hb]
  simp
  rfl

/-- What a decoded character that does not begin with an ASCII byte is made of: no ASCII byte. -/
theorem decode_span (s : ByteArray) (pos : Nat) (h : pos < s.size) (ha : 128 ≤ (s[pos]'h).toNat) :
    1 ≤ (Utf8.decode s pos).2 ∧ pos + (Utf8.decode s pos).2 ≤ s.size ∧ ∀ j b, j < (Utf8.decode s pos).2 → s.data.toList[pos + j]? = some b → 128 ≤ b.toNat := by
  have h0 : (s.get! (pos + 0)) = s[pos]'h := get_at s pos h
  have hz : ∀ b, s.data.toList[pos + 0]? = some b → 128 ≤ b.toNat := fun b hb => by
    rw [← get_of_list hb, h0]; exact ha
  have hk : ∀ k b, ((s.get! (pos + k)).toNat / 64 == 2) = true → s.data.toList[pos + k]? = some b → 128 ≤ b.toNat := fun k b hc hb => by
    rw [get_of_list hb] at hc
    have := beq_iff_eq.1 hc
    omega
  have one : 1 ≤ 1 ∧ pos + 1 ≤ s.size ∧ ∀ j b, j < 1 → s.data.toList[pos + j]? = some b → 128 ≤ b.toNat :=
    ⟨Nat.le_refl _, h, fun j b hj hb => by obtain rfl : j = 0 := by omega
                                           exact hz b hb⟩
  have hn : ¬ (s.get! (pos + 0)).toNat < 0x80 := by rw [h0]; omega
  simp only [Utf8.decode]
  rw [if_neg hn]
  split
  · rename_i hc
    simp only [Bool.and_eq_true, decide_eq_true_eq] at hc
    split
    · exact ⟨(by decide : 1 ≤ 2), by omega, fun j b hj hb => by
        match j, hj, hb with
        | 0, _, hb => exact hz b hb
        | 1, _, hb => exact hk 1 b hc.2.2 hb⟩
    · exact one
  · split
    · rename_i hc
      simp only [Bool.and_eq_true, decide_eq_true_eq] at hc
      split
      · exact ⟨(by decide : 1 ≤ 3), by omega, fun j b hj hb => by
          match j, hj, hb with
          | 0, _, hb => exact hz b hb
          | 1, _, hb => exact hk 1 b hc.1.2.2 hb
          | 2, _, hb => exact hk 2 b hc.2.2 hb⟩
      · exact one
    · split
      · rename_i hc
        simp only [Bool.and_eq_true, decide_eq_true_eq] at hc
        split
        · exact ⟨(by decide : 1 ≤ 4), by omega, fun j b hj hb => by
            match j, hj, hb with
            | 0, _, hb => exact hz b hb
            | 1, _, hb => exact hk 1 b hc.1.1.2.2 hb
            | 2, _, hb => exact hk 2 b hc.1.2.2 hb
            | 3, _, hb => exact hk 3 b hc.2.2 hb⟩
        · exact one
      · exact one

theorem noAny_span {s : ByteArray} {chars : List UInt8} {pos K : Nat} (h : Lib.NoAny s.data.toList chars pos) (hc : ∀ c ∈ chars, c.toNat < 128)
    (hk : ∀ j b, j < K → s.data.toList[pos + j]? = some b → 128 ≤ b.toNat) : Lib.NoAny s.data.toList chars (pos + K) := fun j b hj hb => by
  by_cases hlt : j < pos
  · exact h j b hlt hb
  · have h1 := hk (j - pos) b (by omega) (by rw [show pos + (j - pos) = j by omega]; exact hb)
    rw [← Bool.not_eq_true]
    intro hm
    have := hc b (by simpa using hm)
    omega

open Go.Lib in
set_option maxHeartbeats 8000000 in
set_option maxRecDepth 1000000 in
/-- strings.IndexAny at a text of at most 8 bytes, whatever they are. -/
theorem anyShort (s chars : ByteArray) (w : World) (h2 : 2 ≤ chars.size) (hcs : chars.size ≤ 100) (h8 : s.size ≤ 8) (hascii : ∀ (j : Nat) b, chars.data.toList[j]? = some b → b.toNat < 128) :
    Calls Try.prog 40 #[.string s, .string chars] w fun e w' => e = .returned (.int .i64 (Lib.indexAny s.data.toList chars.data.toList)) ∧ Below w.heap.size w w' := by
  have HA : Aside (∀ (j : Nat) b, chars.data.toList[j]? = some b → b.toNat < 128) := hascii
  clear hascii
  have hemp : chars.toList.isEmpty = false := by
    rw [Lib.toList_data]
    cases h : chars.data.toList with
    | nil => have := Lib.size_eq chars; rw [h, List.length_nil] at this; omega
    | cons _ _ => rfl
  have hn1 : ((chars.size : Int) == 1) = false := beq_eq_false_iff_ne.2 (by omega)
  have h8z : decide ((8 : Int) < (s.size : Int)) = false := decide_eq_false (by omega)
  go_enter Try.func40, Try.ntmps40
  go_wp2_with (go_at_call 44; refine (Try.strings_shouldUseASCIISet _ _).mono ?_; rintro e w' ⟨rfl, hw⟩; rw [hw, h8z])
  go_loopg [9, 10] s.size (fun g _ _ wx => ∃ i : Nat, s.size ≤ i + g ∧ i ≤ s.size ∧ wx.heap[w.heap.size]? = some (.stringIter s i) ∧ Below w.heap.size w wx ∧ Lib.NoAny s.data.toList chars.data.toList i)
  case atStart => exact ⟨0, by omega, by omega, World.iter_heap w s 0, (Below.refl _ _).alloc (Nat.le_refl _) _, Lib.NoAny.zero _ _⟩
  case round =>
    obtain ⟨i, hig, hin, hit, hbw, hno⟩ := hrel
    have HN : Aside (Lib.NoAny s.data.toList chars.data.toList i) := hno
    clear hno
    by_cases hi : i < s.size
    · obtain ⟨g, rfl⟩ : ∃ g, gk = g + 1 := ⟨gk - 1, by omega⟩
      have hnx : ∀ ty, (Instr.next (.pointer (some ⟨w.heap.size, 0, none⟩)) true ty).run Try.prog wr = _ := fun ty => Lib.run_next_any_at wr w.heap.size s i ty hit hi
      obtain ⟨R, hR⟩ : ∃ R, (Utf8.decode s i).1 = R := ⟨_, rfl⟩
      obtain ⟨K, hK⟩ : ∃ K, (Utf8.decode s i).2 = K := ⟨_, rfl⟩
      rw [hR, hK] at hnx
      have hit2 := Lib.iterAt_heap wr w.heap.size s i (i + K) hit
      have hbw2 := Lib.below_iterAt hbw (k := w.heap.size) (Nat.le_refl _) s (i + K)
      obtain ⟨W, hWd⟩ : ∃ W, wr.iterAt w.heap.size s (i + K) = W := ⟨_, rfl⟩
      rw [hWd] at hnx hit2 hbw2
      have hWsz : w.heap.size < W.heap.size := (Array.getElem?_eq_some_iff.1 hit2).1
      clear hit hbw
      obtain ⟨x, hx⟩ : ∃ x : UInt8, s[i]'hi = x := ⟨_, rfl⟩
      have hxl : s.data.toList[i]? = some x := by rw [← hx]; exact Lib.data_getElem? s i hi
      by_cases hx128 : x.toNat < 128
      · have hdec := decode_ascii s i hi (by rw [hx]; exact hx128)
        rw [hx] at hdec
        obtain rfl : R = x.toNat := by rw [← hR, hdec]
        obtain rfl : K = 1 := by rw [← hK, hdec]
        clear hR hK hdec hx hWd
        have Hx : Aside (s.data.toList[i]? = some x) := hxl
        clear hxl
        have hcon := Lib.contains_iff_indexByte chars.data.toList x
        have hback : ((x.toNat : Int)).toNat.toUInt8 = x := by simp
        cases hinc : chars.data.toList.contains x
        · rw [hinc] at hcon
          have hlt : ¬ ((0 : Int) ≤ Lib.indexByte chars.data.toList x) := of_decide_eq_false hcon.symm
          clear hcon
          go_wp2_with (go_at_call 43; refine (Try.strings_IndexRune_ascii _ _ _ (by omega) (by omega)).mono ?_; rintro e w' ⟨rfl, hw⟩; rw [hw, hback])
          go_roundg g
          case measure => omega
          case rel => exact ⟨i + 1, by omega, by omega, hit2, hbw2, HN.out.succ Hx.out hinc⟩
        · rw [hinc] at hcon
          have hge : (0 : Int) ≤ Lib.indexByte chars.data.toList x := of_decide_eq_true hcon.symm
          clear hcon
          go_wp2_with (go_at_call 43; refine (Try.strings_IndexRune_ascii _ _ _ (by omega) (by omega)).mono ?_; rintro e w' ⟨rfl, hw⟩; rw [hw, hback])
          go_ret
          exact ⟨by rw [Lib.indexAny_hit HN.out Hx.out hinc]; rfl, hbw2⟩
      · have hsp := decode_span s i hi (by rw [hx]; omega)
        have hRh := (decode_high s i hi (by rw [hx]; omega)).1
        have hR1 := Lib.rune_le s i
        rw [hK] at hsp
        rw [hR] at hRh hR1
        have HS : Aside (∀ j b, j < K → s.data.toList[i + j]? = some b → 128 ≤ b.toNat) := hsp.2.2
        have hk1 := hsp.1
        have hk2 := hsp.2.1
        clear hsp hR hK hx hxl hWd
        have HC : Aside (∀ c ∈ chars.data.toList, c.toNat < 128) := fun c hc => by
          obtain ⟨j, hj⟩ := List.getElem?_of_mem hc
          exact HA.out j c hj
        go_wp2_with (go_at_call 43; refine (idxr_none _ _ _ (by omega) (by omega) hcs HA.out).mono ?_; rintro e w' ⟨rfl, hb⟩)
        go_roundg g
        case measure => omega
        case rel => exact ⟨i + K, by omega, by omega, (hb.block _ hWsz).trans hit2, hbw2.trans (hb.mono hbw2.size), noAny_span HN.out HC.out HS.out⟩
    · obtain rfl : i = s.size := by omega
      have hnx := fun ty => Lib.run_next_end_at (P := Try.prog) wr w.heap.size s s.size ty hit (by omega)
      clear hit
      go_wp2
      go_ret
      exact ⟨by rw [Lib.indexAny_none (by rw [← Lib.size_eq]; exact HN.out)]; rfl, hbw⟩

/-- strings.IndexAny at a text of at most 2^47 bytes, whatever they are: the index of the first byte that is among the sought ASCII characters. -/
theorem indexAny_bytes (s chars : ByteArray) (w : World) (h2 : 2 ≤ chars.size) (hcs : chars.size ≤ 100) (hs : s.size ≤ 140737488355328) (hascii : ∀ (j : Nat) b, chars.data.toList[j]? = some b → b.toNat < 128) :
    Calls Try.prog 40 #[.string s, .string chars] w fun e w' => e = .returned (.int .i64 (Lib.indexAny s.data.toList chars.data.toList)) ∧ Below w.heap.size w w' := by
  by_cases h8 : s.size ≤ 8
  · exact anyShort s chars w h2 hcs h8 hascii
  · have h54 : (Try.prog.info? 87).map (fun i => (i.zero, i.size)) = some (some (.agg (Array.replicate 256 (.bool false))), 256) := by kernel_rfl
    refine (anyLong Try.lays153 (zero_of_info h54).1 (zero_of_info h54).2 s chars w h2 (by omega) hs (by omega) hascii).mono fun e w' ⟨h1, h2⟩ => ⟨h1, ?_⟩
    rw [h2]
    exact ((Below.refl _ _).alloc (Nat.le_refl _) _).alloc (by simp) _

end Go.Proofs.Ytgbeohhegckonaa
