/- The reference's small functions: isSpace, find, Contains, Has, Valid, modeOf, normal, lower, starts. Conditions: sizes below 2^40. -/
import Derived.Test.YtpkelgekannioaaGreatDoorGbRef
import Derived.Test.YtpkelgekannioaaGreatDoorPFnTokenReadx8
import Derived.Test.YtpkelgekannioaaGreatDoorPFnTokenReadx9
import Derived.Test.YtpkelgekannioaaGreatDoorPFnTokenReadx10
import Derived.Test.YtpkelgekannioaaGreatDoorPFnTokenReadx13
import Derived.Test.YtpkelgekannioaaGreatDoorPFnTokenReadx56
import Derived.Test.YtpkelgekannioaaGreatDoorPFnTokenReadx67
import Derived.Lib.ConvBytes
set_option linter.unusedSimpArgs false
set_option linter.unusedVariables false

namespace Go.Proofs.YtpkelgekannioaaGreatDoor
open Go.RowKit Go.Shelf Go.BigFrame
open Go.Proofs.YtpkelgekannioaaGreatDoorW.PrintWords
open PFnTokenRead
set_option linter.unusedSimpArgs false
set_option linter.unusedVariables false

/-- Bytes as numbers. -/
abbrev bInts (l : List UInt8) : List Int := l.map fun b => (b.toNat : Int)
/-- A text as a string. -/
def bStr (l : List UInt8) : ByteArray := ⟨l.toArray⟩
theorem bStr_list (l : List UInt8) : (bStr l).data.toList = l := by simp [bStr]
theorem bStr_size (l : List UInt8) : (bStr l).size = l.length := by rw [Lib.size_eq]; simp [bStr]
theorem bStr_of (s : ByteArray) : bStr s.data.toList = s := by simp [bStr]
theorem strOf_bInts (l : List UInt8) : strOfNums (bInts l) = bStr l := by
  unfold strOfNums bStr bInts
  rw [List.map_map]
  congr 2
  conv => rhs; rw [← List.map_id l]
  refine List.map_congr_left fun b _ => ?_
  simp

/-- A blank. -/
def isSp (c : UInt8) : Bool := decide (c = 32 ∨ c = 10 ∨ c = 9 ∨ c = 12 ∨ c = 13)
theorem u8_eq {c n : UInt8} {k : Int} (hk : (n.toNat : Int) = k) : ((c.toNat : Int) = k) ↔ c = n := by
  constructor
  · intro h
    exact UInt8.toNat_inj.1 (by omega)
  · rintro rfl
    exact hk

theorem isSpace_any (c : UInt8) (w : World) : Calls Tryz.prog 47 #[.int .u8 c.toNat] w fun e w' => e = .returned (.bool (isSp c)) ∧ Drawn0 w w' := by
  refine spec_isSpace.calls (c.toNat : Int) (isSp c) w ?_
  unfold spec_isSpace.f isSp
  rw [show ((c.toNat : Int) == 13) = decide (c = 13) from by
    rw [Bool.eq_iff_iff]
    simp only [beq_iff_eq, decide_eq_true_eq]
    exact u8_eq rfl]
  simp only [u8_eq (c := c) (n := 32) (k := 32) rfl, u8_eq (c := c) (n := 10) (k := 10) rfl, u8_eq (c := c) (n := 9) (k := 9) rfl, u8_eq (c := c) (n := 12) (k := 12) rfl]
  by_cases h1 : c = 32
  · simp [h1]
  by_cases h2 : c = 10
  · simp [h2]
  by_cases h3 : c = 9
  · simp [h3]
  by_cases h4 : c = 12
  · simp [h4]
  simp [h1, h2, h3, h4]

/-- The same inside a region that only reads. -/
theorem isSpace_quiet (c : UInt8) (w : World) : Calls Tryz.prog 47 #[.int .u8 c.toNat] w fun e w' => e = .returned (.bool (isSp c)) ∧ ∃ m, w' = w.drewN m :=
  (isSpace_any c w).mono fun e w' h => ⟨h.1, h.2.out⟩

theorem bt_list {s : ByteArray} {i : Nat} {c : UInt8} (h : s.data.toList[i]? = some c) : bt s (i : Int) = (c.toNat : Int) := by
  have hi : i < s.size := by have := (List.getElem?_eq_some_iff.1 h).1; simpa using this
  unfold bt
  have : ((i : Int).toNat) = i := by omega
  rw [dif_pos (by omega)]
  have h2 := Lib.data_getElem? s i hi
  rw [h] at h2
  cases h2
  simp [this]

theorem wrap_small {x : Int} (h0 : 0 ≤ x) (h1 : x ≤ 1099511627776) : wrap64 (x + 1) = x + 1 := by unfold wrap64; omega
theorem wrap_id {x : Int} (h0 : 0 ≤ x) (h1 : x ≤ 4398046511104) : wrap64 x = x := by unfold wrap64; omega

/-! ### find -/
/-- The word K stands at place q of L. -/
def occ (L K : List UInt8) (q : Nat) : Prop := (L.drop q).take K.length = K

theorem occ_len {L K : List UInt8} {q : Nat} (h : occ L K q) : K = [] ∨ q + K.length ≤ L.length := by
  have h1 := congrArg List.length h
  rw [List.length_take, List.length_drop] at h1
  by_cases hk : K.length = 0
  · exact .inl (List.eq_nil_of_length_eq_zero hk)
  · exact .inr (by omega)

/-- Where the word stands first from i on: r. -/
def FindR (L K : List UInt8) (i r : Nat) : Prop :=
  (i ≤ r ∧ r + K.length ≤ L.length ∧ occ L K r ∧ ∀ q, i ≤ q → q < r → ¬ occ L K q) ∨ (r = L.length ∧ ∀ q, i ≤ q → q + K.length ≤ L.length → ¬ occ L K q)

theorem extract_occ (s : ByteArray) (K : List UInt8) (i : Nat) : (s.extract i (i + K.length)).toList = K ↔ occ s.data.toList K i := by
  rw [Lib.toList_data]
  unfold occ
  have : (s.extract i (i + K.length)).data.toList = (s.data.toList.drop i).take K.length := by
    simp [ByteArray.data_extract, Array.toList_extract, List.extract_eq_take_drop]
  rw [this]

theorem find_l0 (s what : ByteArray) (hs : s.size ≤ 1099511627776) (hw : what.size ≤ 1099511627776) : ∀ (d i : Nat), s.size - i ≤ d → i ≤ s.size + 1 → ∀ k, d + 1 < k → ∃ r : Nat, spec_find.l0 k s what i = some (r : Int) ∧ FindR s.data.toList what.data.toList i r := by
  intro d
  induction d with
  | zero =>
    intro i hd hi k hk
    obtain ⟨k, rfl⟩ : ∃ m, k = m + 1 := ⟨k - 1, by omega⟩
    have hwr : wrap64 ((i : Int) + (what.size : Int)) = (i : Int) + (what.size : Int) := wrap_id (by omega) (by omega)
    simp only [spec_find.l0]
    rw [hwr]
    have e1 : what.data.toList.length = what.size := (Lib.size_eq _).symm
    have e2 : s.data.toList.length = s.size := (Lib.size_eq _).symm
    by_cases h1 : (i : Int) + (what.size : Int) ≤ (s.size : Int)
    · rw [if_pos h1, if_pos (by omega), if_pos (by omega)]
      have hii : i = s.size := by omega
      have hww : what.size = 0 := by omega
      have hx : (s.extract (i : Int).toNat ((i : Int) + (what.size : Int)).toNat).toList = what.toList ↔ occ s.data.toList what.data.toList i := by
        have t1 : ((i : Int)).toNat = i := by omega
        have t2 : ((i : Int) + (what.size : Int)).toNat = i + what.data.toList.length := by omega
        rw [t1, t2, Lib.toList_data what]
        exact extract_occ s _ i
      have hoc : occ s.data.toList what.data.toList i := by
        have : what.data.toList = [] := List.eq_nil_of_length_eq_zero (by omega)
        rw [this]
        rfl
      rw [if_pos (hx.2 hoc)]
      exact ⟨i, rfl, .inl ⟨Nat.le_refl _, by omega, hoc, fun q h1 h2 => by omega⟩⟩
    · rw [if_neg h1]
      exact ⟨s.size, rfl, .inr ⟨e2.symm, fun q h2 h3 => by omega⟩⟩
  | succ d ih =>
    intro i hd hi k hk
    obtain ⟨k, rfl⟩ : ∃ m, k = m + 1 := ⟨k - 1, by omega⟩
    have hwr : wrap64 ((i : Int) + (what.size : Int)) = (i : Int) + (what.size : Int) := wrap_id (by omega) (by omega)
    simp only [spec_find.l0]
    rw [hwr]
    have e1 : what.data.toList.length = what.size := (Lib.size_eq _).symm
    have e2 : s.data.toList.length = s.size := (Lib.size_eq _).symm
    by_cases h1 : (i : Int) + (what.size : Int) ≤ (s.size : Int)
    · rw [if_pos h1, if_pos (by omega), if_pos (by omega)]
      have hx : (s.extract (i : Int).toNat ((i : Int) + (what.size : Int)).toNat).toList = what.toList ↔ occ s.data.toList what.data.toList i := by
        have t1 : ((i : Int)).toNat = i := by omega
        have t2 : ((i : Int) + (what.size : Int)).toNat = i + what.data.toList.length := by omega
        rw [t1, t2, Lib.toList_data what]
        exact extract_occ s _ i
      by_cases hoc : occ s.data.toList what.data.toList i
      · rw [if_pos (hx.2 hoc)]
        exact ⟨i, rfl, .inl ⟨Nat.le_refl _, by omega, hoc, fun q h1 h2 => by omega⟩⟩
      · rw [if_neg (fun h => hoc (hx.1 h)), wrap_small (by omega) (by omega)]
        obtain ⟨r, hr, hf⟩ := ih (i + 1) (by omega) (by omega) k (by omega)
        refine ⟨r, hr, ?_⟩
        rcases hf with ⟨f1, f2, f3, f4⟩ | ⟨f1, f2⟩
        · refine .inl ⟨by omega, f2, f3, fun q q1 q2 => ?_⟩
          by_cases e : q = i
          · rw [e]; exact hoc
          · exact f4 q (by omega) q2
        · refine .inr ⟨f1, fun q q1 q2 => ?_⟩
          by_cases e : q = i
          · rw [e]; exact hoc
          · exact f2 q (by omega) q2
    · rw [if_neg h1]
      exact ⟨s.size, rfl, .inr ⟨e2.symm, fun q h2 h3 => by omega⟩⟩

theorem find_any (s what : ByteArray) (hs : s.size ≤ 1099511627776) (hw : what.size ≤ 1099511627776) (i : Nat) (hi : i ≤ s.size + 1) :
    ∃ r : Nat, FindR s.data.toList what.data.toList i r ∧ ∀ w, Calls Tryz.prog 25 #[.string s, .int .i64 i, .string what] w fun e w' => e = .returned (.int .i64 r) ∧ Drawn0 w w' := by
  obtain ⟨r, h1, h2⟩ := find_l0 s what hs hw _ i (Nat.le_refl _) hi (s.size - i + 2) (by omega)
  exact ⟨r, h2, fun w => spec_find.calls _ s i what r w h1⟩

theorem find_at {L K : List UInt8} {i p r : Nat} (h : FindR L K i r) (hp : i ≤ p) (hl : p + K.length ≤ L.length) (ho : occ L K p) (hno : ∀ q, i ≤ q → q < p → ¬ occ L K q) : r = p := by
  rcases h with ⟨h1, h2, h3, h4⟩ | ⟨h1, h2⟩
  · by_cases hlt : r < p
    · exact absurd h3 (hno r h1 hlt)
    · by_cases hgt : p < r
      · exact absurd ho (h4 p hp hgt)
      · omega
  · exact absurd ho (h2 p hp hl)

/-! ### Contains, Has -/
theorem contains_any (s what : ByteArray) (hs : s.size ≤ 1099511627776) (hw : what.size ≤ 1099511627776) (h0 : what.data.toList ≠ []) :
    ∃ b : Bool, (b = false → ∀ q, q + what.data.toList.length ≤ s.data.toList.length → ¬ occ s.data.toList what.data.toList q) ∧ ∀ w, Calls Tryz.prog 15 #[.string s, .string what] w fun e w' => e = .returned (.bool b) ∧ Drawn0 w w' := by
  obtain ⟨r, h1, h2⟩ := find_l0 s what hs hw _ 0 (Nat.le_refl _) (by omega) (s.size - 0 + 2) (by omega)
  have e2 : s.data.toList.length = s.size := (Lib.size_eq _).symm
  refine ⟨decide ((r : Int) < (s.size : Int)), fun hb q hq => ?_, fun w => spec_Contains.calls (s.size - 0 + 2) s what _ w ?_⟩
  · have hge : s.size ≤ r := by
      have := of_decide_eq_false hb
      omega
    rcases h2 with ⟨f1, f2, f3, f4⟩ | ⟨f1, f2⟩
    · exact absurd f2 (by
        have : 0 < what.data.toList.length := List.length_pos_iff.2 h0
        omega)
    · exact f2 q (Nat.zero_le _) hq
  · unfold spec_Contains.f spec_find.f
    rw [if_neg (by rw [Lib.toList_data]; exact h0)]
    rw [show (0 : Int) = ((0 : Nat) : Int) from rfl, h1]
    rfl

theorem has_l0 (s : ByteArray) (c : Int) (hs : s.size ≤ 1099511627776) : ∀ (d i : Nat), s.size - i ≤ d → i ≤ s.size → ∀ k, d < k → ∃ b : Bool, spec_Has.l0 k s c s.size i = some b ∧ (b = false → ∀ (j : Nat) x, i ≤ j → s.data.toList[j]? = some x → (x.toNat : Int) ≠ c) := by
  intro d
  induction d with
  | zero =>
    intro i hd hi k hk
    obtain ⟨k, rfl⟩ : ∃ m, k = m + 1 := ⟨k - 1, by omega⟩
    simp only [spec_Has.l0]
    rw [if_neg (by omega)]
    refine ⟨false, rfl, fun _ j x hj hx => ?_⟩
    have := (List.getElem?_eq_some_iff.1 hx).1
    rw [← Lib.size_eq] at this
    omega
  | succ d ih =>
    intro i hd hi k hk
    obtain ⟨k, rfl⟩ : ∃ m, k = m + 1 := ⟨k - 1, by omega⟩
    simp only [spec_Has.l0]
    by_cases hlt : i < s.size
    · rw [if_pos (by omega), if_pos (by omega), if_pos (by omega)]
      have hx := Lib.data_getElem? s i hlt
      rw [bt_list hx]
      by_cases he : ((s[i]'hlt).toNat : Int) = c
      · rw [if_pos he]
        exact ⟨true, rfl, fun h => by cases h⟩
      · rw [if_neg he, wrap_small (by omega) (by omega)]
        obtain ⟨b, h1, h2⟩ := ih (i + 1) (by omega) (by omega) k (by omega)
        refine ⟨b, h1, fun hb j x hj hjx => ?_⟩
        by_cases e : j = i
        · subst e
          rw [hx] at hjx
          cases hjx
          exact he
        · exact h2 hb j x (by omega) hjx
    · rw [if_neg (by omega)]
      refine ⟨false, rfl, fun _ j x hj hx => ?_⟩
      have := (List.getElem?_eq_some_iff.1 hx).1
      rw [← Lib.size_eq] at this
      omega

theorem has_any (s : ByteArray) (c : UInt8) (hs : s.size ≤ 1099511627776) :
    ∃ b : Bool, (b = false → ∀ x ∈ s.data.toList, x ≠ c) ∧ ∀ w, Calls Tryz.prog 14 #[.string s, .int .u8 c.toNat] w fun e w' => e = .returned (.bool b) ∧ Drawn0 w w' := by
  obtain ⟨b, h1, h2⟩ := has_l0 s c.toNat hs _ 0 (Nat.le_refl _) (by omega) (s.size - 0 + 1) (by omega)
  refine ⟨b, fun hb x hx => ?_, fun w => spec_Has.calls (s.size - 0 + 1) s c.toNat b w h1⟩
  obtain ⟨j, hj⟩ := List.getElem?_of_mem hx
  rintro rfl
  exact h2 hb j x (Nat.zero_le _) hj rfl

/-! ### Valid -/
theorem size_l0 (s : ByteArray) (x3 x4 x5 : Int) (h4 : x4 ≤ s.size) (h44 : x4 ≤ 4) : ∀ (d : Nat) (x3 i : Int), x4 - i ≤ d → 0 ≤ i → i ≤ 4 → ∀ k, d < k → ∃ r, spec_size.l0 k s x3 x4 x5 i = some r ∧ (r = 0 ∨ r = x4) := by
  intro d
  induction d with
  | zero =>
    intro x3 i hd h0 hi k hk
    obtain ⟨k, rfl⟩ : ∃ m, k = m + 1 := ⟨k - 1, by omega⟩
    simp only [spec_size.l0]
    rw [if_neg (by omega)]
    repeat' split
    all_goals exact ⟨_, rfl, by simp⟩
  | succ d ih =>
    intro x3 i hd h0 hi k hk
    obtain ⟨k, rfl⟩ : ∃ m, k = m + 1 := ⟨k - 1, by omega⟩
    simp only [spec_size.l0]
    by_cases hlt : i < x4
    · rw [if_pos hlt, if_pos h0, if_pos (by omega), wrap_small h0 (by omega)]
      split
      · exact ih _ (i + 1) (by omega) (by omega) (by omega) k (by omega)
      · exact ⟨0, rfl, .inl rfl⟩
    · rw [if_neg hlt]
      repeat' split
      all_goals exact ⟨_, rfl, by simp⟩

theorem size_j2 (s : ByteArray) (x3 x4 x5 : Int) (h44 : x4 ≤ 4) (h40 : 0 ≤ x4) (k : Nat) (hk : 10 < k) : ∃ r, spec_size.j2 k s x3 x4 x5 = some r ∧ 0 ≤ r ∧ r ≤ s.size := by
  obtain ⟨k, rfl⟩ : ∃ m, k = m + 1 := ⟨k - 1, by omega⟩
  simp only [spec_size.j2]
  by_cases h : (s.size : Int) < x4
  · rw [if_pos h]
    exact ⟨0, rfl, Int.le_refl _, by omega⟩
  · rw [if_neg h]
    obtain ⟨r, h1, h2⟩ := size_l0 s x3 x4 x5 (by omega) h44 4 x3 1 (by omega) (by omega) (by omega) k (by omega)
    exact ⟨r, h1, by rcases h2 with rfl | rfl <;> omega, by rcases h2 with rfl | rfl <;> omega⟩

theorem size_f (s : ByteArray) (h : 0 < s.size) (k : Nat) (hk : 20 < k) : ∃ r, spec_size.f k s = some r ∧ 0 ≤ r ∧ r ≤ s.size := by
  obtain ⟨k, rfl⟩ : ∃ m, k = m + 2 := ⟨k - 2, by omega⟩
  have j1 : ∀ x3 x22, ∃ r, spec_size.j1 (k + 1) s x3 x22 = some r ∧ 0 ≤ r ∧ r ≤ s.size := fun x3 x22 => by
    simp only [spec_size.j1]
    repeat' split
    all_goals first | exact size_j2 _ _ _ _ (by decide) (by decide) k (by omega) | exact ⟨0, rfl, Int.le_refl _, by omega⟩
  have j0 : ∀ x3 x13, ∃ r, spec_size.j0 (k + 2) s x3 x13 = some r ∧ 0 ≤ r ∧ r ≤ s.size := fun x3 x13 => by
    simp only [spec_size.j0]
    repeat' split
    all_goals first | exact size_j2 _ _ _ _ (by decide) (by decide) (k + 1) (by omega) | exact j1 _ _
  unfold spec_size.f
  rw [if_pos (by omega)]
  repeat' split
  all_goals first | exact j0 _ _ | exact ⟨1, rfl, by decide, by omega⟩

theorem valid_l0 (s : ByteArray) (hs : s.size ≤ 1099511627776) : ∀ (d i : Nat), s.size - i ≤ d → i ≤ s.size → ∀ k, d + 25 < k → ∃ b : Bool, spec_Valid.l0 k s i = some b := by
  intro d
  induction d with
  | zero =>
    intro i hd hi k hk
    obtain ⟨k, rfl⟩ : ∃ m, k = m + 1 := ⟨k - 1, by omega⟩
    simp only [spec_Valid.l0]
    rw [if_neg (by omega)]
    exact ⟨true, rfl⟩
  | succ d ih =>
    intro i hd hi k hk
    obtain ⟨k, rfl⟩ : ∃ m, k = m + 1 := ⟨k - 1, by omega⟩
    simp only [spec_Valid.l0]
    by_cases hlt : i < s.size
    · rw [if_pos (by omega), if_pos (by omega), if_pos (by omega)]
      have hz : (s.extract (i : Int).toNat s.size).size = s.size - i := by rw [ByteArray.size_extract]; omega
      obtain ⟨r, h1, h2, h3⟩ := size_f (s.extract (i : Int).toNat s.size) (by rw [hz]; omega) k (by omega)
      rw [h1]
      simp only [Option.bind_some]
      rw [hz] at h3
      by_cases hr : r = 0
      · rw [if_pos hr]
        exact ⟨false, rfl⟩
      · rw [if_neg hr]
        split
        · exact ⟨false, rfl⟩
        · obtain ⟨m, rfl⟩ : ∃ m : Nat, r = m := ⟨r.toNat, by omega⟩
          rw [wrap_id (by omega) (by omega), show (i : Int) + (m : Int) = ((i + m : Nat) : Int) from rfl]
          exact ih (i + m) (by omega) (by omega) k (by omega)
    · rw [if_neg (by omega)]
      exact ⟨true, rfl⟩

theorem valid_any (s : ByteArray) (hs : s.size ≤ 1099511627776) : ∃ b : Bool, ∀ w, Calls Tryz.prog 13 #[.string s] w fun e w' => e = .returned (.bool b) ∧ Drawn0 w w' := by
  obtain ⟨b, h⟩ := valid_l0 s hs _ 0 (Nat.le_refl _) (by omega) (s.size - 0 + 26) (by omega)
  exact ⟨b, fun w => spec_Valid.calls (s.size - 0 + 26) s b w h⟩

/-! ### modeOf -/
theorem modeOf_some (s : ByteArray) : ∃ r, spec_modeOf.f 2 s = some r := by
  have j1 : ∀ x, ∃ r, spec_modeOf.j1 1 s x = some r := fun x => by
    simp only [spec_modeOf.j1]
    repeat' split
    all_goals exact ⟨_, rfl⟩
  have j0 : ∀ x, ∃ r, spec_modeOf.j0 2 s x = some r := fun x => by
    simp only [spec_modeOf.j0]
    repeat' split
    all_goals first | exact ⟨_, rfl⟩ | exact j1 _
  unfold spec_modeOf.f
  split
  all_goals exact j0 _

/-- An element with usual content. -/
def Usual (s : ByteArray) : Prop := spec_modeOf.f 2 s = some 0

theorem modeOf_any (s : ByteArray) : ∃ r : Int, (r = 0 → Usual s) ∧ ∀ w, Calls Tryz.prog 23 #[.string s] w fun e w' => e = .returned (.int .i64 r) ∧ Drawn0 w w' := by
  obtain ⟨r, hr⟩ := modeOf_some s
  exact ⟨r, fun h => by rw [Usual, hr, h], fun w => spec_modeOf.calls 2 s r w hr⟩
theorem modeOf_usual {s : ByteArray} (h : Usual s) (w : World) : Calls Tryz.prog 23 #[.string s] w fun e w' => e = .returned (.int .i64 0) ∧ Drawn0 w w' := spec_modeOf.calls 2 s 0 w h

/-! ### normal -/
theorem normal_l0 (s : ByteArray) (hs : s.size ≤ 1099511627776) (hno : ∀ x ∈ s.data.toList, x ≠ 13) : ∀ (d i : Nat), s.size - i ≤ d → i ≤ s.size → ∀ k, d < k → spec_normal.l0 k s (bInts (s.data.toList.take i)) s.size i = some s := by
  have e2 : s.data.toList.length = s.size := (Lib.size_eq _).symm
  intro d
  induction d with
  | zero =>
    intro i hd hi k hk
    obtain ⟨k, rfl⟩ : ∃ m, k = m + 1 := ⟨k - 1, by omega⟩
    simp only [spec_normal.l0]
    rw [if_neg (by omega), strOf_bInts, List.take_of_length_le (by omega), bStr_of]
  | succ d ih =>
    intro i hd hi k hk
    obtain ⟨k, rfl⟩ : ∃ m, k = m + 1 := ⟨k - 1, by omega⟩
    simp only [spec_normal.l0]
    by_cases hlt : i < s.size
    · have hx := Lib.data_getElem? s i hlt
      have h13 := hno _ (List.mem_of_getElem? hx)
      have h13' : ¬ ((s[i]'hlt).toNat : Int) = 13 := fun h => h13 ((u8_eq (n := 13) (k := 13) rfl).1 h)
      rw [if_pos (by omega), if_pos (by omega), if_pos (by omega), bt_list hx, if_neg h13', if_pos (by simp; omega), wrap_small (by omega) (by omega)]
      have := ih (i + 1) (by omega) (by omega) k (by omega)
      rw [List.take_add_one, hx] at this
      simp only [bInts, List.map_append, Option.toList_some, List.map_cons, List.map_nil] at this
      exact this
    · rw [if_neg (by omega), strOf_bInts, List.take_of_length_le (by omega), bStr_of]

theorem normal_any (s : ByteArray) (hs : s.size ≤ 1099511627776) (hno : ∀ x ∈ s.data.toList, x ≠ 13) (w : World) :
    Calls Tryz.prog 17 #[.string s] w fun e w' => e = .returned (.string s) ∧ Below w.heap.size w w' :=
  spec_normal.calls (s.size - 0 + 1) s s w (normal_l0 s hs hno _ 0 (Nat.le_refl _) (by omega) _ (by omega))

end Go.Proofs.YtpkelgekannioaaGreatDoor

namespace Go.Proofs.YtpkelgekannioaaGreatDoor
open Go.RowKit Go.Shelf Go.BigFrame
open Go.Proofs.YtpkelgekannioaaGreatDoorW.PrintWords
set_option linter.unusedSimpArgs false
set_option linter.unusedVariables false

/-- A small letter for a great one. -/
def lowB (c : UInt8) : UInt8 := if 65 ≤ c.toNat ∧ c.toNat ≤ 90 then UInt8.ofNat (c.toNat + 32) else c
/-- A text with small letters. -/
def lowS (s : ByteArray) : ByteArray := bStr (s.data.toList.map lowB)

theorem frz {w : World} {g i : Nat} {cs : Array Value} {t : TypeId} {fz : Nat × Nat} (h : w.heap[g]? = some (.cells cs t fz)) (hi : i < fz.1) : w.frozen? ⟨g, i, none⟩ = false := by
  simp [World.frozen?, h]
  omega
theorem blk_set' {w : World} {g : Nat} {t : TypeId} {cs : Array Value} {fz : Nat × Nat} (h : w.heap[g]? = some (.cells cs t fz)) (i : Nat) (u : Value) : (w.setCell ⟨g, i, none⟩ u).heap[g]? = some (.cells (cs.setIfInBounds i u) t fz) := by
  simp [World.setCell, Array.getElem?_modify, h]
theorem blk_cell' {w : World} {g : Nat} {t : TypeId} {cs : Array Value} {fz : Nat × Nat} (h : w.heap[g]? = some (.cells cs t fz)) (i : Nat) : w.cell? ⟨g, i, none⟩ = cs[i]? := by
  simp [World.cell?, h]

/-- The row of bytes in block g reads l. -/
def RowIs (w : World) (g : Nat) (l : List UInt8) : Prop := ∃ cs fz, w.heap[g]? = some (.cells cs 5 fz) ∧ l.length ≤ fz.1 ∧ ∀ (j : Nat) c, l[j]? = some c → cs[j]? = some (.int .u8 c.toNat)

theorem RowIs.new (w : World) (s : ByteArray) : RowIs (Lib.bytesWorld w 5 s) w.heap.size s.data.toList := by
  refine ⟨_, _, Lib.bytesWorld_at_new w 5 s, ?_, fun j c hj => ?_⟩
  · show s.data.toList.length ≤ (Lib.bytesCells w 5 s).size
    unfold Lib.bytesCells
    simp
  · have hjl := (List.getElem?_eq_some_iff.1 hj).1
    unfold Lib.bytesCells
    rw [Array.getElem?_append_left (by simpa using hjl)]
    rw [Array.getElem?_map, ← Array.getElem?_toList, hj]
    rfl
theorem RowIs.at_ {w : World} {g : Nat} {l : List UInt8} (h : RowIs w g l) {j : Nat} {c : UInt8} (hj : l[j]? = some c) : w.cell? ⟨g, j, none⟩ = some (.int .u8 c.toNat) ∧ w.frozen? ⟨g, j, none⟩ = false := by
  obtain ⟨cs, fz, h1, h2, h3⟩ := h
  have := (List.getElem?_eq_some_iff.1 hj).1
  exact ⟨by rw [blk_cell' h1]; exact h3 j c hj, frz h1 (by omega)⟩
theorem RowIs.set {w : World} {g : Nat} {l : List UInt8} (h : RowIs w g l) (i : Nat) (c : UInt8) : RowIs (w.setCell ⟨g, i, none⟩ (.int .u8 c.toNat)) g (l.set i c) := by
  obtain ⟨cs, fz, h1, h2, h3⟩ := h
  refine ⟨_, _, blk_set' h1 i _, by simpa using h2, fun j d hj => ?_⟩
  rw [List.getElem?_set] at hj
  by_cases e : i = j
  · subst e
    rw [if_pos rfl] at hj
    split at hj
    · rename_i hl
      cases hj
      have := h3 i (l[i]'hl) (List.getElem?_eq_getElem hl)
      have hs := (Array.getElem?_eq_some_iff.1 this).1
      rw [Array.getElem?_setIfInBounds_self_of_lt hs]
    · cases hj
  · rw [if_neg e] at hj
    rw [Array.getElem?_setIfInBounds_ne e]
    exact h3 j d hj
theorem RowIs.string {w : World} {g n c : Nat} {l : List UInt8} (h : RowIs w g l) (hn : l.length = n) : (convert 45 9 (.slice (some ⟨g, 0, none⟩) n c)).run Tryz.prog w = .ok (.string (bStr l)) w := by
  have := run_convert_bytes_arg (P := Tryz.prog) w 45 5 Tryz.underlying45 Tryz.underlying5 g 0 n c (bInts l) (by simpa using hn) (fun i hi => by
    rw [Nat.zero_add]
    obtain ⟨x, hx⟩ : ∃ x, l[i]? = some x := ⟨_, List.getElem?_eq_getElem (by omega)⟩
    rw [(h.at_ hx).1]
    simp [List.getD_eq_getElem?_getD, hx]) 9 Tryz.underlying9
  rw [strOf_bInts] at this
  exact this

theorem low_great {c : UInt8} (h : 65 ≤ c.toNat ∧ c.toNat ≤ 90) : ((lowB c).toNat : Int) = (c.toNat : Int) + 32 := by
  unfold lowB
  rw [if_pos h]
  simp
  omega

set_option maxHeartbeats 4000000 in
set_option maxRecDepth 100000 in
theorem lower_any (s : ByteArray) (w : World) (hs : s.size ≤ 1099511627776) :
    Calls Tryz.prog 54 #[.string s] w fun e w' => e = .returned (.string (lowS s)) ∧ Below w.heap.size w w' := by
  have e2 : s.data.toList.length = s.size := (Lib.size_eq _).symm
  have hkb := print_bytes (P := Tryz.prog) 9 45 5 Tryz.underlying9 Tryz.underlying45 Tryz.underlying5 s w
  have hb0 := bytes_below (Below.refl w.heap.size w) (Nat.le_refl _) 5 s
  have hr0 := RowIs.new w s
  obtain ⟨w0, hw0⟩ : ∃ w0, Lib.bytesWorld w 5 s = w0 := ⟨_, rfl⟩
  obtain ⟨cap, hcap⟩ : ∃ cap, grownCap w s.size 0 5 = cap := ⟨_, rfl⟩
  rw [hw0] at hkb hb0 hr0
  rw [hcap] at hkb
  obtain ⟨g, hg⟩ : ∃ g, w.heap.size = g := ⟨_, rfl⟩
  rw [hg] at hkb hb0 hr0
  have HH := Lib.hid (And.intro hb0 hr0)
  have HG := Lib.hid hg
  have E2 := Lib.hid e2
  clear hb0 hr0 hw0 hcap hg e2
  go_enter Tryz.func54, Tryz.ntmps54
  go_wp2_with fail
  go_loopg [10] (s.size + 1) (fun m s10 wx => ∃ i : Nat, i + m = s.size + 1 ∧ i ≤ s.size ∧ s10 = .int .i64 i ∧ Below g w wx ∧ RowIs wx g ((s.data.toList.take i).map lowB ++ s.data.toList.drop i))
  case atStart => exact ⟨0, by omega, by omega, rfl, HH.out.1, by simpa using HH.out.2⟩
  case round =>
    obtain ⟨i, hm, hi, rfl, hbw, hrow⟩ := hrel
    by_cases hlt : i < s.size
    · have hx := Lib.data_getElem? s i hlt
      obtain ⟨c, hc⟩ : ∃ c, s[i]'hlt = c := ⟨_, rfl⟩
      rw [hc] at hx
      have hcur : ((s.data.toList.take i).map lowB ++ s.data.toList.drop i)[i]? = some c := by
        have hlen : ((s.data.toList.take i).map lowB).length = i := by
          rw [List.length_map, List.length_take, E2.out]
          omega
        rw [List.getElem?_append_right (by omega), hlen, Nat.sub_self, List.getElem?_drop]
        exact hx
      have hnext : ((s.data.toList.take (i + 1)).map lowB ++ s.data.toList.drop (i + 1)) = ((s.data.toList.take i).map lowB ++ s.data.toList.drop i).set i (lowB c) := by
        have hil : i < s.data.toList.length := by rw [E2.out]; exact hlt
        have hlen : ((s.data.toList.take i).map lowB).length = i := by
          rw [List.length_map, List.length_take]
          omega
        rw [List.take_add_one, hx, List.set_append_right _ _ (by omega), hlen, Nat.sub_self, List.drop_eq_getElem_cons hil]
        simp
      obtain ⟨hc1, hf1⟩ := hrow.at_ hcur
      have HR := Lib.hid hrow
      have HN := Lib.hid hnext
      have HC := Lib.hid hcur
      clear hrow hnext hcur hx hc
      have hup : (c.toNat : Int) ≤ 255 := by have := c.toNat_lt; omega
      by_cases hg1 : 65 ≤ c.toNat ∧ c.toNat ≤ 90
      · have h1 : (65 : Int) ≤ (c.toNat : Int) := by omega
        have h2 : (c.toNat : Int) ≤ 90 := by omega
        have hl := low_great hg1
        have hwr1 : IntKind.u8.wrap ((c.toNat : Int) + 97) = (c.toNat : Int) + 97 := by simp [IntKind.wrap, IntKind.signed, IntKind.bits]; omega
        have hwr2 : IntKind.u8.wrap ((c.toNat : Int) + 97 - 65) = ((lowB c).toNat : Int) := by simp [IntKind.wrap, IntKind.signed, IntKind.bits]; omega
        have HL := Lib.hid hl
        clear hl hg1
        go_wp2_with fail
        go_roundg (s.size - i)
        case measure => omega
        case rel => exact ⟨i + 1, by omega, by omega, by go_num, hbw.setCell (Nat.le_refl _) _, by rw [HN.out]; exact HR.out.set i (lowB c)⟩
      · have hl : lowB c = c := by unfold lowB; rw [if_neg hg1]
        have hsame : ((s.data.toList.take i).map lowB ++ s.data.toList.drop i).set i (lowB c) = (s.data.toList.take i).map lowB ++ s.data.toList.drop i := by
          rw [hl]
          refine List.ext_getElem? fun j => ?_
          rw [List.getElem?_set]
          split
          · rename_i e
            subst e
            split
            · exact HC.out.symm
            · rename_i h
              exact absurd (List.getElem?_eq_some_iff.1 HC.out).1 h
          · rfl
        have HS := Lib.hid hsame
        clear hsame hl
        by_cases h1 : (65 : Int) ≤ (c.toNat : Int)
        · have h2 : ¬ (c.toNat : Int) ≤ 90 := by omega
          clear hg1
          go_wp2_with fail
          go_roundg (s.size - i)
          case measure => omega
          case rel => exact ⟨i + 1, by omega, by omega, by go_num, hbw, by rw [HN.out, HS.out]; exact HR.out⟩
        · clear hg1
          go_wp2_with fail
          go_roundg (s.size - i)
          case measure => omega
          case rel => exact ⟨i + 1, by omega, by omega, by go_num, hbw, by rw [HN.out, HS.out]; exact HR.out⟩
    · obtain rfl : i = s.size := by omega
      have hfin := hrow.string (n := s.size) (c := cap) (by rw [List.length_append, List.length_map, List.length_take, List.length_drop, E2.out]; omega)
      rw [show (s.data.toList.take s.size).map lowB ++ s.data.toList.drop s.size = s.data.toList.map lowB from by
        rw [List.take_of_length_le (by rw [E2.out]; exact Nat.le_refl _), List.drop_of_length_le (by rw [E2.out]; exact Nat.le_refl _), List.append_nil]] at hfin
      clear hrow
      go_wp2_with fail
      go_ret
      exact ⟨rfl, by rw [HG.out]; exact hbw⟩

set_option maxHeartbeats 1000000 in
set_option maxRecDepth 100000 in
theorem starts_any (s what : ByteArray) (i : Nat) (w : World) (hs : s.size ≤ 1099511627776) (hw : what.size ≤ 1099511627776) (hi : i ≤ 1099511627776) :
    Calls Tryz.prog 57 #[.string s, .int .i64 i, .string what] w fun e w' => e = .returned (.bool (decide (i + what.size ≤ s.size ∧ lowS (s.extract i (i + what.size)) = lowS what))) ∧ Below w.heap.size w w' := by
  have hwr : IntKind.i64.wrap ((i : Int) + (what.size : Int)) = (i : Int) + (what.size : Int) := by simp [IntKind.wrap, IntKind.signed, IntKind.bits]; omega
  by_cases h : i + what.size ≤ s.size
  · have h1 : ¬ (s.size : Int) < (i : Int) + (what.size : Int) := by omega
    have hl1 : (i : Int) + (what.size : Int) ≤ (s.size : Int) := by omega
    have hl2 : (i : Int) ≤ (i : Int) + (what.size : Int) := by omega
    have hn1 : ((i : Int) + (what.size : Int)).toNat = i + what.size := by omega
    have hx : (s.extract i (i + what.size)).size ≤ 1099511627776 := by rw [ByteArray.size_extract]; omega
    have hq : decide (i + what.size ≤ s.size ∧ lowS (s.extract i (i + what.size)) = lowS what) = ((lowS (s.extract i (i + what.size))).toList == (lowS what).toList) := by
      rw [Bool.eq_iff_iff]
      simp only [decide_eq_true_eq, beq_iff_eq]
      exact ⟨fun e => by rw [e.2], fun e => ⟨h, str_same e⟩⟩
    have HQ := Lib.hid hq
    clear hq h
    go_enter Tryz.func57, Tryz.ntmps57
    go_wp2_with fail
    refine (lower_any (s.extract i (i + what.size)) w hx).mono ?_
    rintro e w1 ⟨rfl, hb1⟩
    go_wp2_with fail
    refine (lower_any what w1 hw).mono ?_
    rintro e w2 ⟨rfl, hb2⟩
    go_wp2_with fail
    go_ret
    exact ⟨by rw [HQ.out]; rfl, hb1.trans (hb2.mono hb1.size)⟩
  · have h1 : (s.size : Int) < (i : Int) + (what.size : Int) := by omega
    have hq : decide (i + what.size ≤ s.size ∧ lowS (s.extract i (i + what.size)) = lowS what) = false := decide_eq_false (fun e => h e.1)
    rw [hq]
    clear hq h
    go_enter Tryz.func57, Tryz.ntmps57
    go_wp2_with fail
    go_ret
    exact ⟨rfl, Below.refl _ _⟩

end Go.Proofs.YtpkelgekannioaaGreatDoor
