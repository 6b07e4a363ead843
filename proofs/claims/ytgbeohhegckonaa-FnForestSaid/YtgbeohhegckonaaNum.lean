import Derived.Test.YtgbeohhegckonaaShelf
import Derived.WalkKit
import Derived.WalkSpells
import Derived.WalkLawsBesides
import Derived.Lib.Hide
import Derived.Deep.QuietTactic
import Derived.BigQuiet
import Derived.IntWalk
import Derived.BigCall
namespace Go.Proofs.Ytgbeohhegckonaa
open Go.RowKit Go.Shelf Go.BigFrame
set_option linter.unusedSimpArgs false
set_option linter.unusedVariables false

/-- A number's decimal digits, as bytes. -/
def decL (n : Nat) : List UInt8 := if h : n < 10 then [UInt8.ofNat (48 + n)] else decL (n / 10) ++ [UInt8.ofNat (48 + n % 10)]
termination_by n
decreasing_by omega
def decS (n : Nat) : ByteArray := ⟨(decL n).toArray⟩

theorem decL_small {n : Nat} (h : n < 10) : decL n = [UInt8.ofNat (48 + n)] := by rw [decL, dif_pos h]
theorem decL_great {n : Nat} (h : 10 ≤ n) : decL n = decL (n / 10) ++ [UInt8.ofNat (48 + n % 10)] := by rw [decL, dif_neg (by omega)]
theorem decL_len (k : Nat) : ∀ n, n < 10 ^ k → (decL n).length ≤ max k 1 := by
  induction k with
  | zero => intro n hn; have : n = 0 := by omega
            subst this; rw [decL_small (by omega)]; simp
  | succ k ih =>
    intro n hn
    by_cases h : n < 10
    · rw [decL_small h]; simp only [List.length_singleton]; omega
    · have hs := ih (n / 10) (by rw [Nat.div_lt_iff_lt_mul (by omega)]; rw [Nat.pow_succ] at hn; exact hn)
      rw [decL_great (by omega)]
      simp only [List.length_append, List.length_cons, List.length_nil]
      have hk : 1 ≤ k := by
        rcases Nat.eq_zero_or_pos k with h0 | h0
        · subst h0; simp at hn; omega
        · exact h0
      omega

theorem encode_digit {d : Nat} (h : d < 10) : Utf8.encode (48 + (d : Int)) = ⟨#[UInt8.ofNat (48 + d)]⟩ := by
  have : ∀ d : Fin 10, Utf8.encode (48 + ((d.1 : Nat) : Int)) = ⟨#[UInt8.ofNat (48 + d.1)]⟩ := by decide
  exact this ⟨d, h⟩

theorem encode_digit' (n : Nat) : Utf8.encode (48 + (n : Int) % 10) = ⟨#[UInt8.ofNat (48 + n % 10)]⟩ := by
  rw [show (n : Int) % 10 = ((n % 10 : Nat) : Int) from rfl]
  exact encode_digit (Nat.mod_lt n (by omega))

theorem decS_small {n : Nat} (h : n < 10) : decS n = ⟨#[UInt8.ofNat (48 + n)]⟩ := by rw [decS, decL_small h]
theorem decS_great {n : Nat} (h : 10 ≤ n) : decS n = decS (n / 10) ++ ⟨#[UInt8.ofNat (48 + n % 10)]⟩ := by
  rw [decS, decL_great h]
  simp [decS, ByteArray.ext_iff]
theorem decS_size {n : Nat} (h : n ≤ 9223372036854775807) : (decS n).size ≤ 19 := by
  have := decL_len 19 n (by omega)
  have h2 : (decS n).size = (decL n).length := by simp [decS, ByteArray.size]
  omega

attribute [local irreducible] Utf8.encode in
set_option maxRecDepth 100000 in
theorem numbered_any (w : World) : ∀ n : Nat, n ≤ 9223372036854775807 →
    Calls Try.prog 16 #[.int .i64 n] w fun e w' => e = .returned (.string (decS n)) ∧ w' = w := by
  intro n
  induction n using Nat.strongRecOn with
  | ind n ih =>
    intro hn
    by_cases h : n < 10
    · clear ih
      go_enter Try.func16, Try.ntmps16
      go_wp2
      go_ret
      rw [decS_small h, encode_digit h]
      exact ⟨rfl, rfl⟩
    · have hd := ih (n / 10) (by omega) (by omega)
      rw [show (((n / 10 : Nat) : Int)) = (n : Int) / 10 from rfl] at hd
      have hz := decS_size (n := n / 10) (by omega)
      obtain ⟨sd, hsd⟩ : ∃ x, decS (n / 10) = x := ⟨_, rfl⟩
      rw [hsd] at hd hz
      have H := Lib.hid hsd
      have hus : (Utf8.encode (48 + (n : Int) % 10)).size = 1 := by rw [encode_digit' n]; rfl
      clear ih hsd
      go_enter Try.func16, Try.ntmps16
      go_wp2_with (first | (go_at_call 16; go_must (refine hd.mono ?_; clear hd; rintro e w' ⟨rfl, rfl⟩)))
      go_ret
      rw [decS_great (by omega), H.out, encode_digit' n]
      exact ⟨rfl, rfl⟩

/-- Every number: the digits; below nought a dash. -/
def numS (n : Int) : ByteArray := if n < 0 then ⟨#[45]⟩ else decS n.toNat
theorem numS_size {n : Int} (h : n ≤ 9223372036854775807) : (numS n).size ≤ 19 := by
  unfold numS
  split
  · decide
  · exact decS_size (by omega)

set_option maxRecDepth 100000 in
theorem numbered_int (w : World) (n : Int) (hn : n ≤ 9223372036854775807) (hm : -9223372036854775808 ≤ n) :
    Calls Try.prog 16 #[.int .i64 n] w fun e w' => e = .returned (.string (numS n)) ∧ w' = w := by
  by_cases h : n < 0
  · go_enter Try.func16, Try.ntmps16
    go_wp2
    go_ret
    rw [numS, if_pos h]
    exact ⟨rfl, rfl⟩
  · obtain ⟨m, rfl⟩ := Int.eq_ofNat_of_zero_le (by omega : 0 ≤ n)
    have := numbered_any w m (by omega)
    rw [numS, if_neg h]
    exact this

theorem digit_slice {d : Nat} (h : d < 10) : (ByteArray.mk #[48, 49, 50, 51, 52, 53, 54, 55, 56, 57, 97, 98, 99, 100, 101, 102]).extract d (d + 1) = ⟨#[UInt8.ofNat (48 + d)]⟩ := by
  have : ∀ d : Fin 10, (ByteArray.mk #[48, 49, 50, 51, 52, 53, 54, 55, 56, 57, 97, 98, 99, 100, 101, 102]).extract d.1 (d.1 + 1) = ⟨#[UInt8.ofNat (48 + d.1)]⟩ := by decide
  exact this ⟨d, h⟩

set_option maxRecDepth 100000 in
theorem written_any : ∀ (n : Nat) (w : World), n ≤ 9223372036854775807 →
    Calls Try.prog 14 #[.int .i64 n, .int .i64 10] w fun e w' => e = .returned (.string (decS n)) ∧ ∃ m, w' = w.drewN m := by
  intro n
  induction n using Nat.strongRecOn with
  | ind n ih =>
    intro w hn
    by_cases h : n < 10
    · clear ih
      go_enter Try.func14, Try.ntmps14
      go_wp2
      go_ret
      rw [decS_small h, digit_slice h]
      exact ⟨rfl, 0, rfl⟩
    · have hd := fun w => ih (n / 10) (by omega) w (by omega)
      rw [show (((n / 10 : Nat) : Int)) = (n : Int) / 10 from rfl] at hd
      have hz := decS_size (n := n / 10) (by omega)
      have hlast := decS_great (n := n) (by omega)
      have hdg := digit_slice (Nat.mod_lt n (by omega : 0 < 10))
      obtain ⟨sd, hsd⟩ : ∃ x, decS (n / 10) = x := ⟨_, rfl⟩
      rw [hsd] at hd hz hlast
      have H := Lib.hid (And.intro hlast hdg)
      clear hsd hlast hdg ih
      have hq0 : (0 : Int) ≤ (n : Int) % 10 := by omega
      have hq1 : (n : Int) % 10 < 10 := by omega
      go_enter Try.func14, Try.ntmps14
      go_wp2_with fail
      go_quiet ((go_at_call 14; refine Calls.quiet_of (hd _)))
      go_wp2
      go_ret
      rw [H.out.1, H.out.2]
      exact ⟨rfl, _, rfl⟩
end Go.Proofs.Ytgbeohhegckonaa
