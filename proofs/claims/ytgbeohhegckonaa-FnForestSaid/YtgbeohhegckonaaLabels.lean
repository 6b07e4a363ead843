import Derived.Test.YtgbeohhegckonaaCrop
import Derived.Test.YtgbeohhegckonaaCuts
import Derived.Deep.LoopGhost
/-! spec.index, spec.label, spec.labels. -/
namespace Go.Proofs.Ytgbeohhegckonaa
open Go.RowKit Go.Shelf Go.BigFrame
set_option linter.unusedSimpArgs false
set_option linter.unusedVariables false

/-- A number as the reference writes it; none: -1. -/
def enc : Option Nat → Int
  | none => -1
  | some k => k
def ints (l : List Nat) : List Int := l.map fun n : Nat => (n : Int)
theorem ints_len (l : List Nat) : (ints l).length = l.length := by simp [ints]

/-- Where x stands; none: it is not there. -/
def place (l : List Int) (x : Int) : Option Nat := if x ∈ l then some (l.idxOf x) else none

theorem idxOf_atI {x : Int} {rest : List Int} : ∀ {pre : List Int}, x ∉ pre → (pre ++ x :: rest).idxOf x = pre.length
  | [], _ => by simp
  | a :: pre, h => by
    have h1 : a ≠ x := fun e => h (by simp [e])
    have h2 : x ∉ pre := fun e => h (by simp [e])
    rw [List.cons_append, List.idxOf_cons, idxOf_atI h2]
    have : (a == x) = false := by simp [h1]
    rw [this]
    rfl
theorem place_new {pre rest : List Int} {y : Int} {x : Int} (hx : x ∉ pre) (e : y = x) : place (pre ++ y :: rest) x = some pre.length := by
  subst e
  have : (pre ++ y :: rest).idxOf y = pre.length := by
    exact idxOf_atI hx
  simp [place, this]
theorem place_none {l : List Int} {x : Int} (hx : x ∉ l) : place l x = none := by simp [place, hx]
theorem place_some {l : List Int} {x : Int} {i : Nat} (h : place l x = some i) : i < l.length ∧ l[i]? = some x := by
  unfold place at h
  split at h
  · rename_i hx
    have := Option.some.inj h
    subst this
    exact ⟨List.idxOf_lt_length_iff.2 hx, by rw [List.getElem?_eq_getElem (List.idxOf_lt_length_iff.2 hx)]; simp⟩
  · cases h

set_option maxRecDepth 100000 in
theorem index_any (w : World) (A : Option Addr) (n cap : Nat) (xs : List Int) (hx : Lies w w.heap.size A (intsV xs)) (hlen : xs.length = n) (hnc : n ≤ cap) (hsm : n ≤ 1099511627776) (x : Int) :
    Calls Try.prog 37 #[.slice A n cap, .int .i64 x] w fun e w' => e = .returned (.int .i64 (enc (place xs x))) ∧ w' = w := by
  have HX := Lib.hid hx
  clear hx
  go_enter Try.func37, Try.ntmps37
  go_wp2_with fail
  go_loopg [5, 6, 9] n (fun g s5 s6 s9 wx => ∃ k : Nat, k + g = n ∧ s9 = .int .i64 k ∧ wx = w ∧ x ∉ xs.take k)
  case atStart => exact ⟨0, by omega, rfl, rfl, by simp⟩
  case round =>
    obtain ⟨k, hg, rfl, rfl, hno⟩ := hrel
    by_cases hk : k < n
    · obtain ⟨y, hy⟩ : ∃ y, xs[k]? = some y := ⟨_, List.getElem?_eq_getElem (by omega)⟩
      obtain ⟨ad, rfl, _, hc⟩ := HX.out.at_ (k := k) (u := .int .i64 y) (by simp [hy])
      have hsplit : xs = xs.take k ++ y :: xs.drop (k + 1) := by
        have h1 := (List.getElem?_eq_some_iff.1 hy).2
        rw [← h1]
        simp
      have htl : (xs.take k).length = k := by simp; omega
      have HS := Lib.hid (And.intro hsplit (And.intro htl (And.intro hno hy)))
      clear hsplit htl hno hy
      by_cases hxy : y = x
      · go_wp2
        go_ret
        obtain ⟨h1, h2, h3, _⟩ := HS.out
        rw [h1, place_new h3 hxy, h2]
        exact ⟨rfl, rfl⟩
      · go_wp2
        go_roundg (n - (k + 1))
        case measure => omega
        case rel =>
          refine ⟨k + 1, by omega, by go_num, rfl, ?_⟩
          rw [List.take_add_one, HS.out.2.2.2]
          simp [HS.out.2.2.1]
          exact fun e => hxy e.symm
    · obtain rfl : k = n := by omega
      have hno' : x ∉ xs := by rwa [← hlen, List.take_length] at hno
      have hp := place_none hno'
      have HP := Lib.hid hp
      clear hp hno hno'
      go_wp2
      go_ret
      rw [HP.out]
      exact ⟨rfl, rfl⟩

theorem enc_range (o : Option Nat) (h : ∀ k, o = some k → k ≤ 9223372036854775807) : -1 ≤ enc o ∧ enc o ≤ 9223372036854775807 := by
  cases o with
  | none => simp [enc]
  | some k => have := h k rfl; simp only [enc]; omega

set_option maxRecDepth 100000 in
theorem label_any (w : World) (o : Option Nat) (h : ∀ k, o = some k → k ≤ 9223372036854775807) :
    Calls Try.prog 22 #[.int .i64 (enc o)] w fun e w' => e = .returned (.string (lab o)) ∧ ∃ m, w' = w.drewN m := by
  cases o with
  | none =>
    simp only [enc, lab]
    go_enter Try.func22, Try.ntmps22
    go_wp2
    go_ret
    exact ⟨rfl, 0, rfl⟩
  | some k =>
    have hw := written_any k w (h k rfl)
    obtain ⟨s, hs⟩ : ∃ s, decS k = s := ⟨_, rfl⟩
    simp only [enc, lab]
    rw [hs] at hw ⊢
    have hk : ((k : Int) == -1) = false := by simp
    clear hs h
    go_enter Try.func22, Try.ntmps22
    go_wp2_with (first
      | (go_at_call 14; go_must (refine hw.mono ?_; clear hw; rintro e w' ⟨rfl, m, rfl⟩))
      | fail)
    go_ret
    exact ⟨rfl, m, rfl⟩

theorem drewN_heap (w : World) (m : Nat) : (w.drewN m).heap = w.heap := rfl
theorem below_drawn {b : Nat} {A B : World} (h : Below b A B) (m : Nat) : Below b A (B.drewN m) := ⟨h.os, h.tape, h.output, h.size, h.block⟩

set_option maxRecDepth 100000 in
set_option maxHeartbeats 2000000 in
theorem labels_any (w : World) (A : Option Addr) (cap : Nat) (l : List Nat) (hx : Lies w w.heap.size A (intsV (ints l))) (hnc : l.length ≤ cap) (hsm : l.length ≤ 20000) (h63 : ∀ k ∈ l, k ≤ 9223372036854775807) :
    Calls Try.prog 24 #[.slice A l.length cap] w fun e w' => ∃ v, e = .returned v ∧ w'.ownsRow w.heap.size 9 1 v l.length (strsV (l.map decS)) ∧ Below w.heap.size w w' := by
  obtain ⟨i0, hi0, hz0, hz1, hz2⟩ := info_parts infoStr
  have HX := Lib.hid hx
  clear hx
  go_enter Try.func24, Try.ntmps24
  go_wp2_with fail
  go_loopg [3, 5, 8] l.length (fun g s3 s5 s8 wx => ∃ k : Nat, k + g = l.length ∧ s8 = .int .i64 k ∧ wx.ownsRow w.heap.size 9 1 s3 k (strsV ((l.take k).map decS)) ∧ Below w.heap.size w wx)
  case atStart => exact ⟨0, by omega, rfl, World.ownsRow_nil _ _ _ _, Below.refl _ _⟩
  case round =>
    obtain ⟨k, hg, rfl, hown, hbw⟩ := hrel
    by_cases hk : k < l.length
    · obtain ⟨y, hy⟩ : ∃ y, l[k]? = some y := ⟨_, List.getElem?_eq_getElem hk⟩
      obtain ⟨ad, rfl, had, hc⟩ := HX.out.at_ (k := k) (u := .int .i64 (enc (some y))) (by simp [ints, hy, enc])
      have hcr := (hbw.cell (p := ad.add k) (by rw [block_add]; exact had)).trans hc
      have hL := label_any wr (some y) (fun q hq => h63 q (by cases hq; exact List.mem_of_getElem? hy))
      have hnext : (l.take (k + 1)).map decS = (l.take k).map decS ++ [decS y] := by
        rw [List.take_add_one, hy]; simp
      obtain ⟨s, hs⟩ : ∃ s, decS y = s := ⟨_, rfl⟩
      simp only [lab] at hL
      rw [hs] at hL hnext
      obtain ⟨ey, hey⟩ : ∃ x, enc (some y) = x := ⟨_, rfl⟩
      rw [hey] at hL hcr
      have HB := hbw.size
      have HN := Lib.hid (And.intro hnext (And.intro hown hbw))
      clear hs hnext hy hc hown hbw hey
      go_wp2_with (first
        | (go_at_call 22; go_must (refine hL.mono ?_; clear hL; rintro e w' ⟨rfl, m, rfl⟩))
        | (at_builtin; refine wpList_app _ rfl (.tmp 12) (.tmp 15) 24 rfl w.heap.size 9 i0 (.string ⟨#[]⟩) 16 underStrs hi0 hz0 hz1 hz2 rfl _ k (strsV ((l.take k).map decS)) rfl (World.ownsRow.alloc (w := wr.drewN m) HN.out.2.1 _) (wr.heap.size + 1) (some ⟨wr.heap.size, 0, none⟩) 1 1 [.string s] rfl (fun h => by cases h) rfl (lies_new (wr.drewN m) _ 9) (by intro u hu; simp at hu; subst hu; rfl) (by simp only [maxLen]; omega) (by omega) (by have h1 := World.size_alloc (wr.drewN m) (.cells #[.string s] 9); rw [drewN_heap] at h1; omega) ?_; intro v1 w1 hown1 hg1 hat1)
        | fail)
      obtain ⟨hnext, hown, hbw⟩ := HN.out
      have hb1 : Below w.heap.size w w1 := ((below_drawn hbw m).alloc HB (.cells #[.string s] 9)).grown hg1 (by have h1 := World.size_alloc (wr.drewN m) (.cells #[.string s] 9); rw [drewN_heap] at h1; omega) (own_base hown)
      clear hg1 hat1
      go_roundg (l.length - (k + 1))
      case measure => omega
      case rel => exact ⟨k + 1, by omega, by go_num, by rw [hnext]; simpa using hown1, hb1⟩
    · obtain rfl : k = l.length := by omega
      rw [List.take_length] at hown
      have HO := Lib.hid (And.intro hown hbw)
      clear hown hbw
      go_wp2_with fail
      go_ret
      exact ⟨_, rfl, HO.out⟩
end Go.Proofs.Ytgbeohhegckonaa
