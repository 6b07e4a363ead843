import Derived.Test.YtgbeohhegckonaaCuts
import Derived.Test.YtgbeohhegckonaaStep
import Derived.Deep.LoopGhost
namespace Go.Proofs.Ytgbeohhegckonaa
open Go.RowKit Go.Shelf Go.BigFrame
set_option linter.unusedSimpArgs false
set_option linter.unusedVariables false

theorem own_mono {w : World} {B B' e n : Nat} {v : Value} {xs : List Value} (h : w.ownsRow B e 1 v n xs) (hB : B' ≤ B) : w.ownsRow B' e 1 v n xs := by
  refine ⟨h.1, ?_⟩
  rcases h.2 with h2 | ⟨g, cap, cur, hv, hb, hr⟩
  · exact .inl h2
  · exact .inr ⟨g, cap, cur, hv, by omega, hr⟩

theorem own_form {w : World} {B e n : Nat} {v : Value} {xs : List Value} (h : w.ownsRow B e 1 v n xs) : ∃ A cap, v = .slice A n cap ∧ n ≤ cap ∧ cap ≤ maxLen ∧ (A = none → cap = 0) := by
  rcases h.2 with ⟨rfl, rfl⟩ | ⟨g, cap, cur, rfl, _, _, h1, h2, _⟩
  · exact ⟨none, 0, rfl, Nat.le_refl _, Nat.zero_le _, fun _ => rfl⟩
  · exact ⟨some ⟨g, 0, none⟩, cap, rfl, h1, h2, fun h => by cases h⟩

theorem Lies.of_own_any {w : World} {B e n : Nat} {v : Value} {xs : List Value} (h : w.ownsRow B e 1 v n xs) : ∀ A n c, v = .slice A n c → Lies w w.heap.size A xs := by
  intro A n' c hv
  subst hv
  have hn : n' = n := by
    rcases h.2 with ⟨h1, h2⟩ | ⟨g, cap, cur, h1, _⟩
    · injection h1 with _ h1 _; omega
    · injection h1
  subst hn
  exact Lies.of_own h

/-- The script: a slice of slices of numbers. -/
def ScriptAt (w : World) (B : Nat) (A : Option Addr) (rows : List (List Int)) : Prop :=
  rows = [] ∨ ∃ a, A = some a ∧ a.block < B ∧ ∀ r xs, rows[r]? = some xs → ∃ A' C, w.cell? (a.add r) = some (.slice A' xs.length C) ∧ Lies w B A' (intsV xs) ∧ xs.length ≤ C ∧ C ≤ maxLen ∧ (A' = none → C = 0) ∧
    ∀ x ∈ xs, -9223372036854775808 ≤ x ∧ x ≤ 9223372036854775807

theorem ScriptAt.below {w w' : World} {B : Nat} {A : Option Addr} {rows : List (List Int)} (h : ScriptAt w B A rows) (hb : Below B w w') : ScriptAt w' B A rows := by
  rcases h with h | ⟨a, hA, hab, hc⟩
  · exact .inl h
  · refine .inr ⟨a, hA, hab, fun r xs hr => ?_⟩
    obtain ⟨A', C, h1, h2, h3⟩ := hc r xs hr
    exact ⟨A', C, (hb.cell (by rw [block_add]; exact hab)).trans h1, h2.below hb, h3⟩

def nums0 (many : Nat) : List Int := (List.range many).map (fun i : Nat => (i : Int))
theorem nums0_succ (k : Nat) : nums0 (k + 1) = nums0 k ++ [(k : Int)] := by simp [nums0, List.range_succ]
theorem nums0_len (k : Nat) : (nums0 k).length = k := by simp [nums0]

/-- The list behind the script. -/
def played (many : Nat) (rows : List (List Int)) : List Int := rows.foldl stepN (nums0 many)
theorem played_len (many : Nat) (rows : List (List Int)) : (played many rows).length ≤ many + rows.length := by
  unfold played
  suffices h : ∀ l : List Int, (rows.foldl stepN l).length ≤ l.length + rows.length by
    have := h (nums0 many); rw [nums0_len] at this; exact this
  induction rows with
  | nil => intro l; simp
  | cons r rows ih =>
    intro l
    have h1 := ih (stepN l r)
    have h2 := stepN_len l r
    simp only [List.foldl_cons, List.length_cons]
    omega
theorem played_snoc (many : Nat) (rows : List (List Int)) (r : List Int) : played many (rows ++ [r]) = stepN (played many rows) r := by simp [played]

def inRange (x : Int) : Prop := -9223372036854775808 ≤ x ∧ x ≤ 9223372036854775807
theorem ScriptAt.range {w : World} {B : Nat} {A : Option Addr} {rows : List (List Int)} (h : ScriptAt w B A rows) : ∀ xs ∈ rows, ∀ x ∈ xs, inRange x := by
  intro xs hxs x hx
  rcases h with h | ⟨a, _, _, hc⟩
  · rw [h] at hxs; cases hxs
  · obtain ⟨r, hr⟩ := List.getElem?_of_mem hxs
    obtain ⟨_, _, _, _, _, _, _, h6⟩ := hc r xs hr
    exact h6 x hx
theorem stepN_range {l s : List Int} (hl : ∀ x ∈ l, inRange x) (hs : ∀ x ∈ s, inRange x) : ∀ x ∈ stepN l s, inRange x := by
  intro x hx
  unfold stepN at hx
  split at hx
  · split at hx
    · split at hx
      · rcases List.mem_append.1 hx with h | h
        · exact hl x (List.mem_of_mem_take h)
        · exact hl x (List.mem_of_mem_drop h)
      · exact hl x hx
    · split at hx
      · rcases List.mem_append.1 hx with h | h
        · exact hl x h
        · exact hs x (by simp at h; simp [h])
      · exact hl x hx
  · split at hx
    · rcases List.mem_append.1 hx with h | h
      · exact hl x (List.mem_of_mem_take h)
      · rcases List.mem_cons.1 h with h | h
        · exact hs x (by simp [h])
        · exact hl x (List.mem_of_mem_drop h)
    · exact hl x hx
  · exact hl x hx
theorem played_range (many : Nat) (hm : many ≤ 500) (rows : List (List Int)) (hr : ∀ xs ∈ rows, ∀ x ∈ xs, inRange x) : ∀ x ∈ played many rows, inRange x := by
  unfold played
  have h0 : ∀ x ∈ nums0 many, inRange x := by
    intro x hx
    obtain ⟨i, hi, rfl⟩ := List.mem_map.1 hx
    have := List.mem_range.1 hi
    unfold inRange
    omega
  suffices h : ∀ l : List Int, (∀ x ∈ l, inRange x) → ∀ x ∈ rows.foldl stepN l, inRange x from h _ h0
  induction rows with
  | nil => intro l hl; exact hl
  | cons s rows ih => exact fun l hl => ih (fun xs h => hr xs (by simp [h])) (stepN l s) (stepN_range hl (hr s (by simp)))

abbrev strsV (l : List ByteArray) : List Value := l.map Value.string

set_option maxRecDepth 100000 in
set_option maxHeartbeats 2000000 in
theorem edited_any (w : World) (many : Nat) (A : Option Addr) (cap : Nat) (rows : List (List Int)) (hA : A = none → cap = 0) (hcap : rows.length ≤ cap) (hS : ScriptAt w w.heap.size A rows) (hm : many ≤ 500) (hr : rows.length ≤ 500) :
    Calls Try.prog 6 #[.int .i64 many, .slice A rows.length cap] w fun e w' => ∃ v, e = .returned v ∧ w'.ownsRow w.heap.size 9 1 v (played many rows).length (strsV ((played many rows).map numS)) ∧ Below w.heap.size w w' := by
  obtain ⟨i0, hi0, hz0, hz1, hz2⟩ := info_parts infoInt
  have HS := Lib.hid hS
  have HR := Lib.hid (played_range many hm rows hS.range)
  clear hS
  go_enter Try.func6, Try.ntmps6
  go_wp2_with fail
  go_loopg [5, 14] many (fun g s5 s14 wx => ∃ k : Nat, k + g = many ∧ s14 = .int .i64 k ∧ wx.ownsRow w.heap.size 3 1 s5 k (intsV (nums0 k)) ∧ Below w.heap.size w wx)
  case atStart => exact ⟨0, by omega, rfl, World.ownsRow_nil _ _ _ _, Below.refl _ _⟩
  case round =>
    obtain ⟨k, hg, rfl, hown, hbw⟩ := hrel
    by_cases hk : k < many
    · have HB := hbw.size
      go_wp2_with (first
        | (at_builtin; refine wpList_app _ rfl (.tmp 17) (.tmp 19) 40 rfl w.heap.size 3 i0 (.int .i64 0) 8 underInts hi0 hz0 hz1 hz2 rfl _ k (intsV (nums0 k)) rfl (hown.alloc _) (wr.heap.size + 1) (some ⟨wr.heap.size, 0, none⟩) 1 1 [.int .i64 k] rfl (fun h => by cases h) rfl (lies_new wr _ 3) (by intro u hu; simp at hu; subst hu; rfl) (by simp only [maxLen]; omega) (by omega) (by simp; omega) ?_; intro v1 w1 hown1 hg1 hat1)
        | fail)
      have hb1 : Below w.heap.size w w1 := (hbw.alloc HB _).grown hg1 (by simp; omega) (own_base hown)
      clear hg1 hat1 HB hown
      go_roundg (many - (k + 1))
      case measure => omega
      case rel => exact ⟨k + 1, by omega, by go_num, by rw [nums0_succ]; simpa using hown1, hb1⟩
    · obtain rfl : k = many := by omega
      have hst0 : (played k []).length = k := nums0_len k
      have hownP : wr.ownsRow w.heap.size 3 1 u5 (played k []).length (intsV (played k [])) := by rw [hst0]; exact hown
      clear hst0 hown
      have HO := Lib.hid (And.intro hownP hbw)
      clear hownP hbw
      go_wp2_with fail
      obtain ⟨hownP, hbw⟩ := HO.out
      clear HO
      obtain ⟨wl, hwl⟩ : ∃ wl, wr = wl := ⟨_, rfl⟩
      subst hwl
      go_loopg [5, 24] rows.length (fun g s5 s24 wx => ∃ j : Nat, j + g = rows.length ∧ s24 = .int .i64 j ∧ wx.ownsRow w.heap.size 3 1 s5 (played k (rows.take j)).length (intsV (played k (rows.take j))) ∧ Below w.heap.size w wx)
      case atStart => exact ⟨0, by omega, rfl, hownP, hbw⟩
      case round =>
        obtain ⟨j, hg2, rfl, hown, hbw2⟩ := hrel
        clear hownP hbw
        by_cases hj : j < rows.length
        · obtain ⟨xs, hxs⟩ : ∃ xs, rows[j]? = some xs := ⟨_, List.getElem?_eq_getElem hj⟩
          obtain ⟨st, hst⟩ : ∃ st, played k (rows.take j) = st := ⟨_, rfl⟩
          have hnext : played k (rows.take (j + 1)) = stepN st xs := by
            rw [← hst, ← played_snoc, List.take_add_one, hxs]
            rfl
          have hlen : st.length ≤ 1000 := by
            have := played_len k (rows.take j)
            rw [hst, List.length_take] at this
            omega
          obtain ⟨a, rfl, hab, hall⟩ := (HS.out.below hbw2).resolve_left (fun h => by rw [h] at hj; simp at hj)
          obtain ⟨A', C, hc, hx, hC1, hC2, hC3, hrange⟩ := hall j xs hxs
          rw [hst] at hown
          have hB := hbw2.size
          have hblt := Nat.lt_of_lt_of_le hab hB
          clear hall
          have HN := Lib.hid hnext
          have HX := Lib.hid (And.intro hx hrange)
          have HXS := Lib.hid hxs
          have HO := Lib.hid (And.intro hown hbw2)
          obtain ⟨Al, capl, rfl, hcl1, hcl2, hcl3⟩ := own_form hown
          clear hnext hx hrange hxs hst hown hbw2
          by_cases h2 : xs.length = 2
          · obtain ⟨a0, i, rfl⟩ := len_two h2
            obtain ⟨ad, rfl, hadb, had⟩ := HX.out.1.resolve_left (by simp)
            have c0 : wr.cell? ad = some (.int .i64 a0) := had 0 _ rfl
            have c1 : wr.cell? ⟨ad.block, ad.off + 1, none⟩ = some (.int .i64 i) := by simpa [Addr.add] using had 1 (.int .i64 i) rfl
            obtain ⟨r1, r2⟩ := HX.out.2 i (by simp)
            clear had h2
            simp only [List.length_cons, List.length_nil, Nat.zero_add, Nat.reduceAdd] at hc hC1
            by_cases ha0 : a0 = 0
            · subst ha0
              by_cases hin : 0 ≤ i ∧ i < st.length
              · obtain ⟨q, rfl⟩ := Int.eq_ofNat_of_zero_le hin.1
                have hq : q < st.length := by omega
                have hq2 : (q : Int) < (st.length : Int) := by omega
                cases Al with
                | none => have := hcl3 rfl; omega
                | some al =>
                  have hW := without_any wr al st.length capl st (Lies.of_own HO.out.1) rfl hcl1 hcl2 q hq (by omega)
                  have hs : stepN st [0, (q : Int)] = st.take q ++ st.drop (q + 1) := by
                    simp only [stepN]; rw [if_pos trivial, if_pos hin]; rfl
                  have HS2 := Lib.hid hs
                  have hl2 : (st.take q ++ st.drop (q + 1)).length = st.length - 1 := by simp; omega
                  have HL2 := Lib.hid hl2
                  clear hs hl2
                  go_wp2_with (first
                    | (go_at_call 12; go_must (refine hW.mono ?_; clear hW; rintro e w1 ⟨v1, rfl, hown1, hb1⟩))
                    | fail)
                  go_roundg (rows.length - (j + 1))
                  case measure => omega
                  case rel => exact ⟨j + 1, by omega, by go_num, by rw [HN.out, HS2.out, HL2.out]; exact own_mono hown1 hB, HO.out.2.trans (hb1.mono hB)⟩
              · have hs : stepN st [0, i] = st := by simp only [stepN]; rw [if_pos trivial, if_neg hin]
                have HS2 := Lib.hid hs
                clear hs
                by_cases hneg : i < 0
                · go_wp2
                  go_roundg (rows.length - (j + 1))
                  case measure => omega
                  case rel => exact ⟨j + 1, by omega, by go_num, by rw [HN.out, HS2.out]; exact HO.out.1, HO.out.2⟩
                · have hge : (st.length : Int) ≤ i := by omega
                  have hpos : (0 : Int) ≤ i := by omega
                  clear hin
                  go_wp2
                  go_roundg (rows.length - (j + 1))
                  case measure => omega
                  case rel => exact ⟨j + 1, by omega, by go_num, by rw [HN.out, HS2.out]; exact HO.out.1, HO.out.2⟩
            · have hb0 : (a0 == 0) = false := by simp; omega
              by_cases ha2 : a0 = 2
              · subst ha2
                have hs : stepN st [2, i] = st ++ [i] := rfl
                have HS2 := Lib.hid hs
                clear hs
                go_wp2_with (first
                  | (at_builtin; refine wpList_app _ rfl (.tmp 96) (.tmp 100) 40 rfl w.heap.size 3 i0 (.int .i64 0) 8 underInts hi0 hz0 hz1 hz2 rfl _ st.length (intsV st) rfl (HO.out.1.alloc _) (wr.heap.size + 1) (some ⟨wr.heap.size, 0, none⟩) 1 1 [.int .i64 i] rfl (fun h => by cases h) rfl (lies_new wr _ 3) (by intro u hu; simp at hu; subst hu; rfl) (by simp only [maxLen]; omega) (by omega) (by simp; omega) ?_; intro v1 w1 hown1 hg1 hat1)
                  | fail)
                have hb1 : Below w.heap.size w w1 := (HO.out.2.alloc hB _).grown hg1 (by simp; omega) (own_base HO.out.1)
                clear hg1 hat1
                go_roundg (rows.length - (j + 1))
                case measure => omega
                case rel => exact ⟨j + 1, by omega, by go_num, by rw [HN.out, HS2.out]; simpa using hown1, hb1⟩
              · have hb2 : (a0 == 2) = false := by simp; omega
                have hs : stepN st [a0, i] = st := by simp only [stepN]; rw [if_neg ha0, if_neg ha2]
                have HS2 := Lib.hid hs
                clear hs
                go_wp2
                go_roundg (rows.length - (j + 1))
                case measure => omega
                case rel => exact ⟨j + 1, by omega, by go_num, by rw [HN.out, HS2.out]; exact HO.out.1, HO.out.2⟩
          · by_cases h3 : xs.length = 3
            · obtain ⟨a0, i, q, rfl⟩ := len_three h3
              obtain ⟨ad, rfl, hadb, had⟩ := HX.out.1.resolve_left (by simp)
              have c0 : wr.cell? ad = some (.int .i64 a0) := had 0 _ rfl
              have c1 : wr.cell? ⟨ad.block, ad.off + 1, none⟩ = some (.int .i64 i) := by simpa [Addr.add] using had 1 (.int .i64 i) rfl
              have c2 : wr.cell? ⟨ad.block, ad.off + 2, none⟩ = some (.int .i64 q) := by simpa [Addr.add] using had 2 (.int .i64 q) rfl
              obtain ⟨r1, r2⟩ := HX.out.2 i (by simp)
              clear had h2 h3
              simp only [List.length_cons, List.length_nil, Nat.zero_add, Nat.reduceAdd] at hc hC1
              by_cases ha1 : a0 = 1
              · subst ha1
                obtain ⟨p, hp⟩ : ∃ p, (if i < 0 ∨ (st.length : Int) < i then st.length else i.toNat) = p := ⟨_, rfl⟩
                have hs : stepN st [1, i, q] = st.take p ++ q :: st.drop p := by
                  simp only [stepN]; rw [if_pos trivial, hp]
                have hpl : p ≤ st.length := by rw [← hp]; split <;> omega
                have hW := with_any wr Al st.length capl st (Lies.of_own HO.out.1) rfl hcl3 hcl1 hcl2 p hpl q (by omega)
                have hl2 : (st.take p ++ q :: st.drop p).length = st.length + 1 := by simp; omega
                have HS2 := Lib.hid (And.intro hs hl2)
                have HP := Lib.hid hp
                clear hs hl2 hp
                by_cases hneg : i < 0
                · have hpe : p = st.length := by rw [← HP.out, if_pos (.inl hneg)]
                  subst hpe
                  go_wp2_with (first
                    | (go_at_call 13; go_must (refine hW.mono ?_; clear hW; rintro e w1 ⟨v1, rfl, hown1, hb1⟩))
                    | fail)
                  go_roundg (rows.length - (j + 1))
                  case measure => omega
                  case rel => exact ⟨j + 1, by omega, by go_num, by rw [HN.out, HS2.out.1, HS2.out.2]; exact own_mono hown1 hB, HO.out.2.trans (hb1.mono hB)⟩
                · by_cases hbig : (st.length : Int) < i
                  · have hpe : p = st.length := by rw [← HP.out, if_pos (.inr hbig)]
                    subst hpe
                    go_wp2_with (first
                      | (go_at_call 13; go_must (refine hW.mono ?_; clear hW; rintro e w1 ⟨v1, rfl, hown1, hb1⟩))
                      | fail)
                    go_roundg (rows.length - (j + 1))
                    case measure => omega
                    case rel => exact ⟨j + 1, by omega, by go_num, by rw [HN.out, HS2.out.1, HS2.out.2]; exact own_mono hown1 hB, HO.out.2.trans (hb1.mono hB)⟩
                  · have hpe : i = (p : Int) := by rw [← HP.out, if_neg (by omega)]; omega
                    subst hpe
                    have hple : (p : Int) ≤ (st.length : Int) := by omega
                    go_wp2_with (first
                      | (go_at_call 13; go_must (refine hW.mono ?_; clear hW; rintro e w1 ⟨v1, rfl, hown1, hb1⟩))
                      | fail)
                    go_roundg (rows.length - (j + 1))
                    case measure => omega
                    case rel => exact ⟨j + 1, by omega, by go_num, by rw [HN.out, HS2.out.1, HS2.out.2]; exact own_mono hown1 hB, HO.out.2.trans (hb1.mono hB)⟩
              · have hb2 : (a0 == 1) = false := by simp; omega
                have hs : stepN st [a0, i, q] = st := by simp only [stepN]; rw [if_neg ha1]
                have HS2 := Lib.hid hs
                clear hs
                go_wp2
                go_roundg (rows.length - (j + 1))
                case measure => omega
                case rel => exact ⟨j + 1, by omega, by go_num, by rw [HN.out, HS2.out]; exact HO.out.1, HO.out.2⟩
            · have hs : stepN st xs = st := by
                unfold stepN
                split
                · exact absurd rfl h2
                · exact absurd rfl h3
                · rfl
              have HS2 := Lib.hid hs
              have hb2 : ((xs.length : Int) == 2) = false := by simp; omega
              have hb3 : ((xs.length : Int) == 3) = false := by simp; omega
              have hmx : (xs.length : Int) ≤ 9223372036854775807 := by have := hC2; unfold maxLen at this; omega
              clear hs h2 h3
              go_wp2
              go_roundg (rows.length - (j + 1))
              case measure => omega
              case rel => exact ⟨j + 1, by omega, by go_num, by rw [HN.out, HS2.out]; exact HO.out.1, HO.out.2⟩
        · obtain rfl : j = rows.length := by omega
          rw [List.take_length] at hown
          have hlen : (played k rows).length ≤ 1000 := by
            have := played_len k rows
            omega
          obtain ⟨st, hst⟩ : ∃ st, played k rows = st := ⟨_, rfl⟩
          rw [hst] at hown hlen
          have HST := Lib.hid hst
          have hrg := HR.out
          rw [hst] at hrg
          have HRG := Lib.hid hrg
          clear hrg HR
          obtain ⟨j0, hj0, hy0, hy1, hy2⟩ := info_parts infoStr
          have hli := Lies.of_own_any hown
          obtain ⟨Al, capl, rfl, hcl1, hcl2, hcl3⟩ := own_form hown
          have HO := Lib.hid (And.intro (hli Al st.length capl rfl) hbw2)
          clear hst hown hbw2 hli HS
          go_wp2_with fail
          obtain ⟨hli, hbw2⟩ := HO.out
          clear HO
          obtain ⟨wl, hwl⟩ : ∃ wl, wl = wr := ⟨_, rfl⟩
          subst hwl
          have hbl : Below w.heap.size w wl := hbw2
          have HBL := Lib.hid (And.intro hbl hli)
          go_loopg [10, 105] st.length (fun g s10 s105 wx => ∃ q : Nat, q + g = st.length ∧ s105 = .int .i64 q ∧ wx.ownsRow wl.heap.size 9 1 s10 q (strsV ((st.take q).map numS)) ∧ Below wl.heap.size wl wx)
          case atStart => exact ⟨0, by omega, rfl, World.ownsRow_nil _ _ _ _, Below.refl _ _⟩
          case round =>
            obtain ⟨q, hg3, rfl, hown, hbx⟩ := hrel
            have hB := hbx.size
            by_cases hq : q < st.length
            · obtain ⟨x, hx⟩ : ∃ x, st[q]? = some x := ⟨_, List.getElem?_eq_getElem hq⟩
              obtain ⟨al, rfl, halb, hcell⟩ := (HBL.out.2.below hbx).at_ (k := q) (u := .int .i64 x) (by simp [hx])
              obtain ⟨r1, r2⟩ : inRange x := HRG.out x (List.mem_of_getElem? hx)
              have hsucc : strsV ((st.take (q + 1)).map numS) = strsV ((st.take q).map numS) ++ [.string (numS x)] := by
                rw [List.take_add_one, hx]; simp
              have HX := Lib.hid (And.intro hsucc hown)
              have hblt := Nat.lt_of_lt_of_le halb hB
              clear hx hsucc hown hli hbw2 hbl
              by_cases hneg : x < 0
              · go_wp2_with (first
                  | (at_builtin; refine wpList_app _ rfl (.tmp 111) (.tmp 112) 24 rfl wl.heap.size 9 j0 (.string ⟨#[]⟩) 16 underStrs hj0 hy0 hy1 hy2 rfl _ q (strsV ((st.take q).map numS)) rfl (HX.out.2.alloc _) (wr.heap.size + 1) (some ⟨wr.heap.size, 0, none⟩) 1 1 [.string ⟨#[45]⟩] rfl (fun h => by cases h) rfl (lies_new wr _ 9) (by intro u hu; simp at hu; subst hu; rfl) (by simp only [maxLen]; omega) (by omega) (by simp; omega) ?_; intro v1 w1 hown1 hg1 hat1)
                  | fail)
                have hb1 : Below wl.heap.size wl w1 := (hbx.alloc hB _).grown hg1 (by simp; omega) (own_base HX.out.2)
                clear hg1 hat1
                go_roundg (st.length - (q + 1))
                case measure => omega
                case rel => exact ⟨q + 1, by omega, by go_num, by rw [HX.out.1, numS, if_pos hneg]; exact hown1, hb1⟩
              · obtain ⟨y, rfl⟩ := Int.eq_ofNat_of_zero_le (by omega : 0 ≤ x)
                have hy : (y : Int) ≤ 9223372036854775807 := r2
                have hW := fun W => written_any y W (by omega)
                have hnum : numS (y : Int) = decS y := by rw [numS, if_neg hneg]; rfl
                rw [hnum] at HX
                clear hnum
                have hwn : ∀ m, (wr.drewN m).heap.size = wr.heap.size := fun m => rfl
                have hon : ∀ m, (wr.drewN m).ownsRow wl.heap.size 9 1 u10 q (strsV ((st.take q).map numS)) := fun m => HX.out.2
                go_wp2_with (first
                  | (go_at_call 14; go_must (refine (hW _).mono ?_; rintro e w1 ⟨rfl, m, rfl⟩))
                  | (at_builtin; refine wpList_app _ rfl (.tmp 114) (.tmp 117) 24 rfl wl.heap.size 9 j0 (.string ⟨#[]⟩) 16 underStrs hj0 hy0 hy1 hy2 rfl _ q (strsV ((st.take q).map numS)) rfl ((hon m).alloc _) (wr.heap.size + 1) (some ⟨wr.heap.size, 0, none⟩) 1 1 [.string (decS y)] rfl (fun h => by cases h) rfl (lies_new (wr.drewN m) _ 9) (by intro u hu; simp at hu; subst hu; rfl) (by simp only [maxLen]; omega) (by omega) (by simp; omega) ?_; intro v1 w1 hown1 hg1 hat1)
                  | fail)
                have hbd : Below wl.heap.size wl (wr.drewN m) := ⟨hbx.os, hbx.tape, hbx.output, hbx.size, hbx.block⟩
                have hb1 : Below wl.heap.size wl w1 := (hbd.alloc hB _).grown hg1 (by simp; omega) (own_base HX.out.2)
                clear hg1 hat1
                go_roundg (st.length - (q + 1))
                case measure => omega
                case rel => exact ⟨q + 1, by omega, by go_num, by rw [HX.out.1]; exact hown1, hb1⟩
            · obtain rfl : q = st.length := by omega
              have HX := Lib.hid hown
              clear hown hli hbl hbw2
              go_wp2_with fail
              go_ret
              refine ⟨u10, rfl, ?_, (HBL.out.1).trans (hbx.mono HBL.out.1.size)⟩
              rw [HST.out]
              have := HX.out
              rw [List.take_length] at this
              exact own_mono this HBL.out.1.size
end Go.Proofs.Ytgbeohhegckonaa
