/- The reference's Escapes is true of a text without carriage returns and what it is escaped to. Conditions: the text is of at most 2^33 bytes. -/
import Derived.Test.YtpkelgekannioaaRef
import Derived.Test.YtpkelgekannioaaEsc
namespace Go.Proofs.Ytpkelgekannioaa
open Go.RowKit Go.Shelf

theorem byte_at {t : ByteArray} {l : List UInt8} (h : t.data.toList = l) {j : Nat} {b : UInt8} (hb : l[j]? = some b) : ∃ hp : j < t.size, t[j]'hp = b := by
  subst h
  have hp : j < t.size := by have := (List.getElem?_eq_some_iff.1 hb).1; simpa using this
  refine ⟨hp, ?_⟩
  rw [Lib.data_getElem? t j hp] at hb
  exact Option.some.inj hb

theorem wl_append {u : List UInt8} {l : List UInt8} (h : u.all isAn = true) (hl : wl l = 0) : wl (u ++ l) = u.length := by
  induction u with
  | nil => exact hl
  | cons c u ih =>
    simp only [List.all_cons, Bool.and_eq_true] at h
    rw [List.cons_append, wl, if_pos h.1, ih h.2]
    rfl

/-- No other name of the list is a beginning of the word. -/
def aloneB (u : List UInt8) (k0 : Nat) : Bool :=
  ents.zipIdx.all fun x => x.2 == k0 || decide (u.length < x.1.1.data.toList.length) || !(u.take x.1.1.data.toList.length == x.1.1.data.toList)

theorem alone_of {u : ByteArray} {k0 : Nat} (h : aloneB u.data.toList k0 = true) (k : Nat) (e : Ent) (he : ents[k]? = some e) (hk : k ≠ k0) : u.size < e.1.size ∨ (e.1.size ≤ u.size ∧ ¬ u.extract 0 e.1.size = e.1) := by
  have hm : (e, k) ∈ ents.zipIdx := by
    rw [List.mem_zipIdx_iff_getElem?]
    simpa using he
  have := List.all_eq_true.1 h _ hm
  simp only [Bool.or_eq_true, beq_iff_eq, decide_eq_true_eq, Bool.not_eq_true', beq_eq_false_iff_ne, ne_eq, ← Lib.size_eq] at this
  rcases this with (h1 | h1) | h1
  · exact absurd h1 hk
  · exact .inl h1
  · by_cases hlt : u.size < e.1.size
    · exact .inl hlt
    · refine .inr ⟨by omega, fun h2 => h1 ?_⟩
      rw [← h2]
      simp

/-- At a text that begins with an ampersand, a name and a semicolon. -/
theorem ref_name (nm tx : List UInt8) (lg : Bool) (k0 : Nat) (t : ByteArray) (rest : List UInt8) (w : World) (hs : t.size ≤ 140737488355328) (ht : t.data.toList = 38 :: (nm ++ 59 :: rest))
    (hk0 : ents[k0]? = some (ent nm tx lg)) (hal : aloneB nm k0 = true) (han : nm.all isAn = true) (hne : nm ≠ []) :
    Calls Try.prog 9 #[.string t, .bool false] w fun e w' => e = .returned (.tuple #[.string ⟨tx.toArray⟩, .int .i64 ((nm.length : Int) + 2), .bool true]) ∧ Below w.heap.size w w' := by
  have hsz : t.size = nm.length + rest.length + 2 := by rw [Lib.size_eq, ht]; simp; omega
  obtain ⟨hp0, h0⟩ := byte_at ht (j := 0) (b := 38) rfl
  have hx : (t.extract 1 t.size).data.toList = nm ++ 59 :: rest := by rw [Lib.extract_to_end, ht]; rfl
  have hus : (⟨nm.toArray⟩ : ByteArray).size = nm.length := by rw [Lib.size_eq]
  have hpu : (⟨nm.toArray⟩ : ByteArray).size + 1 < t.size := by rw [hus]; omega
  obtain ⟨hq, hsc⟩ := byte_at ht (j := (⟨nm.toArray⟩ : ByteArray).size + 1) (b := 59) (by rw [hus]; simp)
  obtain ⟨c, nm', rfl⟩ : ∃ c nm', nm = c :: nm' := by cases nm with | nil => exact absurd rfl hne | cons c l => exact ⟨c, l, rfl⟩
  obtain ⟨hp1, h1⟩ := byte_at ht (j := 1) (b := c) rfl
  have hc : isAn c = true := by simp only [List.all_cons, Bool.and_eq_true] at han; exact han.1
  have h := ref_named t ⟨(c :: nm').toArray⟩ ⟨tx.toArray⟩ lg k0 w hs hk0 (alone_of hal) (by rw [hx, wl_append han (by rfl), hus]) (str_same (by
      rw [Lib.toList_data, Lib.toList_data, Lib.extract_data, hx, hus]
      simp)) hp0 hp1 hpu h0 (by
      rw [h1]
      intro e
      have : c = 35 := UInt8.toNat_inj.1 (by show c.toNat = 35; omega)
      rw [this] at hc
      exact absurd hc (by decide)) hsc
  rw [hus] at h
  exact h

/-- At what one of the five characters is escaped to. -/
theorem ref_esc (c : UInt8) (t : ByteArray) (rest : List UInt8) (w : World) (hs : t.size ≤ 140737488355328) (hc : c = 38 ∨ c = 39 ∨ c = 60 ∨ c = 62 ∨ c = 34) (ht : t.data.toList = escB c ++ rest) :
    Calls Try.prog 9 #[.string t, .bool false] w fun e w' => e = .returned (.tuple #[.string ⟨#[c]⟩, .int .i64 (escB c).length, .bool true]) ∧ Below w.heap.size w w' := by
  rcases hc with rfl | rfl | rfl | rfl | rfl
  · exact ref_name [97, 109, 112] [38] true 0 t rest w hs ht rfl (by decide) (by decide) (by decide)
  · obtain ⟨hp0, h0⟩ := byte_at ht (j := 0) (b := 38) rfl
    obtain ⟨hp1, h1⟩ := byte_at ht (j := 1) (b := 35) rfl
    obtain ⟨hp2, h2⟩ := byte_at ht (j := 2) (b := 51) rfl
    obtain ⟨hp3, h3⟩ := byte_at ht (j := 3) (b := 57) rfl
    obtain ⟨hp4, h4⟩ := byte_at ht (j := 4) (b := 59) rfl
    exact ref_39 t w hs hp0 hp1 hp2 hp3 hp4 h0 h1 h2 h3 h4 false
  · exact ref_name [108, 116] [60] true 1 t rest w hs ht rfl (by decide) (by decide) (by decide)
  · exact ref_name [103, 116] [62] true 2 t rest w hs ht rfl (by decide) (by decide) (by decide)
  · obtain ⟨hp0, h0⟩ := byte_at ht (j := 0) (b := 38) rfl
    obtain ⟨hp1, h1⟩ := byte_at ht (j := 1) (b := 35) rfl
    obtain ⟨hp2, h2⟩ := byte_at ht (j := 2) (b := 51) rfl
    obtain ⟨hp3, h3⟩ := byte_at ht (j := 3) (b := 52) rfl
    obtain ⟨hp4, h4⟩ := byte_at ht (j := 4) (b := 59) rfl
    exact ref_34 t w hs hp0 hp1 hp2 hp3 hp4 h0 h1 h2 h3 h4 false

theorem sign_60 (w : World) : Calls Try.prog 10 #[.int .u8 60] w fun e w' => e = .returned (.string ⟨#[38, 108, 116, 59]⟩) ∧ w' = w :=
  calls_of_evalFn Try.func10 rfl (by kernel_rfl) ⟨rfl, rfl⟩

/-- Is it one of the five. -/
def five (c : UInt8) : Prop := c = 38 ∨ c = 39 ∨ c = 60 ∨ c = 62 ∨ c = 34

set_option maxHeartbeats 8000000 in
set_option maxRecDepth 100000 in
theorem escapes_any (t0 s : ByteArray) (w : World) (hs : s.size ≤ 8589934592) (ht0 : t0.data.toList = esc s.data.toList) (hcr : ∀ b ∈ s.data.toList, b ≠ 13) :
    Calls Try.prog 7 #[.string t0, .string s] w fun e w' => e = .returned (.bool true) ∧ Below w.heap.size w w' := by
  have HCR := Lib.hid hcr
  clear hcr
  go_enter Try.func7, Try.ntmps7
  go_wp2
  go_loopg [0, 12] (s.size + 1) (fun g s0 s12 wx => ∃ (i : Nat) (t : ByteArray), i + g = s.size + 1 ∧ i ≤ s.size ∧ s12 = .int .i64 i ∧ s0 = .string t ∧ t.data.toList = esc (s.data.toList.drop i) ∧ Below w.heap.size w wx)
  case atStart => exact ⟨0, t0, by omega, by omega, rfl, rfl, by simpa using ht0, Below.refl _ _⟩
  case round =>
    obtain ⟨i, t, hg, hi, rfl, rfl, ht, hbw⟩ := hrel
    by_cases hlt : i < s.size
    · obtain ⟨c, hc⟩ : ∃ c : UInt8, s[i]'hlt = c := ⟨_, rfl⟩
      have hcl : s.data.toList[i]? = some c := by rw [← hc]; exact Lib.data_getElem? s i hlt
      have hd : esc (s.data.toList.drop i) = escB c ++ esc (s.data.toList.drop (i + 1)) := by
        obtain ⟨h1, h2⟩ := List.getElem?_eq_some_iff.1 hcl
        rw [List.drop_eq_getElem_cons h1, h2, esc_cons]
      have ht' := ht.trans hd
      have hc13 : c ≠ 13 := HCR.out c (List.mem_of_getElem? hcl)
      have hle : (esc (s.data.toList.drop i)).length ≤ 5 * s.size := Nat.le_trans (esc_le _) (by rw [List.length_drop, ← Lib.size_eq]; omega)
      have htz : t.size ≤ 140737488355328 := by rw [Lib.size_eq, ht]; omega
      have HT := Lib.hid ht'
      clear ht ht' hd hcl hle
      by_cases h5 : five c
      · rcases h5 with rfl | rfl | rfl | rfl | rfl
        · have hr := ref_esc 38 t _ wr htz (by simp) HT.out
          rw [show ((escB 38).length : Int) = 5 from rfl] at hr
          obtain ⟨hp0, h0⟩ := byte_at HT.out (j := 0) (b := 38) rfl
          obtain ⟨hp4, h4⟩ := byte_at HT.out (j := 4) (b := 59) rfl
          have HREST := Lib.hid (show (t.extract 5 t.size).data.toList = esc (s.data.toList.drop (i + 1)) by rw [Lib.extract_to_end, HT.out]; rfl)
          have hemp : t.toList.isEmpty = false := by rw [Lib.toList_data, HT.out]; rfl
          have henc : Utf8.encode 38 = ⟨#[38]⟩ := by decide
          have hl5 : (5 : Int) ≤ (t.size : Int) := by omega
          have hl4 : (4 : Int) < (t.size : Int) := by omega
          clear HT hc13
          go_wp2_with (go_at_call 9; go_must (refine hr.mono ?_; rintro e w2 ⟨rfl, hb2⟩))
          go_quiet (fail)
          go_wp2_with fail
          go_roundg (s.size - i)
          case measure => omega
          case rel => exact ⟨i + 1, t.extract 5 t.size, by omega, by omega, by go_num, rfl, HREST.out, hbw.trans ((hb2.mono hbw.size).trans ⟨rfl, rfl, rfl, Nat.le_refl _, fun _ _ => rfl⟩)⟩
        · have hr := ref_esc 39 t _ wr htz (by simp) HT.out
          rw [show ((escB 39).length : Int) = 5 from rfl] at hr
          obtain ⟨hp0, h0⟩ := byte_at HT.out (j := 0) (b := 38) rfl
          obtain ⟨hp4, h4⟩ := byte_at HT.out (j := 4) (b := 59) rfl
          have HREST := Lib.hid (show (t.extract 5 t.size).data.toList = esc (s.data.toList.drop (i + 1)) by rw [Lib.extract_to_end, HT.out]; rfl)
          have hemp : t.toList.isEmpty = false := by rw [Lib.toList_data, HT.out]; rfl
          have henc : Utf8.encode 39 = ⟨#[39]⟩ := by decide
          have hl5 : (5 : Int) ≤ (t.size : Int) := by omega
          have hl4 : (4 : Int) < (t.size : Int) := by omega
          clear HT hc13
          go_wp2_with (go_at_call 9; go_must (refine hr.mono ?_; rintro e w2 ⟨rfl, hb2⟩))
          go_quiet (fail)
          go_wp2_with fail
          go_roundg (s.size - i)
          case measure => omega
          case rel => exact ⟨i + 1, t.extract 5 t.size, by omega, by omega, by go_num, rfl, HREST.out, hbw.trans ((hb2.mono hbw.size).trans ⟨rfl, rfl, rfl, Nat.le_refl _, fun _ _ => rfl⟩)⟩
        · have hr := ref_esc 60 t _ wr htz (by simp) HT.out
          rw [show ((escB 60).length : Int) = 4 from rfl] at hr
          obtain ⟨hp0, h0⟩ := byte_at HT.out (j := 0) (b := 38) rfl
          obtain ⟨hp4, h4⟩ := byte_at HT.out (j := 3) (b := 59) rfl
          have HREST := Lib.hid (show (t.extract 4 t.size).data.toList = esc (s.data.toList.drop (i + 1)) by rw [Lib.extract_to_end, HT.out]; rfl)
          have hemp : t.toList.isEmpty = false := by rw [Lib.toList_data, HT.out]; rfl
          have henc : Utf8.encode 60 = ⟨#[60]⟩ := by decide
          have hl5 : (4 : Int) ≤ (t.size : Int) := by omega
          have hl4 : (3 : Int) < (t.size : Int) := by omega
          have hsg : t.extract 0 4 = ⟨#[38, 108, 116, 59]⟩ := str_same (by rw [Lib.toList_data, Lib.toList_data, Lib.extract_data, HT.out]; rfl)
          clear HT hc13
          go_wp2_with (go_at_call 9; go_must (refine hr.mono ?_; rintro e w2 ⟨rfl, hb2⟩))
          go_quiet ((go_at_call 10; refine (sign_60 _).mono ?_; rintro e w'' ⟨rfl, rfl⟩; exact ⟨rfl, _, rfl⟩))
          go_wp2_with fail
          go_roundg (s.size - i)
          case measure => omega
          case rel => exact ⟨i + 1, t.extract 4 t.size, by omega, by omega, by go_num, rfl, HREST.out, hbw.trans ((hb2.mono hbw.size).trans ⟨rfl, rfl, rfl, Nat.le_refl _, fun _ _ => rfl⟩)⟩
        · have hr := ref_esc 62 t _ wr htz (by simp) HT.out
          rw [show ((escB 62).length : Int) = 4 from rfl] at hr
          obtain ⟨hp0, h0⟩ := byte_at HT.out (j := 0) (b := 38) rfl
          obtain ⟨hp4, h4⟩ := byte_at HT.out (j := 3) (b := 59) rfl
          have HREST := Lib.hid (show (t.extract 4 t.size).data.toList = esc (s.data.toList.drop (i + 1)) by rw [Lib.extract_to_end, HT.out]; rfl)
          have hemp : t.toList.isEmpty = false := by rw [Lib.toList_data, HT.out]; rfl
          have henc : Utf8.encode 62 = ⟨#[62]⟩ := by decide
          have hl5 : (4 : Int) ≤ (t.size : Int) := by omega
          have hl4 : (3 : Int) < (t.size : Int) := by omega
          clear HT hc13
          go_wp2_with (go_at_call 9; go_must (refine hr.mono ?_; rintro e w2 ⟨rfl, hb2⟩))
          go_quiet (fail)
          go_wp2_with fail
          go_roundg (s.size - i)
          case measure => omega
          case rel => exact ⟨i + 1, t.extract 4 t.size, by omega, by omega, by go_num, rfl, HREST.out, hbw.trans ((hb2.mono hbw.size).trans ⟨rfl, rfl, rfl, Nat.le_refl _, fun _ _ => rfl⟩)⟩
        · have hr := ref_esc 34 t _ wr htz (by simp) HT.out
          rw [show ((escB 34).length : Int) = 5 from rfl] at hr
          obtain ⟨hp0, h0⟩ := byte_at HT.out (j := 0) (b := 38) rfl
          obtain ⟨hp4, h4⟩ := byte_at HT.out (j := 4) (b := 59) rfl
          have HREST := Lib.hid (show (t.extract 5 t.size).data.toList = esc (s.data.toList.drop (i + 1)) by rw [Lib.extract_to_end, HT.out]; rfl)
          have hemp : t.toList.isEmpty = false := by rw [Lib.toList_data, HT.out]; rfl
          have henc : Utf8.encode 34 = ⟨#[34]⟩ := by decide
          have hl5 : (5 : Int) ≤ (t.size : Int) := by omega
          have hl4 : (4 : Int) < (t.size : Int) := by omega
          clear HT hc13
          go_wp2_with (go_at_call 9; go_must (refine hr.mono ?_; rintro e w2 ⟨rfl, hb2⟩))
          go_quiet (fail)
          go_wp2_with fail
          go_roundg (s.size - i)
          case measure => omega
          case rel => exact ⟨i + 1, t.extract 5 t.size, by omega, by omega, by go_num, rfl, HREST.out, hbw.trans ((hb2.mono hbw.size).trans ⟨rfl, rfl, rfl, Nat.le_refl _, fun _ _ => rfl⟩)⟩
      · simp only [five, not_or] at h5
        obtain ⟨n38, n39, n60, n62, n34⟩ := h5
        have he : escB c = [c] := by simp [escB, n38, n39, n60, n62, n34, hc13]
        have hT1 := HT.out
        rw [he] at hT1
        obtain ⟨hp0, h0⟩ := byte_at hT1 (j := 0) (b := c) rfl
        have HT1 := Lib.hid hT1
        have m : ∀ (n : UInt8) (k : Int), c ≠ n → (n.toNat : Int) = k → ((c.toNat : Int) == k) = false ∧ ((c.toNat : Int) != k) = true := fun n k h hk => by
          have : ((c.toNat : Int) == k) = false := beq_eq_false_iff_ne.2 fun e => h (UInt8.toNat_inj.1 (by omega))
          exact ⟨this, by rw [bne, this]; rfl⟩
        obtain ⟨e38, f38⟩ := m 38 38 n38 rfl
        obtain ⟨e39, f39⟩ := m 39 39 n39 rfl
        obtain ⟨e60, f60⟩ := m 60 60 n60 rfl
        obtain ⟨e62, f62⟩ := m 62 62 n62 rfl
        obtain ⟨e34, f34⟩ := m 34 34 n34 rfl
        have hemp : t.toList.isEmpty = false := by rw [Lib.toList_data, HT1.out]; rfl
        have hl1 : (1 : Int) ≤ (t.size : Int) := by omega
        clear m n38 n39 n60 n62 n34 hc13 hT1 he HT
        go_wp2_with fail
        go_roundg (s.size - i)
        case measure => omega
        case rel => exact ⟨i + 1, t.extract 1 t.size, by omega, by omega, by go_num, rfl, by rw [Lib.extract_to_end, HT1.out]; rfl, hbw⟩
    · obtain rfl : i = s.size := by omega
      have hemp : t.toList.isEmpty = true := by
        rw [Lib.toList_data, ht, List.drop_of_length_le (by rw [← Lib.size_eq]; exact Nat.le_refl _)]
        rfl
      clear ht
      go_wp2_with fail
      go_ret
      exact ⟨rfl, hbw⟩

end Go.Proofs.Ytpkelgekannioaa
