/- The specification's test of what may be written, and what a comment is written to. Conditions: sizes below 2^40. -/
import Derived.Test.YtpkelgekannioaaGreatDoorGcFacts
import Derived.Test.YtpkelgekannioaaGreatDoorGgAttr
import Derived.Test.YtpkelgekannioaaGreatDoorGbRef
import Derived.Test.YtpkelgekannioaaGreatDoorGfRead
set_option linter.unusedSimpArgs false
set_option linter.unusedVariables false

namespace Go.Proofs.YtpkelgekannioaaGreatDoor
open Go.RowKit Go.Shelf Go.BigFrame
open Go.Proofs.YtpkelgekannioaaGreatDoorW.PrintWords
set_option linter.unusedSimpArgs false
set_option linter.unusedVariables false

/-- A byte that a name may hold at place k. -/
def nmB (k : Nat) (c : UInt8) : Bool := !(decide ((c.toNat : Int) < 97) || decide ((c.toNat : Int) > 122)) || !((k == 0) || (decide ((c.toNat : Int) < 48) || decide ((c.toNat : Int) > 57)))

theorem nmB_eq {k : Nat} {c : UInt8} : nmB k c = (!(decide ((c.toNat : Int) < 97) || decide ((c.toNat : Int) > 122)) || !((k == 0) || (decide ((c.toNat : Int) < 48) || decide ((c.toNat : Int) > 57)))) := rfl

set_option maxHeartbeats 4000000 in
set_option maxRecDepth 100000 in
/-- The test of a name tells; where it says yes it is a name. -/
theorem isName_any (s : ByteArray) (hs : s.size ≤ 1099511627776) : ∃ r : Bool, (r = true → (∀ (k : Nat) (hk : k < s.size), nmB k (s[k]'hk) = true) ∧ s.size ≠ 0) ∧ ∀ w, Calls Tryz.prog 12 #[.string s] w fun e w' => e = .returned (.bool r) ∧ w' = w := by
  obtain ⟨r, hr⟩ : ∃ r : Bool, r = true ↔ ((∀ (k : Nat) (hk : k < s.size), nmB k (s[k]'hk) = true) ∧ s.size ≠ 0) := by
    by_cases h : ((∀ (k : Nat) (hk : k < s.size), nmB k (s[k]'hk) = true) ∧ s.size ≠ 0)
    · exact ⟨true, by simp [h]⟩
    · exact ⟨false, by simp only [h]; simp⟩
  refine ⟨r, hr.1, fun w => ?_⟩
  have hf : ∀ (k : Nat) (hk : k < s.size), nmB k (s[k]'hk) = false → r = false := fun k hk h => by
    cases r with
    | false => rfl
    | true => rw [(hr.1 rfl).1 k hk] at h; cases h
  have HR := Lib.hid (And.intro hr hf)
  clear hr hf
  go_enter Tryz.func12, Tryz.ntmps12
  go_wp2_with fail
  go_loopg [3, 6] s.size (fun m s3 s6 wx => ∃ k : Nat, k + m = s.size ∧ s6 = .int .i64 k ∧ wx = w ∧ ∀ (j : Nat) (hj : j < s.size), j < k → nmB j (s[j]'hj) = true)
  case atStart => exact ⟨0, by omega, rfl, rfl, fun j hj h => by omega⟩
  case round =>
    obtain ⟨k, hm, rfl, rfl, hall⟩ := hrel
    by_cases hlt : k < s.size
    · have hki : (k : Int) < (s.size : Int) := by omega
      have hwk := wrap_succ k (by omega)
      obtain ⟨c, hc⟩ : ∃ c, s[k]'hlt = c := ⟨_, rfl⟩
      have HA := Lib.hid hall
      clear hall
      by_cases h1 : (c.toNat : Int) < 97
      · have d1 : decide ((c.toNat : Int) < 97) = true := decide_eq_true h1
        by_cases h0 : k = 0
        · subst h0
          have hv : r = false := HR.out.2 0 hlt (by rw [hc, nmB_eq, d1]; simp)
          clear h1 
          go_wp2_with fail
          go_ret
          exact ⟨ret_bool hv.symm, rfl⟩
        · have d0 : ((k : Int) == 0) = false := beq_eq_false_iff_ne.2 (by omega)
          have d0' : (k == 0) = false := beq_eq_false_iff_ne.2 h0
          by_cases h2 : (c.toNat : Int) < 48
          · have d2 : decide ((c.toNat : Int) < 48) = true := decide_eq_true h2
            have hv : r = false := HR.out.2 k hlt (by rw [hc, nmB_eq, d1, d2]; simp)
            clear h1 h2
            go_wp2_with fail
            go_ret
            exact ⟨ret_bool hv.symm, rfl⟩
          · have d2 : decide ((c.toNat : Int) < 48) = false := decide_eq_false h2
            by_cases h3 : (c.toNat : Int) > 57
            · have d3 : decide ((c.toNat : Int) > 57) = true := decide_eq_true h3
              have hv : r = false := HR.out.2 k hlt (by rw [hc, nmB_eq, d1, d3]; simp)
              clear h1 h2 h3
              go_wp2_with fail
              go_ret
              exact ⟨ret_bool hv.symm, rfl⟩
            · have d3 : decide ((c.toNat : Int) > 57) = false := decide_eq_false h3
              have hv : nmB k (s[k]'hlt) = true := by rw [hc, nmB_eq, d1, d2, d3, d0']; rfl
              have HV := Lib.hid hv
              clear h1 h2 h3 hv
              go_wp2_with fail
              go_roundg (s.size - (k + 1))
              case measure => omega
              case rel =>
                refine ⟨k + 1, by omega, rfl, rfl, fun j hj hjk => ?_⟩
                rcases Nat.lt_or_ge j k with h | h
                · exact HA.out j hj h
                · obtain rfl : j = k := by omega
                  exact HV.out
      · have d1 : decide ((c.toNat : Int) < 97) = false := decide_eq_false h1
        by_cases h2 : (c.toNat : Int) > 122
        · have d2 : decide ((c.toNat : Int) > 122) = true := decide_eq_true h2
          have d3 : decide ((c.toNat : Int) > 57) = true := decide_eq_true (by omega)
          have d4 : decide ((c.toNat : Int) < 48) = false := decide_eq_false (by omega)
          have hv : r = false := HR.out.2 k hlt (by rw [hc, nmB_eq, d1, d2, d3]; simp)
          clear h1 h2
          by_cases h0 : k = 0
          · subst h0
            go_wp2_with fail
            go_ret
            exact ⟨ret_bool hv.symm, rfl⟩
          · have d0 : ((k : Int) == 0) = false := beq_eq_false_iff_ne.2 (by omega)
            clear h0
            go_wp2_with fail
            go_ret
            exact ⟨ret_bool hv.symm, rfl⟩
        · have d2 : decide ((c.toNat : Int) > 122) = false := decide_eq_false h2
          have hv : nmB k (s[k]'hlt) = true := by rw [hc, nmB_eq, d1, d2]; rfl
          have HV := Lib.hid hv
          clear h1 h2 hv
          go_wp2_with fail
          go_roundg (s.size - (k + 1))
          case measure => omega
          case rel =>
            refine ⟨k + 1, by omega, rfl, rfl, fun j hj hjk => ?_⟩
            rcases Nat.lt_or_ge j k with h | h
            · exact HA.out j hj h
            · obtain rfl : j = k := by omega
              exact HV.out
    · obtain rfl : k = s.size := by omega
      have hA : ∀ (j : Nat) (hj : j < s.size), nmB j (s[j]'hj) = true := fun j hj => hall j hj hj
      have HA := Lib.hid hA
      clear hall hA
      go_wp2_with fail
      go_ret
      refine ⟨ret_bool ?_, rfl⟩
      rw [Bool.eq_iff_iff, HR.out.1]
      rw [Lib.toList_data]
      constructor
      · intro h
        refine ⟨HA.out, fun h0 => ?_⟩
        rw [Lib.size_eq] at h0
        rw [List.eq_nil_of_length_eq_zero h0] at h
        cases h
      · rintro ⟨_, h⟩
        cases hl : s.data.toList with
        | nil => rw [Lib.size_eq, hl] at h; exact absurd rfl h
        | cons a l => rfl

end Go.Proofs.YtpkelgekannioaaGreatDoor

namespace Go.Proofs.YtpkelgekannioaaGreatDoor
open Go.RowKit Go.Shelf Go.BigFrame
open Go.Proofs.YtpkelgekannioaaGreatDoorW.PrintWords
set_option linter.unusedSimpArgs false
set_option linter.unusedVariables false

def No13 (s : ByteArray) : Prop := ∀ x ∈ s.data.toList, x ≠ 13
def NameS (s : ByteArray) : Prop := (∀ (k : Nat) (hk : k < s.size), nmB k (s[k]'hk) = true) ∧ s.size ≠ 0
def WOk (k : Int) (s : ByteArray) : Prop := (k = 1 ∧ No13 s) ∨ ((k = 2 ∨ k = 3 ∨ k = 4) ∧ NameS s ∧ Usual s) ∨ (k = 5 ∧ No13 s) ∨ (k = 6 ∧ s = ⟨#[104, 116, 109, 108]⟩)

theorem writable_name (k : Int) (s : ByteArray) (hs : s.size ≤ 1099511627776) (e1 : (k == 1) = false) (hk : (k == 2) = true ∨ ((k == 2) = false ∧ (k == 3) = true) ∨ ((k == 2) = false ∧ (k == 3) = false ∧ (k == 4) = true)) :
    ∃ r : Bool, (r = true → NameS s ∧ Usual s) ∧ ∀ w, Calls Tryz.prog 11 #[.int .i64 k, .string s] w fun e w' => e = .returned (.bool r) ∧ Drawn0 w w' := by
  obtain ⟨n, hn1, hn2⟩ := isName_any s hs
  obtain ⟨m, hm1, hm2⟩ := modeOf_any s
  cases n with
  | false =>
    refine ⟨false, by simp, fun w => ?_⟩
    rcases hk with h2 | ⟨h2, h3⟩ | ⟨h2, h3, h4⟩
    all_goals
      go_enter Tryz.func11, Tryz.ntmps11
      go_wp2_with (go_at_call 12; go_must (refine (hn2 _).mono ?_; rintro e w' ⟨rfl, rfl⟩))
      go_ret
      exact ⟨ret_bool rfl, Drawn0.refl _⟩
  | true =>
    by_cases hm : m = 0
    · subst hm
      refine ⟨!s.toList == [110, 111, 115, 99, 114, 105, 112, 116], fun _ => ⟨hn1 rfl, hm1 rfl⟩, fun w => ?_⟩
      · rcases hk with h2 | ⟨h2, h3⟩ | ⟨h2, h3, h4⟩
        all_goals
          go_enter Tryz.func11, Tryz.ntmps11
          go_wp2_with (first | (go_at_call 12; (refine (hn2 _).mono ?_; rintro e w' ⟨rfl, rfl⟩)) | (go_at_call 23; (refine (hm2 _).mono ?_; rintro e w' ⟨rfl, ⟨⟨nq, rfl⟩⟩⟩)))
          go_ret
          exact ⟨ret_bool rfl, ⟨⟨_, rfl⟩⟩⟩
    · refine ⟨false, by simp, fun w => ?_⟩
      have hm0 : (m == 0) = false := beq_eq_false_iff_ne.2 hm
      clear hm
      rcases hk with h2 | ⟨h2, h3⟩ | ⟨h2, h3, h4⟩
      all_goals
        go_enter Tryz.func11, Tryz.ntmps11
        go_wp2_with (first | (go_at_call 12; (refine (hn2 _).mono ?_; rintro e w' ⟨rfl, rfl⟩)) | (go_at_call 23; (refine (hm2 _).mono ?_; rintro e w' ⟨rfl, ⟨⟨nq, rfl⟩⟩⟩)))
        go_ret
        exact ⟨ret_bool rfl, ⟨⟨_, rfl⟩⟩⟩

theorem writable_text (k : Int) (s : ByteArray) (hs : s.size ≤ 1099511627776) (hk : (k == 1) = true ∨ ((k == 1) = false ∧ (k == 2) = false ∧ (k == 3) = false ∧ (k == 4) = false ∧ (k == 5) = true)) :
    ∃ r : Bool, (r = true → No13 s) ∧ ∀ w, Calls Tryz.prog 11 #[.int .i64 k, .string s] w fun e w' => e = .returned (.bool r) ∧ Drawn0 w w' := by
  obtain ⟨v, hv⟩ := valid_any s hs
  obtain ⟨m, hm1, hm2⟩ := has_any s 13 hs
  cases v with
  | false =>
    refine ⟨false, by simp, fun w => ?_⟩
    rcases hk with h1 | ⟨h1, h2, h3, h4, h5⟩
    all_goals
      go_enter Tryz.func11, Tryz.ntmps11
      go_wp2_with (go_at_call 13; go_must (refine (hv _).mono ?_; rintro e w' ⟨rfl, ⟨⟨nq, rfl⟩⟩⟩))
      go_ret
      exact ⟨ret_bool rfl, ⟨⟨_, rfl⟩⟩⟩
  | true =>
    refine ⟨!m, fun h => hm1 (by simpa using h), fun w => ?_⟩
    rcases hk with h1 | ⟨h1, h2, h3, h4, h5⟩
    all_goals
      go_enter Tryz.func11, Tryz.ntmps11
      go_wp2_with (first | (go_at_call 13; (refine (hv _).mono ?_; rintro e w' ⟨rfl, ⟨⟨nq, rfl⟩⟩⟩)) | (go_at_call 14; (refine (hm2 _).mono ?_; rintro e w' ⟨rfl, ⟨⟨nk, rfl⟩⟩⟩)))
      go_ret
      exact ⟨ret_bool rfl, ⟨⟨_, rfl⟩⟩⟩

theorem writable_doc (k : Int) (s : ByteArray) (h1 : (k == 1) = false) (h2 : (k == 2) = false) (h3 : (k == 3) = false) (h4 : (k == 4) = false) (h5 : (k == 5) = false) :
    ∃ r : Bool, (r = true → k = 6 ∧ s = ⟨#[104, 116, 109, 108]⟩) ∧ ∀ w, Calls Tryz.prog 11 #[.int .i64 k, .string s] w fun e w' => e = .returned (.bool r) ∧ Drawn0 w w' := by
  cases h6 : (k == 6) with
  | false =>
    refine ⟨false, by simp, fun w => ?_⟩
    go_enter Tryz.func11, Tryz.ntmps11
    go_wp2_with fail
    go_ret
    exact ⟨ret_bool rfl, Drawn0.refl _⟩
  | true =>
    refine ⟨s.toList == [104, 116, 109, 108], fun hq => ⟨by simpa using h6, ?_⟩, fun w => ?_⟩
    · rw [Lib.toList_data] at hq
      exact str_ext (beq_iff_eq.1 hq)
    · go_enter Tryz.func11, Tryz.ntmps11
      go_wp2_with fail
      go_ret
      exact ⟨ret_bool rfl, Drawn0.refl _⟩

/-- The test of what a kind of token may hold tells, and says yes of what it should alone. -/
theorem writable_any (k : Int) (s : ByteArray) (hs : s.size ≤ 1099511627776) :
    ∃ r : Bool, (r = true → WOk k s) ∧ ∀ w, Calls Tryz.prog 11 #[.int .i64 k, .string s] w fun e w' => e = .returned (.bool r) ∧ Drawn0 w w' := by
  cases h1 : (k == 1) with
  | true =>
    obtain ⟨r, a, b⟩ := writable_text k s hs (.inl h1)
    exact ⟨r, fun h => .inl ⟨by simpa using h1, a h⟩, b⟩
  | false =>
    cases h2 : (k == 2) with
    | true =>
      obtain ⟨r, a, b⟩ := writable_name k s hs h1 (.inl h2)
      exact ⟨r, fun h => .inr (.inl ⟨.inl (by simpa using h2), a h⟩), b⟩
    | false =>
      cases h3 : (k == 3) with
      | true =>
        obtain ⟨r, a, b⟩ := writable_name k s hs h1 (.inr (.inl ⟨h2, h3⟩))
        exact ⟨r, fun h => .inr (.inl ⟨.inr (.inl (by simpa using h3)), a h⟩), b⟩
      | false =>
        cases h4 : (k == 4) with
        | true =>
          obtain ⟨r, a, b⟩ := writable_name k s hs h1 (.inr (.inr ⟨h2, h3, h4⟩))
          exact ⟨r, fun h => .inr (.inl ⟨.inr (.inr (by simpa using h4)), a h⟩), b⟩
        | false =>
          cases h5 : (k == 5) with
          | true =>
            obtain ⟨r, a, b⟩ := writable_text k s hs (.inr ⟨h1, h2, h3, h4, h5⟩)
            exact ⟨r, fun h => .inr (.inr (.inl ⟨by simpa using h5, a h⟩)), b⟩
          | false =>
            obtain ⟨r, a, b⟩ := writable_doc k s h1 h2 h3 h4 h5
            exact ⟨r, fun h => .inr (.inr (.inr (a h))), b⟩

end Go.Proofs.YtpkelgekannioaaGreatDoor

namespace Go.Proofs.YtpkelgekannioaaGreatDoor
open Go.RowKit Go.Shelf Go.BigFrame
set_option linter.unusedSimpArgs false
set_option linter.unusedVariables false

/-- Is the byte c behind p written as a reference? -/
def cE (p : Option UInt8) (c : UInt8) : Bool := c == 38 || (c == 62 && (p == none || p == some 33 || p == some 45))
def cU (p : Option UInt8) (c : UInt8) : Un := if cE p c then .ref c else .byte c
def cUs (p : Option UInt8) : List UInt8 → List Un
  | [] => []
  | c :: l => cU p c :: cUs (some c) l
theorem cU_v (p : Option UInt8) (c : UInt8) : (cU p c).v = c := by
  unfold cU
  split <;> rfl
theorem cUs_v : ∀ (p : Option UInt8) (l : List UInt8), unV (cUs p l) = l
  | _, [] => rfl
  | p, c :: l => by
    have := cUs_v (some c) l
    simp only [unV] at this ⊢
    rw [cUs, List.map_cons, cU_v, this]
theorem cU_ok (p : Option UInt8) (c : UInt8) : (cU p c).ok := by
  unfold cU cE
  split
  · rename_i h
    simp only [Bool.or_eq_true, Bool.and_eq_true, beq_iff_eq] at h
    unfold Un.ok five
    rcases h with h | h
    · exact .inl h
    · simp [h.1]
  · rename_i h
    intro e
    rw [e] at h
    simp at h
theorem cUs_ok : ∀ (p : Option UInt8) (l : List UInt8), ∀ u ∈ cUs p l, u.ok
  | _, [] => by simp [cUs]
  | p, c :: l => by
    intro u hu
    rw [cUs] at hu
    rcases List.mem_cons.1 hu with rfl | h
    · exact cU_ok p c
    · exact cUs_ok _ l u h
/-- The byte behind which the next one stands. -/
def lastP (p : Option UInt8) : List UInt8 → Option UInt8
  | [] => p
  | c :: l => lastP (some c) l
theorem cUs_append : ∀ (p : Option UInt8) (a b : List UInt8), cUs p (a ++ b) = cUs p a ++ cUs (lastP p a) b
  | _, [], _ => rfl
  | p, c :: a, b => by
    show cU p c :: cUs (some c) (a ++ b) = _
    rw [cUs_append (some c) a b]
    rfl
theorem lastP_take : ∀ (p : Option UInt8) (l : List UInt8) (k : Nat) (c : UInt8), l[k]? = some c → lastP p (l.take (k + 1)) = some c
  | _, [], k, c, h => by simp at h
  | p, a :: l, 0, c, h => by simp at h; subst h; rfl
  | p, a :: l, k + 1, c, h => by
    show lastP (some a) (l.take (k + 1)) = some c
    exact lastP_take (some a) l k c (by simpa using h)

def okP (q : Option UInt8) : Prop := q ≠ none ∧ q ≠ some 33 ∧ q ≠ some 45
def GE : Option UInt8 → List UInt8 → Prop
  | _, [] => True
  | q, c :: E => (c = 62 → okP q) ∧ GE (some c) E
theorem GE_at : ∀ (q : Option UInt8) (E : List UInt8), GE q E → ∀ k : Nat, E[k]? = some 62 → (k = 0 → okP q) ∧ (1 ≤ k → okP E[k - 1]?)
  | _, [], _, k, h => by simp at h
  | q, c :: E, hg, 0, h => by
    have hc : c = 62 := by simpa using h
    exact ⟨fun _ => hg.1 hc, fun h => absurd h (by decide)⟩
  | q, c :: E, hg, k + 1, h => by
    obtain ⟨h0, h1⟩ := GE_at (some c) E hg.2 k (by simpa using h)
    refine ⟨fun h => (Nat.succ_ne_zero _ h).elim, fun _ => ?_⟩
    cases k with
    | zero => exact h0 rfl
    | succ k =>
      have := h1 (by omega)
      simpa using this
theorem GE_EC {E : List UInt8} (h : GE none E) : EC E := fun k hk => by
  obtain ⟨h0, h1⟩ := GE_at none E h k hk
  have hk1 : 1 ≤ k := by
    rcases Nat.eq_zero_or_pos k with h | h
    · exact absurd rfl (h0 h).1
    · exact h
  exact ⟨hk1, (h1 hk1).2⟩
theorem GE_cUs : ∀ (l : List UInt8) (p q : Option UInt8), (okP p → okP q) → GE q (unB (cUs p l))
  | [], _, _, _ => trivial
  | c :: l, p, q, h => by
    rw [cUs, unB_cons]
    unfold cU
    cases hE : cE p c with
    | true =>
      have h2 : c = 38 ∨ c = 62 := by
        unfold cE at hE
        simp only [Bool.or_eq_true, Bool.and_eq_true, beq_iff_eq] at hE
        rcases hE with h | h
        · exact .inl h
        · exact .inr h.1
      have hr := GE_cUs l (some c) (some 59) (fun _ => ⟨by simp, by decide, by decide⟩)
      rcases h2 with rfl | rfl
      · exact ⟨fun h => absurd h (by decide), fun h => absurd h (by decide), fun h => absurd h (by decide), fun h => absurd h (by decide), fun h => absurd h (by decide), hr⟩
      · exact ⟨fun h => absurd h (by decide), fun h => absurd h (by decide), fun h => absurd h (by decide), fun h => absurd h (by decide), hr⟩
    | false =>
      refine ⟨fun hc => h ?_, GE_cUs l (some c) (some c) id⟩
      unfold cE at hE
      subst hc
      simp only [Bool.or_eq_false_iff, Bool.and_eq_false_iff, beq_eq_false_iff_ne] at hE
      rcases hE.2 with h | h
      · exact absurd rfl h
      · exact ⟨h.1.1, h.1.2, h.2⟩
theorem comment_EC (l : List UInt8) : EC (unB (cUs none l)) := GE_EC (GE_cUs l none none id)
theorem cU_le (p : Option UInt8) (c : UInt8) : (cU p c).b.length ≤ 5 := by
  unfold cU
  split
  · exact (escB_le c).2
  · simp [Un.b]
theorem cUs_le : ∀ (p : Option UInt8) (l : List UInt8), (unB (cUs p l)).length ≤ 5 * l.length
  | _, [] => by simp [cUs, unB]
  | p, c :: l => by
    have h1 := cUs_le (some c) l
    have h2 := cU_le p c
    rw [cUs, unB_cons, List.length_append, List.length_cons]
    omega

end Go.Proofs.YtpkelgekannioaaGreatDoor

namespace Go.Proofs.YtpkelgekannioaaGreatDoor
open Go.RowKit Go.Shelf Go.BigFrame
set_option linter.unusedSimpArgs false
set_option linter.unusedVariables false

theorem cU_true {p : Option UInt8} {c : UInt8} (h : cE p c = true) : (cU p c).b = escB c := by unfold cU; rw [h]; rfl
theorem cU_false {p : Option UInt8} {c : UInt8} (h : cE p c = false) : (cU p c).b = [c] := by unfold cU; rw [h]; rfl
theorem take_succ {l : List UInt8} {k : Nat} {c : UInt8} (h : l[k]? = some c) : l.take (k + 1) = l.take k ++ [c] := by
  rw [List.take_add_one, h]
  rfl
/-- The next byte, its reference or itself. -/
theorem cUs_next {l : List UInt8} {k : Nat} {c : UInt8} (h : l[k]? = some c) : unB (cUs none (l.take (k + 1))) = unB (cUs none (l.take k)) ++ (cU (lastP none (l.take k)) c).b := by
  rw [take_succ h, cUs_append, unB_append]
  simp [cUs, unB]

theorem cm_round {s : ByteArray} {i k : Nat} {c : UInt8} {done : List UInt8} {bs : List Value} (a : Array UInt8) (ha : (escB c).toArray = a) (hik : i ≤ k) (hk : k < s.size) (he : unB (cUs none (s.data.toList.take k)) = done ++ (s.data.toList.take k).drop i) (hck : s.data.toList[k]? = some c) (hE : cE (lastP none (s.data.toList.take k)) c = true) (hl : done.length ≤ 5 * i) :
    unB (cUs none (s.data.toList.take (k + 1))) = (done ++ (s.extract i k).data.toList ++ a.toList) ++ (s.data.toList.take (k + 1)).drop (k + 1) ∧
    ((bs ++ Lib.byteCells done) ++ Lib.byteCells (s.extract i k).data.toList) ++ Lib.byteCells (⟨a⟩ : ByteArray).data.toList = bs ++ Lib.byteCells (done ++ (s.extract i k).data.toList ++ a.toList) ∧
    (done ++ (s.extract i k).data.toList ++ a.toList).length ≤ 5 * (k + 1) := by
  subst ha
  have e2 : s.data.toList.length = s.size := (Lib.size_eq _).symm
  refine ⟨?_, ?_, ?_⟩
  · have h0 : (s.data.toList.take (k + 1)).drop (k + 1) = [] := List.drop_of_length_le (by rw [List.length_take]; omega)
    have h2 : (s.extract i k).data.toList = (s.data.toList.take k).drop i := by
      simp [ByteArray.data_extract, Array.toList_extract, List.extract_eq_take_drop, List.drop_take]
    rw [cUs_next hck, he, cU_true hE, h0, List.append_nil, h2]
  · simp [Lib.byteCells_append, List.append_assoc]
  · have h5 := (escB_le c).2
    simp only [List.length_append, ← Lib.size_eq, ByteArray.size_extract]
    omega

set_option maxHeartbeats 8000000 in
set_option maxRecDepth 100000 in
theorem escComment_any (B b : Nat) (bs : List Value) (s : ByteArray) (w : World) (h : Lib.IsBuffer 77 5 B b bs w) (hBw : B ≤ w.heap.size) (h1 : ∀ v ∈ bs, v.oneCell' = true) (hs : s.size ≤ 1099511627776) (hlim : bs.length + 5 * s.size ≤ 70368744177664) :
    Calls Tryz.prog 51 #[.iface 81 (.pointer (some ⟨b, 0, none⟩)), .string s] w fun e w' => e = .returned .nilIface ∧ Lib.IsBuffer 77 5 B b (bs ++ Lib.byteCells (unB (cUs none s.data.toList))) w' ∧ Below B w w' := by
  have hm := fun n => meth_ws n ⟨b, 0, none⟩
  have hnl := fun n => nil_ws n ⟨b, 0, none⟩
  have e2 : s.data.toList.length = s.size := (Lib.size_eq _).symm
  by_cases hz : s.size = 0
  · have hzi : ((s.size : Int) == 0) = true := beq_iff_eq.2 (by omega)
    have hnil : s.data.toList = [] := List.eq_nil_of_length_eq_zero (by omega)
    have HN := Lib.hid hnil
    clear hz hnil
    go_enter Tryz.func51, Tryz.ntmps51
    go_wp2_with fail
    go_ret
    refine ⟨rfl, ?_, Below.refl _ _⟩
    rw [HN.out]
    simpa [Lib.byteCells, cUs, unB] using h
  · have hzi : ((s.size : Int) == 0) = false := beq_eq_false_iff_ne.2 (by omega)
    clear hz
    go_enter Tryz.func51, Tryz.ntmps51
    go_wp2_with fail
    go_loopg [5, 6, 7, 8] s.size (fun g s5 s6 s7 s8 wx => ∃ (i k : Nat) (done : List UInt8), k + g = s.size ∧ i ≤ k ∧ s5 = .int .i64 i ∧ s6 = .int .i64 k ∧ unB (cUs none (s.data.toList.take k)) = done ++ (s.data.toList.take k).drop i ∧
      Lib.IsBuffer 77 5 B b (bs ++ Lib.byteCells done) wx ∧ Below B w wx ∧ done.length ≤ 5 * i)
    case atStart => exact ⟨0, 0, [], by omega, Nat.le_refl _, rfl, rfl, rfl, by simpa [Lib.byteCells] using h, Below.refl _ _, by simp⟩
    case round =>
      obtain ⟨i, k, done, hg, hik0, rfl, rfl, he, hB, hbw, hl⟩ := hrel
      by_cases hlt : k < s.size
      · have hki : (k : Int) < (s.size : Int) := by omega
        have hwk := wrap_succ k (by omega)
        obtain ⟨c, hc⟩ : ∃ c, s[k]'hlt = c := ⟨_, rfl⟩
        have hck : s.data.toList[k]? = some c := by rw [Lib.data_getElem? s k hlt, hc]
        have HE := Lib.hid (And.intro he hck)
        clear he hck
        by_cases h38 : c = 38
        · subst h38
          have e38 : (((38 : UInt8).toNat : Int) == 38) = true := rfl
          have hce : cE (lastP none (s.data.toList.take k)) 38 = true := rfl
          have HR := Lib.hid (cm_round #[38, 97, 109, 112, 59] (by decide) hik0 hlt HE.out.1 HE.out.2 hce hl (bs := bs))
          have hws := fun W (hb : Lib.IsBuffer 77 5 B b ((bs ++ Lib.byteCells done) ++ Lib.byteCells (s.extract i k).data.toList) W) (hW : B ≤ W.heap.size) => Tryz.Buffer_WriteString_kept B b _ ⟨#[38, 97, 109, 112, 59]⟩ W hb hW (one_app (one_app h1 (Lib.byteCells_one done)) (Lib.byteCells_one (s.extract i k).data.toList)) (by
            simp only [List.length_append, Lib.byteCells_length, ← Lib.size_eq, ByteArray.size_extract]
            have : (⟨#[38, 97, 109, 112, 59]⟩ : ByteArray).size ≤ 5 := by decide
            omega)
          clear hce
          by_cases hik : i < k
          · have hiki : (i : Int) < (k : Int) := by omega
            clear hik
            go_upto_region 17 with fail
            go_cut [9, 10] (fun s9 s10 wx => s10 = .nilIface ∧ Lib.IsBuffer 77 5 B b ((bs ++ Lib.byteCells done) ++ Lib.byteCells (s.extract i k).data.toList) wx ∧ Below B w wx)
            case first =>
              have hWS := Tryz.Buffer_WriteString_kept B b (bs ++ Lib.byteCells done) (s.extract i k) wr.drew hB.drew (by have := hbw.size; simp; omega) (one_app h1 (Lib.byteCells_one _)) (by rw [List.length_append, Lib.byteCells_length, ByteArray.size_extract]; omega)
              clear hws
              go_region_with ((go_at_call 50; refine hWS.mono ?_; rintro e w2 ⟨rfl, hB2, hb2, hk2⟩))
              all_goals
                go_wp2_with fail
                go_meet
                exact ⟨rfl, hB2, hbw.drew.trans hb2⟩
            case rest =>
              obtain ⟨rfl, hB2, hb2⟩ := hcut
              have hws2 := hws wc hB2 (by have := hb2.size; omega)
              have HB2 := Lib.hid hb2
              clear hws hB2 hb2 hB hbw
              go_wp2_with fail
              refine hws2.mono ?_
              rintro e w3 ⟨rfl, hB3, hb3, hk3⟩
              have HB3 := Lib.hid (And.intro hB3 (HB2.out.trans hb3))
              clear hws2 hB3 hb3 hk3
              go_wp2_with fail
              go_roundg (s.size - (k + 1))
              case measure => omega
              case rel => exact ⟨k + 1, k + 1, done ++ (s.extract i k).data.toList ++ (#[38, 97, 109, 112, 59] : Array UInt8).toList, by omega, Nat.le_refl _, rfl, rfl, HR.out.1, by rw [← HR.out.2.1]; exact HB3.out.1, HB3.out.2, HR.out.2.2⟩
          · obtain rfl : i = k := by omega
            have hBe : Lib.IsBuffer 77 5 B b ((bs ++ Lib.byteCells done) ++ Lib.byteCells (s.extract i i).data.toList) wr := by
              have : (s.extract i i).data.toList = [] := List.eq_nil_of_length_eq_zero (by rw [← Lib.size_eq, ByteArray.size_extract]; omega)
              rw [this]
              simpa [Lib.byteCells] using hB
            have hws2 := hws wr hBe (by have := hbw.size; omega)
            have HB2 := Lib.hid hbw
            clear hws hB hbw hik hBe
            go_wp2_with fail
            refine hws2.mono ?_
            rintro e w3 ⟨rfl, hB3, hb3, hk3⟩
            have HB3 := Lib.hid (And.intro hB3 (HB2.out.trans hb3))
            clear hws2 hB3 hb3 hk3
            go_wp2_with fail
            go_roundg (s.size - (i + 1))
            case measure => omega
            case rel => exact ⟨i + 1, i + 1, done ++ (s.extract i i).data.toList ++ (#[38, 97, 109, 112, 59] : Array UInt8).toList, by omega, Nat.le_refl _, rfl, rfl, HR.out.1, by rw [← HR.out.2.1]; exact HB3.out.1, HB3.out.2, HR.out.2.2⟩
        · by_cases h62 : c = 62
          · subst h62
            have e38 : (((62 : UInt8).toNat : Int) == 38) = false := rfl
            have e62 : (((62 : UInt8).toNat : Int) == 62) = true := rfl
            by_cases hk0 : k = 0
            · have hkz : decide ((k : Int) > 0) = false := decide_eq_false (by omega)
              have hce : cE (lastP none (s.data.toList.take k)) 62 = true := by subst hk0; rfl
              have HR := Lib.hid (cm_round #[38, 103, 116, 59] (by decide) hik0 hlt HE.out.1 HE.out.2 hce hl (bs := bs))
              subst hk0
              obtain rfl : i = 0 := by omega
              have hBe : Lib.IsBuffer 77 5 B b ((bs ++ Lib.byteCells done) ++ Lib.byteCells (s.extract 0 0).data.toList) wr := by
                have : (s.extract 0 0).data.toList = [] := List.eq_nil_of_length_eq_zero (by rw [← Lib.size_eq, ByteArray.size_extract]; omega)
                rw [this]
                simpa [Lib.byteCells] using hB
              have hws2 := Tryz.Buffer_WriteString_kept B b _ ⟨#[38, 103, 116, 59]⟩ wr hBe (by have := hbw.size; omega) (one_app (one_app h1 (Lib.byteCells_one done)) (Lib.byteCells_one (s.extract 0 0).data.toList)) (by
                simp only [List.length_append, Lib.byteCells_length, ← Lib.size_eq, ByteArray.size_extract]
                have : (⟨#[38, 103, 116, 59]⟩ : ByteArray).size ≤ 5 := by decide
                omega)
              have HB2 := Lib.hid hbw
              clear hce hkz hB hbw hBe
              go_wp2_with fail
              refine hws2.mono ?_
              rintro e w3 ⟨rfl, hB3, hb3, hk3⟩
              have HB3 := Lib.hid (And.intro hB3 (HB2.out.trans hb3))
              clear hws2 hB3 hb3 hk3
              go_wp2_with fail
              go_roundg (s.size - 1)
              case measure => omega
              case rel => exact ⟨1, 1, done ++ (s.extract 0 0).data.toList ++ (#[38, 103, 116, 59] : Array UInt8).toList, by omega, Nat.le_refl _, rfl, rfl, HR.out.1, by rw [← HR.out.2.1]; exact HB3.out.1, HB3.out.2, HR.out.2.2⟩
            · have hkz : decide ((k : Int) > 0) = true := decide_eq_true (by omega)
              have hk1 : k - 1 < s.size := by omega
              have hlp : lastP none (s.data.toList.take k) = some (s[k - 1]'hk1) := by
                have := lastP_take none s.data.toList (k - 1) _ (Lib.data_getElem? s (k - 1) hk1)
                rw [show k - 1 + 1 = k from by omega] at this
                exact this
              have HKM := Lib.hid (And.intro hk1 hlp)
              clear hlp hk0
              by_cases hq33 : s[k - 1]'hk1 = 33
              · have d33 : (((s[k - 1]'hk1).toNat : Int) != 33) = false := by rw [hq33]; rfl
                have hce : cE (lastP none (s.data.toList.take k)) 62 = true := by rw [HKM.out.2, hq33]; rfl
                clear hq33
                have HR := Lib.hid (cm_round #[38, 103, 116, 59] (by decide) hik0 hlt HE.out.1 HE.out.2 hce hl (bs := bs))
                have hws := fun W (hb : Lib.IsBuffer 77 5 B b ((bs ++ Lib.byteCells done) ++ Lib.byteCells (s.extract i k).data.toList) W) (hW : B ≤ W.heap.size) => Tryz.Buffer_WriteString_kept B b _ ⟨#[38, 103, 116, 59]⟩ W hb hW (one_app (one_app h1 (Lib.byteCells_one done)) (Lib.byteCells_one (s.extract i k).data.toList)) (by
                  simp only [List.length_append, Lib.byteCells_length, ← Lib.size_eq, ByteArray.size_extract]
                  have : (⟨#[38, 103, 116, 59]⟩ : ByteArray).size ≤ 5 := by decide
                  omega)
                clear hce
                by_cases hik : i < k
                · have hiki : (i : Int) < (k : Int) := by omega
                  clear hik
                  go_upto_region 17 with fail
                  go_cut [9, 10] (fun s9 s10 wx => s10 = .nilIface ∧ Lib.IsBuffer 77 5 B b ((bs ++ Lib.byteCells done) ++ Lib.byteCells (s.extract i k).data.toList) wx ∧ Below B w wx)
                  case first =>
                    have hWS := Tryz.Buffer_WriteString_kept B b (bs ++ Lib.byteCells done) (s.extract i k) wr.drew hB.drew (by have := hbw.size; simp; omega) (one_app h1 (Lib.byteCells_one _)) (by rw [List.length_append, Lib.byteCells_length, ByteArray.size_extract]; omega)
                    clear hws
                    go_region_with ((go_at_call 50; refine hWS.mono ?_; rintro e w2 ⟨rfl, hB2, hb2, hk2⟩))
                    all_goals
                      go_wp2_with fail
                      go_meet
                      exact ⟨rfl, hB2, hbw.drew.trans hb2⟩
                  case rest =>
                    obtain ⟨rfl, hB2, hb2⟩ := hcut
                    have hws2 := hws wc hB2 (by have := hb2.size; omega)
                    have HB2 := Lib.hid hb2
                    clear hws hB2 hb2 hB hbw
                    go_wp2_with fail
                    refine hws2.mono ?_
                    rintro e w3 ⟨rfl, hB3, hb3, hk3⟩
                    have HB3 := Lib.hid (And.intro hB3 (HB2.out.trans hb3))
                    clear hws2 hB3 hb3 hk3
                    go_wp2_with fail
                    go_roundg (s.size - (k + 1))
                    case measure => omega
                    case rel => exact ⟨k + 1, k + 1, done ++ (s.extract i k).data.toList ++ (#[38, 103, 116, 59] : Array UInt8).toList, by omega, Nat.le_refl _, rfl, rfl, HR.out.1, by rw [← HR.out.2.1]; exact HB3.out.1, HB3.out.2, HR.out.2.2⟩
                · obtain rfl : i = k := by omega
                  have hBe : Lib.IsBuffer 77 5 B b ((bs ++ Lib.byteCells done) ++ Lib.byteCells (s.extract i i).data.toList) wr := by
                    have : (s.extract i i).data.toList = [] := List.eq_nil_of_length_eq_zero (by rw [← Lib.size_eq, ByteArray.size_extract]; omega)
                    rw [this]
                    simpa [Lib.byteCells] using hB
                  have hws2 := hws wr hBe (by have := hbw.size; omega)
                  have HB2 := Lib.hid hbw
                  clear hws hB hbw hik hBe
                  go_wp2_with fail
                  all_goals
                    refine hws2.mono ?_
                    rintro e w3 ⟨rfl, hB3, hb3, hk3⟩
                    have HB3 := Lib.hid (And.intro hB3 (HB2.out.trans hb3))
                    clear hws2 hB3 hb3 hk3
                    go_wp2_with fail
                    go_roundg (s.size - (i + 1))
                    case measure => omega
                    case rel => exact ⟨i + 1, i + 1, done ++ (s.extract i i).data.toList ++ (#[38, 103, 116, 59] : Array UInt8).toList, by omega, Nat.le_refl _, rfl, rfl, HR.out.1, by rw [← HR.out.2.1]; exact HB3.out.1, HB3.out.2, HR.out.2.2⟩
              · have d33 : (((s[k - 1]'hk1).toNat : Int) != 33) = true := by simp only [bne, byte_ne hq33 (k := 33) rfl]; rfl
                by_cases hq45 : s[k - 1]'hk1 = 45
                · have d45 : (((s[k - 1]'hk1).toNat : Int) != 45) = false := by rw [hq45]; rfl
                  have hce : cE (lastP none (s.data.toList.take k)) 62 = true := by rw [HKM.out.2, hq45]; rfl
                  clear hq33 hq45
                  have HR := Lib.hid (cm_round #[38, 103, 116, 59] (by decide) hik0 hlt HE.out.1 HE.out.2 hce hl (bs := bs))
                  have hws := fun W (hb : Lib.IsBuffer 77 5 B b ((bs ++ Lib.byteCells done) ++ Lib.byteCells (s.extract i k).data.toList) W) (hW : B ≤ W.heap.size) => Tryz.Buffer_WriteString_kept B b _ ⟨#[38, 103, 116, 59]⟩ W hb hW (one_app (one_app h1 (Lib.byteCells_one done)) (Lib.byteCells_one (s.extract i k).data.toList)) (by
                    simp only [List.length_append, Lib.byteCells_length, ← Lib.size_eq, ByteArray.size_extract]
                    have : (⟨#[38, 103, 116, 59]⟩ : ByteArray).size ≤ 5 := by decide
                    omega)
                  clear hce
                  by_cases hik : i < k
                  · have hiki : (i : Int) < (k : Int) := by omega
                    clear hik
                    go_upto_region 17 with fail
                    go_cut [9, 10] (fun s9 s10 wx => s10 = .nilIface ∧ Lib.IsBuffer 77 5 B b ((bs ++ Lib.byteCells done) ++ Lib.byteCells (s.extract i k).data.toList) wx ∧ Below B w wx)
                    case first =>
                      have hWS := Tryz.Buffer_WriteString_kept B b (bs ++ Lib.byteCells done) (s.extract i k) wr.drew hB.drew (by have := hbw.size; simp; omega) (one_app h1 (Lib.byteCells_one _)) (by rw [List.length_append, Lib.byteCells_length, ByteArray.size_extract]; omega)
                      clear hws
                      go_region_with ((go_at_call 50; refine hWS.mono ?_; rintro e w2 ⟨rfl, hB2, hb2, hk2⟩))
                      all_goals
                        go_wp2_with fail
                        go_meet
                        exact ⟨rfl, hB2, hbw.drew.trans hb2⟩
                    case rest =>
                      obtain ⟨rfl, hB2, hb2⟩ := hcut
                      have hws2 := hws wc hB2 (by have := hb2.size; omega)
                      have HB2 := Lib.hid hb2
                      clear hws hB2 hb2 hB hbw
                      go_wp2_with fail
                      refine hws2.mono ?_
                      rintro e w3 ⟨rfl, hB3, hb3, hk3⟩
                      have HB3 := Lib.hid (And.intro hB3 (HB2.out.trans hb3))
                      clear hws2 hB3 hb3 hk3
                      go_wp2_with fail
                      go_roundg (s.size - (k + 1))
                      case measure => omega
                      case rel => exact ⟨k + 1, k + 1, done ++ (s.extract i k).data.toList ++ (#[38, 103, 116, 59] : Array UInt8).toList, by omega, Nat.le_refl _, rfl, rfl, HR.out.1, by rw [← HR.out.2.1]; exact HB3.out.1, HB3.out.2, HR.out.2.2⟩
                  · obtain rfl : i = k := by omega
                    have hBe : Lib.IsBuffer 77 5 B b ((bs ++ Lib.byteCells done) ++ Lib.byteCells (s.extract i i).data.toList) wr := by
                      have : (s.extract i i).data.toList = [] := List.eq_nil_of_length_eq_zero (by rw [← Lib.size_eq, ByteArray.size_extract]; omega)
                      rw [this]
                      simpa [Lib.byteCells] using hB
                    have hws2 := hws wr hBe (by have := hbw.size; omega)
                    have HB2 := Lib.hid hbw
                    clear hws hB hbw hik hBe
                    go_wp2_with fail
                    all_goals
                      refine hws2.mono ?_
                      rintro e w3 ⟨rfl, hB3, hb3, hk3⟩
                      have HB3 := Lib.hid (And.intro hB3 (HB2.out.trans hb3))
                      clear hws2 hB3 hb3 hk3
                      go_wp2_with fail
                      go_roundg (s.size - (i + 1))
                      case measure => omega
                      case rel => exact ⟨i + 1, i + 1, done ++ (s.extract i i).data.toList ++ (#[38, 103, 116, 59] : Array UInt8).toList, by omega, Nat.le_refl _, rfl, rfl, HR.out.1, by rw [← HR.out.2.1]; exact HB3.out.1, HB3.out.2, HR.out.2.2⟩
                · have d45 : (((s[k - 1]'hk1).toNat : Int) != 45) = true := by simp only [bne, byte_ne hq45 (k := 45) rfl]; rfl
                  have HC := Lib.hid (And.intro hq33 hq45)
                  clear hq33 hq45
                  go_wp2_with fail
                  go_roundg (s.size - (k + 1))
                  case measure => omega
                  case rel =>
                    refine ⟨i, k + 1, done, by omega, by omega, rfl, rfl, ?_, hB, hbw, hl⟩
                    have hcf : cE (lastP none (s.data.toList.take k)) 62 = false := by
                      rw [HKM.out.2]
                      unfold cE
                      simp [HC.out.1, HC.out.2]
                    rw [cUs_next HE.out.2, HE.out.1, cU_false hcf, take_succ HE.out.2, List.append_assoc, List.drop_append_of_le_length (by rw [List.length_take]; omega)]
                  all_goals (exfalso; have hq := of_decide_eq_true hkz; omega)
          · have e38 := byte_ne h38 (k := 38) rfl
            have e62 := byte_ne h62 (k := 62) rfl
            have HC := Lib.hid (And.intro h38 h62)
            clear h38 h62
            go_wp2_with fail
            go_roundg (s.size - (k + 1))
            case measure => omega
            case rel =>
              refine ⟨i, k + 1, done, by omega, by omega, rfl, rfl, ?_, hB, hbw, hl⟩
              have hcf : cE (lastP none (s.data.toList.take k)) c = false := by
                unfold cE
                simp [HC.out.1, HC.out.2]
              rw [cUs_next HE.out.2, HE.out.1, cU_false hcf, take_succ HE.out.2, List.append_assoc, List.drop_append_of_le_length (by rw [List.length_take]; omega)]
      · obtain rfl : k = s.size := by omega
        have hend : unB (cUs none s.data.toList) = done ++ (s.extract i s.size).data.toList := by
          rw [List.take_of_length_le (by omega)] at he
          rw [he, Lib.extract_to_end]
        have HE := Lib.hid hend
        clear he hend
        by_cases hik : i < s.size
        · have hiki : (i : Int) < (s.size : Int) := by omega
          clear hik
          go_upto_region 25 with fail
          go_cut [13, 14] (fun s13 s14 wx => s14 = .nilIface ∧ Lib.IsBuffer 77 5 B b ((bs ++ Lib.byteCells done) ++ Lib.byteCells (s.extract i s.size).data.toList) wx ∧ Below B w wx)
          case first =>
            have hWS := Tryz.Buffer_WriteString_kept B b (bs ++ Lib.byteCells done) (s.extract i s.size) wr.drew hB.drew (by have := hbw.size; simp; omega) (one_app h1 (Lib.byteCells_one _)) (by rw [List.length_append, Lib.byteCells_length, ByteArray.size_extract]; omega)
            go_region_with ((go_at_call 50; refine hWS.mono ?_; rintro e w2 ⟨rfl, hB2, hb2, hk2⟩))
            all_goals
              go_wp2_with fail
              go_meet
              exact ⟨rfl, hB2, hbw.drew.trans hb2⟩
          case rest =>
            obtain ⟨rfl, hB2, hb2⟩ := hcut
            go_wp2_with fail
            go_ret
            refine ⟨rfl, ?_, hb2⟩
            rw [HE.out, Lib.byteCells_append, ← List.append_assoc]
            exact hB2
        · obtain rfl : i = s.size := by omega
          clear hik
          go_wp2_with fail
          go_ret
          refine ⟨rfl, ?_, hbw⟩
          have h0 : (s.extract s.size s.size).data.toList = [] := List.eq_nil_of_length_eq_zero (by rw [← Lib.size_eq, ByteArray.size_extract]; omega)
          rw [HE.out, h0, List.append_nil]
          exact hB

end Go.Proofs.YtpkelgekannioaaGreatDoor

namespace Go.Proofs.YtpkelgekannioaaGreatDoor
open Go.RowKit Go.Shelf Go.BigFrame
set_option linter.unusedSimpArgs false
set_option linter.unusedVariables false

def cmChars : List UInt8 := [38, 62]
def cmS : ByteArray := ⟨#[38, 62]⟩
theorem cmS_ascii : ∀ (j : Nat) b, cmS.data.toList[j]? = some b → b.toNat < 128 := by
  intro j b h
  have h1 : cmS.data.toList = [38, 62] := rfl
  rw [h1] at h
  rcases j with _ | _ | j
  · simp at h; subst h; decide
  · simp at h; subst h; decide
  · simp at h
theorem cUs_plain : ∀ (p : Option UInt8) (l : List UInt8), (∀ c ∈ l, c ≠ 38 ∧ c ≠ 62) → unB (cUs p l) = l
  | _, [], _ => rfl
  | p, c :: l, h => by
    have hc := h c (by simp)
    have hf : cE p c = false := by unfold cE; simp [hc.1, hc.2]
    rw [cUs, unB_cons, cU_false hf, cUs_plain (some c) l (fun x hx => h x (by simp [hx]))]
    rfl

theorem indexAny_plain : ∀ (l : List UInt8), (Lib.indexAny l cmChars = -1 ∧ ∀ c ∈ l, c ≠ 38 ∧ c ≠ 62) ∨ ∃ i : Nat, Lib.indexAny l cmChars = (i : Int) := fun l => by
  rcases indexAny_cases l cmChars with ⟨h1, h2⟩ | ⟨i, x, h1, _⟩
  · refine .inl ⟨h1, fun c hc => ?_⟩
    obtain ⟨j, hj⟩ := List.getElem?_of_mem hc
    have := h2 j c (List.getElem?_eq_some_iff.1 hj).1 hj
    simpa [cmChars] using this
  · exact .inr ⟨i, h1⟩

theorem indexAny_cm (s : ByteArray) (w : World) (hs : s.size ≤ 140737488355328) :
    Calls Tryz.prog 44 #[.string s, .string ⟨#[38, 62]⟩] w fun e w' => e = .returned (.int .i64 (Lib.indexAny s.data.toList cmChars)) ∧ Below w.heap.size w w' :=
  indexAny_bytes s cmS w (by decide) (by decide) hs cmS_ascii

/-- What a comment is written to. -/
def cmStr (s : ByteArray) : ByteArray := bStr (unB (cUs none s.data.toList))

set_option maxHeartbeats 2000000 in
set_option maxRecDepth 100000 in
theorem escapeCommentString_any (s : ByteArray) (w : World) (hs : s.size ≤ 1099511627776) :
    Calls Tryz.prog 34 #[.string s] w fun e w' => e = .returned (.string (cmStr s)) ∧ Below w.heap.size w w' := by
  rcases indexAny_plain s.data.toList with ⟨hi, hno⟩ | ⟨i, hi⟩
  · have hst : cmStr s = s := str_ext (by unfold cmStr; rw [cUs_plain none _ hno]; rfl)
    have HS := Lib.hid hst
    clear hno hst
    go_enter Tryz.func34, Tryz.ntmps34
    go_wp2_with (first | (go_at_call 44; go_must (refine (indexAny_cm s _ (by omega)).mono ?_; rintro e w1 ⟨rfl, hb1⟩; rw [hi])))
    go_ret
    exact ⟨by rw [HS.out]; rfl, hb1⟩
  · go_enter Tryz.func34, Tryz.ntmps34
    go_wp2_with (first | (go_at_call 44; go_must (refine (indexAny_cm s _ (by omega)).mono ?_; rintro e w1 ⟨rfl, hb1⟩; rw [hi])))
    have hf := Lib.fresh_isBuffer 77 5 w1
    refine (escComment_any w1.heap.size w1.heap.size [] s _ hf (by simp) (by simp) hs (by simp; omega)).mono ?_
    rintro e w2 ⟨rfl, hB, hb2⟩
    rw [List.nil_append] at hB
    go_wp2_with (first | (go_at_call 46; go_must (refine (Tryz.Buffer_String w1.heap.size w1.heap.size _ w2 hB).mono ?_; rintro e w3 ⟨rfl, n, rfl⟩)))
    go_ret
    refine ⟨rfl, ?_⟩
    exact (hb1.trans (((Below.refl _ w1).alloc (Nat.le_refl _) _ |>.trans hb2).mono hb1.size)).trans ⟨rfl, rfl, rfl, Nat.le_refl _, fun _ _ => rfl⟩

end Go.Proofs.YtpkelgekannioaaGreatDoor
