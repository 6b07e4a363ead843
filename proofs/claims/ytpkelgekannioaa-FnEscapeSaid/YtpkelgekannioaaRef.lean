/- What the reference's Reference reads at the beginning of a text that begins with one of the references by which the five characters are escaped. -/
import Derived.Test.YtpkelgekannioaaEval
import Derived.Test.YtpkelgekannioaaShelf
import Derived.WalkKit
import Derived.WalkSpells
import Derived.WalkLawsBesides
import Derived.Lib.Hide
import Derived.Lib.IndexBytes
import Derived.Deep.QuietTactic
import Derived.BigQuiet
import Derived.IntWalk
import Derived.Deep.LoopGhost
import Derived.Deep.DeepMust
import Derived.Deep.DeepFit
import Derived.Deep.DeepCutAuto
import Derived.BigCall
namespace Go.Proofs.Ytpkelgekannioaa
open Go.RowKit Go.Shelf

/-- A letter. -/
def isAl (c : UInt8) : Bool := decide (97 ≤ (c.toNat : Int)) && decide ((c.toNat : Int) ≤ 122) || decide (65 ≤ (c.toNat : Int)) && decide ((c.toNat : Int) ≤ 90)
/-- A letter or a digit. -/
def isAn (c : UInt8) : Bool := isAl c || decide (48 ≤ (c.toNat : Int)) && decide ((c.toNat : Int) ≤ 57)

theorem ret_bool {a b : Bool} (h : a = b) : Ending.returned (.bool a) = Ending.returned (.bool b) := by rw [h]
theorem ret_str {a b : ByteArray} (h : a = b) : Ending.returned (.string a) = Ending.returned (.string b) := by rw [h]

set_option maxHeartbeats 1000000 in
set_option maxRecDepth 100000 in
theorem isAlpha_any (c : UInt8) (w : World) : Calls Try.prog 22 #[.int .u8 c.toNat] w fun e w' => e = .returned (.bool (isAl c)) ∧ w' = w := by
  go_enter Try.func22, Try.ntmps22
  go_wp2
  all_goals
    go_ret
    refine ⟨ret_bool ?_, rfl⟩
    unfold isAl
    rw [Bool.eq_iff_iff]
    simp
    try omega

set_option maxHeartbeats 1000000 in
set_option maxRecDepth 100000 in
theorem isAlnum_any (c : UInt8) (w : World) : Calls Try.prog 15 #[.int .u8 c.toNat] w fun e w' => e = .returned (.bool (isAn c)) ∧ w' = w := by
  have ha : isAn c = (isAl c || decide (48 ≤ (c.toNat : Int)) && decide ((c.toNat : Int) ≤ 57)) := rfl
  have HA := Lib.hid ha
  clear ha
  cases hb : isAl c
  all_goals
    rw [hb] at HA
    go_enter Try.func15, Try.ntmps15
    go_wp2_with (go_at_call 22; go_must (refine (isAlpha_any c _).mono ?_; rintro e w' ⟨rfl, rfl⟩; rw [hb]))
    all_goals
      go_ret
      refine ⟨ret_bool ?_, rfl⟩
      rw [HA.out]
      rw [Bool.eq_iff_iff]
      simp
      try omega

/-- How many letters and digits a text begins with. -/
def wl : List UInt8 → Nat
  | [] => 0
  | c :: l => if isAn c then wl l + 1 else 0

theorem wl_le : ∀ l : List UInt8, wl l ≤ l.length
  | [] => Nat.le_refl _
  | c :: l => by
    have := wl_le l
    unfold wl
    split <;> simp
    omega

theorem wl_drop {l : List UInt8} {n : Nat} {c : UInt8} (h : l[n]? = some c) : wl (l.drop n) = if isAn c then wl (l.drop (n + 1)) + 1 else 0 := by
  obtain ⟨hn, hc⟩ := List.getElem?_eq_some_iff.1 h
  rw [List.drop_eq_getElem_cons hn, hc, wl]

set_option maxHeartbeats 1000000 in
set_option maxRecDepth 100000 in
theorem word_any (s : ByteArray) (w : World) (hs : s.size ≤ 140737488355328) :
    Calls Try.prog 13 #[.string s] w fun e w' => e = .returned (.string (s.extract 0 (wl s.data.toList))) ∧ w' = w := by
  go_enter Try.func13, Try.ntmps13
  go_wp2
  go_loopg [3] (s.size + 1) (fun g s3 wx => ∃ n : Nat, n + g = s.size + 1 ∧ n ≤ s.size ∧ s3 = .int .i64 n ∧ n + wl (s.data.toList.drop n) = wl s.data.toList ∧ wx = w)
  case atStart => exact ⟨0, by omega, by omega, rfl, by simp, rfl⟩
  case round =>
    obtain ⟨n, hg, hn, rfl, hw, rfl⟩ := hrel
    have HW := Lib.hid hw
    clear hw
    by_cases hlt : n < s.size
    · obtain ⟨c, hc⟩ : ∃ c : UInt8, s[n]'hlt = c := ⟨_, rfl⟩
      have HC := Lib.hid (wl_drop (show s.data.toList[n]? = some c by rw [← hc]; exact Lib.data_getElem? s n hlt))
      cases hb : isAn c
      · rw [hb] at HC
        go_wp2_with (go_at_call 15; go_must (refine (isAlnum_any c _).mono ?_; rintro e w' ⟨rfl, rfl⟩; rw [hb]))
        go_ret
        exact ⟨ret_str (by rw [← HW.out, HC.out]; simp), rfl⟩
      · rw [hb] at HC
        go_wp2_with (go_at_call 15; go_must (refine (isAlnum_any c _).mono ?_; rintro e w' ⟨rfl, rfl⟩; rw [hb]))
        go_roundg (s.size - n)
        case measure => omega
        case rel => exact ⟨n + 1, by omega, by omega, by go_num, by rw [← HW.out, HC.out]; simp; omega, rfl⟩
    · obtain rfl : n = s.size := by omega
      go_wp2
      go_ret
      exact ⟨ret_str (by rw [← HW.out, List.drop_of_length_le (by rw [← Lib.size_eq]; exact Nat.le_refl _)]; simp [wl]), rfl⟩

theorem str_same {a b : ByteArray} (h : a.toList = b.toList) : a = b := by
  rw [Lib.toList_data, Lib.toList_data] at h
  obtain ⟨⟨a⟩⟩ := a
  obtain ⟨⟨b⟩⟩ := b
  simp at h
  rw [h]

theorem entCells_at : ∀ {es : List Ent} {k : Nat} {e : Ent}, es[k]? = some e → (entCells es)[k * 3]? = some (.string e.1) ∧ (entCells es)[k * 3 + 1]? = some (.string e.2.1) ∧ (entCells es)[k * 3 + 2]? = some (.bool e.2.2)
  | [], k, e, h => by simp at h
  | x :: es, 0, e, h => by
    simp at h
    subst h
    simp [entCells]
  | x :: es, k + 1, e, h => by
    have ih := entCells_at (es := es) (k := k) (e := e) (by simpa using h)
    have hc : entCells (x :: es) = [.string x.1, .string x.2.1, .bool x.2.2] ++ entCells es := rfl
    have h3 : ∀ j, (entCells (x :: es))[(k + 1) * 3 + j]? = (entCells es)[k * 3 + j]? := fun j => by
      rw [hc, List.getElem?_append_right (by simp; omega)]
      congr 1
      simp
      omega
    exact ⟨(h3 0).trans ih.1, (h3 1).trans ih.2.1, (h3 2).trans ih.2.2⟩

theorem ents_small (k : Nat) (e : Ent) (h : ents[k]? = some e) : e.1.size ≤ 20 := by
  have : ∀ e ∈ ents, e.1.size ≤ 20 := by decide
  exact this e (List.mem_of_getElem? h)

/-- How far the walk through the named references has come: before the name that fits nothing is taken, behind it just that one. -/
def RefSt (k0 k : Nat) (m : Int) (tx : ByteArray) (n : Int) (best : ByteArray) : Prop := (k ≤ k0 ∧ n = 0 ∧ best = ⟨#[]⟩) ∨ (k0 < k ∧ n = m ∧ best = tx)

theorem RefSt.next {k0 k : Nat} {m n : Int} {tx best : ByteArray} (h : RefSt k0 k m tx n best) (hk : ¬ k = k0) : RefSt k0 (k + 1) m tx n best := by
  rcases h with ⟨h1, h2, h3⟩ | ⟨h1, h2, h3⟩
  · exact .inl ⟨by omega, h2, h3⟩
  · exact .inr ⟨by omega, h2, h3⟩

set_option maxHeartbeats 4000000 in
set_option maxRecDepth 100000 in
/-- At a text that begins with an ampersand, then the name u of the list, then a semicolon, where no other name of the list is a beginning of u: what u stands for. -/
theorem ref_named (s u tx : ByteArray) (lg : Bool) (k0 : Nat) (w : World) (hs : s.size ≤ 140737488355328) (hk0 : ents[k0]? = some (u, tx, lg))
    (hno : ∀ k e, ents[k]? = some e → k ≠ k0 → u.size < e.1.size ∨ (e.1.size ≤ u.size ∧ ¬ u.extract 0 e.1.size = e.1))
    (hu : wl (s.extract 1 s.size).data.toList = u.size) (hue : (s.extract 1 s.size).extract 0 u.size = u)
    (hp0 : 0 < s.size) (hp1 : 1 < s.size) (hpu : u.size + 1 < s.size) (hl0 : s[0]'hp0 = 38) (hl1 : ((s[1]'hp1).toNat : Int) ≠ 35) (hsc : s[u.size + 1]'hpu = 59) :
    Calls Try.prog 9 #[.string s, .bool false] w fun e w' => e = .returned (.tuple #[.string tx, .int .i64 (u.size + 2), .bool true]) ∧ Below w.heap.size w w' := by
  have hn1 : (((s[1]'hp1).toNat : Int) == 35) = false := beq_eq_false_iff_ne.2 hl1
  have HUE := Lib.hid hue
  have hsz : (s.extract 1 s.size).size ≤ 140737488355328 := by rw [ByteArray.size_extract]; omega
  have hw := word_any (s.extract 1 s.size)
  rw [hu, hue] at hw
  have HNO := Lib.hid hno
  have HK0 := Lib.hid hk0
  have HU := Lib.hid hu
  have HSC := Lib.hid hsc
  clear hue hl1 hno hk0 hu hsc
  have hss : 2 ≤ (s.size : Int) := by omega
  have hd2 : decide ((s.size : Int) < 2) = false := decide_eq_false (by omega)
  go_enter Try.func9, Try.ntmps9
  go_wp2_with (first
    | (go_at_call 13; go_must (refine (hw _ hsz).mono ?_; rintro e w' ⟨rfl, hww⟩; obtain rfl := hww.symm))
    | (go_at_call 14; go_must (refine (ents_any _).mono ?_; rintro e w' ⟨rfl, rfl⟩)))
  clear hw hn1
  obtain ⟨w1, hw1⟩ : ∃ w1, w.alloc (.cells (entCells ents).toArray 34) = w1 := ⟨_, rfl⟩
  have hrow : w1.heap[w.heap.size]? = some (.cells (entCells ents).toArray 34 (0, 0)) := by rw [← hw1]; exact (MapKept.heap_alloc w _).1
  have hbw1 : Below w.heap.size w w1 := by rw [← hw1]; exact (Below.refl _ _).alloc (Nat.le_refl _) _
  rw [hw1]
  clear hw1
  go_loopg [5, 7, 34] 54 (fun g s5 s7 s34 wx => ∃ (k : Nat) (n : Int) (best : ByteArray), k + g = 54 ∧ s34 = .int .i64 k ∧ s5 = .int .i64 n ∧ s7 = .string best ∧ RefSt k0 k (u.size + 2) tx n best ∧ Below w1.heap.size w1 wx)
  case atStart => exact ⟨0, 0, ⟨#[]⟩, rfl, rfl, rfl, rfl, .inl ⟨Nat.zero_le _, rfl, rfl⟩, Below.refl _ _⟩
  case round =>
    obtain ⟨k, n, best, hg, rfl, rfl, rfl, hst, hbw⟩ := hrel
    have HST := Lib.hid hst
    clear hst
    by_cases hk : k < 54
    · obtain ⟨⟨nm, tx', lg'⟩, he⟩ : ∃ e, ents[k]? = some e := ⟨_, List.getElem?_eq_getElem (by show k < 54; exact hk)⟩
      have hc := entCells_at he
      have HE := Lib.hid he
      clear he
      have hwsz : w.heap.size < w1.heap.size := (Array.getElem?_eq_some_iff.1 hrow).1
      have hcell : ∀ j v, (entCells ents)[k * 3 + j]? = some v → wr.cell? ⟨w.heap.size, k * 3 + j, none⟩ = some v := fun j v hj => by
        rw [hbw.cell (p := ⟨w.heap.size, k * 3 + j, none⟩) hwsz]
        simp [World.cell?, hrow, hj]
      have c0 : wr.cell? ⟨w.heap.size, k * 3, none⟩ = some (.string nm) := hcell 0 _ hc.1
      have c1 : wr.cell? ⟨w.heap.size, k * 3 + 1, none⟩ = some (.string tx') := hcell 1 _ hc.2.1
      have c2 : wr.cell? ⟨w.heap.size, k * 3 + 2, none⟩ = some (.bool lg') := hcell 2 _ hc.2.2
      clear hcell hc
      have hnm : nm.size ≤ 20 := ents_small _ _ HE.out
      by_cases hkk : k = k0
      · obtain ⟨rfl, rfl, rfl⟩ : u = nm ∧ tx = tx' ∧ lg = lg' := by
          have h := HK0.out
          rw [← hkk, HE.out] at h
          simp only [Option.some.injEq, Prod.mk.injEq] at h
          exact ⟨h.1.symm, h.2.1.symm, h.2.2.symm⟩
        obtain ⟨rfl, rfl⟩ : n = 0 ∧ best = ⟨#[]⟩ := by
          rcases HST.out with ⟨_, h2, h3⟩ | ⟨h1, _, _⟩
          · exact ⟨h2, h3⟩
          · omega
        have HKK := Lib.hid hkk
        clear hkk
        have hlong : (u.size : Int) + 1 < (s.size : Int) := by omega
        have hat : ((s[u.size + 1]'hpu).toNat : Int) = 59 := by rw [HSC.out]; rfl
        have hat2 : (((s[u.size + 1]'hpu).toNat : Int) == 59) = true := beq_iff_eq.2 hat
        have HAT := Lib.hid hat
        clear hat
        have hnlt : decide (u.size < u.size) = false := decide_eq_false (by omega)
        have hext : (u.extract 0 u.size).toList = u.toList := by simp
        have heq2 : (u.toList == u.toList) = true := beq_self_eq_true _
        have hngt : decide (u.size < u.size) = false := decide_eq_false (by omega)
        have hnle : decide ((u.size : Int) + 1 + 1 ≤ 0) = false := decide_eq_false (by omega)
        go_wp2_with fail
        go_quiet (fail)
        go_wp2_with fail
        go_roundg (54 - (k + 1))
        case measure => omega
        case rel => exact ⟨k + 1, (u.size : Int) + 2, tx, by omega, by go_num, by first | rfl | go_num | (congr 1), rfl, .inr ⟨by have := HKK.out; omega, rfl, rfl⟩, (hbw.alloc hbw.size _).trans ⟨rfl, rfl, rfl, Nat.le_refl _, fun _ _ => rfl⟩⟩
      · have hnot : u.size < nm.size ∨ (nm.size ≤ u.size ∧ ¬ u.extract 0 nm.size = nm) := HNO.out k _ HE.out hkk
        have HK := Lib.hid hkk
        clear hkk
        go_upto_region 11 with fail
        go_cut [12] (fun s12 wx => ∃ sb : Bool, s12 = .bool sb ∧ wx = wr.alloc (.cells #[.string nm, .string tx', .bool lg'] 34))
        case first =>
          by_cases hlong : (nm.size : Int) + 1 < s.size
          · go_wp2_with fail
            all_goals go_meet
            all_goals exact ⟨_, rfl, rfl⟩
          · go_wp2_with fail
            all_goals go_meet
            all_goals exact ⟨_, rfl, rfl⟩
        case rest =>
          obtain ⟨sb, rfl, rfl⟩ := hcut
          rcases hnot with hlt | ⟨hle, hne⟩
          · go_wp2_with fail
            go_quiet (fail)
            go_wp2_with fail
            go_roundg (54 - (k + 1))
            case measure => omega
            case rel => exact ⟨k + 1, n, best, by omega, by go_num, rfl, rfl, HST.out.next HK.out, (hbw.alloc hbw.size _).trans ⟨rfl, rfl, rfl, Nat.le_refl _, fun _ _ => rfl⟩⟩
          · have hle' : (nm.size : Int) ≤ (u.size : Int) := by omega
            have hnlt : decide (u.size < nm.size) = false := decide_eq_false (by omega)
            have hneq : ((u.extract 0 nm.size).toList == nm.toList) = false := beq_eq_false_iff_ne.2 fun h => hne (str_same h)
            have HL := Lib.hid hle
            clear hne hle
            go_wp2_with fail
            go_quiet (fail)
            go_wp2_with fail
            go_roundg (54 - (k + 1))
            case measure => omega
            case rel => exact ⟨k + 1, n, best, by omega, by go_num, rfl, rfl, HST.out.next HK.out, (hbw.alloc hbw.size _).trans ⟨rfl, rfl, rfl, Nat.le_refl _, fun _ _ => rfl⟩⟩
    · obtain rfl : k = 54 := by omega
      have hk54 : k0 < 54 := (List.getElem?_eq_some_iff.1 HK0.out).1
      obtain ⟨rfl, rfl⟩ : n = (u.size : Int) + 2 ∧ best = tx := by
        rcases HST.out with ⟨h1, _, _⟩ | ⟨_, h2, h3⟩
        · omega
        · exact ⟨h2, h3⟩
      have hz : (((u.size : Int) + 2) == 0) = false := beq_eq_false_iff_ne.2 (by omega)
      go_wp2_with fail
      go_ret3
      exact ⟨rfl, hbw1.trans (hbw.mono hbw1.size)⟩

theorem digit_51 (w : World) : Calls Try.prog 19 #[.int .u8 51, .int .i64 10] w fun e w' => e = .returned (.tuple #[.int .i64 3, .bool true]) ∧ w' = w :=
  calls_of_evalFn Try.func19 rfl (by kernel_rfl) ⟨rfl, rfl⟩
theorem digit_57 (w : World) : Calls Try.prog 19 #[.int .u8 57, .int .i64 10] w fun e w' => e = .returned (.tuple #[.int .i64 9, .bool true]) ∧ w' = w :=
  calls_of_evalFn Try.func19 rfl (by kernel_rfl) ⟨rfl, rfl⟩
theorem digit_52 (w : World) : Calls Try.prog 19 #[.int .u8 52, .int .i64 10] w fun e w' => e = .returned (.tuple #[.int .i64 4, .bool true]) ∧ w' = w :=
  calls_of_evalFn Try.func19 rfl (by kernel_rfl) ⟨rfl, rfl⟩
theorem digit_59 (w : World) : Calls Try.prog 19 #[.int .u8 59, .int .i64 10] w fun e w' => e = .returned (.tuple #[.int .i64 99, .bool false]) ∧ w' = w :=
  calls_of_evalFn Try.func19 rfl (by kernel_rfl) ⟨rfl, rfl⟩

set_option maxHeartbeats 2000000 in
set_option maxRecDepth 100000 in
theorem numeric_39 (s : ByteArray) (w : World) (hs : s.size ≤ 140737488355328) (hp2 : 2 < s.size) (hp3 : 3 < s.size) (hp4 : 4 < s.size) (h2 : s[2]'hp2 = 51) (h3 : s[3]'hp3 = 57) (h4 : s[4]'hp4 = 59) :
    Calls Try.prog 12 #[.string s] w fun e w' => e = .returned (.tuple #[.string ⟨#[39]⟩, .int .i64 5, .bool true]) ∧ Below w.heap.size w w' := by
  have hd2 : decide ((2 : Int) < (s.size : Int)) = true := decide_eq_true (by omega)
  have hl2 : (2 : Int) < (s.size : Int) := by omega
  have hl3 : (3 : Int) < (s.size : Int) := by omega
  have hl4 : (4 : Int) < (s.size : Int) := by omega
  go_enter Try.func12, Try.ntmps12
  go_wp2
  go_loopg [6, 7] 2 (fun g s6 s7 wx => wx = w ∧ ((g = 2 ∧ s6 = .int .i64 2 ∧ s7 = .int .i64 0) ∨ (g = 1 ∧ s6 = .int .i64 3 ∧ s7 = .int .i64 3) ∨ (g = 0 ∧ s6 = .int .i64 4 ∧ s7 = .int .i64 39)))
  case atStart => exact ⟨rfl, .inl ⟨rfl, rfl, rfl⟩⟩
  case round =>
    obtain ⟨rfl, ⟨rfl, rfl, rfl⟩ | ⟨rfl, rfl, rfl⟩ | ⟨rfl, rfl, rfl⟩⟩ := hrel
    · go_wp2_with (go_at_call 19; go_must (refine (digit_51 _).mono ?_; rintro e w' ⟨rfl, hw⟩; obtain rfl := hw.symm))
      go_roundg 1
      case measure => omega
      case rel => exact ⟨rfl, .inr (.inl ⟨rfl, rfl, rfl⟩)⟩
    · go_wp2_with (go_at_call 19; go_must (refine (digit_57 _).mono ?_; rintro e w' ⟨rfl, hw⟩; obtain rfl := hw.symm))
      go_roundg 0
      case measure => omega
      case rel => exact ⟨rfl, .inr (.inr ⟨rfl, rfl, rfl⟩)⟩
    · go_wp2_with (first
        | (go_at_call 19; go_must (refine (digit_59 _).mono ?_; rintro e w' ⟨rfl, hw⟩; obtain rfl := hw.symm))
        | (go_at_call 21; go_must (refine (charOf_39 _).mono ?_; rintro e w2 ⟨rfl, rfl⟩))
        | (go_at_call 20; go_must (refine (coded_39 _).mono ?_; rintro e w3 ⟨rfl, hb3⟩)))
      go_ret3
      exact ⟨rfl, ((Below.refl _ _).alloc (Nat.le_refl _) _).trans (hb3.mono (by simp))⟩

set_option maxHeartbeats 2000000 in
set_option maxRecDepth 100000 in
theorem numeric_34 (s : ByteArray) (w : World) (hs : s.size ≤ 140737488355328) (hp2 : 2 < s.size) (hp3 : 3 < s.size) (hp4 : 4 < s.size) (h2 : s[2]'hp2 = 51) (h3 : s[3]'hp3 = 52) (h4 : s[4]'hp4 = 59) :
    Calls Try.prog 12 #[.string s] w fun e w' => e = .returned (.tuple #[.string ⟨#[34]⟩, .int .i64 5, .bool true]) ∧ Below w.heap.size w w' := by
  have hd2 : decide ((2 : Int) < (s.size : Int)) = true := decide_eq_true (by omega)
  have hl2 : (2 : Int) < (s.size : Int) := by omega
  have hl3 : (3 : Int) < (s.size : Int) := by omega
  have hl4 : (4 : Int) < (s.size : Int) := by omega
  go_enter Try.func12, Try.ntmps12
  go_wp2
  go_loopg [6, 7] 2 (fun g s6 s7 wx => wx = w ∧ ((g = 2 ∧ s6 = .int .i64 2 ∧ s7 = .int .i64 0) ∨ (g = 1 ∧ s6 = .int .i64 3 ∧ s7 = .int .i64 3) ∨ (g = 0 ∧ s6 = .int .i64 4 ∧ s7 = .int .i64 34)))
  case atStart => exact ⟨rfl, .inl ⟨rfl, rfl, rfl⟩⟩
  case round =>
    obtain ⟨rfl, ⟨rfl, rfl, rfl⟩ | ⟨rfl, rfl, rfl⟩ | ⟨rfl, rfl, rfl⟩⟩ := hrel
    · go_wp2_with (go_at_call 19; go_must (refine (digit_51 _).mono ?_; rintro e w' ⟨rfl, hw⟩; obtain rfl := hw.symm))
      go_roundg 1
      case measure => omega
      case rel => exact ⟨rfl, .inr (.inl ⟨rfl, rfl, rfl⟩)⟩
    · go_wp2_with (go_at_call 19; go_must (refine (digit_52 _).mono ?_; rintro e w' ⟨rfl, hw⟩; obtain rfl := hw.symm))
      go_roundg 0
      case measure => omega
      case rel => exact ⟨rfl, .inr (.inr ⟨rfl, rfl, rfl⟩)⟩
    · go_wp2_with (first
        | (go_at_call 19; go_must (refine (digit_59 _).mono ?_; rintro e w' ⟨rfl, hw⟩; obtain rfl := hw.symm))
        | (go_at_call 21; go_must (refine (charOf_34 _).mono ?_; rintro e w2 ⟨rfl, rfl⟩))
        | (go_at_call 20; go_must (refine (coded_34 _).mono ?_; rintro e w3 ⟨rfl, hb3⟩)))
      go_ret3
      exact ⟨rfl, ((Below.refl _ _).alloc (Nat.le_refl _) _).trans (hb3.mono (by simp))⟩

set_option maxHeartbeats 1000000 in
set_option maxRecDepth 100000 in
/-- At a text that begins with the numeric reference of character 39. -/
theorem ref_39 (s : ByteArray) (w : World) (hs : s.size ≤ 140737488355328) (hp0 : 0 < s.size) (hp1 : 1 < s.size) (hp2 : 2 < s.size) (hp3 : 3 < s.size) (hp4 : 4 < s.size) (h0 : s[0]'hp0 = 38) (h1 : s[1]'hp1 = 35) (h2 : s[2]'hp2 = 51) (h3 : s[3]'hp3 = 57) (h4 : s[4]'hp4 = 59) (at' : Bool) :
    Calls Try.prog 9 #[.string s, .bool at'] w fun e w' => e = .returned (.tuple #[.string ⟨#[39]⟩, .int .i64 5, .bool true]) ∧ Below w.heap.size w w' := by
  have hc := numeric_39 s w hs hp2 hp3 hp4 h2 h3 h4
  have hl1 : (1 : Int) < (s.size : Int) := by omega
  have hd2 : decide ((s.size : Int) < 2) = false := decide_eq_false (by omega)
  clear h2 h3 h4
  go_enter Try.func9, Try.ntmps9
  go_wp2_with (go_at_call 12; go_must (refine hc.mono ?_; rintro e w' ⟨rfl, hb⟩))
  go_ret3
  exact ⟨rfl, hb⟩

set_option maxHeartbeats 1000000 in
set_option maxRecDepth 100000 in
/-- At a text that begins with the numeric reference of character 34. -/
theorem ref_34 (s : ByteArray) (w : World) (hs : s.size ≤ 140737488355328) (hp0 : 0 < s.size) (hp1 : 1 < s.size) (hp2 : 2 < s.size) (hp3 : 3 < s.size) (hp4 : 4 < s.size) (h0 : s[0]'hp0 = 38) (h1 : s[1]'hp1 = 35) (h2 : s[2]'hp2 = 51) (h3 : s[3]'hp3 = 52) (h4 : s[4]'hp4 = 59) (at' : Bool) :
    Calls Try.prog 9 #[.string s, .bool at'] w fun e w' => e = .returned (.tuple #[.string ⟨#[34]⟩, .int .i64 5, .bool true]) ∧ Below w.heap.size w w' := by
  have hc := numeric_34 s w hs hp2 hp3 hp4 h2 h3 h4
  have hl1 : (1 : Int) < (s.size : Int) := by omega
  have hd2 : decide ((s.size : Int) < 2) = false := decide_eq_false (by omega)
  clear h2 h3 h4
  go_enter Try.func9, Try.ntmps9
  go_wp2_with (go_at_call 12; go_must (refine hc.mono ?_; rintro e w' ⟨rfl, hb⟩))
  go_ret3
  exact ⟨rfl, hb⟩

end Go.Proofs.Ytpkelgekannioaa
