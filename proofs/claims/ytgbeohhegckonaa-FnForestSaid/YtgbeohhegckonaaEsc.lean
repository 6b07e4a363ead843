/- html.escape into a bytes.Buffer, and html.EscapeString: each of the five characters (ampersand, apostrophe, less, greater, quotation mark) and the carriage return becomes its reference, all other bytes stay. Conditions: what is written fits into 2^47 bytes. -/
import Derived.Test.YtgbeohhegckonaaIdx
import Derived.Lib.BufferOld
import Derived.Deep.RegionHeld3
import Derived.Deep.DeepCutAuto
import Derived.Deep.RegionWith
import Derived.BigCall
namespace Go.Proofs.Ytgbeohhegckonaa
open Go.RowKit Go.Shelf Go.BigFrame

/-- The characters that are escaped. -/
def escChars : List UInt8 := [38, 39, 60, 62, 34, 13]
def escB (c : UInt8) : List UInt8 :=
  if c = 38 then [38, 97, 109, 112, 59] else if c = 39 then [38, 35, 51, 57, 59] else if c = 60 then [38, 108, 116, 59]
  else if c = 62 then [38, 103, 116, 59] else if c = 34 then [38, 35, 51, 52, 59] else if c = 13 then [38, 35, 49, 51, 59] else [c]
/-- A text escaped, byte by byte. -/
def esc (l : List UInt8) : List UInt8 := l.flatMap escB

theorem escB_same {c : UInt8} (h : escChars.contains c = false) : escB c = [c] := by
  have h' : ¬ c ∈ escChars := by simpa using h
  simp only [escChars, List.mem_cons, List.mem_nil_iff, or_false, not_or] at h'
  obtain ⟨h1, h2, h3, h4, h5, h6⟩ := h'
  simp [escB, h1, h2, h3, h4, h5, h6]

theorem escB_le (c : UInt8) : 1 ≤ (escB c).length ∧ (escB c).length ≤ 5 := by
  unfold escB
  repeat' split
  all_goals simp

theorem esc_cons (c : UInt8) (l : List UInt8) : esc (c :: l) = escB c ++ esc l := rfl
theorem esc_append (a b : List UInt8) : esc (a ++ b) = esc a ++ esc b := by simp [esc]

theorem esc_le : ∀ l : List UInt8, (esc l).length ≤ 5 * l.length
  | [] => Nat.le_refl _
  | c :: l => by
    have := esc_le l
    have := (escB_le c).2
    rw [esc_cons, List.length_append, List.length_cons]
    omega

theorem esc_noAny : ∀ {l : List UInt8}, Lib.NoAny l escChars l.length → esc l = l
  | [], _ => rfl
  | c :: l, h => by
    rw [esc_cons, escB_same (h 0 c (by simp) rfl), esc_noAny (l := l) (fun j b hj hb => h (j + 1) b (by simp; omega) (by simpa using hb))]
    rfl

theorem esc_hit {l : List UInt8} {i : Nat} {x : UInt8} (h : Lib.NoAny l escChars i) (hx : l[i]? = some x) : esc l = l.take i ++ (escB x ++ esc (l.drop (i + 1))) := by
  have hi : i < l.length := (List.getElem?_eq_some_iff.1 hx).1
  have hx' := (List.getElem?_eq_some_iff.1 hx).2
  have e : l = l.take i ++ x :: l.drop (i + 1) := by
    rw [← hx', List.getElem_cons_drop, List.take_append_drop]
  have ht : esc (l.take i) = l.take i := esc_noAny fun j b hj hb => by
    have hl : (l.take i).length ≤ i := List.length_take_le _ _
    rw [List.getElem?_take] at hb
    split at hb
    · exact h j b (by omega) hb
    · cases hb
  conv => lhs; rw [e]
  rw [esc_append, esc_cons, ht]

theorem indexAny_cases : ∀ (l chars : List UInt8), (Lib.indexAny l chars = -1 ∧ Lib.NoAny l chars l.length) ∨ ∃ i x, Lib.indexAny l chars = (i : Nat) ∧ Lib.NoAny l chars i ∧ l[i]? = some x ∧ chars.contains x = true
  | [], chars => .inl ⟨rfl, Lib.NoAny.zero _ _⟩
  | b :: l, chars => by
    cases hb : chars.contains b
    · rcases indexAny_cases l chars with ⟨h1, h2⟩ | ⟨i, x, h1, h2, h3, h4⟩
      · refine .inl ⟨?_, fun j c hj hc => ?_⟩
        · rw [Lib.indexAny, hb, h1]; rfl
        · match j, hc with
          | 0, hc => simp at hc; subst hc; exact hb
          | j + 1, hc => exact h2 j c (by simp at hj; omega) (by simpa using hc)
      · have hno : Lib.NoAny (b :: l) chars (i + 1) := fun j c hj hc => by
          match j, hc with
          | 0, hc => simp at hc; subst hc; exact hb
          | j + 1, hc => exact h2 j c (by omega) (by simpa using hc)
        exact .inr ⟨i + 1, x, Lib.indexAny_hit hno (by simpa using h3) h4, hno, by simpa using h3, h4⟩
    · exact .inr ⟨0, b, Lib.indexAny_hit (Lib.NoAny.zero _ _) rfl hb, Lib.NoAny.zero _ _, rfl, hb⟩

/-- The constant that the program looks for. -/
def escS : ByteArray := ⟨#[38, 39, 60, 62, 34, 13]⟩

theorem escS_ascii : ∀ (j : Nat) b, escS.data.toList[j]? = some b → b.toNat < 128 := by
  intro j b hj
  have := List.mem_of_getElem? hj
  simp only [escS, List.mem_cons, List.mem_nil_iff, or_false] at this
  rcases this with rfl | rfl | rfl | rfl | rfl | rfl <;> decide

/-- strings.IndexAny for the characters that are escaped. -/
theorem indexAny_esc (s : ByteArray) (w : World) (hs : s.size ≤ 140737488355328) :
    Calls Try.prog 40 #[.string s, .string ⟨#[38, 39, 60, 62, 34, 13]⟩] w fun e w' => e = .returned (.int .i64 (Lib.indexAny s.data.toList escChars)) ∧ Below w.heap.size w w' :=
  indexAny_bytes s escS w (by decide) (by decide) hs escS_ascii

theorem meth_ws (n : Nat) (a : Addr) (w : World) : (method (n + 1) 82 (.pointer (some a)) "WriteString").run Try.prog w = .ok (71, .pointer (some a)) w := by kernel_rfl
theorem nil_ws (n : Nat) (a : Addr) (w : World) : (nilAhead (n + 1) 82 (.pointer (some a)) "WriteString").run Try.prog w = .ok (some false) w := by kernel_rfl

theorem one_app {a c : List Value} (ha : ∀ v ∈ a, v.oneCell' = true) (hc : ∀ v ∈ c, v.oneCell' = true) : ∀ v ∈ a ++ c, v.oneCell' = true := fun v hv => by
  rcases List.mem_append.1 hv with h | h
  · exact ha v h
  · exact hc v h

theorem esc_round {t : ByteArray} {i : Nat} {x : UInt8} {S done : List UInt8} {bs : List Value} (a : Array UInt8) (ha : (escB x).toArray = a) (hno : Lib.NoAny t.data.toList escChars i) (hx : t.data.toList[i]? = some x) (he : S = done ++ esc t.data.toList) (hl : bs.length + done.length + 5 * t.size ≤ 140737488355328) :
    S = (done ++ (t.extract 0 i).data.toList ++ a.toList) ++ esc (t.extract (i + 1) t.size).data.toList ∧
    ((bs ++ Lib.byteCells done) ++ Lib.byteCells (t.extract 0 i).data.toList) ++ Lib.byteCells (⟨a⟩ : ByteArray).data.toList = bs ++ Lib.byteCells (done ++ (t.extract 0 i).data.toList ++ a.toList) ∧
    bs.length + (done ++ (t.extract 0 i).data.toList ++ a.toList).length + 5 * (t.extract (i + 1) t.size).size ≤ 140737488355328 := by
  have hi : i < t.size := by have := (List.getElem?_eq_some_iff.1 hx).1; simpa using this
  subst ha
  refine ⟨?_, ?_, ?_⟩
  · rw [he, esc_hit hno hx, Lib.extract_to_end, Lib.extract_data]
    simp [List.append_assoc]
  · simp [Lib.byteCells_append, List.append_assoc]
  · have h5 := (escB_le x).2
    simp only [List.length_append, ← Lib.size_eq, ByteArray.size_extract]
    omega

set_option maxHeartbeats 8000000 in
set_option maxRecDepth 100000 in
theorem escape_any (B b : Nat) (bs : List Value) (s : ByteArray) (w : World) (h : Lib.IsBuffer 78 5 B b bs w) (hBw : B ≤ w.heap.size) (h1 : ∀ v ∈ bs, v.oneCell' = true) (hlim : bs.length + 5 * s.size ≤ 140737488355328) :
    Calls Try.prog 41 #[.iface 82 (.pointer (some ⟨b, 0, none⟩)), .string s] w fun e w' => e = .returned .nilIface ∧ Lib.IsBuffer 78 5 B b (bs ++ Lib.byteCells (esc s.data.toList)) w' ∧ Below B w w' := by
  have hm := fun n => meth_ws n ⟨b, 0, none⟩
  have hnl := fun n => nil_ws n ⟨b, 0, none⟩
  go_enter Try.func41, Try.ntmps41
  go_wp2_with (first | (go_at_call 40; go_must (refine (indexAny_esc s _ (by omega)).mono ?_; rintro e w1 ⟨rfl, hb1⟩)))
  go_loopg [1, 5] (s.size + 1) (fun g s1 s5 wx => ∃ (t : ByteArray) (done : List UInt8), t.size + 1 = g ∧ s1 = .string t ∧ s5 = .int .i64 (Lib.indexAny t.data.toList escChars) ∧ esc s.data.toList = done ++ esc t.data.toList ∧
    Lib.IsBuffer 78 5 B b (bs ++ Lib.byteCells done) wx ∧ Below B w wx ∧ bs.length + done.length + 5 * t.size ≤ 140737488355328)
  case atStart => exact ⟨s, [], rfl, rfl, rfl, rfl, by simpa [Lib.byteCells] using h.old hb1, hb1.mono hBw, by simpa using hlim⟩
  case round =>
    obtain ⟨t, done, hg, rfl, rfl, he, hB, hbw, hl⟩ := hrel
    rcases indexAny_cases t.data.toList escChars with ⟨hi, hno⟩ | ⟨i, x, hi, hno, hx, hc⟩
    · rw [hi]
      have HNO := Lib.hid hno
      have HE := Lib.hid he
      clear hno he
      go_wp2_with fail
      refine (Try.Buffer_WriteString_kept B b (bs ++ Lib.byteCells done) t wr hB (by have := hbw.size; omega) (one_app h1 (Lib.byteCells_one _)) (by rw [List.length_append, Lib.byteCells_length]; omega)).mono ?_
      rintro e w2 ⟨rfl, hB2, hb2, hk2⟩
      go_wp2_with fail
      go_ret
      refine ⟨rfl, ?_, hbw.trans hb2⟩
      rw [HE.out, esc_noAny (by rw [← Lib.size_eq]; rw [← Lib.size_eq] at HNO; exact HNO.out), Lib.byteCells_append, ← List.append_assoc]
      exact hB2
    · rw [hi]
      have HNO := Lib.hid hno
      have HE := Lib.hid he
      clear hno he hi
      have hil : i < t.size := by have := (List.getElem?_eq_some_iff.1 hx).1; simpa using this
      have HX := Lib.hid hx
      have HC := Lib.hid hc
      clear hx hc
      go_upto_region 3 with fail
      go_cut [6, 7] (fun s6 s7 wx => s7 = .nilIface ∧ Lib.IsBuffer 78 5 B b ((bs ++ Lib.byteCells done) ++ Lib.byteCells (t.extract 0 i).data.toList) wx ∧ Below B w wx)
      case first =>
        have hWS := Try.Buffer_WriteString_kept B b (bs ++ Lib.byteCells done) (t.extract 0 i) wr.drew hB.drew (by have := hbw.size; simp; omega) (one_app h1 (Lib.byteCells_one _)) (by rw [List.length_append, Lib.byteCells_length, ByteArray.size_extract]; omega)
        go_region_with ((go_at_call 71; refine hWS.mono ?_; rintro e w2 ⟨rfl, hB2, hb2, hk2⟩))
        all_goals
          go_wp2_with fail
          go_meet
          exact ⟨rfl, hB2, hbw.drew.trans hb2⟩
      case rest =>
        obtain ⟨rfl, hB2, hb2⟩ := hcut
        have hxi : t[i]'hil = x := by
          have h1 := HX.out
          rw [Lib.data_getElem? t i hil] at h1
          exact Option.some.inj h1
        have hxc : x ∈ escChars := by simpa using HC.out
        have hl1 : (bs ++ Lib.byteCells done ++ Lib.byteCells (t.extract 0 i).data.toList).length + 5 ≤ 140737488355328 := by
          simp only [List.length_append, Lib.byteCells_length, ← Lib.size_eq, ByteArray.size_extract]
          omega
        have ho1 := one_app (one_app h1 (Lib.byteCells_one done)) (Lib.byteCells_one (t.extract 0 i).data.toList)
        have hsl : (t.extract (i + 1) t.size).size = t.size - (i + 1) := by rw [ByteArray.size_extract]; omega
        have HSL := Lib.hid hsl
        clear hsl
        have hle : t.size - (i + 1) ≤ 140737488355328 := by omega
        have hle2 : t.size ≤ 140737488355328 := by omega
        simp only [escChars, List.mem_cons, List.mem_nil_iff, or_false] at hxc
        rcases hxc with rfl | rfl | rfl | rfl | rfl | rfl
        · have HR := Lib.hid (esc_round #[38, 97, 109, 112, 59] (by decide) HNO.out HX.out HE.out hl (bs := bs))
          have hws := Try.Buffer_WriteString_kept B b _ ⟨#[38, 97, 109, 112, 59]⟩ wc hB2 (by have := hb2.size; omega) ho1 (Nat.le_trans (Nat.add_le_add_left (by decide) _) hl1)
          have HB2 := Lib.hid hb2
          have HBW := Lib.hid hBw
          clear hl hB hB2 hl1 ho1 hb1 hbw hb2 h h1 hlim hBw
          go_wp2_with fail
          refine hws.mono ?_
          rintro e w3 ⟨rfl, hB3, hb3, hk3⟩
          clear hws hk3
          go_wp2_with (first | (go_at_call 40; go_must (refine (indexAny_esc (t.extract (i + 1) t.size) _ (by rw [HSL.out]; exact hle)).mono ?_; rintro e w4 ⟨rfl, hb4⟩)))
          go_roundg (t.size - (i + 1) + 1)
          case measure => omega
          case rel => exact ⟨t.extract (i + 1) t.size, done ++ (t.extract 0 i).data.toList ++ (#[38, 97, 109, 112, 59] : Array UInt8).toList, by rw [HSL.out], rfl, by rw [Lib.extract_data], HR.out.1, by rw [← HR.out.2.1]; exact hB3.old hb4, (HB2.out.trans hb3).trans (hb4.mono (by have := HB2.out.size; have := hb3.size; have := HBW.out; omega)), HR.out.2.2⟩
        · have HR := Lib.hid (esc_round #[38, 35, 51, 57, 59] (by decide) HNO.out HX.out HE.out hl (bs := bs))
          have hws := Try.Buffer_WriteString_kept B b _ ⟨#[38, 35, 51, 57, 59]⟩ wc hB2 (by have := hb2.size; omega) ho1 (Nat.le_trans (Nat.add_le_add_left (by decide) _) hl1)
          have HB2 := Lib.hid hb2
          have HBW := Lib.hid hBw
          clear hl hB hB2 hl1 ho1 hb1 hbw hb2 h h1 hlim hBw
          go_wp2_with fail
          refine hws.mono ?_
          rintro e w3 ⟨rfl, hB3, hb3, hk3⟩
          clear hws hk3
          go_wp2_with (first | (go_at_call 40; go_must (refine (indexAny_esc (t.extract (i + 1) t.size) _ (by rw [HSL.out]; exact hle)).mono ?_; rintro e w4 ⟨rfl, hb4⟩)))
          go_roundg (t.size - (i + 1) + 1)
          case measure => omega
          case rel => exact ⟨t.extract (i + 1) t.size, done ++ (t.extract 0 i).data.toList ++ (#[38, 35, 51, 57, 59] : Array UInt8).toList, by rw [HSL.out], rfl, by rw [Lib.extract_data], HR.out.1, by rw [← HR.out.2.1]; exact hB3.old hb4, (HB2.out.trans hb3).trans (hb4.mono (by have := HB2.out.size; have := hb3.size; have := HBW.out; omega)), HR.out.2.2⟩
        · have HR := Lib.hid (esc_round #[38, 108, 116, 59] (by decide) HNO.out HX.out HE.out hl (bs := bs))
          have hws := Try.Buffer_WriteString_kept B b _ ⟨#[38, 108, 116, 59]⟩ wc hB2 (by have := hb2.size; omega) ho1 (Nat.le_trans (Nat.add_le_add_left (by decide) _) hl1)
          have HB2 := Lib.hid hb2
          have HBW := Lib.hid hBw
          clear hl hB hB2 hl1 ho1 hb1 hbw hb2 h h1 hlim hBw
          go_wp2_with fail
          refine hws.mono ?_
          rintro e w3 ⟨rfl, hB3, hb3, hk3⟩
          clear hws hk3
          go_wp2_with (first | (go_at_call 40; go_must (refine (indexAny_esc (t.extract (i + 1) t.size) _ (by rw [HSL.out]; exact hle)).mono ?_; rintro e w4 ⟨rfl, hb4⟩)))
          go_roundg (t.size - (i + 1) + 1)
          case measure => omega
          case rel => exact ⟨t.extract (i + 1) t.size, done ++ (t.extract 0 i).data.toList ++ (#[38, 108, 116, 59] : Array UInt8).toList, by rw [HSL.out], rfl, by rw [Lib.extract_data], HR.out.1, by rw [← HR.out.2.1]; exact hB3.old hb4, (HB2.out.trans hb3).trans (hb4.mono (by have := HB2.out.size; have := hb3.size; have := HBW.out; omega)), HR.out.2.2⟩
        · have HR := Lib.hid (esc_round #[38, 103, 116, 59] (by decide) HNO.out HX.out HE.out hl (bs := bs))
          have hws := Try.Buffer_WriteString_kept B b _ ⟨#[38, 103, 116, 59]⟩ wc hB2 (by have := hb2.size; omega) ho1 (Nat.le_trans (Nat.add_le_add_left (by decide) _) hl1)
          have HB2 := Lib.hid hb2
          have HBW := Lib.hid hBw
          clear hl hB hB2 hl1 ho1 hb1 hbw hb2 h h1 hlim hBw
          go_wp2_with fail
          refine hws.mono ?_
          rintro e w3 ⟨rfl, hB3, hb3, hk3⟩
          clear hws hk3
          go_wp2_with (first | (go_at_call 40; go_must (refine (indexAny_esc (t.extract (i + 1) t.size) _ (by rw [HSL.out]; exact hle)).mono ?_; rintro e w4 ⟨rfl, hb4⟩)))
          go_roundg (t.size - (i + 1) + 1)
          case measure => omega
          case rel => exact ⟨t.extract (i + 1) t.size, done ++ (t.extract 0 i).data.toList ++ (#[38, 103, 116, 59] : Array UInt8).toList, by rw [HSL.out], rfl, by rw [Lib.extract_data], HR.out.1, by rw [← HR.out.2.1]; exact hB3.old hb4, (HB2.out.trans hb3).trans (hb4.mono (by have := HB2.out.size; have := hb3.size; have := HBW.out; omega)), HR.out.2.2⟩
        · have HR := Lib.hid (esc_round #[38, 35, 51, 52, 59] (by decide) HNO.out HX.out HE.out hl (bs := bs))
          have hws := Try.Buffer_WriteString_kept B b _ ⟨#[38, 35, 51, 52, 59]⟩ wc hB2 (by have := hb2.size; omega) ho1 (Nat.le_trans (Nat.add_le_add_left (by decide) _) hl1)
          have HB2 := Lib.hid hb2
          have HBW := Lib.hid hBw
          clear hl hB hB2 hl1 ho1 hb1 hbw hb2 h h1 hlim hBw
          go_wp2_with fail
          refine hws.mono ?_
          rintro e w3 ⟨rfl, hB3, hb3, hk3⟩
          clear hws hk3
          go_wp2_with (first | (go_at_call 40; go_must (refine (indexAny_esc (t.extract (i + 1) t.size) _ (by rw [HSL.out]; exact hle)).mono ?_; rintro e w4 ⟨rfl, hb4⟩)))
          go_roundg (t.size - (i + 1) + 1)
          case measure => omega
          case rel => exact ⟨t.extract (i + 1) t.size, done ++ (t.extract 0 i).data.toList ++ (#[38, 35, 51, 52, 59] : Array UInt8).toList, by rw [HSL.out], rfl, by rw [Lib.extract_data], HR.out.1, by rw [← HR.out.2.1]; exact hB3.old hb4, (HB2.out.trans hb3).trans (hb4.mono (by have := HB2.out.size; have := hb3.size; have := HBW.out; omega)), HR.out.2.2⟩
        · have HR := Lib.hid (esc_round #[38, 35, 49, 51, 59] (by decide) HNO.out HX.out HE.out hl (bs := bs))
          have hws := Try.Buffer_WriteString_kept B b _ ⟨#[38, 35, 49, 51, 59]⟩ wc hB2 (by have := hb2.size; omega) ho1 (Nat.le_trans (Nat.add_le_add_left (by decide) _) hl1)
          have HB2 := Lib.hid hb2
          have HBW := Lib.hid hBw
          clear hl hB hB2 hl1 ho1 hb1 hbw hb2 h h1 hlim hBw
          go_wp2_with fail
          refine hws.mono ?_
          rintro e w3 ⟨rfl, hB3, hb3, hk3⟩
          clear hws hk3
          go_wp2_with (first | (go_at_call 40; go_must (refine (indexAny_esc (t.extract (i + 1) t.size) _ (by rw [HSL.out]; exact hle)).mono ?_; rintro e w4 ⟨rfl, hb4⟩)))
          go_roundg (t.size - (i + 1) + 1)
          case measure => omega
          case rel => exact ⟨t.extract (i + 1) t.size, done ++ (t.extract 0 i).data.toList ++ (#[38, 35, 49, 51, 59] : Array UInt8).toList, by rw [HSL.out], rfl, by rw [Lib.extract_data], HR.out.1, by rw [← HR.out.2.1]; exact hB3.old hb4, (HB2.out.trans hb3).trans (hb4.mono (by have := HB2.out.size; have := hb3.size; have := HBW.out; omega)), HR.out.2.2⟩

/-- The text s escaped, as a string. -/
def escStr (s : ByteArray) : ByteArray := ⟨(esc s.data.toList).toArray⟩

theorem str_ext {a b : ByteArray} (h : a.data.toList = b.data.toList) : a = b := by
  obtain ⟨⟨a⟩⟩ := a
  obtain ⟨⟨b⟩⟩ := b
  simp at h
  rw [h]

theorem escStr_le (s : ByteArray) : (escStr s).size ≤ 5 * s.size := by
  have h := esc_le s.data.toList
  have e : (escStr s).size = (esc s.data.toList).length := by rw [Lib.size_eq]; simp [escStr]
  rw [e, Lib.size_eq s]
  exact h

theorem escStr_none {s : ByteArray} (h : Lib.NoAny s.data.toList escChars s.data.toList.length) : escStr s = s :=
  str_ext (by rw [escStr, esc_noAny h])

set_option maxHeartbeats 2000000 in
set_option maxRecDepth 100000 in
/-- html.EscapeString. -/
theorem escapeString_any (s : ByteArray) (w : World) (hlim : 5 * s.size ≤ 140737488355328) :
    Calls Try.prog 36 #[.string s] w fun e w' => e = .returned (.string (escStr s)) ∧ Below w.heap.size w w' := by
  rcases indexAny_cases s.data.toList escChars with ⟨hi, hno⟩ | ⟨i, x, hi, hno, hx, hc⟩
  · have HNO := Lib.hid hno
    clear hno
    go_enter Try.func36, Try.ntmps36
    go_wp2_with (first | (go_at_call 40; go_must (refine (indexAny_esc s _ (by omega)).mono ?_; rintro e w1 ⟨rfl, hb1⟩; rw [hi])))
    go_ret
    exact ⟨by rw [escStr_none HNO.out]; rfl, hb1⟩
  · clear hno hx hc
    go_enter Try.func36, Try.ntmps36
    go_wp2_with (first | (go_at_call 40; go_must (refine (indexAny_esc s _ (by omega)).mono ?_; rintro e w1 ⟨rfl, hb1⟩; rw [hi])))
    have hf := Lib.fresh_isBuffer 78 5 w1
    refine (escape_any w1.heap.size w1.heap.size [] s _ hf (by simp) (by simp) (by simpa using hlim)).mono ?_
    rintro e w2 ⟨rfl, hB, hb2⟩
    rw [List.nil_append] at hB
    go_wp2_with (first | (go_at_call 42; go_must (refine (Try.Buffer_String w1.heap.size w1.heap.size _ w2 hB).mono ?_; rintro e w3 ⟨rfl, n, rfl⟩)))
    go_ret
    refine ⟨rfl, ?_⟩
    exact (hb1.trans (((Below.refl _ w1).alloc (Nat.le_refl _) _ |>.trans hb2).mono hb1.size)).trans ⟨rfl, rfl, rfl, Nat.le_refl _, fun _ _ => rfl⟩

end Go.Proofs.Ytgbeohhegckonaa
