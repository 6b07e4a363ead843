/- What tokens are written to: tagString, String, TokenText, built. Conditions: sizes below 2^30. -/
import Derived.Test.YtpkelgekannioaaGreatDoorGjBuf
import Derived.Test.YtpkelgekannioaaGreatDoorPFnTokenReadx0
import Derived.Test.YtpkelgekannioaaGreatDoorGiCom
import Derived.Test.YtpkelgekannioaaGreatDoorGhScan
set_option linter.unusedSimpArgs false
set_option linter.unusedVariables false

namespace Go.Proofs.YtpkelgekannioaaGreatDoor
open Go.RowKit Go.Shelf Go.BigFrame
open Go.Proofs.YtpkelgekannioaaGreatDoorW.PrintWords
open PFnTokenRead (S34 S38 S52 S54 k34 k38 k52 k54 rd_T38 at_T38)
set_option linter.unusedSimpArgs false
set_option linter.unusedVariables false

/-- What an attribute is written to. -/
def tgA (a : S38) : List UInt8 := 32 :: (a.f1.data.toList ++ 61 :: 34 :: (esc a.f2.data.toList ++ [34]))
def tgS (l : List S38) : List UInt8 := l.flatMap tgA
theorem tgS_append (a b : List S38) : tgS (a ++ b) = tgS a ++ tgS b := by simp only [tgS, List.flatMap_append]
theorem tgS_take {l : List S38} {k : Nat} {a : S38} (h : l[k]? = some a) : tgS (l.take (k + 1)) = tgS (l.take k) ++ tgA a := by
  have h1 : tgS (some a).toList = tgA a := List.append_nil _
  rw [List.take_add_one, h, tgS_append, h1]
theorem tgS_len : ∀ l : List S38, l.length ≤ (tgS l).length
  | [] => Nat.le_refl _
  | a :: l => by
    have h0 := tgS_len l
    have h1 : tgS (a :: l) = tgA a ++ tgS l := rfl
    have h2 : 1 ≤ (tgA a).length := by rw [tgA, List.length_cons]; omega
    rw [h1, List.length_append, List.length_cons]
    omega
theorem tgS_le {l : List S38} {k : Nat} {a : S38} (h : l[k]? = some a) : (tgS (l.take k)).length + (tgA a).length ≤ (tgS l).length := by
  have h1 : (tgS l).length = (tgS (l.take (k + 1) ++ l.drop (k + 1))).length := by rw [List.take_append_drop]
  rw [tgS_append, List.length_append, tgS_take h, List.length_append] at h1
  omega
theorem new_cell {w w1 : World} {cs : Array Value} {t : TypeId} {B : Nat} (h : Below B (w.alloc (.cells cs t)) w1) (hB : w.heap.size < B) {j : Nat} {v : Value} (hv : cs[j]? = some v) : w1.cell? ⟨w.heap.size, j, none⟩ = some v := by
  rw [Lib.cell_of_heap ((h.block _ hB).trans (heap_alloc_new w _))]
  exact hv

theorem esc_ge : ∀ l : List UInt8, l.length ≤ (esc l).length
  | [] => Nat.le_refl _
  | c :: l => by
    have := esc_ge l
    have := (escB_le c).1
    rw [esc_cons, List.length_append, List.length_cons]
    omega

theorem Buf.blk {B b : Nat} {bs : List Value} {w : World} (h : Buf B b bs w) : ∃ cs, w.heap[b]? = some (.cells cs 77 (0, 0)) := by
  rcases h with ⟨-, v, lr, h, -⟩ | ⟨g, cap, -, -, -, -, -, -, lr, cur, fz, h, -⟩
  · exact ⟨_, h⟩
  · exact ⟨_, h⟩
theorem Buf.keeps {B b g : Nat} {bs : List Value} {w w' : World} {cs : Array Value} (h : Buf B b bs w) (hk : Lib.OthersKept 5 (some b) w w') (hg : w.heap[g]? = some (.cells cs 65 (0, 0))) : w'.heap[g]? = some (.cells cs 65 (0, 0)) := by
  obtain ⟨c1, h1⟩ := h.blk
  refine hk g _ hg (fun e => ?_) (fun c fz e => ?_)
  · cases e
    rw [h1] at hg
    injection hg with hg
    injection hg with _ hg
    exact absurd hg (by decide)
  · injection e with _ e
    exact absurd e (by decide)
theorem sByte {B b g : Nat} {txt : List UInt8} {w : World} {cs : Array Value} (c : UInt8) (h : Buf B b (Lib.byteCells txt) w) (hB : B ≤ w.heap.size) (hl : txt.length + 1 ≤ 140737488355328) (hg : w.heap[g]? = some (.cells cs 65 (0, 0))) :
    Calls Tryz.prog 49 #[.pointer (some ⟨b, 0, none⟩), .int .u8 (c.toNat : Int)] w fun e w' => e = .returned .nilIface ∧ Buf B b (Lib.byteCells (txt ++ [c])) w' ∧ Below B w w' ∧ w'.heap[g]? = some (.cells cs 65 (0, 0)) := by
  refine (bufByte B b _ (c.toNat : Int) w h hB (Lib.byteCells_one _) (by rw [Lib.byteCells_length]; exact hl)).mono ?_
  rintro e w' ⟨rfl, h1, h2, h3⟩
  exact ⟨rfl, by rw [Lib.byteCells_append]; exact h1, h2, h.keeps h3 hg⟩
theorem sStr {B b g : Nat} {txt : List UInt8} {w : World} {cs : Array Value} (s : ByteArray) (h : Buf B b (Lib.byteCells txt) w) (hB : B ≤ w.heap.size) (hl : txt.length + s.size ≤ 140737488355328) (hg : w.heap[g]? = some (.cells cs 65 (0, 0))) :
    Calls Tryz.prog 50 #[.pointer (some ⟨b, 0, none⟩), .string s] w fun e w' => e = .returned (.tuple #[.int .i64 s.size, .nilIface]) ∧ Buf B b (Lib.byteCells (txt ++ s.data.toList)) w' ∧ Below B w w' ∧ w'.heap[g]? = some (.cells cs 65 (0, 0)) := by
  refine (bufString B b _ s w h hB (Lib.byteCells_one _) (by rw [Lib.byteCells_length]; exact hl)).mono ?_
  rintro e w' ⟨rfl, h1, h2, h3⟩
  exact ⟨rfl, by rw [Lib.byteCells_append]; exact h1, h2, h.keeps h3 hg⟩
theorem sEsc {B b : Nat} {txt : List UInt8} {w : World} (s : ByteArray) (h : Buf B b (Lib.byteCells txt) w) (hB : B ≤ w.heap.size) (hl : txt.length + 5 * s.size ≤ 140737488355328) :
    Calls Tryz.prog 45 #[.iface 81 (.pointer (some ⟨b, 0, none⟩)), .string s] w fun e w' => e = .returned .nilIface ∧ Buf B b (Lib.byteCells (txt ++ esc s.data.toList)) w' ∧ Below B w w' := by
  refine (bufEscape B b _ s w h hB (Lib.byteCells_one _) (by rw [Lib.byteCells_length]; exact hl)).mono ?_
  rintro e w' ⟨rfl, h1, h2⟩
  exact ⟨rfl, by rw [Lib.byteCells_append]; exact h1, h2⟩

set_option maxHeartbeats 4000000 in
set_option maxRecDepth 100000 in
theorem tagString_any (kd at' : Int) (d : ByteArray) (A : Option Addr) (n c : Nat) (l : List S38) (w : World) (hn : l.length = n) (hnc : n ≤ c) (hA : k38.C w A n l) (hd : 0 < d.size) (hlim : d.size + (tgS l).length ≤ 1099511627776) :
    Calls Tryz.prog 33 #[.agg #[.int .u32 kd, .int .u32 at', .string d, .slice A n c]] w fun e w' => e = .returned (.string (bStr (d.data.toList ++ tgS l))) ∧ Below w.heap.size w w' := by
  by_cases h0 : n = 0
  · subst h0
    have hl0 : l = [] := List.eq_nil_of_length_eq_zero hn
    subst hl0
    clear hA
    go_enter Tryz.func33, Tryz.ntmps33
    go_wp2_with fail
    go_ret
    exact ⟨by show _ = Ending.returned (.string (bStr (d.data.toList ++ []))); rw [List.append_nil]; rfl, below_alloc (Below.refl _ _) _⟩
  · have hds : d.size ≤ 1099511627776 := by omega
    go_enter Tryz.func33, Tryz.ntmps33
    go_wp2_with (go_at_call 48; go_must (refine (newBufferString d _ hds hd).mono ?_; rintro e w1 ⟨b, rfl, hB1, hb1⟩; have hc3 := new_cell (j := 3) hb1 (by simp) rfl))
    obtain ⟨w0, hw0⟩ : ∃ w0, w.alloc (.cells #[.int .u32 kd, .int .u32 at', .string d, .slice A n c] 63) = w0 := ⟨_, rfl⟩
    rw [hw0] at hB1 hb1
    have hbw0 : Below w.heap.size w w0 := by rw [← hw0]; exact below_alloc (Below.refl _ _) _
    clear hw0
    have hn40 : n ≤ 1099511627776 := by
      have := tgS_len l
      omega
    have HB := Lib.hid (And.intro hbw0 hb1)
    clear hbw0 hb1
    have HN := Lib.hid hn
    clear hn
    have HL := Lib.hid hlim
    clear hlim
    have HA := Lib.hid hA
    clear hA
    have HD := Lib.hid hB1
    clear hB1
    go_loopg [18] n (fun m s18 wx => ∃ k : Nat, k + m = n ∧ s18 = .int .i64 k ∧ Buf w0.heap.size b (Lib.byteCells (d.data.toList ++ tgS (l.take k))) wx ∧ Below w0.heap.size w0 wx)
    case atStart => exact ⟨0, by omega, by go_num, by simpa [tgS] using HD.out, HB.out.2⟩
    case round =>
      obtain ⟨k, hm, rfl, hB, hbw⟩ := hrel
      have hsz := hbw.size
      have HW := Lib.hid hbw
      clear hbw
      have HBB := Lib.hid hB
      clear hB
      by_cases hlt : k < n
      · obtain ⟨a, ha⟩ : ∃ a, l[k]? = some a := ⟨_, List.getElem?_eq_getElem (by rw [HN.out]; exact hlt)⟩
        have HK := Lib.hid ha
        have hb0 : Below w.heap.size w wr := HB.out.1.trans (HW.out.mono HB.out.1.size)
        have hC : k38.C wr A n l := Kd.C_below HA.out hb0
        obtain ⟨ad, rfl, hx0, hx1, hx2⟩ := at_T38 hC (k : Int) (by omega) (by omega)
        have hrd : rd_T38 l (k : Int) = a := by simp [rd_T38, List.getD_eq_getElem?_getD, ha]
        rw [hrd] at hx0 hx1 hx2
        have hki : (k : Int) < (n : Int) := by omega
        simp only [Int.toNat_natCast] at hx0 hx1 hx2
        clear hrd ha hC hb0
        obtain ⟨T, hT⟩ : ∃ T, d.data.toList ++ tgS (l.take k) = T := ⟨_, rfl⟩
        have hTl : T.length + (4 + a.f1.size + (esc a.f2.data.toList).length) ≤ 1099511627776 := by
          have h1 := tgS_le HK.out
          have h2 := HL.out
          have h3 : (tgA a).length = 4 + a.f1.size + (esc a.f2.data.toList).length := by
            rw [tgA, List.length_cons, List.length_append, List.length_cons, List.length_cons, List.length_append, ← Lib.size_eq]
            simp
            omega
          rw [← hT, List.length_append, ← Lib.size_eq]
          omega
        have hv5 : a.f2.size ≤ (esc a.f2.data.toList).length := by rw [Lib.size_eq]; exact esc_ge _
        have HBk : Hid (Buf w0.heap.size b (Lib.byteCells T) wr) := by
          have := HBB.out
          rw [hT] at this
          exact Lib.hid this
        have HT := Lib.hid hT
        clear hT HBB
        go_wp2_with fail
        have hnew : (wr.alloc (Obj.cells #[Value.string a.f0, Value.string a.f1, Value.string a.f2] 65)).heap[wr.heap.size]? = some (.cells #[Value.string a.f0, Value.string a.f1, Value.string a.f2] 65 (0, 0)) := heap_alloc_new wr _
        have hal := below_alloc (Below.refl wr.heap.size wr) (Obj.cells #[Value.string a.f0, Value.string a.f1, Value.string a.f2] 65)
        obtain ⟨v0, hv0⟩ : ∃ v0, wr.alloc (Obj.cells #[Value.string a.f0, Value.string a.f1, Value.string a.f2] 65) = v0 := ⟨_, rfl⟩
        rw [hv0] at hnew hal ⊢
        clear hv0
        refine (sByte 32 (HBk.out.old hal) (Nat.le_trans hsz hal.size) (by omega) hnew).mono ?_
        rintro e v1 ⟨rfl, hB1, hb1, hg1⟩
        have HB1 := Lib.hid (And.intro hB1 hb1)
        have c1 : v1.cell? ⟨wr.heap.size, 1, none⟩ = some (.string a.f1) := by rw [Lib.cell_of_heap hg1]; rfl
        have s1 := Nat.le_trans (Nat.le_trans hsz hal.size) hb1.size
        clear hB1 hb1
        go_wp2_with fail
        refine (sStr a.f1 HB1.out.1 s1 (by rw [List.length_append]; simp; omega) hg1).mono ?_
        rintro e v2 ⟨rfl, hB2, hb2, hg2⟩
        have HB2 := Lib.hid (And.intro hB2 hb2)
        have c2 : v2.cell? ⟨wr.heap.size, 2, none⟩ = some (.string a.f2) := by rw [Lib.cell_of_heap hg2]; rfl
        have s2 := Nat.le_trans s1 hb2.size
        clear hB2 hb2 hg1 c1
        go_wp2_with fail
        refine (sStr ⟨#[61, 34]⟩ HB2.out.1 s2 (by simp only [List.length_append, ← Lib.size_eq]; have : (⟨#[61, 34]⟩ : ByteArray).size = 2 := rfl; simp only [List.length_cons, List.length_nil]; omega) hg2).mono ?_
        rintro e v3 ⟨rfl, hB3, hb3, hg3⟩
        have HB3 := Lib.hid (And.intro hB3 hb3)
        have c3 : v3.cell? ⟨wr.heap.size, 2, none⟩ = some (.string a.f2) := by rw [Lib.cell_of_heap hg3]; rfl
        have s3 := Nat.le_trans s2 hb3.size
        clear hB3 hb3 hg2 c2
        go_wp2_with fail
        refine (sEsc a.f2 HB3.out.1 s3 (by simp only [List.length_append, ← Lib.size_eq]; have : (⟨#[61, 34]⟩ : ByteArray).size = 2 := rfl; simp only [List.length_cons, List.length_nil]; omega)).mono ?_
        rintro e v4 ⟨rfl, hB4, hb4⟩
        have HB4 := Lib.hid (And.intro hB4 hb4)
        have s4 := Nat.le_trans s3 hb4.size
        clear hB4 hb4 hg3 c3
        go_wp2_with fail
        refine (bufByte w0.heap.size b _ ((34 : UInt8).toNat : Int) v4 HB4.out.1 s4 (Lib.byteCells_one _) (by rw [Lib.byteCells_length]; simp only [List.length_append, ← Lib.size_eq]; have : (⟨#[61, 34]⟩ : ByteArray).size = 2 := rfl; simp only [List.length_cons, List.length_nil]; omega)).mono ?_
        rintro e v5 ⟨rfl, hB5, hb5, -⟩
        have HB5 := Lib.hid (And.intro hB5 hb5)
        clear hB5 hb5
        go_wp2_with fail
        go_roundg (n - (k + 1))
        case measure => omega
        case rel =>
          refine ⟨k + 1, by omega, by go_num, ?_, ?_⟩
          · have h5 := HB5.out.1
            rw [tgS_take HK.out, ← List.append_assoc, HT.out]
            have e : T ++ tgA a = (T ++ [32] ++ a.f1.data.toList ++ (⟨#[61, 34]⟩ : ByteArray).data.toList ++ esc a.f2.data.toList) ++ [34] := by simp [tgA]
            rw [e, Lib.byteCells_append]
            exact h5
          · exact (HW.out.trans (hal.mono hsz)).trans (HB1.out.2.trans (HB2.out.2.trans (HB3.out.2.trans (HB4.out.2.trans HB5.out.2))))
      · obtain rfl : k = n := by omega
        go_wp2_with fail
        refine (bufText w0.heap.size b _ wr HBB.out ?_).mono ?_
        · have h2 := HL.out
          have e1 : l.take k = l := by rw [← HN.out, List.take_length]
          rw [e1, List.length_append, ← Lib.size_eq]
          omega
        rintro e v1 ⟨rfl, q, rfl⟩
        go_wp2_with fail
        go_ret
        refine ⟨?_, pw_below_drewN (HB.out.1.trans (HW.out.mono HB.out.1.size)) q⟩
        have e1 : l.take k = l := by rw [← HN.out, List.take_length]
        rw [e1]
        rfl

end Go.Proofs.YtpkelgekannioaaGreatDoor

namespace Go.Proofs.YtpkelgekannioaaGreatDoor
open Go.RowKit Go.Shelf Go.BigFrame
open Go.Proofs.YtpkelgekannioaaGreatDoorW.PrintWords
open PFnTokenRead (S34 S38 S52 S54 k34 k38 k52 k54 rd_T38 at_T38)
set_option linter.unusedSimpArgs false
set_option linter.unusedVariables false

theorem bStr_data (l : List UInt8) : (bStr l).data.toList = l := rfl
theorem add_data (a b : ByteArray) : (a ++ b).data.toList = a.data.toList ++ b.data.toList := by simp

set_option maxHeartbeats 2000000 in
set_option maxRecDepth 100000 in
theorem string_text (at' : Int) (d : ByteArray) (v : Value) (w : World) (hd : d.size ≤ 1099511627776) :
    Calls Tryz.prog 26 #[.agg #[.int .u32 1, .int .u32 at', .string d, v]] w fun e w' => e = .returned (.string (escStr d)) ∧ Below w.heap.size w w' := by
  go_enter Tryz.func26, Tryz.ntmps26
  go_wp2_with (go_at_call 30; go_must (refine (escapeString_any d _ (by omega)).mono ?_; rintro e w1 ⟨rfl, hb1⟩))
  go_ret
  exact ⟨rfl, (below_alloc (Below.refl _ _) _).trans (hb1.mono (by simp))⟩

set_option maxHeartbeats 2000000 in
set_option maxRecDepth 100000 in
theorem string_start (at' : Int) (d : ByteArray) (A : Option Addr) (n c : Nat) (l : List S38) (w : World) (hn : l.length = n) (hnc : n ≤ c) (hA : k38.C w A n l) (hd : 0 < d.size) (hlim : d.size + (tgS l).length ≤ 1099511627776) :
    Calls Tryz.prog 26 #[.agg #[.int .u32 2, .int .u32 at', .string d, .slice A n c]] w fun e w' => e = .returned (.string (bStr ([60] ++ (d.data.toList ++ tgS l ++ [62])))) ∧ Below w.heap.size w w' := by
  have hS := tagString_any 2 at' d A n c l (w.alloc (.cells #[.int .u32 2, .int .u32 at', .string d, .slice A n c] 63)) hn hnc (Kd.C_alloc hA _) hd hlim
  obtain ⟨X, hX, hXs⟩ : ∃ X, bStr (d.data.toList ++ tgS l) = X ∧ X.size ≤ 1099511627776 := ⟨_, rfl, by rw [bStr_size, List.length_append, ← Lib.size_eq]; exact hlim⟩
  rw [hX] at hS
  have HX := Lib.hid hX
  clear hn hnc hA hd hlim hX
  go_enter Tryz.func26, Tryz.ntmps26
  go_wp2_with (go_at_call 33; go_must (refine hS.mono ?_; rintro e w1 ⟨rfl, hb1⟩))
  go_ret
  refine ⟨ret_str (str_ext ?_), (below_alloc (Below.refl _ _) _).trans (hb1.mono (by simp))⟩
  rw [← HX.out]
  simp only [add_data, bStr_data]
  simp

set_option maxHeartbeats 2000000 in
set_option maxRecDepth 100000 in
theorem string_end (at' : Int) (d : ByteArray) (A : Option Addr) (n c : Nat) (l : List S38) (w : World) (hn : l.length = n) (hnc : n ≤ c) (hA : k38.C w A n l) (hd : 0 < d.size) (hlim : d.size + (tgS l).length ≤ 1099511627776) :
    Calls Tryz.prog 26 #[.agg #[.int .u32 3, .int .u32 at', .string d, .slice A n c]] w fun e w' => e = .returned (.string (bStr ([60, 47] ++ (d.data.toList ++ tgS l ++ [62])))) ∧ Below w.heap.size w w' := by
  have hS := tagString_any 3 at' d A n c l (w.alloc (.cells #[.int .u32 3, .int .u32 at', .string d, .slice A n c] 63)) hn hnc (Kd.C_alloc hA _) hd hlim
  obtain ⟨X, hX, hXs⟩ : ∃ X, bStr (d.data.toList ++ tgS l) = X ∧ X.size ≤ 1099511627776 := ⟨_, rfl, by rw [bStr_size, List.length_append, ← Lib.size_eq]; exact hlim⟩
  rw [hX] at hS
  have HX := Lib.hid hX
  clear hn hnc hA hd hlim hX
  go_enter Tryz.func26, Tryz.ntmps26
  go_wp2_with (go_at_call 33; go_must (refine hS.mono ?_; rintro e w1 ⟨rfl, hb1⟩))
  go_ret
  refine ⟨ret_str (str_ext ?_), (below_alloc (Below.refl _ _) _).trans (hb1.mono (by simp))⟩
  rw [← HX.out]
  simp only [add_data, bStr_data]
  simp

set_option maxHeartbeats 2000000 in
set_option maxRecDepth 100000 in
theorem string_self (at' : Int) (d : ByteArray) (A : Option Addr) (n c : Nat) (l : List S38) (w : World) (hn : l.length = n) (hnc : n ≤ c) (hA : k38.C w A n l) (hd : 0 < d.size) (hlim : d.size + (tgS l).length ≤ 1099511627776) :
    Calls Tryz.prog 26 #[.agg #[.int .u32 4, .int .u32 at', .string d, .slice A n c]] w fun e w' => e = .returned (.string (bStr ([60] ++ (d.data.toList ++ tgS l ++ [47, 62])))) ∧ Below w.heap.size w w' := by
  have hS := tagString_any 4 at' d A n c l (w.alloc (.cells #[.int .u32 4, .int .u32 at', .string d, .slice A n c] 63)) hn hnc (Kd.C_alloc hA _) hd hlim
  obtain ⟨X, hX, hXs⟩ : ∃ X, bStr (d.data.toList ++ tgS l) = X ∧ X.size ≤ 1099511627776 := ⟨_, rfl, by rw [bStr_size, List.length_append, ← Lib.size_eq]; exact hlim⟩
  rw [hX] at hS
  have HX := Lib.hid hX
  clear hn hnc hA hd hlim hX
  go_enter Tryz.func26, Tryz.ntmps26
  go_wp2_with (go_at_call 33; go_must (refine hS.mono ?_; rintro e w1 ⟨rfl, hb1⟩))
  go_ret
  refine ⟨ret_str (str_ext ?_), (below_alloc (Below.refl _ _) _).trans (hb1.mono (by simp))⟩
  rw [← HX.out]
  simp only [add_data, bStr_data]
  simp

set_option maxHeartbeats 2000000 in
set_option maxRecDepth 100000 in
theorem string_com (at' : Int) (d : ByteArray) (v : Value) (w : World) (hd : d.size ≤ 1099511627776) :
    Calls Tryz.prog 26 #[.agg #[.int .u32 5, .int .u32 at', .string d, v]] w fun e w' => e = .returned (.string (bStr ([60, 33, 45, 45] ++ (unB (cUs none d.data.toList) ++ [45, 45, 62])))) ∧ Below w.heap.size w w' := by
  have hS := escapeCommentString_any d (w.alloc (.cells #[.int .u32 5, .int .u32 at', .string d, v] 63)) hd
  obtain ⟨X, hX, hXs⟩ : ∃ X, cmStr d = X ∧ X.size ≤ 10995116277760 := ⟨_, rfl, by
    have h1 := cUs_le none d.data.toList
    rw [← Lib.size_eq] at h1
    rw [cmStr, bStr_size]
    omega⟩
  rw [hX] at hS
  have HX := Lib.hid hX
  clear hX hd
  go_enter Tryz.func26, Tryz.ntmps26
  go_wp2_with (go_at_call 34; go_must (refine hS.mono ?_; rintro e w1 ⟨rfl, hb1⟩))
  go_ret
  refine ⟨ret_str (str_ext ?_), (below_alloc (Below.refl _ _) _).trans (hb1.mono (by simp))⟩
  rw [← HX.out]
  simp only [add_data, bStr_data, cmStr]
  simp

set_option maxHeartbeats 2000000 in
set_option maxRecDepth 100000 in
theorem string_doc (at' : Int) (d : ByteArray) (v : Value) (w : World) (hd : d.size ≤ 1099511627776) :
    Calls Tryz.prog 26 #[.agg #[.int .u32 6, .int .u32 at', .string d, v]] w fun e w' => e = .returned (.string (bStr ([60, 33, 68, 79, 67, 84, 89, 80, 69, 32] ++ (esc d.data.toList ++ [62])))) ∧ Below w.heap.size w w' := by
  have hS := escapeString_any d (w.alloc (.cells #[.int .u32 6, .int .u32 at', .string d, v] 63)) (by omega)
  obtain ⟨X, hX, hXs⟩ : ∃ X, escStr d = X ∧ X.size ≤ 10995116277760 := ⟨_, rfl, by have := escStr_le d; omega⟩
  rw [hX] at hS
  have HX := Lib.hid hX
  clear hX hd
  go_enter Tryz.func26, Tryz.ntmps26
  go_wp2_with (go_at_call 30; go_must (refine hS.mono ?_; rintro e w1 ⟨rfl, hb1⟩))
  go_ret
  refine ⟨ret_str (str_ext ?_), (below_alloc (Below.refl _ _) _).trans (hb1.mono (by simp))⟩
  rw [← HX.out]
  simp only [add_data, bStr_data, escStr]
  simp

/-- What a token is written to. -/
def tokTxt (k : Int) (d : List UInt8) (l : List S38) : List UInt8 :=
  if k = 1 then esc d else if k = 2 then [60] ++ (d ++ tgS l ++ [62]) else if k = 3 then [60, 47] ++ (d ++ tgS l ++ [62])
  else if k = 4 then [60] ++ (d ++ tgS l ++ [47, 62]) else if k = 5 then [60, 33, 45, 45] ++ (unB (cUs none d) ++ [45, 45, 62])
  else [60, 33, 68, 79, 67, 84, 89, 80, 69, 32] ++ (esc d ++ [62])

theorem tokString (k at' : Int) (d : ByteArray) (A : Option Addr) (n c : Nat) (l : List S38) (w : World) (hk : k = 1 ∨ k = 2 ∨ k = 3 ∨ k = 4 ∨ k = 5 ∨ k = 6) (hn : l.length = n) (hnc : n ≤ c) (hA : k38.C w A n l) (hd : k = 2 ∨ k = 3 ∨ k = 4 → 0 < d.size) (hlim : d.size + (tgS l).length ≤ 1099511627776) :
    Calls Tryz.prog 26 #[.agg #[.int .u32 k, .int .u32 at', .string d, .slice A n c]] w fun e w' => e = .returned (.string (bStr (tokTxt k d.data.toList l))) ∧ Below w.heap.size w w' := by
  have hds : d.size ≤ 1099511627776 := by omega
  rcases hk with rfl | rfl | rfl | rfl | rfl | rfl
  · exact string_text at' d _ w hds
  · exact string_start at' d A n c l w hn hnc hA (hd (by simp)) hlim
  · exact string_end at' d A n c l w hn hnc hA (hd (by simp)) hlim
  · exact string_self at' d A n c l w hn hnc hA (hd (by simp)) hlim
  · exact string_com at' d _ w hds
  · exact string_doc at' d _ w hds

end Go.Proofs.YtpkelgekannioaaGreatDoor

namespace Go.Proofs.YtpkelgekannioaaGreatDoor
open Go.RowKit Go.Shelf Go.BigFrame
open Go.Proofs.YtpkelgekannioaaGreatDoorW.PrintWords
open PFnTokenRead (S34 S38 S52 S54 k34 k38 k52 k54 rd_T38 at_T38)
set_option linter.unusedSimpArgs false
set_option linter.unusedVariables false

attribute [local go_sem ↓] app_wrap

theorem info65 : (Tryz.prog.info? 65).map (fun i => (i.zero, i.size, i.bytes)) = some (some (.agg #[(.string ⟨#[]⟩), (.string ⟨#[]⟩), (.string ⟨#[]⟩)]), 3, 48) := by kernel_rfl
theorem ne65 : ∀ q, q ∈ 65 :: k38.E → q ≠ 63 := by
  have : k38.E = [] := rfl
  rw [this]
  decide
/-- append of one attribute. -/
theorem attr_append {B : Nat} {w : World} {ov : Value} {l : List S38} (t : S38) (ty : TypeId) (hQ : k38.R 65 w B anyB ov l) (hBw : B ≤ w.heap.size) (hl : (l.length + 1) * 48 ≤ 140737488355328) :
    ∃ v1 w1, (appW #[61, 61] ty #[ov, .slice (some ⟨w.heap.size, 0, none⟩) 1 1]).run Tryz.prog (w.alloc (.cells #[.string t.f0, .string t.f1, .string t.f2] 65)) = .ok v1 w1 ∧ k38.R 65 w1 B anyB v1 (l ++ [t]) ∧ w.grownBy w1 ov.ownBlock ∧
      (∀ k, ov.ownBlock = some k → B ≤ k ∧ ∃ cells, w.heap[k]? = some (.cells cells 65 (0, 0))) := by
  obtain ⟨v1, w1, h1, h2, _, h4, _⟩ := R_run (P := Tryz.prog) (w0 := w) k38 B 61 ty 65 (.agg #[(.string ⟨#[]⟩), (.string ⟨#[]⟩), (.string ⟨#[]⟩)]) 48 Tryz.underlying61 info65 rfl (by decide) (by decide) ov l t [.string t.f0, .string t.f1, .string t.f2] anyB (fun k => anyB k ∧ some k ≠ ov.ownBlock)
    (PFnTokenRead.k38_mkM w B _ t) (fun k hk => hk) (fun _ _ => trivial) hQ (Below.refl _ _) hBw hl
  exact ⟨v1, w1, h1, h2, h4, fun k hk => ⟨Kd.R_base hQ k hk, Kd.R_typed hQ k hk⟩⟩

set_option maxHeartbeats 4000000 in
set_option maxRecDepth 100000 in
theorem tokenText_any (k : Int) (d raw : ByteArray) (A : Option Addr) (n c : Nat) (l : List S38) (w : World) (hk : k = 1 ∨ k = 2 ∨ k = 3 ∨ k = 4 ∨ k = 5 ∨ k = 6) (hn : l.length = n) (hnc : n ≤ c) (hA : k38.C w A n l) (hd : k = 2 ∨ k = 3 ∨ k = 4 → 0 < d.size) (hlim : d.size + (tgS l).length ≤ 1099511627776) :
    Calls Tryz.prog 16 #[.agg #[.int .i64 k, .string d, .slice A n c, .string raw]] w fun e w' => e = .returned (.string (bStr (tokTxt k d.data.toList l))) ∧ Below w.heap.size w w' := by
  have hkw : IntKind.u32.wrap k = k := by rcases hk with rfl | rfl | rfl | rfl | rfl | rfl <;> decide
  have HK := Lib.hid hk
  clear hk
  go_enter Tryz.func16, Tryz.ntmps16
  go_wp2_with fail
  have hn40 : n ≤ 1099511627776 := by
    have := tgS_len l
    omega
  have hbw2 : Below w.heap.size w ((w.alloc (Obj.cells #[Value.int IntKind.i64 k, Value.string d, Value.slice A n c, Value.string raw] 34)).alloc
      (Obj.cells #[Value.int IntKind.u32 k, Value.int IntKind.u32 0, Value.string d, Value.slice none 0 0] 63)) := below_alloc (below_alloc (Below.refl _ _) _) _
  have hx2 : ((w.alloc (Obj.cells #[Value.int IntKind.i64 k, Value.string d, Value.slice A n c, Value.string raw] 34)).alloc
      (Obj.cells #[Value.int IntKind.u32 k, Value.int IntKind.u32 0, Value.string d, Value.slice none 0 0] 63)).heap[w.heap.size + 1]? = some (.cells #[Value.int IntKind.u32 k, Value.int IntKind.u32 0, Value.string d, Value.slice none 0 0] 63 (0, 0)) := by
    have := heap_alloc_new (w.alloc (Obj.cells #[Value.int IntKind.i64 k, Value.string d, Value.slice A n c, Value.string raw] 34)) (Obj.cells #[Value.int IntKind.u32 k, Value.int IntKind.u32 0, Value.string d, Value.slice none 0 0] 63)
    simpa using this
  generalize ((w.alloc (Obj.cells #[Value.int IntKind.i64 k, Value.string d, Value.slice A n c, Value.string raw] 34)).alloc
      (Obj.cells #[Value.int IntKind.u32 k, Value.int IntKind.u32 0, Value.string d, Value.slice none 0 0] 63)) = w2 at hbw2 hx2 ⊢
  obtain ⟨X, hX⟩ : ∃ X, w.heap.size + 1 = X := ⟨_, rfl⟩
  rw [hX] at hx2 ⊢
  obtain ⟨N, hN⟩ : ∃ N, w.heap.size = N := ⟨_, rfl⟩
  have hXN : N ≤ X := by omega
  rw [hN] at hbw2 ⊢
  have HN := Lib.hid (And.intro hn (And.intro hX hN))
  have HA := Lib.hid hA
  have HB := Lib.hid hbw2
  have HX2 := Lib.hid hx2
  clear hn hX hN hA hbw2 hx2
  go_loopg [15] n (fun m s15 wx => ∃ (j : Nat) (v : Value), j + m = n ∧ s15 = .int .i64 j ∧ wx.heap[X]? = some (.cells #[Value.int IntKind.u32 k, Value.int IntKind.u32 0, Value.string d, v] 63 (0, 0)) ∧ k38.R 65 wx w2.heap.size anyB v (l.take j) ∧ KB X w2 wx)
  case atStart => exact ⟨0, _, by omega, by go_num, HX2.out, by simpa using Kd.R_nil _ _ _ _ _, KB.refl _ _⟩
  case round =>
    obtain ⟨j, v, hm, rfl, hx, hR, hkb⟩ := hrel
    have hXlt : X < w2.heap.size := blk_lt HX2.out
    have hb0 : Below N w wr := ⟨hkb.os.trans HB.out.os, hkb.tape.trans HB.out.tape, hkb.output.trans HB.out.output, Nat.le_trans HB.out.size hkb.size, fun i hi => (hkb.block i (by have := HB.out.size; have := HN.out.2.2; omega) (by omega)).trans (HB.out.block i hi)⟩
    have HB0 := Lib.hid hb0
    clear hb0
    by_cases hlt : j < n
    · obtain ⟨a, ha⟩ : ∃ a, l[j]? = some a := ⟨_, List.getElem?_eq_getElem (by rw [HN.out.1]; exact hlt)⟩
      have hC : k38.C wr A n l := Kd.C_below HA.out (by rw [HN.out.2.2]; exact HB0.out)
      obtain ⟨ad, rfl, hx0, hx1, hx2⟩ := at_T38 hC (j : Int) (by omega) (by omega)
      have hrd : rd_T38 l (j : Int) = a := by simp [rd_T38, List.getD_eq_getElem?_getD, ha]
      rw [hrd] at hx0 hx1 hx2
      simp only [Int.toNat_natCast] at hx0 hx1 hx2
      have hji : (j : Int) < (n : Int) := by omega
      have HH := Lib.hid (And.intro hx (And.intro hR hkb))
      have HL := Lib.hid ha
      clear hrd hC ha hx hR hkb
      go_upto_region 5 with fail
      have hnew := heap_alloc_new wr (Obj.cells #[Value.string a.f0, Value.string a.f1, Value.string a.f2] 38)
      have hal := below_alloc (Below.refl wr.heap.size wr) (Obj.cells #[Value.string a.f0, Value.string a.f1, Value.string a.f2] 38)
      obtain ⟨v0, hv0⟩ : ∃ v0, wr.alloc (Obj.cells #[Value.string a.f0, Value.string a.f1, Value.string a.f2] 38) = v0 := ⟨_, rfl⟩
      rw [hv0] at hnew hal ⊢
      clear hv0
      have hx' := blk_below HH.out.1 hal
      have hR' := Kd.R_below HH.out.2.1 hal
      have hkb' := HH.out.2.2.below hal
      obtain ⟨g, hg⟩ : ∃ g, wr.heap.size = g := ⟨_, rfl⟩
      rw [hg] at hnew ⊢
      have c0 : v0.cell? ⟨g, 0, none⟩ = some (.string a.f0) := by rw [blk_cell hnew]; rfl
      have c1 : v0.cell? ⟨g, 1, none⟩ = some (.string a.f1) := by rw [blk_cell hnew]; rfl
      have c2 : v0.cell? ⟨g, 2, none⟩ = some (.string a.f2) := by rw [blk_cell hnew]; rfl
      have cx : v0.cell? ⟨X, 3, none⟩ = some v := by rw [blk_cell hx']; rfl
      have hlj : (l.take j).length = j := by rw [List.length_take, HN.out.1]; omega
      obtain ⟨v1, w1, hrun, hR1, hgr, hbase⟩ := attr_append a 61 hR' hkb'.size (by rw [hlj]; omega)
      obtain ⟨A1, q1, rfl⟩ := Kd.R_slice hR1
      have hXv : some X ≠ v.ownBlock := fun e => by have := (hbase X e.symm).1; omega
      have hx1 := blk_grown hx' hgr hXv
      have cx1 : w1.cell? ⟨X, 3, none⟩ = some v := by rw [blk_cell hx1]; rfl
      have fx1 := blk_frozen hx1 3
      have H1 := Lib.hid (And.intro hR1 (And.intro (hkb'.trans' hgr (fun k hk => (hbase k hk).1)) hx1))
      clear hnew hx' hR' hkb' hR1 hgr hbase hXv hx1 hal
      go_wp2_with fail
      go_roundg (n - (j + 1))
      case measure => omega
      case rel =>
        refine ⟨j + 1, _, by omega, by go_num, blk_set H1.out.2.2 3 _, ?_, H1.out.2.1.set 3 _⟩
        have e1 : l.take (j + 1) = l.take j ++ [a] := by rw [List.take_add_one, HL.out]; rfl
        have hR9 := H1.out.1
        rw [show (l.take j ++ [a]).length = j + 1 from by rw [List.length_append, hlj]; rfl] at hR9
        rw [e1]
        exact Kd.R_set hR9 H1.out.2.2 ne65 3 _
    · obtain rfl : j = n := by omega
      have cx : wr.cell? ⟨X, 0, none⟩ = some (.int .u32 k) := by rw [blk_cell hx]; rfl
      have cx1 : wr.cell? ⟨X, 1, none⟩ = some (.int .u32 0) := by rw [blk_cell hx]; rfl
      have cx2 : wr.cell? ⟨X, 2, none⟩ = some (.string d) := by rw [blk_cell hx]; rfl
      have cx3 : wr.cell? ⟨X, 3, none⟩ = some v := by rw [blk_cell hx]; rfl
      obtain ⟨A', c', rfl, hc', hC'⟩ := Kd.R_reads hR
      have e1 : l.take j = l := by rw [← HN.out.1, List.take_length]
      rw [e1] at cx3 hc' hC'
      rw [HN.out.1] at cx3 hc' hC'
      have HC := Lib.hid hC'
      have HKB := Lib.hid hkb
      clear hR hx hkb hC'
      go_wp2_with fail
      refine (tokString k 0 d A' j c' l wr HK.out HN.out.1 hc' HC.out hd hlim).mono ?_
      rintro e w1 ⟨rfl, hb1⟩
      go_wp2_with fail
      go_ret
      exact ⟨rfl, by have := HB0.out.trans (hb1.mono (by have := HB0.out.size; have := HN.out.2.2; omega)); rw [HN.out.2.2]; exact this⟩

end Go.Proofs.YtpkelgekannioaaGreatDoor

namespace Go.Proofs.YtpkelgekannioaaGreatDoor
open Go.RowKit Go.Shelf Go.BigFrame
open Go.Proofs.YtpkelgekannioaaGreatDoorW.PrintWords
open PFnTokenRead (S34 S38 S52 S54 k34 k38 k52 k54 rd_T38 at_T38 rd_T34 at_T34)
set_option linter.unusedSimpArgs false
set_option linter.unusedVariables false

/-- What the tokens are written to. -/
def tkB (t : S34) : List UInt8 := tokTxt t.f0 t.f1.data.toList t.f2
def tksB (l : List S34) : List UInt8 := l.flatMap tkB
theorem tksB_append (a b : List S34) : tksB (a ++ b) = tksB a ++ tksB b := by simp only [tksB, List.flatMap_append]
theorem tksB_take {l : List S34} {k : Nat} {a : S34} (h : l[k]? = some a) : tksB (l.take (k + 1)) = tksB (l.take k) ++ tkB a := by
  have h1 : tksB (some a).toList = tkB a := List.append_nil _
  rw [List.take_add_one, h, tksB_append, h1]
theorem tksB_le {l : List S34} {k : Nat} {a : S34} (h : l[k]? = some a) : (tksB (l.take k)).length + (tkB a).length ≤ (tksB l).length := by
  have h1 : (tksB l).length = (tksB (l.take (k + 1) ++ l.drop (k + 1))).length := by rw [List.take_append_drop]
  rw [tksB_append, List.length_append, tksB_take h, List.length_append] at h1
  omega
/-- The keys that have been seen. -/
def seenA (a : S38) : List UInt8 := 32 :: (a.f1.data.toList ++ [32])
def seenB (l : List S38) : List UInt8 := l.flatMap seenA
theorem seenB_append (a b : List S38) : seenB (a ++ b) = seenB a ++ seenB b := by simp only [seenB, List.flatMap_append]
theorem seenB_take {l : List S38} {k : Nat} {a : S38} (h : l[k]? = some a) : seenB (l.take (k + 1)) = seenB (l.take k) ++ seenA a := by
  have h1 : seenB (some a).toList = seenA a := List.append_nil _
  rw [List.take_add_one, h, seenB_append, h1]
/-- What 'built' lets in. -/
def AtOk (a : S38) : Prop := NameS a.f1 ∧ No13 a.f2
def AtsOk (k : Int) (l : List S38) : Prop := (∀ a ∈ l, AtOk a) ∧ (l.map S38.f1).Nodup ∧ (l ≠ [] → k = 2 ∨ k = 4)
def TokOk (t : S34) : Prop := WOk t.f0 t.f1 ∧ AtsOk t.f0 t.f2

theorem occ_seen {l : List S38} {a b : S38} (h : b ∈ l) (e : b.f1 = a.f1) : ∃ q, q + (seenA a).length ≤ (seenB l).length ∧ occ (seenB l) (seenA a) q := by
  obtain ⟨x, y, rfl⟩ := List.append_of_mem h
  refine ⟨(seenB x).length, ?_, ?_⟩
  · rw [seenB_append]
    have h1 : seenB (b :: y) = seenA b ++ seenB y := rfl
    have h2 : seenA a = seenA b := by rw [seenA, seenA, e]
    rw [h1, h2]
    simp only [List.length_append]
    omega
  · unfold occ
    have h1 : seenB (b :: y) = seenA b ++ seenB y := rfl
    have h2 : seenA a = seenA b := by rw [seenA, seenA, e]
    rw [seenB_append, h1, h2, List.drop_left, List.take_left]
theorem AtsOk.snoc {k : Int} {l : List S38} {a : S38} (h : AtsOk k l) (ha : AtOk a) (hk : k = 2 ∨ k = 4) (hno : ∀ q, q + (seenA a).length ≤ (seenB l).length → ¬ occ (seenB l) (seenA a) q) : AtsOk k (l ++ [a]) := by
  refine ⟨fun b hb => ?_, ?_, fun _ => hk⟩
  · rcases List.mem_append.1 hb with hb | hb
    · exact h.1 b hb
    · rw [List.mem_singleton.1 hb]; exact ha
  · rw [List.map_append, List.nodup_append]
    refine ⟨h.2.1, by simp, fun x hx y hy e => ?_⟩
    obtain ⟨b, hb, rfl⟩ := List.mem_map.1 hx
    rw [List.map_cons, List.map_nil, List.mem_singleton] at hy
    subst hy
    obtain ⟨q, h1, h2⟩ := occ_seen hb e
    exact hno q h1 h2

end Go.Proofs.YtpkelgekannioaaGreatDoor

namespace Go.Proofs.YtpkelgekannioaaGreatDoor
open Go.RowKit Go.Shelf Go.BigFrame
open Go.Proofs.YtpkelgekannioaaGreatDoorW.PrintWords
open PFnTokenRead (S34 S38 S52 S54 k34 k38 k52 k54 rd_T38 at_T38 rd_T34 at_T34)
set_option linter.unusedSimpArgs false
set_option linter.unusedVariables false

/-- How 'built' ends. -/
def BEnd (l : List S34) (w : World) (e : Ending) (w' : World) : Prop :=
  ∃ (s : ByteArray) (ok : Bool), e = .returned (.tuple #[.string s, .bool ok]) ∧ (ok = true → s = bStr (tksB l) ∧ ∀ t ∈ l, TokOk t) ∧ Below w.heap.size w w'

set_option maxHeartbeats 8000000 in
set_option maxRecDepth 100000 in
theorem built_any (A : Option Addr) (n c : Nat) (l : List S34) (w : World) (hn : l.length = n) (hnc : n ≤ c) (hA : k34.C w A n l) (hn30 : n ≤ 1073741824) (hlim : (tksB l).length ≤ 1073741824)
    (hsz : ∀ t ∈ l, t.f1.size ≤ 1073741824 ∧ t.f1.size + (tgS t.f2).length ≤ 1073741824 ∧ (seenB t.f2).length ≤ 1073741824 ∧ t.f2.length ≤ 1073741824 ∧ ∀ a ∈ t.f2, a.f1.size ≤ 1073741824 ∧ a.f2.size ≤ 1073741824) :
    Calls Tryz.prog 5 #[.slice A n c] w fun e w' => BEnd l w e w' := by
  have HN := Lib.hid (And.intro hn (And.intro hlim hsz))
  have HA := Lib.hid hA
  clear hn hlim hsz hA
  go_enter Tryz.func5, Tryz.ntmps5
  go_wp2_with fail
  go_loopg [4, 12] n (fun m s4 s12 wx => ∃ (j : Nat), j + m = n ∧ s12 = .int .i64 j ∧ s4 = .string (bStr (tksB (l.take j))) ∧ (∀ t ∈ l.take j, TokOk t) ∧ Below w.heap.size w wx)
  case atStart => exact ⟨0, by omega, by go_num, rfl, by simp, Below.refl _ _⟩
  case round =>
    obtain ⟨j, hm, rfl, rfl, hok, hbw⟩ := hrel
    have HO := Lib.hid hok
    have HB := Lib.hid hbw
    clear hok hbw
    by_cases hlt : j < n
    · obtain ⟨t, ht⟩ : ∃ t, l[j]? = some t := ⟨_, List.getElem?_eq_getElem (by rw [HN.out.1]; exact hlt)⟩
      have hC : k34.C wr A n l := Kd.C_below HA.out HB.out
      obtain ⟨ad, A2, c2, rfl, hx0, hx1, hx2, hx3, hc2, hC2⟩ := at_T34 hC (j : Int) (by omega) (by omega)
      have hrd : rd_T34 l (j : Int) = t := by simp [rd_T34, List.getD_eq_getElem?_getD, ht]
      rw [hrd] at hx0 hx1 hx2 hx3 hc2 hC2
      simp only [Int.toNat_natCast] at hx0 hx1 hx2 hx3
      have hji : (j : Int) < (n : Int) := by omega
      have htl := tksB_le ht
      obtain ⟨out, hout, houts⟩ : ∃ out, bStr (tksB (l.take j)) = out ∧ out.size ≤ 1073741824 := ⟨_, rfl, by rw [bStr_size]; have := HN.out.2.1; omega⟩
      rw [hout]
      have HOUT := Lib.hid (And.intro hout htl)
      clear hout htl
      obtain ⟨s1, s2, s3, s4, s5⟩ := HN.out.2.2 t (List.mem_of_getElem? ht)
      have HT := Lib.hid (And.intro ht hC2)
      clear hrd hC ht hC2
      obtain ⟨k, hk⟩ : ∃ k, t.f0 = k := ⟨_, rfl⟩
      obtain ⟨d, hd⟩ : ∃ d, t.f1 = d := ⟨_, rfl⟩
      obtain ⟨ats, hats⟩ : ∃ ats, t.f2 = ats := ⟨_, rfl⟩
      obtain ⟨raw, hraw⟩ : ∃ raw, t.f3 = raw := ⟨_, rfl⟩
      rw [hk] at hx0
      rw [hd] at hx1 s1 s2
      rw [hats] at hx2 hc2 s2 s3 s4 s5
      rw [hraw] at hx3
      have HTe := Lib.hid (And.intro hk (And.intro hd hats))
      clear hk hd hats hraw
      obtain ⟨rw0, hw1, hw2⟩ := writable_any k d (by omega)
      have HW := Lib.hid hw1
      clear hw1
      go_upto_region 5 with fail
      have hnew := heap_alloc_new wr (Obj.cells #[Value.int IntKind.i64 k, Value.string d, Value.slice A2 ats.length c2, Value.string raw] 34)
      have hal := below_alloc (Below.refl wr.heap.size wr) (Obj.cells #[Value.int IntKind.i64 k, Value.string d, Value.slice A2 ats.length c2, Value.string raw] 34)
      obtain ⟨v0, hv0⟩ : ∃ v0, wr.alloc (Obj.cells #[Value.int IntKind.i64 k, Value.string d, Value.slice A2 ats.length c2, Value.string raw] 34) = v0 := ⟨_, rfl⟩
      rw [hv0] at hnew hal ⊢
      clear hv0
      obtain ⟨g, hg⟩ : ∃ g, wr.heap.size = g := ⟨_, rfl⟩
      rw [hg] at hnew hal ⊢
      have c0 : v0.cell? ⟨g, 0, none⟩ = some (.int .i64 k) := by rw [blk_cell hnew]; rfl
      have c1 : v0.cell? ⟨g, 1, none⟩ = some (.string d) := by rw [blk_cell hnew]; rfl
      have c2' : v0.cell? ⟨g, 2, none⟩ = some (.slice A2 ats.length c2) := by rw [blk_cell hnew]; rfl
      have c3 : v0.cell? ⟨g, 3, none⟩ = some (.string raw) := by rw [blk_cell hnew]; rfl
      have HG := Lib.hid (And.intro hg (And.intro hal hnew))
      clear hg hal hnew hx0 hx1 hx2 hx3
      cases rw0 with
      | false =>
        go_wp2_with (go_at_call 11; go_must (refine (hw2 _).mono ?_; rintro e w' ⟨rfl, ⟨⟨nq, rfl⟩⟩⟩))
        refine bodyPost_ret (results_tmp2 rfl _ _ _) rfl ?_
        refine ⟨_, _, rfl, fun h => (by cases h), pw_below_drewN (HB.out.trans ?_) _⟩
        have := HG.out.2.1
        rw [← HG.out.1] at this
        exact this.mono HB.out.size
      | true =>
        by_cases hraw : raw.toList.isEmpty = true
        · go_wp2_with (go_at_call 11; go_must (refine (hw2 _).mono ?_; rintro e w' ⟨rfl, ⟨⟨nq, rfl⟩⟩⟩))
          have hbV : Below w.heap.size w (v0.drewN nq) := by
            have := HG.out.2.1
            rw [← HG.out.1] at this
            exact pw_below_drewN (HB.out.trans (this.mono HB.out.size)) _
          have hgV : (v0.drewN nq).heap[g]? = some (.cells #[Value.int IntKind.i64 k, Value.string d, Value.slice A2 ats.length c2, Value.string raw] 34 (0, 0)) := HG.out.2.2
          have hCV : k38.C (v0.drewN nq) A2 ats.length ats := by
            have h1 := HT.out.2
            rw [HTe.out.2.2] at h1
            exact Kd.C_below h1 (by rw [HG.out.1]; exact pw_below_drewN HG.out.2.1 _)
          obtain ⟨V, hV⟩ : ∃ V, v0.drewN nq = V := ⟨_, rfl⟩
          rw [hV] at hbV hgV hCV ⊢
          clear hV c0 c1 c2' c3
          have HV := Lib.hid (And.intro hbV (And.intro hgV hCV))
          clear hbV hgV hCV
          go_loopg [7, 30] ats.length (fun m s7 s30 wx => ∃ (i : Nat), i + m = ats.length ∧ s30 = .int .i64 i ∧ s7 = .string (bStr (seenB (ats.take i))) ∧ AtsOk k (ats.take i) ∧ Below V.heap.size V wx)
          case atStart => exact ⟨0, by omega, by go_num, rfl, ⟨by simp, by simp, by simp⟩, Below.refl _ _⟩
          case round =>
            obtain ⟨i, hi, rfl, rfl, hok, hbw⟩ := hrel
            have hgr : wr.heap[g]? = some (.cells #[Value.int IntKind.i64 k, Value.string d, Value.slice A2 ats.length c2, Value.string raw] 34 (0, 0)) := blk_below HV.out.2.1 hbw
            have hCr : k38.C wr A2 ats.length ats := Kd.C_below HV.out.2.2 hbw
            have hbr : Below w.heap.size w wr := HV.out.1.trans (hbw.mono HV.out.1.size)
            have c0 : wr.cell? ⟨g, 0, none⟩ = some (.int .i64 k) := by rw [blk_cell hgr]; rfl
            have c1 : wr.cell? ⟨g, 1, none⟩ = some (.string d) := by rw [blk_cell hgr]; rfl
            have c2' : wr.cell? ⟨g, 2, none⟩ = some (.slice A2 ats.length c2) := by rw [blk_cell hgr]; rfl
            have c3 : wr.cell? ⟨g, 3, none⟩ = some (.string raw) := by rw [blk_cell hgr]; rfl
            have HI := Lib.hid (And.intro hok (And.intro hbw hbr))
            by_cases hil : i < ats.length
            · obtain ⟨a, ha⟩ : ∃ a, ats[i]? = some a := ⟨_, List.getElem?_eq_getElem hil⟩
              obtain ⟨ad2, rfl, y0, y1, y2⟩ := at_T38 hCr (i : Int) (by omega) (by omega)
              have hrd2 : rd_T38 ats (i : Int) = a := by simp [rd_T38, List.getD_eq_getElem?_getD, ha]
              rw [hrd2] at y0 y1 y2
              simp only [Int.toNat_natCast] at y0 y1 y2
              have hij : (i : Int) < (ats.length : Int) := by omega
              obtain ⟨z1, z2⟩ := s5 a (List.mem_of_getElem? ha)
              have hAt := Lib.hid ha
              clear hrd2 hCr ha hbr hok hbw
              obtain ⟨r1, p1, q1⟩ := isName_any a.f1 (by omega)
              obtain ⟨r2, q2⟩ := valid_any a.f2 (by omega)
              obtain ⟨r3, p3, q3⟩ := has_any a.f2 13 (by omega)
              have hsn : (seenB (ats.take i)).length ≤ 1073741824 := by
                have h1 : (seenB ats).length = (seenB (ats.take i ++ ats.drop i)).length := by rw [List.take_append_drop]
                rw [seenB_append, List.length_append] at h1
                omega
              obtain ⟨sn, hsnE, hsns⟩ : ∃ sn, bStr (seenB (ats.take i)) = sn ∧ sn.size ≤ 1073741824 := ⟨_, rfl, by rw [bStr_size]; exact hsn⟩
              rw [hsnE]
              have hwhat : (⟨#[32]⟩ ++ a.f1 ++ ⟨#[32]⟩ : ByteArray).data.toList = seenA a := by
                simp only [add_data]
                simp [seenA]
              obtain ⟨r4, p4, q4⟩ := contains_any sn (⟨#[32]⟩ ++ a.f1 ++ ⟨#[32]⟩) (by omega) (by
                have := congrArg List.length hwhat
                rw [← Lib.size_eq] at this
                rw [this]
                have h2 : (seenA a).length = a.f1.size + 2 := by simp [seenA]
                omega) (by rw [hwhat, seenA]; simp)
              rw [hwhat] at p4
              have HP := Lib.hid (And.intro p1 (And.intro p3 (And.intro p4 (And.intro hsnE hwhat))))
              clear p1 p3 p4 hsnE hwhat hsn
              go_upto_region 11 with fail
              have hnew := heap_alloc_new wr (Obj.cells #[Value.string a.f0, Value.string a.f1, Value.string a.f2] 38)
              have hal := below_alloc (Below.refl wr.heap.size wr) (Obj.cells #[Value.string a.f0, Value.string a.f1, Value.string a.f2] 38)
              obtain ⟨v1, hv1⟩ : ∃ v1, wr.alloc (Obj.cells #[Value.string a.f0, Value.string a.f1, Value.string a.f2] 38) = v1 := ⟨_, rfl⟩
              rw [hv1] at hnew hal ⊢
              clear hv1
              replace c0 := pw_cell_below hal c0
              replace c1 := pw_cell_below hal c1
              replace c2' := pw_cell_below hal c2'
              replace c3 := pw_cell_below hal c3
              have HV1 := Lib.hid (HI.out.2.2.trans (hal.mono HI.out.2.2.size))
              have HV2 := Lib.hid (HI.out.2.1.trans (hal.mono HI.out.2.1.size))
              clear hal
              obtain ⟨q, hq⟩ : ∃ q, wr.heap.size = q := ⟨_, rfl⟩
              rw [hq] at hnew ⊢
              clear hq y0 y1 y2
              have y0 : v1.cell? ⟨q, 0, none⟩ = some (.string a.f0) := by rw [blk_cell hnew]; rfl
              have y1 : v1.cell? ⟨q, 1, none⟩ = some (.string a.f1) := by rw [blk_cell hnew]; rfl
              have y2 : v1.cell? ⟨q, 2, none⟩ = some (.string a.f2) := by rw [blk_cell hnew]; rfl
              clear hnew
              have hret : ∀ W, Below w.heap.size w W → BEnd l w (.returned (.tuple #[.string ⟨#[]⟩, .bool false])) W := fun W h => ⟨_, _, rfl, fun h => (by cases h), h⟩
              clear hgr hij
              by_cases e0 : a.f0.toList.isEmpty = true
              · cases r1 with
                | false =>
                  go_wp2_with (first | (go_at_call 12; (refine (q1 _).mono ?_; rintro e w' ⟨rfl, rfl⟩)) | (go_at_call 13; (refine (q2 _).mono ?_; rintro e w' ⟨rfl, ⟨⟨nk2, rfl⟩⟩⟩)) | (go_at_call 14; (refine (q3 _).mono ?_; rintro e w' ⟨rfl, ⟨⟨nk3, rfl⟩⟩⟩)) | (go_at_call 15; (refine (q4 _).mono ?_; rintro e w' ⟨rfl, ⟨⟨nk4, rfl⟩⟩⟩)))
                  refine bodyPost_ret (results_tmp2 rfl _ _ _) rfl ?_
                  first | exact hret _ HV1.out | exact hret _ (pw_below_drewN HV1.out _) | exact hret _ (pw_below_drewN (pw_below_drewN HV1.out _) _) | exact hret _ (pw_below_drewN (pw_below_drewN (pw_below_drewN HV1.out _) _) _)
                | true =>
                  cases r2 with
                  | false =>
                    go_wp2_with (first | (go_at_call 12; (refine (q1 _).mono ?_; rintro e w' ⟨rfl, rfl⟩)) | (go_at_call 13; (refine (q2 _).mono ?_; rintro e w' ⟨rfl, ⟨⟨nk2, rfl⟩⟩⟩)) | (go_at_call 14; (refine (q3 _).mono ?_; rintro e w' ⟨rfl, ⟨⟨nk3, rfl⟩⟩⟩)) | (go_at_call 15; (refine (q4 _).mono ?_; rintro e w' ⟨rfl, ⟨⟨nk4, rfl⟩⟩⟩)))
                    refine bodyPost_ret (results_tmp2 rfl _ _ _) rfl ?_
                    first | exact hret _ HV1.out | exact hret _ (pw_below_drewN HV1.out _) | exact hret _ (pw_below_drewN (pw_below_drewN HV1.out _) _) | exact hret _ (pw_below_drewN (pw_below_drewN (pw_below_drewN HV1.out _) _) _)
                  | true =>
                    cases r3 with
                    | true =>
                      go_wp2_with (first | (go_at_call 12; (refine (q1 _).mono ?_; rintro e w' ⟨rfl, rfl⟩)) | (go_at_call 13; (refine (q2 _).mono ?_; rintro e w' ⟨rfl, ⟨⟨nk2, rfl⟩⟩⟩)) | (go_at_call 14; (refine (q3 _).mono ?_; rintro e w' ⟨rfl, ⟨⟨nk3, rfl⟩⟩⟩)) | (go_at_call 15; (refine (q4 _).mono ?_; rintro e w' ⟨rfl, ⟨⟨nk4, rfl⟩⟩⟩)))
                      refine bodyPost_ret (results_tmp2 rfl _ _ _) rfl ?_
                      first | exact hret _ HV1.out | exact hret _ (pw_below_drewN HV1.out _) | exact hret _ (pw_below_drewN (pw_below_drewN HV1.out _) _) | exact hret _ (pw_below_drewN (pw_below_drewN (pw_below_drewN HV1.out _) _) _)
                    | false =>
                      cases r4 with
                      | true =>
                        go_wp2_with (first | (go_at_call 12; (refine (q1 _).mono ?_; rintro e w' ⟨rfl, rfl⟩)) | (go_at_call 13; (refine (q2 _).mono ?_; rintro e w' ⟨rfl, ⟨⟨nk2, rfl⟩⟩⟩)) | (go_at_call 14; (refine (q3 _).mono ?_; rintro e w' ⟨rfl, ⟨⟨nk3, rfl⟩⟩⟩)) | (go_at_call 15; (refine (q4 _).mono ?_; rintro e w' ⟨rfl, ⟨⟨nk4, rfl⟩⟩⟩)))
                        refine bodyPost_ret (results_tmp2 rfl _ _ _) rfl ?_
                        first | exact hret _ HV1.out | exact hret _ (pw_below_drewN HV1.out _) | exact hret _ (pw_below_drewN (pw_below_drewN HV1.out _) _) | exact hret _ (pw_below_drewN (pw_below_drewN (pw_below_drewN HV1.out _) _) _)
                      | false =>
                        by_cases hk2 : k = 2
                        · subst hk2
                          go_wp2_with (first | (go_at_call 12; (refine (q1 _).mono ?_; rintro e w' ⟨rfl, rfl⟩)) | (go_at_call 13; (refine (q2 _).mono ?_; rintro e w' ⟨rfl, ⟨⟨nk2, rfl⟩⟩⟩)) | (go_at_call 14; (refine (q3 _).mono ?_; rintro e w' ⟨rfl, ⟨⟨nk3, rfl⟩⟩⟩)) | (go_at_call 15; (refine (q4 _).mono ?_; rintro e w' ⟨rfl, ⟨⟨nk4, rfl⟩⟩⟩)))
                          go_roundg (ats.length - (i + 1))
                          case measure => omega
                          case rel =>
                            have x1 := by first | exact HP.out.1 rfl | exact HP.out.1 trivial
                            have x3 := by first | exact HP.out.2.1 rfl | exact HP.out.2.1 trivial
                            have x4 := by first | exact HP.out.2.2.1 rfl | exact HP.out.2.2.1 trivial
                            refine ⟨i + 1, by omega, by go_num, ?_, ?_, pw_below_drewN HV2.out _⟩
                            · have e1 : sn ++ (⟨#[32]⟩ ++ a.f1 ++ ⟨#[32]⟩) = bStr (seenB (ats.take (i + 1))) := str_ext (by rw [add_data, HP.out.2.2.2.2, ← HP.out.2.2.2.1, bStr_data, bStr_data, seenB_take hAt.out])
                              rw [e1]
                            · have e2 : ats.take (i + 1) = ats.take i ++ [a] := by rw [List.take_add_one, hAt.out]; rfl
                              rw [e2]
                              refine AtsOk.snoc HI.out.1 ⟨x1, x3⟩ (by simp) fun q hq => ?_
                              rw [← HP.out.2.2.2.1] at x4
                              exact x4 q hq
                        · by_cases hk4 : k = 4
                          · subst hk4
                            go_wp2_with (first | (go_at_call 12; (refine (q1 _).mono ?_; rintro e w' ⟨rfl, rfl⟩)) | (go_at_call 13; (refine (q2 _).mono ?_; rintro e w' ⟨rfl, ⟨⟨nk2, rfl⟩⟩⟩)) | (go_at_call 14; (refine (q3 _).mono ?_; rintro e w' ⟨rfl, ⟨⟨nk3, rfl⟩⟩⟩)) | (go_at_call 15; (refine (q4 _).mono ?_; rintro e w' ⟨rfl, ⟨⟨nk4, rfl⟩⟩⟩)))
                            go_roundg (ats.length - (i + 1))
                            case measure => omega
                            case rel =>
                              have x1 := by first | exact HP.out.1 rfl | exact HP.out.1 trivial
                              have x3 := by first | exact HP.out.2.1 rfl | exact HP.out.2.1 trivial
                              have x4 := by first | exact HP.out.2.2.1 rfl | exact HP.out.2.2.1 trivial
                              refine ⟨i + 1, by omega, by go_num, ?_, ?_, pw_below_drewN HV2.out _⟩
                              · have e1 : sn ++ (⟨#[32]⟩ ++ a.f1 ++ ⟨#[32]⟩) = bStr (seenB (ats.take (i + 1))) := str_ext (by rw [add_data, HP.out.2.2.2.2, ← HP.out.2.2.2.1, bStr_data, bStr_data, seenB_take hAt.out])
                                rw [e1]
                              · have e2 : ats.take (i + 1) = ats.take i ++ [a] := by rw [List.take_add_one, hAt.out]; rfl
                                rw [e2]
                                refine AtsOk.snoc HI.out.1 ⟨x1, x3⟩ (by simp) fun q hq => ?_
                                rw [← HP.out.2.2.2.1] at x4
                                exact x4 q hq
                          · have b2 : (k != 2) = true := by simpa using hk2
                            have b4 : (k != 4) = true := by simpa using hk4
                            clear hk2 hk4
                            go_wp2_with (first | (go_at_call 12; (refine (q1 _).mono ?_; rintro e w' ⟨rfl, rfl⟩)) | (go_at_call 13; (refine (q2 _).mono ?_; rintro e w' ⟨rfl, ⟨⟨nk2, rfl⟩⟩⟩)) | (go_at_call 14; (refine (q3 _).mono ?_; rintro e w' ⟨rfl, ⟨⟨nk3, rfl⟩⟩⟩)) | (go_at_call 15; (refine (q4 _).mono ?_; rintro e w' ⟨rfl, ⟨⟨nk4, rfl⟩⟩⟩)))
                            refine bodyPost_ret (results_tmp2 rfl _ _ _) rfl ?_
                            first | exact hret _ HV1.out | exact hret _ (pw_below_drewN HV1.out _) | exact hret _ (pw_below_drewN (pw_below_drewN HV1.out _) _) | exact hret _ (pw_below_drewN (pw_below_drewN (pw_below_drewN HV1.out _) _) _)
              · go_wp2_with (first | (go_at_call 12; (refine (q1 _).mono ?_; rintro e w' ⟨rfl, rfl⟩)) | (go_at_call 13; (refine (q2 _).mono ?_; rintro e w' ⟨rfl, ⟨⟨nk2, rfl⟩⟩⟩)) | (go_at_call 14; (refine (q3 _).mono ?_; rintro e w' ⟨rfl, ⟨⟨nk3, rfl⟩⟩⟩)) | (go_at_call 15; (refine (q4 _).mono ?_; rintro e w' ⟨rfl, ⟨⟨nk4, rfl⟩⟩⟩)))
                refine bodyPost_ret (results_tmp2 rfl _ _ _) rfl ?_
                first | exact hret _ HV1.out | exact hret _ (pw_below_drewN HV1.out _) | exact hret _ (pw_below_drewN (pw_below_drewN HV1.out _) _) | exact hret _ (pw_below_drewN (pw_below_drewN (pw_below_drewN HV1.out _) _) _)
            · obtain rfl : i = ats.length := by omega
              have hWO := HW.out trivial
              have hk16 : k = 1 ∨ k = 2 ∨ k = 3 ∨ k = 4 ∨ k = 5 ∨ k = 6 := by
                rcases hWO with ⟨h, _⟩ | ⟨h, _⟩ | ⟨h, _⟩ | ⟨h, _⟩ <;> omega
              have hd0 : k = 2 ∨ k = 3 ∨ k = 4 → 0 < d.size := by
                intro hk
                rcases hWO with ⟨h, _⟩ | ⟨_, h, _⟩ | ⟨h, _⟩ | ⟨h, _⟩
                · omega
                · have := h.2; omega
                · omega
                · omega
              have hTT := tokenText_any k d raw A2 ats.length c2 ats wr hk16 rfl hc2 hCr hd0 (by omega)
              have htk : tkB t = tokTxt k d.data.toList ats := by rw [tkB, HTe.out.1, HTe.out.2.1, HTe.out.2.2]
              obtain ⟨X, hX, hXs⟩ : ∃ X, bStr (tokTxt k d.data.toList ats) = X ∧ X.size ≤ 1073741824 := ⟨_, rfl, by
                rw [bStr_size, ← htk]
                have h1 := HOUT.out.2
                have h2 := HN.out.2.1
                omega⟩
              rw [hX] at hTT
              have HX := Lib.hid (And.intro hX htk)
              have HOK := Lib.hid (And.intro hWO hok)
              clear hX htk hgr hCr hbr hok hbw hWO hk16 hd0 hi
              go_wp2_with (go_at_call 16; go_must (refine hTT.mono ?_; rintro e w' ⟨rfl, hb1⟩))
              go_roundg (n - (j + 1))
              case measure => omega
              case rel =>
                refine ⟨j + 1, by omega, by go_num, ?_, ?_, HI.out.2.2.trans (hb1.mono HI.out.2.2.size)⟩
                · have e1 : out ++ X = bStr (tksB (l.take (j + 1))) := str_ext (by rw [add_data, ← HOUT.out.1, ← HX.out.1, bStr_data, bStr_data, bStr_data, tksB_take HT.out.1, HX.out.2])
                  rw [e1]
                · intro u hu
                  rw [List.take_add_one, HT.out.1] at hu
                  rcases List.mem_append.1 hu with hu | hu
                  · exact HO.out u hu
                  · obtain rfl : u = t := by simpa using hu
                    refine ⟨by rw [HTe.out.1, HTe.out.2.1]; exact HOK.out.1, ?_⟩
                    rw [HTe.out.1, HTe.out.2.2]
                    have := HOK.out.2
                    rwa [List.take_length] at this
        · go_wp2_with (go_at_call 11; go_must (refine (hw2 _).mono ?_; rintro e w' ⟨rfl, ⟨⟨nq, rfl⟩⟩⟩))
          refine bodyPost_ret (results_tmp2 rfl _ _ _) rfl ?_
          refine ⟨_, _, rfl, fun h => (by cases h), pw_below_drewN (HB.out.trans ?_) _⟩
          have := HG.out.2.1
          rw [← HG.out.1] at this
          exact this.mono HB.out.size
    · obtain rfl : j = n := by omega
      go_wp2_with fail
      refine bodyPost_ret (results_tmp2 rfl _ _ _) rfl ?_
      have e1 : l.take j = l := by rw [← HN.out.1, List.take_length]
      refine ⟨_, _, rfl, fun _ => ⟨by rw [e1], ?_⟩, HB.out⟩
      have := HO.out
      rw [e1] at this
      exact this

end Go.Proofs.YtpkelgekannioaaGreatDoor
