/- What merged makes of tokens, that it is what the scanner tells of what they are written to, and the tests of sizes and of equal lists. Conditions: sizes below 2^30. -/
import Derived.Test.YtpkelgekannioaaGreatDoorGkTxt
import Derived.Test.YtpkelgekannioaaGreatDoorGhScan
import Derived.Test.YtpkelgekannioaaGreatDoorPFnTokenReadx95
import Derived.Test.YtpkelgekannioaaGreatDoorGiCom
import Derived.Test.YtpkelgekannioaaGreatDoorGcFacts
import Derived.Test.YtpkelgekannioaaGreatDoorPFnTokenReadx5
import Derived.Test.YtpkelgekannioaaGreatDoorPFnTokenReadx94
set_option linter.unusedSimpArgs false
set_option linter.unusedVariables false

namespace Go.Proofs.YtpkelgekannioaaGreatDoor
open Go.RowKit Go.Shelf Go.BigFrame
open Go.Proofs.YtpkelgekannioaaGreatDoorW.PrintWords
open PFnTokenRead (S34 S38 S52 S54 k34 k38 k52 k54 rd_T38 at_T38 rd_T34 at_T34)
set_option linter.unusedSimpArgs false
set_option linter.unusedVariables false

def mA (a : S38) : S54 := ⟨a.f1, a.f2⟩
def mX (t : S34) : S52 := ⟨t.f0, t.f1, t.f2.map mA⟩
def mStep (st : List UInt8 × List S52) (t : S34) : List UInt8 × List S52 :=
  if t.f0 = 1 then (st.1 ++ t.f1.data.toList, st.2) else ([], st.2 ++ textTok st.1 ++ [mX t])
def mRun (l : List S34) : List UInt8 × List S52 := l.foldl mStep ([], [])
/-- The rows that stand for a state. -/
def mO (st : List UInt8 × List S52) : List S52 := st.2 ++ textTok st.1
def mL (l : List S34) : List S52 := mO (mRun l)
theorem mRun_take {l : List S34} {k : Nat} {t : S34} (h : l[k]? = some t) : mRun (l.take (k + 1)) = mStep (mRun (l.take k)) t := by
  rw [mRun, List.take_add_one, h, List.foldl_append]
  rfl
/-- No text stands last. -/
def LastOk (out : List S52) : Prop := ∀ x, out.getLast? = some x → x.f0 ≠ 1
theorem lastOk_step {st : List UInt8 × List S52} {t : S34} (h : LastOk st.2) : LastOk (mStep st t).2 := by
  unfold mStep
  split
  · exact h
  · rename_i hk
    intro x hx
    simp at hx
    subst hx
    exact hk
theorem lastOk_run : ∀ (l : List S34) (st : List UInt8 × List S52), LastOk st.2 → LastOk (l.foldl mStep st).2
  | [], _, h => h
  | t :: l, st, h => lastOk_run l _ (lastOk_step h)
theorem lastOk_mRun (l : List S34) : LastOk (mRun l).2 := lastOk_run l _ (fun x hx => by simp at hx)

def dB (l : List S34) : List UInt8 := l.flatMap fun t => t.f1.data.toList
theorem run_len : ∀ (l : List S34) (st : List UInt8 × List S52), (l.foldl mStep st).1.length ≤ st.1.length + (dB l).length ∧ (mO (l.foldl mStep st)).length ≤ (mO st).length + l.length
  | [], st => ⟨Nat.le_add_right _ _, Nat.le_refl _⟩
  | t :: l, st => by
    obtain ⟨h1, h2⟩ := run_len l (mStep st t)
    have e1 : (dB (t :: l)).length = t.f1.data.toList.length + (dB l).length := by
      have : dB (t :: l) = t.f1.data.toList ++ dB l := rfl
      rw [this, List.length_append]
    have e2 : (mStep st t).1.length ≤ st.1.length + t.f1.data.toList.length := by
      unfold mStep
      split
      · rw [List.length_append]; exact Nat.le_refl _
      · simp
    have e3 : (mO (mStep st t)).length ≤ (mO st).length + 1 := by
      unfold mStep mO
      split
      · have hA : (textTok (st.1 ++ t.f1.data.toList)).length ≤ 1 := by unfold textTok; split <;> simp
        simp only [List.length_append]
        omega
      · have hA : textTok [] = [] := rfl
        simp only [hA, List.length_append, List.length_cons, List.length_nil]
        omega
    rw [List.foldl_cons, e1, List.length_cons]
    omega
theorem mRun_len (l : List S34) : (mRun l).1.length ≤ (dB l).length ∧ (mL l).length ≤ l.length := by
  have h := run_len l ([], [])
  have e0 : mO ([], []) = [] := rfl
  rw [e0] at h
  refine ⟨?_, ?_⟩
  · show (l.foldl mStep ([], [])).1.length ≤ _
    have := h.1
    simp only [List.length_nil] at this
    omega
  · show (mO (l.foldl mStep ([], []))).length ≤ _
    have := h.2
    simp only [List.length_nil] at this
    omega
theorem dB_take {l : List S34} {k : Nat} {t : S34} (h : l[k]? = some t) : (dB (l.take k)).length + t.f1.size ≤ (dB l).length := by
  have h1 : (dB l).length = (dB (l.take (k + 1) ++ l.drop (k + 1))).length := by rw [List.take_append_drop]
  have h2 : dB (l.take (k + 1)) = dB (l.take k) ++ t.f1.data.toList := by
    rw [List.take_add_one, h]
    simp [dB]
  have h3 : dB (l.take (k + 1) ++ l.drop (k + 1)) = dB (l.take (k + 1)) ++ dB (l.drop (k + 1)) := by simp only [dB, List.flatMap_append]
  rw [h3, List.length_append, h2, List.length_append, ← Lib.size_eq] at h1
  omega

/-! ### The four ways -/
theorem mO_other {st : List UInt8 × List S52} {t : S34} (h : t.f0 ≠ 1) : mO (mStep st t) = mO st ++ [mX t] := by
  unfold mStep
  rw [if_neg h]
  simp [mO, textTok]
theorem mO_none {st : List UInt8 × List S52} {t : S34} (h : t.f0 = 1) (hd : t.f1.size = 0) : mO (mStep st t) = mO st := by
  have : t.f1.data.toList = [] := List.eq_nil_of_length_eq_zero (by rw [← Lib.size_eq]; exact hd)
  unfold mStep
  rw [if_pos h, this, List.append_nil]
theorem mO_new {st : List UInt8 × List S52} {t : S34} (h : t.f0 = 1) (hs : st.1 = []) (hd : t.f1.size ≠ 0) (ha : t.f2 = []) : mO (mStep st t) = mO st ++ [mX t] := by
  have hne : t.f1.data.toList ≠ [] := fun e => hd (by rw [Lib.size_eq, e]; rfl)
  unfold mStep
  rw [if_pos h]
  unfold mO
  rw [hs, List.nil_append]
  have e1 : textTok [] = [] := rfl
  have e2 : textTok t.f1.data.toList = [mX t] := by
    unfold textTok
    rw [if_neg hne, mX, h, ha]
    first | done | rfl
  rw [e1, e2, List.append_nil]
theorem mO_add {st : List UInt8 × List S52} {t : S34} (h : t.f0 = 1) (hs : st.1 ≠ []) : mO st = st.2 ++ [⟨1, bStr st.1, []⟩] ∧ mO (mStep st t) = (mO st).set st.2.length ⟨1, bStr st.1 ++ t.f1, []⟩ := by
  have e1 : mO st = st.2 ++ [⟨1, bStr st.1, []⟩] := by
    unfold mO textTok
    rw [if_neg hs]
  refine ⟨e1, ?_⟩
  rw [e1]
  unfold mStep
  rw [if_pos h]
  unfold mO textTok
  rw [if_neg (by simp [hs]), List.set_append_right _ _ (Nat.le_refl _), Nat.sub_self]
  have : bStr (st.1 ++ t.f1.data.toList) = bStr st.1 ++ t.f1 := str_ext (by rw [add_data, bStr_data, bStr_data])
  simp [tok0, this]

end Go.Proofs.YtpkelgekannioaaGreatDoor

namespace Go.Proofs.YtpkelgekannioaaGreatDoor
open Go.RowKit Go.Shelf Go.BigFrame
open Go.Proofs.YtpkelgekannioaaGreatDoorW.PrintWords
open PFnTokenRead (S34 S38 S52 S54 k34 k38 k52 k54 rd_T38 at_T38 rd_T34 at_T34)
set_option linter.unusedSimpArgs false
set_option linter.unusedVariables false
attribute [local go_sem ↓] app_wrap

def htmlS : ByteArray := ⟨#[104, 116, 109, 108]⟩
theorem Trimmed_html (w : World) : Calls Tryz.prog 21 #[.string htmlS] w fun e w' => e = .returned (.string htmlS) ∧ Drawn0 w w' :=
  PFnTokenRead.spec_Trimmed.calls 12 _ _ w (by kernel_rfl)

theorem ne54_52 : ∀ q, q ∈ 54 :: k54.E → q ≠ 52 := by
  have : k54.E = [] := rfl
  rw [this]
  decide
theorem ne54_34 : ∀ q, q ∈ 54 :: k54.E → q ≠ 34 := by
  have : k54.E = [] := rfl
  rw [this]
  decide
/-- append of one attribute. -/
theorem mat_append {B : Nat} {w : World} {ov : Value} {l : List S54} (t : S54) (hQ : k54.R 54 w B anyB ov l) (hBw : B ≤ w.heap.size) (hl : (l.length + 1) * 32 ≤ 140737488355328) :
    ∃ v1 w1, (appW #[50, 50] 50 #[ov, .slice (some ⟨w.heap.size, 0, none⟩) 1 1]).run Tryz.prog (w.alloc (.cells #[.string t.f0, .string t.f1] 54)) = .ok v1 w1 ∧ k54.R 54 w1 B anyB v1 (l ++ [t]) ∧ w.grownBy w1 ov.ownBlock ∧
      (∀ k, ov.ownBlock = some k → B ≤ k ∧ ∃ cells, w.heap[k]? = some (.cells cells 54 (0, 0))) := by
  obtain ⟨v1, w1, h1, h2, _, h4, _⟩ := R_run (P := Tryz.prog) (w0 := w) k54 B 50 50 54 (.agg #[(.string ⟨#[]⟩), (.string ⟨#[]⟩)]) 32 Tryz.underlying50 PFnTokenRead.info54 rfl (by decide) (by decide) ov l t [.string t.f0, .string t.f1] anyB (fun k => anyB k ∧ some k ≠ ov.ownBlock)
    (PFnTokenRead.k54_mkM w B _ t) (fun k hk => hk) (fun _ _ => trivial) hQ (Below.refl _ _) hBw hl
  exact ⟨v1, w1, h1, h2, h4, fun k hk => ⟨Kd.R_base hQ k hk, Kd.R_typed hQ k hk⟩⟩

/-- append of a token whose attributes came late. -/
theorem mrg_append {B M : Nat} {wr wx : World} {ov v2 : Value} {out : List S52} (x : S52) (hR : k52.R 52 wr B anyB ov out) (hM : wr.heap.size = M) (hB : B ≤ M) (hb : Below M wr wx) (ha : k54.R 54 wx M anyB v2 x.f2) (hl : (out.length + 1) * 48 ≤ 140737488355328) :
    ∃ v1 w1, (appW #[26, 26] 26 #[ov, .slice (some ⟨wx.heap.size, 0, none⟩) 1 1]).run Tryz.prog (wx.alloc (.cells #[.int .i64 x.f0, .string x.f1, v2] 52)) = .ok v1 w1 ∧ k52.R 52 w1 B anyB v1 (out ++ [x]) ∧ Below B wr w1 := by
  subst hM
  have hBx : B ≤ wx.heap.size := Nat.le_trans hB hb.size
  obtain ⟨v1, w1, h1, h2, h3, h4⟩ := out_append x 26 (Kd.R_below hR hb) (Kd.R_lower ha hB) hBx hl
  exact ⟨v1, w1, h1, h2, (hb.mono hB).grown h3 hBx (fun k hk => (h4 k hk).1)⟩

theorem wrap_pred (p : Nat) (h : p ≤ 1099511627776) : wrap64 (((p + 1 : Nat) : Int) - 1) = (p : Int) := by
  rw [show (((p + 1 : Nat) : Int) - 1) = (p : Int) by omega]
  unfold wrap64
  omega
/-- The last row, read and written. -/
theorem mrg_last {W : World} {B n q p : Nat} {A : Option Addr} {O : List S52} (hR : k52.R 52 W B anyB (.slice A n q) O) (hp : O.length = p + 1) :
    n = p + 1 ∧ ∃ g x, A = some ⟨g, 0, none⟩ ∧ O[p]? = some x ∧ B ≤ g ∧ g < W.heap.size ∧ W.cell? ⟨g, p * 3, none⟩ = some (.int .i64 x.f0) ∧ W.cell? ⟨g, p * 3 + 1, none⟩ = some (.string x.f1) ∧ W.frozen? ⟨g, p * 3 + 1, none⟩ = false ∧
      (∀ s, k52.R 52 (W.setCell ⟨g, p * 3 + 1, none⟩ (.string s)) B anyB (.slice A n q) (O.set p ⟨x.f0, s, x.f2⟩)) := by
  obtain ⟨hn, hnc, hC⟩ := Kd.R_reads' hR
  have hnp : n = p + 1 := by omega
  obtain ⟨g, hA⟩ : ∃ g, A = some ⟨g, 0, none⟩ := by
    obtain ⟨inner, ho⟩ := Kd.R_own hR
    rcases ho.2 with ⟨h, h0⟩ | ⟨g, cap, cur, h, _⟩
    · omega
    · injection h with h _ _
      exact ⟨g, h⟩
  subst hA
  obtain ⟨x, hx⟩ : ∃ x, O[p]? = some x := ⟨_, List.getElem?_eq_getElem (by omega)⟩
  have hx' : O.getD ((p : Int)).toNat PFnTokenRead.z52 = x := by simp [List.getD_eq_getElem?_getD, hx]
  obtain ⟨c, hcl, hM, hcc, hfz⟩ := Kd.R_elem hR PFnTokenRead.z52 (p : Int) (by omega) (by omega)
  rw [hx'] at hM
  obtain ⟨v2, rfl, hv2⟩ := PFnTokenRead.k52_openM hM
  simp only [Int.toNat_natCast] at hcc hfz
  have hgb : B ≤ g := Kd.R_base hR g (by simp [Value.ownBlock])
  obtain ⟨cells, hcells⟩ := Kd.R_typed hR g (by simp [Value.ownBlock])
  refine ⟨hnp, g, x, rfl, hx, hgb, blk_lt hcells, hcc 0 _ rfl, hcc 1 _ rfl, hfz 1, fun s => ?_⟩
  have h := (Kd.R_seg hR (p : Int) (by omega) (by omega) (c := [.int .i64 x.f0, .string x.f1, v2]) (seg := [.string s]) (j := 1) rfl (by simpa using hcc) (show 1 + 1 ≤ 3 by decide) (x' := ⟨x.f0, s, x.f2⟩) (okp := fun k => anyB k ∧ k ≠ g) (PFnTokenRead.k52_mkM W B _ ⟨x.f0, s, x.f2⟩ hv2) (fun k hk => hk)).1
  simp only [Int.toNat_natCast] at h
  exact h

set_option maxHeartbeats 8000000 in
set_option maxRecDepth 100000 in
theorem merged_any (A : Option Addr) (n c : Nat) (l : List S34) (w : World) (hn : l.length = n) (hnc : n ≤ c) (hA : k34.C w A n l) (hn30 : n ≤ 1073741824) (hok : ∀ t ∈ l, TokOk t) (hlim : (dB l).length ≤ 1073741824) (hat : ∀ t ∈ l, t.f2.length ≤ 1073741824) :
    Calls Tryz.prog 9 #[.slice A n c] w fun e w' => ∃ v, e = .returned v ∧ k52.R 52 w' w.heap.size anyB v (mL l) ∧ Below w.heap.size w w' := by
  have HN := Lib.hid (And.intro hn (And.intro hlim (And.intro hat hok)))
  have HA := Lib.hid hA
  clear hn hlim hat hok hA
  go_enter Tryz.func9, Tryz.ntmps9
  go_wp2_with fail
  go_loopg [3, 12] n (fun m s3 s12 wx => ∃ (j : Nat), j + m = n ∧ s12 = .int .i64 j ∧ k52.R 52 wx w.heap.size anyB s3 (mO (mRun (l.take j))) ∧ Below w.heap.size w wx)
  case atStart => exact ⟨0, by omega, by go_num, Kd.R_nil _ _ _ _ _, Below.refl _ _⟩
  case round =>
    obtain ⟨j, hm, rfl, hR, hbw⟩ := hrel
    by_cases hlt : j < n
    · obtain ⟨t, ht⟩ : ∃ t, l[j]? = some t := ⟨_, List.getElem?_eq_getElem (by rw [HN.out.1]; exact hlt)⟩
      have htl := List.mem_of_getElem? ht
      have hC : k34.C wr A n l := Kd.C_below HA.out hbw
      obtain ⟨ad, A2, c2, rfl, hx0, hx1, hx2, hx3, hc2, hC2⟩ := at_T34 hC (j : Int) (by omega) (by omega)
      have hrd : rd_T34 l (j : Int) = t := by simp [rd_T34, List.getD_eq_getElem?_getD, ht]
      rw [hrd] at hx0 hx1 hx2 hx3 hc2 hC2
      simp only [Int.toNat_natCast] at hx0 hx1 hx2 hx3
      have hji : (j : Int) < (n : Int) := by omega
      have hds : (mRun (l.take j)).1.length + t.f1.size ≤ 1073741824 := by
        have h1 := (mRun_len (l.take j)).1
        have h2 := dB_take ht
        have h3 := HN.out.2.1
        omega
      have hol : (mO (mRun (l.take j))).length ≤ 1073741824 := by
        have h1 := (mRun_len (l.take j)).2
        have h2 : (l.take j).length ≤ j := List.length_take_le _ _
        show (mL (l.take j)).length ≤ _
        omega
      have hal := HN.out.2.2.1 t htl
      have htok := HN.out.2.2.2 t htl
      have hbound := Kd.R_bound hR
      have HR := Lib.hid (And.intro hR (And.intro hbw (And.intro hC2 hbound)))
      have HJ := Lib.hid (And.intro ht (And.intro hds (And.intro hol htok)))
      clear hrd hC hR hbw hC2 ht htl hbound hds hol
      obtain ⟨k, hk⟩ : ∃ k, t.f0 = k := ⟨_, rfl⟩
      obtain ⟨d, hd⟩ : ∃ d, t.f1 = d := ⟨_, rfl⟩
      obtain ⟨ats, hats⟩ : ∃ ats, t.f2 = ats := ⟨_, rfl⟩
      obtain ⟨raw, hraw⟩ : ∃ raw, t.f3 = raw := ⟨_, rfl⟩
      rw [hk] at hx0
      rw [hd] at hx1
      rw [hats] at hx2 hc2 hal
      rw [hraw] at hx3
      have hk6 : k = 6 → d = htmlS := by
        intro h6
        have h1 := htok.1
        rw [hk, hd] at h1
        rcases h1 with ⟨h, _⟩ | ⟨h, _⟩ | ⟨h, _⟩ | ⟨_, h⟩
        · omega
        · omega
        · omega
        · exact h
      have HTe := Lib.hid (And.intro hk (And.intro hd hats))
      have H6 := Lib.hid hk6
      clear hk hd hats hraw htok hk6
      go_upto_region 6 with fail
      have hnt := heap_alloc_new wr (Obj.cells #[Value.int IntKind.i64 k, Value.string d, Value.slice A2 ats.length c2, Value.string raw] 34)
      have hbt := below_alloc (Below.refl wr.heap.size wr) (Obj.cells #[Value.int IntKind.i64 k, Value.string d, Value.slice A2 ats.length c2, Value.string raw] 34)
      have hst : (wr.alloc (Obj.cells #[Value.int IntKind.i64 k, Value.string d, Value.slice A2 ats.length c2, Value.string raw] 34)).heap.size = wr.heap.size + 1 := by simp
      generalize wr.alloc (Obj.cells #[Value.int IntKind.i64 k, Value.string d, Value.slice A2 ats.length c2, Value.string raw] 34) = V at hnt hbt hst ⊢
      have hnx := heap_alloc_new V (Obj.cells #[Value.int IntKind.i64 k, Value.string d, Value.slice none 0 0] 52)
      have hbx := hbt.alloc (by omega) (Obj.cells #[Value.int IntKind.i64 k, Value.string d, Value.slice none 0 0] 52)
      have hnt' := blk_alloc hnt (Obj.cells #[Value.int IntKind.i64 k, Value.string d, Value.slice none 0 0] 52)
      rw [hst] at hnx
      generalize V.alloc (Obj.cells #[Value.int IntKind.i64 k, Value.string d, Value.slice none 0 0] 52) = W5 at hnx hbx hnt' ⊢
      clear hnt hbt hst V
      obtain ⟨M, hM⟩ : ∃ M, wr.heap.size = M := ⟨_, rfl⟩
      rw [hM] at hnx hbx hnt' ⊢
      obtain ⟨X, hX⟩ : ∃ X, M + 1 = X := ⟨_, rfl⟩
      rw [hX] at hnx ⊢
      have HM := Lib.hid (And.intro hM hX)
      clear hM hX hx0 hx1 hx2 hx3
      obtain ⟨w9, hw9⟩ : ∃ w9, w9 = wr := ⟨wr, rfl⟩
      subst hw9
      have x1 : W5.cell? ⟨M, 0, none⟩ = some (.int .i64 k) := by rw [blk_cell hnt']; rfl
      have x2 : W5.cell? ⟨M, 1, none⟩ = some (.string d) := by rw [blk_cell hnt']; rfl
      have x3 : W5.cell? ⟨M, 2, none⟩ = some (.slice A2 ats.length c2) := by rw [blk_cell hnt']; rfl
      have HW := Lib.hid (And.intro hnx (And.intro hnt' hbx))
      clear hnx hnt' hbx
      by_cases hk : k = 6
      · subst hk
        obtain rfl := H6.out rfl
        have hl0 : ats = [] := by
          have h1 := HJ.out.2.2.2.2.2.2
          rw [HTe.out.1, HTe.out.2.2] at h1
          exact Classical.byContradiction fun h => by have := h1 h; omega
        subst hl0
        simp only [List.length_nil] at x3 ⊢
        go_wp2_with (go_at_call 21; go_must (refine (Trimmed_html _).mono ?_; rintro e w' ⟨rfl, ⟨⟨nq, rfl⟩⟩⟩; have fx := blk_frozen (blk_drewN HW.out.1 nq) 1; have cx := blk_cell (blk_drewN HW.out.1 nq) 1))
        have hX6 := blk_set (blk_drewN HW.out.1 nq) 1 (.string htmlS)
        have hT6 := blk_far (blk_drewN HW.out.2.1 nq) (p := ⟨X, 1, none⟩) (by have := HM.out.2; show M ≠ X; omega) (.string htmlS)
        have hB6 : Below M w9 ((W5.drewN nq).setCell { block := X, off := 1 } (Value.string htmlS)) := (pw_below_drewN HW.out.2.2 nq).setCell (p := ⟨X, 1, none⟩) (by have := HM.out.2; show M ≤ X; omega) _
        generalize ((W5.drewN nq).setCell { block := X, off := 1 } (Value.string htmlS)) = W6 at hX6 hT6 hB6 ⊢
        clear cx fx x1 x2 x3
        go_loopg [31] 1 (fun m s31 wx => m = 1 ∧ s31 = .int .i64 0 ∧ wx = W6)
        case atStart => exact ⟨rfl, rfl, rfl⟩
        case round =>
          obtain ⟨rfl, rfl, rfl⟩ := hrel
          have c0 : wr.cell? ⟨M, 0, none⟩ = some (.int .i64 6) := by rw [blk_cell hT6]; rfl
          have y0 : wr.cell? ⟨X, 0, none⟩ = some (.int .i64 6) := by rw [blk_cell hX6]; rfl
          have y1 : wr.cell? ⟨X, 1, none⟩ = some (.string htmlS) := by rw [blk_cell hX6]; rfl
          have y2 : wr.cell? ⟨X, 2, none⟩ = some (.slice none 0 0) := by rw [blk_cell hX6]; rfl
          obtain ⟨v1, w1, hrun, hRn, hBn⟩ := mrg_append ⟨6, htmlS, []⟩ HR.out.1 HM.out.1 (by have := HR.out.2.1.size; have := HM.out.1; omega) hB6 (Kd.R_nil _ _ _ _ _) (by have := HJ.out.2.2.1; omega)
          obtain ⟨A8, q8, rfl⟩ := Kd.R_slice HR.out.1
          have HF := Lib.hid (And.intro hRn hBn)
          clear hRn hBn hX6 hT6 hB6
          go_wp2_with fail
          go_roundg (n - (j + 1))
          case measure => omega
          case rel =>
            refine ⟨j + 1, by omega, by go_num, ?_, HR.out.2.1.trans HF.out.2⟩
            rw [mRun_take HJ.out.1, mO_other (by rw [HTe.out.1]; decide), mX, HTe.out.1, HTe.out.2.1, HTe.out.2.2]
            exact HF.out.1
      · by_cases hk1 : k = 1
        · subst hk1
          have hl0 : ats = [] := by
            have h1 := HJ.out.2.2.2.2.2.2
            rw [HTe.out.1, HTe.out.2.2] at h1
            exact Classical.byContradiction fun h => by have := h1 h; omega
          subst hl0
          simp only [List.length_nil] at x3 ⊢
          clear hk
          go_wp2_with fail
          have hX6 := HW.out.1
          have hT6 := HW.out.2.1
          have hB6 := HW.out.2.2
          clear x1 x2 x3
          go_loopg [31] 1 (fun m s31 wx => m = 1 ∧ s31 = .int .i64 0 ∧ wx = W5)
          case atStart => exact ⟨rfl, rfl, rfl⟩
          case round =>
            obtain ⟨rfl, rfl, rfl⟩ := hrel
            have c0 : wr.cell? ⟨M, 0, none⟩ = some (.int .i64 1) := by rw [blk_cell hT6]; rfl
            have c1 : wr.cell? ⟨M, 1, none⟩ = some (.string d) := by rw [blk_cell hT6]; rfl
            have y0 : wr.cell? ⟨X, 0, none⟩ = some (.int .i64 1) := by rw [blk_cell hX6]; rfl
            have y1 : wr.cell? ⟨X, 1, none⟩ = some (.string d) := by rw [blk_cell hX6]; rfl
            have y2 : wr.cell? ⟨X, 2, none⟩ = some (.slice none 0 0) := by rw [blk_cell hX6]; rfl
            obtain ⟨st, hst⟩ : ∃ st, mRun (l.take j) = st := ⟨_, rfl⟩
            have hLast := lastOk_mRun (l.take j)
            rw [hst] at hLast
            have HS := Lib.hid (And.intro hst hLast)
            have hR9 := HR.out.1
            have hol := HJ.out.2.2.1
            rw [hst] at hR9 hol
            obtain ⟨A8, q8, rfl⟩ := Kd.R_slice hR9
            obtain ⟨v1, w1, hrun, hRn, hBn⟩ := mrg_append ⟨1, d, []⟩ hR9 HM.out.1 (by have := HR.out.2.1.size; have := HM.out.1; omega) hB6 (Kd.R_nil _ _ _ _ _) (by omega)
            have HF := Lib.hid (And.intro hRn (And.intro hBn hB6))
            have HR9 := Lib.hid hR9
            clear hst hLast hRn hBn hR9 hX6 hT6
            by_cases hs : st.1 = []
            · have hwM : w.heap.size ≤ M := by have := HR.out.2.1.size; have := HM.out.1; omega
              have keep : d.size = 0 → k52.R 52 wr w.heap.size anyB (.slice A8 (mO st).length q8) (mO (mRun (l.take (j + 1)))) := by
                intro h
                rw [mRun_take HJ.out.1, HS.out.1, mO_none HTe.out.1 (by rw [HTe.out.2.1]; exact h)]
                exact Kd.R_below HR9.out (by rw [HM.out.1]; exact HF.out.2.2)
              have fresh : st.1 = [] → d.size ≠ 0 → k52.R 52 w1 w.heap.size anyB v1 (mO (mRun (l.take (j + 1)))) := by
                intro h1 h2
                rw [mRun_take HJ.out.1, HS.out.1, mO_new HTe.out.1 h1 (by rw [HTe.out.2.1]; exact h2) HTe.out.2.2, mX, HTe.out.1, HTe.out.2.1, HTe.out.2.2]
                exact HF.out.1
              obtain ⟨L, hL⟩ : ∃ L, (mO st).length = L := ⟨_, rfl⟩
              have hOs : mO st = st.2 := by
                unfold mO
                rw [hs, show textTok [] = [] from rfl, List.append_nil]
              rw [hL] at hrun hol ⊢
              rcases L with _ | p
              · by_cases hd0 : d.toList.isEmpty = true
                · go_wp2_with fail
                  go_roundg (n - (j + 1))
                  case measure => omega
                  case rel =>
                    have h9 := keep (by have := Lib.size_eq d; rw [← Lib.toList_data, List.isEmpty_iff.1 hd0] at this; exact this)
                    rw [hL] at h9
                    exact ⟨j + 1, by omega, by go_num, h9, HR.out.2.1.trans (HF.out.2.2.mono hwM)⟩
                · go_wp2_with fail
                  go_roundg (n - (j + 1))
                  case measure => omega
                  case rel =>
                    exact ⟨j + 1, by omega, by go_num, fresh hs (fun e => hd0 (by rw [Lib.toList_data, List.isEmpty_iff]; exact List.eq_nil_of_length_eq_zero (by rw [← Lib.size_eq]; exact e))), HR.out.2.1.trans HF.out.2.1⟩
              · have hR9 := HR9.out
                rw [hL] at hR9
                obtain ⟨-, g, x, rfl, hx, hgb, hgl, e0, e1, e2, e3⟩ := mrg_last hR9 hL
                replace e0 := pw_cell_below (w1 := wr) (by rw [HM.out.1]; exact HF.out.2.2) e0
                have hw : wrap64 (((p + 1 : Nat) : Int) - 1) = (p : Int) := wrap_pred p (by omega)
                have hx1 : x.f0 ≠ 1 := HS.out.2 x (by rw [← hOs, List.getLast?_eq_getElem?, hL]; exact hx)
                have b1 : (x.f0 == 1) = false := by simpa using hx1
                clear hR9 e3 e1 e2 hx hOs hx1
                by_cases hd0 : d.toList.isEmpty = true
                · go_wp2_with fail
                  go_roundg (n - (j + 1))
                  case measure => omega
                  case rel =>
                    have h9 := keep (by have := Lib.size_eq d; rw [← Lib.toList_data, List.isEmpty_iff.1 hd0] at this; exact this)
                    rw [hL] at h9
                    exact ⟨j + 1, by omega, by go_num, h9, HR.out.2.1.trans (HF.out.2.2.mono hwM)⟩
                · go_wp2_with fail
                  go_roundg (n - (j + 1))
                  case measure => omega
                  case rel =>
                    exact ⟨j + 1, by omega, by go_num, fresh hs (fun e => hd0 (by rw [Lib.toList_data, List.isEmpty_iff]; exact List.eq_nil_of_length_eq_zero (by rw [← Lib.size_eq]; exact e))), HR.out.2.1.trans HF.out.2.1⟩
            · obtain ⟨hO1, hO2⟩ := mO_add (t := t) HTe.out.1 hs
              obtain ⟨p, hp⟩ : ∃ p, st.2.length = p := ⟨_, rfl⟩
              have hL : (mO st).length = p + 1 := by rw [hO1, List.length_append, hp]; rfl
              have hR9 := HR9.out
              rw [hL] at hrun hol hR9 ⊢
              obtain ⟨-, g, x, rfl, hx, hgb, hgl, e0, e1, e2, e3⟩ := mrg_last hR9 hL
              have hxe : x = ⟨1, bStr st.1, []⟩ := by
                rw [hO1, List.getElem?_append_right (by omega), hp, Nat.sub_self] at hx
                exact (Option.some.inj hx).symm
              subst hxe
              have hbM : Below w9.heap.size w9 wr := by rw [HM.out.1]; exact HF.out.2.2
              replace e0 := pw_cell_below hbM e0
              replace e1 := pw_cell_below hbM e1
              have hR9' := Kd.R_below hR9 hbM
              obtain ⟨-, g', x', hg', hx', -, -, -, -, e2', e3'⟩ := mrg_last hR9' hL
              obtain rfl : g = g' := by injection hg' with h; injection h
              have hw : wrap64 (((p + 1 : Nat) : Int) - 1) = (p : Int) := wrap_pred p (by omega)
              obtain ⟨sx, hsx, hsz⟩ : ∃ sx, bStr st.1 = sx ∧ sx.size + d.size ≤ 1073741824 := ⟨_, rfl, by
                have := HJ.out.2.1
                rw [HS.out.1, HTe.out.2.1] at this
                rw [bStr_size]
                exact this⟩
              rw [hsx] at e1
              have HSX := Lib.hid (And.intro hsx (And.intro hx' e3'))
              have HOO := Lib.hid (And.intro hO1 (And.intro hO2 hp))
              clear hR9 hR9' e3 hx hx' hsx e2 e3' hO1 hO2 hp hg'
              have mixed : Tryz.prog.follows Departure.mixedOrders = true := by kernel_rfl
              go_upto_region 17 with fail
              go_region_o
              go_wp2_with fail
              go_roundg (n - (j + 1))
              case measure => omega
              case rel =>
                refine ⟨j + 1, by omega, by go_num, ?_, ?_⟩
                · have hx' := HSX.out.2.1
                  have hp := HOO.out.2.2
                  rw [HOO.out.1, List.getElem?_append_right (by omega), hp, Nat.sub_self] at hx'
                  obtain rfl := (Option.some.inj hx').symm
                  have h9 := Kd.R_drew (HSX.out.2.2 (sx ++ d))
                  rw [mRun_take HJ.out.1, HS.out.1, HOO.out.2.1, hp, HSX.out.1, HTe.out.2.1]
                  exact h9
                · have hwM : w.heap.size ≤ M := by have := HR.out.2.1.size; have := HM.out.1; omega
                  exact below_drew ((HR.out.2.1.trans (HF.out.2.2.mono hwM)).setCell (p := ⟨g, p * 3 + 1, none⟩) hgb _)
        · have b6 : (k == 6) = false := by simpa using hk
          have b1 : (k != 1) = true := by simpa using hk1
          have HK := Lib.hid hk1
          clear hk hk1
          go_wp2_with fail
          go_loopg [31] ats.length (fun m s31 wx => ∃ (i : Nat) (v2 : Value), i + m = ats.length ∧ s31 = .int .i64 i ∧ wx.heap[X]? = some (.cells #[.int .i64 k, .string d, v2] 52 (0, 0)) ∧ k54.R 54 wx M anyB v2 ((ats.take i).map mA) ∧ wx.heap[M]? = some (.cells #[Value.int IntKind.i64 k, Value.string d, Value.slice A2 ats.length c2, Value.string raw] 34 (0, 0)) ∧ Below M w9 wx)
          case atStart => exact ⟨0, _, by omega, by go_num, HW.out.1, Kd.R_nil _ _ _ _ _, HW.out.2⟩
          case round =>
            obtain ⟨i, v2, hi, rfl, hX, hR2, hT, hB⟩ := hrel
            have c0 : wr.cell? ⟨M, 0, none⟩ = some (.int .i64 k) := by rw [blk_cell hT]; rfl
            have c2' : wr.cell? ⟨M, 2, none⟩ = some (.slice A2 ats.length c2) := by rw [blk_cell hT]; rfl
            by_cases hil : i < ats.length
            · obtain ⟨a, ha⟩ : ∃ a, ats[i]? = some a := ⟨_, List.getElem?_eq_getElem hil⟩
              have hCr : k38.C wr A2 ats.length ats := by
                have h1 := HR.out.2.2.1
                rw [HTe.out.2.2] at h1
                exact Kd.C_below h1 (by rw [HM.out.1]; exact hB)
              obtain ⟨ad2, rfl, y0, y1, y2⟩ := at_T38 hCr (i : Int) (by omega) (by omega)
              have hrd2 : rd_T38 ats (i : Int) = a := by simp [rd_T38, List.getD_eq_getElem?_getD, ha]
              rw [hrd2] at y0 y1 y2
              simp only [Int.toNat_natCast] at y0 y1 y2
              have hij : (i : Int) < (ats.length : Int) := by omega
              have HI := Lib.hid (And.intro hX (And.intro hR2 (And.intro hT hB)))
              have HA2 := Lib.hid ha
              clear hCr hrd2 ha hX hR2 hT hB
              go_upto_region 11 with fail
              have hnew := heap_alloc_new wr (Obj.cells #[Value.string a.f0, Value.string a.f1, Value.string a.f2] 38)
              have hal := below_alloc (Below.refl wr.heap.size wr) (Obj.cells #[Value.string a.f0, Value.string a.f1, Value.string a.f2] 38)
              obtain ⟨v0, hv0⟩ : ∃ v0, wr.alloc (Obj.cells #[Value.string a.f0, Value.string a.f1, Value.string a.f2] 38) = v0 := ⟨_, rfl⟩
              rw [hv0] at hnew hal ⊢
              clear hv0
              have hX' := blk_below HI.out.1 hal
              have hR' := Kd.R_below HI.out.2.1 hal
              have hT' := blk_below HI.out.2.2.1 hal
              have hszM : M ≤ wr.heap.size := by
                have h1 := HI.out.2.2.2.size
                have h2 := HM.out.1
                have h3 := HR.out.2.1.size
                omega
              have hB' := HI.out.2.2.2.trans (hal.mono hszM)
              obtain ⟨g, hg⟩ : ∃ g, wr.heap.size = g := ⟨_, rfl⟩
              rw [hg] at hnew ⊢
              have z0 : v0.cell? ⟨g, 0, none⟩ = some (.string a.f0) := by rw [blk_cell hnew]; rfl
              have z1 : v0.cell? ⟨g, 1, none⟩ = some (.string a.f1) := by rw [blk_cell hnew]; rfl
              have z2 : v0.cell? ⟨g, 2, none⟩ = some (.string a.f2) := by rw [blk_cell hnew]; rfl
              have zx : v0.cell? ⟨X, 2, none⟩ = some v2 := by rw [blk_cell hX']; rfl
              have hlj : ((ats.take i).map mA).length = i := by rw [List.length_map, List.length_take]; omega
              have hMv : M ≤ v0.heap.size := Nat.le_trans hszM hal.size
              obtain ⟨v1, w1, hrun, hR1, hgr, hbase⟩ := mat_append (mA a) hR' hMv (by rw [hlj]; omega)
              obtain ⟨A1, q1, rfl⟩ := Kd.R_slice hR1
              have hXv : some X ≠ v2.ownBlock := Kd.R_ne hR' hX' (by decide)
              have hTv : some M ≠ v2.ownBlock := Kd.R_ne hR' hT' (by decide)
              have hX1 := blk_grown hX' hgr hXv
              have hT1 := blk_grown hT' hgr hTv
              have cx1 : w1.cell? ⟨X, 2, none⟩ = some v2 := by rw [blk_cell hX1]; rfl
              have fx1 := blk_frozen hX1 2
              have hln1 : ((ats.take i).map mA ++ [mA a]).length = i + 1 := by rw [List.length_append, hlj]; rfl
              rw [hln1] at hR1 hrun
              have H1 := Lib.hid (And.intro hR1 (And.intro hX1 (And.intro hT1 (hB'.grown hgr hMv (fun k hk => (hbase k hk).1)))))
              clear hnew hX' hR' hT' hB' hR1 hgr hbase hXv hTv hX1 hT1 hal c0 c2' y0 y1 y2
              simp only [mA] at hrun
              go_wp2_with fail
              go_roundg (ats.length - (i + 1))
              case measure => omega
              case rel =>
                refine ⟨i + 1, _, by omega, by go_num, blk_set H1.out.2.1 2 _, ?_, blk_far H1.out.2.2.1 ?_ _, H1.out.2.2.2.setCell (p := ⟨X, 2, none⟩) ?_ _⟩
                · have e1 : (ats.take (i + 1)).map mA = (ats.take i).map mA ++ [mA a] := by rw [List.take_add_one, HA2.out, List.map_append]; rfl
                  rw [e1]
                  exact Kd.R_set H1.out.1 H1.out.2.1 ne54_52 2 _
                · have := HM.out.2
                  show M ≠ X
                  omega
                · have := HM.out.2
                  show M ≤ X
                  omega
            · obtain rfl : i = ats.length := by omega
              rw [List.take_length] at hR2
              obtain ⟨A9, q9, rfl⟩ := Kd.R_slice hR2
              have y0 : wr.cell? ⟨X, 0, none⟩ = some (.int .i64 k) := by rw [blk_cell hX]; rfl
              have y1 : wr.cell? ⟨X, 1, none⟩ = some (.string d) := by rw [blk_cell hX]; rfl
              have y2 : wr.cell? ⟨X, 2, none⟩ = some (.slice A9 (ats.map mA).length q9) := by rw [blk_cell hX]; rfl
              obtain ⟨v1, w1, hrun, hRn, hBn⟩ := mrg_append ⟨k, d, ats.map mA⟩ HR.out.1 HM.out.1 (by have := HR.out.2.1.size; have := HM.out.1; omega) hB hR2 (by have := HJ.out.2.2.1; omega)
              obtain ⟨ln, hln⟩ : ∃ ln, (ats.map mA).length = ln := ⟨_, rfl⟩
              rw [hln] at y2 hrun
              obtain ⟨A8, q8, rfl⟩ := Kd.R_slice HR.out.1
              have HF := Lib.hid (And.intro hRn hBn)
              clear hRn hBn
              go_wp2_with fail
              go_roundg (n - (j + 1))
              case measure => omega
              case rel =>
                refine ⟨j + 1, by omega, by go_num, ?_, HR.out.2.1.trans HF.out.2⟩
                rw [mRun_take HJ.out.1, mO_other (by rw [HTe.out.1]; exact HK.out), mX, HTe.out.1, HTe.out.2.1, HTe.out.2.2]
                exact HF.out.1
    · obtain rfl : j = n := by omega
      have e1 : l.take j = l := by rw [← HN.out.1, List.take_length]
      rw [e1] at hR
      have HF := Lib.hid (And.intro hR hbw)
      clear hR hbw
      go_wp2_with fail
      go_ret
      exact ⟨_, rfl, HF.out⟩

end Go.Proofs.YtpkelgekannioaaGreatDoor

namespace Go.Proofs.YtpkelgekannioaaGreatDoor
open Go.RowKit Go.Shelf Go.BigFrame
open Go.Proofs.YtpkelgekannioaaGreatDoorW.PrintWords
open PFnTokenRead (S34 S38 S52 S54 k34 k38 k52 k54 rd_T38 at_T38 rd_T34 at_T34)
set_option linter.unusedSimpArgs false
set_option linter.unusedVariables false

/-! ### Characters -/
def eU (c : UInt8) : Un := if five c then .ref c else .byte c
def tU (c : UInt8) : Ut := if five c then .rf c else .ch c
theorem escB_plain {c : UInt8} (h : ¬ five c) (h13 : c ≠ 13) : escB c = [c] := by
  unfold five at h
  simp only [not_or] at h
  obtain ⟨h1, h2, h3, h4, h5⟩ := h
  simp [escB, h1, h2, h3, h4, h5, h13]
theorem escB_13 {c x : UInt8} (hc : c ≠ 13) (hx : x ∈ escB c) : x ≠ 13 := by
  unfold escB at hx
  rw [if_neg hc] at hx
  rintro rfl
  repeat' split at hx
  all_goals simp at hx
  exact hc hx.symm
theorem escB_34 {c x : UInt8} (hx : x ∈ escB c) : x ≠ 34 := by
  unfold escB at hx
  rintro rfl
  repeat' split at hx
  all_goals simp at hx
  all_goals simp_all
theorem esc_13 {l : List UInt8} (h : ∀ c ∈ l, c ≠ 13) : ∀ x ∈ esc l, x ≠ 13 := by
  intro x hx
  obtain ⟨c, hc, hx⟩ := List.mem_flatMap.1 hx
  exact escB_13 (h c hc) hx
theorem eU_b {c : UInt8} (h13 : c ≠ 13) : (eU c).b = escB c := by
  unfold eU
  split
  · rfl
  · rename_i h
    rw [escB_plain h h13]
    rfl
theorem eU_v (c : UInt8) : (eU c).v = c := by
  unfold eU
  split <;> rfl
theorem eU_ok (c : UInt8) : (eU c).ok := by
  unfold eU
  split
  · rename_i h; exact h
  · rename_i h
    exact fun e => h (.inl e)
theorem eU_34 (c : UInt8) : ∀ x ∈ (eU c).b, x ≠ 34 := by
  intro x hx
  unfold eU at hx
  split at hx
  · exact escB_34 hx
  · rename_i h
    rw [List.mem_singleton.1 hx]
    rintro rfl
    exact h (by unfold five; simp)
theorem eUs_b {l : List UInt8} (h : ∀ c ∈ l, c ≠ 13) : unB (l.map eU) = esc l := by
  induction l with
  | nil => rfl
  | cons c l ih =>
    rw [List.map_cons, unB_cons, esc_cons, eU_b (h c (by simp)), ih (fun x hx => h x (by simp [hx]))]
theorem eUs_v (l : List UInt8) : unV (l.map eU) = l := by
  induction l with
  | nil => rfl
  | cons c l ih =>
    have : unV ((c :: l).map eU) = (eU c).v :: unV (l.map eU) := rfl
    rw [this, eU_v, ih]

/-! ### Names and attributes -/
theorem nmB_NameB {k : Nat} {c : UInt8} (h : nmB k c = true) : NameB c := by
  rw [nmB_eq] at h
  unfold NameB
  simp only [Bool.or_eq_true, Bool.not_eq_true', Bool.or_eq_false_iff, decide_eq_false_iff_not, beq_eq_false_iff_ne] at h
  rcases h with ⟨h1, h2⟩ | ⟨h0, h1, h2⟩
  · left; omega
  · right; omega
theorem nameS_at {s : ByteArray} (h : NameS s) {k : Nat} {c : UInt8} (hk : s.data.toList[k]? = some c) : nmB k c = true := by
  have hlt : k < s.size := by rw [Lib.size_eq]; exact (List.getElem?_eq_some_iff.1 hk).1
  rw [Lib.data_getElem? s k hlt] at hk
  rw [← Option.some.inj hk]
  exact h.1 k hlt
theorem nameS_B {s : ByteArray} (h : NameS s) : ∀ c ∈ s.data.toList, NameB c := by
  intro c hc
  obtain ⟨k, hk⟩ := List.getElem?_of_mem hc
  exact nmB_NameB (nameS_at h hk)
theorem nameS_ne {s : ByteArray} (h : NameS s) : s.data.toList ≠ [] := fun e => h.2 (by rw [Lib.size_eq, e]; rfl)
theorem nameS_L {s : ByteArray} (h : NameS s) : NameL s.data.toList := by
  refine ⟨nameS_B h, ?_⟩
  obtain ⟨c, hc⟩ : ∃ c, s.data.toList[0]? = some c := ⟨_, List.getElem?_eq_getElem (List.length_pos_iff.2 (nameS_ne h))⟩
  refine ⟨c, hc, ?_⟩
  have := nameS_at h hc
  rw [nmB_eq] at this
  simp only [Bool.or_eq_true, Bool.not_eq_true', Bool.or_eq_false_iff, decide_eq_false_iff_not, beq_eq_false_iff_ne] at this
  rcases this with ⟨h1, h2⟩ | ⟨h0, h1, h2⟩
  · omega
  · exact absurd rfl h0
theorem NameB.ne13 {c : UInt8} (h : NameB c) : c ≠ 13 := h.ne (by unfold NameB; decide)

def atU (a : S38) : AT := ⟨a.f1.data.toList, a.f2.data.toList.map eU⟩
theorem atU_b {a : S38} (h : AtOk a) : (atU a).b = tgA a := by
  unfold AT.b atU tgA
  rw [eUs_b h.2]
theorem atU_t (a : S38) : (atU a).t = mA a := by
  unfold AT.t atU mA
  rw [eUs_v]
  rfl
theorem atU_ok {a : S38} (h : AtOk a) : (atU a).ok := by
  refine ⟨nameS_B h.1, nameS_ne h.1, fun u hu => ?_, fun c hc => ?_⟩
  · obtain ⟨c, _, rfl⟩ := List.mem_map.1 hu
    exact eU_ok c
  · obtain ⟨u, hu, hc⟩ := List.mem_flatMap.1 hc
    obtain ⟨x, _, rfl⟩ := List.mem_map.1 hu
    exact eU_34 x c hc
theorem atsU_b {l : List S38} (h : ∀ a ∈ l, AtOk a) : atB (l.map atU) = tgS l := by
  induction l with
  | nil => rfl
  | cons a l ih =>
    have e1 : atB ((a :: l).map atU) = (atU a).b ++ atB (l.map atU) := rfl
    have e2 : tgS (a :: l) = tgA a ++ tgS l := rfl
    rw [e1, e2, atU_b (h a (by simp)), ih (fun x hx => h x (by simp [hx]))]
theorem atsU_t (l : List S38) : (l.map atU).map AT.t = l.map mA := by
  rw [List.map_map]
  exact List.map_congr_left fun a _ => atU_t a
theorem tgS_13 {l : List S38} (h : ∀ a ∈ l, AtOk a) : ∀ x ∈ tgS l, x ≠ 13 := by
  intro x hx
  obtain ⟨a, ha, hx⟩ := List.mem_flatMap.1 hx
  unfold tgA at hx
  simp only [List.mem_cons, List.mem_append, List.mem_nil_iff, or_false] at hx
  rcases hx with rfl | hx | rfl | rfl | hx | rfl
  · decide
  · exact (nameS_B (h a ha).1 x hx).ne13
  · decide
  · decide
  · exact esc_13 (h a ha).2 x hx
  · decide

/-! ### Tokens -/
def tkU (t : S34) : List Ut :=
  if t.f0 = 1 then t.f1.data.toList.map tU else if t.f0 = 2 then [.start t.f1.data.toList (t.f2.map atU) false] else if t.f0 = 3 then [.stop t.f1.data.toList]
  else if t.f0 = 4 then [.start t.f1.data.toList (t.f2.map atU) true] else if t.f0 = 5 then [.com (cUs none t.f1.data.toList)] else [.doc]
def tksU (l : List S34) : List Ut := l.flatMap tkU

theorem tU_b {c : UInt8} (h13 : c ≠ 13) : (tU c).b = escB c := by
  unfold tU
  split
  · rfl
  · rename_i h
    rw [escB_plain h h13]
    rfl
theorem tU_ok (c : UInt8) : (tU c).ok := by
  unfold tU
  split
  · rename_i h; exact h
  · rename_i h
    exact ⟨fun e => h (.inl e), fun e => h (.inr (.inr (.inl e)))⟩
theorem tUs_b {l : List UInt8} (h : ∀ c ∈ l, c ≠ 13) : utB (l.map tU) = esc l := by
  induction l with
  | nil => rfl
  | cons c l ih =>
    rw [List.map_cons, utB_cons, esc_cons, tU_b (h c (by simp)), ih (fun x hx => h x (by simp [hx]))]
theorem tUs_run : ∀ (l : List UInt8) (st : List UInt8 × List S52), runU st (l.map tU) = (st.1 ++ l, st.2)
  | [], st => by simp [runU]
  | c :: l, st => by
    have e1 : runU st ((c :: l).map tU) = runU ((tU c).step st) (l.map tU) := rfl
    have e2 : (tU c).step st = (st.1 ++ [c], st.2) := by
      unfold tU
      split <;> rfl
    rw [e1, e2, tUs_run l]
    simp
theorem noAtts {t : S34} (h : TokOk t) (hk : ¬ (t.f0 = 2 ∨ t.f0 = 4)) : t.f2 = [] := Classical.byContradiction fun e => hk (h.2.2.2 e)

theorem tk_law {t : S34} (h : TokOk t) : utB (tkU t) = tkB t ∧ (∀ u ∈ tkU t, u.ok) ∧ (∀ st, runU st (tkU t) = mStep st t) ∧ ∀ x ∈ tkB t, x ≠ 13 := by
  rcases h.1 with ⟨hk, hs⟩ | ⟨hk, hn, hu⟩ | ⟨hk, hs⟩ | ⟨hk, hd⟩
  · have e1 : tkU t = t.f1.data.toList.map tU := by unfold tkU; rw [if_pos hk]
    have e2 : tkB t = esc t.f1.data.toList := by unfold tkB tokTxt; rw [if_pos hk]
    refine ⟨by rw [e1, e2]; exact tUs_b hs, fun u hu => ?_, fun st => ?_, fun x hx => ?_⟩
    · rw [e1] at hu
      obtain ⟨c, _, rfl⟩ := List.mem_map.1 hu
      exact tU_ok c
    · rw [e1, tUs_run]
      unfold mStep
      rw [if_pos hk]
    · rw [e2] at hx
      exact esc_13 hs x hx
  · have hL := nameS_L hn
    have hkeys : ((t.f2.map atU).map AT.key).Nodup := by
      rw [List.map_map]
      have : t.f2.map (AT.key ∘ atU) = (t.f2.map S38.f1).map (fun s => s.data.toList) := by rw [List.map_map]; rfl
      rw [this]
      exact List.Pairwise.map _ (fun a b hne e => hne (str_ext e)) h.2.2.1
    have hats : ∀ a ∈ t.f2.map atU, a.ok := fun a ha => by
      obtain ⟨b, hb, rfl⟩ := List.mem_map.1 ha
      exact atU_ok (h.2.1 b hb)
    have h13n : ∀ x ∈ t.f1.data.toList, x ≠ 13 := fun x hx => (nameS_B hn x hx).ne13
    have h13 : ∀ x ∈ t.f1.data.toList ++ tgS t.f2, x ≠ 13 := fun x hx => by
      rcases List.mem_append.1 hx with hx | hx
      · exact h13n x hx
      · exact tgS_13 h.2.1 x hx
    have hbs : bStr t.f1.data.toList = t.f1 := rfl
    rcases hk with hk | hk | hk
    · have e1 : tkU t = [.start t.f1.data.toList (t.f2.map atU) false] := by unfold tkU; rw [if_neg (by omega), if_pos hk]
      have e2 : tkB t = [60] ++ (t.f1.data.toList ++ tgS t.f2 ++ [62]) := by unfold tkB tokTxt; rw [if_neg (by omega), if_pos hk]
      refine ⟨?_, fun u hu' => ?_, fun st => ?_, fun x hx => ?_⟩
      · rw [e1, e2, utB_cons]
        show 60 :: (t.f1.data.toList ++ (atB (t.f2.map atU) ++ [62])) ++ [] = _
        rw [atsU_b h.2.1]
        simp
      · rw [e1] at hu'
        rw [List.mem_singleton.1 hu']
        exact ⟨hL, hu, hats, hkeys⟩
      · rw [e1]
        show (([] : List UInt8), st.2 ++ textTok st.1 ++ [⟨2, bStr t.f1.data.toList, (t.f2.map atU).map AT.t⟩]) = _
        unfold mStep mX
        rw [if_neg (by omega), atsU_t, hk, hbs]
      · rw [e2] at hx
        rcases List.mem_append.1 hx with hx | hx
        · rw [List.mem_singleton.1 hx]; decide
        · rcases List.mem_append.1 hx with hx | hx
          · exact h13 x hx
          · rw [List.mem_singleton.1 hx]; decide
    · have hno := noAtts h (by omega)
      have e1 : tkU t = [.stop t.f1.data.toList] := by unfold tkU; rw [if_neg (by omega), if_neg (by omega), if_pos hk]
      have e2 : tkB t = [60, 47] ++ (t.f1.data.toList ++ tgS t.f2 ++ [62]) := by unfold tkB tokTxt; rw [if_neg (by omega), if_neg (by omega), if_pos hk]
      refine ⟨?_, fun u hu' => ?_, fun st => ?_, fun x hx => ?_⟩
      · rw [e1, e2, utB_cons, hno]
        show 60 :: 47 :: (t.f1.data.toList ++ [62]) ++ [] = _
        simp [tgS]
      · rw [e1] at hu'
        rw [List.mem_singleton.1 hu']
        exact hL
      · rw [e1]
        show (([] : List UInt8), st.2 ++ textTok st.1 ++ [⟨3, bStr t.f1.data.toList, []⟩]) = _
        unfold mStep mX
        rw [if_neg (by omega), hno, hk, hbs]
        rfl
      · rw [e2] at hx
        rcases List.mem_append.1 hx with hx | hx
        · simp at hx
          rcases hx with rfl | rfl <;> decide
        · rcases List.mem_append.1 hx with hx | hx
          · exact h13 x hx
          · rw [List.mem_singleton.1 hx]; decide
    · have e1 : tkU t = [.start t.f1.data.toList (t.f2.map atU) true] := by unfold tkU; rw [if_neg (by omega), if_neg (by omega), if_neg (by omega), if_pos hk]
      have e2 : tkB t = [60] ++ (t.f1.data.toList ++ tgS t.f2 ++ [47, 62]) := by unfold tkB tokTxt; rw [if_neg (by omega), if_neg (by omega), if_neg (by omega), if_pos hk]
      refine ⟨?_, fun u hu' => ?_, fun st => ?_, fun x hx => ?_⟩
      · rw [e1, e2, utB_cons]
        show 60 :: (t.f1.data.toList ++ (atB (t.f2.map atU) ++ [47, 62])) ++ [] = _
        rw [atsU_b h.2.1]
        simp
      · rw [e1] at hu'
        rw [List.mem_singleton.1 hu']
        exact ⟨hL, hu, hats, hkeys⟩
      · rw [e1]
        show (([] : List UInt8), st.2 ++ textTok st.1 ++ [⟨4, bStr t.f1.data.toList, (t.f2.map atU).map AT.t⟩]) = _
        unfold mStep mX
        rw [if_neg (by omega), atsU_t, hk, hbs]
      · rw [e2] at hx
        rcases List.mem_append.1 hx with hx | hx
        · rw [List.mem_singleton.1 hx]; decide
        · rcases List.mem_append.1 hx with hx | hx
          · exact h13 x hx
          · simp at hx
            rcases hx with rfl | rfl <;> decide
  · have hno := noAtts h (by omega)
    have e1 : tkU t = [.com (cUs none t.f1.data.toList)] := by unfold tkU; rw [if_neg (by omega), if_neg (by omega), if_neg (by omega), if_neg (by omega), if_pos hk]
    have e2 : tkB t = [60, 33, 45, 45] ++ (unB (cUs none t.f1.data.toList) ++ [45, 45, 62]) := by unfold tkB tokTxt; rw [if_neg (by omega), if_neg (by omega), if_neg (by omega), if_neg (by omega), if_pos hk]
    refine ⟨?_, fun u hu' => ?_, fun st => ?_, fun x hx => ?_⟩
    · rw [e1, e2, utB_cons]
      exact List.append_nil _
    · rw [e1] at hu'
      rw [List.mem_singleton.1 hu']
      exact ⟨cUs_ok none _, comment_EC _⟩
    · rw [e1]
      show (([] : List UInt8), st.2 ++ textTok st.1 ++ [tok0 5 (unV (cUs none t.f1.data.toList))]) = _
      unfold mStep mX tok0
      rw [if_neg (by omega), hno, hk, cUs_v]
      rfl
    · rw [e2] at hx
      rcases List.mem_append.1 hx with hx | hx
      · simp at hx
        rcases hx with rfl | rfl | rfl <;> decide
      · rcases List.mem_append.1 hx with hx | hx
        · obtain ⟨u, hu, hx⟩ := List.mem_flatMap.1 hx
          have hv : u.v ∈ t.f1.data.toList := by
            have : u.v ∈ unV (cUs none t.f1.data.toList) := List.mem_map.2 ⟨u, hu, rfl⟩
            rwa [cUs_v] at this
          cases u with
          | byte c => rw [List.mem_singleton.1 hx]; exact hs c hv
          | ref c => exact escB_13 (hs c hv) hx
        · simp at hx
          rcases hx with rfl | rfl <;> decide
  · have hno := noAtts h (by omega)
    have e1 : tkU t = [.doc] := by unfold tkU; rw [if_neg (by omega), if_neg (by omega), if_neg (by omega), if_neg (by omega), if_neg (by omega)]
    have e2 : tkB t = docB := by
      unfold tkB tokTxt
      rw [if_neg (by omega), if_neg (by omega), if_neg (by omega), if_neg (by omega), if_neg (by omega), hd]
      rfl
    refine ⟨?_, fun u hu' => ?_, fun st => ?_, fun x hx => ?_⟩
    · rw [e1, e2, utB_cons]
      exact List.append_nil _
    · rw [e1] at hu'
      rw [List.mem_singleton.1 hu']
      exact trivial
    · rw [e1]
      show (([] : List UInt8), st.2 ++ textTok st.1 ++ [tok0 6 htmlB]) = _
      unfold mStep mX tok0
      rw [if_neg (by omega), hno, hk, hd]
      rfl
    · rw [e2] at hx
      unfold docB at hx
      rintro rfl
      simp at hx

theorem tks_law : ∀ (l : List S34), (∀ t ∈ l, TokOk t) → utB (tksU l) = tksB l ∧ (∀ u ∈ tksU l, u.ok) ∧ (∀ st, runU st (tksU l) = l.foldl mStep st) ∧ ∀ x ∈ tksB l, x ≠ 13
  | [], _ => ⟨rfl, by simp [tksU], fun _ => rfl, by simp [tksB]⟩
  | t :: l, h => by
    obtain ⟨a1, a2, a3, a4⟩ := tk_law (h t (by simp))
    obtain ⟨b1, b2, b3, b4⟩ := tks_law l (fun x hx => h x (by simp [hx]))
    have e1 : tksU (t :: l) = tkU t ++ tksU l := rfl
    have e2 : tksB (t :: l) = tkB t ++ tksB l := rfl
    refine ⟨?_, fun u hu => ?_, fun st => ?_, fun x hx => ?_⟩
    · rw [e1, e2, utB_append, a1, b1]
    · rw [e1] at hu
      rcases List.mem_append.1 hu with hu | hu
      · exact a2 u hu
      · exact b2 u hu
    · rw [e1, List.foldl_cons, ← a3 st, ← b3]
      unfold runU
      rw [List.foldl_append]
    · rw [e2] at hx
      rcases List.mem_append.1 hx with hx | hx
      · exact a4 x hx
      · exact b4 x hx
theorem told_mL {l : List S34} (h : ∀ t ∈ l, TokOk t) : told (tksU l) = mL l := by
  unfold told
  rw [(tks_law l h).2.2.1]
  rfl

end Go.Proofs.YtpkelgekannioaaGreatDoor

namespace Go.Proofs.YtpkelgekannioaaGreatDoor
open Go.RowKit Go.Shelf Go.BigFrame
open Go.Proofs.YtpkelgekannioaaGreatDoorW.PrintWords
open PFnTokenRead
set_option linter.unusedSimpArgs false
set_option linter.unusedVariables false

theorem wrap_step {i : Nat} (h : i ≤ 1099511627776) : wrap64 ((i : Int) + 1) = ((i + 1 : Nat) : Int) := by
  rw [wrap_small (by omega) (by omega)]
  omega
theorem sameTok_l0 (x : Int) (s : ByteArray) (l : List S54) (hl : l.length ≤ 1073741824) : ∀ (m i k : Nat), i + m = l.length → m + 1 ≤ k → laws_sameTok.l0 k (l.length : Int) (i : Int) x s l x s l = some true
  | m, i, 0, _, h => by omega
  | 0, i, k + 1, h, _ => by rw [laws_sameTok.l0, if_neg (by omega)]
  | m + 1, i, k + 1, h, hk => by
    rw [laws_sameTok.l0, if_pos (by omega), if_pos (by omega), if_pos (by omega), if_pos (by omega), if_neg (by simp), wrap_step (by omega)]
    exact sameTok_l0 x s l hl m (i + 1) k (by omega) (by omega)
theorem sameTok_eq (x : Int) (s : ByteArray) (l : List S54) (hl : l.length ≤ 1073741824) (k : Nat) (hk : l.length + 2 ≤ k) : laws_sameTok.f k x s l x s l = some true := by
  obtain ⟨k, rfl⟩ : ∃ j, k = j + 1 := ⟨k - 1, by omega⟩
  rw [laws_sameTok.f, if_pos rfl, if_pos rfl, laws_sameTok.j0, if_neg (by simp)]
  exact sameTok_l0 x s l hl l.length 0 k (by omega) (by omega)
theorem sameToks_l0 (l : List S52) (hl : l.length ≤ 1073741824) (ha : ∀ t ∈ l, t.f2.length ≤ 1073741824) : ∀ (m i k : Nat), i + m = l.length → m + 1073741827 ≤ k → laws_sameToks.l0 k l l (l.length : Int) (i : Int) = some true
  | m, i, 0, _, h => by omega
  | 0, i, k + 1, h, _ => by rw [laws_sameToks.l0, if_neg (by omega)]
  | m + 1, i, k + 1, h, hk => by
    obtain ⟨t, ht⟩ : ∃ t, rd_T52 l (i : Int) = t := ⟨_, rfl⟩
    have hm : t ∈ l := by
      have : l[i]? = some t := by
        rw [List.getElem?_eq_getElem (by omega), ← ht]
        simp [rd_T52, List.getD_eq_getElem?_getD, List.getElem?_eq_getElem (show i < l.length by omega)]
      exact List.mem_of_getElem? this
    have h2 := ha t hm
    rw [laws_sameToks.l0, if_pos (by omega), if_pos (by omega), if_pos (by omega), if_pos (by omega), ht, sameTok_eq _ _ _ h2 k (by omega), wrap_step (by omega)]
    exact sameToks_l0 l hl ha m (i + 1) k (by omega) (by omega)
theorem sameToks_eq (l : List S52) (hl : l.length ≤ 1073741824) (ha : ∀ t ∈ l, t.f2.length ≤ 1073741824) : laws_sameToks.f (l.length + 1073741827) l l = some true := by
  rw [laws_sameToks.f, if_pos rfl]
  exact sameToks_l0 l hl ha l.length 0 _ (by omega) (by omega)

theorem fits3_l0 (l : List S38) (hl : l.length ≤ 1073741824) (ha : ∀ a ∈ l, a.f0.size ≤ 1073741824 ∧ a.f1.size ≤ 1073741824 ∧ a.f2.size ≤ 1073741824) : ∀ (m i k : Nat), i + m = l.length → m + 1 ≤ k → laws_zzFits3.l0 k l (l.length : Int) (i : Int) = some true
  | m, i, 0, _, h => by omega
  | 0, i, k + 1, h, _ => by rw [laws_zzFits3.l0, if_neg (by omega)]
  | m + 1, i, k + 1, h, hk => by
    obtain ⟨a, ht⟩ : ∃ a, rd_T38 l (i : Int) = a := ⟨_, rfl⟩
    have hm : a ∈ l := by
      have : l[i]? = some a := by
        rw [List.getElem?_eq_getElem (by omega), ← ht]
        simp [rd_T38, List.getD_eq_getElem?_getD, List.getElem?_eq_getElem (show i < l.length by omega)]
      exact List.mem_of_getElem? this
    obtain ⟨h1, h2, h3⟩ := ha a hm
    have h4 : laws_zzFits4.f a.f0 a.f1 a.f2 = some true := by
      rw [laws_zzFits4.f, if_neg (by omega), if_neg (by omega), if_neg (by omega)]
    rw [laws_zzFits3.l0, if_pos (by omega), if_pos (by omega), if_pos (by omega), ht, h4, wrap_step (by omega)]
    exact fits3_l0 l hl ha m (i + 1) k (by omega) (by omega)
theorem fits2_eq (t : S34) (hd : t.f1.size ≤ 1073741824) (hr : t.f3.size ≤ 1073741824) (hl : t.f2.length ≤ 1073741824) (ha : ∀ a ∈ t.f2, a.f0.size ≤ 1073741824 ∧ a.f1.size ≤ 1073741824 ∧ a.f2.size ≤ 1073741824) (k : Nat) (hk : t.f2.length + 1 ≤ k) :
    laws_zzFits2.f k t.f0 t.f1 t.f2 t.f3 = some true := by
  have h3 : laws_zzFits3.f k t.f2 = some true := by
    rw [laws_zzFits3.f, if_neg (by omega)]
    exact fits3_l0 t.f2 hl ha t.f2.length 0 k (by omega) (by omega)
  rw [laws_zzFits2.f, if_neg (by omega), h3]
  show (if true = true then (if (t.f3.size : Int) > 2147483647 then some false else some true) else some false) = some true
  rw [if_pos rfl, if_neg (by omega)]
/-- What is small. -/
def Small (t : S34) : Prop := t.f1.size ≤ 1073741824 ∧ t.f3.size ≤ 1073741824 ∧ t.f2.length ≤ 1073741824 ∧ ∀ a ∈ t.f2, a.f0.size ≤ 1073741824 ∧ a.f1.size ≤ 1073741824 ∧ a.f2.size ≤ 1073741824
theorem fits1_l0 (l : List S34) (hl : l.length ≤ 1073741824) (ha : ∀ t ∈ l, Small t) : ∀ (m i k : Nat), i + m = l.length → m + 1073741827 ≤ k → laws_zzFits1.l0 k l (l.length : Int) (i : Int) = some true
  | m, i, 0, _, h => by omega
  | 0, i, k + 1, h, _ => by rw [laws_zzFits1.l0, if_neg (by omega)]
  | m + 1, i, k + 1, h, hk => by
    obtain ⟨t, ht⟩ : ∃ t, rd_T34 l (i : Int) = t := ⟨_, rfl⟩
    have hm : t ∈ l := by
      have : l[i]? = some t := by
        rw [List.getElem?_eq_getElem (by omega), ← ht]
        simp [rd_T34, List.getD_eq_getElem?_getD, List.getElem?_eq_getElem (show i < l.length by omega)]
      exact List.mem_of_getElem? this
    obtain ⟨h1, h2, h3, h4⟩ := ha t hm
    rw [laws_zzFits1.l0, if_pos (by omega), if_pos (by omega), if_pos (by omega), ht, fits2_eq t h1 h2 h3 h4 k (by omega), wrap_step (by omega)]
    exact fits1_l0 l hl ha m (i + 1) k (by omega) (by omega)
theorem fits1_eq (l : List S34) (hl : l.length ≤ 1073741824) (ha : ∀ t ∈ l, Small t) : laws_zzFits1.f (l.length + 1073741827) l = some true := by
  rw [laws_zzFits1.f, if_neg (by omega)]
  exact fits1_l0 l hl ha l.length 0 _ (by omega) (by omega)

end Go.Proofs.YtpkelgekannioaaGreatDoor
