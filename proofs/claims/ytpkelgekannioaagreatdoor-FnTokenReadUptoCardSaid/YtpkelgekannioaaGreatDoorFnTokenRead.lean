/- Tokens that are written are, by the standard, just these tokens. Conditions: what the law reads is of bulk at most 1048576, and the package-level variables that the row lists hold what the program's text lays in them. -/
import Derived.Test.YtpkelgekannioaaGreatDoorRows
import Derived.Test.YtpkelgekannioaaGreatDoorPFnTokenReadx0
import Derived.ProofKit
import Derived.OpenShut
import Derived.Deep.Slices
import Derived.Test.YtpkelgekannioaaGreatDoorGlMrg
import Derived.Test.YtpkelgekannioaaGreatDoorGkTxt
import Derived.Test.YtpkelgekannioaaGreatDoorGhScan
import Derived.Test.YtpkelgekannioaaGreatDoorGaEsc
import Derived.Test.YtpkelgekannioaaGreatDoorCards
import Derived.Test.YtpkelgekannioaaGreatDoorTie
import Derived.WalkKit
import Derived.ChangeOld
import Derived.Below
import Derived.Deep.DeepHandedRow
import Derived.Deep.DeepWitnessRowRef
import Derived.Lib.LaidTab
set_option linter.unusedSimpArgs false
set_option linter.unusedVariables false

namespace Go.Proofs.YtpkelgekannioaaGreatDoor
open Go.RowKit
open Go.Proofs.YtpkelgekannioaaGreatDoorW.PrintWords
open PFnTokenRead (S34 S38 S52 S54 k34 k38 k52 k54 rd_T38 at_T38 rd_T34 at_T34)
open _root_.Go.Proofs.YtpkelgekannioaaGreatDoor.Rows (uptoBulk uptoBulkAll)
set_option linter.unusedSimpArgs false
set_option linter.unusedVariables false

theorem cells34 : Tryz.prog.cellsOf 34 = 4 := by kernel_rfl
theorem cells38 : Tryz.prog.cellsOf 38 = 3 := by kernel_rfl
theorem cells3 : Tryz.prog.cellsOf 3 = 1 := by kernel_rfl
theorem cells9 : Tryz.prog.cellsOf 9 = 1 := by kernel_rfl
theorem cells32 : Tryz.prog.cellsOf 32 = 1 := by kernel_rfl

theorem bulk_sum {H : Type} {α : Type} (f : α → Nat) : ∀ (l : List α) (ds : List (DataW H)), l.length = ds.length → (∀ (i : Nat) a d, l[i]? = some a → ds[i]? = some d → f a ≤ uptoBulk d) → (l.map f).sum ≤ uptoBulkAll ds
  | [], ds, _, _ => by simp
  | a :: l, [], h, _ => by simp at h
  | a :: l, d :: ds, h, hf => by
    have h1 := hf 0 a d rfl rfl
    have h2 := bulk_sum f l ds (by simpa using h) (fun i a d ha hd => hf (i + 1) a d (by simpa using ha) (by simpa using hd))
    rw [List.map_cons, List.sum_cons]
    show _ ≤ uptoBulk d + uptoBulkAll ds
    omega

/-- A slice of elements, each of which reads as R says and is no greater than its bulk. -/
theorem open_row {H : Type} {enc : TypeId × Value → H} {P : Program} {w : World} {sp : Nat → Bool} {hd : Bool} {α : Type} [Inhabited α] {R : α → List Value → Prop} {size : Nat} {t e : TypeId} {fuel : Nat} {cs : List Value} {x : DataW H × List MemPlace} (f : α → Nat)
    (ht : P.underlying t = some (.slice e)) (hsz : P.cellsOf e = size)
    (hel : ∀ n cs x, DataW.trod enc P w 0 sp hd n e cs = some x → ∃ p : α, R p cs ∧ f p ≤ uptoBulk x.1)
    (h : DataW.trod enc P w 0 sp hd fuel t cs = some x) :
    ∃ A n c l, cs = [.slice A n c] ∧ l.length = n ∧ n ≤ c ∧ ReadsRow R size w A n l ∧ (l.map f).sum + l.length + 1 ≤ uptoBulk x.1 + l.length := by
  rcases DataW.trod_slice ht h with ⟨rfl, rfl⟩ | ⟨a, len, cap, elems, rest, n, -, rfl, rfl, hb, hl, hm, hlen, hel0, -, -⟩
  · exact ⟨none, 0, 0, [], rfl, rfl, Nat.le_refl _, ⟨rfl, by omega, fun h => absurd h (by omega)⟩, by simp [uptoBulk]⟩
  · have hget : ∀ i, i < len → ∃ y, elems[i]? = some y ∧ ∃ cs', w.cells? 0 (a.add (i * size)) size = some cs' ∧ DataW.trod enc P w 0 sp hd n e cs' = some y := fun i hi => by
      obtain ⟨y, hy⟩ : ∃ y, elems[i]? = some y := ⟨_, List.getElem?_eq_getElem (by omega)⟩
      have h1 := hel0 i hi
      rw [hy, hsz] at h1
      obtain ⟨cs', h2, h3⟩ := Option.bind_eq_some_iff.1 h1
      exact ⟨y, hy, cs', h2, h3⟩
    have hp : ∀ i, i < len → ∃ p : α, ∃ cs', w.cells? 0 (a.add (i * size)) size = some cs' ∧ R p cs' ∧ ∀ y, elems[i]? = some y → f p ≤ uptoBulk y.1 := fun i hi => by
      obtain ⟨y, hy, cs', h1, h2⟩ := hget i hi
      obtain ⟨p, h3, h4⟩ := hel _ _ _ h2
      refine ⟨p, cs', h1, h3, fun z hz => ?_⟩
      rw [hy] at hz
      cases hz
      exact h4
    obtain ⟨F, hF⟩ := Go.Deep.choose_lt hp
    have hlF : ((List.range len).map F).length = len := by simp
    have hgF : ∀ (i : Nat) p, ((List.range len).map F)[i]? = some p → i < len ∧ p = F i := fun i p hi => by
      have h1 : i < len := by have := (List.getElem?_eq_some_iff.1 hi).1; omega
      rw [List.getElem?_map, List.getElem?_range h1] at hi
      exact ⟨h1, (Option.some.inj hi).symm⟩
    refine ⟨some a, len, cap, (List.range len).map F, rfl, hlF, hl, ⟨hlF, by unfold maxLen at hm; omega, fun _ => ⟨a, rfl, fun j p hj => ?_⟩⟩, ?_⟩
    · obtain ⟨hjl, rfl⟩ := hgF j p hj
      obtain ⟨cs', h1, h2, -⟩ := hF j hjl
      obtain ⟨-, h3, h4⟩ := World.cells?_some h1
      refine ⟨cs', h3, h2, fun i u hu => ?_⟩
      have hi : i < size := by have := (List.getElem?_eq_some_iff.1 hu).1; omega
      rw [← add_add, h4 i hi]
      exact hu
    · have hs := bulk_sum f ((List.range len).map F) (elems.map (·.1)) (by simp [hlen]) (fun i p d hi hd => by
        obtain ⟨hil, rfl⟩ := hgF i p hi
        rw [List.getElem?_map] at hd
        obtain ⟨y, hy, rfl⟩ := Option.map_eq_some_iff.1 hd
        obtain ⟨_, _, _, h⟩ := hF i hil
        exact h y hy)
      have h5 : uptoBulk (DataW.slice (elems.map (·.1)) (rest.map (·.1))) = uptoBulkAll (elems.map (·.1)) + uptoBulkAll (rest.map (·.1)) + 1 := by rw [uptoBulk]
      show _ ≤ uptoBulk (DataW.slice (elems.map (·.1)) (rest.map (·.1))) + _
      omega

instance : Inhabited S38 := ⟨PFnTokenRead.z38⟩
instance : Inhabited S34 := ⟨PFnTokenRead.z34⟩
/-- How much an attribute, and a token, hold. -/
def aBulk (a : S38) : Nat := a.f0.size + a.f1.size + a.f2.size + 1
def tBulk (t : S34) : Nat := t.f1.size + t.f3.size + (t.f2.map aBulk).sum + 1

section
variable {H : Type} {enc : TypeId × Value → H} {w : World} {sp : Nat → Bool} {hd : Bool}
theorem list1 {α : Type} {l : List α} (h : l.length = 1) : ∃ a, l = [a] := by
  match l, h with
  | [a], _ => exact ⟨a, rfl⟩
theorem list3 {α : Type} {l : List α} (h : l.length = 3) : ∃ a b c, l = [a, b, c] := by
  match l, h with
  | [a, b, c], _ => exact ⟨a, b, c, rfl⟩
theorem list4 {α : Type} {l : List α} (h : l.length = 4) : ∃ a b c d, l = [a, b, c, d] := by
  match l, h with
  | [a, b, c, d], _ => exact ⟨a, b, c, d, rfl⟩
theorem bulk_str (s : List UInt8) : uptoBulk (DataW.lit (H := H) (.string s)) = s.length + 1 := by rw [uptoBulk]
theorem open38 {n : Nat} {cs : List Value} {x : DataW H × List MemPlace} (h : DataW.trod enc Tryz.prog w 0 sp hd n 38 cs = some x) : ∃ a : S38, k38.K w a cs ∧ aBulk a ≤ uptoBulk x.1 := by
  obtain ⟨xs, n, -, rfl, hcl, hxl, hall⟩ := DataW.trod_struct Tryz.underlying38 h
  rw [cells38] at hcl
  obtain ⟨c0, c1, c2, rfl⟩ := list3 hcl
  obtain ⟨x0, x1, x2, rfl⟩ := list3 hxl
  have h0 : DataW.trod enc Tryz.prog w 0 sp hd n 9 (List.take (Tryz.prog.cellsOf 9) (List.drop 0 [c0, c1, c2])) = some x0 := hall 0 _ rfl
  have h1 : DataW.trod enc Tryz.prog w 0 sp hd n 9 (List.take (Tryz.prog.cellsOf 9) (List.drop 1 [c0, c1, c2])) = some x1 := hall 1 _ rfl
  have h2 : DataW.trod enc Tryz.prog w 0 sp hd n 9 (List.take (Tryz.prog.cellsOf 9) (List.drop 2 [c0, c1, c2])) = some x2 := hall 2 _ rfl
  rw [cells9] at h0 h1 h2
  obtain ⟨s0, e0, rfl, -⟩ := DataW.trod_string Tryz.underlying9 h0
  obtain ⟨s1, e1, rfl, -⟩ := DataW.trod_string Tryz.underlying9 h1
  obtain ⟨s2, e2, rfl, -⟩ := DataW.trod_string Tryz.underlying9 h2
  obtain rfl : c0 = .string s0 := by simpa using e0
  obtain rfl : c1 = .string s1 := by simpa using e1
  obtain rfl : c2 = .string s2 := by simpa using e2
  refine ⟨⟨s0, s1, s2⟩, PFnTokenRead.k38_mk w ⟨s0, s1, s2⟩, ?_⟩
  show aBulk _ ≤ uptoBulk (DataW.agg [DataW.lit (Lit.string s0.data.toList), DataW.lit (Lit.string s1.data.toList), DataW.lit (Lit.string s2.data.toList)])
  rw [uptoBulk]
  simp only [uptoBulkAll, bulk_str, aBulk, data_length]
  omega
theorem open34 {n : Nat} {cs : List Value} {x : DataW H × List MemPlace} (h : DataW.trod enc Tryz.prog w 0 sp hd n 34 cs = some x) : ∃ t : S34, k34.K w t cs ∧ tBulk t ≤ uptoBulk x.1 := by
  obtain ⟨xs, n, -, rfl, hcl, hxl, hall⟩ := DataW.trod_struct Tryz.underlying34 h
  rw [cells34] at hcl
  obtain ⟨c0, c1, c2, c3, rfl⟩ := list4 hcl
  obtain ⟨x0, x1, x2, x3, rfl⟩ := list4 hxl
  have h0 : DataW.trod enc Tryz.prog w 0 sp hd n 3 (List.take (Tryz.prog.cellsOf 3) (List.drop 0 [c0, c1, c2, c3])) = some x0 := hall 0 _ rfl
  have h1 : DataW.trod enc Tryz.prog w 0 sp hd n 9 (List.take (Tryz.prog.cellsOf 9) (List.drop 1 [c0, c1, c2, c3])) = some x1 := hall 1 _ rfl
  have h2 : DataW.trod enc Tryz.prog w 0 sp hd n 32 (List.take (Tryz.prog.cellsOf 32) (List.drop 2 [c0, c1, c2, c3])) = some x2 := hall 2 _ rfl
  have h3 : DataW.trod enc Tryz.prog w 0 sp hd n 9 (List.take (Tryz.prog.cellsOf 9) (List.drop 3 [c0, c1, c2, c3])) = some x3 := hall 3 _ rfl
  rw [cells3] at h0
  rw [cells9] at h1 h3
  rw [cells32] at h2
  obtain ⟨k, e0, rfl, -⟩ := DataW.trod_int Tryz.underlying3 h0
  obtain ⟨d, e1, rfl, -⟩ := DataW.trod_string Tryz.underlying9 h1
  obtain ⟨A, m, c, l, e2, hlm, hmc, hC, hs⟩ := open_row (R := k38.K w) (size := 3) aBulk Tryz.underlying32 cells38 (fun n cs x h => open38 h) h2
  obtain ⟨r, e3, rfl, -⟩ := DataW.trod_string Tryz.underlying9 h3
  obtain rfl : c0 = .int .i64 k := by simpa using e0
  obtain rfl : c1 = .string d := by simpa using e1
  obtain rfl : c2 = .slice A m c := by simpa using e2
  obtain rfl : c3 = .string r := by simpa using e3
  subst hlm
  refine ⟨⟨k, d, l, r⟩, PFnTokenRead.k34_mk w ⟨k, d, l, r⟩ hmc hC, ?_⟩
  show tBulk _ ≤ uptoBulk (DataW.agg [DataW.lit (Lit.int .i64 k), DataW.lit (Lit.string d.data.toList), x2.1, DataW.lit (Lit.string r.data.toList)])
  rw [uptoBulk]
  simp only [uptoBulkAll, bulk_str, tBulk, data_length]
  omega
/-- The argument. -/
theorem open_toks {n : Nat} {cs : List Value} {x : DataW H × List MemPlace} (h : DataW.trod enc Tryz.prog w 0 sp hd n 22 cs = some x) :
    ∃ A c l, cs = [.slice A l.length c] ∧ l.length ≤ c ∧ k34.C w A l.length l ∧ (l.map tBulk).sum ≤ uptoBulk x.1 := by
  obtain ⟨A, m, c, l, e, hlm, hmc, hC, hs⟩ := open_row (R := k34.K w) (size := 4) tBulk Tryz.underlying22 cells34 (fun n cs x h => open34 h) h
  subst hlm
  exact ⟨A, c, l, e, hmc, hC, by omega⟩
end

end Go.Proofs.YtpkelgekannioaaGreatDoor

namespace Go.Proofs.YtpkelgekannioaaGreatDoor
open Go.RowKit Go.Shelf Go.BigFrame
open Go.Proofs.YtpkelgekannioaaGreatDoorW.PrintWords
open PFnTokenRead (S34 S38 S52 S54 k34 k38 k52 k54 rd_T38 at_T38 rd_T34 at_T34)
set_option linter.unusedSimpArgs false
set_option linter.unusedVariables false

theorem mem_sum {α : Type} (f : α → Nat) {l : List α} {a : α} (h : a ∈ l) : f a ≤ (l.map f).sum := by
  induction l with
  | nil => cases h
  | cons x l ih =>
    rw [List.map_cons, List.sum_cons]
    rcases List.mem_cons.1 h with rfl | h
    · omega
    · have := ih h
      omega
theorem len_sum {α : Type} (f : α → Nat) (hf : ∀ a, 1 ≤ f a) : ∀ l : List α, l.length ≤ (l.map f).sum
  | [] => by simp
  | a :: l => by
    have := len_sum f hf l
    have := hf a
    rw [List.map_cons, List.sum_cons, List.length_cons]
    omega
theorem flat_sum {α β : Type} (g : α → List β) (f : α → Nat) (c : Nat) : ∀ (l : List α), (∀ a ∈ l, (g a).length ≤ c * f a) → (l.flatMap g).length ≤ c * (l.map f).sum
  | [], _ => by simp
  | a :: l, h => by
    have h1 := flat_sum g f c l (fun x hx => h x (by simp [hx]))
    have h2 := h a (by simp)
    rw [List.flatMap_cons, List.length_append, List.map_cons, List.sum_cons, Nat.mul_add]
    omega
theorem aBulk_pos (a : S38) : 1 ≤ aBulk a := by unfold aBulk; omega
theorem tBulk_pos (t : S34) : 1 ≤ tBulk t := by unfold tBulk; omega
theorem tgA_le (a : S38) : (tgA a).length ≤ 5 * aBulk a := by
  have h1 := esc_le a.f2.data.toList
  rw [← Lib.size_eq] at h1
  unfold tgA aBulk
  simp only [List.length_cons, List.length_append, List.length_nil, ← Lib.size_eq]
  omega
theorem tgS_sum (l : List S38) : (tgS l).length ≤ 5 * (l.map aBulk).sum := flat_sum tgA aBulk 5 l (fun a _ => tgA_le a)
theorem seenB_sum (l : List S38) : (seenB l).length ≤ 2 * (l.map aBulk).sum := flat_sum seenA aBulk 2 l (fun a _ => by
  unfold seenA aBulk
  simp only [List.length_cons, List.length_append, List.length_nil, ← Lib.size_eq]
  omega)
theorem tkB_le (t : S34) : (tkB t).length ≤ 12 * tBulk t := by
  have h1 := esc_le t.f1.data.toList
  have h2 := cUs_le none t.f1.data.toList
  have h3 := tgS_sum t.f2
  rw [← Lib.size_eq] at h1 h2
  unfold tkB tokTxt tBulk
  repeat' split
  all_goals
    try simp only [List.length_cons, List.length_append, List.length_nil, ← Lib.size_eq]
    omega
theorem tksB_sum (l : List S34) : (tksB l).length ≤ 12 * (l.map tBulk).sum := flat_sum tkB tBulk 12 l (fun t _ => tkB_le t)
theorem dB_sum (l : List S34) : (dB l).length ≤ 1 * (l.map tBulk).sum := by
  refine flat_sum (fun t : S34 => t.f1.data.toList) tBulk 1 l (fun t _ => ?_)
  show t.f1.data.toList.length ≤ _
  unfold tBulk
  rw [← Lib.size_eq]
  omega

theorem small_of {l : List S34} (h : (l.map tBulk).sum ≤ 1048576) {t : S34} (ht : t ∈ l) : Small t ∧ t.f1.size ≤ 1073741824 ∧ t.f1.size + (tgS t.f2).length ≤ 1073741824 ∧ (seenB t.f2).length ≤ 1073741824 ∧ t.f2.length ≤ 1073741824 ∧ ∀ a ∈ t.f2, a.f1.size ≤ 1073741824 ∧ a.f2.size ≤ 1073741824 := by
  have h1 := mem_sum tBulk ht
  have h2 : tBulk t = t.f1.size + t.f3.size + (t.f2.map aBulk).sum + 1 := rfl
  have h3 := tgS_sum t.f2
  have h4 := seenB_sum t.f2
  have h5 := len_sum aBulk aBulk_pos t.f2
  have h6 : ∀ a ∈ t.f2, a.f0.size ≤ 1073741824 ∧ a.f1.size ≤ 1073741824 ∧ a.f2.size ≤ 1073741824 := fun a ha => by
    have h7 := mem_sum aBulk ha
    have h8 : aBulk a = a.f0.size + a.f1.size + a.f2.size + 1 := rfl
    omega
  exact ⟨⟨by omega, by omega, by omega, h6⟩, by omega, by omega, by omega, by omega, fun a ha => (h6 a ha).2⟩

/-- What stands in a row of tokens that were merged. -/
def Came (l : List S34) (x : S52) : Prop := x.f2 = [] ∨ ∃ t ∈ l, x = mX t
theorem came_run (L : List S34) : ∀ (l : List S34) (st : List UInt8 × List S52), (∀ t ∈ l, t ∈ L) → (∀ x ∈ mO st, Came L x) → ∀ x ∈ mO (l.foldl mStep st), Came L x
  | [], _, _, h => h
  | t :: l, st, hl, h => by
    refine came_run L l (mStep st t) (fun x hx => hl x (by simp [hx])) fun x hx => ?_
    have hst : ∀ y ∈ st.2, Came L y := fun y hy => h y (List.mem_append_left _ hy)
    by_cases hk : t.f0 = 1
    · unfold mStep at hx
      rw [if_pos hk] at hx
      rcases List.mem_append.1 hx with hx | hx
      · exact hst x hx
      · unfold textTok at hx
        split at hx
        · cases hx
        · rw [List.mem_singleton.1 hx]
          exact .inl rfl
    · rw [mO_other hk] at hx
      rcases List.mem_append.1 hx with hx | hx
      · exact h x hx
      · rw [List.mem_singleton.1 hx]
        exact .inr ⟨t, hl t (by simp), rfl⟩
theorem came_mL (l : List S34) : ∀ x ∈ mL l, Came l x := came_run l l ([], []) (fun _ h => h) (fun x hx => by simp [mO, textTok] at hx)
theorem mL_small {l : List S34} (h : (l.map tBulk).sum ≤ 1048576) : (mL l).length ≤ 1073741824 ∧ ∀ x ∈ mL l, x.f2.length ≤ 1073741824 := by
  have h1 := (mRun_len l).2
  have h2 := len_sum tBulk tBulk_pos l
  refine ⟨by omega, fun x hx => ?_⟩
  rcases came_mL l x hx with h3 | ⟨t, ht, rfl⟩
  · rw [h3]; simp
  · have := (small_of h ht).2.2.2.2.1
    show (t.f2.map mA).length ≤ _
    rw [List.length_map]
    exact this

end Go.Proofs.YtpkelgekannioaaGreatDoor

namespace Go.Proofs.YtpkelgekannioaaGreatDoor
open Go.RowKit Go.Shelf Go.BigFrame
open Go.Proofs.YtpkelgekannioaaGreatDoorW.PrintWords
open PFnTokenRead (S34 S38 S52 S54 k34 k38 k52 k54 rd_T38 at_T38 rd_T34 at_T34)
set_option linter.unusedSimpArgs false
set_option linter.unusedVariables false

set_option maxHeartbeats 8000000 in
set_option maxRecDepth 100000 in
theorem law_any (A : Option Addr) (c : Nat) (l : List S34) (w : World) (hnc : l.length ≤ c) (hA : k34.C w A l.length l) (hb : (l.map tBulk).sum ≤ 1048576) :
    Calls Tryz.prog 3 #[.slice A l.length c] w fun e w' => e = .returned (.bool true) ∧ Below w.heap.size w w' := by
  have hlen : l.length ≤ 1073741824 := by have := len_sum tBulk tBulk_pos l; omega
  have hks : (tksB l).length ≤ 1073741824 := by have := tksB_sum l; omega
  have hdb : (dB l).length ≤ 1073741824 := by have := dB_sum l; omega
  obtain ⟨n, hn⟩ : ∃ n, l.length = n := ⟨_, rfl⟩
  have hfit := PFnTokenRead.laws_zzFits1.calls _ A c l true w hA hnc (fits1_eq l hlen (fun t ht => (small_of hb ht).1))
  rw [hn] at hfit
  have hbld : ∀ W, Below w.heap.size w W → Calls Tryz.prog 5 #[.slice A n c] W fun e w' => BEnd l W e w' := fun W hW =>
    built_any A n c l W hn (by omega) (Kd.C_below (by rw [← hn]; exact hA) hW) (by omega) hks (fun t ht => (small_of hb ht).2)
  have hmrg : (∀ t ∈ l, TokOk t) → ∀ W, Below w.heap.size w W → Calls Tryz.prog 9 #[.slice A n c] W fun e w' => ∃ v, e = .returned v ∧ k52.R 52 w' W.heap.size anyB v (mL l) ∧ Below W.heap.size W w' := fun hok W hW =>
    merged_any A n c l W hn (by omega) (Kd.C_below (by rw [← hn]; exact hA) hW) (by omega) hok hdb (fun t ht => (small_of hb ht).2.2.2.2.1)
  have HL := Lib.hid (And.intro hlen (And.intro hks (And.intro hb hA)))
  have hmL := mL_small hb
  clear hlen hks hdb hb hA
  rw [hn]
  clear hn
  go_enter Tryz.func3, Tryz.ntmps3
  go_wp2_with fail
  refine hfit.mono ?_
  rintro e w1 ⟨rfl, hb1⟩
  go_wp2_with fail
  refine (hbld w1 hb1).mono ?_
  rintro e w2 ⟨s, ok, rfl, hok, hb2⟩
  have hB2 := Lib.hid (hb1.trans (hb2.mono hb1.size))
  clear hb1 hb2 hfit hbld
  cases ok with
  | false =>
    go_wp2_with fail
    go_ret
    exact ⟨rfl, hB2.out⟩
  | true =>
    obtain ⟨hs, htok⟩ := hok rfl
    obtain ⟨u1, u2, u3, u4⟩ := tks_law l htok
    have hss : s.data.toList = tksB l := by rw [hs, bStr_data]
    have hsz : s.size ≤ 1099511627776 := by rw [Lib.size_eq, hss]; have := HL.out.2.1; omega
    have hscd : ∀ W, Calls Tryz.prog 6 #[.string s, .bool false] W fun e w' => (∃ v, e = .returned (.tuple #[v, .bool false]) ∧ k52.R 52 w' W.heap.size anyB v (mL l)) ∧ Below W.heap.size W w' := fun W => by
      have h := Scanned_any s W hsz (by rw [hss]; exact u4) (tksU l) u2 (by rw [hss, u1])
      rw [told_mL htok] at h
      exact h
    have hm := hmrg htok
    clear hok hs hss u1 u2 u3 u4 hmrg htok
    go_wp2_with fail
    refine (hscd w2).mono ?_
    rintro e w3 ⟨⟨v3, rfl, hR3⟩, hb3⟩
    have hB3 := Lib.hid (hB2.out.trans (hb3.mono hB2.out.size))
    have HR3 := Lib.hid hR3
    clear hb3 hscd hR3
    go_wp2_with fail
    refine (works_any w3).mono ?_
    rintro e w4 ⟨rfl, hb4⟩
    have hB4 := Lib.hid (hB3.out.trans (hb4.mono hB3.out.size))
    have HR4 := Lib.hid (Kd.R_below HR3.out hb4)
    clear hb4
    go_wp2_with fail
    refine (hm w4 hB4.out).mono ?_
    rintro e w5 ⟨v5, rfl, hR5, hb5⟩
    have hB5 := Lib.hid (hB4.out.trans (hb5.mono hB4.out.size))
    have HR45 := Kd.R_below HR4.out hb5
    obtain ⟨A3, c3, rfl, hc3, hC3⟩ := Kd.R_reads HR45
    obtain ⟨A5, c5, rfl, hc5, hC5⟩ := Kd.R_reads hR5
    have hsame := PFnTokenRead.laws_sameToks.calls _ A3 c3 (mL l) A5 c5 (mL l) true w5 hC3 hc3 hC5 hc5 (sameToks_eq (mL l) hmL.1 hmL.2)
    clear hm hb5 HR45 hR5 hC3 hC5
    go_wp2_with fail
    refine hsame.mono ?_
    rintro e w6 ⟨rfl, hb6⟩
    have hB6 := Lib.hid (hB5.out.trans (hb6.mono hB5.out.size))
    clear hb6
    go_wp2_with fail
    go_ret
    exact ⟨rfl, hB6.out⟩

end Go.Proofs.YtpkelgekannioaaGreatDoor

namespace Go.Proofs.YtpkelgekannioaaGreatDoor.fnTokenRead
open Go.ChangeShapes Go.WideShapes Go.ChangeAt Go.RowKit
set_option linter.unusedVariables false
set_option linter.unusedSimpArgs false

theorem own : ownKnob Tryz.prog.godebug = none := by kernel_rfl
theorem laidOut : laidOutB Tryz.prog = true := by kernel_rfl

set_option maxRecDepth 100000 in
/-- What the walk gives, for every argument of small bulk. -/
theorem contract (H : Type) (enc : TypeId × Value → H) (W : World) (base : Nat) (args : Array Value) (ds gs : List (DataW H)) (before : List MemPlace)
    (hval0 : ∀ (j : Nat) t v, Tryz.f3.params[j]? = some t → args[j]? = some v → Value.okWide Tryz.prog W .any base t v)
    (hW : DataW.Whole enc Tryz.prog Tryz.f3.params.toList Rows.fnTokenReadSpec.vars false W args.toList ds gs before) (hk : Rows.uptoBulkAll (ds ++ gs) ≤ 1048576) :
    Calls Tryz.prog 3 args W fun e W' => ∃ v, e = .returned v ∧ Rows.fnTokenReadSpec.post enc Tryz.prog Tryz.f3 false true false false W args v W' := by
  have hval : ∀ (j : Nat) t v, Tryz.f3.params[j]? = some t → args[j]? = some v → Value.okWide Tryz.prog W .any base t v := hval0
  have hW' := hW
  obtain ⟨p, q, hA0, hV, rfl, hfz, hnd⟩ := hW
  have hA : DataW.TrodAll enc Tryz.prog W 0 (fun _ => true) true Tryz.f3.params.toList args.toList ds p := hA0
  rw [Tryz.params3] at hA hval
  obtain ⟨v0, vs0, d0, ds0, p0, q0, hargs, rfl, rfl, h0, r0⟩ := trodAll_cons hA
  obtain ⟨rfl, rfl, rfl⟩ := trodAll_nil r0
  obtain rfl : args = #[v0] := by cases args; simp_all
  obtain ⟨rfl, rfl⟩ := trodVars_none hV
  obtain ⟨a0, len, cap, rfl⟩ := okWide_slice Tryz.underlying22 (hval 0 22 v0 rfl rfl)
  have h0k := h0
  obtain ⟨fuel, hf⟩ := h0
  clear hA0 hval0
  simp only [List.append_nil] at hW' hk
  have hlt : ∀ x ∈ p0, x.block < W.heap.size := fun x hx => by simpa using hW'.lt x hx
  obtain ⟨A, c, l, hcs, hlc, hC, hb⟩ := open_toks hf
  obtain ⟨rfl, rfl, rfl⟩ : a0 = A ∧ len = l.length ∧ cap = c := by
    have h1 : [Value.slice a0 len cap] = [Value.slice A l.length c] := hcs
    injection h1 with h1
    injection h1 with h1 h2 h3
    exact ⟨h1, h2, h3⟩
  have hbulk : (l.map tBulk).sum ≤ 1048576 := by
    have h1 : Rows.uptoBulkAll [d0] = Rows.uptoBulk d0 + 0 := by rw [Rows.uptoBulkAll, Rows.uptoBulkAll]
    have h2 : (l.map tBulk).sum ≤ Rows.uptoBulk d0 := hb
    omega
  refine (law_any a0 cap l W hlc hC hbulk).mono ?_
  rintro e W' ⟨rfl, bel⟩
  exact ⟨_, rfl, _, _, _, [], p0, [], hW', trodAll_mk1 (shut_bool Tryz.underlying4 _), trodAll_mk1 (Below.trod laidOut (by kernel_rfl) (of_decide_eq_true (by kernel_rfl)) h0k bel hlt), rfl, bel.frame _, fun h => by cases h⟩

/-- A world for the witness: the settled one, the listed variables holding what their text lays. -/
noncomputable def laidWorld (os : Os) : World :=
  let N := (World.settled Tryz.prog os).heap.size
  let w0 := World.holding Tryz.prog os ⟨#[.cells #[.string ⟨#[98, 121, 116, 101, 115, 46, 66, 117, 102, 102, 101, 114, 58, 32, 116, 111, 111, 32, 108, 97, 114, 103, 101]⟩] 151], #[], []⟩
  let put (h : Array Obj) (g : Nat) (cs : Array Value) : Array Obj := h.modify g fun
    | .cells _ t frozen => .cells cs t frozen
    | o => o
  let u8s (l : List Int) : Array Value := (l.map fun z => Value.int .u8 z).toArray
  let h1 := put w0.heap 0 #[.iface 133 (.pointer (some ⟨N, 0, none⟩))]
  let h2 := put h1 2 (([1, 10, 100, 1000, 10000, 100000, 1000000, 10000000, 100000000, 1000000000, 10000000000, 100000000000, 1000000000000, 10000000000000, 100000000000000, 1000000000000000, 10000000000000000, 100000000000000000, 1000000000000000000, 10000000000000000000] : List Int).map fun z => Value.int .u64 z).toArray
  let h3 := put h2 3 (u8s [0, 1, 28, 2, 29, 14, 24, 3, 30, 22, 20, 15, 25, 17, 4, 8, 31, 27, 13, 23, 21, 19, 16, 7, 26, 12, 18, 6, 11, 5, 10, 9])
  let h4 := put h3 4 (u8s [0, 1, 56, 2, 57, 49, 28, 3, 61, 58, 42, 50, 38, 29, 17, 4, 62, 47, 59, 36, 45, 43, 51, 22, 53, 39, 33, 30, 24, 18, 12, 5, 63, 55, 48, 27, 60, 41, 37, 16, 46, 35, 44, 21, 52, 32, 23, 11, 54, 26, 40, 15, 34, 20, 31, 10, 25, 14, 19, 9, 13, 8, 7, 6])
  { w0 with heap := h4 }
theorem laid_met (os : Os) : laidMet Tryz.prog Rows.fnTokenReadUptoRow.laid ((laidWorld os).forCall (fun _ _ => 0) ⟨#[], #[.slice none 0 0], []⟩).memory :=
  laidMet_of_run' 8 (by kernel_rfl) (by kernel_rfl)
theorem reads (os : Os) {H : Type} (enc : TypeId × Value → H) : ∃ places, DataW.whole enc Tryz.prog ((laidWorld os).forCall (fun _ _ => 0) ⟨#[], #[.slice none 0 0], []⟩).memory Tryz.f3.params.toList Rows.fnTokenReadSpec.vars false #[Value.slice none 0 0].toList 8 = some ([.nil], [], places) :=
  ⟨[], by kernel_rfl⟩

set_option maxRecDepth 100000 in
theorem lifted (os : Os) (started : os.Started) (H : Type) (enc : TypeId × Value → H) (F : Stop.Interp) :
    ReturnsInHanded {} Tryz.checked os 3 .any ((Rows.OpenSpec.upto Rows.fnTokenReadSpec).preRow enc Tryz.prog Tryz.f3 Rows.fnTokenReadUptoRow.domain false Rows.fnTokenReadUptoRow.laid) (((Rows.OpenSpec.upto Rows.fnTokenReadSpec).at F).post enc Tryz.prog Tryz.f3 false true false false) := by
  obtain ⟨places, hx⟩ := reads os enc
  refine returnsInHanded_of_row (C := Tryz.checked) (s := Rows.OpenSpec.upto Rows.fnTokenReadSpec) own started (by kernel_rfl) Tryz.func3
    (witness_row_atRef (enc := enc) (C := Tryz.checked) false (laidWorld os) #[.slice none 0 0] rfl (by kernel_rfl) (by kernel_rfl) (by kernel_rfl)
      (OpenSpec.preRow_of_cond 8 hx (by kernel_rfl) (fun k hk => by cases hk; kernel_rfl) (by kernel_rfl) (laid_met os))) ?_
  intro W base args ds gs before hval hW _ hcond _ hL _ _
  have hk : Rows.uptoSmall H (ds ++ gs) = true := hcond _ rfl
  exact contract H enc W base args ds gs before hval hW (of_decide_eq_true hk)

theorem saidUpto : Rows.FnTokenReadUptoSaid :=
  OpenClaim.holds_of_cond 3 Tryz.f3 rfl rfl rfl rfl rfl rfl rfl ⟨rfl, rfl, rfl, rfl, rfl⟩ rfl rfl rfl rfl rfl (by kernel_rfl) Tryz.func3 (by kernel_rfl)
    (of_decide_eq_true (by kernel_rfl)) (by unfold Func.isWrapper; first | (rw [if_pos (by decide +kernel)]; kernel_rfl) | (rw [if_neg (by decide +kernel)]; exact ⟨rfl, rfl⟩))
    (fun os started H enc _ F => by rw [OpenClaim.pre_eq_preRow]; exact lifted os started H enc F)

theorem plain (f : FuncId) (fn : Func) (hf : Tryz.pinned.checked.prog.funcNamed "htmltokens/laws.FnTokenRead" = some f) (hfn : Tryz.pinned.checked.prog.funcs[f]? = some fn) :
    false = Tryz.pinned.checked.prog.looks [] ∧ ∀ (j : Nat) t, fn.params[j]? = some t → Tryz.pinned.checked.prog.wantsStandIn t = false := by
  obtain rfl : f = 3 := Option.some.inj ((show Tryz.prog.funcNamed "htmltokens/laws.FnTokenRead" = some 3 by kernel_rfl).symm.trans hf) |>.symm
  obtain rfl : fn = Tryz.f3 := (Option.some.inj (Tryz.func3.symm.trans hfn)).symm
  refine ⟨by kernel_rfl, fun j t ht => ?_⟩
  rw [Tryz.params3] at ht
  obtain rfl : t = 22 := by simpa using Array.mem_of_getElem? ht
  exact (show Tryz.prog.wantsStandIn 22 = false by kernel_rfl)

/-- The statement. -/
theorem proved : Rows.FnTokenReadUptoCardSaid :=
  Claim7.holds_tied_plain_at .later [] _ _ _ _ saidUpto (fun _ h => by cases h) (by kernel_rfl) (fun _ h => by cases h) fnTokenReadUpto_row_tie rfl ⟨rfl, rfl⟩ (by kernel_rfl) rfl plain (by kernel_rfl)
#print axioms proved
end Go.Proofs.YtpkelgekannioaaGreatDoor.fnTokenRead
