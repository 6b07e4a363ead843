/- The reference's reading of all that a list of tokens is written to, unit by unit. Conditions: sizes below 2^40. -/
import Derived.Test.YtpkelgekannioaaGreatDoorGgAttr
import Derived.Test.YtpkelgekannioaaGreatDoorGfRead
import Derived.Test.YtpkelgekannioaaGreatDoorGeTell
set_option linter.unusedSimpArgs false
set_option linter.unusedVariables false

namespace Go.Proofs.YtpkelgekannioaaGreatDoor
open Go.RowKit Go.Shelf Go.BigFrame
open Go.Proofs.YtpkelgekannioaaGreatDoorW.PrintWords
open PFnTokenRead (S34 S38 S52 S54 k34 k38 k52 k54)
set_option linter.unusedSimpArgs false
set_option linter.unusedVariables false
attribute [local go_sem ↓] app_wrap

/-- An attribute: its key, and its value's characters as they are written. -/
structure AT where
  key : List UInt8
  us : List Un
def AT.b (a : AT) : List UInt8 := 32 :: (a.key ++ 61 :: 34 :: (unB a.us ++ [34]))
def AT.t (a : AT) : S54 := ⟨bStr a.key, bStr (unV a.us)⟩
def AT.ok (a : AT) : Prop := (∀ c ∈ a.key, NameB c) ∧ a.key ≠ [] ∧ (∀ u ∈ a.us, u.ok) ∧ (∀ c ∈ unB a.us, c ≠ 34)
def atB (l : List AT) : List UInt8 := l.flatMap AT.b
theorem atB_append (a b : List AT) : atB (a ++ b) = atB a ++ atB b := by simp [atB]
theorem atB_take {l : List AT} {k : Nat} {a : AT} (h : l[k]? = some a) : atB (l.take (k + 1)) = atB (l.take k) ++ a.b := by
  rw [List.take_add_one, h, atB_append]
  simp [atB]
theorem atB_split {l : List AT} {k : Nat} {a : AT} (h : l[k]? = some a) : atB l = atB (l.take k) ++ (a.b ++ atB (l.drop (k + 1))) := by
  obtain ⟨hk, hu⟩ := List.getElem?_eq_some_iff.1 h
  have e : l = l.take k ++ a :: l.drop (k + 1) := by
    rw [← hu, List.getElem_cons_drop, List.take_append_drop]
  conv => lhs; rw [e]
  rw [atB_append]
  rfl
/-- How a tag ends. -/
def tagTail (cl : Bool) : List UInt8 := if cl then [47, 62] else [62]

theorem KB.rowA {b B : Nat} {ok : Nat → Prop} {w w' : World} {cs : Array Value} {tv : Value} {xs : List S54} (h : KB b w w') (hb : w.heap[b]? = some (.cells cs 47 (0, 0))) (hr : k54.R 54 w B ok tv xs) : k54.R 54 w' B ok tv xs :=
  Kd.R_mono (Kd.R_step (Kd.R_types hr hb (by have : k54.E = [] := rfl; rw [this]; decide)) (fun k hk hlt => h.block k hlt hk.2)) (fun _ hk => hk.1)
theorem KB.trans' {b : Nat} {w w1 w2 : World} {row : Option Nat} (h : KB b w w1) (hg : w1.grownBy w2 row) (hr : ∀ k, row = some k → w.heap.size ≤ k) : KB b w w2 :=
  ⟨hg.os.trans h.os, hg.tape.trans h.tape, hg.output.trans h.output, Nat.le_trans h.size hg.size, fun i hi hb => (hg.block i (Nat.lt_of_lt_of_le hi h.size) (fun e => by have := hr i e.symm; omega)).trans (h.block i hi hb)⟩
theorem setO7 {ok : Nat → Prop} {B b i : Nat} {s : ByteArray} {txt : List UInt8} {out : List S52} {w : World} (h : ScO ok B b s i txt out w) : w.cell? ⟨b, 7, none⟩ = some (.bool false) ∧ w.frozen? ⟨b, 7, none⟩ = false ∧ ScO ok B b s i txt out (w.setCell ⟨b, 7, none⟩ (.bool false)) := by
  obtain ⟨hB, nm, tv, ov, hb, ht, ho⟩ := h
  exact ⟨by rw [blk_cell hb]; rfl, blk_frozen hb 7, ⟨hB, nm, tv, ov, blk_set hb 7 _, Kd.R_set ht hb ne47_5 7 _, Kd.R_set ho hb ne47_52 7 _⟩⟩
theorem atB_le (l : List AT) : l.length ≤ (atB l).length := by
  induction l with
  | nil => simp
  | cons a l ih =>
    have : atB (a :: l) = a.b ++ atB l := rfl
    rw [this, List.length_append, List.length_cons]
    have : 1 ≤ a.b.length := by simp [AT.b]
    omega
theorem Sc.toL {B b i : Nat} {s : ByteArray} {txt : List UInt8} {out : List S52} {w : World} (h : Sc B b s i txt out w) : ScO (· < w.heap.size) B b s i txt out w := by
  obtain ⟨hB, nm, tv, ov, h0, h1, h2⟩ := h
  exact ⟨hB, nm, tv, ov, h0, Kd.R_mono (Kd.R_bound h1) (fun k hk => hk.2.2.1), Kd.R_mono (Kd.R_bound h2) (fun k hk => hk.2.2.1)⟩

set_option maxHeartbeats 4000000 in
set_option maxRecDepth 100000 in
theorem tag_any (B b i : Nat) (s : ByteArray) (txt : List UInt8) (out : List S52) (w : World) (h : Sc B b s i txt out w) (hs : s.size ≤ 1099511627776) (kd : Int) (T : S52) (name : List UInt8) (hn : ∀ c ∈ name, NameB c) (hn0 : name ≠ []) (l : List AT) (hl : ∀ a ∈ l, a.ok)
    (hnd : (l.map AT.key).Nodup) (cl : Bool) (rest : List UInt8) (hE : s.data.toList.drop i = name ++ (atB l ++ (tagTail cl ++ rest)))
    (hend : ∀ (j : Nat) (w1 : World) (A : Option Addr) (n c : Nat), Sc B b s j txt out w1 → k54.R 54 w1 B anyB (.slice A n c) (l.map AT.t) →
      Calls Tryz.prog 55 #[.pointer (some ⟨b, 0, none⟩), .agg #[.int .i64 kd, .string (bStr name), .slice A n c], .bool cl] w1 fun e w' => e = .returned (.tuple #[]) ∧ Sc B b s j [] (out ++ textTok txt ++ [T]) w' ∧ Went B w1 w') :
    Calls Tryz.prog 38 #[.pointer (some ⟨b, 0, none⟩), .int .i64 kd] w fun e w' => e = .returned (.tuple #[]) ∧ Sc B b s (i + name.length + (atB l).length + (tagTail cl).length) [] (out ++ textTok txt ++ [T]) w' ∧ Went B w w' := by
  have hmx : Tryz.prog.follows .mixedOrders = true := by kernel_rfl
  have hBw := h.base
  have e2 : s.data.toList.length = s.size := (Lib.size_eq _).symm
  have hget : ∀ p, s.data.toList[i + p]? = (name ++ (atB l ++ (tagTail cl ++ rest)))[p]? := fun p => by rw [← hE, List.getElem?_drop]
  obtain ⟨nl, hnl⟩ : ∃ nl, name.length = nl := ⟨_, rfl⟩
  have hnl1 : 1 ≤ nl := by rw [← hnl]; exact List.length_pos_iff.2 hn0
  have htl : 1 ≤ (tagTail cl).length ∧ (tagTail cl).length ≤ 2 := by cases cl <;> simp [tagTail]
  have hlen : i + nl + (atB l).length + (tagTail cl).length ≤ s.size := by
    have := congrArg List.length hE
    simp only [List.length_append, List.length_drop, e2, hnl] at this
    omega
  have hch : ∀ p, i ≤ p → p < i + nl → ∃ (hp : p < s.size) (c : UInt8), s[p]'hp = c ∧ NameB c := fun p hp1 hp2 => by
    obtain ⟨j, rfl⟩ : ∃ j, p = i + j := ⟨p - i, by omega⟩
    have hp : i + j < s.size := by omega
    have h1 := hget j
    rw [List.getElem?_append_left (by omega), Lib.data_getElem? s (i + j) hp] at h1
    exact ⟨hp, _, rfl, hn _ (List.mem_of_getElem? h1.symm)⟩
  obtain ⟨q, hqe⟩ : ∃ q, i + nl = q := ⟨_, rfl⟩
  rw [hqe] at hch hlen
  have hEq : s.data.toList.drop q = atB l ++ (tagTail cl ++ rest) := by
    rw [← hqe, ← List.drop_drop, hE, ← hnl, List.drop_left]
  -- the character behind the name
  have hqs : q < s.size := by omega
  obtain ⟨c, hc⟩ : ∃ c, s[q]'hqs = c := ⟨_, rfl⟩
  have hc3 : c = 32 ∨ c = 47 ∨ c = 62 := by
    have h1 : (s.data.toList.drop q)[0]? = some c := by rw [List.getElem?_drop, Nat.add_zero, Lib.data_getElem? s q hqs, hc]
    rw [hEq] at h1
    cases l with
    | nil => cases cl <;> simp [atB, tagTail] at h1 <;> simp [← h1]
    | cons a l => simp [atB, AT.b] at h1; simp [← h1]
  have HH := Lib.hid (And.intro hget (And.intro hn (And.intro hl (And.intro hnd (And.intro hE (And.intro hEq (And.intro hend (And.intro h htl))))))))
  have hblt := h.lt
  obtain ⟨z1, z2, z3, z4, z5⟩ := set_at h 0
  have HC := Lib.hid hc
  clear z4 z5 hget hn hl hnd hE hEq hend h htl hc
  go_enter Tryz.func38, Tryz.ntmps38
  go_wp2_with fail
  go_loopg [] nl (fun m wx => ∃ p : Nat, p + m = q ∧ i ≤ p ∧ p ≤ q ∧ ScO (· < w.heap.size) B b s p txt out wx ∧ KB b w wx)
  case atStart => exact ⟨i, by omega, by omega, by omega, HH.out.2.2.2.2.2.2.2.1.toL, KB.refl b w⟩
  case round =>
    obtain ⟨p, hm, hj1, hjk, hsj, hkb⟩ := hrel
    obtain ⟨x1, x2, x3, x4⟩ := setO hsj (p + 1)
    have hii : (p : Int) < (s.size : Int) := by omega
    have hwj := wrap_succ p (by omega)
    by_cases hlt : p < q
    · obtain ⟨hp, c1, hc1, hnc⟩ := hch p (by omega) hlt
      have n47 := byte_nb (hnc.ne (n := 47) (by unfold NameB; decide)) (k := 47) rfl
      have n62 := byte_nb (hnc.ne (n := 62) (by unfold NameB; decide)) (k := 62) rfl
      have hsp := fun W n => Calls.quiet_of (w := W) (n := n) ((isSpace_any c1 (W.drewN n)).mono fun e w' h => ⟨h.1, h.2.out⟩)
      rw [hnc.sp] at hsp
      have HJ := Lib.hid (And.intro hsj (And.intro hkb (And.intro x4 hnc)))
      clear hsj hkb x4 hnc hch
      go_wp2_with fail
      go_quiet ((go_at_call 47; with_reducible exact hsp _ _))
      go_wp2_with fail
      have hbd := pw_below_drewN (Below.refl wr.heap.size wr) nq
      have h2 := HJ.out.1.keep hbd
      have h3 := HJ.out.2.1.below hbd
      have h4 := (setO h2 (p + 1)).2.2.2
      go_roundg (q - (p + 1))
      case measure => omega
      case rel => exact ⟨p + 1, by omega, by omega, by omega, h4, h3.set 1 _⟩
    · obtain rfl : p = q := by omega
      have hc := HC.out
      have hsp := fun W n => Calls.quiet_of (w := W) (n := n) ((isSpace_any c (W.drewN n)).mono fun e w' h => ⟨h.1, h.2.out⟩)
      have HJ := Lib.hid (And.intro hsj hkb)
      clear hsj hkb x4 hch
      go_upto_region 1 with fail
      go_cut [61] (fun s61 wx => s61 = .bool false ∧ ∃ m, wx = wr.drewN m)
      case first =>
        rcases hc3 with hc3 | hc3 | hc3
        · rw [show isSp c = true from by rw [hc3]; rfl] at hsp
          clear hc3
          go_quiet ((go_at_call 47; with_reducible exact hsp _ _))
          go_wp2_with fail
          go_meet
          exact ⟨rfl, _, rfl⟩
        · rw [show isSp c = false from by rw [hc3]; rfl] at hsp
          have n47 : ((c.toNat : Int) != 47) = false := by rw [hc3]; rfl
          clear hc3
          go_quiet ((go_at_call 47; with_reducible exact hsp _ _))
          go_wp2_with fail
          go_meet
          exact ⟨rfl, _, rfl⟩
        · rw [show isSp c = false from by rw [hc3]; rfl] at hsp
          have n47 : ((c.toNat : Int) != 47) = true := by rw [hc3]; rfl
          have n62 : ((c.toNat : Int) != 62) = false := by rw [hc3]; rfl
          clear hc3
          go_quiet ((go_at_call 47; with_reducible exact hsp _ _))
          go_wp2_with fail
          go_meet
          exact ⟨rfl, _, rfl⟩
      case rest =>
        obtain ⟨rfl, m1, rfl⟩ := hcut
        go_upto_region 3 with fail
        have hbd1 := pw_below_drewN (Below.refl wr.heap.size wr) m1
        have hsA := HJ.out.1.keep hbd1
        have hkA := HJ.out.2.below hbd1
        obtain ⟨W0, hW0⟩ : ∃ W0, (wr.drewN m1).drew = W0 := ⟨_, rfl⟩
        have hbd0 : Below (wr.drewN m1).heap.size (wr.drewN m1) W0 := by rw [← hW0]; exact Below.drew (Below.refl _ _)
        have hs0' := hsA.keep hbd0
        have hk0' := hkA.below hbd0
        obtain ⟨u1, u2, u3, u4⟩ := setO hs0' 0
        have hb0 := hs0'.lt
        have hx : s.extract i p = bStr name := str_ext (by
          rw [← hqe, extract_take', HH.out.2.2.2.2.1, ← hnl, List.take_left, bStr_list])
        have hlow := fun W => lower_any (bStr name) W (by rw [bStr_size]; omega)
        rw [show lowS (bStr name) = bStr name from by unfold lowS; rw [bStr_list, name_low HH.out.2.1]] at hlow
        have hij : (i : Int) ≤ (p : Int) := by omega
        have hjs : (p : Int) ≤ (s.size : Int) := by omega
        have H0 := Lib.hid (And.intro hs0' hk0')
        clear hs0' hk0' hbd0 hbd1 hsA hkA u4 hsp
        refine wp_region_last 14 hmx rfl (fun w' => Below W0.heap.size W0 w') (fun w1 w2 => Below w1.heap.size w1 w2) (fun k v w' => match k with
          | 0 => v = .int .i64 kd
          | 1 | 2 | 3 | 6 | 7 => v = .pointer (some ⟨b, 0, none⟩)
          | 4 => v = .string s
          | 5 => v = .int .i64 i
          | 8 => v = .pointer (some ⟨b, 1, none⟩)
          | 9 => v = .int .i64 p
          | 10 => v = .string (bStr name)
          | 11 => v = .string (bStr name)
          | 12 => v = .agg #[.int .i64 kd, .string (bStr name), .slice none 0 0]
          | 13 => ∃ g, v = .pointer (some ⟨g, 0, none⟩) ∧ W0.heap.size ≤ g ∧ w'.heap[g]? = some (.cells #[.int .i64 0, .string ⟨#[]⟩, .slice none 0 0] 52 (0, 0))
          | _ => False) ?_ (by kernel_rfl) (by rw [hW0]; exact Below.refl _ _) ?_ ?_
        · intro k v w1 w2 he hr
          match k, hr with
          | 0, hr | 1, hr | 2, hr | 3, hr | 4, hr | 5, hr | 6, hr | 7, hr | 8, hr | 9, hr | 10, hr | 11, hr | 12, hr => exact hr
          | 13, hr =>
            obtain ⟨g, h1, h2, h3⟩ := hr
            exact ⟨g, h1, h2, (he.block g (blk_lt h3)).trans h3⟩
        · simp only [List.take_succ_cons, List.take_zero, TableOps]
          refine ⟨⟨trivial, ?_⟩, ⟨trivial, ?_⟩, ⟨trivial, ?_⟩, ⟨trivial, ?_⟩, ⟨trivial, ?_⟩, ⟨trivial, ?_⟩, ⟨trivial, ?_⟩, ⟨trivial, ?_⟩, ⟨trivial, ?_⟩, ⟨trivial, ?_⟩, ⟨trivial, ?_⟩, ⟨trivial, ?_⟩, ⟨trivial, ?_⟩, ⟨trivial, ?_⟩, trivial⟩
          all_goals
            intro a' w' hS hD hF hdep
            clear hD
            have f0 := hF 0 (by kernel_rfl)
            have f1 := hF 1 (by kernel_rfl)
            have f4 := hF 4 (by kernel_rfl)
            clear hF
            have g0 := (hS.cell (p := ⟨b, 0, none⟩) hb0).trans u3
            have g1 := (hS.cell (p := ⟨b, 1, none⟩) hb0).trans u1
            simp [Region.binds, Holds] at hdep f0 f1 f4
          rotate_left 11
          · simp [Oper.wp, execOp, Act.eval, hdep, go_sem]
            refine (hlow w').mono ?_
            rintro e w'' ⟨rfl, h⟩
            exact ⟨_, rfl, hS.trans (h.mono hS.size), h, rfl⟩
          rotate_left 1
          · simp [Oper.wp, execOp, Act.eval, hdep, go_sem]
            exact ⟨_, rfl, hS.alloc hS.size _, (Below.refl _ _).alloc (Nat.le_refl _) _, _, rfl, hS.size, heap_alloc_new w' _⟩
          all_goals
            simp [Oper.wp, execOp, Act.eval, hdep, f0, f1, f4, go_sem, Below.refl, hS, g0, g1, hij, hjs, hx]
        · intro val W1 hS hall
          have hS' : Below W0.heap.size W0 W1 := hS
          have r12 : val 12 = .agg #[.int .i64 kd, .string (bStr name), .slice none 0 0] := hall 12 (by decide)
          have hr13 : ∃ g, val 13 = .pointer (some ⟨g, 0, none⟩) ∧ W0.heap.size ≤ g ∧ W1.heap[g]? = some (.cells #[.int .i64 0, .string ⟨#[]⟩, .slice none 0 0] 52 (0, 0)) := hall 13 (by decide)
          clear hall hS
          simp only [List.take_succ_cons, List.take_zero, putAll, List.setIfInBounds_toArray, List.set_cons_zero, List.set_cons_succ]
          generalize val 13 = v13 at hr13 ⊢
          have hv13 := hr13.choose_spec.1
          have hgW := hr13.choose_spec.2.1
          have hgb := hr13.choose_spec.2.2
          generalize hr13.choose = g at hv13 hgW hgb
          rw [r12, hv13]
          clear hr13
          have k0 := blk_frozen hgb 0
          have k1 := blk_frozen hgb 1
          have k2 := blk_frozen hgb 2
          have l0 : W1.cell? ⟨g, 0, none⟩ = some (.int .i64 0) := by rw [blk_cell hgb]; rfl
          have l1 : W1.cell? ⟨g, 1, none⟩ = some (.string ⟨#[]⟩) := by rw [blk_cell hgb]; rfl
          have l2 : W1.cell? ⟨g, 2, none⟩ = some (.slice none 0 0) := by rw [blk_cell hgb]; rfl
          simp [Oper.wp, execOp, Act.eval, go_sem, k0, k1, k2, l0, l1, l2, Exit.then]
          have hb2 : Below W0.heap.size W0 (((W1.setCell ⟨g, 0, none⟩ (.int .i64 kd)).setCell ⟨g, 1, none⟩ (.string (bStr name))).setCell ⟨g, 2, none⟩ (.slice none 0 0)) := ((hS'.setCell (p := ⟨g, 0, none⟩) hgW _).setCell (p := ⟨g, 1, none⟩) hgW _).setCell (p := ⟨g, 2, none⟩) hgW _
          have hg2 := blk_set (blk_set (blk_set hgb 0 (.int .i64 kd)) 1 (.string (bStr name))) 2 (.slice none 0 0)
          generalize ((W1.setCell ⟨g, 0, none⟩ (.int .i64 kd)).setCell ⟨g, 1, none⟩ (.string (bStr name))).setCell ⟨g, 2, none⟩ (.slice none 0 0) = W2 at hb2 hg2 ⊢
          have hg2' : W2.heap[g]? = some (.cells #[.int .i64 kd, .string (bStr name), .slice none 0 0] 52 (0, 0)) := hg2
          have hs2 := H0.out.1.keep hb2
          have hk2 := H0.out.2.below hb2
          have hgw : w.heap.size ≤ g := Nat.le_trans H0.out.2.size hgW
          have hgb' : g ≠ b := by omega
          have H2 := Lib.hid (And.intro hg2' (And.intro hs2 hk2))
          clear hb2 hg2 hg2' hs2 hk2 hS' hgb k0 k1 k2 l0 l1 l2 r12 hv13 hlow hx u1 u2 u3 hb0 hgW hij hjs H0
          obtain ⟨pos, hpos⟩ : ∃ pos : Nat → Nat, ∀ k, pos k = p + (atB (l.take k)).length := ⟨_, fun _ => rfl⟩
          go_wp2_with fail
          go_loopg [6, 7, 8, 10] (2 * l.length + 2) (fun m s6 s7 s8 s10 wx => ∃ (k : Nat) (A : Option Addr) (n c : Nat), k ≤ l.length ∧ wx.heap[g]? = some (.cells #[.int .i64 kd, .string (bStr name), .slice A n c] 52 (0, 0)) ∧
            k54.R 54 wx w.heap.size anyB (.slice A n c) ((l.take k).map AT.t) ∧ KB b w wx ∧
            ((m + 2 * k = 2 * l.length + 2 ∧ s6 = .bool false ∧ ScO (· < w.heap.size) B b s (pos k) txt out wx) ∨ (m = 1 ∧ k = l.length ∧ cl = true ∧ s6 = .bool true ∧ ScO (· < w.heap.size) B b s (pos k + 1) txt out wx)))
          case atStart => exact ⟨0, none, 0, 0, by omega, H2.out.1, Kd.R_nil _ _ _ _ _, H2.out.2.2, .inl ⟨by omega, rfl, by rw [hpos]; simpa [atB] using H2.out.2.1⟩⟩
          case round =>
            obtain ⟨k, A, n, c5, hk, hgx, hRx, hkx, hcase⟩ := hrel
            have hEk : s.data.toList.drop (pos k) = atB (l.drop k) ++ (tagTail cl ++ rest) := by
              rw [hpos, ← List.drop_drop, HH.out.2.2.2.2.2.1]
              have : atB l = atB (l.take k) ++ atB (l.drop k) := by rw [← atB_append, List.take_append_drop]
              rw [this, List.append_assoc, List.drop_left]
            have hposn : pos l.length = p + (atB l).length := by rw [hpos, List.take_of_length_le (Nat.le_refl _)]
            have hcases : (k < l.length ∧ gk + 2 * k = 2 * l.length + 2 ∧ u6 = .bool false ∧ ScO (· < w.heap.size) B b s (pos k) txt out wr) ∨
                (k = l.length ∧ cl = true ∧ gk = 2 ∧ u6 = .bool false ∧ ScO (· < w.heap.size) B b s (pos k) txt out wr) ∨
                (k = l.length ∧ ∃ P : Nat, P + 1 = p + (atB l).length + (tagTail cl).length ∧ s.data.toList[P]? = some 62 ∧ u6 = .bool cl ∧ ScO (· < w.heap.size) B b s P txt out wr) := by
              rcases hcase with ⟨hm2, h6, hsx⟩ | ⟨hm1, hkl, hcl, h6, hsx⟩
              · by_cases hkn : k < l.length
                · exact .inl ⟨hkn, hm2, h6, hsx⟩
                · have hkl : k = l.length := by omega
                  cases cl with
                  | true => exact .inr (.inl ⟨hkl, rfl, by omega, h6, hsx⟩)
                  | false =>
                    refine .inr (.inr ⟨hkl, pos k, by rw [hkl, hposn]; rfl, ?_, h6, hsx⟩)
                    have h1 : (s.data.toList.drop (pos k))[0]? = some 62 := by rw [hEk, hkl, List.drop_length]; rfl
                    rw [List.getElem?_drop, Nat.add_zero] at h1
                    exact h1
              · subst hcl
                refine .inr (.inr ⟨hkl, pos k + 1, by rw [hkl, hposn]; rfl, ?_, h6, hsx⟩)
                have h1 : (s.data.toList.drop (pos k))[1]? = some 62 := by rw [hEk, hkl, List.drop_length]; rfl
                rw [List.getElem?_drop] at h1
                exact h1
            clear hcase
            rcases hcases with ⟨hkn, hm2, rfl, hsx⟩ | ⟨rfl, rfl, hm2, rfl, hsx⟩ | ⟨rfl, P, hP, hPc, rfl, hsx⟩
            · obtain ⟨a, hak⟩ : ∃ a, l[k]? = some a := ⟨_, List.getElem?_eq_getElem hkn⟩
              obtain ⟨ha1, ha2, ha3, ha4⟩ := HH.out.2.2.1 a (List.mem_of_getElem? hak)
              have hsplit : atB (l.drop k) = a.b ++ atB (l.drop (k + 1)) := by
                obtain ⟨hk', hu⟩ := List.getElem?_eq_some_iff.1 hak
                rw [← hu, List.drop_eq_getElem_cons hk']
                rfl
              obtain ⟨P, hPe0⟩ : ∃ P, pos k = P := ⟨_, rfl⟩
              have hpos1 : pos (k + 1) = P + 1 + a.key.length + 2 + (unB a.us).length + 1 := by
                rw [hpos, atB_take hak, List.length_append, ← Nat.add_assoc, ← hpos, hPe0]
                simp [AT.b]
                omega
              rw [hPe0] at hsx hEk
              rw [hsplit] at hEk
              have hP0 : s.data.toList[P]? = some 32 := by
                have h1 : (s.data.toList.drop P)[0]? = some 32 := by rw [hEk]; rfl
                rw [List.getElem?_drop, Nat.add_zero] at h1
                exact h1
              have hE1 : s.data.toList.drop (P + 1) = a.key ++ (61 :: 34 :: (unB a.us ++ 34 :: (atB (l.drop (k + 1)) ++ (tagTail cl ++ rest)))) := by
                rw [← List.drop_drop, hEk]
                simp [AT.b]
              obtain ⟨ck, hck⟩ : ∃ ck, a.key[0]? = some ck := by
                cases hkk : a.key with
                | nil => exact absurd hkk ha2
                | cons x y => exact ⟨x, rfl⟩
              have hP1 : s.data.toList[P + 1]? = some ck := by
                have h1 : (s.data.toList.drop (P + 1))[0]? = some ck := by
                  rw [hE1, List.getElem?_append_left (by have := (List.getElem?_eq_some_iff.1 hck).1; exact this), hck]
                rw [List.getElem?_drop, Nat.add_zero] at h1
                exact h1
              have hPs : P < s.size := by
                have := (List.getElem?_eq_some_iff.1 hP0).1
                omega
              have hPs1 : P + 1 < s.size := by
                have := (List.getElem?_eq_some_iff.1 hP1).1
                omega
              obtain ⟨Q1, hQ1⟩ : ∃ Q1, P + 1 = Q1 := ⟨_, rfl⟩
              rw [hQ1] at hP1 hPs1 hE1
              obtain ⟨cz, hcz⟩ : ∃ cz, s[P]'hPs = cz := ⟨_, rfl⟩
              obtain ⟨cy, hcy⟩ : ∃ cy, s[Q1]'hPs1 = cy := ⟨_, rfl⟩
              have hc32 : cz = 32 := by
                rw [Lib.data_getElem? s P hPs, hcz] at hP0
                exact Option.some.inj hP0
              have hcn : NameB cy := by
                rw [Lib.data_getElem? s Q1 hPs1, hcy] at hP1
                rw [Option.some.inj hP1]
                exact ha1 _ (List.mem_of_getElem? hck)
              have n62 := byte_ne (hcn.ne (n := 62) (by unfold NameB; decide)) (k := 62) rfl
              have n47 := byte_ne (hcn.ne (n := 47) (by unfold NameB; decide)) (k := 47) rfl
              have hsp := fun W n => Calls.quiet_of (w := W) (n := n) ((isSpace_any cz (W.drewN n)).mono fun e w' h => ⟨h.1, h.2.out⟩)
              rw [show isSp cz = true from by rw [hc32]; rfl] at hsp
              have hsq := fun W n => Calls.quiet_of (w := W) (n := n) ((isSpace_any cy (W.drewN n)).mono fun e w' h => ⟨h.1, h.2.out⟩)
              rw [hcn.sp] at hsq
              have hPi : (P : Int) < (s.size : Int) := by omega
              have hQi : (Q1 : Int) < (s.size : Int) := by omega
              have hQe : ((Q1 : Int) == (s.size : Int)) = false := beq_eq_false_iff_ne.2 (by omega)
              have hwP : IntKind.i64.wrap ((P : Int) + 1) = (Q1 : Int) := by rw [wrap_succ P (by omega), ← hQ1]; rfl
              have HX := Lib.hid (And.intro hPe0 (And.intro hQ1 (And.intro hm2 (And.intro hpos1 (And.intro hE1 (And.intro hak (And.intro ha1 (And.intro ha2 (And.intro ha3 ha4)))))))))
              clear hEk hP0 hP1 hc32 hcn hposn hPe0 hQ1 hm2 hpos1 hE1 hak ha1 ha2 ha3 ha4 hsplit hck
              go_wp2_with fail
              go_loopg [] 2 (fun m wx => (m = 2 ∧ ScO (· < w.heap.size) B b s P txt out wx ∨ m = 1 ∧ ScO (· < w.heap.size) B b s Q1 txt out wx) ∧ KB b w wx ∧ wx.heap[g]? = some (.cells #[.int .i64 kd, .string (bStr name), .slice A n c5] 52 (0, 0)) ∧ k54.R 54 wx w.heap.size anyB (.slice A n c5) ((l.take k).map AT.t))
              case atStart => exact ⟨.inl ⟨rfl, hsx⟩, hkx, hgx, hRx⟩
              case round =>
                clear hsx hkx hgx hRx
                obtain ⟨hcase, hkx, hgx, hRx⟩ := hrel
                have HG := Lib.hid (And.intro hkx (And.intro hgx hRx))
                clear hkx hgx hRx
                rcases hcase with ⟨rfl, hsx⟩ | ⟨rfl, hsx⟩
                · obtain ⟨x1, x2, x3, x4⟩ := setO hsx Q1
                  have HS := Lib.hid hsx
                  clear hsx x4
                  go_wp2_with fail
                  go_quiet ((go_at_call 47; with_reducible exact hsp _ _))
                  go_wp2_with fail
                  have hbd := pw_below_drewN (Below.refl wr.heap.size wr) nq
                  have hs7 := HS.out.keep hbd
                  have hk7 := HG.out.1.below hbd
                  have hg7 := (hbd.block g (blk_lt HG.out.2.1)).trans HG.out.2.1
                  have hR7 := Kd.R_below HG.out.2.2 hbd
                  obtain ⟨y1, y2, y3, y4⟩ := setO hs7 Q1
                  have hg8 := (Below.heap_setCell (wr.drewN nq) ⟨b, 1, none⟩ (.int .i64 (Q1 : Int)) g hgb').trans hg7
                  have hR8 : k54.R 54 ((wr.drewN nq).setCell ⟨b, 1, none⟩ (.int .i64 (Q1 : Int))) w.heap.size anyB (.slice A n c5) ((l.take k).map AT.t) := by
                    obtain ⟨_, nm, tv, ov, q1, _, _⟩ := hs7
                    exact Kd.R_set hR7 q1 (by have : k54.E = [] := rfl; rw [this]; decide) 1 _
                  go_roundg 1
                  case measure => omega
                  case rel => exact ⟨.inr ⟨by first | rfl | exact trivial, y4⟩, hk7.set 1 _, hg8, hR8⟩
                · obtain ⟨x1, x2, x3, x4⟩ := setO hsx 0
                  have HS := Lib.hid hsx
                  clear hsx x4 hsp
                  go_wp2_with fail
                  go_quiet ((go_at_call 47; with_reducible exact hsq _ _))
                  go_wp2_with fail
                  go_quiet (fail)
                  go_wp2_with fail
                  go_quiet (fail)
                  go_wp2_with fail
                  go_quiet (fail)
                  go_upto_region 14 with fail
                  try simp only [World.drewN_drewN]
                  refine wp_any_draw fun mm => ?_
                  obtain ⟨hX1, hX2, hX3, hX4, hX5, hX6, ha1, ha2, ha3, ha4⟩ := HX.out
                  have hbd := pw_below_drewN (Below.refl wr.heap.size wr) mm
                  have hs7 := HS.out.keep hbd
                  have hk7 := HG.out.1.below hbd
                  have hg7 := (hbd.block g (blk_lt HG.out.2.1)).trans HG.out.2.1
                  have hR7 := Kd.R_below HG.out.2.2 hbd
                  have hat := attribute_any (· < w.heap.size) B b Q1 s txt out (wr.drewN mm) hs7 hs a.key ha1 ha2 a.us ha3 ha4 _ hX5
                  obtain ⟨P2, hP2⟩ : ∃ P2, Q1 + a.key.length + 2 + (unB a.us).length + 1 = P2 := ⟨_, rfl⟩
                  rw [hP2] at hat
                  have hP2' : pos (k + 1) = P2 := by rw [hX4, hX2, hP2]
                  have H7 := Lib.hid (And.intro hs7 (And.intro hk7 (And.intro hg7 hR7)))
                  clear hbd hs7 hk7 hg7 hR7 hX5 ha1 ha2 ha3 ha4 n62 n47 hQe hsq x1 x2 x3
                  go_wp2_with (go_at_call 56; fail)
                  refine hat.mono ?_
                  clear hat
                  rintro e w2 ⟨rfl, hs2, hk2⟩
                  have hgl := blk_lt H7.out.2.2.1
                  have hg2 := (hk2.block g hgl hgb').trans H7.out.2.2.1
                  have hR2 : k54.R 54 w2 w.heap.size anyB (.slice A n c5) ((l.take k).map AT.t) := by
                    obtain ⟨_, nm, tv, ov, q1, _, _⟩ := H7.out.1
                    exact hk2.rowA q1 H7.out.2.2.2
                  have hkk2 := H7.out.2.1.trans hk2
                  obtain ⟨e1, he1⟩ : ∃ e1, w2.heap.size = e1 := ⟨_, rfl⟩
                  obtain ⟨w3, hw3⟩ : ∃ w3, w2.alloc (.cells #[.string (bStr a.key), .string (bStr (unV a.us))] 54) = w3 := ⟨_, rfl⟩
                  have hb3 : Below w2.heap.size w2 w3 := by rw [← hw3]; exact (Below.refl _ _).alloc (Nat.le_refl _) _
                  have he3 : w3.heap[w2.heap.size]? = some (.cells #[.string (bStr a.key), .string (bStr (unV a.us))] 54 (0, 0)) := by rw [← hw3]; exact heap_alloc_new w2 _
                  have hs3 := hs2.keep hb3
                  have hk3 := hkk2.below hb3
                  have hg3 := (hb3.block g (blk_lt hg2)).trans hg2
                  have hR3 := Kd.R_below hR2 hb3
                  have hg32 : w3.cell? ⟨g, 2, none⟩ = some (.slice A n c5) := by rw [blk_cell hg3]; rfl
                  have heb : w2.heap.size ≠ b := by have := hs2.lt; omega
                  have hewl : w.heap.size ≤ w2.heap.size := hkk2.size
                  have H3 := Lib.hid (And.intro hs3 (And.intro hk3 (And.intro hg3 (And.intro hR3 he3))))
                  have hnk : n = k := by
                    have := (Kd.R_reads' hR2).1
                    rw [List.length_map, List.length_take] at this
                    omega
                  subst hnk
                  clear hs2 hk2 hg2 hR2 hkk2 hb3 he3 hs3 hk3 hg3 hR3 he1
                  go_wp2_with fail
                  go_loopg [10, 202] n (fun m s10 s202 wx => ∃ j : Nat, j + m = n ∧ s202 = .int .i64 j ∧ ScO (· < w.heap.size) B b s P2 txt out wx ∧ KB b w wx ∧ wx.heap[g]? = some (.cells #[.int .i64 kd, .string (bStr name), .slice A n c5] 52 (0, 0)) ∧
                    k54.R 54 wx w.heap.size anyB (.slice A n c5) ((l.take n).map AT.t) ∧ wx.heap[w2.heap.size]? = some (.cells #[.string (bStr a.key), .string (bStr (unV a.us))] 54 (0, 0)))
                  case atStart => exact ⟨0, by omega, rfl, H3.out.1, H3.out.2.1, H3.out.2.2.1, H3.out.2.2.2.1, H3.out.2.2.2.2⟩
                  case round =>
                    obtain ⟨j, hj, rfl, hsj, hkj, hgj, hRj, hej⟩ := hrel
                    obtain ⟨y1, y2, y3⟩ := setO7 hsj
                    by_cases hjn : j < n
                    · obtain ⟨a2, ha2⟩ : ∃ a2, l[j]? = some a2 := ⟨_, List.getElem?_eq_getElem (by omega)⟩
                      have hCj := (Kd.R_reads' hRj).2.2
                      have hlk : ((l.take n).map AT.t).length = n := by rw [List.length_map, List.length_take]; omega
                      obtain ⟨ad, hAd, v0, v1⟩ := PFnTokenRead.at_T54 hCj (j : Int) (by omega) (by rw [hlk]; omega)
                      have hrd : PFnTokenRead.rd_T54 ((l.take n).map AT.t) (j : Int) = a2.t := by
                        unfold PFnTokenRead.rd_T54
                        rw [List.getD_eq_getElem?_getD, show ((j : Int)).toNat = j from by omega, List.getElem?_map, List.getElem?_take, if_pos hjn, ha2]
                        rfl
                      rw [hrd, show ((j : Int)).toNat = j from by omega] at v0 v1
                      have v0' : wr.cell? (ad.add (j * 2)) = some (.string (bStr a2.key)) := v0
                      have v1' : wr.cell? ⟨(ad.add (j * 2)).block, (ad.add (j * 2)).off + 1, none⟩ = some (.string (bStr (unV a2.us))) := v1
                      have hkne : ((bStr a.key).toList == (bStr a2.key).toList) = false := by
                        refine beq_eq_false_iff_ne.2 fun e => ?_
                        rw [Lib.toList_data, Lib.toList_data, bStr_list, bStr_list] at e
                        have h1 : (l.map AT.key)[n]? = some a.key := by rw [List.getElem?_map, hX6]; rfl
                        have h2 : (l.map AT.key)[j]? = some a2.key := by rw [List.getElem?_map, ha2]; rfl
                        obtain ⟨q1, q2⟩ := List.getElem?_eq_some_iff.1 h1
                        obtain ⟨q3, q4⟩ := List.getElem?_eq_some_iff.1 h2
                        exact (List.pairwise_iff_getElem.1 HH.out.2.2.2.1) j n q3 q1 hjn (by rw [q4, q2, e])
                      have ev0 : wr.cell? ⟨w2.heap.size, 0, none⟩ = some (.string (bStr a.key)) := by rw [blk_cell hej]; rfl
                      have hel := blk_lt hej
                      have hblr := hsj.lt
                      have hjn' : (j : Int) < (n : Int) := by omega
                      have hwj := wrap_succ j (by
                        have h1 := (Kd.R_reads' hRj).2.1
                        have h2 : l.length ≤ (atB l).length := atB_le l
                        omega)
                      have HJ := Lib.hid (And.intro hsj (And.intro hkj (And.intro hgj (And.intro hRj (And.intro hej y3)))))
                      have hjj := Lib.hid hj
                      have HX7 := Lib.hid (And.intro hX1 (And.intro hX2 (And.intro hX3 (And.intro hX4 (And.intro hX6 (And.intro hP2 hP2'))))))
                      clear hsj hkj hgj hRj hej y3 hCj hrd v0 v1 ha2 hj hlk hX1 hX2 hX3 hX4 hX6 hP2 hP2'
                      go_wp2_with fail
                      have hb9 : Below (wr.setCell ⟨b, 7, none⟩ (.bool false)).heap.size (wr.setCell ⟨b, 7, none⟩ (.bool false)) ((wr.setCell ⟨b, 7, none⟩ (.bool false)).alloc (.cells #[.string (bStr a2.key), .string (bStr (unV a2.us))] 54)) := (Below.refl _ _).alloc (Nat.le_refl _) _
                      obtain ⟨hJ1, hJ2, hJ3, hJ4, hJ5, hJ6⟩ := HJ.out
                      have hq3 := (Below.heap_setCell wr ⟨b, 7, none⟩ (.bool false) g hgb').trans hJ3
                      have hq5 := (Below.heap_setCell wr ⟨b, 7, none⟩ (.bool false) w2.heap.size heb).trans hJ5
                      have hq4 : k54.R 54 (wr.setCell ⟨b, 7, none⟩ (.bool false)) w.heap.size anyB (.slice A n c5) ((l.take n).map AT.t) := by
                        obtain ⟨_, nm, tv, ov, q1, _, _⟩ := hJ1
                        exact Kd.R_set hJ4 q1 (by have : k54.E = [] := rfl; rw [this]; decide) 7 _
                      have hjj' := hjj.out
                      go_roundg (n - (j + 1))
                      case measure => omega
                      case rel => exact ⟨j + 1, by omega, by first | rfl | go_num, hJ6.keep hb9, (hJ2.set 7 _).below hb9, (hb9.block g (blk_lt hq3)).trans hq3, Kd.R_below hq4 hb9, (hb9.block _ (blk_lt hq5)).trans hq5⟩
                    · obtain rfl : n = j := by omega
                      have hlk : ((l.take n).map AT.t).length = n := by rw [List.length_map, List.length_take]; omega
                      have hnl9 : n ≤ l.length := by omega
                      have hln9 : l.length ≤ 1099511627776 := by
                        have h2 : l.length ≤ (atB l).length := atB_le l
                        omega
                      obtain ⟨v1, w1, hrun, hR1, _, hg1, _⟩ := R_run (P := Tryz.prog) (w0 := wr) k54 w.heap.size 50 50 54 (.agg #[(.string ⟨#[]⟩), (.string ⟨#[]⟩)]) 32 Tryz.underlying50 PFnTokenRead.info54 rfl (by decide) (by decide) (.slice A n c5) ((l.take n).map AT.t) a.t [.string (bStr a.key), .string (bStr (unV a.us))] anyB (fun k => anyB k ∧ some k ≠ (Value.slice A n c5).ownBlock)
                        (PFnTokenRead.k54_mkM wr w.heap.size _ a.t) (fun k hk => hk) (fun _ _ => trivial) hRj (Below.refl _ _) hkj.size (by rw [hlk]; omega)
                      have hrun' : (appW #[50, 50] 50 #[.slice A n c5, .slice (some ⟨wr.heap.size, 0, none⟩) 1 1]).run Tryz.prog (wr.alloc (.cells #[.string (bStr a.key), .string (bStr (unV a.us))] 54)) = .ok v1 w1 := hrun
                      obtain ⟨A7, n7, hv7⟩ := Kd.R_slice hR1
                      have hl7 : ((l.take n).map AT.t ++ [a.t]).length = n + 1 := by rw [List.length_append, hlk]; rfl
                      rw [hl7] at hv7
                      subst hv7
                      have hty := Kd.R_typed hRj
                      have hbs := Kd.R_base hRj
                      have hng : some g ≠ (Value.slice A n c5).ownBlock := Kd.R_ne hRj hgj (by decide)
                      have hnb : some b ≠ (Value.slice A n c5).ownBlock := by
                        obtain ⟨_, nm, tv, ov, q1, _, _⟩ := hsj
                        exact Kd.R_ne hRj q1 (by decide)
                      have hgA := (hg1.block g (blk_lt hgj) hng).trans hgj
                      have hsA : ScO (· < w.heap.size) B b s P2 txt out w1 := by
                        obtain ⟨hB, nm, tv, ov, q1, q2, q3⟩ := hsj
                        exact ⟨hB, nm, tv, ov, (hg1.block b (blk_lt q1) hnb).trans q1, Kd.R_grown q2 hg1 (fun k hk e => by have := hbs k e.symm; omega), Kd.R_grown q3 hg1 (fun k hk e => by have := hbs k e.symm; omega)⟩
                      have hkA : KB b w w1 := hkj.trans' hg1 hbs
                      have hgA' := blk_set hgA 2 (.slice A7 (n + 1) n7)
                      have hsA' := hsA.other (fun k hk => by have h1 : k < w.heap.size := hk; omega) hgb' (.slice A7 (n + 1) n7) (j := 2)
                      have hkA' := hkA.setNew hgw 2 (.slice A7 (n + 1) n7)
                      have hRA' : k54.R 54 (w1.setCell ⟨g, 2, none⟩ (.slice A7 (n + 1) n7)) w.heap.size anyB (.slice A7 (n + 1) n7) ((l.take (n + 1)).map AT.t) := by
                        have := Kd.R_set hR1 hgA (by have : k54.E = [] := rfl; rw [this]; decide) 2 (.slice A7 (n + 1) n7)
                        rw [List.take_add_one, hX6]
                        simpa using this
                      have g2 : wr.cell? ⟨g, 2, none⟩ = some (.slice A n c5) := by rw [blk_cell hgj]; rfl
                      have ev0 : wr.cell? ⟨w2.heap.size, 0, none⟩ = some (.string (bStr a.key)) := by rw [blk_cell hej]; rfl
                      have ev1 : wr.cell? ⟨w2.heap.size, 1, none⟩ = some (.string (bStr (unV a.us))) := by rw [blk_cell hej]; rfl
                      have fA2 := blk_frozen hgA 2
                      have cA2 : w1.cell? ⟨g, 2, none⟩ = some (.slice A n c5) := by rw [blk_cell hgA]; rfl
                      obtain ⟨V1, hV1⟩ : ∃ V1, wr.alloc (.cells #[.string (bStr a.key), .string (bStr (unV a.us))] 54) = V1 := ⟨_, rfl⟩
                      rw [hV1] at hrun'
                      have hRR := Lib.hid (And.intro hgA' (And.intro hsA' (And.intro hkA' (And.intro hRA' (And.intro hX3 (And.intro hP2' hkn))))))
                      clear hgA hsA hkA hgA' hsA' hkA' hRA' hR1 hrun hg1 hty hbs hng hnb hsj hkj hgj hRj hej hX1 hX2 hX3 hX4 hX6 hP2 hP2' hlk hl7 y3 hkn hnl9 hln9 hjn
                      go_wp2_with fail
                      have hX3' := hRR.out.2.2.2.2.1
                      have hP2'' := hRR.out.2.2.2.2.2.1
                      have hkn' := hRR.out.2.2.2.2.2.2
                      go_roundg (2 * l.length + 2 - 2 * (n + 1))
                      case measure => omega
                      case rel => exact ⟨n + 1, A7, n + 1, n7, by omega, hRR.out.1, hRR.out.2.2.2.1, hRR.out.2.2.1, .inl ⟨by omega, rfl, by rw [hP2'']; exact hRR.out.2.1⟩⟩
            · obtain ⟨P, hPe0⟩ : ∃ P, pos l.length = P := ⟨_, rfl⟩
              rw [hPe0] at hsx hEk
              have hP0 : s.data.toList[P]? = some 47 := by
                have h1 : (s.data.toList.drop P)[0]? = some 47 := by rw [hEk, List.drop_length]; rfl
                rw [List.getElem?_drop, Nat.add_zero] at h1
                exact h1
              have hP1 : s.data.toList[P + 1]? = some 62 := by
                have h1 : (s.data.toList.drop P)[1]? = some 62 := by rw [hEk, List.drop_length]; rfl
                rw [List.getElem?_drop] at h1
                exact h1
              have hPs : P < s.size := by
                have := (List.getElem?_eq_some_iff.1 hP0).1
                omega
              have hPs1 : P + 1 < s.size := by
                have := (List.getElem?_eq_some_iff.1 hP1).1
                omega
              obtain ⟨Q1, hQ1⟩ : ∃ Q1, P + 1 = Q1 := ⟨_, rfl⟩
              rw [hQ1] at hP1 hPs1
              obtain ⟨cz, hcz⟩ : ∃ cz, s[P]'hPs = cz := ⟨_, rfl⟩
              obtain ⟨cy, hcy⟩ : ∃ cy, s[Q1]'hPs1 = cy := ⟨_, rfl⟩
              have hc47 : cz = 47 := by
                rw [Lib.data_getElem? s P hPs, hcz] at hP0
                exact Option.some.inj hP0
              have hc62 : cy = 62 := by
                rw [Lib.data_getElem? s Q1 hPs1, hcy] at hP1
                exact Option.some.inj hP1
              have n62 : ((cz.toNat : Int) == 62) = false := by rw [hc47]; rfl
              have n47 : ((cz.toNat : Int) == 47) = true := by rw [hc47]; rfl
              have m62 : ((cy.toNat : Int) == 62) = true := by rw [hc62]; rfl
              have hsp := fun W n => Calls.quiet_of (w := W) (n := n) ((isSpace_any cz (W.drewN n)).mono fun e w' h => ⟨h.1, h.2.out⟩)
              rw [show isSp cz = false from by rw [hc47]; rfl] at hsp
              have hPi : (P : Int) < (s.size : Int) := by omega
              have hQi : (Q1 : Int) < (s.size : Int) := by omega
              have hPe : ((P : Int) == (s.size : Int)) = false := beq_eq_false_iff_ne.2 (by omega)
              have hwP : IntKind.i64.wrap ((P : Int) + 1) = (Q1 : Int) := by rw [wrap_succ P (by omega), ← hQ1]; rfl
              obtain ⟨x1, x2, x3, x4⟩ := setO hsx Q1
              have HX := Lib.hid (And.intro hgx (And.intro hRx (And.intro hkx (And.intro hsx (And.intro hPe0 (And.intro hQ1 hm2))))))
              clear hgx hRx hkx hsx hEk hP0 hP1 hc47 hc62 x4 hposn hPe0 hQ1 hm2
              go_wp2_with fail
              go_loopg [] 1 (fun m wx => wx = wr)
              case atStart => rfl
              case round =>
                obtain rfl := hrel
                go_wp2_with fail
                go_quiet ((go_at_call 47; with_reducible exact hsp _ _))
                go_wp2_with fail
                go_quiet (fail)
                go_wp2_with fail
                go_quiet (fail)
                go_wp2_with fail
                go_quiet (fail)
                go_upto_region 12 with fail
                try simp only [World.drewN_drewN]
                refine wp_any_draw fun mm => ?_
                have hbd := pw_below_drewN (Below.refl wr.heap.size wr) mm
                have hs7 := HX.out.2.2.2.1.keep hbd
                have hk7 := HX.out.2.2.1.below hbd
                have hg7 := (hbd.block g (blk_lt HX.out.1)).trans HX.out.1
                have hR7 := Kd.R_below HX.out.2.1 hbd
                obtain ⟨y1, y2, y3, y4⟩ := setO hs7 Q1
                have hk8 := hk7.set 1 (.int .i64 (Q1 : Int))
                have hg8 := (Below.heap_setCell (wr.drewN mm) ⟨b, 1, none⟩ (.int .i64 (Q1 : Int)) g hgb').trans hg7
                have hR8 : k54.R 54 ((wr.drewN mm).setCell ⟨b, 1, none⟩ (.int .i64 (Q1 : Int))) w.heap.size anyB (.slice A n c5) ((l.take l.length).map AT.t) := by
                  obtain ⟨_, nm, tv, ov, q1, _, _⟩ := hs7
                  exact Kd.R_set hR7 q1 (by have : k54.E = [] := rfl; rw [this]; decide) 1 _
                obtain ⟨w8, hw8⟩ : ∃ w8, (wr.drewN mm).setCell ⟨b, 1, none⟩ (.int .i64 (Q1 : Int)) = w8 := ⟨_, rfl⟩
                rw [hw8] at y4 hk8 hg8 hR8
                obtain ⟨v1, v2, v3, v4⟩ := setO y4 0
                have H8 := Lib.hid (And.intro y4 (And.intro hk8 (And.intro hR8 hg8)))
                clear hbd hs7 hk7 hg7 hR7 y3 y4 hk8 hg8 hR8 n62 n47 hPe v4
                go_wp2_with fail
                go_quiet (fail)
                go_wp2_with fail
                have hbd8 := pw_below_drewN (Below.refl w8.heap.size w8) nq
                have hm2' := HX.out.2.2.2.2.2.2
                go_roundg 1
                case measure => omega
                case rel =>
                  refine ⟨l.length, A, n, c5, Nat.le_refl _, (hbd8.block g (blk_lt H8.out.2.2.2)).trans H8.out.2.2.2, Kd.R_below H8.out.2.2.1 hbd8, H8.out.2.1.below hbd8, .inr ⟨by first | exact trivial | rfl, by first | exact trivial | rfl, by first | exact trivial | rfl, by first | exact trivial | rfl, ?_⟩⟩
                  rw [HX.out.2.2.2.2.1, HX.out.2.2.2.2.2.1]
                  exact H8.out.1.keep hbd8
            · have hPs : P < s.size := by
                have := (List.getElem?_eq_some_iff.1 hPc).1
                omega
              obtain ⟨cz, hcz⟩ : ∃ cz, s[P]'hPs = cz := ⟨_, rfl⟩
              have hc62 : cz = 62 := by
                rw [Lib.data_getElem? s P hPs, hcz] at hPc
                exact Option.some.inj hPc
              have n62 : ((cz.toNat : Int) == 62) = true := by rw [hc62]; rfl
              have hsp := fun W n => Calls.quiet_of (w := W) (n := n) ((isSpace_any cz (W.drewN n)).mono fun e w' h => ⟨h.1, h.2.out⟩)
              rw [show isSp cz = false from by rw [hc62]; rfl] at hsp
              have hPi : (P : Int) < (s.size : Int) := by omega
              have hPe : ((P : Int) == (s.size : Int)) = false := beq_eq_false_iff_ne.2 (by omega)
              have hwP := wrap_succ P (by omega)
              obtain ⟨x1, x2, x3, x4⟩ := setO hsx (P + 1)
              have hx4k := hkx.set 1 (.int .i64 ((P + 1 : Nat) : Int))
              have HX := Lib.hid (And.intro hgx (And.intro hRx (And.intro hkx (And.intro hsx (And.intro hP hEk)))))
              clear hgx hRx hkx hsx hP hEk hPc hc62 x4 hx4k hposn
              go_wp2_with fail
              go_loopg [] 1 (fun m wx => wx = wr)
              case atStart => rfl
              case round =>
                obtain rfl := hrel
                go_wp2_with fail
                go_quiet ((go_at_call 47; with_reducible exact hsp _ _))
                go_wp2_with fail
                go_quiet (fail)
                go_wp2_with fail
                go_quiet (fail)
                go_upto_region 9 with fail
                try simp only [World.drewN_drewN]
                refine wp_any_draw fun mm => ?_
                have hbd := pw_below_drewN (Below.refl wr.heap.size wr) mm
                have hs7 := HX.out.2.2.2.1.keep hbd
                have hk7 := HX.out.2.2.1.below hbd
                have hg7 := (hbd.block g (blk_lt HX.out.1)).trans HX.out.1
                have hR7 := Kd.R_below HX.out.2.1 hbd
                obtain ⟨y1, y2, y3, y4⟩ := setO hs7 (P + 1)
                have hk8 := hk7.set 1 (.int .i64 ((P + 1 : Nat) : Int))
                have hg8 := (Below.heap_setCell (wr.drewN mm) ⟨b, 1, none⟩ (.int .i64 ((P + 1 : Nat) : Int)) g hgb').trans hg7
                have hR8 : k54.R 54 ((wr.drewN mm).setCell ⟨b, 1, none⟩ (.int .i64 ((P + 1 : Nat) : Int))) w.heap.size anyB (.slice A n c5) ((l.take l.length).map AT.t) := by
                  obtain ⟨_, nm, tv, ov, q1, _, _⟩ := hs7
                  exact Kd.R_set hR7 q1 (by have : k54.E = [] := rfl; rw [this]; decide) 1 _
                obtain ⟨w8, hw8⟩ : ∃ w8, (wr.drewN mm).setCell ⟨b, 1, none⟩ (.int .i64 ((P + 1 : Nat) : Int)) = w8 := ⟨_, rfl⟩
                have hw8' : (wr.drewN mm).setCell ⟨b, 1, none⟩ (.int .i64 ((P : Int) + 1)) = w8 := hw8
                rw [hw8] at y4 hk8 hg8 hR8
                have a0 : w8.cell? ⟨g, 0, none⟩ = some (.int .i64 kd) := by rw [blk_cell hg8]; rfl
                have a1 : w8.cell? ⟨g, 1, none⟩ = some (.string (bStr name)) := by rw [blk_cell hg8]; rfl
                have a2 : w8.cell? ⟨g, 2, none⟩ = some (.slice A n c5) := by rw [blk_cell hg8]; rfl
                have H8 := Lib.hid (And.intro y4 (And.intro hk8 hR8))
                clear hbd hs7 hk7 hg7 hR7 y3 y4 hk8 hg8 hR8 hw8 n62 hPe
                go_wp2_with (go_at_call 55; fail)
                have hRl := Kd.R_lower H8.out.2.2 hBw
                rw [List.take_of_length_le (Nat.le_refl _)] at hRl
                refine (HH.out.2.2.2.2.2.2.1 (P + 1) w8 A n c5 H8.out.1.sc hRl).mono ?_
                rintro e w9 ⟨rfl, hs9, hg9⟩
                have hww : Went B w w9 := by
                  obtain ⟨hB, nm, tv, ov, q1, _, _⟩ := HH.out.2.2.2.2.2.2.2.1
                  exact (H8.out.2.1.went q1 hB).trans hg9
                have H9 := Lib.hid (And.intro hs9 hww)
                clear hs9 hg9 hww hRl
                go_wp2_with fail
                first | go_end0 | refine bodyPost_ret (results_none rfl _ _ _) rfl ?_
                refine ⟨rfl, ?_, H9.out.2⟩
                have hPP := HX.out.2.2.2.2.1
                rw [show i + name.length + (atB l).length + (tagTail cl).length = P + 1 from by omega]
                exact H9.out.1

end Go.Proofs.YtpkelgekannioaaGreatDoor

namespace Go.Proofs.YtpkelgekannioaaGreatDoor
open Go.RowKit Go.Shelf Go.BigFrame
open Go.Proofs.YtpkelgekannioaaGreatDoorW.PrintWords
open PFnTokenRead (S34 S38 S52 S54 k34 k38 k52 k54)
set_option linter.unusedSimpArgs false
set_option linter.unusedVariables false

/-- A letter first, then letters and digits. -/
def NameL (l : List UInt8) : Prop := (∀ c ∈ l, NameB c) ∧ ∃ c, l[0]? = some c ∧ 97 ≤ c.toNat ∧ c.toNat ≤ 122
theorem isAl_small {c : UInt8} (h : 97 ≤ c.toNat ∧ c.toNat ≤ 122) : isAl c = true := by
  unfold isAl
  have h1 : (97 : Int) ≤ (c.toNat : Int) := by omega
  have h2 : (c.toNat : Int) ≤ 122 := by omega
  simp [h1, h2]

theorem at_get {s : ByteArray} {i : Nat} {D : List UInt8} (h : s.data.toList.drop i = D) {j : Nat} {c : UInt8} (hj : D[j]? = some c) : ∃ hp : i + j < s.size, s[i + j]'hp = c := by
  subst h
  rw [List.getElem?_drop] at hj
  have hp : i + j < s.size := by
    have := (List.getElem?_eq_some_iff.1 hj).1
    rw [← Lib.size_eq] at this
    exact this
  refine ⟨hp, ?_⟩
  rw [Lib.data_getElem? s _ hp] at hj
  exact Option.some.inj hj

set_option maxHeartbeats 2000000 in
set_option maxRecDepth 100000 in
/-- At one of the five references. -/
theorem data_ref (B b i : Nat) (s : ByteArray) (txt : List UInt8) (out : List S52) (w : World) (h : Sc B b s i txt out w) (hs : s.size ≤ 1099511627776) (c : UInt8) (h5 : five c) (rest : List UInt8) (hr : s.data.toList.drop i = escB c ++ rest) (hl : txt.length + 1 ≤ 1099511627776) :
    Calls Tryz.prog 27 #[.pointer (some ⟨b, 0, none⟩)] w fun e w' => e = .returned (.tuple #[]) ∧ Sc B b s (i + (escB c).length) (txt ++ [c]) out w' ∧ Went B w w' := by
  have hBw := h.base
  obtain ⟨hp0, hc0⟩ := at_get hr (j := 0) (c := 38) (by rcases h5 with rfl | rfl | rfl | rfl | rfl <;> rfl)
  simp only [Nat.add_zero] at hp0 hc0
  obtain ⟨d, hd⟩ : ∃ d, (escB c ++ rest)[1]? = some d := by rcases h5 with rfl | rfl | rfl | rfl | rfl <;> exact ⟨_, rfl⟩
  obtain ⟨hp1, hc1⟩ := at_get hr hd
  obtain ⟨z1, z2, z3, z4, z5⟩ := set_at h 0
  have hwi := wrap_succ i (by omega)
  have hti : ((i : Int) + 1).toNat = i + 1 := by omega
  have h0i : (0 : Int) ≤ (i : Int) + 1 := by omega
  have hni : ((i : Int) + 1) < (s.size : Int) := by omega
  have hii : (i : Int) < (s.size : Int) := by omega
  have e38 : (((s[i]'hp0).toNat : Int) == 38) = true := by rw [hc0]; rfl
  have HS := Lib.hid h
  clear z4 z5 hd hc0 h
  go_enter Tryz.func27, Tryz.ntmps27
  go_wp2_with fail
  go_quiet (fail)
  go_wp2_with fail
  go_quiet (fail)
  go_wp2_with fail
  go_quiet (fail)
  go_wp2_with (go_at_call 36; fail)
  try simp only [World.drewN_drewN]
  refine (reference_any B b i s txt out _ (HS.out.keep (pw_below_drewN (Below.refl _ _) _)) hs c h5 rest hr hl).mono ?_
  rintro e w1 ⟨rfl, h1, g1⟩
  have H1 := Lib.hid (And.intro h1 ((Went.of_below (pw_below_drewN (Below.refl _ _) _) hBw).trans g1))
  clear h1 g1
  go_wp2_with fail
  first | go_end0 | refine bodyPost_ret (results_none rfl _ _ _) rfl ?_
  exact ⟨rfl, H1.out⟩

end Go.Proofs.YtpkelgekannioaaGreatDoor

namespace Go.Proofs.YtpkelgekannioaaGreatDoor
open Go.RowKit Go.Shelf Go.BigFrame
open Go.Proofs.YtpkelgekannioaaGreatDoorW.PrintWords
open PFnTokenRead (S34 S38 S52 S54 k34 k38 k52 k54)
set_option linter.unusedSimpArgs false
set_option linter.unusedVariables false

set_option maxHeartbeats 8000000 in
set_option maxRecDepth 100000 in
/-- At a start tag. -/
theorem data_alpha (B b i j : Nat) (s : ByteArray) (txt : List UInt8) (out out' : List S52) (w : World) (h : Sc B b s i txt out w) (hs : s.size ≤ 1099511627776) (d : UInt8) (hdl : 97 ≤ d.toNat ∧ d.toNat ≤ 122) (rest : List UInt8) (hE : s.data.toList.drop i = 60 :: d :: rest)
    (hend : ∀ w1 : World, Sc B b s (i + 1) txt out w1 → Calls Tryz.prog 38 #[.pointer (some ⟨b, 0, none⟩), .int .i64 2] w1 fun e w' => e = .returned (.tuple #[]) ∧ Sc B b s j [] out' w' ∧ Went B w1 w') :
    Calls Tryz.prog 27 #[.pointer (some ⟨b, 0, none⟩)] w fun e w' => e = .returned (.tuple #[]) ∧ Sc B b s j [] out' w' ∧ Went B w w' := by
  have hBw := h.base
  obtain ⟨hp0, hc0⟩ := at_get hE (j := 0) (c := 60) rfl
  simp only [Nat.add_zero] at hp0 hc0
  obtain ⟨hp1, hc1⟩ := at_get hE (j := 1) (c := d) rfl
  have hwi := wrap_succ i (by omega)
  have hti : ((i : Int) + 1).toNat = i + 1 := by omega
  have h0i : (0 : Int) ≤ (i : Int) + 1 := by omega
  have hni : ((i : Int) + 1) < (s.size : Int) := by omega
  have hii : (i : Int) < (s.size : Int) := by omega
  have e38 : (((s[i]'hp0).toNat : Int) == 38) = false := by rw [hc0]; rfl
  have e60 : (((s[i]'hp0).toNat : Int) == 60) = true := by rw [hc0]; rfl
  have hial : isAl (s[i + 1]'hp1) = true := by rw [hc1]; exact isAl_small hdl
  obtain ⟨z1, z2, z3, z4, z5⟩ := set_at h (i + 1)
  clear z4 z5
  have hW : ∀ n, Sc B b s (i + 1) txt out ((w.drewN n).setCell ⟨b, 1, none⟩ (.int .i64 ((i : Int) + 1))) ∧ Went B w ((w.drewN n).setCell ⟨b, 1, none⟩ (.int .i64 ((i : Int) + 1))) := fun n => by
    have q := set_at (h.keep (pw_below_drewN (Below.refl _ _) n)) (i + 1)
    exact ⟨q.2.2.2.1, (Went.of_below (pw_below_drewN (Below.refl _ _) n) hBw).trans q.2.2.2.2⟩
  have HW := Lib.hid hW
  clear hW
  have HS := Lib.hid (And.intro h hend)
  clear hc0 hc1 h hE hdl hend
  go_enter Tryz.func27, Tryz.ntmps27
  go_wp2_with fail
  go_quiet (fail)
  go_wp2_with fail
  go_quiet (fail)
  go_wp2_with fail
  go_quiet (fail)
  go_wp2_with fail
  go_quiet (fail)
  try simp only [World.drewN_drewN]
  go_wp2_with (go_at_call 37; go_must (refine (isAlpha_any (s[i + 1]'hp1) _).mono ?_; rintro e w' ⟨rfl, rfl⟩; rw [hial]))
  refine (HS.out.2 _ (HW.out _).1).mono ?_
  rintro e w1 ⟨rfl, h1, g1⟩
  have H1 := Lib.hid (And.intro h1 ((HW.out _).2.trans g1))
  clear h1 g1
  go_wp2_with fail
  first | go_end0 | refine bodyPost_ret (results_none rfl _ _ _) rfl ?_
  exact ⟨rfl, H1.out⟩

theorem data_start (B b i : Nat) (s : ByteArray) (txt : List UInt8) (out : List S52) (w : World) (h : Sc B b s i txt out w) (hs : s.size ≤ 1099511627776) (name : List UInt8) (hn : NameL name) (hu : Usual (bStr name)) (l : List AT) (hl : ∀ a ∈ l, a.ok)
    (hnd : (l.map AT.key).Nodup) (cl : Bool) (rest : List UInt8) (hE : s.data.toList.drop i = 60 :: (name ++ (atB l ++ (tagTail cl ++ rest)))) (ho : out.length + 1 ≤ 1099511627776) :
    Calls Tryz.prog 27 #[.pointer (some ⟨b, 0, none⟩)] w fun e w' => e = .returned (.tuple #[]) ∧ Sc B b s (i + 1 + name.length + (atB l).length + (tagTail cl).length) [] (out ++ textTok txt ++ [⟨if cl then 4 else 2, bStr name, l.map AT.t⟩]) w' ∧ Went B w w' := by
  obtain ⟨d, hd, hdl⟩ := hn.2
  have hn0 : name ≠ [] := by rintro rfl; simp at hd
  have hE1 : s.data.toList.drop (i + 1) = name ++ (atB l ++ (tagTail cl ++ rest)) := by
    rw [← List.drop_drop, hE]
    rfl
  obtain ⟨r, hr⟩ : ∃ r, name = d :: r := by
    cases name with
    | nil => exact absurd rfl hn0
    | cons x r => exact ⟨r, by simp at hd; rw [hd]⟩
  refine data_alpha B b i _ s txt out _ w h hs d hdl (r ++ (atB l ++ (tagTail cl ++ rest))) (by rw [hE, hr]; rfl) fun w1 h1 => ?_
  exact tag_any B b (i + 1) s txt out w1 h1 hs 2 _ name hn.1 hn0 l hl hnd cl rest hE1 (fun j w1 A n c h1 hA => ended_start B b j s txt out w1 h1 (bStr name) A n c cl (l.map AT.t) hA hu (by omega))

end Go.Proofs.YtpkelgekannioaaGreatDoor

namespace Go.Proofs.YtpkelgekannioaaGreatDoor
open Go.RowKit Go.Shelf Go.BigFrame
open Go.Proofs.YtpkelgekannioaaGreatDoorW.PrintWords
open PFnTokenRead (S34 S38 S52 S54 k34 k38 k52 k54)
set_option linter.unusedSimpArgs false
set_option linter.unusedVariables false

set_option maxHeartbeats 8000000 in
set_option maxRecDepth 100000 in
/-- The end function at an end tag. -/
theorem end_any (B b i : Nat) (s : ByteArray) (txt : List UInt8) (out : List S52) (w : World) (h : Sc B b s i txt out w) (hs : s.size ≤ 1099511627776) (name : List UInt8) (hn : NameL name) (rest : List UInt8) (hE : s.data.toList.drop i = 60 :: 47 :: (name ++ 62 :: rest)) (ho : out.length + 1 ≤ 1099511627776) :
    Calls Tryz.prog 39 #[.pointer (some ⟨b, 0, none⟩)] w fun e w' => e = .returned (.tuple #[]) ∧ Sc B b s (i + 2 + name.length + 1) [] (out ++ textTok txt ++ [⟨3, bStr name, []⟩]) w' ∧ Went B w w' := by
  have hBw := h.base
  obtain ⟨d, hd, hdl⟩ := hn.2
  have hn0 : name ≠ [] := by rintro rfl; simp at hd
  obtain ⟨hp2, hc2⟩ := at_get hE (j := 2) (c := d) (by
    rw [List.getElem?_cons_succ, List.getElem?_cons_succ, List.getElem?_append_left (List.length_pos_iff.2 hn0)]
    exact hd)
  have hE1 : s.data.toList.drop (i + 2) = name ++ (atB [] ++ (tagTail false ++ rest)) := by
    rw [← List.drop_drop, hE]
    rfl
  obtain ⟨z1, z2, z3, z4, z5⟩ := set_at h (i + 2)
  have hwi : IntKind.i64.wrap ((i : Int) + 2) = (i : Int) + 2 := by
    simp [IntKind.wrap, IntKind.signed, IntKind.bits]
    omega
  have hti : ((i : Int) + 2).toNat = i + 2 := by omega
  have h0i : (0 : Int) ≤ (i : Int) + 2 := by omega
  have hni : ((i : Int) + 2) < (s.size : Int) := by omega
  have hii : (i : Int) < (s.size : Int) := by omega
  have hne : ((i : Int) + 2 == (s.size : Int)) = false := beq_eq_false_iff_ne.2 (by omega)
  have hW : ∀ n, Sc B b s (i + 2) txt out ((w.drewN n).setCell ⟨b, 1, none⟩ (.int .i64 ((i : Int) + 2))) ∧ Went B w ((w.drewN n).setCell ⟨b, 1, none⟩ (.int .i64 ((i : Int) + 2))) := fun n => by
    have q := set_at (h.keep (pw_below_drewN (Below.refl _ _) n)) (i + 2)
    exact ⟨q.2.2.2.1, (Went.of_below (pw_below_drewN (Below.refl _ _) n) hBw).trans q.2.2.2.2⟩
  have HW := Lib.hid hW
  clear hW
  have hsp : ∀ (W : World) (n m : Nat), Calls Tryz.prog 37 #[.int .u8 d.toNat] (W.drewN (n + m)) fun e w' => e = .returned (.bool true) ∧ ∃ k, w' = W.drewN (n + k) := fun W n m => (isAlpha_any d _).mono fun e w' h => ⟨h.1.trans (by rw [isAl_small hdl]), m, h.2⟩
  have HS := Lib.hid (And.intro h (And.intro hE1 (And.intro hn hn0)))
  clear z4 z5 hd h hE hE1 hn hn0 hdl
  go_enter Tryz.func39, Tryz.ntmps39
  go_wp2_with fail
  go_quiet (fail)
  go_wp2_with fail
  go_quiet ((go_at_call 37; with_reducible exact hsp _ _ _))
  try simp only [World.drewN_drewN]
  go_wp2_with (go_at_call 38; fail)
  try simp only [World.drewN_drewN]
  refine (tag_any B b (i + 2) s txt out _ (HW.out _).1 hs 3 ⟨3, bStr name, []⟩ name HS.out.2.2.1.1 HS.out.2.2.2 [] (by simp) (by simp) false rest HS.out.2.1 (fun j w1 A n c h1 hA => ended_end B b j s txt out w1 h1 (bStr name) A n c false (by omega))).mono ?_
  rintro e w1 ⟨rfl, h1, g1⟩
  have H1 := Lib.hid (And.intro h1 ((HW.out _).2.trans g1))
  clear h1 g1
  go_wp2_with fail
  first | go_end0 | refine bodyPost_ret (results_none rfl _ _ _) rfl ?_
  exact ⟨rfl, H1.out⟩

set_option maxHeartbeats 8000000 in
set_option maxRecDepth 100000 in
/-- At an end tag. -/
theorem data_end (B b i : Nat) (s : ByteArray) (txt : List UInt8) (out : List S52) (w : World) (h : Sc B b s i txt out w) (hs : s.size ≤ 1099511627776) (name : List UInt8) (hn : NameL name) (rest : List UInt8) (hE : s.data.toList.drop i = 60 :: 47 :: (name ++ 62 :: rest)) (ho : out.length + 1 ≤ 1099511627776) :
    Calls Tryz.prog 27 #[.pointer (some ⟨b, 0, none⟩)] w fun e w' => e = .returned (.tuple #[]) ∧ Sc B b s (i + 2 + name.length + 1) [] (out ++ textTok txt ++ [⟨3, bStr name, []⟩]) w' ∧ Went B w w' := by
  have hBw := h.base
  obtain ⟨hp0, hc0⟩ := at_get hE (j := 0) (c := 60) rfl
  simp only [Nat.add_zero] at hp0 hc0
  obtain ⟨hp1, hc1⟩ := at_get hE (j := 1) (c := 47) rfl
  obtain ⟨z1, z2, z3, z4, z5⟩ := set_at h (i + 1)
  have hwi := wrap_succ i (by omega)
  have hti : ((i : Int) + 1).toNat = i + 1 := by omega
  have h0i : (0 : Int) ≤ (i : Int) + 1 := by omega
  have hni : ((i : Int) + 1) < (s.size : Int) := by omega
  have hii : (i : Int) < (s.size : Int) := by omega
  have e38 : (((s[i]'hp0).toNat : Int) == 38) = false := by rw [hc0]; rfl
  have e60 : (((s[i]'hp0).toNat : Int) == 60) = true := by rw [hc0]; rfl
  have hial : isAl (s[i + 1]'hp1) = false := by rw [hc1]; decide
  have e47 : (((s[i + 1]'hp1).toNat : Int) == 47) = true := by rw [hc1]; rfl
  have HS := Lib.hid (And.intro h (And.intro hE hn))
  clear z4 z5 hc0 hc1 h hE hn
  go_enter Tryz.func27, Tryz.ntmps27
  go_wp2_with fail
  go_quiet (fail)
  go_wp2_with fail
  go_quiet (fail)
  go_wp2_with fail
  go_quiet (fail)
  go_wp2_with fail
  go_quiet (fail)
  try simp only [World.drewN_drewN]
  go_wp2_with (go_at_call 37; go_must (refine (isAlpha_any (s[i + 1]'hp1) _).mono ?_; rintro e w' ⟨rfl, rfl⟩; rw [hial]))
  refine (end_any B b i s txt out _ (HS.out.1.keep (pw_below_drewN (Below.refl _ _) _)) hs name HS.out.2.2 rest HS.out.2.1 ho).mono ?_
  rintro e w1 ⟨rfl, h1, g1⟩
  have H1 := Lib.hid (And.intro h1 ((Went.of_below (pw_below_drewN (Below.refl _ _) _) hBw).trans g1))
  clear h1 g1
  go_wp2_with fail
  first | go_end0 | refine bodyPost_ret (results_none rfl _ _ _) rfl ?_
  exact ⟨rfl, H1.out⟩

end Go.Proofs.YtpkelgekannioaaGreatDoor

namespace Go.Proofs.YtpkelgekannioaaGreatDoor
open Go.RowKit Go.Shelf Go.BigFrame
open Go.Proofs.YtpkelgekannioaaGreatDoorW.PrintWords
open PFnTokenRead (S34 S38 S52 S54 k34 k38 k52 k54)
set_option linter.unusedSimpArgs false
set_option linter.unusedVariables false

set_option maxHeartbeats 8000000 in
set_option maxRecDepth 100000 in
/-- At a mark with an exclamation mark. -/
theorem data_declared (B b i j : Nat) (s : ByteArray) (txt : List UInt8) (out out' : List S52) (w : World) (h : Sc B b s i txt out w) (hs : s.size ≤ 1099511627776) (rest : List UInt8) (hE : s.data.toList.drop i = 60 :: 33 :: rest)
    (hend : ∀ w1 : World, Sc B b s i txt out w1 → Calls Tryz.prog 40 #[.pointer (some ⟨b, 0, none⟩)] w1 fun e w' => e = .returned (.tuple #[]) ∧ Sc B b s j [] out' w' ∧ Went B w1 w') :
    Calls Tryz.prog 27 #[.pointer (some ⟨b, 0, none⟩)] w fun e w' => e = .returned (.tuple #[]) ∧ Sc B b s j [] out' w' ∧ Went B w w' := by
  have hBw := h.base
  obtain ⟨hp0, hc0⟩ := at_get hE (j := 0) (c := 60) rfl
  simp only [Nat.add_zero] at hp0 hc0
  obtain ⟨hp1, hc1⟩ := at_get hE (j := 1) (c := 33) rfl
  obtain ⟨z1, z2, z3, z4, z5⟩ := set_at h (i + 1)
  have hwi := wrap_succ i (by omega)
  have hti : ((i : Int) + 1).toNat = i + 1 := by omega
  have h0i : (0 : Int) ≤ (i : Int) + 1 := by omega
  have hni : ((i : Int) + 1) < (s.size : Int) := by omega
  have hii : (i : Int) < (s.size : Int) := by omega
  have e38 : (((s[i]'hp0).toNat : Int) == 38) = false := by rw [hc0]; rfl
  have e60 : (((s[i]'hp0).toNat : Int) == 60) = true := by rw [hc0]; rfl
  have hial : isAl (s[i + 1]'hp1) = false := by rw [hc1]; decide
  have e47 : (((s[i + 1]'hp1).toNat : Int) == 47) = false := by rw [hc1]; rfl
  have e33 : (((s[i + 1]'hp1).toNat : Int) == 33) = true := by rw [hc1]; rfl
  have HS := Lib.hid (And.intro h hend)
  clear z4 z5 hc0 hc1 h hE hend
  go_enter Tryz.func27, Tryz.ntmps27
  go_wp2_with fail
  go_quiet (fail)
  go_wp2_with fail
  go_quiet (fail)
  go_wp2_with fail
  go_quiet (fail)
  go_wp2_with fail
  go_quiet (fail)
  try simp only [World.drewN_drewN]
  go_wp2_with (go_at_call 37; go_must (refine (isAlpha_any (s[i + 1]'hp1) _).mono ?_; rintro e w' ⟨rfl, rfl⟩; rw [hial]))
  refine (HS.out.2 _ (HS.out.1.keep (pw_below_drewN (Below.refl _ _) _))).mono ?_
  rintro e w1 ⟨rfl, h1, g1⟩
  have H1 := Lib.hid (And.intro h1 ((Went.of_below (pw_below_drewN (Below.refl _ _) _) hBw).trans g1))
  clear h1 g1
  go_wp2_with fail
  first | go_end0 | refine bodyPost_ret (results_none rfl _ _ _) rfl ?_
  exact ⟨rfl, H1.out⟩

end Go.Proofs.YtpkelgekannioaaGreatDoor

namespace Go.Proofs.YtpkelgekannioaaGreatDoor
open Go.RowKit Go.Shelf Go.BigFrame
open Go.Proofs.YtpkelgekannioaaGreatDoorW.PrintWords
open PFnTokenRead (S34 S38 S52 S54 k34 k38 k52 k54)
set_option linter.unusedSimpArgs false
set_option linter.unusedVariables false

/-- A unit of what is written. -/
inductive Ut where
  | ch (c : UInt8)
  | rf (c : UInt8)
  | start (name : List UInt8) (l : List AT) (cl : Bool)
  | stop (name : List UInt8)
  | com (us : List Un)
  | doc
def Ut.b : Ut → List UInt8
  | .ch c => [c]
  | .rf c => escB c
  | .start name l cl => 60 :: (name ++ (atB l ++ tagTail cl))
  | .stop name => 60 :: 47 :: (name ++ [62])
  | .com us => [60, 33, 45, 45] ++ (unB us ++ [45, 45, 62])
  | .doc => docB
def Ut.ok : Ut → Prop
  | .ch c => c ≠ 38 ∧ c ≠ 60
  | .rf c => five c
  | .start name l _ => NameL name ∧ Usual (bStr name) ∧ (∀ a ∈ l, a.ok) ∧ (l.map AT.key).Nodup
  | .stop name => NameL name
  | .com us => (∀ u ∈ us, u.ok) ∧ EC (unB us)
  | .doc => True
def Ut.step (st : List UInt8 × List S52) : Ut → List UInt8 × List S52
  | .ch c => (st.1 ++ [c], st.2)
  | .rf c => (st.1 ++ [c], st.2)
  | .start name l cl => ([], st.2 ++ textTok st.1 ++ [⟨if cl then 4 else 2, bStr name, l.map AT.t⟩])
  | .stop name => ([], st.2 ++ textTok st.1 ++ [⟨3, bStr name, []⟩])
  | .com us => ([], st.2 ++ textTok st.1 ++ [tok0 5 (unV us)])
  | .doc => ([], st.2 ++ textTok st.1 ++ [tok0 6 htmlB])
def utB (l : List Ut) : List UInt8 := l.flatMap Ut.b
theorem utB_append (a b : List Ut) : utB (a ++ b) = utB a ++ utB b := by simp [utB]
theorem utB_cons (a : Ut) (b : List Ut) : utB (a :: b) = a.b ++ utB b := by simp [utB]
theorem Ut.b_pos (u : Ut) : 1 ≤ u.b.length := by
  cases u <;> simp [Ut.b, docB]
  rename_i c
  exact (escB_le c).1
theorem textTok_len (txt : List UInt8) : (textTok txt).length ≤ txt.length := by
  unfold textTok
  split
  · simp
  · rename_i h
    cases txt with
    | nil => exact absurd rfl h
    | cons a l => simp
theorem Ut.step_len (st : List UInt8 × List S52) (u : Ut) : (u.step st).1.length + (u.step st).2.length ≤ st.1.length + st.2.length + u.b.length := by
  have h1 := u.b_pos
  have h2 := textTok_len st.1
  cases u <;> simp [Ut.step] <;> omega

theorem ut_any (B b i : Nat) (s : ByteArray) (st : List UInt8 × List S52) (w : World) (h : Sc B b s i st.1 st.2 w) (hs : s.size ≤ 1099511627776) (u : Ut) (hu : u.ok) (rest : List UInt8) (hE : s.data.toList.drop i = u.b ++ rest) (hl : st.1.length + st.2.length ≤ i) :
    Calls Tryz.prog 27 #[.pointer (some ⟨b, 0, none⟩)] w fun e w' => e = .returned (.tuple #[]) ∧ Sc B b s (i + u.b.length) (u.step st).1 (u.step st).2 w' ∧ Went B w w' := by
  have hp := u.b_pos
  have hil : i + u.b.length ≤ s.size := by
    rcases at_take hE with h | h
    · exact h
    · rw [h] at hp; simp at hp
  cases u with
  | ch c =>
    obtain ⟨hi, hc⟩ := at_get hE (j := 0) (c := c) rfl
    simp only [Nat.add_zero] at hi hc
    exact data_byte B b i s st.1 st.2 w h hs hi c hc hu.1 hu.2 (by omega)
  | rf c => exact data_ref B b i s st.1 st.2 w h hs c hu rest hE (by omega)
  | start name l cl =>
    have := data_start B b i s st.1 st.2 w h hs name hu.1 hu.2.1 l hu.2.2.1 hu.2.2.2 cl rest (by rw [hE]; simp [Ut.b]) (by omega)
    have e : i + (Ut.start name l cl).b.length = i + 1 + name.length + (atB l).length + (tagTail cl).length := by simp [Ut.b]; omega
    rw [e]
    exact this
  | stop name =>
    have := data_end B b i s st.1 st.2 w h hs name hu rest (by rw [hE]; simp [Ut.b]) (by omega)
    have e : i + (Ut.stop name).b.length = i + 2 + name.length + 1 := by simp [Ut.b]; omega
    rw [e]
    exact this
  | com us =>
    have hE2 : s.data.toList.drop i = [60, 33, 45, 45] ++ (unB us ++ 45 :: 45 :: 62 :: rest) := by rw [hE]; simp [Ut.b]
    have e : i + (Ut.com us).b.length = i + 4 + (unB us).length + 3 := by simp [Ut.b]; omega
    rw [e]
    exact data_declared B b i _ s st.1 st.2 _ w h hs _ hE2 fun w1 h1 => declared_comment B b i s st.1 st.2 w1 h1 hs us hu.1 hu.2 rest hE2 (by omega)
  | doc =>
    exact data_declared B b i _ s st.1 st.2 _ w h hs _ hE fun w1 h1 => declared_doctype B b i s st.1 st.2 w1 h1 hs rest hE (by omega)

def runU (st : List UInt8 × List S52) (l : List Ut) : List UInt8 × List S52 := l.foldl Ut.step st
/-- What the scanner tells of the units. -/
def told (l : List Ut) : List S52 := (runU ([], []) l).2 ++ textTok (runU ([], []) l).1

set_option maxHeartbeats 8000000 in
set_option maxRecDepth 100000 in
theorem scanned_any (B b : Nat) (s : ByteArray) (w : World) (h : Sc B b s 0 [] [] w) (hs : s.size ≤ 1099511627776) (us : List Ut) (hu : ∀ u ∈ us, u.ok) (hE : s.data.toList = utB us) :
    Calls Tryz.prog 18 #[.pointer (some ⟨b, 0, none⟩)] w fun e w' => (∃ v, e = .returned (.tuple #[v, .bool false]) ∧ k52.R 52 w' B anyB v (told us)) ∧ Went B w w' := by
  have hBw := h.base
  have HU := Lib.hid hu
  obtain ⟨fin, hfin⟩ : ∃ fin, runU ([], []) us = fin := ⟨_, rfl⟩
  have ht : told us = fin.2 ++ textTok fin.1 := by unfold told; rw [hfin]
  have HF := Lib.hid (And.intro h (And.intro hE (And.intro hfin ht)))
  clear h hE hfin ht hu
  go_enter Tryz.func18, Tryz.ntmps18
  go_wp2_with fail
  go_loopg [] us.length (fun m wx => ∃ (rem : List Ut) (i : Nat) (st : List UInt8 × List S52), m = rem.length ∧ (∀ u ∈ rem, u.ok) ∧ s.data.toList.drop i = utB rem ∧ i ≤ s.size ∧ st.1.length + st.2.length ≤ i ∧ runU st rem = fin ∧ Sc B b s i st.1 st.2 wx ∧ Went B w wx)
  case atStart => exact ⟨us, 0, ([], []), rfl, HU.out, HF.out.2.1, Nat.zero_le _, Nat.le_refl _, HF.out.2.2.1, HF.out.1, Went.refl _ _⟩
  case round =>
    obtain ⟨rem, i, st, rfl, hok, hd, hi, hl, hrun, hsc, hwe⟩ := hrel
    obtain ⟨z1, z2, z3, z4, z5⟩ := set_at hsc 0
    have z6 : wr.cell? ⟨b, 3, none⟩ = some (.int .i64 0) := by
      obtain ⟨_, nm, tv, ov, hb, _⟩ := hsc
      rw [blk_cell hb]; rfl
    clear z4 z5
    cases rem with
    | nil =>
      have hlen := congrArg List.length hd
      rw [List.length_drop, ← Lib.size_eq] at hlen
      have hlen2 : s.size - i = 0 := hlen
      obtain rfl : i = s.size := by omega
      have hnd : decide ((s.size : Int) < (s.size : Int)) = false := by simp
      have HS := Lib.hid (And.intro hsc (And.intro hwe hrun))
      clear hd hrun hok hlen hlen2 hwe hi
      have hB2 := hsc.base
      clear hsc
      go_wp2_with fail
      go_quiet (fail)
      go_wp2_with (go_at_call 29; fail)
      try simp only [World.drewN_drewN]
      refine (flush_any B b s.size s st.1 st.2 _ (HS.out.1.keep (pw_below_drewN (Below.refl _ _) _)) (by omega)).mono ?_
      rintro e w1 ⟨rfl, h1, g1⟩
      have hg1 := HS.out.2.1.trans ((Went.of_below (pw_below_drewN (Below.refl _ _) _) hB2).trans g1)
      obtain ⟨hBb, nm, tv, ov, hb, htx, hox⟩ := h1
      have y6 : w1.cell? ⟨b, 6, none⟩ = some ov := by rw [blk_cell hb]; rfl
      have y7 : w1.cell? ⟨b, 7, none⟩ = some (.bool false) := by rw [blk_cell hb]; rfl
      have hBw1 : B ≤ w1.heap.size := Nat.le_trans hBb (Nat.le_of_lt (blk_lt hb))
      have H1 := Lib.hid (And.intro hox hg1)
      clear hb htx hox hg1 g1
      go_wp2_with fail
      go_quiet (fail)
      go_wp2_with fail
      refine bodyPost_ret (results_tmp2 rfl _ _ _) rfl ?_
      try simp only [World.drewN_drewN]
      refine ⟨⟨ov, rfl, ?_⟩, H1.out.2.trans (Went.of_below (pw_below_drewN (Below.refl _ _) _) hBw1)⟩
      rw [HF.out.2.2.2, ← HS.out.2.2]
      exact Kd.R_below H1.out.1 (pw_below_drewN (Below.refl _ _) _)
    | cons u rem =>
      rw [utB_cons] at hd
      have hpos := u.b_pos
      have hil : i + u.b.length ≤ s.size := by
        rcases at_take hd with h | h
        · exact h
        · rw [h] at hpos; simp at hpos
      have hii : (i : Int) < (s.size : Int) := by omega
      have hlen := Ut.step_len st u
      have hu1 := hok u (by simp)
      have hB2 := hsc.base
      have hnext : s.data.toList.drop (i + u.b.length) = utB rem := by
        rw [← List.drop_drop, hd, List.drop_left]
      have HS := Lib.hid (And.intro hsc (And.intro hwe (And.intro hrun (And.intro hok (And.intro hd (And.intro hnext (And.intro hu1 hlen)))))))
      clear hsc hwe hrun hok hd hnext hu1 hlen
      go_wp2_with fail
      go_quiet (fail)
      go_wp2_with (go_at_call 27; fail)
      try simp only [World.drewN_drewN]
      refine (ut_any B b i s st _ (HS.out.1.keep (pw_below_drewN (Below.refl _ _) _)) hs u HS.out.2.2.2.2.2.2.1 (utB rem) HS.out.2.2.2.2.1 hl).mono ?_
      rintro e w1 ⟨rfl, h1, g1⟩
      have hg1 := HS.out.2.1.trans ((Went.of_below (pw_below_drewN (Below.refl _ _) _) hB2).trans g1)
      have H1 := Lib.hid (And.intro h1 hg1)
      clear h1 g1 hg1
      go_wp2_with fail
      go_roundg rem.length
      case measure => simp
      case rel =>
        refine ⟨rem, i + u.b.length, u.step st, rfl, fun x hx => HS.out.2.2.2.1 x (by simp [hx]), HS.out.2.2.2.2.2.1, hil, ?_, HS.out.2.2.1, H1.out.1, H1.out.2⟩
        have := HS.out.2.2.2.2.2.2.2
        omega

end Go.Proofs.YtpkelgekannioaaGreatDoor

namespace Go.Proofs.YtpkelgekannioaaGreatDoor
open Go.RowKit Go.Shelf Go.BigFrame
open Go.Proofs.YtpkelgekannioaaGreatDoorW.PrintWords
open PFnTokenRead (S34 S38 S52 S54 k34 k38 k52 k54)
set_option linter.unusedSimpArgs false
set_option linter.unusedVariables false

set_option maxHeartbeats 8000000 in
set_option maxRecDepth 100000 in
theorem Scanned_any (s : ByteArray) (w : World) (hs : s.size ≤ 1099511627776) (h13 : ∀ x ∈ s.data.toList, x ≠ 13) (us : List Ut) (hu : ∀ u ∈ us, u.ok) (hE : s.data.toList = utB us) :
    Calls Tryz.prog 6 #[.string s, .bool false] w fun e w' => (∃ v, e = .returned (.tuple #[v, .bool false]) ∧ k52.R 52 w' w.heap.size anyB v (told us)) ∧ Below w.heap.size w w' := by
  have HU := Lib.hid (And.intro h13 (And.intro hu hE))
  clear h13 hu hE
  go_enter Tryz.func6, Tryz.ntmps6
  go_wp2_with (go_at_call 17; go_must (refine (normal_any s hs HU.out.1 _).mono ?_; rintro e w1 ⟨rfl, hb1⟩))
  obtain ⟨w2, hw2⟩ : ∃ w2, w1.alloc (.cells #[.string s, .int .i64 0, .bool false, .int .i64 0, .string ⟨#[]⟩, .slice none 0 0, .slice none 0 0, .bool false] 47) = w2 := ⟨_, rfl⟩
  rw [hw2]
  have hb2 : Below w.heap.size w w2 := by rw [← hw2]; exact hb1.trans ((Below.refl _ _).alloc hb1.size _)
  have hx2 : w2.heap[w1.heap.size]? = some (.cells #[.string s, .int .i64 0, .bool false, .int .i64 0, .string ⟨#[]⟩, .slice none 0 0, .slice none 0 0, .bool false] 47 (0, 0)) := by rw [← hw2]; exact heap_alloc_new w1 _
  have hsc : Sc w.heap.size w1.heap.size s 0 [] [] w2 := ⟨hb1.size, _, _, _, hx2, Kd.R_nil _ _ _ _ _, Kd.R_nil _ _ _ _ _⟩
  clear hw2 hx2
  refine (scanned_any w.heap.size w1.heap.size s w2 hsc hs us HU.out.2.1 HU.out.2.2).mono ?_
  rintro e w3 ⟨⟨v, rfl, hR⟩, hg⟩
  have H3 := Lib.hid (And.intro hR (hb2.trans hg.below))
  clear hR hg hb2 hsc
  go_wp2_with fail
  refine bodyPost_ret (results_tmp2 rfl _ _ _) rfl ?_
  exact ⟨⟨v, rfl, H3.out.1⟩, H3.out.2⟩

end Go.Proofs.YtpkelgekannioaaGreatDoor
