/- The reference's scanner at an attribute and at a tag's end. Conditions: sizes below 2^40. -/
import Derived.Test.YtpkelgekannioaaGreatDoorGfRead
import Derived.Test.YtpkelgekannioaaGreatDoorGdRegs
set_option linter.unusedSimpArgs false
set_option linter.unusedVariables false

namespace Go.Proofs.YtpkelgekannioaaGreatDoor
open Go.RowKit Go.Shelf Go.BigFrame
open Go.Proofs.YtpkelgekannioaaGreatDoorW.PrintWords
open PFnTokenRead (S34 S38 S52 S54 k34 k38 k52 k54)
set_option linter.unusedSimpArgs false
set_option linter.unusedVariables false

/-- Only block b may have been written. -/
structure KB (b : Nat) (w w' : World) : Prop where
  os : w'.os = w.os
  tape : w'.tape = w.tape
  output : w'.output = w.output
  size : w.heap.size ≤ w'.heap.size
  block : ∀ k, k < w.heap.size → k ≠ b → w'.heap[k]? = w.heap[k]?
theorem KB.refl (b : Nat) (w : World) : KB b w w := ⟨rfl, rfl, rfl, Nat.le_refl _, fun _ _ _ => rfl⟩
theorem KB.trans {b : Nat} {w1 w2 w3 : World} (h : KB b w1 w2) (k : KB b w2 w3) : KB b w1 w3 :=
  ⟨k.os.trans h.os, k.tape.trans h.tape, k.output.trans h.output, Nat.le_trans h.size k.size, fun i hi hb => (k.block i (Nat.lt_of_lt_of_le hi h.size) hb).trans (h.block i hi hb)⟩
theorem KB.below {b : Nat} {w1 w2 w3 : World} (h : KB b w1 w2) (k : Below w2.heap.size w2 w3) : KB b w1 w3 :=
  h.trans ⟨k.os, k.tape, k.output, k.size, fun i hi _ => k.block i hi⟩
theorem KB.set {b : Nat} {w1 w2 : World} (h : KB b w1 w2) (j : Nat) (u : Value) : KB b w1 (w2.setCell ⟨b, j, none⟩ u) :=
  h.trans ⟨rfl, rfl, rfl, by simp [World.setCell], fun i _ hb => Below.heap_setCell w2 ⟨b, j, none⟩ u i hb⟩
/-- A store into a block that came later. -/
theorem KB.setNew {b g : Nat} {w1 w2 : World} (h : KB b w1 w2) (hg : w1.heap.size ≤ g) (j : Nat) (u : Value) : KB b w1 (w2.setCell ⟨g, j, none⟩ u) :=
  ⟨h.os, h.tape, h.output, by simpa [World.setCell] using h.size, fun i hi hb => (Below.heap_setCell w2 ⟨g, j, none⟩ u i (by show i ≠ g; omega)).trans (h.block i hi hb)⟩
theorem KB.went {B b : Nat} {w w' : World} {cs : Array Value} (h : KB b w w') (hb : w.heap[b]? = some (.cells cs 47 (0, 0))) (hB : B ≤ b) : Went B w w' := by
  have hlt := blk_lt hb
  refine ⟨⟨h.os, h.tape, h.output, h.size, fun i hi => h.block i (by omega) (by omega)⟩, fun g cur hg => ?_⟩
  refine (h.block g (blk_lt hg) ?_).trans hg
  rintro rfl
  rw [hb] at hg
  injection hg with hg
  injection hg with _ hg
  exact absurd hg (by decide)

/-- The scanner in memory, its rows in blocks of which ok holds. -/
def ScO (ok : Nat → Prop) (B b : Nat) (s : ByteArray) (i : Nat) (txt : List UInt8) (out : List S52) (w : World) : Prop :=
  B ≤ b ∧ ∃ (nm : ByteArray) (tv ov : Value), w.heap[b]? = some (.cells #[.string s, .int .i64 i, .bool false, .int .i64 0, .string nm, tv, ov, .bool false] 47 (0, 0)) ∧
    (Kd.int .u8).R 5 w B ok tv (bInts txt) ∧ k52.R 52 w B ok ov out
section
variable {ok : Nat → Prop} {B b i : Nat} {s : ByteArray} {txt : List UInt8} {out : List S52} {w w' : World}
theorem Sc.toO (h : Sc B b s i txt out w) {g : Nat} (hg : w.heap.size ≤ g) : ScO (· ≠ g) B b s i txt out w := by
  obtain ⟨hB, nm, tv, ov, h0, h1, h2⟩ := h
  exact ⟨hB, nm, tv, ov, h0, Kd.R_mono (Kd.R_bound h1) (fun k hk => by have := hk.2.2.1; omega), Kd.R_mono (Kd.R_bound h2) (fun k hk => by have := hk.2.2.1; omega)⟩
theorem ScO.mono {ok' : Nat → Prop} (h : ScO ok B b s i txt out w) (hok : ∀ k, ok k → ok' k) : ScO ok' B b s i txt out w := by
  obtain ⟨hB, nm, tv, ov, h0, h1, h2⟩ := h
  exact ⟨hB, nm, tv, ov, h0, Kd.R_mono h1 hok, Kd.R_mono h2 hok⟩
theorem ScO.sc (h : ScO ok B b s i txt out w) : Sc B b s i txt out w := by
  obtain ⟨hB, nm, tv, ov, h0, h1, h2⟩ := h
  exact ⟨hB, nm, tv, ov, h0, Kd.R_mono h1 (fun _ _ => trivial), Kd.R_mono h2 (fun _ _ => trivial)⟩
theorem ScO.toO (h : ScO ok B b s i txt out w) {g : Nat} (hg : w.heap.size ≤ g) : ScO (fun k => ok k ∧ k ≠ g) B b s i txt out w := by
  obtain ⟨hB, nm, tv, ov, h0, h1, h2⟩ := h
  exact ⟨hB, nm, tv, ov, h0, Kd.R_mono (Kd.R_bound h1) (fun k hk => ⟨hk.1, by have := hk.2.2.1; omega⟩), Kd.R_mono (Kd.R_bound h2) (fun k hk => ⟨hk.1, by have := hk.2.2.1; omega⟩)⟩
theorem ScO.lt (h : ScO ok B b s i txt out w) : b < w.heap.size := h.sc.lt
theorem ScO.keep (h : ScO ok B b s i txt out w) (hb : Below w.heap.size w w') : ScO ok B b s i txt out w' := by
  obtain ⟨hB, nm, tv, ov, h0, h1, h2⟩ := h
  exact ⟨hB, nm, tv, ov, (hb.block b (blk_lt h0)).trans h0, Kd.R_below h1 hb, Kd.R_below h2 hb⟩
theorem setO (h : ScO ok B b s i txt out w) (j : Nat) : w.cell? ⟨b, 1, none⟩ = some (.int .i64 i) ∧ w.frozen? ⟨b, 1, none⟩ = false ∧ w.cell? ⟨b, 0, none⟩ = some (.string s) ∧ ScO ok B b s j txt out (w.setCell ⟨b, 1, none⟩ (.int .i64 j)) := by
  obtain ⟨hB, nm, tv, ov, hb, ht, ho⟩ := h
  exact ⟨by rw [blk_cell hb]; rfl, blk_frozen hb 1, by rw [blk_cell hb]; rfl, ⟨hB, nm, tv, ov, blk_set hb 1 _, Kd.R_set ht hb ne47_5 1 _, Kd.R_set ho hb ne47_52 1 _⟩⟩
theorem ScO.other {g j : Nat} (h : ScO ok B b s i txt out w) (hok : ∀ k, ok k → k ≠ g) (hg : g ≠ b) (u : Value) : ScO ok B b s i txt out (w.setCell ⟨g, j, none⟩ u) := by
  obtain ⟨hB, nm, tv, ov, h0, h1, h2⟩ := h
  exact ⟨hB, nm, tv, ov, (Below.heap_setCell w ⟨g, j, none⟩ u b (fun e => hg e.symm)).trans h0, Kd.R_far h1 hok u, Kd.R_far h2 hok u⟩
end

theorem Closed.dep {ops : List Oper} {M : Nat → Bool} (h : Closed ops M) {k : Nat} (hk : M k = true) (j : Nat) (hj : ((ops[k]?).any fun o => o.after.any fun e => e.on == j && Region.binds .any e) = true) : M j = true := by
  obtain ⟨o, ho, h2⟩ := (Option.any_eq_true _ _).1 hj
  rw [Array.any_eq_true] at h2
  obtain ⟨i, hi, h3⟩ := h2
  simp only [Bool.and_eq_true, beq_iff_eq] at h3
  have h4 := h k o ho hk _ (Array.getElem_mem hi) h3.2
  rw [h3.1] at h4
  exact h4
theorem extract_take' (s : ByteArray) (i n : Nat) : (s.extract i (i + n)).data.toList = (s.data.toList.drop i).take n := by
  simp [ByteArray.data_extract, Array.toList_extract, List.extract_eq_take_drop]

/-- A letter or a digit, as names have them. -/
def NameB (c : UInt8) : Prop := (97 ≤ c.toNat ∧ c.toNat ≤ 122) ∨ (48 ≤ c.toNat ∧ c.toNat ≤ 57)
theorem NameB.ne {c n : UInt8} (h : NameB c) (hn : ¬ NameB n) : c ≠ n := fun e => hn (e ▸ h)
theorem NameB.sp {c : UInt8} (h : NameB c) : isSp c = false := by
  unfold isSp
  refine decide_eq_false fun e => ?_
  unfold NameB at h
  rcases e with rfl | rfl | rfl | rfl | rfl <;> revert h <;> decide
theorem NameB.low {c : UInt8} (h : NameB c) : lowB c = c := by
  unfold lowB
  rw [if_neg]
  unfold NameB at h
  omega
theorem byte_nb {c n : UInt8} (h : c ≠ n) {k : Int} (hk : (n.toNat : Int) = k) : ((c.toNat : Int) != k) = true := by
  rw [bne, byte_ne h hk]
  rfl
theorem name_low {l : List UInt8} (h : ∀ c ∈ l, NameB c) : l.map lowB = l := by
  conv => rhs; rw [← List.map_id l]
  exact List.map_congr_left fun c hc => (h c hc).low

set_option maxHeartbeats 4000000 in
set_option maxRecDepth 100000 in
theorem attribute_any (ok : Nat → Prop) (B b i : Nat) (s : ByteArray) (txt : List UInt8) (out : List S52) (w : World) (h : ScO ok B b s i txt out w) (hs : s.size ≤ 1099511627776) (key : List UInt8) (hk : ∀ c ∈ key, NameB c) (hk0 : key ≠ []) (us : List Un) (hok : ∀ u ∈ us, u.ok) (hq : ∀ c ∈ unB us, c ≠ 34) (rest : List UInt8)
    (hE : s.data.toList.drop i = key ++ (61 :: 34 :: (unB us ++ 34 :: rest))) :
    Calls Tryz.prog 56 #[.pointer (some ⟨b, 0, none⟩)] w fun e w' => e = .returned (.tuple #[.agg #[.string (bStr key), .string (bStr (unV us))], .bool true]) ∧ ScO ok B b s (i + key.length + 2 + (unB us).length + 1) txt out w' ∧ KB b w w' := by
  have hmx : Tryz.prog.follows .mixedOrders = true := by kernel_rfl
  have e2 : s.data.toList.length = s.size := (Lib.size_eq _).symm
  have hget : ∀ p, s.data.toList[i + p]? = (key ++ (61 :: 34 :: (unB us ++ 34 :: rest)))[p]? := fun p => by rw [← hE, List.getElem?_drop]
  obtain ⟨kl, hkl⟩ : ∃ kl, key.length = kl := ⟨_, rfl⟩
  obtain ⟨ul, hul⟩ : ∃ ul, (unB us).length = ul := ⟨_, rfl⟩
  have hkl1 : 1 ≤ kl := by
    rw [← hkl]
    exact List.length_pos_iff.2 hk0
  have hlen : i + kl + 2 + ul + 1 ≤ s.size := by
    have := congrArg List.length hE
    simp [hkl, hul] at this
    rw [Lib.size_eq]
    simp
    omega
  have hch : ∀ p, i ≤ p → p < i + kl → ∃ (hp : p < s.size) (c : UInt8), s[p]'hp = c ∧ NameB c := fun p hp1 hp2 => by
    obtain ⟨j, rfl⟩ : ∃ j, p = i + j := ⟨p - i, by omega⟩
    have hp : i + j < s.size := by omega
    have h1 := hget j
    rw [List.getElem?_append_left (by omega), Lib.data_getElem? s (i + j) hp] at h1
    exact ⟨hp, _, rfl, hk _ (List.mem_of_getElem? h1.symm)⟩
  have hat : ∀ j c, (61 :: 34 :: (unB us ++ 34 :: rest))[j]? = some c → ∃ hp : i + kl + j < s.size, s[i + kl + j]'hp = c := fun j c hj => by
    have h1 := hget (kl + j)
    rw [List.getElem?_append_right (by omega), hkl, show kl + j - kl = j from by omega, hj] at h1
    have hp : i + kl + j < s.size := by
      have := (List.getElem?_eq_some_iff.1 h1).1
      omega
    refine ⟨hp, ?_⟩
    rw [← Nat.add_assoc, Lib.data_getElem? s _ hp] at h1
    exact Option.some.inj h1
  obtain ⟨q, hqe⟩ : ∃ q, i + kl = q := ⟨_, rfl⟩
  rw [hqe] at hat hch hlen
  obtain ⟨hp0, hs0⟩ := hat 0 61 rfl
  simp only [Nat.add_zero] at hp0 hs0
  obtain ⟨hp1, hs1⟩ := hat 1 34 rfl
  have HS0 := Lib.hid (And.intro hs0 hs1)
  clear hs0 hs1
  have hblt := h.lt
  obtain ⟨z1, z2, z3, z4⟩ := setO h 0
  clear z4
  have hw1 := wrap_succ i (by omega)
  have HH := Lib.hid (And.intro hget (And.intro hk (And.intro hok (And.intro hq (And.intro hE (And.intro hat h))))))
  clear hget hk hok hq hat hE h
  obtain ⟨WA, hWA⟩ : ∃ WA, w.alloc (.cells #[.string ⟨#[]⟩, .string ⟨#[]⟩] 54) = WA := ⟨_, rfl⟩
  have hbA : Below w.heap.size w WA := by rw [← hWA]; exact (Below.refl _ _).alloc (Nat.le_refl _) _
  have hrA : WA.heap[w.heap.size]? = some (.cells #[.string ⟨#[]⟩, .string ⟨#[]⟩] 54 (0, 0)) := by rw [← hWA]; exact heap_alloc_new w _
  have hszA : WA.heap.size = w.heap.size + 1 := by rw [← hWA]; simp
  have hsA := (HH.out.2.2.2.2.2.2.toO (Nat.le_refl w.heap.size)).keep hbA
  obtain ⟨y1, y2, y3, y4⟩ := setO hsA (i + 1)
  have HA := Lib.hid (And.intro hbA (And.intro hrA (And.intro hszA (And.intro hsA y4))))
  clear hbA hrA hszA hsA y4 z1 z2 z3
  go_enter Tryz.func56, Tryz.ntmps56
  go_wp2_with fail
  go_loopg [] kl (fun m wx => ∃ p : Nat, p + m = q + 1 ∧ i + 1 ≤ p ∧ p ≤ q ∧ ScO (fun k => ok k ∧ k ≠ w.heap.size) B b s p txt out wx ∧ KB b WA wx)
  case atStart => exact ⟨i + 1, by omega, by omega, by omega, HA.out.2.2.2.2, (KB.refl b WA).set 1 _⟩
  case round =>
    obtain ⟨p, hm, hj1, hjk, hsj, hkb⟩ := hrel
    obtain ⟨x1, x2, x3, x4⟩ := setO hsj (p + 1)
    have hii : (p : Int) < (s.size : Int) := by omega
    have hwj := wrap_succ p (by omega)
    by_cases hlt : p < q
    · obtain ⟨hp, c, hc, hnc⟩ := hch p (by omega) hlt
      have n47 := byte_nb (hnc.ne (n := 47) (by unfold NameB; decide)) (k := 47) rfl
      have n62 := byte_nb (hnc.ne (n := 62) (by unfold NameB; decide)) (k := 62) rfl
      have n61 := byte_nb (hnc.ne (n := 61) (by unfold NameB; decide)) (k := 61) rfl
      have hsp := fun W n => Calls.quiet_of (w := W) (n := n) ((isSpace_any c (W.drewN n)).mono fun e w' h => ⟨h.1, h.2.out⟩)
      rw [hnc.sp] at hsp
      have HJ := Lib.hid (And.intro hsj (And.intro hkb (And.intro x4 hnc)))
      clear hsj hkb x4 hnc hch
      go_wp2_with fail
      go_quiet ((go_at_call 47; with_reducible exact hsp _ _))
      go_wp2_with fail
      have hbd := pw_below_drewN (Below.refl wr.heap.size wr) nq
      have h2 := HJ.out.1.keep hbd
      have h3 := HJ.out.2.1.below hbd
      have h4 := (setO h2 (p + 1)).2.2.2
      go_roundg (q - p)
      case measure => omega
      case rel => exact ⟨p + 1, by omega, by omega, by omega, h4, h3.set 1 _⟩
    · obtain rfl : p = q := by omega
      obtain ⟨c, hc⟩ : ∃ c, s[p]'(by omega) = c := ⟨_, rfl⟩
      have hc61 : c = 61 := by rw [← hc]; exact HS0.out.1
      have n47 : ((c.toNat : Int) != 47) = true := by rw [hc61]; rfl
      have n62 : ((c.toNat : Int) != 62) = true := by rw [hc61]; rfl
      have n61 : ((c.toNat : Int) != 61) = false := by rw [hc61]; rfl
      have hsp := fun W n => Calls.quiet_of (w := W) (n := n) ((isSpace_any c (W.drewN n)).mono fun e w' h => ⟨h.1, h.2.out⟩)
      have hsp' := fun W => isSpace_any c W
      rw [show isSp c = false from by rw [hc61]; rfl] at hsp hsp'
      have HJ := Lib.hid (And.intro hsj (And.intro hkb x4))
      clear hsj hkb x4 hch hc61
      go_wp2_with fail
      go_quiet ((go_at_call 47; with_reducible exact hsp _ _))
      have hbd := pw_below_drewN (Below.refl wr.heap.size wr) nq
      have h2 := HJ.out.1.keep hbd
      have h3 := HJ.out.2.1.below hbd
      obtain ⟨W0, hW0⟩ : ∃ W0, (wr.drewN nq).drew = W0 := ⟨_, rfl⟩
      have hbd0 : Below (wr.drewN nq).heap.size (wr.drewN nq) W0 := by rw [← hW0]; exact Below.drew (Below.refl _ _)
      have hs0' := h2.keep hbd0
      have hk0' := h3.below hbd0
      obtain ⟨u1, u2, u3, u4⟩ := setO hs0' 0
      clear u4
      have hb0 := hs0'.lt
      have hx : s.extract i p = bStr key := str_ext (by
        rw [← hqe, extract_take', HH.out.2.2.2.2.1, ← hkl, List.take_left, bStr_list])
      have hlow := fun W => lower_any (bStr key) W (by rw [bStr_size]; omega)
      rw [show lowS (bStr key) = bStr key from by unfold lowS; rw [bStr_list, name_low HH.out.2.1]] at hlow
      have hij : (i : Int) ≤ (p : Int) := by omega
      have hjs : (p : Int) ≤ (s.size : Int) := by omega
      have H0 := Lib.hid (And.intro hs0' hk0')
      clear hs0' hk0' h2 h3 hbd hbd0 HJ
      go_upto_region 5 with fail
      refine wp_region_last 13 hmx rfl (fun w' => Below W0.heap.size W0 w') (fun w1 w2 => Below w1.heap.size w1 w2) (fun k v w' => match k with
        | 0 | 1 | 2 | 5 | 6 => v = .pointer (some ⟨b, 0, none⟩)
        | 3 => v = .string s
        | 4 => v = .int .i64 i
        | 7 => v = .pointer (some ⟨b, 1, none⟩)
        | 8 => v = .int .i64 p
        | 9 => v = .string (bStr key)
        | 10 => v = .string (bStr key)
        | 11 => v = .agg #[.string (bStr key), .string ⟨#[]⟩]
        | 12 => ∃ g, v = .pointer (some ⟨g, 0, none⟩) ∧ W0.heap.size ≤ g ∧ w'.heap[g]? = some (.cells #[.string ⟨#[]⟩, .string ⟨#[]⟩] 54 (0, 0))
        | _ => False) ?_ (by kernel_rfl) (by rw [hW0]; exact Below.refl _ _) ?_ ?_
      · intro k v w1 w2 he hr
        match k, hr with
        | 0, hr | 1, hr | 2, hr | 3, hr | 4, hr | 5, hr | 6, hr | 7, hr | 8, hr | 9, hr | 10, hr | 11, hr => exact hr
        | 12, hr =>
          obtain ⟨g, h1, h2, h3⟩ := hr
          exact ⟨g, h1, h2, (he.block g (blk_lt h3)).trans h3⟩
      · simp only [List.take_succ_cons, List.take_zero, TableOps]
        refine ⟨⟨trivial, ?_⟩, ⟨trivial, ?_⟩, ⟨trivial, ?_⟩, ⟨trivial, ?_⟩, ⟨trivial, ?_⟩, ⟨trivial, ?_⟩, ⟨trivial, ?_⟩, ⟨trivial, ?_⟩, ⟨trivial, ?_⟩, ⟨trivial, ?_⟩, ⟨trivial, ?_⟩, ⟨trivial, ?_⟩, ⟨trivial, ?_⟩, trivial⟩
        all_goals
          intro a' w' hS hD hF hdep
          clear hD
          have f0 := hF 0 (by kernel_rfl)
          have f4 := hF 4 (by kernel_rfl)
          clear hF
          have g0 := (hS.cell (p := ⟨b, 0, none⟩) hb0).trans u3
          have g1 := (hS.cell (p := ⟨b, 1, none⟩) hb0).trans u1
          simp [Region.binds, Holds] at hdep f0 f4
        rotate_left 10
        · simp [Oper.wp, execOp, Act.eval, hdep, go_sem]
          refine (hlow w').mono ?_
          rintro e w'' ⟨rfl, h⟩
          exact ⟨_, rfl, hS.trans (h.mono hS.size), h, rfl⟩
        rotate_left 1
        · simp [Oper.wp, execOp, Act.eval, hdep, go_sem]
          exact ⟨_, rfl, hS.alloc hS.size _, (Below.refl _ _).alloc (Nat.le_refl _) _, _, rfl, hS.size, heap_alloc_new w' _⟩
        all_goals
          simp [Oper.wp, execOp, Act.eval, hdep, f0, f4, go_sem, Below.refl, hS, g0, g1, hij, hjs, hx]
      · intro val W1 hS hall
        have hS' : Below W0.heap.size W0 W1 := hS
        have r11 : val 11 = .agg #[.string (bStr key), .string ⟨#[]⟩] := hall 11 (by decide)
        have hr12 : ∃ g, val 12 = .pointer (some ⟨g, 0, none⟩) ∧ W0.heap.size ≤ g ∧ W1.heap[g]? = some (.cells #[.string ⟨#[]⟩, .string ⟨#[]⟩] 54 (0, 0)) := hall 12 (by decide)
        clear hall
        simp only [List.take_succ_cons, List.take_zero, putAll, List.setIfInBounds_toArray, List.set_cons_zero, List.set_cons_succ]
        generalize val 12 = v12 at hr12 ⊢
        have hv12 := hr12.choose_spec.1
        have hgW := hr12.choose_spec.2.1
        have hgb := hr12.choose_spec.2.2
        generalize hr12.choose = g at hv12 hgW hgb
        rw [r11, hv12]
        clear hr12
        have k0 := blk_frozen hgb 0
        have k1 := blk_frozen hgb 1
        have l0 : W1.cell? ⟨g, 0, none⟩ = some (.string ⟨#[]⟩) := by rw [blk_cell hgb]; rfl
        have l1 : W1.cell? ⟨g, 1, none⟩ = some (.string ⟨#[]⟩) := by rw [blk_cell hgb]; rfl
        simp [Oper.wp, execOp, Act.eval, go_sem, k0, k1, l0, l1, Exit.then]
        have hb2 : Below W0.heap.size W0 ((W1.setCell ⟨g, 0, none⟩ (.string (bStr key))).setCell ⟨g, 1, none⟩ (.string ⟨#[]⟩)) := (hS'.setCell (p := ⟨g, 0, none⟩) hgW _).setCell (p := ⟨g, 1, none⟩) hgW _
        have hg2 := blk_set (blk_set hgb 0 (.string (bStr key))) 1 (.string ⟨#[]⟩)
        generalize (W1.setCell ⟨g, 0, none⟩ (.string (bStr key))).setCell ⟨g, 1, none⟩ (.string ⟨#[]⟩) = W2 at hb2 hg2 ⊢
        have hg2' : W2.heap[g]? = some (.cells #[.string (bStr key), .string ⟨#[]⟩] 54 (0, 0)) := hg2
        have hs2 := (H0.out.1.toO hgW).keep hb2
        have hk2 := H0.out.2.below hb2
        obtain ⟨t1, t2, t3, t4⟩ := setO hs2 (p + 1)
        have H2 := Lib.hid (And.intro hg2' (And.intro hs2 (And.intro hk2 hgW)))
        have hps : (p : Int) < (s.size : Int) := by omega
        have hpe : ((p : Int) == (s.size : Int)) = false := beq_eq_false_iff_ne.2 (by omega)
        have hwp := wrap_succ p (by omega)
        clear hb2 hg2 hg2' hs2 hk2 t4 hS' hgb k0 k1 l0 l1 r11 hv12 hsp hlow hx u1 u2 u3 hb0 hS hgW hij hjs
        go_wp2_with fail
        go_loopg [6] 1 (fun m s6 wx => s6 = .int .i64 p ∧ wx = W2)
        case atStart => exact ⟨rfl, rfl⟩
        case round =>
          obtain ⟨rfl, rfl⟩ := hrel
          go_wp2_with (go_at_call 47; fail)
          refine (hsp' _).mono ?_
          clear hsp'
          rintro e w5 ⟨rfl, hd5⟩
          obtain ⟨m5, hw5⟩ := hd5.out
          subst hw5
          go_upto_region 11 with fail
          have hbd := pw_below_drewN (Below.refl wr.heap.size wr) m5
          have hs5 := H2.out.2.1.keep hbd
          have hk5 := H2.out.2.2.1.below hbd
          have hg5 := (hbd.block g (blk_lt H2.out.1)).trans H2.out.1
          obtain ⟨v1, v2, v3, v4⟩ := setO hs5 (p + 1)
          have hgb' : g ≠ b := fun e => by
            have h1 := H0.out.1.lt
            have h2 := H2.out.2.2.2
            omega
          have hg6 := (Below.heap_setCell (wr.drewN m5) ⟨b, 1, none⟩ (.int .i64 ((p + 1 : Nat) : Int)) g hgb').trans hg5
          have H5 := Lib.hid (And.intro v4 (And.intro (hk5.set 1 (.int .i64 ((p + 1 : Nat) : Int))) hg6))
          have HG := Lib.hid hgb'
          obtain ⟨p1, hp1e⟩ : ∃ p1, p + 1 = p1 := ⟨_, rfl⟩
          clear hbd hs5 hk5 hg5 v3 v4 hd5 t1 t2 t3 hg6 hgb' hc n47 n62 n61 hpe
          have hpb : p1 < s.size := by omega
          have hp1s : p1 + 1 + ul + 1 ≤ s.size := by omega
          have hpe1 : ((p1 : Int) == (s.size : Int)) = false := beq_eq_false_iff_ne.2 (by omega)
          obtain ⟨c2, hc2⟩ : ∃ c2, s[p1]'hpb = c2 := ⟨_, rfl⟩
          have hc34 : c2 = 34 := by
            rw [← hc2]
            have := HS0.out.2
            subst hp1e
            exact this
          have n2 : ((c2.toNat : Int) == 62) = false := by rw [hc34]; rfl
          have n3 : ((c2.toNat : Int) == 34) = true := by rw [hc34]; rfl
          have hsp2 := fun W n => Calls.quiet_of (w := W) (n := n) ((isSpace_any c2 (W.drewN n)).mono fun e w' h => ⟨h.1, h.2.out⟩)
          rw [show isSp c2 = false from by rw [hc34]; rfl] at hsp2
          have H34 := Lib.hid hc34
          have HP1 := Lib.hid hp1e
          have hwp1 := wrap_succ p1 (by omega)
          have hp1z : (p1 : Int) < (s.size : Int) := by omega
          clear hc34 hp1e
          go_wp2_with fail
          go_loopg [] 1 (fun m wx => ScO (fun k => (ok k ∧ k ≠ w.heap.size) ∧ k ≠ g) B b s p1 txt out wx ∧ KB b WA wx ∧ wx.heap[g]? = some (.cells #[.string (bStr key), .string ⟨#[]⟩] 54 (0, 0)))
          case atStart => exact ⟨by rw [← HP1.out]; exact H5.out.1, H5.out.2.1, H5.out.2.2⟩
          case round =>
            obtain ⟨hs6, hk6, hg6⟩ := hrel
            obtain ⟨a1, a2, a3, a4⟩ := setO hs6 0
            have H6 := Lib.hid (And.intro hs6 (And.intro hk6 hg6))
            clear hs6 hk6 hg6 a4 a2 v1 v2 H5
            go_wp2_with fail
            go_quiet ((go_at_call 47; with_reducible exact hsp2 _ _))
            go_wp2_with fail
            go_quiet (fail)
            go_wp2_with fail
            go_quiet (fail)
            go_upto_region 22 with fail
            refine wp_any_draw fun mm => ?_
            obtain ⟨w0, hw0⟩ : ∃ w0, (wr.drewN mm).drew = w0 := ⟨_, rfl⟩
            have hbd : Below wr.heap.size wr w0 := by rw [← hw0]; exact Below.drew (pw_below_drewN (Below.refl _ _) mm)
            have hs7 := H6.out.1.keep hbd
            have hk7 := H6.out.2.1.below hbd
            have hg7 := (hbd.block g (blk_lt H6.out.2.2)).trans H6.out.2.2
            have hb7 := hs7.lt
            have d1 := (setO hs7 0).1
            have d0 := (setO hs7 0).2.2.1
            have H7 := Lib.hid (And.intro hs7 (And.intro hk7 hg7))
            clear hs7 hk7 hg7 hbd H6 a1 a3
            obtain ⟨V1, hV1⟩ : ∃ V1, w0.alloc (.cells #[.int .u8 c2.toNat] 5) = V1 := ⟨_, rfl⟩
            have hbV : Below w0.heap.size w0 V1 := by rw [← hV1]; exact (Below.refl _ _).alloc (Nat.le_refl _) _
            have hcV : V1.heap[w0.heap.size]? = some (.cells #[.int .u8 c2.toNat] 5 (0, 0)) := by rw [← hV1]; exact heap_alloc_new w0 _
            have hszV : V1.heap.size = w0.heap.size + 1 := by rw [← hV1]; simp
            have hconv : ∀ W, Below V1.heap.size V1 W → (convert 45 9 (.slice (some ⟨w0.heap.size, 0, none⟩) 1 1)).run Tryz.prog W = .ok (.string ⟨#[34]⟩) W := fun W hW => by
              have := run_convert_bytes_arg (P := Tryz.prog) W 45 5 Tryz.underlying45 Tryz.underlying5 w0.heap.size 0 1 1 [(c2.toNat : Int)] rfl (fun i hi => by
                obtain rfl : i = 0 := by omega
                rw [blk_cell ((hW.block _ (by omega)).trans hcV)]
                rfl) 9 Tryz.underlying9
              rw [show strOfNums [(c2.toNat : Int)] = ⟨#[34]⟩ from by rw [H34.out]; rfl] at this
              exact this
            obtain ⟨r, hf, hkf⟩ := find_any s ⟨#[34]⟩ hs (by decide) (p1 + 1) (by omega)
            have hd : s.data.toList.drop (p1 + 1) = unB us ++ 34 :: rest := by
              have h1 := HH.out.2.2.2.2.1
              have h2 : p1 + 1 = i + (kl + 2) := by
                have := HP1.out
                omega
              rw [h2, ← List.drop_drop, h1, ← hkl, List.drop_append]
              simp
            have HD := Lib.hid hd
            have hr : r = p1 + 1 + ul := by
              refine find_at hf (by omega) (by rw [e2]; show p1 + 1 + ul + 1 ≤ s.size; omega) ?_ (fun q q1 q2 ho => ?_)
              · unfold occ
                rw [← hul, ← List.drop_drop, hd, List.drop_left]
                rfl
              · obtain ⟨j, rfl⟩ : ∃ j, q = p1 + 1 + j := ⟨q - (p1 + 1), by omega⟩
                have h1 := occ_get ho (j := 0) (c := 34) rfl
                rw [Nat.add_zero, ← List.getElem?_drop, hd, List.getElem?_append_left (by omega)] at h1
                exact HH.out.2.2.2.1 _ (List.mem_of_getElem? h1) rfl
            clear hf hd
            have HR := Lib.hid hr
            have hrs : r + 1 ≤ s.size := by omega
            have hrp : p1 + 1 ≤ r := by omega
            clear hr
            refine wp_region_stage 13 hmx (fun M w' => Below w0.heap.size w0 w' ∧ (M 10 = false → w' = w0) ∧ (M 10 = true → Below V1.heap.size V1 w')) (fun k => match k with
              | 0 | 1 | 2 | 4 | 5 => .pointer (some ⟨b, 0, none⟩)
              | 3 => .string s
              | 6 => .pointer (some ⟨b, 1, none⟩)
              | 7 => .int .i64 p1
              | 8 => .int .i64 ((p1 + 1 : Nat) : Int)
              | 9 => .int .u8 c2.toNat
              | 10 => .slice (some ⟨w0.heap.size, 0, none⟩) 1 1
              | 11 => .string ⟨#[34]⟩
              | 12 | 13 => .int .i64 r
              | _ => undef) (by kernel_rfl) ⟨by rw [hw0]; exact Below.refl _ _, fun _ => hw0, fun h => by cases h⟩ ?_ ?_
            · repeat' (first | exact trivial | refine Stages.cons rfl ?_ ?_)
              all_goals
                intro M a' w' hS hM hF hC hD hfr hdep
                have f0 := hfr 0 (by kernel_rfl)
                have f7 := hfr 7 (by kernel_rfl)
                clear hfr hD hF
                have g0 := (hS.1.cell (p := ⟨b, 0, none⟩) hb7).trans d0
                have g1 := (hS.1.cell (p := ⟨b, 1, none⟩) hb7).trans d1
                simp [Region.binds, Holds] at hdep f0 f7
              rotate_left 10
              · obtain rfl := hS.2.1 hM
                simp [Oper.wp, execOp, Act.eval, hdep, f0, go_sem, upd, hV1, Below.refl, hbV]
              · have hW := hS.2.2 hdep.1
                simp [Oper.wp, execOp, Act.eval, hdep, f0, go_sem, upd, hconv w' hW]
                exact ⟨hS.1, hW⟩
              · have h10 := hC.dep (k := 11) hdep.2.2.1 10 (by kernel_rfl)
                have hW := hS.2.2 h10
                simp [Oper.wp, execOp, Act.eval, hdep, f0, go_sem, upd]
                refine (hkf w').mono ?_
                rintro e w'' ⟨rfl, hd⟩
                exact ⟨rfl, hS.1.trans (hd.below.mono hS.1.size), (fun h => by rw [h10] at h; cases h), fun _ => hW.trans (hd.below.mono hW.size)⟩
              all_goals
                simp [Oper.wp, execOp, Act.eval, hdep, f0, f7, go_sem, g0, g1, upd, hwp1]
                first | exact hS | (refine ⟨hS.1, ?_⟩; simpa [hdep] using hS.2) | trace_state
            · intro M w6 hall hS
              simp only [putAll, List.setIfInBounds_toArray, List.set_cons_zero, List.set_cons_succ, Exit.then]
              have hS1 : Below w0.heap.size w0 w6 := hS.1
              clear hall hS
              have hs8 := H7.out.1.keep hS1
              have hk8 := H7.out.2.1.below hS1
              have hg8 := (hS1.block g (blk_lt H7.out.2.2)).trans H7.out.2.2
              have x0 := (setO hs8 0).2.2.1
              have H8 := Lib.hid (And.intro hs8 (And.intro hk8 hg8))
              have hre : ((r : Int) == (s.size : Int)) = false := beq_eq_false_iff_ne.2 (by omega)
              clear hs8 hk8 hg8 hS1 hconv hcV hbV hszV d0 d1 hb7 n2 n3 hc2 hsp2
              go_upto_region 25 with fail
              obtain ⟨w9, hw9⟩ : ∃ w9, w6.drew = w9 := ⟨_, rfl⟩
              have hbd : Below w6.heap.size w6 w9 := by rw [← hw9]; exact Below.drew (Below.refl _ _)
              have hs9 := H8.out.1.keep hbd
              have hk9 := H8.out.2.1.below hbd
              have hg9 := (hbd.block g (blk_lt H8.out.2.2)).trans H8.out.2.2
              have hb9 := hs9.lt
              have d1 := (setO hs9 0).1
              have d0 := (setO hs9 0).2.2.1
              have H9 := Lib.hid (And.intro hs9 (And.intro hk9 hg9))
              have hglt := blk_lt hg9
              clear hs9 hk9 hg9 hbd H8 x0 hre
              have hx : (s.extract (p1 + 1) r).data.toList = unB us := by
                rw [HR.out, extract_take', HD.out, ← hul, List.take_left]
              have hun := fun W => unescaped_any (s.extract (p1 + 1) r) us hx HH.out.2.2.1 true W (by rw [ByteArray.size_extract]; omega)
              have hz1 : ((p1 + 1 : Nat) : Int) ≤ (r : Int) := by omega
              have hz2 : (r : Int) ≤ (s.size : Int) := by omega
              have hz3 : (0 : Int) ≤ (p1 : Int) + 1 := by omega
              have hz4 : (p1 : Int) + 1 ≤ (r : Int) := by omega
              clear hx
              refine wp_region_stage 13 hmx (fun M w' => (M 11 = false → w' = w9) ∧ (M 13 = false → Below w9.heap.size w9 w') ∧ (M 13 = true → ∃ w1, Below w9.heap.size w9 w1 ∧ w' = w1.setCell ⟨g, 1, none⟩ (.string (bStr (unV us))))) (fun k => match k with
                | 0 | 1 | 2 | 4 | 5 => .pointer (some ⟨b, 0, none⟩)
                | 3 => .string s
                | 6 => .pointer (some ⟨b, 1, none⟩)
                | 7 => .int .i64 p1
                | 8 => .int .i64 ((p1 + 1 : Nat) : Int)
                | 9 => .int .i64 r
                | 10 => .string (s.extract (p1 + 1) r)
                | 11 => .string (bStr (unV us))
                | 12 => .pointer (some ⟨g, 1, none⟩)
                | _ => undef) (by kernel_rfl) ⟨fun _ => hw9, fun _ => by rw [hw9]; exact Below.refl _ _, fun h => by cases h⟩ ?_ ?_
              · repeat' (first | exact trivial | refine Stages.cons rfl ?_ ?_)
                all_goals
                  intro M a' w' hS hM hF hC hD hfr hdep
                  have f0 := hfr 0 (by kernel_rfl)
                  have f5 := hfr 5 (by kernel_rfl)
                  have f8 := hfr 8 (by kernel_rfl)
                  clear hfr hD
                  simp [Region.binds, Holds] at hdep f0 f5 f8
                rotate_left 13
                · have hW := hS.2.1 hM
                  have hgw := (hW.block g hglt).trans H9.out.2.2
                  have q1 := blk_frozen hgw 1
                  have q2 : w'.cell? ⟨g, 1, none⟩ = some (.string ⟨#[]⟩) := by rw [blk_cell hgw]; rfl
                  have h11 := hC.dep (k := 12) hdep.1.1 11 (by kernel_rfl)
                  simp [Oper.wp, execOp, Act.eval, hdep, f0, go_sem, upd, q1, q2]
                  first | exact ⟨w', hW, rfl⟩ | exact ⟨(fun h => by rw [h11] at h; cases h), w', hW, rfl⟩
                all_goals
                  have hF' := hF (by decide)
                  have hW := hS.2.1 hF'
                  have g0 := (hW.cell (p := ⟨b, 0, none⟩) hb9).trans d0
                  have g1 := (hW.cell (p := ⟨b, 1, none⟩) hb9).trans d1
                rotate_left 11
                · obtain rfl := hS.1 hM
                  simp [Oper.wp, execOp, Act.eval, hdep, f0, go_sem, upd, hF']
                  refine (hun w').mono ?_
                  rintro e w'' ⟨rfl, hd⟩
                  exact ⟨rfl, hd⟩
                all_goals
                  simp [Oper.wp, execOp, Act.eval, hdep, f0, f5, f8, go_sem, g0, g1, upd, hwp1, hz1, hz2, hz3, hz4, hF']
                  first | exact ⟨hS.1, hW⟩ | exact ⟨fun h => hS.1 h, hW⟩ | (simpa [hdep] using hW) | trace_state
              · intro M wA hall hS
                simp only [putAll, List.setIfInBounds_toArray, List.set_cons_zero, List.set_cons_succ, Exit.then]
                have hS3 := hS.2.2 (hall 13 (by decide))
                clear hall hS
                have hS4 : Below w9.heap.size w9 hS3.choose := hS3.choose_spec.1
                have hS5 := hS3.choose_spec.2
                generalize hS3.choose = w10 at hS4 hS5
                subst hS5
                clear hS3
                have hs10 := H9.out.1.keep hS4
                have hk10 := H9.out.2.1.below hS4
                have hg10 := (hS4.block g hglt).trans H9.out.2.2
                have hg11 := blk_set hg10 1 (.string (bStr (unV us)))
                have hs11 := hs10.other (fun k hk => hk.2) HG.out (.string (bStr (unV us))) (j := 1)
                have hk11 := hk10.setNew (g := g) (by have := H0.out.2.size; have := H2.out.2.2.2; omega) 1 (.string (bStr (unV us)))
                generalize w10.setCell ⟨g, 1, none⟩ (.string (bStr (unV us))) = w11 at hg11 hs11 hk11 ⊢
                have hg11' : w11.heap[g]? = some (.cells #[.string (bStr key), .string (bStr (unV us))] 54 (0, 0)) := hg11
                obtain ⟨t1, t2, t3, t4⟩ := setO hs11 (r + 1)
                have hk12 := hk11.set 1 (.int .i64 ((r + 1 : Nat) : Int))
                have hg12 := (Below.heap_setCell w11 ⟨b, 1, none⟩ (.int .i64 ((r + 1 : Nat) : Int)) g HG.out).trans hg11'
                have hrb : w.heap.size ≠ b := by omega
                have hr12 := (hk12.block w.heap.size (by have := HA.out.2.2.1; omega) hrb).trans HA.out.2.1
                have hwr1 := wrap_succ r (by omega)
                obtain ⟨w12, hw12⟩ : ∃ w12, w11.setCell ⟨b, 1, none⟩ (.int .i64 ((r + 1 : Nat) : Int)) = w12 := ⟨_, rfl⟩
                rw [hw12] at t4 hk12 hg12 hr12
                have hw12' : w11.setCell ⟨b, 1, none⟩ (.int .i64 ((r : Int) + 1)) = w12 := hw12
                have a0 : w12.cell? ⟨g, 0, none⟩ = some (.string (bStr key)) := by rw [blk_cell hg12]; rfl
                have a1 : w12.cell? ⟨g, 1, none⟩ = some (.string (bStr (unV us))) := by rw [blk_cell hg12]; rfl
                have a2 : w12.cell? ⟨w.heap.size, 0, none⟩ = some (.string ⟨#[]⟩) := by rw [blk_cell hr12]; rfl
                have a3 : w12.cell? ⟨w.heap.size, 1, none⟩ = some (.string ⟨#[]⟩) := by rw [blk_cell hr12]; rfl
                have a4 := blk_frozen hr12 0
                have a5 := blk_frozen hr12 1
                have ho13 := (t4.other (fun k hk => hk.1.2) hrb (.string (bStr key)) (j := 0)).other (fun k hk => hk.1.2) hrb (.string (bStr (unV us))) (j := 1)
                have hk0' : KB b w w12 := (⟨HA.out.1.os, HA.out.1.tape, HA.out.1.output, HA.out.1.size, fun k hk _ => HA.out.1.block k hk⟩ : KB b w WA).trans hk12
                have hk13 := (hk0'.setNew (g := w.heap.size) (Nat.le_refl _) 0 (.string (bStr key))).setNew (g := w.heap.size) (Nat.le_refl _) 1 (.string (bStr (unV us)))
                have hr13 := blk_set (blk_set hr12 0 (.string (bStr key))) 1 (.string (bStr (unV us)))
                obtain ⟨w13, hw13⟩ : ∃ w13, (w12.setCell ⟨w.heap.size, 0, none⟩ (.string (bStr key))).setCell ⟨w.heap.size, 1, none⟩ (.string (bStr (unV us))) = w13 := ⟨_, rfl⟩
                rw [hw13] at ho13 hk13 hr13
                have b0 : w13.cell? ⟨w.heap.size, 0, none⟩ = some (.string (bStr key)) := by rw [blk_cell hr13]; rfl
                have b1 : w13.cell? ⟨w.heap.size, 1, none⟩ = some (.string (bStr (unV us))) := by rw [blk_cell hr13]; rfl
                have H12 := Lib.hid (And.intro ho13 hk13)
                clear t4 hk12 hg12 hr12 hg11 hg11' hs11 hk11 hk10 hg10 hs10 hS4 d0 d1 hun t3 hw12 hrb ho13 hk13 hr13 hk0'
                go_upto_region 27 with fail
                go_wp2_with fail

                first | go_ret3 | (refine bodyPost_ret (v := .tuple #[.agg #[.string (bStr key), .string (bStr (unV us))], .bool true]) ?_ rfl ?_; · simp [results, Tryz.f56, go_sem, b0, b1])
                refine ⟨rfl, ?_, H12.out.2⟩
                rw [show i + key.length + 2 + (unB us).length + 1 = r + 1 from by have := HR.out; have := HP1.out; omega]
                exact H12.out.1.mono (fun k hk => hk.1.1)

end Go.Proofs.YtpkelgekannioaaGreatDoor

namespace Go.Proofs.YtpkelgekannioaaGreatDoor
open Go.RowKit Go.Shelf Go.BigFrame
open Go.Proofs.YtpkelgekannioaaGreatDoorW.PrintWords
open PFnTokenRead (S34 S38 S52 S54 k34 k38 k52 k54)
set_option linter.unusedSimpArgs false
set_option linter.unusedVariables false

theorem KB.rowT {b B : Nat} {ok : Nat → Prop} {w w' : World} {cs : Array Value} {tv : Value} {xs : List Int} (h : KB b w w') (hb : w.heap[b]? = some (.cells cs 47 (0, 0))) (hr : (Kd.int .u8).R 5 w B ok tv xs) : (Kd.int .u8).R 5 w' B ok tv xs :=
  Kd.R_mono (Kd.R_step (Kd.R_types hr hb ne47_5) (fun k hk hlt => h.block k hlt hk.2)) (fun _ hk => hk.1)
theorem KB.rowO {b B : Nat} {ok : Nat → Prop} {w w' : World} {cs : Array Value} {ov : Value} {xs : List S52} (h : KB b w w') (hb : w.heap[b]? = some (.cells cs 47 (0, 0))) (hr : k52.R 52 w B ok ov xs) : k52.R 52 w' B ok ov xs :=
  Kd.R_mono (Kd.R_step (Kd.R_types hr hb ne47_52) (fun k hk hlt => h.block k hlt hk.2)) (fun _ hk => hk.1)

set_option maxHeartbeats 1000000 in
set_option maxRecDepth 100000 in
theorem ended_end (B b i : Nat) (s : ByteArray) (txt : List UInt8) (out : List S52) (w : World) (h : Sc B b s i txt out w) (d : ByteArray) (A : Option Addr) (n c : Nat) (cl : Bool) (hl : out.length ≤ 1099511627776) :
    Calls Tryz.prog 55 #[.pointer (some ⟨b, 0, none⟩), .agg #[.int .i64 3, .string d, .slice A n c], .bool cl] w fun e w' => e = .returned (.tuple #[]) ∧ Sc B b s i [] (out ++ textTok txt ++ [⟨3, d, []⟩]) w' ∧ Went B w w' := by
  have hBw := h.base
  have HS := Lib.hid h
  clear h
  obtain ⟨w1, hw1⟩ : ∃ w1, w.alloc (.cells #[.int .i64 3, .string d, .slice none 0 0] 52) = w1 := ⟨_, rfl⟩
  have hb1 : Below w.heap.size w w1 := by rw [← hw1]; exact (Below.refl _ _).alloc (Nat.le_refl _) _
  have hx1 : w1.heap[w.heap.size]? = some (.cells #[.int .i64 3, .string d, .slice none 0 0] 52 (0, 0)) := by rw [← hw1]; exact heap_alloc_new w _
  have x0 : w1.cell? ⟨w.heap.size, 0, none⟩ = some (.int .i64 3) := by rw [blk_cell hx1]; rfl
  have x1 : w1.cell? ⟨w.heap.size, 1, none⟩ = some (.string d) := by rw [blk_cell hx1]; rfl
  have x2 : w1.cell? ⟨w.heap.size, 2, none⟩ = some (.slice none 0 0) := by rw [blk_cell hx1]; rfl
  have hs1 := HS.out.keep hb1
  clear hx1
  have HW := Lib.hid (And.intro hs1 (Went.of_below hb1 hBw))
  clear hb1 hs1
  go_enter Tryz.func55, Tryz.ntmps55
  go_wp2_with (go_at_call 59; fail)
  refine (tell_any B b i s txt out w1 HW.out.1 ⟨3, d, []⟩ none 0 0 (Kd.R_nil _ _ _ _ _) (by omega)).mono ?_
  rintro e w2 ⟨rfl, hs2, hg2⟩
  have H2 := Lib.hid (And.intro hs2 (HW.out.2.trans hg2))
  clear hs2 hg2
  go_wp2_with fail
  first | go_end0 | refine bodyPost_ret (results_none rfl _ _ _) rfl ?_
  exact ⟨rfl, H2.out⟩

set_option maxHeartbeats 2000000 in
set_option maxRecDepth 100000 in
theorem ended_start (B b i : Nat) (s : ByteArray) (txt : List UInt8) (out : List S52) (w : World) (h : Sc B b s i txt out w) (d : ByteArray) (A : Option Addr) (n c : Nat) (cl : Bool) (ats : List S54) (ha : k54.R 54 w B anyB (.slice A n c) ats) (hd : Usual d) (hl : out.length ≤ 1099511627776) :
    Calls Tryz.prog 55 #[.pointer (some ⟨b, 0, none⟩), .agg #[.int .i64 2, .string d, .slice A n c], .bool cl] w fun e w' => e = .returned (.tuple #[]) ∧ Sc B b s i [] (out ++ textTok txt ++ [⟨if cl then 4 else 2, d, ats⟩]) w' ∧ Went B w w' := by
  have hmx : Tryz.prog.follows .mixedOrders = true := by kernel_rfl
  have hBw := h.base
  obtain ⟨w1, hw1⟩ : ∃ w1, w.alloc (.cells #[.int .i64 2, .string d, .slice A n c] 52) = w1 := ⟨_, rfl⟩
  have hb1 : Below w.heap.size w w1 := by rw [← hw1]; exact (Below.refl _ _).alloc (Nat.le_refl _) _
  have hx1 : w1.heap[w.heap.size]? = some (.cells #[.int .i64 2, .string d, .slice A n c] 52 (0, 0)) := by rw [← hw1]; exact heap_alloc_new w _
  have hg1 := Went.of_below hb1 hBw
  have ha1 := Kd.R_below ha hb1
  have hblt := h.lt
  have hs1 := (h.toO (Nat.le_refl w.heap.size)).keep hb1
  have hxb : w.heap.size ≠ b := by omega
  have hbd : Below w1.heap.size w1 w1.drew := Below.drew (Below.refl _ _)
  obtain ⟨hB, nm, tv, ov, q1, q2, q3⟩ := hs1.keep hbd
  have ha2 := Kd.R_below ha1 hbd
  have hx2 := (hbd.block w.heap.size (blk_lt hx1)).trans hx1
  have hg2 := hg1.trans (Went.of_below hbd hs1.sc.base)
  obtain ⟨w0, hw0⟩ : ∃ w0, w1.drew = w0 := ⟨_, rfl⟩
  rw [hw0] at q1 q2 q3 ha2 hx2 hg2
  have hblt0 := blk_lt q1
  have hxlt := blk_lt hx2
  have hmo := fun W => modeOf_usual hd W
  have x0 : w1.cell? ⟨w.heap.size, 0, none⟩ = some (.int .i64 2) := by rw [blk_cell hx1]; rfl
  have HH := Lib.hid (And.intro q1 (And.intro q2 (And.intro q3 (And.intro ha2 (And.intro hx2 hg2)))))
  clear q1 q2 q3 ha2 hx2 hg2 hbd hg1 ha1 hs1 h ha hx1 hb1
  go_enter Tryz.func55, Tryz.ntmps55
  go_upto_region 4 with fail
  refine wp_region_stage 12 hmx (fun M w' => KB b w0 w' ∧ (M 12 = false → w'.heap[b]? = some (.cells #[.string s, .int .i64 i, .bool false, .int .i64 0, .string nm, tv, ov, .bool false] 47 (0, 0))) ∧ (M 12 = true → w'.heap[b]? = some (.cells #[.string s, .int .i64 i, .bool false, .int .i64 0, .string d, tv, ov, .bool false] 47 (0, 0)))) (fun k => match k with
    | 0 | 1 | 7 | 10 => .pointer (some ⟨b, 0, none⟩)
    | 2 | 5 => .pointer (some ⟨w.heap.size, 1, none⟩)
    | 3 | 6 => .string d
    | 4 => .int .i64 0
    | 8 => .pointer (some ⟨b, 3, none⟩)
    | 11 => .pointer (some ⟨b, 4, none⟩)
    | _ => undef) (by kernel_rfl) ⟨by rw [hw0]; exact KB.refl _ _, fun _ => by rw [hw0]; exact HH.out.1, fun h => by cases h⟩ ?_ ?_
  · repeat' (first | exact trivial | refine Stages.cons rfl ?_ ?_)
    all_goals
      intro M a' w' hS hM hF hC hD hfr hdep
      have f0 := hfr 0 (by kernel_rfl)
      have f4 := hfr 4 (by kernel_rfl)
      clear hfr hD
      simp [Region.binds, Holds] at hdep f0 f4
      have hxw := (hS.1.block w.heap.size hxlt hxb).trans HH.out.2.2.2.2.1
      have g1 : w'.cell? ⟨w.heap.size, 1, none⟩ = some (.string d) := by rw [blk_cell hxw]; rfl
      clear hxw
    rotate_left 12
    · have hb' := hS.2.1 hM
      have u1 := blk_frozen hb' 4
      have u2 : w'.cell? ⟨b, 4, none⟩ = some (.string nm) := by rw [blk_cell hb']; rfl
      have u3 := blk_set hb' 4 (.string d)
      have u4 := hS.1.set 4 (.string d)
      simp [Oper.wp, execOp, Act.eval, hdep, f0, go_sem, upd, u1, u2]
      exact ⟨u4, u3⟩
    all_goals
      have hF' := hF (by decide)
      have hb' := hS.2.1 hF'
      clear hF
    rotate_left 9
    · have u1 := blk_frozen hb' 3
      have u2 : w'.cell? ⟨b, 3, none⟩ = some (.int .i64 0) := by rw [blk_cell hb']; rfl
      have u3 := blk_set hb' 3 (.int .i64 0)
      have u4 := hS.1.set 3 (.int .i64 0)
      simp [Oper.wp, execOp, Act.eval, hdep, f0, go_sem, upd, u1, u2, hF']
      exact ⟨u4, u3⟩
    rotate_left 6
    · simp [Oper.wp, execOp, Act.eval, hdep, f0, go_sem, upd, hF']
      refine (hmo w').mono ?_
      rintro e w'' ⟨rfl, hd⟩
      exact ⟨rfl, hS.1.below hd.below, (hd.below.block b (blk_lt hb')).trans hb'⟩
    all_goals
      simp [Oper.wp, execOp, Act.eval, hdep, f0, f4, go_sem, g1, upd, hF']
      first | exact ⟨hS.1, hb'⟩ | trace_state
  · intro M w2 hall hS
    simp only [putAll, List.setIfInBounds_toArray, List.set_cons_zero, List.set_cons_succ, Exit.then]
    have hk2 : KB b w0 w2 := hS.1
    have hb2 := hS.2.2 (hall 12 (by decide))
    clear hall hS
    have hs2 : ScO (· ≠ w.heap.size) B b s i txt out w2 := ⟨hB, d, tv, ov, hb2, hk2.rowT HH.out.1 HH.out.2.1, hk2.rowO HH.out.1 HH.out.2.2.1⟩
    have hx2 := (hk2.block w.heap.size hxlt hxb).trans HH.out.2.2.2.2.1
    have hg2 := HH.out.2.2.2.2.2.trans (hk2.went HH.out.1 hB)
    have ha2 : k54.R 54 w2 B anyB (.slice A n c) ats := (hk2.went HH.out.1 hB).attrs HH.out.2.2.2.1
    have y0 : w2.cell? ⟨w.heap.size, 0, none⟩ = some (.int .i64 2) := by rw [blk_cell hx2]; rfl
    have y1 : w2.cell? ⟨w.heap.size, 1, none⟩ = some (.string d) := by rw [blk_cell hx2]; rfl
    have y2 : w2.cell? ⟨w.heap.size, 2, none⟩ = some (.slice A n c) := by rw [blk_cell hx2]; rfl
    have y3 := blk_frozen hx2 0
    have hx3 := blk_set hx2 0 (.int .i64 4)
    have H2 := Lib.hid (And.intro hs2 (And.intro hg2 (And.intro ha2 hx3)))
    have hx2w := hx2
    clear hs2 hx2 hg2 ha2 hk2 hb2 hx3
    cases cl with
    | false =>
      clear hx2w
      go_wp2_with (go_at_call 59; fail)
      refine (tell_any B b i s txt out w2 H2.out.1.sc ⟨2, d, ats⟩ A n c H2.out.2.2.1 (by omega)).mono ?_
      rintro e w3 ⟨rfl, hs3, hg3⟩
      have H3 := Lib.hid (And.intro hs3 (H2.out.2.1.trans hg3))
      clear hs3 hg3
      go_wp2_with fail
      first | go_end0 | refine bodyPost_ret (results_none rfl _ _ _) rfl ?_
      first | exact ⟨rfl, H3.out⟩ | exact ⟨rfl, by rw [← List.append_assoc]; exact H3.out.1, H3.out.2⟩
    | true =>
      obtain ⟨w3, hw3⟩ : ∃ w3, w2.setCell ⟨w.heap.size, 0, none⟩ (.int .i64 4) = w3 := ⟨_, rfl⟩
      have hs3 := H2.out.1.other (fun k hk => hk) hxb (.int .i64 4) (j := 0)
      have hx3 := H2.out.2.2.2
      have hg3 : Went B w2 (w2.setCell ⟨w.heap.size, 0, none⟩ (.int .i64 4)) := ⟨(Below.refl B w2).setCell (p := ⟨w.heap.size, 0, none⟩) hBw _, fun g cur hg => (Below.heap_setCell w2 ⟨w.heap.size, 0, none⟩ _ g (fun e => by
        have e' : g = w.heap.size := e
        rw [e', hx2w] at hg
        injection hg with hg
        injection hg with _ hg
        exact absurd hg (by decide))).trans hg⟩
      have ha3 := hg3.attrs H2.out.2.2.1
      have hg4 := H2.out.2.1.trans hg3
      rw [hw3] at hs3 hx3 ha3 hg4
      have z0 : w3.cell? ⟨w.heap.size, 0, none⟩ = some (.int .i64 4) := by rw [blk_cell hx3]; rfl
      have z1 : w3.cell? ⟨w.heap.size, 1, none⟩ = some (.string d) := by rw [blk_cell hx3]; rfl
      have z2 : w3.cell? ⟨w.heap.size, 2, none⟩ = some (.slice A n c) := by rw [blk_cell hx3]; rfl
      have H3 := Lib.hid (And.intro hs3 (And.intro ha3 hg4))
      clear hs3 hx3 ha3 hg4 hg3 hx2w
      go_wp2_with (go_at_call 59; fail)
      refine (tell_any B b i s txt out w3 H3.out.1.sc ⟨4, d, ats⟩ A n c H3.out.2.1 (by omega)).mono ?_
      rintro e w4 ⟨rfl, hs4, hg4⟩
      have H4 := Lib.hid (And.intro hs4 (H3.out.2.2.trans hg4))
      clear hs4 hg4
      go_wp2_with fail
      first | go_end0 | refine bodyPost_ret (results_none rfl _ _ _) rfl ?_
      first | exact ⟨rfl, H4.out⟩ | exact ⟨rfl, by rw [← List.append_assoc]; exact H4.out.1, H4.out.2⟩

end Go.Proofs.YtpkelgekannioaaGreatDoor
