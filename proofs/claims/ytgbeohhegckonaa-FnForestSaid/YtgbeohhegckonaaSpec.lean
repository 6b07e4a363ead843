import Derived.Test.YtgbeohhegckonaaLabels
/-! The reference's forest in memory: above, below, beside. -/
namespace Go.Proofs.Ytgbeohhegckonaa
open Go.RowKit Go.Shelf Go.BigFrame
set_option linter.unusedSimpArgs false
set_option linter.unusedVariables false

def parV (f : Wood) (many : Nat) : List Value := (List.range many).map fun c => .int .i64 (enc (f.par c))
def kidV (vs : Nat → Value) (many : Nat) : List Value := (List.range many).map vs

/-- The reference's forest: block P holds the parents' slice and the slice of the slices of children. -/
structure SpecAt (base many : Nat) (f : Wood) (P : Nat) (Ap Ak : Option Addr) (Cp Ck : Nat) (vs : Nat → Value) (w : World) : Prop where
  pbase : base ≤ P
  blk : w.heap[P]? = some (.cells #[.slice Ap many Cp, .slice Ak many Ck] 60 (0, 0))
  par : w.ownsRow base 3 1 (.slice Ap many Cp) many (parV f many)
  kid : w.ownsRow base 40 1 (.slice Ak many Ck) many (kidV vs many)
  kids : ∀ p, p < many → w.ownsRow base 3 1 (vs p) (f.kids p).length (intsV (ints (f.kids p)))
  apart : ∀ p, p < many → ∀ k, (vs p).ownBlock = some k → (Value.slice Ap many Cp).ownBlock ≠ some k

section
variable {base many : Nat} {f : Wood} {P : Nat} {Ap Ak : Option Addr} {Cp Ck : Nat} {vs : Nat → Value} {w w' : World}

theorem SpecAt.below (h : SpecAt base many f P Ap Ak Cp Ck vs w) (hb : Below w.heap.size w w') : SpecAt base many f P Ap Ak Cp Ck vs w' :=
  ⟨h.pbase, (hb.block P (lt_of_block h.blk)).trans h.blk, ownN_below h.par hb, ownN_below h.kid hb, fun p hp => ownN_below (h.kids p hp) hb, h.apart⟩
theorem SpecAt.f0 (h : SpecAt base many f P Ap Ak Cp Ck vs w) : w.cell? ⟨P, 0, none⟩ = some (.slice Ap many Cp) := by simp [World.cell?, h.blk]
theorem SpecAt.f1 (h : SpecAt base many f P Ap Ak Cp Ck vs w) : w.cell? ⟨P, 1, none⟩ = some (.slice Ak many Ck) := by simp [World.cell?, h.blk]
theorem SpecAt.parent (h : SpecAt base many f P Ap Ak Cp Ck vs w) {c : Nat} (hc : c < many) : ∃ ad, Ap = some ad ∧ ad.block < w.heap.size ∧ w.cell? (ad.add c) = some (.int .i64 (enc (f.par c))) :=
  (Lies.of_own_any h.par _ _ _ rfl).at_ (by simp [parV, hc])
theorem SpecAt.kidsAt (h : SpecAt base many f P Ap Ak Cp Ck vs w) {p : Nat} (hp : p < many) : ∃ ad A C, Ak = some ad ∧ ad.block < w.heap.size ∧ w.cell? (ad.add p) = some (.slice A (f.kids p).length C) ∧ vs p = .slice A (f.kids p).length C ∧ (f.kids p).length ≤ C ∧ C ≤ maxLen ∧ (A = none → C = 0) ∧
    Lies w w.heap.size A (intsV (ints (f.kids p))) := by
  obtain ⟨A, C, hv, h1, h2, h3⟩ := own_form (h.kids p hp)
  obtain ⟨ad, ha, hb, hc⟩ := (Lies.of_own_any h.kid _ _ _ rfl).at_ (k := p) (u := vs p) (by simp [kidV, hp])
  exact ⟨ad, A, C, ha, hb, by rw [hc, hv], hv, h1, h2, h3, Lies.of_own_any (h.kids p hp) _ _ _ hv⟩
theorem SpecAt.caps (h : SpecAt base many f P Ap Ak Cp Ck vs w) : many ≤ Cp ∧ many ≤ Ck := by
  obtain ⟨A, C, e, h1, _, _⟩ := own_form h.par
  obtain ⟨A', C', e', h1', _, _⟩ := own_form h.kid
  cases e
  cases e'
  exact ⟨h1, h1'⟩

set_option maxRecDepth 100000 in
set_option maxHeartbeats 2000000 in
/-- The ancestors, the nearest one first. -/
theorem above_any (h : SpecAt base many f P Ap Ak Cp Ck vs w) (hm : many ≤ 100) {n : Nat} (hn : n < many) {up : List Nat} (hu : Chain f.par (f.par n) up) (hul : up.length ≤ many + 1) (hlt : ∀ x ∈ up, x < many) :
    Calls Try.prog 25 #[.pointer (some ⟨P, 0, none⟩), .int .i64 n] w fun e w' => ∃ v, e = .returned v ∧ w'.ownsRow w.heap.size 3 1 v up.length (intsV (ints up)) ∧ Below w.heap.size w w' := by
  obtain ⟨i0, hi0, hz0, hz1, hz2⟩ := info_parts infoInt
  obtain ⟨ad, rfl, had, hpn⟩ := h.parent hn
  have g0 := h.f0
  have gP := lt_of_block h.blk
  have q1 : (n : Int) < (many : Int) := by omega
  have hcap := h.caps.1
  rw [hu.head] at hpn
  obtain ⟨x0, hx0⟩ : ∃ x, enc up.head? = x := ⟨_, rfl⟩
  rw [hx0] at hpn
  have HH := Lib.hid (And.intro h (And.intro hu hlt))
  have HX0 := Lib.hid hx0
  clear h hu hlt hx0
  go_enter Try.func25, Try.ntmps25
  go_wp2_with fail
  go_loopg [5, 6] up.length (fun g s5 s6 wx => ∃ pre rest, up = pre ++ rest ∧ g = rest.length ∧ s6 = .int .i64 (enc rest.head?) ∧ wx.ownsRow w.heap.size 3 1 s5 pre.length (intsV (ints pre)) ∧ Below w.heap.size w wx)
  case atStart => exact ⟨[], up, rfl, rfl, by rw [HX0.out], World.ownsRow_nil _ _ _ _, Below.refl _ _⟩
  case round =>
    obtain ⟨pre, rest, hk, rfl, rfl, hown, hbw⟩ := hrel
    have HB := hbw.size
    cases rest with
    | nil =>
      simp only [List.head?_nil, enc]
      rw [List.append_nil] at hk
      subst hk
      have HE := Lib.hid (And.intro hown hbw)
      clear hown hbw
      go_wp2_with fail
      go_ret
      exact ⟨_, rfl, HE.out⟩
    | cons x rest =>
      have hxm : x < many := HH.out.2.2 x (by rw [hk]; simp)
      have hpl : pre.length ≤ 101 := by have := congrArg List.length hk; simp at this; omega
      obtain ⟨ad2, e2, _, hpx⟩ := HH.out.1.parent hxm
      cases e2
      have hup : f.par x = rest.head? := Chain.up (par := f.par) (pre := pre) (by rw [← hk]; exact HH.out.2.1)
      rw [hup] at hpx
      obtain ⟨x1, hx1⟩ : ∃ x, enc rest.head? = x := ⟨_, rfl⟩
      rw [hx1] at hpx
      have hneg : ((x : Int) == -1) = false := by simp
      have hneg2 : ((x : Int) != -1) = true := by simp
      have q2 : (x : Int) < (many : Int) := by omega
      have HO := Lib.hid (And.intro hown (And.intro hbw (And.intro hk hx1)))
      have hadr := Nat.lt_of_lt_of_le had HB
      have gPr := Nat.lt_of_lt_of_le gP HB
      have hfar : ∀ {W : World}, Below w.heap.size w W → W.cell? (ad.add x) = some (.int .i64 x1) ∧ W.cell? ⟨P, 0, none⟩ = some (.slice (some ad) many Cp) := fun hW =>
        ⟨(hW.cell (p := ad.add x) (by rw [block_add]; exact had)).trans hpx, (hW.cell (p := ⟨P, 0, none⟩) gP).trans g0⟩
      clear hown hbw hk hx1 hup
      simp only [List.head?_cons, enc]
      go_wp2_with (first
        | (at_builtin; refine wpList_app _ rfl (.tmp 23) (.tmp 25) 40 rfl w.heap.size 3 i0 (.int .i64 0) 8 underInts hi0 hz0 hz1 hz2 rfl _ pre.length (intsV (ints pre)) rfl (HO.out.1.alloc _) (wr.heap.size + 1) (some ⟨wr.heap.size, 0, none⟩) 1 1 [.int .i64 x] rfl (fun h => by cases h) rfl (lies_new wr _ 3) (by intro u hu; simp at hu; subst hu; rfl) (by simp only [maxLen]; omega) (by omega) (by simp; omega) ?_; intro v1 w1 hown1 hg1 hat1;
           have hb1 : Below w.heap.size w w1 := (HO.out.2.1.alloc HB (.cells #[.int .i64 x] 3)).grown hg1 (by simp; omega) (own_base HO.out.1); have hf1 := (hfar hb1).1; have hf2 := (hfar hb1).2)
        | fail)
      clear hg1 hat1 hfar hf1 hf2
      go_roundg rest.length
      case measure => simp
      case rel => exact ⟨pre ++ [x], rest, by rw [HO.out.2.2.1]; simp, rfl, by rw [HO.out.2.2.2], by simpa [ints] using hown1, hb1⟩

set_option maxRecDepth 100000 in
set_option maxHeartbeats 2000000 in
theorem below_one (h : SpecAt base many f P Ap Ak Cp Ck vs w) {n : Nat} (hn : n < many) (hlt : ∀ c ∈ f.kids n, c < many) (hm : many ≤ 100) (hkl : (f.kids n).length ≤ many) (F : Nat → List Nat) (hsm : ((f.kids n).flatMap fun c => c :: F c).length ≤ 20000)
    (hchild : ∀ c ∈ f.kids n, ∀ w1, SpecAt base many f P Ap Ak Cp Ck vs w1 → Calls Try.prog 26 #[.pointer (some ⟨P, 0, none⟩), .int .i64 c] w1 fun e w' => ∃ v, e = .returned v ∧ w'.ownsRow w1.heap.size 3 1 v (F c).length (intsV (ints (F c))) ∧ Below w1.heap.size w1 w') :
    Calls Try.prog 26 #[.pointer (some ⟨P, 0, none⟩), .int .i64 n] w fun e w' => ∃ v, e = .returned v ∧ w'.ownsRow w.heap.size 3 1 v ((f.kids n).flatMap fun c => c :: F c).length (intsV (ints ((f.kids n).flatMap fun c => c :: F c))) ∧ Below w.heap.size w w' := by
  obtain ⟨i0, hi0, hz0, hz1, hz2⟩ := info_parts infoInt
  obtain ⟨ad, A, C, rfl, had, hkn, _, hC1, hC2, hC3, hlies⟩ := h.kidsAt hn
  have g1 := h.f1
  have q1 : (n : Int) < (many : Int) := by omega
  have hcap := h.caps.2
  have HH := Lib.hid (And.intro h (And.intro hlies (And.intro hchild hsm)))
  clear h hlies hchild hsm
  go_enter Try.func26, Try.ntmps26
  go_wp2_with fail
  go_loopg [5, 7, 16] (f.kids n).length (fun g s5 s7 s16 wx => ∃ j : Nat, j + g = (f.kids n).length ∧ s16 = .int .i64 j ∧ wx.ownsRow w.heap.size 3 1 s5 (((f.kids n).take j).flatMap fun c => c :: F c).length (intsV (ints (((f.kids n).take j).flatMap fun c => c :: F c))) ∧ Below w.heap.size w wx)
  case atStart => exact ⟨0, by omega, rfl, World.ownsRow_nil _ _ _ _, Below.refl _ _⟩
  case round =>
    obtain ⟨j, hg, rfl, hown, hbw⟩ := hrel
    have HB := hbw.size
    by_cases hj : j < (f.kids n).length
    · obtain ⟨c, hc⟩ : ∃ c, (f.kids n)[j]? = some c := ⟨_, List.getElem?_eq_getElem hj⟩
      have hcK : c ∈ f.kids n := List.mem_of_getElem? hc
      obtain ⟨st, hst⟩ : ∃ st, (((f.kids n).take j).flatMap fun c => c :: F c) = st := ⟨_, rfl⟩
      have hnext : (((f.kids n).take (j + 1)).flatMap fun c => c :: F c) = st ++ [c] ++ F c := by
        rw [List.take_add_one, hc, List.flatMap_append, hst]; simp
      have hall : (f.kids n).flatMap (fun c => c :: F c) = st ++ c :: F c ++ ((f.kids n).drop (j + 1)).flatMap (fun c => c :: F c) := by
        conv => lhs; rw [← List.take_append_drop (j + 1) (f.kids n), List.flatMap_append, hnext]
        simp
      have hlen : st.length + 1 + (F c).length ≤ 20000 := by
        have h1 := HH.out.2.2.2
        rw [hall] at h1
        simp only [List.length_append, List.length_cons] at h1
        omega
      rw [hst] at hown
      obtain ⟨ca, rfl, hca, hcc⟩ := HH.out.2.1.at_ (k := j) (u := .int .i64 c) (by simp [ints, hc])
      have hcr := (hbw.cell (p := ca.add j) (by rw [block_add]; exact hca)).trans hcc
      have HN := Lib.hid (And.intro hnext (And.intro hown hbw))
      have hrec := HH.out.2.2.1 c hcK
      have hspec := fun (W : World) (hW : Below w.heap.size w W) => HH.out.1.below hW
      clear hnext hown hbw hall hst hc hcc
      go_wp2_with (first
        | (at_builtin; refine wpList_app _ rfl (.tmp 20) (.tmp 22) 40 rfl w.heap.size 3 i0 (.int .i64 0) 8 underInts hi0 hz0 hz1 hz2 rfl _ st.length (intsV (ints st)) rfl (HN.out.2.1.alloc _) (wr.heap.size + 1) (some ⟨wr.heap.size, 0, none⟩) 1 1 [.int .i64 c] rfl (fun h => by cases h) rfl (lies_new wr _ 3) (by intro u hu; simp at hu; subst hu; rfl) (by simp only [maxLen]; omega) (by omega) (by simp; omega) ?_; intro v1 w1 hown1 hg1 hat1;
           have hb1 : Below w.heap.size w w1 := (HN.out.2.2.alloc HB (.cells #[.int .i64 c] 3)).grown hg1 (by simp; omega) (own_base HN.out.2.1); have hsz1 := hb1.size; have hrec1 := hrec w1 (hspec w1 hb1); have HO1 := Lib.hid (And.intro hown1 hb1); clear hown1 hg1 hat1 hb1)
        | (go_at_call 26; go_must (refine hrec1.mono ?_; clear hrec1; rintro e w2 ⟨v2, rfl, hown2, hb2⟩; obtain ⟨A2, c2, hv2, hm2, _, hn2⟩ := own_form hown2; subst hv2; have hsz2 := hb2.size; have HO2 := Lib.hid (And.intro hown2 hb2); clear hown2 hb2))
        | (at_builtin; refine wpList_app _ rfl (.tmp 23) (.tmp 26) 40 rfl w.heap.size 3 i0 (.int .i64 0) 8 underInts hi0 hz0 hz1 hz2 rfl _ (st.length + 1) (intsV (ints st) ++ [.int .i64 c]) rfl (ownN_below HO1.out.1 HO2.out.2) w2.heap.size A2 (F c).length c2 (intsV (ints (F c))) (by simp [ints]) (fun h => by have := hn2 h; omega) rfl (Lies.of_own_any HO2.out.1 _ _ _ rfl) (intsV_one _) (by simp only [maxLen]; omega) (by omega) (by omega) ?_; intro v3 w3 hown3 hg3 hat3)
        | fail)
      have hb3 : Below w.heap.size w w3 := (HO1.out.2.trans (HO2.out.2.mono hsz1)).grown hg3 (by omega) (own_base (ownN_below HO1.out.1 HO2.out.2))
      clear hg3 hat3
      go_roundg ((f.kids n).length - (j + 1))
      case measure => omega
      case rel => exact ⟨j + 1, by omega, by go_num, by rw [HN.out.1]; simpa [ints, Nat.add_assoc, Nat.add_comm 1] using hown3, hb3⟩
    · obtain rfl : j = (f.kids n).length := by omega
      rw [List.take_length] at hown
      have HE := Lib.hid (And.intro hown hbw)
      clear hown hbw
      go_wp2_with fail
      go_ret
      exact ⟨_, rfl, HE.out⟩

/-- All numbers below one, each one ahead of what is below it. -/
theorem below_any (hf : f.Ok many) (hm : many ≤ 100) : ∀ (k : Nat), k ≤ many → ∀ (n : Nat), n < many → Deep f.kids k n → ∀ w, SpecAt base many f P Ap Ak Cp Ck vs w →
    Calls Try.prog 26 #[.pointer (some ⟨P, 0, none⟩), .int .i64 n] w fun e w' => ∃ v, e = .returned v ∧ w'.ownsRow w.heap.size 3 1 v (descs f.kids k n).length (intsV (ints (descs f.kids k n))) ∧ Below w.heap.size w w'
  | 0, _, n, hn, hd, w, h => by
    have hd' : f.kids n = [] := hd
    have := below_one h hn (fun c hc => (hf.lt n c hc).2) hm (hf.kids_len n) (fun _ => []) (by rw [hd']; simp) (fun c hc => by rw [hd'] at hc; cases hc)
    rw [hd'] at this
    exact this
  | k + 1, hk, n, hn, hd, w, h => by
    refine below_one h hn (fun c hc => (hf.lt n c hc).2) hm (hf.kids_len n) (descs f.kids k) ?_ (fun c hc w1 h1 => below_any hf hm k (by omega) c (hf.lt n c hc).2 (hd c hc) w1 h1)
    have h1 := hf.below_len (k + 1) n
    have h2 : many * (k + 1 + 1) ≤ 100 * 101 := Nat.mul_le_mul hm (by omega)
    exact Nat.le_trans h1 (by omega)
end
end Go.Proofs.Ytgbeohhegckonaa
