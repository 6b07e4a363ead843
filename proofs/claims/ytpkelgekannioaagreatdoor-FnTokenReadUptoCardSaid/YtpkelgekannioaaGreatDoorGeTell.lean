/- The reference's scanner in memory: what it tells, and one byte of a text. Conditions: sizes below 2^40. -/
import Derived.Test.YtpkelgekannioaaGreatDoorGdRegs
import Derived.Test.YtpkelgekannioaaGreatDoorGcFacts
import Derived.Test.YtpkelgekannioaaGreatDoorPFnTokenReadx0
import Derived.BigQuiet
set_option linter.unusedSimpArgs false
set_option linter.unusedVariables false

namespace Go.Proofs.YtpkelgekannioaaGreatDoor
open Go.RowKit Go.Shelf Go.BigFrame
open Go.Proofs.YtpkelgekannioaaGreatDoorW.PrintWords
open PFnTokenRead (S34 S38 S52 S54 k34 k38 k52 k54)
set_option linter.unusedSimpArgs false
set_option linter.unusedVariables false

theorem Stages.cons {P : Program} {ops : List Oper} {fin : Nat} {Q : Exit → Act → World → Prop} {S : (Nat → Bool) → World → Prop} {val : Nat → Value} {a0 : Act} {o : Oper} {l : List Oper} {k : Nat} (hg : o.guard = none)
    (h : ∀ (M : Nat → Bool) (a : Act) (w : World), S M w → M k = false → (k ≠ fin → M fin = false) → Closed ops M → a.defers = a0.defers → (∀ t, ops.all (fun o => o.dst != some t) = true → a.tmps[t]? = a0.tmps[t]?) →
      (∀ e ∈ o.after, Region.binds .any e = true → M e.on = true ∧ Holds a ((ops[e.on]?).bind (·.dst)) (val e.on)) →
      o.wp P a w (fun a' w' => a' = a.put o.dst (val k) ∧ S (upd M k) w') Q) (hl : Stages P ops fin Q S val a0 l (k + 1)) : Stages P ops fin Q S val a0 (o :: l) k := ⟨⟨hg, h⟩, hl⟩

/-- Any block. -/
abbrev anyB : Nat → Prop := fun _ => True

/-- The scanner in block b: the text s, the place i, the pending text, the tokens told. -/
def Sc (B b : Nat) (s : ByteArray) (i : Nat) (txt : List UInt8) (out : List S52) (w : World) : Prop :=
  B ≤ b ∧ ∃ (nm : ByteArray) (tv ov : Value), w.heap[b]? = some (.cells #[.string s, .int .i64 i, .bool false, .int .i64 0, .string nm, tv, ov, .bool false] 47 (0, 0)) ∧
    (Kd.int .u8).R 5 w B anyB tv (bInts txt) ∧ k52.R 52 w B anyB ov out

/-- What the scanner's functions leave alone: all below B, and all rows of attributes. -/
structure Went (B : Nat) (w w' : World) : Prop where
  below : Below B w w'
  attr : ∀ (g : Nat) (cur : Array Value), w.heap[g]? = some (Obj.cells cur 54 (0, 0)) → w'.heap[g]? = some (Obj.cells cur 54 (0, 0))

theorem Went.refl (B : Nat) (w : World) : Went B w w := ⟨Below.refl _ _, fun _ _ h => h⟩
theorem Went.trans {B : Nat} {a b c : World} (h : Went B a b) (k : Went B b c) : Went B a c := ⟨h.below.trans k.below, fun g cur hg => k.attr g cur (h.attr g cur hg)⟩
theorem Went.of_below {B : Nat} {w w' : World} (h : Below w.heap.size w w') (hB : B ≤ w.heap.size) : Went B w w' := ⟨h.mono hB, fun g cur hg => (h.block g (blk_lt hg)).trans hg⟩
theorem Went.grown {B : Nat} {w w' : World} {row : Option Nat} (hg : w.grownBy w' row) (hB : B ≤ w.heap.size) (hr : ∀ k, row = some k → B ≤ k) (hty : ∀ k, row = some k → ∃ cells t, w.heap[k]? = some (.cells cells t (0, 0)) ∧ t ≠ 54) : Went B w w' :=
  ⟨(Below.refl B w).grown hg hB hr, fun g cur h => (hg.block g (blk_lt h) (fun e => by
    obtain ⟨cells, t, h1, h2⟩ := hty g e.symm
    rw [h] at h1
    injection h1 with h1
    injection h1 with _ h1
    exact h2 h1.symm)).trans h⟩
theorem Went.set {B b : Nat} {w : World} {cs : Array Value} (hb : w.heap[b]? = some (.cells cs 47 (0, 0))) (hB : B ≤ b) (j : Nat) (u : Value) : Went B w (w.setCell ⟨b, j, none⟩ u) :=
  ⟨(Below.refl B w).setCell (p := ⟨b, j, none⟩) hB u, fun g cur h => (Below.heap_setCell w ⟨b, j, none⟩ u g (by
    intro e
    have e' : g = b := e
    have h' := h
    rw [e', hb] at h'
    injection h' with h'
    injection h' with _ h'
    exact absurd h' (by decide))).trans h⟩

theorem Went.attrs {B base : Nat} {ok : Nat → Prop} {w w' : World} {v : Value} {xs : List S54} (h : Went B w w') (hq : k54.R 54 w base ok v xs) : k54.R 54 w' base ok v xs := by
  refine Kd.R_mono (Kd.R_move (Kd.R_bound hq) (fun k hk => ?_)) (fun _ hk => hk.1)
  obtain ⟨_, _, _, q, hq, cells, hc⟩ := hk
  obtain rfl : q = 54 := by
    have : k54.E = [] := rfl
    rw [this] at hq
    simpa using hq
  rw [hc]
  exact h.attr k cells hc

theorem Sc.lt {B b i : Nat} {s : ByteArray} {txt : List UInt8} {out : List S52} {w : World} (h : Sc B b s i txt out w) : b < w.heap.size := by
  obtain ⟨_, nm, tv, ov, hb, _⟩ := h
  exact blk_lt hb
theorem Sc.base {B b i : Nat} {s : ByteArray} {txt : List UInt8} {out : List S52} {w : World} (h : Sc B b s i txt out w) : B ≤ w.heap.size := by
  have := h.1
  have := h.lt
  omega
theorem Sc.keep {B b i : Nat} {s : ByteArray} {txt : List UInt8} {out : List S52} {w w' : World} (h : Sc B b s i txt out w) (hb : Below w.heap.size w w') : Sc B b s i txt out w' := by
  obtain ⟨hB, nm, tv, ov, h0, h1, h2⟩ := h
  exact ⟨hB, nm, tv, ov, (hb.block b (blk_lt h0)).trans h0, Kd.R_below h1 hb, Kd.R_below h2 hb⟩

/-- The token that ends a text, if there is one. -/
def textTok (txt : List UInt8) : List S52 := if txt = [] then [] else [⟨1, bStr txt, []⟩]

/-- append, under a name that the walk does not open. -/
def appW (ts : Array TypeId) (ty : TypeId) (vs : Array Value) : Sem Value := Builtin.append_ ts ty vs
theorem app_wrap (ts : Array TypeId) (ty : TypeId) (vs : Array Value) : Builtin.append_ ts ty vs = appW ts ty vs := rfl

/-- append of one element, as an equation. -/
theorem R_run {P : Program} {α : Type} (d : Kd α) {w0 W : World} (base : Nat) (t ty e : TypeId) (z : Value) (bytes : Nat)
    (ht : P.underlying t = some (.slice e)) (hinfo : (P.info? e).map (fun i => (i.zero, i.size, i.bytes)) = some (some z, d.sz, bytes)) (hz : z.cells.size = d.sz) (hs0 : 0 < d.sz) (hb0 : 0 < bytes)
    (v : Value) (xs : List α) (p : α) (cs : List Value) (ok okp : Nat → Prop) (hp : d.M W base okp p cs) (hokp : ∀ k, okp k → ok k ∧ some k ≠ v.ownBlock) (hfresh : ∀ k, W.heap.size ≤ k → ok k)
    (HO : d.R e W base ok v xs) (HB : Below base w0 W) (hbase : base ≤ W.heap.size) (hl : (xs.length + 1) * bytes ≤ 140737488355328) :
    ∃ v1 w1, (Builtin.append_ #[t, t] ty #[v, .slice (some ⟨W.heap.size, 0, none⟩) 1 1]).run P (W.alloc (.cells cs.toArray e)) = .ok v1 w1 ∧ d.R e w1 base ok v1 (xs ++ [p]) ∧ Below base w0 w1 ∧ W.grownBy w1 v.ownBlock ∧ (v1.ownBlock = v.ownBlock ∨ ∃ b, v1.ownBlock = some b ∧ W.heap.size ≤ b) := by
  obtain ⟨h0, inner, hown, hr⟩ := HO
  obtain ⟨i0, hi, hzz⟩ := Option.map_eq_some_iff.1 hinfo
  simp only [Prod.mk.injEq] at hzz
  obtain ⟨hz0, hz1, hz2⟩ := hzz
  have hlen : xs.length + 1 ≤ 140737488355328 := Nat.le_trans (Nat.le_mul_of_pos_right _ hb0) hl
  have hcl := d.K_len (d.K_of_M hp)
  obtain ⟨v1, w1, hrun, hq1, hg1, _, hat⟩ := run_append_own_at (P := P) (W.alloc (.cells cs.toArray e)) base t ty e i0 z d.sz bytes ht hi hz0 hz1 hz2 hz hs0 v xs.length inner (hown.alloc _) ⟨W.heap.size, 0, none⟩ 1 1 cs (by rw [hcl, Nat.one_mul])
    (by simpa using World.news_of_block (cs := cs.toArray) (t := e) (fr := (0, 0)) (heap_alloc_new W (.cells cs.toArray e))) (d.K_one (d.K_of_M hp)) (by simp only [maxLen]; omega) hl (by simp; omega)
  have hg : W.grownBy w1 v.ownBlock := World.grownBy.trans (World.grownBy_alloc W _ _) hg1
  have hat' : v1.ownBlock = v.ownBlock ∨ ∃ b, v1.ownBlock = some b ∧ W.heap.size ≤ b := by
    rcases hat with hat | hat
    · exact .inl hat
    · exact .inr ⟨_, hat, by rw [World.size_alloc]; omega⟩
  exact ⟨v1, w1, hrun, Kd.R_appended h0 hr hp hokp hfresh hq1 hg hat', HB.grown hg hbase (own_base hown), hg, hat'⟩

/-- append of one token. -/
theorem out_append {B : Nat} {w : World} {ov v2 : Value} {out : List S52} (t : S52) (ty : TypeId) (hQ : k52.R 52 w B anyB ov out) (ha : k54.R 54 w B anyB v2 t.f2) (hBw : B ≤ w.heap.size) (hl : (out.length + 1) * 48 ≤ 140737488355328) :
    ∃ v1 w1, (appW #[26, 26] ty #[ov, .slice (some ⟨w.heap.size, 0, none⟩) 1 1]).run Tryz.prog (w.alloc (.cells #[.int .i64 t.f0, .string t.f1, v2] 52)) = .ok v1 w1 ∧ k52.R 52 w1 B anyB v1 (out ++ [t]) ∧ w.grownBy w1 ov.ownBlock ∧
      (∀ k, ov.ownBlock = some k → B ≤ k ∧ ∃ cells, w.heap[k]? = some (.cells cells 52 (0, 0))) := by
  have hap := Kd.R_apart' (v := ov) (e' := 52) ha (Kd.R_typed hQ) (by
    intro q hq
    have : k54.E = [] := rfl
    rw [this] at hq
    simp at hq
    subst hq
    decide)
  obtain ⟨v1, w1, h1, h2, _, h4, _⟩ := R_run (P := Tryz.prog) (w0 := w) k52 B 26 ty 52 (.agg #[(.int .i64 0), (.string ⟨#[]⟩), (.slice none 0 0)]) 48 Tryz.underlying26 PFnTokenRead.info52 rfl (by decide) (by decide) ov out t [.int .i64 t.f0, .string t.f1, v2] anyB (fun k => anyB k ∧ some k ≠ ov.ownBlock)
    (PFnTokenRead.k52_mkM w B _ t hap) (fun k hk => hk) (fun _ _ => trivial) hQ (Below.refl _ _) hBw hl
  exact ⟨v1, w1, h1, h2, h4, fun k hk => ⟨Kd.R_base hQ k hk, Kd.R_typed hQ k hk⟩⟩

/-- append of one byte. -/
theorem txt_append {B : Nat} {w : World} {tv : Value} {txt : List UInt8} (c : UInt8) (ty : TypeId) (hQ : (Kd.int .u8).R 5 w B anyB tv (bInts txt)) (hBw : B ≤ w.heap.size) (hl : txt.length + 1 ≤ 140737488355328) :
    ∃ v1 w1, (appW #[45, 45] ty #[tv, .slice (some ⟨w.heap.size, 0, none⟩) 1 1]).run Tryz.prog (w.alloc (.cells #[.int .u8 c.toNat] 5)) = .ok v1 w1 ∧ (Kd.int .u8).R 5 w1 B anyB v1 (bInts (txt ++ [c])) ∧ w.grownBy w1 tv.ownBlock ∧
      (∀ k, tv.ownBlock = some k → B ≤ k ∧ ∃ cells, w.heap[k]? = some (.cells cells 5 (0, 0))) := by
  obtain ⟨v1, w1, h1, h2, _, h4, _⟩ := R_run (P := Tryz.prog) (w0 := w) (Kd.int .u8) B 45 ty 5 (.int .u8 0) 1 Tryz.underlying45 PFnTokenRead.info5 rfl (by decide) (by decide) tv (bInts txt) (c.toNat : Int) [.int .u8 c.toNat] anyB (fun k => anyB k ∧ some k ≠ tv.ownBlock)
    rfl (fun k hk => hk) (fun _ _ => trivial) hQ (Below.refl _ _) hBw (by simpa using hl)
  exact ⟨v1, w1, h1, by simpa [bInts] using h2, h4, fun k hk => ⟨Kd.R_base hQ k hk, Kd.R_typed hQ k hk⟩⟩

end Go.Proofs.YtpkelgekannioaaGreatDoor

namespace Go.Proofs.YtpkelgekannioaaGreatDoor
open Go.RowKit Go.Shelf Go.BigFrame
open Go.Proofs.YtpkelgekannioaaGreatDoorW.PrintWords
open PFnTokenRead (S34 S38 S52 S54 k34 k38 k52 k54)
set_option linter.unusedSimpArgs false
set_option linter.unusedVariables false

attribute [local go_sem ↓] app_wrap

theorem ne47_5 : ∀ q, q ∈ 5 :: (Kd.int .u8).E → q ≠ 47 := by
  have : (Kd.int .u8).E = [] := rfl
  rw [this]
  decide
attribute [local go_sem ↓] app_wrap

theorem ne47_52 : ∀ q, q ∈ 52 :: k52.E → q ≠ 47 := by
  have : k52.E = [54] := rfl
  rw [this]
  decide
theorem ne52_5 : ∀ q, q ∈ 5 :: (Kd.int .u8).E → q ≠ 52 := by
  have : (Kd.int .u8).E = [] := rfl
  rw [this]
  decide
theorem ne5_52 : ∀ q, q ∈ 52 :: k52.E → q ≠ 5 := by
  have : k52.E = [54] := rfl
  rw [this]
  decide

set_option maxHeartbeats 4000000 in
set_option maxRecDepth 100000 in
theorem flush_core (B b i : Nat) (s : ByteArray) (txt : List UInt8) (out : List S52) (w : World) (nm : ByteArray) (tv ov : Value) (hB : B ≤ b)
    (hb : w.heap[b]? = some (.cells #[.string s, .int .i64 i, .bool false, .int .i64 0, .string nm, tv, ov, .bool false] 47 (0, 0))) (ht : (Kd.int .u8).R 5 w B anyB tv (bInts txt)) (ho : k52.R 52 w B anyB ov out) (hl : (out.length + 1) * 48 ≤ 140737488355328) :
    Calls Tryz.prog 29 #[.pointer (some ⟨b, 0, none⟩)] w fun e w' => e = .returned (.tuple #[]) ∧ Sc B b s i [] (out ++ textTok txt) w' ∧ Went B w w' ∧ (∀ k, k < w.heap.size → k ≠ b → some k ≠ ov.ownBlock → w'.heap[k]? = w.heap[k]?) := by
  have hBw : B ≤ w.heap.size := by have := blk_lt hb; omega
  have hm : Tryz.prog.follows .mixedOrders = true := by kernel_rfl
  have c5 : w.cell? ⟨b, 5, none⟩ = some tv := by rw [blk_cell hb]; rfl
  have c6 : w.cell? ⟨b, 6, none⟩ = some ov := by rw [blk_cell hb]; rfl
  have f5 := blk_frozen hb 5
  have f6 := blk_frozen hb 6
  cases txt with
  | nil =>
    obtain ⟨A, c, rfl, hc, hC⟩ := Kd.R_reads ht
    have HH := Lib.hid (And.intro hb (And.intro ht ho))
    clear hb ht ho hC hc
    go_enter Tryz.func29, Tryz.ntmps29
    go_wp2
    go_end0
    refine ⟨rfl, ⟨hB, nm, _, ov, HH.out.1, HH.out.2.1, ?_⟩, Went.refl _ _, fun _ _ _ _ => rfl⟩
    rw [show textTok [] = [] from rfl, List.append_nil]
    exact HH.out.2.2
  | cons x l =>
    have hbd : Below w.heap.size w w.drew := Below.drew (Below.refl _ _)
    have hwd : Went B w w.drew := Went.of_below hbd hBw
    have hb0 := (hbd.block b (blk_lt hb)).trans hb
    have ht0 := Kd.R_below ht hbd
    have ho0 := Kd.R_below ho hbd
    have hsz0 : w.drew.heap.size = w.heap.size := rfl
    obtain ⟨w0, hw0⟩ : ∃ w0, w.drew = w0 := ⟨_, rfl⟩
    rw [hw0] at hwd hb0 ht0 ho0 hsz0
    have hBw0 : B ≤ w0.heap.size := by rw [hsz0]; exact hBw
    obtain ⟨A, c, htv, hc, hC⟩ := Kd.R_reads ht0
    have hconv : (convert 45 9 tv).run Tryz.prog w0 = .ok (.string (bStr (x :: l))) w0 := by
      rw [htv, ← strOf_bInts]
      exact Kd.C_string Tryz.underlying45 Tryz.underlying5 Tryz.underlying9 hC
    obtain ⟨ov', wA, hrun, hR, hg, hty⟩ := out_append (w := w0) (v2 := .slice none 0 0) ⟨1, bStr (x :: l), []⟩ 26 ho0 (Kd.R_nil _ _ _ _ _) hBw0 hl
    obtain ⟨A6, n6, hov⟩ := Kd.R_slice ho
    obtain ⟨A7, n7, hov'⟩ := Kd.R_slice hR
    have hne : some b ≠ ov.ownBlock := Kd.R_ne ho0 hb0 (by decide)
    have hbA : wA.heap[b]? = some (.cells #[.string s, .int .i64 i, .bool false, .int .i64 0, .string nm, tv, ov, .bool false] 47 (0, 0)) := (hg.block b (blk_lt hb0) hne).trans hb0
    have htA := Kd.R_over' ht0 (fun k hk => (hty k hk).2) ne52_5 hg
    have hwA : Went B w wA := hwd.trans (Went.grown hg hBw0 (fun k hk => (hty k hk).1) (fun k hk => by
      obtain ⟨cells, hc⟩ := (hty k hk).2
      exact ⟨cells, 52, hc, by decide⟩))
    have hkk : ∀ k, k < w.heap.size → k ≠ b → some k ≠ ov.ownBlock → wA.heap[k]? = w.heap[k]? := fun k h1 h2 h3 => (hg.block k (by rw [hsz0]; exact h1) h3).trans (by rw [← hw0]; rfl)
    have HK := Lib.hid hkk
    clear hkk
    have fA6 := blk_frozen hbA 6
    have cA6 : wA.cell? ⟨b, 6, none⟩ = some ov := by rw [blk_cell hbA]; rfl
    have cA5 : wA.cell? ⟨b, 5, none⟩ = some tv := by rw [blk_cell hbA]; rfl
    have d5 : w0.cell? ⟨b, 5, none⟩ = some tv := by rw [blk_cell hb0]; rfl
    have d6 : w0.cell? ⟨b, 6, none⟩ = some ov := by rw [blk_cell hb0]; rfl
    have hlen : 0 < ((bInts (x :: l)).length : Int) := by simp
    have hblt := blk_lt hb0
    have HH := Lib.hid (And.intro hbA (And.intro hR (And.intro htA (And.intro hwA (And.intro htv hov')))))
    clear hb ht ho hC hc hbA hR htA hwA hg hty hne hbd hb0 ht0 ho0 hwd
    rw [htv] at c5 hconv cA5 d5
    rw [hov] at c6 hrun cA6 d6
    rw [hov'] at hrun
    obtain ⟨ln, hln⟩ : ∃ ln, (out ++ [(⟨1, bStr (x :: l), []⟩ : S52)]).length = ln := ⟨_, rfl⟩
    obtain ⟨lt, hlt⟩ : ∃ lt, (bInts (x :: l)).length = lt := ⟨_, rfl⟩
    rw [hln] at hrun
    rw [hlt] at c5 hconv cA5 d5 hlen
    obtain ⟨V1, hV1⟩ : ∃ V1, w0.alloc (.cells #[.int .i64 1, .string (bStr (x :: l)), .slice none 0 0] 52) = V1 := ⟨_, rfl⟩
    have k1 : ∀ (p : Addr) v, p.block < w0.heap.size → w0.cell? p = some v → V1.cell? p = some v := fun p v hp hc => by
      rw [← hV1]
      exact (((Below.refl w0.heap.size w0).alloc (Nat.le_refl _) _).cell hp).trans hc
    rw [hV1] at hrun
    go_enter Tryz.func29, Tryz.ntmps29
    go_upto_region 1 with fail
    refine wp_region_stage 15 hm (fun M w' => w' = if M 15 then wA.setCell ⟨b, 6, none⟩ (Value.slice A7 ln n7) else if M 12 then wA else if M 11 then V1 else w0) (fun k => match k with
      | 0 | 1 | 2 | 5 | 6 | 13 => .pointer (some ⟨b, 0, none⟩)
      | 3 | 14 => .pointer (some ⟨b, 6, none⟩)
      | 4 => .slice A6 out.length n6
      | 7 => .pointer (some ⟨b, 5, none⟩)
      | 8 => .slice A lt c
      | 9 => .string (bStr (x :: l))
      | 10 => .agg #[.int .i64 1, .string (bStr (x :: l)), .slice none 0 0]
      | 11 => .slice (some ⟨w0.heap.size, 0, none⟩) 1 1
      | 12 => .slice A7 ln n7
      | _ => undef) (by kernel_rfl) hw0 ?_ ?_
    · repeat' (first | exact trivial | refine Stages.cons rfl ?_ ?_)
      all_goals
        intro M a' w' hS hM hF hC hD hfr hdep
        have f0 := hfr 0 (by kernel_rfl)
        clear hfr hD
        simp [Region.binds, Holds] at hdep f0
      rotate_left 15
      · have h12 : M 12 = true := hdep.2.1.1
        obtain rfl : w' = wA := by rw [hS, hM, h12]; rfl
        simp [Oper.wp, execOp, Act.eval, hdep, f0, go_sem, upd, fA6, cA6]
      all_goals
        have hF' := hF (by decide)
        have hS0 := hS
        rw [hF'] at hS
        have hS' : w' = wA ∨ w' = V1 ∨ w' = w0 := by
          rw [hS]
          rcases M 12 <;> rcases M 11 <;> simp
        have g5 : w'.cell? ⟨b, 5, none⟩ = some (.slice A lt c) := by
          rcases hS' with rfl | rfl | rfl
          · exact cA5
          · exact k1 _ _ hblt d5
          · exact d5
        have g6 : w'.cell? ⟨b, 6, none⟩ = some (.slice A6 out.length n6) := by
          rcases hS' with rfl | rfl | rfl
          · exact cA6
          · exact k1 _ _ hblt d6
          · exact d6
        clear hF hS'
      rotate_left 9
      · have h10 := hC.not hM 10 (by kernel_rfl)
        have h11 := hC.not h10 11 (by kernel_rfl)
        have h12 := hC.not h11 12 (by kernel_rfl)
        obtain rfl : w' = w0 := by rw [hS, h11, h12]; rfl
        simp [Oper.wp, execOp, Act.eval, hdep, f0, go_sem, hconv, upd, hF', h11, h12]
      rotate_left 1
      · have h12 := hC.not hM 12 (by kernel_rfl)
        obtain rfl : w' = w0 := by rw [hS, hM, h12]; rfl
        simp [Oper.wp, execOp, Act.eval, hdep, f0, go_sem, upd, hF', h12, hV1]
      · obtain rfl : w' = V1 := by rw [hS, hM, hdep.2.1]; rfl
        simp [Oper.wp, execOp, Act.eval, hdep, f0, go_sem, hrun, upd, hF']
      all_goals
        simp [Oper.wp, execOp, Act.eval, hdep, f0, go_sem, g5, g6, upd]
        first | exact hS0 | (simp [hF']; simpa [hdep] using hS)
    · intro M w' hall hS
      rw [hall 15 (by decide)] at hS
      obtain rfl : w' = wA.setCell ⟨b, 6, none⟩ (Value.slice A7 ln n7) := hS
      simp only [putAll, List.setIfInBounds_toArray, List.set_cons_zero, List.set_cons_succ, Exit.then]
      obtain ⟨W3, hW3⟩ : ∃ W3, wA.setCell ⟨b, 6, none⟩ (Value.slice A7 ln n7) = W3 := ⟨_, rfl⟩
      rw [hW3]
      have hb3 : W3.heap[b]? = some (.cells #[.string s, .int .i64 i, .bool false, .int .i64 0, .string nm, tv, ov', .bool false] 47 (0, 0)) := by
        rw [← hW3, HH.out.2.2.2.2.2, hln, blk_set HH.out.1]
        rfl
      have f35 := blk_frozen hb3 5
      have c35 : W3.cell? ⟨b, 5, none⟩ = some tv := by rw [blk_cell hb3]; rfl
      rw [HH.out.2.2.2.2.1] at c35
      have hR3 := Kd.R_set HH.out.2.1 HH.out.1 ne47_52 6 (Value.slice A7 ln n7)
      have hT3 := Kd.R_set HH.out.2.2.1 HH.out.1 ne47_5 6 (Value.slice A7 ln n7)
      have hw3 := HH.out.2.2.2.1.trans (Went.set HH.out.1 hB 6 (Value.slice A7 ln n7))
      have hk3 := fun k (h1 : k < w.heap.size) (h2 : k ≠ b) (h3 : some k ≠ ov.ownBlock) => (Below.heap_setCell wA ⟨b, 6, none⟩ (Value.slice A7 ln n7) k h2).trans (HK.out k h1 h2 h3)
      rw [hW3] at hR3 hT3 hw3 hk3
      have HK3 := Lib.hid hk3
      clear hk3
      have H3 := Lib.hid (And.intro hb3 (And.intro hR3 (And.intro hT3 hw3)))
      clear hb3 hR3 hT3 hw3 hall hW3
      go_wp2
      go_end0
      have hb4 := blk_set H3.out.1 5 (.slice none 0 0)
      refine ⟨rfl, ⟨hB, nm, _, ov', hb4, Kd.R_nil _ _ _ _ _, Kd.R_set ?_ H3.out.1 ne47_52 5 _⟩, H3.out.2.2.2.trans (Went.set H3.out.1 hB 5 _), fun k h1 h2 h3 => (Below.heap_setCell W3 ⟨b, 5, none⟩ _ k h2).trans (HK3.out k h1 h2 h3)⟩
      rw [show textTok (x :: l) = [⟨1, bStr (x :: l), []⟩] from rfl]
      exact H3.out.2.1

theorem flush_any (B b i : Nat) (s : ByteArray) (txt : List UInt8) (out : List S52) (w : World) (h : Sc B b s i txt out w) (hl : (out.length + 1) * 48 ≤ 140737488355328) :
    Calls Tryz.prog 29 #[.pointer (some ⟨b, 0, none⟩)] w fun e w' => e = .returned (.tuple #[]) ∧ Sc B b s i [] (out ++ textTok txt) w' ∧ Went B w w' := by
  obtain ⟨hB, nm, tv, ov, hb, ht, ho⟩ := h
  refine (flush_core B b i s txt out w nm tv ov hB hb ht ho hl).mono ?_
  rintro e w' ⟨h1, h2, h3, _⟩
  exact ⟨h1, h2, h3⟩

set_option maxHeartbeats 4000000 in
set_option maxRecDepth 100000 in
theorem tell_any (B b i : Nat) (s : ByteArray) (txt : List UInt8) (out : List S52) (w : World) (h : Sc B b s i txt out w) (t : S52) (A : Option Addr) (n c : Nat) (ha : k54.R 54 w B anyB (.slice A n c) t.f2) (hl : (out.length + 2) * 48 ≤ 140737488355328) :
    Calls Tryz.prog 59 #[.pointer (some ⟨b, 0, none⟩), .agg #[.int .i64 t.f0, .string t.f1, .slice A n c]] w fun e w' => e = .returned (.tuple #[]) ∧ Sc B b s i [] (out ++ textTok txt ++ [t]) w' ∧ Went B w w' := by
  have hm : Tryz.prog.follows .mixedOrders = true := by kernel_rfl
  have hBw := h.base
  obtain ⟨hB, nm, tv, ov, hb, ht, ho⟩ := h
  have hblt := blk_lt hb
  -- the box
  have hbx : Below w.heap.size w (w.alloc (.cells #[.int .i64 t.f0, .string t.f1, .slice A n c] 52)) := (Below.refl _ _).alloc (Nat.le_refl _) _
  have hfl := flush_core B b i s txt out (w.alloc (.cells #[.int .i64 t.f0, .string t.f1, .slice A n c] 52)) nm tv ov hB ((hbx.block b hblt).trans hb) (Kd.R_below ht hbx) (Kd.R_below ho hbx) (by omega)
  have hno : some w.heap.size ≠ ov.ownBlock := fun e => by have := Kd.R_lt ho _ e.symm; omega
  have hnew : (w.alloc (.cells #[.int .i64 t.f0, .string t.f1, .slice A n c] 52)).heap[w.heap.size]? = some (.cells #[.int .i64 t.f0, .string t.f1, .slice A n c] 52 (0, 0)) := heap_alloc_new w _
  have hwx := Went.of_below hbx hBw
  have HX := Lib.hid (And.intro hno (And.intro hnew (And.intro hwx ha)))
  clear hno hnew hwx ha hb ht ho hbx
  go_enter Tryz.func59, Tryz.ntmps59
  go_wp2_with (go_at_call 29; fail)
  refine hfl.mono ?_
  clear hfl
  rintro e w1 ⟨rfl, hs1, hg1, hk1⟩
  have hx1 := (hk1 w.heap.size (by simp) (by omega) HX.out.1).trans HX.out.2.1
  have ha1 := (HX.out.2.2.1.trans hg1).attrs HX.out.2.2.2
  have hg01 := HX.out.2.2.1.trans hg1
  clear hg1 hk1 HX
  obtain ⟨_, nm1, tv1, ov1, hb1, ht1, ho1⟩ := hs1
  have hBw1 : B ≤ w1.heap.size := by have := blk_lt hb1; omega
  have hbd : Below w1.heap.size w1 w1.drew := Below.drew (Below.refl _ _)
  have hwd : Went B w1 w1.drew := Went.of_below hbd hBw1
  have hb0 := (hbd.block b (blk_lt hb1)).trans hb1
  have hx0 := (hbd.block w.heap.size (blk_lt hx1)).trans hx1
  have ht0 := Kd.R_below ht1 hbd
  have ho0 := Kd.R_below ho1 hbd
  have ha0 := Kd.R_below ha1 hbd
  have hsz0 : w1.drew.heap.size = w1.heap.size := rfl
  obtain ⟨w0, hw0⟩ : ∃ w0, w1.drew = w0 := ⟨_, rfl⟩
  rw [hw0] at hwd hb0 ht0 ho0 hsz0 hx0 ha0
  have hBw0 : B ≤ w0.heap.size := by rw [hsz0]; exact hBw1
  have hlen : (out ++ textTok txt).length ≤ out.length + 1 := by
    unfold textTok
    split <;> simp
  obtain ⟨ov', wA, hrun, hR, hg, hty⟩ := out_append (w := w0) t 26 ho0 ha0 hBw0 (by omega)
  obtain ⟨A6, n6, hov⟩ := Kd.R_slice ho0
  obtain ⟨A7, n7, hov'⟩ := Kd.R_slice hR
  have hne : some b ≠ ov1.ownBlock := Kd.R_ne ho0 hb0 (by decide)
  have hbA : wA.heap[b]? = some (.cells #[.string s, .int .i64 i, .bool false, .int .i64 0, .string nm1, tv1, ov1, .bool false] 47 (0, 0)) := (hg.block b (blk_lt hb0) hne).trans hb0
  have htA := Kd.R_over' ht0 (fun k hk => (hty k hk).2) ne52_5 hg
  have hwA : Went B w wA := hg01.trans (hwd.trans (Went.grown hg hBw0 (fun k hk => (hty k hk).1) (fun k hk => by
    obtain ⟨cells, hc⟩ := (hty k hk).2
    exact ⟨cells, 52, hc, by decide⟩)))
  have fA6 := blk_frozen hbA 6
  have cA6 : wA.cell? ⟨b, 6, none⟩ = some ov1 := by rw [blk_cell hbA]; rfl
  have d6 : w0.cell? ⟨b, 6, none⟩ = some ov1 := by rw [blk_cell hb0]; rfl
  have x0 : w0.cell? ⟨w.heap.size, 0, none⟩ = some (.int .i64 t.f0) := by rw [blk_cell hx0]; rfl
  have x1 : w0.cell? ⟨w.heap.size, 1, none⟩ = some (.string t.f1) := by rw [blk_cell hx0]; rfl
  have x2 : w0.cell? ⟨w.heap.size, 2, none⟩ = some (.slice A n c) := by rw [blk_cell hx0]; rfl
  have hblt := blk_lt hb0
  have HH := Lib.hid (And.intro hbA (And.intro hR (And.intro htA (And.intro hwA hov'))))
  clear hbA hR htA hwA hg hty hne hbd hb0 ht0 ho0 hwd hx0 ha0 hb1 ht1 ho1 hx1 ha1 hg01
  rw [hov] at hrun cA6 d6
  rw [hov'] at hrun
  obtain ⟨ln, hln⟩ : ∃ ln, (out ++ textTok txt ++ [t]).length = ln := ⟨_, rfl⟩
  obtain ⟨lo, hlo⟩ : ∃ lo, (out ++ textTok txt).length = lo := ⟨_, rfl⟩
  rw [hln, hlo] at hrun
  rw [hlo] at cA6 d6
  obtain ⟨V1, hV1⟩ : ∃ V1, w0.alloc (.cells #[.int .i64 t.f0, .string t.f1, .slice A n c] 52) = V1 := ⟨_, rfl⟩
  have k1 : ∀ (p : Addr) v, p.block < w0.heap.size → w0.cell? p = some v → V1.cell? p = some v := fun p v hp hc => by
    rw [← hV1]
    exact (((Below.refl w0.heap.size w0).alloc (Nat.le_refl _) _).cell hp).trans hc
  rw [hV1] at hrun
  go_upto_region 2 with fail
  refine wp_region_stage 10 hm (fun M w' => w' = if M 10 then wA.setCell ⟨b, 6, none⟩ (Value.slice A7 ln n7) else if M 7 then wA else if M 6 then V1 else w0) (fun k => match k with
      | 0 | 1 | 2 | 8 => .pointer (some ⟨b, 0, none⟩)
      | 3 | 9 => .pointer (some ⟨b, 6, none⟩)
      | 4 => .slice A6 lo n6
      | 5 => .agg #[.int .i64 t.f0, .string t.f1, .slice A n c]
      | 6 => .slice (some ⟨w0.heap.size, 0, none⟩) 1 1
      | 7 => .slice A7 ln n7
      | _ => undef) (by kernel_rfl) hw0 ?_ ?_
  · repeat' (first | exact trivial | refine Stages.cons rfl ?_ ?_)
    all_goals
      intro M a' w' hS hM hF hC hD hfr hdep
      have f0 := hfr 0 (by kernel_rfl)
      have f3 := hfr 3 (by kernel_rfl)
      clear hfr hD
      simp [Region.binds, Holds] at hdep f0 f3
    rotate_left 10
    · have h12 : M 7 = true := hdep.2.1.1
      obtain rfl : w' = wA := by rw [hS, hM, h12]; rfl
      simp [Oper.wp, execOp, Act.eval, hdep, f0, go_sem, upd, fA6, cA6]
    rotate_left 5
    · have h6 := hC.not hM 6 (by kernel_rfl)
      have h7 := hC.not h6 7 (by kernel_rfl)
      have hF' := hF (by decide)
      obtain rfl : w' = w0 := by rw [hS, hF', h6, h7]; rfl
      simp [Oper.wp, execOp, Act.eval, hdep, f0, f3, go_sem, upd, x0, x1, x2, hF', h6, h7]
    all_goals
      have hF' := hF (by decide)
      have hS0 := hS
      rw [hF'] at hS
      have hS' : w' = wA ∨ w' = V1 ∨ w' = w0 := by
        rw [hS]
        rcases M 7 <;> rcases M 6 <;> simp
      have g6 : w'.cell? ⟨b, 6, none⟩ = some (.slice A6 lo n6) := by
        rcases hS' with rfl | rfl | rfl
        · exact cA6
        · exact k1 _ _ hblt d6
        · exact d6
      clear hF hS'
    · have h7 := hC.not hM 7 (by kernel_rfl)
      obtain rfl : w' = w0 := by rw [hS, hM, h7]; rfl
      simp [Oper.wp, execOp, Act.eval, hdep, f0, go_sem, upd, hF', h7, hV1]
    · obtain rfl : w' = V1 := by rw [hS, hM, hdep.2.1]; rfl
      simp [Oper.wp, execOp, Act.eval, hdep, f0, go_sem, hrun, upd, hF']
    all_goals
      simp [Oper.wp, execOp, Act.eval, hdep, f0, go_sem, g6, upd]
      first | exact hS0 | (simp [hF']; simpa [hdep] using hS)
  · intro M w' hall hS
    rw [hall 10 (by decide)] at hS
    obtain rfl : w' = wA.setCell ⟨b, 6, none⟩ (Value.slice A7 ln n7) := hS
    simp only [putAll, List.setIfInBounds_toArray, List.set_cons_zero, List.set_cons_succ, Exit.then]
    have hb4 := blk_set HH.out.1 6 (Value.slice A7 ln n7)
    have hR4 := Kd.R_set HH.out.2.1 HH.out.1 ne47_52 6 (Value.slice A7 ln n7)
    have hT4 := Kd.R_set HH.out.2.2.1 HH.out.1 ne47_5 6 (Value.slice A7 ln n7)
    have hw4 := HH.out.2.2.2.1.trans (Went.set HH.out.1 hB 6 (Value.slice A7 ln n7))
    have hv4 := HH.out.2.2.2.2
    have H4 := Lib.hid (And.intro hb4 (And.intro hR4 (And.intro hT4 (And.intro hw4 hv4))))
    clear hb4 hR4 hT4 hw4 hv4 hall
    go_wp2
    go_end0
    rw [hln] at H4
    refine ⟨rfl, ⟨hB, nm1, tv1, ov', ?_, H4.out.2.2.1, H4.out.2.1⟩, H4.out.2.2.2.1⟩
    rw [H4.out.2.2.2.2]
    exact H4.out.1

end Go.Proofs.YtpkelgekannioaaGreatDoor

namespace Go.Proofs.YtpkelgekannioaaGreatDoor
open Go.RowKit Go.Shelf Go.BigFrame
open Go.Proofs.YtpkelgekannioaaGreatDoorW.PrintWords
open PFnTokenRead (S34 S38 S52 S54 k34 k38 k52 k54)
set_option linter.unusedSimpArgs false
set_option linter.unusedVariables false
attribute [local go_sem ↓] app_wrap

theorem byte_ne {c : UInt8} {n : UInt8} (h : c ≠ n) {k : Int} (hk : (n.toNat : Int) = k) : ((c.toNat : Int) == k) = false := beq_eq_false_iff_ne.2 fun e => h (UInt8.toNat_inj.1 (by omega))

theorem wp_any_draw {P : Program} {c : Code} {Q : Exit → Act → World → Prop} {a : Act} {w : World} {n : Nat} (h : ∀ m, c.wp P Q a (w.drewN m)) : c.wp P Q a (w.drewN n) := h n

theorem wrap_succ (i : Nat) (h : i ≤ 1099511627776) : IntKind.i64.wrap ((i : Int) + 1) = (i : Int) + 1 := by
  simp [IntKind.wrap, IntKind.signed, IntKind.bits]
  omega

set_option maxHeartbeats 4000000 in
set_option maxRecDepth 100000 in
theorem data_byte (B b i : Nat) (s : ByteArray) (txt : List UInt8) (out : List S52) (w : World) (h : Sc B b s i txt out w) (hs : s.size ≤ 1099511627776) (hi : i < s.size) (c : UInt8) (hc : s[i]'hi = c) (h38 : c ≠ 38) (h60 : c ≠ 60) (hl : txt.length + 1 ≤ 1099511627776) :
    Calls Tryz.prog 27 #[.pointer (some ⟨b, 0, none⟩)] w fun e w' => e = .returned (.tuple #[]) ∧ Sc B b s (i + 1) (txt ++ [c]) out w' ∧ Went B w w' := by
  have hm : Tryz.prog.follows .mixedOrders = true := by kernel_rfl
  have hBw := h.base
  have HS := Lib.hid h
  obtain ⟨hB, nm, tv, ov, hb, ht, ho⟩ := h
  have c0 : w.cell? ⟨b, 0, none⟩ = some (.string s) := by rw [blk_cell hb]; rfl
  have c1 : w.cell? ⟨b, 1, none⟩ = some (.int .i64 i) := by rw [blk_cell hb]; rfl
  have hii : (i : Int) < (s.size : Int) := by omega
  have e38 := byte_ne h38 (k := 38) rfl
  have e60 := byte_ne h60 (k := 60) rfl
  have HH := Lib.hid (And.intro hb (And.intro ht ho))
  have HN := Lib.hid (And.intro h38 h60)
  clear hb ht ho h38 h60
  have hwi := wrap_succ i (by omega)
  have hti : ((i : Int) + 1).toNat = i + 1 := by omega
  have h0i : (0 : Int) ≤ (i : Int) + 1 := by omega
  -- the append, at any world that the draws leave
  obtain ⟨Aw, nw, htv⟩ := Kd.R_slice HH.out.2.1
  go_enter Tryz.func27, Tryz.ntmps27
  go_wp2_with fail
  go_quiet (fail)
  go_upto_if 13 with fail
  go_cut [2] (fun s2 wx => ∃ (v : Int) (m : Nat), s2 = .int .u8 v ∧ wx = w.drewN m)
  case first =>
    by_cases hn : i + 1 < s.size
    · have hni : ((i : Int) + 1) < (s.size : Int) := by omega
      have hti2 : ((i : Int) + 1).toNat < s.size := by omega
      go_wp2_with fail
      go_quiet (fail)
      go_wp2_with fail
      go_meet
      exact ⟨_, _, rfl, World.drewN_drewN _ _ _⟩
    · have hni : ¬ ((i : Int) + 1) < (s.size : Int) := by omega
      go_wp2_with fail
      go_meet
      exact ⟨_, _, rfl, rfl⟩
  case rest =>
    obtain ⟨v2, m2, rfl, rfl⟩ := hcut
    go_wp2_with fail
    go_quiet (fail)
    go_wp2_with fail
    go_quiet (fail)
    go_upto_region 8 with fail
    simp only [World.drewN_drewN]
    refine wp_any_draw fun mm => ?_
    have hbd : Below w.heap.size w (w.drewN mm).drew := Below.drew (pw_below_drewN (Below.refl _ _) mm)
    have hwd : Went B w (w.drewN mm).drew := Went.of_below hbd hBw
    obtain ⟨w0, hw0⟩ : ∃ w0, (w.drewN mm).drew = w0 := ⟨_, rfl⟩
    have hsz0 : w0.heap.size = w.heap.size := by rw [← hw0]; rfl
    rw [hw0] at hbd hwd
    have hb0 := (hbd.block b (blk_lt HH.out.1)).trans HH.out.1
    have ht0 := Kd.R_below HH.out.2.1 hbd
    have ho0 := Kd.R_below HH.out.2.2 hbd
    have hBw0 : B ≤ w0.heap.size := by rw [hsz0]; exact hBw
    obtain ⟨tv', wA, hrun, hR, hg, hty⟩ := txt_append c 45 ht0 hBw0 (by omega)
    obtain ⟨A7, n7, htv'⟩ := Kd.R_slice hR
    have hne : some b ≠ tv.ownBlock := Kd.R_ne ht0 hb0 (by decide)
    have hbA : wA.heap[b]? = some (.cells #[.string s, .int .i64 i, .bool false, .int .i64 0, .string nm, tv, ov, .bool false] 47 (0, 0)) := (hg.block b (blk_lt hb0) hne).trans hb0
    have hoA := Kd.R_over' ho0 (fun k hk => (hty k hk).2) ne5_52 hg
    have hwA : Went B w wA := hwd.trans (Went.grown hg hBw0 (fun k hk => (hty k hk).1) (fun k hk => by
      obtain ⟨cells, hc⟩ := (hty k hk).2
      exact ⟨cells, 5, hc, by decide⟩))
    have fA5 := blk_frozen hbA 5
    have cA0 : wA.cell? ⟨b, 0, none⟩ = some (.string s) := by rw [blk_cell hbA]; rfl
    have cA1 : wA.cell? ⟨b, 1, none⟩ = some (.int .i64 i) := by rw [blk_cell hbA]; rfl
    have cA5 : wA.cell? ⟨b, 5, none⟩ = some tv := by rw [blk_cell hbA]; rfl
    have d0 : w0.cell? ⟨b, 0, none⟩ = some (.string s) := by rw [blk_cell hb0]; rfl
    have d1 : w0.cell? ⟨b, 1, none⟩ = some (.int .i64 i) := by rw [blk_cell hb0]; rfl
    have d5 : w0.cell? ⟨b, 5, none⟩ = some tv := by rw [blk_cell hb0]; rfl
    have hblt := blk_lt hb0
    have H2 := Lib.hid (And.intro hbA (And.intro hR (And.intro hoA (And.intro hwA htv'))))
    clear hbA hR hoA hwA hg hty hne hbd hb0 ht0 ho0 hwd
    rw [htv] at hrun cA5 d5
    rw [htv'] at hrun
    obtain ⟨ln, hln⟩ : ∃ ln, (bInts (txt ++ [c])).length = ln := ⟨_, rfl⟩
    obtain ⟨lt, hlt⟩ : ∃ lt, (bInts txt).length = lt := ⟨_, rfl⟩
    rw [hln, hlt] at hrun
    rw [hlt] at cA5 d5
    obtain ⟨V1, hV1⟩ : ∃ V1, w0.alloc (.cells #[.int .u8 c.toNat] 5) = V1 := ⟨_, rfl⟩
    have k1 : ∀ (p : Addr) v, p.block < w0.heap.size → w0.cell? p = some v → V1.cell? p = some v := fun p v hp hc => by
      rw [← hV1]
      exact (((Below.refl w0.heap.size w0).alloc (Nat.le_refl _) _).cell hp).trans hc
    rw [hV1] at hrun
    refine wp_region_stage 18 hm (fun M w' => w' = if M 18 then wA.setCell ⟨b, 5, none⟩ (Value.slice A7 ln n7) else if M 15 then wA else if M 14 then V1 else w0) (fun k => match k with
      | 0 | 1 | 2 | 5 | 6 | 9 | 10 | 16 => .pointer (some ⟨b, 0, none⟩)
      | 3 | 17 => .pointer (some ⟨b, 5, none⟩)
      | 4 => .slice Aw lt nw
      | 7 => .pointer (some ⟨b, 0, none⟩)
      | 8 => .string s
      | 11 => .pointer (some ⟨b, 1, none⟩)
      | 12 => .int .i64 i
      | 13 => .int .u8 c.toNat
      | 14 => .slice (some ⟨w0.heap.size, 0, none⟩) 1 1
      | 15 => .slice A7 ln n7
      | _ => undef) (by kernel_rfl) hw0 ?_ ?_
    · repeat' (first | exact trivial | refine Stages.cons rfl ?_ ?_)
      all_goals
        intro M a' w' hS hM hF hC hD hfr hdep
        have f0 := hfr 0 (by kernel_rfl)
        clear hfr hD
        simp [Region.binds, Holds] at hdep f0
      rotate_left 18
      · have h12 : M 15 = true := hdep.2.1.1
        obtain rfl : w' = wA := by rw [hS, hM, h12]; rfl
        simp [Oper.wp, execOp, Act.eval, hdep, f0, go_sem, upd, fA5, cA5]
      all_goals
        have hF' := hF (by decide)
        have hS0 := hS
        rw [hF'] at hS
        have hS' : w' = wA ∨ w' = V1 ∨ w' = w0 := by
          rw [hS]
          rcases M 15 <;> rcases M 14 <;> simp
        have g0 : w'.cell? ⟨b, 0, none⟩ = some (.string s) := by
          rcases hS' with rfl | rfl | rfl
          · exact cA0
          · exact k1 _ _ hblt d0
          · exact d0
        have g1 : w'.cell? ⟨b, 1, none⟩ = some (.int .i64 i) := by
          rcases hS' with rfl | rfl | rfl
          · exact cA1
          · exact k1 _ _ hblt d1
          · exact d1
        have g5 : w'.cell? ⟨b, 5, none⟩ = some (.slice Aw lt nw) := by
          rcases hS' with rfl | rfl | rfl
          · exact cA5
          · exact k1 _ _ hblt d5
          · exact d5
        clear hF hS'
      rotate_left 14
      · have h15 := hC.not hM 15 (by kernel_rfl)
        obtain rfl : w' = w0 := by rw [hS, hM, h15]; rfl
        simp [Oper.wp, execOp, Act.eval, hdep, f0, go_sem, upd, hF', h15, hV1]
      · obtain rfl : w' = V1 := by rw [hS, hM, hdep.2.1]; rfl
        simp [Oper.wp, execOp, Act.eval, hdep, f0, go_sem, hrun, upd, hF']
      all_goals
        simp [Oper.wp, execOp, Act.eval, hdep, f0, go_sem, g0, g1, g5, upd, hi, hc]
        first | exact hS0 | (simp [hF']; simpa [hdep] using hS)
    · intro M w' hall hS
      rw [hall 18 (by decide)] at hS
      obtain rfl : w' = wA.setCell ⟨b, 5, none⟩ (Value.slice A7 ln n7) := hS
      simp only [putAll, List.setIfInBounds_toArray, List.set_cons_zero, List.set_cons_succ, Exit.then]
      have hb4 := blk_set H2.out.1 5 (Value.slice A7 ln n7)
      have hR4 := Kd.R_set H2.out.2.1 H2.out.1 ne47_5 5 (Value.slice A7 ln n7)
      have hT4 := Kd.R_set H2.out.2.2.1 H2.out.1 ne47_52 5 (Value.slice A7 ln n7)
      have hw4 := H2.out.2.2.2.1.trans (Went.set H2.out.1 hB 5 (Value.slice A7 ln n7))
      have hv4 := H2.out.2.2.2.2
      obtain ⟨W3, hW3⟩ : ∃ W3, wA.setCell ⟨b, 5, none⟩ (Value.slice A7 ln n7) = W3 := ⟨_, rfl⟩
      rw [hW3] at hb4 hR4 hT4 hw4 ⊢
      rw [hln] at hv4
      have x1 : W3.cell? ⟨b, 1, none⟩ = some (.int .i64 i) := by rw [blk_cell hb4]; rfl
      have y1 := blk_frozen hb4 1
      have H4 := Lib.hid (And.intro hb4 (And.intro hR4 (And.intro hT4 (And.intro hw4 hv4))))
      clear hb4 hR4 hT4 hw4 hv4 hall hW3
      go_wp2
      go_end0
      have hb5 := blk_set H4.out.1 1 (.int .i64 ((i + 1 : Nat) : Int))
      refine ⟨rfl, ⟨hB, nm, tv', ov, ?_, Kd.R_set H4.out.2.1 H4.out.1 ne47_5 1 _, Kd.R_set H4.out.2.2.1 H4.out.1 ne47_52 1 _⟩, H4.out.2.2.2.1.trans (Went.set H4.out.1 hB 1 _)⟩
      rw [H4.out.2.2.2.2]
      exact hb5

end Go.Proofs.YtpkelgekannioaaGreatDoor
