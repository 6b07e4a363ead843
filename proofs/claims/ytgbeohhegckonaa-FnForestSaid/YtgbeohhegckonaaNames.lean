import Derived.Test.YtgbeohhegckonaaGrove
import Derived.Test.YtgbeohhegckonaaEdit
/-! n.Ancestors(), and impl.names over an iterator that hands out a list of nodes. -/
namespace Go.Proofs.Ytgbeohhegckonaa
open Go.RowKit Go.Shelf Go.BigFrame
set_option linter.unusedSimpArgs false
set_option linter.unusedVariables false
attribute [local go_sem] Oper.semAt_some
attribute [local go_sem ↓] app_wrap

theorem chain_nodup {par : Nat → Option Nat} {r : Nat → Nat} (hr : ∀ c p, par c = some p → r c < r p) : ∀ {l : List Nat} {o : Option Nat}, Chain par o l → l.Nodup
  | [], _, _ => List.nodup_nil
  | x :: l, o, h => List.nodup_cons.2 ⟨fun hx => by have := chain_lt hr h.2 x hx; omega, chain_nodup hr h.2⟩
theorem Wood.Ok.up_nodup {many : Nat} {f : Wood} (h : f.Ok many) {o : Option Nat} {l : List Nat} (hl : Chain f.par o l) : l.Nodup := by
  obtain ⟨r, hr, _⟩ := h.rank
  exact chain_nodup (fun c p hp => hr p c ((h.kid p c).2 hp)) hl

set_option maxRecDepth 100000 in
theorem ancestors_in {F : Fence} (hF : ∀ f, F.fn f) (hro : F.round = none) (n : Nat) {p : Nat} {u : Option Addr} (w : World) (hp : w.cell? ⟨p, 0, none⟩ = some (.pointer u)) :
    CallsIn F n Try.prog 29 #[ptr (some p)] w fun e w' => e = .returned (.func (.func 39) #[] #[.pointer (some ⟨w.heap.size, 0, none⟩)]) ∧ w' = w.alloc (.cells #[ptr (some p)] 44) := by
  have hp1 := fun o => cell_alloc_old o hp
  refine callsIn_of_wp Try.func29 rfl (hF _) ?_ hro
  simp only [ptr, Option.map_some, Try.ntmps29, List.size_toArray, List.length_cons, List.length_nil, Nat.reduceAdd, Nat.reduceSub, Array.replicate_succ, Array.replicate_zero, List.push_toArray, List.append_toArray, List.nil_append, List.cons_append]
  gi_wp2
  go_ret
  exact ⟨rfl, rfl⟩

set_option maxRecDepth 100000 in
set_option maxHeartbeats 2000000 in
/-- The function value of n.Ancestors() hands out the chain above n. -/
theorem ancestors_list {F : Fence} (hd : F.depth = none) (hF : ∀ f, F.fn f) (hro : F.round = none) {D : Nat → Option Info} {G : Nat → Nat → Option Nat} {w : World} (hN : Nodes w D G)
    {p Bn : Nat} (hp : (D p).isSome = true) {L : List Nat} (hL : Chain (fun b => G b 0) (G p 0) L) (hnd : L.Nodup) (hdom : ∀ x ∈ L, (D x).isSome = true) (hB : Boxed w Bn 44 (ptr (some p))) :
    SeqList F Try.prog 39 #[.pointer (some ⟨Bn, 0, none⟩)] (fun c => #[ptr (some c)]) L w := by
  intro n l J W hr hJ hY h0
  have hdd : ∀ k : Nat, (F.depth.isSome = true → 1 ≤ k) := fun k h => by rw [hd] at h; cases h
  obtain ⟨dp, hdp⟩ := some_of hp
  have hB1 : Boxed W Bn 44 (ptr (some p)) := hr.same _ _ hB rfl
  have hN1 := hN.round hr
  have kB := hB1.cell
  have k1 := hN1.c0 hdp
  rw [hL.head] at k1
  obtain ⟨u, hu⟩ : ∃ u : Option Addr, ptr L.head? = .pointer u := ⟨_, rfl⟩
  rw [hu] at k1
  have HU := Lib.hid hu
  clear hu
  simp only [ptr, Option.map_some] at kB
  refine callsIn_of_wp Try.func39 rfl (hF _) ?_ hro
  simp only [Try.ntmps39, List.size_toArray, List.length_cons, List.length_nil, Nat.reduceAdd, Nat.reduceSub, Array.replicate_succ, Array.replicate_zero, List.push_toArray, List.append_toArray, List.nil_append, List.cons_append]
  gi_wp2
  gi_loopw [3] (fun q wr => ∃ pre rest, L = pre ++ rest ∧ q = ptr rest.head? ∧ J pre wr ∧ Round W wr) (fun q _ => leftOf L q)
  case atStart => exact ⟨[], L, rfl, HU.out.symm, h0, Round.refl _⟩
  case round =>
    obtain ⟨pre, rest, hk, rfl, hj, hrw⟩ := hrel
    have HK := Lib.hid hk
    cases rest with
    | nil =>
      simp only [List.head?_nil, ptr, Option.map_none]
      clear hk
      gi_wp2
      go_end0
      exact ⟨⟨_, rfl⟩, by have := HK.out; rw [List.append_nil] at this; rw [this]; exact hj, hrw⟩
    | cons x rest =>
      obtain ⟨fn, tmps, assign, body, hy, hR⟩ := hY (n - 1) pre x rest wr hk hj
      obtain ⟨dx, hdx⟩ := some_of (hdom x (by rw [hk]; simp))
      have hx4 : G x 0 = rest.head? := Chain.up (par := fun b => G b 0) (pre := pre) (by rw [← hk]; exact hL)
      clear hk
      simp only [List.head?_cons, ptr, Option.map_some] at hy ⊢
      gi_wp2
      refine hR.mono ?_
      clear hR
      rintro e W3 ⟨rfl, hj3, hr3⟩
      have hk4 := (hN1.round (hrw.trans hr3)).c0 hdx
      rw [hx4] at hk4
      obtain ⟨v, hv⟩ : ∃ v : Option Addr, ptr rest.head? = .pointer v := ⟨_, rfl⟩
      rw [hv] at hk4
      have HV := Lib.hid hv
      clear hv
      gi_wp2
      go_roundw
      case rel => exact ⟨pre ++ [x], rest, by rw [HK.out]; simp, HV.out.symm, hj3, hrw.trans hr3⟩
      case measure =>
        rw [← HV.out, leftOf_eq (pre := pre ++ [x]) (by rw [HK.out]; simp) hnd]
        have := leftOf_eq HK.out hnd
        simp only [List.head?_cons, ptr, Option.map_some, List.length_cons] at this
        rw [this]
        omega

set_option maxRecDepth 100000 in
set_option maxHeartbeats 4000000 in
/-- impl.names: the texts of the nodes that an iterator hands out. -/
theorem names_any {w : World} {D : Nat → Option Info} {G : Nat → Nat → Option Nat} (hN : Nodes w D G) {g : Nat} {lb : Array Value} {L : List Nat} (eg : ∀ args w, (callFunc g args).run Try.prog w = .ok (.enter g args) w)
    (hlist : ∀ w1, Below w.heap.size w w1 → SeqList Fence.wide Try.prog g lb (fun c => #[ptr (some c)]) L w1) (hdom : ∀ x ∈ L, (D x).isSome = true) (hlen : L.length ≤ 20000) :
    Calls Try.prog 28 #[.func (.func g) #[] lb] w fun e w' => ∃ v, e = .returned v ∧ w'.ownsRow w.heap.size 9 1 v L.length (strsV (L.map (textOf D))) ∧ Below w.heap.size w w' := by
  obtain ⟨j0, hj0, hy0, hy1, hy2⟩ := info_parts infoStr
  refine (callsIn_wide (n := 3)).1 (callsIn_of_wp_marks (F := Fence.wide) Try.func28 rfl trivial (wpIn_wide.2 ?_) rfl)
  simp only [Try.ntmps28, List.size_toArray, List.length_cons, List.length_nil, Nat.reduceAdd, Nat.reduceSub, Array.replicate_succ, Array.replicate_zero, List.push_toArray, List.append_toArray, List.nil_append, List.cons_append]
  go_wp2_with fail
  obtain ⟨w7, hw7⟩ : ∃ w7, w.alloc (.cells #[.slice none 0 0] 24) = w7 := ⟨_, rfl⟩
  have hx07 : Boxed w7 w.heap.size 24 (.slice none 0 0) := by rw [← hw7]; exact Boxed.new w 24 _
  have hN7 : Nodes w7 D G := by rw [← hw7]; exact hN.alloc_kept _
  have hb7 : Below w.heap.size w w7 := by rw [← hw7]; exact (Below.refl _ w).alloc (Nat.le_refl _) _
  have hHlt : w.heap.size < w7.heap.size := Boxed.lt hx07
  rw [hw7]
  have HX7 := Lib.hid (And.intro hx07 (And.intro hN7 (And.intro hHlt hb7)))
  clear hw7 hN7 hx07
  refine wpIn_wide.1 (wpIn_range_list2 (F := Fence.wide) (n := 3) rfl rfl (gf := g) (lb := lb) rfl trivial eg
    (hlist w7 hb7) (fun _ => rfl) (Gathers w.heap.size w7 D) (Gathers.bears hHlt) ⟨_, HX7.out.1, World.ownsRow_nil _ _ _ _, But.refl _ _⟩ ?round2 ?done2)
  case round2 =>
    intro l m pre x rest W hx
    gi_wp2
    refine ⟨trivial, ?_⟩
    rintro W2 ⟨v, hbx, hrow, hbut⟩
    obtain ⟨dx, hdx⟩ := some_of (hdom x (by rw [hx]; simp))
    have hpl : pre.length ≤ 20000 := by have := congrArg List.length hx; simp at this; omega
    have hN2 : Nodes W2 D G := HX7.out.2.1.kept fun b d hd => hbut.block b (HX7.out.2.1.lt hd) (fun e => by
      have h1 := HX7.out.2.1 b d hd
      have h2 : w7.heap[w.heap.size]? = _ := HX7.out.1
      rw [e, h2] at h1; simp at h1)
    have k7 := hN2.c7 hdx
    rw [textOf_eq hdx] at k7
    obtain ⟨tx, htx⟩ : ∃ tx, textOf D x = tx := ⟨_, rfl⟩
    rw [htx] at k7
    have kb := hbx.cell
    obtain ⟨v', W4, hrun, hown', hgrow, hat⟩ := run_app (P := Try.prog) ((W2.alloc (.cells #[.string tx] 9)).drew) w7.heap.size 24 24 9 j0 (.string ⟨#[]⟩) 16 underStrs hj0 hy0 hy1 hy2 rfl v pre.length _ (hrow.alloc _) (W2.heap.size + 1) (some ⟨W2.heap.size, 0, none⟩) 1 1 [.string tx] rfl (fun h => by cases h) (lies_new W2 _ 9) (by intro u hu; simp at hu; subst hu; rfl) (by simp only [maxLen]; omega) (by omega) (by have := hbut.size; simp; omega)
    have hfin := gather_step (x := x) hbx hrow hbut htx hown' hgrow
    have hbx3 : Boxed ((W2.alloc (.cells #[.string tx] 9)).drew) w.heap.size 24 v := hbx.alloc _
    have hbx4 : Boxed W4 w.heap.size 24 v := hbx3.kept hgrow (Boxed.not_row hbx3 (by decide) (hrow.alloc _))
    have kb3 : (W2.alloc (.cells #[.string tx] 9)).cell? ⟨w.heap.size, 0, none⟩ = some v := (hbx.alloc _).cell
    have kb4 := hbx4.cell
    have kf4 := hbx4.frozen
    have k73 : (W2.alloc (.cells #[.string tx] 9)).cell? ⟨x, 7, none⟩ = some (.string tx) := (World.cell?_alloc_lt W2 _ ⟨x, 7, none⟩ (hN2.lt hdx)).trans k7
    obtain ⟨Av, cv, rfl, _, _, _⟩ := own_form hrow
    obtain ⟨Av', cv', rfl, _, _, _⟩ := own_form hown'
    have HQ := Lib.hid hfin
    rw [app_wrap] at hrun
    have hm : Try.prog.follows .mixedOrders = true := by kernel_rfl
    clear hrow hown' hgrow hat hbx hbx3 hbx4 hN2 hdx htx hbut hfin
    simp only [ptr, Option.map_some]
    gi_wp2_with fail
    gi_region_with_o fail
    all_goals exact ⟨rfl, HQ.out⟩
  case done2 =>
    rintro E8 w8 hE8 ⟨v3, hb3, hrow3, hbut3⟩ hK8 hR8
    have kb := hb3.cell
    obtain ⟨Av, cv, rfl, _, _, _⟩ := own_form hrow3
    have hne : E8 ≠ w.heap.size := by omega
    have hb8 : Below w.heap.size w w8 := But.below HX7.out.2.2.2 hbut3 (Nat.le_refl _) HX7.out.2.2.2.size
    have hown : (w8.putObj E8 (.deferred none)).ownsRow w7.heap.size 9 1 (.slice Av L.length cv) L.length (strsV (L.map (textOf D))) := ownsRow_putObj hrow3 _ hK8 rfl
    have hbelow : Below w.heap.size w (w8.putObj E8 (.deferred none)) := ⟨hb8.os, hb8.tape, hb8.output, by simpa using hb8.size, fun k hk => (World.putObj_heap_other (by omega)).trans (hb8.block k hk)⟩
    have HF := Lib.hid (And.intro hown (And.intro hbelow hK8))
    clear hb3 hrow3 hbut3 hK8 hR8 hown hbelow hb8
    go_wp2_with fail
    refine ⟨by simp, .inl ⟨_, _, rfl, run_takeDeferred HF.out.2.2, ?_⟩⟩
    exact ⟨_, by simp [results, show Try.f28.results = #[.tmp 2] from rfl, go_sem], _, rfl, own_mono HF.out.1 (by omega), HF.out.2.1⟩
end Go.Proofs.Ytgbeohhegckonaa
