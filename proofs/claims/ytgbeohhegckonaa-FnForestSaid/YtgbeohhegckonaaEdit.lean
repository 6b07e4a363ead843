import Derived.Test.YtgbeohhegckonaaDesc
import Derived.Test.YtgbeohhegckonaaEdited
namespace Go.Proofs.Ytgbeohhegckonaa
open Go.RowKit Go.Shelf Go.BigFrame
set_option linter.unusedSimpArgs false
set_option linter.unusedVariables false
attribute [local go_sem] Oper.semAt_some

/-- append, under a name that the walk does not open. -/
def appW (ts : Array TypeId) (ty : TypeId) (vs : Array Value) : Sem Value := Builtin.append_ ts ty vs
theorem app_wrap (ts : Array TypeId) (ty : TypeId) (vs : Array Value) : Builtin.append_ ts ty vs = appW ts ty vs := rfl
attribute [local go_sem ↓] app_wrap

theorem numS_nat (k : Nat) : numS (k : Int) = decS k := by rw [numS, if_neg (by omega)]; rfl

/-- The text of a node. -/
def textOf (D : Nat → Option Info) (c : Nat) : ByteArray := ((D c).map (·.2)).getD ⟨#[]⟩

theorem UlC.texts {B n : Nat} {nums : List Int} {W : World} {D : Nat → Option Info} {G : Nat → Nat → Option Nat} {K : Nat → List Nat} (h : UlC B n nums W D G K) : (K n).map (textOf D) = nums.map numS := by
  have h1 := congrArg (List.map (fun o : Option ByteArray => o.getD ⟨#[]⟩)) h.data
  rw [List.map_map, List.map_map] at h1
  exact h1

/-- The root alone. -/
theorem ul_root (w : World) (B : Nat) (hB : B ≤ w.heap.size) (d : Info) : Ul B w.heap.size [] (w.alloc (.cells (nodeCells (fun _ => none) d) 50)) := by
  refine ⟨newD (fun _ => none) w.heap.size d, newG (fun _ _ => none) w.heap.size, fun _ => [], ?_, ?_, by rw [newD_same]; rfl, fun _ _ => rfl, rfl, ?_, by simp; omega⟩
  · exact Nodes.alloc (D := fun _ => none) (G := fun _ _ => none) (by intro b d hb; cases hb) d
  · refine ⟨?_, fun p _ => ?_, fun p _ => ?_, fun p => trivial, fun p => List.nodup_nil, ?_, fun c _ _ => ?_⟩
    · intro p c hc; cases hc
    all_goals simp [newG]
  · intro b hb
    rw [newD_other _ _ (by omega)]

theorem Nodes.below {W W' : World} {D : Nat → Option Info} {G : Nat → Nat → Option Nat} (h : Nodes W D G) (hb : Below W.heap.size W W') : Nodes W' D G := h.kept fun b _ hd => hb.block b (h.lt hd)
theorem own_kept {W W' : World} {B e n : Nat} {v : Value} {xs : List Value} (h : W.ownsRow B e 1 v n xs) (hk : ∀ k, v.ownBlock = some k → W'.heap[k]? = W.heap[k]?) : W'.ownsRow B e 1 v n xs := by
  refine ⟨h.1, ?_⟩
  rcases h.2 with h2 | ⟨g, cap, cur, hv, hb, hh, hr⟩
  · exact .inl h2
  · exact .inr ⟨g, cap, cur, hv, hb, (hk g (by rw [hv]; rfl)).trans hh, hr⟩
theorem own_lt {W : World} {B e n : Nat} {v : Value} {xs : List Value} (h : W.ownsRow B e 1 v n xs) : ∀ k, v.ownBlock = some k → k < W.heap.size := by
  intro k hk
  rcases h.2 with ⟨rfl, _⟩ | ⟨g, cap, cur, rfl, _, hh, _⟩
  · cases hk
  · have : g = k := by simpa [Value.ownBlock] using hk
    subst this
    exact lt_of_block hh
theorem own_below {W W' : World} {B e n : Nat} {v : Value} {xs : List Value} (h : W.ownsRow B e 1 v n xs) (hb : Below W.heap.size W W') : W'.ownsRow B e 1 v n xs :=
  own_kept h fun k hk => hb.block k (own_lt h k hk)
theorem own_iter {A B : World} {base b n : Nat} {v : Value} {xs : List Value} (h : A.ownsRow b 9 1 v n xs) (hi : Iter base A B) : B.ownsRow b 9 1 v n xs := by
  refine ⟨h.1, ?_⟩
  rcases h.2 with h2 | ⟨g, cap, cur, hv, hb, hh, hr⟩
  · exact .inl h2
  · exact .inr ⟨g, cap, cur, hv, hb, hi.same _ _ hh (.inr rfl), hr⟩
/-- All of A's blocks but one lie in B as they lay. -/
structure But (H : Nat) (A B : World) : Prop where
  os : B.os = A.os
  tape : B.tape = A.tape
  output : B.output = A.output
  size : A.heap.size ≤ B.heap.size
  block : ∀ k, k < A.heap.size → k ≠ H → B.heap[k]? = A.heap[k]?
theorem But.refl (H : Nat) (A : World) : But H A A := ⟨rfl, rfl, rfl, Nat.le_refl _, fun _ _ _ => rfl⟩
theorem But.iter {H : Nat} {A B C : World} (h : But H A B) (hi : Iter A.heap.size B C) : But H A C :=
  ⟨hi.os.trans h.os, hi.tape.trans h.tape, hi.output.trans h.output, Nat.le_trans h.size hi.size, fun k hk hne => by
    rw [← h.block k hk hne]
    obtain ⟨o, ho⟩ : ∃ o, B.heap[k]? = some o := ⟨_, Array.getElem?_eq_getElem (Nat.lt_of_lt_of_le hk h.size)⟩
    rw [ho]
    exact hi.same k o ho (.inl hk)⟩
theorem But.below {H b : Nat} {A B C : World} (h : Below b A B) (k : But H B C) (hH : b ≤ H) (hb : b ≤ B.heap.size) : Below b A C :=
  ⟨k.os.trans h.os, k.tape.trans h.tape, k.output.trans h.output, Nat.le_trans h.size k.size, fun i hi => (k.block i (by omega) (by omega)).trans (h.block i hi)⟩
/-- The variable H gathers the texts pre. -/
def Gathers (H : Nat) (A : World) (D : Nat → Option Info) (pre : List Nat) (W : World) : Prop :=
  ∃ v, Boxed W H 24 v ∧ W.ownsRow A.heap.size 9 1 v pre.length (strsV (pre.map (textOf D))) ∧ But H A W
theorem Gathers.bears {H : Nat} {A : World} {D : Nat → Option Info} (hH : H < A.heap.size) : Bears A.heap.size (Gathers H A D) := by
  rintro pre X Y ⟨v, h1, h2, h3⟩ hi
  exact ⟨v, boxed_iter h1 hi hH, own_iter h2 hi, h3.iter hi⟩
theorem gather_step {H : Nat} {A W2 W4 : World} {D : Nat → Option Info} {pre : List Nat} {x : Nat} {v v' : Value} {tx : ByteArray} (hbx : Boxed W2 H 24 v) (hrow : W2.ownsRow A.heap.size 9 1 v pre.length (strsV (pre.map (textOf D)))) (hbut : But H A W2) (htx : textOf D x = tx)
    (hown' : W4.ownsRow A.heap.size 9 1 v' (pre.length + 1) (strsV (pre.map (textOf D)) ++ [.string tx])) (hgrow : ((W2.alloc (.cells #[.string tx] 9)).drew).grownBy W4 v.ownBlock) :
    Gathers H A D (pre ++ [x]) (W4.setCell ⟨H, 0, none⟩ v') ∧ Round W2 (W4.setCell ⟨H, 0, none⟩ v') := by
  have hbx3 : Boxed ((W2.alloc (.cells #[.string tx] 9)).drew) H 24 v := hbx.alloc _
  have hrow3 : ((W2.alloc (.cells #[.string tx] 9)).drew).ownsRow A.heap.size 9 1 v pre.length (strsV (pre.map (textOf D))) := hrow.alloc _
  have hbx4 : Boxed W4 H 24 v := hbx3.kept hgrow (Boxed.not_row hbx3 (by decide) hrow3)
  have hs4 : W2.heap.size + 1 ≤ W4.heap.size := by have := hgrow.size; simpa using this
  refine ⟨⟨v', hbx4.set v', ?_, ?_⟩, ?_⟩
  · have h1 := ownsRow_setCell_other hown' (a := ⟨H, 0, none⟩) (fun e => Boxed.not_row hbx4 (by decide) hown' e.symm) v'
    simpa [htx] using h1
  · refine ⟨hgrow.os.trans hbut.os, hgrow.tape.trans hbut.tape, hgrow.output.trans hbut.output, by have := hbut.size; simp; omega, fun k hk hne => ?_⟩
    have hk2 : k < W2.heap.size := Nat.lt_of_lt_of_le hk hbut.size
    refine (Below.heap_setCell W4 ⟨H, 0, none⟩ v' k hne).trans ((hgrow.block k (by simp; omega) (fun e => ?_)).trans ((Below.heap_alloc W2 _ k hk2).trans (hbut.block k hk hne)))
    have := own_base hrow k e.symm
    omega
  · refine ⟨by simp; omega, fun k o hk ho => ?_⟩
    have hk2 : k < W2.heap.size := (Array.getElem?_eq_some_iff.1 hk).1
    have hne : k ≠ H := fun e => by
      subst e
      rw [show W2.heap[k]? = _ from hbx] at hk
      cases hk
      cases ho
    refine (Below.heap_setCell W4 ⟨H, 0, none⟩ v' k hne).trans ((hgrow.block k (by simp; omega) (fun e => ?_)).trans ((Below.heap_alloc W2 _ k hk2).trans hk))
    rcases hrow.2 with ⟨rfl, _⟩ | ⟨g, cap, cur, rfl, _, hh, _⟩
    · cases e
    · have : g = k := by simpa [Value.ownBlock] using e.symm
      subst this
      rw [hh] at hk
      cases hk
      cases ho
theorem own_but {A C : World} {B H n : Nat} {v u : Value} {xs : List Value} (h : A.ownsRow B 9 1 v n xs) (hb : Boxed A H 24 u) (hc : But H A C) : C.ownsRow B 9 1 v n xs :=
  own_kept h fun k hk => hc.block k (own_lt h k hk) (fun e => Boxed.not_row hb (by decide) h (by rw [hk, e]))
/-- The end of Edit: the results' cells written again, the marks taken up. -/
theorem edit_end {w w10 : World} {H E8 E10 B m m' m3 m4 : Nat} {u4 u5 v3 v4 : Value} {l1 l2 l3 l4 : List Value} {b1 b2 b3 b4 : Nat}
    (r1 : w10.ownsRow b1 9 1 u4 m l1) (r2 : w10.ownsRow b2 9 1 u5 m' l2) (r3 : w10.ownsRow b3 9 1 v3 m3 l3) (r4 : w10.ownsRow b4 9 1 v4 m4 l4) (c3 : Boxed w10 H 24 v3) (c4 : Boxed w10 (H + 1) 24 v4)
    (hK8 : w10.heap[E8]? = some (.deferred (some []))) (hK10 : w10.heap[E10]? = some (.deferred (some []))) (hne : E8 ≠ E10) (hb : Below B w w10) (h1 : B ≤ H) (h8 : B ≤ E8) (h10 : B ≤ E10) :
    ∃ wa wb wf, wa = ((w10.setCell ⟨H, 0, none⟩ v3).setCell ⟨H + 1, 0, none⟩ v4).drew ∧ wa.heap[E10]? = some (.deferred (some [])) ∧ wb = wa.putObj E10 (.deferred none) ∧ wb.heap[E8]? = some (.deferred (some [])) ∧ wf = wb.putObj E8 (.deferred none) ∧
      Boxed wf H 24 v3 ∧ Boxed wf (H + 1) 24 v4 ∧ Below B w wf ∧ wf.ownsRow b1 9 1 u4 m l1 ∧ wf.ownsRow b2 9 1 u5 m' l2 ∧ wf.ownsRow b3 9 1 v3 m3 l3 ∧ wf.ownsRow b4 9 1 v4 m4 l4 := by
  have n8 : E8 ≠ H := fun e => by rw [e, show w10.heap[H]? = _ from c3] at hK8; cases hK8
  have n8' : E8 ≠ H + 1 := fun e => by rw [e, show w10.heap[H + 1]? = _ from c4] at hK8; cases hK8
  have n10 : E10 ≠ H := fun e => by rw [e, show w10.heap[H]? = _ from c3] at hK10; cases hK10
  have n10' : E10 ≠ H + 1 := fun e => by rw [e, show w10.heap[H + 1]? = _ from c4] at hK10; cases hK10
  have heap : ∀ k, k ≠ H → k ≠ H + 1 → (((w10.setCell ⟨H, 0, none⟩ v3).setCell ⟨H + 1, 0, none⟩ v4).drew).heap[k]? = w10.heap[k]? := fun k hk hk' =>
    (Below.heap_setCell (w10.setCell ⟨H, 0, none⟩ v3) ⟨H + 1, 0, none⟩ v4 k hk').trans (Below.heap_setCell w10 ⟨H, 0, none⟩ v3 k hk)
  obtain ⟨wa, hwa⟩ : ∃ wa, wa = ((w10.setCell ⟨H, 0, none⟩ v3).setCell ⟨H + 1, 0, none⟩ v4).drew := ⟨_, rfl⟩
  rw [← hwa] at heap
  have hKa : wa.heap[E10]? = some (.deferred (some [])) := (heap _ n10 n10').trans hK10
  have hKa8 : wa.heap[E8]? = some (.deferred (some [])) := (heap _ n8 n8').trans hK8
  have hKb : (wa.putObj E10 (.deferred none)).heap[E8]? = some (.deferred (some [])) := (World.putObj_heap_other hne).trans hKa8
  have ba3 : Boxed wa H 24 v3 := by
    rw [hwa]
    exact (Below.heap_setCell (w10.setCell ⟨H, 0, none⟩ v3) ⟨H + 1, 0, none⟩ v4 H (by simp)).trans (c3.set v3)
  have ba4 : Boxed wa (H + 1) 24 v4 := by
    rw [hwa]
    exact Boxed.set v4 ((Below.heap_setCell w10 ⟨H, 0, none⟩ v3 (H + 1) (by simp)).trans c4)
  have hown : ∀ {b n : Nat} {v : Value} {xs : List Value}, w10.ownsRow b 9 1 v n xs → ((wa.putObj E10 (.deferred none)).putObj E8 (.deferred none)).ownsRow b 9 1 v n xs := fun {b n v xs} h => by
    refine ownsRow_putObj (ownsRow_putObj ?_ _ hKa rfl) _ hKb rfl
    refine own_kept h fun k hk => heap k (fun e => Boxed.not_row c3 (by decide) h (by rw [hk, e])) (fun e => Boxed.not_row c4 (by decide) h (by rw [hk, e]))
  have hba : Below B w wa := by
    rw [hwa]
    exact (((hb.setCell (p := ⟨H, 0, none⟩) h1 _).setCell (p := ⟨H + 1, 0, none⟩) (by show B ≤ H + 1; omega) _).drew)
  have hput : ∀ {A : World} {E : Nat}, B ≤ E → Below B w A → Below B w (A.putObj E (.deferred none)) := fun {A E} hE h =>
    ⟨h.os, h.tape, h.output, by simpa using h.size, fun k hk => (World.putObj_heap_other (by omega)).trans (h.block k hk)⟩
  refine ⟨wa, _, _, hwa, hKa, rfl, hKb, rfl, ?_, ?_, hput h8 (hput h10 hba), hown r1, hown r2, hown r3, hown r4⟩
  · exact (World.putObj_heap_other n8.symm).trans ((World.putObj_heap_other n10.symm).trans ba3)
  · exact (World.putObj_heap_other n8'.symm).trans ((World.putObj_heap_other n10'.symm).trans ba4)
theorem upon_by {F : Fence} {n : Nat} {P : Program} {o : Oper} {a : Act} {K : Act → World → Prop} {Q : Exit → Act → World → Prop} {R r r' : Result Next} (h : r = r') (hR : r = R) (k : o.uponIn F n P a K Q r') : o.uponIn F n P a K Q R := by
  rw [← hR, h]; exact k
theorem textOf_eq {D : Nat → Option Info} {c : Nat} {d : Info} (h : D c = some d) : d.2 = textOf D c := by simp [textOf, h]

set_option maxRecDepth 100000 in
set_option maxHeartbeats 2000000 in
theorem edit_any (w : World) (many : Nat) (A : Option Addr) (cap : Nat) (rows : List (List Int)) (hA : A = none → cap = 0) (hcap : rows.length ≤ cap) (hS : ScriptAt w w.heap.size A rows) (hm : many ≤ 500) (hr : rows.length ≤ 500) :
    Calls Try.prog 7 #[.int .i64 many, .slice A rows.length cap] w fun e w' => ∃ v1 v2 v3 v4, e = .returned (.tuple #[v1, v2, v3, v4]) ∧ Below w.heap.size w w' ∧
      w'.ownsRow w.heap.size 9 1 v1 (played many rows).length (strsV ((played many rows).map numS)) ∧
      w'.ownsRow w.heap.size 9 1 v2 (played many rows).length (strsV ((played many rows).map numS).reverse) ∧
      w'.ownsRow w.heap.size 9 1 v3 (played many rows).length (strsV ((played many rows).map numS)) ∧
      w'.ownsRow w.heap.size 9 1 v4 (played many rows).length (strsV ((played many rows).map numS)) := by
  have HS := Lib.hid hS
  clear hS
  have hu0 := ul_root ((w.alloc (.cells #[.slice none 0 0] 24)).alloc (.cells #[.slice none 0 0] 24)) (w.heap.size + 2) (by simp) (3, ⟨#[117, 108]⟩)
  rw [World.size_alloc, World.size_alloc] at hu0
  have hb30 : Boxed (((w.alloc (.cells #[.slice none 0 0] 24)).alloc (.cells #[.slice none 0 0] 24)).alloc (.cells (nodeCells (fun _ => none) (3, ⟨#[117, 108]⟩)) 50)) w.heap.size 24 (.slice none 0 0) := ((Boxed.new w 24 _).alloc _).alloc _
  have hb31 : Boxed (((w.alloc (.cells #[.slice none 0 0] 24)).alloc (.cells #[.slice none 0 0] 24)).alloc (.cells (nodeCells (fun _ => none) (3, ⟨#[117, 108]⟩)) 50)) (w.heap.size + 1) 24 (.slice none 0 0) := by
    have := (Boxed.new (w.alloc (.cells #[.slice none 0 0] 24)) 24 (.slice none 0 0)).alloc (.cells (nodeCells (fun _ => none) (3, ⟨#[117, 108]⟩)) 50)
    rw [World.size_alloc] at this
    exact this
  have hbw3 : Below w.heap.size w (((w.alloc (.cells #[.slice none 0 0] 24)).alloc (.cells #[.slice none 0 0] 24)).alloc (.cells (nodeCells (fun _ => none) (3, ⟨#[117, 108]⟩)) 50)) := ((((Below.refl _ w).alloc (Nat.le_refl _) _).alloc (by simp) _).alloc (by simp; omega) _)
  simp only [nodeCells, ptr, Option.map_none] at hu0 hb30 hb31 hbw3
  have HU0 := Lib.hid hu0
  have H30 := Lib.hid (And.intro hb30 (And.intro hb31 hbw3))
  clear hu0 hb30 hb31 hbw3
  refine (callsIn_wide (n := 3)).1 (callsIn_of_wp_marks (F := Fence.wide) Try.func7 rfl trivial (wpIn_wide.2 ?_) rfl)
  simp only [Try.ntmps7, List.size_toArray, List.length_cons, List.length_nil, Nat.reduceAdd, Nat.reduceSub, Array.replicate_succ, Array.replicate_zero, List.push_toArray, List.append_toArray, List.nil_append, List.cons_append]
  go_wp2_with fail
  obtain ⟨w3, hw3⟩ : ∃ w3, (((w.alloc (.cells #[.slice none 0 0] 24)).alloc (.cells #[.slice none 0 0] 24)).alloc (.cells #[.pointer none, .pointer none, .pointer none, .pointer none, .pointer none, .int .u32 3, .int .u32 0, .string ⟨#[117, 108]⟩, .string ⟨#[]⟩, .slice none 0 0] 50)) = w3 := ⟨_, rfl⟩
  rw [hw3] at HU0 H30 ⊢
  clear hw3
  go_loopg [19] many (fun g s19 wx => ∃ k : Nat, k + g = many ∧ s19 = .int .i64 k ∧ Ul (w.heap.size + 2) (w.heap.size + 1 + 1) (nums0 k) wx ∧ Below (w.heap.size + 2) w3 wx)
  case atStart => exact ⟨0, by omega, rfl, HU0.out, Below.refl _ _⟩
  case round =>
    obtain ⟨k, hg, rfl, hu, hbw⟩ := hrel
    clear HU0
    by_cases hk : k < many
    · obtain ⟨D, G, K, hU⟩ := hu
      have hN := numbered_any wr k (by omega)
      have hA1 := hU.append (k : Int)
      rw [numS_nat, ← nums0_succ] at hA1
      simp only [← newNode, ptr, Option.map_some] at hA1
      clear hU
      go_wp2_with (first
        | (go_at_call 16; go_must (refine hN.mono ?_; clear hN; rintro e w' ⟨rfl, h⟩; obtain rfl := h.symm))
        | (go_at_call 15; go_must (refine hA1.mono ?_; clear hA1; rintro e w1 ⟨rfl, hu1, hb1⟩))
        | fail)
      go_roundg (many - (k + 1))
      case measure => omega
      case rel => exact ⟨k + 1, by omega, by go_num, hu1, hbw.trans hb1⟩
    · obtain rfl : k = many := by omega
      have HO := Lib.hid (And.intro hu hbw)
      clear hu hbw
      go_wp2_with fail
      obtain ⟨hu, hbw⟩ := HO.out
      clear HO
      go_loopg [31] rows.length (fun g s31 wx => ∃ j : Nat, j + g = rows.length ∧ s31 = .int .i64 j ∧ Ul (w.heap.size + 2) (w.heap.size + 1 + 1) (played k (rows.take j)) wx ∧ Below (w.heap.size + 2) w3 wx)
      case atStart => exact ⟨0, by omega, rfl, hu, hbw⟩
      case round =>
        obtain ⟨j, hg2, rfl, hu2, hbw2⟩ := hrel
        clear hu hbw
        by_cases hj : j < rows.length
        · obtain ⟨xs, hxs⟩ : ∃ xs, rows[j]? = some xs := ⟨_, List.getElem?_eq_getElem hj⟩
          obtain ⟨a, rfl, hab, hall⟩ := (HS.out.below (H30.out.2.2.trans (hbw2.mono (by omega)))).resolve_left (fun h => by rw [h] at hj; simp at hj)
          obtain ⟨A', C, hc, hx, hC1, hC2, hC3, hrange⟩ := hall j xs hxs
          have hnext : played k (rows.take (j + 1)) = stepN (played k (rows.take j)) xs := by
            rw [← played_snoc, List.take_add_one, hxs]
            rfl
          have hmx : (xs.length : Int) ≤ 9223372036854775807 := by have := hC2; unfold maxLen at this; omega
          have hx' : IntsAt wr A' xs := by
            rcases hx with h | ⟨ad, h1, _, h2⟩
            · exact .inl (List.map_eq_nil_iff.1 h)
            · exact .inr ⟨ad, h1, fun j x hj => h2 j _ (by simp [hj])⟩
          have hT := step_any hu2 A' C xs hmx hx' hrange
          rw [← hnext] at hT
          simp only [ptr, Option.map_some] at hT
          have hT' := hT
          have HB2 := Lib.hid hbw2
          clear hnext hx hx' hrange hxs hall hu2 hbw2 hT
          go_wp2_with (first
            | (go_at_call 17; go_must (refine hT'.mono ?_; clear hT'; rintro e w1 ⟨rfl, hu1, hb1⟩))
            | fail)
          go_roundg (rows.length - (j + 1))
          case measure => omega
          case rel => exact ⟨j + 1, by omega, by go_num, hu1, HB2.out.trans hb1⟩
        · obtain rfl : j = rows.length := by omega
          rw [List.take_length] at hu2
          obtain ⟨w4, hw4⟩ : ∃ w4, w4 = wr := ⟨_, rfl⟩
          subst hw4
          have hb4 : Below w.heap.size w w4 := H30.out.2.2.trans (hbw2.mono (by omega))
          have hx0 : Boxed w4 w.heap.size 24 (.slice none 0 0) := (hbw2.block _ (by omega)).trans H30.out.1
          have hx1 : Boxed w4 (w.heap.size + 1) 24 (.slice none 0 0) := (hbw2.block _ (by omega)).trans H30.out.2.1
          obtain ⟨D, G, K, hU⟩ := hu2
          obtain ⟨n, hn⟩ : ∃ n, w.heap.size + 1 + 1 = n := ⟨_, rfl⟩
          rw [hn] at hU ⊢
          have hlen : (K n).length ≤ 1000 := by have := hU.len; have := played_len k rows; omega
          have hlenp : (played k rows).length = (K n).length := hU.len.symm
          have htext := hU.texts
          obtain ⟨dn, hdn⟩ := some_of hU.root
          have hnlt := hU.nodes.lt hdn
          have HU := Lib.hid hU
          have HB := Lib.hid (And.intro hb4 (And.intro hx0 hx1))
          have HT := Lib.hid (And.intro htext hlenp)
          have HH := Lib.hid hn
          have k1 := hU.nodes.c1 hdn
          rw [hU.linked.first n hU.root] at k1
          obtain ⟨u, hu⟩ : ∃ u : Option Addr, ptr (K n).head? = .pointer u := ⟨_, rfl⟩
          rw [hu] at k1
          have HUU := Lib.hid hu
          obtain ⟨j0, hj0, hy0, hy1, hy2⟩ := info_parts infoStr
          clear hb4 hx0 hx1 htext hU hu hbw2 hlenp hn HS H30
          go_wp2_with fail
          go_loopg [4, 12] ((K n).length) (fun g s4 s12 wx => ∃ pre rest, K n = pre ++ rest ∧ g = rest.length ∧ s12 = ptr rest.head? ∧ wx.ownsRow w4.heap.size 9 1 s4 pre.length (strsV (pre.map (textOf D))) ∧ Below w4.heap.size w4 wx)
          case atStart => exact ⟨[], K n, rfl, rfl, HUU.out.symm, World.ownsRow_nil _ _ _ _, Below.refl _ _⟩
          case round =>
            obtain ⟨pre, rest, hk, rfl, rfl, hown, hbw⟩ := hrel
            have hB := hbw.size
            clear k1
            cases rest with
            | cons x rest =>
              have hxD := HU.out.linked.dom n x (by rw [hk]; simp)
              obtain ⟨dx, hdx⟩ := some_of hxD.2
              have hN := HU.out.nodes.below hbw
              have k7 := hN.c7 hdx
              rw [textOf_eq hdx] at k7
              have k4 := hN.c4 hdx
              rw [(HU.out.linked.next pre rest hk).2.2] at k4
              obtain ⟨v, hv⟩ : ∃ v : Option Addr, ptr rest.head? = .pointer v := ⟨_, rfl⟩
              rw [hv] at k4
              obtain ⟨tx, htx⟩ : ∃ tx, textOf D x = tx := ⟨_, rfl⟩
              rw [htx] at k7
              have hpl : pre.length ≤ 1000 := by have := congrArg List.length hk; simp at this; omega
              have hxlt : x < wr.heap.size := hN.lt hdx
              have hx4 : x < w4.heap.size := HU.out.nodes.lt hdx
              have k4a : ∀ o, (wr.alloc o).cell? ⟨x, 4, none⟩ = some (.pointer v) := fun o => (World.cell?_alloc_lt wr o ⟨x, 4, none⟩ hxlt).trans k4
              have HV := Lib.hid (And.intro hv htx)
              have HK := Lib.hid hk
              have HO := Lib.hid hown
              have HN := Lib.hid (And.intro hN hdx)
              clear hv htx hk hN hdx hxD hown
              simp only [List.head?_cons, ptr, Option.map_some]
              go_wp2_with (first
                | (at_builtin; refine wpList_app _ rfl (.tmp 49) (.tmp 54) 24 rfl w4.heap.size 9 j0 (.string ⟨#[]⟩) 16 underStrs hj0 hy0 hy1 hy2 rfl _ pre.length (strsV (pre.map (textOf D))) rfl (HO.out.alloc _) (wr.heap.size + 1) (some ⟨wr.heap.size, 0, none⟩) 1 1 [.string tx] rfl (fun h => by cases h) rfl (lies_new wr _ 9) (by intro u hu; simp at hu; subst hu; rfl) (by simp only [maxLen]; omega) (by omega) (by simp; omega) ?_; intro v1 w1 hown1 hg1 hat1; have k4b : w1.cell? ⟨x, 4, none⟩ = some (.pointer v) := (hg1.cell_far ⟨x, 4, none⟩ (by simp; omega) (fun e => by have := own_base HO.out x e.symm; omega)).trans (k4a _))
                | fail)
              have hb1 : Below w4.heap.size w4 w1 := (hbw.alloc hB _).grown hg1 (by simp; omega) (own_base HO.out)
              clear hg1 hat1
              go_roundg rest.length
              case measure => simp
              case rel => exact ⟨pre ++ [x], rest, by rw [HK.out]; simp, rfl, HV.out.1.symm, by simpa [HV.out.2] using hown1, hb1⟩
            | nil =>
              rw [List.append_nil] at hk
              subst hk
              obtain ⟨w5, hw5⟩ : ∃ w5, w5 = wr := ⟨_, rfl⟩
              subst hw5
              have HO1 := Lib.hid (And.intro hown hbw)
              have k2 := (HU.out.nodes.below hbw).c2 hdn
              rw [HU.out.linked.last n HU.out.root] at k2
              obtain ⟨u', hu'⟩ : ∃ u : Option Addr, ptr (K n).getLast? = .pointer u := ⟨_, rfl⟩
              rw [hu'] at k2
              have HUU2 := Lib.hid hu'
              clear hown hbw hu'
              simp only [List.head?_nil, ptr, Option.map_none]
              go_wp2_with fail
              clear k2
              go_loopg [5, 13] ((K n).length) (fun g s5 s13 wx => ∃ rest post, K n = rest ++ post ∧ g = rest.length ∧ s13 = ptr rest.getLast? ∧ wx.ownsRow w5.heap.size 9 1 s5 post.length (strsV (post.reverse.map (textOf D))) ∧ Below w5.heap.size w5 wx)
              case atStart => exact ⟨K n, [], by simp, rfl, HUU2.out.symm, World.ownsRow_nil _ _ _ _, Below.refl _ _⟩
              case round =>
                obtain ⟨rest, post, hk, rfl, rfl, hown, hbw⟩ := hrel
                have hB := hbw.size
                rcases nil_or_snoc rest with rfl | ⟨rest', x, rfl⟩
                · rw [List.nil_append] at hk
                  subst hk
                  obtain ⟨w6, hw6⟩ : ∃ w6, w6 = wr := ⟨_, rfl⟩
                  subst hw6
                  have HO2 := Lib.hid (And.intro hown hbw)
                  clear hown hbw
                  have hbw6 : Below w4.heap.size w4 w6 := HO1.out.2.trans (HO2.out.2.mono HO1.out.2.size)
                  have HN6 := Lib.hid (And.intro hbw6 (HU.out.nodes.below hbw6))
                  have hk1 := HN6.out.2.c1 hdn
                  have hD := callsIn_wide.1 (descendants_in (F := Fence.wide) (fun _ => trivial) rfl 3 w6 hk1)
                  have hD2 := hD
                  simp only [List.getLast?_nil, ptr, Option.map_none, Option.map_some] at hD2 ⊢
                  clear hD hbw6 hk1
                  go_wp2_with (first
                    | (go_at_call 18; go_must (refine hD2.mono ?_; clear hD2; rintro e w' ⟨rfl, rfl⟩))
                    | fail)
                  obtain ⟨w7, hw7⟩ : ∃ w7, w6.alloc (.cells #[.pointer (some ⟨n, 0, none⟩)] 44) = w7 := ⟨_, rfl⟩
                  have hs7 : w7.heap.size = w6.heap.size + 1 := by rw [← hw7]; simp
                  have hbox7 : Boxed w7 w6.heap.size 44 (ptr (some n)) := by rw [← hw7]; exact Boxed.new w6 44 _
                  have hN7 : Nodes w7 D G := by rw [← hw7]; exact HN6.out.2.alloc_kept _
                  have hx07 : Boxed w7 w.heap.size 24 (.slice none 0 0) := by
                    rw [← hw7]
                    exact Boxed.alloc ((HN6.out.1.block _ (Boxed.lt HB.out.2.1)).trans HB.out.2.1) _
                  have hdeep : Deep K 1 n := fun c hc => HU.out.flat c (fun e => HU.out.linked.irr n (e ▸ hc))
                  have hdescs : descs K 1 n = K n := by simp [descs]
                  have hlist := descendants_list (F := Fence.wide) rfl (fun _ => trivial) rfl hN7 HU.out.linked HU.out.root hdeep hbox7
                  rw [hdescs] at hlist
                  have HW7 := Lib.hid hw7
                  rw [hw7]
                  have hHlt : w.heap.size < w7.heap.size := Boxed.lt hx07
                  have HX7 := Lib.hid (And.intro hx07 (And.intro hN7 hHlt))
                  clear hw7 hdescs hdeep hbox7 hN7 hx07 hHlt
                  refine wpIn_wide.1 (wpIn_range_list2 (F := Fence.wide) (n := 3) rfl rfl (gf := 33) (lb := #[.pointer (some ⟨w6.heap.size, 0, none⟩)]) rfl trivial (enters_of Try.func33 (by kernel_rfl) rfl)
                    hlist (fun _ => rfl) (Gathers w.heap.size w7 D) (Gathers.bears HX7.out.2.2) ⟨_, HX7.out.1, World.ownsRow_nil _ _ _ _, But.refl _ _⟩ ?round2 ?done2)
                  case round2 =>
                    intro l m pre x rest W hx
                    gi_wp2
                    refine ⟨trivial, ?_⟩
                    rintro W2 ⟨v, hbx, hrow, hbut⟩
                    obtain ⟨dx, hdx⟩ := some_of (HU.out.linked.dom n x (by rw [hx]; simp)).2
                    have hpl : pre.length ≤ 1000 := by have := congrArg List.length hx; simp at this; omega
                    have hN2 : Nodes W2 D G := HX7.out.2.1.kept fun b d hd => hbut.block b (HX7.out.2.1.lt hd) (fun e => by
                      have h1 := HX7.out.2.1 b d hd
                      have h2 : w7.heap[w.heap.size]? = _ := HX7.out.1
                      rw [e, h2] at h1; simp at h1)
                    have k7 := hN2.c7 hdx
                    rw [textOf_eq hdx] at k7
                    obtain ⟨tx, htx⟩ : ∃ tx, textOf D x = tx := ⟨_, rfl⟩
                    rw [htx] at k7
                    have kb := hbx.cell
                    obtain ⟨v', W4, hrun, hown', hgrow, hat⟩ := run_app (P := Try.prog) ((W2.alloc (.cells #[.string tx] 9)).drew) w7.heap.size 24 24 9 j0 (.string ⟨#[]⟩) 16 underStrs hj0 hy0 hy1 hy2 rfl v pre.length _ (hrow.alloc _) (W2.heap.size + 1) (some ⟨W2.heap.size, 0, none⟩) 1 1 [.string tx] rfl (fun h => by cases h) (lies_new W2 _ 9) (by intro u hu; simp at hu; subst hu; rfl) (by simp only [maxLen]; omega) (by omega) (by have := hbut.size; simp; omega)
                    have hfin := gather_step (x := x) hbx hrow hbut htx hown' hgrow
                    have hbx3 : Boxed ((W2.alloc (.cells #[.string tx] 9)).drew) w.heap.size 24 v := hbx.alloc _
                    have hbx4 : Boxed W4 w.heap.size 24 v := hbx3.kept hgrow (Boxed.not_row hbx3 (by decide) (hrow.alloc _))
                    have kb3 : (W2.alloc (.cells #[.string tx] 9)).cell? ⟨w.heap.size, 0, none⟩ = some v := (hbx.alloc _).cell
                    have kb4 := hbx4.cell
                    have kf4 := hbx4.frozen
                    have k73 : (W2.alloc (.cells #[.string tx] 9)).cell? ⟨x, 7, none⟩ = some (.string tx) := (World.cell?_alloc_lt W2 _ ⟨x, 7, none⟩ (hN2.lt hdx)).trans k7
                    obtain ⟨Av, cv, rfl, _, _, _⟩ := own_form hrow
                    obtain ⟨Av', cv', rfl, _, _, _⟩ := own_form hown'
                    have HQ := Lib.hid hfin
                    rw [app_wrap] at hrun
                    have hm : Try.prog.follows .mixedOrders = true := by kernel_rfl
                    clear hrow hown' hgrow hat hbx hbx3 hbx4 hN2 hdx htx hbut hfin
                    simp only [ptr, Option.map_some]
                    gi_wp2_with fail
                    gi_region_with_o fail
                    all_goals exact ⟨rfl, HQ.out⟩
                  case done2 =>
                    rintro E8 w8 hE8 ⟨v3, hb3, hrow3, hbut3⟩ hK8 hR8
                    have hN8 := HX7.out.2.1.round hR8
                    have hk1 := hN8.c1 hdn
                    have hb4 : Boxed w8 (w.heap.size + 1) 24 (.slice none 0 0) := by
                      have h6 : Boxed w6 (w.heap.size + 1) 24 (.slice none 0 0) := (HN6.out.1.block _ (Boxed.lt HB.out.2.2)).trans HB.out.2.2
                      have h7 : Boxed w7 (w.heap.size + 1) 24 (.slice none 0 0) := by rw [← HW7.out]; exact h6.alloc _
                      exact (hbut3.block _ (Boxed.lt h7) (by omega)).trans h7
                    have hC2 := callsIn_wide.1 (childNodes_in (F := Fence.wide) (fun _ => trivial) rfl 3 w8 hk1)
                    have H8 := Lib.hid (And.intro hb3 (And.intro hrow3 (And.intro hbut3 (And.intro hK8 (And.intro hN8 hb4)))))
                    clear hb3 hrow3 hbut3 hK8 hN8 hk1 hb4 hlist
                    simp only [ptr, Option.map_some] at hC2
                    go_wp2_with (first
                      | (go_at_call 19; go_must (refine hC2.mono ?_; clear hC2; rintro e w' ⟨rfl, rfl⟩))
                      | fail)
                    obtain ⟨w9, hw9⟩ : ∃ w9, w8.alloc (.cells #[.pointer (some ⟨n, 0, none⟩)] 44) = w9 := ⟨_, rfl⟩
                    have hs9 : w9.heap.size = w8.heap.size + 1 := by rw [← hw9]; simp
                    have hbox9 : Boxed w9 w8.heap.size 44 (ptr (some n)) := by rw [← hw9]; exact Boxed.new w8 44 _
                    have hN9 : Nodes w9 D G := by rw [← hw9]; exact H8.out.2.2.2.2.1.alloc_kept _
                    have hx09 : Boxed w9 (w.heap.size + 1) 24 (.slice none 0 0) := by rw [← hw9]; exact H8.out.2.2.2.2.2.alloc _
                    have hlist := childNodes_list (F := Fence.wide) rfl (fun _ => trivial) rfl hN9 HU.out.linked HU.out.root hbox9
                    have HW9 := Lib.hid hw9
                    rw [hw9]
                    have hHlt9 : w.heap.size + 1 < w9.heap.size := Boxed.lt hx09
                    have HX9 := Lib.hid (And.intro hx09 (And.intro hN9 hHlt9))
                    clear hw9 hbox9 hN9 hx09 hHlt9
                    refine wpIn_wide.1 (wpIn_range_list2 (F := Fence.wide) (n := 3) rfl rfl (gf := 35) (lb := #[.pointer (some ⟨w8.heap.size, 0, none⟩)]) rfl trivial (enters_of Try.func35 (by kernel_rfl) rfl)
                      hlist (fun _ => rfl) (Gathers (w.heap.size + 1) w9 D) (Gathers.bears HX9.out.2.2) ⟨_, HX9.out.1, World.ownsRow_nil _ _ _ _, But.refl _ _⟩ ?round4 ?done4)
                    case round4 =>
                      intro l m pre x rest W hx
                      gi_wp2
                      refine ⟨trivial, ?_⟩
                      rintro W2 ⟨v, hbx, hrow, hbut⟩
                      obtain ⟨dx, hdx⟩ := some_of (HU.out.linked.dom n x (by rw [hx]; simp)).2
                      have hpl : pre.length ≤ 1000 := by have := congrArg List.length hx; simp at this; omega
                      have hN2 : Nodes W2 D G := HX9.out.2.1.kept fun b d hd => hbut.block b (HX9.out.2.1.lt hd) (fun e => by
                        have h1 := HX9.out.2.1 b d hd
                        have h2 : w9.heap[w.heap.size + 1]? = _ := HX9.out.1
                        rw [e, h2] at h1; simp at h1)
                      have k7 := hN2.c7 hdx
                      rw [textOf_eq hdx] at k7
                      obtain ⟨tx, htx⟩ : ∃ tx, textOf D x = tx := ⟨_, rfl⟩
                      rw [htx] at k7
                      have kb := hbx.cell
                      obtain ⟨v', W4, hrun, hown', hgrow, hat⟩ := run_app (P := Try.prog) ((W2.alloc (.cells #[.string tx] 9)).drew) w9.heap.size 24 24 9 j0 (.string ⟨#[]⟩) 16 underStrs hj0 hy0 hy1 hy2 rfl v pre.length _ (hrow.alloc _) (W2.heap.size + 1) (some ⟨W2.heap.size, 0, none⟩) 1 1 [.string tx] rfl (fun h => by cases h) (lies_new W2 _ 9) (by intro u hu; simp at hu; subst hu; rfl) (by simp only [maxLen]; omega) (by omega) (by have := hbut.size; simp; omega)
                      have hfin := gather_step (x := x) hbx hrow hbut htx hown' hgrow
                      have hbx3 : Boxed ((W2.alloc (.cells #[.string tx] 9)).drew) (w.heap.size + 1) 24 v := hbx.alloc _
                      have hbx4 : Boxed W4 (w.heap.size + 1) 24 v := hbx3.kept hgrow (Boxed.not_row hbx3 (by decide) (hrow.alloc _))
                      have kb3 : (W2.alloc (.cells #[.string tx] 9)).cell? ⟨w.heap.size + 1, 0, none⟩ = some v := (hbx.alloc _).cell
                      have kb4 := hbx4.cell
                      have kf4 := hbx4.frozen
                      have k73 : (W2.alloc (.cells #[.string tx] 9)).cell? ⟨x, 7, none⟩ = some (.string tx) := (World.cell?_alloc_lt W2 _ ⟨x, 7, none⟩ (hN2.lt hdx)).trans k7
                      obtain ⟨Av, cv, rfl, _, _, _⟩ := own_form hrow
                      obtain ⟨Av', cv', rfl, _, _, _⟩ := own_form hown'
                      have HQ := Lib.hid hfin
                      rw [app_wrap] at hrun
                      have hm : Try.prog.follows .mixedOrders = true := by kernel_rfl
                      clear hrow hown' hgrow hat hbx hbx3 hbx4 hN2 hdx htx hbut hfin
                      simp only [ptr, Option.map_some]
                      gi_wp2_with fail
                      gi_region_with_o fail
                      all_goals exact ⟨rfl, HQ.out⟩
                    case done4 =>
                      rintro E10 w10 hE10 ⟨v4, hb5, hrow4, hbut4⟩ hK10 hR10
                      have r1 := (own_but ((own_but ((own_below HO1.out.1 HO2.out.2).alloc (.cells #[.pointer (some ⟨n, 0, none⟩)] 44)) (by rw [HW7.out]; exact HX7.out.1) (by rw [HW7.out]; exact H8.out.2.2.1)).alloc (.cells #[.pointer (some ⟨n, 0, none⟩)] 44)) (by rw [HW9.out]; exact HX9.out.1) (by rw [HW9.out]; exact hbut4))
                      have r2 := (own_but ((own_but (HO2.out.1.alloc (.cells #[.pointer (some ⟨n, 0, none⟩)] 44)) (by rw [HW7.out]; exact HX7.out.1) (by rw [HW7.out]; exact H8.out.2.2.1)).alloc (.cells #[.pointer (some ⟨n, 0, none⟩)] 44)) (by rw [HW9.out]; exact HX9.out.1) (by rw [HW9.out]; exact hbut4))
                      have r3 := (own_but (H8.out.2.1.alloc (.cells #[.pointer (some ⟨n, 0, none⟩)] 44)) (by rw [HW9.out]; exact HX9.out.1) (by rw [HW9.out]; exact hbut4))
                      have b3 : Boxed w10 w.heap.size 24 v3 := by
                        have h9 : Boxed w9 w.heap.size 24 v3 := by rw [← HW9.out]; exact H8.out.1.alloc _
                        exact (hbut4.block _ (Boxed.lt h9) (by omega)).trans h9
                      obtain ⟨A3, c3, rfl, _, _, _⟩ := own_form r3
                      obtain ⟨A4, c4, rfl, _, _, _⟩ := own_form hrow4
                      have hK8' : w10.heap[E8]? = some (.deferred (some [])) := hR10.same _ _ (by rw [← HW9.out]; exact (Below.heap_alloc w8 _ E8 (Array.getElem?_eq_some_iff.1 H8.out.2.2.2.1).1).trans H8.out.2.2.2.1) rfl
                      have HF := Lib.hid (And.intro r1 (And.intro r2 (And.intro r3 (And.intro hrow4 (And.intro b3 (And.intro hb5 (And.intro hbut4 (And.intro hK8' hK10))))))))
                      have kc3 := b3.cell
                      have kf3 := b3.frozen
                      have kc4 := hb5.cell
                      have kf4 := hb5.frozen
                      clear r1 r2 r3 hrow4 b3 hb5 hbut4 hK8' hK10 hlist hR10
                      go_wp2_with fail
                      go_region
                      all_goals go_wp2_with fail
                      have hb6 : Below w.heap.size w w6 := HB.out.1.trans (HN6.out.1.mono HB.out.1.size)
                      have hs64 := hb6.size
                      have hb7 : Below w.heap.size w w7 := by rw [← HW7.out]; exact hb6.alloc hs64 _
                      have hb8 : Below w.heap.size w w8 := But.below hb7 H8.out.2.2.1 (Nat.le_refl _) hb7.size
                      have hb9 : Below w.heap.size w w9 := by rw [← HW9.out]; exact hb8.alloc hb8.size _
                      have hb10 : Below w.heap.size w w10 := But.below hb9 HF.out.2.2.2.2.2.2.1 (by omega) hb9.size
                      have hE8lt : E8 < w8.heap.size := (Array.getElem?_eq_some_iff.1 H8.out.2.2.2.1).1
                      obtain ⟨wa, wb, wf, hwa, ka, hwb, kb, hwf, bf3, bf4, hbf, f1, f2, f3, f4⟩ := edit_end HF.out.1 HF.out.2.1 HF.out.2.2.1 HF.out.2.2.2.1 HF.out.2.2.2.2.1 HF.out.2.2.2.2.2.1 HF.out.2.2.2.2.2.2.2.1 HF.out.2.2.2.2.2.2.2.2 (by omega) hb10 (Nat.le_refl _) (by omega) (by have := hb9.size; omega)
                      rw [← hwa]
                      subst hwb
                      subst hwf
                      refine ⟨by simp, .inl ⟨_, _, rfl, run_takeDeferred ka, by simp, .inl ⟨_, _, rfl, run_takeDeferred kb, ?_⟩⟩⟩
                      have cf3 := bf3.cell
                      have cf4 := bf4.cell
                      refine ⟨.tuple #[u4, u5, .slice A3 (K n).length c3, .slice A4 (K n).length c4], ?_, u4, u5, .slice A3 (K n).length c3, .slice A4 (K n).length c4, rfl, hbf, ?_⟩
                      · simp [results, show Try.f7.results = #[.tmp 4, .tmp 5, .cell 6 24, .cell 7 24] from rfl, go_sem, cf3, cf4]
                      · obtain ⟨htx, hln⟩ := HT.out
                        rw [List.map_reverse, htx] at f2
                        rw [htx] at f1 f3 f4
                        rw [hln]
                        have hB1 := HB.out.1.size
                        exact ⟨own_mono f1 hB1, own_mono (by simpa using f2) (by have := HO1.out.2.size; omega), own_mono f3 hb7.size, own_mono f4 hb9.size⟩
                · have hxD := HU.out.linked.dom n x (by rw [hk]; simp)
                  obtain ⟨dx, hdx⟩ := some_of hxD.2
                  have hw45 := HO1.out.2.trans (hbw.mono HO1.out.2.size)
                  have hN := HU.out.nodes.below hw45
                  have k7 := hN.c7 hdx
                  rw [textOf_eq hdx] at k7
                  have k3 := hN.c3 hdx
                  rw [(HU.out.linked.next rest' post (by rw [hk]; simp)).2.1] at k3
                  obtain ⟨v, hv⟩ : ∃ v : Option Addr, ptr rest'.getLast? = .pointer v := ⟨_, rfl⟩
                  rw [hv] at k3
                  obtain ⟨tx, htx⟩ : ∃ tx, textOf D x = tx := ⟨_, rfl⟩
                  rw [htx] at k7
                  have hpl : post.length ≤ 1000 := by have := congrArg List.length hk; simp at this; omega
                  have hxlt : x < wr.heap.size := hN.lt hdx
                  have hx5 : x < w5.heap.size := (HU.out.nodes.below HO1.out.2).lt hdx
                  have k3a : ∀ o, (wr.alloc o).cell? ⟨x, 3, none⟩ = some (.pointer v) := fun o => (World.cell?_alloc_lt wr o ⟨x, 3, none⟩ hxlt).trans k3
                  have hlast : (rest' ++ [x]).getLast? = some x := by simp
                  have HV := Lib.hid (And.intro hv htx)
                  have HK := Lib.hid hk
                  have HO := Lib.hid hown
                  rw [hlast]
                  clear hv htx hk hN hdx hxD hown hlast hw45
                  simp only [ptr, Option.map_some]
                  go_wp2_with (first
                    | (at_builtin; refine wpList_app _ rfl (.tmp 66) (.tmp 71) 24 rfl w5.heap.size 9 j0 (.string ⟨#[]⟩) 16 underStrs hj0 hy0 hy1 hy2 rfl _ post.length (strsV (post.reverse.map (textOf D))) rfl (HO.out.alloc _) (wr.heap.size + 1) (some ⟨wr.heap.size, 0, none⟩) 1 1 [.string tx] rfl (fun h => by cases h) rfl (lies_new wr _ 9) (by intro u hu; simp at hu; subst hu; rfl) (by simp only [maxLen]; omega) (by omega) (by simp; omega) ?_; intro v1 w1 hown1 hg1 hat1; have k3b : w1.cell? ⟨x, 3, none⟩ = some (.pointer v) := (hg1.cell_far ⟨x, 3, none⟩ (by simp; omega) (fun e => by have := own_base HO.out x e.symm; omega)).trans (k3a _))
                    | fail)
                  have hb1 : Below w5.heap.size w5 w1 := (hbw.alloc hB _).grown hg1 (by simp; omega) (own_base HO.out)
                  clear hg1 hat1
                  go_roundg rest'.length
                  case measure => simp
                  case rel => exact ⟨rest', x :: post, by rw [HK.out]; simp, rfl, HV.out.1.symm, by simpa [HV.out.2] using hown1, hb1⟩
end Go.Proofs.Ytgbeohhegckonaa
