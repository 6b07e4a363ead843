import Derived.Test.YtgbeohhegckonaaIters
namespace Go.Proofs.Ytgbeohhegckonaa
open Go.RowKit Go.Shelf
set_option linter.unusedSimpArgs false
set_option linter.unusedVariables false
attribute [local go_sem] Oper.semAt_some

/-- The nodes below a node, each one ahead of what is below it, down to a depth. -/
def descs (K : Nat → List Nat) : Nat → Nat → List Nat
  | 0, _ => []
  | h + 1, p => (K p).flatMap fun c => c :: descs K h c
/-- Below a node there are at most so many generations. -/
def Deep (K : Nat → List Nat) : Nat → Nat → Prop
  | 0, p => K p = []
  | h + 1, p => ∀ c ∈ K p, Deep K h c

theorem Round.iter {w A B : World} (h : Round w A) (hi : Iter w.heap.size A B) : Round w B :=
  ⟨Nat.le_trans h.size hi.size, fun k o hk ho => hi.same k o (h.same k o hk ho) (.inl (Array.getElem?_eq_some_iff.1 hk).1)⟩
theorem boxed_iter {A B : World} {b base : Nat} {t : TypeId} {v : Value} (h : Boxed A b t v) (hi : Iter base A B) (hb : b < base) : Boxed B b t v := hi.same b _ h (.inl hb)

theorem Round.setOwn {W A : World} (h : Round W A) {b : Nat} (hb : W.heap.size ≤ b) {i : Nat} {u : Value} : Round W (A.setCell ⟨b, i, none⟩ u) :=
  ⟨by simpa using h.size, fun k o hk ho => (Below.heap_setCell A ⟨b, i, none⟩ u k (fun e => by
    have e' : k = b := e
    have := (Array.getElem?_eq_some_iff.1 hk).1
    omega)).trans (h.same k o hk ho)⟩
theorem Round.putOwn {W A : World} (h : Round W A) {b : Nat} (hb : W.heap.size ≤ b) {o' : Obj} : Round W (A.putObj b o') :=
  ⟨by simpa using h.size, fun k o hk ho => (World.putObj_heap_other (by have := (Array.getElem?_eq_some_iff.1 hk).1; omega)).trans (h.same k o hk ho)⟩

section
variable {F : Fence} {D : Nat → Option Info} {G : Nat → Nat → Option Nat} {K : Nat → List Nat}

set_option maxRecDepth 100000 in
set_option maxHeartbeats 4000000 in
theorem desc_one (hd : F.depth = none) (hF : ∀ f, F.fn f) (hro : F.round = none) (hL : Linked D G K) (l base : Nat) (xs : List Nat) (J : List Nat → World → Prop) (hJ : Bears base J)
    (hY : ∀ m pre x rest W1, xs = pre ++ x :: rest → J pre W1 → YieldAt F m Try.prog l #[ptr (some x)] W1 fun e W' => e = .returned (.bool true) ∧ J (pre ++ [x]) W' ∧ Round W1 W')
    (p : Nat) (f : Nat → List Nat) (hchild : ∀ c ∈ K p, ∀ (n : Nat) (pre rest : List Nat) (W : World), xs = pre ++ f c ++ rest → Nodes W D G → base ≤ W.heap.size → J pre W →
      CallsIn F n Try.prog 34 #[ptr (some c), .func (.yield l) #[] #[]] W fun e W' => e = .returned (.bool true) ∧ J (pre ++ f c) W' ∧ Round W W')
    (n : Nat) (pre rest : List Nat) (W : World) (hp : (D p).isSome = true) (hx : xs = pre ++ (K p).flatMap (fun c => c :: f c) ++ rest) (hN : Nodes W D G) (hb : base ≤ W.heap.size) (hj : J pre W) :
    CallsIn F n Try.prog 34 #[ptr (some p), .func (.yield l) #[] #[]] W fun e W' => e = .returned (.bool true) ∧ J (pre ++ (K p).flatMap (fun c => c :: f c)) W' ∧ Round W W' := by
  have hdd : ∀ k : Nat, (F.depth.isSome = true → 1 ≤ k) := fun k h => by rw [hd] at h; cases h
  obtain ⟨dp, hdp'⟩ := some_of hp
  have k1 := hN.c1 hdp'
  have k1' : ∀ o o', ((W.alloc o).alloc o').cell? ⟨p, 1, none⟩ = some (ptr (G p 1)) := fun o o' => cell_alloc_old o' (cell_alloc_old o k1)
  have HX := Lib.hid hx
  clear hx
  refine callsIn_of_wp_marks Try.func34 rfl (hF _) ?_ hro
  simp only [ptr, Option.map_some, Try.ntmps34, List.size_toArray, List.length_cons, List.length_nil, Nat.reduceAdd, Nat.reduceSub, Array.replicate_succ, Array.replicate_zero, List.push_toArray, List.append_toArray, List.nil_append, List.cons_append]
  gi_wp2_with (first
    | (gi_at_call 19; refine (childNodes_in (p := p) (u := (G p 1).map fun b => ⟨b, 0, none⟩) hF hro (n - 1) _ (k1' _ _)).mono ?_; rintro e w' ⟨rfl, rfl⟩)
    | fail)
  obtain ⟨W0, hW0⟩ : ∃ W0, ((W.alloc (.cells #[.func (.yield l) #[] #[]] 70)).alloc (.cells #[.bool false] 4)).alloc (.cells #[ptr (some p)] 44) = W0 := ⟨_, rfl⟩
  have hs0 : W0.heap.size = W.heap.size + 3 := by rw [← hW0]; simp
  have b3 : Boxed W0 W.heap.size 70 (.func (.yield l) #[] #[]) := by rw [← hW0]; exact ((Boxed.new W 70 _).alloc _).alloc _
  have b4 : Boxed W0 (W.heap.size + 1) 4 (.bool false) := by
    rw [← hW0]
    have := (Boxed.new (W.alloc (.cells #[.func (.yield l) #[] #[]] 70)) 4 (.bool false)).alloc (.cells #[ptr (some p)] 44)
    rw [World.size_alloc] at this
    exact this
  have b5 : Boxed W0 (W.heap.size + 1 + 1) 44 (ptr (some p)) := by
    rw [← hW0]
    have := Boxed.new ((W.alloc (.cells #[.func (.yield l) #[] #[]] 70)).alloc (.cells #[.bool false] 4)) 44 (ptr (some p))
    rw [World.size_alloc, World.size_alloc] at this
    exact this
  have r0 : Round W W0 := by rw [← hW0]; exact ((Round.alloc _ _).trans (Round.alloc _ _)).trans (Round.alloc _ _)
  have j0 : J pre W0 := by rw [← hW0]; exact hJ _ _ _ (hJ _ _ _ (hJ _ _ _ hj (Iter.alloc _ _ _)) (Iter.alloc _ _ _)) (Iter.alloc _ _ _)
  have n0 := hN.round r0
  rw [hW0]
  clear hW0 k1' k1
  refine wpIn_range_list hro hd (gf := 35) (lb := #[.pointer (some ⟨W.heap.size + 1 + 1, 0, none⟩)]) rfl (hF _) (enters_of Try.func35 (by kernel_rfl) rfl)
    (childNodes_list hd hF hro n0 hL hp b5) (fun _ => rfl)
    (fun pre2 W' => J (pre ++ pre2.flatMap (fun c => c :: f c)) W' ∧ Boxed W' W.heap.size 70 (.func (.yield l) #[] #[]) ∧ Boxed W' (W.heap.size + 1) 4 (.bool false) ∧ Round W0 W')
    ?bears ⟨by simpa using j0, b3, b4, Round.refl _⟩
    (fun x => { tmps := #[.pointer (some ⟨p, 0, none⟩), .func (.yield l) #[] #[], undef, .pointer (some ⟨W.heap.size, 0, none⟩), .pointer (some ⟨W.heap.size + 1, 0, none⟩), ptr (some x), .pointer (some ⟨p, 0, none⟩), .func (.func 35) #[] #[.pointer (some ⟨W.heap.size + 1 + 1, 0, none⟩)], ptr (some x), undef, undef, undef, undef, undef, undef, undef, undef, undef, undef], defers := [] }) ?assign ?body ?done
  case bears =>
    rintro s A B ⟨h1, h2, h3, h4⟩ hi
    exact ⟨hJ _ _ _ h1 (hi.mono (by omega)), boxed_iter h2 hi (by omega), boxed_iter h3 hi (by omega), h4.iter hi⟩
  case assign =>
    intro l' m x W' K' hK
    gi_wp2
    exact hK
  case body =>
    rintro l' m pre2 x rest2 W' hk ⟨h1, h2, h3, h4⟩
    have hxK : x ∈ K p := by rw [hk]; simp
    have hx1 : xs = (pre ++ pre2.flatMap (fun c => c :: f c)) ++ x :: (f x ++ (rest2.flatMap (fun c => c :: f c) ++ rest)) := by
      rw [HX.out, hk]; simp [List.flatMap_append]
    have hx2 : xs = (pre ++ pre2.flatMap (fun c => c :: f c) ++ [x]) ++ f x ++ (rest2.flatMap (fun c => c :: f c) ++ rest) := by
      rw [HX.out, hk]; simp [List.flatMap_append]
    have hflat : pre ++ (pre2 ++ [x]).flatMap (fun c => c :: f c) = (pre ++ pre2.flatMap (fun c => c :: f c) ++ [x]) ++ f x := by simp [List.flatMap_append]
    obtain ⟨fn, tmps, assign, body, hy, hR⟩ := hY (m - 1) _ x _ W' hx1 h1
    replace hR : RoundIn (F.inRound l') (m - 1) Try.prog l fn tmps assign body W' _ := hR
    have hch := fun W4 => hchild x hxK (m - 1) _ _ W4 hx2
    have HF := Lib.hid hflat
    clear hflat hx1 hx2
    have c3 := h2.cell
    have hxD := (hL.dom p x hxK).2
    simp only [ptr, Option.map_some] at hy hch ⊢
    gi_wp2_with fail
    refine hR.mono ?_
    clear hR
    rintro e W3 ⟨rfl, hj3, hr3⟩
    have c3' := (show Boxed W3 W.heap.size 70 (.func (.yield l) #[] #[]) from hr3.same _ _ h2 rfl).cell
    have hN3 := hN.round (r0.trans (h4.trans hr3))
    have hs3 : base ≤ W3.heap.size := by have := r0.size; have := h4.size; have := hr3.size; omega
    gi_wp2_with (first
      | (gi_at_call 34; refine (CallsIn.inRound l' (hch _ hN3 hs3 hj3)).mono ?_; rintro e W4 ⟨rfl, hj4, hr4⟩)
      | fail)
    refine ⟨⟨by simpa using hj4, hr4.same _ _ (hr3.same _ _ h2 rfl) rfl, hr4.same _ _ (hr3.same _ _ h3 rfl) rfl, h4.trans (hr3.trans hr4)⟩, hr3.trans hr4⟩
  case done =>
    rintro E W' hE ⟨h1, h2, h3, h4⟩ hK hr
    have c4 := h3.cell
    have f4 := h3.frozen
    gi_wp2
    have hne : E ≠ W.heap.size + 1 := by omega
    have hK' : (W'.setCell ⟨W.heap.size + 1, 0, none⟩ (.bool true)).heap[E]? = some (.deferred (some [])) := (Below.heap_setCell W' ⟨W.heap.size + 1, 0, none⟩ _ E hne).trans hK
    refine ⟨by simp, .inl ⟨_, _, rfl, run_takeDeferred hK', ?_⟩⟩
    have hR1 : Round W (W'.setCell ⟨W.heap.size + 1, 0, none⟩ (.bool true)) := (r0.trans h4).setOwn (by omega)
    have hE2 := hE
    have hc : ((W'.setCell ⟨W.heap.size + 1, 0, none⟩ (.bool true)).putObj E (.deferred none)).cell? ⟨W.heap.size + 1, 0, none⟩ = some (.bool true) := by
      have := (show Boxed W' (W.heap.size + 1) 4 (.bool false) from h3).set (.bool true)
      exact Boxed.cell (t := 4) ((World.putObj_heap_other hne.symm).trans this)
    refine ⟨.bool true, ?_, rfl, ?_, ?_⟩
    · simp [results, show Try.f34.results = #[.cell 4 4] from rfl, go_sem, hc]
    · exact hJ _ _ _ (hJ _ _ _ h1 (Iter.setCell 0 _ (by omega) h3 rfl)) (Iter.putObj _ (by omega) hK' rfl)
    · exact hR1.putOwn (by omega)

theorem desc_in (hd : F.depth = none) (hF : ∀ f, F.fn f) (hro : F.round = none) (hL : Linked D G K) (l base : Nat) (xs : List Nat) (J : List Nat → World → Prop) (hJ : Bears base J)
    (hY : ∀ m pre x rest W1, xs = pre ++ x :: rest → J pre W1 → YieldAt F m Try.prog l #[ptr (some x)] W1 fun e W' => e = .returned (.bool true) ∧ J (pre ++ [x]) W' ∧ Round W1 W') (h : Nat) :
    ∀ (p n : Nat) (pre rest : List Nat) (W : World), Deep K h p → (D p).isSome = true → xs = pre ++ descs K h p ++ rest → Nodes W D G → base ≤ W.heap.size → J pre W →
      CallsIn F n Try.prog 34 #[ptr (some p), .func (.yield l) #[] #[]] W fun e W' => e = .returned (.bool true) ∧ J (pre ++ descs K h p) W' ∧ Round W W' := by
  induction h with
  | zero =>
    intro p n pre rest W hdp hp hx hN hb hj
    have hK : K p = [] := hdp
    have := desc_one hd hF hro hL l base xs J hJ hY p (fun _ => []) (fun c hc => by rw [hK] at hc; cases hc) n pre rest W hp (by rw [hK]; simpa [descs] using hx) hN hb hj
    rw [hK] at this
    exact this
  | succ h ih =>
    intro p n pre rest W hdp hp hx hN hb hj
    exact desc_one hd hF hro hL l base xs J hJ hY p (descs K h) (fun c hc n pre rest W hx hN hb hj => ih c n pre rest W (hdp c hc) (hL.dom p c hc).2 hx hN hb hj) n pre rest W hp hx hN hb hj

set_option maxRecDepth 100000 in
set_option maxHeartbeats 2000000 in
/-- The function value of n.Descendants() hands out the nodes below n. -/
theorem descendants_list (hd : F.depth = none) (hF : ∀ f, F.fn f) (hro : F.round = none) {w : World} (hN : Nodes w D G) (hL : Linked D G K) {p Bn h : Nat} (hp : (D p).isSome = true) (hdp : Deep K h p) (hB : Boxed w Bn 44 (ptr (some p))) :
    SeqList F Try.prog 33 #[.pointer (some ⟨Bn, 0, none⟩)] (fun c => #[ptr (some c)]) (descs K h p) w := by
  intro n l J W hr hJ hY h0
  have hdd : ∀ k : Nat, (F.depth.isSome = true → 1 ≤ k) := fun k h => by rw [hd] at h; cases h
  have hB1 : Boxed W Bn 44 (ptr (some p)) := hr.same _ _ hB rfl
  have hN1 := hN.round hr
  have kB := hB1.cell
  have hD := desc_in hd hF hro hL l W.heap.size (descs K h p) J hJ hY h p (n - 1) [] [] W hdp hp (by simp) hN1 (Nat.le_refl _) h0
  simp only [ptr, Option.map_some] at kB hD
  refine callsIn_of_wp Try.func33 rfl (hF _) ?_ hro
  simp only [Try.ntmps33, List.size_toArray, List.length_cons, List.length_nil, Nat.reduceAdd, Nat.reduceSub, Array.replicate_succ, Array.replicate_zero, List.push_toArray, List.append_toArray, List.nil_append, List.cons_append]
  gi_wp2_with (first
    | (gi_at_call 34; refine hD.mono ?_; clear hD; rintro e W1 ⟨rfl, hj1, hr1⟩)
    | fail)
  go_end0
  exact ⟨⟨_, rfl⟩, by simpa using hj1, hr1⟩
end
end Go.Proofs.Ytgbeohhegckonaa
