import Derived.Test.YtgbeohhegckonaaNodes
namespace Go.Proofs.Ytgbeohhegckonaa
open Go.RowKit Go.Shelf Go.BigFrame
set_option linter.unusedSimpArgs false
set_option linter.unusedVariables false

/-- The children l of p, one beside the other: v ahead of them, n behind them. -/
def Seg (G : Nat → Nat → Option Nat) (p : Nat) : Option Nat → List Nat → Option Nat → Prop
  | _, [], _ => True
  | v, c :: l, n => G c 0 = some p ∧ G c 3 = v ∧ G c 4 = (l.head?.or n) ∧ Seg G p (some c) l n

theorem Seg.congr {G G' : Nat → Nat → Option Nat} {p : Nat} : ∀ {l : List Nat} {v n : Option Nat}, Seg G p v l n →
    (∀ b ∈ l, G' b 0 = G b 0 ∧ G' b 3 = G b 3 ∧ G' b 4 = G b 4) → Seg G' p v l n
  | [], _, _, _, _ => trivial
  | c :: l, v, n, h, hs => by
    obtain ⟨h0, h3, h4, hr⟩ := h
    obtain ⟨s0, s3, s4⟩ := hs c (by simp)
    exact ⟨s0.trans h0, s3.trans h3, s4.trans h4, hr.congr fun b hb => hs b (by simp [hb])⟩

theorem seg_append {G : Nat → Nat → Option Nat} {p : Nat} : ∀ {l1 l2 : List Nat} {v n : Option Nat},
    Seg G p v (l1 ++ l2) n ↔ Seg G p v l1 (l2.head?.or n) ∧ Seg G p (l1.getLast?.or v) l2 n
  | [], l2, v, n => by simp [Seg]
  | c :: l1, l2, v, n => by
    rw [List.cons_append, Seg, Seg, seg_append]
    have e1 : (l1 ++ l2).head?.or n = l1.head?.or (l2.head?.or n) := by
      cases l1 <;> simp
    have e2 : l1.getLast?.or (some c) = (c :: l1).getLast?.or v := by
      cases l1 with
      | nil => rfl
      | cons a l => simp [List.getLast?_cons]
    rw [e1, e2]
    simp only [and_assoc]

/-- The link behind the last one turns. -/
theorem Seg.reend {G G' : Nat → Nat → Option Nat} {p : Nat} {n n' : Option Nat} : ∀ {l : List Nat} {v : Option Nat}, Seg G p v l n →
    (∀ b ∈ l, G' b 0 = G b 0 ∧ G' b 3 = G b 3) → (∀ b ∈ l, l.getLast? ≠ some b → G' b 4 = G b 4) → (∀ b, l.getLast? = some b → G' b 4 = n') → l.Nodup → Seg G' p v l n'
  | [], _, _, _, _, _, _ => trivial
  | [c], v, h, hs, _, hl, _ => by
    obtain ⟨h0, h3, _, _⟩ := h
    obtain ⟨s0, s3⟩ := hs c (by simp)
    exact ⟨s0.trans h0, s3.trans h3, by simpa using hl c rfl, trivial⟩
  | c :: d :: l, v, h, hs, hm, hl, hn => by
    obtain ⟨h0, h3, h4, hr⟩ := h
    obtain ⟨s0, s3⟩ := hs c (by simp)
    have hlast : (c :: d :: l).getLast? = (d :: l).getLast? := by simp [List.getLast?_cons]
    have hne : (c :: d :: l).getLast? ≠ some c := by
      rw [hlast]
      intro e
      exact (List.nodup_cons.1 hn).1 (List.mem_of_getLast? e)
    refine ⟨s0.trans h0, s3.trans h3, (hm c (by simp) hne).trans (by simpa using h4), hr.reend (fun b hb => hs b (by simp [hb])) (fun b hb he => hm b (by simp [hb]) (by rw [hlast]; exact he)) (fun b hb => hl b (by rw [hlast]; exact hb)) (List.nodup_cons.1 hn).2⟩

/-- The link ahead of the first one turns. -/
theorem Seg.restart {G G' : Nat → Nat → Option Nat} {p : Nat} {n v v' : Option Nat} {l : List Nat} (h : Seg G p v l n)
    (hs : ∀ b ∈ l, G' b 0 = G b 0 ∧ G' b 4 = G b 4) (hm : ∀ b ∈ l, l.head? ≠ some b → G' b 3 = G b 3) (hl : ∀ b, l.head? = some b → G' b 3 = v') (hn : l.Nodup) : Seg G' p v' l n := by
  cases l with
  | nil => trivial
  | cons c l =>
    obtain ⟨h0, h3, h4, hr⟩ := h
    obtain ⟨s0, s4⟩ := hs c (by simp)
    refine ⟨s0.trans h0, hl c rfl, s4.trans h4, hr.congr fun b hb => ?_⟩
    obtain ⟨t0, t4⟩ := hs b (by simp [hb])
    refine ⟨t0, hm b (by simp [hb]) ?_, t4⟩
    intro e
    have : c = b := by simpa using e
    subst this
    exact (List.nodup_cons.1 hn).1 hb

theorem Seg.parent {G : Nat → Nat → Option Nat} {p : Nat} : ∀ {l : List Nat} {v n : Option Nat}, Seg G p v l n → ∀ b ∈ l, G b 0 = some p
  | [], _, _, _, _, hb => absurd hb (by simp)
  | c :: l, v, n, h, b, hb => by
    rcases List.mem_cons.1 hb with rfl | hb
    · exact h.1
    · exact h.2.2.2.parent b hb

/-- The nodes of D with the links G have the children K. -/
structure Linked (D : Nat → Option Info) (G : Nat → Nat → Option Nat) (K : Nat → List Nat) : Prop where
  dom : ∀ p c, c ∈ K p → (D p).isSome = true ∧ (D c).isSome = true
  first : ∀ p, (D p).isSome = true → G p 1 = (K p).head?
  last : ∀ p, (D p).isSome = true → G p 2 = (K p).getLast?
  seg : ∀ p, Seg G p none (K p) none
  nodup : ∀ p, (K p).Nodup
  irr : ∀ p, p ∉ K p
  free : ∀ c, (D c).isSome = true → (∀ p, c ∉ K p) → G c 0 = none ∧ G c 3 = none ∧ G c 4 = none

def updK (K : Nat → List Nat) (n : Nat) (l : List Nat) : Nat → List Nat := fun q => if q = n then l else K q
theorem updK_same (K : Nat → List Nat) (n : Nat) (l : List Nat) : updK K n l n = l := by simp [updK]
theorem updK_other (K : Nat → List Nat) {n q : Nat} (l : List Nat) (h : q ≠ n) : updK K n l q = K q := by simp [updK, h]

/-- The links when c is put between pr and nx below n. -/
def insG (G : Nat → Nat → Option Nat) (n c : Nat) (pr nx : Option Nat) : Nat → Nat → Option Nat :=
  let G1 := match pr with | some p => upd G p 4 (some c) | none => upd G n 1 (some c)
  let G2 := match nx with | some o => upd G1 o 3 (some c) | none => upd G1 n 2 (some c)
  upd (upd (upd G2 c 0 (some n)) c 3 pr) c 4 nx

/-- The links when c is taken from between pr and nx below n. -/
def remG (G : Nat → Nat → Option Nat) (n c : Nat) (pr nx : Option Nat) : Nat → Nat → Option Nat :=
  let G1 := match pr with | none => upd G n 1 nx | some _ => G
  let G2 := match nx with | some x => upd G1 x 3 pr | none => G1
  let G3 := match nx with | none => upd G2 n 2 pr | some _ => G2
  let G4 := match pr with | some p => upd G3 p 4 nx | none => G3
  upd (upd (upd G4 c 0 none) c 3 none) c 4 none

section
variable {D : Nat → Option Info} {G : Nat → Nat → Option Nat} {K : Nat → List Nat}

theorem Linked.same {p q c : Nat} (h : Linked D G K) (hp : c ∈ K p) (hq : c ∈ K q) : p = q := by
  have h1 := (h.seg p).parent c hp
  rw [(h.seg q).parent c hq] at h1
  injection h1 with h1
  exact h1.symm

theorem insG_c {n c : Nat} {pr nx : Option Nat} : insG G n c pr nx c 0 = some n ∧ insG G n c pr nx c 3 = pr ∧ insG G n c pr nx c 4 = nx := by
  refine ⟨?_, ?_, ?_⟩ <;> simp [insG, upd]
theorem insG_other {n c b k : Nat} {pr nx : Option Nat} (hc : b ≠ c) (hp : pr ≠ some b ∨ k ≠ 4) (hn : nx ≠ some b ∨ k ≠ 3) (hb : b ≠ n ∨ (k ≠ 1 ∧ k ≠ 2)) : insG G n c pr nx b k = G b k := by
  have e1 : ∀ G : Nat → Nat → Option Nat, (match pr with | some p => upd G p 4 (some c) | none => upd G n 1 (some c)) b k = G b k := by
    intro G
    cases pr with
    | none => rcases hb with h | h
              · exact upd_block _ _ _ _ h
              · exact upd_field _ _ _ _ h.1
    | some p => rcases hp with h | h
                · exact upd_block _ _ _ _ (fun e => h (by rw [e]))
                · exact upd_field _ _ _ _ h
  have e2 : ∀ G : Nat → Nat → Option Nat, (match nx with | some o => upd G o 3 (some c) | none => upd G n 2 (some c)) b k = G b k := by
    intro G
    cases nx with
    | none => rcases hb with h | h
              · exact upd_block _ _ _ _ h
              · exact upd_field _ _ _ _ h.2
    | some p => rcases hn with h | h
                · exact upd_block _ _ _ _ (fun e => h (by rw [e]))
                · exact upd_field _ _ _ _ h
  simp only [insG]
  rw [upd_block _ _ _ _ hc, upd_block _ _ _ _ hc, upd_block _ _ _ _ hc]
  exact (e2 _).trans (e1 _)
theorem insG_pr {n c p : Nat} {nx : Option Nat} (hc : p ≠ c) : insG G n c (some p) nx p 4 = some c := by
  simp only [insG]
  rw [upd_block _ _ _ _ hc, upd_block _ _ _ _ hc, upd_block _ _ _ _ hc]
  cases nx with
  | none => exact (upd_field _ _ _ _ (by omega)).trans (upd_same _ _ _ _)
  | some o => exact (upd_field _ _ _ _ (by omega)).trans (upd_same _ _ _ _)
theorem insG_nx {n c o : Nat} {pr : Option Nat} (hc : o ≠ c) : insG G n c pr (some o) o 3 = some c := by
  simp only [insG]
  rw [upd_block _ _ _ _ hc, upd_block _ _ _ _ hc, upd_block _ _ _ _ hc]
  exact upd_same _ _ _ _
theorem insG_first {n c : Nat} {nx : Option Nat} (hc : n ≠ c) : insG G n c none nx n 1 = some c := by
  simp only [insG]
  rw [upd_block _ _ _ _ hc, upd_block _ _ _ _ hc, upd_block _ _ _ _ hc]
  cases nx with
  | none => exact (upd_field _ _ _ _ (by omega)).trans (upd_same _ _ _ _)
  | some o => exact (upd_field _ _ _ _ (by omega)).trans (upd_same _ _ _ _)
theorem insG_first' {n c p : Nat} {nx : Option Nat} (hc : n ≠ c) : insG G n c (some p) nx n 1 = G n 1 := by
  simp only [insG]
  rw [upd_block _ _ _ _ hc, upd_block _ _ _ _ hc, upd_block _ _ _ _ hc]
  cases nx with
  | none => exact (upd_field _ _ _ _ (by omega)).trans (upd_field _ _ _ _ (by omega))
  | some o => exact (upd_field _ _ _ _ (by omega)).trans (upd_field _ _ _ _ (by omega))
theorem insG_last {n c : Nat} {pr : Option Nat} (hc : n ≠ c) : insG G n c pr none n 2 = some c := by
  simp only [insG]
  rw [upd_block _ _ _ _ hc, upd_block _ _ _ _ hc, upd_block _ _ _ _ hc]
  exact upd_same _ _ _ _
theorem insG_last' {n c o : Nat} {pr : Option Nat} (hc : n ≠ c) : insG G n c pr (some o) n 2 = G n 2 := by
  simp only [insG]
  rw [upd_block _ _ _ _ hc, upd_block _ _ _ _ hc, upd_block _ _ _ _ hc]
  cases pr with
  | none => exact (upd_field _ _ _ _ (by omega)).trans (upd_field _ _ _ _ (by omega))
  | some o => exact (upd_field _ _ _ _ (by omega)).trans (upd_field _ _ _ _ (by omega))

/-- A node is put among the children of another. -/
theorem Linked.insert (h : Linked D G K) {n c : Nat} {l1 l2 : List Nat} (hn : (D n).isSome = true) (hc : (D c).isSome = true) (hk : K n = l1 ++ l2) (hf : ∀ p, c ∉ K p) (hne : n ≠ c) :
    Linked D (insG G n c l1.getLast? l2.head?) (updK K n (l1 ++ c :: l2)) := by
  have hmem : ∀ b, b ∈ l1 ++ l2 → b ∈ K n := fun b hb => by rw [hk]; exact hb
  have hnc : ∀ b, b ∈ K n → b ≠ c := fun b hb e => hf n (e ▸ hb)
  have hnd := h.nodup n
  rw [hk] at hnd
  obtain ⟨hd1, hd2, hdd⟩ := List.nodup_append.1 hnd
  have hcl : c ∉ l1 ∧ c ∉ l2 := ⟨fun hb => hf n (hmem c (by simp [hb])), fun hb => hf n (hmem c (by simp [hb]))⟩
  have hnl : n ∉ l1 ∧ n ∉ l2 := ⟨fun hb => h.irr n (hmem n (by simp [hb])), fun hb => h.irr n (hmem n (by simp [hb]))⟩
  have hp : ∀ b, l1.getLast? = some b → b ∈ l1 := fun b hb => List.mem_of_getLast? hb
  have hx : ∀ b, l2.head? = some b → b ∈ l2 := fun b hb => List.mem_of_head? hb
  have hs := h.seg n
  rw [hk, seg_append] at hs
  refine ⟨?_, ?_, ?_, ?_, ?_, ?_, ?_⟩
  · intro p b hb
    by_cases e : p = n
    · subst e
      rw [updK_same] at hb
      refine ⟨hn, ?_⟩
      rcases List.mem_append.1 hb with hb | hb
      · exact (h.dom p b (hmem b (by simp [hb]))).2
      · rcases List.mem_cons.1 hb with rfl | hb
        · exact hc
        · exact (h.dom p b (hmem b (by simp [hb]))).2
    · rw [updK_other K _ e] at hb
      exact h.dom p b hb
  · intro p hp'
    by_cases e : p = n
    · subst e
      rw [updK_same]
      cases l1 with
      | nil => exact insG_first hne
      | cons a l =>
        rw [List.getLast?_cons, insG_first' hne, h.first p hn, hk]
        rfl
    · rw [updK_other K _ e, ← h.first p hp']
      by_cases e2 : p = c
      · subst e2
        simp only [insG]
        rw [upd_field _ _ _ _ (by omega), upd_field _ _ _ _ (by omega), upd_field _ _ _ _ (by omega)]
        cases l1.getLast? <;> cases l2.head? <;> simp only [] <;> simp [upd, e]
      · exact insG_other e2 (.inr (by omega)) (.inr (by omega)) (.inl e)
  · intro p hp'
    by_cases e : p = n
    · subst e
      rw [updK_same]
      cases l2 with
      | nil => rw [List.head?_nil, insG_last hne]; simp
      | cons a l =>
        rw [List.head?_cons, insG_last' hne, h.last p hn, hk]
        simp [List.getLast?_append, List.getLast?_cons]
    · rw [updK_other K _ e, ← h.last p hp']
      by_cases e2 : p = c
      · subst e2
        simp only [insG]
        rw [upd_field _ _ _ _ (by omega), upd_field _ _ _ _ (by omega), upd_field _ _ _ _ (by omega)]
        cases l1.getLast? <;> cases l2.head? <;> simp only [] <;> simp [upd, e]
      · exact insG_other e2 (.inr (by omega)) (.inr (by omega)) (.inl e)
  · intro p
    by_cases e : p = n
    · subst e
      rw [updK_same, seg_append]
      refine ⟨?_, ?_⟩
      · refine Seg.reend hs.1 (fun b hb => ?_) (fun b hb he => ?_) (fun b hb => ?_) hd1
        · have hbc : b ≠ c := fun e => hcl.1 (e ▸ hb)
          exact ⟨insG_other hbc (.inr (by omega)) (.inr (by omega)) (.inr ⟨by omega, by omega⟩), insG_other hbc (.inr (by omega)) (.inl fun e => hdd b hb b (hx b e) rfl) (.inr ⟨by omega, by omega⟩)⟩
        · have hbc : b ≠ c := fun e => hcl.1 (e ▸ hb)
          exact insG_other hbc (.inl he) (.inr (by omega)) (.inr ⟨by omega, by omega⟩)
        · rw [hb]
          exact insG_pr fun e => hcl.1 (e ▸ hp b hb)
      · obtain ⟨c0, c3, c4⟩ := insG_c (G := G) (n := p) (c := c) (pr := l1.getLast?) (nx := l2.head?)
        refine ⟨c0, by simpa using c3, by simpa using c4, ?_⟩
        refine Seg.restart hs.2 (fun b hb => ?_) (fun b hb he => ?_) (fun b hb => ?_) hd2
        · have hbc : b ≠ c := fun e => hcl.2 (e ▸ hb)
          exact ⟨insG_other hbc (.inr (by omega)) (.inr (by omega)) (.inr ⟨by omega, by omega⟩), insG_other hbc (.inl fun e => hdd b (hp b e) b hb rfl) (.inr (by omega)) (.inr ⟨by omega, by omega⟩)⟩
        · have hbc : b ≠ c := fun e => hcl.2 (e ▸ hb)
          exact insG_other hbc (.inr (by omega)) (.inl he) (.inr ⟨by omega, by omega⟩)
        · rw [hb]
          exact insG_nx fun e => hcl.2 (e ▸ hx b hb)
    · rw [updK_other K _ e]
      refine (h.seg p).congr fun b hb => ?_
      have hbn : b ∉ K n := fun hb' => e (h.same hb hb')
      have hbc : b ≠ c := fun e2 => hf p (e2 ▸ hb)
      have hbp : l1.getLast? ≠ some b := fun e2 => hbn (hmem b (by simp [hp b e2]))
      have hbx : l2.head? ≠ some b := fun e2 => hbn (hmem b (by simp [hx b e2]))
      exact ⟨insG_other hbc (.inl hbp) (.inl hbx) (.inr ⟨by omega, by omega⟩), insG_other hbc (.inl hbp) (.inl hbx) (.inr ⟨by omega, by omega⟩), insG_other hbc (.inl hbp) (.inl hbx) (.inr ⟨by omega, by omega⟩)⟩
  · intro p
    by_cases e : p = n
    · subst e
      rw [updK_same]
      refine List.nodup_append.2 ⟨hd1, List.nodup_cons.2 ⟨hcl.2, hd2⟩, ?_⟩
      intro a ha b hb
      rcases List.mem_cons.1 hb with rfl | hb
      · exact fun e => hcl.1 (e ▸ ha)
      · exact hdd a ha b hb
    · rw [updK_other K _ e]
      exact h.nodup p
  · intro p
    by_cases e : p = n
    · subst e
      rw [updK_same]
      simp [hnl.1, hnl.2, hne]
    · rw [updK_other K _ e]
      exact h.irr p
  · intro b hb hfb
    have hbc : b ≠ c := fun e => hfb n (by rw [updK_same]; simp [e])
    have hbn : ∀ p, b ∉ K p := by
      intro p hbp
      by_cases e : p = n
      · subst e
        rw [hk] at hbp
        refine hfb p ?_
        rw [updK_same]
        rcases List.mem_append.1 hbp with h1 | h1 <;> simp [h1]
      · exact hfb p (by rw [updK_other K _ e]; exact hbp)
    have hbp : l1.getLast? ≠ some b := fun e2 => hbn n (hmem b (by simp [hp b e2]))
    have hbx : l2.head? ≠ some b := fun e2 => hbn n (hmem b (by simp [hx b e2]))
    obtain ⟨f0, f3, f4⟩ := h.free b hb hbn
    exact ⟨(insG_other hbc (.inl hbp) (.inl hbx) (.inr ⟨by omega, by omega⟩)).trans f0, (insG_other hbc (.inl hbp) (.inl hbx) (.inr ⟨by omega, by omega⟩)).trans f3, (insG_other hbc (.inl hbp) (.inl hbx) (.inr ⟨by omega, by omega⟩)).trans f4⟩

theorem remG_c {n c : Nat} {pr nx : Option Nat} : remG G n c pr nx c 0 = none ∧ remG G n c pr nx c 3 = none ∧ remG G n c pr nx c 4 = none := by
  refine ⟨?_, ?_, ?_⟩ <;> simp [remG, upd]
theorem remG_other {n c b k : Nat} {pr nx : Option Nat} (hc : b ≠ c) (hp : pr ≠ some b ∨ k ≠ 4) (hn : nx ≠ some b ∨ k ≠ 3) (hb : b ≠ n ∨ (k ≠ 1 ∧ k ≠ 2)) : remG G n c pr nx b k = G b k := by
  have e1 : ∀ v : Option Nat, ∀ G : Nat → Nat → Option Nat, upd G n 1 v b k = G b k := by
    intro v G
    rcases hb with h | h
    · exact upd_block _ _ _ _ h
    · exact upd_field _ _ _ _ h.1
  have e2 : ∀ v : Option Nat, ∀ G : Nat → Nat → Option Nat, upd G n 2 v b k = G b k := by
    intro v G
    rcases hb with h | h
    · exact upd_block _ _ _ _ h
    · exact upd_field _ _ _ _ h.2
  have e3 : ∀ v : Option Nat, ∀ x, nx = some x → ∀ G : Nat → Nat → Option Nat, upd G x 3 v b k = G b k := by
    intro v x hx G
    rcases hn with h | h
    · exact upd_block _ _ _ _ (fun e => h (by rw [e, hx]))
    · exact upd_field _ _ _ _ h
  have e4 : ∀ v : Option Nat, ∀ x, pr = some x → ∀ G : Nat → Nat → Option Nat, upd G x 4 v b k = G b k := by
    intro v x hx G
    rcases hp with h | h
    · exact upd_block _ _ _ _ (fun e => h (by rw [e, hx]))
    · exact upd_field _ _ _ _ h
  simp only [remG]
  rw [upd_block _ _ _ _ hc, upd_block _ _ _ _ hc, upd_block _ _ _ _ hc]
  cases pr with
  | none =>
    cases nx with
    | none => exact (e2 _ _).trans (e1 _ _)
    | some x => exact (e3 _ x rfl _).trans (e1 _ _)
  | some p =>
    cases nx with
    | none => exact (e4 _ p rfl _).trans (e2 _ _)
    | some x => exact (e4 _ p rfl _).trans (e3 _ x rfl _)
theorem remG_pr {n c p : Nat} {nx : Option Nat} (hc : p ≠ c) : remG G n c (some p) nx p 4 = nx := by
  simp only [remG]
  rw [upd_block _ _ _ _ hc, upd_block _ _ _ _ hc, upd_block _ _ _ _ hc]
  exact upd_same _ _ _ _
theorem remG_nx {n c o : Nat} {pr : Option Nat} (hc : o ≠ c) : remG G n c pr (some o) o 3 = pr := by
  simp only [remG]
  rw [upd_block _ _ _ _ hc, upd_block _ _ _ _ hc, upd_block _ _ _ _ hc]
  cases pr with
  | none => exact upd_same _ _ _ _
  | some p => exact (upd_field _ _ _ _ (by omega)).trans (upd_same _ _ _ _)
theorem remG_first {n c : Nat} {nx : Option Nat} (hc : n ≠ c) : remG G n c none nx n 1 = nx := by
  simp only [remG]
  rw [upd_block _ _ _ _ hc, upd_block _ _ _ _ hc, upd_block _ _ _ _ hc]
  cases nx with
  | none => exact (upd_field _ _ _ _ (by omega)).trans (upd_same _ _ _ _)
  | some o => exact (upd_field _ _ _ _ (by omega)).trans (upd_same _ _ _ _)
theorem remG_first' {n c p : Nat} {nx : Option Nat} (hc : n ≠ c) : remG G n c (some p) nx n 1 = G n 1 := by
  simp only [remG]
  rw [upd_block _ _ _ _ hc, upd_block _ _ _ _ hc, upd_block _ _ _ _ hc]
  cases nx with
  | none => exact (upd_field _ _ _ _ (by omega)).trans (upd_field _ _ _ _ (by omega))
  | some o => exact (upd_field _ _ _ _ (by omega)).trans (upd_field _ _ _ _ (by omega))
theorem remG_last {n c : Nat} {pr : Option Nat} (hc : n ≠ c) : remG G n c pr none n 2 = pr := by
  simp only [remG]
  rw [upd_block _ _ _ _ hc, upd_block _ _ _ _ hc, upd_block _ _ _ _ hc]
  cases pr with
  | none => exact upd_same _ _ _ _
  | some p => exact (upd_field _ _ _ _ (by omega)).trans (upd_same _ _ _ _)
theorem remG_last' {n c o : Nat} {pr : Option Nat} (hc : n ≠ c) : remG G n c pr (some o) n 2 = G n 2 := by
  simp only [remG]
  rw [upd_block _ _ _ _ hc, upd_block _ _ _ _ hc, upd_block _ _ _ _ hc]
  cases pr with
  | none => exact (upd_field _ _ _ _ (by omega)).trans (upd_field _ _ _ _ (by omega))
  | some o => exact (upd_field _ _ _ _ (by omega)).trans (upd_field _ _ _ _ (by omega))

/-- A node is taken from among the children of another. -/
theorem Linked.remove (h : Linked D G K) {n c : Nat} {l1 l2 : List Nat} (hk : K n = l1 ++ c :: l2) :
    Linked D (remG G n c l1.getLast? l2.head?) (updK K n (l1 ++ l2)) := by
  have hmem : ∀ b, b ∈ l1 ++ l2 → b ∈ K n := fun b hb => by
    rw [hk]
    rcases List.mem_append.1 hb with h1 | h1 <;> simp [h1]
  have hcK : c ∈ K n := by rw [hk]; simp
  obtain ⟨hn, hc⟩ := h.dom n c hcK
  have hne : n ≠ c := fun e => h.irr n (e ▸ hcK)
  have hnd := h.nodup n
  rw [hk] at hnd
  obtain ⟨hd1, hdc, hdd⟩ := List.nodup_append.1 hnd
  obtain ⟨hc2, hd2⟩ := List.nodup_cons.1 hdc
  have hcl : c ∉ l1 ∧ c ∉ l2 := ⟨fun hb => hdd c hb c (by simp) rfl, hc2⟩
  have hd12 : ∀ b ∈ l1, b ∉ l2 := fun b hb hb2 => hdd b hb b (by simp [hb2]) rfl
  have hp : ∀ b, l1.getLast? = some b → b ∈ l1 := fun b hb => List.mem_of_getLast? hb
  have hx : ∀ b, l2.head? = some b → b ∈ l2 := fun b hb => List.mem_of_head? hb
  have hs := h.seg n
  rw [hk, seg_append] at hs
  obtain ⟨hs1, hs2⟩ := hs
  obtain ⟨_, _, _, hs3⟩ := hs2
  refine ⟨?_, ?_, ?_, ?_, ?_, ?_, ?_⟩
  · intro p b hb
    by_cases e : p = n
    · subst e
      rw [updK_same] at hb
      exact h.dom p b (hmem b hb)
    · rw [updK_other K _ e] at hb
      exact h.dom p b hb
  · intro p hp'
    by_cases e : p = n
    · subst e
      rw [updK_same]
      cases l1 with
      | nil => exact remG_first hne
      | cons a l =>
        rw [List.getLast?_cons, remG_first' hne, h.first p hn, hk]
        rfl
    · rw [updK_other K _ e, ← h.first p hp']
      by_cases e2 : p = c
      · subst e2
        simp only [remG]
        rw [upd_field _ _ _ _ (by omega), upd_field _ _ _ _ (by omega), upd_field _ _ _ _ (by omega)]
        cases l1.getLast? <;> cases l2.head? <;> simp only [] <;> simp [upd, e]
      · exact remG_other e2 (.inr (by omega)) (.inr (by omega)) (.inl e)
  · intro p hp'
    by_cases e : p = n
    · subst e
      rw [updK_same]
      cases l2 with
      | nil => rw [List.head?_nil, remG_last hne]; simp
      | cons a l =>
        rw [List.head?_cons, remG_last' hne, h.last p hn, hk]
        simp [List.getLast?_append, List.getLast?_cons]
    · rw [updK_other K _ e, ← h.last p hp']
      by_cases e2 : p = c
      · subst e2
        simp only [remG]
        rw [upd_field _ _ _ _ (by omega), upd_field _ _ _ _ (by omega), upd_field _ _ _ _ (by omega)]
        cases l1.getLast? <;> cases l2.head? <;> simp only [] <;> simp [upd, e]
      · exact remG_other e2 (.inr (by omega)) (.inr (by omega)) (.inl e)
  · intro p
    by_cases e : p = n
    · subst e
      rw [updK_same, seg_append]
      refine ⟨?_, ?_⟩
      · refine Seg.reend hs1 (fun b hb => ?_) (fun b hb he => ?_) (fun b hb => ?_) hd1
        · have hbc : b ≠ c := fun e => hcl.1 (e ▸ hb)
          exact ⟨remG_other hbc (.inr (by omega)) (.inr (by omega)) (.inr ⟨by omega, by omega⟩), remG_other hbc (.inr (by omega)) (.inl fun e => hd12 b hb (hx b e)) (.inr ⟨by omega, by omega⟩)⟩
        · have hbc : b ≠ c := fun e => hcl.1 (e ▸ hb)
          exact remG_other hbc (.inl he) (.inr (by omega)) (.inr ⟨by omega, by omega⟩)
        · have hbc : b ≠ c := fun e => hcl.1 (e ▸ hp b hb)
          rw [hb, remG_pr hbc]
          simp
      · refine Seg.restart hs3 (fun b hb => ?_) (fun b hb he => ?_) (fun b hb => ?_) hd2
        · have hbc : b ≠ c := fun e => hcl.2 (e ▸ hb)
          exact ⟨remG_other hbc (.inr (by omega)) (.inr (by omega)) (.inr ⟨by omega, by omega⟩), remG_other hbc (.inl fun e => hd12 b (hp b e) hb) (.inr (by omega)) (.inr ⟨by omega, by omega⟩)⟩
        · have hbc : b ≠ c := fun e => hcl.2 (e ▸ hb)
          exact remG_other hbc (.inr (by omega)) (.inl he) (.inr ⟨by omega, by omega⟩)
        · have hbc : b ≠ c := fun e => hcl.2 (e ▸ hx b hb)
          rw [hb, remG_nx hbc]
          simp
    · rw [updK_other K _ e]
      refine (h.seg p).congr fun b hb => ?_
      have hbn : b ∉ K n := fun hb' => e (h.same hb hb')
      have hbc : b ≠ c := fun e2 => hbn (e2 ▸ hcK)
      have hbp : l1.getLast? ≠ some b := fun e2 => hbn (hmem b (by simp [hp b e2]))
      have hbx : l2.head? ≠ some b := fun e2 => hbn (hmem b (by simp [hx b e2]))
      exact ⟨remG_other hbc (.inl hbp) (.inl hbx) (.inr ⟨by omega, by omega⟩), remG_other hbc (.inl hbp) (.inl hbx) (.inr ⟨by omega, by omega⟩), remG_other hbc (.inl hbp) (.inl hbx) (.inr ⟨by omega, by omega⟩)⟩
  · intro p
    by_cases e : p = n
    · subst e
      rw [updK_same]
      exact List.nodup_append.2 ⟨hd1, hd2, fun a ha b hb e => hd12 a ha (e ▸ hb)⟩
    · rw [updK_other K _ e]
      exact h.nodup p
  · intro p
    by_cases e : p = n
    · subst e
      rw [updK_same]
      exact fun hb => h.irr p (hmem p hb)
    · rw [updK_other K _ e]
      exact h.irr p
  · intro b hb hfb
    by_cases hbc : b = c
    · subst hbc
      exact remG_c
    · have hbn : ∀ p, b ∉ K p := by
        intro p hbp
        by_cases e : p = n
        · subst e
          rw [hk] at hbp
          refine hfb p ?_
          rw [updK_same]
          rcases List.mem_append.1 hbp with h1 | h1
          · simp [h1]
          · rcases List.mem_cons.1 h1 with h1 | h1
            · exact absurd h1 hbc
            · simp [h1]
        · exact hfb p (by rw [updK_other K _ e]; exact hbp)
      have hbp : l1.getLast? ≠ some b := fun e2 => hbn n (hmem b (by simp [hp b e2]))
      have hbx : l2.head? ≠ some b := fun e2 => hbn n (hmem b (by simp [hx b e2]))
      obtain ⟨f0, f3, f4⟩ := h.free b hb hbn
      exact ⟨(remG_other hbc (.inl hbp) (.inl hbx) (.inr ⟨by omega, by omega⟩)).trans f0, (remG_other hbc (.inl hbp) (.inl hbx) (.inr ⟨by omega, by omega⟩)).trans f3, (remG_other hbc (.inl hbp) (.inl hbx) (.inr ⟨by omega, by omega⟩)).trans f4⟩
end

/-! ### New nodes -/
def newD (D : Nat → Option Info) (b : Nat) (d : Info) : Nat → Option Info := fun q => if q = b then some d else D q
def newG (G : Nat → Nat → Option Nat) (b : Nat) : Nat → Nat → Option Nat := fun q k => if q = b then none else G q k
theorem newD_same (D : Nat → Option Info) (b : Nat) (d : Info) : newD D b d b = some d := by simp [newD]
theorem newD_other (D : Nat → Option Info) {b q : Nat} (d : Info) (h : q ≠ b) : newD D b d q = D q := by simp [newD, h]

section
variable {D : Nat → Option Info} {G : Nat → Nat → Option Nat} {K : Nat → List Nat} {W : World}

theorem Nodes.fresh (h : Nodes W D G) : D W.heap.size = none := by
  cases hd : D W.heap.size with
  | none => rfl
  | some d => exact absurd (h.lt hd) (by omega)

theorem Nodes.alloc (h : Nodes W D G) (d : Info) : Nodes (W.alloc (.cells (nodeCells (fun _ => none) d) 50)) (newD D W.heap.size d) (newG G W.heap.size) := by
  intro b x hb
  by_cases e : b = W.heap.size
  · subst e
    rw [newD_same] at hb
    cases hb
    rw [show newG G W.heap.size W.heap.size = (fun _ => none) from by funext k; simp [newG]]
    exact heap_alloc_new W _
  · rw [newD_other D d e] at hb
    rw [show newG G W.heap.size b = G b from by funext k; simp [newG, e]]
    exact (Below.heap_alloc W _ b (h.lt hb)).trans (h b x hb)

theorem Linked.new (h : Linked D G K) {b : Nat} (hb : D b = none) (d : Info) : Linked (newD D b d) (newG G b) K := by
  have hK : ∀ p, b ∉ K p := fun p hp => by have := (h.dom p b hp).2; rw [hb] at this; cases this
  have hKb : K b = [] := by
    cases hk : K b with
    | nil => rfl
    | cons c l => have := (h.dom b c (by rw [hk]; simp)).1; rw [hb] at this; cases this
  have hg : ∀ q k, q ≠ b → newG G b q k = G q k := fun q k e => by simp [newG, e]
  have hgb : ∀ k, newG G b b k = none := fun k => by simp [newG]
  refine ⟨?_, ?_, ?_, ?_, h.nodup, h.irr, ?_⟩
  · intro p c hc
    obtain ⟨h1, h2⟩ := h.dom p c hc
    have e1 : p ≠ b := fun e => by rw [e, hb] at h1; cases h1
    have e2 : c ≠ b := fun e => by rw [e, hb] at h2; cases h2
    rw [newD_other D d e1, newD_other D d e2]
    exact ⟨h1, h2⟩
  · intro p hp
    by_cases e : p = b
    · subst e; rw [hgb, hKb]; rfl
    · rw [newD_other D d e] at hp
      rw [hg _ _ e]
      exact h.first p hp
  · intro p hp
    by_cases e : p = b
    · subst e; rw [hgb, hKb]; rfl
    · rw [newD_other D d e] at hp
      rw [hg _ _ e]
      exact h.last p hp
  · intro p
    refine (h.seg p).congr fun c hc => ?_
    have e : c ≠ b := fun e => hK p (e ▸ hc)
    exact ⟨hg _ _ e, hg _ _ e, hg _ _ e⟩
  · intro c hc hf
    by_cases e : c = b
    · subst e; exact ⟨hgb 0, hgb 3, hgb 4⟩
    · rw [newD_other D d e] at hc
      rw [hg _ _ e, hg _ _ e, hg _ _ e]
      exact h.free c hc hf

/-- All links of a node of a forest lie in D. -/
theorem Linked.next (h : Linked D G K) {p c : Nat} (l1 l2 : List Nat) (hk : K p = l1 ++ c :: l2) : G c 0 = some p ∧ G c 3 = l1.getLast? ∧ G c 4 = l2.head? := by
  have hs := h.seg p
  rw [hk, seg_append] at hs
  obtain ⟨_, h0, h3, h4, _⟩ := hs
  exact ⟨h0, by simpa using h3, by simpa using h4⟩

theorem nil_or_snoc (l : List Nat) : l = [] ∨ ∃ l' p, l = l' ++ [p] := by
  rcases List.eq_nil_or_concat l with h | ⟨l', p, h⟩
  · exact .inl h
  · exact .inr ⟨l', p, by rw [h, List.concat_eq_append]⟩
theorem some_of {D : Nat → Option Info} {b : Nat} (h : (D b).isSome = true) : ∃ d, D b = some d := Option.isSome_iff_exists.1 h

/-- AppendChild. -/
theorem appendChild_any {w : World} (hN : Nodes w D G) (hL : Linked D G K) {n c : Nat} (hn : (D n).isSome = true) (hc : (D c).isSome = true) (hf : ∀ p, c ∉ K p) (hne : n ≠ c) :
    Calls Try.prog 15 #[ptr (some n), ptr (some c)] w fun e w' => e = .returned (.tuple #[]) ∧ ∃ G', Nodes w' D G' ∧ Linked D G' (updK K n (K n ++ [c])) ∧ Kept D w w' := by
  obtain ⟨f0, f3, f4⟩ := hL.free c hc hf
  have hI := hL.insert (l1 := K n) (l2 := []) hn hc (by simp) hf hne
  obtain ⟨dn, hdn⟩ := some_of hn
  obtain ⟨dc, hdc⟩ := some_of hc
  have hlast := hL.last n hn
  cases hk : (K n).getLast? with
  | none =>
    rw [hk] at hI hlast
    refine (append_first hN hdn hdc f0 f3 f4 hlast).mono ?_
    rintro e w' ⟨rfl, hN', hK'⟩
    refine ⟨rfl, _, hN', ?_, hK'⟩
    have e1 : insG G n c none none = upd (upd (upd (upd G n 1 (some c)) n 2 (some c)) c 0 (some n)) c 3 none := by
      funext b k
      simp only [insG, upd]
      by_cases hb : b = c <;> by_cases hk4 : k = 4 <;> simp [hb, hk4, f4, hne.symm]
    rw [← e1]
    exact hI
  | some l =>
    rw [hk] at hI hlast
    have hlK : l ∈ K n := List.mem_of_getLast? hk
    obtain ⟨dl, hdl⟩ := some_of (hL.dom n l hlK).2
    have hcl : c ≠ l := fun e => hf n (e ▸ hlK)
    refine (append_last hN hdn hdc hdl hcl f0 f3 f4 hlast).mono ?_
    rintro e w' ⟨rfl, hN', hK'⟩
    refine ⟨rfl, _, hN', ?_, hK'⟩
    have e1 : insG G n c (some l) none = upd (upd (upd (upd G l 4 (some c)) n 2 (some c)) c 0 (some n)) c 3 (some l) := by
      funext b k
      simp only [insG, upd]
      by_cases hb : b = c <;> by_cases hk4 : k = 4 <;> simp [hb, hk4, f4, hcl]
    rw [← e1]
    exact hI

/-- InsertBefore. -/
theorem insertBefore_any {w : World} (hN : Nodes w D G) (hL : Linked D G K) {n c : Nat} {l1 l2 : List Nat} (hn : (D n).isSome = true) (hc : (D c).isSome = true) (hk : K n = l1 ++ l2) (hf : ∀ p, c ∉ K p) (hne : n ≠ c) :
    Calls Try.prog 32 #[ptr (some n), ptr (some c), ptr l2.head?] w fun e w' => e = .returned (.tuple #[]) ∧ ∃ G', Nodes w' D G' ∧ Linked D G' (updK K n (l1 ++ c :: l2)) ∧ Kept D w w' := by
  obtain ⟨f0, f3, f4⟩ := hL.free c hc hf
  have hI := hL.insert hn hc hk hf hne
  obtain ⟨dn, hdn⟩ := some_of hn
  obtain ⟨dc, hdc⟩ := some_of hc
  have hlast := hL.last n hn
  cases l2 with
  | nil =>
    rw [List.append_nil] at hk
    rw [hk] at hlast
    cases h1 : l1.getLast? with
    | none =>
      rw [h1] at hI hlast
      refine (insert_first hN hdn hdc f0 f3 f4 hlast).mono ?_
      rintro e w' ⟨rfl, hN', hK'⟩
      exact ⟨rfl, _, hN', hI, hK'⟩
    | some l =>
      rw [h1] at hI hlast
      have hlK : l ∈ K n := by rw [hk]; exact List.mem_of_getLast? h1
      obtain ⟨dl, hdl⟩ := some_of (hL.dom n l hlK).2
      have hcl : c ≠ l := fun e => hf n (e ▸ hlK)
      refine (insert_last hN hdn hdc hdl hcl f0 f3 f4 hlast).mono ?_
      rintro e w' ⟨rfl, hN', hK'⟩
      exact ⟨rfl, _, hN', hI, hK'⟩
  | cons o l2 =>
    have hoK : o ∈ K n := by rw [hk]; simp
    obtain ⟨do_, hdo⟩ := some_of (hL.dom n o hoK).2
    have hco : c ≠ o := fun e => hf n (e ▸ hoK)
    obtain ⟨_, o3, _⟩ := hL.next l1 l2 hk
    cases h1 : l1.getLast? with
    | none =>
      rw [h1] at hI o3
      refine (insert_head hN hdn hdc hdo hco f0 f3 f4 o3).mono ?_
      rintro e w' ⟨rfl, hN', hK'⟩
      exact ⟨rfl, _, hN', hI, hK'⟩
    | some p =>
      rw [h1] at hI o3
      have hpK : p ∈ K n := by rw [hk]; simp [List.mem_of_getLast? h1]
      obtain ⟨dp, hdp⟩ := some_of (hL.dom n p hpK).2
      have hcp : c ≠ p := fun e => hf n (e ▸ hpK)
      refine (insert_mid hN hdn hdc hdo hdp hco hcp f0 f3 f4 o3).mono ?_
      rintro e w' ⟨rfl, hN', hK'⟩
      exact ⟨rfl, _, hN', hI, hK'⟩

/-- RemoveChild. -/
theorem removeChild_any {w : World} (hN : Nodes w D G) (hL : Linked D G K) {n c : Nat} {l1 l2 : List Nat} (hk : K n = l1 ++ c :: l2) :
    Calls Try.prog 31 #[ptr (some n), ptr (some c)] w fun e w' => e = .returned (.tuple #[]) ∧ ∃ G', Nodes w' D G' ∧ Linked D G' (updK K n (l1 ++ l2)) ∧ Kept D w w' := by
  have hI := hL.remove hk
  have hcK : c ∈ K n := by rw [hk]; simp
  obtain ⟨hn, hc⟩ := hL.dom n c hcK
  have hnc : n ≠ c := fun e => hL.irr n (e ▸ hcK)
  obtain ⟨dn, hdn⟩ := some_of hn
  obtain ⟨dc, hdc⟩ := some_of hc
  obtain ⟨c0, c3, c4⟩ := hL.next l1 l2 hk
  have hfirst := hL.first n hn
  have hlast := hL.last n hn
  have hnd := hL.nodup n
  rw [hk] at hfirst hlast hnd
  obtain ⟨hd1, hdc', hdd⟩ := List.nodup_append.1 hnd
  obtain ⟨hc2, hd2⟩ := List.nodup_cons.1 hdc'
  have hin1 : ∀ b, b ∈ l1 → b ∈ K n := fun b hb => by rw [hk]; simp [hb]
  have hin2 : ∀ b, b ∈ l2 → b ∈ K n := fun b hb => by rw [hk]; simp [hb]
  have hnb : ∀ b, b ∈ K n → n ≠ b := fun b hb e => hL.irr n (e ▸ hb)
  rcases nil_or_snoc l1 with rfl | ⟨l1', p, rfl⟩
  · cases l2 with
    | nil =>
      refine (remove_only hN hdn hdc hnc c0 hfirst c4 hlast c3).mono ?_
      rintro e w' ⟨rfl, hN', hK'⟩
      exact ⟨rfl, _, hN', hI, hK'⟩
    | cons x l2 =>
      have hxK := hin2 x (by simp)
      obtain ⟨dx, hdx⟩ := some_of (hL.dom n x hxK).2
      have hcx : c ≠ x := fun e => hc2 (e ▸ by simp)
      obtain ⟨l, hl⟩ : ∃ l, (x :: l2).getLast? = some l := ⟨_, List.getLast?_cons⟩
      have hlm : l ∈ x :: l2 := List.mem_of_getLast? hl
      obtain ⟨dl, hdl⟩ := some_of (hL.dom n l (hin2 l hlm)).2
      have hlc : l ≠ c := fun e => hc2 (e ▸ hlm)
      have hx3 : G x 3 = some c := (hL.next [c] l2 (by rw [hk]; rfl)).2.1
      rw [show (([] : List Nat) ++ c :: x :: l2).getLast? = some l from by rw [← hl]; simp [List.getLast?_cons]] at hlast
      refine (remove_head hN hdn hdc hdx hdl hnc hcx (hnb x hxK) hlc c0 hfirst c4 hlast c3 hx3).mono ?_
      rintro e w' ⟨rfl, hN', hK'⟩
      exact ⟨rfl, _, hN', hI, hK'⟩
  · have hpl : p ∈ l1' ++ [p] := by simp
    have hpK := hin1 p hpl
    obtain ⟨dp, hdp⟩ := some_of (hL.dom n p hpK).2
    have hcp : c ≠ p := fun e => hdd p hpl c (by simp) e.symm
    obtain ⟨f, hf⟩ : ∃ f, (l1' ++ [p]).head? = some f := by
      cases l1' with
      | nil => exact ⟨p, rfl⟩
      | cons a l => exact ⟨a, rfl⟩
    have hfm : f ∈ l1' ++ [p] := List.mem_of_head? hf
    obtain ⟨df, hdf⟩ := some_of (hL.dom n f (hin1 f hfm)).2
    have hfc : f ≠ c := hdd f hfm c (by simp)
    have hg1 : (l1' ++ [p]).getLast? = some p := by simp
    rw [show (l1' ++ [p] ++ c :: l2).head? = some f from by rw [List.head?_append, hf]; rfl] at hfirst
    have hp4 : G p 4 = some c := (hL.next l1' (c :: l2) (by rw [hk]; simp)).2.2
    rw [hg1] at c3 hI
    cases l2 with
    | nil =>
      rw [show (l1' ++ [p] ++ [c]).getLast? = some c from by simp] at hlast
      refine (remove_last hN hdn hdc hdp hdf hnc hcp (hnb p hpK) hfc c0 hfirst c4 hlast c3 hp4).mono ?_
      rintro e w' ⟨rfl, hN', hK'⟩
      exact ⟨rfl, _, hN', hI, hK'⟩
    | cons x l2 =>
      have hxK := hin2 x (by simp)
      obtain ⟨dx, hdx⟩ := some_of (hL.dom n x hxK).2
      have hcx : c ≠ x := fun e => hc2 (e ▸ by simp)
      obtain ⟨l, hl⟩ : ∃ l, (x :: l2).getLast? = some l := ⟨_, List.getLast?_cons⟩
      have hlm : l ∈ x :: l2 := List.mem_of_getLast? hl
      obtain ⟨dl, hdl⟩ := some_of (hL.dom n l (hin2 l hlm)).2
      have hlc : l ≠ c := fun e => hc2 (e ▸ hlm)
      have hpx : p ≠ x := hdd p hpl x (by simp)
      have hx3 : G x 3 = (l1' ++ [p] ++ [c]).getLast? := (hL.next (l1' ++ [p] ++ [c]) l2 (by rw [hk]; simp)).2.1
      rw [show (l1' ++ [p] ++ [c]).getLast? = some c from by simp] at hx3
      rw [show (l1' ++ [p] ++ c :: x :: l2).getLast? = some l from by rw [← hl]; simp [List.getLast?_cons, List.getLast?_append]] at hlast
      refine (remove_mid hN hdn hdc hdp hdx hdf hdl hnc hcp (hnb p hpK) hfc hlc hcx (hnb x hxK) hpx c0 hfirst c4 hlast c3 hp4 hx3).mono ?_
      rintro e w' ⟨rfl, hN', hK'⟩
      exact ⟨rfl, _, hN', hI, hK'⟩
end
end Go.Proofs.Ytgbeohhegckonaa
