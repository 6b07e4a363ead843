import Derived.Test.YtgbeohhegckonaaDesc
/-! The plain law of a forest of numbers. -/
namespace Go.Proofs.Ytgbeohhegckonaa
set_option linter.unusedSimpArgs false
set_option linter.unusedVariables false
/-- Numbers with their parents and their children. -/
structure Wood where
  par : Nat → Option Nat
  kids : Nat → List Nat

/-- Parents and children fit, and no number is above itself. -/
structure Wood.Ok (many : Nat) (f : Wood) : Prop where
  kid : ∀ p c, c ∈ f.kids p ↔ f.par c = some p
  lt : ∀ p c, c ∈ f.kids p → p < many ∧ c < many
  nodup : ∀ p, (f.kids p).Nodup
  rank : ∃ r : Nat → Nat, (∀ p c, c ∈ f.kids p → r c < r p) ∧ ∀ x, r x ≤ many

def setP (g : Nat → Option Nat) (b : Nat) (v : Option Nat) : Nat → Option Nat := fun x => if x = b then v else g x
def setL (g : Nat → List Nat) (b : Nat) (v : List Nat) : Nat → List Nat := fun x => if x = b then v else g x

/-- The chain of what stands above, from a start on. -/
def Chain (par : Nat → Option Nat) : Option Nat → List Nat → Prop
  | o, [] => o = none
  | o, x :: l => o = some x ∧ Chain par (par x) l

theorem Chain.split {par : Nat → Option Nat} : ∀ {pre rest : List Nat} {o : Option Nat}, Chain par o (pre ++ rest) → ∃ q, Chain par q rest ∧ q = rest.head?
  | [], [], o, h => ⟨none, rfl, rfl⟩
  | [], x :: l, o, h => ⟨o, h, h.1⟩
  | a :: pre, rest, o, h => Chain.split (pre := pre) h.2

theorem Chain.up {par : Nat → Option Nat} {pre : List Nat} {x : Nat} {rest : List Nat} {o : Option Nat} (h : Chain par o (pre ++ x :: rest)) : par x = rest.head? := by
  induction pre generalizing o with
  | nil =>
    cases rest with
    | nil => exact h.2
    | cons y l => exact h.2.1
  | cons a pre ih => exact ih h.2

theorem Chain.head {par : Nat → Option Nat} {l : List Nat} {o : Option Nat} (h : Chain par o l) : o = l.head? := by
  cases l with
  | nil => exact h
  | cons x l => exact h.1

theorem Chain.map {par : Nat → Option Nat} {par' : Nat → Option Nat} {B : Nat → Nat} : ∀ {l : List Nat} {o : Option Nat}, Chain par o l → (∀ x ∈ l, par' (B x) = (par x).map B) → Chain par' (o.map B) (l.map B)
  | [], o, h, _ => by cases h; rfl
  | x :: l, o, h, hB => by
    obtain ⟨rfl, h2⟩ := h
    refine ⟨rfl, ?_⟩
    rw [hB x (by simp)]
    exact h2.map fun y hy => hB y (by simp [hy])

theorem chain_len {par : Nat → Option Nat} {r : Nat → Nat} {m : Nat} (hr : ∀ c p, par c = some p → r c < r p) (hm : ∀ x, r x ≤ m) : ∀ {l : List Nat} {x : Nat}, Chain par (some x) l → r x + l.length ≤ m + 1
  | [], x, h => by cases h
  | y :: l, x, h => by
    obtain ⟨e, h2⟩ := h
    have e := Option.some.inj e
    subst e
    cases hp : par x with
    | none =>
      rw [hp] at h2
      cases l with
      | nil => have := hm x; simp; omega
      | cons z l => exact absurd h2.1 (by simp)
    | some p =>
      rw [hp] at h2
      have h3 := chain_len hr hm h2
      have h4 := hr x p hp
      simp only [List.length_cons]
      omega

theorem chain_lt {par : Nat → Option Nat} {r : Nat → Nat} (hr : ∀ c p, par c = some p → r c < r p) : ∀ {l : List Nat} {n : Nat}, Chain par (par n) l → ∀ x ∈ l, r n < r x
  | [], n, _, x, hx => by cases hx
  | y :: l, n, h, x, hx => by
    have h1 := hr n y h.1
    rcases List.mem_cons.1 hx with e | hx2
    · rw [e]; exact h1
    · have h2 := chain_lt hr h.2 x hx2
      exact Nat.lt_trans h1 h2

theorem chain_ex {par : Nat → Option Nat} {r : Nat → Nat} {m : Nat} (hr : ∀ c p, par c = some p → r c < r p) (hm : ∀ x, r x ≤ m) : ∀ (k : Nat) (o : Option Nat), (∀ x, o = some x → m - r x < k) → ∃ l, Chain par o l
  | _, none, _ => ⟨[], rfl⟩
  | 0, some x, h => absurd (h x rfl) (by omega)
  | k + 1, some x, h => by
    obtain ⟨l, hl⟩ := chain_ex hr hm k (par x) (fun p hp => by have := hr x p hp; have := h x rfl; have := hm p; omega)
    exact ⟨x :: l, rfl, hl⟩

theorem chain_unique {par : Nat → Option Nat} : ∀ {l l' : List Nat} {o : Option Nat}, Chain par o l → Chain par o l' → l = l'
  | [], [], _, _, _ => rfl
  | [], y :: l', o, h, h' => by cases h; exact absurd h'.1 (by simp)
  | x :: l, [], o, h, h' => by cases h'; exact absurd h.1 (by simp)
  | x :: l, y :: l', o, h, h' => by
    have e : x = y := by have := h.1.symm.trans h'.1; exact Option.some.inj this
    subst e
    rw [chain_unique h.2 h'.2]

/-- Above a number stands one chain, of at most so many. -/
theorem Wood.Ok.above {many : Nat} {f : Wood} (h : f.Ok many) (n : Nat) : ∃ l, Chain f.par (f.par n) l ∧ l.length ≤ many + 1 ∧ (∀ x ∈ l, x < many) ∧ n ∉ l := by
  obtain ⟨r, hr, hm⟩ := h.rank
  have hr' : ∀ c p, f.par c = some p → r c < r p := fun c p hp => hr p c ((h.kid p c).2 hp)
  obtain ⟨l, hl⟩ := chain_ex hr' hm (many + 1) (f.par n) (fun x _ => by omega)
  refine ⟨l, hl, ?_, ?_, fun hn => ?_⟩
  · cases hp : f.par n with
    | none => rw [hp] at hl; cases l with
      | nil => simp
      | cons x l => exact absurd hl.1 (by simp)
    | some p => rw [hp] at hl; have := chain_len hr' hm hl; omega
  · suffices ∀ (l : List Nat) (n : Nat), Chain f.par (f.par n) l → ∀ x ∈ l, x < many from this l n hl
    intro l
    induction l with
    | nil => intro n _ x hx; cases hx
    | cons y l ih =>
      intro n hl x hx
      rcases List.mem_cons.1 hx with rfl | hx
      · exact (h.lt _ n ((h.kid _ n).2 hl.1)).1
      · exact ih y hl.2 x hx
  · have := chain_lt hr' hl n hn
    omega

theorem deep_of_rank {K : Nat → List Nat} {r : Nat → Nat} (hr : ∀ p c, c ∈ K p → r c < r p) : ∀ (h p : Nat), r p ≤ h → Deep K h p
  | 0, p, hp => by
    show K p = []
    cases hk : K p with
    | nil => rfl
    | cons c l => have := hr p c (by rw [hk]; simp); omega
  | h + 1, p, hp => fun c hc => deep_of_rank hr h c (by have := hr p c hc; omega)
theorem Wood.Ok.deep {many : Nat} {f : Wood} (h : f.Ok many) (p : Nat) : Deep f.kids many p := by
  obtain ⟨r, hr, hm⟩ := h.rank
  exact deep_of_rank hr many p (hm p)

theorem nodup_lt_len : ∀ (m : Nat) (l : List Nat), l.Nodup → (∀ x ∈ l, x < m) → l.length ≤ m := by
  intro m
  induction m with
  | zero => intro l _ h; cases l with
    | nil => simp
    | cons x l => exact absurd (h x (by simp)) (by omega)
  | succ m ih =>
    intro l hn h
    have h1 := ih (l.erase m) (hn.erase m) (fun x hx => by
      have h2 := h x (List.mem_of_mem_erase hx)
      have h3 : x ≠ m := fun e => by subst e; exact (List.Nodup.not_mem_erase hn) hx
      omega)
    rw [List.length_erase] at h1
    split at h1 <;> omega

theorem flat_len {K : Nat → List Nat} (h : Nat) : ∀ l : List Nat, (l.flatMap fun c => c :: descs K (h + 1) c).length = l.length + ((l.flatMap K).flatMap fun c => c :: descs K h c).length
  | [] => rfl
  | c :: l => by
    rw [List.flatMap_cons, List.length_append, flat_len h l, List.flatMap_cons, List.flatMap_append, List.length_append]
    simp only [List.length_cons, descs]
    omega

theorem flat_nodup {many : Nat} {f : Wood} (h : f.Ok many) : ∀ l : List Nat, l.Nodup → (l.flatMap f.kids).Nodup
  | [], _ => List.nodup_nil
  | p :: l, hn => by
    rw [List.flatMap_cons]
    obtain ⟨h1, h2⟩ := List.nodup_cons.1 hn
    refine List.nodup_append.2 ⟨h.nodup p, flat_nodup h l h2, ?_⟩
    rintro a ha b hb rfl
    obtain ⟨q, hq, hb⟩ := List.mem_flatMap.1 hb
    have e1 := (h.kid p a).1 ha
    rw [(h.kid q a).1 hb] at e1
    cases e1
    exact h1 hq

theorem flat_lt {many : Nat} {f : Wood} (h : f.Ok many) (l : List Nat) : ∀ x ∈ l.flatMap f.kids, x < many := by
  intro x hx
  obtain ⟨q, _, hx⟩ := List.mem_flatMap.1 hx
  exact (h.lt q x hx).2

theorem descs_len {many : Nat} {f : Wood} (h : f.Ok many) : ∀ (k : Nat) (l : List Nat), l.Nodup → (∀ x ∈ l, x < many) → (l.flatMap fun c => c :: descs f.kids k c).length ≤ many * (k + 1)
  | 0, l, hn, hl => by
    have := nodup_lt_len many l hn hl
    have e : (l.flatMap fun c => c :: descs f.kids 0 c) = l := by simp [descs]
    rw [e]; omega
  | k + 1, l, hn, hl => by
    have h1 := nodup_lt_len many l hn hl
    have h2 := descs_len h k (l.flatMap f.kids) (flat_nodup h l hn) (flat_lt h l)
    rw [flat_len, Nat.mul_add many (k + 1)]
    omega
theorem Wood.Ok.below_len {many : Nat} {f : Wood} (h : f.Ok many) (k p : Nat) : (descs f.kids k p).length ≤ many * (k + 1) := by
  cases k with
  | zero => simp [descs]
  | succ k =>
    have := descs_len h k (f.kids p) (h.nodup p) (fun x hx => (h.lt p x hx).2)
    show ((f.kids p).flatMap fun c => c :: descs f.kids k c).length ≤ _
    rw [Nat.mul_add many (k + 1)]
    omega
theorem Wood.Ok.below_lt {many : Nat} {f : Wood} (h : f.Ok many) : ∀ (k p : Nat), ∀ x ∈ descs f.kids k p, x < many
  | 0, p, x, hx => by simp [descs] at hx
  | k + 1, p, x, hx => by
    obtain ⟨c, hc, hx⟩ := List.mem_flatMap.1 hx
    rcases List.mem_cons.1 hx with rfl | hx
    · exact (h.lt p x hc).2
    · exact h.below_lt k c x hx

theorem Wood.Ok.kids_len {many : Nat} {f : Wood} (h : f.Ok many) (p : Nat) : (f.kids p).length ≤ many := nodup_lt_len many _ (h.nodup p) fun x hx => (h.lt p x hx).2

/-- A rank can be brought below the number of numbers. -/
theorem rank_small {many : Nat} {K : Nat → List Nat} (hlt : ∀ p c, c ∈ K p → p < many ∧ c < many) {r : Nat → Nat} (hr : ∀ p c, c ∈ K p → r c < r p) :
    ∃ r' : Nat → Nat, (∀ p c, c ∈ K p → r' c < r' p) ∧ ∀ x, r' x ≤ many := by
  refine ⟨fun x => ((List.range many).filter fun y => decide (r y < r x)).length, fun p c hc => ?_, fun x => ?_⟩
  · have h1 := hr p c hc
    have h2 := (hlt p c hc).2
    have hsub : ((List.range many).filter fun y => decide (r y < r c)) = ((List.range many).filter fun y => decide (r y < r p)).filter fun y => decide (r y < r c) := by
      rw [List.filter_filter]
      congr 1
      funext y
      by_cases hy : r y < r c
      · simp [hy]; omega
      · simp [hy]
    show ((List.range many).filter fun y => decide (r y < r c)).length < _
    rw [hsub]
    have hle := List.length_filter_le (fun y => decide (r y < r c)) ((List.range many).filter fun y => decide (r y < r p))
    refine Nat.lt_of_le_of_ne hle fun e => ?_
    have hall := List.length_filter_eq_length_iff.1 e c (by simp [h2, h1])
    simp at hall
  · have := List.length_filter_le (fun y => decide (r y < r x)) (List.range many)
    rw [List.length_range] at this
    exact this

theorem setP_same (g : Nat → Option Nat) (b : Nat) (v : Option Nat) : setP g b v b = v := by simp [setP]
theorem setP_other (g : Nat → Option Nat) {b x : Nat} (v : Option Nat) (h : x ≠ b) : setP g b v x = g x := by simp [setP, h]
theorem setL_same (g : Nat → List Nat) (b : Nat) (v : List Nat) : setL g b v b = v := by simp [setL]
theorem setL_other (g : Nat → List Nat) {b x : Nat} (v : List Nat) (h : x ≠ b) : setL g b v x = g x := by simp [setL, h]

theorem Wood.Ok.free {many : Nat} {f : Wood} (h : f.Ok many) {b : Nat} (hb : f.par b = none) : ∀ p, b ∉ f.kids p := fun p hp => by
  rw [(h.kid p b).1 hp] at hb; cases hb

theorem Wood.Ok.insert {many : Nat} {f : Wood} (h : f.Ok many) {a b : Nat} {l1 l2 : List Nat} (ha : a < many) (hb : b < many) (hp : f.par b = none) (hk : f.kids a = l1 ++ l2) (hne : a ≠ b)
    {up : List Nat} (hu : Chain f.par (f.par a) up) (hbu : b ∉ up) : Wood.Ok many ⟨setP f.par b (some a), setL f.kids a (l1 ++ b :: l2)⟩ := by
  have hfree := h.free hp
  have hmem : ∀ x, x ∈ l1 ++ b :: l2 ↔ x = b ∨ x ∈ f.kids a := by
    intro x; rw [hk]; simp only [List.mem_append, List.mem_cons]
    constructor
    · rintro (h | h | h) <;> simp [h]
    · rintro (h | h | h) <;> simp [h]
  have hkid : ∀ p c, c ∈ setL f.kids a (l1 ++ b :: l2) p ↔ setP f.par b (some a) c = some p := by
    intro p c
    by_cases e : p = a
    · subst e
      rw [setL_same, hmem]
      by_cases e2 : c = b
      · subst e2; simp [setP_same]
      · rw [setP_other _ _ e2, ← h.kid]; simp [e2]
    · rw [setL_other _ _ e]
      by_cases e2 : c = b
      · subst e2
        rw [setP_same]
        constructor
        · intro hc; exact absurd hc (hfree p)
        · intro hc; cases hc; exact absurd rfl e
      · rw [setP_other _ _ e2]; exact h.kid p c
  have hlt : ∀ p c, c ∈ setL f.kids a (l1 ++ b :: l2) p → p < many ∧ c < many := by
    intro p c hc
    by_cases e : p = a
    · subst e
      rw [setL_same, hmem] at hc
      rcases hc with rfl | hc
      · exact ⟨ha, hb⟩
      · exact h.lt p c hc
    · rw [setL_other _ _ e] at hc
      exact h.lt p c hc
  refine ⟨hkid, hlt, fun p => ?_, ?_⟩
  · by_cases e : p = a
    · subst e
      show (setL f.kids p (l1 ++ b :: l2) p).Nodup
      rw [setL_same]
      have hn := h.nodup p
      have hf := hfree p
      rw [hk] at hn hf
      obtain ⟨h1, h2, h3⟩ := List.nodup_append.1 hn
      refine List.nodup_append.2 ⟨h1, List.nodup_cons.2 ⟨fun hx => hf (by simp [hx]), h2⟩, ?_⟩
      intro x hx y hy
      rcases List.mem_cons.1 hy with rfl | hy
      · rintro rfl; exact hf (by simp [hx])
      · exact h3 x hx y hy
    · show (setL f.kids a (l1 ++ b :: l2) p).Nodup
      rw [setL_other _ _ e]; exact h.nodup p
  · obtain ⟨r, hr, _⟩ := h.rank
    refine rank_small (r := fun x => if x = a ∨ x ∈ up then r x + r b + 1 else r x) hlt fun p c hc => ?_
    replace hc : c ∈ setL f.kids a (l1 ++ b :: l2) p := hc
    have hcb : c = b ∧ p = a ∨ c ∈ f.kids p := by
      by_cases e : p = a
      · subst e
        rw [setL_same, hmem] at hc
        rcases hc with rfl | hc
        · exact .inl ⟨rfl, rfl⟩
        · exact .inr hc
      · rw [setL_other _ _ e] at hc; exact .inr hc
    rcases hcb with ⟨rfl, rfl⟩ | hc
    · have e1 : ¬ (c = p ∨ c ∈ up) := by
        rintro (e | e)
        · exact hne e.symm
        · exact hbu e
      simp only [e1, if_false]
      simp
      omega
    · have h1 := hr p c hc
      have hpc := (h.kid p c).1 hc
      by_cases e1 : c = a ∨ c ∈ up
      · have e2 : p = a ∨ p ∈ up := by
          right
          rcases e1 with rfl | e1
          · rw [hpc] at hu
            cases up with
            | nil => cases hu
            | cons y l => have := hu.1; cases this; simp
          · obtain ⟨s, t, rfl⟩ := List.append_of_mem e1
            have := hu.up
            rw [hpc] at this
            cases t with
            | nil => cases this
            | cons y l => cases this; simp
        simp only [e1, e2, if_true]
        omega
      · simp only [e1, if_false]
        split <;> omega

theorem Wood.Ok.remove {many : Nat} {f : Wood} (h : f.Ok many) {a b : Nat} {l1 l2 : List Nat} (hk : f.kids a = l1 ++ b :: l2) : Wood.Ok many ⟨setP f.par b none, setL f.kids a (l1 ++ l2)⟩ := by
  have hn := h.nodup a
  rw [hk] at hn
  obtain ⟨h1, h2, h3⟩ := List.nodup_append.1 hn
  obtain ⟨h4, h5⟩ := List.nodup_cons.1 h2
  have hb1 : b ∉ l1 := fun e => h3 b e b (by simp) rfl
  have hmem : ∀ x, x ∈ l1 ++ l2 ↔ x ≠ b ∧ x ∈ f.kids a := by
    intro x; rw [hk]; simp only [List.mem_append, List.mem_cons]
    constructor
    · rintro (h | h)
      · exact ⟨fun e => hb1 (e ▸ h), .inl h⟩
      · exact ⟨fun e => h4 (e ▸ h), .inr (.inr h)⟩
    · rintro ⟨h0, h | h | h⟩
      · exact .inl h
      · exact absurd h h0
      · exact .inr h
  have hsub : ∀ p c, c ∈ setL f.kids a (l1 ++ l2) p → c ∈ f.kids p := by
    intro p c hc
    by_cases e : p = a
    · subst e; rw [setL_same, hmem] at hc; exact hc.2
    · rw [setL_other _ _ e] at hc; exact hc
  refine ⟨fun p c => ?_, fun p c hc => h.lt p c (hsub p c hc), fun p => ?_, ?_⟩
  · show c ∈ setL f.kids a (l1 ++ l2) p ↔ setP f.par b none c = some p
    by_cases e2 : c = b
    · subst e2
      rw [setP_same]
      refine ⟨fun hc => ?_, fun hc => by cases hc⟩
      have e3 : p = a := by
        have e4 := (h.kid p c).1 (hsub p c hc)
        rw [(h.kid a c).1 (by rw [hk]; simp)] at e4
        cases e4; rfl
      subst e3
      rw [setL_same, hmem] at hc
      exact absurd rfl hc.1
    · rw [setP_other _ _ e2, ← h.kid]
      by_cases e : p = a
      · subst e; rw [setL_same, hmem]; simp [e2]
      · rw [setL_other _ _ e]
  · show (setL f.kids a (l1 ++ l2) p).Nodup
    by_cases e : p = a
    · subst e; rw [setL_same]
      exact List.nodup_append.2 ⟨h1, h5, fun x hx y hy => h3 x hx y (by simp [hy])⟩
    · rw [setL_other _ _ e]; exact h.nodup p
  · obtain ⟨r, hr, hm⟩ := h.rank
    exact ⟨r, fun p c hc => hr p c (hsub p c hc), hm⟩

/-- What a row does. -/
inductive Deed
  | unknown
  | panics
  | taken (f : Wood)

/-- A row that names no step. -/
def Bad (many : Nat) (s : List Int) : Prop :=
  ¬ ∃ a b : Nat, a < many ∧ b < many ∧ (s = [0, (a : Int), (b : Int)] ∨ s = [2, (a : Int), (b : Int)] ∨ ∃ c : Int, s = [1, (a : Int), (b : Int), c])

inductive StepW (many : Nat) (f : Wood) : List Int → Deed → Prop
  | away {s : List Int} : StepW many f s .unknown
  | strange (a b : Nat) : a < many → b < many → f.par b ≠ some a → StepW many f [2, (a : Int), (b : Int)] .panics
  | remove (a b : Nat) (l1 l2 : List Nat) : a < many → b < many → f.kids a = l1 ++ b :: l2 → StepW many f [2, (a : Int), (b : Int)] (.taken ⟨setP f.par b none, setL f.kids a (l1 ++ l2)⟩)
  | held0 (a b : Nat) : a < many → b < many → f.par b ≠ none → StepW many f [0, (a : Int), (b : Int)] .panics
  | held1 (a b : Nat) (c : Int) : a < many → b < many → f.par b ≠ none → StepW many f [1, (a : Int), (b : Int), c] .panics
  | append (a b : Nat) (up : List Nat) : a < many → b < many → f.par b = none → a ≠ b → Chain f.par (f.par a) up → b ∉ up →
      StepW many f [0, (a : Int), (b : Int)] (.taken ⟨setP f.par b (some a), setL f.kids a (f.kids a ++ b :: [])⟩)
  | last (a b : Nat) (c : Int) (up : List Nat) : a < many → b < many → c < 0 → f.par b = none → a ≠ b → Chain f.par (f.par a) up → b ∉ up →
      StepW many f [1, (a : Int), (b : Int), c] (.taken ⟨setP f.par b (some a), setL f.kids a (f.kids a ++ b :: [])⟩)
  | insert (a b c : Nat) (l1 l2 up : List Nat) : a < many → b < many → f.par b = none → a ≠ b → Chain f.par (f.par a) up → b ∉ up → f.kids a = l1 ++ c :: l2 →
      StepW many f [1, (a : Int), (b : Int), (c : Int)] (.taken ⟨setP f.par b (some a), setL f.kids a (l1 ++ b :: c :: l2)⟩)

theorem StepW.ok {many : Nat} {f f' : Wood} {s : List Int} (h : StepW many f s (.taken f')) (hf : f.Ok many) : f'.Ok many := by
  cases h with
  | remove a b l1 l2 ha hb hk => exact hf.remove hk
  | append a b up ha hb hp hne hu hbu => exact hf.insert ha hb hp (by simp) hne hu hbu
  | last a b c up ha hb hc hp hne hu hbu => exact hf.insert ha hb hp (by simp) hne hu hbu
  | insert a b c l1 l2 up ha hb hp hne hu hbu hk => exact hf.insert ha hb hp hk hne hu hbu

/-- The numbers, each alone. -/
def wood0 : Wood := ⟨fun _ => none, fun _ => []⟩
theorem wood0_ok (many : Nat) : wood0.Ok many :=
  ⟨fun p c => by simp [wood0], fun p c hc => by simp [wood0] at hc, fun p => List.nodup_nil, fun _ => 0, fun p c hc => by simp [wood0] at hc, fun _ => Nat.zero_le _⟩

/-- The first d rows are taken, one behind the other. -/
def Took (many : Nat) (rows : List (List Int)) (d : Nat) (st : Nat → Wood) : Prop := st 0 = wood0 ∧ ∀ j, j < d → ∃ r, rows[j]? = some r ∧ StepW many (st j) r (.taken (st (j + 1)))
theorem Took.ok {many : Nat} {rows : List (List Int)} {d : Nat} {st : Nat → Wood} (h : Took many rows d st) : ∀ j, j ≤ d → (st j).Ok many
  | 0, _ => by rw [h.1]; exact wood0_ok many
  | j + 1, hj => by
    obtain ⟨r, _, hs⟩ := h.2 j (by omega)
    exact hs.ok (h.ok j (by omega))
theorem Took.next {many : Nat} {rows : List (List Int)} {d : Nat} {st : Nat → Wood} (h : Took many rows d st) {r : List Int} {f' : Wood} (hr : rows[d]? = some r) (hs : StepW many (st d) r (.taken f')) :
    Took many rows (d + 1) (fun i => if i ≤ d then st i else f') := by
  refine ⟨by simp [h.1], fun j hj => ?_⟩
  by_cases e : j = d
  · subst e
    refine ⟨r, hr, ?_⟩
    show StepW many (if j ≤ j then st j else f') r (.taken (if j + 1 ≤ j then st (j + 1) else f'))
    rw [if_pos (Nat.le_refl _), if_neg (by omega)]
    exact hs
  · obtain ⟨r', hr', hs'⟩ := h.2 j (by omega)
    refine ⟨r', hr', ?_⟩
    show StepW many (if j ≤ d then st j else f') r' (.taken (if j + 1 ≤ d then st (j + 1) else f'))
    rw [if_pos (by omega), if_pos (by omega)]
    exact hs'
end Go.Proofs.Ytgbeohhegckonaa
