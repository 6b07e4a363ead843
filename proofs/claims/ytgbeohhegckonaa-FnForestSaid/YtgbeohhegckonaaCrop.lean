import Derived.Test.YtgbeohhegckonaaGrove
import Derived.Test.YtgbeohhegckonaaEdit
/-! What there is told of each number: eight cells; a slice of them. -/
namespace Go.Proofs.Ytgbeohhegckonaa
open Go.RowKit Go.Shelf Go.BigFrame
set_option linter.unusedSimpArgs false
set_option linter.unusedVariables false

/-- A number's text; none: the empty text. -/
def lab : Option Nat → ByteArray
  | none => ⟨#[]⟩
  | some k => decS k

abbrev Words (W : World) (v : Value) (l : List Nat) : Prop := W.ownsRow 0 9 1 v l.length (strsV (l.map decS))

/-- The eight cells told of number i. -/
def Leaf (f : Wood) (many i : Nat) (W : World) (c : List Value) : Prop :=
  ∃ vk va vb up, c = [.string (lab (f.par i)), .string (lab (prevOf f i)), .string (lab (nextOf f i)), .string (lab (f.kids i).head?), .string (lab (f.kids i).getLast?), vk, va, vb] ∧
    Chain f.par (f.par i) up ∧ Words W vk (f.kids i) ∧ Words W va up ∧ Words W vb (descs f.kids many i)

/-- A slice with the cells told of the first n numbers. -/
def Crop (f : Wood) (many base : Nat) (e : TypeId) (W : World) (v : Value) (n : Nat) : Prop :=
  ∃ cs : List (List Value), W.ownsRow base e 8 v n cs.flatten ∧ cs.length = n ∧ ∀ i c, cs[i]? = some c → Leaf f many i W c

/-- A row of another element type is no block of this row. -/
theorem own_apart {W : World} {b b' e e' s s' n n' : Nat} {v v' : Value} {xs xs' : List Value} (h : W.ownsRow b e s v n xs) (h' : W.ownsRow b' e' s' v' n' xs') (hne : e ≠ e') : ∀ k, v.ownBlock = some k → v'.ownBlock ≠ some k := by
  intro k hk hk'
  rcases h.2 with ⟨rfl, _⟩ | ⟨g, cap, cur, rfl, _, hh, _⟩
  · cases hk
  · rcases h'.2 with ⟨rfl, _⟩ | ⟨g', cap', cur', rfl, _, hh', _⟩
    · cases hk'
    · have e1 : g = k := by simpa [Value.ownBlock] using hk
      have e2 : g' = k := by simpa [Value.ownBlock] using hk'
      subst e1
      subst e2
      rw [hh] at hh'
      cases hh'
      exact hne rfl

theorem ownN_lt {W : World} {B e s n : Nat} {v : Value} {xs : List Value} (h : W.ownsRow B e s v n xs) : ∀ k, v.ownBlock = some k → k < W.heap.size ∧ B ≤ k := by
  intro k hk
  rcases h.2 with ⟨rfl, _⟩ | ⟨g, cap, cur, rfl, hb, hh, _⟩
  · cases hk
  · have : g = k := by simpa [Value.ownBlock] using hk
    subst this
    exact ⟨lt_of_block hh, hb⟩
theorem ownN_kept {W W' : World} {B e s n : Nat} {v : Value} {xs : List Value} (h : W.ownsRow B e s v n xs) (hk : ∀ k, v.ownBlock = some k → W'.heap[k]? = W.heap[k]?) : W'.ownsRow B e s v n xs := by
  refine ⟨h.1, ?_⟩
  rcases h.2 with h2 | ⟨g, cap, cur, hv, hb, hh, hr⟩
  · exact .inl h2
  · exact .inr ⟨g, cap, cur, hv, hb, (hk g (by rw [hv]; rfl)).trans hh, hr⟩
theorem ownN_below {W W' : World} {B e s n : Nat} {v : Value} {xs : List Value} (h : W.ownsRow B e s v n xs) (hb : Below W.heap.size W W') : W'.ownsRow B e s v n xs :=
  ownN_kept h fun k hk => hb.block k (ownN_lt h k hk).1
theorem ownN_mono {w : World} {B B' e s n : Nat} {v : Value} {xs : List Value} (h : w.ownsRow B e s v n xs) (hB : B' ≤ B) : w.ownsRow B' e s v n xs := by
  refine ⟨h.1, ?_⟩
  rcases h.2 with h2 | ⟨g, cap, cur, hv, hb, hr⟩
  · exact .inl h2
  · exact .inr ⟨g, cap, cur, hv, by omega, hr⟩

theorem Leaf.kept {f : Wood} {many i : Nat} {W W' : World} {c : List Value} (h : Leaf f many i W c) (hk : ∀ v n xs, W.ownsRow 0 9 1 v n xs → W'.ownsRow 0 9 1 v n xs) : Leaf f many i W' c := by
  obtain ⟨vk, va, vb, up, h1, h2, h3, h4, h5⟩ := h
  exact ⟨vk, va, vb, up, h1, h2, hk _ _ _ h3, hk _ _ _ h4, hk _ _ _ h5⟩
theorem Crop.below {f : Wood} {many base : Nat} {e : TypeId} {W W' : World} {v : Value} {n : Nat} (h : Crop f many base e W v n) (hb : Below W.heap.size W W') : Crop f many base e W' v n := by
  obtain ⟨cs, h1, h2, h3⟩ := h
  exact ⟨cs, ownN_below h1 hb, h2, fun i c hc => (h3 i c hc).kept fun v n xs h => ownN_below h hb⟩
theorem Crop.nil (f : Wood) (many base : Nat) (e : TypeId) (W : World) : Crop f many base e W (.slice none 0 0) 0 :=
  ⟨[], ⟨by simp, .inl ⟨rfl, rfl⟩⟩, rfl, fun i c hc => by simp at hc⟩

/-- One more is appended: Wm is the world in which the new cells lie. -/
theorem Crop.snoc {f : Wood} {many base : Nat} {e : TypeId} {Wm W' : World} {v v' : Value} {n : Nat} {c : List Value} {cs : List (List Value)} (h1 : Wm.ownsRow base e 8 v n cs.flatten) (h2 : cs.length = n) (h3 : ∀ i c, cs[i]? = some c → Leaf f many i Wm c) (hl : Leaf f many n Wm c) (he : e ≠ 9)
    (hown : W'.ownsRow base e 8 v' (n + 1) (cs.flatten ++ c)) (hg : Wm.grownBy W' v.ownBlock) : Crop f many base e W' v' (n + 1) := by
  have hk : ∀ u m xs, Wm.ownsRow 0 9 1 u m xs → W'.ownsRow 0 9 1 u m xs := fun u m xs hu =>
    ownN_kept hu fun k hk => hg.block k (ownN_lt hu k hk).1 (fun e' => own_apart hu h1 (fun x => he x.symm) k hk e'.symm)
  refine ⟨cs ++ [c], ?_, by simp [h2], fun i d hd => ?_⟩
  · rw [List.flatten_append]
    simpa using hown
  · by_cases hi : i < cs.length
    · rw [List.getElem?_append_left hi] at hd
      exact (h3 i d hd).kept hk
    · rw [List.getElem?_append_right (by omega)] at hd
      have hin : i = n := by
        rw [← h2]
        have := (List.getElem?_eq_some_iff.1 hd).1
        simp at this
        omega
      subst hin
      rw [h2] at hd
      simp at hd
      subst hd
      exact hl.kept hk

section
variable {P : Program} (w : World)
theorem wpList_appN {ops : Array Oper} {rest : List Oper} {o : Oper} {a : Act} {Q : Exit → Act → World → Prop} (hgd : o.guard = none) (s x : Operand) (t : TypeId)
    (ho : o.op = .call { callee := .builtin .append, args := #[s, x], argTypes := #[t, t] })
    (base : Nat) (e : TypeId) (i : TypeInfo) (z : Value) (size bytes : Nat) (ht : P.underlying t = some (.slice e)) (hi : P.info? e = some i) (hz : i.zero = some z)
    (hsize : i.size = size) (hby : i.bytes = bytes) (hzs : z.cells.size = size) (hsz : 0 < size)
    (v : Value) (n : Nat) (xs : List Value) (hs : a.eval s = v) (hown : w.ownsRow base e size v n xs)
    (ad : Addr) (m c : Nat) (news : List Value) (hl : news.length = m * size) (hx : a.eval x = .slice (some ad) m c) (hnews : ∀ j u, news[j]? = some u → w.cell? (ad.add j) = some u) (h1 : ∀ u ∈ news, u.oneCell' = true)
    (h63 : n + m ≤ maxLen) (hbytes : (n + m) * bytes ≤ 140737488355328) (hbase : base ≤ w.heap.size)
    (h : ∀ v' w', w'.ownsRow base e size v' (n + m) (xs ++ news) → w.grownBy w' v.ownBlock → (v'.ownBlock = v.ownBlock ∨ v'.ownBlock = some w.heap.size) → wpList P ops Q rest (a.put o.dst v') w') : wpList P ops Q (o :: rest) a w :=
  wpList_plain hgd fun _ hK => by
    obtain ⟨v', w', hrun, h2, h3, _, h4⟩ := run_append_own_at (P := P) w base t o.type e i z size bytes ht hi hz hsize hby hzs hsz v n xs hown ad m c news hl hnews h1 h63 hbytes hbase
    unfold Oper.wp execOp
    simp only [ho, resolve, invoke, builtin, Sem.run_bind, Sem.run_pure, Result.andThen_ok, List.map_toArray, List.map_cons, List.map_nil, hs, hx, hrun]
    exact hK _ _ (h v' w' h2 h3 h4)
end

theorem info37 : (Try.prog.info? 37).map (fun i => (i.zero, i.size, i.bytes)) = some (some (.agg #[.string ⟨#[]⟩, .string ⟨#[]⟩, .string ⟨#[]⟩, .string ⟨#[]⟩, .string ⟨#[]⟩, .slice none 0 0, .slice none 0 0, .slice none 0 0]), 8, 152) := by kernel_rfl
theorem info38 : (Try.prog.info? 38).map (fun i => (i.zero, i.size, i.bytes)) = some (some (.agg #[.string ⟨#[]⟩, .string ⟨#[]⟩, .string ⟨#[]⟩, .string ⟨#[]⟩, .string ⟨#[]⟩, .slice none 0 0, .slice none 0 0, .slice none 0 0]), 8, 152) := by kernel_rfl
theorem under33 : Try.prog.underlying 33 = some (.slice 37) := by kernel_rfl
theorem under30 : Try.prog.underlying 30 = some (.slice 38) := by kernel_rfl
theorem info44 : (Try.prog.info? 44).map (fun i => (i.zero, i.size, i.bytes)) = some (some (.pointer none), 1, 8) := by kernel_rfl
theorem under65 : Try.prog.underlying 65 = some (.slice 44) := by kernel_rfl
end Go.Proofs.Ytgbeohhegckonaa
