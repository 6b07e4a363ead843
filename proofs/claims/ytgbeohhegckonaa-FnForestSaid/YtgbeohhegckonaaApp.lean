import Derived.Test.YtgbeohhegckonaaNum
import Derived.Below
import Derived.Laws.OwnMore
import Derived.Deep.AppendLies
import Derived.Deep.Draws
import Derived.Maps.AppendAt
import Derived.RegionTactic
import Derived.OwnWalk
namespace Go.Proofs.Ytgbeohhegckonaa
open Go.RowKit Go.Shelf Go.BigFrame
set_option linter.unusedSimpArgs false
set_option linter.unusedVariables false

/-- The slice with address A, below block B, holds the cells xs. -/
def Lies (w : World) (B : Nat) (A : Option Addr) (xs : List Value) : Prop :=
  xs = [] ∨ ∃ ad, A = some ad ∧ ad.block < B ∧ ∀ j u, xs[j]? = some u → w.cell? (ad.add j) = some u

theorem block_add (a : Addr) (n : Nat) : (a.add n).block = a.block := by unfold Addr.add; split <;> rfl
theorem add_add (a : Addr) (i j : Nat) : (a.add i).add j = a.add (i + j) := by
  unfold Addr.add
  by_cases hi : i = 0 <;> by_cases hj : j = 0 <;> simp [hi, hj, Nat.add_assoc]

section
variable {w w' : World} {B B' : Nat} {A : Option Addr} {xs : List Value}
theorem Lies.keep (h : Lies w B A xs) (hk : ∀ p : Addr, p.block < B → w'.cell? p = w.cell? p) : Lies w' B A xs := by
  rcases h with h | ⟨ad, hA, hb, hc⟩
  · exact .inl h
  · exact .inr ⟨ad, hA, hb, fun j u hu => (hk _ (by rw [block_add]; exact hb)).trans (hc j u hu)⟩
theorem Lies.more (h : Lies w B A xs) (hB : B ≤ B') : Lies w B' A xs := by
  rcases h with h | ⟨ad, hA, hb, hc⟩
  · exact .inl h
  · exact .inr ⟨ad, hA, by omega, hc⟩
theorem Lies.below (h : Lies w B A xs) (hb : Below B w w') : Lies w' B A xs := h.keep fun _ hp => hb.cell hp
theorem Lies.at_ (h : Lies w B A xs) {k : Nat} {u : Value} (hu : xs[k]? = some u) : ∃ ad, A = some ad ∧ ad.block < B ∧ w.cell? (ad.add k) = some u := by
  rcases h with h | ⟨ad, hA, hb, hc⟩
  · subst h; simp at hu
  · exact ⟨ad, hA, hb, hc k u hu⟩
theorem Lies.take (h : Lies w B A xs) (k : Nat) : Lies w B A (xs.take k) := by
  rcases h with h | ⟨ad, hA, hb, hc⟩
  · exact .inl (by rw [h]; simp)
  · refine .inr ⟨ad, hA, hb, fun j u hu => hc j u ?_⟩
    rw [List.getElem?_take] at hu
    split at hu
    · exact hu
    · cases hu
theorem Lies.drop (h : Lies w B A xs) (k : Nat) {cap : Nat} (hc : xs.length ≤ cap) : Lies w B (if cap = k then A else A.map (·.add k)) (xs.drop k) := by
  rcases Nat.lt_or_ge k xs.length with hk | hk
  · rcases h with h | ⟨ad, hA, hb, hcell⟩
    · subst h; simp at hk
    · rw [if_neg (by omega)]
      refine .inr ⟨ad.add k, by rw [hA]; rfl, by rw [block_add]; exact hb, fun j u hu => ?_⟩
      rw [add_add]
      exact hcell _ u (by rw [← hu, List.getElem?_drop])
  · exact .inl (List.drop_of_length_le hk)
theorem Lies.of_own {base e n c : Nat} (h : w.ownsRow base e 1 (.slice A n c) n xs) : Lies w w.heap.size A xs := by
  rcases Nat.eq_zero_or_pos n with h0 | h0
  · exact .inl (List.eq_nil_of_length_eq_zero (by have := h.1; omega))
  · obtain ⟨g, cap, hv, _, hlt⟩ := h.form h0
    have hA : A = some ⟨g, 0, none⟩ := by injection hv
    subst hA
    exact .inr ⟨_, rfl, hlt, h.cells (g := g) rfl⟩
end

section
variable {P : Program} (w : World)

theorem run_app_nil (base : Nat) (t ty e : TypeId) (i : TypeInfo) (ht : P.underlying t = some (.slice e)) (hi : P.info? e = some i)
    (v : Value) (n : Nat) (xs : List Value) (hown : w.ownsRow base e 1 v n xs) (c : Nat) : (Builtin.append_ #[t, t] ty #[v, .slice none 0 c]).run P w = .ok v w := by
  rcases hown.2 with ⟨rfl, rfl⟩ | ⟨g, cap, cur, rfl, _, _, hnc, _⟩
  · simp [Builtin.append_, run_underlying ht, sizeOf, typeInfo, hi, Builtin.lenOf, Builtin.firstCells]
  · simp [Builtin.append_, run_underlying ht, sizeOf, typeInfo, hi, Builtin.lenOf, Builtin.firstCells, hnc, storeCells]

/-- append onto a row of the call's own, the source nil, empty or not. -/
theorem run_app (base : Nat) (t ty e : TypeId) (i : TypeInfo) (z : Value) (bytes : Nat) (ht : P.underlying t = some (.slice e)) (hi : P.info? e = some i) (hz : i.zero = some z)
    (hsize : i.size = 1) (hby : i.bytes = bytes) (hzs : z.cells.size = 1)
    (v : Value) (n : Nat) (xs : List Value) (hown : w.ownsRow base e 1 v n xs)
    (B : Nat) (A : Option Addr) (m c : Nat) (news : List Value) (hm : news.length = m) (hA : A = none → m = 0) (hr : Lies w B A news) (h1 : ∀ u ∈ news, u.oneCell' = true)
    (h63 : n + m ≤ maxLen) (hbytes : (n + m) * bytes ≤ 140737488355328) (hbase : base ≤ w.heap.size) :
    ∃ v' w', (Builtin.append_ #[t, t] ty #[v, .slice A m c]).run P w = .ok v' w' ∧ w'.ownsRow base e 1 v' (n + m) (xs ++ news) ∧ w.grownBy w' v.ownBlock ∧
      (v'.ownBlock = v.ownBlock ∨ v'.ownBlock = some w.heap.size) := by
  rcases A with _ | ad
  · have hm0 := hA rfl
    subst hm0
    have hn : news = [] := List.eq_nil_of_length_eq_zero hm
    subst hn
    exact ⟨v, w, run_app_nil w base t ty e i ht hi v n xs hown c, by simpa using hown, World.grownBy.refl w _, .inl rfl⟩
  · have hcells : ∀ j u, news[j]? = some u → w.cell? (ad.add j) = some u := by
      intro j u hu
      obtain ⟨ad', h, _, hc⟩ := hr.at_ hu
      injection h with h
      subst h
      exact hc
    obtain ⟨v', w', hrun, h2, h3, _, h5⟩ := run_append_own_at (P := P) w base t ty e i z 1 bytes ht hi hz hsize hby hzs (by decide) v n xs hown ad m c news (by omega) hcells h1 h63 hbytes hbase
    exact ⟨v', w', hrun, h2, h3, h5⟩

theorem wp_app {o : Oper} {a : Act} {K : Act → World → Prop} {Q : Exit → Act → World → Prop} (s x : Operand) (t : TypeId)
    (ho : o.op = .call { callee := .builtin .append, args := #[s, x], argTypes := #[t, t] })
    (base : Nat) (e : TypeId) (i : TypeInfo) (z : Value) (bytes : Nat) (ht : P.underlying t = some (.slice e)) (hi : P.info? e = some i) (hz : i.zero = some z)
    (hsize : i.size = 1) (hby : i.bytes = bytes) (hzs : z.cells.size = 1)
    (v : Value) (n : Nat) (xs : List Value) (hs : a.eval s = v) (hown : w.ownsRow base e 1 v n xs)
    (B : Nat) (A : Option Addr) (m c : Nat) (news : List Value) (hm : news.length = m) (hA : A = none → m = 0) (hx : a.eval x = .slice A m c) (hr : Lies w B A news) (h1 : ∀ u ∈ news, u.oneCell' = true)
    (h63 : n + m ≤ maxLen) (hbytes : (n + m) * bytes ≤ 140737488355328) (hbase : base ≤ w.heap.size)
    (h : ∀ v' w', w'.ownsRow base e 1 v' (n + m) (xs ++ news) → w.grownBy w' v.ownBlock → (v'.ownBlock = v.ownBlock ∨ v'.ownBlock = some w.heap.size) → K (a.put o.dst v') w') : o.wp P a w K Q := by
  obtain ⟨v', w', hrun, h2, h3, h4⟩ := run_app (P := P) w base t o.type e i z bytes ht hi hz hsize hby hzs v n xs hown B A m c news hm hA hr h1 h63 hbytes hbase
  unfold Oper.wp execOp
  simp only [ho, resolve, invoke, builtin, Sem.run_bind, Sem.run_pure, Result.andThen_ok, List.map_toArray, List.map_cons, List.map_nil, hs, hx, hrun]
  exact h v' w' h2 h3 h4

theorem wpList_app {ops : Array Oper} {rest : List Oper} {o : Oper} {a : Act} {Q : Exit → Act → World → Prop} (hgd : o.guard = none) (s x : Operand) (t : TypeId)
    (ho : o.op = .call { callee := .builtin .append, args := #[s, x], argTypes := #[t, t] })
    (base : Nat) (e : TypeId) (i : TypeInfo) (z : Value) (bytes : Nat) (ht : P.underlying t = some (.slice e)) (hi : P.info? e = some i) (hz : i.zero = some z)
    (hsize : i.size = 1) (hby : i.bytes = bytes) (hzs : z.cells.size = 1)
    (v : Value) (n : Nat) (xs : List Value) (hs : a.eval s = v) (hown : w.ownsRow base e 1 v n xs)
    (B : Nat) (A : Option Addr) (m c : Nat) (news : List Value) (hm : news.length = m) (hA : A = none → m = 0) (hx : a.eval x = .slice A m c) (hr : Lies w B A news) (h1 : ∀ u ∈ news, u.oneCell' = true)
    (h63 : n + m ≤ maxLen) (hbytes : (n + m) * bytes ≤ 140737488355328) (hbase : base ≤ w.heap.size)
    (h : ∀ v' w', w'.ownsRow base e 1 v' (n + m) (xs ++ news) → w.grownBy w' v.ownBlock → (v'.ownBlock = v.ownBlock ∨ v'.ownBlock = some w.heap.size) → wpList P ops Q rest (a.put o.dst v') w') : wpList P ops Q (o :: rest) a w :=
  wpList_plain hgd fun _ hK => wp_app w s x t ho base e i z bytes ht hi hz hsize hby hzs v n xs hs hown B A m c news hm hA hx hr h1 h63 hbytes hbase fun v' w' h2 h3 h4 => hK _ _ (h v' w' h2 h3 h4)

theorem step_app {ops : Array Oper} {o : Oper} {a : Act} {K : Act → World → Prop} {Q : Exit → Act → World → Prop} {E : Prop} (hgd : o.guard = none) (s x : Operand) (t : TypeId)
    (ho : o.op = .call { callee := .builtin .append, args := #[s, x], argTypes := #[t, t] })
    (base : Nat) (e : TypeId) (i : TypeInfo) (z : Value) (bytes : Nat) (ht : P.underlying t = some (.slice e)) (hi : P.info? e = some i) (hz : i.zero = some z)
    (hsize : i.size = 1) (hby : i.bytes = bytes) (hzs : z.cells.size = 1)
    (v : Value) (n : Nat) (xs : List Value) (hs : a.eval s = v) (hown : w.ownsRow base e 1 v n xs)
    (B : Nat) (A : Option Addr) (m c : Nat) (news : List Value) (hm : news.length = m) (hA : A = none → m = 0) (hx : a.eval x = .slice A m c) (hr : Lies w B A news) (h1 : ∀ u ∈ news, u.oneCell' = true)
    (h63 : n + m ≤ maxLen) (hbytes : (n + m) * bytes ≤ 140737488355328) (hbase : base ≤ w.heap.size)
    (h : ∀ v' w', w'.ownsRow base e 1 v' (n + m) (xs ++ news) → w.grownBy w' v.ownBlock → (v'.ownBlock = v.ownBlock ∨ v'.ownBlock = some w.heap.size) → K (a.put o.dst v') w') :
    if Region.wanted o (yielded ops a.tmps) = true then Oper.wp P o a w K Q else E := by
  have hw : Region.wanted o (yielded ops a.tmps) = true := by simp [Region.wanted, hgd]
  rw [if_pos hw]
  exact wp_app w s x t ho base e i z bytes ht hi hz hsize hby hzs v n xs hs hown B A m c news hm hA hx hr h1 h63 hbytes hbase h
end

theorem own_base {w : World} {base e n : Nat} {v : Value} {xs : List Value} (h : w.ownsRow base e 1 v n xs) : ∀ k, v.ownBlock = some k → base ≤ k := by
  intro k hk
  rcases h.2 with ⟨rfl, _⟩ | ⟨g, cap, cur, rfl, hb, _⟩
  · cases hk
  · have : g = k := by simpa [Value.ownBlock] using hk
    omega

theorem infoInt : (Try.prog.info? 3).map (fun i => (i.zero, i.size, i.bytes)) = some (some (.int .i64 0), 1, 8) := by kernel_rfl
theorem infoStr : (Try.prog.info? 9).map (fun i => (i.zero, i.size, i.bytes)) = some (some (.string ⟨#[]⟩), 1, 16) := by kernel_rfl
theorem underInts : Try.prog.underlying 40 = some (.slice 3) := by kernel_rfl
theorem underStrs : Try.prog.underlying 24 = some (.slice 9) := by kernel_rfl

abbrev intsV (l : List Int) : List Value := l.map (Value.int .i64)
theorem intsV_one (l : List Int) : ∀ u ∈ intsV l, u.oneCell' = true := by
  intro u hu
  obtain ⟨x, _, rfl⟩ := List.mem_map.1 hu
  rfl
end Go.Proofs.Ytgbeohhegckonaa
