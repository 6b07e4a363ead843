import Derived.Test.YtgbeohhegckonaaRange
import Derived.Test.YtgbeohhegckonaaLinks
namespace Go.Proofs.Ytgbeohhegckonaa
open Go.RowKit Go.Shelf
set_option linter.unusedSimpArgs false
set_option linter.unusedVariables false
attribute [local go_sem] Oper.semAt_some

theorem Nodes.round {W W' : World} {D : Nat → Option Info} {G : Nat → Nat → Option Nat} (h : Nodes W D G) (hr : Round W W') : Nodes W' D G :=
  fun b d hb => hr.same b _ (h b d hb) rfl

/-- How many of a list are to come from a pointer on. -/
def leftOf (l : List Nat) : Value → Nat
  | .pointer (some a) => l.length - l.idxOf a.block
  | _ => 0
theorem idxOf_at {x : Nat} {rest : List Nat} : ∀ {pre : List Nat}, x ∉ pre → (pre ++ x :: rest).idxOf x = pre.length
  | [], _ => by simp
  | a :: pre, h => by
    have h1 : a ≠ x := fun e => h (by simp [e])
    have h2 : x ∉ pre := fun e => h (by simp [e])
    rw [List.cons_append, List.idxOf_cons, idxOf_at h2]
    have : (a == x) = false := by simp [h1]
    rw [this]
    rfl
theorem leftOf_eq {l pre rest : List Nat} (h : l = pre ++ rest) (hn : l.Nodup) : leftOf l (ptr rest.head?) = rest.length := by
  cases rest with
  | nil => rfl
  | cons x rest =>
    subst h
    have hx : x ∉ pre := fun hx => (List.nodup_append.1 hn).2.2 x hx x (by simp) rfl
    show (pre ++ x :: rest).length - (pre ++ x :: rest).idxOf x = _
    rw [idxOf_at hx]
    simp

theorem cell_alloc_old {w : World} {a : Addr} {v : Value} (o : Obj) (h : w.cell? a = some v) : (w.alloc o).cell? a = some v := cell_kept h (World.grownBy_alloc w o none) (fun r e => by cases e)

set_option maxRecDepth 100000 in
/-- n.ChildNodes(): the receiver is boxed; the function value has captured the box. -/
theorem childNodes_in {F : Fence} (hF : ∀ f, F.fn f) (hro : F.round = none) (n : Nat) {p : Nat} {u : Option Addr} (w : World) (hp : w.cell? ⟨p, 1, none⟩ = some (.pointer u)) :
    CallsIn F n Try.prog 19 #[ptr (some p)] w fun e w' => e = .returned (.func (.func 35) #[] #[.pointer (some ⟨w.heap.size, 0, none⟩)]) ∧ w' = w.alloc (.cells #[ptr (some p)] 44) := by
  have hp1 := fun o => cell_alloc_old o hp
  refine callsIn_of_wp Try.func19 rfl (hF _) ?_ hro
  simp only [ptr, Option.map_some, Try.ntmps19, List.size_toArray, List.length_cons, List.length_nil, Nat.reduceAdd, Nat.reduceSub, Array.replicate_succ, Array.replicate_zero, List.push_toArray, List.append_toArray, List.nil_append, List.cons_append]
  gi_wp2
  go_ret
  exact ⟨rfl, rfl⟩

set_option maxRecDepth 100000 in
theorem descendants_in {F : Fence} (hF : ∀ f, F.fn f) (hro : F.round = none) (n : Nat) {p : Nat} {u : Option Addr} (w : World) (hp : w.cell? ⟨p, 1, none⟩ = some (.pointer u)) :
    CallsIn F n Try.prog 18 #[ptr (some p)] w fun e w' => e = .returned (.func (.func 33) #[] #[.pointer (some ⟨w.heap.size, 0, none⟩)]) ∧ w' = w.alloc (.cells #[ptr (some p)] 44) := by
  have hp1 := fun o => cell_alloc_old o hp
  refine callsIn_of_wp Try.func18 rfl (hF _) ?_ hro
  simp only [ptr, Option.map_some, Try.ntmps18, List.size_toArray, List.length_cons, List.length_nil, Nat.reduceAdd, Nat.reduceSub, Array.replicate_succ, Array.replicate_zero, List.push_toArray, List.append_toArray, List.nil_append, List.cons_append]
  gi_wp2
  go_ret
  exact ⟨rfl, rfl⟩

set_option maxRecDepth 100000 in
set_option maxHeartbeats 2000000 in
/-- The function value of n.ChildNodes() hands out n's children. -/
theorem childNodes_list {F : Fence} (hd : F.depth = none) (hF : ∀ f, F.fn f) (hro : F.round = none) {D : Nat → Option Info} {G : Nat → Nat → Option Nat} {K : Nat → List Nat} {w : World} (hN : Nodes w D G) (hL : Linked D G K)
    {p Bn : Nat} (hp : (D p).isSome = true) (hB : Boxed w Bn 44 (ptr (some p))) :
    SeqList F Try.prog 35 #[.pointer (some ⟨Bn, 0, none⟩)] (fun c => #[ptr (some c)]) (K p) w := by
  intro n l J W hr hJ hY h0
  have hdd : ∀ k : Nat, (F.depth.isSome = true → 1 ≤ k) := fun k h => by rw [hd] at h; cases h
  obtain ⟨dp, hdp⟩ := some_of hp
  have hB1 : Boxed W Bn 44 (ptr (some p)) := hr.same _ _ hB rfl
  have hN1 := hN.round hr
  have kB := hB1.cell
  have k1 := hN1.c1 hdp
  rw [hL.first p hp] at k1
  obtain ⟨u, hu⟩ : ∃ u : Option Addr, ptr (K p).head? = .pointer u := ⟨_, rfl⟩
  rw [hu] at k1
  have HU := Lib.hid hu
  clear hu
  simp only [ptr, Option.map_some] at kB
  refine callsIn_of_wp Try.func35 rfl (hF _) ?_ hro
  simp only [Try.ntmps35, List.size_toArray, List.length_cons, List.length_nil, Nat.reduceAdd, Nat.reduceSub, Array.replicate_succ, Array.replicate_zero, List.push_toArray, List.append_toArray, List.nil_append, List.cons_append]
  gi_wp2
  gi_loopw [3] (fun q wr => ∃ pre rest, K p = pre ++ rest ∧ q = ptr rest.head? ∧ J pre wr ∧ Round W wr) (fun q _ => leftOf (K p) q)
  case atStart => exact ⟨[], K p, rfl, HU.out.symm, h0, Round.refl _⟩
  case round =>
    obtain ⟨pre, rest, hk, rfl, hj, hrw⟩ := hrel
    have HK := Lib.hid hk
    cases rest with
    | nil =>
      simp only [List.head?_nil, ptr, Option.map_none]
      clear hk
      gi_wp2
      go_end0
      exact ⟨⟨_, rfl⟩, by have := HK.out; rw [List.append_nil] at this; rw [this]; exact hj, hrw⟩
    | cons x rest =>
      obtain ⟨fn, tmps, assign, body, hy, hR⟩ := hY (n - 1) pre x rest wr hk hj
      obtain ⟨dx, hdx⟩ := some_of (hL.dom p x (by rw [hk]; simp)).2
      have hx4 := (hL.next pre rest hk).2.2
      clear hk
      simp only [List.head?_cons, ptr, Option.map_some] at hy ⊢
      gi_wp2
      refine hR.mono ?_
      clear hR
      rintro e W3 ⟨rfl, hj3, hr3⟩
      have hk4 := (hN1.round (hrw.trans hr3)).c4 hdx
      rw [hx4] at hk4
      obtain ⟨v, hv⟩ : ∃ v : Option Addr, ptr rest.head? = .pointer v := ⟨_, rfl⟩
      rw [hv] at hk4
      have HV := Lib.hid hv
      clear hv
      gi_wp2
      go_roundw
      case rel => exact ⟨pre ++ [x], rest, by rw [HK.out]; simp, HV.out.symm, hj3, hrw.trans hr3⟩
      case measure =>
        rw [← HV.out, leftOf_eq (pre := pre ++ [x]) (by rw [HK.out]; simp) (hL.nodup p)]
        have := leftOf_eq HK.out (hL.nodup p)
        simp only [List.head?_cons, ptr, Option.map_some, List.length_cons] at this
        rw [this]
        omega
end Go.Proofs.Ytgbeohhegckonaa
