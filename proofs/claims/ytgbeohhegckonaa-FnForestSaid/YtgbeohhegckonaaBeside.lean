import Derived.Test.YtgbeohhegckonaaSpec
/-! spec.beside: the siblings. -/
namespace Go.Proofs.Ytgbeohhegckonaa
open Go.RowKit Go.Shelf Go.BigFrame
set_option linter.unusedSimpArgs false
set_option linter.unusedVariables false

section
variable {base many : Nat} {f : Wood} {P : Nat} {Ap Ak : Option Addr} {Cp Ck : Nat} {vs : Nat → Value} {w : World}

theorem ints_not {l : List Nat} {i : Nat} (h : i ∉ l) : (i : Int) ∉ ints l := by
  intro hi
  obtain ⟨j, hj, e⟩ := List.mem_map.1 hi
  have : j = i := by omega
  exact h (this ▸ hj)
theorem place_ints {l1 l2 : List Nat} {i : Nat} (h : i ∉ l1) : place (ints (l1 ++ i :: l2)) i = some l1.length := by
  have : ints (l1 ++ i :: l2) = ints l1 ++ (i : Int) :: ints l2 := by simp [ints]
  rw [this, place_new (ints_not h) rfl, ints_len]

set_option maxRecDepth 100000 in
set_option maxHeartbeats 1000000 in
theorem beside_prev (h : SpecAt base many f P Ap Ak Cp Ck vs w) (hf : f.Ok many) (hm : many ≤ 100) {n : Nat} (hn : n < many) :
    Calls Try.prog 23 #[.pointer (some ⟨P, 0, none⟩), .int .i64 n, .int .i64 (-1)] w fun e w' => e = .returned (.int .i64 (enc (prevOf f n))) ∧ ∃ m, w' = w.drewN m := by
  obtain ⟨ad, rfl, had, hpn⟩ := h.parent hn
  have g0 := h.f0
  have g1 := h.f1
  have q1 : (n : Int) < (many : Int) := by omega
  have hcap := h.caps.1
  cases hp : f.par n with
  | none =>
    have hpr : prevOf f n = none := by simp [prevOf, hp]
    rw [hp] at hpn
    rw [hpr]
    simp only [enc] at hpn ⊢
    clear hp hpr h hf
    go_enter Try.func23, Try.ntmps23
    go_wp2
    go_ret
    exact ⟨rfl, 0, rfl⟩
  | some p =>
    obtain ⟨l1, l2, hk, h1, h2⟩ := hf.split hp
    have hpr := prevOf_split hp hk h1
    have hpm := (hf.lt p n ((hf.kid p n).2 hp)).1
    have hkl := hf.kids_len p
    obtain ⟨ak, A, C, rfl, hak, hkc, _, hC1, hC2, hC3, hlies⟩ := h.kidsAt hpm
    have hI := fun (W : World) (hW : W.heap = w.heap) => index_any W A (f.kids p).length C (ints (f.kids p)) (by
      rcases hlies with h | ⟨a', h1, h2, h3⟩
      · exact .inl h
      · exact .inr ⟨a', h1, by rw [hW]; exact h2, fun j u hu => by simpa [World.cell?, hW] using h3 j u hu⟩) (ints_len _) hC1 (by omega) (n : Int)
    rw [hk, place_ints h1, ← hk] at hI
    simp only [enc] at hI
    have q2 : (p : Int) < (many : Int) := by omega
    have hcap2 := h.caps.2
    have hneg : ((p : Int) == -1) = false := by simp
    have hlen : (f.kids p).length = l1.length + 1 + l2.length := by rw [hk]; simp; omega
    rw [hp] at hpn
    rw [hpr]
    simp only [enc] at hpn
    have HL := Lib.hid hlies
    have HK := Lib.hid hk
    have hIq := fun m => hI (w.drewN m) rfl
    rcases nil_or_snoc l1 with rfl | ⟨l1', q, rfl⟩
    · simp only [List.getLast?_nil, enc]
      simp only [List.length_nil] at hIq
      clear hp hpr h hf hI hk hlies h1 h2 hlen
      go_enter Try.func23, Try.ntmps23
      go_wp2_with fail
      go_quiet (fail)
      go_wp2_with (first
        | (go_at_call 37; go_must (refine (hIq _).mono ?_; clear hIq; rintro e w' ⟨rfl, hw'⟩; obtain rfl := hw'.symm))
        | fail)
      go_ret
      exact ⟨rfl, _, rfl⟩
    · have hg : (l1' ++ [q]).getLast? = some q := by simp
      rw [hg]
      have hlq : (f.kids p)[l1'.length]? = some q := by rw [HK.out]; simp
      obtain ⟨ca, rfl, _, hcq⟩ := HL.out.at_ (k := l1'.length) (u := .int .i64 q) (by simp [ints, hlq])
      have e1 : IntKind.i64.wrap (((l1' ++ [q]).length : Nat) + (-1 : Int)) = (l1'.length : Int) := by
        rw [IntKind.wrap_i64]
        simp only [List.length_append, List.length_cons, List.length_nil] at hlen ⊢
        omega
      obtain ⟨m1, hm1⟩ : ∃ m, (l1' ++ [q]).length = m := ⟨_, rfl⟩
      rw [hm1] at hIq e1
      have e2 : (l1'.length : Int) < ((f.kids p).length : Int) := by rw [hlen]; simp; omega
      have e3 : ¬ ((f.kids p).length : Int) ≤ (l1'.length : Int) := by omega
      simp only [enc]
      clear hp hpr h hf hI hk hlies h1 h2 hlen hm1 hlq hg
      go_enter Try.func23, Try.ntmps23
      go_wp2_with fail
      go_quiet (fail)
      go_wp2_with (first
        | (go_at_call 37; go_must (refine (hIq _).mono ?_; clear hIq; rintro e w' ⟨rfl, hw'⟩; obtain rfl := hw'.symm))
        | fail)
      go_ret
      exact ⟨rfl, _, rfl⟩

set_option maxRecDepth 100000 in
set_option maxHeartbeats 1000000 in
theorem beside_next (h : SpecAt base many f P Ap Ak Cp Ck vs w) (hf : f.Ok many) (hm : many ≤ 100) {n : Nat} (hn : n < many) :
    Calls Try.prog 23 #[.pointer (some ⟨P, 0, none⟩), .int .i64 n, .int .i64 1] w fun e w' => e = .returned (.int .i64 (enc (nextOf f n))) ∧ ∃ m, w' = w.drewN m := by
  obtain ⟨ad, rfl, had, hpn⟩ := h.parent hn
  have g0 := h.f0
  have g1 := h.f1
  have q1 : (n : Int) < (many : Int) := by omega
  have hcap := h.caps.1
  cases hp : f.par n with
  | none =>
    have hpr : nextOf f n = none := by simp [nextOf, hp]
    rw [hp] at hpn
    rw [hpr]
    simp only [enc] at hpn ⊢
    clear hp hpr h hf
    go_enter Try.func23, Try.ntmps23
    go_wp2
    go_ret
    exact ⟨rfl, 0, rfl⟩
  | some p =>
    obtain ⟨l1, l2, hk, h1, h2⟩ := hf.split hp
    have hpr := nextOf_split hp hk h1
    have hpm := (hf.lt p n ((hf.kid p n).2 hp)).1
    have hkl := hf.kids_len p
    obtain ⟨ak, A, C, rfl, hak, hkc, _, hC1, hC2, hC3, hlies⟩ := h.kidsAt hpm
    have hI := fun (W : World) (hW : W.heap = w.heap) => index_any W A (f.kids p).length C (ints (f.kids p)) (by
      rcases hlies with h | ⟨a', h1, h2, h3⟩
      · exact .inl h
      · exact .inr ⟨a', h1, by rw [hW]; exact h2, fun j u hu => by simpa [World.cell?, hW] using h3 j u hu⟩) (ints_len _) hC1 (by omega) (n : Int)
    rw [hk, place_ints h1, ← hk] at hI
    simp only [enc] at hI
    have q2 : (p : Int) < (many : Int) := by omega
    have hcap2 := h.caps.2
    have hneg : ((p : Int) == -1) = false := by simp
    have hlen : (f.kids p).length = l1.length + 1 + l2.length := by rw [hk]; simp; omega
    have e1 : IntKind.i64.wrap ((l1.length : Int) + 1) = (l1.length : Int) + 1 := by rw [IntKind.wrap_i64]; omega
    have e0 : ¬ (l1.length : Int) + 1 < 0 := by omega
    rw [hp] at hpn
    rw [hpr]
    simp only [enc] at hpn
    have HL := Lib.hid hlies
    have HK := Lib.hid hk
    have hIq := fun m => hI (w.drewN m) rfl
    cases l2 with
    | nil =>
      simp only [List.head?_nil, enc]
      have e2 : ((f.kids p).length : Int) ≤ (l1.length : Int) + 1 := by rw [hlen]; simp
      clear hp hpr h hf hI hk hlies h1 h2 hlen
      go_enter Try.func23, Try.ntmps23
      go_wp2_with fail
      go_quiet (fail)
      go_wp2_with (first
        | (go_at_call 37; go_must (refine (hIq _).mono ?_; clear hIq; rintro e w' ⟨rfl, hw'⟩; obtain rfl := hw'.symm))
        | fail)
      go_ret
      exact ⟨rfl, _, rfl⟩
    | cons q l2 =>
      simp only [List.head?_cons, enc]
      have hlq : (f.kids p)[l1.length + 1]? = some q := by rw [HK.out]; simp
      obtain ⟨ca, rfl, _, hcq⟩ := HL.out.at_ (k := l1.length + 1) (u := .int .i64 q) (by simp [ints, hlq])
      have e2 : (l1.length : Int) + 1 < ((f.kids p).length : Int) := by rw [hlen]; simp; omega
      have e3 : ¬ ((f.kids p).length : Int) ≤ (l1.length : Int) + 1 := by omega
      have e4 : (0 : Int) ≤ (l1.length : Int) + 1 := by omega
      have e5 : ((l1.length : Int) + 1).toNat = l1.length + 1 := by omega
      have hcq' : w.cell? ⟨ca.block, ca.off + (l1.length + 1), none⟩ = some (.int .i64 q) := by simpa [Addr.add] using hcq
      clear hp hpr h hf hI hk hlies h1 h2 hlen hlq
      go_enter Try.func23, Try.ntmps23
      go_wp2_with fail
      go_quiet (fail)
      go_wp2_with (first
        | (go_at_call 37; go_must (refine (hIq _).mono ?_; clear hIq; rintro e w' ⟨rfl, hw'⟩; obtain rfl := hw'.symm))
        | fail)
      go_ret
      exact ⟨rfl, _, rfl⟩
end
end Go.Proofs.Ytgbeohhegckonaa
