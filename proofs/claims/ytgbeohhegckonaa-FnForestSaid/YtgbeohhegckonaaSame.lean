import Derived.Test.YtgbeohhegckonaaGrown
/-! laws.sameWords; the cells of a slice of eight-celled values. -/
namespace Go.Proofs.Ytgbeohhegckonaa
open Go.RowKit Go.Shelf Go.BigFrame
set_option linter.unusedSimpArgs false
set_option linter.unusedVariables false

set_option maxRecDepth 100000 in
set_option maxHeartbeats 1500000 in
theorem sameWords_any (w : World) {A B : Option Addr} {c d : Nat} (l : List ByteArray) (hA : Lies w w.heap.size A (strsV l)) (hB : Lies w w.heap.size B (strsV l)) (h63 : l.length ≤ 20000) (hc : l.length ≤ c) (hd : l.length ≤ d) :
    Calls Try.prog 11 #[.slice A l.length c, .slice B l.length d] w fun e w' => e = .returned (.bool true) ∧ ∃ m, w' = w.drewN m := by
  have HL := Lib.hid (And.intro hA hB)
  clear hA hB
  go_enter Try.func11, Try.ntmps11
  go_wp2_with fail
  go_loopg [5, 13] l.length (fun g s5 s13 wx => ∃ k m : Nat, k + g = l.length ∧ s13 = .int .i64 k ∧ wx = w.drewN m)
  case atStart => exact ⟨0, 0, by omega, rfl, rfl⟩
  case round =>
    obtain ⟨k, m, hg, rfl, rfl⟩ := hrel
    by_cases hk : k < l.length
    · obtain ⟨x, hx⟩ : ∃ x, l[k]? = some x := ⟨_, List.getElem?_eq_getElem hk⟩
      obtain ⟨a, rfl, _, ca⟩ := HL.out.1.at_ (k := k) (u := .string x) (by simp [hx])
      obtain ⟨b, rfl, _, cb⟩ := HL.out.2.at_ (k := k) (u := .string x) (by simp [hx])
      obtain ⟨Wm, hWm⟩ : ∃ Wm, w.drewN m = Wm := ⟨_, rfl⟩
      have ca' : Wm.cell? (a.add k) = some (.string x) := by rw [← hWm]; exact ca
      have cb' : Wm.cell? (b.add k) = some (.string x) := by rw [← hWm]; exact cb
      rw [hWm]
      clear hx
      go_wp2_with fail
      go_quiet (fail)
      go_wp2_with fail
      go_roundg (l.length - (k + 1))
      case measure => omega
      case rel => exact ⟨k + 1, m + nq, by omega, by go_num, by rw [← hWm, World.drewN_drewN]⟩
    · obtain rfl : k = l.length := by omega
      go_wp2
      go_ret
      exact ⟨rfl, _, rfl⟩

theorem flatten_at {q : Nat} {c : List Value} : ∀ {cs : List (List Value)} {i : Nat}, (∀ x ∈ cs, x.length = 8) → cs[i]? = some c → q < 8 → cs.flatten[i * 8 + q]? = c[q]?
  | [], i, _, h, _ => by simp at h
  | x :: cs, 0, hl, h, hq => by
    have : x = c := by simpa using h
    subst this
    have h8 := hl x (by simp)
    rw [List.flatten_cons, List.getElem?_append_left (by omega)]
    simp
  | x :: cs, i + 1, hl, h, hq => by
    have h8 := hl x (by simp)
    rw [List.flatten_cons, List.getElem?_append_right (by omega), show (i + 1) * 8 + q - x.length = i * 8 + q by omega]
    exact flatten_at (fun y hy => hl y (by simp [hy])) (by simpa using h) hq

/-- The eight cells told of number i lie in the slice. -/
theorem Crop.cells {f : Wood} {many base : Nat} {e : TypeId} {W : World} {g n cap : Nat} (h : Crop f many base e W (.slice (some ⟨g, 0, none⟩) n cap) n) {i : Nat} (hi : i < n) :
    ∃ c, Leaf f many i W c ∧ c.length = 8 ∧ ∀ q, q < 8 → W.cell? ⟨g, i * 8 + q, none⟩ = c[q]? := by
  obtain ⟨cs, h1, h2, h3⟩ := h
  have hlen : ∀ x ∈ cs, x.length = 8 := fun x hx => by
    obtain ⟨k, hk⟩ := List.getElem?_of_mem hx
    obtain ⟨vk, va, vb, up, e1, _⟩ := h3 k x hk
    rw [e1]; rfl
  obtain ⟨c, hc⟩ : ∃ c, cs[i]? = some c := ⟨_, List.getElem?_eq_getElem (by omega)⟩
  refine ⟨c, h3 i c hc, hlen c (List.mem_of_getElem? hc), fun q hq => ?_⟩
  rw [h1.cellAt (i * 8 + q) (by omega)]
  exact flatten_at hlen hc hq
theorem Crop.form {f : Wood} {many base : Nat} {e : TypeId} {W : World} {v : Value} {n : Nat} (h : Crop f many base e W v n) : ∃ A cap, v = .slice A n cap ∧ n ≤ cap ∧ (0 < n → ∃ g, A = some ⟨g, 0, none⟩ ∧ g < W.heap.size) := by
  obtain ⟨cs, h1, _⟩ := h
  rcases h1.2 with ⟨rfl, rfl⟩ | ⟨g, cap, cur, rfl, _, hh, h2, _⟩
  · exact ⟨none, 0, rfl, Nat.le_refl _, fun h => by omega⟩
  · exact ⟨_, cap, rfl, h2, fun _ => ⟨g, rfl, lt_of_block hh⟩⟩
end Go.Proofs.Ytgbeohhegckonaa
