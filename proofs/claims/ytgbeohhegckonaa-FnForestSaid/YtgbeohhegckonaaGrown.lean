import Derived.Test.YtgbeohhegckonaaCrop
import Derived.Test.YtgbeohhegckonaaPlants
import Derived.Test.YtgbeohhegckonaaNames
import Derived.Deep.CutRange
import Derived.Deep.CutBlock
/-! impl.Forest. -/
namespace Go.Proofs.Ytgbeohhegckonaa
open Go.RowKit Go.Shelf Go.BigFrame
set_option linter.unusedSimpArgs false
set_option linter.unusedVariables false

/-- One more number, alone. -/
theorem Grove.new {base k : Nat} {B : Nat → Nat} {D : Nat → Option Info} {G : Nat → Nat → Option Nat} {K : Nat → List Nat} {W : World} (h : Grove base k B wood0 D G K W) (hb : base ≤ W.heap.size) :
    Grove base (k + 1) (fun i => if i = k then W.heap.size else B i) wood0 (newD D W.heap.size (3, decS k)) (newG G W.heap.size) K (W.alloc (.cells (nodeCells (fun _ => none) (3, decS k)) 50)) := by
  have hfresh := h.nodes.fresh
  have hlt : ∀ i, i < k → B i ≠ W.heap.size := fun i hi e => by
    have := h.data i hi
    rw [e, hfresh] at this
    cases this
  refine ⟨h.nodes.alloc (3, decS k), h.linked.new hfresh _, fun i hi => ?_, fun b hb' => ?_, fun i hi => ?_, fun i j hi hj e => ?_, fun b hb' => ?_⟩
  · by_cases e : i = k
    · subst e; simp [newD]
    · simp only [e, if_false]
      rw [newD_other _ _ (hlt i (by omega))]
      exact h.data i (by omega)
  · by_cases e : b = W.heap.size
    · exact ⟨k, by omega, by simp [e]⟩
    · rw [newD_other _ _ e] at hb'
      obtain ⟨i, hi, rfl⟩ := h.dom b hb'
      exact ⟨i, by omega, by simp [show i ≠ k by omega]⟩
  · have hnone : ∀ b, K b = [] := fun b => by
      cases hk : K b with
      | nil => rfl
      | cons c l =>
        have h1 := (h.linked.dom b c (by rw [hk]; simp)).1
        obtain ⟨j, hj, rfl⟩ := h.dom b h1
        rw [h.kids j hj] at hk
        simp [wood0] at hk
    rw [hnone]
    rfl
  · by_cases ei : i = k <;> by_cases ej : j = k
    · omega
    · simp only [ei, ej, if_true, if_false] at e
      exact absurd e.symm (hlt j (by omega))
    · simp only [ei, ej, if_true, if_false] at e
      exact absurd e (hlt i (by omega))
    · simp only [ei, ej, if_false] at e
      exact h.inj i j (by omega) (by omega) e
  · rw [newD_other _ _ (by omega)]
    exact h.base b hb'
theorem grove0 (base : Nat) (W : World) : Grove base 0 (fun _ => 0) wood0 (fun _ => none) (fun _ _ => none) (fun _ => []) W := by
  refine ⟨(fun b d hb => by cases hb), ⟨?_, ?_, ?_, fun p => trivial, fun p => List.nodup_nil, ?_, ?_⟩, fun i hi => by omega, ?_, fun i hi => by omega, fun i j hi => by omega, fun _ _ => rfl⟩
  · intro p c hc; cases hc
  · intro p hp; cases hp
  · intro p hp; cases hp
  · intro p hp; cases hp
  · intro p hp; cases hp
  · intro p hp; cases hp

theorem ptrsV_new (B : Nat → Nat) (k n : Nat) : ptrsV (fun i => if i = k then n else B i) (k + 1) = ptrsV B k ++ [ptr (some n)] := by
  unfold ptrsV
  rw [List.range_succ, List.map_append]
  congr 1
  · refine List.map_congr_left fun i hi => ?_
    have := List.mem_range.1 hi
    simp [show i ≠ k by omega]
  · simp

theorem nodup_map_lt {B : Nat → Nat} : ∀ {l : List Nat}, l.Nodup → (∀ x y, x ∈ l → y ∈ l → B x = B y → x = y) → (l.map B).Nodup
  | [], _, _ => List.nodup_nil
  | a :: l, hn, h => by
    obtain ⟨h1, h2⟩ := List.nodup_cons.1 hn
    refine List.nodup_cons.2 ⟨fun hx => ?_, nodup_map_lt h2 fun x y hx hy => h x y (by simp [hx]) (by simp [hy])⟩
    obtain ⟨y, hy, e⟩ := List.mem_map.1 hx
    rw [h y a (by simp [hy]) (by simp) e] at hy
    exact h1 hy

theorem cells_new (W : World) (cs : Array Value) (t : TypeId) : ∀ (j : Nat) (u : Value), cs.toList[j]? = some u → (W.alloc (.cells cs t)).cell? ((⟨W.heap.size, 0, none⟩ : Addr).add j) = some u := by
  intro j u hu
  have h := cell_of_row (W.alloc (.cells cs t)) W.heap.size j _ _ _ (heap_alloc_new W (.cells cs t))
  rw [Array.getElem?_toList] at hu
  rw [hu] at h
  unfold Addr.add
  split
  · rename_i e; subst e; exact h
  · simpa using h
theorem run_neq_nil (u : Option Addr) (w : World) : (binOp .neq 44 (.pointer u) (.pointer none)).run Try.prog w = .ok (.bool u.isSome) w := by
  obtain ⟨j, hj, _⟩ := info50
  cases u with
  | none =>
    have h : ∀ d : Nat, (Op.equalIn (d + 1) 44 (.pointer none) (.pointer none)).run Try.prog w = .ok true w := fun d => by
      simp [Op.equalIn, run_underlying under44, sizeOf, typeInfo, hj]
    simp only [binOp]
    simp [Op.equal, Op.maxDepth, h 9999]
  | some a =>
    have h : ∀ d : Nat, (Op.equalIn (d + 1) 44 (.pointer (some a)) (.pointer none)).run Try.prog w = .ok false w := fun d => by
      simp [Op.equalIn, run_underlying under44, sizeOf, typeInfo, hj]
    simp only [binOp]
    simp [Op.equal, Op.maxDepth, h 9999]

/-- What a link is held to and what is read behind it. -/
theorem Grove.link {base many : Nat} {B : Nat → Nat} {f : Wood} {D : Nat → Option Info} {G : Nat → Nat → Option Nat} {K : Nat → List Nat} {W : World} (h : Grove base many B f D G K W) (o : Option Nat) (ho : ∀ x, o = Option.some x → x < many) :
    ∃ (u : Option Addr) (b : Bool), ptr (o.map B) = .pointer u ∧ (∀ w, (binOp .neq 44 (.pointer u) (.pointer none)).run Try.prog w = .ok (.bool b) w) ∧
      ((b = false ∧ o = none ∧ lab o = ⟨#[]⟩) ∨ (b = true ∧ ∃ q, u = Option.some ⟨q, 0, none⟩ ∧ ∀ ob, (W.alloc ob).cell? ⟨q, 7, none⟩ = Option.some (.string (lab o)))) := by
  cases o with
  | none => exact ⟨none, false, rfl, run_neq_nil none, .inl ⟨rfl, rfl, rfl⟩⟩
  | some x =>
    refine ⟨Option.some ⟨B x, 0, none⟩, true, rfl, run_neq_nil _, .inr ⟨rfl, _, rfl, fun ob => ?_⟩⟩
    exact cell_alloc_old ob (h.nodes.c7 (h.data x (ho x rfl)))

theorem Wood.Ok.prev_lt {many : Nat} {f : Wood} (h : f.Ok many) (i : Nat) : ∀ x, prevOf f i = some x → x < many := by
  intro x hx
  cases hp : f.par i with
  | none => simp [prevOf, hp] at hx
  | some p =>
    simp only [prevOf, hp] at hx
    split at hx
    · cases hx
    · exact (h.lt p x (List.mem_of_getElem? hx)).2
theorem Wood.Ok.next_lt {many : Nat} {f : Wood} (h : f.Ok many) (i : Nat) : ∀ x, nextOf f i = some x → x < many := by
  intro x hx
  cases hp : f.par i with
  | none => simp [nextOf, hp] at hx
  | some p =>
    simp only [nextOf, hp] at hx
    exact (h.lt p x (List.mem_of_getElem? hx)).2

/-- A row of pointers is no node. -/
theorem Grove.row_no_node {base many : Nat} {B : Nat → Nat} {f : Wood} {D : Nat → Option Info} {G : Nat → Nat → Option Nat} {K : Nat → List Nat} {W : World} (h : Grove base many B f D G K W) {b e s n : Nat} {v : Value} {xs : List Value}
    (hv : W.ownsRow b e s v n xs) (he : e ≠ 50) : ∀ k, v.ownBlock = some k → D k = none := by
  intro k hk
  cases hd : D k with
  | none => rfl
  | some d =>
    rcases hv.2 with ⟨rfl, _⟩ | ⟨g, cap, cur, rfl, _, hh, _⟩
    · cases hk
    · have e1 : g = k := by simpa [Value.ownBlock] using hk
      subst e1
      rw [h.nodes g d hd] at hh
      cases hh
      exact absurd rfl he
theorem Grove.grown {base many : Nat} {B : Nat → Nat} {f : Wood} {D : Nat → Option Info} {G : Nat → Nat → Option Nat} {K : Nat → List Nat} {W W' : World} (h : Grove base many B f D G K W) {v : Value} (hv : ∀ k, v.ownBlock = some k → D k = none) (hg : W.grownBy W' v.ownBlock) :
    Grove base many B f D G K W' :=
  h.kept fun b d hd => hg.block b (h.nodes.lt hd) (fun e => by rw [hv b e.symm] at hd; cases hd)

section
variable {base many : Nat} {B : Nat → Nat} {f : Wood} {D : Nat → Option Info} {G : Nat → Nat → Option Nat} {K : Nat → List Nat} {W : World}
theorem Grove.texts (h : Grove base many B f D G K W) {l : List Nat} (hl : ∀ x ∈ l, x < many) : (l.map B).map (textOf D) = l.map decS := by
  rw [List.map_map]
  refine List.map_congr_left fun i hi => ?_
  show textOf D (B i) = decS i
  rw [← textOf_eq (h.data i (hl i hi))]
theorem Grove.names (h : Grove base many B f D G K W) {g Bn : Nat} {l : List Nat} (eg : ∀ args w, (callFunc g args).run Try.prog w = .ok (.enter g args) w) (hl : ∀ x ∈ l, x < many) (hlen : l.length ≤ 20000)
    (hlist : ∀ w1, Below W.heap.size W w1 → SeqList Fence.wide Try.prog g #[.pointer (some ⟨Bn, 0, none⟩)] (fun c => #[ptr (some c)]) (l.map B) w1) :
    Calls Try.prog 28 #[.func (.func g) #[] #[.pointer (some ⟨Bn, 0, none⟩)]] W fun e w' => ∃ v, e = .returned v ∧ Words w' v l ∧ Below W.heap.size W w' := by
  refine (names_any h.nodes eg hlist (fun x hx => ?_) (by simpa using hlen)).mono ?_
  · obtain ⟨i, hi, rfl⟩ := List.mem_map.1 hx
    exact h.node (hl i hi)
  · rintro e w' ⟨v, rfl, hown, hb⟩
    rw [h.texts hl, List.length_map] at hown
    exact ⟨v, rfl, own_mono hown (Nat.zero_le _), hb⟩
theorem Grove.kids_names (h : Grove base many B f D G K W) (hf : f.Ok many) (hm : many ≤ 100) {i Bn : Nat} (hi : i < many) (hB : Boxed W Bn 44 (ptr (some (B i)))) :
    Calls Try.prog 28 #[.func (.func 35) #[] #[.pointer (some ⟨Bn, 0, none⟩)]] W fun e w' => ∃ v, e = .returned v ∧ Words w' v (f.kids i) ∧ Below W.heap.size W w' := by
  refine h.names (enters_of Try.func35 (by kernel_rfl) rfl) (fun x hx => (hf.lt i x hx).2) (by have := hf.kids_len i; omega) fun w1 hb => ?_
  have := childNodes_list (F := Fence.wide) rfl (fun _ => trivial) rfl (h.nodes.below hb) h.linked (h.node hi) ((hb.block _ (Boxed.lt hB)).trans hB)
  rw [h.kids i hi] at this
  exact this
theorem Grove.up_names (h : Grove base many B f D G K W) (hf : f.Ok many) (hm : many ≤ 100) {i Bn : Nat} (hi : i < many) {up : List Nat} (hu : Chain f.par (f.par i) up) (hul : up.length ≤ many + 1) (hlt : ∀ x ∈ up, x < many) (hB : Boxed W Bn 44 (ptr (some (B i)))) :
    Calls Try.prog 28 #[.func (.func 39) #[] #[.pointer (some ⟨Bn, 0, none⟩)]] W fun e w' => ∃ v, e = .returned v ∧ Words w' v up ∧ Below W.heap.size W w' := by
  refine h.names (enters_of Try.func39 (by kernel_rfl) rfl) hlt (by omega) fun w1 hb => ?_
  refine ancestors_list (F := Fence.wide) rfl (fun _ => trivial) rfl (h.nodes.below hb) (h.node hi) ?_ ?_ ?_ ((hb.block _ (Boxed.lt hB)).trans hB)
  · rw [h.parent hf hi]
    exact hu.map fun x hx => h.parent hf (hlt x hx)
  · refine nodup_map_lt (hf.up_nodup hu) fun x y hx hy e => h.inj x y (hlt x hx) (hlt y hy) e
  · intro x hx
    obtain ⟨j, hj, rfl⟩ := List.mem_map.1 hx
    exact h.node (hlt j hj)
theorem Grove.below_names (h : Grove base many B f D G K W) (hf : f.Ok many) (hm : many ≤ 100) {i Bn : Nat} (hi : i < many) (hB : Boxed W Bn 44 (ptr (some (B i)))) :
    Calls Try.prog 28 #[.func (.func 33) #[] #[.pointer (some ⟨Bn, 0, none⟩)]] W fun e w' => ∃ v, e = .returned v ∧ Words w' v (descs f.kids many i) ∧ Below W.heap.size W w' := by
  refine h.names (enters_of Try.func33 (by kernel_rfl) rfl) (hf.below_lt many i) (by
    have h1 := hf.below_len many i
    have h2 : many * (many + 1) ≤ 100 * 101 := Nat.mul_le_mul hm (by omega)
    omega) fun w1 hb => ?_
  have := descendants_list (F := Fence.wide) rfl (fun _ => trivial) rfl (h.nodes.below hb) h.linked (h.node hi) (deep_map h hf many i hi (hf.deep i)) ((hb.block _ (Boxed.lt hB)).trans hB)
  rw [descs_map h hf many i hi] at this
  exact this
end

set_option maxRecDepth 100000 in
set_option maxHeartbeats 4000000 in
theorem grown_any (w : World) (many : Nat) (A : Option Addr) (cap : Nat) (rows : List (List Int)) (hA : A = none → cap = 0) (hcap : rows.length ≤ cap) (hS : ScriptAt w w.heap.size A rows) (hm : many ≤ 100) (hr : rows.length ≤ 300)
    {d : Nat} {st : Nat → Wood} (hd : d ≤ rows.length) (ht : Took many rows d st) (hend : d = rows.length ∨ ∃ r, rows[d]? = some r ∧ StepW many (st d) r .panics) :
    Calls Try.prog 10 #[.int .i64 many, .slice A rows.length cap] w fun e w' => ∃ v, e = .returned (.tuple #[v, .int .i64 d]) ∧ Below w.heap.size w w' ∧ Crop (st d) many w.heap.size 37 w' v many := by
  obtain ⟨i0, hi0, hz0, hz1, hz2⟩ := info_parts info44
  have HS := Lib.hid hS
  have hok := ht.ok d (Nat.le_refl _)
  obtain ⟨f, hf⟩ : ∃ f, st d = f := ⟨_, rfl⟩
  rw [hf] at hok ⊢
  have HT := Lib.hid (And.intro ht (And.intro hend hf))
  clear hS ht hend hf
  go_enter Try.func10, Try.ntmps10
  go_wp2_with fail
  go_loopg [6, 7, 12] many (fun g s6 s7 s12 wx => ∃ k : Nat, k + g = many ∧ s12 = .int .i64 k ∧ Below w.heap.size w wx ∧ ∃ B D G K, Grove w.heap.size k B wood0 D G K wx ∧ wx.ownsRow w.heap.size 44 1 s6 k (ptrsV B k))
  case atStart => exact ⟨0, by omega, rfl, Below.refl _ _, _, _, _, _, grove0 _ _, World.ownsRow_nil _ _ _ _⟩
  case round =>
    obtain ⟨k, hg, rfl, hbw, B, D, G, K, hgr, hown⟩ := hrel
    by_cases hk : k < many
    · have hN := numbered_any wr k (by omega)
      have HB := hbw.size
      obtain ⟨sk, hsk⟩ : ∃ sk, decS k = sk := ⟨_, rfl⟩
      have hown1 := hown.alloc (.cells (nodeCells (fun _ => none) (3, decS k)) 50)
      have hgr1 := hgr.new hbw.size
      have hbw1 := hbw.alloc hbw.size (.cells (nodeCells (fun _ => none) (3, decS k)) 50)
      have hl := lies_new (wr.alloc (.cells (nodeCells (fun _ => none) (3, decS k)) 50)) (ptr (some wr.heap.size)) 44
      rw [World.size_alloc] at hl
      rw [hsk] at hN hgr1 hown1 hbw1 hl
      have HX := Lib.hid (And.intro hgr1 (And.intro hown1 (And.intro hbw1 hl)))
      have HSK := Lib.hid hsk
      clear hsk hgr hown hbw hown1 hgr1 hbw1 hl
      go_wp2_with (first
        | (go_at_call 16; go_must (refine hN.mono ?_; clear hN; rintro e w' ⟨rfl, h⟩; obtain rfl := h.symm))
        | (at_builtin; refine wpList_app _ rfl (.tmp 15) (.tmp 20) 65 rfl w.heap.size 44 i0 (.pointer none) 8 under65 hi0 hz0 hz1 hz2 rfl _ k (ptrsV B k) rfl (HX.out.2.1.alloc _) (wr.heap.size + 1 + 1) (some ⟨wr.heap.size + 1, 0, none⟩) 1 1 [ptr (some wr.heap.size)] rfl (fun h => by cases h) rfl HX.out.2.2.2 (by intro u hu; simp at hu; subst hu; rfl) (by simp only [maxLen]; omega) (by omega) (by simp; omega) ?_; intro v1 w1 hown1 hg1 hat1)
        | fail)
      obtain ⟨hgr1, hown0, hbw1, _⟩ := HX.out
      have hrow := hgr1.row_no_node hown0 (by decide)
      have hgr2 := (hgr1.below ((Below.refl _ _).alloc (Nat.le_refl _) (.cells #[ptr (some wr.heap.size)] 44))).grown hrow hg1
      have hbw2 : Below w.heap.size w w1 := (hbw1.alloc hbw1.size _).grown hg1 (by simp; omega) (own_base hown0)
      clear hg1 hat1 hgr1 hown0 hbw1 hrow
      go_roundg (many - (k + 1))
      case measure => omega
      case rel => exact ⟨k + 1, by omega, by go_num, hbw2, _, _, _, _, hgr2, by rw [ptrsV_new]; simpa using hown1⟩
    · obtain rfl : k = many := by omega
      obtain ⟨Al, Cl, rfl, hlc, _, _⟩ := own_form hown
      have HO := Lib.hid (And.intro hgr (And.intro hown hbw))
      clear hgr hown hbw
      go_upto_block 2 with fail
      go_cut [5] from 23 to 36 (fun s5 wx => s5 = .int .i64 d ∧ Below w.heap.size w wx ∧ ∃ G K, Grove w.heap.size k B f D G K wx ∧ wx.ownsRow w.heap.size 44 1 (.slice Al k Cl) k (ptrsV B k))
      case first =>
        obtain ⟨hgr, hown, hbw⟩ := HO.out
        clear HO
        obtain ⟨hto, hend, hfd⟩ := HT.out
        clear hok
        go_wp2_with fail
        go_loopg [5] d (fun g s5 wx => ∃ j : Nat, j + g = d ∧ s5 = .int .i64 j ∧ Below w.heap.size w wx ∧ ∃ G K, Grove w.heap.size k B (st j) D G K wx ∧ wx.ownsRow w.heap.size 44 1 (.slice Al k Cl) k (ptrsV B k))
        case atStart => exact ⟨0, by omega, rfl, hbw, _, _, by rw [hto.1]; exact hgr, hown⟩
        case round =>
          clear hgr hown hbw
          obtain ⟨j, hg2, rfl, hbw, G, K, hgr, hown⟩ := hrel
          have hok := hto.ok j (by omega)
          have hlies := Lies.of_own_any hown _ _ _ rfl
          have hrow := hgr.row_no_node hown (by decide)
          by_cases hj : j < d
          · obtain ⟨r, hxs, hst⟩ := hto.2 j hj
            have hjr : j < rows.length := by omega
            have hjr' : (j : Int) < (rows.length : Int) := by omega
            obtain ⟨a, rfl, hab, hall⟩ := (HS.out.below hbw).resolve_left (fun h => by rw [h] at hjr; simp at hjr)
            obtain ⟨A', C, hc, hx, hC1, hC2, hC3, hrange⟩ := hall j r hxs
            have hP := planted_taken hgr hok hlies hlc hst (hx.more hbw.size) hC1
            have HX := Lib.hid (And.intro hgr (And.intro hown (And.intro hbw hrow)))
            clear hall hx hrange hxs hst hgr hown hbw hrow hlies hok
            go_wp2_with (first
              | (go_at_call 27; go_must (refine hP.mono ?_; clear hP; rintro e w1 ⟨rfl, ⟨G', K', hgr'⟩, hsp⟩))
              | fail)
            obtain ⟨hgr, hown, hbw, hrow⟩ := HX.out
            have hown' : w1.ownsRow w.heap.size 44 1 (.slice Al k Cl) k (ptrsV B k) := ownN_kept hown fun q hq => hsp.block q (ownN_lt hown q hq).1 (hrow q hq)
            have hbw' : Below w.heap.size w w1 := hbw.trans (hsp.toBelow hbw.size hgr.base)
            go_roundg (d - (j + 1))
            case measure => omega
            case rel => exact ⟨j + 1, by omega, by go_num, hbw', _, _, hgr', hown'⟩
          · obtain rfl : j = d := by omega
            rw [hfd] at hgr hok
            rcases hend with hend | ⟨r, hxs, hst⟩
            · subst hend
              have HX := Lib.hid (And.intro hbw (And.intro hgr hown))
              clear hgr hown hbw hrow hlies
              go_wp2_with fail
              go_meet
              case rel => exact ⟨rfl, HX.out.1, _, _, HX.out.2.1, HX.out.2.2⟩
            · have hjr : j < rows.length := (List.getElem?_eq_some_iff.1 hxs).1
              have hjr' : (j : Int) < (rows.length : Int) := by omega
              obtain ⟨a, rfl, hab, hall⟩ := (HS.out.below hbw).resolve_left (fun h => by rw [h] at hjr; simp at hjr)
              obtain ⟨A', C, hc, hx, hC1, hC2, hC3, hrange⟩ := hall j r hxs
              rw [hfd] at hst
              have hP := planted_panics hgr hok hlies hlc hst (fun x hx => (hrange x hx).2) (hx.more hbw.size) hC1
              have HX := Lib.hid (And.intro hgr (And.intro hown (And.intro hbw hrow)))
              clear hall hx hrange hxs hst hgr hown hbw hrow hlies hok
              go_wp2_with (first
                | (go_at_call 27; go_must (refine hP.mono ?_; clear hP; rintro e w1 ⟨rfl, hgr', hsp⟩))
                | fail)
              obtain ⟨hgr, hown, hbw, hrow⟩ := HX.out
              have hown' : w1.ownsRow w.heap.size 44 1 (.slice Al k Cl) k (ptrsV B k) := ownN_kept hown fun q hq => hsp.block q (ownN_lt hown q hq).1 (hrow q hq)
              have hbw' : Below w.heap.size w w1 := hbw.trans (hsp.toBelow hbw.size hgr.base)
              go_meet
              case rel => exact ⟨rfl, hbw', _, _, hgr', hown'⟩
      case rest =>
        obtain ⟨rfl, hbw, G, K, hgr, hown⟩ := hcut
        have HO2 := Lib.hid (And.intro hbw (And.intro hgr hown))
        clear HT HO HS hbw hgr hown
        go_wp2_with fail
        go_loopg [4, 39] k (fun g s4 s39 wx => ∃ j : Nat, j + g = k ∧ s39 = .int .i64 j ∧ Below w.heap.size w wx ∧ Grove w.heap.size k B f D G K wx ∧ wx.ownsRow w.heap.size 44 1 (.slice Al k Cl) k (ptrsV B k) ∧ Crop f k w.heap.size 37 wx s4 j)
        case atStart => exact ⟨0, by omega, rfl, HO2.out.1, HO2.out.2.1, HO2.out.2.2, Crop.nil _ _ _ _ _⟩
        case round =>
          clear HO2
          obtain ⟨j, hg3, rfl, hbw, hgr, hown, hcrop⟩ := hrel
          by_cases hj : j < k
          · obtain ⟨up, hup, hul, hult, _⟩ := hok.above j
            have hc1 := hgr.nodes.c1 (hgr.data j hj)
            have hc0 := hgr.nodes.c0 (hgr.data j hj)
            have hT1 := callsIn_wide.1 (childNodes_in (F := Fence.wide) (fun _ => trivial) rfl 3 wr hc1)
            have hW1 : Below wr.heap.size wr (wr.alloc (.cells #[ptr (some (B j))] 44)) := (Below.refl _ _).alloc (Nat.le_refl _) _
            have hT2 := (hgr.below hW1).kids_names hok hm hj (Boxed.new wr 44 _)
            have hlj := (Lies.of_own_any hown _ _ _ rfl).at_ (k := j) (u := ptr (some (B j))) (by simp [hj])
            obtain ⟨al, rfl, _, hlj⟩ := hlj
            simp only [ptr, Option.map_some] at hT1 hT2 hlj
            have HX := Lib.hid (And.intro hgr (And.intro hown (And.intro hbw (And.intro hcrop hW1))))
            clear hgr hown hbw hcrop hW1
            go_wp2_with (first
              | (go_at_call 19; go_must (refine hT1.mono ?_; clear hT1; rintro e w1 ⟨rfl, rfl⟩))
              | (go_at_call 28; go_must (refine hT2.mono ?_; clear hT2; rintro e W2 ⟨vk, rfl, hvk, hb2⟩))
              | fail)
            have hgr2 := (HX.out.1.below HX.out.2.2.2.2).below hb2
            have hT3 := callsIn_wide.1 (ancestors_in (F := Fence.wide) (fun _ => trivial) rfl 3 W2 (hgr2.nodes.c0 (hgr2.data j hj)))
            have hW3 : Below W2.heap.size W2 (W2.alloc (.cells #[ptr (some (B j))] 44)) := (Below.refl _ _).alloc (Nat.le_refl _) _
            have hT4 := (hgr2.below hW3).up_names hok hm hj hup hul hult (Boxed.new W2 44 _)
            simp only [ptr, Option.map_some] at hT3 hT4
            have HX2 := Lib.hid (And.intro hgr2 (And.intro hW3 (And.intro hvk hb2)))
            obtain ⟨Ak, ck, rfl, _, _, _⟩ := own_form hvk
            clear hgr2 hW3 hvk hb2
            go_wp2_with (first
              | (go_at_call 29; go_must (refine hT3.mono ?_; clear hT3; rintro e w1 ⟨rfl, rfl⟩))
              | (go_at_call 28; go_must (refine hT4.mono ?_; clear hT4; rintro e W4 ⟨va, rfl, hva, hb4⟩))
              | fail)
            have hgr4 := (HX2.out.1.below HX2.out.2.1).below hb4
            have hT5 := callsIn_wide.1 (descendants_in (F := Fence.wide) (fun _ => trivial) rfl 3 W4 (hgr4.nodes.c1 (hgr4.data j hj)))
            have hW5 : Below W4.heap.size W4 (W4.alloc (.cells #[ptr (some (B j))] 44)) := (Below.refl _ _).alloc (Nat.le_refl _) _
            have hT6 := (hgr4.below hW5).below_names hok hm hj (Boxed.new W4 44 _)
            simp only [ptr, Option.map_some] at hT5 hT6
            have HX4 := Lib.hid (And.intro hgr4 (And.intro hW5 (And.intro hva hb4)))
            obtain ⟨Aa, ca, rfl, _, _, _⟩ := own_form hva
            clear hgr4 hW5 hva hb4
            go_upto_region 13 with (first
              | (go_at_call 18; go_must (refine hT5.mono ?_; clear hT5; rintro e w1 ⟨rfl, rfl⟩))
              | (go_at_call 28; go_must (refine hT6.mono ?_; clear hT6; rintro e W6 ⟨vb, rfl, hvb, hb6⟩; obtain ⟨Ab, cb, hvbe, _, _, _⟩ := own_form hvb; subst hvbe))
              | fail)
            have hgr6 := (HX4.out.1.below HX4.out.2.1).below hb6
            have hdj := hgr6.data j hj
            have e0 := hgr6.nodes.c0 hdj
            have e1 := hgr6.nodes.c1 hdj
            have e2 := hgr6.nodes.c2 hdj
            have e3 := hgr6.nodes.c3 hdj
            have e4 := hgr6.nodes.c4 hdj
            rw [hgr6.parent hok hj] at e0
            rw [hgr6.first hj] at e1
            rw [hgr6.last hj] at e2
            rw [(hgr6.beside hok hj).1] at e3
            rw [(hgr6.beside hok hj).2] at e4
            obtain ⟨z0, b0, x0, n0, y0⟩ := hgr6.link (f.par j) (fun x hx => (hok.lt x j ((hok.kid x j).2 hx)).1)
            obtain ⟨z1, b1, x1, n1, y1⟩ := hgr6.link (f.kids j).head? (fun x hx => (hok.lt j x (List.mem_of_head? hx)).2)
            obtain ⟨z2, b2, x2, _, y2⟩ := hgr6.link (f.kids j).getLast? (fun x hx => (hok.lt j x (List.mem_of_getLast? hx)).2)
            obtain ⟨z3, b3, x3, n3, y3⟩ := hgr6.link (prevOf f j) (hok.prev_lt j)
            obtain ⟨z4, b4, x4, n4, y4⟩ := hgr6.link (nextOf f j) (hok.next_lt j)
            rw [x0] at e0
            rw [x1] at e1
            rw [x2] at e2
            rw [x3] at e3
            rw [x4] at e4
            have e0' := fun ob => cell_alloc_old ob e0
            have e1' := fun ob => cell_alloc_old ob e1
            have e2' := fun ob => cell_alloc_old ob e2
            have e3' := fun ob => cell_alloc_old ob e3
            have e4' := fun ob => cell_alloc_old ob e4
            obtain ⟨P0, hP0⟩ : ∃ P, lab (f.par j) = P := ⟨_, rfl⟩
            obtain ⟨P1, hP1⟩ : ∃ P, lab (f.kids j).head? = P := ⟨_, rfl⟩
            obtain ⟨P2, hP2⟩ : ∃ P, lab (f.kids j).getLast? = P := ⟨_, rfl⟩
            obtain ⟨P3, hP3⟩ : ∃ P, lab (prevOf f j) = P := ⟨_, rfl⟩
            obtain ⟨P4, hP4⟩ : ∃ P, lab (nextOf f j) = P := ⟨_, rfl⟩
            rw [hP0] at y0
            rw [hP1] at y1
            rw [hP2] at y2
            rw [hP3] at y3
            rw [hP4] at y4
            have HP := Lib.hid (And.intro hP0 (And.intro hP1 (And.intro hP2 (And.intro hP3 hP4))))
            have hz12 : b1 = true → f.kids j ≠ [] := fun hb hk => by
              rcases y1 with ⟨rfl, _⟩ | ⟨_, q, hq, _⟩
              · cases hb
              · rw [hk, hq] at x1
                simp [ptr] at x1
            have HL := Lib.hid hz12
            have HX6 := Lib.hid (And.intro hgr6 (And.intro hvb hb6))
            have Y0 := Lib.hid y0
            have Y12 := Lib.hid (And.intro y1 y2)
            have Y3 := Lib.hid y3
            have Y4 := Lib.hid y4
            clear hz12 hP0 hP1 hP2 hP3 hP4 hgr6 hvb hb6 x0 x1 x2 x3 x4 y0 y1 y2 y3 y4 hdj e0 e1 e2 e3 e4
            go_upto_if 57 with fail
            go_cut [39] from 39 to 117 (fun s39 wx => s39 = .int .i64 j ∧ wx = W6.alloc (.cells #[.string P0, .string ⟨#[]⟩, .string ⟨#[]⟩, .string ⟨#[]⟩, .string ⟨#[]⟩, .slice Ak (f.kids j).length ck, .slice Aa up.length ca, .slice Ab (descs f.kids k j).length cb] 37))
            case first =>
              rcases Y0.out with ⟨rfl, _, rfl⟩ | ⟨rfl, q, rfl, hq⟩
              · go_wp2_with fail
                go_meet
                case rel => exact ⟨rfl, rfl⟩
              · go_wp2_with fail
                go_meet
                case rel => exact ⟨rfl, rfl⟩
            case rest =>
              obtain ⟨rfl, rfl⟩ := hcut
              go_upto_if 70 with fail
              go_cut [39] from 39 to 117 (fun s39 wx => s39 = .int .i64 j ∧ wx = W6.alloc (.cells #[.string P0, .string ⟨#[]⟩, .string P4, .string ⟨#[]⟩, .string ⟨#[]⟩, .slice Ak (f.kids j).length ck, .slice Aa up.length ca, .slice Ab (descs f.kids k j).length cb] 37))
              case first =>
                rcases Y4.out with ⟨rfl, _, rfl⟩ | ⟨rfl, q, rfl, hq⟩
                · go_wp2_with fail
                  go_meet
                  case rel => exact ⟨rfl, rfl⟩
                · go_wp2_with fail
                  go_meet
                  case rel => exact ⟨rfl, rfl⟩
              case rest =>
                obtain ⟨rfl, rfl⟩ := hcut
                go_upto_if 83 with fail
                go_cut [39] from 39 to 117 (fun s39 wx => s39 = .int .i64 j ∧ wx = W6.alloc (.cells #[.string P0, .string P3, .string P4, .string ⟨#[]⟩, .string ⟨#[]⟩, .slice Ak (f.kids j).length ck, .slice Aa up.length ca, .slice Ab (descs f.kids k j).length cb] 37))
                case first =>
                  rcases Y3.out with ⟨rfl, _, rfl⟩ | ⟨rfl, q, rfl, hq⟩
                  · go_wp2_with fail
                    go_meet
                    case rel => exact ⟨rfl, rfl⟩
                  · go_wp2_with fail
                    go_meet
                    case rel => exact ⟨rfl, rfl⟩
                case rest =>
                  obtain ⟨rfl, rfl⟩ := hcut
                  go_upto_if 96 with fail
                  go_cut [39] from 39 to 117 (fun s39 wx => s39 = .int .i64 j ∧ wx.heap[W6.heap.size]? = some (.cells #[.string P0, .string P3, .string P4, .string P1, .string P2, .slice Ak (f.kids j).length ck, .slice Aa up.length ca, .slice Ab (descs f.kids k j).length cb] 37 (0, 0)) ∧ Below W6.heap.size W6 wx ∧ wx.heap.size = W6.heap.size + 1)
                  case first =>
                    have hbl : ∀ ob, Below W6.heap.size W6 (W6.alloc ob) := fun ob => (Below.refl _ _).alloc (Nat.le_refl _) _
                    rcases Y12.out with ⟨⟨rfl, hn1, rfl⟩ | ⟨rfl, q, rfl, hq⟩, h2⟩
                    · have hP2 : P2 = ⟨#[]⟩ := by
                        rw [← HP.out.2.2.1]
                        rw [List.head?_eq_none_iff] at hn1
                        rw [hn1]
                        rfl
                      subst hP2
                      go_wp2_with fail
                      go_meet
                      case rel => exact ⟨rfl, heap_alloc_new W6 _, hbl _, by simp⟩
                    · rcases h2 with ⟨rfl, hn2, rfl⟩ | ⟨rfl, q2, rfl, hq2⟩
                      · exfalso
                        rw [List.getLast?_eq_none_iff] at hn2
                        have h1 := HL.out
                        rw [hn2] at h1
                        exact h1 rfl rfl
                      · go_wp2_with fail
                        go_region
                        all_goals go_wp2_with fail
                        all_goals go_meet
                        case rel => exact ⟨rfl, heap_alloc_new W6 _, (hbl _).drew, by simp⟩
                  case rest =>
                    obtain ⟨rfl, hblk, hbc, hsz⟩ := hcut
                    have q1 := HX.out.2.2.2.2
                    have q2 := HX2.out.2.2.2
                    have q3 := HX2.out.2.1
                    have q4 := HX4.out.2.2.2
                    have q5 := HX4.out.2.1
                    have q6 := HX6.out.2.2
                    have t5 := q6.trans (hbc.mono q6.size)
                    have t4 := q5.trans (t5.mono q5.size)
                    have t3 := q4.trans (t4.mono q4.size)
                    have t2 := q3.trans (t3.mono q3.size)
                    have t1 := q2.trans (t2.mono q2.size)
                    have t0 := q1.trans (t1.mono q1.size)
                    obtain ⟨hl0, hl1, hl2, hl3, hl4⟩ := HP.out
                    have hleaf : Leaf f k j wc [.string P0, .string P3, .string P4, .string P1, .string P2, .slice Ak (f.kids j).length ck, .slice Aa up.length ca, .slice Ab (descs f.kids k j).length cb] :=
                      ⟨_, _, _, up, by rw [hl0, hl1, hl2, hl3, hl4], hup, ownN_below HX2.out.2.2.1 t2, ownN_below HX4.out.2.2.1 t4, ownN_below HX6.out.2.1 hbc⟩
                    have hcrop := HX.out.2.2.2.1.below t0
                    have hgrc := HX6.out.1.below hbc
                    have hownc := ownN_below HX.out.2.1 t0
                    have hbwc := HX.out.2.2.1.trans (t0.mono HX.out.2.2.1.size)
                    obtain ⟨cs, hc1, hc2, hc3⟩ := hcrop
                    have hcells : ∀ i : Nat, wc.cell? ⟨W6.heap.size, i, none⟩ = (#[.string P0, .string P3, .string P4, .string P1, .string P2, .slice Ak (f.kids j).length ck, .slice Aa up.length ca, .slice Ab (descs f.kids k j).length cb] : Array Value)[i]? := fun i => cell_of_row wc _ i _ _ _ hblk
                    have d0 := hcells 0
                    have d1 := hcells 1
                    have d2 := hcells 2
                    have d3 := hcells 3
                    have d4 := hcells 4
                    have d5 := hcells 5
                    have d6 := hcells 6
                    have d7 := hcells 7
                    simp at d0 d1 d2 d3 d4 d5 d6 d7
                    have hnew := cells_new wc #[.string P0, .string P3, .string P4, .string P1, .string P2, .slice Ak (f.kids j).length ck, .slice Aa up.length ca, .slice Ab (descs f.kids k j).length cb] 37
                    have HC := Lib.hid (And.intro hgrc (And.intro hownc (And.intro hbwc (And.intro hleaf (And.intro hc2 hc3)))))
                    have HC1 := Lib.hid (And.intro hc1 hnew)
                    have hbs := hbwc.size
                    obtain ⟨j37, hj37, hz37, hs37, hb37⟩ := info_parts info37
                    clear HX HX2 HX4 HX6 q1 q2 q3 q4 q5 q6 t5 t4 t3 t2 t1 t0 hl0 hl1 hl2 hl3 hl4 hleaf hgrc hownc hbwc hc1 hc2 hc3 hcells hnew hblk hbc HP Y0 Y12 Y3 Y4 HL hsz
                    go_wp2_with (first
                      | (at_builtin; refine wpList_appN _ rfl (.tmp 113) (.tmp 115) 33 rfl w.heap.size 37 j37 _ 8 152 under33 hj37 hz37 hs37 hb37 (by rfl) (by decide) _ j cs.flatten rfl (HC1.out.1.alloc _) ⟨wc.heap.size, 0, none⟩ 1 1 [.string P0, .string P3, .string P4, .string P1, .string P2, .slice Ak (f.kids j).length ck, .slice Aa up.length ca, .slice Ab (descs f.kids k j).length cb] rfl rfl HC1.out.2 (by intro u hu; simp at hu; rcases hu with rfl | rfl | rfl | rfl | rfl | rfl | rfl | rfl <;> rfl) (by simp only [maxLen]; omega) (by omega) (by simp; omega) ?_; intro v1 w1 hown1 hg1 hat1)
                      | fail)
                    obtain ⟨hgrc, hownc, hbwc, hleaf, hc2, hc3⟩ := HC.out
                    have hbA : ∀ ob, Below wc.heap.size wc (wc.alloc ob) := fun ob => (Below.refl _ _).alloc (Nat.le_refl _) _
                    have hcrop1 := Crop.snoc (HC1.out.1.alloc _) hc2 (fun i c hc => (hc3 i c hc).kept fun v n xs h => ownN_below h (hbA _)) (hleaf.kept fun v n xs h => ownN_below h (hbA _)) (by decide) hown1 hg1
                    have hgr1 := (hgrc.below (hbA _)).grown (hgrc.row_no_node HC1.out.1 (by decide)) hg1
                    have hown2 := ownN_kept (ownN_below hownc (hbA _)) (fun q hq => hg1.block q (ownN_lt (ownN_below hownc (hbA _)) q hq).1 (fun e => own_apart hownc HC1.out.1 (by decide) q hq e.symm))
                    have hbw1 : Below w.heap.size w w1 := (hbwc.alloc hbwc.size _).grown hg1 (by simp; omega) (fun q hq => (ownN_lt HC1.out.1 q hq).2)
                    clear hgrc hownc hbwc hleaf hc2 hc3 hown1 hg1 hat1 hbA
                    go_roundg (k - (j + 1))
                    case measure => omega
                    case rel => exact ⟨j + 1, by omega, by go_num, hbw1, hgr1, hown2, hcrop1⟩
          · obtain rfl : j = k := by omega
            have HE := Lib.hid (And.intro hbw hcrop)
            clear hbw hcrop hgr hown
            go_wp2_with fail
            exact ⟨rfl, _, by simp [results, show Try.f10.results = #[.tmp 4, .tmp 5] from rfl, go_sem], _, rfl, HE.out⟩
end Go.Proofs.Ytgbeohhegckonaa
