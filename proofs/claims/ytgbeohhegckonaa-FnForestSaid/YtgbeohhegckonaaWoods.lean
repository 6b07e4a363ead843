import Derived.Test.YtgbeohhegckonaaDeeds
import Derived.Test.YtgbeohhegckonaaEdited
import Derived.Test.YtgbeohhegckonaaGrown
import Derived.Deep.CutBlock
/-! spec.Forest. -/
namespace Go.Proofs.Ytgbeohhegckonaa
open Go.RowKit Go.Shelf Go.BigFrame
set_option linter.unusedSimpArgs false
set_option linter.unusedVariables false

theorem info40 : (Try.prog.info? 40).map (fun i => (i.zero, i.size, i.bytes)) = some (some (.slice none 0 0), 1, 24) := by kernel_rfl
theorem under22 : Try.prog.underlying 22 = some (.slice 40) := by kernel_rfl

section
variable {base many : Nat} {f : Wood} {P : Nat} {Ap Ak : Option Addr} {Cp Ck : Nat} {vs : Nat → Value} {w : World}

theorem stepW_any (h : SpecAt base many f P Ap Ak Cp Ck vs w) (hf : f.Ok many) (hm : many ≤ 100) {A : Option Addr} {C : Nat} {row : List Int} (hLC : row.length ≤ C) (hCm : C ≤ maxLen) (hlies : Lies w w.heap.size A (intsV row)) (hrange : ∀ x ∈ row, inRange x) (hbase : base ≤ w.heap.size) :
    Calls Try.prog 21 #[.pointer (some ⟨P, 0, none⟩), .slice A row.length C] w (Stepped base many f P Ap Ak Cp Ck vs row w) := by
  by_cases h3 : row.length < 3
  · refine (step_short h.f0 (decide_eq_true (by omega))).mono ?_
    rintro e w' ⟨rfl, m, rfl⟩
    exact ⟨below_drawn (Below.refl _ _) _, .inl rfl⟩
  · obtain ⟨az, rfl⟩ : ∃ az, A = some az := by
      obtain ⟨a, ha, _⟩ := hlies.resolve_left (by intro e; have := congrArg List.length e; simp at this; rw [this] at h3; simp at h3)
      exact ⟨a, ha⟩
    exact step_long h hf hm rfl (by omega) hLC hCm hlies hrange hbase

theorem spec0 (base : Nat) (W : World) {P : Nat} (hP : base ≤ P) (hb : W.heap[P]? = some (.cells #[.slice none 0 0, .slice none 0 0] 60 (0, 0))) : SpecAt base 0 wood0 P none none 0 0 (fun _ => .slice none 0 0) W :=
  ⟨hP, hb, World.ownsRow_nil _ _ _ _, World.ownsRow_nil _ _ _ _, fun p hp => by omega, fun p hp => by omega⟩

/-- One more number in the reference's forest. -/
theorem SpecAt.more {k : Nat} {A1 A2 : Option Addr} {C1 C2 : Nat} {W W' : World} (h : SpecAt base k wood0 P Ap Ak Cp Ck (fun _ => .slice none 0 0) W) (hb : W'.heap[P]? = some (.cells #[.slice A1 (k + 1) C1, .slice A2 (k + 1) C2] 60 (0, 0)))
    (h1 : W'.ownsRow base 3 1 (.slice A1 (k + 1) C1) (k + 1) (parV wood0 k ++ [.int .i64 (-1)])) (h2 : W'.ownsRow base 40 1 (.slice A2 (k + 1) C2) (k + 1) (kidV (fun _ => .slice none 0 0) k ++ [.slice none 0 0])) :
    SpecAt base (k + 1) wood0 P A1 A2 C1 C2 (fun _ => .slice none 0 0) W' := by
  refine ⟨h.pbase, hb, ?_, ?_, fun p _ => World.ownsRow_nil _ _ _ _, fun p _ q hq => by cases hq⟩
  · have : parV wood0 (k + 1) = parV wood0 k ++ [.int .i64 (-1)] := by simp [parV, List.range_succ, wood0, enc]
    rw [this]; exact h1
  · have : kidV (fun _ => .slice none 0 0) (k + 1) = kidV (fun _ => .slice none 0 0) k ++ [.slice none 0 0] := by simp [kidV, List.range_succ]
    rw [this]; exact h2

/-- A block of type 60 is no block of a row of another type. -/
theorem blk_far {W : World} {P : Nat} {cs : Array Value} (hP : W.heap[P]? = some (.cells cs 60 (0, 0))) {b e s n : Nat} {v : Value} {xs : List Value} (hv : W.ownsRow b e s v n xs) (he : e ≠ 60) : some P ≠ v.ownBlock := by
  intro h
  rcases hv.2 with ⟨rfl, _⟩ | ⟨g, cap, cur, rfl, _, hh, _⟩
  · cases h
  · have : P = g := by simpa [Value.ownBlock] using h
    subst this
    rw [hP] at hh
    cases hh
    exact he rfl

theorem blk_set {W : World} {P i : Nat} {cs : Array Value} (hP : W.heap[P]? = some (.cells cs 60 (0, 0))) (u : Value) : (W.setCell ⟨P, i, none⟩ u).heap[P]? = some (.cells (cs.setIfInBounds i u) 60 (0, 0)) := by
  simp [World.setCell, Array.getElem?_modify, hP]
theorem own_blk {W : World} {P i : Nat} {cs : Array Value} (hP : W.heap[P]? = some (.cells cs 60 (0, 0))) (u : Value) {b e n : Nat} {v : Value} {xs : List Value} (hv : W.ownsRow b e 1 v n xs) (he : e ≠ 60) : (W.setCell ⟨P, i, none⟩ u).ownsRow b e 1 v n xs :=
  own_far hv (fun k hk e2 => blk_far hP hv he (by rw [hk, e2])) u
theorem cell_blk {W : World} {P i : Nat} {cs : Array Value} {u : Value} (hP : W.heap[P]? = some (.cells cs 60 (0, 0))) (hu : cs[i]? = some u) : W.cell? ⟨P, i, none⟩ = some u := by simp [World.cell?, hP, hu]
theorem frozen_blk {W : World} {P i : Nat} {cs : Array Value} (hP : W.heap[P]? = some (.cells cs 60 (0, 0))) : W.frozen? ⟨P, i, none⟩ = false := by simp [World.frozen?, hP]
theorem blk_grown {W w1 : World} {P : Nat} {cs : Array Value} (hP : W.heap[P]? = some (.cells cs 60 (0, 0))) (o : Obj) {b e n : Nat} {v : Value} {xs : List Value} (hv : W.ownsRow b e 1 v n xs) (he : e ≠ 60) (hg : (W.alloc o).grownBy w1 v.ownBlock) : w1.heap[P]? = some (.cells cs 60 (0, 0)) := by
  have hlt := lt_of_block hP
  exact (hg.block P (by simp; omega) (blk_far hP hv he)).trans ((Below.heap_alloc W o P hlt).trans hP)
theorem own_grown {W w1 : World} (o : Obj) {b e n b' e' n' : Nat} {v v' : Value} {xs xs' : List Value} (hv : W.ownsRow b e 1 v n xs) (hv' : W.ownsRow b' e' 1 v' n' xs') (hne : e' ≠ e) (hg : (W.alloc o).grownBy w1 v.ownBlock) : w1.ownsRow b' e' 1 v' n' xs' :=
  ownN_kept (hv'.alloc o) fun k hk => hg.block k (ownN_lt (hv'.alloc o) k hk).1 (fun e2 => own_apart hv' hv hne k hk e2.symm)

set_option maxRecDepth 100000 in
set_option maxHeartbeats 8000000 in
theorem woods_any (w : World) (many : Nat) (A : Option Addr) (cap : Nat) (rows : List (List Int)) (hA : A = none → cap = 0) (hcap : rows.length ≤ cap) (hS : ScriptAt w w.heap.size A rows) (hm : many ≤ 100) (hr : rows.length ≤ 300) :
    Calls Try.prog 9 #[.int .i64 many, .slice A rows.length cap] w fun e w' => Below w.heap.size w w' ∧ ((∃ v n, e = .returned (.tuple #[v, n, .bool false])) ∨
      ∃ v d st, e = .returned (.tuple #[v, .int .i64 (d : Nat), .bool true]) ∧ d ≤ rows.length ∧ Took many rows d st ∧ (d = rows.length ∨ ∃ r, rows[d]? = some r ∧ StepW many (st d) r .panics) ∧ Crop (st d) many w.heap.size 38 w' v many) := by
  obtain ⟨i0, hi0, hz0, hz1, hz2⟩ := info_parts infoInt
  obtain ⟨i1, hi1, hy0, hy1, hy2⟩ := info_parts info40
  have HS := Lib.hid hS
  clear hS
  go_enter Try.func9, Try.ntmps9
  go_wp2_with fail
  go_loopg [15] many (fun g s15 wx => ∃ k : Nat, k + g = many ∧ s15 = .int .i64 k ∧ Below w.heap.size w wx ∧ ∃ Ap Ak Cp Ck, SpecAt w.heap.size k wood0 w.heap.size Ap Ak Cp Ck (fun _ => .slice none 0 0) wx)
  case atStart => exact ⟨0, by omega, rfl, (Below.refl _ w).alloc (Nat.le_refl _) _, none, none, 0, 0, spec0 _ _ (Nat.le_refl _) (heap_alloc_new w _)⟩
  case round =>
    obtain ⟨k, hg, rfl, hbw, Ap, Ak, Cp, Ck, hsp⟩ := hrel
    have HB := hbw.size
    by_cases hk : k < many
    · have g0 := hsp.f0
      have g1 := hsp.f1
      have hPlt := lt_of_block hsp.blk
      have HX := Lib.hid (And.intro hsp hbw)
      clear hsp hbw
      go_wp2_with (first
        | (at_builtin; refine wpList_app _ rfl (.tmp 21) (.tmp 22) 40 rfl w.heap.size 3 i0 (.int .i64 0) 8 underInts hi0 hz0 hz1 hz2 rfl _ k (parV wood0 k) rfl (HX.out.1.par.alloc _) (wr.heap.size + 1) (some ⟨wr.heap.size, 0, none⟩) 1 1 [.int .i64 (-1)] rfl (fun h => by cases h) rfl (lies_new wr _ 3) (by intro u hu; simp at hu; subst hu; rfl) (by simp only [maxLen]; omega) (by omega) (by simp; omega) ?_; intro v1 w1 hown1 hg1 hat1; obtain ⟨A1, C1, hv1, _, _, _⟩ := own_form hown1; subst hv1; have hP1 := blk_grown HX.out.1.blk _ HX.out.1.par (by decide) hg1; have hK1 := own_grown _ HX.out.1.par HX.out.1.kid (by decide) hg1; have hb1 : Below w.heap.size w w1 := (HX.out.2.alloc HB _).grown hg1 (by simp; omega) (own_base HX.out.1.par); have c0 := cell_blk (i := 0) hP1 rfl; have c0f := frozen_blk (i := 0) hP1; have hP2 := blk_set (i := 0) hP1 (.slice A1 (k + 1) C1); have c1 := cell_blk (i := 1) hP2 rfl; have hR2 := own_blk (i := 0) hP1 (.slice A1 (k + 1) C1) hown1 (by decide); have hK2 := own_blk (i := 0) hP1 (.slice A1 (k + 1) C1) hK1 (by decide); have hb2 : Below w.heap.size w (w1.setCell ⟨w.heap.size, 0, none⟩ (.slice A1 (k + 1) C1)) := hb1.setCell (Nat.le_refl _) _; have hl2 := lies_new (w1.setCell ⟨w.heap.size, 0, none⟩ (.slice A1 (k + 1) C1)) (.slice none 0 0) 40; have hsz2 : (w1.setCell ⟨w.heap.size, 0, none⟩ (.slice A1 (k + 1) C1)).heap.size = w1.heap.size := (by simp); rw [hsz2] at hl2; have H2 := Lib.hid (And.intro hP2 (And.intro hR2 (And.intro hK2 (And.intro hb2 hl2)))); clear hown1 hg1 hat1 hP1 hK1 hb1 hP2 hR2 hK2 hb2 hl2 hsz2)
        | (at_builtin; refine wpList_app _ rfl (.tmp 30) (.tmp 31) 22 rfl w.heap.size 40 i1 (.slice none 0 0) 24 under22 hi1 hy0 hy1 hy2 rfl _ k (kidV (fun _ => .slice none 0 0) k) rfl (H2.out.2.2.1.alloc _) (w1.heap.size + 1) (some ⟨w1.heap.size, 0, none⟩) 1 1 [.slice none 0 0] rfl (fun h => by cases h) rfl H2.out.2.2.2.2 (by intro u hu; simp at hu; subst hu; rfl) (by simp only [maxLen]; omega) (by omega) (by have := H2.out.2.2.2.1.size; simp at this ⊢; omega) ?_; intro v2 w2 hown2 hg2 hat2; obtain ⟨A2, C2, hv2, _, _, _⟩ := own_form hown2; subst hv2; have hP3 := blk_grown H2.out.1 _ H2.out.2.2.1 (by decide) hg2; have hR3 := own_grown _ H2.out.2.2.1 H2.out.2.1 (by decide) hg2; have hb3 : Below w.heap.size w w2 := (H2.out.2.2.2.1.alloc H2.out.2.2.2.1.size _).grown hg2 (by have := H2.out.2.2.2.1.size; simp at this ⊢; omega) (own_base H2.out.2.2.1); have c3 := cell_blk (i := 1) hP3 rfl; have c3f := frozen_blk (i := 1) hP3; have H3 := Lib.hid (And.intro hP3 (And.intro hR3 (And.intro hown2 hb3))); clear hP3 hR3 hown2 hb3 hg2 hat2)
        | fail)
      have hP4 := blk_set (i := 1) H3.out.1 (.slice A2 (k + 1) C2)
      have hR4 := own_blk (i := 1) H3.out.1 (.slice A2 (k + 1) C2) H3.out.2.1 (by decide)
      have hK4 := own_blk (i := 1) H3.out.1 (.slice A2 (k + 1) C2) H3.out.2.2.1 (by decide)
      have hb4 : Below w.heap.size w (w2.setCell ⟨w.heap.size, 1, none⟩ (.slice A2 (k + 1) C2)) := H3.out.2.2.2.setCell (Nat.le_refl _) _
      have hfin := HX.out.1.more (A1 := A1) (A2 := A2) (C1 := C1) (C2 := C2) (W' := w2.setCell ⟨w.heap.size, 1, none⟩ (.slice A2 (k + 1) C2)) (by simpa using hP4) hR4 hK4
      go_roundg (many - (k + 1))
      case measure => omega
      case rel => exact ⟨k + 1, by omega, by go_num, hb4, A1, A2, C1, C2, hfin⟩
    · obtain rfl : k = many := by omega
      have hPlt := lt_of_block hsp.blk
      have HO := Lib.hid (And.intro hsp hbw)
      clear hsp hbw
      go_upto_block 2 with fail
      go_cut [4, 5, 8] from 36 to 51 (fun s4 s5 s8 wx => ∃ d st Ap Ak Cp Ck vs, s4 = .slice none 0 0 ∧ s5 = .int .i64 (d : Nat) ∧ d ≤ rows.length ∧ Took k rows d st ∧ (d = rows.length ∨ ∃ r, rows[d]? = some r ∧ StepW k (st d) r .panics) ∧ SpecAt w.heap.size k (st d) w.heap.size Ap Ak Cp Ck vs wx ∧ Below w.heap.size w wx)
      case first =>
        obtain ⟨hsp, hbw⟩ := HO.out
        clear HO
        go_wp2_with fail
        go_loopg [4, 5, 8] rows.length (fun g s4 s5 s8 wx => ∃ d st Ap Ak Cp Ck vs, s4 = .slice none 0 0 ∧ d + g = rows.length ∧ s5 = .int .i64 (d : Nat) ∧ Took k rows d st ∧ SpecAt w.heap.size k (st d) w.heap.size Ap Ak Cp Ck vs wx ∧ Below w.heap.size w wx)
        case atStart => exact ⟨0, fun _ => wood0, _, _, _, _, _, rfl, by omega, rfl, ⟨rfl, fun j hj => by omega⟩, hsp, hbw⟩
        case round =>
          clear hsp hbw
          obtain ⟨d, st, Ap, Ak, Cp, Ck, vs, rfl, hg2, rfl, hto, hsp, hbw⟩ := hrel
          by_cases hd : d < rows.length
          · obtain ⟨r, hxs⟩ : ∃ r, rows[d]? = some r := ⟨_, List.getElem?_eq_getElem hd⟩
            have hd' : (d : Int) < (rows.length : Int) := by omega
            obtain ⟨a, rfl, hab, hall⟩ := (HS.out.below hbw).resolve_left (fun h => by rw [h] at hd; simp at hd)
            obtain ⟨A', C, hc, hx, hC1, hC2, hC3, hrange⟩ := hall d r hxs
            have hT := stepW_any hsp (hto.ok d (Nat.le_refl _)) hm hC1 hC2 (hx.more hbw.size) (fun x hx => hrange x hx) hbw.size
            have HX := Lib.hid (And.intro hto (And.intro hxs hbw))
            clear hall hx hrange hxs hsp hto hbw
            go_wp2_with (first
              | (go_at_call 21; go_must (refine hT.mono ?_; clear hT; rintro e w1 ⟨hb1, hout⟩; rcases hout with rfl | ⟨rfl, hst, hsp⟩ | ⟨rfl, f', vs', hst, hsp⟩))
              | fail)
            · exact ⟨rfl, .tuple #[.slice none 0 0, .int .i64 0, .bool false], by simp [results, show Try.f9.results = #[.tmp 4, .tmp 5, .tmp 6] from rfl, go_sem], HX.out.2.2.trans hb1, .inl ⟨_, _, rfl⟩⟩
            · go_meet
              case rel => exact ⟨d, st, Ap, Ak, Cp, Ck, vs, rfl, rfl, by omega, HX.out.1, .inr ⟨r, HX.out.2.1, hst⟩, hsp, HX.out.2.2.trans hb1⟩
            · go_roundg (rows.length - (d + 1))
              case measure => omega
              case rel => exact ⟨d + 1, _, Ap, Ak, Cp, Ck, vs', rfl, by omega, by go_num, HX.out.1.next HX.out.2.1 hst, by rw [if_neg (by omega)]; exact hsp, HX.out.2.2.trans hb1⟩
          · obtain rfl : d = rows.length := by omega
            have HX := Lib.hid (And.intro hto (And.intro hsp hbw))
            clear hsp hto hbw
            go_wp2_with fail
            go_meet
            case rel => exact ⟨_, st, Ap, Ak, Cp, Ck, vs, rfl, rfl, Nat.le_refl _, HX.out.1, .inl rfl, HX.out.2.1, HX.out.2.2⟩
      case rest =>
        obtain ⟨d, st, Ap, Ak, Cp, Ck, vs, rfl, rfl, hd, hto, hend, hsp, hbw⟩ := hcut
        have hok := hto.ok d (Nat.le_refl _)
        obtain ⟨f, hf⟩ : ∃ f, st d = f := ⟨_, rfl⟩
        rw [hf] at hok hsp
        have HD := Lib.hid (And.intro hd (And.intro hto (And.intro hend hf)))
        have HO2 := Lib.hid (And.intro hbw hsp)
        clear HS HO hd hto hend hf hbw hsp
        go_wp2_with fail
        go_loopg [4, 9, 10, 11, 53] k (fun g s4 s9 s10 s11 s53 wx => ∃ j : Nat, j + g = k ∧ s53 = .int .i64 j ∧ Below w.heap.size w wx ∧ SpecAt w.heap.size k f w.heap.size Ap Ak Cp Ck vs wx ∧ Crop f k w.heap.size 38 wx s4 j)
        case atStart => exact ⟨0, by omega, rfl, HO2.out.1, HO2.out.2, Crop.nil _ _ _ _ _⟩
        case round =>
          clear HO2
          obtain ⟨j, hg3, rfl, hbw, hsp, hcrop⟩ := hrel
          by_cases hj : j < k
          · obtain ⟨up, hup, hul, hult, _⟩ := hok.above j
            obtain ⟨ap, rfl, hap, hpj⟩ := hsp.parent hj
            obtain ⟨ak, Aj, Cj, rfl, hak, hkj, _, hj1, hj2, hj3, hlj⟩ := hsp.kidsAt hj
            have q1 : (j : Int) < (k : Int) := by omega
            have g0 := hsp.f0
            have g1 := hsp.f1
            have hPlt := lt_of_block hsp.blk
            have hpl := fun x (hx : f.par j = some x) => (hok.lt x j ((hok.kid x j).2 hx)).1
            have hlab := fun (o : Option Nat) (ho : ∀ x, o = some x → x < k) (W : World) => label_any W o (fun x hx => by have := ho x hx; omega)
            have HX := Lib.hid (And.intro hsp (And.intro hbw (And.intro hcrop (And.intro hlj (And.intro hup (And.intro hul hult))))))
            clear hsp hbw hcrop hlj hup hul hult
            obtain ⟨ep, hep⟩ : ∃ x, enc (f.par j) = x := ⟨_, rfl⟩
            rw [hep] at hpj
            have HE := Lib.hid hep
            clear hep
            go_upto_region 16 with fail
            refine wp_region_last 34 (by kernel_rfl) rfl (fun w' => Below wr.heap.size wr w') (fun w1 w2 => Below w1.heap.size w1 w2) (fun i v w' => match i with
              | 0 | 1 | 8 | 12 | 16 | 17 | 24 | 28 => v = .pointer (some ⟨w.heap.size, 0, none⟩)
              | 2 => v = .pointer (some ⟨w.heap.size, 0, none⟩)
              | 3 => v = .slice (some ap) k Cp
              | 4 | 9 | 13 | 20 | 25 | 29 => v = .int .i64 j
              | 5 => v = .pointer (some (ap.add j))
              | 6 => v = .int .i64 ep
              | 7 => v = .string (lab (f.par j))
              | 10 => v = .int .i64 (enc (prevOf f j))
              | 11 => v = .string (lab (prevOf f j))
              | 14 => v = .int .i64 (enc (nextOf f j))
              | 15 => v = .string (lab (nextOf f j))
              | 18 => v = .pointer (some ⟨w.heap.size, 1, none⟩)
              | 19 => v = .slice (some ak) k Ck
              | 21 => v = .pointer (some (ak.add j))
              | 22 => v = .slice Aj (f.kids j).length Cj
              | 23 => Words w' v (f.kids j)
              | 26 => w'.ownsRow 0 3 1 v up.length (intsV (ints up))
              | 27 => Words w' v up
              | 30 => w'.ownsRow 0 3 1 v (descs f.kids k j).length (intsV (ints (descs f.kids k j)))
              | 31 => Words w' v (descs f.kids k j)
              | 32 => ∃ vk va vb, v = .agg #[.string (lab (f.par j)), .string (lab (prevOf f j)), .string (lab (nextOf f j)), .string ⟨#[]⟩, .string ⟨#[]⟩, vk, va, vb] ∧ Words w' vk (f.kids j) ∧ Words w' va up ∧ Words w' vb (descs f.kids k j)
              | 33 => ∃ n, v = .pointer (some ⟨n, 0, none⟩) ∧ wr.heap.size ≤ n ∧ w'.heap[n]? = some (.cells #[.string ⟨#[]⟩, .string ⟨#[]⟩, .string ⟨#[]⟩, .string ⟨#[]⟩, .string ⟨#[]⟩, .slice none 0 0, .slice none 0 0, .slice none 0 0] 38 (0, 0))
              | _ => False) ?_ (by kernel_rfl) (below_drawn (Below.refl _ wr) 1) ?_ ?_
            · intro i v w1 w2 he hr
              match i, hr with
              | 0, hr | 1, hr | 2, hr | 3, hr | 4, hr | 5, hr | 6, hr | 7, hr | 8, hr | 9, hr | 10, hr | 11, hr | 12, hr | 13, hr | 14, hr | 15, hr | 16, hr | 17, hr | 18, hr | 19, hr | 20, hr | 21, hr | 22, hr | 24, hr | 25, hr | 28, hr | 29, hr => exact hr
              | 23, hr | 26, hr | 27, hr | 30, hr | 31, hr => exact ownN_below hr he
              | 32, ⟨vk, va, vb, h1, h2, h3, h4⟩ => exact ⟨vk, va, vb, h1, ownN_below h2 he, ownN_below h3 he, ownN_below h4 he⟩
              | 33, ⟨n, h1, h2, h3⟩ => exact ⟨n, h1, h2, (he.block n (lt_of_block h3)).trans h3⟩
            · simp only [List.take_succ_cons, List.take_zero, TableOps]
              refine ⟨⟨trivial, ?_⟩, ⟨trivial, ?_⟩, ⟨trivial, ?_⟩, ⟨trivial, ?_⟩, ⟨trivial, ?_⟩, ⟨trivial, ?_⟩, ⟨trivial, ?_⟩, ⟨trivial, ?_⟩, ⟨trivial, ?_⟩, ⟨trivial, ?_⟩, ⟨trivial, ?_⟩, ⟨trivial, ?_⟩, ⟨trivial, ?_⟩, ⟨trivial, ?_⟩, ⟨trivial, ?_⟩, ⟨trivial, ?_⟩, ⟨trivial, ?_⟩, ⟨trivial, ?_⟩, ⟨trivial, ?_⟩, ⟨trivial, ?_⟩, ⟨trivial, ?_⟩, ⟨trivial, ?_⟩, ⟨trivial, ?_⟩, ⟨trivial, ?_⟩, ⟨trivial, ?_⟩, ⟨trivial, ?_⟩, ⟨trivial, ?_⟩, ⟨trivial, ?_⟩, ⟨trivial, ?_⟩, ⟨trivial, ?_⟩, ⟨trivial, ?_⟩, ⟨trivial, ?_⟩, ⟨trivial, ?_⟩, ⟨trivial, ?_⟩, trivial⟩
              all_goals
                intro a' w' hS hD hF hdep
                clear hD
                have f7 := hF 7 (by kernel_rfl)
                have f9 := hF 9 (by kernel_rfl)
                clear hF
                simp [Region.binds, Holds] at hdep f7 f9
                have k1 := (hS.cell (p := ⟨w.heap.size, 1, none⟩) hPlt).trans g1
                have k0 := (hS.cell (p := ⟨w.heap.size, 0, none⟩) hPlt).trans g0
                have k2 := (hS.cell (p := ak.add j) (by rw [block_add]; exact hak)).trans hkj
                have k3 := (hS.cell (p := ap.add j) (by rw [block_add]; exact hap)).trans hpj
              · simp [Oper.wp, execOp, Act.eval, hdep, f7, f9, go_sem, Below.refl, hS, k1, k0, k2, k3, q1]
              · simp [Oper.wp, execOp, Act.eval, hdep, f7, f9, go_sem, Below.refl, hS, k1, k0, k2, k3, q1]
              · simp [Oper.wp, execOp, Act.eval, hdep, f7, f9, go_sem, Below.refl, hS, k1, k0, k2, k3, q1]
              · simp [Oper.wp, execOp, Act.eval, hdep, f7, f9, go_sem, Below.refl, hS, k1, k0, k2, k3, q1]
              · simp [Oper.wp, execOp, Act.eval, hdep, f7, f9, go_sem, Below.refl, hS, k1, k0, k2, k3, q1]
              · simp [Oper.wp, execOp, Act.eval, hdep, f7, f9, go_sem, Below.refl, hS, k1, k0, k2, k3, q1]
              · simp [Oper.wp, execOp, Act.eval, hdep, f7, f9, go_sem, Below.refl, hS, k1, k0, k2, k3, q1]
              · simp [Oper.wp, execOp, Act.eval, hdep, go_sem]
                rw [← HE.out]
                refine (hlab (f.par j) hpl w').mono ?_
                rintro e w'' ⟨rfl, m, rfl⟩
                exact ⟨_, rfl, below_drawn hS m, below_drawn (Below.refl _ _) m, rfl⟩
              · simp [Oper.wp, execOp, Act.eval, hdep, f7, f9, go_sem, Below.refl, hS, k1, k0, k2, k3, q1]
              · simp [Oper.wp, execOp, Act.eval, hdep, f7, f9, go_sem, Below.refl, hS, k1, k0, k2, k3, q1]
              · simp [Oper.wp, execOp, Act.eval, hdep, go_sem]
                refine (beside_prev (HX.out.1.below hS) hok hm hj).mono ?_
                rintro e w'' ⟨rfl, m, rfl⟩
                exact ⟨_, rfl, below_drawn hS m, below_drawn (Below.refl _ _) m, rfl⟩
              · simp [Oper.wp, execOp, Act.eval, hdep, go_sem]
                refine (hlab (prevOf f j) (hok.prev_lt j) w').mono ?_
                rintro e w'' ⟨rfl, m, rfl⟩
                exact ⟨_, rfl, below_drawn hS m, below_drawn (Below.refl _ _) m, rfl⟩
              · simp [Oper.wp, execOp, Act.eval, hdep, f7, f9, go_sem, Below.refl, hS, k1, k0, k2, k3, q1]
              · simp [Oper.wp, execOp, Act.eval, hdep, f7, f9, go_sem, Below.refl, hS, k1, k0, k2, k3, q1]
              · simp [Oper.wp, execOp, Act.eval, hdep, go_sem]
                refine (beside_next (HX.out.1.below hS) hok hm hj).mono ?_
                rintro e w'' ⟨rfl, m, rfl⟩
                exact ⟨_, rfl, below_drawn hS m, below_drawn (Below.refl _ _) m, rfl⟩
              · simp [Oper.wp, execOp, Act.eval, hdep, go_sem]
                refine (hlab (nextOf f j) (hok.next_lt j) w').mono ?_
                rintro e w'' ⟨rfl, m, rfl⟩
                exact ⟨_, rfl, below_drawn hS m, below_drawn (Below.refl _ _) m, rfl⟩
              · simp [Oper.wp, execOp, Act.eval, hdep, f7, f9, go_sem, Below.refl, hS, k1, k0, k2, k3, q1]
              · simp [Oper.wp, execOp, Act.eval, hdep, f7, f9, go_sem, Below.refl, hS, k1, k0, k2, k3, q1]
              · simp [Oper.wp, execOp, Act.eval, hdep, f7, f9, go_sem, Below.refl, hS, k1, k0, k2, k3, q1]
              · simp [Oper.wp, execOp, Act.eval, hdep, f7, f9, go_sem, Below.refl, hS, k1, k0, k2, k3, q1]
              · simp [Oper.wp, execOp, Act.eval, hdep, f7, f9, go_sem, Below.refl, hS, k1, k0, k2, k3, q1]
              · simp [Oper.wp, execOp, Act.eval, hdep, f7, f9, go_sem, Below.refl, hS, k1, k0, k2, k3, q1]
              · simp [Oper.wp, execOp, Act.eval, hdep, f7, f9, go_sem, Below.refl, hS, k1, k0, k2, k3, q1]
              · simp [Oper.wp, execOp, Act.eval, hdep, go_sem]
                refine (labels_any w' Aj Cj (f.kids j) ((HX.out.2.2.2.1.below hS).more hS.size) hj1 (by have := hok.kids_len j; omega) (fun x hx => by have := (hok.lt j x hx).2; omega)).mono ?_
                rintro e w'' ⟨v, rfl, hown, hbb⟩
                exact ⟨_, rfl, hS.trans (hbb.mono hS.size), hbb, by simpa [Words, intsV, strsV] using ownN_mono hown (Nat.zero_le _)⟩
              · simp [Oper.wp, execOp, Act.eval, hdep, f7, f9, go_sem, Below.refl, hS, k1, k0, k2, k3, q1]
              · simp [Oper.wp, execOp, Act.eval, hdep, f7, f9, go_sem, Below.refl, hS, k1, k0, k2, k3, q1]
              · simp [Oper.wp, execOp, Act.eval, hdep, go_sem]
                refine (above_any (HX.out.1.below hS) hm hj HX.out.2.2.2.2.1 HX.out.2.2.2.2.2.1 HX.out.2.2.2.2.2.2).mono ?_
                rintro e w'' ⟨v, rfl, hown, hbb⟩
                exact ⟨_, rfl, hS.trans (hbb.mono hS.size), hbb, by simpa [Words, intsV, strsV] using ownN_mono hown (Nat.zero_le _)⟩
              · obtain ⟨v0, hv0, hown0⟩ := hdep
                obtain ⟨A2, C2, hv2, hn2, _, _⟩ := own_form hown0
                subst hv2
                simp [Oper.wp, execOp, Act.eval, hv0, go_sem]
                refine (labels_any w' A2 C2 up (Lies.of_own_any hown0 _ _ _ rfl) hn2 (by have := HX.out.2.2.2.2.2.1; omega) (fun x hx => by have := HX.out.2.2.2.2.2.2 x hx; omega)).mono ?_
                rintro e w'' ⟨v, rfl, hown, hbb⟩
                exact ⟨_, rfl, hS.trans (hbb.mono hS.size), hbb, by simpa [Words, intsV, strsV] using ownN_mono hown (Nat.zero_le _)⟩
              · simp [Oper.wp, execOp, Act.eval, hdep, f7, f9, go_sem, Below.refl, hS, k1, k0, k2, k3, q1]
              · simp [Oper.wp, execOp, Act.eval, hdep, f7, f9, go_sem, Below.refl, hS, k1, k0, k2, k3, q1]
              · simp [Oper.wp, execOp, Act.eval, hdep, go_sem]
                refine (below_any hok hm k (Nat.le_refl _) j hj (hok.deep j) w' (HX.out.1.below hS)).mono ?_
                rintro e w'' ⟨v, rfl, hown, hbb⟩
                exact ⟨_, rfl, hS.trans (hbb.mono hS.size), hbb, by simpa [Words, intsV, strsV] using ownN_mono hown (Nat.zero_le _)⟩
              · obtain ⟨v0, hv0, hown0⟩ := hdep
                obtain ⟨A2, C2, hv2, hn2, _, _⟩ := own_form hown0
                subst hv2
                simp [Oper.wp, execOp, Act.eval, hv0, go_sem]
                refine (labels_any w' A2 C2 (descs f.kids k j) (Lies.of_own_any hown0 _ _ _ rfl) hn2 (by have h1 := hok.below_len k j; have h2 : k * (k + 1) ≤ 100 * 101 := Nat.mul_le_mul hm (by omega); omega) (fun x hx => by have := hok.below_lt k j x hx; omega)).mono ?_
                rintro e w'' ⟨v, rfl, hown, hbb⟩
                exact ⟨_, rfl, hS.trans (hbb.mono hS.size), hbb, by simpa [Words, intsV, strsV] using ownN_mono hown (Nat.zero_le _)⟩
              · obtain ⟨h1, h2, h3, ⟨vk, hvk, wk⟩, ⟨va, hva, wa⟩, vb, hvb, wb⟩ := hdep
                obtain ⟨Ax, Cx, ex, _⟩ := own_form wk
                obtain ⟨Ay, Cy, ey, _⟩ := own_form wa
                obtain ⟨Az, Cz, ez, _⟩ := own_form wb
                subst ex ey ez
                simp [Oper.wp, execOp, Act.eval, h1, h2, h3, hvk, hva, hvb, go_sem]
                exact ⟨_, rfl, hS, Below.refl _ _, _, _, _, rfl, wk, wa, wb⟩
              · simp [Oper.wp, execOp, Act.eval, go_sem]
                exact ⟨_, rfl, hS.alloc hS.size _, (Below.refl _ _).alloc (Nat.le_refl _) _, w'.heap.size, rfl, hS.size, heap_alloc_new w' _⟩
            · intro val W2 hS hall
              have r32 := hall 32 (by decide)
              have r33 := hall 33 (by decide)
              have hS' : Below wr.heap.size wr W2 := hS
              simp only [List.take_succ_cons, List.take_zero, putAll, List.setIfInBounds_toArray, List.set_cons_zero, List.set_cons_succ]
              obtain ⟨vk, va, vb, e32, wk, wa, wb⟩ := r32
              obtain ⟨n, e33, hn, hblk⟩ := r33
              obtain ⟨Ax, Cx, ex, _⟩ := own_form wk
              obtain ⟨Ay, Cy, ey, _⟩ := own_form wa
              obtain ⟨Az, Cz, ez, _⟩ := own_form wb
              subst ex ey ez
              rw [e32, e33]
              have hfz : ∀ i, W2.frozen? ⟨n, i, none⟩ = false := fun i => by simp [World.frozen?, hblk]
              have hce : ∀ i : Nat, W2.cell? ⟨n, i, none⟩ = (#[.string ⟨#[]⟩, .string ⟨#[]⟩, .string ⟨#[]⟩, .string ⟨#[]⟩, .string ⟨#[]⟩, .slice none 0 0, .slice none 0 0, .slice none 0 0] : Array Value)[i]? := fun i => cell_of_row W2 _ i _ _ _ hblk
              simp [Oper.wp, execOp, Act.eval, go_sem, hfz, hce, Exit.then]
              obtain ⟨W3, hW3⟩ : ∃ W3, ((((((((W2.setCell ⟨n, 0, none⟩ (.string (lab (f.par j)))).setCell ⟨n, 1, none⟩ (.string (lab (prevOf f j)))).setCell ⟨n, 2, none⟩ (.string (lab (nextOf f j)))).setCell ⟨n, 3, none⟩ (.string ⟨#[]⟩)).setCell ⟨n, 4, none⟩ (.string ⟨#[]⟩)).setCell ⟨n, 5, none⟩ (.slice Ax (f.kids j).length Cx)).setCell ⟨n, 6, none⟩ (.slice Ay up.length Cy)).setCell ⟨n, 7, none⟩ (.slice Az (descs f.kids k j).length Cz)) = W3 := ⟨_, rfl⟩
              rw [hW3]
              have hblk3 : W3.heap[n]? = some (.cells #[.string (lab (f.par j)), .string (lab (prevOf f j)), .string (lab (nextOf f j)), .string ⟨#[]⟩, .string ⟨#[]⟩, .slice Ax (f.kids j).length Cx, .slice Ay up.length Cy, .slice Az (descs f.kids k j).length Cz] 38 (0, 0)) := by
                rw [← hW3]
                simp [World.setCell, Array.getElem?_modify, hblk]
              have hfar3 : ∀ b, b ≠ n → W3.heap[b]? = W2.heap[b]? := fun b hb => by
                rw [← hW3]
                iterate 8 rw [Below.heap_setCell _ ⟨n, _, none⟩ _ b hb]
              have hbe3 : Below wr.heap.size wr W3 := by
                rw [← hW3]
                exact (((((((hS'.setCell (p := ⟨n, 0, none⟩) hn _).setCell (p := ⟨n, 1, none⟩) hn _).setCell (p := ⟨n, 2, none⟩) hn _).setCell (p := ⟨n, 3, none⟩) hn _).setCell (p := ⟨n, 4, none⟩) hn _).setCell (p := ⟨n, 5, none⟩) hn _).setCell (p := ⟨n, 6, none⟩) hn _).setCell (p := ⟨n, 7, none⟩) hn _
              have hw3 : ∀ {v m xs}, W2.ownsRow 0 9 1 v m xs → W3.ownsRow 0 9 1 v m xs := fun hv => ownN_kept hv fun q hq => hfar3 q (fun e => by
                rcases hv.2 with ⟨rfl, _⟩ | ⟨g, cap, cur, rfl, _, hh, _⟩
                · cases hq
                · have e2 : g = q := by simpa [Value.ownBlock] using hq
                  rw [e2, e, hblk] at hh
                  cases hh)
              have wk3 := hw3 wk
              have wa3 := hw3 wa
              have wb3 := hw3 wb
              clear hW3 hfar3 hw3 wk wa wb e32 e33 hfz hce hblk hall hS hS'
              have hsp3 := HX.out.1.below hbe3
              have g1' := hsp3.f1
              obtain ⟨_, A4, C4, ea, _, hkj3, hv4, _, _, _, hl4⟩ := hsp3.kidsAt hj
              cases ea
              have hnP : n ≠ w.heap.size := fun e => by
                have := hsp3.blk
                rw [← e, hblk3] at this
                cases this
              obtain ⟨P0, hP0⟩ : ∃ P, lab (f.par j) = P := ⟨_, rfl⟩
              obtain ⟨P1, hP1⟩ : ∃ P, lab (prevOf f j) = P := ⟨_, rfl⟩
              obtain ⟨P2, hP2⟩ : ∃ P, lab (nextOf f j) = P := ⟨_, rfl⟩
              rw [hP0, hP1, hP2] at hblk3
              have HP := Lib.hid (And.intro hP0 (And.intro hP1 hP2))
              have HW3 := Lib.hid (And.intro wk3 (And.intro wa3 (And.intro wb3 (And.intro hbe3 (And.intro hsp3 (And.intro hblk3 hl4))))))
              have hkl100 := hok.kids_len j
              clear hP0 hP1 hP2 wk3 wa3 wb3 hsp3 hbe3 hl4 hv4
              go_upto_if 98 with fail
              go_cut [4, 9, 10, 53] from 53 to 127 (fun s4 s9 s10 s53 wx => s4 = u4 ∧ s53 = .int .i64 j ∧ s10 = .pointer (some ⟨n, 0, none⟩) ∧ Below n W3 wx ∧ (∀ b, b ≠ n → b < W3.heap.size → wx.heap[b]? = W3.heap[b]?) ∧ wx.heap[n]? = some (.cells #[.string P0, .string P1, .string P2, .string (lab (f.kids j).head?), .string (lab (f.kids j).getLast?), .slice Ax (f.kids j).length Cx, .slice Ay up.length Cy, .slice Az (descs f.kids k j).length Cz] 38 (0, 0)))
              case first =>
                by_cases hz : (f.kids j).length = 0
                · have hlt0 : ¬ (0 : Int) < ((f.kids j).length : Int) := by omega
                  have hnil : f.kids j = [] := List.eq_nil_of_length_eq_zero hz
                  have HN := Lib.hid (And.intro hnil hz)
                  clear hnil hz
                  go_wp2_with fail
                  go_meet
                  case rel =>
                    refine ⟨rfl, rfl, rfl, Below.refl _ _, fun _ _ _ => rfl, ?_⟩
                    have h1 : (f.kids j).head? = none := by rw [HN.out.1]; rfl
                    have h2 : (f.kids j).getLast? = none := by rw [HN.out.1]; rfl
                    rw [h1, h2]
                    exact HW3.out.2.2.2.2.2.1
                · have hlt0 : (0 : Int) < ((f.kids j).length : Int) := by omega
                  have hlt1 : 0 < (f.kids j).length := by omega
                  have hlt2 : ¬ f.kids j = [] := fun e => hz (by rw [e]; rfl)
                  obtain ⟨m, hm1⟩ : ∃ m, (f.kids j).length = m + 1 := ⟨(f.kids j).length - 1, by omega⟩
                  obtain ⟨x, hx⟩ : ∃ x, (f.kids j)[0]? = some x := ⟨_, List.getElem?_eq_getElem (by omega)⟩
                  obtain ⟨xl, hxl⟩ : ∃ x, (f.kids j)[m]? = some x := ⟨_, List.getElem?_eq_getElem (by omega)⟩
                  have hxk : x < k := (hok.lt j x (List.mem_of_getElem? hx)).2
                  have hxlk : xl < k := (hok.lt j xl (List.mem_of_getElem? hxl)).2
                  have hhead : (f.kids j).head? = some x := by rw [List.head?_eq_getElem?]; exact hx
                  have hlast : (f.kids j).getLast? = some xl := by rw [List.getLast?_eq_getElem?, hm1]; exact hxl
                  obtain ⟨ca, rfl, hca, hc0⟩ := HW3.out.2.2.2.2.2.2.at_ (k := 0) (u := .int .i64 x) (by simp [ints, hx])
                  obtain ⟨_, eca, _, hcm⟩ := HW3.out.2.2.2.2.2.2.at_ (k := m) (u := .int .i64 xl) (by simp [ints, hxl])
                  cases eca
                  have hc0' : W3.cell? ca = some (.int .i64 x) := hc0
                  have e1 : IntKind.i64.wrap (((f.kids j).length : Int) - 1) = (m : Int) := by rw [IntKind.wrap_i64]; omega
                  have e2 : (m : Int) < ((f.kids j).length : Int) := by omega
                  obtain ⟨curk, hbk, _⟩ := own_addr HW3.out.2.2.2.2.1.kid
                  have hakn : ak.block ≠ n := fun e => by
                    have := HW3.out.2.2.2.2.2.1
                    rw [← e, hbk] at this
                    cases this
                  have hakl := lt_of_block hbk
                  obtain ⟨_, A5, C5, e5, _, hk5, hv5, _⟩ := HW3.out.2.2.2.2.1.kidsAt hj
                  cases e5
                  have hk6 : (some ca) = A5 := by rw [hkj3] at hk5; cases hk5; rfl
                  have hkrow := HW3.out.2.2.2.2.1.kids j hj
                  rw [hv5, ← hk6] at hkrow
                  obtain ⟨curc, hbc, _⟩ := own_addr hkrow
                  have hcan : ca.block ≠ n := fun e => by
                    have := HW3.out.2.2.2.2.2.1
                    rw [← e, hbc] at this
                    cases this
                  have hPl3 := lt_of_block HW3.out.2.2.2.2.1.blk
                  obtain ⟨L1, hL1⟩ : ∃ L, decS x = L := ⟨_, rfl⟩
                  obtain ⟨L2, hL2⟩ : ∃ L, decS xl = L := ⟨_, rfl⟩
                  have HL1 := Lib.hid (And.intro hL1 hL2)
                  have HZ := Lib.hid (And.intro hz (And.intro hm1 (And.intro hhead hlast)))
                  clear hz hm1 hx hxl hhead hlast hk5 hv5 hk6 hkrow hL1 hL2 hc0
                  go_upto_region 19 with fail
                  refine wp_region_last 25 (by kernel_rfl) rfl (fun w' => (∀ b, b ≠ n → b < W3.heap.size → w'.heap[b]? = W3.heap[b]?) ∧ Below n W3 w' ∧ (w'.heap[n]? = some (.cells #[.string P0, .string P1, .string P2, .string ⟨#[]⟩, .string ⟨#[]⟩, .slice Ax (f.kids j).length Cx, .slice Ay up.length Cy, .slice Az (descs f.kids k j).length Cz] 38 (0, 0)) ∨ w'.heap[n]? = some (.cells #[.string P0, .string P1, .string P2, .string L1, .string ⟨#[]⟩, .slice Ax (f.kids j).length Cx, .slice Ay up.length Cy, .slice Az (descs f.kids k j).length Cz] 38 (0, 0)))) (fun w1 w2 => w1.heap[n]? = some (.cells #[.string P0, .string P1, .string P2, .string L1, .string ⟨#[]⟩, .slice Ax (f.kids j).length Cx, .slice Ay up.length Cy, .slice Az (descs f.kids k j).length Cz] 38 (0, 0)) → w2.heap[n]? = some (.cells #[.string P0, .string P1, .string P2, .string L1, .string ⟨#[]⟩, .slice Ax (f.kids j).length Cx, .slice Ay up.length Cy, .slice Az (descs f.kids k j).length Cz] 38 (0, 0))) (fun i v w' => match i with
                    | 0 | 1 | 10 | 11 => v = .pointer (some ⟨w.heap.size, 0, none⟩)
                    | 2 | 12 => v = .pointer (some ⟨w.heap.size, 1, none⟩)
                    | 3 | 13 => v = .slice (some ak) k Ck
                    | 4 | 14 => v = .int .i64 j
                    | 5 | 15 => v = .pointer (some (ak.add j))
                    | 6 | 16 => v = .slice (some ca) (f.kids j).length C4
                    | 7 => v = .pointer (some ca)
                    | 8 => v = .int .i64 x
                    | 9 => v = .string L1
                    | 17 => v = .int .i64 (f.kids j).length
                    | 18 => v = .int .i64 m
                    | 19 => v = .pointer (some (ca.add m))
                    | 20 => v = .int .i64 xl
                    | 21 => v = .string L2
                    | 22 => v = .pointer (some ⟨n, 3, none⟩)
                    | 23 => w'.heap[n]? = some (.cells #[.string P0, .string P1, .string P2, .string L1, .string ⟨#[]⟩, .slice Ax (f.kids j).length Cx, .slice Ay up.length Cy, .slice Az (descs f.kids k j).length Cz] 38 (0, 0))
                    | 24 => v = .pointer (some ⟨n, 4, none⟩)
                    | _ => False) ?_ (by kernel_rfl) ⟨fun _ _ _ => rfl, below_drawn (Below.refl _ _) 1, .inl HW3.out.2.2.2.2.2.1⟩ ?_ ?_
                  · intro i v w1 w2 he hr
                    match i, hr with
                    | 0, hr | 1, hr | 2, hr | 3, hr | 4, hr | 5, hr | 6, hr | 7, hr | 8, hr | 9, hr | 10, hr | 11, hr | 12, hr | 13, hr | 14, hr | 15, hr | 16, hr | 17, hr | 18, hr | 19, hr | 20, hr | 21, hr | 22, hr | 24, hr => exact hr
                    | 23, hr => exact he hr
                  · simp only [List.take_succ_cons, List.take_zero, TableOps]
                    refine ⟨⟨trivial, ?_⟩, ⟨trivial, ?_⟩, ⟨trivial, ?_⟩, ⟨trivial, ?_⟩, ⟨trivial, ?_⟩, ⟨trivial, ?_⟩, ⟨trivial, ?_⟩, ⟨trivial, ?_⟩, ⟨trivial, ?_⟩, ⟨trivial, ?_⟩, ⟨trivial, ?_⟩, ⟨trivial, ?_⟩, ⟨trivial, ?_⟩, ⟨trivial, ?_⟩, ⟨trivial, ?_⟩, ⟨trivial, ?_⟩, ⟨trivial, ?_⟩, ⟨trivial, ?_⟩, ⟨trivial, ?_⟩, ⟨trivial, ?_⟩, ⟨trivial, ?_⟩, ⟨trivial, ?_⟩, ⟨trivial, ?_⟩, ⟨trivial, ?_⟩, ⟨trivial, ?_⟩, trivial⟩
                    all_goals
                      intro a' w' hS hD hF hdep
                      clear hD
                      have f7 := hF 7 (by kernel_rfl)
                      have f9 := hF 9 (by kernel_rfl)
                      have f10 := hF 10 (by kernel_rfl)
                      have f11 := hF 11 (by kernel_rfl)
                      clear hF
                      simp [Region.binds, Holds] at hdep f7 f9 f10 f11
                      have hcell : ∀ p : Addr, p.block ≠ n → p.block < W3.heap.size → w'.cell? p = W3.cell? p := fun p h1 h2 => by
                        have := hS.1 p.block h1 h2
                        simp only [World.cell?, this]
                      have k1 := (hcell ⟨w.heap.size, 1, none⟩ (fun e => hnP e.symm) hPl3).trans g1'
                      have k2 := (hcell (ak.add j) (by rw [block_add]; exact hakn) (by rw [block_add]; exact hakl)).trans hkj3
                      have k3 := (hcell ca hcan hca).trans hc0'
                      have k4 := (hcell (ca.add m) (by rw [block_add]; exact hcan) (by rw [block_add]; exact hca)).trans hcm
                      clear hcell
                    · simp [Oper.wp, execOp, Act.eval, hdep, f7, f9, f10, f11, go_sem, hS, k1, k2, k3, k4, q1, hlt0, e1, e2]; exact hS.1
                    · simp [Oper.wp, execOp, Act.eval, hdep, f7, f9, f10, f11, go_sem, hS, k1, k2, k3, k4, q1, hlt0, e1, e2]; exact hS.1
                    · simp [Oper.wp, execOp, Act.eval, hdep, f7, f9, f10, f11, go_sem, hS, k1, k2, k3, k4, q1, hlt0, e1, e2]; exact hS.1
                    · simp [Oper.wp, execOp, Act.eval, hdep, f7, f9, f10, f11, go_sem, hS, k1, k2, k3, k4, q1, hlt0, e1, e2]; exact hS.1
                    · simp [Oper.wp, execOp, Act.eval, hdep, f7, f9, f10, f11, go_sem, hS, k1, k2, k3, k4, q1, hlt0, e1, e2]; exact hS.1
                    · simp [Oper.wp, execOp, Act.eval, hdep, f7, f9, f10, f11, go_sem, hS, k1, k2, k3, k4, q1, hlt0, e1, e2]; exact hS.1
                    · simp [Oper.wp, execOp, Act.eval, hdep, f7, f9, f10, f11, go_sem, hS, k1, k2, k3, k4, q1, hlt0, e1, e2]; exact hS.1
                    · simp [Oper.wp, execOp, Act.eval, hdep, f7, f9, f10, f11, go_sem, hS, k1, k2, k3, k4, q1, hlt0, hlt1, hlt2, e1, e2]; exact hS.1
                    · simp [Oper.wp, execOp, Act.eval, hdep, f7, f9, f10, f11, go_sem, hS, k1, k2, k3, k4, q1, hlt0, e1, e2]; exact hS.1
                    · simp [Oper.wp, execOp, Act.eval, hdep, go_sem]
                      refine (hlab (some x) (fun y hy => by cases hy; exact hxk) w').mono ?_
                      rintro e w'' ⟨rfl, m, rfl⟩
                      exact ⟨_, rfl, ⟨hS.1, below_drawn hS.2.1 m, hS.2.2⟩, fun h => h, by simp only [lab]; first | rw [HL1.out.1] | rw [HL1.out.2]⟩
                    · simp [Oper.wp, execOp, Act.eval, hdep, f7, f9, f10, f11, go_sem, hS, k1, k2, k3, k4, q1, hlt0, e1, e2]; exact hS.1
                    · simp [Oper.wp, execOp, Act.eval, hdep, f7, f9, f10, f11, go_sem, hS, k1, k2, k3, k4, q1, hlt0, e1, e2]; exact hS.1
                    · simp [Oper.wp, execOp, Act.eval, hdep, f7, f9, f10, f11, go_sem, hS, k1, k2, k3, k4, q1, hlt0, e1, e2]; exact hS.1
                    · simp [Oper.wp, execOp, Act.eval, hdep, f7, f9, f10, f11, go_sem, hS, k1, k2, k3, k4, q1, hlt0, e1, e2]; exact hS.1
                    · simp [Oper.wp, execOp, Act.eval, hdep, f7, f9, f10, f11, go_sem, hS, k1, k2, k3, k4, q1, hlt0, e1, e2]; exact hS.1
                    · simp [Oper.wp, execOp, Act.eval, hdep, f7, f9, f10, f11, go_sem, hS, k1, k2, k3, k4, q1, hlt0, e1, e2]; exact hS.1
                    · simp [Oper.wp, execOp, Act.eval, hdep, f7, f9, f10, f11, go_sem, hS, k1, k2, k3, k4, q1, hlt0, e1, e2]; exact hS.1
                    · simp [Oper.wp, execOp, Act.eval, hdep, f7, f9, f10, f11, go_sem, hS, k1, k2, k3, k4, q1, hlt0, e1, e2]; exact hS.1
                    · simp [Oper.wp, execOp, Act.eval, hdep, f7, f9, f10, f11, go_sem, hS, k1, k2, k3, k4, q1, hlt0, e1, e2]; exact hS.1
                    · simp [Oper.wp, execOp, Act.eval, hdep, f7, f9, f10, f11, go_sem, hS, k1, k2, k3, k4, q1, hlt0, e1, e2]; exact hS.1
                    · simp [Oper.wp, execOp, Act.eval, hdep, f7, f9, f10, f11, go_sem, hS, k1, k2, k3, k4, q1, hlt0, e1, e2]; exact hS.1
                    · simp [Oper.wp, execOp, Act.eval, hdep, go_sem]
                      refine (hlab (some xl) (fun y hy => by cases hy; exact hxlk) w').mono ?_
                      rintro e w'' ⟨rfl, m, rfl⟩
                      exact ⟨_, rfl, ⟨hS.1, below_drawn hS.2.1 m, hS.2.2⟩, fun h => h, by simp only [lab]; first | rw [HL1.out.1] | rw [HL1.out.2]⟩
                    · simp [Oper.wp, execOp, Act.eval, hdep, f7, f9, f10, f11, go_sem, hS, k1, k2, k3, k4, q1, hlt0, e1, e2]; exact hS.1
                    · simp [Oper.wp, execOp, Act.eval, hdep, go_sem]
                      have hfz : w'.frozen? ⟨n, 3, none⟩ = false := by rcases hS.2.2 with h | h <;> simp [World.frozen?, h]
                      have hce : ∃ u, w'.cell? ⟨n, 3, none⟩ = some u := by
                        rcases hS.2.2 with h | h
                        · exact ⟨_, (cell_of_row w' _ 3 _ _ _ h).trans rfl⟩
                        · exact ⟨_, (cell_of_row w' _ 3 _ _ _ h).trans rfl⟩
                      have hne : (w'.setCell ⟨n, 3, none⟩ (.string L1)).heap[n]? = some (.cells #[.string P0, .string P1, .string P2, .string L1, .string ⟨#[]⟩, .slice Ax (f.kids j).length Cx, .slice Ay up.length Cy, .slice Az (descs f.kids k j).length Cz] 38 (0, 0)) := by
                        rcases hS.2.2 with h | h <;> simp [World.setCell, Array.getElem?_modify, h]
                      obtain ⟨u, hu⟩ := hce
                      simp [hu, hfz]
                      exact ⟨rfl, ⟨fun b hb hlt => (Below.heap_setCell w' ⟨n, 3, none⟩ _ b hb).trans (hS.1 b hb hlt), hS.2.1.setCell (Nat.le_refl _) _, .inr hne⟩, fun _ => hne, hne⟩
                    · simp [Oper.wp, execOp, Act.eval, hdep, f7, f9, f10, f11, go_sem, hS, k1, k2, k3, k4, q1, hlt0, e1, e2]; exact hS.1
                  · intro val W4 hS hall
                    have r21 : val 21 = .string L2 := hall 21 (by decide)
                    have r23 : W4.heap[n]? = some (.cells #[.string P0, .string P1, .string P2, .string L1, .string ⟨#[]⟩, .slice Ax (f.kids j).length Cx, .slice Ay up.length Cy, .slice Az (descs f.kids k j).length Cz] 38 (0, 0)) := hall 23 (by decide)
                    have r24 : val 24 = .pointer (some ⟨n, 4, none⟩) := hall 24 (by decide)
                    have s1 : ∀ b, b ≠ n → b < W3.heap.size → W4.heap[b]? = W3.heap[b]? := hS.1
                    have s2 : Below n W3 W4 := hS.2.1
                    simp only [List.take_succ_cons, List.take_zero, putAll, List.setIfInBounds_toArray, List.set_cons_zero, List.set_cons_succ]
                    rw [r21, r24]
                    have hfz : W4.frozen? ⟨n, 4, none⟩ = false := by simp [World.frozen?, r23]
                    have hce : W4.cell? ⟨n, 4, none⟩ = some (.string ⟨#[]⟩) := (cell_of_row W4 _ 4 _ _ _ r23).trans rfl
                    simp [Oper.wp, execOp, Act.eval, go_sem, hfz, hce, Exit.then]
                    go_wp2_with fail
                    go_meet
                    case rel =>
                      refine ⟨rfl, rfl, rfl, s2.setCell (Nat.le_refl _) _, fun b hb hlt => (Below.heap_setCell W4 ⟨n, 4, none⟩ _ b hb).trans (s1 b hb hlt), ?_⟩
                      rw [HZ.out.2.2.1, HZ.out.2.2.2]
                      simp only [lab]
                      rw [HL1.out.1, HL1.out.2]
                      simp [World.setCell, Array.getElem?_modify, r23]
              case rest =>
                obtain ⟨rfl, rfl, rfl, hbn, hothers, hblk⟩ := hcut
                obtain ⟨P3, hP3⟩ : ∃ P, lab (f.kids j).head? = P := ⟨_, rfl⟩
                obtain ⟨P4, hP4⟩ : ∃ P, lab (f.kids j).getLast? = P := ⟨_, rfl⟩
                rw [hP3, hP4] at hblk
                obtain ⟨hl0, hl1, hl2⟩ := HP.out
                obtain ⟨wk3, wa3, wb3, hbe3, hsp3, hblk3, _⟩ := HW3.out
                have hw4 : ∀ {v m xs}, W3.ownsRow 0 9 1 v m xs → wc.ownsRow 0 9 1 v m xs := fun hv => ownN_kept hv fun q hq => hothers q (fun e => by
                  rcases hv.2 with ⟨rfl, _⟩ | ⟨g, cap, cur, rfl, _, hh, _⟩
                  · cases hq
                  · have e2 : g = q := by simpa [Value.ownBlock] using hq
                    rw [e2, e, hblk3] at hh
                    cases hh) (ownN_lt hv q hq).1
                have hleaf : Leaf f k j wc [.string P0, .string P1, .string P2, .string P3, .string P4, .slice Ax (f.kids j).length Cx, .slice Ay up.length Cy, .slice Az (descs f.kids k j).length Cz] :=
                  ⟨_, _, _, up, by rw [hl0, hl1, hl2, hP3, hP4], HX.out.2.2.2.2.1, hw4 wk3, hw4 wa3, hw4 wb3⟩
                have hbwr : Below wr.heap.size wr wc := hbe3.trans (hbn.mono hn)
                have hcrop := HX.out.2.2.1.below hbwr
                have hspc := HX.out.1.below hbwr
                have hbwc := HX.out.2.1.trans (hbwr.mono HX.out.2.1.size)
                obtain ⟨cs, hc1, hc2, hc3⟩ := hcrop
                have hcells : ∀ i : Nat, wc.cell? ⟨n, i, none⟩ = (#[.string P0, .string P1, .string P2, .string P3, .string P4, .slice Ax (f.kids j).length Cx, .slice Ay up.length Cy, .slice Az (descs f.kids k j).length Cz] : Array Value)[i]? := fun i => cell_of_row wc _ i _ _ _ hblk
                have d0 := hcells 0
                have d1 := hcells 1
                have d2 := hcells 2
                have d3 := hcells 3
                have d4 := hcells 4
                have d5 := hcells 5
                have d6 := hcells 6
                have d7 := hcells 7
                simp at d0 d1 d2 d3 d4 d5 d6 d7
                have hnew := cells_new wc #[.string P0, .string P1, .string P2, .string P3, .string P4, .slice Ax (f.kids j).length Cx, .slice Ay up.length Cy, .slice Az (descs f.kids k j).length Cz] 38
                have HC := Lib.hid (And.intro hspc (And.intro hbwc (And.intro hleaf (And.intro hc2 hc3))))
                have HC1 := Lib.hid (And.intro hc1 hnew)
                have hbs := hbwc.size
                obtain ⟨j38, hj38, hz38, hs38, hb38⟩ := info_parts info38
                clear HX HP HW3 hl0 hl1 hl2 wk3 wa3 wb3 hbe3 hsp3 hblk3 hw4 hleaf hbwr hspc hbwc hc1 hc2 hc3 hcells hnew hblk hothers hbn hP3 hP4
                go_wp2_with (first
                  | (at_builtin; refine wpList_appN _ rfl (.tmp 123) (.tmp 125) 30 rfl w.heap.size 38 j38 _ 8 152 under30 hj38 hz38 hs38 hb38 (by rfl) (by decide) _ j cs.flatten rfl (HC1.out.1.alloc _) ⟨wc.heap.size, 0, none⟩ 1 1 [.string P0, .string P1, .string P2, .string P3, .string P4, .slice Ax (f.kids j).length Cx, .slice Ay up.length Cy, .slice Az (descs f.kids k j).length Cz] rfl rfl HC1.out.2 (by intro u hu; simp at hu; rcases hu with rfl | rfl | rfl | rfl | rfl | rfl | rfl | rfl <;> rfl) (by simp only [maxLen]; omega) (by omega) (by simp; omega) ?_; intro v1 w1 hown1 hg1 hat1)
                  | fail)
                obtain ⟨hspc, hbwc, hleaf, hc2, hc3⟩ := HC.out
                have hbA : ∀ ob, Below wc.heap.size wc (wc.alloc ob) := fun ob => (Below.refl _ _).alloc (Nat.le_refl _) _
                have hcrop1 := Crop.snoc (HC1.out.1.alloc _) hc2 (fun i c hc => (hc3 i c hc).kept fun v n xs h => ownN_below h (hbA _)) (hleaf.kept fun v n xs h => ownN_below h (hbA _)) (by decide) hown1 hg1
                have hspA := hspc.below (hbA (.cells #[.string P0, .string P1, .string P2, .string P3, .string P4, .slice Ax (f.kids j).length Cx, .slice Ay up.length Cy, .slice Az (descs f.kids k j).length Cz] 38))
                have hrow := HC1.out.1.alloc (.cells #[.string P0, .string P1, .string P2, .string P3, .string P4, .slice Ax (f.kids j).length Cx, .slice Ay up.length Cy, .slice Az (descs f.kids k j).length Cz] 38)
                have hsp1 : SpecAt w.heap.size k f w.heap.size (some ap) (some ak) Cp Ck vs w1 := by
                  refine ⟨hspA.pbase, (hg1.block _ (lt_of_block hspA.blk) ?_).trans hspA.blk, ?_, ?_, fun p hp => ?_, hspA.apart⟩
                  · exact blk_far hspA.blk hrow (by decide)
                  · exact ownN_kept hspA.par (fun q hq => hg1.block q (ownN_lt hspA.par q hq).1 (fun e => own_apart hspA.par hrow (by decide) q hq e.symm))
                  · exact ownN_kept hspA.kid (fun q hq => hg1.block q (ownN_lt hspA.kid q hq).1 (fun e => own_apart hspA.kid hrow (by decide) q hq e.symm))
                  · exact ownN_kept (hspA.kids p hp) (fun q hq => hg1.block q (ownN_lt (hspA.kids p hp) q hq).1 (fun e => own_apart (hspA.kids p hp) hrow (by decide) q hq e.symm))
                have hbw1 : Below w.heap.size w w1 := (hbwc.alloc hbwc.size _).grown hg1 (by simp; omega) (fun q hq => (ownN_lt HC1.out.1 q hq).2)
                clear hspc hbwc hleaf hc2 hc3 hown1 hg1 hat1 hbA hspA hrow
                go_roundg (k - (j + 1))
                case measure => omega
                case rel => exact ⟨j + 1, by omega, by go_num, hbw1, hsp1, hcrop1⟩
          · obtain rfl : j = k := by omega
            have HE := Lib.hid (And.intro hbw hcrop)
            clear hbw hcrop hsp
            go_wp2_with fail
            exact ⟨rfl, _, by simp [results, show Try.f9.results = #[.tmp 4, .tmp 5, .tmp 6] from rfl, go_sem]; rfl, HE.out.1, .inr ⟨_, d, st, rfl, HD.out.1, HD.out.2.1, HD.out.2.2.1, by rw [HD.out.2.2.2]; exact HE.out.2⟩⟩
end
end Go.Proofs.Ytgbeohhegckonaa
