-- PRINTED BY print.sh 35421559b90ae4d0a3588c463048766b98c2df88dd9212a6774a882060cdf62d: not written by this session
import Derived.Test.YtpkelgekannioaaGreatDoorProg
import Derived.Below
import Derived.Deep.Draws
import Derived.Deep.AppendLies
import Derived.Maps.AppendAt
import Derived.OwnWalk
import Derived.Laws.BytesArg
import Derived.Laws.MakeOwn
import Derived.Laws.OwnMore
import Derived.Deep.OwnRows
import Derived.Tactics
import Derived.Lib.ConvBytes
import Derived.Laws.Slices
import Derived.WalkKit
import Derived.KernelRfl
import Derived.RowKit3
import Derived.Deep.LoopGhost
import Derived.Deep.QuietTactic
import Derived.BigQuiet
import Derived.WideLaws
import Derived.Deep.DeepCutAuto
import Derived.Deep.CutBlock
import Derived.Deep.RegionHeld3
import Derived.Laws.Rows
import Derived.Lib.AppendStr
import Derived.ArgAppend
import Derived.Laws.IdiomCopy
import Derived.OrdersHeld
import Derived.Laws.BitsLemmas
import Derived.RowKit
import Derived.Test.YtpkelgekannioaaGreatDoorWWords
import Derived.Test.YtpkelgekannioaaGreatDoorWLast
import Derived.Test.YtpkelgekannioaaGreatDoorWTab
import Derived.Test.YtpkelgekannioaaGreatDoorWFour
import Derived.Test.YtpkelgekannioaaGreatDoorWQPut
import Derived.Test.YtpkelgekannioaaGreatDoorWApart
import Derived.Test.YtpkelgekannioaaGreatDoorWArr
import Derived.Test.YtpkelgekannioaaGreatDoorWZeros
import Derived.Test.YtpkelgekannioaaGreatDoorWFoot
import Derived.Test.YtpkelgekannioaaGreatDoorWKept
import Derived.Test.YtpkelgekannioaaGreatDoorWShare
import Derived.Test.YtpkelgekannioaaGreatDoorWN
import Derived.Test.YtpkelgekannioaaGreatDoorWFootNe
import Derived.Test.YtpkelgekannioaaGreatDoorWAt
import Derived.Test.YtpkelgekannioaaGreatDoorWEqStruct
import Derived.Test.YtpkelgekannioaaGreatDoorWRepsOne
import Derived.Test.YtpkelgekannioaaGreatDoorWInv
import Derived.Test.YtpkelgekannioaaGreatDoorWInvWords
import Derived.Test.YtpkelgekannioaaGreatDoorWGuard
import Derived.Test.YtpkelgekannioaaGreatDoorWNEv
import Derived.Test.YtpkelgekannioaaGreatDoorWMore
namespace Go.Proofs.YtpkelgekannioaaGreatDoor.PFnTokenRead
open Go.RowKit Go.Proofs.YtpkelgekannioaaGreatDoorW.PrintWords Go.Proofs.YtpkelgekannioaaGreatDoorW.PrintLast Go.Proofs.YtpkelgekannioaaGreatDoorW.PrintMore
attribute [local go_sem] max2_int min2_int max_two min_two max_three min_three max_four min_four   -- for this text's walks alone
set_option linter.unusedVariables false
set_option linter.unusedSimpArgs false



def errW : Option Int → Value
  | none => .nilIface
  | some c => .iface 0 (.int .i64 c)
theorem errW_none : errW none = .nilIface := rfl
theorem errW_some (c : Int) : errW (some c) = .iface 0 (.int .i64 c) := rfl

theorem info3 : (Tryz.prog.info? 3).map (fun i => (i.zero, i.size, i.bytes)) = some (some (.int .i64 0), 1, 8) := by kernel_rfl
theorem info5 : (Tryz.prog.info? 5).map (fun i => (i.zero, i.size, i.bytes)) = some (some (.int .u8 0), 1, 1) := by kernel_rfl
theorem info9 : (Tryz.prog.info? 9).map (fun i => (i.zero, i.size, i.bytes)) = some (some (.string ⟨#[]⟩), 1, 16) := by kernel_rfl
theorem info52 : (Tryz.prog.info? 52).map (fun i => (i.zero, i.size, i.bytes)) = some (some (.agg #[(.int .i64 0), (.string ⟨#[]⟩), (.slice none 0 0)]), 3, 48) := by kernel_rfl
theorem info54 : (Tryz.prog.info? 54).map (fun i => (i.zero, i.size, i.bytes)) = some (some (.agg #[(.string ⟨#[]⟩), (.string ⟨#[]⟩)]), 2, 32) := by kernel_rfl
theorem info110 : (Tryz.prog.info? 110).map (fun i => (i.zero, i.size, i.bytes)) = some (some (.agg #[(.string ⟨#[]⟩), (.string ⟨#[]⟩), (.bool false)]), 3, 40) := by kernel_rfl
-- the values' own types
/-! #### struct type 38 -/
structure S38 where
  f0 : ByteArray
  f1 : ByteArray
  f2 : ByteArray
def z38 : S38 := ⟨(⟨#[]⟩ : ByteArray), (⟨#[]⟩ : ByteArray), (⟨#[]⟩ : ByteArray)⟩
def k38 : Kd S38 := Kd.iso (Kd.pair Kd.string (Kd.pair Kd.string Kd.string)) (fun x : S38 => (x.f0, x.f1, x.f2))
theorem k38_open {w : World} {x : S38} {cs : List Value} (h : k38.K w x cs) : cs = [.string x.f0, .string x.f1, .string x.f2] := by
  obtain ⟨_, _, rfl, rfl, ⟨_, _, rfl, rfl, rfl⟩⟩ := h
  exact rfl
theorem k38_openM {w : World} {base : Nat} {ok : Nat → Prop} {x : S38} {cs : List Value} (h : k38.M w base ok x cs) : cs = [.string x.f0, .string x.f1, .string x.f2] := by
  obtain ⟨_, _, rfl, rfl, ⟨_, _, rfl, rfl, rfl⟩⟩ := h
  exact rfl
theorem k38_mk (w : World) (x : S38)  : k38.K w x [.string x.f0, .string x.f1, .string x.f2] := ⟨[.string x.f0], [.string x.f1, .string x.f2], rfl, rfl, ⟨[.string x.f1], [.string x.f2], rfl, rfl, rfl⟩⟩
theorem k38_mkM (w : World) (base : Nat) (ok : Nat → Prop) (x : S38)  : k38.M w base ok x [.string x.f0, .string x.f1, .string x.f2] := ⟨[.string x.f0], [.string x.f1, .string x.f2], rfl, rfl, ⟨[.string x.f1], [.string x.f2], rfl, rfl, rfl⟩⟩
def rd_T38 (xs : List S38) (i : Int) : S38 := xs.getD i.toNat z38
theorem at_T38 {w : World} {A : Option Addr} {n : Nat} {xs : List S38} (h : Kd.C k38 w A n xs) (i : Int) (h0 : 0 ≤ i) (h1 : i < n) : ∃ ad , A = some ad ∧ w.cell? (ad.add (i.toNat * 3)) = some (.string (rd_T38 xs i).f0) ∧ w.cell? ⟨(ad.add (i.toNat * 3)).block, (ad.add (i.toNat * 3)).off + 1, none⟩ = some (.string (rd_T38 xs i).f1) ∧ w.cell? ⟨(ad.add (i.toNat * 3)).block, (ad.add (i.toNat * 3)).off + 2, none⟩ = some (.string (rd_T38 xs i).f2) := by
  obtain ⟨ad, c, e, _, hK, hc0⟩ := Kd.C_get h z38 i h0 h1
  have hc : ∀ j u, c[j]? = some u → w.cell? (ad.add (i.toNat * 3 + j)) = some u := hc0
  obtain rfl := k38_open hK
  exact ⟨ad, e, hc 0 _ rfl, by rw [← add_field _ _ 1 (by omega)]; exact hc 1 _ rfl, by rw [← add_field _ _ 2 (by omega)]; exact hc 2 _ rfl⟩

def rd_L3 (xs : List (List S38)) (i : Int) : (List S38) := xs.getD i.toNat ([] : List S38)
theorem at_L3 {w : World} {A : Option Addr} {n : Nat} {xs : List (List S38)} (h : Kd.C (Kd.slice 38 k38) w A n xs) (i : Int) (h0 : 0 ≤ i) (h1 : i < n) : ∃ ad A0 c0, A = some ad ∧ w.cell? (ad.add i.toNat) = some (.slice A0 (rd_L3 xs i).length c0) ∧ (rd_L3 xs i).length ≤ c0 ∧ k38.C w A0 (rd_L3 xs i).length (rd_L3 xs i) := by
  obtain ⟨ad, c, e, _, hK, hc0⟩ := Kd.C_get h ([] : List S38) i h0 h1
  have hc : ∀ j u, c[j]? = some u → w.cell? (ad.add (i.toNat * 1 + j)) = some u := hc0
  obtain ⟨A0, c0, rfl, l0, g0⟩ := hK
  exact ⟨ad, A0, c0, e, by have hq := hc 0 _ rfl; rwa [Nat.mul_one, Nat.add_zero] at hq, l0, g0⟩

/-! #### struct type 34 -/
structure S34 where
  f0 : Int
  f1 : ByteArray
  f2 : (List S38)
  f3 : ByteArray
def z34 : S34 := ⟨(0 : Int), (⟨#[]⟩ : ByteArray), ([] : List S38), (⟨#[]⟩ : ByteArray)⟩
def k34 : Kd S34 := Kd.iso (Kd.pair (Kd.int .i64) (Kd.pair Kd.string (Kd.pair (Kd.slice 38 k38) Kd.string))) (fun x : S34 => (x.f0, x.f1, x.f2, x.f3))
theorem k34_open {w : World} {x : S34} {cs : List Value} (h : k34.K w x cs) : ∃ A2 c2, cs = [.int .i64 x.f0, .string x.f1, .slice A2 x.f2.length c2, .string x.f3] ∧ x.f2.length ≤ c2 ∧ k38.C w A2 x.f2.length x.f2 := by
  obtain ⟨_, _, rfl, rfl, ⟨_, _, rfl, rfl, ⟨_, _, rfl, ⟨A2, c2, rfl, l2, g2⟩, rfl⟩⟩⟩ := h
  exact ⟨A2, c2, rfl, l2, g2⟩
theorem k34_openM {w : World} {base : Nat} {ok : Nat → Prop} {x : S34} {cs : List Value} (h : k34.M w base ok x cs) : ∃ v2, cs = [.int .i64 x.f0, .string x.f1, v2, .string x.f3] ∧ k38.R 38 w base ok v2 x.f2 := by
  obtain ⟨_, _, rfl, rfl, ⟨_, _, rfl, rfl, ⟨_, _, rfl, ⟨v2, rfl, g2⟩, rfl⟩⟩⟩ := h
  exact ⟨v2, rfl, g2⟩
theorem k34_mk (w : World) (x : S34) {A2 : Option Addr} {c2 : Nat} (l2 : x.f2.length ≤ c2) (g2 : k38.C w A2 x.f2.length x.f2) : k34.K w x [.int .i64 x.f0, .string x.f1, .slice A2 x.f2.length c2, .string x.f3] := ⟨[.int .i64 x.f0], [.string x.f1, .slice A2 x.f2.length c2, .string x.f3], rfl, rfl, ⟨[.string x.f1], [.slice A2 x.f2.length c2, .string x.f3], rfl, rfl, ⟨[.slice A2 x.f2.length c2], [.string x.f3], rfl, ⟨A2, c2, rfl, l2, g2⟩, rfl⟩⟩⟩
theorem k34_mkM (w : World) (base : Nat) (ok : Nat → Prop) (x : S34) {v2 : Value} (g2 : k38.R 38 w base ok v2 x.f2) : k34.M w base ok x [.int .i64 x.f0, .string x.f1, v2, .string x.f3] := ⟨[.int .i64 x.f0], [.string x.f1, v2, .string x.f3], rfl, rfl, ⟨[.string x.f1], [v2, .string x.f3], rfl, rfl, ⟨[v2], [.string x.f3], rfl, ⟨v2, rfl, g2⟩, rfl⟩⟩⟩
def rd_T34 (xs : List S34) (i : Int) : S34 := xs.getD i.toNat z34
theorem at_T34 {w : World} {A : Option Addr} {n : Nat} {xs : List S34} (h : Kd.C k34 w A n xs) (i : Int) (h0 : 0 ≤ i) (h1 : i < n) : ∃ ad A2 c2, A = some ad ∧ w.cell? (ad.add (i.toNat * 4)) = some (.int .i64 (rd_T34 xs i).f0) ∧ w.cell? ⟨(ad.add (i.toNat * 4)).block, (ad.add (i.toNat * 4)).off + 1, none⟩ = some (.string (rd_T34 xs i).f1) ∧ w.cell? ⟨(ad.add (i.toNat * 4)).block, (ad.add (i.toNat * 4)).off + 2, none⟩ = some (.slice A2 (rd_T34 xs i).f2.length c2) ∧ w.cell? ⟨(ad.add (i.toNat * 4)).block, (ad.add (i.toNat * 4)).off + 3, none⟩ = some (.string (rd_T34 xs i).f3) ∧ (rd_T34 xs i).f2.length ≤ c2 ∧ k38.C w A2 (rd_T34 xs i).f2.length (rd_T34 xs i).f2 := by
  obtain ⟨ad, c, e, _, hK, hc0⟩ := Kd.C_get h z34 i h0 h1
  have hc : ∀ j u, c[j]? = some u → w.cell? (ad.add (i.toNat * 4 + j)) = some u := hc0
  obtain ⟨A2, c2, rfl, l2, g2⟩ := k34_open hK
  exact ⟨ad, A2, c2, e, hc 0 _ rfl, by rw [← add_field _ _ 1 (by omega)]; exact hc 1 _ rfl, by rw [← add_field _ _ 2 (by omega)]; exact hc 2 _ rfl, by rw [← add_field _ _ 3 (by omega)]; exact hc 3 _ rfl, l2, g2⟩

/-! #### struct type 110 -/
structure S110 where
  f0 : ByteArray
  f1 : ByteArray
  f2 : Bool
def z110 : S110 := ⟨(⟨#[]⟩ : ByteArray), (⟨#[]⟩ : ByteArray), false⟩
def k110 : Kd S110 := Kd.iso (Kd.pair Kd.string (Kd.pair Kd.string Kd.bool)) (fun x : S110 => (x.f0, x.f1, x.f2))
theorem k110_open {w : World} {x : S110} {cs : List Value} (h : k110.K w x cs) : cs = [.string x.f0, .string x.f1, .bool x.f2] := by
  obtain ⟨_, _, rfl, rfl, ⟨_, _, rfl, rfl, rfl⟩⟩ := h
  exact rfl
theorem k110_openM {w : World} {base : Nat} {ok : Nat → Prop} {x : S110} {cs : List Value} (h : k110.M w base ok x cs) : cs = [.string x.f0, .string x.f1, .bool x.f2] := by
  obtain ⟨_, _, rfl, rfl, ⟨_, _, rfl, rfl, rfl⟩⟩ := h
  exact rfl
theorem k110_mk (w : World) (x : S110)  : k110.K w x [.string x.f0, .string x.f1, .bool x.f2] := ⟨[.string x.f0], [.string x.f1, .bool x.f2], rfl, rfl, ⟨[.string x.f1], [.bool x.f2], rfl, rfl, rfl⟩⟩
theorem k110_mkM (w : World) (base : Nat) (ok : Nat → Prop) (x : S110)  : k110.M w base ok x [.string x.f0, .string x.f1, .bool x.f2] := ⟨[.string x.f0], [.string x.f1, .bool x.f2], rfl, rfl, ⟨[.string x.f1], [.bool x.f2], rfl, rfl, rfl⟩⟩
def rd_T110 (xs : List S110) (i : Int) : S110 := xs.getD i.toNat z110
theorem at_T110 {w : World} {A : Option Addr} {n : Nat} {xs : List S110} (h : Kd.C k110 w A n xs) (i : Int) (h0 : 0 ≤ i) (h1 : i < n) : ∃ ad , A = some ad ∧ w.cell? (ad.add (i.toNat * 3)) = some (.string (rd_T110 xs i).f0) ∧ w.cell? ⟨(ad.add (i.toNat * 3)).block, (ad.add (i.toNat * 3)).off + 1, none⟩ = some (.string (rd_T110 xs i).f1) ∧ w.cell? ⟨(ad.add (i.toNat * 3)).block, (ad.add (i.toNat * 3)).off + 2, none⟩ = some (.bool (rd_T110 xs i).f2) := by
  obtain ⟨ad, c, e, _, hK, hc0⟩ := Kd.C_get h z110 i h0 h1
  have hc : ∀ j u, c[j]? = some u → w.cell? (ad.add (i.toNat * 3 + j)) = some u := hc0
  obtain rfl := k110_open hK
  exact ⟨ad, e, hc 0 _ rfl, by rw [← add_field _ _ 1 (by omega)]; exact hc 1 _ rfl, by rw [← add_field _ _ 2 (by omega)]; exact hc 2 _ rfl⟩

/-! #### struct type 54 -/
structure S54 where
  f0 : ByteArray
  f1 : ByteArray
def z54 : S54 := ⟨(⟨#[]⟩ : ByteArray), (⟨#[]⟩ : ByteArray)⟩
def k54 : Kd S54 := Kd.iso (Kd.pair Kd.string Kd.string) (fun x : S54 => (x.f0, x.f1))
theorem k54_open {w : World} {x : S54} {cs : List Value} (h : k54.K w x cs) : cs = [.string x.f0, .string x.f1] := by
  obtain ⟨_, _, rfl, rfl, rfl⟩ := h
  exact rfl
theorem k54_openM {w : World} {base : Nat} {ok : Nat → Prop} {x : S54} {cs : List Value} (h : k54.M w base ok x cs) : cs = [.string x.f0, .string x.f1] := by
  obtain ⟨_, _, rfl, rfl, rfl⟩ := h
  exact rfl
theorem k54_mk (w : World) (x : S54)  : k54.K w x [.string x.f0, .string x.f1] := ⟨[.string x.f0], [.string x.f1], rfl, rfl, rfl⟩
theorem k54_mkM (w : World) (base : Nat) (ok : Nat → Prop) (x : S54)  : k54.M w base ok x [.string x.f0, .string x.f1] := ⟨[.string x.f0], [.string x.f1], rfl, rfl, rfl⟩
def rd_T54 (xs : List S54) (i : Int) : S54 := xs.getD i.toNat z54
theorem at_T54 {w : World} {A : Option Addr} {n : Nat} {xs : List S54} (h : Kd.C k54 w A n xs) (i : Int) (h0 : 0 ≤ i) (h1 : i < n) : ∃ ad , A = some ad ∧ w.cell? (ad.add (i.toNat * 2)) = some (.string (rd_T54 xs i).f0) ∧ w.cell? ⟨(ad.add (i.toNat * 2)).block, (ad.add (i.toNat * 2)).off + 1, none⟩ = some (.string (rd_T54 xs i).f1) := by
  obtain ⟨ad, c, e, _, hK, hc0⟩ := Kd.C_get h z54 i h0 h1
  have hc : ∀ j u, c[j]? = some u → w.cell? (ad.add (i.toNat * 2 + j)) = some u := hc0
  obtain rfl := k54_open hK
  exact ⟨ad, e, hc 0 _ rfl, by rw [← add_field _ _ 1 (by omega)]; exact hc 1 _ rfl⟩

def rd_L9 (xs : List (List S54)) (i : Int) : (List S54) := xs.getD i.toNat ([] : List S54)
theorem at_L9 {w : World} {A : Option Addr} {n : Nat} {xs : List (List S54)} (h : Kd.C (Kd.slice 54 k54) w A n xs) (i : Int) (h0 : 0 ≤ i) (h1 : i < n) : ∃ ad A0 c0, A = some ad ∧ w.cell? (ad.add i.toNat) = some (.slice A0 (rd_L9 xs i).length c0) ∧ (rd_L9 xs i).length ≤ c0 ∧ k54.C w A0 (rd_L9 xs i).length (rd_L9 xs i) := by
  obtain ⟨ad, c, e, _, hK, hc0⟩ := Kd.C_get h ([] : List S54) i h0 h1
  have hc : ∀ j u, c[j]? = some u → w.cell? (ad.add (i.toNat * 1 + j)) = some u := hc0
  obtain ⟨A0, c0, rfl, l0, g0⟩ := hK
  exact ⟨ad, A0, c0, e, by have hq := hc 0 _ rfl; rwa [Nat.mul_one, Nat.add_zero] at hq, l0, g0⟩

/-! #### struct type 52 -/
structure S52 where
  f0 : Int
  f1 : ByteArray
  f2 : (List S54)
def z52 : S52 := ⟨(0 : Int), (⟨#[]⟩ : ByteArray), ([] : List S54)⟩
def k52 : Kd S52 := Kd.iso (Kd.pair (Kd.int .i64) (Kd.pair Kd.string (Kd.slice 54 k54))) (fun x : S52 => (x.f0, x.f1, x.f2))
theorem k52_open {w : World} {x : S52} {cs : List Value} (h : k52.K w x cs) : ∃ A2 c2, cs = [.int .i64 x.f0, .string x.f1, .slice A2 x.f2.length c2] ∧ x.f2.length ≤ c2 ∧ k54.C w A2 x.f2.length x.f2 := by
  obtain ⟨_, _, rfl, rfl, ⟨_, _, rfl, rfl, ⟨A2, c2, rfl, l2, g2⟩⟩⟩ := h
  exact ⟨A2, c2, rfl, l2, g2⟩
theorem k52_openM {w : World} {base : Nat} {ok : Nat → Prop} {x : S52} {cs : List Value} (h : k52.M w base ok x cs) : ∃ v2, cs = [.int .i64 x.f0, .string x.f1, v2] ∧ k54.R 54 w base ok v2 x.f2 := by
  obtain ⟨_, _, rfl, rfl, ⟨_, _, rfl, rfl, ⟨v2, rfl, g2⟩⟩⟩ := h
  exact ⟨v2, rfl, g2⟩
theorem k52_mk (w : World) (x : S52) {A2 : Option Addr} {c2 : Nat} (l2 : x.f2.length ≤ c2) (g2 : k54.C w A2 x.f2.length x.f2) : k52.K w x [.int .i64 x.f0, .string x.f1, .slice A2 x.f2.length c2] := ⟨[.int .i64 x.f0], [.string x.f1, .slice A2 x.f2.length c2], rfl, rfl, ⟨[.string x.f1], [.slice A2 x.f2.length c2], rfl, rfl, ⟨A2, c2, rfl, l2, g2⟩⟩⟩
theorem k52_mkM (w : World) (base : Nat) (ok : Nat → Prop) (x : S52) {v2 : Value} (g2 : k54.R 54 w base ok v2 x.f2) : k52.M w base ok x [.int .i64 x.f0, .string x.f1, v2] := ⟨[.int .i64 x.f0], [.string x.f1, v2], rfl, rfl, ⟨[.string x.f1], [v2], rfl, rfl, ⟨v2, rfl, g2⟩⟩⟩
def rd_T52 (xs : List S52) (i : Int) : S52 := xs.getD i.toNat z52
theorem at_T52 {w : World} {A : Option Addr} {n : Nat} {xs : List S52} (h : Kd.C k52 w A n xs) (i : Int) (h0 : 0 ≤ i) (h1 : i < n) : ∃ ad A2 c2, A = some ad ∧ w.cell? (ad.add (i.toNat * 3)) = some (.int .i64 (rd_T52 xs i).f0) ∧ w.cell? ⟨(ad.add (i.toNat * 3)).block, (ad.add (i.toNat * 3)).off + 1, none⟩ = some (.string (rd_T52 xs i).f1) ∧ w.cell? ⟨(ad.add (i.toNat * 3)).block, (ad.add (i.toNat * 3)).off + 2, none⟩ = some (.slice A2 (rd_T52 xs i).f2.length c2) ∧ (rd_T52 xs i).f2.length ≤ c2 ∧ k54.C w A2 (rd_T52 xs i).f2.length (rd_T52 xs i).f2 := by
  obtain ⟨ad, c, e, _, hK, hc0⟩ := Kd.C_get h z52 i h0 h1
  have hc : ∀ j u, c[j]? = some u → w.cell? (ad.add (i.toNat * 3 + j)) = some u := hc0
  obtain ⟨A2, c2, rfl, l2, g2⟩ := k52_open hK
  exact ⟨ad, A2, c2, e, hc 0 _ rfl, by rw [← add_field _ _ 1 (by omega)]; exact hc 1 _ rfl, by rw [← add_field _ _ 2 (by omega)]; exact hc 2 _ rfl, l2, g2⟩

end Go.Proofs.YtpkelgekannioaaGreatDoor.PFnTokenRead
