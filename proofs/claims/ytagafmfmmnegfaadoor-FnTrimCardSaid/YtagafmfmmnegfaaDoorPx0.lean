-- WRITTEN by xprint.py (a program of this session, over the kit's print) out of the translation. Not trusted: Lean checks it.
import Derived.Test.YtagafmfmmnegfaaDoorProg
import Derived.Below
import Derived.Deep.Draws
import Derived.Deep.AppendLies
import Derived.Maps.AppendAt
import Derived.OwnWalk
import Derived.Laws.BytesArg
import Derived.Laws.MakeOwn
import Derived.Laws.OwnMore
import Derived.Deep.OwnRows
import Derived.Tactics
import Derived.Lib.ConvBytes
import Derived.Laws.Slices
import Derived.WalkKit
import Derived.KernelRfl
import Derived.RowKit3
import Derived.Deep.LoopGhost
import Derived.Deep.QuietTactic
import Derived.BigQuiet
import Derived.WideLaws
import Derived.Deep.DeepCutAuto
import Derived.Deep.CutBlock
import Derived.Deep.RegionHeld3
import Derived.Laws.Rows
import Derived.Lib.AppendStr
import Derived.ArgAppend
import Derived.Laws.IdiomCopy
import Derived.OrdersHeld
import Derived.Laws.BitsLemmas
import Derived.RowKit
import Derived.Test.YtagafmfmmnegfaaDoorXw
import Derived.Laws.AppendOwn
import Derived.Defers
import Derived.Recover
import Derived.Lib.Hide
import Derived.OneCell
import Derived.Test.YtagafmfmmnegfaaDoorSh
import Derived.Lib.ItoaMem
import Derived.Lib.AppendIntMem
import Derived.Shelf.Unicode.PredsPay
import Derived.Shelf.Strconv.Itoa3
import Derived.Lib.LaidIn
import Derived.Lib.LaidRTab
import Derived.Lib.RuneCountTail
import Derived.Shelf.Unicode.DecodeLastEight
import Derived.Test.YtagafmfmmnegfaaDoorWWords
import Derived.Test.YtagafmfmmnegfaaDoorWLast
import Derived.Test.YtagafmfmmnegfaaDoorWTab
import Derived.Test.YtagafmfmmnegfaaDoorWFour
import Derived.Test.YtagafmfmmnegfaaDoorWQPut
import Derived.Test.YtagafmfmmnegfaaDoorWApart
import Derived.Test.YtagafmfmmnegfaaDoorWArr
import Derived.Test.YtagafmfmmnegfaaDoorWZeros
import Derived.Test.YtagafmfmmnegfaaDoorWFoot
import Derived.Test.YtagafmfmmnegfaaDoorWKept
import Derived.Test.YtagafmfmmnegfaaDoorWShare
import Derived.Test.YtagafmfmmnegfaaDoorWN
import Derived.Test.YtagafmfmmnegfaaDoorWFootNe
import Derived.Test.YtagafmfmmnegfaaDoorWAt
import Derived.Test.YtagafmfmmnegfaaDoorWEqStruct
import Derived.Test.YtagafmfmmnegfaaDoorWRepsOne
import Derived.Test.YtagafmfmmnegfaaDoorWInv
import Derived.Test.YtagafmfmmnegfaaDoorWInvWords
import Derived.Test.YtagafmfmmnegfaaDoorWGuard
import Derived.Test.YtagafmfmmnegfaaDoorWNEv
import Derived.Test.YtagafmfmmnegfaaDoorWMore
namespace Go.Proofs.YtagafmfmmnegfaaDoor.P
open Go.RowKit Go.Proofs.YtagafmfmmnegfaaDoorW.PrintWords Go.Proofs.YtagafmfmmnegfaaDoorW.PrintLast Go.Proofs.YtagafmfmmnegfaaDoorW.PrintMore
attribute [local go_sem] max2_int min2_int max_two min_two max_three min_three max_four min_four   -- for this text's walks alone
set_option linter.unusedVariables false
set_option linter.unusedSimpArgs false



def errW : Option Int → Value
  | none => .nilIface
  | some c => .iface 176 (.int .i64 c)
theorem errW_none : errW none = .nilIface := rfl
theorem errW_some (c : Int) : errW (some c) = .iface 176 (.int .i64 c) := rfl

theorem info2 : (Tryd.prog.info? 2).map (fun i => (i.zero, i.size, i.bytes)) = some (some (.int .i64 0), 1, 8) := by kernel_rfl
theorem info5 : (Tryd.prog.info? 5).map (fun i => (i.zero, i.size, i.bytes)) = some (some (.int .u8 0), 1, 1) := by kernel_rfl
theorem info9 : (Tryd.prog.info? 9).map (fun i => (i.zero, i.size, i.bytes)) = some (some (.string ⟨#[]⟩), 1, 16) := by kernel_rfl
theorem info21 : (Tryd.prog.info? 21).map (fun i => (i.zero, i.size, i.bytes)) = some (some (.int .i32 0), 1, 4) := by kernel_rfl
-- the values' own types
/-! #### struct type 130 -/
structure S130 where
  f0 : Int
  f1 : Int
  f2 : Int
def z130 : S130 := ⟨(0 : Int), (0 : Int), (0 : Int)⟩
def k130 : Kd S130 := Kd.iso (Kd.pair (Kd.int .u16) (Kd.pair (Kd.int .u16) (Kd.int .u16))) (fun x : S130 => (x.f0, x.f1, x.f2))
theorem k130_heap : Kd.Heap k130 := Kd.heap_iso _ (Kd.heap_pair (Kd.heap_int .u16) (Kd.heap_pair (Kd.heap_int .u16) (Kd.heap_int .u16)))
theorem k130_open {w : World} {x : S130} {cs : List Value} (h : k130.K w x cs) : cs = [.int .u16 x.f0, .int .u16 x.f1, .int .u16 x.f2] := by
  obtain ⟨_, _, rfl, rfl, ⟨_, _, rfl, rfl, rfl⟩⟩ := h
  exact rfl
theorem k130_openM {w : World} {base : Nat} {ok : Nat → Prop} {x : S130} {cs : List Value} (h : k130.M w base ok x cs) : cs = [.int .u16 x.f0, .int .u16 x.f1, .int .u16 x.f2] := by
  obtain ⟨_, _, rfl, rfl, ⟨_, _, rfl, rfl, rfl⟩⟩ := h
  exact rfl
theorem k130_mk (w : World) (x : S130)  : k130.K w x [.int .u16 x.f0, .int .u16 x.f1, .int .u16 x.f2] := ⟨[.int .u16 x.f0], [.int .u16 x.f1, .int .u16 x.f2], rfl, rfl, ⟨[.int .u16 x.f1], [.int .u16 x.f2], rfl, rfl, rfl⟩⟩
theorem k130_mkM (w : World) (base : Nat) (ok : Nat → Prop) (x : S130)  : k130.M w base ok x [.int .u16 x.f0, .int .u16 x.f1, .int .u16 x.f2] := ⟨[.int .u16 x.f0], [.int .u16 x.f1, .int .u16 x.f2], rfl, rfl, ⟨[.int .u16 x.f1], [.int .u16 x.f2], rfl, rfl, rfl⟩⟩
theorem k130_mkF (W : World) (ok : Nat → Prop) (x : S130) : Kd.FK k130 W ok x [.int .u16 x.f0, .int .u16 x.f1, .int .u16 x.f2] := fun W2 _ => k130_mk W2 x
def rd_T130 (xs : List S130) (i : Int) : S130 := xs.getD i.toNat z130
theorem at_T130 {w : World} {A : Option Addr} {n : Nat} {xs : List S130} (h : Kd.C k130 w A n xs) (i : Int) (h0 : 0 ≤ i) (h1 : i < n) : ∃ ad , A = some ad ∧ w.cell? (ad.add (i.toNat * 3)) = some (.int .u16 (rd_T130 xs i).f0) ∧ w.cell? ⟨(ad.add (i.toNat * 3)).block, (ad.add (i.toNat * 3)).off + 1, none⟩ = some (.int .u16 (rd_T130 xs i).f1) ∧ w.cell? ⟨(ad.add (i.toNat * 3)).block, (ad.add (i.toNat * 3)).off + 2, none⟩ = some (.int .u16 (rd_T130 xs i).f2) := by
  obtain ⟨ad, c, e, _, hK, hc0⟩ := Kd.C_get h z130 i h0 h1
  have hc : ∀ j u, c[j]? = some u → w.cell? (ad.add (i.toNat * 3 + j)) = some u := hc0
  obtain rfl := k130_open hK
  exact ⟨ad, e, hc 0 _ rfl, by rw [← add_field _ _ 1 (by omega)]; exact hc 1 _ rfl, by rw [← add_field _ _ 2 (by omega)]; exact hc 2 _ rfl⟩

/-! #### struct type 133 -/
structure S133 where
  f0 : Int
  f1 : Int
  f2 : Int
def z133 : S133 := ⟨(0 : Int), (0 : Int), (0 : Int)⟩
def k133 : Kd S133 := Kd.iso (Kd.pair (Kd.int .u32) (Kd.pair (Kd.int .u32) (Kd.int .u32))) (fun x : S133 => (x.f0, x.f1, x.f2))
theorem k133_heap : Kd.Heap k133 := Kd.heap_iso _ (Kd.heap_pair (Kd.heap_int .u32) (Kd.heap_pair (Kd.heap_int .u32) (Kd.heap_int .u32)))
theorem k133_open {w : World} {x : S133} {cs : List Value} (h : k133.K w x cs) : cs = [.int .u32 x.f0, .int .u32 x.f1, .int .u32 x.f2] := by
  obtain ⟨_, _, rfl, rfl, ⟨_, _, rfl, rfl, rfl⟩⟩ := h
  exact rfl
theorem k133_openM {w : World} {base : Nat} {ok : Nat → Prop} {x : S133} {cs : List Value} (h : k133.M w base ok x cs) : cs = [.int .u32 x.f0, .int .u32 x.f1, .int .u32 x.f2] := by
  obtain ⟨_, _, rfl, rfl, ⟨_, _, rfl, rfl, rfl⟩⟩ := h
  exact rfl
theorem k133_mk (w : World) (x : S133)  : k133.K w x [.int .u32 x.f0, .int .u32 x.f1, .int .u32 x.f2] := ⟨[.int .u32 x.f0], [.int .u32 x.f1, .int .u32 x.f2], rfl, rfl, ⟨[.int .u32 x.f1], [.int .u32 x.f2], rfl, rfl, rfl⟩⟩
theorem k133_mkM (w : World) (base : Nat) (ok : Nat → Prop) (x : S133)  : k133.M w base ok x [.int .u32 x.f0, .int .u32 x.f1, .int .u32 x.f2] := ⟨[.int .u32 x.f0], [.int .u32 x.f1, .int .u32 x.f2], rfl, rfl, ⟨[.int .u32 x.f1], [.int .u32 x.f2], rfl, rfl, rfl⟩⟩
theorem k133_mkF (W : World) (ok : Nat → Prop) (x : S133) : Kd.FK k133 W ok x [.int .u32 x.f0, .int .u32 x.f1, .int .u32 x.f2] := fun W2 _ => k133_mk W2 x
def rd_T133 (xs : List S133) (i : Int) : S133 := xs.getD i.toNat z133
theorem at_T133 {w : World} {A : Option Addr} {n : Nat} {xs : List S133} (h : Kd.C k133 w A n xs) (i : Int) (h0 : 0 ≤ i) (h1 : i < n) : ∃ ad , A = some ad ∧ w.cell? (ad.add (i.toNat * 3)) = some (.int .u32 (rd_T133 xs i).f0) ∧ w.cell? ⟨(ad.add (i.toNat * 3)).block, (ad.add (i.toNat * 3)).off + 1, none⟩ = some (.int .u32 (rd_T133 xs i).f1) ∧ w.cell? ⟨(ad.add (i.toNat * 3)).block, (ad.add (i.toNat * 3)).off + 2, none⟩ = some (.int .u32 (rd_T133 xs i).f2) := by
  obtain ⟨ad, c, e, _, hK, hc0⟩ := Kd.C_get h z133 i h0 h1
  have hc : ∀ j u, c[j]? = some u → w.cell? (ad.add (i.toNat * 3 + j)) = some u := hc0
  obtain rfl := k133_open hK
  exact ⟨ad, e, hc 0 _ rfl, by rw [← add_field _ _ 1 (by omega)]; exact hc 1 _ rfl, by rw [← add_field _ _ 2 (by omega)]; exact hc 2 _ rfl⟩

end Go.Proofs.YtagafmfmmnegfaaDoor.P
