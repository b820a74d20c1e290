-- WRITTEN by xprint.py (a program of this session, over the kit's print) out of the translation. Not trusted: Lean checks it.
import Derived.Test.YtjpibaehpmkdmaaDoorProg
import Derived.Below
import Derived.Deep.Draws
import Derived.Deep.AppendLies
import Derived.Maps.AppendAt
import Derived.OwnWalk
import Derived.Laws.BytesArg
import Derived.Laws.MakeOwn
import Derived.Laws.OwnMore
import Derived.Deep.OwnRows
import Derived.Tactics
import Derived.Lib.ConvBytes
import Derived.Laws.Slices
import Derived.WalkKit
import Derived.KernelRfl
import Derived.RowKit3
import Derived.Deep.LoopGhost
import Derived.Deep.QuietTactic
import Derived.BigQuiet
import Derived.WideLaws
import Derived.Deep.DeepCutAuto
import Derived.Deep.CutBlock
import Derived.Deep.RegionHeld3
import Derived.Laws.Rows
import Derived.Lib.AppendStr
import Derived.ArgAppend
import Derived.Laws.IdiomCopy
import Derived.OrdersHeld
import Derived.Laws.BitsLemmas
import Derived.RowKit
import Derived.Test.YtjpibaehpmkdmaaDoorXw
import Derived.Lib.RuneBytes
import Derived.Test.YtjpibaehpmkdmaaDoorSh
import Derived.Lib.FrozenHead
import Derived.Lib.RuneCountTail
import Derived.Shelf.Unicode.DecodeLastEight
import Derived.Test.YtjpibaehpmkdmaaDoorWWords
import Derived.Test.YtjpibaehpmkdmaaDoorWLast
import Derived.Test.YtjpibaehpmkdmaaDoorWTab
import Derived.Test.YtjpibaehpmkdmaaDoorWFour
import Derived.Test.YtjpibaehpmkdmaaDoorWQPut
import Derived.Test.YtjpibaehpmkdmaaDoorWApart
import Derived.Test.YtjpibaehpmkdmaaDoorWArr
import Derived.Test.YtjpibaehpmkdmaaDoorWZeros
import Derived.Test.YtjpibaehpmkdmaaDoorWFoot
import Derived.Test.YtjpibaehpmkdmaaDoorWKept
import Derived.Test.YtjpibaehpmkdmaaDoorWShare
import Derived.Test.YtjpibaehpmkdmaaDoorWN
import Derived.Test.YtjpibaehpmkdmaaDoorWFootNe
import Derived.Test.YtjpibaehpmkdmaaDoorWAt
import Derived.Test.YtjpibaehpmkdmaaDoorWEqStruct
import Derived.Test.YtjpibaehpmkdmaaDoorWRepsOne
import Derived.Test.YtjpibaehpmkdmaaDoorWInv
import Derived.Test.YtjpibaehpmkdmaaDoorWInvWords
import Derived.Test.YtjpibaehpmkdmaaDoorWGuard
import Derived.Test.YtjpibaehpmkdmaaDoorWNEv
import Derived.Test.YtjpibaehpmkdmaaDoorWMore
namespace Go.Proofs.YtjpibaehpmkdmaaDoor.P
open Go.RowKit Go.Proofs.YtjpibaehpmkdmaaDoorW.PrintWords Go.Proofs.YtjpibaehpmkdmaaDoorW.PrintLast Go.Proofs.YtjpibaehpmkdmaaDoorW.PrintMore
attribute [local go_sem] max2_int min2_int max_two min_two max_three min_three max_four min_four run_store_float   -- for this text's walks alone
set_option linter.unusedVariables false
set_option linter.unusedSimpArgs false



def errW : Option Int → Value
  | none => .nilIface
  | some c => .iface 0 (.int .i64 c)
theorem errW_none : errW none = .nilIface := rfl
theorem errW_some (c : Int) : errW (some c) = .iface 0 (.int .i64 c) := rfl

theorem info3 : (Tryd.prog.info? 3).map (fun i => (i.zero, i.size, i.bytes)) = some (some (.int .i64 0), 1, 8) := by kernel_rfl
-- the values' own types
/-! #### struct type 146 -/
structure S146 where
  f0 : Int
  f1 : Int
  f2 : Int
def z146 : S146 := ⟨(0 : Int), (0 : Int), (0 : Int)⟩
def k146 : Kd S146 := Kd.iso (Kd.pair (Kd.int .u16) (Kd.pair (Kd.int .u16) (Kd.int .u16))) (fun x : S146 => (x.f0, x.f1, x.f2))
theorem k146_open {w : World} {x : S146} {cs : List Value} (h : k146.K w x cs) : cs = [.int .u16 x.f0, .int .u16 x.f1, .int .u16 x.f2] := by
  obtain ⟨_, _, rfl, rfl, ⟨_, _, rfl, rfl, rfl⟩⟩ := h
  exact rfl
theorem k146_openM {w : World} {base : Nat} {ok : Nat → Prop} {x : S146} {cs : List Value} (h : k146.M w base ok x cs) : cs = [.int .u16 x.f0, .int .u16 x.f1, .int .u16 x.f2] := by
  obtain ⟨_, _, rfl, rfl, ⟨_, _, rfl, rfl, rfl⟩⟩ := h
  exact rfl
theorem k146_mk (w : World) (x : S146)  : k146.K w x [.int .u16 x.f0, .int .u16 x.f1, .int .u16 x.f2] := ⟨[.int .u16 x.f0], [.int .u16 x.f1, .int .u16 x.f2], rfl, rfl, ⟨[.int .u16 x.f1], [.int .u16 x.f2], rfl, rfl, rfl⟩⟩
theorem k146_mkM (w : World) (base : Nat) (ok : Nat → Prop) (x : S146)  : k146.M w base ok x [.int .u16 x.f0, .int .u16 x.f1, .int .u16 x.f2] := ⟨[.int .u16 x.f0], [.int .u16 x.f1, .int .u16 x.f2], rfl, rfl, ⟨[.int .u16 x.f1], [.int .u16 x.f2], rfl, rfl, rfl⟩⟩
def rd_T146 (xs : List S146) (i : Int) : S146 := xs.getD i.toNat z146
theorem at_T146 {w : World} {A : Option Addr} {n : Nat} {xs : List S146} (h : Kd.C k146 w A n xs) (i : Int) (h0 : 0 ≤ i) (h1 : i < n) : ∃ ad , A = some ad ∧ w.cell? (ad.add (i.toNat * 3)) = some (.int .u16 (rd_T146 xs i).f0) ∧ w.cell? ⟨(ad.add (i.toNat * 3)).block, (ad.add (i.toNat * 3)).off + 1, none⟩ = some (.int .u16 (rd_T146 xs i).f1) ∧ w.cell? ⟨(ad.add (i.toNat * 3)).block, (ad.add (i.toNat * 3)).off + 2, none⟩ = some (.int .u16 (rd_T146 xs i).f2) := by
  obtain ⟨ad, c, e, _, hK, hc0⟩ := Kd.C_get h z146 i h0 h1
  have hc : ∀ j u, c[j]? = some u → w.cell? (ad.add (i.toNat * 3 + j)) = some u := hc0
  obtain rfl := k146_open hK
  exact ⟨ad, e, hc 0 _ rfl, by rw [← add_field _ _ 1 (by omega)]; exact hc 1 _ rfl, by rw [← add_field _ _ 2 (by omega)]; exact hc 2 _ rfl⟩

/-! #### struct type 149 -/
structure S149 where
  f0 : Int
  f1 : Int
  f2 : Int
def z149 : S149 := ⟨(0 : Int), (0 : Int), (0 : Int)⟩
def k149 : Kd S149 := Kd.iso (Kd.pair (Kd.int .u32) (Kd.pair (Kd.int .u32) (Kd.int .u32))) (fun x : S149 => (x.f0, x.f1, x.f2))
theorem k149_open {w : World} {x : S149} {cs : List Value} (h : k149.K w x cs) : cs = [.int .u32 x.f0, .int .u32 x.f1, .int .u32 x.f2] := by
  obtain ⟨_, _, rfl, rfl, ⟨_, _, rfl, rfl, rfl⟩⟩ := h
  exact rfl
theorem k149_openM {w : World} {base : Nat} {ok : Nat → Prop} {x : S149} {cs : List Value} (h : k149.M w base ok x cs) : cs = [.int .u32 x.f0, .int .u32 x.f1, .int .u32 x.f2] := by
  obtain ⟨_, _, rfl, rfl, ⟨_, _, rfl, rfl, rfl⟩⟩ := h
  exact rfl
theorem k149_mk (w : World) (x : S149)  : k149.K w x [.int .u32 x.f0, .int .u32 x.f1, .int .u32 x.f2] := ⟨[.int .u32 x.f0], [.int .u32 x.f1, .int .u32 x.f2], rfl, rfl, ⟨[.int .u32 x.f1], [.int .u32 x.f2], rfl, rfl, rfl⟩⟩
theorem k149_mkM (w : World) (base : Nat) (ok : Nat → Prop) (x : S149)  : k149.M w base ok x [.int .u32 x.f0, .int .u32 x.f1, .int .u32 x.f2] := ⟨[.int .u32 x.f0], [.int .u32 x.f1, .int .u32 x.f2], rfl, rfl, ⟨[.int .u32 x.f1], [.int .u32 x.f2], rfl, rfl, rfl⟩⟩
def rd_T149 (xs : List S149) (i : Int) : S149 := xs.getD i.toNat z149
theorem at_T149 {w : World} {A : Option Addr} {n : Nat} {xs : List S149} (h : Kd.C k149 w A n xs) (i : Int) (h0 : 0 ≤ i) (h1 : i < n) : ∃ ad , A = some ad ∧ w.cell? (ad.add (i.toNat * 3)) = some (.int .u32 (rd_T149 xs i).f0) ∧ w.cell? ⟨(ad.add (i.toNat * 3)).block, (ad.add (i.toNat * 3)).off + 1, none⟩ = some (.int .u32 (rd_T149 xs i).f1) ∧ w.cell? ⟨(ad.add (i.toNat * 3)).block, (ad.add (i.toNat * 3)).off + 2, none⟩ = some (.int .u32 (rd_T149 xs i).f2) := by
  obtain ⟨ad, c, e, _, hK, hc0⟩ := Kd.C_get h z149 i h0 h1
  have hc : ∀ j u, c[j]? = some u → w.cell? (ad.add (i.toNat * 3 + j)) = some u := hc0
  obtain rfl := k149_open hK
  exact ⟨ad, e, hc 0 _ rfl, by rw [← add_field _ _ 1 (by omega)]; exact hc 1 _ rfl, by rw [← add_field _ _ 2 (by omega)]; exact hc 2 _ rfl⟩

end Go.Proofs.YtjpibaehpmkdmaaDoor.P
