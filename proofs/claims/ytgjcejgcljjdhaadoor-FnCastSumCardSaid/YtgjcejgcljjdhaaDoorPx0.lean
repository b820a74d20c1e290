-- WRITTEN by xprint.py (a program of this session, over the kit's print) out of the translation. Not trusted: Lean checks it.
import Derived.Test.YtgjcejgcljjdhaaDoorProg
import Derived.Below
import Derived.Deep.Draws
import Derived.Deep.AppendLies
import Derived.Maps.AppendAt
import Derived.OwnWalk
import Derived.Laws.BytesArg
import Derived.Laws.MakeOwn
import Derived.Laws.OwnMore
import Derived.Deep.OwnRows
import Derived.Tactics
import Derived.Lib.ConvBytes
import Derived.Laws.Slices
import Derived.WalkKit
import Derived.KernelRfl
import Derived.RowKit3
import Derived.Deep.LoopGhost
import Derived.Deep.QuietTactic
import Derived.BigQuiet
import Derived.WideLaws
import Derived.Deep.DeepCutAuto
import Derived.Deep.CutBlock
import Derived.Deep.RegionHeld3
import Derived.Laws.Rows
import Derived.Lib.AppendStr
import Derived.ArgAppend
import Derived.Laws.IdiomCopy
import Derived.OrdersHeld
import Derived.Laws.BitsLemmas
import Derived.RowKit
import Derived.Test.YtgjcejgcljjdhaaDoorXw
import Derived.Laws.AppendOwn
import Derived.Test.YtgjcejgcljjdhaaDoorWWords
import Derived.Test.YtgjcejgcljjdhaaDoorWLast
import Derived.Test.YtgjcejgcljjdhaaDoorWTab
import Derived.Test.YtgjcejgcljjdhaaDoorWFour
import Derived.Test.YtgjcejgcljjdhaaDoorWQPut
import Derived.Test.YtgjcejgcljjdhaaDoorWApart
import Derived.Test.YtgjcejgcljjdhaaDoorWArr
import Derived.Test.YtgjcejgcljjdhaaDoorWZeros
import Derived.Test.YtgjcejgcljjdhaaDoorWFoot
import Derived.Test.YtgjcejgcljjdhaaDoorWKept
import Derived.Test.YtgjcejgcljjdhaaDoorWShare
import Derived.Test.YtgjcejgcljjdhaaDoorWN
import Derived.Test.YtgjcejgcljjdhaaDoorWFootNe
import Derived.Test.YtgjcejgcljjdhaaDoorWAt
import Derived.Test.YtgjcejgcljjdhaaDoorWEqStruct
import Derived.Test.YtgjcejgcljjdhaaDoorWRepsOne
import Derived.Test.YtgjcejgcljjdhaaDoorWInv
import Derived.Test.YtgjcejgcljjdhaaDoorWInvWords
import Derived.Test.YtgjcejgcljjdhaaDoorWGuard
import Derived.Test.YtgjcejgcljjdhaaDoorWNEv
import Derived.Test.YtgjcejgcljjdhaaDoorWMore
namespace Go.Proofs.YtgjcejgcljjdhaaDoor.P
open Go.RowKit Go.Proofs.YtgjcejgcljjdhaaDoorW.PrintWords Go.Proofs.YtgjcejgcljjdhaaDoorW.PrintLast Go.Proofs.YtgjcejgcljjdhaaDoorW.PrintMore
attribute [local go_sem] max2_int min2_int max_two min_two max_three min_three max_four min_four run_store_float   -- for this text's walks alone
set_option linter.unusedVariables false
set_option linter.unusedSimpArgs false



def errW : Option Int → Value
  | none => .nilIface
  | some c => .iface 163 (.int .i64 c)
theorem errW_none : errW none = .nilIface := rfl
theorem errW_some (c : Int) : errW (some c) = .iface 163 (.int .i64 c) := rfl

theorem info5 : (Tryd.prog.info? 5).map (fun i => (i.zero, i.size, i.bytes)) = some (some (.int .u8 0), 1, 1) := by kernel_rfl
-- the values' own types
def rd_L4 (xs : List (List ByteArray)) (i : Int) : (List ByteArray) := xs.getD i.toNat ([] : List ByteArray)
theorem at_L4 {w : World} {A : Option Addr} {n : Nat} {xs : List (List ByteArray)} (h : Kd.C (Kd.slice 9 Kd.string) w A n xs) (i : Int) (h0 : 0 ≤ i) (h1 : i < n) : ∃ ad A0 c0, A = some ad ∧ w.cell? (ad.add i.toNat) = some (.slice A0 (rd_L4 xs i).length c0) ∧ (rd_L4 xs i).length ≤ c0 ∧ Kd.string.C w A0 (rd_L4 xs i).length (rd_L4 xs i) := by
  obtain ⟨ad, c, e, _, hK, hc0⟩ := Kd.C_get h ([] : List ByteArray) i h0 h1
  have hc : ∀ j u, c[j]? = some u → w.cell? (ad.add (i.toNat * 1 + j)) = some u := hc0
  obtain ⟨A0, c0, rfl, l0, g0⟩ := hK
  exact ⟨ad, A0, c0, e, by have hq := hc 0 _ rfl; rwa [Nat.mul_one, Nat.add_zero] at hq, l0, g0⟩

/-! #### struct type 28, nested in itself -/
structure S28 where
  f0 : Int
  f1 : Int
  f2 : Nat
  f3 : ByteArray
  f4 : (List ByteArray)
  f5 : (List S28)
def z28 : S28 := ⟨(0 : Int), (0 : Int), (0 : Nat), (⟨#[]⟩ : ByteArray), ([] : List ByteArray), ([] : List S28)⟩
def F28 (d : Kd S28) : Kd S28 := Kd.iso (Kd.pair (Kd.int .i64) (Kd.pair (Kd.int .i64) (Kd.pair Kd.flt (Kd.pair Kd.string (Kd.pair (Kd.slice 9 Kd.string) (Kd.slice 28 d)))))) (fun x : S28 => (x.f0, x.f1, x.f2, x.f3, x.f4, x.f5))
theorem mono28 : Kd.Mono F28 := Kd.mono_iso _ (Kd.mono_pair (Kd.mono_const _) (Kd.mono_pair (Kd.mono_const _) (Kd.mono_pair (Kd.mono_const _) (Kd.mono_pair (Kd.mono_const _) (Kd.mono_pair (Kd.mono_const _) (Kd.mono_slice 28 Kd.mono_id))))))
theorem sub28 : Kd.Sub F28 [9, 28] := Kd.sub_iso _ (Kd.sub_pair (Kd.sub_const _ (by decide)) (Kd.sub_pair (Kd.sub_const _ (by decide)) (Kd.sub_pair (Kd.sub_const _ (by decide)) (Kd.sub_pair (Kd.sub_const _ (by decide)) (Kd.sub_pair (Kd.sub_const _ (by decide)) (Kd.sub_slice 28 (by decide) Kd.sub_id))))))
theorem sz28 : ∀ n, (Kd.upto F28 6 [9, 28] n).sz = 6 := Kd.upto_sz (fun _ => rfl)
def k28 : Kd S28 := Kd.fix F28 6 [9, 28] sz28 (Kd.upto_E sub28)
theorem k28_open {w : World} {x : S28} {cs : List Value} (h : k28.K w x cs) : ∃ A4 c4 A5 c5, cs = [.int .i64 x.f0, .int .i64 x.f1, .float .f64 x.f2, .string x.f3, .slice A4 x.f4.length c4, .slice A5 x.f5.length c5] ∧ x.f4.length ≤ c4 ∧ Kd.string.C w A4 x.f4.length x.f4 ∧ x.f5.length ≤ c5 ∧ k28.C w A5 x.f5.length x.f5 := by
  obtain ⟨n, h⟩ := h
  cases n with
  | zero => exact h.elim
  | succ n =>
    obtain ⟨_, _, rfl, rfl, ⟨_, _, rfl, rfl, ⟨_, _, rfl, rfl, ⟨_, _, rfl, rfl, ⟨_, _, rfl, ⟨A4, c4, rfl, l4, g4⟩, ⟨A5, c5, rfl, l5, g5⟩⟩⟩⟩⟩⟩ := h
    exact ⟨A4, c4, A5, c5, rfl, l4, g4, l5, Kd.fix_C g5⟩
theorem k28_openM {w : World} {base : Nat} {ok : Nat → Prop} {x : S28} {cs : List Value} (h : k28.M w base ok x cs) : ∃ v4 v5, cs = [.int .i64 x.f0, .int .i64 x.f1, .float .f64 x.f2, .string x.f3, v4, v5] ∧ Kd.string.R 9 w base ok v4 x.f4 ∧ k28.R 28 w base ok v5 x.f5 := by
  obtain ⟨n, h⟩ := h
  cases n with
  | zero => exact h.elim
  | succ n =>
    obtain ⟨_, _, rfl, rfl, ⟨_, _, rfl, rfl, ⟨_, _, rfl, rfl, ⟨_, _, rfl, rfl, ⟨_, _, rfl, ⟨v4, rfl, g4⟩, ⟨v5, rfl, g5⟩⟩⟩⟩⟩⟩ := h
    exact ⟨v4, v5, rfl, g4, Kd.fix_R g5⟩
theorem k28_mk (w : World) (x : S28) {A4 : Option Addr} {c4 : Nat} (l4 : x.f4.length ≤ c4) (g4 : Kd.string.C w A4 x.f4.length x.f4) {A5 : Option Addr} {c5 : Nat} (l5 : x.f5.length ≤ c5) (g5 : k28.C w A5 x.f5.length x.f5) : k28.K w x [.int .i64 x.f0, .int .i64 x.f1, .float .f64 x.f2, .string x.f3, .slice A4 x.f4.length c4, .slice A5 x.f5.length c5] := by
  obtain ⟨n5, q5⟩ := Kd.fix_C_back mono28 g5
  have r5 := Kd.upto_C_le mono28 sz28 (show n5 ≤ n5 by omega) q5
  exact ⟨n5 + 1, ⟨[.int .i64 x.f0], [.int .i64 x.f1, .float .f64 x.f2, .string x.f3, .slice A4 x.f4.length c4, .slice A5 x.f5.length c5], rfl, rfl, ⟨[.int .i64 x.f1], [.float .f64 x.f2, .string x.f3, .slice A4 x.f4.length c4, .slice A5 x.f5.length c5], rfl, rfl, ⟨[.float .f64 x.f2], [.string x.f3, .slice A4 x.f4.length c4, .slice A5 x.f5.length c5], rfl, rfl, ⟨[.string x.f3], [.slice A4 x.f4.length c4, .slice A5 x.f5.length c5], rfl, rfl, ⟨[.slice A4 x.f4.length c4], [.slice A5 x.f5.length c5], rfl, ⟨A4, c4, rfl, l4, g4⟩, ⟨A5, c5, rfl, l5, r5⟩⟩⟩⟩⟩⟩⟩
theorem k28_mkM (w : World) (base : Nat) (ok : Nat → Prop) (x : S28) {v4 : Value} (g4 : Kd.string.R 9 w base ok v4 x.f4) {v5 : Value} (g5 : k28.R 28 w base ok v5 x.f5) : k28.M w base ok x [.int .i64 x.f0, .int .i64 x.f1, .float .f64 x.f2, .string x.f3, v4, v5] := by
  obtain ⟨n5, q5⟩ := Kd.fix_R_back mono28 g5
  have r5 := Kd.upto_R_le mono28 sz28 (show n5 ≤ n5 by omega) q5
  exact ⟨n5 + 1, ⟨[.int .i64 x.f0], [.int .i64 x.f1, .float .f64 x.f2, .string x.f3, v4, v5], rfl, rfl, ⟨[.int .i64 x.f1], [.float .f64 x.f2, .string x.f3, v4, v5], rfl, rfl, ⟨[.float .f64 x.f2], [.string x.f3, v4, v5], rfl, rfl, ⟨[.string x.f3], [v4, v5], rfl, rfl, ⟨[v4], [v5], rfl, ⟨v4, rfl, g4⟩, ⟨v5, rfl, r5⟩⟩⟩⟩⟩⟩⟩
def rd_T28 (xs : List S28) (i : Int) : S28 := xs.getD i.toNat z28
theorem at_T28 {w : World} {A : Option Addr} {n : Nat} {xs : List S28} (h : Kd.C k28 w A n xs) (i : Int) (h0 : 0 ≤ i) (h1 : i < n) : ∃ ad A4 c4 A5 c5, A = some ad ∧ w.cell? (ad.add (i.toNat * 6)) = some (.int .i64 (rd_T28 xs i).f0) ∧ w.cell? ⟨(ad.add (i.toNat * 6)).block, (ad.add (i.toNat * 6)).off + 1, none⟩ = some (.int .i64 (rd_T28 xs i).f1) ∧ w.cell? ⟨(ad.add (i.toNat * 6)).block, (ad.add (i.toNat * 6)).off + 2, none⟩ = some (.float .f64 (rd_T28 xs i).f2) ∧ w.cell? ⟨(ad.add (i.toNat * 6)).block, (ad.add (i.toNat * 6)).off + 3, none⟩ = some (.string (rd_T28 xs i).f3) ∧ w.cell? ⟨(ad.add (i.toNat * 6)).block, (ad.add (i.toNat * 6)).off + 4, none⟩ = some (.slice A4 (rd_T28 xs i).f4.length c4) ∧ w.cell? ⟨(ad.add (i.toNat * 6)).block, (ad.add (i.toNat * 6)).off + 5, none⟩ = some (.slice A5 (rd_T28 xs i).f5.length c5) ∧ (rd_T28 xs i).f4.length ≤ c4 ∧ Kd.string.C w A4 (rd_T28 xs i).f4.length (rd_T28 xs i).f4 ∧ (rd_T28 xs i).f5.length ≤ c5 ∧ k28.C w A5 (rd_T28 xs i).f5.length (rd_T28 xs i).f5 := by
  obtain ⟨ad, c, e, _, hK, hc0⟩ := Kd.C_get h z28 i h0 h1
  have hc : ∀ j u, c[j]? = some u → w.cell? (ad.add (i.toNat * 6 + j)) = some u := hc0
  obtain ⟨A4, c4, A5, c5, rfl, l4, g4, l5, g5⟩ := k28_open hK
  exact ⟨ad, A4, c4, A5, c5, e, hc 0 _ rfl, by rw [← add_field _ _ 1 (by omega)]; exact hc 1 _ rfl, by rw [← add_field _ _ 2 (by omega)]; exact hc 2 _ rfl, by rw [← add_field _ _ 3 (by omega)]; exact hc 3 _ rfl, by rw [← add_field _ _ 4 (by omega)]; exact hc 4 _ rfl, by rw [← add_field _ _ 5 (by omega)]; exact hc 5 _ rfl, l4, g4, l5, g5⟩

end Go.Proofs.YtgjcejgcljjdhaaDoor.P
