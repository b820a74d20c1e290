/- The row of FnRangeHyphen. -/
import Derived.Test.YtlhijjfbcgconaaDoorCards
import Derived.Test.YtlhijjfbcgconaaDoorTie
import Derived.Test.YtlhijjfbcgconaaDoorZRgE
import Derived.WalkKit
import Derived.Deep.DeepHandedRow
import Derived.Deep.DeepWitnessRowRef
import Derived.Deep.DeepLaidRun
import Derived.SevenTiedPlain
import Derived.SevenTiedAt
import Derived.Lay
import Derived.Lib.LaidU8
import Derived.ProofKit
import Derived.OpenShut
import Derived.ShutString
import Derived.ChangeOld
import Derived.Below
import Derived.SizedLaws
namespace Go.Proofs.YtlhijjfbcgconaaDoor.fnRangeHyphen
open Go.ChangeShapes Go.WideShapes Go.ChangeAt Go.RowKit
open Go.ChangeMaps (open_string shut_string)
set_option linter.unusedVariables false
theorem own : ownKnob Tryd.prog.godebug = none := by kernel_rfl
theorem laidOut : laidOutB Tryd.prog = true := by kernel_rfl
/-- A WORLD FOR THE WITNESS: the listed variables laid by the law. -/
noncomputable def laidWorld (os : Os) : World := World.laidAll Tryd.prog os Rows.fnRangeHyphenRow.laid
set_option maxRecDepth 100000 in
theorem laid_met (os : Os) : laidMet Tryd.prog Rows.fnRangeHyphenRow.laid ((laidWorld os).forCall (fun _ _ => 0) ⟨#[], #[.int .u16 0, .int .u16 0, .int .u16 0, .int .u16 0, .int .u16 0, .int .u16 0, .int .u16 0, .int .u16 0, .int .u16 0], []⟩).memory :=
  laidMet_laidAll _ (by kernel_rfl) (by kernel_rfl)
theorem witness_row (os : Os) {H : Type} (enc : TypeId × Value → H) :
    (OpenSpec.ofChange Rows.fnRangeHyphenSpec).preRow enc Tryd.prog Tryd.f8 Rows.fnRangeHyphenRow.domain false Rows.fnRangeHyphenRow.laid ((laidWorld os).forCall (fun _ _ => 0) ⟨#[], #[.int .u16 0, .int .u16 0, .int .u16 0, .int .u16 0, .int .u16 0, .int .u16 0, .int .u16 0, .int .u16 0, .int .u16 0], []⟩).memory #[.int .u16 0, .int .u16 0, .int .u16 0, .int .u16 0, .int .u16 0, .int .u16 0, .int .u16 0, .int .u16 0, .int .u16 0] := by
  have hw : (DataW.whole enc Tryd.prog ((laidWorld os).forCall (fun _ _ => 0) ⟨#[], #[.int .u16 0, .int .u16 0, .int .u16 0, .int .u16 0, .int .u16 0, .int .u16 0, .int .u16 0, .int .u16 0, .int .u16 0], []⟩).memory Tryd.f8.params.toList Rows.fnRangeHyphenSpec.vars false (#[Value.int .u16 0, Value.int .u16 0, Value.int .u16 0, Value.int .u16 0, Value.int .u16 0, Value.int .u16 0, Value.int .u16 0, Value.int .u16 0, Value.int .u16 0] : Array Value).toList 8).map (fun x => (x.1, x.2.1)) = some ([.lit (.int .u16 0), .lit (.int .u16 0), .lit (.int .u16 0), .lit (.int .u16 0), .lit (.int .u16 0), .lit (.int .u16 0), .lit (.int .u16 0), .lit (.int .u16 0), .lit (.int .u16 0)], []) := by kernel_rfl
  obtain ⟨⟨x1, x2, x3⟩, hx, hx1⟩ := Option.map_eq_some_iff.1 hw
  simp only [Prod.mk.injEq] at hx1
  obtain ⟨rfl, rfl⟩ := hx1
  exact OpenSpec.preRow_of_cond 8 hx (by kernel_rfl) (fun k hk => by cases hk) (by kernel_rfl) (laid_met os)
set_option maxRecDepth 100000 in
theorem lifted (os : Os) (started : os.Started) (H : Type) (enc : TypeId × Value → H) (F : Stop.Interp) :
    ReturnsInHanded {} Tryd.checked os 8 .any ((OpenSpec.ofChange Rows.fnRangeHyphenSpec).preRow enc Tryd.prog Tryd.f8 Rows.fnRangeHyphenRow.domain false Rows.fnRangeHyphenRow.laid) (((OpenSpec.ofChange Rows.fnRangeHyphenSpec).at F).post enc Tryd.prog Tryd.f8 false true false false) := by
  refine returnsInHanded_of_row (C := Tryd.checked) (s := OpenSpec.ofChange Rows.fnRangeHyphenSpec) own started (by kernel_rfl) Tryd.func8
    (⟨laidWorld os, fun _ _ => 0, ⟨#[], #[.int .u16 0, .int .u16 0, .int .u16 0, .int .u16 0, .int .u16 0, .int .u16 0, .int .u16 0, .int .u16 0, .int .u16 0], []⟩, World.laidAll_os _ _ _, World.shaped_of_ZipB (by kernel_rfl) (by kernel_rfl), rfl, (Input.okWide_of_okWideB (P := Tryd.prog) (w := (laidWorld os).forCall (fun _ _ => 0) ⟨#[], #[.int .u16 0, .int .u16 0, .int .u16 0, .int .u16 0, .int .u16 0, .int .u16 0, .int .u16 0, .int .u16 0, .int .u16 0], []⟩) (f := 8) (i := ⟨#[], #[.int .u16 0, .int .u16 0, .int .u16 0, .int .u16 0, .int .u16 0, .int .u16 0, .int .u16 0, .int .u16 0, .int .u16 0], []⟩) (by kernel_rfl)).2, witness_row os enc, by
      simp only [Assume.holds]
      exact ⟨by simp, by simp, fun _ => Modest.zero, by simp, by simp⟩⟩) ?_
  intro W base args ds gs before hval0 hW hcnd _ hsz0 hL _ _
  have hsz : (DataW.weightsEach Tryd.prog (Tryd.f8.params.toList ++ (OpenSpec.ofChange Rows.fnRangeHyphenSpec).bare.plain.varTypes Tryd.prog) (ds ++ gs)).all (· ≤ reachBytes) = true := hsz0
  have hval : ∀ (j : Nat) t v, Tryd.f8.params[j]? = some t → args[j]? = some v → Value.okWide Tryd.prog W .any base t v := hval0
  have hW' := hW
  obtain ⟨p, q, hA0, hV, rfl, hfz, hnd⟩ := hW
  have hA : DataW.TrodAll enc Tryd.prog W 0 (fun _ => true) true Tryd.f8.params.toList args.toList ds p := hA0
  rw [Tryd.params8] at hA hval hsz
  obtain ⟨v0, vs0, d0, ds0, p0, q0, hargs, rfl, rfl, h0, r0⟩ := trodAll_cons hA
  obtain ⟨v1, vs1, d1, ds1, p1, q1, rfl, rfl, rfl, h1, r1⟩ := trodAll_cons r0
  obtain ⟨v2, vs2, d2, ds2, p2, q2, rfl, rfl, rfl, h2, r2⟩ := trodAll_cons r1
  obtain ⟨v3, vs3, d3, ds3, p3, q3, rfl, rfl, rfl, h3, r3⟩ := trodAll_cons r2
  obtain ⟨v4, vs4, d4, ds4, p4, q4, rfl, rfl, rfl, h4, r4⟩ := trodAll_cons r3
  obtain ⟨v5, vs5, d5, ds5, p5, q5, rfl, rfl, rfl, h5, r5⟩ := trodAll_cons r4
  obtain ⟨v6, vs6, d6, ds6, p6, q6, rfl, rfl, rfl, h6, r6⟩ := trodAll_cons r5
  obtain ⟨v7, vs7, d7, ds7, p7, q7, rfl, rfl, rfl, h7, r7⟩ := trodAll_cons r6
  obtain ⟨v8, vs8, d8, ds8, p8, q8, rfl, rfl, rfl, h8, r8⟩ := trodAll_cons r7
  obtain ⟨rfl, rfl, rfl⟩ := trodAll_nil r8
  obtain rfl : args = #[v0, v1, v2, v3, v4, v5, v6, v7, v8] := by cases args; simp_all
  obtain ⟨rfl, rfl⟩ := trodVars_none hV
  obtain ⟨i0, rfl, rfl, rfl, w0⟩ := open_int Tryd.underlying41 (hval 0 41 v0 rfl rfl) h0
  obtain ⟨i1, rfl, rfl, rfl, w1⟩ := open_int Tryd.underlying41 (hval 1 41 v1 rfl rfl) h1
  obtain ⟨i2, rfl, rfl, rfl, w2⟩ := open_int Tryd.underlying41 (hval 2 41 v2 rfl rfl) h2
  obtain ⟨i3, rfl, rfl, rfl, w3⟩ := open_int Tryd.underlying41 (hval 3 41 v3 rfl rfl) h3
  obtain ⟨i4, rfl, rfl, rfl, w4⟩ := open_int Tryd.underlying41 (hval 4 41 v4 rfl rfl) h4
  obtain ⟨i5, rfl, rfl, rfl, w5⟩ := open_int Tryd.underlying41 (hval 5 41 v5 rfl rfl) h5
  obtain ⟨i6, rfl, rfl, rfl, w6⟩ := open_int Tryd.underlying41 (hval 6 41 v6 rfl rfl) h6
  obtain ⟨i7, rfl, rfl, rfl, w7⟩ := open_int Tryd.underlying41 (hval 7 41 v7 rfl rfl) h7
  obtain ⟨i8, rfl, rfl, rfl, w8⟩ := open_int Tryd.underlying41 (hval 8 41 v8 rfl rfl) h8
  clear hA0 hval0 hsz0 hsz
  have HTE : P.TabsE W :=
    ⟨P.iface_of_reads (g := 2) (by kernel_rfl) (by kernel_rfl) Tryd.underlying55 (Lib.laidMet.reads hL (.tail _ (.tail _ (.tail _ (.tail _ (.tail _ (.head _))))))), P.iface_of_reads (g := 3) (by kernel_rfl) (by kernel_rfl) Tryd.underlying55 (Lib.laidMet.reads hL (.tail _ (.tail _ (.tail _ (.tail _ (.head _))))))⟩
  refine (P.fnRangeHyphen i0 i1 i2 i3 i4 i5 i6 i7 i8 W w0 w1 w2 w3 w4 w5 w6 w7 w8  HTE).mono fun e W' ⟨he, bel⟩ => ?_
  subst he
  exact ⟨_, rfl, _, _, _, [], _, [], hW', trodAll_mk1 (shut_bool Tryd.underlying4 _), (trodAll_cons_mk (shut_int Tryd.underlying41 w0) (trodAll_cons_mk (shut_int Tryd.underlying41 w1) (trodAll_cons_mk (shut_int Tryd.underlying41 w2) (trodAll_cons_mk (shut_int Tryd.underlying41 w3) (trodAll_cons_mk (shut_int Tryd.underlying41 w4) (trodAll_cons_mk (shut_int Tryd.underlying41 w5) (trodAll_cons_mk (shut_int Tryd.underlying41 w6) (trodAll_cons_mk (shut_int Tryd.underlying41 w7) (trodAll_cons_mk (shut_int Tryd.underlying41 w8) trodAll_mk0))))))))), rfl, bel.frame _, fun h => by cases h⟩
theorem said : Rows.FnRangeHyphenSaid :=
  OpenClaim.holds_of_cond 8 Tryd.f8 rfl rfl rfl rfl rfl rfl rfl ⟨rfl, rfl, rfl, rfl, rfl⟩ rfl rfl rfl rfl rfl (by kernel_rfl) Tryd.func8 (by kernel_rfl)
    (of_decide_eq_true (by kernel_rfl)) (by unfold Func.isWrapper; first | (rw [if_pos (by decide +kernel)]; kernel_rfl) | (rw [if_neg (by decide +kernel)]; exact ⟨rfl, rfl⟩))
    (fun os started H enc _ F => by rw [OpenClaim.pre_eq_preRow]; exact lifted os started H enc F)
theorem plain (f : FuncId) (fn : Func) (hf : Tryd.pinned.checked.prog.funcNamed "given.example/pub-budwood/laws.FnRangeHyphen" = some f) (hfn : Tryd.pinned.checked.prog.funcs[f]? = some fn) :
    true = Tryd.pinned.checked.prog.looks [] ∧ ∀ (j : Nat) t, fn.params[j]? = some t → Tryd.pinned.checked.prog.wantsStandIn t = false := by
  obtain rfl : f = 8 := Option.some.inj ((show Tryd.prog.funcNamed "given.example/pub-budwood/laws.FnRangeHyphen" = some 8 by kernel_rfl).symm.trans hf) |>.symm
  obtain rfl : fn = Tryd.f8 := (Option.some.inj (Tryd.func8.symm.trans hfn)).symm
  refine ⟨by kernel_rfl, fun j t ht => ?_⟩
  rw [Tryd.params8] at ht
  have hm := Array.mem_of_getElem? ht
  simp only [List.mem_toArray, List.mem_cons, List.not_mem_nil, or_false] at hm
  rcases hm with rfl | rfl | rfl | rfl | rfl | rfl | rfl | rfl | rfl
  · exact (show Tryd.prog.wantsStandIn 41 = false by kernel_rfl)
  · exact (show Tryd.prog.wantsStandIn 41 = false by kernel_rfl)
  · exact (show Tryd.prog.wantsStandIn 41 = false by kernel_rfl)
  · exact (show Tryd.prog.wantsStandIn 41 = false by kernel_rfl)
  · exact (show Tryd.prog.wantsStandIn 41 = false by kernel_rfl)
  · exact (show Tryd.prog.wantsStandIn 41 = false by kernel_rfl)
  · exact (show Tryd.prog.wantsStandIn 41 = false by kernel_rfl)
  · exact (show Tryd.prog.wantsStandIn 41 = false by kernel_rfl)
  · exact (show Tryd.prog.wantsStandIn 41 = false by kernel_rfl)
theorem card : Rows.FnRangeHyphenCardSaid :=
  Claim7.holds_tied_plain_at .later [] _ _ _ _ said (fun _ h => by cases h) (by kernel_rfl) (fun _ h => by cases h) fnRangeHyphen_row_tie rfl ⟨rfl, rfl⟩ (by kernel_rfl) rfl plain (by kernel_rfl)
#print axioms card
end Go.Proofs.YtlhijjfbcgconaaDoor.fnRangeHyphen
namespace Go.Proofs.YtlhijjfbcgconaaDoor
/-- The card, under a short name, for the claim. -/
theorem fnRangeHyphen_card : Rows.FnRangeHyphenCardSaid := fnRangeHyphen.card
end Go.Proofs.YtlhijjfbcgconaaDoor

