/- The row of FnSemverNext. -/
import Derived.Test.YtlhijjfbcgconaaDoorCards
import Derived.Test.YtlhijjfbcgconaaDoorTie
import Derived.Test.YtlhijjfbcgconaaDoorZSnM
import Derived.WalkKit
import Derived.Deep.DeepHandedRow
import Derived.Deep.DeepWitnessRowRef
import Derived.Deep.DeepLaidRun
import Derived.SevenTiedPlain
import Derived.SevenTiedAt
import Derived.Lay
import Derived.ProofKit
import Derived.OpenShut
import Derived.ShutString
import Derived.ChangeOld
import Derived.Below
import Derived.SizedLaws
namespace Go.Proofs.YtlhijjfbcgconaaDoor.fnSemverNext
open Go.ChangeShapes Go.WideShapes Go.ChangeAt Go.RowKit
open Go.ChangeMaps (open_string shut_string)
set_option linter.unusedVariables false
theorem own : ownKnob Tryd.prog.godebug = none := by kernel_rfl
theorem laidOut : laidOutB Tryd.prog = true := by kernel_rfl
/-- A WORLD FOR THE WITNESS: the listed variables laid by the law. -/
noncomputable def laidWorld (os : Os) : World := World.laidAll Tryd.prog os Rows.fnSemverNextRow.laid
set_option maxRecDepth 100000 in
theorem laid_met (os : Os) : laidMet Tryd.prog Rows.fnSemverNextRow.laid ((laidWorld os).forCall (fun _ _ => 0) ⟨#[], #[.string ByteArray.empty, .int .u8 0], []⟩).memory :=
  laidMet_laidAll _ (by kernel_rfl) (by kernel_rfl)
theorem witness_row (os : Os) {H : Type} (enc : TypeId × Value → H) :
    (OpenSpec.ofChange Rows.fnSemverNextSpec).preRow enc Tryd.prog Tryd.f6 Rows.fnSemverNextRow.domain false Rows.fnSemverNextRow.laid ((laidWorld os).forCall (fun _ _ => 0) ⟨#[], #[.string ByteArray.empty, .int .u8 0], []⟩).memory #[.string ByteArray.empty, .int .u8 0] := by
  have hw : (DataW.whole enc Tryd.prog ((laidWorld os).forCall (fun _ _ => 0) ⟨#[], #[.string ByteArray.empty, .int .u8 0], []⟩).memory Tryd.f6.params.toList Rows.fnSemverNextSpec.vars false (#[Value.string ByteArray.empty, Value.int .u8 0] : Array Value).toList 8).map (fun x => (x.1, x.2.1)) = some ([.lit (.string []), .lit (.int .u8 0)], []) := by kernel_rfl
  obtain ⟨⟨x1, x2, x3⟩, hx, hx1⟩ := Option.map_eq_some_iff.1 hw
  simp only [Prod.mk.injEq] at hx1
  obtain ⟨rfl, rfl⟩ := hx1
  exact OpenSpec.preRow_of_cond 8 hx (by kernel_rfl) (fun k hk => by cases hk) (by kernel_rfl) (laid_met os)
set_option maxRecDepth 100000 in
theorem lifted (os : Os) (started : os.Started) (H : Type) (enc : TypeId × Value → H) (F : Stop.Interp) :
    ReturnsInHanded {} Tryd.checked os 6 .any ((OpenSpec.ofChange Rows.fnSemverNextSpec).preRow enc Tryd.prog Tryd.f6 Rows.fnSemverNextRow.domain false Rows.fnSemverNextRow.laid) (((OpenSpec.ofChange Rows.fnSemverNextSpec).at F).post enc Tryd.prog Tryd.f6 false true false false) := by
  refine returnsInHanded_of_row (C := Tryd.checked) (s := OpenSpec.ofChange Rows.fnSemverNextSpec) own started (by kernel_rfl) Tryd.func6
    (⟨laidWorld os, fun _ _ => 0, ⟨#[], #[.string ByteArray.empty, .int .u8 0], []⟩, World.laidAll_os _ _ _, World.shaped_of_ZipB (by kernel_rfl) (by kernel_rfl), rfl, (Input.okWide_of_okWideB (P := Tryd.prog) (w := (laidWorld os).forCall (fun _ _ => 0) ⟨#[], #[.string ByteArray.empty, .int .u8 0], []⟩) (f := 6) (i := ⟨#[], #[.string ByteArray.empty, .int .u8 0], []⟩) (by kernel_rfl)).2, witness_row os enc, by
      simp only [Assume.holds]
      exact ⟨by simp, by simp, fun _ => Modest.zero, by simp, by simp⟩⟩) ?_
  intro W base args ds gs before hval0 hW hcnd _ hsz0 hL _ _
  have hsz : (DataW.weightsEach Tryd.prog (Tryd.f6.params.toList ++ (OpenSpec.ofChange Rows.fnSemverNextSpec).bare.plain.varTypes Tryd.prog) (ds ++ gs)).all (· ≤ reachBytes) = true := hsz0
  have hval : ∀ (j : Nat) t v, Tryd.f6.params[j]? = some t → args[j]? = some v → Value.okWide Tryd.prog W .any base t v := hval0
  have hW' := hW
  obtain ⟨p, q, hA0, hV, rfl, hfz, hnd⟩ := hW
  have hA : DataW.TrodAll enc Tryd.prog W 0 (fun _ => true) true Tryd.f6.params.toList args.toList ds p := hA0
  rw [Tryd.params6] at hA hval hsz
  obtain ⟨v0, vs0, d0, ds0, p0, q0, hargs, rfl, rfl, h0, r0⟩ := trodAll_cons hA
  obtain ⟨v1, vs1, d1, ds1, p1, q1, rfl, rfl, rfl, h1, r1⟩ := trodAll_cons r0
  obtain ⟨rfl, rfl, rfl⟩ := trodAll_nil r1
  obtain rfl : args = #[v0, v1] := by cases args; simp_all
  obtain ⟨rfl, rfl⟩ := trodVars_none hV
  obtain ⟨s0, rfl, rfl, rfl, y0⟩ := open_string Tryd.underlying9 (hval 0 9 v0 rfl rfl) h0
  have w0 : s0.size ≤ 140737488351232 := by
    have z := sized_string hsz (j := 0) (t := 9) rfl rfl
    rw [Array.length_toList] at z
    exact z
  obtain ⟨i1, rfl, rfl, rfl, w1⟩ := open_int Tryd.underlying5 (hval 1 5 v1 rfl rfl) h1
  clear hA0 hval0 hsz0 hsz
  have HTE : P.TabsE W :=
    ⟨P.iface_of_reads (g := 2) (by kernel_rfl) (by kernel_rfl) Tryd.underlying55 (Lib.laidMet.reads hL (.tail _ (.tail _ (.tail _ (.tail _ (.head _)))))), P.iface_of_reads (g := 3) (by kernel_rfl) (by kernel_rfl) Tryd.underlying55 (Lib.laidMet.reads hL (.tail _ (.tail _ (.tail _ (.head _)))))⟩
  have HTW : P.TabsW W :=
    P.tabIs_of_readsW (g := 4) (by kernel_rfl) (by kernel_rfl) Tryd.underlying131 Tryd.underlying22 (by kernel_rfl) (by kernel_rfl) (by
      have h := Lib.laidMet.reads hL (.tail _ (.tail _ (.head _)))
      rw [show (Rows.laid_internal_strconv_uint64pow10 : DataW Unit) = Lib.tabData .u64 Lib.pow10Tab from by kernel_rfl] at h
      exact h)
  refine (P.fnSemverNext s0 i1 W w0 w1  HTE HTW).mono fun e W' ⟨he, bel⟩ => ?_
  subst he
  exact ⟨_, rfl, _, _, _, [], _, [], hW', trodAll_mk1 (shut_bool Tryd.underlying4 _), (trodAll_cons_mk (shut_string Tryd.underlying9 y0) (trodAll_cons_mk (shut_int Tryd.underlying5 w1) trodAll_mk0)), rfl, bel.frame _, fun h => by cases h⟩
theorem said : Rows.FnSemverNextSaid :=
  OpenClaim.holds_of_cond 6 Tryd.f6 rfl rfl rfl rfl rfl rfl rfl ⟨rfl, rfl, rfl, rfl, rfl⟩ rfl rfl rfl rfl rfl (by kernel_rfl) Tryd.func6 (by kernel_rfl)
    (of_decide_eq_true (by kernel_rfl)) (by unfold Func.isWrapper; first | (rw [if_pos (by decide +kernel)]; kernel_rfl) | (rw [if_neg (by decide +kernel)]; exact ⟨rfl, rfl⟩))
    (fun os started H enc _ F => by rw [OpenClaim.pre_eq_preRow]; exact lifted os started H enc F)
theorem plain (f : FuncId) (fn : Func) (hf : Tryd.pinned.checked.prog.funcNamed "given.example/pub-budwood/laws.FnSemverNext" = some f) (hfn : Tryd.pinned.checked.prog.funcs[f]? = some fn) :
    true = Tryd.pinned.checked.prog.looks [] ∧ ∀ (j : Nat) t, fn.params[j]? = some t → Tryd.pinned.checked.prog.wantsStandIn t = false := by
  obtain rfl : f = 6 := Option.some.inj ((show Tryd.prog.funcNamed "given.example/pub-budwood/laws.FnSemverNext" = some 6 by kernel_rfl).symm.trans hf) |>.symm
  obtain rfl : fn = Tryd.f6 := (Option.some.inj (Tryd.func6.symm.trans hfn)).symm
  refine ⟨by kernel_rfl, fun j t ht => ?_⟩
  rw [Tryd.params6] at ht
  have hm := Array.mem_of_getElem? ht
  simp only [List.mem_toArray, List.mem_cons, List.not_mem_nil, or_false] at hm
  rcases hm with rfl | rfl
  · exact (show Tryd.prog.wantsStandIn 9 = false by kernel_rfl)
  · exact (show Tryd.prog.wantsStandIn 5 = false by kernel_rfl)
theorem card : Rows.FnSemverNextCardSaid :=
  Claim7.holds_tied_plain_at .later [] _ _ _ _ said (fun _ h => by cases h) (by kernel_rfl) (fun _ h => by cases h) fnSemverNext_row_tie rfl ⟨rfl, rfl⟩ (by kernel_rfl) rfl plain (by kernel_rfl)
#print axioms card
end Go.Proofs.YtlhijjfbcgconaaDoor.fnSemverNext
namespace Go.Proofs.YtlhijjfbcgconaaDoor
/-- The card, under a short name, for the claim. -/
theorem fnSemverNext_card : Rows.FnSemverNextCardSaid := fnSemverNext.card
end Go.Proofs.YtlhijjfbcgconaaDoor

