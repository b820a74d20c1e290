-- WRITTEN by xprint.py (a program of this session, over the kit's print) out of the translation. Not trusted: Lean checks it.
import Derived.Test.YtbcccmoddbmffaaDoorCards
import Derived.Test.YtbcccmoddbmffaaDoorTie
import Derived.Test.YtbcccmoddbmffaaDoorPx7
import Derived.Test.YtbcccmoddbmffaaDoorPureFnWordsIn
import Derived.WalkKit
import Derived.Deep.DeepHandedRow
import Derived.Deep.DeepWitnessRowRef
import Derived.Deep.DeepLaidRun
import Derived.SevenTiedPlain
import Derived.SevenTiedAt
import Derived.Lib.LaidIn
import Derived.Lib.LaidRTabT
import Derived.Lib.LaidU8
import Derived.PinnedBridge
import Derived.ProofKit
import Derived.OpenShut
import Derived.ShutString
import Derived.ChangeOld
import Derived.Below
import Derived.SizedLaws
namespace Go.Proofs.YtbcccmoddbmffaaDoor.fnWordsIn
open Go.ChangeShapes Go.WideShapes Go.ChangeAt Go.RowKit
open Go.ChangeMaps (open_string shut_string)
set_option linter.unusedVariables false
theorem own : ownKnob Tryd.prog.godebug = none := by kernel_rfl
/-- A WORLD FOR THE WITNESS: the settled one, the listed variables holding what their initialisers lay. -/
noncomputable def laidWorld (os : Os) : World :=
  let N := (World.settled Tryd.prog os).heap.size
  let w0 := World.holding Tryd.prog os ⟨#[.cells ((Lib.rgCells .u16 Lib.letterT.r16)) 119, .cells ((Lib.rgCells .u32 Lib.letterT.r32)) 122, .cells #[.slice (some ⟨N + 0, 0, none⟩) Lib.letterT.r16.size Lib.letterT.r16.size, .slice (some ⟨N + 1, 0, none⟩) Lib.letterT.r32.size Lib.letterT.r32.size, .int .i64 Lib.letterT.off] 116], #[], []⟩
  let put (h : Array Obj) (g : Nat) (cs : Array Value) : Array Obj := h.modify g fun
    | .cells _ t frozen => .cells cs t frozen
    | o => o
  let h1 := put w0.heap 1 #[.int .u8 128, .int .u8 191, .int .u8 160, .int .u8 191, .int .u8 128, .int .u8 159, .int .u8 144, .int .u8 191, .int .u8 128, .int .u8 143, .int .u8 0, .int .u8 0, .int .u8 0, .int .u8 0, .int .u8 0, .int .u8 0, .int .u8 0, .int .u8 0, .int .u8 0, .int .u8 0, .int .u8 0, .int .u8 0, .int .u8 0, .int .u8 0, .int .u8 0, .int .u8 0, .int .u8 0, .int .u8 0, .int .u8 0, .int .u8 0, .int .u8 0, .int .u8 0]
  let h2 := put h1 2 #[.int .u8 1, .int .u8 1, .int .u8 1, .int .u8 1, .int .u8 1, .int .u8 1, .int .u8 1, .int .u8 1, .int .u8 1, .int .u8 1, .int .u8 1, .int .u8 1, .int .u8 1, .int .u8 1, .int .u8 1, .int .u8 1, .int .u8 1, .int .u8 1, .int .u8 1, .int .u8 1, .int .u8 1, .int .u8 1, .int .u8 1, .int .u8 1, .int .u8 1, .int .u8 1, .int .u8 1, .int .u8 1, .int .u8 1, .int .u8 1, .int .u8 1, .int .u8 1, .int .u8 144, .int .u8 130, .int .u8 130, .int .u8 130, .int .u8 136, .int .u8 130, .int .u8 130, .int .u8 130, .int .u8 130, .int .u8 130, .int .u8 130, .int .u8 136, .int .u8 130, .int .u8 130, .int .u8 130, .int .u8 130, .int .u8 132, .int .u8 132, .int .u8 132, .int .u8 132, .int .u8 132, .int .u8 132, .int .u8 132, .int .u8 132, .int .u8 132, .int .u8 132, .int .u8 130, .int .u8 130, .int .u8 136, .int .u8 136, .int .u8 136, .int .u8 130, .int .u8 130, .int .u8 160, .int .u8 160, .int .u8 160, .int .u8 160, .int .u8 160, .int .u8 160, .int .u8 160, .int .u8 160, .int .u8 160, .int .u8 160, .int .u8 160, .int .u8 160, .int .u8 160, .int .u8 160, .int .u8 160, .int .u8 160, .int .u8 160, .int .u8 160, .int .u8 160, .int .u8 160, .int .u8 160, .int .u8 160, .int .u8 160, .int .u8 160, .int .u8 160, .int .u8 160, .int .u8 130, .int .u8 130, .int .u8 130, .int .u8 136, .int .u8 130, .int .u8 136, .int .u8 192, .int .u8 192, .int .u8 192, .int .u8 192, .int .u8 192, .int .u8 192, .int .u8 192, .int .u8 192, .int .u8 192, .int .u8 192, .int .u8 192, .int .u8 192, .int .u8 192, .int .u8 192, .int .u8 192, .int .u8 192, .int .u8 192, .int .u8 192, .int .u8 192, .int .u8 192, .int .u8 192, .int .u8 192, .int .u8 192, .int .u8 192, .int .u8 192, .int .u8 192, .int .u8 130, .int .u8 136, .int .u8 130, .int .u8 136, .int .u8 1, .int .u8 1, .int .u8 1, .int .u8 1, .int .u8 1, .int .u8 1, .int .u8 1, .int .u8 1, .int .u8 1, .int .u8 1, .int .u8 1, .int .u8 1, .int .u8 1, .int .u8 1, .int .u8 1, .int .u8 1, .int .u8 1, .int .u8 1, .int .u8 1, .int .u8 1, .int .u8 1, .int .u8 1, .int .u8 1, .int .u8 1, .int .u8 1, .int .u8 1, .int .u8 1, .int .u8 1, .int .u8 1, .int .u8 1, .int .u8 1, .int .u8 1, .int .u8 1, .int .u8 16, .int .u8 130, .int .u8 136, .int .u8 136, .int .u8 136, .int .u8 136, .int .u8 136, .int .u8 130, .int .u8 136, .int .u8 136, .int .u8 224, .int .u8 130, .int .u8 136, .int .u8 0, .int .u8 136, .int .u8 136, .int .u8 136, .int .u8 136, .int .u8 132, .int .u8 132, .int .u8 136, .int .u8 192, .int .u8 130, .int .u8 130, .int .u8 136, .int .u8 132, .int .u8 224, .int .u8 130, .int .u8 132, .int .u8 132, .int .u8 132, .int .u8 130, .int .u8 160, .int .u8 160, .int .u8 160, .int .u8 160, .int .u8 160, .int .u8 160, .int .u8 160, .int .u8 160, .int .u8 160, .int .u8 160, .int .u8 160, .int .u8 160, .int .u8 160, .int .u8 160, .int .u8 160, .int .u8 160, .int .u8 160, .int .u8 160, .int .u8 160, .int .u8 160, .int .u8 160, .int .u8 160, .int .u8 160, .int .u8 136, .int .u8 160, .int .u8 160, .int .u8 160, .int .u8 160, .int .u8 160, .int .u8 160, .int .u8 160, .int .u8 192, .int .u8 192, .int .u8 192, .int .u8 192, .int .u8 192, .int .u8 192, .int .u8 192, .int .u8 192, .int .u8 192, .int .u8 192, .int .u8 192, .int .u8 192, .int .u8 192, .int .u8 192, .int .u8 192, .int .u8 192, .int .u8 192, .int .u8 192, .int .u8 192, .int .u8 192, .int .u8 192, .int .u8 192, .int .u8 192, .int .u8 192, .int .u8 136, .int .u8 192, .int .u8 192, .int .u8 192, .int .u8 192, .int .u8 192, .int .u8 192, .int .u8 192, .int .u8 192]
  let h3 := put h2 3 #[.pointer (some ⟨N + 2, 0, none⟩)]
  let h4 := put h3 0 ((Lib.firstTab.map (Value.int .u8)).toArray)
  { w0 with heap := h4 }
set_option maxRecDepth 100000 in
theorem laid_in0 (os : Os) : LaidIn Tryd.prog ((laidWorld os).forCall (fun _ _ => 0) ⟨#[], #[.string ByteArray.empty], []⟩).memory [("unicode/utf8.acceptRanges", Rows.laid_unicode_utf8_acceptRanges), ("unicode.properties", Rows.laid_unicode_properties)] [1, 2] :=
  LaidIn.of_run _ 12 (by kernel_rfl) (by kernel_rfl) (by kernel_rfl) (by kernel_rfl)
set_option maxRecDepth 100000 in
theorem laid_in1 (os : Os) : LaidIn Tryd.prog ((laidWorld os).forCall (fun _ _ => 0) ⟨#[], #[.string ByteArray.empty], []⟩).memory [("unicode.Letter", Lib.rtabData Lib.letterT)] [3, (World.settled Tryd.prog os).heap.size + 2, (World.settled Tryd.prog os).heap.size + 0, (World.settled Tryd.prog os).heap.size + 1] :=
  laidIn_rtabT (ρ := Tryd.lays261_ren) (RTypes.of261 Tryd.lays261) ⟨by kernel_rfl, by kernel_rfl, by kernel_rfl, by kernel_rfl, by kernel_rfl, by kernel_rfl, by kernel_rfl, by kernel_rfl⟩ (by kernel_rfl) (by kernel_rfl) Lib.letterT ((World.settled Tryd.prog os).heap.size + 2) ((World.settled Tryd.prog os).heap.size + 0) ((World.settled Tryd.prog os).heap.size + 1) 119 122
    (by kernel_rfl) (by kernel_rfl) (by kernel_rfl) (by kernel_rfl) (of_decide_eq_true (by kernel_rfl)) (of_decide_eq_true (by kernel_rfl)) (of_decide_eq_true (by kernel_rfl)) (of_decide_eq_true (by kernel_rfl))
set_option maxRecDepth 100000 in
theorem laid_in2 (os : Os) : LaidIn Tryd.prog ((laidWorld os).forCall (fun _ _ => 0) ⟨#[], #[.string ByteArray.empty], []⟩).memory [("unicode/utf8.first", Rows.laid_unicode_utf8_first)] [0] :=
  LaidIn.of_run _ 12 (by kernel_rfl) (by kernel_rfl) (by kernel_rfl) (by kernel_rfl)
set_option maxRecDepth 100000 in
theorem laid_met (os : Os) : laidMet Tryd.prog Rows.fnWordsInRow.laid ((laidWorld os).forCall (fun _ _ => 0) ⟨#[], #[.string ByteArray.empty], []⟩).memory := by
  have h := (((laid_in0 os).append (laid_in1 os) (by kernel_rfl)).append (laid_in2 os) (by kernel_rfl)).met
  rw [← Pinned.letter_eq] at h
  exact h
theorem witness_row (os : Os) {H : Type} (enc : TypeId × Value → H) :
    (OpenSpec.ofChange Rows.fnWordsInSpec).preRow enc Tryd.prog Tryd.f8 Rows.fnWordsInRow.domain false Rows.fnWordsInRow.laid ((laidWorld os).forCall (fun _ _ => 0) ⟨#[], #[.string ByteArray.empty], []⟩).memory #[.string ByteArray.empty] := by
  have hw : (DataW.whole enc Tryd.prog ((laidWorld os).forCall (fun _ _ => 0) ⟨#[], #[.string ByteArray.empty], []⟩).memory Tryd.f8.params.toList Rows.fnWordsInSpec.vars false (#[Value.string ByteArray.empty] : Array Value).toList 8).map (fun x => (x.1, x.2.1)) = some ([.lit (.string [])], []) := by kernel_rfl
  obtain ⟨⟨x1, x2, x3⟩, hx, hx1⟩ := Option.map_eq_some_iff.1 hw
  simp only [Prod.mk.injEq] at hx1
  obtain ⟨rfl, rfl⟩ := hx1
  exact OpenSpec.preRow_of_cond 8 hx (by kernel_rfl) (fun k hk => by cases hk) (by kernel_rfl) (laid_met os)
set_option maxRecDepth 100000 in
theorem lifted (os : Os) (started : os.Started) (H : Type) (enc : TypeId × Value → H) (F : Stop.Interp) :
    ReturnsInHanded {} Tryd.checked os 8 .any ((OpenSpec.ofChange Rows.fnWordsInSpec).preRow enc Tryd.prog Tryd.f8 Rows.fnWordsInRow.domain false Rows.fnWordsInRow.laid) (((OpenSpec.ofChange Rows.fnWordsInSpec).at F).post enc Tryd.prog Tryd.f8 false true false false) := by
  refine returnsInHanded_of_row (C := Tryd.checked) (s := OpenSpec.ofChange Rows.fnWordsInSpec) own started (by kernel_rfl) Tryd.func8
    (witness_row_atRef (enc := enc) (C := Tryd.checked) false (laidWorld os) #[.string ByteArray.empty] rfl (by kernel_rfl) (by kernel_rfl) (by kernel_rfl) (witness_row os enc)) ?_
  intro W base args ds gs before hval0 hW hcnd _ hsz0 hL _ _
  have hsz : (DataW.weightsEach Tryd.prog (Tryd.f8.params.toList ++ (OpenSpec.ofChange Rows.fnWordsInSpec).bare.plain.varTypes Tryd.prog) (ds ++ gs)).all (· ≤ reachBytes) = true := hsz0
  have hval : ∀ (j : Nat) t v, Tryd.f8.params[j]? = some t → args[j]? = some v → Value.okWide Tryd.prog W .any base t v := hval0
  have hW' := hW
  obtain ⟨p, q, hA0, hV, rfl, hfz, hnd⟩ := hW
  have hA : DataW.TrodAll enc Tryd.prog W 0 (fun _ => true) true Tryd.f8.params.toList args.toList ds p := hA0
  rw [Tryd.params8] at hA hval hsz
  obtain ⟨v0, vs0, d0, ds0, p0, q0, hargs, rfl, rfl, h0, r0⟩ := trodAll_cons hA
  obtain ⟨rfl, rfl, rfl⟩ := trodAll_nil r0
  obtain rfl : args = #[v0] := by cases args; simp_all
  obtain ⟨rfl, rfl⟩ := trodVars_none hV
  obtain ⟨a0, rfl, rfl, rfl, y0⟩ := open_string Tryd.underlying9 (hval 0 9 v0 rfl rfl) h0
  have w0 : a0.size ≤ 140737488351232 := by
    have z := sized_string hsz (j := 0) (t := 9) rfl rfl
    rw [Array.length_toList] at z
    exact z
  clear hA0 hval0 hsz0 hsz
  have HTP : P.TabsP W :=
    P.tabIs_of_reads (g := 2) (by kernel_rfl) (by kernel_rfl) Tryd.underlying95 Tryd.underlying5 (by kernel_rfl) (by kernel_rfl) (by
      have h := Lib.laidMet.reads hL (.tail _ (.head _))
      rw [show (Rows.laid_unicode_properties : DataW Unit) = Lib.tabData .u8 Lib.propertiesTab from by kernel_rfl] at h
      exact h)
  have HTU : P.TabsU W :=
    utf8Tabs_of_reads { Tryd.lays260 with } ⟨by kernel_rfl, by kernel_rfl, by kernel_rfl, by kernel_rfl, by kernel_rfl, by kernel_rfl, by kernel_rfl⟩ (by
      have h := Lib.laidMet.reads hL (.tail _ (.tail _ (.tail _ (.head _))))
      rw [show (Rows.laid_unicode_utf8_first : DataW Unit) = Lib.firstData from Pinned.utf8First_eq] at h
      exact h) (by
      have h := Lib.laidMet.reads hL (.head _)
      rw [show (Rows.laid_unicode_utf8_acceptRanges : DataW Unit) = Lib.acceptData from (by kernel_rfl)] at h
      exact h)
  refine (P.laws_FnWordsIn.walk Pure.FnWordsIn a0 W w0 HTP HTU).mono fun e W' ⟨he, bel⟩ => ?_
  subst he
  exact ⟨_, rfl, _, _, _, [], _, [], hW', trodAll_mk1 (shut_bool Tryd.underlying4 _), (trodAll_cons_mk (shut_string Tryd.underlying9 y0) trodAll_mk0), rfl, bel.frame _, fun h => by cases h⟩
theorem said : Rows.FnWordsInSaid :=
  OpenClaim.holds_of_cond 8 Tryd.f8 rfl rfl rfl rfl rfl rfl rfl ⟨rfl, rfl, rfl, rfl, rfl⟩ rfl rfl rfl rfl rfl (by kernel_rfl) Tryd.func8 (by kernel_rfl)
    (of_decide_eq_true (by kernel_rfl)) (by unfold Func.isWrapper; first | (rw [if_pos (by decide +kernel)]; kernel_rfl) | (rw [if_neg (by decide +kernel)]; exact ⟨rfl, rfl⟩))
    (fun os started H enc _ F => by rw [OpenClaim.pre_eq_preRow]; exact lifted os started H enc F)
theorem plain (f : FuncId) (fn : Func) (hf : Tryd.pinned.checked.prog.funcNamed "given.example/pub-budwood/laws.FnWordsIn" = some f) (hfn : Tryd.pinned.checked.prog.funcs[f]? = some fn) :
    false = Tryd.pinned.checked.prog.looks [] ∧ ∀ (j : Nat) t, fn.params[j]? = some t → Tryd.pinned.checked.prog.wantsStandIn t = false := by
  obtain rfl : f = 8 := Option.some.inj ((show Tryd.prog.funcNamed "given.example/pub-budwood/laws.FnWordsIn" = some 8 by kernel_rfl).symm.trans hf) |>.symm
  obtain rfl : fn = Tryd.f8 := (Option.some.inj (Tryd.func8.symm.trans hfn)).symm
  refine ⟨by kernel_rfl, fun j t ht => ?_⟩
  rw [Tryd.params8] at ht
  have hm := Array.mem_of_getElem? ht
  simp only [List.mem_toArray, List.mem_cons, List.not_mem_nil, or_false] at hm
  rcases hm with rfl
  · exact (show Tryd.prog.wantsStandIn 9 = false by kernel_rfl)
theorem card : Rows.FnWordsInCardSaid :=
  Claim7.holds_tied_plain_at .later [] _ _ _ _ said (fun _ h => by cases h) (by kernel_rfl) (fun _ h => by cases h) fnWordsIn_row_tie rfl ⟨rfl, rfl⟩ (by kernel_rfl) rfl plain (by kernel_rfl)
#print axioms card
end Go.Proofs.YtbcccmoddbmffaaDoor.fnWordsIn
namespace Go.Proofs.YtbcccmoddbmffaaDoor
/-- The card, under a short name, for the claim. -/
theorem fnWordsIn_card : Rows.FnWordsInCardSaid := fnWordsIn.card
end Go.Proofs.YtbcccmoddbmffaaDoor
