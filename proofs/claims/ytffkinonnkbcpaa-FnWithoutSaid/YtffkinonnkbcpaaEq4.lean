/- zzEqual: two lists. -/
import Derived.Test.YtffkinonnkbcpaaEq3
set_option linter.unusedVariables false
set_option linter.unusedSimpArgs false
namespace Go.Proofs.Ytffkinonnkbcpaa.P
open Go.RowKit Go.Proofs.YtffkinonnkbcpaaW.PrintWords Go.Proofs.YtffkinonnkbcpaaW.PrintLast Go.Proofs.YtffkinonnkbcpaaW.PrintMore
attribute [local go_sem] run_store_float

set_option maxHeartbeats 3200000 in
set_option maxRecDepth 100000 in
theorem eqList_call {n : Nat} (hE : EqOk n) (l m : List S31) (p q : Value) (ok ok' : Nat → Prop) (w : World) (hl : ∀ i, i < l.length → rightN n (l.getD i z31) ∧ finN n (l.getD i z31)) (hm : ∀ i, i < m.length → rightN n (m.getD i z31)) (hb1 : l.length ≤ 1000) (hb2 : m.length ≤ 1000) (hp : RowOf (GoN n ok w) ok w l p) (hq : RowOf (GoN n ok' w) ok' w m q) :
    Calls Try.prog 47 #[.iface 43 p, .iface 43 q] w (BoolPost (l.length = m.length ∧ ∀ j, j < l.length → SameP n (m.getD j z31) (l.getD j z31)) w) := by
  obtain ⟨g1, c1, vs1, rfl, hg1, hvs1, ho1, hel1⟩ := hp
  obtain ⟨g2, c2, vs2, rfl, hg2, hvs2, ho2, hel2⟩ := hq
  have HGL1 := Lib.hid (ho1.lt g1 (by simp [Value.ownBlock])).2
  have HGL2 := Lib.hid (ho2.lt g2 (by simp [Value.ownBlock])).2
  have HL := Lib.hid hl
  have HM := Lib.hid hm
  have HEQ := Lib.hid hE
  have HO1 := Lib.hid ho1
  have HO2 := Lib.hid ho2
  have HE1 := Lib.hid hel1
  have HE2 := Lib.hid hel2
  have HVS1 := Lib.hid hvs1
  have HVS2 := Lib.hid hvs2
  have ta1 := shl_6 (.slice (some ⟨g1, 0, none⟩) l.length c1)
  have ta2 := shl_6 (.slice (some ⟨g2, 0, none⟩) m.length c2)
  have hn1 : ∀ W : World, (binOp BinOp.eql 43 (Value.slice (some ⟨g1, 0, none⟩) l.length c1) (Value.slice none 0 0)).run Try.prog W = .ok (.bool false) W := fun W => by kernel_rfl
  have hn2 : ∀ W : World, (binOp BinOp.eql 43 (Value.slice (some ⟨g2, 0, none⟩) m.length c2) (Value.slice none 0 0)).run Try.prog W = .ok (.bool false) W := fun W => by kernel_rfl
  clear hl hm hE ho1 ho2 hel1 hel2 hvs1 hvs2 hg1 hg2
  by_cases hn : l.length = m.length
  · have HN := Lib.hid hn
    have k1 : ((l.length : Int) == (m.length : Int)) = true := by simp [hn]
    have k2 : ((l.length : Int) != (m.length : Int)) = false := by simp [hn]
    clear hn
    go_enter Try.func47, Try.ntmps47
    go_wp2
    go_loopw [47] (fun i wr => ∃ k : Nat, i = .int .i64 k ∧ k ≤ l.length ∧ Hid (∀ j, j < k → SameP n (m.getD j z31) (l.getD j z31)) ∧ Hid (Below w.heap.size w wr)) (fun i _ => l.length - (intOf i).toNat)
    case atStart => exact ⟨0, rfl, Nat.zero_le _, Lib.hid (fun j hj => absurd hj (Nat.not_lt_zero _)), Lib.hid (Below.refl _ _)⟩
    case round =>
      obtain ⟨k, rfl, hk, hP, hB⟩ := hrel
      by_cases ck1 : k < l.length
      · have ck2 : k < m.length := by have := HN.out; omega
        have ci0 : (0 : Int) ≤ (k : Int) := by omega
        have ci1 : (k : Int) < (l.length : Int) := by omega
        have ci2 : (k : Int) < (m.length : Int) := by omega
        have hcell1 : wr.cell? ⟨g1, k, none⟩ = some (vs1.getD k .nilIface) := by
          have h1 : vs1[k]? = some (vs1.getD k .nilIface) := by rw [List.getD_eq_getElem?_getD, List.getElem?_eq_getElem (by rw [HVS1.out]; exact ck1)]; rfl
          have h2 := HO1.out.cells (g := g1) (by simp [Value.ownBlock]) k _ h1
          rw [Addr.add_lit, Nat.zero_add] at h2
          exact (hB.out.cell HGL1.out).trans h2
        have hcell2 : wr.cell? ⟨g2, k, none⟩ = some (vs2.getD k .nilIface) := by
          have h1 : vs2[k]? = some (vs2.getD k .nilIface) := by rw [List.getD_eq_getElem?_getD, List.getElem?_eq_getElem (by rw [HVS2.out]; exact ck2)]; rfl
          have h2 := HO2.out.cells (g := g2) (by simp [Value.ownBlock]) k _ h1
          rw [Addr.add_lit, Nat.zero_add] at h2
          exact (hB.out.cell HGL2.out).trans h2
        have hgo1 := HE1.out k ck1
        have hgo2 := HE2.out k ck2
        have HID := Lib.hid (fun (W : World) (hb : Below w.heap.size w W) => HEQ.out _ _ _ _ ok ok' W (HL.out k ck1).1 (HM.out k ck2) (HL.out k ck1).2 (hgo1.below hb) (hgo2.below hb))
        clear hgo1 hgo2
        generalize vs1.getD k .nilIface = a at *
        generalize vs2.getD k .nilIface = b at *
        have HWd := Lib.hid (show Below w.heap.size w wr.drew from hB.out.drew)
        clear hB
        go_upto_region 10 with fail
        refine start_ (n := 10) (ds := []) (S := fun w' => w'.cell? ⟨g1, k, none⟩ = some a ∧ w'.cell? ⟨g2, k, none⟩ = some b) #[false, false, false, false, false, false, false, false, false, false] (by kernel_rfl) rfl rfl ((⟨hcell1, hcell2⟩ : wr.drew.cell? _ = _ ∧ wr.drew.cell? _ = _)) (fun hHeld => ?_)
        clear hcell1 hcell2
        generalize wr.drew = y0 at *
        refine pure_ (i := 0) (N := some 50) (v := ?_) (a' := ?_) #[true, false, false, false, false, false, false, false, false, false] rfl rfl (by kernel_rfl) (fun _ _ _ h => h) (Or.inl ⟨by rfl, ?_⟩) ?_ ?_
        rotate_left; (intro w'; go_simp; with_reducible rfl)
        rotate_left; (go_frame; rfl)
        refine pure_ (i := 1) (N := some 51) (v := ?_) (a' := ?_) #[true, true, false, false, false, false, false, false, false, false] rfl rfl (by kernel_rfl) (fun _ _ _ h => h) (Or.inl ⟨by rfl, ?_⟩) ?_ ?_
        rotate_left; (intro w'; go_simp; with_reducible rfl)
        rotate_left; (go_frame; rfl)
        refine pure_ (i := 2) (N := some 52) (v := ?_) (a' := ?_) #[true, true, true, false, false, false, false, false, false, false] rfl rfl (by kernel_rfl) (fun _ _ _ h => h) (Or.inl ⟨by rfl, ?_⟩) ?_ ?_
        rotate_left; (intro w'; go_simp; with_reducible rfl)
        rotate_left; (go_frame; rfl)
        refine pure_ (i := 4) (N := some 54) (v := ?_) (a' := ?_) #[true, true, true, false, true, false, false, false, false, false] rfl rfl (by kernel_rfl) (fun _ _ _ h => h) (Or.inl ⟨by rfl, ?_⟩) ?_ ?_
        rotate_left; (intro w'; go_simp; with_reducible rfl)
        rotate_left; (go_frame; rfl)
        refine pure_ (i := 5) (N := some 55) (v := ?_) (a' := ?_) #[true, true, true, false, true, true, false, false, false, false] rfl rfl (by kernel_rfl) (fun _ _ _ h => h) (Or.inl ⟨by rfl, ?_⟩) ?_ ?_
        rotate_left; (intro w'; go_simp; with_reducible rfl)
        rotate_left; (go_frame; rfl)
        refine pure_ (i := 6) (N := some 56) (v := ?_) (a' := ?_) #[true, true, true, false, true, true, true, false, false, false] rfl rfl (by kernel_rfl) (fun _ _ _ h => h) (Or.inl ⟨by rfl, ?_⟩) ?_ ?_
        rotate_left; (intro w'; go_simp; with_reducible rfl)
        rotate_left; (go_frame; rfl)
        refine take_ (i := 3) (N := some 53) (v := ?_) (a' := ?_) #[true, true, true, true, true, true, true, false, false, false] rfl rfl (by kernel_rfl) (fun _ _ _ h => h) (Or.inl ⟨by rfl, ?_⟩) hHeld ?_ ?_
        rotate_left
        · intro w' hS
          obtain ⟨ql, _⟩ := hS
          go_simp
          with_reducible rfl
        rotate_left; (go_frame; rfl)
        refine take_ (i := 7) (N := some 57) (v := ?_) (a' := ?_) #[true, true, true, true, true, true, true, true, false, false] rfl rfl (by kernel_rfl) (fun _ _ _ h => h) (Or.inl ⟨by rfl, ?_⟩) hHeld ?_ ?_
        rotate_left
        · intro w' hS
          obtain ⟨_, ql⟩ := hS
          go_simp
          with_reducible rfl
        rotate_left; (go_frame; rfl)
        have HQ := Lib.hid hHeld
        refine one_ (i := 8) (N := some 58) #[true, true, true, true, true, true, true, true, true, false] rfl rfl (by kernel_rfl) (by decide) (fun K hK => ?_)
        refine goes_ Try.func47 (by kernel_rfl) rfl #[a, b] (by rfl) rfl rfl (by (try simp only [List.map_toArray, List.map_cons, List.map_nil]); first | done | rfl) ?_
        refine (HID.out y0 HWd.out).mono ?_
        rintro e y1 ⟨r, rfl, hr, hb⟩
        have HRR := Lib.hid hr
        have hkeep : y1.cell? ⟨g1, k, none⟩ = some a ∧ y1.cell? ⟨g2, k, none⟩ = some b := ⟨(hb.cell (p := ⟨g1, k, none⟩) (Nat.lt_of_lt_of_le HGL1.out HWd.out.size)).trans HQ.out.1, (hb.cell (p := ⟨g2, k, none⟩) (Nat.lt_of_lt_of_le HGL2.out HWd.out.size)).trans HQ.out.2⟩
        have HWe := Lib.hid (HWd.out.trans (hb.mono HWd.out.size))
        clear hb hr HWd HID
        refine ⟨_, rfl, ?_⟩
        clear hHeld
        refine hK.out _ _ hkeep (fun hHeld => ?_)
        clear hK K
        refine norm_ (a' := ?_) ?_ ?_
        rotate_left
        · show Act.put _ (some 58) _ = _
          go_frame
          rfl
        refine pure_ (i := 9) (N := some 59) (v := ?_) (a' := ?_) #[true, true, true, true, true, true, true, true, true, true] rfl rfl (by kernel_rfl) (fun _ _ _ h => h) (Or.inl ⟨by rfl, ?_⟩) ?_ ?_
        rotate_left; (intro w'; go_simp; with_reducible rfl)
        rotate_left; (go_frame; rfl)
        refine done_ (by kernel_rfl) ?_
        clear hHeld HQ hkeep
        cases r with
        | false =>
          have HF := Lib.hid (show ¬ (l.length = m.length ∧ ∀ j, j < l.length → SameP n (m.getD j z31) (l.getD j z31)) from fun h => by have := HRR.out.2 (h.2 k ck1); cases this)
          clear HRR
          go_wp2
          go_ret
          exact ⟨false, rfl, ⟨(fun h => by cases h), fun h => absurd h HF.out⟩, HWe.out⟩
        | true =>
          have HP2 := Lib.hid (show ∀ j, j < k + 1 → SameP n (m.getD j z31) (l.getD j z31) from fun j hj => by
            by_cases hjk : j < k
            · exact hP.out j hjk
            · have : j = k := by omega
              subst this
              exact HRR.out.1 rfl)
          clear HRR hP
          go_wp2
          go_roundw
          case rel => exact ⟨k + 1, by go_num, by omega, HP2, HWe⟩
          case measure => simp [intOf]; omega
      · have hkn : k = l.length := by omega
        subst hkn
        have HT := Lib.hid (show l.length = m.length ∧ ∀ j, j < l.length → SameP n (m.getD j z31) (l.getD j z31) from ⟨HN.out, hP.out⟩)
        clear hP
        go_wp2
        go_ret
        exact ⟨true, rfl, ⟨fun _ => HT.out, fun _ => rfl⟩, hB.out⟩
  · have HNF := Lib.hid (show ¬ (l.length = m.length ∧ ∀ j, j < l.length → SameP n (m.getD j z31) (l.getD j z31)) from fun h => hn h.1)
    have k1 : ((l.length : Int) == (m.length : Int)) = false := by simpa using (show ¬ (l.length : Int) = m.length by omega)
    have k2 : ((l.length : Int) != (m.length : Int)) = true := by simpa using (show ¬ (l.length : Int) = m.length by omega)
    clear hn
    go_enter Try.func47, Try.ntmps47
    go_wp2
    go_ret
    exact ⟨false, rfl, ⟨(fun h => by cases h), fun h => absurd h HNF.out⟩, Below.refl _ _⟩
end Go.Proofs.Ytffkinonnkbcpaa.P
