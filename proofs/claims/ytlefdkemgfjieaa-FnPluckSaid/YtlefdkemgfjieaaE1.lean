/- spec.At; what a map of values answers for a key. -/
import Derived.Test.YtlefdkemgfjieaaT2
import Derived.Test.YtlefdkemgfjieaaQ2
set_option linter.unusedVariables false
set_option linter.unusedSimpArgs false
namespace Go.Proofs.Ytlefdkemgfjieaa.P
open Go.RowKit Go.Proofs.YtlefdkemgfjieaaW.PrintWords Go.Proofs.YtlefdkemgfjieaaW.PrintLast Go.Proofs.YtlefdkemgfjieaaW.PrintMore

/-- What At answers. -/
def AtOk (ks : List ByteArray) (key : ByteArray) (r : Int × Bool) : Prop := (r.2 = true → ∃ i : Nat, r.1 = (i : Int) ∧ i < ks.length ∧ rdOf ByteArray.empty ks (i : Int) = key) ∧ (r.2 = false → ∀ j, j < ks.length → rdOf ByteArray.empty ks (j : Int) ≠ key)
theorem bytes_eq {a b : ByteArray} (h : a.toList = b.toList) : a = b := by
  rw [ByteArray.toList_eq, ByteArray.toList_eq] at h
  cases a; cases b
  simp at h
  cases h
  rfl
theorem ascend_get {ks : List ByteArray} (h : Ascend ks) {i j : Nat} (hij : i < j) (hj : j < ks.length) : Op.bytesLess (rdOf ByteArray.empty ks (i : Int)).toList (rdOf ByteArray.empty ks (j : Int)).toList = true := by
  unfold Ascend at h
  rw [List.pairwise_iff_getElem] at h
  have := h i j (by omega) hj hij
  rw [ByteArray.toList_eq, ByteArray.toList_eq]
  simpa [rdOf, show i < ks.length by omega, hj] using this
theorem At_tot (x : S26) (key : ByteArray) (hA : Ascend x.f4) (hl : x.f4.length ≤ 1000) : Tot (fun k => spec_At.f k x.f0 x.f1 x.f2 x.f3 x.f4 x.f5 key) (AtOk x.f4 key) := by
  have loop : ∀ m i : Nat, x.f4.length - i = m → i ≤ x.f4.length → (∀ j, j < i → Op.bytesLess (rdOf ByteArray.empty x.f4 (j : Int)).toList key.toList = true) → Tot (fun k => spec_At.l0 k key (i : Int) x.f0 x.f1 x.f2 x.f3 x.f4 x.f5) (AtOk x.f4 key) := by
    intro m
    induction m with
    | zero =>
      intro i hm hi hp
      refine Tot.step (fun k => by rw [spec_At.l0]) ?_
      refine Tot.ite (fun h => absurd h (by omega)) (fun _ => Tot.ret ⟨(fun h => by cases h), fun _ j hj he => ?_⟩)
      exact less_ne (hp j (by omega)) (by rw [he])
    | succ m ihm =>
      intro i hm hi hp
      refine Tot.step (fun k => by rw [spec_At.l0]) ?_
      refine Tot.ite (fun _ => Tot.ite (fun _ => Tot.ite (fun h => ?_) (fun h => Tot.ret ⟨fun hb => ⟨i, rfl, by omega, bytes_eq (eq_of_beq hb)⟩, fun hb j hj he => ?_⟩)) (fun h => absurd h (by omega))) (fun h => absurd h (by omega))
      · rw [wrap_of (x := (i : Int) + 1) (by omega) (by omega)]
        exact ihm (i + 1) (by omega) (by omega) (fun j hj => by
          by_cases hji : j < i
          · exact hp j hji
          · have : j = i := by omega
            subst this
            exact h)
      · rcases Nat.lt_trichotomy j i with hji | hji | hji
        · exact less_ne (hp j hji) (by rw [he])
        · subst hji
          simp at hb
          exact hb (by rw [he])
        · have := ascend_get hA hji hj
          rw [he] at this
          exact h this
  unfold spec_At.f
  exact loop _ 0 rfl (Nat.zero_le _) (fun j hj => absurd hj (by omega))
/-- What the map answers. -/
theorem look_dict {w : World} {b m : Nat} {ks : List ByteArray} {vs : List Value} {key : ByteArray} (ho : w.ownsMap Try.prog 9 rawR b m (.map (pairsOf ks vs))) (hl : ks.length = vs.length) (hA : Ascend ks) (hk : key.size ≤ 300) {r : Int × Bool} (hr : AtOk ks key r) :
    ∃ v, (Instr.lookup 68 (.map (some b)) (.string key) true).run Try.prog w = .ok (.tuple #[v, .bool r.2]) w ∧ (∀ i : Nat, r.2 = true → r.1 = (i : Int) → i < ks.length ∧ v = vs.getD i .nilIface) := by
  obtain ⟨v, ps, hrun, hv⟩ := ho.look_ok (Maps.string_keyed (P := Try.prog) Try.underlying9) Try.underlying68 (z := .nilIface) (by kernel_rfl) (zd := .held .nilIface) rfl (WideMaps.keyOf_string_mk (P := Try.prog) Try.underlying9 (s := key) (by unfold maxLen; omega))
  have hhas : Maps.has (DataW.map (pairsOf ks vs)) (.string key.data.toList) = r.2 := by
    cases hb : r.2 with
    | true =>
      obtain ⟨i, -, hi, he⟩ := hr.1 hb
      rw [has_pairs ks vs hl]
      refine List.mem_map.2 ⟨ks[i], List.getElem_mem hi, ?_⟩
      have : ks[i] = key := by simpa [rdOf, hi] using he
      rw [this]
    | false =>
      have hn := hr.2 hb
      cases hc : Maps.has (DataW.map (pairsOf ks vs)) (.string key.data.toList) with
      | false => rfl
      | true =>
        rw [has_pairs ks vs hl] at hc
        obtain ⟨q, hq, he⟩ := List.mem_map.1 hc
        obtain ⟨j, hj, rfl⟩ := List.getElem_of_mem hq
        refine absurd ?_ (hn j hj)
        have : ks[j] = key := bytes_eq (by rw [ByteArray.toList_eq, ByteArray.toList_eq]; exact he)
        simpa [rdOf, hj] using this
  rw [hhas] at hrun
  refine ⟨v, hrun, fun i hb hi => ?_⟩
  obtain ⟨i', h1, h2, h3⟩ := hr.1 hb
  have : i' = i := by omega
  subst this
  refine ⟨h2, ?_⟩
  have h4 : ks[i'] = key := by simpa [rdOf, h2] using h3
  rw [← h4, atKey_pairs ks vs hl hA i' h2] at hv
  have h5 : DataW.held v = .held (vs.getD i' .nilIface) := congrArg Prod.fst (Option.some.inj hv)
  injection h5
end Go.Proofs.Ytlefdkemgfjieaa.P
