/- Plain words on maps of values and sorted keys. -/
import Derived.Test.YtffkinonnkbcpaaG5
import Derived.Maps.Views
import Derived.Sort.OwnSorted
set_option linter.unusedVariables false
set_option linter.unusedSimpArgs false
namespace Go.Proofs.Ytffkinonnkbcpaa.P
open Go.RowKit Go.Proofs.YtffkinonnkbcpaaW.PrintWords Go.Proofs.YtffkinonnkbcpaaW.PrintLast Go.Proofs.YtffkinonnkbcpaaW.PrintMore

/-- The keys as lists of bytes. -/
def keyLists (ks : List ByteArray) : List (List UInt8) := ks.map fun k => k.data.toList
theorem has_pairs : ∀ (ks : List ByteArray) (vs : List Value), ks.length = vs.length → ∀ s : List UInt8, Maps.has (.map (pairsOf ks vs)) (.string s) = true ↔ s ∈ keyLists ks
  | [], [], _, s => by simp [pairsOf, Maps.has, keyLists]
  | k :: ks, v :: vs, h, s => by
    have ih := has_pairs ks vs (by simpa using h) s
    simp only [Maps.has, keyLists] at ih
    simp only [pairsOf, Maps.has, List.any_cons, keyLists, List.map_cons, List.mem_cons, Bool.or_eq_true]
    rw [ih]
    constructor
    · rintro (h | h)
      · left; simp [Lit.sameKey] at h; exact h.symm
      · exact .inr h
    · rintro (h | h)
      · left; simp [Lit.sameKey, h]
      · exact .inr h
  | [], _ :: _, h, _ => by simp at h
  | _ :: _, [], h, _ => by simp at h
theorem atKey_pairs : ∀ (ks : List ByteArray) (vs : List Value), ks.length = vs.length → Ascend ks → ∀ (i : Nat) (hi : i < ks.length) (z : DataW Value), (DataW.map (pairsOf ks vs)).atKey (.string (ks[i]).data.toList) z = .held (vs.getD i .nilIface)
  | [], [], _, _, i, hi, z => by simp at hi
  | k :: ks, v :: vs, h, hA, 0, hi, z => by simp [pairsOf, DataW.atKey, Lit.sameKey]
  | k :: ks, v :: vs, h, hA, i + 1, hi, z => by
    have hi' : i < ks.length := by simpa using hi
    have ih := atKey_pairs ks vs (by simpa using h) (List.pairwise_cons.1 hA).2 i hi' z
    have hne : ¬ k.data.toList = (ks[i]).data.toList := less_ne ((List.pairwise_cons.1 hA).1 _ (List.getElem_mem hi'))
    simp only [DataW.atKey] at ih
    simp only [pairsOf, DataW.atKey, List.getElem_cons_succ, List.getD_cons_succ]
    rw [List.find?_cons_of_neg (by simp [Lit.sameKey]; exact fun h => hne (by rw [h]))]
    exact ih
  | [], _ :: _, h, _, _, _, _ => by simp at h
  | _ :: _, [], h, _, _, _, _ => by simp at h
theorem less_trans : ∀ {a b c : List UInt8}, Op.bytesLess a b = true → Op.bytesLess b c = true → Op.bytesLess a c = true
  | _, [], _, h, _ => by simp [Op.bytesLess] at h
  | _, _ :: _, [], _, h => by simp [Op.bytesLess] at h
  | [], _ :: _, _ :: _, _, _ => rfl
  | x :: a, y :: b, z :: c, h1, h2 => by
    simp only [Op.bytesLess, Bool.or_eq_true, Bool.and_eq_true, decide_eq_true_eq, beq_iff_eq] at *
    rcases h1 with h1 | ⟨rfl, h1⟩
    · rcases h2 with h2 | ⟨rfl, h2⟩
      · left; rw [UInt8.lt_iff_toNat_lt] at *; omega
      · exact .inl h1
    · rcases h2 with h2 | ⟨rfl, h2⟩
      · exact .inl h2
      · exact .inr ⟨rfl, less_trans h1 h2⟩
theorem less_iff_lt : ∀ {a b : List UInt8}, Op.bytesLess a b = true ↔ a < b
  | a, [] => by simp [Op.bytesLess]
  | [], y :: b => by simp [Op.bytesLess]
  | x :: a, y :: b => by
    have ih := @less_iff_lt a b
    simp only [Op.bytesLess, Bool.or_eq_true, Bool.and_eq_true, decide_eq_true_eq, beq_iff_eq, List.cons_lt_cons_iff, ih]
theorem le_less (a b : List UInt8) : decide (a ≤ b) = !Op.bytesLess b a := by
  rw [Bool.eq_iff_iff, decide_eq_true_eq, Bool.not_eq_true', ← Bool.not_eq_true, less_iff_lt]
  exact Iff.rfl
theorem sorted_keys {ks : List ByteArray} {ss : List (List UInt8)} (hA : Ascend ks) (hn : ss.Nodup) (hm : ∀ s, s ∈ ss ↔ s ∈ keyLists ks) : ss.mergeSort (fun x y => decide (x ≤ y)) = keyLists ks := by
  have hK : (keyLists ks).Pairwise fun a b => Op.bytesLess a b = true := List.pairwise_map.2 hA
  have hKn : (keyLists ks).Nodup := hK.imp (fun h => less_ne h)
  have hp : (ss.mergeSort fun x y => decide (x ≤ y)).Perm (keyLists ks) := (List.mergeSort_perm _ _).trans ((List.perm_ext_iff_of_nodup hn hKn).2 hm)
  refine List.Perm.eq_of_pairwise (le := fun a b => decide (a ≤ b) = true) ?_ ?_ ?_ hp
  · intro a b _ _ h1 h2
    rw [le_less] at h1 h2
    have := bytesLe_not a b
    simp only [Bool.not_eq_true'] at h1 h2
    rw [h1, h2] at this
    simpa using this
  · refine List.pairwise_mergeSort (le := fun x y => decide (x ≤ y)) ?_ ?_ ss
    · intro a b c h1 h2
      rw [le_less] at *
      rw [← bytesLe_not] at *
      simp only [Bool.or_eq_true, beq_iff_eq] at *
      rcases h1 with h1 | rfl
      · rcases h2 with h2 | rfl
        · exact .inl (less_trans h1 h2)
        · exact .inl h1
      · exact h2
    · intro a b
      rw [le_less, le_less]
      have := bytesLe_not a b
      cases h : Op.bytesLess b a
      · simp
      · simp [less_asymm h]
  · refine hK.imp (fun h => ?_)
    rw [le_less, less_asymm h]
    rfl
/-- Which keys have come. -/
def Came (ks : List ByteArray) (left : Lit → Bool) (ss : List (List UInt8)) : Prop :=
  ss.Nodup ∧ (∀ s, s ∈ ss ↔ (s ∈ keyLists ks ∧ left (.string s) = false)) ∧ ∀ s, left (.string s) = true → s ∈ keyLists ks
theorem Came.start {ks : List ByteArray} {vs : List Value} (h : ks.length = vs.length) : Came ks (Maps.has (.map (pairsOf ks vs))) [] := by
  refine ⟨List.nodup_nil, fun s => ?_, fun s hs => (has_pairs ks vs h s).1 hs⟩
  constructor
  · intro h; cases h
  · rintro ⟨h1, h2⟩
    rw [(has_pairs ks vs h s).2 h1] at h2
    cases h2
theorem Came.next {ks : List ByteArray} {left : Lit → Bool} {ss : List (List UInt8)} {s : List UInt8} (h : Came ks left ss) (hs : left (.string s) = true) : Came ks (fun z => left z && !z.sameKey (.string s)) (ss ++ [s]) := by
  obtain ⟨h1, h2, h3⟩ := h
  have hns : s ∉ ss := fun hm => by rw [((h2 s).1 hm).2] at hs; cases hs
  refine ⟨?_, fun t => ?_, fun t ht => h3 t (by simp at ht; exact ht.1)⟩
  · rw [List.nodup_append]
    exact ⟨h1, by simp, fun a ha b hb => by rw [List.mem_singleton.1 hb]; rintro rfl; exact hns ha⟩
  · rw [List.mem_append, List.mem_singleton, h2 t]
    simp only [Lit.sameKey]
    by_cases e : t = s
    · subst e
      simp [h3 t hs]
    · have e' : (t == s) = false := by simpa using e
      simp [e, e']
theorem Came.all {ks : List ByteArray} {left : Lit → Bool} {ss : List (List UInt8)} (h : Came ks left ss) (hl : ∀ z, left z = false) : ss.Nodup ∧ ∀ s, s ∈ ss ↔ s ∈ keyLists ks :=
  ⟨h.1, fun s => by rw [h.2.1 s, hl]; simp⟩
theorem Came.length_le {ks : List ByteArray} {left : Lit → Bool} {ss : List (List UInt8)} (h : Came ks left ss) : ss.length ≤ ks.length := by
  have := List.Nodup.length_le_of_subset h.1 (l₂ := keyLists ks) (fun s hs => ((h.2.1 s).1 hs).1)
  simpa [keyLists] using this
theorem enc_keys (ks : List ByteArray) : (keyLists ks).map encStr = ks.map Value.string := by
  simp [keyLists, encStr]
end Go.Proofs.Ytffkinonnkbcpaa.P
