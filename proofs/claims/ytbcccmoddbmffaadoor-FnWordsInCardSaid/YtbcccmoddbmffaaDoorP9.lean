/- What the statements ask of texts of ASCII (plain9): whether texts are looked at is told; of those that are, the size is at most 500 and each byte is below 128. -/
import Derived.Test.YtbcccmoddbmffaaDoorPx1
namespace Go.Proofs.YtbcccmoddbmffaaDoor.Pure
open Go.RowKit Go.Proofs.YtbcccmoddbmffaaDoor.P Go.Proofs.YtbcccmoddbmffaaDoorW.PrintWords Go.Proofs.YtbcccmoddbmffaaDoorW.PrintLast

theorem ascii_from (s : ByteArray) (hn : s.size ≤ 140737488351232) (d : Nat) : ∀ i : Int, 0 ≤ i → i ≤ s.size → (s.size : Int) - i = d →
    ∃ b, Ev (fun k => spec_ASCII.l0 k s i) b ∧ (b = true → ∀ j : Nat, i ≤ j → j < s.size → bt s j < 128) := by
  induction d with
  | zero =>
    intro i h0 h1 hd
    exact ⟨true, Ev.step (fun k => by rw [spec_ASCII.l0]) (Ev.neg (by omega) (Ev.ok _)), fun _ j h2 h3 => by omega⟩
  | succ d ih =>
    intro i h0 h1 hd
    by_cases hb : bt s i ≥ 128
    · exact ⟨false, Ev.step (fun k => by rw [spec_ASCII.l0]) (Ev.pos (by omega) (Ev.pos (by omega) (Ev.pos hb (Ev.ok _)))), fun h => by cases h⟩
    · obtain ⟨b, e, hb'⟩ := ih (i + 1) (by omega) (by omega) (by omega)
      refine ⟨b, Ev.step (fun k => by rw [spec_ASCII.l0]) (Ev.pos (by omega) (Ev.pos (by omega) (Ev.neg hb ?_))), fun h j h2 h3 => ?_⟩
      · rw [step64 h0 (by omega) hn]
        exact e
      · by_cases hj : (j : Int) = i
        · rw [hj]; omega
        · exact hb' h j (by omega) h3
theorem ascii_f (s : ByteArray) (hn : s.size ≤ 140737488351232) : ∃ b, Ev (fun k => spec_ASCII.f k s) b ∧ (b = true → ascii s) := by
  obtain ⟨b, e, h⟩ := ascii_from s hn _ 0 (by omega) (by omega) rfl
  exact ⟨b, e, fun hb i hi => h hb i (by omega) hi⟩

theorem plain9_from (l : List ByteArray) (hlen : l.length ≤ 1000) (d : Nat) : ∀ i : Int, 0 ≤ i → i ≤ l.length → (l.length : Int) - i = d →
    ∃ b, Ev (fun k => laws_plain9.l0 k l (l.length : Int) i) b ∧ (b = true → ∀ j : Nat, i ≤ j → j < l.length → (l.getD j ByteArray.empty).size ≤ 500 ∧ ascii (l.getD j ByteArray.empty)) := by
  induction d with
  | zero =>
    intro i h0 h1 hd
    exact ⟨true, Ev.step (fun k => by rw [laws_plain9.l0]) (Ev.neg (by omega) (Ev.ok _)), fun _ j h2 h3 => by omega⟩
  | succ d ih =>
    intro i h0 h1 hd
    by_cases hb : ((rdOf ByteArray.empty l i).size : Int) > 500
    · exact ⟨false, Ev.step (fun k => by rw [laws_plain9.l0]) (Ev.pos (by omega) (Ev.pos (by omega) (Ev.pos (by omega) (Ev.pos hb (Ev.ok _))))), fun h => by cases h⟩
    · obtain ⟨t, et, ht⟩ := ascii_f (rdOf ByteArray.empty l i) (by omega)
      cases t with
      | false =>
        refine ⟨false, ?_, fun h => by cases h⟩
        refine Ev.step (fun k => by rw [laws_plain9.l0]) ?_
        exact Ev.pos (by omega) (Ev.pos (by omega) (Ev.pos (by omega) (Ev.neg hb (Ev.bind et (Ev.neg Bool.false_ne_true (Ev.ok _))))))
      | true =>
        obtain ⟨b, e, hb'⟩ := ih (i + 1) (by omega) (by omega) (by omega)
        refine ⟨b, ?_, fun h j h2 h3 => ?_⟩
        · refine Ev.step (fun k => by rw [laws_plain9.l0]) ?_
          refine Ev.pos (by omega) (Ev.pos (by omega) (Ev.pos (by omega) (Ev.neg hb (Ev.bind et (Ev.pos rfl ?_)))))
          rw [step64 h0 (n := l.length) (by omega) (by omega)]
          exact e
        · by_cases hj : (j : Int) = i
          · have : i.toNat = j := by omega
            have ht' := ht rfl
            unfold rdOf at hb ht'
            rw [this] at hb ht'
            exact ⟨by omega, ht'⟩
          · exact hb' h j (by omega) h3

theorem plain9_tells (l : List ByteArray) (hlen : l.length ≤ 1000) : ∃ b, Ev (fun k => laws_plain9.f k l) b ∧ (b = true → ∀ s ∈ l, s.size ≤ 500 ∧ ascii s) := by
  obtain ⟨b, e, h⟩ := plain9_from l hlen _ 0 (by omega) (by omega) rfl
  refine ⟨b, e, fun hb s hs => ?_⟩
  obtain ⟨j, hj, rfl⟩ := List.getElem_of_mem hs
  have := h hb j (by omega) hj
  rwa [List.getD_eq_getElem?_getD, List.getElem?_eq_getElem hj, Option.getD_some] at this
end Go.Proofs.YtbcccmoddbmffaaDoor.Pure
