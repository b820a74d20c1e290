/- What the statements ask of texts (text9): whether texts are looked at is told; of those that are, the size is at most 500 and they are UTF-8. -/
import Derived.Test.YtbcccmoddbmffaaDoorPx2
namespace Go.Proofs.YtbcccmoddbmffaaDoor.Pure
open Go.RowKit Go.Proofs.YtbcccmoddbmffaaDoor.P Go.Proofs.YtbcccmoddbmffaaDoorW.PrintWords Go.Proofs.YtbcccmoddbmffaaDoorW.PrintLast

/-- A text is UTF-8: its code points, written anew, are the text, and none of them stands for a byte that is none. -/
def utf8 (s : ByteArray) : Prop := runesBytes (runesOf s) = s ∧ replGo s s.size 0 = false
instance (s : ByteArray) : Decidable (utf8 s) := by unfold utf8; exact inferInstance

theorem utf8_f (s : ByteArray) (h : s.size ≤ 500) : spec_UTF8.f s = some (decide (utf8 s)) := by
  unfold spec_UTF8.f spec_Points.f
  rw [if_pos (by omega)]
  simp only [Option.bind_some]
  by_cases hb : (runesBytes (runesOf s)).toList = s.toList
  · have hb' := toList_inj hb
    rw [if_pos hb]
    unfold spec_replaced.f
    rw [if_pos (by omega)]
    simp [utf8, hb']
  · rw [if_neg hb]
    have : ¬ utf8 s := fun hu => hb (by rw [hu.1])
    simp [this]

theorem text9_from (l : List ByteArray) (hlen : l.length ≤ 1000) (d : Nat) : ∀ i : Int, 0 ≤ i → i ≤ l.length → (l.length : Int) - i = d →
    ∃ b, Ev (fun k => laws_text9.l0 k l (l.length : Int) i) b ∧ (b = true → ∀ j : Nat, i ≤ j → j < l.length → (l.getD j ByteArray.empty).size ≤ 500 ∧ utf8 (l.getD j ByteArray.empty)) := by
  induction d with
  | zero =>
    intro i h0 h1 hd
    refine ⟨true, ?_, fun _ j h2 h3 => by omega⟩
    refine Ev.step (fun k => by rw [laws_text9.l0]) ?_
    exact Ev.neg (by omega) (Ev.ok _)
  | succ d ih =>
    intro i h0 h1 hd
    by_cases hb : ((rdOf ByteArray.empty l i).size : Int) > 500
    · refine ⟨false, ?_, fun h => by cases h⟩
      refine Ev.step (fun k => by rw [laws_text9.l0]) ?_
      exact Ev.pos (by omega) (Ev.pos (by omega) (Ev.pos (by omega) (Ev.pos hb (Ev.ok _))))
    · have hu := utf8_f (rdOf ByteArray.empty l i) (by omega)
      by_cases hv : utf8 (rdOf ByteArray.empty l i)
      · obtain ⟨b, e, hb'⟩ := ih (i + 1) (by omega) (by omega) (by omega)
        refine ⟨b, ?_, fun h j h2 h3 => ?_⟩
        · refine Ev.step (fun k => by rw [laws_text9.l0, hu, decide_eq_true hv]) ?_
          refine Ev.pos (by omega) (Ev.pos (by omega) (Ev.pos (by omega) (Ev.neg hb (Ev.bind (Ev.ok _) (Ev.pos rfl ?_)))))
          rw [step64 h0 (n := l.length) (by omega) (by omega)]
          exact e
        · by_cases hj : (j : Int) = i
          · have : i.toNat = j := by omega
            unfold rdOf at hb hv
            rw [this] at hb hv
            exact ⟨by omega, hv⟩
          · exact hb' h j (by omega) h3
      · refine ⟨false, ?_, fun h => by cases h⟩
        refine Ev.step (fun k => by rw [laws_text9.l0, hu, decide_eq_false hv]) ?_
        exact Ev.pos (by omega) (Ev.pos (by omega) (Ev.pos (by omega) (Ev.neg hb (Ev.bind (Ev.ok _) (Ev.neg Bool.false_ne_true (Ev.ok _))))))

theorem text9_tells (l : List ByteArray) (hlen : l.length ≤ 1000) : ∃ b, Ev (fun k => laws_text9.f k l) b ∧ (b = true → ∀ s ∈ l, s.size ≤ 500 ∧ utf8 s) := by
  obtain ⟨b, e, h⟩ := text9_from l hlen _ 0 (by omega) (by omega) rfl
  refine ⟨b, e, fun hb s hs => ?_⟩
  obtain ⟨j, hj, rfl⟩ := List.getElem_of_mem hs
  have := h hb j (by omega) hj
  rwa [List.getD_eq_getElem?_getD, List.getElem?_eq_getElem hj, Option.getD_some] at this

end Go.Proofs.YtbcccmoddbmffaaDoor.Pure
