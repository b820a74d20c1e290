-- WRITTEN by xprint.py (a program of this session, over the kit's print) out of the translation. Not trusted: Lean checks it.
import Derived.Test.YtgjcejgcljjdhaaGreatDoorPx0
namespace Go.Proofs.YtgjcejgcljjdhaaGreatDoor.P
open Go.RowKit Go.Proofs.YtgjcejgcljjdhaaGreatDoorW.PrintWords Go.Proofs.YtgjcejgcljjdhaaGreatDoorW.PrintLast Go.Proofs.YtgjcejgcljjdhaaGreatDoorW.PrintMore
attribute [local go_sem] max2_int min2_int max_two min_two max_three min_three max_four min_four run_store_float   -- for this text's walks alone
set_option linter.unusedVariables false
set_option linter.unusedSimpArgs false

-- GIVEN by hand: function 42 (spec_replaced)
/-! ### spec_replaced: function 42 -/
/-- Has a text a byte that is none of a character, from place i on? -/
def replGo (s : ByteArray) : Nat → Nat → Bool
  | 0, _ => false
  | b + 1, i => if i < s.size then (if (Utf8.decode s i).1 = 65533 ∧ ((s.size : Int) - i < 3 ∨ ¬ (s.extract i (i + 3)).toList = [239, 191, 189]) then true else replGo s b (i + (Utf8.decode s i).2)) else false
def spec_replaced.f (a0 : ByteArray) : Option Bool := if a0.size ≤ 140737488351232 then some (replGo a0 a0.size 0) else none
theorem replGo_step (s : ByteArray) (b i : Nat) (h : i < s.size) (hn : ¬ ((Utf8.decode s i).1 = 65533 ∧ ((s.size : Int) - i < 3 ∨ ¬ (s.extract i (i + 3)).toList = [239, 191, 189]))) : replGo s (b + 1) i = replGo s b (i + (Utf8.decode s i).2) := by
  rw [replGo, if_pos h, if_neg hn]
theorem replGo_hit (s : ByteArray) (b i : Nat) (h : i < s.size) (hn : (Utf8.decode s i).1 = 65533 ∧ ((s.size : Int) - i < 3 ∨ ¬ (s.extract i (i + 3)).toList = [239, 191, 189])) : replGo s (b + 1) i = true := by
  rw [replGo, if_pos h, if_pos hn]
theorem replGo_end (s : ByteArray) (b i : Nat) (h : ¬ i < s.size) : replGo s b i = false := by
  cases b with
  | zero => rfl
  | succ b => rw [replGo, if_neg h]
set_option maxHeartbeats 800000 in
set_option maxRecDepth 100000 in
theorem spec_replaced.calls (a0 : ByteArray) (r : Bool) (w : World) (h : spec_replaced.f a0 = some r) :
    Calls Tryz.prog 42 #[.string a0] w fun e w' => e = .returned (.bool r) ∧ Below w.heap.size w w' := by
  have hsz : a0.size ≤ 140737488351232 := by
    unfold spec_replaced.f at h
    split at h
    · assumption
    · cases h
  have hr := Aside0.mk (show replGo a0 a0.size 0 = r by
    unfold spec_replaced.f at h
    rw [if_pos hsz] at h
    exact Option.some.inj h)
  clear h
  go_enter Tryz.func42, Tryz.ntmps42
  go_wp2
  go_loopw [2] (fun n w' => ∃ (pos b : Nat), w' = w.iter a0 pos ∧ n = .bool false ∧ Aside0 (replGo a0 b pos = r) ∧ a0.size ≤ pos + b) (fun _ w' => a0.size - w'.iterPos w.heap.size)
  case atStart => exact ⟨0, a0.size, rfl, rfl, hr, by omega⟩
  case round =>
    obtain ⟨pos, b, rfl, rfl, hc, hb⟩ := hrel
    by_cases hp : pos < a0.size
    · have hnx : ∀ ty, (Instr.next (.pointer (some ⟨w.heap.size, 0, none⟩)) true ty).run Tryz.prog (w.iter a0 pos) = _ := fun ty => run_next_any w a0 pos ty hp
      have hwd := width_pos a0 pos hp
      obtain ⟨b, rfl⟩ : ∃ c, b = c + 1 := ⟨b - 1, by omega⟩
      by_cases hC : (Utf8.decode a0 pos).1 = 65533 ∧ ((a0.size : Int) - pos < 3 ∨ ¬ (a0.extract pos (pos + 3)).toList = [239, 191, 189])
      · have hit := hc.out.symm.trans (replGo_hit a0 b pos hp hC)
        subst hit
        obtain ⟨h1, h2⟩ := hC
        by_cases h3 : (a0.size : Int) - pos < 3
        · clear h2
          have h1' : (((Utf8.decode a0 pos).1 : Int) == 65533) = true := by rw [beq_iff_eq]; omega
          clear h1 hc
          go_wp2
          go_ret
          exact ⟨rfl, (Below.refl _ _).alloc (Nat.le_refl _) _⟩
        · have h5 : (pos : Int) + 3 ≤ a0.size := by omega
          have h6 : (0 : Int) ≤ (pos : Int) + 3 := by omega
          have h7 : (pos : Int) ≤ (pos : Int) + 3 := by omega
          have h4 : ((a0.extract pos (pos + 3)).toList == [239, 191, 189]) = false := beq_eq_false_iff_ne.2 (h2.resolve_left h3)
          clear h2
          have h1' : (((Utf8.decode a0 pos).1 : Int) == 65533) = true := by rw [beq_iff_eq]; omega
          clear h1 hc
          go_wp2
          go_ret
          exact ⟨rfl, (Below.refl _ _).alloc (Nat.le_refl _) _⟩
      · have step := hc.out.symm.trans (replGo_step a0 b pos hp hC)
        have step' := Aside0.mk step.symm
        clear step hc
        by_cases h1 : (Utf8.decode a0 pos).1 = 65533
        · have h1' : (((Utf8.decode a0 pos).1 : Int) == 65533) = true := by rw [beq_iff_eq]; omega
          have h3 : ¬ (a0.size : Int) - pos < 3 := fun h => hC ⟨h1, .inl h⟩
          have h5 : (pos : Int) + 3 ≤ a0.size := by omega
          have h6 : (0 : Int) ≤ (pos : Int) + 3 := by omega
          have h7 : (pos : Int) ≤ (pos : Int) + 3 := by omega
          have h4 : ((a0.extract pos (pos + 3)).toList == [239, 191, 189]) = true := beq_iff_eq.2 (Classical.byContradiction fun h => hC ⟨h1, .inr h⟩)
          clear h1 hC
          go_wp2
          go_roundw
          case rel => exact ⟨pos + (Utf8.decode a0 pos).2, b, rfl, rfl, step', by omega⟩
          case measure => simp; omega
        · have h1' : (((Utf8.decode a0 pos).1 : Int) == 65533) = false := beq_eq_false_iff_ne.2 (by omega)
          clear h1 hC
          go_wp2
          go_roundw
          case rel => exact ⟨pos + (Utf8.decode a0 pos).2, b, rfl, rfl, step', by omega⟩
          case measure => simp; omega
    · have hnx : ∀ ty, (Instr.next (.pointer (some ⟨w.heap.size, 0, none⟩)) true ty).run Tryz.prog (w.iter a0 pos) = _ := fun ty => run_next_end w a0 pos ty hp
      have he := hc.out.symm.trans (replGo_end a0 b pos hp)
      subst he
      clear hc
      go_wp2
      go_ret
      exact ⟨rfl, (Below.refl _ _).alloc (Nat.le_refl _) _⟩

end Go.Proofs.YtgjcejgcljjdhaaGreatDoor.P
