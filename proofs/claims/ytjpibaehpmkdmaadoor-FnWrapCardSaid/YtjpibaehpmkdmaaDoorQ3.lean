/- spec.isIn of a text of ASCII. -/
import Derived.Test.YtjpibaehpmkdmaaDoorQ2
set_option linter.unusedVariables false
set_option linter.unusedSimpArgs false
namespace Go.Proofs.YtjpibaehpmkdmaaDoor.P
open Go.RowKit Go.Proofs.YtjpibaehpmkdmaaDoorW.PrintWords Go.Proofs.YtjpibaehpmkdmaaDoorW.PrintLast Go.Proofs.YtjpibaehpmkdmaaDoorW.PrintMore

set_option maxHeartbeats 1600000 in
set_option maxRecDepth 100000 in
theorem isIn_call (n : Int) (p : ByteArray) (ha : ascii p) (hs : p.size ≤ 500) (w : World) :
    Calls Tryd.prog 73 #[.int .i32 n, .string p] w fun e w' => e = .returned (.bool (decide (n ∈ nums8 p))) ∧ Below w.heap.size w w' := by
  have HA := Lib.hid ha
  have HLN := Lib.hid (nums8_length p)
  have HB := Lib.hid (fun o => (Below.refl w.heap.size w).alloc (Nat.le_refl _) o)
  clear ha
  go_enter Tryd.func73, Tryd.ntmps73
  go_wp2
  go_loopw [6] (fun y wr => ∃ (k : Nat) (yv : Value), wr = w.iter p k ∧ yv = y ∧ k ≤ p.size ∧ Hid (n ∉ (nums8 p).take k)) (fun _ wr => p.size - wr.iterPos w.heap.size)
  case atStart => exact ⟨0, _, rfl, rfl, Nat.zero_le _, Lib.hid (by simp)⟩
  case round =>
    obtain ⟨k, yv, rfl, rfl, hk, hX⟩ := hrel
    by_cases ck : k < p.size
    · have hnx : ∀ ty, (Instr.next (.pointer (some ⟨w.heap.size, 0, none⟩)) true ty).run Tryd.prog (w.iter p k) = _ := fun ty => run_next_any w p k ty ck
      have hlt : (p[k]'ck).toNat < 128 := by have := HA.out k ck; rw [bt_nat p k ck] at this; omega
      rw [decode_ascii p k ck hlt] at hnx
      have hkl : k < (nums8 p).length := by rw [HLN.out]; exact ck
      obtain ⟨m, hm⟩ : ∃ m, m = (nums8 p)[k] := ⟨_, rfl⟩
      have hmv : (((p[k]'ck).toNat : Nat) : Int) = m := by rw [hm, nums8_at p k ck, bt_nat p k ck]
      have HTK := Lib.hid (show (nums8 p).take (k + 1) = (nums8 p).take k ++ [m] by rw [hm]; exact List.take_succ_eq_append_getElem hkl)
      have HMEM := Lib.hid (show m ∈ nums8 p by rw [hm]; exact List.getElem_mem hkl)
      simp only [hmv] at hnx
      clear hm hmv hlt
      by_cases hrm : m = n
      · subst hrm
        go_wp2
        go_ret
        exact ⟨congrArg (fun z => Ending.returned (Value.bool z)) (decide_eq_true HMEM.out).symm, HB.out _⟩
      · have HX := Lib.hid (show n ∉ (nums8 p).take (k + 1) by
          rw [HTK.out]
          intro hh
          rcases List.mem_append.1 hh with hh | hh
          · exact hX.out hh
          · exact hrm (List.mem_singleton.1 hh).symm)
        clear hX
        go_wp2
        go_roundw
        case rel => exact ⟨k + 1, _, rfl, rfl, by omega, HX⟩
        case measure => simp; omega
    · obtain rfl : k = p.size := by omega
      have HD := Lib.hid (show decide (n ∈ nums8 p) = false from decide_eq_false (by have := hX.out; rw [← HLN.out, List.take_length] at this; exact this))
      have hnx := fun ty => run_next_end (P := Tryd.prog) w p p.size ty (Nat.lt_irrefl _)
      go_wp2
      go_ret
      exact ⟨congrArg (fun z => Ending.returned (Value.bool z)) HD.out.symm, HB.out _⟩
set_option maxHeartbeats 1600000 in
set_option maxRecDepth 100000 in
theorem between_some (n : Int) (p : ByteArray) (ha : ascii p) (hs : p.size ≤ 500) (hp : ¬ p = ⟨#[]⟩) (w : World) (h0 : 0 ≤ n) (h : n < 128) : Calls Tryd.prog 54 #[.int .u8 n, .string p] w fun e w' => e = .returned (.bool (decide (n ∈ nums8 p))) ∧ Below w.heap.size w w' := by
  have HI := Lib.hid (isIn_call n p ha hs w)
  have hne := full_text hp
  have hw : wrap32 n = n := wrap32_ascii h0 h
  generalize decide (n ∈ nums8 p) = b at *
  clear ha hs
  go_enter Tryd.func54, Tryd.ntmps54
  go_wp2_with fail
  try rw [hw]
  refine HI.out.mono ?_
  rintro e w1 ⟨rfl, hb⟩
  have HB := Lib.hid hb
  clear HI hb
  go_wp2
  go_ret
  exact ⟨rfl, HB.out⟩
end Go.Proofs.YtjpibaehpmkdmaaDoor.P
