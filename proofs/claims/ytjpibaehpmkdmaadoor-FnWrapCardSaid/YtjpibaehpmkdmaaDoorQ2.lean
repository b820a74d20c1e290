/- goutils.isDelimiter with delimiters given. -/
import Derived.Test.YtjpibaehpmkdmaaDoorQ1
set_option linter.unusedVariables false
set_option linter.unusedSimpArgs false
namespace Go.Proofs.YtjpibaehpmkdmaaDoor.P
open Go.RowKit Go.Proofs.YtjpibaehpmkdmaaDoorW.PrintWords Go.Proofs.YtjpibaehpmkdmaaDoorW.PrintLast Go.Proofs.YtjpibaehpmkdmaaDoorW.PrintMore

set_option maxHeartbeats 1600000 in
set_option maxRecDepth 100000 in
theorem isDelim_some (r : Int) (ad : Addr) (P : List Int) (c : Nat) (w : World) (h0 : 0 ≤ r) (h : r < 128) (hl : P.length ≤ 1000) (hC : Kd.C (Kd.int .i32) w (some ad) P.length P) :
    Calls Tryd.prog 52 #[.int .i32 r, .slice (some ad) P.length c] w fun e w' => e = .returned (.bool (decide (r ∈ P))) ∧ w' = w := by
  have HC := Lib.hid hC
  obtain ⟨n, hn⟩ : ∃ n, n = P.length := ⟨_, rfl⟩
  have HN := Lib.hid hn
  have hnil : ∀ W : World, (binOp BinOp.eql 38 (Value.slice (some ad) n c) (Value.slice none 0 0)).run Tryd.prog W = .ok (.bool false) W := fun W => by kernel_rfl
  rw [← hn] at hl ⊢
  clear hn hC
  go_enter Tryd.func52, Tryd.ntmps52
  go_wp2
  go_loop [6, 13] (fun y i => ∃ (k : Nat) (yv : Value), yv = y ∧ i = .int .i64 k ∧ k ≤ n ∧ Hid (r ∉ P.take k)) (fun _ i => n - (intOf i).toNat)
  case atStart => exact ⟨0, _, rfl, rfl, Nat.zero_le _, Lib.hid (by simp)⟩
  case round =>
    obtain ⟨k, yv, rfl, rfl, hk, hX⟩ := hrel
    by_cases ck : k < n
    · obtain ⟨a2, he, q0⟩ := Kd.at_int HC.out (k : Int) (by omega) (by rw [← HN.out]; omega)
      injection he with he
      subst he
      have hkl : k < P.length := by rw [← HN.out]; exact ck
      obtain ⟨m, hm⟩ : ∃ m, m = P[k] := ⟨_, rfl⟩
      have q1 : w.cell? (ad.add k) = some (.int .i32 m) := by
        have : rdOf 0 P (k : Int) = m := by rw [hm]; simp [rdOf, hkl]
        rw [← this]
        exact q0
      have HTK := Lib.hid (show P.take (k + 1) = P.take k ++ [m] by rw [hm]; exact List.take_succ_eq_append_getElem hkl)
      have HMEM := Lib.hid (show m ∈ P by rw [hm]; exact List.getElem_mem hkl)
      clear q0 hm
      by_cases hrm : r = m
      · have HD := Lib.hid (show decide (r ∈ P) = true from decide_eq_true (by rw [hrm]; exact HMEM.out))
        go_wp2
        go_ret
        exact ⟨congrArg (fun z => Ending.returned (Value.bool z)) (decide_eq_true HMEM.out).symm, rfl⟩
      · have HX := Lib.hid (show r ∉ P.take (k + 1) by
          rw [HTK.out]
          intro hh
          rcases List.mem_append.1 hh with hh | hh
          · exact hX.out hh
          · exact hrm (List.mem_singleton.1 hh))
        clear hX
        go_wp2
        go_round
        case rel => exact ⟨k + 1, _, rfl, by go_num, by omega, HX⟩
        case measure => simp [intOf]; omega
    · obtain rfl : k = n := by omega
      have HD := Lib.hid (show decide (r ∈ P) = false from decide_eq_false (by have := hX.out; rw [HN.out, List.take_length] at this; exact this))
      go_wp2
      go_ret
      exact ⟨congrArg (fun z => Ending.returned (Value.bool z)) HD.out.symm, rfl⟩
end Go.Proofs.YtjpibaehpmkdmaaDoor.P
