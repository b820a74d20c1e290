/- FnCastNone holds. -/
import Derived.Test.YtdconkiilelaoaaDoorCN2
import Derived.Carry
set_option linter.unusedVariables false
set_option linter.unusedSimpArgs false
namespace Go.Proofs.YtdconkiilelaoaaDoor.P
open Go.RowKit Go.Proofs.YtdconkiilelaoaaDoorW.PrintWords Go.Proofs.YtdconkiilelaoaaDoorW.PrintLast Go.Proofs.YtdconkiilelaoaaDoorW.PrintMore
attribute [local go_sem] run_store_float

set_option maxHeartbeats 1600000 in
set_option maxRecDepth 100000 in
theorem goList_nil (w : World) : Calls Tryd.prog 47 #[.slice none 0 0] w fun e w' => (∃ A n c, e = .returned (.tuple #[.slice A n c, .bool true])) ∧ Below w.heap.size w w' := by
  have HB := Lib.hid (fun o => (Below.refl w.heap.size w).alloc (Nat.le_refl _) o)
  go_enter Tryd.func47, Tryd.ntmps47
  go_wp2
  go_loopw [4, 12] (fun x i wr => (∃ A n c, x = .slice A n c) ∧ i = .int .i64 0 ∧ Hid (Below w.heap.size w wr)) (fun _ _ _ => 0)
  case atStart => exact ⟨⟨_, _, _, rfl⟩, rfl, Lib.hid (HB.out _)⟩
  case round =>
    obtain ⟨⟨A, n, c, rfl⟩, rfl, hB⟩ := hrel
    go_wp2
    go_ret2
    exact ⟨⟨_, _, _, rfl⟩, hB.out⟩
set_option maxHeartbeats 1600000 in
set_option maxRecDepth 100000 in
theorem goDict_nil (w : World) : Calls Tryd.prog 48 #[.agg #[.int .i64 7, .int .i64 0, .float .f64 0, .string ⟨#[]⟩, .slice none 0 0, .slice none 0 0]] w fun e w' => (∃ p, e = .returned (.tuple #[.map p, .bool true])) ∧ Below w.heap.size w w' := by
  have HB := Lib.hid (fun o => (Below.refl w.heap.size w).alloc (Nat.le_refl _) o)
  have hmm := @run_makeMap Tryd.prog
  go_enter Tryd.func48, Tryd.ntmps48
  go_wp2
  go_loopw [25] (fun i wr => i = .int .i64 0 ∧ Hid (Below w.heap.size w wr)) (fun _ _ => 0)
  case atStart => exact ⟨rfl, Lib.hid ((HB.out _).alloc (by simp) _)⟩
  case round =>
    obtain ⟨rfl, hB⟩ := hrel
    go_wp2
    go_ret2
    exact ⟨⟨_, rfl⟩, hB.out⟩
set_option maxHeartbeats 1600000 in
set_option maxRecDepth 100000 in
theorem goOf_nil (w : World) : Calls Tryd.prog 33 #[.agg #[.int .i64 0, .int .i64 0, .float .f64 0, .string ⟨#[]⟩, .slice none 0 0, .slice none 0 0]] w fun e w' => e = .returned (.tuple #[.nilIface, .bool true]) ∧ Below w.heap.size w w' := by
  have HB := Lib.hid (fun o => (Below.refl w.heap.size w).alloc (Nat.le_refl _) o)
  go_enter Tryd.func33, Tryd.ntmps33
  go_wp2
  go_ret2
  exact ⟨rfl, HB.out _⟩
set_option maxHeartbeats 1600000 in
set_option maxRecDepth 100000 in
theorem goOf_list (w : World) : Calls Tryd.prog 33 #[.agg #[.int .i64 6, .int .i64 0, .float .f64 0, .string ⟨#[]⟩, .slice none 0 0, .slice none 0 0]] w fun e w' => (∃ A n c, e = .returned (.tuple #[.iface 39 (.slice A n c), .bool true])) ∧ Below w.heap.size w w' := by
  have HB := Lib.hid (fun o => (Below.refl w.heap.size w).alloc (Nat.le_refl _) o)
  go_enter Tryd.func33, Tryd.ntmps33
  go_wp2_with fail
  refine (goList_nil _).mono ?_
  rintro e w1 ⟨⟨A, n, c, rfl⟩, hb⟩
  have HB1 := Lib.hid ((HB.out _).trans (hb.mono (by simp)))
  clear hb
  go_wp2
  go_ret2
  exact ⟨⟨_, _, _, rfl⟩, HB1.out⟩
set_option maxHeartbeats 1600000 in
set_option maxRecDepth 100000 in
theorem goOf_dict (w : World) : Calls Tryd.prog 33 #[.agg #[.int .i64 7, .int .i64 0, .float .f64 0, .string ⟨#[]⟩, .slice none 0 0, .slice none 0 0]] w fun e w' => (∃ p, e = .returned (.tuple #[.iface 54 (.map p), .bool true])) ∧ Below w.heap.size w w' := by
  have HB := Lib.hid (fun o => (Below.refl w.heap.size w).alloc (Nat.le_refl _) o)
  go_enter Tryd.func33, Tryd.ntmps33
  go_wp2_with fail
  refine (goDict_nil _).mono ?_
  rintro e w1 ⟨⟨p, rfl⟩, hb⟩
  have HB1 := Lib.hid ((HB.out _).trans (hb.mono (by simp)))
  clear hb
  go_wp2
  go_ret2
  exact ⟨⟨_, rfl⟩, HB1.out⟩
set_option maxHeartbeats 1600000 in
set_option maxRecDepth 100000 in
theorem goOf_text (s : ByteArray) (w : World) : Calls Tryd.prog 33 #[.agg #[.int .i64 5, .int .i64 0, .float .f64 0, .string s, .slice none 0 0, .slice none 0 0]] w fun e w' => e = .returned (.tuple #[.iface 9 (.string s), .bool true]) ∧ Below w.heap.size w w' := by
  have HB := Lib.hid (fun o => (Below.refl w.heap.size w).alloc (Nat.le_refl _) o)
  go_enter Tryd.func33, Tryd.ntmps33
  go_wp2
  go_ret2
  exact ⟨rfl, HB.out _⟩
set_option maxHeartbeats 1600000 in
set_option maxRecDepth 100000 in
theorem goOf_false (w : World) : Calls Tryd.prog 33 #[.agg #[.int .i64 1, .int .i64 0, .float .f64 0, .string ⟨#[]⟩, .slice none 0 0, .slice none 0 0]] w fun e w' => e = .returned (.tuple #[.iface 4 (.bool false), .bool true]) ∧ Below w.heap.size w w' := by
  have HB := Lib.hid (fun o => (Below.refl w.heap.size w).alloc (Nat.le_refl _) o)
  go_enter Tryd.func33, Tryd.ntmps33
  go_wp2
  go_ret2
  exact ⟨rfl, HB.out _⟩
set_option maxHeartbeats 1600000 in
set_option maxRecDepth 100000 in
theorem goOf_true (w : World) : Calls Tryd.prog 33 #[.agg #[.int .i64 1, .int .i64 1, .float .f64 0, .string ⟨#[]⟩, .slice none 0 0, .slice none 0 0]] w fun e w' => e = .returned (.tuple #[.iface 4 (.bool true), .bool true]) ∧ Below w.heap.size w w' := by
  have HB := Lib.hid (fun o => (Below.refl w.heap.size w).alloc (Nat.le_refl _) o)
  go_enter Tryd.func33, Tryd.ntmps33
  go_wp2
  go_ret2
  exact ⟨rfl, HB.out _⟩
set_option maxHeartbeats 1600000 in
set_option maxRecDepth 100000 in
theorem implToInt_nil (w : World) : Calls Tryd.prog 16 #[.agg #[.int .i64 0, .int .i64 0, .float .f64 0, .string ⟨#[]⟩, .slice none 0 0, .slice none 0 0]] w fun e w' => e = .returned (.int .i64 0) ∧ Below w.heap.size w w' := by
  have HB := Lib.hid (fun o => (Below.refl w.heap.size w).alloc (Nat.le_refl _) o)
  go_enter Tryd.func16, Tryd.ntmps16
  go_wp2_with fail
  refine (goOf_nil _).mono ?_
  rintro e w1 ⟨rfl, hb⟩
  have HB1 := Lib.hid ((HB.out _).trans (hb.mono (by simp)))
  clear hb
  go_wp2_with (first | (go_at_call 54; refine (cast_int_nil _).mono ?_; rintro e w2 ⟨rfl, rfl⟩) | go_in)
  go_ret
  exact ⟨rfl, HB1.out⟩
set_option maxHeartbeats 1600000 in
set_option maxRecDepth 100000 in
theorem implToInt_list (w : World) : Calls Tryd.prog 16 #[.agg #[.int .i64 6, .int .i64 0, .float .f64 0, .string ⟨#[]⟩, .slice none 0 0, .slice none 0 0]] w fun e w' => e = .returned (.int .i64 0) ∧ Below w.heap.size w w' := by
  have HB := Lib.hid (fun o => (Below.refl w.heap.size w).alloc (Nat.le_refl _) o)
  go_enter Tryd.func16, Tryd.ntmps16
  go_wp2_with fail
  refine (goOf_list _).mono ?_
  rintro e w1 ⟨⟨A, n, c, rfl⟩, hb⟩
  have HB1 := Lib.hid ((HB.out _).trans (hb.mono (by simp)))
  clear hb
  go_wp2_with (first | (go_at_call 54; refine (cast_int_list A n c _).mono ?_; rintro e w2 ⟨rfl, hb2⟩) | go_in)
  go_ret
  exact ⟨rfl, HB1.out.trans (hb2.mono HB1.out.size)⟩
set_option maxHeartbeats 1600000 in
set_option maxRecDepth 100000 in
theorem implToInt_dict (w : World) : Calls Tryd.prog 16 #[.agg #[.int .i64 7, .int .i64 0, .float .f64 0, .string ⟨#[]⟩, .slice none 0 0, .slice none 0 0]] w fun e w' => e = .returned (.int .i64 0) ∧ Below w.heap.size w w' := by
  have HB := Lib.hid (fun o => (Below.refl w.heap.size w).alloc (Nat.le_refl _) o)
  go_enter Tryd.func16, Tryd.ntmps16
  go_wp2_with fail
  refine (goOf_dict _).mono ?_
  rintro e w1 ⟨⟨p, rfl⟩, hb⟩
  have HB1 := Lib.hid ((HB.out _).trans (hb.mono (by simp)))
  clear hb
  go_wp2_with (first | (go_at_call 54; refine (cast_int_dict p _).mono ?_; rintro e w2 ⟨rfl, hb2⟩) | go_in)
  go_ret
  exact ⟨rfl, HB1.out.trans (hb2.mono HB1.out.size)⟩
set_option maxHeartbeats 1600000 in
set_option maxRecDepth 100000 in
theorem implToInt_text (s : ByteArray) (h0 : 0 < s.size) (hs : s.size ≤ 2147483647) (hl : Low s) (w : World) (hE : TabsE w) : Calls Tryd.prog 16 #[.agg #[.int .i64 5, .int .i64 0, .float .f64 0, .string s, .slice none 0 0, .slice none 0 0]] w fun e w' => e = .returned (.int .i64 0) ∧ Below w.heap.size w w' := by
  have HE := Lib.hid hE
  clear hE
  have HB := Lib.hid (fun o => (Below.refl w.heap.size w).alloc (Nat.le_refl _) o)
  go_enter Tryd.func16, Tryd.ntmps16
  go_wp2_with fail
  refine (goOf_text s _).mono ?_
  rintro e w1 ⟨rfl, hb⟩
  have HB1 := Lib.hid ((HB.out _).trans (hb.mono (by simp)))
  clear hb
  go_wp2_with (first | (go_at_call 54; refine (cast_int_text s h0 hs hl _ (HE.out.below HB1.out)).mono ?_; rintro e w2 ⟨rfl, hb2⟩) | go_in)
  go_ret
  exact ⟨rfl, HB1.out.trans (hb2.mono HB1.out.size)⟩
set_option maxHeartbeats 1600000 in
set_option maxRecDepth 100000 in
theorem implToInt_text0 (s : ByteArray) (h0 : s.size = 0) (w : World) : Calls Tryd.prog 16 #[.agg #[.int .i64 5, .int .i64 0, .float .f64 0, .string s, .slice none 0 0, .slice none 0 0]] w fun e w' => e = .returned (.int .i64 0) ∧ Below w.heap.size w w' := by
  have HB := Lib.hid (fun o => (Below.refl w.heap.size w).alloc (Nat.le_refl _) o)
  go_enter Tryd.func16, Tryd.ntmps16
  go_wp2_with fail
  refine (goOf_text s _).mono ?_
  rintro e w1 ⟨rfl, hb⟩
  have HB1 := Lib.hid ((HB.out _).trans (hb.mono (by simp)))
  clear hb
  go_wp2_with (first | (go_at_call 54; refine (cast_int_text0 s h0 _).mono ?_; rintro e w2 ⟨rfl, rfl⟩) | go_in)
  go_ret
  exact ⟨rfl, HB1.out⟩
set_option maxHeartbeats 1600000 in
set_option maxRecDepth 100000 in
theorem implToInt_false (w : World) : Calls Tryd.prog 16 #[.agg #[.int .i64 1, .int .i64 0, .float .f64 0, .string ⟨#[]⟩, .slice none 0 0, .slice none 0 0]] w fun e w' => e = .returned (.int .i64 0) ∧ Below w.heap.size w w' := by
  have HB := Lib.hid (fun o => (Below.refl w.heap.size w).alloc (Nat.le_refl _) o)
  go_enter Tryd.func16, Tryd.ntmps16
  go_wp2_with fail
  refine (goOf_false _).mono ?_
  rintro e w1 ⟨rfl, hb⟩
  have HB1 := Lib.hid ((HB.out _).trans (hb.mono (by simp)))
  clear hb
  go_wp2_with (first | (go_at_call 54; refine (cast_int_false _).mono ?_; rintro e w2 ⟨rfl, rfl⟩) | go_in)
  go_ret
  exact ⟨rfl, HB1.out⟩
set_option maxHeartbeats 1600000 in
set_option maxRecDepth 100000 in
theorem implToInt_true (w : World) : Calls Tryd.prog 16 #[.agg #[.int .i64 1, .int .i64 1, .float .f64 0, .string ⟨#[]⟩, .slice none 0 0, .slice none 0 0]] w fun e w' => e = .returned (.int .i64 1) ∧ Below w.heap.size w w' := by
  have HB := Lib.hid (fun o => (Below.refl w.heap.size w).alloc (Nat.le_refl _) o)
  go_enter Tryd.func16, Tryd.ntmps16
  go_wp2_with fail
  refine (goOf_true _).mono ?_
  rintro e w1 ⟨rfl, hb⟩
  have HB1 := Lib.hid ((HB.out _).trans (hb.mono (by simp)))
  clear hb
  go_wp2_with (first | (go_at_call 54; refine (cast_int_true _).mono ?_; rintro e w2 ⟨rfl, rfl⟩) | go_in)
  go_ret
  exact ⟨rfl, HB1.out⟩
set_option maxHeartbeats 1600000 in
set_option maxRecDepth 100000 in
theorem implToInt64_nil (w : World) : Calls Tryd.prog 17 #[.agg #[.int .i64 0, .int .i64 0, .float .f64 0, .string ⟨#[]⟩, .slice none 0 0, .slice none 0 0]] w fun e w' => e = .returned (.int .i64 0) ∧ Below w.heap.size w w' := by
  have HB := Lib.hid (fun o => (Below.refl w.heap.size w).alloc (Nat.le_refl _) o)
  go_enter Tryd.func17, Tryd.ntmps17
  go_wp2_with fail
  refine (goOf_nil _).mono ?_
  rintro e w1 ⟨rfl, hb⟩
  have HB1 := Lib.hid ((HB.out _).trans (hb.mono (by simp)))
  clear hb
  go_wp2_with (first | (go_at_call 55; refine (cast_int64_nil _).mono ?_; rintro e w2 ⟨rfl, rfl⟩) | go_in)
  go_ret
  exact ⟨rfl, HB1.out⟩
set_option maxHeartbeats 1600000 in
set_option maxRecDepth 100000 in
theorem implToInt64_list (w : World) : Calls Tryd.prog 17 #[.agg #[.int .i64 6, .int .i64 0, .float .f64 0, .string ⟨#[]⟩, .slice none 0 0, .slice none 0 0]] w fun e w' => e = .returned (.int .i64 0) ∧ Below w.heap.size w w' := by
  have HB := Lib.hid (fun o => (Below.refl w.heap.size w).alloc (Nat.le_refl _) o)
  go_enter Tryd.func17, Tryd.ntmps17
  go_wp2_with fail
  refine (goOf_list _).mono ?_
  rintro e w1 ⟨⟨A, n, c, rfl⟩, hb⟩
  have HB1 := Lib.hid ((HB.out _).trans (hb.mono (by simp)))
  clear hb
  go_wp2_with (first | (go_at_call 55; refine (cast_int64_list A n c _).mono ?_; rintro e w2 ⟨rfl, hb2⟩) | go_in)
  go_ret
  exact ⟨rfl, HB1.out.trans (hb2.mono HB1.out.size)⟩
set_option maxHeartbeats 1600000 in
set_option maxRecDepth 100000 in
theorem implToInt64_dict (w : World) : Calls Tryd.prog 17 #[.agg #[.int .i64 7, .int .i64 0, .float .f64 0, .string ⟨#[]⟩, .slice none 0 0, .slice none 0 0]] w fun e w' => e = .returned (.int .i64 0) ∧ Below w.heap.size w w' := by
  have HB := Lib.hid (fun o => (Below.refl w.heap.size w).alloc (Nat.le_refl _) o)
  go_enter Tryd.func17, Tryd.ntmps17
  go_wp2_with fail
  refine (goOf_dict _).mono ?_
  rintro e w1 ⟨⟨p, rfl⟩, hb⟩
  have HB1 := Lib.hid ((HB.out _).trans (hb.mono (by simp)))
  clear hb
  go_wp2_with (first | (go_at_call 55; refine (cast_int64_dict p _).mono ?_; rintro e w2 ⟨rfl, hb2⟩) | go_in)
  go_ret
  exact ⟨rfl, HB1.out.trans (hb2.mono HB1.out.size)⟩
set_option maxHeartbeats 1600000 in
set_option maxRecDepth 100000 in
theorem implToInt64_text (s : ByteArray) (h0 : 0 < s.size) (hs : s.size ≤ 2147483647) (hl : Low s) (w : World) (hE : TabsE w) : Calls Tryd.prog 17 #[.agg #[.int .i64 5, .int .i64 0, .float .f64 0, .string s, .slice none 0 0, .slice none 0 0]] w fun e w' => e = .returned (.int .i64 0) ∧ Below w.heap.size w w' := by
  have HE := Lib.hid hE
  clear hE
  have HB := Lib.hid (fun o => (Below.refl w.heap.size w).alloc (Nat.le_refl _) o)
  go_enter Tryd.func17, Tryd.ntmps17
  go_wp2_with fail
  refine (goOf_text s _).mono ?_
  rintro e w1 ⟨rfl, hb⟩
  have HB1 := Lib.hid ((HB.out _).trans (hb.mono (by simp)))
  clear hb
  go_wp2_with (first | (go_at_call 55; refine (cast_int64_text s h0 hs hl _ (HE.out.below HB1.out)).mono ?_; rintro e w2 ⟨rfl, hb2⟩) | go_in)
  go_ret
  exact ⟨rfl, HB1.out.trans (hb2.mono HB1.out.size)⟩
set_option maxHeartbeats 1600000 in
set_option maxRecDepth 100000 in
theorem implToInt64_text0 (s : ByteArray) (h0 : s.size = 0) (w : World) : Calls Tryd.prog 17 #[.agg #[.int .i64 5, .int .i64 0, .float .f64 0, .string s, .slice none 0 0, .slice none 0 0]] w fun e w' => e = .returned (.int .i64 0) ∧ Below w.heap.size w w' := by
  have HB := Lib.hid (fun o => (Below.refl w.heap.size w).alloc (Nat.le_refl _) o)
  go_enter Tryd.func17, Tryd.ntmps17
  go_wp2_with fail
  refine (goOf_text s _).mono ?_
  rintro e w1 ⟨rfl, hb⟩
  have HB1 := Lib.hid ((HB.out _).trans (hb.mono (by simp)))
  clear hb
  go_wp2_with (first | (go_at_call 55; refine (cast_int64_text0 s h0 _).mono ?_; rintro e w2 ⟨rfl, rfl⟩) | go_in)
  go_ret
  exact ⟨rfl, HB1.out⟩
set_option maxHeartbeats 1600000 in
set_option maxRecDepth 100000 in
theorem implToInt64_false (w : World) : Calls Tryd.prog 17 #[.agg #[.int .i64 1, .int .i64 0, .float .f64 0, .string ⟨#[]⟩, .slice none 0 0, .slice none 0 0]] w fun e w' => e = .returned (.int .i64 0) ∧ Below w.heap.size w w' := by
  have HB := Lib.hid (fun o => (Below.refl w.heap.size w).alloc (Nat.le_refl _) o)
  go_enter Tryd.func17, Tryd.ntmps17
  go_wp2_with fail
  refine (goOf_false _).mono ?_
  rintro e w1 ⟨rfl, hb⟩
  have HB1 := Lib.hid ((HB.out _).trans (hb.mono (by simp)))
  clear hb
  go_wp2_with (first | (go_at_call 55; refine (cast_int64_false _).mono ?_; rintro e w2 ⟨rfl, rfl⟩) | go_in)
  go_ret
  exact ⟨rfl, HB1.out⟩
set_option maxHeartbeats 1600000 in
set_option maxRecDepth 100000 in
theorem implToInt64_true (w : World) : Calls Tryd.prog 17 #[.agg #[.int .i64 1, .int .i64 1, .float .f64 0, .string ⟨#[]⟩, .slice none 0 0, .slice none 0 0]] w fun e w' => e = .returned (.int .i64 1) ∧ Below w.heap.size w w' := by
  have HB := Lib.hid (fun o => (Below.refl w.heap.size w).alloc (Nat.le_refl _) o)
  go_enter Tryd.func17, Tryd.ntmps17
  go_wp2_with fail
  refine (goOf_true _).mono ?_
  rintro e w1 ⟨rfl, hb⟩
  have HB1 := Lib.hid ((HB.out _).trans (hb.mono (by simp)))
  clear hb
  go_wp2_with (first | (go_at_call 55; refine (cast_int64_true _).mono ?_; rintro e w2 ⟨rfl, rfl⟩) | go_in)
  go_ret
  exact ⟨rfl, HB1.out⟩
set_option maxHeartbeats 1600000 in
set_option maxRecDepth 100000 in
theorem implToFloat_true (w : World) : Calls Tryd.prog 18 #[.agg #[.int .i64 1, .int .i64 1, .float .f64 0, .string ⟨#[]⟩, .slice none 0 0, .slice none 0 0]] w fun e w' => e = .returned (.float .f64 4607182418800017408) ∧ Below w.heap.size w w' := by
  have HB := Lib.hid (fun o => (Below.refl w.heap.size w).alloc (Nat.le_refl _) o)
  go_enter Tryd.func18, Tryd.ntmps18
  go_wp2_with fail
  refine (goOf_true _).mono ?_
  rintro e w1 ⟨rfl, hb⟩
  have HB1 := Lib.hid ((HB.out _).trans (hb.mono (by simp)))
  clear hb
  go_wp2_with (first | (go_at_call 56; refine (cast_float64_true _).mono ?_; rintro e w2 ⟨rfl, rfl⟩) | go_in)
  go_ret
  exact ⟨rfl, HB1.out⟩
theorem bstep {g : Nat} {w w1 w2 : World} (hg : w.heap.size = g) (h : Below g w w1) (hb : Below w1.heap.size w1 w2) : Below g w w2 := by
  subst hg
  exact h.trans (hb.mono h.size)
def cnCells (s : ByteArray) : Array Value := #[.int .i64 0, .int .i64 0, .float .f64 0, .string ⟨#[]⟩, .slice none 0 0, .slice none 0 0, .int .i64 6, .int .i64 0, .float .f64 0, .string ⟨#[]⟩, .slice none 0 0, .slice none 0 0, .int .i64 7, .int .i64 0, .float .f64 0, .string ⟨#[]⟩, .slice none 0 0, .slice none 0 0, .int .i64 5, .int .i64 0, .float .f64 0, .string s, .slice none 0 0, .slice none 0 0, .int .i64 1, .int .i64 0, .float .f64 0, .string ⟨#[]⟩, .slice none 0 0, .slice none 0 0]
set_option maxHeartbeats 1600000 in
set_option maxRecDepth 100000 in
theorem fnCastNone (s : ByteArray) (w : World) (hs0 : s.size ≤ 140737488351232) (hE : TabsE w) :
    Calls Tryd.prog 5 #[.string s] w fun e w' => e = .returned (.bool true) ∧ Below w.heap.size w w' := by
  have HE := Lib.hid hE
  have HB := Lib.hid (Below.refl w.heap.size w)
  clear hE
  by_cases c0 : 2147483647 < (s.size : Int)
  · have dc0 : decide (2147483647 < (s.size : Int)) = true := decide_eq_true c0
    go_enter Tryd.func5, Tryd.ntmps5
    go_wp2
    go_ret
    exact ⟨rfl, HB.out⟩
  have dc0 : decide (2147483647 < (s.size : Int)) = false := decide_eq_false c0
  go_enter Tryd.func5, Tryd.ntmps5
  go_wp2
  go_loop [3] (fun i => ∃ k : Nat, i = .int .i64 k ∧ k ≤ s.size ∧ Hid (∀ j : Nat, j < k → 97 ≤ bt s (j : Int) ∧ bt s (j : Int) ≤ 122)) (fun i => s.size - (intOf i).toNat)
  case atStart => exact ⟨0, rfl, Nat.zero_le _, Lib.hid (fun j h => by omega)⟩
  case round =>
    obtain ⟨k, rfl, hk, hX⟩ := hrel
    by_cases ck : k < s.size
    · have hb := bt_nat s k ck
      have hbi : (k : Int) < (s.size : Int) := by omega
      by_cases c1 : (((s[k]'ck).toNat : Nat) : Int) < 97
      · have d1 : decide ((((s[k]'ck).toNat : Nat) : Int) < 97) = true := decide_eq_true c1
        clear hb hX
        go_wp2
        go_ret
        exact ⟨rfl, HB.out⟩
      · have d1 : decide ((((s[k]'ck).toNat : Nat) : Int) < 97) = false := decide_eq_false c1
        by_cases c2 : 122 < (((s[k]'ck).toNat : Nat) : Int)
        · have d2 : decide (122 < (((s[k]'ck).toNat : Nat) : Int)) = true := decide_eq_true c2
          clear hb hX
          go_wp2
          go_ret
          exact ⟨rfl, HB.out⟩
        · have d2 : decide (122 < (((s[k]'ck).toNat : Nat) : Int)) = false := decide_eq_false c2
          have HX2 := Lib.hid (show ∀ j : Nat, j < k + 1 → 97 ≤ bt s (j : Int) ∧ bt s (j : Int) ≤ 122 from fun j hj => by
            by_cases q : j = k
            · rw [q, hb]; omega
            · exact hX.out j (by omega))
          clear hb hX
          go_wp2
          go_round
          case rel => exact ⟨k + 1, by go_num, by omega, HX2⟩
          case measure => simp [intOf]; omega
    · obtain rfl : k = s.size := by omega
      have HLOW := Lib.hid (show Low s from hX.out)
      clear hX
      have HI := Lib.hid (show ∀ W, TabsE W → Calls Tryd.prog 16 #[.agg #[.int .i64 5, .int .i64 0, .float .f64 0, .string s, .slice none 0 0, .slice none 0 0]] W fun e w' => e = .returned (.int .i64 0) ∧ Below W.heap.size W w' from fun W hW => by
        by_cases q : s.size = 0
        · exact implToInt_text0 s q W
        · exact implToInt_text s (Nat.pos_of_ne_zero q) (by omega) HLOW.out W hW)
      have HI6 := Lib.hid (show ∀ W, TabsE W → Calls Tryd.prog 17 #[.agg #[.int .i64 5, .int .i64 0, .float .f64 0, .string s, .slice none 0 0, .slice none 0 0]] W fun e w' => e = .returned (.int .i64 0) ∧ Below W.heap.size W w' from fun W hW => by
        by_cases q : s.size = 0
        · exact implToInt64_text0 s q W
        · exact implToInt64_text s (Nat.pos_of_ne_zero q) (by omega) HLOW.out W hW)
      have HB2 := Lib.hid (HB.out.alloc HB.out.size (.cells #[.int .i64 0, .int .i64 0, .float .f64 0, .string ⟨#[]⟩, .slice none 0 0, .slice none 0 0, .int .i64 6, .int .i64 0, .float .f64 0, .string ⟨#[]⟩, .slice none 0 0, .slice none 0 0, .int .i64 7, .int .i64 0, .float .f64 0, .string ⟨#[]⟩, .slice none 0 0, .slice none 0 0, .int .i64 5, .int .i64 0, .float .f64 0, .string s, .slice none 0 0, .slice none 0 0, .int .i64 1, .int .i64 0, .float .f64 0, .string ⟨#[]⟩, .slice none 0 0, .slice none 0 0] 33))
      have HK2 := Lib.hid (heap_alloc_new w (.cells #[.int .i64 0, .int .i64 0, .float .f64 0, .string ⟨#[]⟩, .slice none 0 0, .slice none 0 0, .int .i64 6, .int .i64 0, .float .f64 0, .string ⟨#[]⟩, .slice none 0 0, .slice none 0 0, .int .i64 7, .int .i64 0, .float .f64 0, .string ⟨#[]⟩, .slice none 0 0, .slice none 0 0, .int .i64 5, .int .i64 0, .float .f64 0, .string s, .slice none 0 0, .slice none 0 0, .int .i64 1, .int .i64 0, .float .f64 0, .string ⟨#[]⟩, .slice none 0 0, .slice none 0 0] 33))
      go_upto_region 10 with fail
      generalize w.alloc (.cells #[.int .i64 0, .int .i64 0, .float .f64 0, .string ⟨#[]⟩, .slice none 0 0, .slice none 0 0, .int .i64 6, .int .i64 0, .float .f64 0, .string ⟨#[]⟩, .slice none 0 0, .slice none 0 0, .int .i64 7, .int .i64 0, .float .f64 0, .string ⟨#[]⟩, .slice none 0 0, .slice none 0 0, .int .i64 5, .int .i64 0, .float .f64 0, .string s, .slice none 0 0, .slice none 0 0, .int .i64 1, .int .i64 0, .float .f64 0, .string ⟨#[]⟩, .slice none 0 0, .slice none 0 0] 33) = w2 at *
      generalize hgg : w.heap.size = g at *
      clear hk ck
      go_loopw [5] (fun i wr => ∃ k : Nat, i = .int .i64 k ∧ k ≤ 5 ∧ Hid (Below g w wr) ∧ Hid (wr.heap[g]? = some (.cells #[.int .i64 0, .int .i64 0, .float .f64 0, .string ⟨#[]⟩, .slice none 0 0, .slice none 0 0, .int .i64 6, .int .i64 0, .float .f64 0, .string ⟨#[]⟩, .slice none 0 0, .slice none 0 0, .int .i64 7, .int .i64 0, .float .f64 0, .string ⟨#[]⟩, .slice none 0 0, .slice none 0 0, .int .i64 5, .int .i64 0, .float .f64 0, .string s, .slice none 0 0, .slice none 0 0, .int .i64 1, .int .i64 0, .float .f64 0, .string ⟨#[]⟩, .slice none 0 0, .slice none 0 0] 33 (0, 0))) ∧ Hid (TabsE wr)) (fun i _ => 5 - (intOf i).toNat)
      case atStart => exact ⟨0, rfl, Nat.zero_le _, HB2, HK2, Lib.hid (HE.out.below (by rw [hgg]; exact HB2.out))⟩
      case round =>
        clear HB2 HK2
        obtain ⟨k, rfl, hk, hW, HK, hE⟩ := hrel
        have hkk : k = 0 ∨ k = 1 ∨ k = 2 ∨ k = 3 ∨ k = 4 ∨ k = 5 := by omega
        rcases hkk with h | h | h | h | h | h
        · obtain rfl : k = 0 := by omega
          have x0 : wr.cell? ⟨g, 0, none⟩ = some (.int .i64 0) := by rw [blk_cell HK.out 0]; rfl
          have x1 : wr.cell? ⟨g, 1, none⟩ = some (.int .i64 0) := by rw [blk_cell HK.out 1]; rfl
          have x2 : wr.cell? ⟨g, 2, none⟩ = some (.float .f64 0) := by rw [blk_cell HK.out 2]; rfl
          have x3 : wr.cell? ⟨g, 3, none⟩ = some (.string ⟨#[]⟩) := by rw [blk_cell HK.out 3]; rfl
          have x4 : wr.cell? ⟨g, 4, none⟩ = some (.slice none 0 0) := by rw [blk_cell HK.out 4]; rfl
          have x5 : wr.cell? ⟨g, 5, none⟩ = some (.slice none 0 0) := by rw [blk_cell HK.out 5]; rfl
          go_wp2_with fail
          refine (implToInt_nil _).mono ?_
          rintro e w3 ⟨rfl, hb⟩
          have hW3 := Lib.hid (bstep hgg hW.out hb)
          have hE3 := Lib.hid (hE.out.below hb)
          replace HK := Lib.hid (blk_below HK.out hb)
          clear hb hW hE x0 x1 x2 x3 x4 x5
          have x0 : w3.cell? ⟨g, 0, none⟩ = some (.int .i64 0) := by rw [blk_cell HK.out 0]; rfl
          have x1 : w3.cell? ⟨g, 1, none⟩ = some (.int .i64 0) := by rw [blk_cell HK.out 1]; rfl
          have x2 : w3.cell? ⟨g, 2, none⟩ = some (.float .f64 0) := by rw [blk_cell HK.out 2]; rfl
          have x3 : w3.cell? ⟨g, 3, none⟩ = some (.string ⟨#[]⟩) := by rw [blk_cell HK.out 3]; rfl
          have x4 : w3.cell? ⟨g, 4, none⟩ = some (.slice none 0 0) := by rw [blk_cell HK.out 4]; rfl
          have x5 : w3.cell? ⟨g, 5, none⟩ = some (.slice none 0 0) := by rw [blk_cell HK.out 5]; rfl
          go_wp2_with fail
          refine (implToInt64_nil _).mono ?_
          rintro e w4 ⟨rfl, hb⟩
          have hW4 := Lib.hid (bstep hgg hW3.out hb)
          have hE4 := Lib.hid (hE3.out.below hb)
          replace HK := Lib.hid (blk_below HK.out hb)
          clear hb hW3 hE3 x0 x1 x2 x3 x4 x5
          go_wp2
          go_roundw
          case rel => exact ⟨1, rfl, by decide, hW4, HK, hE4⟩
          case measure => simp [intOf]
        · obtain rfl : k = 1 := by omega
          have x0 : wr.cell? ⟨g, 6, none⟩ = some (.int .i64 6) := by rw [blk_cell HK.out 6]; rfl
          have x1 : wr.cell? ⟨g, 7, none⟩ = some (.int .i64 0) := by rw [blk_cell HK.out 7]; rfl
          have x2 : wr.cell? ⟨g, 8, none⟩ = some (.float .f64 0) := by rw [blk_cell HK.out 8]; rfl
          have x3 : wr.cell? ⟨g, 9, none⟩ = some (.string ⟨#[]⟩) := by rw [blk_cell HK.out 9]; rfl
          have x4 : wr.cell? ⟨g, 10, none⟩ = some (.slice none 0 0) := by rw [blk_cell HK.out 10]; rfl
          have x5 : wr.cell? ⟨g, 11, none⟩ = some (.slice none 0 0) := by rw [blk_cell HK.out 11]; rfl
          go_wp2_with fail
          refine (implToInt_list _).mono ?_
          rintro e w3 ⟨rfl, hb⟩
          have hW3 := Lib.hid (bstep hgg hW.out hb)
          have hE3 := Lib.hid (hE.out.below hb)
          replace HK := Lib.hid (blk_below HK.out hb)
          clear hb hW hE x0 x1 x2 x3 x4 x5
          have x0 : w3.cell? ⟨g, 6, none⟩ = some (.int .i64 6) := by rw [blk_cell HK.out 6]; rfl
          have x1 : w3.cell? ⟨g, 7, none⟩ = some (.int .i64 0) := by rw [blk_cell HK.out 7]; rfl
          have x2 : w3.cell? ⟨g, 8, none⟩ = some (.float .f64 0) := by rw [blk_cell HK.out 8]; rfl
          have x3 : w3.cell? ⟨g, 9, none⟩ = some (.string ⟨#[]⟩) := by rw [blk_cell HK.out 9]; rfl
          have x4 : w3.cell? ⟨g, 10, none⟩ = some (.slice none 0 0) := by rw [blk_cell HK.out 10]; rfl
          have x5 : w3.cell? ⟨g, 11, none⟩ = some (.slice none 0 0) := by rw [blk_cell HK.out 11]; rfl
          go_wp2_with fail
          refine (implToInt64_list _).mono ?_
          rintro e w4 ⟨rfl, hb⟩
          have hW4 := Lib.hid (bstep hgg hW3.out hb)
          have hE4 := Lib.hid (hE3.out.below hb)
          replace HK := Lib.hid (blk_below HK.out hb)
          clear hb hW3 hE3 x0 x1 x2 x3 x4 x5
          go_wp2
          go_roundw
          case rel => exact ⟨2, rfl, by decide, hW4, HK, hE4⟩
          case measure => simp [intOf]
        · obtain rfl : k = 2 := by omega
          have x0 : wr.cell? ⟨g, 12, none⟩ = some (.int .i64 7) := by rw [blk_cell HK.out 12]; rfl
          have x1 : wr.cell? ⟨g, 13, none⟩ = some (.int .i64 0) := by rw [blk_cell HK.out 13]; rfl
          have x2 : wr.cell? ⟨g, 14, none⟩ = some (.float .f64 0) := by rw [blk_cell HK.out 14]; rfl
          have x3 : wr.cell? ⟨g, 15, none⟩ = some (.string ⟨#[]⟩) := by rw [blk_cell HK.out 15]; rfl
          have x4 : wr.cell? ⟨g, 16, none⟩ = some (.slice none 0 0) := by rw [blk_cell HK.out 16]; rfl
          have x5 : wr.cell? ⟨g, 17, none⟩ = some (.slice none 0 0) := by rw [blk_cell HK.out 17]; rfl
          go_wp2_with fail
          refine (implToInt_dict _).mono ?_
          rintro e w3 ⟨rfl, hb⟩
          have hW3 := Lib.hid (bstep hgg hW.out hb)
          have hE3 := Lib.hid (hE.out.below hb)
          replace HK := Lib.hid (blk_below HK.out hb)
          clear hb hW hE x0 x1 x2 x3 x4 x5
          have x0 : w3.cell? ⟨g, 12, none⟩ = some (.int .i64 7) := by rw [blk_cell HK.out 12]; rfl
          have x1 : w3.cell? ⟨g, 13, none⟩ = some (.int .i64 0) := by rw [blk_cell HK.out 13]; rfl
          have x2 : w3.cell? ⟨g, 14, none⟩ = some (.float .f64 0) := by rw [blk_cell HK.out 14]; rfl
          have x3 : w3.cell? ⟨g, 15, none⟩ = some (.string ⟨#[]⟩) := by rw [blk_cell HK.out 15]; rfl
          have x4 : w3.cell? ⟨g, 16, none⟩ = some (.slice none 0 0) := by rw [blk_cell HK.out 16]; rfl
          have x5 : w3.cell? ⟨g, 17, none⟩ = some (.slice none 0 0) := by rw [blk_cell HK.out 17]; rfl
          go_wp2_with fail
          refine (implToInt64_dict _).mono ?_
          rintro e w4 ⟨rfl, hb⟩
          have hW4 := Lib.hid (bstep hgg hW3.out hb)
          have hE4 := Lib.hid (hE3.out.below hb)
          replace HK := Lib.hid (blk_below HK.out hb)
          clear hb hW3 hE3 x0 x1 x2 x3 x4 x5
          go_wp2
          go_roundw
          case rel => exact ⟨3, rfl, by decide, hW4, HK, hE4⟩
          case measure => simp [intOf]
        · obtain rfl : k = 3 := by omega
          have x0 : wr.cell? ⟨g, 18, none⟩ = some (.int .i64 5) := by rw [blk_cell HK.out 18]; rfl
          have x1 : wr.cell? ⟨g, 19, none⟩ = some (.int .i64 0) := by rw [blk_cell HK.out 19]; rfl
          have x2 : wr.cell? ⟨g, 20, none⟩ = some (.float .f64 0) := by rw [blk_cell HK.out 20]; rfl
          have x3 : wr.cell? ⟨g, 21, none⟩ = some (.string s) := by rw [blk_cell HK.out 21]; rfl
          have x4 : wr.cell? ⟨g, 22, none⟩ = some (.slice none 0 0) := by rw [blk_cell HK.out 22]; rfl
          have x5 : wr.cell? ⟨g, 23, none⟩ = some (.slice none 0 0) := by rw [blk_cell HK.out 23]; rfl
          go_wp2_with fail
          refine (HI.out _ hE.out).mono ?_
          rintro e w3 ⟨rfl, hb⟩
          have hW3 := Lib.hid (bstep hgg hW.out hb)
          have hE3 := Lib.hid (hE.out.below hb)
          replace HK := Lib.hid (blk_below HK.out hb)
          clear hb hW hE x0 x1 x2 x3 x4 x5
          have x0 : w3.cell? ⟨g, 18, none⟩ = some (.int .i64 5) := by rw [blk_cell HK.out 18]; rfl
          have x1 : w3.cell? ⟨g, 19, none⟩ = some (.int .i64 0) := by rw [blk_cell HK.out 19]; rfl
          have x2 : w3.cell? ⟨g, 20, none⟩ = some (.float .f64 0) := by rw [blk_cell HK.out 20]; rfl
          have x3 : w3.cell? ⟨g, 21, none⟩ = some (.string s) := by rw [blk_cell HK.out 21]; rfl
          have x4 : w3.cell? ⟨g, 22, none⟩ = some (.slice none 0 0) := by rw [blk_cell HK.out 22]; rfl
          have x5 : w3.cell? ⟨g, 23, none⟩ = some (.slice none 0 0) := by rw [blk_cell HK.out 23]; rfl
          go_wp2_with fail
          refine (HI6.out _ hE3.out).mono ?_
          rintro e w4 ⟨rfl, hb⟩
          have hW4 := Lib.hid (bstep hgg hW3.out hb)
          have hE4 := Lib.hid (hE3.out.below hb)
          replace HK := Lib.hid (blk_below HK.out hb)
          clear hb hW3 hE3 x0 x1 x2 x3 x4 x5
          go_wp2
          go_roundw
          case rel => exact ⟨4, rfl, by decide, hW4, HK, hE4⟩
          case measure => simp [intOf]
        · obtain rfl : k = 4 := by omega
          have x0 : wr.cell? ⟨g, 24, none⟩ = some (.int .i64 1) := by rw [blk_cell HK.out 24]; rfl
          have x1 : wr.cell? ⟨g, 25, none⟩ = some (.int .i64 0) := by rw [blk_cell HK.out 25]; rfl
          have x2 : wr.cell? ⟨g, 26, none⟩ = some (.float .f64 0) := by rw [blk_cell HK.out 26]; rfl
          have x3 : wr.cell? ⟨g, 27, none⟩ = some (.string ⟨#[]⟩) := by rw [blk_cell HK.out 27]; rfl
          have x4 : wr.cell? ⟨g, 28, none⟩ = some (.slice none 0 0) := by rw [blk_cell HK.out 28]; rfl
          have x5 : wr.cell? ⟨g, 29, none⟩ = some (.slice none 0 0) := by rw [blk_cell HK.out 29]; rfl
          go_wp2_with fail
          refine (implToInt_false _).mono ?_
          rintro e w3 ⟨rfl, hb⟩
          have hW3 := Lib.hid (bstep hgg hW.out hb)
          have hE3 := Lib.hid (hE.out.below hb)
          replace HK := Lib.hid (blk_below HK.out hb)
          clear hb hW hE x0 x1 x2 x3 x4 x5
          have x0 : w3.cell? ⟨g, 24, none⟩ = some (.int .i64 1) := by rw [blk_cell HK.out 24]; rfl
          have x1 : w3.cell? ⟨g, 25, none⟩ = some (.int .i64 0) := by rw [blk_cell HK.out 25]; rfl
          have x2 : w3.cell? ⟨g, 26, none⟩ = some (.float .f64 0) := by rw [blk_cell HK.out 26]; rfl
          have x3 : w3.cell? ⟨g, 27, none⟩ = some (.string ⟨#[]⟩) := by rw [blk_cell HK.out 27]; rfl
          have x4 : w3.cell? ⟨g, 28, none⟩ = some (.slice none 0 0) := by rw [blk_cell HK.out 28]; rfl
          have x5 : w3.cell? ⟨g, 29, none⟩ = some (.slice none 0 0) := by rw [blk_cell HK.out 29]; rfl
          go_wp2_with fail
          refine (implToInt64_false _).mono ?_
          rintro e w4 ⟨rfl, hb⟩
          have hW4 := Lib.hid (bstep hgg hW3.out hb)
          have hE4 := Lib.hid (hE3.out.below hb)
          replace HK := Lib.hid (blk_below HK.out hb)
          clear hb hW3 hE3 x0 x1 x2 x3 x4 x5
          go_wp2
          go_roundw
          case rel => exact ⟨5, rfl, by decide, hW4, HK, hE4⟩
          case measure => simp [intOf]
        · obtain rfl : k = 5 := by omega
          clear HK
          have HB5 := Lib.hid (hW.out.alloc (by rw [← hgg]; exact hW.out.size) (.cells #[.int .i64 1, .int .i64 1, .float .f64 0, .string ⟨#[]⟩, .slice none 0 0, .slice none 0 0] 33))
          have HK := Lib.hid (heap_alloc_new wr (.cells #[.int .i64 1, .int .i64 1, .float .f64 0, .string ⟨#[]⟩, .slice none 0 0, .slice none 0 0] 33))
          go_upto_region 15 with fail
          generalize wr.alloc (.cells #[.int .i64 1, .int .i64 1, .float .f64 0, .string ⟨#[]⟩, .slice none 0 0, .slice none 0 0] 33) = w5 at *
          generalize wr.heap.size = g5 at *
          by_cases c4 : 40 < s.size
          · have d4 : decide (40 < (s.size : Int)) = true := decide_eq_true (by omega)
            go_wp2
            go_ret
            exact ⟨rfl, HB5.out⟩
          · have d4 : decide (40 < (s.size : Int)) = false := decide_eq_false (by omega)
            have e1 : FloatKind.f64.format.order 4607182418800017408 4607182418800017408 = some Ordering.eq := by kernel_rfl
            have x0 : w5.cell? ⟨g5, 0, none⟩ = some (.int .i64 1) := by rw [blk_cell HK.out 0]; rfl
            have x1 : w5.cell? ⟨g5, 1, none⟩ = some (.int .i64 1) := by rw [blk_cell HK.out 1]; rfl
            have x2 : w5.cell? ⟨g5, 2, none⟩ = some (.float .f64 0) := by rw [blk_cell HK.out 2]; rfl
            have x3 : w5.cell? ⟨g5, 3, none⟩ = some (.string ⟨#[]⟩) := by rw [blk_cell HK.out 3]; rfl
            have x4 : w5.cell? ⟨g5, 4, none⟩ = some (.slice none 0 0) := by rw [blk_cell HK.out 4]; rfl
            have x5 : w5.cell? ⟨g5, 5, none⟩ = some (.slice none 0 0) := by rw [blk_cell HK.out 5]; rfl
            go_wp2_with fail
            refine (implToInt_true _).mono ?_
            rintro e w6 ⟨rfl, hb⟩
            have HB6 := Lib.hid (bstep hgg HB5.out hb)
            replace HK := Lib.hid (blk_below HK.out hb)
            clear hb HB5 x0 x1 x2 x3 x4 x5
            have x0 : w6.cell? ⟨g5, 0, none⟩ = some (.int .i64 1) := by rw [blk_cell HK.out 0]; rfl
            have x1 : w6.cell? ⟨g5, 1, none⟩ = some (.int .i64 1) := by rw [blk_cell HK.out 1]; rfl
            have x2 : w6.cell? ⟨g5, 2, none⟩ = some (.float .f64 0) := by rw [blk_cell HK.out 2]; rfl
            have x3 : w6.cell? ⟨g5, 3, none⟩ = some (.string ⟨#[]⟩) := by rw [blk_cell HK.out 3]; rfl
            have x4 : w6.cell? ⟨g5, 4, none⟩ = some (.slice none 0 0) := by rw [blk_cell HK.out 4]; rfl
            have x5 : w6.cell? ⟨g5, 5, none⟩ = some (.slice none 0 0) := by rw [blk_cell HK.out 5]; rfl
            go_wp2_with fail
            refine (implToInt64_true _).mono ?_
            rintro e w7 ⟨rfl, hb⟩
            have HB7 := Lib.hid (bstep hgg HB6.out hb)
            replace HK := Lib.hid (blk_below HK.out hb)
            clear hb HB6 x0 x1 x2 x3 x4 x5
            have x0 : w7.cell? ⟨g5, 0, none⟩ = some (.int .i64 1) := by rw [blk_cell HK.out 0]; rfl
            have x1 : w7.cell? ⟨g5, 1, none⟩ = some (.int .i64 1) := by rw [blk_cell HK.out 1]; rfl
            have x2 : w7.cell? ⟨g5, 2, none⟩ = some (.float .f64 0) := by rw [blk_cell HK.out 2]; rfl
            have x3 : w7.cell? ⟨g5, 3, none⟩ = some (.string ⟨#[]⟩) := by rw [blk_cell HK.out 3]; rfl
            have x4 : w7.cell? ⟨g5, 4, none⟩ = some (.slice none 0 0) := by rw [blk_cell HK.out 4]; rfl
            have x5 : w7.cell? ⟨g5, 5, none⟩ = some (.slice none 0 0) := by rw [blk_cell HK.out 5]; rfl
            go_wp2_with fail
            refine (implToFloat_true _).mono ?_
            rintro e w8 ⟨rfl, hb⟩
            have HB8 := Lib.hid (bstep hgg HB7.out hb)
            replace HK := Lib.hid (blk_below HK.out hb)
            clear hb HB7 x0 x1 x2 x3 x4 x5
            go_wp2
            go_ret
            exact ⟨rfl, by first | exact HB8.out | (rw [hgg]; exact HB8.out)⟩
end Go.Proofs.YtdconkiilelaoaaDoor.P
