/- Simple values (nil, booleans, whole numbers, texts) as interface values; goOf and goList of them. -/
import Derived.Test.YtgjcejgcljjdhaaGreatDoorPx0
import Derived.Test.YtgjcejgcljjdhaaGreatDoorSh
import Derived.Lib.Hide
import Derived.Lib.ItoaLen
set_option linter.unusedVariables false
set_option linter.unusedSimpArgs false
namespace Go.Proofs.YtgjcejgcljjdhaaGreatDoor.P
open Go.RowKit Go.Proofs.YtgjcejgcljjdhaaGreatDoorW.PrintWords Go.Proofs.YtgjcejgcljjdhaaGreatDoorW.PrintLast Go.Proofs.YtgjcejgcljjdhaaGreatDoorW.PrintMore
attribute [local go_sem] run_store_float

/-- A simple value as an interface value. -/
def encV (x : S36) : Value := if x.f0 = 1 then .iface 4 (.bool (x.f1 == 1)) else if x.f0 = 2 then .iface 3 (.int .i64 x.f1) else if x.f0 = 3 then .iface 2 (.int .i64 x.f1) else if x.f0 = 5 then .iface 9 (.string x.f3) else .nilIface
theorem encV_one (x : S36) : (encV x).oneCell' = true := by
  unfold encV
  repeat' split
  all_goals rfl
def kV : Kd S36 := Kd.scalar encV encV_one
/-- How it is written. -/
def txtV (x : S36) : ByteArray := if x.f0 = 1 then ⟨(Lib.formatBool (x.f1 == 1)).toArray⟩ else if x.f0 = 2 then ⟨(Lib.itoa x.f1).toArray⟩ else if x.f0 = 3 then ⟨(Lib.itoa x.f1).toArray⟩ else if x.f0 = 5 then x.f3 else ⟨#[]⟩
def simpV (x : S36) : Bool := decide (x.f0 = 0 ∨ x.f0 = 1 ∨ x.f0 = 2 ∨ x.f0 = 3 ∨ x.f0 = 5) && decide (x.f3.size ≤ 500) && decide (-9223372036854775808 ≤ x.f1) && decide (x.f1 ≤ 9223372036854775807)
theorem simpV_out {x : S36} (h : simpV x = true) : (x.f0 = 0 ∨ x.f0 = 1 ∨ x.f0 = 2 ∨ x.f0 = 3 ∨ x.f0 = 5) ∧ x.f3.size ≤ 500 ∧ -9223372036854775808 ≤ x.f1 ∧ x.f1 ≤ 9223372036854775807 := by
  simp only [simpV, Bool.and_eq_true, decide_eq_true_eq] at h
  exact ⟨h.1.1.1, h.1.1.2, h.1.2, h.2⟩
def fullV (x : S36) : Bool := x.f0 != 0
theorem encV_cases {x : S36} (h : simpV x = true) : (x.f0 = 0 ∧ encV x = .nilIface ∧ fullV x = false) ∨ (fullV x = true ∧ ((∃ b, encV x = .iface 4 (.bool b) ∧ txtV x = ⟨(Lib.formatBool b).toArray⟩) ∨ (∃ n, -9223372036854775808 ≤ n ∧ n ≤ 9223372036854775807 ∧ encV x = .iface 3 (.int .i64 n) ∧ txtV x = ⟨(Lib.itoa n).toArray⟩) ∨ (∃ n, -9223372036854775808 ≤ n ∧ n ≤ 9223372036854775807 ∧ encV x = .iface 2 (.int .i64 n) ∧ txtV x = ⟨(Lib.itoa n).toArray⟩) ∨ (encV x = .iface 9 (.string (txtV x))))) := by
  obtain ⟨h0, _, h2, h3⟩ := simpV_out h
  rcases h0 with h0 | h0 | h0 | h0 | h0
  · exact .inl ⟨h0, by simp [encV, h0], by simp [fullV, h0]⟩
  · exact .inr ⟨by simp [fullV, h0], .inl ⟨_, by simp [encV, h0]; rfl, by simp [txtV, h0]⟩⟩
  · exact .inr ⟨by simp [fullV, h0], .inr (.inl ⟨_, h2, h3, by simp [encV, h0], by simp [txtV, h0]⟩)⟩
  · exact .inr ⟨by simp [fullV, h0], .inr (.inr (.inl ⟨_, h2, h3, by simp [encV, h0], by simp [txtV, h0]⟩))⟩
  · exact .inr ⟨by simp [fullV, h0], .inr (.inr (.inr (by simp [encV, txtV, h0])))⟩
theorem encV_shape {x : S36} (h : simpV x = true) : encV x = .nilIface ∨ ∃ t u, encV x = .iface t u := by
  rcases encV_cases h with ⟨_, h, _⟩ | ⟨_, ⟨b, h, _⟩ | ⟨n, _, _, h, _⟩ | ⟨n, _, _, h, _⟩ | h⟩
  · exact .inl h
  all_goals exact .inr ⟨_, _, h⟩
theorem txtV_size {x : S36} (h : simpV x = true) : (txtV x).size ≤ 500 := by
  obtain ⟨h0, h1, h2, h3⟩ := simpV_out h
  unfold txtV
  have hi : ∀ n : Int, -9223372036854775808 ≤ n → n ≤ 9223372036854775807 → (⟨(Lib.itoa n).toArray⟩ : ByteArray).size ≤ 500 := fun n a b => by
    have := Lib.itoa_length_le n a b
    show (Lib.itoa n).toArray.size ≤ 500
    simp
    omega
  have hb : ∀ b : Bool, (⟨(Lib.formatBool b).toArray⟩ : ByteArray).size ≤ 500 := fun b => by cases b <;> decide +kernel
  split
  · exact hb _
  · split
    · exact hi _ h2 h3
    · split
      · exact hi _ h2 h3
      · split
        · exact h1
        · decide
set_option maxHeartbeats 3200000 in
set_option maxRecDepth 100000 in
theorem goOf_simple (x : S36) (A4 : Option Addr) (c4 : Nat) (A5 : Option Addr) (c5 : Nat) (w : World) (hx : simpV x = true) :
    Calls Tryz.prog 28 #[.agg #[.int .i64 x.f0, .int .i64 x.f1, .float .f64 x.f2, .string x.f3, .slice A4 x.f4.length c4, .slice A5 x.f5.length c5]] w fun e w' => e = .returned (.tuple #[encV x, .bool true]) ∧ Below w.heap.size w w' := by
  obtain ⟨h0, -⟩ := simpV_out hx
  obtain ⟨f0, f1, f2, f3, f4, f5⟩ := x
  simp only at *
  have HB := Lib.hid (fun o => (Below.refl w.heap.size w).alloc (Nat.le_refl _) o)
  clear hx
  rcases h0 with rfl | rfl | rfl | rfl | rfl
  all_goals
    go_enter Tryz.func28, Tryz.ntmps28
    go_wp2
    go_ret2
    exact ⟨by simp [encV], HB.out _⟩
theorem info_any : (Tryz.prog.info? 20).map (fun i => (i.zero, i.size, i.bytes)) = some (some .nilIface, 1, 16) := by kernel_rfl
theorem getD_mem {l : List S36} {k : Nat} (h : k < l.length) : l.getD k z36 ∈ l := by
  rw [List.getD_eq_getElem?_getD, List.getElem?_eq_getElem h]
  exact List.getElem_mem h
theorem take_getD {l : List S36} {k : Nat} (h : k < l.length) : l.take (k + 1) = l.take k ++ [l.getD k z36] := by
  rw [List.take_succ_eq_append_getElem h, List.getD_eq_getElem?_getD, List.getElem?_eq_getElem h]
  rfl
set_option maxHeartbeats 3200000 in
set_option maxRecDepth 100000 in
theorem goList_simple (l : List S36) (A : Option Addr) (c : Nat) (w : World) (hs : ∀ x ∈ l, simpV x = true) (hl : l.length ≤ 1000) (hc : k36.C w A l.length l) :
    Calls Tryz.prog 22 #[.slice A l.length c] w fun e w' => ∃ u, e = .returned (.tuple #[u, .bool true]) ∧ kV.R 20 w' w.heap.size (fun _ => True) u l ∧ Below w.heap.size w w' := by
  have HF := Lib.hid hs
  have HC := Lib.hid hc
  clear hs hc
  obtain ⟨N, hNN⟩ : ∃ N, N = l.length := ⟨_, rfl⟩
  have HN := Lib.hid hNN
  rw [← hNN] at hl ⊢
  clear hNN
  have HG := Lib.hid (show kV.R 20 (w.alloc (.cells #[] 20)) w.heap.size (fun _ => True) (.slice (some ⟨w.heap.size, 0, none⟩) 0 0) [] from ⟨fun _ _ => trivial, OwnRow.lit (inner := []) w w.heap.size (Reps.none _ _) (Nat.le_refl _) (by decide)⟩)
  have HB := Lib.hid ((Below.refl w.heap.size w).alloc (Nat.le_refl _) (.cells #[] 20))
  have HS := Lib.hid (show w.heap.size ≤ (w.alloc (.cells #[] 20)).heap.size by simp)
  go_enter Tryz.func22, Tryz.ntmps22
  go_wp2
  go_loopw [4, 12] (fun v i wr => ∃ (k : Nat) (v' : Value), v' = v ∧ i = .int .i64 k ∧ k ≤ N ∧ Hid (kV.R 20 wr w.heap.size (fun _ => True) v' (l.take k)) ∧ Hid (Below w.heap.size w wr) ∧ Hid (w.heap.size ≤ wr.heap.size)) (fun _ i _ => N - (intOf i).toNat)
  case atStart => exact ⟨0, _, rfl, rfl, Nat.zero_le _, by rw [List.take_zero]; exact HG, HB, HS⟩
  case round =>
    clear HG HB HS
    obtain ⟨k, v, rfl, rfl, hk, hG, hB, hS⟩ := hrel
    by_cases ck : k < N
    · obtain ⟨ad, A4, c4, A5, c5, rfl, q0, q1, q2, q3, q4, q5, l4, g4, l5, g5⟩ := at_T36 (Kd.C_below HC.out hB.out) (k : Int) (by omega) (by rw [← HN.out]; omega)
      simp only [Int.toNat_natCast] at q0 q1 q2 q3 q4 q5
      have hkl : k < l.length := by rw [← HN.out]; exact ck
      have hkd : rd_T36 l (k : Int) = l.getD k z36 := by unfold rd_T36; rw [Int.toNat_natCast]
      have hsx : simpV (rd_T36 l (k : Int)) = true := by rw [hkd]; exact HF.out _ (getD_mem hkl)
      have HTK := Lib.hid (show l.take (k + 1) = l.take k ++ [rd_T36 l (k : Int)] by rw [hkd]; exact take_getD hkl)
      have HLT := Lib.hid (show (l.take k).length = k by rw [List.length_take]; omega)
      have HSX := Lib.hid hsx
      have hsh := encV_shape hsx
      clear g4 g5 hkd hkl hsx
      generalize rd_T36 l (k : Int) = x at *
      go_wp2_with fail
      refine (goOf_simple x A4 c4 A5 c5 _ HSX.out).mono ?_
      rintro e w2 ⟨rfl, hb⟩
      have hb0 : Below wr.heap.size wr w2 := ((Below.refl wr.heap.size wr).alloc (Nat.le_refl _) _).trans (hb.mono (by simp))
      have HG2 := Lib.hid (Kd.R_below hG.out hb0)
      have HB2 := Lib.hid (hB.out.trans (hb0.mono hS.out))
      have HS2 := Lib.hid (Nat.le_trans hS.out hb0.size)
      have HM := Lib.hid (show kV.M w2 w.heap.size (fun _ => False) x [encV x] from rfl)
      clear hb hb0 q0 q1 q2 q3 q4 q5 hG hB hS
      generalize hyy : encV x = y at *
      clear hyy
      rcases hsh with rfl | ⟨t, u, rfl⟩
      all_goals
        go_wp2_with (at_builtin; first | (refine Kd.R_append kV (w0 := w) w.heap.size rfl _ _ 42 20 .nilIface 16 rfl Tryz.underlying42 info_any rfl (Nat.succ_pos 0) (by decide) v (l.take k) x [.nilIface] (fun _ => True) (fun _ => False) rfl rfl HM.out (fun _ h => h.elim) (fun _ _ => trivial) HG2.out HB2.out HS2.out (by rw [HLT.out]; omega) ?_) | (refine Kd.R_append kV (w0 := w) w.heap.size rfl _ _ 42 20 .nilIface 16 rfl Tryz.underlying42 info_any rfl (Nat.succ_pos 0) (by decide) v (l.take k) x [.iface t u] (fun _ => True) (fun _ => False) rfl rfl HM.out (fun _ h => h.elim) (fun _ _ => trivial) HG2.out HB2.out HS2.out (by rw [HLT.out]; omega) ?_))
        intro v1 w3 h1 hb3 hgr hat
        have HG3 := Lib.hid (show kV.R 20 w3 w.heap.size (fun _ => True) v1 (l.take (k + 1)) by rw [HTK.out]; exact h1)
        have HB3 := Lib.hid hb3
        have HS3 := Lib.hid (Nat.le_trans HS2.out hgr.size)
        clear h1 hb3 hgr hat HG2 HB2 HS2 HTK HLT HM
        go_wp2
        go_roundw
        case rel => exact ⟨k + 1, v1, rfl, by go_num, by omega, HG3, HB3, HS3⟩
        case measure => simp [intOf]; omega
    · have hkn : k = N := by omega
      subst hkn
      have HG3 := Lib.hid (show kV.R 20 wr w.heap.size (fun _ => True) v l by have := hG.out; rwa [HN.out, List.take_length] at this)
      clear hG
      go_wp2
      go_ret2
      exact ⟨v, rfl, HG3.out, hB.out⟩
end Go.Proofs.YtgjcejgcljjdhaaGreatDoor.P
