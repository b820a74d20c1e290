/- Numbers: impl.Add, Sub, Max, Min, Mul of int64. -/
import Derived.Test.YtgjcejgcljjdhaaDoorPx0
import Derived.Laws.AppendOwn
import Derived.Lib.Hide
set_option linter.unusedVariables false
set_option linter.unusedSimpArgs false
namespace Go.Proofs.YtgjcejgcljjdhaaDoor.P
open Go.RowKit Go.Proofs.YtgjcejgcljjdhaaDoorW.PrintWords Go.Proofs.YtgjcejgcljjdhaaDoorW.PrintLast Go.Proofs.YtgjcejgcljjdhaaDoorW.PrintMore
def ifs (l : List Int) : List Value := l.map fun a => Value.iface 2 (.int .i64 a)
theorem ifs_snoc (l : List Int) (a : Int) : ifs (l ++ [a]) = ifs l ++ [.iface 2 (.int .i64 a)] := by simp [ifs]
theorem ifs_length (l : List Int) : (ifs l).length = l.length := by simp [ifs]
theorem take_rd (l : List Int) (k : Nat) (h : k < l.length) : l.take (k + 1) = l.take k ++ [rd l k] := by
  rw [List.take_succ_eq_append_getElem h]
  congr 2
  simp [rd, List.getD_eq_getElem?_getD, h]
theorem own_base_le {w : World} {base : Nat} {e : TypeId} {size : Nat} {v : Value} {n : Nat} {xs : List Value} (h : w.ownsRow base e size v n xs) {q : Nat} (hq : v.ownBlock = some q) : base ≤ q := by
  obtain ⟨_, ⟨rfl, _⟩ | ⟨g, cap, cur, rfl, hb, _⟩⟩ := h
  · simp [Value.ownBlock] at hq
  · simp [Value.ownBlock] at hq
    omega
set_option maxHeartbeats 1600000 in
set_option maxRecDepth 100000 in
theorem impl_anys.row (A0 : Option Addr) (c0 : Nat) (l : List Int) (w : World) (hr : Kd.C (Kd.int .i64) w A0 l.length l) (hn : l.length ≤ 1000000) :
    Calls Tryd.prog 24 #[.slice A0 l.length c0] w fun e w' => ∃ v, e = .returned v ∧ w'.ownsRow w.heap.size 20 1 v l.length (ifs l) ∧ Below w.heap.size w w' := by
  obtain ⟨i0, hi, hz0, hz1, hz2⟩ := info_parts (show (Tryd.prog.info? 20).map (fun i => (i.zero, i.size, i.bytes)) = some (some .nilIface, 1, 16) by kernel_rfl)
  have HC := Lib.hid hr
  clear hr
  obtain ⟨n, hnn⟩ : ∃ n, n = l.length := ⟨_, rfl⟩
  have HN := Lib.hid hnn
  rw [← hnn] at hn
  rw [← hnn]
  clear hnn
  go_enter Tryd.func24, Tryd.ntmps24
  go_wp2
  go_loopw [3, 5, 8] (fun v x i w' => ∃ (k : Nat) (xv : Value), x = xv ∧ i = .int .i64 k ∧ k ≤ n ∧ Hid (w'.ownsRow w.heap.size 20 1 v k (ifs (l.take k))) ∧ Hid (Below w.heap.size w w')) (fun _ _ i _ => n - (intOf i).toNat)
  case atStart => exact ⟨0, _, rfl, rfl, Nat.zero_le _, Lib.hid ⟨rfl, Or.inl ⟨rfl, rfl⟩⟩, Lib.hid (Below.refl _ _)⟩
  case round =>
    obtain ⟨k, xv, rfl, rfl, hk, hO, hB⟩ := hrel
    by_cases ck : k < n
    · obtain ⟨ad, rfl, hcell0⟩ := Kd.at_int (Kd.C_below HC.out hB.out) (k : Int) (by omega) (by rw [← HN.out]; omega)
      have hcell : wr.cell? (ad.add k) = some (.int .i64 (rd l k)) := hcell0
      clear hcell0
      have hO2 := Lib.hid (hO.out.alloc (.cells #[.iface 2 (.int .i64 (rd l k))] 20))
      have hsz : Hid (w.heap.size ≤ wr.heap.size) := Lib.hid hB.out.size
      have hnx := Lib.hid (take_rd l k (by rw [← HN.out]; exact ck))
      go_wp2_with (first | (at_builtin; refine wpList_append_own _ rfl _ _ 45 rfl w.heap.size 20 i0 .nilIface 1 16 Tryd.underlying45 hi hz0 hz1 hz2 rfl (by decide) _ k _ rfl hO2.out ⟨wr.heap.size, 0, none⟩ 1 1 [.iface 2 (.int .i64 (rd l k))] rfl rfl ?_ ?_ (by unfold maxLen; omega) (by omega) (by simp; exact Nat.le_trans hsz.out (by omega)) ?_) | fail)
      · intro j u hu
        cases j with
        | zero =>
          simp only [List.getElem?_cons_zero, Option.some.injEq] at hu
          subst hu
          rw [Addr.add_lit]
          exact cell_of_one (heap_alloc_new _ _)
        | succ j => simp at hu
      · intro u hu
        rw [List.mem_singleton.1 hu]
        rfl
      · intro v' w1 hown hg _
        have hO3 := Lib.hid (show w1.ownsRow w.heap.size 20 1 v' (k + 1) (ifs (l.take (k + 1))) by rw [hnx.out, ifs_snoc]; exact hown)
        have hB3 := Lib.hid (Below.grown (hB.out.alloc hsz.out _) hg (by simp; exact Nat.le_trans hsz.out (by omega)) (fun q hq => own_base_le hO2.out hq))
        clear hown hg hO hO2 hB hcell
        go_wp2
        go_roundw
        case rel => exact ⟨k + 1, _, rfl, by go_num, by omega, hO3, hB3⟩
        case measure => simp [intOf]; omega
    · have hkn : k = n := by omega
      subst hkn
      have hall : l.take k = l := by rw [HN.out, List.take_length]
      have hO3 := Lib.hid (show wr.ownsRow w.heap.size 20 1 u3 k (ifs l) by have := hO.out; rw [hall] at this; exact this)
      clear hO hall
      go_wp2
      go_ret
      exact ⟨_, rfl, hO3.out, hB.out⟩
set_option maxHeartbeats 800000 in
set_option maxRecDepth 100000 in
theorem cast_ToInt64.i64 (a : Int) (w : World) :
    Calls Tryd.prog 47 #[.iface 2 (.int .i64 a)] w fun e w' => e = .returned (.int .i64 a) ∧ w = w' := by
  have hta : ∀ W : World, (Instr.typeAssert (Value.iface 2 (Value.int .i64 a)) 20 2 true).run Tryd.prog W = .ok (.tuple #[.int .i64 a, .bool true]) W := fun _ => by kernel_rfl
  go_enter Tryd.func47, Tryd.ntmps47
  go_wp2
  go_ret
  exact ⟨rfl, rfl⟩
def sum64 (l : List Int) : Int := l.foldl (fun a b => wrap64 (a + b)) 0
theorem sum64_snoc (l : List Int) (a : Int) : sum64 (l ++ [a]) = wrap64 (sum64 l + a) := by simp [sum64]
theorem ifs_at (l : List Int) (k : Nat) (h : k < l.length) : (ifs l)[k]? = some (.iface 2 (.int .i64 (rd l k))) := by
  simp [ifs, rd, List.getD_eq_getElem?_getD, h]
set_option maxHeartbeats 1600000 in
set_option maxRecDepth 100000 in
theorem sprig_add.row (B : Nat) (v : Value) (l : List Int) (w : World) (ho : w.ownsRow B 20 1 v l.length (ifs l)) (hn : l.length ≤ 1000000) :
    Calls Tryd.prog 39 #[v] w fun e w' => e = .returned (.int .i64 (sum64 l)) ∧ w = w' := by
  obtain ⟨n, hnn⟩ : ∃ n, n = l.length := ⟨_, rfl⟩
  have HN := Lib.hid hnn
  rw [← hnn] at hn ho
  clear hnn
  have HO := Lib.hid ho
  obtain ⟨A, c, rfl⟩ : ∃ A c, v = .slice A n c := by
    obtain ⟨_, ⟨rfl, rfl⟩ | ⟨g, cap, cur, rfl, _⟩⟩ := ho
    · exact ⟨_, _, rfl⟩
    · exact ⟨_, _, rfl⟩
  clear ho
  go_enter Tryd.func39, Tryd.ntmps39
  go_wp2
  go_loop [3, 5, 8] (fun s x i => ∃ (k : Nat) (xv : Value), s = .int .i64 (sum64 (l.take k)) ∧ x = xv ∧ i = .int .i64 k ∧ k ≤ n) (fun _ _ i => n - (intOf i).toNat)
  case atStart => exact ⟨0, _, rfl, rfl, rfl, Nat.zero_le _⟩
  case round =>
    obtain ⟨k, xv, rfl, rfl, rfl, hk⟩ := hrel
    by_cases ck : k < n
    · obtain ⟨g, rfl⟩ : ∃ g, A = some ⟨g, 0, none⟩ := by
        obtain ⟨_, ⟨h, h0⟩ | ⟨g, cap, cur, h, _⟩⟩ := HO.out
        · omega
        · injection h with h _ _
          exact ⟨g, h⟩
      have hcell : w.cell? ⟨g, k, none⟩ = some (.iface 2 (.int .i64 (rd l k))) := by
        have := HO.out.cells (g := g) rfl k _ (ifs_at l k (by rw [← HN.out]; exact ck))
        rw [Addr.add_lit, Nat.zero_add] at this
        exact this
      have hnx := Lib.hid (show sum64 (l.take (k + 1)) = wrap64 (sum64 (l.take k) + rd l k) by rw [take_rd l k (by rw [← HN.out]; exact ck), sum64_snoc])
      go_wp2_with (first | (go_at_call 47; ((with_reducible refine (cast_ToInt64.i64 _ _).mono ?_)); rintro e w' ⟨rfl, rfl⟩) | go_in)
      go_round
      case rel => exact ⟨k + 1, _, by rw [hnx.out], rfl, by go_num, by omega⟩
      case measure => simp [intOf]; omega
    · have hkn : k = n := by omega
      subst hkn
      have hall := Lib.hid (show l.take k = l by rw [HN.out, List.take_length])
      go_wp2
      go_ret
      exact ⟨congrArg (fun z => Ending.returned (Value.int .i64 (sum64 z))) hall.out, rfl⟩
def impl_Sub.f (a0 a1 : Int) : Option Int := some (wrap64 (a0 - a1))
set_option maxRecDepth 100000 in
theorem impl_Sub.calls (a0 a1 : Int) (r : Int) (w : World) (h : impl_Sub.f a0 a1 = some r) :
    Calls Tryd.prog 12 #[.int .i64 a0, .int .i64 a1] w fun e w' => e = .returned (.int .i64 r) ∧ Below w.heap.size w w' := by
  injection h with h
  have HR := Lib.hid h
  clear h
  go_enter Tryd.func12, Tryd.ntmps12
  go_wp2_with (first | (go_at_call 47; ((with_reducible refine (cast_ToInt64.i64 _ _).mono ?_)); rintro e w' ⟨rfl, rfl⟩) | go_in)
  go_ret
  exact ⟨by have q := HR.out; subst q; rfl, Below.refl _ _⟩
def max64 (l : List Int) (a : Int) : Int := l.foldl (fun a b => if a < b then b else a) a
theorem max64_snoc (l : List Int) (z a : Int) : max64 (l ++ [a]) z = (fun a b => if a < b then b else a) (max64 l z) a := by unfold max64; rw [List.foldl_append]; rfl
set_option maxHeartbeats 1600000 in
set_option maxRecDepth 100000 in
theorem sprig_max.row (B : Nat) (v : Value) (z : Int) (l : List Int) (w : World) (ho : w.ownsRow B 20 1 v l.length (ifs l)) (hn : l.length ≤ 1000000) :
    Calls Tryd.prog 36 #[.iface 2 (.int .i64 z), v] w fun e w' => e = .returned (.int .i64 (max64 l z)) ∧ w = w' := by
  obtain ⟨n, hnn⟩ : ∃ n, n = l.length := ⟨_, rfl⟩
  have HN := Lib.hid hnn
  rw [← hnn] at hn ho
  clear hnn
  have HO := Lib.hid ho
  obtain ⟨A, c, rfl⟩ : ∃ A c, v = .slice A n c := by
    obtain ⟨_, ⟨rfl, rfl⟩ | ⟨g, cap, cur, rfl, _⟩⟩ := ho
    · exact ⟨_, _, rfl⟩
    · exact ⟨_, _, rfl⟩
  clear ho
  go_enter Tryd.func36, Tryd.ntmps36
  go_wp2_with (first | (go_at_call 47; ((with_reducible refine (cast_ToInt64.i64 _ _).mono ?_)); rintro e w' ⟨rfl, rfl⟩) | go_in)
  go_loop [5, 7, 8, 13] (fun s x y i => ∃ (k : Nat) (xv yv : Value), s = .int .i64 (max64 (l.take k) z) ∧ x = xv ∧ y = yv ∧ i = .int .i64 k ∧ k ≤ n) (fun _ _ _ i => n - (intOf i).toNat)
  case atStart => exact ⟨0, _, _, rfl, rfl, rfl, rfl, Nat.zero_le _⟩
  case round =>
    obtain ⟨k, xv, yv, rfl, rfl, rfl, rfl, hk⟩ := hrel
    by_cases ck : k < n
    · obtain ⟨g, rfl⟩ : ∃ g, A = some ⟨g, 0, none⟩ := by
        obtain ⟨_, ⟨h, h0⟩ | ⟨g, cap, cur, h, _⟩⟩ := HO.out
        · omega
        · injection h with h _ _
          exact ⟨g, h⟩
      have hcell : w.cell? ⟨g, k, none⟩ = some (.iface 2 (.int .i64 (rd l k))) := by
        have := HO.out.cells (g := g) rfl k _ (ifs_at l k (by rw [← HN.out]; exact ck))
        rw [Addr.add_lit, Nat.zero_add] at this
        exact this
      have hnx := Lib.hid (show max64 (l.take (k + 1)) z = (fun a b => if a < b then b else a) (max64 (l.take k) z) (rd l k) by rw [take_rd l k (by rw [← HN.out]; exact ck), max64_snoc])
      obtain ⟨m, hm⟩ : ∃ m, m = max64 (l.take k) z := ⟨_, rfl⟩
      obtain ⟨q, hq⟩ : ∃ q, q = rd l k := ⟨_, rfl⟩
      rw [← hm, ← hq] at hnx
      rw [← hm]
      rw [← hq] at hcell
      clear hm hq
      by_cases hc : m < q
      · have hn2 := Lib.hid (show q = _ by have := hnx.out; simp only [hc, if_true] at this; exact this.symm)
        have hd : decide (m < q) = true := decide_eq_true hc
        clear hnx
        go_wp2_with (first | (go_at_call 47; ((with_reducible refine (cast_ToInt64.i64 _ _).mono ?_)); rintro e w' ⟨rfl, rfl⟩) | go_in)
        go_round
        case rel => exact ⟨k + 1, _, _, congrArg (Value.int .i64) hn2.out, rfl, rfl, by go_num, by omega⟩
        case measure => simp [intOf]; omega
      · have hn2 := Lib.hid (show m = _ by have := hnx.out; simp only [hc, if_false] at this; exact this.symm)
        have hd : decide (m < q) = false := decide_eq_false hc
        clear hnx
        go_wp2_with (first | (go_at_call 47; ((with_reducible refine (cast_ToInt64.i64 _ _).mono ?_)); rintro e w' ⟨rfl, rfl⟩) | go_in)
        go_round
        case rel => exact ⟨k + 1, _, _, congrArg (Value.int .i64) hn2.out, rfl, rfl, by go_num, by omega⟩
        case measure => simp [intOf]; omega
    · have hkn : k = n := by omega
      subst hkn
      have hall := Lib.hid (show l.take k = l by rw [HN.out, List.take_length])
      go_wp2
      go_ret
      exact ⟨congrArg (fun y => Ending.returned (Value.int .i64 (max64 y z))) hall.out, rfl⟩
def min64 (l : List Int) (a : Int) : Int := l.foldl (fun a b => if b < a then b else a) a
theorem min64_snoc (l : List Int) (z a : Int) : min64 (l ++ [a]) z = (fun a b => if b < a then b else a) (min64 l z) a := by unfold min64; rw [List.foldl_append]; rfl
set_option maxHeartbeats 1600000 in
set_option maxRecDepth 100000 in
theorem sprig_min.row (B : Nat) (v : Value) (z : Int) (l : List Int) (w : World) (ho : w.ownsRow B 20 1 v l.length (ifs l)) (hn : l.length ≤ 1000000) :
    Calls Tryd.prog 37 #[.iface 2 (.int .i64 z), v] w fun e w' => e = .returned (.int .i64 (min64 l z)) ∧ w = w' := by
  obtain ⟨n, hnn⟩ : ∃ n, n = l.length := ⟨_, rfl⟩
  have HN := Lib.hid hnn
  rw [← hnn] at hn ho
  clear hnn
  have HO := Lib.hid ho
  obtain ⟨A, c, rfl⟩ : ∃ A c, v = .slice A n c := by
    obtain ⟨_, ⟨rfl, rfl⟩ | ⟨g, cap, cur, rfl, _⟩⟩ := ho
    · exact ⟨_, _, rfl⟩
    · exact ⟨_, _, rfl⟩
  clear ho
  go_enter Tryd.func37, Tryd.ntmps37
  go_wp2_with (first | (go_at_call 47; ((with_reducible refine (cast_ToInt64.i64 _ _).mono ?_)); rintro e w' ⟨rfl, rfl⟩) | go_in)
  go_loop [5, 7, 8, 13] (fun s x y i => ∃ (k : Nat) (xv yv : Value), s = .int .i64 (min64 (l.take k) z) ∧ x = xv ∧ y = yv ∧ i = .int .i64 k ∧ k ≤ n) (fun _ _ _ i => n - (intOf i).toNat)
  case atStart => exact ⟨0, _, _, rfl, rfl, rfl, rfl, Nat.zero_le _⟩
  case round =>
    obtain ⟨k, xv, yv, rfl, rfl, rfl, rfl, hk⟩ := hrel
    by_cases ck : k < n
    · obtain ⟨g, rfl⟩ : ∃ g, A = some ⟨g, 0, none⟩ := by
        obtain ⟨_, ⟨h, h0⟩ | ⟨g, cap, cur, h, _⟩⟩ := HO.out
        · omega
        · injection h with h _ _
          exact ⟨g, h⟩
      have hcell : w.cell? ⟨g, k, none⟩ = some (.iface 2 (.int .i64 (rd l k))) := by
        have := HO.out.cells (g := g) rfl k _ (ifs_at l k (by rw [← HN.out]; exact ck))
        rw [Addr.add_lit, Nat.zero_add] at this
        exact this
      have hnx := Lib.hid (show min64 (l.take (k + 1)) z = (fun a b => if b < a then b else a) (min64 (l.take k) z) (rd l k) by rw [take_rd l k (by rw [← HN.out]; exact ck), min64_snoc])
      obtain ⟨m, hm⟩ : ∃ m, m = min64 (l.take k) z := ⟨_, rfl⟩
      obtain ⟨q, hq⟩ : ∃ q, q = rd l k := ⟨_, rfl⟩
      rw [← hm, ← hq] at hnx
      rw [← hm]
      rw [← hq] at hcell
      clear hm hq
      by_cases hc : q < m
      · have hn2 := Lib.hid (show q = _ by have := hnx.out; simp only [hc, if_true] at this; exact this.symm)
        have hd : decide (q < m) = true := decide_eq_true hc
        clear hnx
        go_wp2_with (first | (go_at_call 47; ((with_reducible refine (cast_ToInt64.i64 _ _).mono ?_)); rintro e w' ⟨rfl, rfl⟩) | go_in)
        go_round
        case rel => exact ⟨k + 1, _, _, congrArg (Value.int .i64) hn2.out, rfl, rfl, by go_num, by omega⟩
        case measure => simp [intOf]; omega
      · have hn2 := Lib.hid (show m = _ by have := hnx.out; simp only [hc, if_false] at this; exact this.symm)
        have hd : decide (q < m) = false := decide_eq_false hc
        clear hnx
        go_wp2_with (first | (go_at_call 47; ((with_reducible refine (cast_ToInt64.i64 _ _).mono ?_)); rintro e w' ⟨rfl, rfl⟩) | go_in)
        go_round
        case rel => exact ⟨k + 1, _, _, congrArg (Value.int .i64) hn2.out, rfl, rfl, by go_num, by omega⟩
        case measure => simp [intOf]; omega
    · have hkn : k = n := by omega
      subst hkn
      have hall := Lib.hid (show l.take k = l by rw [HN.out, List.take_length])
      go_wp2
      go_ret
      exact ⟨congrArg (fun y => Ending.returned (Value.int .i64 (min64 y z))) hall.out, rfl⟩
def mul64 (l : List Int) (a : Int) : Int := l.foldl (fun a b => wrap64 (a * b)) a
theorem mul64_snoc (l : List Int) (z a : Int) : mul64 (l ++ [a]) z = (fun a b => wrap64 (a * b)) (mul64 l z) a := by unfold mul64; rw [List.foldl_append]; rfl
set_option maxHeartbeats 1600000 in
set_option maxRecDepth 100000 in
theorem sprig_mul.row (B : Nat) (v : Value) (z : Int) (l : List Int) (w : World) (ho : w.ownsRow B 20 1 v l.length (ifs l)) (hn : l.length ≤ 1000000) :
    Calls Tryd.prog 40 #[.iface 2 (.int .i64 z), v] w fun e w' => e = .returned (.int .i64 (mul64 l z)) ∧ w = w' := by
  obtain ⟨n, hnn⟩ : ∃ n, n = l.length := ⟨_, rfl⟩
  have HN := Lib.hid hnn
  rw [← hnn] at hn ho
  clear hnn
  have HO := Lib.hid ho
  obtain ⟨A, c, rfl⟩ : ∃ A c, v = .slice A n c := by
    obtain ⟨_, ⟨rfl, rfl⟩ | ⟨g, cap, cur, rfl, _⟩⟩ := ho
    · exact ⟨_, _, rfl⟩
    · exact ⟨_, _, rfl⟩
  clear ho
  go_enter Tryd.func40, Tryd.ntmps40
  go_wp2_with (first | (go_at_call 47; ((with_reducible refine (cast_ToInt64.i64 _ _).mono ?_)); rintro e w' ⟨rfl, rfl⟩) | go_in)
  go_loop [5, 7, 12] (fun s x i => ∃ (k : Nat) (xv yv : Value), s = .int .i64 (mul64 (l.take k) z) ∧ x = xv ∧ i = .int .i64 k ∧ k ≤ n) (fun _ _ i => n - (intOf i).toNat)
  case atStart => exact ⟨0, _, undef, rfl, rfl, rfl, Nat.zero_le _⟩
  case round =>
    obtain ⟨k, xv, yv, rfl, rfl, rfl, hk⟩ := hrel
    by_cases ck : k < n
    · obtain ⟨g, rfl⟩ : ∃ g, A = some ⟨g, 0, none⟩ := by
        obtain ⟨_, ⟨h, h0⟩ | ⟨g, cap, cur, h, _⟩⟩ := HO.out
        · omega
        · injection h with h _ _
          exact ⟨g, h⟩
      have hcell : w.cell? ⟨g, k, none⟩ = some (.iface 2 (.int .i64 (rd l k))) := by
        have := HO.out.cells (g := g) rfl k _ (ifs_at l k (by rw [← HN.out]; exact ck))
        rw [Addr.add_lit, Nat.zero_add] at this
        exact this
      have hnx := Lib.hid (show mul64 (l.take (k + 1)) z = (fun a b => wrap64 (a * b)) (mul64 (l.take k) z) (rd l k) by rw [take_rd l k (by rw [← HN.out]; exact ck), mul64_snoc])
      obtain ⟨m, hm⟩ : ∃ m, m = mul64 (l.take k) z := ⟨_, rfl⟩
      obtain ⟨q, hq⟩ : ∃ q, q = rd l k := ⟨_, rfl⟩
      rw [← hm, ← hq] at hnx
      rw [← hm]
      rw [← hq] at hcell
      clear hm hq
      go_wp2_with (first | (go_at_call 47; ((with_reducible refine (cast_ToInt64.i64 _ _).mono ?_)); rintro e w' ⟨rfl, rfl⟩) | go_in)
      go_round
      case rel => exact ⟨k + 1, _, undef, by rw [hnx.out], rfl, by go_num, by omega⟩
      case measure => simp [intOf]; omega
    · have hkn : k = n := by omega
      subst hkn
      have hall := Lib.hid (show l.take k = l by rw [HN.out, List.take_length])
      go_wp2
      go_ret
      exact ⟨congrArg (fun y => Ending.returned (Value.int .i64 (mul64 y z))) hall.out, rfl⟩
set_option maxHeartbeats 1600000 in
set_option maxRecDepth 100000 in
theorem implAdd (A0 : Option Addr) (c0 : Nat) (l0 : List Int) (w : World) (hr0 : Kd.C (Kd.int .i64) w A0 l0.length l0) (hn : l0.length ≤ 1000000) :
    Calls Tryd.prog 13 #[.slice A0 l0.length c0] w fun e w' => e = .returned (.int .i64 (sum64 l0)) ∧ Below w.heap.size w w' := by
  have H0 := Lib.hid (impl_anys.row A0 c0 l0 w hr0 hn)
  clear hr0
  go_enter Tryd.func13, Tryd.ntmps13
  go_wp2_with fail
  refine H0.out.mono ?_
  rintro e w1 ⟨v, rfl, ho, hb⟩
  have HO := Lib.hid ho
  have HB := Lib.hid hb
  clear ho hb H0
  go_wp2_with (first | (go_at_call 39; ((with_reducible refine (sprig_add.row _ _ l0 _ HO.out hn).mono ?_)); rintro e w' ⟨rfl, rfl⟩) | go_in)
  go_ret
  exact ⟨rfl, HB.out⟩
set_option maxHeartbeats 1600000 in
set_option maxRecDepth 100000 in
theorem implMax (z : Int) (A0 : Option Addr) (c0 : Nat) (l0 : List Int) (w : World) (hr0 : Kd.C (Kd.int .i64) w A0 l0.length l0) (hn : l0.length ≤ 1000000) :
    Calls Tryd.prog 9 #[.int .i64 z, .slice A0 l0.length c0] w fun e w' => e = .returned (.int .i64 (max64 l0 z)) ∧ Below w.heap.size w w' := by
  have H0 := Lib.hid (impl_anys.row A0 c0 l0 w hr0 hn)
  clear hr0
  go_enter Tryd.func9, Tryd.ntmps9
  go_wp2_with fail
  refine H0.out.mono ?_
  rintro e w1 ⟨v, rfl, ho, hb⟩
  have HO := Lib.hid ho
  have HB := Lib.hid hb
  clear ho hb H0
  go_wp2_with (first | (go_at_call 36; ((with_reducible refine (sprig_max.row _ _ z l0 _ HO.out hn).mono ?_)); rintro e w' ⟨rfl, rfl⟩) | go_in)
  go_ret
  exact ⟨rfl, HB.out⟩
set_option maxHeartbeats 1600000 in
set_option maxRecDepth 100000 in
theorem implMin (z : Int) (A0 : Option Addr) (c0 : Nat) (l0 : List Int) (w : World) (hr0 : Kd.C (Kd.int .i64) w A0 l0.length l0) (hn : l0.length ≤ 1000000) :
    Calls Tryd.prog 10 #[.int .i64 z, .slice A0 l0.length c0] w fun e w' => e = .returned (.int .i64 (min64 l0 z)) ∧ Below w.heap.size w w' := by
  have H0 := Lib.hid (impl_anys.row A0 c0 l0 w hr0 hn)
  clear hr0
  go_enter Tryd.func10, Tryd.ntmps10
  go_wp2_with fail
  refine H0.out.mono ?_
  rintro e w1 ⟨v, rfl, ho, hb⟩
  have HO := Lib.hid ho
  have HB := Lib.hid hb
  clear ho hb H0
  go_wp2_with (first | (go_at_call 37; ((with_reducible refine (sprig_min.row _ _ z l0 _ HO.out hn).mono ?_)); rintro e w' ⟨rfl, rfl⟩) | go_in)
  go_ret
  exact ⟨rfl, HB.out⟩
set_option maxHeartbeats 1600000 in
set_option maxRecDepth 100000 in
theorem implMul (z : Int) (A0 : Option Addr) (c0 : Nat) (l0 : List Int) (w : World) (hr0 : Kd.C (Kd.int .i64) w A0 l0.length l0) (hn : l0.length ≤ 1000000) :
    Calls Tryd.prog 14 #[.int .i64 z, .slice A0 l0.length c0] w fun e w' => e = .returned (.int .i64 (mul64 l0 z)) ∧ Below w.heap.size w w' := by
  have H0 := Lib.hid (impl_anys.row A0 c0 l0 w hr0 hn)
  clear hr0
  go_enter Tryd.func14, Tryd.ntmps14
  go_wp2_with fail
  refine H0.out.mono ?_
  rintro e w1 ⟨v, rfl, ho, hb⟩
  have HO := Lib.hid ho
  have HB := Lib.hid hb
  clear ho hb H0
  go_wp2_with (first | (go_at_call 40; ((with_reducible refine (sprig_mul.row _ _ z l0 _ HO.out hn).mono ?_)); rintro e w' ⟨rfl, rfl⟩) | go_in)
  go_ret
  exact ⟨rfl, HB.out⟩
end Go.Proofs.YtgjcejgcljjdhaaDoor.P
