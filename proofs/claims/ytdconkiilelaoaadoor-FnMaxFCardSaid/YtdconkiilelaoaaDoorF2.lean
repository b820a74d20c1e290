/- Floats: the greatest and the least of some. -/
import Derived.Test.YtdconkiilelaoaaDoorF1
import Derived.Laws.AppendOwn
set_option linter.unusedVariables false
set_option linter.unusedSimpArgs false
namespace Go.Proofs.YtdconkiilelaoaaDoor.P
open Go.RowKit Go.Proofs.YtdconkiilelaoaaDoorW.PrintWords Go.Proofs.YtdconkiilelaoaaDoorW.PrintLast Go.Proofs.YtdconkiilelaoaaDoorW.PrintMore

/-- What Max (neg = false, win = .gt) and Min (neg = true, win = .lt) give. -/
def pk (neg : Bool) (win : Ordering) (x y : Nat) : Nat :=
  if (FloatKind.f64.decode x == .infinity neg || FloatKind.f64.decode y == .infinity neg) = true then FloatKind.f64.encode (.infinity neg)
  else if ((FloatKind.f64.decode x).isNaN || (FloatKind.f64.decode y).isNaN) = true then 0x7FF8000000000001
  else if ((FloatKind.f64.decode x).isZero && (FloatKind.f64.decode y).isZero) = true then (if (FloatKind.f64.decode x).neg == neg then x else y)
  else if ((FloatKind.f64.decode x).order (FloatKind.f64.decode y) == some win) = true then x else y
theorem pk_no (neg : Bool) (win : Ordering) {x y : Nat} (hx : NoNaN x) (hy : NoNaN y) : NoNaN (pk neg win x y) := by
  have hx2 : (FloatKind.f64.decode x).isNaN = false := by obtain ⟨d, h1, h2⟩ := hx; rw [show FloatKind.f64.decode x = d from h1]; exact h2
  have hy2 : (FloatKind.f64.decode y).isNaN = false := by obtain ⟨d, h1, h2⟩ := hy; rw [show FloatKind.f64.decode y = d from h1]; exact h2
  unfold pk
  split
  · exact write_no _ rfl
  · rw [hx2, hy2, if_neg (by decide)]
    split
    · split
      · exact hx
      · exact hy
    · split
      · exact hx
      · exact hy
theorem archMax_run (x y : Nat) (W : World) : (callFunc 26 #[.float .f64 x, .float .f64 y]).run Tryd.prog W = .ok (.value (.float .f64 (pk false .gt x y))) W := by
  rw [run_callFunc_extern Tryd.func26 (by kernel_rfl) (by kernel_rfl) (by kernel_rfl) (e := Extern.MathDim.pick "math.archMax" false .gt) (by kernel_rfl)]
  rfl
theorem archMin_run (x y : Nat) (W : World) : (callFunc 28 #[.float .f64 x, .float .f64 y]).run Tryd.prog W = .ok (.value (.float .f64 (pk true .lt x y))) W := by
  rw [run_callFunc_extern Tryd.func28 (by kernel_rfl) (by kernel_rfl) (by kernel_rfl) (e := Extern.MathDim.pick "math.archMin" true .lt) (by kernel_rfl)]
  rfl
set_option maxHeartbeats 1600000 in
set_option maxRecDepth 100000 in
theorem mathMax_call (x y : Nat) (w : World) :
    Calls Tryd.prog 12 #[.float .f64 x, .float .f64 y] w fun e w' => e = .returned (.float .f64 (pk false .gt x y)) ∧ w = w' := by
  have h1 := fun W => archMax_run x y W
  generalize pk false .gt x y = r at *
  go_enter Tryd.func12, Tryd.ntmps12
  go_wp2
  go_ret
  exact ⟨rfl, rfl⟩
set_option maxHeartbeats 1600000 in
set_option maxRecDepth 100000 in
theorem mathMin_call (x y : Nat) (w : World) :
    Calls Tryd.prog 13 #[.float .f64 x, .float .f64 y] w fun e w' => e = .returned (.float .f64 (pk true .lt x y)) ∧ w = w' := by
  have h1 := fun W => archMin_run x y W
  generalize pk true .lt x y = r at *
  go_enter Tryd.func13, Tryd.ntmps13
  go_wp2
  go_ret
  exact ⟨rfl, rfl⟩
set_option maxHeartbeats 1600000 in
set_option maxRecDepth 100000 in
theorem toFloatS_call (x : Nat) (w : World) :
    Calls Tryd.prog 51 #[.iface 22 (.float .f64 x)] w fun e w' => e = .returned (.float .f64 x) ∧ w = w' := by
  go_enter Tryd.func51, Tryd.ntmps51
  go_wp2_with (go_at_call 56; ((with_reducible refine (toFloat_call _ _).mono ?_)); rintro e w' ⟨rfl, rfl⟩)
  go_ret
  exact ⟨rfl, rfl⟩
def rfs (l : List Nat) : List Value := l.map fun a => Value.iface 22 (.float .f64 a)
theorem rfs_snoc (l : List Nat) (a : Nat) : rfs (l ++ [a]) = rfs l ++ [.iface 22 (.float .f64 a)] := by simp [rfs]
theorem rfs_length (l : List Nat) : (rfs l).length = l.length := by simp [rfs]
theorem take_rdf (l : List Nat) (k : Nat) (h : k < l.length) : l.take (k + 1) = l.take k ++ [l.getD k 0] := by
  rw [List.take_succ_eq_append_getElem h]
  congr 2
  simp [List.getD_eq_getElem?_getD, h]
theorem rfs_at (l : List Nat) (k : Nat) (h : k < l.length) : (rfs l)[k]? = some (.iface 22 (.float .f64 (l.getD k 0))) := by
  simp [rfs, List.getD_eq_getElem?_getD, h]
theorem rdf_eq (l : List Nat) (k : Nat) (h : k < l.length) : rdOf (0 : Nat) l (k : Int) = l.getD k 0 := by
  simp [rdOf, List.getD_eq_getElem?_getD, h]
theorem own_base_le {w : World} {base : Nat} {e : TypeId} {size : Nat} {v : Value} {n : Nat} {xs : List Value} (h : w.ownsRow base e size v n xs) {q : Nat} (hq : v.ownBlock = some q) : base ≤ q := by
  obtain ⟨_, ⟨rfl, _⟩ | ⟨g, cap, cur, rfl, hb, _⟩⟩ := h
  · simp [Value.ownBlock] at hq
  · simp [Value.ownBlock] at hq
    omega
set_option maxHeartbeats 1600000 in
set_option maxRecDepth 100000 in
theorem impl_reals.row (A0 : Option Addr) (c0 : Nat) (l : List Nat) (w : World) (hr : Kd.C Kd.flt w A0 l.length l) (hn : l.length ≤ 1000000) :
    Calls Tryd.prog 31 #[.slice A0 l.length c0] w fun e w' => ∃ v, e = .returned v ∧ w'.ownsRow w.heap.size 20 1 v l.length (rfs l) ∧ Below w.heap.size w w' := by
  obtain ⟨i0, hi, hz0, hz1, hz2⟩ := info_parts (show (Tryd.prog.info? 20).map (fun i => (i.zero, i.size, i.bytes)) = some (some .nilIface, 1, 16) by kernel_rfl)
  have HC := Lib.hid hr
  clear hr
  obtain ⟨n, hnn⟩ : ∃ n, n = l.length := ⟨_, rfl⟩
  have HN := Lib.hid hnn
  rw [← hnn] at hn
  rw [← hnn]
  clear hnn
  go_enter Tryd.func31, Tryd.ntmps31
  go_wp2
  go_loopw [3, 5, 8] (fun v x i w' => ∃ (k : Nat) (xv : Value), x = xv ∧ i = .int .i64 k ∧ k ≤ n ∧ Hid (w'.ownsRow w.heap.size 20 1 v k (rfs (l.take k))) ∧ Hid (Below w.heap.size w w')) (fun _ _ i _ => n - (intOf i).toNat)
  case atStart => exact ⟨0, _, rfl, rfl, Nat.zero_le _, Lib.hid ⟨rfl, Or.inl ⟨rfl, rfl⟩⟩, Lib.hid (Below.refl _ _)⟩
  case round =>
    obtain ⟨k, xv, rfl, rfl, hk, hO, hB⟩ := hrel
    by_cases ck : k < n
    · obtain ⟨ad, rfl, hcell0⟩ := Kd.at_flt (Kd.C_below HC.out hB.out) (k : Int) (by omega) (by rw [← HN.out]; omega)
      have hcell : wr.cell? (ad.add k) = some (.float .f64 (l.getD k 0)) := by rw [← rdf_eq l k (by rw [← HN.out]; exact ck)]; exact hcell0
      clear hcell0
      have hO2 := Lib.hid (hO.out.alloc (.cells #[.iface 22 (.float .f64 (l.getD k 0))] 20))
      have hsz : Hid (w.heap.size ≤ wr.heap.size) := Lib.hid hB.out.size
      have hnx := Lib.hid (take_rdf l k (by rw [← HN.out]; exact ck))
      go_wp2_with (first | (at_builtin; refine wpList_append_own _ rfl _ _ 39 rfl w.heap.size 20 i0 .nilIface 1 16 Tryd.underlying39 hi hz0 hz1 hz2 rfl (by decide) _ k _ rfl hO2.out ⟨wr.heap.size, 0, none⟩ 1 1 [.iface 22 (.float .f64 (l.getD k 0))] rfl rfl ?_ ?_ (by unfold maxLen; omega) (by omega) (by simp; exact Nat.le_trans hsz.out (by omega)) ?_) | fail)
      · intro j u hu
        cases j with
        | zero =>
          simp only [List.getElem?_cons_zero, Option.some.injEq] at hu
          subst hu
          rw [Addr.add_lit]
          exact cell_of_one (heap_alloc_new _ _)
        | succ j => simp at hu
      · intro u hu
        rw [List.mem_singleton.1 hu]
        rfl
      · intro v' w1 hown hg _
        have hO3 := Lib.hid (show w1.ownsRow w.heap.size 20 1 v' (k + 1) (rfs (l.take (k + 1))) by rw [hnx.out, rfs_snoc]; exact hown)
        have hB3 := Lib.hid (Below.grown (hB.out.alloc hsz.out _) hg (by simp; exact Nat.le_trans hsz.out (by omega)) (fun q hq => own_base_le hO2.out hq))
        clear hown hg hO hO2 hB hcell
        go_wp2
        go_roundw
        case rel => exact ⟨k + 1, _, rfl, by go_num, by omega, hO3, hB3⟩
        case measure => simp [intOf]; omega
    · have hkn : k = n := by omega
      subst hkn
      have hall : l.take k = l := by rw [HN.out, List.take_length]
      have hO3 := Lib.hid (show wr.ownsRow w.heap.size 20 1 u3 k (rfs l) by have := hO.out; rw [hall] at this; exact this)
      clear hO hall
      go_wp2
      go_ret
      exact ⟨_, rfl, hO3.out, hB.out⟩
def maxf64 (l : List Nat) (a : Nat) : Nat := l.foldl (pk false .gt) a
theorem maxf64_snoc (l : List Nat) (z a : Nat) : maxf64 (l ++ [a]) z = pk false .gt (maxf64 l z) a := by unfold maxf64; rw [List.foldl_append]; rfl
theorem maxf64_no (l : List Nat) : ∀ z, NoNaN z → (∀ y ∈ l, NoNaN y) → NoNaN (maxf64 l z) := by
  induction l with
  | nil => exact fun z h _ => h
  | cons b r ih => exact fun z h h2 => ih _ (pk_no _ _ h (h2 b (by simp))) (fun y hy => h2 y (by simp [hy]))
set_option maxHeartbeats 1600000 in
set_option maxRecDepth 100000 in
theorem sprig_maxf.row (B : Nat) (v : Value) (z : Nat) (l : List Nat) (w : World) (ho : w.ownsRow B 20 1 v l.length (rfs l)) (hn : l.length ≤ 1000000) :
    Calls Tryd.prog 45 #[.iface 22 (.float .f64 z), v] w fun e w' => e = .returned (.float .f64 (maxf64 l z)) ∧ w = w' := by
  obtain ⟨n, hnn⟩ : ∃ n, n = l.length := ⟨_, rfl⟩
  have HN := Lib.hid hnn
  rw [← hnn] at hn ho
  clear hnn
  have HO := Lib.hid ho
  obtain ⟨A, c, rfl⟩ : ∃ A c, v = .slice A n c := by
    obtain ⟨_, ⟨rfl, rfl⟩ | ⟨g, cap, cur, rfl, _⟩⟩ := ho
    · exact ⟨_, _, rfl⟩
    · exact ⟨_, _, rfl⟩
  clear ho
  go_enter Tryd.func45, Tryd.ntmps45
  go_wp2_with (first | (go_at_call 51; ((with_reducible refine (toFloatS_call _ _).mono ?_)); rintro e w' ⟨rfl, rfl⟩) | go_in)
  go_loop [5, 7, 8, 13] (fun s x y i => ∃ (k : Nat) (xv yv : Value), s = .float .f64 (maxf64 (l.take k) z) ∧ x = xv ∧ y = yv ∧ i = .int .i64 k ∧ k ≤ n) (fun _ _ _ i => n - (intOf i).toNat)
  case atStart => exact ⟨0, _, undef, rfl, rfl, rfl, rfl, Nat.zero_le _⟩
  case round =>
    obtain ⟨k, xv, yv, rfl, rfl, rfl, rfl, hk⟩ := hrel
    by_cases ck : k < n
    · obtain ⟨g, rfl⟩ : ∃ g, A = some ⟨g, 0, none⟩ := by
        obtain ⟨_, ⟨h, h0⟩ | ⟨g, cap, cur, h, _⟩⟩ := HO.out
        · omega
        · injection h with h _ _
          exact ⟨g, h⟩
      have hcell : w.cell? ⟨g, k, none⟩ = some (.iface 22 (.float .f64 (l.getD k 0))) := by
        have := HO.out.cells (g := g) rfl k _ (rfs_at l k (by rw [← HN.out]; exact ck))
        rw [Addr.add_lit, Nat.zero_add] at this
        exact this
      have hnx := Lib.hid (show maxf64 (l.take (k + 1)) z = pk false .gt (maxf64 (l.take k) z) (l.getD k 0) by rw [take_rdf l k (by rw [← HN.out]; exact ck), maxf64_snoc])
      obtain ⟨m, hm⟩ : ∃ m, m = maxf64 (l.take k) z := ⟨_, rfl⟩
      obtain ⟨q, hq⟩ : ∃ q, q = l.getD k 0 := ⟨_, rfl⟩
      rw [← hm, ← hq] at hnx
      rw [← hm]
      rw [← hq] at hcell
      clear hm hq
      go_wp2_with (first | (go_at_call 51; ((with_reducible refine (toFloatS_call _ _).mono ?_)); rintro e w' ⟨rfl, rfl⟩) | (go_at_call 12; ((with_reducible refine (mathMax_call _ _ _).mono ?_)); rintro e w' ⟨rfl, rfl⟩) | go_in)
      go_round
      case rel => exact ⟨k + 1, _, _, by rw [hnx.out], rfl, rfl, by go_num, by omega⟩
      case measure => simp [intOf]; omega
    · have hkn : k = n := by omega
      subst hkn
      have hall := Lib.hid (show l.take k = l by rw [HN.out, List.take_length])
      go_wp2
      go_ret
      exact ⟨congrArg (fun y => Ending.returned (Value.float .f64 (maxf64 y z))) hall.out, rfl⟩
set_option maxHeartbeats 1600000 in
set_option maxRecDepth 100000 in
theorem implMaxF (z : Nat) (A0 : Option Addr) (c0 : Nat) (l0 : List Nat) (w : World) (hr0 : Kd.C Kd.flt w A0 l0.length l0) (hn : l0.length ≤ 1000000) :
    Calls Tryd.prog 14 #[.float .f64 z, .slice A0 l0.length c0] w fun e w' => e = .returned (.float .f64 (maxf64 l0 z)) ∧ Below w.heap.size w w' := by
  have H0 := Lib.hid (impl_reals.row A0 c0 l0 w hr0 hn)
  clear hr0
  go_enter Tryd.func14, Tryd.ntmps14
  go_wp2_with fail
  refine H0.out.mono ?_
  rintro e w1 ⟨v, rfl, ho, hb⟩
  have HO := Lib.hid ho
  have HB := Lib.hid hb
  clear ho hb H0
  go_wp2_with (first | (go_at_call 45; ((with_reducible refine (sprig_maxf.row _ _ z l0 _ HO.out hn).mono ?_)); rintro e w' ⟨rfl, rfl⟩) | go_in)
  go_ret
  exact ⟨rfl, HB.out⟩
def minf64 (l : List Nat) (a : Nat) : Nat := l.foldl (pk true .lt) a
theorem minf64_snoc (l : List Nat) (z a : Nat) : minf64 (l ++ [a]) z = pk true .lt (minf64 l z) a := by unfold minf64; rw [List.foldl_append]; rfl
theorem minf64_no (l : List Nat) : ∀ z, NoNaN z → (∀ y ∈ l, NoNaN y) → NoNaN (minf64 l z) := by
  induction l with
  | nil => exact fun z h _ => h
  | cons b r ih => exact fun z h h2 => ih _ (pk_no _ _ h (h2 b (by simp))) (fun y hy => h2 y (by simp [hy]))
set_option maxHeartbeats 1600000 in
set_option maxRecDepth 100000 in
theorem sprig_minf.row (B : Nat) (v : Value) (z : Nat) (l : List Nat) (w : World) (ho : w.ownsRow B 20 1 v l.length (rfs l)) (hn : l.length ≤ 1000000) :
    Calls Tryd.prog 46 #[.iface 22 (.float .f64 z), v] w fun e w' => e = .returned (.float .f64 (minf64 l z)) ∧ w = w' := by
  obtain ⟨n, hnn⟩ : ∃ n, n = l.length := ⟨_, rfl⟩
  have HN := Lib.hid hnn
  rw [← hnn] at hn ho
  clear hnn
  have HO := Lib.hid ho
  obtain ⟨A, c, rfl⟩ : ∃ A c, v = .slice A n c := by
    obtain ⟨_, ⟨rfl, rfl⟩ | ⟨g, cap, cur, rfl, _⟩⟩ := ho
    · exact ⟨_, _, rfl⟩
    · exact ⟨_, _, rfl⟩
  clear ho
  go_enter Tryd.func46, Tryd.ntmps46
  go_wp2_with (first | (go_at_call 51; ((with_reducible refine (toFloatS_call _ _).mono ?_)); rintro e w' ⟨rfl, rfl⟩) | go_in)
  go_loop [5, 7, 8, 13] (fun s x y i => ∃ (k : Nat) (xv yv : Value), s = .float .f64 (minf64 (l.take k) z) ∧ x = xv ∧ y = yv ∧ i = .int .i64 k ∧ k ≤ n) (fun _ _ _ i => n - (intOf i).toNat)
  case atStart => exact ⟨0, _, undef, rfl, rfl, rfl, rfl, Nat.zero_le _⟩
  case round =>
    obtain ⟨k, xv, yv, rfl, rfl, rfl, rfl, hk⟩ := hrel
    by_cases ck : k < n
    · obtain ⟨g, rfl⟩ : ∃ g, A = some ⟨g, 0, none⟩ := by
        obtain ⟨_, ⟨h, h0⟩ | ⟨g, cap, cur, h, _⟩⟩ := HO.out
        · omega
        · injection h with h _ _
          exact ⟨g, h⟩
      have hcell : w.cell? ⟨g, k, none⟩ = some (.iface 22 (.float .f64 (l.getD k 0))) := by
        have := HO.out.cells (g := g) rfl k _ (rfs_at l k (by rw [← HN.out]; exact ck))
        rw [Addr.add_lit, Nat.zero_add] at this
        exact this
      have hnx := Lib.hid (show minf64 (l.take (k + 1)) z = pk true .lt (minf64 (l.take k) z) (l.getD k 0) by rw [take_rdf l k (by rw [← HN.out]; exact ck), minf64_snoc])
      obtain ⟨m, hm⟩ : ∃ m, m = minf64 (l.take k) z := ⟨_, rfl⟩
      obtain ⟨q, hq⟩ : ∃ q, q = l.getD k 0 := ⟨_, rfl⟩
      rw [← hm, ← hq] at hnx
      rw [← hm]
      rw [← hq] at hcell
      clear hm hq
      go_wp2_with (first | (go_at_call 51; ((with_reducible refine (toFloatS_call _ _).mono ?_)); rintro e w' ⟨rfl, rfl⟩) | (go_at_call 13; ((with_reducible refine (mathMin_call _ _ _).mono ?_)); rintro e w' ⟨rfl, rfl⟩) | go_in)
      go_round
      case rel => exact ⟨k + 1, _, _, by rw [hnx.out], rfl, rfl, by go_num, by omega⟩
      case measure => simp [intOf]; omega
    · have hkn : k = n := by omega
      subst hkn
      have hall := Lib.hid (show l.take k = l by rw [HN.out, List.take_length])
      go_wp2
      go_ret
      exact ⟨congrArg (fun y => Ending.returned (Value.float .f64 (minf64 y z))) hall.out, rfl⟩
set_option maxHeartbeats 1600000 in
set_option maxRecDepth 100000 in
theorem implMinF (z : Nat) (A0 : Option Addr) (c0 : Nat) (l0 : List Nat) (w : World) (hr0 : Kd.C Kd.flt w A0 l0.length l0) (hn : l0.length ≤ 1000000) :
    Calls Tryd.prog 15 #[.float .f64 z, .slice A0 l0.length c0] w fun e w' => e = .returned (.float .f64 (minf64 l0 z)) ∧ Below w.heap.size w w' := by
  have H0 := Lib.hid (impl_reals.row A0 c0 l0 w hr0 hn)
  clear hr0
  go_enter Tryd.func15, Tryd.ntmps15
  go_wp2_with fail
  refine H0.out.mono ?_
  rintro e w1 ⟨v, rfl, ho, hb⟩
  have HO := Lib.hid ho
  have HB := Lib.hid hb
  clear ho hb H0
  go_wp2_with (first | (go_at_call 46; ((with_reducible refine (sprig_minf.row _ _ z l0 _ HO.out hn).mono ?_)); rintro e w' ⟨rfl, rfl⟩) | go_in)
  go_ret
  exact ⟨rfl, HB.out⟩
end Go.Proofs.YtdconkiilelaoaaDoor.P
