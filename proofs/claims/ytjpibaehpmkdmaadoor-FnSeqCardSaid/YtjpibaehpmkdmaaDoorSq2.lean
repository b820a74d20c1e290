/- FnSeq holds. -/
import Derived.Test.YtjpibaehpmkdmaaDoorSq1
set_option linter.unusedVariables false
set_option linter.unusedSimpArgs false
namespace Go.Proofs.YtjpibaehpmkdmaaDoor.P
open Go.RowKit Go.Proofs.YtjpibaehpmkdmaaDoorW.PrintWords Go.Proofs.YtjpibaehpmkdmaaDoorW.PrintLast Go.Proofs.YtjpibaehpmkdmaaDoorW.PrintMore

section
variable {P : Program} {ops : Array Oper} {Q : Exit → Act → World → Prop}
/-- A call of a function value, in a region that draws its order. -/
theorem goesV_ {oi : Oper} {N : Option Tmp} {a : Act} {w : World} {K : Act → World → Prop} {f : FuncId} {fn : Func} {x : Operand} {xs : Array Operand} {ts : Array TypeId} {first captured : Array Value} (hf : P.funcs[f]? = some fn) (hname : (fn.name == "runtime.NumGoroutine") = false) (hb : fn.body.isSome = true) (args : Array Value)
    (hw : Region.wanted oi (yielded ops a.tmps) = true) (hN : oi.dst = N) (hop : oi.op = .call { callee := .value x, args := xs, argTypes := ts }) (hx : a.eval x = .func (.func f) first captured) (hargs : first ++ xs.map a.eval ++ captured = args)
    (h : Calls P f args w fun e w' => ∃ v, e = .returned v ∧ K (a.put N v) w') : if Region.wanted oi (yielded ops a.tmps) = true then Oper.wp P oi a w K Q else K (a.put N undef) w := by
  refine call_ f args hw hN ?_ h
  have he := enters_ hf hname hb args w
  rw [← hargs] at he ⊢
  unfold execOp
  simp only [hop, resolve, hx]
  simp [Deferred.ofValue, invoke]
  rw [← Array.append_assoc]
  exact he
end
theorem run_store_func_ {P : Program} {w : World} {a : Addr} {m : Mode} (fn : Fn) (first captured : Array Value) : (store a (.func fn first captured) m).run P w = stored P w a (.func fn first captured) m := run_store P w a _ m rfl
attribute [local go_sem] run_store_func_
theorem tow_call (a b : Int) (w : World) : Calls Tryd.prog 18 #[.int .i64 a, .int .i64 b] w fun e w' => e = .returned (.int .i64 (tow a b)) ∧ Below w.heap.size w w' := by
  have HB := Lib.hid (Below.refl w.heap.size w)
  by_cases c : b < a
  · have d : decide (b < a) = true := decide_eq_true c
    rw [show tow a b = -1 from if_pos c]
    clear c
    go_enter Tryd.func18, Tryd.ntmps18
    go_wp2
    go_ret
    exact ⟨rfl, HB.out⟩
  · have d : decide (b < a) = false := decide_eq_false c
    rw [show tow a b = 1 from if_neg c]
    clear c
    go_enter Tryd.func18, Tryd.ntmps18
    go_wp2
    go_ret
    exact ⟨rfl, HB.out⟩
set_option maxHeartbeats 1600000 in
set_option maxRecDepth 100000 in
theorem row_call (a b s : Int) (t : ByteArray) (h : RowT a b s t) (hb0 : -300 ≤ b) (hb1 : b ≤ 300) (g : Nat) (w : World) (hg : w.heap[g]? = some (.cells #[.func (.func 18) #[] #[]] 31 (0, 0))) (hT : TabsW w) :
    Calls Tryd.prog 19 #[.int .i64 a, .int .i64 b, .int .i64 s, .pointer (some ⟨g, 0, none⟩)] w fun e w' => e = .returned (.string t) ∧ Below w.heap.size w w' := by
  obtain ⟨l, hin, hl, ⟨K, hK⟩, K2, hK2⟩ := h
  have HR := Lib.hid (fun W => spec_Row.calls K a (b + tow a b) s l true W (hK K (Nat.le_refl _)))
  have HX := Lib.hid (fun A c W h1 h2 h3 => laws_texts7.calls K2 A c l t W h1 h2 (hK2 K2 (Nat.le_refl _)) h3)
  have HW := Lib.hid (tow_in a b hb0 hb1)
  have HT := Lib.hid hT
  have q0 : w.cell? ⟨g, 0, none⟩ = some (.func (.func 18) #[] #[]) := (blk_cell hg 0).trans rfl
  have HC := Lib.hid (tow_call a b w)
  clear hin hl hK hK2 hT hg hb0 hb1
  generalize tow a b = d at *
  go_enter Tryd.func19, Tryd.ntmps19
  go_wp2_with fail
  refine HC.out.mono ?_
  rintro e w1 ⟨rfl, hb1⟩
  have HB1 := Lib.hid hb1
  clear hb1 HC q0
  go_wp2_with fail
  rw [HW.out]
  refine (HR.out _).mono ?_
  rintro e w2 ⟨v, rfl, hv, hb2⟩
  obtain ⟨A, c, rfl⟩ := Kd.R_slice hv
  have HB2 := Lib.hid (HB1.out.trans (hb2.mono HB1.out.size))
  have HL := Lib.hid (HX.out A c w2 (Kd.R_reads' hv).2.2 (Kd.R_reads' hv).2.1 (HT.out.below HB2.out))
  clear hv hb2 HB1 HR HX HW
  go_wp2_with fail
  refine HL.out.mono ?_
  rintro e w3 ⟨rfl, hb3⟩
  have HB3 := Lib.hid (HB2.out.trans (hb3.mono HB2.out.size))
  clear hb3 HL HB2
  go_wp2
  go_ret
  exact ⟨rfl, HB3.out⟩
set_option maxHeartbeats 1600000 in
set_option maxRecDepth 100000 in
theorem alloc_below_ (w : World) (ob : Obj) : Below w.heap.size w (w.alloc ob) := (Below.refl _ _).alloc (Nat.le_refl _) _
theorem C_lit (W : World) (l : List Int) (hl : l.length ≤ 10) : Kd.C (Kd.int .i64) (W.alloc (.cells (l.map (Value.int .i64)).toArray 2)) (some ⟨W.heap.size, 0, none⟩) l.length l := by
  refine ⟨rfl, by omega, fun _ => ⟨_, rfl, fun j p hj => ⟨[.int .i64 p], rfl, rfl, fun i u hu => ?_⟩⟩⟩
  cases i with
  | zero =>
    simp at hu
    subst hu
    have h := blk_cell (heap_alloc_new W (.cells (l.map (Value.int .i64)).toArray 2)) j
    have h2 : ((l.map (Value.int .i64)).toArray)[j]? = some (Value.int .i64 p) := by simp [hj]
    rw [h2] at h
    generalize W.alloc (.cells (l.map (Value.int .i64)).toArray 2) = W1 at *
    simp only [Kd.int, Kd.scalar, Addr.add, Nat.mul_one, Nat.add_zero, Nat.zero_add]
    split <;> simp_all
  | succ i => simp at hu
theorem tm (x : Int) : -300 ≤ x.tmod 301 ∧ x.tmod 301 ≤ 300 := by
  have h1 := Int.tmod_lt_of_pos x (show (0 : Int) < 301 by decide)
  have h2 := Int.lt_tmod_of_pos x (show (0 : Int) < 301 by decide)
  omega
set_option maxHeartbeats 16000000 in
set_option maxRecDepth 100000 in
theorem fnSeq (x y z : Int) (w : World) (hx : (Lit.int IntKind.i16 x).wf = true) (hy : (Lit.int IntKind.i16 y).wf = true) (hz : (Lit.int IntKind.i16 z).wf = true) (hT : TabsW w) :
    Calls Tryd.prog 5 #[.int .i16 x, .int .i16 y, .int .i16 z] w fun e w' => e = .returned (.bool true) ∧ Below w.heap.size w w' := by
  simp only [Lit.wf, IntKind.min, IntKind.max, IntKind.signed, IntKind.bits, Bool.and_eq_true, decide_eq_true_eq, if_true] at hx hy hz
  obtain ⟨hx0, hx1⟩ : -32768 ≤ x ∧ x ≤ 32767 := by omega
  obtain ⟨hy0, hy1⟩ : -32768 ≤ y ∧ y ≤ 32767 := by omega
  obtain ⟨hz0, hz1⟩ : -32768 ≤ z ∧ z ≤ 32767 := by omega
  clear hx hy hz
  obtain ⟨a, ha, ha0, ha1⟩ : ∃ a, x.tmod 301 = a ∧ -300 ≤ a ∧ a ≤ 300 := ⟨_, rfl, (tm x).1, (tm x).2⟩
  obtain ⟨s, hs, hs0, hs1⟩ : ∃ a, y.tmod 301 = a ∧ -300 ≤ a ∧ a ≤ 300 := ⟨_, rfl, (tm y).1, (tm y).2⟩
  obtain ⟨b, hb, hb0, hb1⟩ : ∃ a, z.tmod 301 = a ∧ -300 ≤ a ∧ a ≤ 300 := ⟨_, rfl, (tm z).1, (tm z).2⟩
  obtain ⟨t1, ⟨K1, hK1⟩, hr1⟩ := seq1_ev b hb0 hb1
  obtain ⟨t2, ⟨K2, hK2⟩, hr2⟩ := seq2_ev a b ha0 ha1 hb0 hb1
  obtain ⟨K3, hK3⟩ := seq123_ev
  have HQ1 := Lib.hid (fun (W : World) (h : TabsW (W.alloc (.cells #[.int .i64 b] 2))) => impl_Seq.calls K1 _ 1 [b] t1 _ (C_lit W [b] (by simp)) (by simp) (hK1 K1 (Nat.le_refl _)) h)
  have HQ2 := Lib.hid (fun (W : World) (h : TabsW (W.alloc (.cells #[.int .i64 a, .int .i64 b] 2))) => impl_Seq.calls K2 _ 2 [a, b] t2 _ (C_lit W [a, b] (by simp)) (by simp) (hK2 K2 (Nat.le_refl _)) h)
  have HQ3 := Lib.hid (fun (W : World) (h : TabsW (W.alloc (.cells #[.int .i64 3] 2))) => impl_Seq.calls K3 _ 1 [3] _ _ (C_lit W [3] (by simp)) (by simp) (hK3 K3 (Nat.le_refl _)) h)
  have HR1 := Lib.hid (fun (W : World) h1 h2 => row_call 1 b (tow 1 b) t1 hr1 hb0 hb1 w.heap.size W h1 h2)
  have HR2 := Lib.hid (fun (W : World) h1 h2 => row_call a b (tow a b) t2 hr2 hb0 hb1 w.heap.size W h1 h2)
  have HQ4 := Lib.hid (show s ≠ 0 → tow 0 s = tow a b → ∃ t, (∀ W : World, TabsW (W.alloc (.cells #[.int .i64 a, .int .i64 s, .int .i64 b] 2)) → Calls Tryd.prog 22 #[.slice (some ⟨W.heap.size, 0, none⟩) 3 3] (W.alloc (.cells #[.int .i64 a, .int .i64 s, .int .i64 b] 2)) fun e w' => e = .returned (.string t) ∧ Below (W.alloc (.cells #[.int .i64 a, .int .i64 s, .int .i64 b] 2)).heap.size (W.alloc (.cells #[.int .i64 a, .int .i64 s, .int .i64 b] 2)) w') ∧ (∀ W : World, W.heap[w.heap.size]? = some (.cells #[.func (.func 18) #[] #[]] 31 (0, 0)) → TabsW W → Calls Tryd.prog 19 #[.int .i64 a, .int .i64 b, .int .i64 s, .pointer (some ⟨w.heap.size, 0, none⟩)] W fun e w' => e = .returned (.string t) ∧ Below W.heap.size W w') from fun h1 h2 => by
    obtain ⟨t, ⟨K, hK⟩, hr⟩ := seq3_ev a s b ha0 ha1 hb0 hb1 hs0 hs1 h1 h2
    exact ⟨t, fun W h => impl_Seq.calls K _ 3 [a, s, b] t _ (C_lit W [a, s, b] (by simp)) (by simp) (hK K (Nat.le_refl _)) h, fun W h1 h2 => row_call a b s t hr hb0 hb1 w.heap.size W h1 h2⟩)
  have HA := Lib.hid ha
  have HS := Lib.hid hs
  have HBB := Lib.hid hb
  have H0 := Lib.hid (heap_alloc_new w (.cells #[.func (.func 18) #[] #[]] 31))
  have HT0 := Lib.hid (hT.below (alloc_below_ w (.cells #[.func (.func 18) #[] #[]] 31)))
  have HB0 := Lib.hid (alloc_below_ w (.cells #[.func (.func 18) #[] #[]] 31))
  clear ha hs hb ha0 ha1 hb0 hb1 hs0 hs1 hK1 hK2 hK3 hr1 hr2 hT
  go_enter Tryd.func5, Tryd.ntmps5
  go_upto_region 4 with fail
  rw [HA.out, HS.out, HBB.out]
  clear HA HS HBB hx0 hx1 hy0 hy1 hz0 hz1
  generalize w.alloc (.cells #[.func (.func 18) #[] #[]] 31) = v0 at *
  refine start_ (n := 25) (ds := []) (S := fun w' => Below v0.heap.size v0 w') #[false, false, false, false, false, false, false, false, false, false, false, false, false, false, false, false, false, false, false, false, false, false, false, false, false] (by kernel_rfl) rfl rfl ((Below.refl _ _).drew) (fun hHeld => ?_)
  refine pure_ (i := 0) (N := some 22) (v := ?_) (a' := ?_) #[true, false, false, false, false, false, false, false, false, false, false, false, false, false, false, false, false, false, false, false, false, false, false, false, false] rfl rfl (by kernel_rfl) (fun _ _ _ h => h) (Or.inl ⟨by rfl, ?_⟩) ?_ ?_
  rotate_left; (intro w'; go_simp; with_reducible rfl)
  rotate_left; (go_frame; rfl)
  refine pure_ (i := 3) (N := some 25) (v := ?_) (a' := ?_) #[true, false, false, true, false, false, false, false, false, false, false, false, false, false, false, false, false, false, false, false, false, false, false, false, false] rfl rfl (by kernel_rfl) (fun _ _ _ h => h) (Or.inl ⟨by rfl, ?_⟩) ?_ ?_
  rotate_left; (intro w'; go_simp; with_reducible rfl)
  rotate_left; (go_frame; rfl)
  refine pure_ (i := 4) (N := some 26) (v := ?_) (a' := ?_) #[true, false, false, true, true, false, false, false, false, false, false, false, false, false, false, false, false, false, false, false, false, false, false, false, false] rfl rfl (by kernel_rfl) (fun _ _ _ h => h) (Or.inl ⟨by rfl, ?_⟩) ?_ ?_
  rotate_left; (intro w'; go_simp; with_reducible rfl)
  rotate_left; (go_frame; rfl)
  refine pure_ (i := 6) (N := some 28) (v := ?_) (a' := ?_) #[true, false, false, true, true, false, true, false, false, false, false, false, false, false, false, false, false, false, false, false, false, false, false, false, false] rfl rfl (by kernel_rfl) (fun _ _ _ h => h) (Or.inl ⟨by rfl, ?_⟩) ?_ ?_
  rotate_left; (intro w'; go_simp; with_reducible rfl)
  rotate_left; (go_frame; rfl)
  refine take_ (i := 5) (N := some 27) (v := ?_) (a' := ?_) #[true, false, false, true, true, true, true, false, false, false, false, false, false, false, false, false, false, false, false, false, false, false, false, false, false] rfl rfl (by kernel_rfl) (fun _ _ _ h => h) (Or.inl ⟨by rfl, ?_⟩) hHeld ?_ ?_
  rotate_left
  · intro w' hS
    have q0 := (blk_cell (blk_below H0.out hS) 0).trans rfl
    go_simp
    with_reducible rfl
  rotate_left; (go_frame; rfl)
  refine one_ (i := 1) (N := some 23) #[true, true, false, true, true, true, true, false, false, false, false, false, false, false, false, false, false, false, false, false, false, false, false, false, false] rfl rfl (by kernel_rfl) (by decide) (fun K hK => ?_)
  have hN := hHeld.trans ((alloc_below_ (v0.drew) (.cells #[.int .i64 b] 2)).mono hHeld.size)
  clear hHeld
  refine value_ (w1 := (v0.drew).alloc (.cells #[.int .i64 b] 2)) (v := .slice (some ⟨(v0.drew).heap.size, 0, none⟩) 1 1) (by rfl) rfl ?_ ?_
  · first | (go_simp; done) | (go_simp; rfl)
  refine hK.out _ _ hN (fun hHeld => ?_)
  clear hN
  clear hK K
  refine norm_ (a' := ?_) ?_ ?_
  rotate_left
  · show Act.put _ (some 23) _ = _
    go_frame
    rfl
  refine one_ (i := 2) (N := some 24) #[true, true, true, true, true, true, true, false, false, false, false, false, false, false, false, false, false, false, false, false, false, false, false, false, false] rfl rfl (by kernel_rfl) (by decide) (fun K hK => ?_)
  refine goes_ Tryd.func22 (by kernel_rfl) rfl #[.slice (some ⟨v0.drew.heap.size, 0, none⟩) 1 1] (by rfl) rfl rfl (by (try simp only [List.map_toArray, List.map_cons, List.map_nil]); first | done | rfl) ?_
  refine (HQ1.out v0.drew (HT0.out.below hHeld)).mono ?_
  rintro e w1 ⟨rfl, hb⟩
  have hN := hHeld.trans (hb.mono hHeld.size)
  clear hHeld hb
  refine ⟨_, rfl, ?_⟩
  refine hK.out _ _ hN (fun hHeld => ?_)
  clear hN
  clear hK K
  refine norm_ (a' := ?_) ?_ ?_
  rotate_left
  · show Act.put _ (some 24) _ = _
    go_frame
    rfl
  refine one_ (i := 7) (N := some 29) #[true, true, true, true, true, true, true, true, false, false, false, false, false, false, false, false, false, false, false, false, false, false, false, false, false] rfl rfl (by kernel_rfl) (by decide) (fun K hK => ?_)
  refine goesV_ (first := #[]) (captured := #[]) Tryd.func18 (by kernel_rfl) rfl #[.int .i64 1, .int .i64 b] (by rfl) rfl rfl (by rfl) (by (try simp only [List.map_toArray, List.map_cons, List.map_nil]); first | done | rfl) ?_
  refine (tow_call 1 b w1).mono ?_
  rintro e w2 ⟨rfl, hb⟩
  have hN := hHeld.trans (hb.mono hHeld.size)
  clear hHeld hb
  refine ⟨_, rfl, ?_⟩
  refine hK.out _ _ hN (fun hHeld => ?_)
  clear hN
  clear hK K
  refine norm_ (a' := ?_) ?_ ?_
  rotate_left
  · show Act.put _ (some 29) _ = _
    go_frame
    rfl
  refine one_ (i := 8) (N := some 30) #[true, true, true, true, true, true, true, true, true, false, false, false, false, false, false, false, false, false, false, false, false, false, false, false, false] rfl rfl (by kernel_rfl) (by decide) (fun K hK => ?_)
  refine goesV_ (first := #[]) (captured := #[.pointer (some ⟨w.heap.size, 0, none⟩)]) Tryd.func19 (by kernel_rfl) rfl #[.int .i64 1, .int .i64 b, .int .i64 (tow 1 b), .pointer (some ⟨w.heap.size, 0, none⟩)] (by rfl) rfl rfl (by rfl) (by (try simp only [List.map_toArray, List.map_cons, List.map_nil]); first | done | rfl) ?_
  refine (HR1.out w2 (blk_below H0.out hHeld) (HT0.out.below hHeld)).mono ?_
  rintro e w3 ⟨rfl, hb⟩
  have hN := hHeld.trans (hb.mono hHeld.size)
  clear hHeld hb
  refine ⟨_, rfl, ?_⟩
  refine hK.out _ _ hN (fun hHeld => ?_)
  clear hN
  clear hK K
  refine norm_ (a' := ?_) ?_ ?_
  rotate_left
  · show Act.put _ (some 30) _ = _
    go_frame
    rfl
  refine pure_ (i := 9) (N := some 31) (v := ?_) (a' := ?_) #[true, true, true, true, true, true, true, true, true, true, false, false, false, false, false, false, false, false, false, false, false, false, false, false, false] rfl rfl (by kernel_rfl) (fun _ _ _ h => h) (Or.inl ⟨by rfl, ?_⟩) ?_ ?_
  rotate_left; (intro w'; go_simp; with_reducible rfl)
  rotate_left; (go_frame; rfl)
  refine pure_ (i := 10) (N := some 32) (v := ?_) (a' := ?_) #[true, true, true, true, true, true, true, true, true, true, true, false, false, false, false, false, false, false, false, false, false, false, false, false, false] rfl rfl (by kernel_rfl) (fun _ _ _ h => h) (Or.inl ⟨by rfl, ?_⟩) ?_ ?_
  rotate_left; (intro w'; go_simp; with_reducible rfl)
  rotate_left; (go_frame; rfl)
  refine pure_ (i := 11) (N := some 33) (v := ?_) (a' := ?_) #[true, true, true, true, true, true, true, true, true, true, true, true, false, false, false, false, false, false, false, false, false, false, false, false, false] rfl rfl (by kernel_rfl) (fun _ _ _ h => h) (Or.inl ⟨by rfl, ?_⟩) ?_ ?_
  rotate_left; (intro w'; go_simp; with_reducible rfl)
  rotate_left; (go_frame; rfl)
  refine pure_ (i := 12) (N := some 34) (v := ?_) (a' := ?_) #[true, true, true, true, true, true, true, true, true, true, true, true, true, false, false, false, false, false, false, false, false, false, false, false, false] rfl rfl (by kernel_rfl) (fun _ _ _ h => h) (Or.inl ⟨by rfl, ?_⟩) ?_ ?_
  rotate_left; (intro w'; go_simp; with_reducible rfl)
  rotate_left; (go_frame; rfl)
  refine pure_ (i := 15) (N := some 37) (v := ?_) (a' := ?_) #[true, true, true, true, true, true, true, true, true, true, true, true, true, false, false, true, false, false, false, false, false, false, false, false, false] rfl rfl (by kernel_rfl) (fun _ _ _ h => h) (Or.inl ⟨by rfl, ?_⟩) ?_ ?_
  rotate_left; (intro w'; go_simp; with_reducible rfl)
  rotate_left; (go_frame; rfl)
  refine pure_ (i := 16) (N := some 38) (v := ?_) (a' := ?_) #[true, true, true, true, true, true, true, true, true, true, true, true, true, false, false, true, true, false, false, false, false, false, false, false, false] rfl rfl (by kernel_rfl) (fun _ _ _ h => h) (Or.inl ⟨by rfl, ?_⟩) ?_ ?_
  rotate_left; (intro w'; go_simp; with_reducible rfl)
  rotate_left; (go_frame; rfl)
  refine pure_ (i := 17) (N := some 39) (v := ?_) (a' := ?_) #[true, true, true, true, true, true, true, true, true, true, true, true, true, false, false, true, true, true, false, false, false, false, false, false, false] rfl rfl (by kernel_rfl) (fun _ _ _ h => h) (Or.inl ⟨by rfl, ?_⟩) ?_ ?_
  rotate_left; (intro w'; go_simp; with_reducible rfl)
  rotate_left; (go_frame; rfl)
  refine pure_ (i := 19) (N := some 41) (v := ?_) (a' := ?_) #[true, true, true, true, true, true, true, true, true, true, true, true, true, false, false, true, true, true, false, true, false, false, false, false, false] rfl rfl (by kernel_rfl) (fun _ _ _ h => h) (Or.inl ⟨by rfl, ?_⟩) ?_ ?_
  rotate_left; (intro w'; go_simp; with_reducible rfl)
  rotate_left; (go_frame; rfl)
  refine pure_ (i := 20) (N := some 42) (v := ?_) (a' := ?_) #[true, true, true, true, true, true, true, true, true, true, true, true, true, false, false, true, true, true, false, true, true, false, false, false, false] rfl rfl (by kernel_rfl) (fun _ _ _ h => h) (Or.inl ⟨by rfl, ?_⟩) ?_ ?_
  rotate_left; (intro w'; go_simp; with_reducible rfl)
  rotate_left; (go_frame; rfl)
  refine take_ (i := 18) (N := some 40) (v := ?_) (a' := ?_) #[true, true, true, true, true, true, true, true, true, true, true, true, true, false, false, true, true, true, true, true, true, false, false, false, false] rfl rfl (by kernel_rfl) (fun _ _ _ h => h) (Or.inl ⟨by rfl, ?_⟩) hHeld ?_ ?_
  rotate_left
  · intro w' hS
    have q0 := (blk_cell (blk_below H0.out hS) 0).trans rfl
    go_simp
    with_reducible rfl
  rotate_left; (go_frame; rfl)
  refine one_ (i := 13) (N := some 35) #[true, true, true, true, true, true, true, true, true, true, true, true, true, true, false, true, true, true, true, true, true, false, false, false, false] rfl rfl (by kernel_rfl) (by decide) (fun K hK => ?_)
  have hN := hHeld.trans ((alloc_below_ (w3) (.cells #[.int .i64 a, .int .i64 b] 2)).mono hHeld.size)
  clear hHeld
  refine value_ (w1 := (w3).alloc (.cells #[.int .i64 a, .int .i64 b] 2)) (v := .slice (some ⟨(w3).heap.size, 0, none⟩) 2 2) (by rfl) rfl ?_ ?_
  · first | (go_simp; done) | (go_simp; rfl)
  refine hK.out _ _ hN (fun hHeld => ?_)
  clear hN
  clear hK K
  refine norm_ (a' := ?_) ?_ ?_
  rotate_left
  · show Act.put _ (some 35) _ = _
    go_frame
    rfl
  refine one_ (i := 14) (N := some 36) #[true, true, true, true, true, true, true, true, true, true, true, true, true, true, true, true, true, true, true, true, true, false, false, false, false] rfl rfl (by kernel_rfl) (by decide) (fun K hK => ?_)
  refine goes_ Tryd.func22 (by kernel_rfl) rfl #[.slice (some ⟨w3.heap.size, 0, none⟩) 2 2] (by rfl) rfl rfl (by (try simp only [List.map_toArray, List.map_cons, List.map_nil]); first | done | rfl) ?_
  refine (HQ2.out w3 (HT0.out.below hHeld)).mono ?_
  rintro e w4 ⟨rfl, hb⟩
  have hN := hHeld.trans (hb.mono hHeld.size)
  clear hHeld hb
  refine ⟨_, rfl, ?_⟩
  refine hK.out _ _ hN (fun hHeld => ?_)
  clear hN
  clear hK K
  refine norm_ (a' := ?_) ?_ ?_
  rotate_left
  · show Act.put _ (some 36) _ = _
    go_frame
    rfl
  refine one_ (i := 21) (N := some 43) #[true, true, true, true, true, true, true, true, true, true, true, true, true, true, true, true, true, true, true, true, true, true, false, false, false] rfl rfl (by kernel_rfl) (by decide) (fun K hK => ?_)
  refine goesV_ (first := #[]) (captured := #[]) Tryd.func18 (by kernel_rfl) rfl #[.int .i64 a, .int .i64 b] (by rfl) rfl rfl (by rfl) (by (try simp only [List.map_toArray, List.map_cons, List.map_nil]); first | done | rfl) ?_
  refine (tow_call a b w4).mono ?_
  rintro e w5 ⟨rfl, hb⟩
  have hN := hHeld.trans (hb.mono hHeld.size)
  clear hHeld hb
  refine ⟨_, rfl, ?_⟩
  refine hK.out _ _ hN (fun hHeld => ?_)
  clear hN
  clear hK K
  refine norm_ (a' := ?_) ?_ ?_
  rotate_left
  · show Act.put _ (some 43) _ = _
    go_frame
    rfl
  refine one_ (i := 22) (N := some 44) #[true, true, true, true, true, true, true, true, true, true, true, true, true, true, true, true, true, true, true, true, true, true, true, false, false] rfl rfl (by kernel_rfl) (by decide) (fun K hK => ?_)
  refine goesV_ (first := #[]) (captured := #[.pointer (some ⟨w.heap.size, 0, none⟩)]) Tryd.func19 (by kernel_rfl) rfl #[.int .i64 a, .int .i64 b, .int .i64 (tow a b), .pointer (some ⟨w.heap.size, 0, none⟩)] (by rfl) rfl rfl (by rfl) (by (try simp only [List.map_toArray, List.map_cons, List.map_nil]); first | done | rfl) ?_
  refine (HR2.out w5 (blk_below H0.out hHeld) (HT0.out.below hHeld)).mono ?_
  rintro e w6 ⟨rfl, hb⟩
  have hN := hHeld.trans (hb.mono hHeld.size)
  clear hHeld hb
  refine ⟨_, rfl, ?_⟩
  refine hK.out _ _ hN (fun hHeld => ?_)
  clear hN
  clear hK K
  refine norm_ (a' := ?_) ?_ ?_
  rotate_left
  · show Act.put _ (some 44) _ = _
    go_frame
    rfl
  refine pure_ (i := 23) (N := some 45) (v := ?_) (a' := ?_) #[true, true, true, true, true, true, true, true, true, true, true, true, true, true, true, true, true, true, true, true, true, true, true, true, false] rfl rfl (by kernel_rfl) (fun _ _ _ h => h) (Or.inl ⟨by rfl, ?_⟩) ?_ ?_
  rotate_left; (intro w'; go_simp; with_reducible rfl)
  rotate_left; (go_frame; rfl)
  refine pure_ (i := 24) (N := some 46) (v := ?_) (a' := ?_) #[true, true, true, true, true, true, true, true, true, true, true, true, true, true, true, true, true, true, true, true, true, true, true, true, true] rfl rfl (by kernel_rfl) (fun _ _ _ h => h) (Or.inl ⟨by rfl, ?_⟩) ?_ ?_
  rotate_left; (intro w'; go_simp; with_reducible rfl)
  rotate_left; (go_frame; rfl)
  refine done_ (by kernel_rfl) ?_
  go_upto_region 6 with fail
  have HB6 := Lib.hid (HB0.out.trans (hHeld.mono HB0.out.size))
  have H6 := Lib.hid (blk_below H0.out hHeld)
  have HT6 := Lib.hid (HT0.out.below hHeld)
  clear hHeld HQ1 HQ2 HR1 HR2 H0 HT0 HB0
  generalize v0.heap.size = n0 at *
  have HTA := Lib.hid (fun W : World => tow_call a b W)
  have HTS := Lib.hid (fun W : World => tow_call 0 s W)
  generalize tow a b = p at *
  generalize tow 0 s = q at *
  by_cases c1 : s = 0
  · have d1 : decide (s = 0) = true := decide_eq_true c1
    have d2 : (s == 0) = true := by simp [c1]
    clear c1
    refine start_ (n := 17) (ds := []) (S := fun w' => Below w6.heap.size w6 w') #[false, false, false, false, false, false, false, false, false, false, false, false, false, false, false, false, false] (by kernel_rfl) rfl rfl ((Below.refl _ _).drew) (fun hHeld => ?_)
    refine pure_ (i := 0) (N := some 47) (v := ?_) (a' := ?_) #[true, false, false, false, false, false, false, false, false, false, false, false, false, false, false, false, false] rfl rfl (by kernel_rfl) (fun _ _ _ h => h) (Or.inl ⟨by rfl, ?_⟩) ?_ ?_
    rotate_left; (intro w'; go_simp; with_reducible rfl)
    rotate_left; (go_frame; rfl)
    refine pure_ (i := 1) (N := some 48) (v := ?_) (a' := ?_) #[true, true, false, false, false, false, false, false, false, false, false, false, false, false, false, false, false] rfl rfl (by kernel_rfl) (fun _ _ _ h => h) (Or.inl ⟨by rfl, ?_⟩) ?_ ?_
    rotate_left; (intro w'; go_simp; with_reducible rfl)
    rotate_left; (go_frame; rfl)
    refine pure_ (i := 2) (N := some 49) (v := ?_) (a' := ?_) #[true, true, true, false, false, false, false, false, false, false, false, false, false, false, false, false, false] rfl rfl (by kernel_rfl) (fun _ _ _ h => h) (Or.inl ⟨by rfl, ?_⟩) ?_ ?_
    rotate_left; (intro w'; go_simp; with_reducible rfl)
    rotate_left; (go_frame; rfl)
    refine pure_ (i := 3) (N := some 50) (v := undef) (a' := ?_) #[true, true, true, true, false, false, false, false, false, false, false, false, false, false, false, false, false] rfl rfl (by kernel_rfl) (fun _ _ _ h => h) (Or.inr ⟨by rfl, rfl⟩) ?_ ?_
    rotate_left; (go_frame; rfl)
    refine pure_ (i := 4) (N := some 51) (v := undef) (a' := ?_) #[true, true, true, true, true, false, false, false, false, false, false, false, false, false, false, false, false] rfl rfl (by kernel_rfl) (fun _ _ _ h => h) (Or.inr ⟨by rfl, rfl⟩) ?_ ?_
    rotate_left; (go_frame; rfl)
    refine pure_ (i := 5) (N := some 52) (v := undef) (a' := ?_) #[true, true, true, true, true, true, false, false, false, false, false, false, false, false, false, false, false] rfl rfl (by kernel_rfl) (fun _ _ _ h => h) (Or.inr ⟨by rfl, rfl⟩) ?_ ?_
    rotate_left; (go_frame; rfl)
    refine pure_ (i := 6) (N := some 53) (v := undef) (a' := ?_) #[true, true, true, true, true, true, true, false, false, false, false, false, false, false, false, false, false] rfl rfl (by kernel_rfl) (fun _ _ _ h => h) (Or.inr ⟨by rfl, rfl⟩) ?_ ?_
    rotate_left; (go_frame; rfl)
    refine pure_ (i := 7) (N := some 54) (v := undef) (a' := ?_) #[true, true, true, true, true, true, true, true, false, false, false, false, false, false, false, false, false] rfl rfl (by kernel_rfl) (fun _ _ _ h => h) (Or.inr ⟨by rfl, rfl⟩) ?_ ?_
    rotate_left; (go_frame; rfl)
    refine pure_ (i := 8) (N := some 55) (v := undef) (a' := ?_) #[true, true, true, true, true, true, true, true, true, false, false, false, false, false, false, false, false] rfl rfl (by kernel_rfl) (fun _ _ _ h => h) (Or.inr ⟨by rfl, rfl⟩) ?_ ?_
    rotate_left; (go_frame; rfl)
    refine pure_ (i := 9) (N := some 56) (v := undef) (a' := ?_) #[true, true, true, true, true, true, true, true, true, true, false, false, false, false, false, false, false] rfl rfl (by kernel_rfl) (fun _ _ _ h => h) (Or.inr ⟨by rfl, rfl⟩) ?_ ?_
    rotate_left; (go_frame; rfl)
    refine pure_ (i := 10) (N := some 57) (v := undef) (a' := ?_) #[true, true, true, true, true, true, true, true, true, true, true, false, false, false, false, false, false] rfl rfl (by kernel_rfl) (fun _ _ _ h => h) (Or.inr ⟨by rfl, rfl⟩) ?_ ?_
    rotate_left; (go_frame; rfl)
    refine pure_ (i := 11) (N := some 58) (v := ?_) (a' := ?_) #[true, true, true, true, true, true, true, true, true, true, true, true, false, false, false, false, false] rfl rfl (by kernel_rfl) (fun _ _ _ h => h) (Or.inl ⟨by rfl, ?_⟩) ?_ ?_
    rotate_left; (intro w'; go_simp; with_reducible rfl)
    rotate_left; (go_frame; rfl)
    refine pure_ (i := 12) (N := some 59) (v := ?_) (a' := ?_) #[true, true, true, true, true, true, true, true, true, true, true, true, true, false, false, false, false] rfl rfl (by kernel_rfl) (fun _ _ _ h => h) (Or.inl ⟨by rfl, ?_⟩) ?_ ?_
    rotate_left; (intro w'; go_simp; with_reducible rfl)
    rotate_left; (go_frame; rfl)
    refine pure_ (i := 13) (N := some 60) (v := undef) (a' := ?_) #[true, true, true, true, true, true, true, true, true, true, true, true, true, true, false, false, false] rfl rfl (by kernel_rfl) (fun _ _ _ h => h) (Or.inr ⟨by rfl, rfl⟩) ?_ ?_
    rotate_left; (go_frame; rfl)
    refine pure_ (i := 14) (N := some 61) (v := undef) (a' := ?_) #[true, true, true, true, true, true, true, true, true, true, true, true, true, true, true, false, false] rfl rfl (by kernel_rfl) (fun _ _ _ h => h) (Or.inr ⟨by rfl, rfl⟩) ?_ ?_
    rotate_left; (go_frame; rfl)
    refine pure_ (i := 15) (N := some 62) (v := undef) (a' := ?_) #[true, true, true, true, true, true, true, true, true, true, true, true, true, true, true, true, false] rfl rfl (by kernel_rfl) (fun _ _ _ h => h) (Or.inr ⟨by rfl, rfl⟩) ?_ ?_
    rotate_left; (go_frame; rfl)
    refine pure_ (i := 16) (N := some 63) (v := ?_) (a' := ?_) #[true, true, true, true, true, true, true, true, true, true, true, true, true, true, true, true, true] rfl rfl (by kernel_rfl) (fun _ _ _ h => h) (Or.inl ⟨by rfl, ?_⟩) ?_ ?_
    rotate_left; (intro w'; go_simp; with_reducible rfl)
    rotate_left; (go_frame; rfl)
    refine done_ (by kernel_rfl) ?_
    have HB8 := Lib.hid (HB6.out.trans (hHeld.mono HB6.out.size))
    have HT8 := Lib.hid (HT6.out.below hHeld)
    clear hHeld HB6 HT6 H6 HQ4 HTA HTS
    go_wp2_with fail
    refine (HQ3.out _ (HT8.out.below (alloc_below_ _ _))).mono ?_
    rintro e w9 ⟨rfl, hb⟩
    have HB9 := Lib.hid (HB8.out.trans (((alloc_below_ _ _).trans (hb.mono (alloc_below_ _ _).size)).mono HB8.out.size))
    clear hb HQ3 HB8
    go_wp2
    go_ret
    exact ⟨rfl, HB9.out⟩
  have d1 : decide (s = 0) = false := decide_eq_false c1
  have d2 : (s == 0) = false := by simp [c1]
  by_cases c2 : ¬ q = p
  · have e1 : decide (p = q) = false := decide_eq_false (fun h => c2 h.symm)
    have e2 : (p == q) = false := by simp; exact fun h => c2 h.symm
    have e3 : (p != q) = true := by simp; exact fun h => c2 h.symm
    clear c1 c2
    refine start_ (n := 17) (ds := []) (S := fun w' => Below w6.heap.size w6 w') #[false, false, false, false, false, false, false, false, false, false, false, false, false, false, false, false, false] (by kernel_rfl) rfl rfl ((Below.refl _ _).drew) (fun hHeld => ?_)
    refine pure_ (i := 0) (N := some 47) (v := ?_) (a' := ?_) #[true, false, false, false, false, false, false, false, false, false, false, false, false, false, false, false, false] rfl rfl (by kernel_rfl) (fun _ _ _ h => h) (Or.inl ⟨by rfl, ?_⟩) ?_ ?_
    rotate_left; (intro w'; go_simp; with_reducible rfl)
    rotate_left; (go_frame; rfl)
    refine pure_ (i := 1) (N := some 48) (v := ?_) (a' := ?_) #[true, true, false, false, false, false, false, false, false, false, false, false, false, false, false, false, false] rfl rfl (by kernel_rfl) (fun _ _ _ h => h) (Or.inl ⟨by rfl, ?_⟩) ?_ ?_
    rotate_left; (intro w'; go_simp; with_reducible rfl)
    rotate_left; (go_frame; rfl)
    refine pure_ (i := 2) (N := some 49) (v := ?_) (a' := ?_) #[true, true, true, false, false, false, false, false, false, false, false, false, false, false, false, false, false] rfl rfl (by kernel_rfl) (fun _ _ _ h => h) (Or.inl ⟨by rfl, ?_⟩) ?_ ?_
    rotate_left; (intro w'; go_simp; with_reducible rfl)
    rotate_left; (go_frame; rfl)
    refine pure_ (i := 4) (N := some 51) (v := ?_) (a' := ?_) #[true, true, true, false, true, false, false, false, false, false, false, false, false, false, false, false, false] rfl rfl (by kernel_rfl) (fun _ _ _ h => h) (Or.inl ⟨by rfl, ?_⟩) ?_ ?_
    rotate_left; (intro w'; go_simp; with_reducible rfl)
    rotate_left; (go_frame; rfl)
    refine pure_ (i := 5) (N := some 52) (v := ?_) (a' := ?_) #[true, true, true, false, true, true, false, false, false, false, false, false, false, false, false, false, false] rfl rfl (by kernel_rfl) (fun _ _ _ h => h) (Or.inl ⟨by rfl, ?_⟩) ?_ ?_
    rotate_left; (intro w'; go_simp; with_reducible rfl)
    rotate_left; (go_frame; rfl)
    refine pure_ (i := 8) (N := some 55) (v := ?_) (a' := ?_) #[true, true, true, false, true, true, false, false, true, false, false, false, false, false, false, false, false] rfl rfl (by kernel_rfl) (fun _ _ _ h => h) (Or.inl ⟨by rfl, ?_⟩) ?_ ?_
    rotate_left; (intro w'; go_simp; with_reducible rfl)
    rotate_left; (go_frame; rfl)
    refine take_ (i := 3) (N := some 50) (v := ?_) (a' := ?_) #[true, true, true, true, true, true, false, false, true, false, false, false, false, false, false, false, false] rfl rfl (by kernel_rfl) (fun _ _ _ h => h) (Or.inl ⟨by rfl, ?_⟩) hHeld ?_ ?_
    rotate_left
    · intro w' hS
      have q0 := (blk_cell (blk_below H6.out hS) 0).trans rfl
      go_simp
      with_reducible rfl
    rotate_left; (go_frame; rfl)
    refine take_ (i := 7) (N := some 54) (v := ?_) (a' := ?_) #[true, true, true, true, true, true, false, true, true, false, false, false, false, false, false, false, false] rfl rfl (by kernel_rfl) (fun _ _ _ h => h) (Or.inl ⟨by rfl, ?_⟩) hHeld ?_ ?_
    rotate_left
    · intro w' hS
      have q0 := (blk_cell (blk_below H6.out hS) 0).trans rfl
      go_simp
      with_reducible rfl
    rotate_left; (go_frame; rfl)
    refine one_ (i := 6) (N := some 53) #[true, true, true, true, true, true, true, true, true, false, false, false, false, false, false, false, false] rfl rfl (by kernel_rfl) (by decide) (fun K hK => ?_)
    refine goesV_ (first := #[]) (captured := #[]) Tryd.func18 (by kernel_rfl) rfl #[.int .i64 a, .int .i64 b] (by rfl) rfl rfl (by rfl) (by (try simp only [List.map_toArray, List.map_cons, List.map_nil]); first | done | rfl) ?_
    refine (HTA.out _).mono ?_
    rintro e w7 ⟨rfl, hb⟩
    have hN := hHeld.trans (hb.mono hHeld.size)
    clear hHeld hb
    refine ⟨_, rfl, ?_⟩
    refine hK.out _ _ hN (fun hHeld => ?_)
    clear hN
    clear hK K
    refine norm_ (a' := ?_) ?_ ?_
    rotate_left
    · show Act.put _ (some 53) _ = _
      go_frame
      rfl
    refine one_ (i := 9) (N := some 56) #[true, true, true, true, true, true, true, true, true, true, false, false, false, false, false, false, false] rfl rfl (by kernel_rfl) (by decide) (fun K hK => ?_)
    refine goesV_ (first := #[]) (captured := #[]) Tryd.func18 (by kernel_rfl) rfl #[.int .i64 0, .int .i64 s] (by rfl) rfl rfl (by rfl) (by (try simp only [List.map_toArray, List.map_cons, List.map_nil]); first | done | rfl) ?_
    refine (HTS.out _).mono ?_
    rintro e w8 ⟨rfl, hb⟩
    have hN := hHeld.trans (hb.mono hHeld.size)
    clear hHeld hb
    refine ⟨_, rfl, ?_⟩
    refine hK.out _ _ hN (fun hHeld => ?_)
    clear hN
    clear hK K
    refine norm_ (a' := ?_) ?_ ?_
    rotate_left
    · show Act.put _ (some 56) _ = _
      go_frame
      rfl
    refine pure_ (i := 10) (N := some 57) (v := ?_) (a' := ?_) #[true, true, true, true, true, true, true, true, true, true, true, false, false, false, false, false, false] rfl rfl (by kernel_rfl) (fun _ _ _ h => h) (Or.inl ⟨by rfl, ?_⟩) ?_ ?_
    rotate_left; (intro w'; go_simp; with_reducible rfl)
    rotate_left; (go_frame; rfl)
    refine pure_ (i := 11) (N := some 58) (v := ?_) (a' := ?_) #[true, true, true, true, true, true, true, true, true, true, true, true, false, false, false, false, false] rfl rfl (by kernel_rfl) (fun _ _ _ h => h) (Or.inl ⟨by rfl, ?_⟩) ?_ ?_
    rotate_left; (intro w'; go_simp; with_reducible rfl)
    rotate_left; (go_frame; rfl)
    refine pure_ (i := 12) (N := some 59) (v := ?_) (a' := ?_) #[true, true, true, true, true, true, true, true, true, true, true, true, true, false, false, false, false] rfl rfl (by kernel_rfl) (fun _ _ _ h => h) (Or.inl ⟨by rfl, ?_⟩) ?_ ?_
    rotate_left; (intro w'; go_simp; with_reducible rfl)
    rotate_left; (go_frame; rfl)
    refine pure_ (i := 13) (N := some 60) (v := undef) (a' := ?_) #[true, true, true, true, true, true, true, true, true, true, true, true, true, true, false, false, false] rfl rfl (by kernel_rfl) (fun _ _ _ h => h) (Or.inr ⟨by rfl, rfl⟩) ?_ ?_
    rotate_left; (go_frame; rfl)
    refine pure_ (i := 14) (N := some 61) (v := undef) (a' := ?_) #[true, true, true, true, true, true, true, true, true, true, true, true, true, true, true, false, false] rfl rfl (by kernel_rfl) (fun _ _ _ h => h) (Or.inr ⟨by rfl, rfl⟩) ?_ ?_
    rotate_left; (go_frame; rfl)
    refine pure_ (i := 15) (N := some 62) (v := undef) (a' := ?_) #[true, true, true, true, true, true, true, true, true, true, true, true, true, true, true, true, false] rfl rfl (by kernel_rfl) (fun _ _ _ h => h) (Or.inr ⟨by rfl, rfl⟩) ?_ ?_
    rotate_left; (go_frame; rfl)
    refine pure_ (i := 16) (N := some 63) (v := ?_) (a' := ?_) #[true, true, true, true, true, true, true, true, true, true, true, true, true, true, true, true, true] rfl rfl (by kernel_rfl) (fun _ _ _ h => h) (Or.inl ⟨by rfl, ?_⟩) ?_ ?_
    rotate_left; (intro w'; go_simp; with_reducible rfl)
    rotate_left; (go_frame; rfl)
    refine done_ (by kernel_rfl) ?_
    have HB8 := Lib.hid (HB6.out.trans (hHeld.mono HB6.out.size))
    have HT8 := Lib.hid (HT6.out.below hHeld)
    clear hHeld HB6 HT6 H6 HQ4 HTA HTS
    go_wp2_with fail
    refine (HQ3.out _ (HT8.out.below (alloc_below_ _ _))).mono ?_
    rintro e w9 ⟨rfl, hb⟩
    have HB9 := Lib.hid (HB8.out.trans (((alloc_below_ _ _).trans (hb.mono (alloc_below_ _ _).size)).mono HB8.out.size))
    clear hb HQ3 HB8
    go_wp2
    go_ret
    exact ⟨rfl, HB9.out⟩
  replace c2 := Decidable.of_not_not c2
  subst c2
  by_cases c3 : a = b
  · subst c3
    clear c1
    refine start_ (n := 17) (ds := []) (S := fun w' => Below w6.heap.size w6 w') #[false, false, false, false, false, false, false, false, false, false, false, false, false, false, false, false, false] (by kernel_rfl) rfl rfl ((Below.refl _ _).drew) (fun hHeld => ?_)
    refine pure_ (i := 0) (N := some 47) (v := ?_) (a' := ?_) #[true, false, false, false, false, false, false, false, false, false, false, false, false, false, false, false, false] rfl rfl (by kernel_rfl) (fun _ _ _ h => h) (Or.inl ⟨by rfl, ?_⟩) ?_ ?_
    rotate_left; (intro w'; go_simp; with_reducible rfl)
    rotate_left; (go_frame; rfl)
    refine pure_ (i := 1) (N := some 48) (v := ?_) (a' := ?_) #[true, true, false, false, false, false, false, false, false, false, false, false, false, false, false, false, false] rfl rfl (by kernel_rfl) (fun _ _ _ h => h) (Or.inl ⟨by rfl, ?_⟩) ?_ ?_
    rotate_left; (intro w'; go_simp; with_reducible rfl)
    rotate_left; (go_frame; rfl)
    refine pure_ (i := 2) (N := some 49) (v := ?_) (a' := ?_) #[true, true, true, false, false, false, false, false, false, false, false, false, false, false, false, false, false] rfl rfl (by kernel_rfl) (fun _ _ _ h => h) (Or.inl ⟨by rfl, ?_⟩) ?_ ?_
    rotate_left; (intro w'; go_simp; with_reducible rfl)
    rotate_left; (go_frame; rfl)
    refine pure_ (i := 4) (N := some 51) (v := ?_) (a' := ?_) #[true, true, true, false, true, false, false, false, false, false, false, false, false, false, false, false, false] rfl rfl (by kernel_rfl) (fun _ _ _ h => h) (Or.inl ⟨by rfl, ?_⟩) ?_ ?_
    rotate_left; (intro w'; go_simp; with_reducible rfl)
    rotate_left; (go_frame; rfl)
    refine pure_ (i := 5) (N := some 52) (v := ?_) (a' := ?_) #[true, true, true, false, true, true, false, false, false, false, false, false, false, false, false, false, false] rfl rfl (by kernel_rfl) (fun _ _ _ h => h) (Or.inl ⟨by rfl, ?_⟩) ?_ ?_
    rotate_left; (intro w'; go_simp; with_reducible rfl)
    rotate_left; (go_frame; rfl)
    refine pure_ (i := 8) (N := some 55) (v := ?_) (a' := ?_) #[true, true, true, false, true, true, false, false, true, false, false, false, false, false, false, false, false] rfl rfl (by kernel_rfl) (fun _ _ _ h => h) (Or.inl ⟨by rfl, ?_⟩) ?_ ?_
    rotate_left; (intro w'; go_simp; with_reducible rfl)
    rotate_left; (go_frame; rfl)
    refine take_ (i := 3) (N := some 50) (v := ?_) (a' := ?_) #[true, true, true, true, true, true, false, false, true, false, false, false, false, false, false, false, false] rfl rfl (by kernel_rfl) (fun _ _ _ h => h) (Or.inl ⟨by rfl, ?_⟩) hHeld ?_ ?_
    rotate_left
    · intro w' hS
      have q0 := (blk_cell (blk_below H6.out hS) 0).trans rfl
      go_simp
      with_reducible rfl
    rotate_left; (go_frame; rfl)
    refine take_ (i := 7) (N := some 54) (v := ?_) (a' := ?_) #[true, true, true, true, true, true, false, true, true, false, false, false, false, false, false, false, false] rfl rfl (by kernel_rfl) (fun _ _ _ h => h) (Or.inl ⟨by rfl, ?_⟩) hHeld ?_ ?_
    rotate_left
    · intro w' hS
      have q0 := (blk_cell (blk_below H6.out hS) 0).trans rfl
      go_simp
      with_reducible rfl
    rotate_left; (go_frame; rfl)
    refine one_ (i := 6) (N := some 53) #[true, true, true, true, true, true, true, true, true, false, false, false, false, false, false, false, false] rfl rfl (by kernel_rfl) (by decide) (fun K hK => ?_)
    refine goesV_ (first := #[]) (captured := #[]) Tryd.func18 (by kernel_rfl) rfl #[.int .i64 a, .int .i64 a] (by rfl) rfl rfl (by rfl) (by (try simp only [List.map_toArray, List.map_cons, List.map_nil]); first | done | rfl) ?_
    refine (HTA.out _).mono ?_
    rintro e w7 ⟨rfl, hb⟩
    have hN := hHeld.trans (hb.mono hHeld.size)
    clear hHeld hb
    refine ⟨_, rfl, ?_⟩
    refine hK.out _ _ hN (fun hHeld => ?_)
    clear hN
    clear hK K
    refine norm_ (a' := ?_) ?_ ?_
    rotate_left
    · show Act.put _ (some 53) _ = _
      go_frame
      rfl
    refine one_ (i := 9) (N := some 56) #[true, true, true, true, true, true, true, true, true, true, false, false, false, false, false, false, false] rfl rfl (by kernel_rfl) (by decide) (fun K hK => ?_)
    refine goesV_ (first := #[]) (captured := #[]) Tryd.func18 (by kernel_rfl) rfl #[.int .i64 0, .int .i64 s] (by rfl) rfl rfl (by rfl) (by (try simp only [List.map_toArray, List.map_cons, List.map_nil]); first | done | rfl) ?_
    refine (HTS.out _).mono ?_
    rintro e w8 ⟨rfl, hb⟩
    have hN := hHeld.trans (hb.mono hHeld.size)
    clear hHeld hb
    refine ⟨_, rfl, ?_⟩
    refine hK.out _ _ hN (fun hHeld => ?_)
    clear hN
    clear hK K
    refine norm_ (a' := ?_) ?_ ?_
    rotate_left
    · show Act.put _ (some 56) _ = _
      go_frame
      rfl
    refine pure_ (i := 10) (N := some 57) (v := ?_) (a' := ?_) #[true, true, true, true, true, true, true, true, true, true, true, false, false, false, false, false, false] rfl rfl (by kernel_rfl) (fun _ _ _ h => h) (Or.inl ⟨by rfl, ?_⟩) ?_ ?_
    rotate_left; (intro w'; go_simp; with_reducible rfl)
    rotate_left; (go_frame; rfl)
    refine pure_ (i := 11) (N := some 58) (v := ?_) (a' := ?_) #[true, true, true, true, true, true, true, true, true, true, true, true, false, false, false, false, false] rfl rfl (by kernel_rfl) (fun _ _ _ h => h) (Or.inl ⟨by rfl, ?_⟩) ?_ ?_
    rotate_left; (intro w'; go_simp; with_reducible rfl)
    rotate_left; (go_frame; rfl)
    refine pure_ (i := 12) (N := some 59) (v := ?_) (a' := ?_) #[true, true, true, true, true, true, true, true, true, true, true, true, true, false, false, false, false] rfl rfl (by kernel_rfl) (fun _ _ _ h => h) (Or.inl ⟨by rfl, ?_⟩) ?_ ?_
    rotate_left; (intro w'; go_simp; with_reducible rfl)
    rotate_left; (go_frame; rfl)
    refine pure_ (i := 13) (N := some 60) (v := ?_) (a' := ?_) #[true, true, true, true, true, true, true, true, true, true, true, true, true, true, false, false, false] rfl rfl (by kernel_rfl) (fun _ _ _ h => h) (Or.inl ⟨by rfl, ?_⟩) ?_ ?_
    rotate_left; (intro w'; go_simp; with_reducible rfl)
    rotate_left; (go_frame; rfl)
    refine pure_ (i := 14) (N := some 61) (v := ?_) (a' := ?_) #[true, true, true, true, true, true, true, true, true, true, true, true, true, true, true, false, false] rfl rfl (by kernel_rfl) (fun _ _ _ h => h) (Or.inl ⟨by rfl, ?_⟩) ?_ ?_
    rotate_left; (intro w'; go_simp; with_reducible rfl)
    rotate_left; (go_frame; rfl)
    refine pure_ (i := 15) (N := some 62) (v := ?_) (a' := ?_) #[true, true, true, true, true, true, true, true, true, true, true, true, true, true, true, true, false] rfl rfl (by kernel_rfl) (fun _ _ _ h => h) (Or.inl ⟨by rfl, ?_⟩) ?_ ?_
    rotate_left; (intro w'; go_simp; with_reducible rfl)
    rotate_left; (go_frame; rfl)
    refine pure_ (i := 16) (N := some 63) (v := ?_) (a' := ?_) #[true, true, true, true, true, true, true, true, true, true, true, true, true, true, true, true, true] rfl rfl (by kernel_rfl) (fun _ _ _ h => h) (Or.inl ⟨by rfl, ?_⟩) ?_ ?_
    rotate_left; (intro w'; go_simp; with_reducible rfl)
    rotate_left; (go_frame; rfl)
    refine done_ (by kernel_rfl) ?_
    have HB8 := Lib.hid (HB6.out.trans (hHeld.mono HB6.out.size))
    have HT8 := Lib.hid (HT6.out.below hHeld)
    clear hHeld HB6 HT6 H6 HQ4 HTA HTS
    go_wp2_with fail
    refine (HQ3.out _ (HT8.out.below (alloc_below_ _ _))).mono ?_
    rintro e w9 ⟨rfl, hb⟩
    have HB9 := Lib.hid (HB8.out.trans (((alloc_below_ _ _).trans (hb.mono (alloc_below_ _ _).size)).mono HB8.out.size))
    clear hb HQ3 HB8
    go_wp2
    go_ret
    exact ⟨rfl, HB9.out⟩
  have e1 : decide (a = b) = false := decide_eq_false c3
  have e2 : (a == b) = false := by simp; exact c3
  obtain ⟨t3, h3, h4⟩ := HQ4.out c1 rfl
  have HQ5 := Lib.hid h3
  have HQ6 := Lib.hid h4
  clear c1 c3 h3 h4
  refine start_ (n := 17) (ds := []) (S := fun w' => Below w6.heap.size w6 w') #[false, false, false, false, false, false, false, false, false, false, false, false, false, false, false, false, false] (by kernel_rfl) rfl rfl ((Below.refl _ _).drew) (fun hHeld => ?_)
  refine pure_ (i := 0) (N := some 47) (v := ?_) (a' := ?_) #[true, false, false, false, false, false, false, false, false, false, false, false, false, false, false, false, false] rfl rfl (by kernel_rfl) (fun _ _ _ h => h) (Or.inl ⟨by rfl, ?_⟩) ?_ ?_
  rotate_left; (intro w'; go_simp; with_reducible rfl)
  rotate_left; (go_frame; rfl)
  refine pure_ (i := 1) (N := some 48) (v := ?_) (a' := ?_) #[true, true, false, false, false, false, false, false, false, false, false, false, false, false, false, false, false] rfl rfl (by kernel_rfl) (fun _ _ _ h => h) (Or.inl ⟨by rfl, ?_⟩) ?_ ?_
  rotate_left; (intro w'; go_simp; with_reducible rfl)
  rotate_left; (go_frame; rfl)
  refine pure_ (i := 2) (N := some 49) (v := ?_) (a' := ?_) #[true, true, true, false, false, false, false, false, false, false, false, false, false, false, false, false, false] rfl rfl (by kernel_rfl) (fun _ _ _ h => h) (Or.inl ⟨by rfl, ?_⟩) ?_ ?_
  rotate_left; (intro w'; go_simp; with_reducible rfl)
  rotate_left; (go_frame; rfl)
  refine pure_ (i := 4) (N := some 51) (v := ?_) (a' := ?_) #[true, true, true, false, true, false, false, false, false, false, false, false, false, false, false, false, false] rfl rfl (by kernel_rfl) (fun _ _ _ h => h) (Or.inl ⟨by rfl, ?_⟩) ?_ ?_
  rotate_left; (intro w'; go_simp; with_reducible rfl)
  rotate_left; (go_frame; rfl)
  refine pure_ (i := 5) (N := some 52) (v := ?_) (a' := ?_) #[true, true, true, false, true, true, false, false, false, false, false, false, false, false, false, false, false] rfl rfl (by kernel_rfl) (fun _ _ _ h => h) (Or.inl ⟨by rfl, ?_⟩) ?_ ?_
  rotate_left; (intro w'; go_simp; with_reducible rfl)
  rotate_left; (go_frame; rfl)
  refine pure_ (i := 8) (N := some 55) (v := ?_) (a' := ?_) #[true, true, true, false, true, true, false, false, true, false, false, false, false, false, false, false, false] rfl rfl (by kernel_rfl) (fun _ _ _ h => h) (Or.inl ⟨by rfl, ?_⟩) ?_ ?_
  rotate_left; (intro w'; go_simp; with_reducible rfl)
  rotate_left; (go_frame; rfl)
  refine take_ (i := 3) (N := some 50) (v := ?_) (a' := ?_) #[true, true, true, true, true, true, false, false, true, false, false, false, false, false, false, false, false] rfl rfl (by kernel_rfl) (fun _ _ _ h => h) (Or.inl ⟨by rfl, ?_⟩) hHeld ?_ ?_
  rotate_left
  · intro w' hS
    have q0 := (blk_cell (blk_below H6.out hS) 0).trans rfl
    go_simp
    with_reducible rfl
  rotate_left; (go_frame; rfl)
  refine take_ (i := 7) (N := some 54) (v := ?_) (a' := ?_) #[true, true, true, true, true, true, false, true, true, false, false, false, false, false, false, false, false] rfl rfl (by kernel_rfl) (fun _ _ _ h => h) (Or.inl ⟨by rfl, ?_⟩) hHeld ?_ ?_
  rotate_left
  · intro w' hS
    have q0 := (blk_cell (blk_below H6.out hS) 0).trans rfl
    go_simp
    with_reducible rfl
  rotate_left; (go_frame; rfl)
  refine one_ (i := 6) (N := some 53) #[true, true, true, true, true, true, true, true, true, false, false, false, false, false, false, false, false] rfl rfl (by kernel_rfl) (by decide) (fun K hK => ?_)
  refine goesV_ (first := #[]) (captured := #[]) Tryd.func18 (by kernel_rfl) rfl #[.int .i64 a, .int .i64 b] (by rfl) rfl rfl (by rfl) (by (try simp only [List.map_toArray, List.map_cons, List.map_nil]); first | done | rfl) ?_
  refine (HTA.out _).mono ?_
  rintro e w7 ⟨rfl, hb⟩
  have hN := hHeld.trans (hb.mono hHeld.size)
  clear hHeld hb
  refine ⟨_, rfl, ?_⟩
  refine hK.out _ _ hN (fun hHeld => ?_)
  clear hN
  clear hK K
  refine norm_ (a' := ?_) ?_ ?_
  rotate_left
  · show Act.put _ (some 53) _ = _
    go_frame
    rfl
  refine one_ (i := 9) (N := some 56) #[true, true, true, true, true, true, true, true, true, true, false, false, false, false, false, false, false] rfl rfl (by kernel_rfl) (by decide) (fun K hK => ?_)
  refine goesV_ (first := #[]) (captured := #[]) Tryd.func18 (by kernel_rfl) rfl #[.int .i64 0, .int .i64 s] (by rfl) rfl rfl (by rfl) (by (try simp only [List.map_toArray, List.map_cons, List.map_nil]); first | done | rfl) ?_
  refine (HTS.out _).mono ?_
  rintro e w8 ⟨rfl, hb⟩
  have hN := hHeld.trans (hb.mono hHeld.size)
  clear hHeld hb
  refine ⟨_, rfl, ?_⟩
  refine hK.out _ _ hN (fun hHeld => ?_)
  clear hN
  clear hK K
  refine norm_ (a' := ?_) ?_ ?_
  rotate_left
  · show Act.put _ (some 56) _ = _
    go_frame
    rfl
  refine pure_ (i := 10) (N := some 57) (v := ?_) (a' := ?_) #[true, true, true, true, true, true, true, true, true, true, true, false, false, false, false, false, false] rfl rfl (by kernel_rfl) (fun _ _ _ h => h) (Or.inl ⟨by rfl, ?_⟩) ?_ ?_
  rotate_left; (intro w'; go_simp; with_reducible rfl)
  rotate_left; (go_frame; rfl)
  refine pure_ (i := 11) (N := some 58) (v := ?_) (a' := ?_) #[true, true, true, true, true, true, true, true, true, true, true, true, false, false, false, false, false] rfl rfl (by kernel_rfl) (fun _ _ _ h => h) (Or.inl ⟨by rfl, ?_⟩) ?_ ?_
  rotate_left; (intro w'; go_simp; with_reducible rfl)
  rotate_left; (go_frame; rfl)
  refine pure_ (i := 12) (N := some 59) (v := ?_) (a' := ?_) #[true, true, true, true, true, true, true, true, true, true, true, true, true, false, false, false, false] rfl rfl (by kernel_rfl) (fun _ _ _ h => h) (Or.inl ⟨by rfl, ?_⟩) ?_ ?_
  rotate_left; (intro w'; go_simp; with_reducible rfl)
  rotate_left; (go_frame; rfl)
  refine pure_ (i := 13) (N := some 60) (v := ?_) (a' := ?_) #[true, true, true, true, true, true, true, true, true, true, true, true, true, true, false, false, false] rfl rfl (by kernel_rfl) (fun _ _ _ h => h) (Or.inl ⟨by rfl, ?_⟩) ?_ ?_
  rotate_left; (intro w'; go_simp; with_reducible rfl)
  rotate_left; (go_frame; rfl)
  refine pure_ (i := 14) (N := some 61) (v := ?_) (a' := ?_) #[true, true, true, true, true, true, true, true, true, true, true, true, true, true, true, false, false] rfl rfl (by kernel_rfl) (fun _ _ _ h => h) (Or.inl ⟨by rfl, ?_⟩) ?_ ?_
  rotate_left; (intro w'; go_simp; with_reducible rfl)
  rotate_left; (go_frame; rfl)
  refine pure_ (i := 15) (N := some 62) (v := ?_) (a' := ?_) #[true, true, true, true, true, true, true, true, true, true, true, true, true, true, true, true, false] rfl rfl (by kernel_rfl) (fun _ _ _ h => h) (Or.inl ⟨by rfl, ?_⟩) ?_ ?_
  rotate_left; (intro w'; go_simp; with_reducible rfl)
  rotate_left; (go_frame; rfl)
  refine pure_ (i := 16) (N := some 63) (v := ?_) (a' := ?_) #[true, true, true, true, true, true, true, true, true, true, true, true, true, true, true, true, true] rfl rfl (by kernel_rfl) (fun _ _ _ h => h) (Or.inl ⟨by rfl, ?_⟩) ?_ ?_
  rotate_left; (intro w'; go_simp; with_reducible rfl)
  rotate_left; (go_frame; rfl)
  refine done_ (by kernel_rfl) ?_
  have HB8 := Lib.hid (HB6.out.trans (hHeld.mono HB6.out.size))
  have HT8 := Lib.hid (HT6.out.below hHeld)
  have H8 := Lib.hid (blk_below H6.out hHeld)
  clear hHeld HB6 HT6 H6 HQ4 HTA HTS HQ3
  go_wp2_with fail
  refine (HQ5.out _ (HT8.out.below (alloc_below_ _ _))).mono ?_
  rintro e w9 ⟨rfl, hb⟩
  have hb8 := (alloc_below_ _ _).trans (hb.mono (alloc_below_ _ _).size)
  have HB9 := Lib.hid (HB8.out.trans (hb8.mono HB8.out.size))
  have HT9 := Lib.hid (HT8.out.below hb8)
  have H9 := Lib.hid (blk_below H8.out hb8)
  clear hb hb8 HB8 HT8 H8 HQ5
  go_wp2_with fail
  refine (HQ6.out _ H9.out HT9.out).mono ?_
  rintro e w10 ⟨rfl, hb⟩
  have HB10 := Lib.hid (HB9.out.trans (hb.mono HB9.out.size))
  clear hb HQ6 HB9 HT9 H9
  go_wp2
  go_ret
  exact ⟨rfl, HB10.out⟩
end Go.Proofs.YtjpibaehpmkdmaaDoor.P
