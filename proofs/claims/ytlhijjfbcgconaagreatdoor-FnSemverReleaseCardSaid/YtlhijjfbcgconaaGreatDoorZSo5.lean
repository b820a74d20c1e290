/- FnSemverOrder holds. -/
import Derived.Test.YtlhijjfbcgconaaGreatDoorZSoM
set_option linter.unusedVariables false
set_option linter.unusedSimpArgs false
namespace Go.Proofs.YtlhijjfbcgconaaGreatDoor.P
open Go.RowKit Go.Proofs.YtlhijjfbcgconaaGreatDoorW.PrintWords Go.Proofs.YtlhijjfbcgconaaGreatDoorW.PrintLast Go.Proofs.YtlhijjfbcgconaaGreatDoorW.PrintMore

/-- The identifiers of what stands behind a hyphen, as both sides cut them. -/
def IdL (p : ByteArray) (l : List ByteArray) : Prop := 0 < p.size → Ev (fun k => semver_zzSplit.f k p ⟨#[46]⟩) l ∧ Ev (fun k => spec_identifiers.f k p) l ∧ (∀ t ∈ l, Id15 t) ∧ l.length ≤ 100
theorem short_l (l : List ByteArray) (hl : l.length ≤ 1000) (hz : ∀ t ∈ l, t.size ≤ 100) : ∀ n i : Nat, i + n = l.length → ∃ b : Bool, Ev (fun k => spec_Short.l0 k l (i : Int)) b ∧ (b = true → ∀ t ∈ l.drop i, Dg t → t.size ≤ 15)
  | 0, i, hi => ⟨true, Ev.step (fun k => by rw [spec_Short.l0]) (Ev.neg (by omega) (Ev.ok _)), fun _ t ht => by rw [List.drop_eq_nil_of_le (by omega)] at ht; cases ht⟩
  | n + 1, i, hi => by
    obtain ⟨b, hb, hbi⟩ := short_l l hl hz n (i + 1) (by omega)
    have hil : i < l.length := by omega
    have hr : rdOf ByteArray.empty l (i : Int) = l[i] := by simp [rdOf, hil]
    have e1 : wrap64 ((i : Int) + 1) = ((i + 1 : Nat) : Int) := by rw [w64_in (by omega) (by omega)]; omega
    have hzi := hz l[i] (List.getElem_mem _)
    obtain ⟨x, hx, hxi⟩ := onlyD l[i] (by omega)
    have hgo : ∀ q : Bool, Ev (fun k => (if x = true then (if ((l[i]).size : Int) > 15 then (some false) else (spec_Short.l0 k l ((i + 1 : Nat) : Int))) else (spec_Short.l0 k l ((i + 1 : Nat) : Int)))) q → Ev (fun k => spec_Short.l0 k l (i : Int)) q := fun q hq => by
      refine Ev.step (fun k => by rw [spec_Short.l0]) (Ev.pos (by omega) (Ev.pos (by omega) ?_))
      rw [hr, e1]
      exact Ev.bind hx hq
    cases x with
    | true =>
      by_cases c : ((l[i]).size : Int) > 15
      · exact ⟨false, hgo _ (Ev.pos rfl (Ev.pos c (Ev.ok _))), fun h => by cases h⟩
      · refine ⟨b, hgo _ (Ev.pos rfl (Ev.neg c hb)), fun h t ht hd => ?_⟩
        rw [List.drop_eq_getElem_cons hil] at ht
        rcases List.mem_cons.1 ht with ht | ht
        · rw [ht]; omega
        · exact hbi h t ht hd
    | false =>
      refine ⟨b, hgo _ (Ev.neg (by decide) hb), fun h t ht hd => ?_⟩
      rw [List.drop_eq_getElem_cons hil] at ht
      rcases List.mem_cons.1 ht with ht | ht
      · exfalso
        rw [ht] at hd
        have := hxi.2 hd
        cases this
      · exact hbi h t ht hd
theorem ids_nil : Ev (fun k => spec_identifiers.f k ⟨#[]⟩) [⟨#[]⟩] := by
  unfold spec_identifiers.f
  have hz : ((⟨#[]⟩ : ByteArray).size : Int) = 0 := rfl
  refine Ev.step (fun k => by rw [spec_identifiers.l0]) ?_
  rw [hz]
  refine Ev.pos (by decide) (Ev.pos rfl (Ev.pos (by decide) (Ev.pos (by decide) (Ev.pos (by decide) ?_))))
  rw [show wrap64 (0 + 1) = 1 from w64_in (by decide) (by decide)]
  refine Ev.step (fun k => by rw [spec_identifiers.l0]) ?_
  rw [hz]
  exact Ev.neg (by decide) (Ev.ok _)
theorem short_ev {s : ByteArray} {a b c m : Nat} {n1 n2 n3 : Int} {pre mt : ByteArray} (h : Form s a b c m n1 n2 n3 pre mt) : ∃ (q : Bool) (l : List ByteArray), Ev (fun k => spec_Short.f k n1 n2 n3 pre mt) q ∧ (q = true → IdL pre l) := by
  rcases h.pfpre with h0 | ⟨h1, h2, h3⟩
  · obtain ⟨q, hq, _⟩ := short_l [⟨#[]⟩] (by decide) (fun t ht => by rw [List.mem_singleton.1 ht]; decide) 1 0 rfl
    refine ⟨q, [], ?_, fun _ hp => ?_⟩
    · unfold spec_Short.f
      rw [h0]
      exact Ev.bind ids_nil hq
    · rw [h0] at hp
      exact absurd hp (by decide)
  · obtain ⟨l, e1, e2, g, hl⟩ := split2_ev pre h2 true h3
    obtain ⟨q, hq, hqi⟩ := short_l l (by omega) (fun t ht => (g t ht).2.1) l.length 0 (by omega)
    refine ⟨q, l, ?_, fun hq1 _ => ⟨e1, e2, fun t ht => ⟨g t ht, hqi hq1 t (by rw [List.drop_zero]; exact ht)⟩, hl⟩⟩
    unfold spec_Short.f
    exact Ev.bind e2 hq
theorem cmpL_self (l : List ByteArray) : cmpL l l = 0 := by
  have := cmpL_anti l l
  omega
theorem Ev.at_ {α : Type} {f : Nat → Option α} {r : α} (h : Ev f r) : ∃ K, ∀ k, K ≤ k → f k = some r := h
theorem sign_call (n : Int) (W : World) : Calls Tryz.prog 13 #[.int .i64 n] W fun e w' => e = .returned (.int .i64 (if n < 0 then -1 else mn n 1)) ∧ Below W.heap.size W w' := spec_sign.calls n _ W (sign_pure n)
theorem ident_call (a b : ByteArray) (ha : a.size ≤ 100) (hb : b.size ≤ 100) (W : World) : Calls Tryz.prog 12 #[.string a, .string b] W fun e w' => e = .returned (.int .i64 (cmpI a b)) ∧ Below W.heap.size W w' := by
  obtain ⟨K, hK⟩ := identifier_ev a b ha hb
  exact spec_identifier.calls K a b _ W (hK K (Nat.le_refl _))
theorem ids_call (p : ByteArray) (l : List ByteArray) (h : Ev (fun k => spec_identifiers.f k p) l) (W : World) : Calls Tryz.prog 11 #[.string p] W fun e w' => ∃ v, e = .returned v ∧ Kd.R Kd.string 9 w' W.heap.size (fun _ => True) v l ∧ Below W.heap.size W w' := by
  obtain ⟨K, hK⟩ := h
  exact spec_identifiers.calls K p l W (hK K (Nat.le_refl _))
theorem empty_iff (p : ByteArray) : (p.size = 0 → p.toList.isEmpty = true) ∧ (0 < p.size → p.toList.isEmpty = false) := by
  refine ⟨fun h => ?_, full_t⟩
  rw [show p = ⟨#[]⟩ from ba_ext (List.eq_nil_of_length_eq_zero (by rw [size_list]; exact h)), ByteArray.toList_eq]
  rfl
set_option maxHeartbeats 1600000 in
set_option maxRecDepth 100000 in
theorem whole_call (n1 n2 n3 m1 m2 m3 : Int) (p1 q1 p2 q2 : ByteArray) (l m : List ByteArray) (hl : IdL p1 l) (hm : IdL p2 m) (w : World) :
    Calls Tryz.prog 6 #[.agg #[.int .u64 n1, .int .u64 n2, .int .u64 n3, .string p1, .string q1], .agg #[.int .u64 m1, .int .u64 m2, .int .u64 m3, .string p2, .string q2]] w fun e w' => e = .returned (.int .i64 (cmpV n1 n2 n3 m1 m2 m3 p1 p2 (cmpL l m))) ∧ Below w.heap.size w w' := by
  have HB0 := Lib.hid (show Below w.heap.size w ((w.alloc (.cells #[.int .u64 n1, .int .u64 n2, .int .u64 n3, .string p1, .string q1] 24)).alloc (.cells #[.int .u64 m1, .int .u64 m2, .int .u64 m3, .string p2, .string q2] 24)) from ((Below.refl _ _).alloc (Nat.le_refl _) _).alloc (by simp) _)
  have HS0 := Lib.hid (show ((w.alloc (.cells #[.int .u64 n1, .int .u64 n2, .int .u64 n3, .string p1, .string q1] 24)).alloc (.cells #[.int .u64 m1, .int .u64 m2, .int .u64 m3, .string p2, .string q2] 24)).heap[w.heap.size]? = some (.cells #[.int .u64 n1, .int .u64 n2, .int .u64 n3, .string p1, .string q1] 24 (0, 0)) ∧ ((w.alloc (.cells #[.int .u64 n1, .int .u64 n2, .int .u64 n3, .string p1, .string q1] 24)).alloc (.cells #[.int .u64 m1, .int .u64 m2, .int .u64 m3, .string p2, .string q2] 24)).heap[w.heap.size + 1]? = some (.cells #[.int .u64 m1, .int .u64 m2, .int .u64 m3, .string p2, .string q2] 24 (0, 0)) from ⟨blk_below (heap_alloc_new w _) (alloc_below _ _), alloc2_new w _ _ _⟩)
  have HOC := Lib.hid (fun W => order_call n1 n2 n3 m1 m2 m3 p1 q1 p2 q2 W)
  obtain ⟨R, hR⟩ : ∃ R, R = cmpV n1 n2 n3 m1 m2 m3 p1 p2 (cmpL l m) := ⟨_, rfl⟩
  have HR := Lib.hid hR
  have HIL := Lib.hid hl
  have HIM := Lib.hid hm
  rw [← hR]
  clear hl hm hR
  go_enter Tryz.func6, Tryz.ntmps6
  go_wp2_with fail
  generalize (w.alloc (.cells #[.int .u64 n1, .int .u64 n2, .int .u64 n3, .string p1, .string q1] 24)).alloc (.cells #[.int .u64 m1, .int .u64 m2, .int .u64 m3, .string p2, .string q2] 24) = w0 at *
  refine (HOC.out w0).mono ?_
  rintro e w1 ⟨rfl, hb⟩
  have HB1 := Lib.hid (HB0.out.trans (hb.mono HB0.out.size))
  have HS1 := Lib.hid (⟨blk_below HS0.out.1 hb, blk_below HS0.out.2 hb⟩ : w1.heap[w.heap.size]? = some (.cells #[.int .u64 n1, .int .u64 n2, .int .u64 n3, .string p1, .string q1] 24 (0, 0)) ∧ w1.heap[w.heap.size + 1]? = some (.cells #[.int .u64 m1, .int .u64 m2, .int .u64 m3, .string p2, .string q2] 24 (0, 0)))
  clear hb HB0 HS0 HOC
  by_cases h0 : ord3 n1 n2 n3 m1 m2 m3 = 0
  rotate_left
  · have HV := Lib.hid (show R = ord3 n1 n2 n3 m1 m2 m3 by rw [HR.out]; unfold cmpV; rw [if_pos h0])
    have d1 : (ord3 n1 n2 n3 m1 m2 m3 != 0) = true := bne_iff_ne.2 h0
    generalize ord3 n1 n2 n3 m1 m2 m3 = d at *
    clear h0 HR HIL HIM HS1
    go_wp2
    go_ret
    exact ⟨congrArg (fun z => Ending.returned (Value.int .i64 z)) HV.out.symm, HB1.out⟩
  have HR2 := Lib.hid (show R = preC p1 p2 (cmpL l m) by rw [HR.out]; unfold cmpV; rw [if_neg (fun h => h h0)])
  rw [h0]
  clear HR h0
  have y3 := blk_cell HS1.out.1 3
  have z3 := blk_cell HS1.out.2 3
  simp only [List.getElem?_toArray, List.getElem?_cons_zero, List.getElem?_cons_succ] at y3 z3
  by_cases he : p1.toList = p2.toList
  · have e0 : (p1.toList == p2.toList) = true := beq_iff_eq.2 he
    have hpp : p1 = p2 := toList_inj he
    have HV := Lib.hid (show R = 0 by
      rw [HR2.out]
      unfold preC
      by_cases c1 : p1.size = 0
      · rw [if_pos c1, if_pos (by rw [← hpp]; exact c1)]
      · rw [if_neg c1, if_neg (by rw [← hpp]; exact c1)]
        obtain ⟨_, ⟨K, hK⟩, _⟩ := HIL.out (by omega)
        obtain ⟨_, ⟨K', hK'⟩, _⟩ := HIM.out (by rw [← hpp]; omega)
        have h1 := hK (max K K') (by omega)
        have h2 := hK' (max K K') (by omega)
        simp only at h1 h2
        rw [← hpp, h1] at h2
        rw [← Option.some.inj h2]
        exact cmpL_self l)
    clear he hpp HR2 HIL HIM HS1
    go_wp2
    go_ret
    exact ⟨congrArg (fun z => Ending.returned (Value.int .i64 z)) HV.out.symm, HB1.out⟩
  have e0 : (p1.toList == p2.toList) = false := beq_eq_false_iff_ne.2 he
  by_cases c1 : p1.size = 0
  · have i1 := (empty_iff p1).1 c1
    have HV := Lib.hid (show R = 1 by
      rw [HR2.out]
      unfold preC
      rw [if_pos c1, if_neg (fun c2 => he (by rw [List.isEmpty_iff.1 ((empty_iff p1).1 c1), List.isEmpty_iff.1 ((empty_iff p2).1 c2)]))])
    clear he c1 HR2 HIL HIM HS1
    go_wp2
    go_ret
    exact ⟨congrArg (fun z => Ending.returned (Value.int .i64 z)) HV.out.symm, HB1.out⟩
  have i1 := (empty_iff p1).2 (by omega)
  by_cases c2 : p2.size = 0
  · have i2 := (empty_iff p2).1 c2
    have HV := Lib.hid (show R = -1 by
      rw [HR2.out]
      unfold preC
      rw [if_neg c1, if_pos c2])
    clear he c1 c2 HR2 HIL HIM HS1
    go_wp2
    go_ret
    exact ⟨congrArg (fun z => Ending.returned (Value.int .i64 z)) HV.out.symm, HB1.out⟩
  have i2 := (empty_iff p2).2 (by omega)
  have HR4 := Lib.hid (show R = cmpL l m by
    rw [HR2.out]
    unfold preC
    rw [if_neg c1, if_neg c2])
  obtain ⟨_, x2, x3, x4⟩ := HIL.out (by omega)
  obtain ⟨_, z2, x3', x4'⟩ := HIM.out (by omega)
  have HI1 := Lib.hid (fun W => ids_call p1 l x2 W)
  have HI2 := Lib.hid (fun W => ids_call p2 m z2 W)
  have HGL := Lib.hid x3
  have HGM := Lib.hid x3'
  clear he c1 c2 HR2 HIL HIM x2 z2 x3 x3'
  go_upto_region 10 with fail
  clear y3 z3 i1 i2 e0
  have HSd := Lib.hid (show w1.drew.heap[w.heap.size]? = _ ∧ w1.drew.heap[w.heap.size + 1]? = _ from HS1.out)
  have HBd := Lib.hid (show Below w.heap.size w w1.drew from HB1.out.drew)
  clear HS1 HB1
  refine start_ (n := 8) (ds := []) (S := fun w' => w'.heap[w.heap.size]? = some (.cells #[.int .u64 n1, .int .u64 n2, .int .u64 n3, .string p1, .string q1] 24 (0, 0)) ∧ w'.heap[w.heap.size + 1]? = some (.cells #[.int .u64 m1, .int .u64 m2, .int .u64 m3, .string p2, .string q2] 24 (0, 0))) #[false, false, false, false, false, false, false, false] (by kernel_rfl) rfl rfl (HSd.out) (fun hHeld => ?_)
  generalize w1.drew = v0 at *
  refine pure_ (i := 0) (N := some 30) (v := ?_) (a' := ?_) #[true, false, false, false, false, false, false, false] rfl rfl (by kernel_rfl) (fun _ _ _ h => h) (Or.inl ⟨by rfl, ?_⟩) ?_ ?_
  rotate_left; (intro w'; go_simp; with_reducible rfl)
  rotate_left; (go_frame; rfl)
  refine pure_ (i := 3) (N := some 33) (v := ?_) (a' := ?_) #[true, false, false, true, false, false, false, false] rfl rfl (by kernel_rfl) (fun _ _ _ h => h) (Or.inl ⟨by rfl, ?_⟩) ?_ ?_
  rotate_left; (intro w'; go_simp; with_reducible rfl)
  rotate_left; (go_frame; rfl)
  refine take_ (i := 1) (N := some 31) (v := ?_) (a' := ?_) #[true, true, false, true, false, false, false, false] rfl rfl (by kernel_rfl) (fun _ _ _ h => h) (Or.inl ⟨by rfl, ?_⟩) hHeld ?_ ?_
  rotate_left
  · intro w' hS
    obtain ⟨hS, _⟩ := hS
    have y3 := blk_cell hS 3
    simp only [List.getElem?_toArray, List.getElem?_cons_zero, List.getElem?_cons_succ] at y3
    clear hS
    go_simp
    with_reducible rfl
  rotate_left; (go_frame; rfl)
  refine take_ (i := 4) (N := some 34) (v := ?_) (a' := ?_) #[true, true, false, true, true, false, false, false] rfl rfl (by kernel_rfl) (fun _ _ _ h => h) (Or.inl ⟨by rfl, ?_⟩) hHeld ?_ ?_
  rotate_left
  · intro w' hS
    obtain ⟨_, hS⟩ := hS
    have y3 := blk_cell hS 3
    simp only [List.getElem?_toArray, List.getElem?_cons_zero, List.getElem?_cons_succ] at y3
    clear hS
    go_simp
    with_reducible rfl
  rotate_left; (go_frame; rfl)
  refine one_ (i := 2) (N := some 32) #[true, true, true, true, true, false, false, false] rfl rfl (by kernel_rfl) (by decide) (fun K hK => ?_)
  refine goes_ Tryz.func11 (by kernel_rfl) rfl #[.string p1] (by rfl) rfl rfl (by (try simp only [List.map_toArray, List.map_cons, List.map_nil]); first | done | rfl) ?_
  refine (HI1.out v0).mono ?_
  rintro e v1 ⟨vl, rfl, hr, hb⟩
  have HR1 := Lib.hid hr
  have HSe := Lib.hid (⟨blk_below HSd.out.1 hb, blk_below HSd.out.2 hb⟩ : _ ∧ _)
  have HBe := Lib.hid (HBd.out.trans (hb.mono HBd.out.size))
  clear hr hb HSd HBd
  refine ⟨_, rfl, ?_⟩
  clear hHeld
  refine hK.out _ _ (HSe.out) (fun hHeld => ?_)
  clear hK K
  refine norm_ (a' := ?_) ?_ ?_
  rotate_left
  · show Act.put _ (some 32) _ = _
    go_frame
    rfl
  refine one_ (i := 5) (N := some 35) #[true, true, true, true, true, true, false, false] rfl rfl (by kernel_rfl) (by decide) (fun K hK => ?_)
  refine goes_ Tryz.func11 (by kernel_rfl) rfl #[.string p2] (by rfl) rfl rfl (by (try simp only [List.map_toArray, List.map_cons, List.map_nil]); first | done | rfl) ?_
  refine (HI2.out v1).mono ?_
  rintro e v2 ⟨vm, rfl, hr, hb⟩
  have HR2 := Lib.hid hr
  have HR3 := Lib.hid (Kd.R_below HR1.out hb)
  have HSf := Lib.hid (⟨blk_below HSe.out.1 hb, blk_below HSe.out.2 hb⟩ : _ ∧ _)
  have HBf := Lib.hid (HBe.out.trans (hb.mono HBe.out.size))
  clear hr hb HSe HBe HR1
  refine ⟨_, rfl, ?_⟩
  clear hHeld
  refine hK.out _ _ (HSf.out) (fun hHeld => ?_)
  clear hK K
  refine norm_ (a' := ?_) ?_ ?_
  rotate_left
  · show Act.put _ (some 35) _ = _
    go_frame
    rfl
  refine pure_ (i := 6) (N := some 6) (v := ?_) (a' := ?_) #[true, true, true, true, true, true, true, false] rfl rfl (by kernel_rfl) (fun _ _ _ h => h) (Or.inl ⟨by rfl, ?_⟩) ?_ ?_
  rotate_left; (intro w'; go_simp; with_reducible rfl)
  rotate_left; (go_frame; rfl)
  refine pure_ (i := 7) (N := some 7) (v := ?_) (a' := ?_) #[true, true, true, true, true, true, true, true] rfl rfl (by kernel_rfl) (fun _ _ _ h => h) (Or.inl ⟨by rfl, ?_⟩) ?_ ?_
  rotate_left; (intro w'; go_simp; with_reducible rfl)
  rotate_left; (go_frame; rfl)
  refine done_ (by kernel_rfl) ?_
  clear hHeld HSf
  obtain ⟨A1, k1, rfl, _, hC1⟩ := Kd.R_reads HR3.out
  obtain ⟨A2, k2, rfl, _, hC2⟩ := Kd.R_reads HR2.out
  have HCL := Lib.hid hC1
  have HCM := Lib.hid hC2
  clear hC1 hC2 HR3 HR2 HI1 HI2
  go_wp2
  go_loopw [8, 9] (fun iv y1 wr => ∃ (i : Nat) (z1 : Value), iv = .int .i64 i ∧ z1 = y1 ∧ i ≤ l.length ∧ i ≤ m.length ∧ Hid (R = cmpL (l.drop i) (m.drop i)) ∧ Hid (Below v2.heap.size v2 wr)) (fun iv _ _ => l.length - (intOf iv).toNat)
  case atStart => exact ⟨0, _, rfl, rfl, Nat.zero_le _, Nat.zero_le _, HR4, Lib.hid (Below.refl _ _)⟩
  case round =>
    clear HR4
    obtain ⟨i, z1, rfl, rfl, hil, him, hX, hW⟩ := hrel
    by_cases hl : i < l.length
    · have dl : decide ((i : Int) < (l.length : Int)) = true := decide_eq_true (by omega)
      have dl2 : decide (i < l.length) = true := decide_eq_true hl
      by_cases hm : i < m.length
      · have dm : decide ((i : Int) < (m.length : Int)) = true := decide_eq_true (by omega)
        have dm2 : decide (i < m.length) = true := decide_eq_true hm
        obtain ⟨al, ale, ql0⟩ := Kd.at_string (Kd.C_below HCL.out hW.out) (i : Int) (by omega) (by omega)
        subst ale
        have ql : wr.cell? (al.add i) = some (.string l[i]) := by
          have h1 : rdOf (⟨#[]⟩ : ByteArray) l (i : Int) = l[i] := by simp [rdOf, hl]
          rw [← h1]
          exact ql0
        obtain ⟨am, ame, qm0⟩ := Kd.at_string (Kd.C_below HCM.out hW.out) (i : Int) (by omega) (by omega)
        subst ame
        have qm : wr.cell? (am.add i) = some (.string m[i]) := by
          have h1 : rdOf (⟨#[]⟩ : ByteArray) m (i : Int) = m[i] := by simp [rdOf, hm]
          rw [← h1]
          exact qm0
        have HKEEP := Lib.hid (fun (W : World) (hw : Below v2.heap.size v2 W) => show W.cell? (al.add i) = some (.string l[i]) ∧ W.cell? (am.add i) = some (.string m[i]) from by
          obtain ⟨a1, e1, r1⟩ := Kd.at_string (Kd.C_below HCL.out hw) (i : Int) (by omega) (by omega)
          obtain ⟨a2, e2, r2⟩ := Kd.at_string (Kd.C_below HCM.out hw) (i : Int) (by omega) (by omega)
          injection e1 with e1
          injection e2 with e2
          subst e1 e2
          have h1 : rdOf (⟨#[]⟩ : ByteArray) l (i : Int) = l[i] := by simp [rdOf, hl]
          have h2 : rdOf (⟨#[]⟩ : ByteArray) m (i : Int) = m[i] := by simp [rdOf, hm]
          rw [← h1, ← h2]
          exact ⟨r1, r2⟩)
        clear ql0 qm0
        have HV0 := Lib.hid (cmpL_drop l m i hl hm)
        have HID := Lib.hid (fun W => ident_call l[i] m[i] (HGL.out _ (List.getElem_mem _)).1.2.1 (HGM.out _ (List.getElem_mem _)).1.2.1 W)
        generalize cmpI l[i] m[i] = d at *
        go_upto_region 14 with fail
        have HWd := Lib.hid (show Below v2.heap.size v2 wr.drew from hW.out.drew)
        clear hW
        refine start_ (n := 10) (ds := []) (S := fun w' => w'.cell? (al.add i) = some (.string l[i]) ∧ w'.cell? (am.add i) = some (.string m[i])) #[false, false, false, false, false, false, false, false, false, false] (by kernel_rfl) rfl rfl ((⟨ql, qm⟩ : wr.drew.cell? _ = _ ∧ wr.drew.cell? _ = _)) (fun hHeld => ?_)
        clear ql qm
        generalize wr.drew = y0 at *
        refine pure_ (i := 0) (N := some 48) (v := ?_) (a' := ?_) #[true, false, false, false, false, false, false, false, false, false] rfl rfl (by kernel_rfl) (fun _ _ _ h => h) (Or.inl ⟨by rfl, ?_⟩) ?_ ?_
        rotate_left; (intro w'; go_simp; with_reducible rfl)
        rotate_left; (go_frame; rfl)
        refine pure_ (i := 1) (N := some 49) (v := ?_) (a' := ?_) #[true, true, false, false, false, false, false, false, false, false] rfl rfl (by kernel_rfl) (fun _ _ _ h => h) (Or.inl ⟨by rfl, ?_⟩) ?_ ?_
        rotate_left; (intro w'; go_simp; with_reducible rfl)
        rotate_left; (go_frame; rfl)
        refine pure_ (i := 2) (N := some 50) (v := ?_) (a' := ?_) #[true, true, true, false, false, false, false, false, false, false] rfl rfl (by kernel_rfl) (fun _ _ _ h => h) (Or.inl ⟨by rfl, ?_⟩) ?_ ?_
        rotate_left; (intro w'; go_simp; with_reducible rfl)
        rotate_left; (go_frame; rfl)
        refine pure_ (i := 4) (N := some 52) (v := ?_) (a' := ?_) #[true, true, true, false, true, false, false, false, false, false] rfl rfl (by kernel_rfl) (fun _ _ _ h => h) (Or.inl ⟨by rfl, ?_⟩) ?_ ?_
        rotate_left; (intro w'; go_simp; with_reducible rfl)
        rotate_left; (go_frame; rfl)
        refine pure_ (i := 5) (N := some 53) (v := ?_) (a' := ?_) #[true, true, true, false, true, true, false, false, false, false] rfl rfl (by kernel_rfl) (fun _ _ _ h => h) (Or.inl ⟨by rfl, ?_⟩) ?_ ?_
        rotate_left; (intro w'; go_simp; with_reducible rfl)
        rotate_left; (go_frame; rfl)
        refine pure_ (i := 6) (N := some 54) (v := ?_) (a' := ?_) #[true, true, true, false, true, true, true, false, false, false] rfl rfl (by kernel_rfl) (fun _ _ _ h => h) (Or.inl ⟨by rfl, ?_⟩) ?_ ?_
        rotate_left; (intro w'; go_simp; with_reducible rfl)
        rotate_left; (go_frame; rfl)
        refine take_ (i := 3) (N := some 51) (v := ?_) (a' := ?_) #[true, true, true, true, true, true, true, false, false, false] rfl rfl (by kernel_rfl) (fun _ _ _ h => h) (Or.inl ⟨by rfl, ?_⟩) hHeld ?_ ?_
        rotate_left
        · intro w' hS
          obtain ⟨ql, qm⟩ := hS
          go_simp
          with_reducible rfl
        rotate_left; (go_frame; rfl)
        refine take_ (i := 7) (N := some 55) (v := ?_) (a' := ?_) #[true, true, true, true, true, true, true, true, false, false] rfl rfl (by kernel_rfl) (fun _ _ _ h => h) (Or.inl ⟨by rfl, ?_⟩) hHeld ?_ ?_
        rotate_left
        · intro w' hS
          obtain ⟨ql, qm⟩ := hS
          go_simp
          with_reducible rfl
        rotate_left; (go_frame; rfl)
        have HQ := Lib.hid hHeld
        refine one_ (i := 8) (N := some 56) #[true, true, true, true, true, true, true, true, true, false] rfl rfl (by kernel_rfl) (by decide) (fun K hK => ?_)
        refine goes_ Tryz.func12 (by kernel_rfl) rfl #[.string l[i], .string m[i]] (by rfl) rfl rfl (by (try simp only [List.map_toArray, List.map_cons, List.map_nil]); first | done | rfl) ?_
        refine (HID.out y0).mono ?_
        rintro e y1 ⟨rfl, hb⟩
        have HWe := Lib.hid (HWd.out.trans (hb.mono HWd.out.size))
        have hkeep : y1.cell? (al.add i) = some (.string l[i]) ∧ y1.cell? (am.add i) = some (.string m[i]) := HKEEP.out y1 HWe.out
        clear hb HWd
        refine ⟨_, rfl, ?_⟩
        clear hHeld
        refine hK.out _ _ hkeep (fun hHeld => ?_)
        clear hK K
        refine norm_ (a' := ?_) ?_ ?_
        rotate_left
        · show Act.put _ (some 56) _ = _
          go_frame
          rfl
        refine pure_ (i := 9) (N := some 9) (v := ?_) (a' := ?_) #[true, true, true, true, true, true, true, true, true, true] rfl rfl (by kernel_rfl) (fun _ _ _ h => h) (Or.inl ⟨by rfl, ?_⟩) ?_ ?_
        rotate_left; (intro w'; go_simp; with_reducible rfl)
        rotate_left; (go_frame; rfl)
        refine done_ (by kernel_rfl) ?_
        clear hHeld HQ hkeep
        by_cases hd : d = 0
        · have hd2 : (d != 0) = false := bne_eq_false_iff_eq.2 hd
          have HX2 := Lib.hid (show R = cmpL (l.drop (i + 1)) (m.drop (i + 1)) by rw [hX.out, HV0.out, if_neg (fun h => h hd)])
          clear hX HV0 hd HID HKEEP
          go_wp2
          go_roundw
          case rel => exact ⟨i + 1, _, by go_num, rfl, by omega, by omega, HX2, HWe⟩
          case measure => simp [intOf]; omega
        · have hd2 : (d != 0) = true := bne_iff_ne.2 hd
          have HV := Lib.hid (show R = d by rw [hX.out, HV0.out, if_pos hd])
          have HBF := Lib.hid (HBf.out.trans (HWe.out.mono HBf.out.size))
          clear hX HV0 hd HID HKEEP
          go_wp2
          go_ret
          exact ⟨congrArg (fun z => Ending.returned (Value.int .i64 z)) HV.out.symm, HBF.out⟩
      · have dm : decide ((i : Int) < (m.length : Int)) = false := decide_eq_false (by omega)
        have dm2 : decide (i < m.length) = false := decide_eq_false hm
        have HV := Lib.hid (show R = (if ((l.length : Int) - (m.length : Int)) < 0 then -1 else mn ((l.length : Int) - (m.length : Int)) 1) by
          rw [hX.out, cmpL_more l m i hl hm, if_neg (by omega)]
          unfold mn
          split <;> omega)
        have HSG := Lib.hid (fun W => sign_call ((l.length : Int) - (m.length : Int)) W)
        generalize (if ((l.length : Int) - (m.length : Int)) < 0 then (-1 : Int) else mn ((l.length : Int) - (m.length : Int)) 1) = d at *
        clear hX
        go_wp2_with fail
        refine (HSG.out _).mono ?_
        rintro e w9 ⟨rfl, hb9⟩
        have HW9 := Lib.hid (hW.out.trans (hb9.mono hW.out.size))
        have HBF := Lib.hid (HBf.out.trans (HW9.out.mono HBf.out.size))
        clear hb9 HW9 HSG
        go_wp2
        go_ret
        exact ⟨congrArg (fun z => Ending.returned (Value.int .i64 z)) HV.out.symm, HBF.out⟩
    · have dl : decide ((i : Int) < (l.length : Int)) = false := decide_eq_false (by omega)
      have dl2 : decide (i < l.length) = false := decide_eq_false hl
      have HV := Lib.hid (show R = (if ((l.length : Int) - (m.length : Int)) < 0 then -1 else mn ((l.length : Int) - (m.length : Int)) 1) by
        by_cases hm : i < m.length
        · rw [hX.out, cmpL_less l m i hl hm, if_pos (by omega)]
        · rw [hX.out, cmpL_end l m i hl hm, if_neg (by omega)]
          unfold mn
          split <;> omega)
      have HSG := Lib.hid (fun W => sign_call ((l.length : Int) - (m.length : Int)) W)
      generalize (if ((l.length : Int) - (m.length : Int)) < 0 then (-1 : Int) else mn ((l.length : Int) - (m.length : Int)) 1) = d at *
      clear hX
      go_wp2_with fail
      refine (HSG.out _).mono ?_
      rintro e w9 ⟨rfl, hb9⟩
      have HW9 := Lib.hid (hW.out.trans (hb9.mono hW.out.size))
      have HBF := Lib.hid (HBf.out.trans (HW9.out.mono HBf.out.size))
      clear hb9 HW9 HSG
      go_wp2
      go_ret
      exact ⟨congrArg (fun z => Ending.returned (Value.int .i64 z)) HV.out.symm, HBF.out⟩
end Go.Proofs.YtlhijjfbcgconaaGreatDoor.P

