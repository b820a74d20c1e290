/- Versions: the package's order of what stands behind a hyphen. -/
import Derived.Test.YtlhijjfbcgconaaDoorSo1
set_option linter.unusedVariables false
set_option linter.unusedSimpArgs false
namespace Go.Proofs.YtlhijjfbcgconaaDoor.P
open Go.RowKit Go.Proofs.YtlhijjfbcgconaaDoorW.PrintWords Go.Proofs.YtlhijjfbcgconaaDoorW.PrintLast Go.Proofs.YtlhijjfbcgconaaDoorW.PrintMore

/-- An identifier that is well, a number of at most 15 digits. -/
def Id15 (t : ByteArray) : Prop := Good true t ∧ (Dg t → t.size ≤ 15)
theorem parse_dg (t : ByteArray) (h : Id15 t) (hd : Dg t) (W : World) : Calls Tryd.prog 59 #[.string t, .int .i64 10, .int .i64 64] W fun r w' => r = .returned (.tuple #[.int .u64 (lv 0 t.data.toList : Nat), .nilIface]) ∧ Below W.heap.size W w' := by
  have h1 := h.2 hd
  have hl := (dgL_iff t).1 hd
  have hp : 10 ^ t.data.toList.length ≤ 10 ^ 15 := Nat.pow_le_pow_right (by decide) (by rw [size_list]; exact h1)
  have h2 : Lib.parseUintB 64 t.data.toList = .ok (lv 0 t.data.toList) := by
    unfold Lib.parseUintB
    rw [if_neg, parse_lv _ _ hl (by omega)]
    intro h0
    have := size_list t
    rw [h0] at this
    have := h.1.1
    simp at *
    omega
  refine (Tryd.strconv_ParseUint_10_at64_ok t (by omega) _ h2 W).mono ?_
  rintro r w' ⟨rfl, hw⟩
  refine ⟨rfl, ?_⟩
  rcases hw with rfl | rfl
  · exact Below.refl _ _
  · exact bytes_below (Below.refl _ _) (Nat.le_refl _) _ _
theorem parse_nd (t : ByteArray) (h : Id15 t) (hd : ¬ Dg t) (W : World) (hE : TabsE W) : Calls Tryd.prog 59 #[.string t, .int .i64 10, .int .i64 64] W fun r w' => ∃ u tp p, r = .returned (.tuple #[.int .u64 u, .iface tp p]) ∧ Below W.heap.size W w' := by
  have hz := h.1.2.1
  obtain ⟨⟨a, b, h1⟩, c, d, h2⟩ := hE
  have c1 := World.var?_cell (show Tryd.prog.globalNamed "strconv.ErrSyntax" = some 2 by kernel_rfl) h1 0
  have c2 := World.var?_cell (show Tryd.prog.globalNamed "strconv.ErrRange" = some 3 by kernel_rfl) h2 0
  cases hq : Lib.parseUintB 64 t.data.toList with
  | ok u =>
    exfalso
    unfold Lib.parseUintB at hq
    split at hq
    · cases hq
    · exact hd ((dgL_iff t).2 (parse_ok_dg _ _ _ _ hq))
  | range =>
    refine (Tryd.strconv_ParseUint_10_at64_range t (by omega) hq _ W (by simpa using c2) (.inr ⟨c, d, rfl⟩)).mono ?_
    rintro r w' ⟨N, rfl, _, _, hb⟩
    exact ⟨_, _, _, rfl, hb⟩
  | _ =>
    refine (Tryd.strconv_ParseUint_10_at64_syntax t (by omega) (fun u h => by rw [hq] at h; cases h) (fun h => by rw [hq] at h; cases h) _ W (by simpa using c1) (.inr ⟨a, b, rfl⟩)).mono ?_
    rintro r w' ⟨N, rfl, _, _, hb⟩
    exact ⟨_, _, _, rfl, hb⟩
set_option maxHeartbeats 1600000 in
set_option maxRecDepth 100000 in
theorem prePart_call (s t : ByteArray) (hs : Id15 s) (ht : Id15 t) (w : World) (hE : TabsE w) :
    Calls Tryd.prog 68 #[.string s, .string t] w fun e w' => e = .returned (.int .i64 (cmpI s t)) ∧ Below w.heap.size w w' := by
  have HE := Lib.hid hE
  have es := full_t hs.1.1
  have et := full_t ht.1.1
  by_cases c0 : s.toList = t.toList
  · have HV := Lib.hid (show cmpI s t = 0 by unfold cmpI; rw [if_pos c0])
    have b0 : (s.toList == t.toList) = true := beq_iff_eq.2 c0
    have HB2 := Lib.hid (Below.refl w.heap.size w)
    clear c0 hs ht hE
    go_enter Tryd.func68, Tryd.ntmps68
    go_wp2
    go_ret
    exact ⟨congrArg (fun z => Ending.returned (Value.int .i64 z)) HV.out.symm, HB2.out⟩
  have b0 : (s.toList == t.toList) = false := beq_eq_false_iff_ne.2 c0
  by_cases dt : Dg t
  · have HO := Lib.hid (fun W => parse_dg t ht dt W)
    by_cases ds : Dg s
    · have HS := Lib.hid (fun W => parse_dg s hs ds W)
      obtain ⟨n1, n2⟩ := num_cmp hs.1 ht.1 ds dt c0
      by_cases c1 : lv 0 t.data.toList < lv 0 s.data.toList
      · have HV := Lib.hid (n1 c1)
        have d1 : decide (((lv 0 t.data.toList : Nat) : Int) < ((lv 0 s.data.toList : Nat) : Int)) = true := decide_eq_true (by omega)
        have d2 : decide (lv 0 t.data.toList < lv 0 s.data.toList) = true := decide_eq_true c1
        generalize lv 0 t.data.toList = x at *
        generalize lv 0 s.data.toList = y at *
        clear c0 hs ht hE dt ds n1 n2 c1
        go_enter Tryd.func68, Tryd.ntmps68
        go_wp2_with fail
        refine (HO.out _).mono ?_
        rintro e w1 ⟨rfl, hb1⟩
        have HB1 := Lib.hid hb1
        have HE1 := Lib.hid (HE.out.below hb1)
        clear hb1 HO
        go_wp2_with fail
        refine (HS.out _).mono ?_
        rintro e w2 ⟨rfl, hb2⟩
        have HB2 := Lib.hid (HB1.out.trans (hb2.mono HB1.out.size))
        clear hb2 HS HB1
        go_wp2
        go_ret
        exact ⟨congrArg (fun z => Ending.returned (Value.int .i64 z)) HV.out.symm, HB2.out⟩
      · have HV := Lib.hid (n2 c1)
        have d1 : decide (((lv 0 t.data.toList : Nat) : Int) < ((lv 0 s.data.toList : Nat) : Int)) = false := decide_eq_false (by omega)
        have d2 : decide (lv 0 t.data.toList < lv 0 s.data.toList) = false := decide_eq_false c1
        generalize lv 0 t.data.toList = x at *
        generalize lv 0 s.data.toList = y at *
        clear c0 hs ht hE dt ds n1 n2 c1
        go_enter Tryd.func68, Tryd.ntmps68
        go_wp2_with fail
        refine (HO.out _).mono ?_
        rintro e w1 ⟨rfl, hb1⟩
        have HB1 := Lib.hid hb1
        have HE1 := Lib.hid (HE.out.below hb1)
        clear hb1 HO
        go_wp2_with fail
        refine (HS.out _).mono ?_
        rintro e w2 ⟨rfl, hb2⟩
        have HB2 := Lib.hid (HB1.out.trans (hb2.mono HB1.out.size))
        clear hb2 HS HB1
        go_wp2
        go_ret
        exact ⟨congrArg (fun z => Ending.returned (Value.int .i64 z)) HV.out.symm, HB2.out⟩
    · have HS := Lib.hid (fun W hW => parse_nd s hs ds W hW)
      have HV := Lib.hid (show cmpI s t = 1 by unfold cmpI; rw [if_neg c0, if_neg (fun h => ds h.1), if_pos ⟨dt, ds⟩])
      clear c0 hs ht hE dt ds
      go_enter Tryd.func68, Tryd.ntmps68
      go_wp2_with fail
      refine (HO.out _).mono ?_
      rintro e w1 ⟨rfl, hb1⟩
      have HB1 := Lib.hid hb1
      have HE1 := Lib.hid (HE.out.below hb1)
      clear hb1 HO
      go_wp2_with fail
      refine (HS.out _ HE1.out).mono ?_
      rintro e w2 ⟨u2, t2, p2, rfl, hb2⟩
      have HB2 := Lib.hid (HB1.out.trans (hb2.mono HB1.out.size))
      clear hb2 HS HB1
      go_wp2
      go_ret
      exact ⟨congrArg (fun z => Ending.returned (Value.int .i64 z)) HV.out.symm, HB2.out⟩
  · have HO := Lib.hid (fun W hW => parse_nd t ht dt W hW)
    by_cases ds : Dg s
    · have HS := Lib.hid (fun W => parse_dg s hs ds W)
      have HV := Lib.hid (show cmpI s t = -1 by unfold cmpI; rw [if_neg c0, if_pos ⟨ds, dt⟩])
      clear c0 hs ht hE dt ds
      go_enter Tryd.func68, Tryd.ntmps68
      go_wp2_with fail
      refine (HO.out _ HE.out).mono ?_
      rintro e w1 ⟨u1, t1, p1, rfl, hb1⟩
      have HB1 := Lib.hid hb1
      have HE1 := Lib.hid (HE.out.below hb1)
      clear hb1 HO
      go_wp2_with fail
      refine (HS.out _).mono ?_
      rintro e w2 ⟨rfl, hb2⟩
      have HB2 := Lib.hid (HB1.out.trans (hb2.mono HB1.out.size))
      clear hb2 HS HB1
      go_wp2
      go_ret
      exact ⟨congrArg (fun z => Ending.returned (Value.int .i64 z)) HV.out.symm, HB2.out⟩
    · have HS := Lib.hid (fun W hW => parse_nd s hs ds W hW)
      cases hq : Op.bytesLess s.toList t.toList with
      | true =>
        have HV := Lib.hid (show cmpI s t = -1 by unfold cmpI; rw [if_neg c0, if_neg (fun h => ds h.1), if_neg (fun h => dt h.1), if_neg (fun h => ds h.1), if_pos hq])
        clear c0 hs ht hE dt ds
        go_enter Tryd.func68, Tryd.ntmps68
        go_wp2_with fail
        refine (HO.out _ HE.out).mono ?_
        rintro e w1 ⟨u1, t1, p1, rfl, hb1⟩
        have HB1 := Lib.hid hb1
        have HE1 := Lib.hid (HE.out.below hb1)
        clear hb1 HO
        go_wp2_with fail
        refine (HS.out _ HE1.out).mono ?_
        rintro e w2 ⟨u2, t2, p2, rfl, hb2⟩
        have HB2 := Lib.hid (HB1.out.trans (hb2.mono HB1.out.size))
        clear hb2 HS HB1
        go_wp2
        go_ret
        exact ⟨congrArg (fun z => Ending.returned (Value.int .i64 z)) HV.out.symm, HB2.out⟩
      | false =>
        have HV := Lib.hid (show cmpI s t = 1 by unfold cmpI; rw [if_neg c0, if_neg (fun h => ds h.1), if_neg (fun h => dt h.1), if_neg (fun h => ds h.1), if_neg (by rw [hq]; decide)])
        clear c0 hs ht hE dt ds
        go_enter Tryd.func68, Tryd.ntmps68
        go_wp2_with fail
        refine (HO.out _ HE.out).mono ?_
        rintro e w1 ⟨u1, t1, p1, rfl, hb1⟩
        have HB1 := Lib.hid hb1
        have HE1 := Lib.hid (HE.out.below hb1)
        clear hb1 HO
        go_wp2_with fail
        refine (HS.out _ HE1.out).mono ?_
        rintro e w2 ⟨u2, t2, p2, rfl, hb2⟩
        have HB2 := Lib.hid (HB1.out.trans (hb2.mono HB1.out.size))
        clear hb2 HS HB1
        go_wp2
        go_ret
        exact ⟨congrArg (fun z => Ending.returned (Value.int .i64 z)) HV.out.symm, HB2.out⟩
set_option maxHeartbeats 1600000 in
set_option maxRecDepth 100000 in
theorem prePart_none (t : ByteArray) (ht : 0 < t.size) (w : World) :
    Calls Tryd.prog 68 #[.string ⟨#[]⟩, .string t] w fun e w' => e = .returned (.int .i64 (-1)) ∧ Below w.heap.size w w' := by
  have et := full_t ht
  have ez : (⟨#[]⟩ : ByteArray).toList = [] := by rw [ByteArray.toList_eq]
  have ne : t.toList ≠ [] := fun h => by rw [h] at et; cases et
  have b0 : (([] : List UInt8) == t.toList) = false := beq_eq_false_iff_ne.2 ne.symm
  have b1 : (t.toList == ([] : List UInt8)) = false := beq_eq_false_iff_ne.2 ne
  have HB2 := Lib.hid (Below.refl w.heap.size w)
  clear ht ne
  go_enter Tryd.func68, Tryd.ntmps68
  go_wp2
  go_ret
  exact ⟨rfl, HB2.out⟩
set_option maxHeartbeats 1600000 in
set_option maxRecDepth 100000 in
theorem prePart_more (t : ByteArray) (ht : 0 < t.size) (w : World) :
    Calls Tryd.prog 68 #[.string t, .string ⟨#[]⟩] w fun e w' => e = .returned (.int .i64 (1)) ∧ Below w.heap.size w w' := by
  have et := full_t ht
  have ez : (⟨#[]⟩ : ByteArray).toList = [] := by rw [ByteArray.toList_eq]
  have ne : t.toList ≠ [] := fun h => by rw [h] at et; cases et
  have b0 : (([] : List UInt8) == t.toList) = false := beq_eq_false_iff_ne.2 ne.symm
  have b1 : (t.toList == ([] : List UInt8)) = false := beq_eq_false_iff_ne.2 ne
  have HB2 := Lib.hid (Below.refl w.heap.size w)
  clear ht ne
  go_enter Tryd.func68, Tryd.ntmps68
  go_wp2
  go_ret
  exact ⟨rfl, HB2.out⟩
end Go.Proofs.YtlhijjfbcgconaaDoor.P
