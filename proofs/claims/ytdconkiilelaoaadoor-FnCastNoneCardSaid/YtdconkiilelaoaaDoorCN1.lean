/- What is no number is 0: the library's parser at texts of small letters, cast.ToInt, ToInt64, ToFloat64. -/
import Derived.Test.YtdconkiilelaoaaDoorF1
import Derived.Test.YtdconkiilelaoaaDoorSh
import Derived.Test.YtdconkiilelaoaaDoorQC1
import Derived.Test.YtdconkiilelaoaaDoorPx2
import Derived.Lib.LaidU8
set_option linter.unusedVariables false
set_option linter.unusedSimpArgs false
namespace Go.Proofs.YtdconkiilelaoaaDoor.P
open Go.RowKit Go.Proofs.YtdconkiilelaoaaDoorW.PrintWords Go.Proofs.YtdconkiilelaoaaDoorW.PrintLast Go.Proofs.YtdconkiilelaoaaDoorW.PrintMore

theorem ext_nil (s : ByteArray) (a : Nat) : s.extract a a = ⟨#[]⟩ := by
  apply ba_ext
  rw [extract_list, Nat.sub_self, List.take_zero]

theorem ext_snoc (s : ByteArray) (x d : Nat) (h : x + d < s.size) : (s.extract x (x + (d + 1))).data.toList = (s.extract x (x + d)).data.toList ++ [s[x + d]'h] := by
  rw [extract_list, extract_list, show x + (d + 1) - x = d + 1 by omega, show x + d - x = d by omega]
  have h2 : d < (s.data.toList.drop x).length := by rw [List.length_drop, Array.length_toList]; show d < s.size - x; omega
  rw [List.take_succ_eq_append_getElem h2, List.getElem_drop]
  rfl
theorem ext_one (p : ByteArray) (x : Nat) (h : x < p.size) : (p.extract x (x + 1)).data.toList = [p[x]'h] := by
  have h4 := ext_snoc p x 0 h
  rw [show (p.extract x (x + 0)).data.toList = [] by rw [show x + 0 = x from rfl, ext_nil]] at h4
  exact h4
theorem full_c {s : ByteArray} (h : 0 < s.size) : s.toList.isEmpty = false := by
  cases hq : s.toList.isEmpty with
  | false => rfl
  | true =>
    exfalso
    have h2 := List.isEmpty_iff.1 hq
    rw [ByteArray.toList_eq] at h2
    have h3 := size_list s
    rw [h2] at h3
    simp at h3
    omega
theorem iface_of_reads {P : Program} {W : World} {n nm : String} {d : DataW Unit} {g : Nat} {ti : TypeId} {ms : Array (String × TypeId)}
    (hg : P.globalNamed n = some g) (ht : (P.globals[g]?).map (·.type) = some ti) (hi : P.underlying ti = some (.interface ms)) (h : Lib.VarReads P W n (.iface nm d)) :
    ∃ tp p, W.var? P n = some #[.iface tp p] := by
  obtain ⟨g0, t0, cs, fuel, p, hg0, ht0, hv, hd⟩ := h
  obtain rfl := Option.some.inj (hg.symm.trans hg0)
  obtain rfl := Option.some.inj (ht.symm.trans ht0)
  obtain ⟨l⟩ := cs
  cases fuel with
  | zero => simp [DataW.trod] at hd
  | succ k =>
    unfold DataW.trod at hd
    rw [hi] at hd
    simp only at hd
    split at hd
    all_goals first
      | (cases hd; done)
      | exact ⟨_, _, hv⟩
      | (rename_i heq; cases heq; done)
      | (rename_i heq _; cases heq; done)
theorem var_below {P : Program} {w w' : World} {n : String} {cs : Array Value} (h : w.var? P n = some cs) (hb : Below w.heap.size w w') : w'.var? P n = some cs := by
  unfold World.var? at h ⊢
  obtain ⟨g, hg, hc⟩ := Option.bind_eq_some_iff.1 h
  rw [hg, Option.bind_some]
  cases ho : w.heap[g]? with
  | none => rw [ho] at hc; cases hc
  | some ob =>
    have hlt := (Array.getElem?_eq_some_iff.1 ho).1
    rw [hb.block g hlt]
    exact hc
/-- The two errors of package strconv hold something. -/
def TabsE (w : World) : Prop := (∃ tp p, w.var? Tryd.prog "strconv.ErrSyntax" = some #[.iface tp p]) ∧ ∃ tp p, w.var? Tryd.prog "strconv.ErrRange" = some #[.iface tp p]
theorem TabsE.below {w w' : World} (h : TabsE w) (hb : Below w.heap.size w w') : TabsE w' := by
  obtain ⟨⟨a, b, h1⟩, c, d, h2⟩ := h
  exact ⟨⟨a, b, var_below h1 hb⟩, c, d, var_below h2 hb⟩

/-- Small letters alone. -/
def Low (s : ByteArray) : Prop := ∀ j : Nat, j < s.size → 97 ≤ bt s (j : Int) ∧ bt s (j : Int) ≤ 122
theorem lower_bits (c : Int) (h0 : 97 ≤ c) (h1 : c ≤ 122) : bits .or .u8 c 32 = c := by
  have h : ∀ j : Fin 26, bits .or .u8 (97 + ((j.val : Nat) : Int)) 32 = 97 + ((j.val : Nat) : Int) := by decide +kernel
  have := h ⟨(c - 97).toNat, by omega⟩
  rw [show 97 + (((c - 97).toNat : Nat) : Int) = c by omega] at this
  exact this
theorem lower_call (c : Int) (h0 : 97 ≤ c) (h1 : c ≤ 122) (w : World) : Calls Tryd.prog 87 #[.int .u8 c] w fun e w' => e = .returned (.int .u8 c) ∧ w = w' := by
  refine (Tryd.internal_strconv_lower c w).mono ?_
  rintro e w' ⟨rfl, rfl⟩
  exact ⟨by rw [lower_bits c h0 h1], rfl⟩
set_option maxHeartbeats 1600000 in
set_option maxRecDepth 100000 in
theorem pu_call (s : ByteArray) (hz : 0 < s.size) (hs : s.size ≤ 2147483647) (hl : Low s) (w : World) :
    Calls Tryd.prog 80 #[.string s, .int .i64 0, .int .i64 0] w fun e w' => e = .returned (.tuple #[.int .u64 0, .iface 94 (.int .i64 2)]) ∧ Below w.heap.size w w' := by
  obtain ⟨c0, c1⟩ := hl 0 hz
  have hc0 : bt s 0 = (((s[0]'hz).toNat : Nat) : Int) := bt_nat s 0 hz
  have hne : s.toList.isEmpty = false := by
    cases hq : s.toList.isEmpty with
    | false => rfl
    | true =>
      exfalso
      have h2 := List.isEmpty_iff.1 hq
      rw [ByteArray.toList_eq] at h2
      have h3 := size_list s
      rw [h2] at h3
      simp at h3
      omega
  obtain ⟨c, hc⟩ : ∃ c, c = (((s[0]'hz).toNat : Nat) : Int) := ⟨_, rfl⟩
  rw [show ((0 : Nat) : Int) = 0 from rfl, hc0, ← hc] at c0 c1
  have h48 : (c == 48) = false := beq_eq_false_iff_ne.2 (by omega)
  have h95 : (c == 95) = false := beq_eq_false_iff_ne.2 (by omega)
  have d1 : decide (48 ≤ c) = true := decide_eq_true (by omega)
  have d2 : decide (c ≤ 57) = false := decide_eq_false (by omega)
  have d3 : decide (97 ≤ c) = true := decide_eq_true c0
  have d4 : decide (c ≤ 122) = true := decide_eq_true c1
  have HLOW := Lib.hid (fun W => lower_call c c0 c1 W)
  have hcv := run_bytes (P := Tryd.prog) (src := 9) (dst := 104) (e := 5) Tryd.underlying9 Tryd.underlying104 Tryd.underlying5 s w
  have HB0 := Lib.hid (bytes_below (Below.refl w.heap.size w) (Nat.le_refl _) 5 s)
  have hrow := NumRow.of_bytes w 5 s
  obtain ⟨W, hW⟩ : ∃ W, W = Lib.bytesWorld w 5 s := ⟨_, rfl⟩
  rw [← hW] at hcv hrow HB0
  have hcell := hrow.cell (j := 0) (by rw [nums8_length]; exact hz)
  have hg : (nums8 s).getD 0 0 = c := by
    rw [List.getD_eq_getElem?_getD, List.getElem?_eq_getElem (by rw [nums8_length]; exact hz), Option.getD_some, nums8_at s 0 hz, hc]
    exact hc0
  rw [hg] at hcell
  have d5 : decide (0 < (s.size : Int)) = true := decide_eq_true (by omega)
  clear hl hc0 hrow hg hW
  have h48b : ((((s[0]'hz).toNat : Nat) : Int) == 48) = false := by rw [← hc]; exact h48
  have HW := HB0
  clear HB0 h48
  go_enter Tryd.func80, Tryd.ntmps80
  go_wp2
  clear hc h48b
  go_loopw [101] (fun i wr => i = .int .i64 0 ∧ wr = W) (fun _ _ => 0)
  case atStart => exact ⟨rfl, rfl⟩
  case round =>
    obtain ⟨rfl, rfl⟩ := hrel
    go_wp2_with fail
    refine (HLOW.out _).mono ?_
    rintro e _ ⟨rfl, rfl⟩
    go_wp2_with fail
    refine (HLOW.out _).mono ?_
    rintro e _ ⟨rfl, rfl⟩
    go_wp2_with fail
    refine (HLOW.out _).mono ?_
    rintro e _ ⟨rfl, rfl⟩
    go_wp2
    go_ret2
    exact ⟨rfl, HW.out⟩
set_option maxHeartbeats 1600000 in
set_option maxRecDepth 100000 in
theorem pi_call (s : ByteArray) (hz : 0 < s.size) (hs : s.size ≤ 2147483647) (hl : Low s) (w : World) :
    Calls Tryd.prog 75 #[.string s, .int .i64 0, .int .i64 0] w fun e w' => e = .returned (.tuple #[.int .i64 0, .iface 94 (.int .i64 2)]) ∧ Below w.heap.size w w' := by
  have HP := Lib.hid (fun W => pu_call s hz hs hl W)
  obtain ⟨c0, c1⟩ := hl 0 hz
  have hc0 : bt s 0 = (((s[0]'hz).toNat : Nat) : Int) := bt_nat s 0 hz
  have hne := full_c hz
  rw [show ((0 : Nat) : Int) = 0 from rfl, hc0] at c0 c1
  have h43 : ((((s[0]'hz).toNat : Nat) : Int) == 43) = false := beq_eq_false_iff_ne.2 (by omega)
  have h45 : ((((s[0]'hz).toNat : Nat) : Int) == 45) = false := beq_eq_false_iff_ne.2 (by omega)
  have hbn : ∀ W : World, (binOp BinOp.neq 58 (Value.iface 94 (Value.int IntKind.i64 2)) (Value.iface 94 (Value.int IntKind.i64 1))).run Tryd.prog W = .ok (.bool true) W := fun W => by kernel_rfl
  clear hl hc0 c0 c1
  go_enter Tryd.func75, Tryd.ntmps75
  go_wp2_with fail
  refine (HP.out _).mono ?_
  rintro e w1 ⟨rfl, hb⟩
  have HB := Lib.hid hb
  clear hb HP
  go_wp2
  go_ret2
  exact ⟨rfl, HB.out⟩
set_option maxHeartbeats 1600000 in
set_option maxRecDepth 100000 in
theorem pub_call (s : ByteArray) (hz : 0 < s.size) (hs : s.size ≤ 2147483647) (hl : Low s) (w : World) (hE : TabsE w) :
    Calls Tryd.prog 70 #[.string s, .int .i64 0, .int .i64 0] w fun e w' => (∃ p, e = .returned (.tuple #[.int .i64 0, .iface 97 p])) ∧ Below w.heap.size w w' := by
  have HP := Lib.hid (fun W => pi_call s hz hs hl W)
  have HE := Lib.hid hE
  clear hl hE
  go_enter Tryd.func70, Tryd.ntmps70
  go_wp2_with fail
  refine (HP.out _).mono ?_
  rintro e w1 ⟨rfl, hb⟩
  have HB := Lib.hid hb
  obtain ⟨⟨a, b, h1⟩, _⟩ := HE.out.below hb
  have c1 := World.var?_cell (show Tryd.prog.globalNamed "strconv.ErrSyntax" = some 1 by kernel_rfl) h1 0
  have HT := Lib.hid (fun fn => Tryd.strconv_toError_syntax fn s 0 0 _ w1 (by omega) (by simpa using c1) (.inr ⟨a, b, rfl⟩))
  clear hb HP h1 c1 HE
  go_wp2_with fail
  refine (HT.out _).mono ?_
  rintro e w2 ⟨M, rfl, _, _, hb2⟩
  have HB2 := Lib.hid (HB.out.trans (hb2.mono HB.out.size))
  clear hb2 HT
  go_wp2
  go_ret2
  exact ⟨⟨_, rfl⟩, HB2.out⟩
theorem index_no (c : UInt8) (p : ByteArray) (hp : p.size ≤ 2147483647) : ∀ n x : Nat, x + n = p.size → (∀ j, x ≤ j → j < p.size → bt p (j : Int) ≠ ((c.toNat : Nat) : Int)) → Ev (fun k => cast_zzIndex.l0 k p ⟨#[c]⟩ (x : Int)) (-1)
  | 0, x, hx, _ => by
    have h1 : ((⟨#[c]⟩ : ByteArray).size : Int) = 1 := rfl
    refine Ev.step (fun k => by rw [cast_zzIndex.l0]) ?_
    rw [h1, w64_in (by omega) (by omega)]
    exact Ev.neg (by omega) (Ev.ok _)
  | n + 1, x, hx, hno => by
    have h1 : ((⟨#[c]⟩ : ByteArray).size : Int) = 1 := rfl
    have ih := index_no c p hp n (x + 1) (by omega) (fun j h2 h3 => hno j (by omega) h3)
    refine Ev.step (fun k => by rw [cast_zzIndex.l0]) ?_
    rw [h1, w64_in (by omega) (by omega)]
    refine Ev.pos (by omega) (Ev.pos (by omega) (Ev.pos (by omega) (Ev.neg ?_ ?_)))
    · intro h
      rw [show ((x : Int) + 1).toNat = x + 1 by omega, Int.toNat_natCast, ByteArray.toList_eq, ByteArray.toList_eq] at h
      rw [ext_one p x (by omega)] at h
      have h5 : p[x]'(by omega) = c := by
        have : [p[x]'(by omega)] = [c] := h
        exact (List.cons.inj this).1
      have h6 := bt_nat p x (by omega)
      rw [h5] at h6
      exact hno x (Nat.le_refl _) (by omega) h6
    · rw [show (x : Int) + 1 = ((x + 1 : Nat) : Int) by omega]
      exact ih
set_option maxHeartbeats 1600000 in
set_option maxRecDepth 100000 in
theorem trim_call (s : ByteArray) (hs : s.size ≤ 2147483647) (hl : Low s) (w : World) :
    Calls Tryd.prog 71 #[.string s] w fun e w' => e = .returned (.string s) ∧ Below w.heap.size w w' := by
  obtain ⟨K, hK⟩ : Ev (fun k => cast_zzContains.f k s ⟨#[46]⟩) false := by
    unfold cast_zzContains.f
    refine Ev.bind (by unfold cast_zzIndex.f; exact index_no 46 s hs s.size 0 (by omega) (fun j _ hj q => by have := (hl j hj).1; rw [q] at this; exact absurd this (by decide))) ?_
    exact Ev.ok _
  have HC := Lib.hid (fun W => cast_zzContains.calls K s ⟨#[46]⟩ _ W (hK K (Nat.le_refl _)))
  clear hK hl
  go_enter Tryd.func71, Tryd.ntmps71
  go_wp2_with fail
  refine (HC.out _).mono ?_
  rintro e w1 ⟨rfl, hb⟩
  have HB := Lib.hid hb.below
  clear hb HC
  go_wp2
  go_ret
  exact ⟨rfl, HB.out⟩
set_option maxHeartbeats 1600000 in
set_option maxRecDepth 100000 in
theorem parse_int (s : ByteArray) (hz : 0 < s.size) (hs : s.size ≤ 2147483647) (hl : Low s) (w : World) (hE : TabsE w) :
    Calls Tryd.prog 63 #[.string s] w fun e w' => (∃ ty p, e = .returned (.tuple #[.int .i64 0, .iface ty p])) ∧ Below w.heap.size w w' := by
  have HT := Lib.hid (fun W => trim_call s hs hl W)
  have HP := Lib.hid (fun W hW => pub_call s hz hs hl W hW)
  have HE := Lib.hid hE
  clear hl hE
  go_enter Tryd.func63, Tryd.ntmps63
  go_wp2_with fail
  refine (HT.out _).mono ?_
  rintro e w1 ⟨rfl, hb⟩
  have HB := Lib.hid hb
  clear hb HT
  go_wp2_with fail
  refine (HP.out _ (HE.out.below HB.out)).mono ?_
  rintro e w2 ⟨⟨p, rfl⟩, hb2⟩
  have HB2 := Lib.hid (HB.out.trans (hb2.mono HB.out.size))
  clear hb2 HP HB
  go_wp2
  go_ret2
  exact ⟨⟨_, _, rfl⟩, HB2.out⟩
set_option maxHeartbeats 1600000 in
set_option maxRecDepth 100000 in
theorem parse_int64 (s : ByteArray) (hz : 0 < s.size) (hs : s.size ≤ 2147483647) (hl : Low s) (w : World) (hE : TabsE w) :
    Calls Tryd.prog 65 #[.string s] w fun e w' => (∃ ty p, e = .returned (.tuple #[.int .i64 0, .iface ty p])) ∧ Below w.heap.size w w' := by
  have HT := Lib.hid (fun W => trim_call s hs hl W)
  have HP := Lib.hid (fun W hW => pub_call s hz hs hl W hW)
  have HE := Lib.hid hE
  clear hl hE
  go_enter Tryd.func65, Tryd.ntmps65
  go_wp2_with fail
  refine (HT.out _).mono ?_
  rintro e w1 ⟨rfl, hb⟩
  have HB := Lib.hid hb
  clear hb HT
  go_wp2_with fail
  refine (HP.out _ (HE.out.below HB.out)).mono ?_
  rintro e w2 ⟨⟨p, rfl⟩, hb2⟩
  have HB2 := Lib.hid (HB.out.trans (hb2.mono HB.out.size))
  clear hb2 HP HB
  go_wp2
  go_ret2
  exact ⟨⟨_, _, rfl⟩, HB2.out⟩
end Go.Proofs.YtdconkiilelaoaaDoor.P
