/- Versions: the package's tests of what stands behind a hyphen or a plus sign. -/
import Derived.Test.YtlhijjfbcgconaaDoorZSv3
import Derived.Test.YtlhijjfbcgconaaDoorZPx5
set_option linter.unusedVariables false
set_option linter.unusedSimpArgs false
namespace Go.Proofs.YtlhijjfbcgconaaDoor.P
open Go.RowKit Go.Proofs.YtlhijjfbcgconaaDoorW.PrintWords Go.Proofs.YtlhijjfbcgconaaDoorW.PrintLast Go.Proofs.YtlhijjfbcgconaaDoorW.PrintMore

theorem full_t {s : ByteArray} (h : 0 < s.size) : s.toList.isEmpty = false := by
  cases hl : s.toList.isEmpty with
  | false => rfl
  | true =>
    exfalso
    have := List.isEmpty_iff.1 hl
    rw [ByteArray.toList_eq] at this
    have h2 := size_list s
    rw [this] at h2
    simp at h2
    omega
def numT : ByteArray := ⟨#[48, 49, 50, 51, 52, 53, 54, 55, 56, 57]⟩
def allT : ByteArray := ⟨#[97, 98, 99, 100, 101, 102, 103, 104, 105, 106, 107, 108, 109, 110, 111, 112, 113, 114, 115, 116, 117, 118, 119, 120, 121, 122, 65, 66, 67, 68, 69, 70, 71, 72, 73, 74, 75, 76, 77, 78, 79, 80, 81, 82, 83, 84, 85, 86, 87, 88, 89, 90, 45, 48, 49, 50, 51, 52, 53, 54, 55, 56, 57]⟩
theorem num_ascii : ascii numT := by
  intro i hi
  have h : ∀ j : Fin 10, bt numT ((j.val : Nat) : Int) < 128 := by decide +kernel
  exact h ⟨i, hi⟩
theorem all_ascii : ascii allT := by
  intro i hi
  have h : ∀ j : Fin 63, bt allT ((j.val : Nat) : Int) < 128 := by decide +kernel
  exact h ⟨i, hi⟩
theorem num_mem {x : Int} (h0 : 0 ≤ x) (h1 : x < 128) : x ∈ nums8 numT ↔ isD x := by
  have h : ∀ j : Fin 128, ((j.val : Nat) : Int) ∈ nums8 numT ↔ isD ((j.val : Nat) : Int) := by decide +kernel
  have := h ⟨x.toNat, by omega⟩
  rw [show ((x.toNat : Nat) : Int) = x by omega] at this
  exact this
theorem all_mem {x : Int} (h0 : 0 ≤ x) (h1 : x < 128) : x ∈ nums8 allT ↔ isP x := by
  have h : ∀ j : Fin 128, ((j.val : Nat) : Int) ∈ nums8 allT ↔ isP ((j.val : Nat) : Int) := by decide +kernel
  have := h ⟨x.toNat, by omega⟩
  rw [show ((x.toNat : Nat) : Int) = x by omega] at this
  exact this
theorem isP_range {x : Int} (h : isP x) : 0 ≤ x ∧ x < 128 := by unfold isP at h; omega
theorem ascii_of_isP {t : ByteArray} (h : ∀ j : Nat, j < t.size → isP (bt t (j : Int))) : ascii t := fun j hj => (isP_range (h j hj)).2
theorem nums_iff {t : ByteArray} {Q : Int → Prop} : (∀ x ∈ nums8 t, Q x) ↔ ∀ j : Nat, j < t.size → Q (bt t (j : Int)) := by
  constructor
  · intro h j hj
    rw [← nums8_at t j hj]
    exact h _ (List.getElem_mem _)
  · intro h x hx
    obtain ⟨j, hj, rfl⟩ := List.getElem_of_mem hx
    rw [nums8_length] at hj
    rw [nums8_at t j hj]
    exact h j hj
/-- The first place of a number. -/
def fbR (p : ByteArray) (r : Int) : Nat → Nat → Int
  | 0, _ => -1
  | f + 1, k => if bt p (k : Int) = r then (k : Int) else fbR p r f (k + 1)
theorem fbR_mem (p : ByteArray) (r : Int) : ∀ f k, k + f = p.size → (0 ≤ fbR p r f k ↔ ∃ j, k ≤ j ∧ j < p.size ∧ bt p (j : Int) = r)
  | 0, k, h => ⟨fun q => absurd q (by unfold fbR; omega), fun ⟨j, h1, h2, _⟩ => by omega⟩
  | f + 1, k, h => by
    unfold fbR
    split
    · rename_i c
      exact ⟨fun _ => ⟨k, Nat.le_refl _, by omega, c⟩, fun _ => by omega⟩
    · rename_i c
      rw [fbR_mem p r f (k + 1) (by omega)]
      constructor
      · rintro ⟨j, h1, h2, h3⟩
        exact ⟨j, by omega, h2, h3⟩
      · rintro ⟨j, h1, h2, h3⟩
        refine ⟨j, ?_, h2, h3⟩
        rcases Nat.lt_or_ge k j with q | q
        · omega
        · obtain rfl : j = k := by omega
          exact absurd h3 c
theorem fbR_in (p : ByteArray) (r : Int) : 0 ≤ fbR p r p.size 0 ↔ r ∈ nums8 p := by
  rw [fbR_mem p r p.size 0 (by omega)]
  constructor
  · rintro ⟨j, _, h2, h3⟩
    rw [← h3, ← nums8_at p j h2]
    exact List.getElem_mem _
  · intro h
    obtain ⟨j, hj, he⟩ := List.getElem_of_mem h
    rw [nums8_length] at hj
    rw [nums8_at p j hj] at he
    exact ⟨j, Nat.zero_le _, hj, he⟩
set_option maxHeartbeats 1600000 in
set_option maxRecDepth 100000 in
theorem idxRune_call (p : ByteArray) (ha : ascii p) (hs : p.size ≤ 500) (r : Int) (r0 : 0 ≤ r) (r1 : r < 128) (w : World) :
    Calls Tryd.prog 81 #[.string p, .int .i32 r] w fun e w' => e = .returned (.int .i64 (fbR p r p.size 0)) ∧ Below w.heap.size w w' := by
  have HA := Lib.hid ha
  have HB := Lib.hid (fun o => (Below.refl w.heap.size w).alloc (Nat.le_refl _) o)
  obtain ⟨R, hR⟩ : ∃ R, R = fbR p r p.size 0 := ⟨_, rfl⟩
  have HR := Lib.hid hR
  have e1 : (r == 65533) = false := beq_eq_false_iff_ne.2 (by omega)
  have e2 : (r != 65533) = true := bne_iff_ne.2 (by omega)
  have e3 : decide (r < 0) = false := decide_eq_false (by omega)
  have e4 : decide (1114111 < r) = false := decide_eq_false (by omega)
  have e5 : decide (55296 ≤ r) = false := decide_eq_false (by omega)
  rw [← hR]
  clear ha hR
  go_enter Tryd.func81, Tryd.ntmps81
  go_wp2
  go_loopw [5, 6] (fun y z wr => ∃ (k : Nat) (yv zv : Value), wr = w.iter p k ∧ yv = y ∧ zv = z ∧ k ≤ p.size ∧ Hid (R = fbR p r (p.size - k) k)) (fun _ _ wr => p.size - wr.iterPos w.heap.size)
  case atStart => exact ⟨0, _, _, rfl, rfl, rfl, Nat.zero_le _, HR⟩
  case round =>
    obtain ⟨k, yv, zv, rfl, rfl, rfl, hk, hX⟩ := hrel
    by_cases ck : k < p.size
    · have hnx : ∀ ty, (Instr.next (.pointer (some ⟨w.heap.size, 0, none⟩)) true ty).run Tryd.prog (w.iter p k) = _ := fun ty => run_next_any w p k ty ck
      have hlt : (p[k]'ck).toNat < 128 := by have := HA.out k ck; rw [bt_nat p k ck] at this; omega
      rw [decode_ascii p k ck hlt] at hnx
      have hX1 := hX.out
      obtain ⟨q, hq⟩ : ∃ q, p.size - k = q + 1 := ⟨p.size - k - 1, by omega⟩
      rw [hq] at hX1
      unfold fbR at hX1
      obtain ⟨m, hm⟩ : ∃ m, m = bt p (k : Int) := ⟨_, rfl⟩
      have hmv : (((p[k]'ck).toNat : Nat) : Int) = m := by rw [hm, bt_nat p k ck]
      rw [← hm] at hX1
      simp only [hmv] at hnx
      clear hm hmv hlt hX
      by_cases hrm : m = r
      · rw [if_pos hrm] at hX1
        subst hrm hX1
        clear hq
        go_wp2
        go_ret
        exact ⟨rfl, HB.out _⟩
      · rw [if_neg hrm] at hX1
        have HX := Lib.hid (show R = fbR p r (p.size - (k + 1)) (k + 1) by rw [show p.size - (k + 1) = q by omega]; exact hX1)
        clear hX1 hq
        go_wp2
        go_roundw
        case rel => exact ⟨k + 1, _, _, rfl, rfl, rfl, by omega, HX⟩
        case measure => simp; omega
    · obtain rfl : k = p.size := by omega
      have hX1 := hX.out
      rw [Nat.sub_self] at hX1
      have hX2 : R = -1 := hX1
      subst hX2
      clear hX1 hX
      have hnx := fun ty => run_next_end (P := Tryd.prog) w p p.size ty (Nat.lt_irrefl _)
      go_wp2
      go_ret
      exact ⟨rfl, HB.out _⟩
set_option maxHeartbeats 1600000 in
set_option maxRecDepth 100000 in
theorem hasRune_call (p : ByteArray) (ha : ascii p) (hs : p.size ≤ 500) (r : Int) (r0 : 0 ≤ r) (r1 : r < 128) (w : World) :
    Calls Tryd.prog 71 #[.string p, .int .i32 r] w fun e w' => e = .returned (.bool (decide (r ∈ nums8 p))) ∧ Below w.heap.size w w' := by
  have HI := Lib.hid (idxRune_call p ha hs r r0 r1 w)
  have HD := Lib.hid (show decide (r ∈ nums8 p) = decide (0 ≤ fbR p r p.size 0) from decide_eq_decide.2 (fbR_in p r).symm)
  rw [HD.out]
  clear HD ha hs
  generalize fbR p r p.size 0 = v at *
  go_enter Tryd.func71, Tryd.ntmps71
  go_wp2_with fail
  refine HI.out.mono ?_
  rintro e w1 ⟨rfl, hb1⟩
  have HB1 := Lib.hid hb1
  clear hb1 HI
  go_wp2
  go_ret
  exact ⟨rfl, HB1.out⟩
set_option maxHeartbeats 1600000 in
set_option maxRecDepth 100000 in
theorem only_call (t p : ByteArray) (ht : ascii t) (htz : t.size ≤ 500) (ha : ascii p) (hs : p.size ≤ 500) (w : World) :
    Calls Tryd.prog 58 #[.string t, .string p] w fun e w' => e = .returned (.bool (decide (∀ x ∈ nums8 t, x ∈ nums8 p))) ∧ Below w.heap.size w w' := by
  have HT := Lib.hid ht
  have HC := Lib.hid (fun r r0 r1 W => hasRune_call p ha hs r r0 r1 W)
  have HB0 := Lib.hid (fun o => (Below.refl w.heap.size w).alloc (Nat.le_refl _) o)
  have HLN := Lib.hid (nums8_length t)
  clear ht ha hs
  go_enter Tryd.func58, Tryd.ntmps58
  go_wp2
  go_loopw [6] (fun z wr => ∃ (k : Nat) (zv : Value), zv = z ∧ k ≤ t.size ∧ Hid (wr.heap[w.heap.size]? = some (.stringIter t k)) ∧ Hid (w.heap.size + 1 ≤ wr.heap.size) ∧ Hid (Below w.heap.size w wr) ∧ Hid (∀ x ∈ (nums8 t).take k, x ∈ nums8 p)) (fun _ wr => t.size - wr.iterPos w.heap.size)
  case atStart => exact ⟨0, _, rfl, Nat.zero_le _, Lib.hid (heap_alloc_new w (.stringIter t 0)), Lib.hid (by simp [World.iter]), HB0.out _, Lib.hid (fun x hx => by simp at hx)⟩
  case round =>
    obtain ⟨k, zv, rfl, hk, hI, hS, hB, hX⟩ := hrel
    by_cases ck : k < t.size
    · have hnx : ∀ ty, (Instr.next (.pointer (some ⟨w.heap.size, 0, none⟩)) true ty).run Tryd.prog wr = _ := fun ty => Lib.run_next_any_at wr w.heap.size t k ty hI.out ck
      have hlt : (t[k]'ck).toNat < 128 := by have := HT.out k ck; rw [bt_nat t k ck] at this; omega
      rw [decode_ascii t k ck hlt] at hnx
      obtain ⟨W2, hW2⟩ : ∃ W2, W2 = wr.iterAt w.heap.size t (k + 1) := ⟨_, rfl⟩
      have hI2 := Lib.hid (show W2.heap[w.heap.size]? = some (.stringIter t (k + 1)) by rw [hW2]; exact Lib.iterAt_heap _ _ _ _ _ hI.out)
      have hS2 := Lib.hid (show w.heap.size + 1 ≤ W2.heap.size by rw [hW2, Lib.iterAt_size]; exact hS.out)
      have hB2 := Lib.hid (show Below w.heap.size w W2 by rw [hW2]; exact Lib.below_iterAt hB.out (Nat.le_refl _) _ _)
      have hP := Lib.hid (iterPos_of hI.out)
      obtain ⟨m, hm⟩ : ∃ m, m = bt t (k : Int) := ⟨_, rfl⟩
      have hmv : (((t[k]'ck).toNat : Nat) : Int) = m := by rw [hm, bt_nat t k ck]
      have hkl : k < (nums8 t).length := by rw [HLN.out]; exact ck
      have HTK := Lib.hid (show (nums8 t).take (k + 1) = (nums8 t).take k ++ [m] by rw [hm, ← nums8_at t k ck]; exact List.take_succ_eq_append_getElem hkl)
      have HMM := Lib.hid (show m ∈ nums8 t by rw [hm, ← nums8_at t k ck]; exact List.getElem_mem _)
      have hm0 : 0 ≤ m := by rw [← hmv]; omega
      have hm1 : m < 128 := by rw [← hmv]; omega
      have HC1 := Lib.hid (HC.out m hm0 hm1 W2)
      simp only [hmv] at hnx
      rw [← hW2] at hnx
      clear hm hmv hlt hkl hW2 hm0 hm1
      by_cases hin : m ∈ nums8 p
      · have HX2 := Lib.hid (show ∀ x ∈ (nums8 t).take (k + 1), x ∈ nums8 p by
          rw [HTK.out]
          intro x hx
          rcases List.mem_append.1 hx with hx | hx
          · exact hX.out x hx
          · rw [List.mem_singleton.1 hx]; exact hin)
        rw [decide_eq_true hin] at HC1
        clear hX hin HTK HMM
        go_wp2_with fail
        refine HC1.out.mono ?_
        rintro e w3 ⟨rfl, hb3⟩
        have HI3 := Lib.hid (show w3.heap[w.heap.size]? = some (.stringIter t (k + 1)) by rw [hb3.block _ (by have := hS2.out; omega)]; exact hI2.out)
        have HS3 := Lib.hid (show w.heap.size + 1 ≤ w3.heap.size from Nat.le_trans hS2.out hb3.size)
        have HB3 := Lib.hid (show Below w.heap.size w w3 from hB2.out.trans (hb3.mono (by have := hS2.out; omega)))
        have HP3 := Lib.hid (iterPos_of HI3.out)
        clear hb3 HC1 hI2 hS2 hB2 hI hS hB hnx
        go_wp2
        go_roundw
        case rel => exact ⟨k + 1, _, rfl, by omega, HI3, HS3, HB3, HX2⟩
        case measure => rw [HP3.out, hP.out]; omega
      · have HD := Lib.hid (show decide (∀ x ∈ nums8 t, x ∈ nums8 p) = false from decide_eq_false (fun q => hin (q m HMM.out)))
        rw [decide_eq_false hin] at HC1
        clear hX hin HTK HMM
        go_wp2_with fail
        refine HC1.out.mono ?_
        rintro e w3 ⟨rfl, hb3⟩
        have HB3 := Lib.hid (show Below w.heap.size w w3 from hB2.out.trans (hb3.mono (by have := hS2.out; omega)))
        clear hb3 HC1 hI2 hS2 hB2 hI hS hB hnx
        go_wp2
        go_ret
        exact ⟨congrArg (fun z => Ending.returned (Value.bool z)) HD.out.symm, HB3.out⟩
    · obtain rfl : k = t.size := by omega
      have hnx : ∀ ty, (Instr.next (.pointer (some ⟨w.heap.size, 0, none⟩)) true ty).run Tryd.prog wr = _ := fun ty => Lib.run_next_end_at wr w.heap.size t t.size ty hI.out (Nat.lt_irrefl _)
      have HD := Lib.hid (show decide (∀ x ∈ nums8 t, x ∈ nums8 p) = true from decide_eq_true (by have := hX.out; rw [← HLN.out, List.take_length] at this; exact this))
      clear hX
      go_wp2
      go_ret
      exact ⟨congrArg (fun z => Ending.returned (Value.bool z)) HD.out.symm, hB.out⟩
/-! ### parts -/
theorem ext_one (p : ByteArray) (x : Nat) (h : x < p.size) : (p.extract x (x + 1)).data.toList = [p[x]'h] := by
  have h4 := ext_snoc p x 0 h
  rw [show (p.extract x (x + 0)).data.toList = [] by rw [show x + 0 = x from rfl, ext_nil]] at h4
  exact h4
theorem index_dot (p : ByteArray) (hp : p.size ≤ 1000) (z : Nat) (hz : z ≤ p.size) (hend : z = p.size ∨ bt p (z : Int) = 46) : ∀ n x : Nat, x + n = z → (∀ j, x ≤ j → j < z → bt p (j : Int) ≠ 46) →
    Ev (fun k => semver_zzIndex.l0 k p ⟨#[46]⟩ (x : Int)) (if z = p.size then -1 else (z : Int))
  | 0, x, hx, _ => by
    obtain rfl : x = z := by omega
    have h1 : ((⟨#[46]⟩ : ByteArray).size : Int) = 1 := rfl
    refine Ev.step (fun k => by rw [semver_zzIndex.l0]) ?_
    rw [h1, w64_in (by omega) (by omega)]
    by_cases c : x = p.size
    · rw [if_pos c]
      exact Ev.neg (by omega) (Ev.ok _)
    · rw [if_neg c]
      refine Ev.pos (by omega) (Ev.pos (by omega) (Ev.pos (by omega) (Ev.pos ?_ (Ev.ok _))))
      rcases hend with h | h
      · exact absurd h c
      · rw [show ((x : Int) + 1).toNat = x + 1 by omega, Int.toNat_natCast, ByteArray.toList_eq, ByteArray.toList_eq]
        have h2 := bt_nat p x (by omega)
        rw [h] at h2
        have h3 : p[x]'(by omega) = 46 := UInt8.toNat_inj.1 (by show _ = 46; omega)
        rw [ext_one p x (by omega), h3]
  | n + 1, x, hx, hno => by
    have h1 : ((⟨#[46]⟩ : ByteArray).size : Int) = 1 := rfl
    have ih := index_dot p hp z hz hend n (x + 1) (by omega) (fun j h2 h3 => hno j (by omega) h3)
    refine Ev.step (fun k => by rw [semver_zzIndex.l0]) ?_
    rw [h1, w64_in (by omega) (by omega)]
    refine Ev.pos (by omega) (Ev.pos (by omega) (Ev.pos (by omega) (Ev.neg ?_ ?_)))
    · intro h
      rw [show ((x : Int) + 1).toNat = x + 1 by omega, Int.toNat_natCast, ByteArray.toList_eq, ByteArray.toList_eq] at h
      rw [ext_one p x (by omega)] at h
      have h5 : p[x]'(by omega) = 46 := by
        have : [p[x]'(by omega)] = [(46 : UInt8)] := h
        exact (List.cons.inj this).1
      have h6 := bt_nat p x (by omega)
      rw [h5] at h6
      exact hno x (Nat.le_refl _) (by omega) h6
    · rw [show (x : Int) + 1 = ((x + 1 : Nat) : Int) by omega]
      exact ih
/-- An identifier that is well. -/
def Good (strict : Bool) (t : ByteArray) : Prop := 0 < t.size ∧ t.size ≤ 100 ∧ (∀ j : Nat, j < t.size → isP (bt t (j : Int))) ∧ (strict = true → okSeg t 0 t.size)
theorem good_cut {p : ByteArray} {strict : Bool} {x z : Nat} (hp : p.size ≤ 100) (hz : z ≤ p.size) (h : x < z) (hP : ∀ j, x ≤ j → j < z → isP (bt p (j : Int))) (hs : strict = true → okSeg p x z) : Good strict (p.extract x z) := by
  have hzz : (p.extract x z).size = z - x := ext_size _ _ _ hz
  refine ⟨by omega, by omega, fun j hj => ?_, fun q => ?_⟩
  · rw [bt_ext p x z j (by omega)]
    exact hP (x + j) (by omega) (by omega)
  · rw [hzz]
    refine (okSeg_ext (by omega)).2 ?_
    rw [Nat.add_zero, show x + (z - x) = z by omega]
    exact hs q
theorem split_l (p : ByteArray) (hp : p.size ≤ 100) (strict : Bool) : ∀ {x : Nat}, PF p strict p.size x → ∀ acc : List ByteArray, acc.length + (p.size - x) ≤ 1000 →
    ∃ l : List ByteArray, Ev (fun k => semver_zzSplit.l0 k (p.extract x p.size) ⟨#[46]⟩ acc) (acc ++ l) ∧ (∀ t ∈ l, Good strict t) ∧ l.length + x ≤ p.size ∧ 0 < l.length := by
  intro x h
  have h1 : ((⟨#[46]⟩ : ByteArray).size : Int) = 1 := rfl
  induction h with
  | @last x h hP hs =>
    intro acc hacc
    have hz : (p.extract x p.size).size = p.size - x := ext_size _ _ _ (Nat.le_refl _)
    have hi := index_dot (p.extract x p.size) (by omega) (p.extract x p.size).size (Nat.le_refl _) (.inl rfl) (p.extract x p.size).size 0 (by omega) (fun j _ hj => by
      rw [bt_ext p x p.size j (by omega)]
      intro q
      have := hP (x + j) (by omega) (by omega)
      rw [q] at this
      exact dot_notP this)
    rw [if_pos rfl] at hi
    refine ⟨[p.extract x p.size], ?_, fun t ht => ?_, by simp; omega, by simp⟩
    · refine Ev.step (fun k => by rw [semver_zzSplit.l0]) ?_
      refine Ev.bind (by unfold semver_zzIndex.f; exact hi) ?_
      exact Ev.pos (by decide) (Ev.pos (by omega) (Ev.ok _))
    · rw [List.mem_singleton.1 ht]
      exact good_cut hp (Nat.le_refl _) h hP hs
  | @more x z h hz2 hP hs hd r ih =>
    intro acc hacc
    have hz : (p.extract x p.size).size = p.size - x := ext_size _ _ _ (Nat.le_refl _)
    obtain ⟨l, hl1, hl2, hl3, hl4⟩ := ih (acc ++ [p.extract x z]) (by rw [List.length_append, List.length_singleton]; omega)
    have hi := index_dot (p.extract x p.size) (by omega) (z - x) (by omega) (.inr (by rw [bt_ext p x p.size (z - x) (by omega), show x + (z - x) = z by omega]; exact hd)) (z - x) 0 (by omega) (fun j _ hj => by
      rw [bt_ext p x p.size j (by omega)]
      intro q
      have := hP (x + j) (by omega) (by omega)
      rw [q] at this
      exact dot_notP this)
    rw [if_neg (by omega)] at hi
    refine ⟨p.extract x z :: l, ?_, fun t ht => ?_, by rw [List.length_cons]; omega, by simp⟩
    · refine Ev.step (fun k => by rw [semver_zzSplit.l0]) ?_
      refine Ev.bind (by unfold semver_zzIndex.f; exact hi) ?_
      rw [h1, w64_in (by omega) (by omega), show (((z - x : Nat) : Int) + 1).toNat = z - x + 1 by omega, Int.toNat_natCast]
      refine Ev.neg (by omega) (Ev.pos (by omega) (Ev.pos (by omega) (Ev.pos (by omega) (Ev.pos (by omega) (Ev.pos (by omega) ?_)))))
      rw [hz, ext_ext p x p.size _ _ (by omega), ext_ext p x p.size _ _ (by omega), show x + (z - x + 1) = z + 1 by omega, show x + (p.size - x) = p.size by omega, show x + (z - x) = z by omega, Nat.add_zero, show acc ++ p.extract x z :: l = (acc ++ [p.extract x z]) ++ l by rw [List.append_assoc]; rfl]
      exact hl1
    · rcases List.mem_cons.1 ht with ht | ht
      · rw [ht]
        exact good_cut hp (by omega) h hP hs
      · exact hl2 t ht
theorem split_ev (p : ByteArray) (hp : p.size ≤ 100) (strict : Bool) (h : PF p strict p.size 0) : ∃ l : List ByteArray, Ev (fun k => semver_zzSplit.f k p ⟨#[46]⟩) l ∧ (∀ t ∈ l, Good strict t) ∧ l.length ≤ 100 := by
  obtain ⟨l, h1, h2, h3, _⟩ := split_l p hp strict h [] (by simp; omega)
  rw [ext_all] at h1
  exact ⟨l, by unfold semver_zzSplit.f; exact h1, h2, by omega⟩
set_option maxHeartbeats 1600000 in
set_option maxRecDepth 100000 in
theorem validMeta (p : ByteArray) (hp : p.size ≤ 100) (h : PF p false p.size 0) (w : World) :
    Calls Tryd.prog 56 #[.string p] w fun e w' => e = .returned .nilIface ∧ Below w.heap.size w w' := by
  obtain ⟨l, ⟨K, hK⟩, hg, hl⟩ := split_ev p hp false h
  have HSP := Lib.hid (semver_zzSplit.calls K p ⟨#[46]⟩ l w (hK K (Nat.le_refl _)))
  have HG := Lib.hid hg
  clear hK hg h
  go_enter Tryd.func56, Tryd.ntmps56
  go_wp2_with fail
  refine HSP.out.mono ?_
  rintro e w1 ⟨v, rfl, hr, hb⟩
  obtain ⟨A, c, rfl, hle, hC⟩ := Kd.R_reads hr
  have HC := Lib.hid hC
  have HB := Lib.hid hb
  clear hr hb hC hle HSP
  go_wp2
  go_loopw [5, 10] (fun y i wr => ∃ (k : Nat) (yv : Value), yv = y ∧ i = .int .i64 k ∧ k ≤ l.length ∧ Hid (Below w1.heap.size w1 wr)) (fun _ i _ => l.length - (intOf i).toNat)
  case atStart => exact ⟨0, _, rfl, rfl, Nat.zero_le _, Lib.hid (Below.refl _ _)⟩
  case round =>
    obtain ⟨k, yv, rfl, rfl, hk, hW⟩ := hrel
    by_cases ck : k < l.length
    · obtain ⟨ad, rfl, q0⟩ := Kd.at_string (Kd.C_below HC.out hW.out) (k : Int) (by omega) (by omega)
      obtain ⟨t, ht⟩ : ∃ t, t = l[k] := ⟨_, rfl⟩
      have q1 : wr.cell? (ad.add k) = some (.string t) := by
        have h1 : rdOf (⟨#[]⟩ : ByteArray) l (k : Int) = t := by rw [ht]; simp [rdOf, ck]
        rw [← h1]
        exact q0
      have hgt := HG.out t (by rw [ht]; exact List.getElem_mem _)
      obtain ⟨g1, g2, g3, g4⟩ := hgt
      have hne := full_t g1
      have hasc := ascii_of_isP g3
      have HALL := Lib.hid (fun W => only_call t allT hasc (by omega) all_ascii (by decide) W)
      have HDA := Lib.hid (show decide (∀ x ∈ nums8 t, x ∈ nums8 allT) = true from decide_eq_true (nums_iff.2 (fun j hj => (all_mem (isP_range (g3 j hj)).1 (isP_range (g3 j hj)).2).2 (g3 j hj))))
      rw [HDA.out] at HALL
      have HBT := Lib.hid (fun (W : World) (hb : Below wr.heap.size wr W) => show Below w1.heap.size w1 W from hW.out.trans (hb.mono hW.out.size))
      clear ht q0 g1 g3 g4 hasc HDA hW
      go_wp2_with fail
      refine (HALL.out _).mono ?_
      rintro e w3 ⟨rfl, hb3⟩
      have HB3 := Lib.hid (HBT.out _ hb3)
      clear hb3 HALL HBT q1
      go_wp2
      go_roundw
      case rel => exact ⟨k + 1, _, rfl, by go_num, by omega, HB3⟩
      case measure => simp [intOf]; omega
    · obtain rfl : k = l.length := by omega
      have HF := Lib.hid (HB.out.trans (hW.out.mono HB.out.size))
      clear hW
      go_wp2
      go_ret
      exact ⟨rfl, HF.out⟩
set_option maxHeartbeats 1600000 in
set_option maxRecDepth 100000 in
theorem validPre (p : ByteArray) (hp : p.size ≤ 100) (h : PF p true p.size 0) (w : World) :
    Calls Tryd.prog 57 #[.string p] w fun e w' => e = .returned .nilIface ∧ Below w.heap.size w w' := by
  obtain ⟨l, ⟨K, hK⟩, hg, hl⟩ := split_ev p hp true h
  have HSP := Lib.hid (semver_zzSplit.calls K p ⟨#[46]⟩ l w (hK K (Nat.le_refl _)))
  have HG := Lib.hid hg
  clear hK hg h
  go_enter Tryd.func57, Tryd.ntmps57
  go_wp2_with fail
  refine HSP.out.mono ?_
  rintro e w1 ⟨v, rfl, hr, hb⟩
  obtain ⟨A, c, rfl, hle, hC⟩ := Kd.R_reads hr
  have HC := Lib.hid hC
  have HB := Lib.hid hb
  clear hr hb hC hle HSP
  go_wp2
  go_loopw [5, 10] (fun y i wr => ∃ (k : Nat) (yv : Value), yv = y ∧ i = .int .i64 k ∧ k ≤ l.length ∧ Hid (Below w1.heap.size w1 wr)) (fun _ i _ => l.length - (intOf i).toNat)
  case atStart => exact ⟨0, _, rfl, rfl, Nat.zero_le _, Lib.hid (Below.refl _ _)⟩
  case round =>
    obtain ⟨k, yv, rfl, rfl, hk, hW⟩ := hrel
    by_cases ck : k < l.length
    · obtain ⟨ad, rfl, q0⟩ := Kd.at_string (Kd.C_below HC.out hW.out) (k : Int) (by omega) (by omega)
      obtain ⟨t, ht⟩ : ∃ t, t = l[k] := ⟨_, rfl⟩
      have q1 : wr.cell? (ad.add k) = some (.string t) := by
        have h1 : rdOf (⟨#[]⟩ : ByteArray) l (k : Int) = t := by rw [ht]; simp [rdOf, ck]
        rw [← h1]
        exact q0
      have hgt := HG.out t (by rw [ht]; exact List.getElem_mem _)
      obtain ⟨g1, g2, g3, g4⟩ := hgt
      have hne := full_t g1
      have hasc := ascii_of_isP g3
      have HALL := Lib.hid (fun W => only_call t allT hasc (by omega) all_ascii (by decide) W)
      have HDA := Lib.hid (show decide (∀ x ∈ nums8 t, x ∈ nums8 allT) = true from decide_eq_true (nums_iff.2 (fun j hj => (all_mem (isP_range (g3 j hj)).1 (isP_range (g3 j hj)).2).2 (g3 j hj))))
      rw [HDA.out] at HALL
      have HBT := Lib.hid (fun (W : World) (hb : Below wr.heap.size wr W) => show Below w1.heap.size w1 W from hW.out.trans (hb.mono hW.out.size))
      have HNUM := Lib.hid (fun W => only_call t numT hasc (by omega) num_ascii (by decide) W)
      have hdig : (∀ x ∈ nums8 t, x ∈ nums8 numT) ↔ ∀ j : Nat, j < t.size → isD (bt t (j : Int)) := by
        rw [nums_iff]
        exact ⟨fun q j hj => (num_mem (isP_range (g3 j hj)).1 (isP_range (g3 j hj)).2).1 (q j hj), fun q j hj => (num_mem (isP_range (g3 j hj)).1 (isP_range (g3 j hj)).2).2 (q j hj)⟩
      by_cases hd : ∀ j : Nat, j < t.size → isD (bt t (j : Int))
      · have HDN := Lib.hid (show decide (∀ x ∈ nums8 t, x ∈ nums8 numT) = true from decide_eq_true (hdig.2 hd))
        rw [HDN.out] at HNUM
        have hok := g4 rfl
        unfold okSeg at hok
        by_cases c1 : 1 < t.size
        · have h48 : ¬ (((t[0]'g1).toNat : Nat) : Int) = 48 := by
            rw [← bt_nat t 0 g1]
            intro q
            exact hok (by omega) q (fun j _ hj => hd j hj)
          have c1b : decide (1 < (t.size : Int)) = true := decide_eq_true (by omega)
          have h48b : ((((t[0]'g1).toNat : Nat) : Int) == 48) = false := beq_eq_false_iff_ne.2 h48
          clear ht q0 g3 g4 hasc HDA hW hdig hd HDN hok HALL h48
          go_wp2_with fail
          refine (HNUM.out _).mono ?_
          rintro e w3 ⟨rfl, hb3⟩
          have HB3 := Lib.hid (HBT.out _ hb3)
          clear hb3 HNUM HBT q1
          go_wp2
          go_roundw
          case rel => exact ⟨k + 1, _, rfl, by go_num, by omega, HB3⟩
          case measure => simp [intOf]; omega
        · have c1b : decide (1 < (t.size : Int)) = false := decide_eq_false (by omega)
          clear ht q0 g3 g4 hasc HDA hW hdig hd HDN hok HALL
          go_wp2_with fail
          refine (HNUM.out _).mono ?_
          rintro e w3 ⟨rfl, hb3⟩
          have HB3 := Lib.hid (HBT.out _ hb3)
          clear hb3 HNUM HBT q1
          go_wp2
          go_roundw
          case rel => exact ⟨k + 1, _, rfl, by go_num, by omega, HB3⟩
          case measure => simp [intOf]; omega
      · have HDN := Lib.hid (show decide (∀ x ∈ nums8 t, x ∈ nums8 numT) = false from decide_eq_false (fun q => hd (hdig.1 q)))
        rw [HDN.out] at HNUM
        clear ht q0 g1 g3 g4 hasc HDA hW hdig hd HDN
        go_wp2_with fail
        refine (HNUM.out _).mono ?_
        rintro e w3 ⟨rfl, hb3⟩
        have HB3 := Lib.hid (HBT.out _ hb3)
        clear hb3 HNUM HBT q1
        go_wp2_with fail
        refine (HALL.out _).mono ?_
        rintro e w4 ⟨rfl, hb4⟩
        have HB4 := Lib.hid (HB3.out.trans (hb4.mono HB3.out.size))
        clear hb4 HALL HB3
        go_wp2
        go_roundw
        case rel => exact ⟨k + 1, _, rfl, by go_num, by omega, HB4⟩
        case measure => simp [intOf]; omega
    · obtain rfl : k = l.length := by omega
      have HF := Lib.hid (HB.out.trans (hW.out.mono HB.out.size))
      clear hW
      go_wp2
      go_ret
      exact ⟨rfl, HF.out⟩
end Go.Proofs.YtlhijjfbcgconaaDoor.P

