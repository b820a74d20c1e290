/- Texts joined: Sn1, Sn2, Sn3, Sn4, Sn5, Sn6. -/
import Derived.Test.YtlhijjfbcgconaaDoorZSo5
import Derived.Test.YtlhijjfbcgconaaDoorZPx23
import Derived.Test.YtlhijjfbcgconaaDoorZPx20
import Derived.Test.YtlhijjfbcgconaaDoorZPx22
import Derived.Test.YtlhijjfbcgconaaDoorZQA3
import Derived.Test.YtlhijjfbcgconaaDoorZSo6

/- A version that is written out: its text, and its form. -/
set_option linter.unusedVariables false
set_option linter.unusedSimpArgs false
namespace Go.Proofs.YtlhijjfbcgconaaDoor.P
open Go.RowKit Go.Proofs.YtlhijjfbcgconaaDoorW.PrintWords Go.Proofs.YtlhijjfbcgconaaDoorW.PrintLast Go.Proofs.YtlhijjfbcgconaaDoorW.PrintMore

def decd (n : Nat) : ByteArray := ⟨(Lib.decDigits n).toArray⟩
/-- Three numbers with points between. -/
def verT (a b c : Nat) : ByteArray := (((decd a ++ (⟨#[46]⟩ : ByteArray)) ++ decd b) ++ (⟨#[46]⟩ : ByteArray)) ++ decd c
theorem nd_le : ∀ (k u : Nat), u < 10 ^ (k + 1) → Lib.nDigits u ≤ k + 1
  | 0, u, h => by rw [Lib.nDigits_small (by simpa using h)]; omega
  | k + 1, u, h => by
    by_cases c : u < 10
    · rw [Lib.nDigits_small c]; omega
    · rw [Lib.nDigits_big c]
      have := nd_le k (u / 10) (by rw [Nat.pow_succ] at h; omega)
      omega
theorem decd_size (u : Nat) : (decd u).size = Lib.nDigits u := by
  show (Lib.decDigits u).toArray.size = _
  rw [List.size_toArray, Lib.decDigits_length]
theorem verT_list (a b c : Nat) : (verT a b c).data.toList = Lib.decDigits a ++ (46 :: (Lib.decDigits b ++ (46 :: Lib.decDigits c))) := by
  unfold verT decd
  simp [append_list]
theorem verT_size (a b c : Nat) : (verT a b c).size = Lib.nDigits a + 1 + Lib.nDigits b + 1 + Lib.nDigits c := by
  rw [← size_list, verT_list]
  simp [Lib.decDigits_length]
  omega
theorem bt_some {s : ByteArray} {j : Nat} {v : UInt8} (h : s.data.toList[j]? = some v) : bt s (j : Int) = (v.toNat : Int) := by rw [bt_opt, h]
theorem u8_dig (i : Nat) (h : i < 10) : ((UInt8.ofNat (48 + i)).toNat : Int) = 48 + i := by
  rw [UInt8.toNat_ofNat']
  omega
/-- Digits within a text are a number. -/
theorem dd (s : ByteArray) (x : Nat) : ∀ (n u : Nat), u ≤ n → (∀ (j : Nat) (v : UInt8), (Lib.decDigits u)[j]? = some v → bt s ((x + j : Nat) : Int) = (v.toNat : Int)) →
    dv s x (Lib.nDigits u) = u ∧ (∀ j, j < Lib.nDigits u → isD (bt s ((x + j : Nat) : Int))) ∧ (Lib.nDigits u = 1 ∨ bt s (x : Int) ≠ 48) := by
  intro n
  induction n with
  | zero =>
    intro u hu h
    obtain rfl : u = 0 := by omega
    rw [Lib.nDigits_small (by decide)]
    have h0 := h 0 (UInt8.ofNat (48 + 0)) (by rw [Lib.decDigits_one (by decide)]; rfl)
    rw [u8_dig 0 (by decide), Nat.add_zero] at h0
    refine ⟨?_, fun j hj => ?_, .inl rfl⟩
    · show dv s x 0 * 10 + (bt s ((x + 0 : Nat) : Int) - 48) = _
      rw [Nat.add_zero, h0]
      show (0 : Int) * 10 + _ = _
      omega
    · obtain rfl : j = 0 := by omega
      rw [Nat.add_zero, h0]
      unfold isD
      omega
  | succ n ih =>
    intro u hu h
    by_cases c : u < 10
    · rw [Lib.nDigits_small c]
      have h0 := h 0 (UInt8.ofNat (48 + u)) (by rw [Lib.decDigits_one c]; rfl)
      rw [u8_dig u c, Nat.add_zero] at h0
      refine ⟨?_, fun j hj => ?_, .inl rfl⟩
      · show dv s x 0 * 10 + (bt s ((x + 0 : Nat) : Int) - 48) = _
        rw [Nat.add_zero, h0]
        show (0 : Int) * 10 + _ = _
        omega
      · obtain rfl : j = 0 := by omega
        rw [Nat.add_zero, h0]
        unfold isD
        omega
    · have hd : Lib.decDigits u = Lib.decDigits (u / 10) ++ [UInt8.ofNat (48 + u % 10)] := by rw [Lib.decDigits, dif_neg c]
      obtain ⟨i1, i2, i3⟩ := ih (u / 10) (by omega) (fun j v hj => h j v (by
        rw [hd, List.getElem?_append_left (List.getElem?_eq_some_iff.1 hj).1]
        exact hj))
      have h0 := h (Lib.nDigits (u / 10)) (UInt8.ofNat (48 + u % 10)) (by
        rw [hd, List.getElem?_append_right (by rw [Lib.decDigits_length]; exact Nat.le_refl _), Lib.decDigits_length, Nat.sub_self]
        rfl)
      rw [u8_dig (u % 10) (by omega)] at h0
      rw [Lib.nDigits_big c]
      refine ⟨?_, fun j hj => ?_, .inr ?_⟩
      · show dv s x (Lib.nDigits (u / 10)) * 10 + (bt s ((x + Lib.nDigits (u / 10) : Nat) : Int) - 48) = _
        rw [i1, h0]
        omega
      · by_cases q : j < Lib.nDigits (u / 10)
        · exact i2 j q
        · obtain rfl : j = Lib.nDigits (u / 10) := by omega
          rw [h0]
          unfold isD
          omega
      · rcases i3 with q | q
        · rw [q] at i1
          have e : dv s x 1 = (0 : Int) * 10 + (bt s ((x + 0 : Nat) : Int) - 48) := rfl
          rw [e, Nat.add_zero] at i1
          omega
        · exact q
theorem verT_form (a b c : Nat) (ha : a < 10 ^ 15) (hb : b < 10 ^ 15) (hc : c < 10 ^ 15) : ∃ p q r, Form (verT a b c) p q r r (a : Int) (b : Int) (c : Int) ⟨#[]⟩ ⟨#[]⟩ := by
  have la := nd_le 14 a ha
  have lb := nd_le 14 b hb
  have lc := nd_le 14 c hc
  have pa := Lib.nDigits_pos a
  have pb := Lib.nDigits_pos b
  have pc := Lib.nDigits_pos c
  have hz := verT_size a b c
  have hl := verT_list a b c
  have ea := Lib.decDigits_length a
  have eb := Lib.decDigits_length b
  have ec := Lib.decDigits_length c
  generalize verT a b c = s at *
  obtain ⟨A, hA⟩ : ∃ A, A = Lib.nDigits a := ⟨_, rfl⟩
  obtain ⟨B, hB⟩ : ∃ A, A = Lib.nDigits b := ⟨_, rfl⟩
  obtain ⟨C, hC⟩ : ∃ A, A = Lib.nDigits c := ⟨_, rfl⟩
  have da := dd s 0 a a (Nat.le_refl _) (fun j v hj => by
    rw [Nat.zero_add]
    refine bt_some ?_
    rw [hl, List.getElem?_append_left (List.getElem?_eq_some_iff.1 hj).1]
    exact hj)
  have ba : bt s (A : Int) = 46 := bt_some (v := 46) (by
    rw [hl, List.getElem?_append_right (by omega), ea, ← hA, Nat.sub_self]
    rfl)
  have db := dd s (A + 1) b b (Nat.le_refl _) (fun j v hj => by
    refine bt_some ?_
    rw [hl, List.getElem?_append_right (by omega), ea, ← hA, show A + 1 + j - A = j + 1 by omega, List.getElem?_cons_succ, List.getElem?_append_left (List.getElem?_eq_some_iff.1 hj).1]
    exact hj)
  have bb : bt s ((A + 1 + B : Nat) : Int) = 46 := bt_some (v := 46) (by
    rw [hl, List.getElem?_append_right (by omega), ea, ← hA, show A + 1 + B - A = B + 1 by omega, List.getElem?_cons_succ, List.getElem?_append_right (by omega), eb, ← hB, Nat.sub_self]
    rfl)
  have dc := dd s (A + 1 + B + 1) c c (Nat.le_refl _) (fun j v hj => by
    refine bt_some ?_
    rw [hl, List.getElem?_append_right (by omega), ea, ← hA, show A + 1 + B + 1 + j - A = B + 1 + j + 1 by omega, List.getElem?_cons_succ, List.getElem?_append_right (by omega), eb, ← hB, show B + 1 + j - B = j + 1 by omega, List.getElem?_cons_succ]
    exact hj)
  rw [← hA] at da hz la pa
  rw [← hB] at db hz lb pb
  rw [← hC] at dc hz lc pc
  have nd : ∀ (z : Int), z = 46 → ¬ isD z := fun z hz => by unfold isD; omega
  refine ⟨A, A + 1 + B, s.size, ⟨by omega, ⟨by omega, by omega, by omega, fun j h0 h1 => ?_, .inr (nd _ ba), ?_⟩, ba, by omega, ⟨by omega, by omega, by omega, fun j h0 h1 => ?_, .inr (nd _ bb), ?_⟩, bb, by omega, ⟨by omega, by omega, Nat.le_refl _, fun j h0 h1 => ?_, .inl rfl, ?_⟩, Nat.le_refl _, Nat.le_refl _, .inl ⟨rfl, rfl⟩, .inl ⟨rfl, rfl⟩, ?_, ?_, ?_, fun j hj => ?_⟩⟩
  · have := da.2.1 j h1
    rwa [Nat.zero_add] at this
  · rcases da.2.2 with q | q
    · exact .inl (by omega)
    · exact .inr q
  · have := db.2.1 (j - (A + 1)) (by omega)
    rwa [show A + 1 + (j - (A + 1)) = j by omega] at this
  · rcases db.2.2 with q | q
    · exact .inl (by omega)
    · exact .inr q
  · have := dc.2.1 (j - (A + 1 + B + 1)) (by omega)
    rwa [show A + 1 + B + 1 + (j - (A + 1 + B + 1)) = j by omega] at this
  · rcases dc.2.2 with q | q
    · exact .inl (by omega)
    · exact .inr q
  · exact da.1.symm
  · rw [show A + 1 + B - (A + 1) = B by omega]
    exact db.1.symm
  · rw [show s.size - (A + 1 + B + 1) = C by omega]
    exact dc.1.symm
  · have hd : bt s (j : Int) = 46 ∨ isD (bt s (j : Int)) := by
      by_cases q1 : j < A
      · have := da.2.1 j q1
        rw [Nat.zero_add] at this
        exact .inr this
      · by_cases q2 : j = A
        · rw [q2]; exact .inl ba
        · by_cases q3 : j < A + 1 + B
          · have := db.2.1 (j - (A + 1)) (by omega)
            rw [show A + 1 + (j - (A + 1)) = j by omega] at this
            exact .inr this
          · by_cases q4 : j = A + 1 + B
            · rw [q4]; exact .inl bb
            · have := dc.2.1 (j - (A + 1 + B + 1)) (by omega)
              rw [show A + 1 + B + 1 + (j - (A + 1 + B + 1)) = j by omega] at this
              exact .inr this
    unfold isD at hd
    omega
theorem decd_le (a : Nat) (ha : a < 10 ^ 15) : (decd a).size ≤ 15 := by rw [decd_size]; exact nd_le 14 a ha
theorem dec16_f : ∀ (k u : Nat), u < 10 ^ 15 → u < 10 ^ (k + 1) → spec_decimal16.f (k + 1) (u : Int) = some (decd u)
  | k, u, h15, h => by
    by_cases c : u < 10
    · rw [spec_decimal16.f, if_pos (by omega), show (48 + ((u : Int)) % 256) % 256 = ((48 + u : Nat) : Int) by omega]
      unfold decd
      rw [Lib.decDigits_one c]
      rfl
    · obtain ⟨k, rfl⟩ : ∃ j, k = j + 1 := by
        cases k with
        | zero => exact absurd (by simpa using h) c
        | succ k => exact ⟨k, rfl⟩
      have ih := dec16_f k (u / 10) (by omega) (by rw [Nat.pow_succ] at h; omega)
      have hw : IntKind.u64.wrap (Int.tdiv (u : Int) 10) = ((u / 10 : Nat) : Int) := by
        rw [show Int.tdiv (u : Int) 10 = ((u / 10 : Nat) : Int) from rfl]
        exact IntWalk.u64_in _ ⟨by omega, by omega⟩
      have hs := decd_le (u / 10) (by omega)
      rw [spec_decimal16.f, if_neg (by omega), hw, ih, Option.bind_some, Option.bind_some, show Int.tmod (u : Int) 10 = ((u % 10 : Nat) : Int) from rfl, show (48 + (((u % 10 : Nat) : Int)) % 256) % 256 = ((48 + u % 10 : Nat) : Int) by omega]
      have e2 : strOfNums ([((48 + u % 10 : Nat) : Int)] : List Int) = (⟨#[UInt8.ofNat (48 + u % 10)]⟩ : ByteArray) := rfl
      have e3 : (⟨#[UInt8.ofNat (48 + u % 10)]⟩ : ByteArray).size = 1 := rfl
      rw [e2, if_pos (by omega)]
      congr 1
      apply ba_ext
      rw [append_list]
      unfold decd
      rw [show Lib.decDigits u = Lib.decDigits (u / 10) ++ [UInt8.ofNat (48 + u % 10)] by rw [Lib.decDigits, dif_neg c]]
theorem emp_list : (⟨#[]⟩ : ByteArray).toList = ([] : List UInt8) := by first | rfl | decide | simp
theorem textOf_f (a b c : Nat) (ha : a < 10 ^ 15) (hb : b < 10 ^ 15) (hc : c < 10 ^ 15) : spec_TextOf.f 15 (a : Int) (b : Int) (c : Int) ⟨#[]⟩ ⟨#[]⟩ = some (verT a b c) := by
  have h1 := decd_le a ha
  have h2 := decd_le b hb
  have h3 := decd_le c hc
  have e1 : (⟨#[46]⟩ : ByteArray).size = 1 := rfl
  unfold spec_TextOf.f
  rw [dec16_f 14 a ha ha, Option.bind_some, if_pos (by omega), dec16_f 14 b hb hb, Option.bind_some, if_pos (by rw [ByteArray.size_append]; omega), if_pos (by simp only [ByteArray.size_append]; omega), dec16_f 14 c hc hc, Option.bind_some, if_pos (by simp only [ByteArray.size_append]; omega), if_pos emp_list, spec_TextOf.j0, if_pos emp_list]
  rfl
end Go.Proofs.YtlhijjfbcgconaaDoor.P

/- The next version. -/
set_option linter.unusedVariables false
set_option linter.unusedSimpArgs false
namespace Go.Proofs.YtlhijjfbcgconaaDoor.P
open Go.RowKit Go.Proofs.YtlhijjfbcgconaaDoorW.PrintWords Go.Proofs.YtlhijjfbcgconaaDoorW.PrintLast Go.Proofs.YtlhijjfbcgconaaDoorW.PrintMore

set_option maxHeartbeats 1600000 in
set_option maxRecDepth 100000 in
theorem vprefix_call (n1 n2 n3 : Int) (pre mt og : ByteArray) (h0 : 0 < og.size) (h1 : bt og 0 ≠ 118) (w : World) :
    Calls Tryd.prog 62 #[.agg #[.int .u64 n1, .int .u64 n2, .int .u64 n3, .string pre, .string mt, .string og]] w fun e w' => e = .returned (.string ⟨#[]⟩) ∧ Below w.heap.size w w' := by
  have HB := Lib.hid (fun o => (Below.refl w.heap.size w).alloc (Nat.le_refl _) o)
  have e0 : og.toList.isEmpty = false := full_t h0
  have e1 : ((og.extract 0 1).toList == ([118] : List UInt8)) = false := by
    cases hq : ((og.extract 0 1).toList == ([118] : List UInt8)) with
    | false => rfl
    | true =>
      have h2 : (og.extract 0 1).toList = ([118] : List UInt8) := eq_of_beq hq
      rw [ByteArray.toList_eq] at h2
      have h3 := bt_ext og 0 1 0 (by omega)
      have h4 := bt_some (s := og.extract 0 1) (j := 0) (v := 118) (by rw [h2]; rfl)
      rw [h4] at h3
      exact absurd h3.symm h1
  go_enter Tryd.func62, Tryd.ntmps62
  go_wp2
  go_ret
  exact ⟨rfl, HB.out _⟩
set_option maxHeartbeats 1600000 in
set_option maxRecDepth 100000 in
theorem incPatch_pre (n1 n2 n3 : Int) (pre mt og T : ByteArray) (w : World) (hp : pre.toList.isEmpty = false) (h0 : 0 < og.size) (h1 : bt og 0 ≠ 118) (hT : TabsW w) (hTs : T.size ≤ 1000)
    (hst : ∀ W, TabsW W → Calls Tryd.prog 40 #[.agg #[.int .u64 n1, .int .u64 n2, .int .u64 n3, .string ⟨#[]⟩, .string ⟨#[]⟩, .string og]] W fun e w' => e = .returned (.string T) ∧ Below W.heap.size W w') :
    Calls Tryd.prog 44 #[.agg #[.int .u64 n1, .int .u64 n2, .int .u64 n3, .string pre, .string mt, .string og]] w fun e w' => ∃ og', e = .returned (.agg #[.int .u64 n1, .int .u64 n2, .int .u64 n3, .string ⟨#[]⟩, .string ⟨#[]⟩, .string og']) ∧ Below w.heap.size w w' := by
  have HV := Lib.hid (fun W : World => vprefix_call n1 n2 n3 pre mt og h0 h1 W)
  have HST := Lib.hid hst
  have t1 : (9223372036854775807 < T.size) = False := eq_false (by omega)
  have hs2 : (((w.alloc (.cells #[.int .u64 n1, .int .u64 n2, .int .u64 n3, .string pre, .string mt, .string og] 69)).alloc (.cells #[.int .u64 0, .int .u64 0, .int .u64 0, .string ⟨#[]⟩, .string ⟨#[]⟩, .string ⟨#[]⟩] 69)).heap.size) = w.heap.size + 1 + 1 := by simp
  have hs1 : ((w.alloc (.cells #[.int .u64 n1, .int .u64 n2, .int .u64 n3, .string pre, .string mt, .string og] 69)).heap.size) = w.heap.size + 1 := by simp
  have b1 := alloc_below w (.cells #[.int .u64 n1, .int .u64 n2, .int .u64 n3, .string pre, .string mt, .string og] 69)
  have b2 := alloc_below (w.alloc (.cells #[.int .u64 n1, .int .u64 n2, .int .u64 n3, .string pre, .string mt, .string og] 69)) (.cells #[.int .u64 0, .int .u64 0, .int .u64 0, .string ⟨#[]⟩, .string ⟨#[]⟩, .string ⟨#[]⟩] 69)
  have b3 := alloc_below ((w.alloc (.cells #[.int .u64 n1, .int .u64 n2, .int .u64 n3, .string pre, .string mt, .string og] 69)).alloc (.cells #[.int .u64 0, .int .u64 0, .int .u64 0, .string ⟨#[]⟩, .string ⟨#[]⟩, .string ⟨#[]⟩] 69)) (.cells #[.int .u64 n1, .int .u64 n2, .int .u64 n3, .string ⟨#[]⟩, .string ⟨#[]⟩, .string og] 69)
  have k3 := heap_alloc_new ((w.alloc (.cells #[.int .u64 n1, .int .u64 n2, .int .u64 n3, .string pre, .string mt, .string og] 69)).alloc (.cells #[.int .u64 0, .int .u64 0, .int .u64 0, .string ⟨#[]⟩, .string ⟨#[]⟩, .string ⟨#[]⟩] 69)) (.cells #[.int .u64 n1, .int .u64 n2, .int .u64 n3, .string ⟨#[]⟩, .string ⟨#[]⟩, .string og] 69)
  have k2 := blk_below (heap_alloc_new (w.alloc (.cells #[.int .u64 n1, .int .u64 n2, .int .u64 n3, .string pre, .string mt, .string og] 69)) (.cells #[.int .u64 0, .int .u64 0, .int .u64 0, .string ⟨#[]⟩, .string ⟨#[]⟩, .string ⟨#[]⟩] 69)) b3
  have k1 := blk_below (blk_below (heap_alloc_new w (.cells #[.int .u64 n1, .int .u64 n2, .int .u64 n3, .string pre, .string mt, .string og] 69)) b2) b3
  rw [hs2] at k3
  rw [hs1] at k2
  have K1 := Lib.hid k1
  have K2 := Lib.hid k2
  have K3 := Lib.hid k3
  have hb0 := b1.trans ((b2.trans (b3.mono b2.size)).mono b1.size)
  have HB0 := Lib.hid hb0
  have HT0 := Lib.hid (hT.below hb0)
  clear hb0 b1 b2 b3 k1 k2 k3 hs1 hs2 hst h0 h1 hT hTs
  go_enter Tryd.func44, Tryd.ntmps44
  go_upto_region 10 with fail
  generalize ((w.alloc (.cells #[.int .u64 n1, .int .u64 n2, .int .u64 n3, .string pre, .string mt, .string og] 69)).alloc (.cells #[.int .u64 0, .int .u64 0, .int .u64 0, .string ⟨#[]⟩, .string ⟨#[]⟩, .string ⟨#[]⟩] 69)).alloc (.cells #[.int .u64 n1, .int .u64 n2, .int .u64 n3, .string ⟨#[]⟩, .string ⟨#[]⟩, .string og] 69) = v0 at *
  refine start_ (n := 8) (ds := [7]) (S := fun w' => Below v0.heap.size v0 w') #[false, false, false, false, false, false, false, false] (by kernel_rfl) rfl rfl ((Below.refl _ _).drew) (fun hHeld => ?_)
  refine take_ (i := 0) (N := some 20) (v := ?_) (a' := ?_) #[true, false, false, false, false, false, false, false] rfl rfl (by kernel_rfl) (fun _ _ _ h => h) (Or.inl ⟨by rfl, ?_⟩) hHeld ?_ ?_
  rotate_left
  · intro w' hS
    have hS := blk_below K1.out hS
    have y0 := blk_cell hS 0
    have y1 := blk_cell hS 1
    have y2 := blk_cell hS 2
    have y3 := blk_cell hS 3
    have y4 := blk_cell hS 4
    have y5 := blk_cell hS 5
    simp only [List.getElem?_toArray, List.getElem?_cons_zero, List.getElem?_cons_succ] at y0 y1 y2 y3 y4 y5
    clear hS
    go_simp
    with_reducible rfl
  rotate_left; (go_frame; rfl)
  refine take_ (i := 3) (N := some 23) (v := ?_) (a' := ?_) #[true, false, false, true, false, false, false, false] rfl rfl (by kernel_rfl) (fun _ _ _ h => h) (Or.inl ⟨by rfl, ?_⟩) hHeld ?_ ?_
  rotate_left
  · intro w' hS
    have hS := blk_below K3.out hS
    have y0 := blk_cell hS 0
    have y1 := blk_cell hS 1
    have y2 := blk_cell hS 2
    have y3 := blk_cell hS 3
    have y4 := blk_cell hS 4
    have y5 := blk_cell hS 5
    simp only [List.getElem?_toArray, List.getElem?_cons_zero, List.getElem?_cons_succ] at y0 y1 y2 y3 y4 y5
    clear hS
    go_simp
    with_reducible rfl
  rotate_left; (go_frame; rfl)
  refine one_ (i := 1) (N := some 21) #[true, true, false, true, false, false, false, false] rfl rfl (by kernel_rfl) (by decide) (fun K hK => ?_)
  refine goes_ Tryd.func62 (by kernel_rfl) rfl #[.agg #[.int .u64 n1, .int .u64 n2, .int .u64 n3, .string pre, .string mt, .string og]] (by rfl) rfl rfl (by (try simp only [List.map_toArray, List.map_cons, List.map_nil]); first | done | rfl) ?_
  refine (HV.out _).mono ?_
  rintro e w1 ⟨rfl, hb⟩
  have hN := hHeld.trans (hb.mono hHeld.size)
  clear hHeld hb
  refine ⟨_, rfl, ?_⟩
  refine hK.out _ _ hN (fun hHeld => ?_)
  clear hN
  clear hK K
  refine norm_ (a' := ?_) ?_ ?_
  rotate_left
  · show Act.put _ (some 21) _ = _
    go_frame
    rfl
  refine pure_ (i := 2) (N := some 22) (v := ?_) (a' := ?_) #[true, true, true, true, false, false, false, false] rfl rfl (by kernel_rfl) (fun _ _ _ h => h) (Or.inl ⟨by rfl, ?_⟩) ?_ ?_
  rotate_left; (intro w'; go_simp; with_reducible rfl)
  rotate_left; (go_frame; rfl)
  refine one_ (i := 4) (N := some 24) #[true, true, true, true, true, false, false, false] rfl rfl (by kernel_rfl) (by decide) (fun K hK => ?_)
  refine goes_ Tryd.func40 (by kernel_rfl) rfl #[.agg #[.int .u64 n1, .int .u64 n2, .int .u64 n3, .string ⟨#[]⟩, .string ⟨#[]⟩, .string og]] (by rfl) rfl rfl (by (try simp only [List.map_toArray, List.map_cons, List.map_nil]); first | done | rfl) ?_
  refine (HST.out _ (HT0.out.below hHeld)).mono ?_
  rintro e w2 ⟨rfl, hb⟩
  have hN := hHeld.trans (hb.mono hHeld.size)
  clear hHeld hb
  refine ⟨_, rfl, ?_⟩
  refine hK.out _ _ hN (fun hHeld => ?_)
  clear hN
  clear hK K
  refine norm_ (a' := ?_) ?_ ?_
  rotate_left
  · show Act.put _ (some 24) _ = _
    go_frame
    rfl
  refine pure_ (i := 5) (N := some 25) (v := ?_) (a' := ?_) #[true, true, true, true, true, true, false, false] rfl rfl (by kernel_rfl) (fun _ _ _ h => h) (Or.inl ⟨by rfl, ?_⟩) ?_ ?_
  rotate_left; (intro w'; go_simp; with_reducible rfl)
  rotate_left; (go_frame; rfl)
  refine pure_ (i := 6) (N := some 26) (v := ?_) (a' := ?_) #[true, true, true, true, true, true, true, false] rfl rfl (by kernel_rfl) (fun _ _ _ h => h) (Or.inl ⟨by rfl, ?_⟩) ?_ ?_
  rotate_left; (intro w'; go_simp; with_reducible rfl)
  rotate_left; (go_frame; rfl)
  have k3 := blk_below K3.out hHeld
  have z5 := blk_cell k3 5
  simp only [List.getElem?_toArray, List.getElem?_cons_zero, List.getElem?_cons_succ] at z5
  have f5 := blk_frozen k3 5
  refine last_ (i := 7) (N := none) #[true, true, true, true, true, true, true, true] rfl rfl (by kernel_rfl) (by decide) (fun K hK => ?_)
  refine skip_ (w1 := ?_) (by rfl) rfl ?_ ?_
  rotate_left
  · go_simp
    rfl
  refine hK.out _ _ ?_
  clear hK K
  refine done_ (by kernel_rfl) ?_
  generalize ((⟨#[]⟩ : ByteArray) ++ (⟨#[]⟩ : ByteArray) ++ T) = og2 at *
  have HB3 := Lib.hid ((HB0.out.trans (hHeld.mono HB0.out.size)).setCell (p := ⟨(w.heap.size + 1 + 1), 5, none⟩) (by show w.heap.size ≤ (w.heap.size + 1 + 1); omega) (.string og2))
  have hk3 : (w2.setCell ⟨(w.heap.size + 1 + 1), 5, none⟩ (.string og2)).heap[(w.heap.size + 1 + 1)]? = some (.cells #[.int .u64 n1, .int .u64 n2, .int .u64 n3, .string ⟨#[]⟩, .string ⟨#[]⟩, .string og2] 69 (0, 0)) := blk_set k3 5 (.string og2)
  have hk2 : (w2.setCell ⟨(w.heap.size + 1 + 1), 5, none⟩ (.string og2)).heap[(w.heap.size + 1)]? = some (.cells #[.int .u64 0, .int .u64 0, .int .u64 0, .string ⟨#[]⟩, .string ⟨#[]⟩, .string ⟨#[]⟩] 69 (0, 0)) := blk_far (blk_below K2.out hHeld) (p := ⟨(w.heap.size + 1 + 1), 5, none⟩) (by show (w.heap.size + 1) ≠ (w.heap.size + 1 + 1); omega) (.string og2)
  clear hHeld k3 z5 f5 K1 K2 K3 HB0 HT0 HV HST
  generalize w2.setCell ⟨(w.heap.size + 1 + 1), 5, none⟩ (.string og2) = w3 at *
  have y0 := blk_cell hk3 0
  have y1 := blk_cell hk3 1
  have y2 := blk_cell hk3 2
  have y3 := blk_cell hk3 3
  have y4 := blk_cell hk3 4
  have y5 := blk_cell hk3 5
  have z0 := blk_cell hk2 0
  have z1 := blk_cell hk2 1
  have z2 := blk_cell hk2 2
  have z3 := blk_cell hk2 3
  have z4 := blk_cell hk2 4
  have z5 := blk_cell hk2 5
  have f0 := blk_frozen hk2 0
  have f1 := blk_frozen hk2 1
  have f2 := blk_frozen hk2 2
  have f3 := blk_frozen hk2 3
  have f4 := blk_frozen hk2 4
  have f5 := blk_frozen hk2 5
  simp only [List.getElem?_toArray, List.getElem?_cons_zero, List.getElem?_cons_succ] at y0 y1 y2 y3 y4 y5 z0 z1 z2 z3 z4 z5
  have HK2 := Lib.hid hk2
  clear hk3 hk2
  go_wp2
  (try simp only [Exit.inBlock, Exit.then])
  have HZ := Lib.hid (blk_set (blk_set (blk_set (blk_set (blk_set (blk_set HK2.out 0 (.int .u64 n1)) 1 (.int .u64 n2)) 2 (.int .u64 n3)) 3 (.string ⟨#[]⟩)) 4 (.string ⟨#[]⟩)) 5 (.string og2))
  refine bodyPost_ret (results_cell_row rfl _ _ (w.heap.size + 1) 69 #[.int .u64 n1, .int .u64 n2, .int .u64 n3, .string ⟨#[]⟩, .string ⟨#[]⟩, .string og2] (0, 0) _ rfl HZ.out Tryd.underlying69 rfl (by kernel_rfl)) rfl ?_
  exact ⟨_, rfl, (((((HB3.out.setCell (p := ⟨(w.heap.size + 1), 0, none⟩) (by show w.heap.size ≤ (w.heap.size + 1); omega) _).setCell (p := ⟨(w.heap.size + 1), 1, none⟩) (by show w.heap.size ≤ (w.heap.size + 1); omega) _).setCell (p := ⟨(w.heap.size + 1), 2, none⟩) (by show w.heap.size ≤ (w.heap.size + 1); omega) _).setCell (p := ⟨(w.heap.size + 1), 3, none⟩) (by show w.heap.size ≤ (w.heap.size + 1); omega) _).setCell (p := ⟨(w.heap.size + 1), 4, none⟩) (by show w.heap.size ≤ (w.heap.size + 1); omega) _).setCell (p := ⟨(w.heap.size + 1), 5, none⟩) (by show w.heap.size ≤ (w.heap.size + 1); omega) _⟩
set_option maxHeartbeats 1600000 in
set_option maxRecDepth 100000 in
theorem incPatch_rel (n1 n2 n3 : Int) (pre mt og T : ByteArray) (w : World) (hp : pre.toList.isEmpty = true) (hn0 : 0 ≤ n3) (hn1 : n3 < 1000000000) (h0 : 0 < og.size) (h1 : bt og 0 ≠ 118) (hT : TabsW w) (hTs : T.size ≤ 1000)
    (hst : ∀ W, TabsW W → Calls Tryd.prog 40 #[.agg #[.int .u64 n1, .int .u64 n2, .int .u64 (n3 + 1), .string ⟨#[]⟩, .string ⟨#[]⟩, .string og]] W fun e w' => e = .returned (.string T) ∧ Below W.heap.size W w') :
    Calls Tryd.prog 44 #[.agg #[.int .u64 n1, .int .u64 n2, .int .u64 n3, .string pre, .string mt, .string og]] w fun e w' => ∃ og', e = .returned (.agg #[.int .u64 n1, .int .u64 n2, .int .u64 (n3 + 1), .string ⟨#[]⟩, .string ⟨#[]⟩, .string og']) ∧ Below w.heap.size w w' := by
  have hu : IntKind.u64.wrap (n3 + 1) = n3 + 1 := IntWalk.u64_in _ ⟨by omega, by omega⟩
  have hd : decide (n3 = 18446744073709551615) = false := decide_eq_false (by omega)
  have hd2 : (n3 == 18446744073709551615) = false := by simp; omega
  clear hn0 hn1
  have HV := Lib.hid (fun W : World => vprefix_call n1 n2 n3 pre mt og h0 h1 W)
  have HST := Lib.hid hst
  have t1 : (9223372036854775807 < T.size) = False := eq_false (by omega)
  have hs2 : (((w.alloc (.cells #[.int .u64 n1, .int .u64 n2, .int .u64 n3, .string pre, .string mt, .string og] 69)).alloc (.cells #[.int .u64 0, .int .u64 0, .int .u64 0, .string ⟨#[]⟩, .string ⟨#[]⟩, .string ⟨#[]⟩] 69)).heap.size) = w.heap.size + 1 + 1 := by simp
  have hs1 : ((w.alloc (.cells #[.int .u64 n1, .int .u64 n2, .int .u64 n3, .string pre, .string mt, .string og] 69)).heap.size) = w.heap.size + 1 := by simp
  have b1 := alloc_below w (.cells #[.int .u64 n1, .int .u64 n2, .int .u64 n3, .string pre, .string mt, .string og] 69)
  have b2 := alloc_below (w.alloc (.cells #[.int .u64 n1, .int .u64 n2, .int .u64 n3, .string pre, .string mt, .string og] 69)) (.cells #[.int .u64 0, .int .u64 0, .int .u64 0, .string ⟨#[]⟩, .string ⟨#[]⟩, .string ⟨#[]⟩] 69)
  have b3 := alloc_below ((w.alloc (.cells #[.int .u64 n1, .int .u64 n2, .int .u64 n3, .string pre, .string mt, .string og] 69)).alloc (.cells #[.int .u64 0, .int .u64 0, .int .u64 0, .string ⟨#[]⟩, .string ⟨#[]⟩, .string ⟨#[]⟩] 69)) (.cells #[.int .u64 n1, .int .u64 n2, .int .u64 (n3 + 1), .string ⟨#[]⟩, .string ⟨#[]⟩, .string og] 69)
  have k3 := heap_alloc_new ((w.alloc (.cells #[.int .u64 n1, .int .u64 n2, .int .u64 n3, .string pre, .string mt, .string og] 69)).alloc (.cells #[.int .u64 0, .int .u64 0, .int .u64 0, .string ⟨#[]⟩, .string ⟨#[]⟩, .string ⟨#[]⟩] 69)) (.cells #[.int .u64 n1, .int .u64 n2, .int .u64 (n3 + 1), .string ⟨#[]⟩, .string ⟨#[]⟩, .string og] 69)
  have k2 := blk_below (heap_alloc_new (w.alloc (.cells #[.int .u64 n1, .int .u64 n2, .int .u64 n3, .string pre, .string mt, .string og] 69)) (.cells #[.int .u64 0, .int .u64 0, .int .u64 0, .string ⟨#[]⟩, .string ⟨#[]⟩, .string ⟨#[]⟩] 69)) b3
  have k1 := blk_below (blk_below (heap_alloc_new w (.cells #[.int .u64 n1, .int .u64 n2, .int .u64 n3, .string pre, .string mt, .string og] 69)) b2) b3
  rw [hs2] at k3
  rw [hs1] at k2
  have K1 := Lib.hid k1
  have K2 := Lib.hid k2
  have K3 := Lib.hid k3
  have hb0 := b1.trans ((b2.trans (b3.mono b2.size)).mono b1.size)
  have HB0 := Lib.hid hb0
  have HT0 := Lib.hid (hT.below hb0)
  clear hb0 b1 b2 b3 k1 k2 k3 hs1 hs2 hst h0 h1 hT hTs
  go_enter Tryd.func44, Tryd.ntmps44
  go_upto_region 10 with fail
  generalize ((w.alloc (.cells #[.int .u64 n1, .int .u64 n2, .int .u64 n3, .string pre, .string mt, .string og] 69)).alloc (.cells #[.int .u64 0, .int .u64 0, .int .u64 0, .string ⟨#[]⟩, .string ⟨#[]⟩, .string ⟨#[]⟩] 69)).alloc (.cells #[.int .u64 n1, .int .u64 n2, .int .u64 (n3 + 1), .string ⟨#[]⟩, .string ⟨#[]⟩, .string og] 69) = v0 at *
  refine start_ (n := 8) (ds := [7]) (S := fun w' => Below v0.heap.size v0 w') #[false, false, false, false, false, false, false, false] (by kernel_rfl) rfl rfl ((Below.refl _ _).drew) (fun hHeld => ?_)
  refine take_ (i := 0) (N := some 20) (v := ?_) (a' := ?_) #[true, false, false, false, false, false, false, false] rfl rfl (by kernel_rfl) (fun _ _ _ h => h) (Or.inl ⟨by rfl, ?_⟩) hHeld ?_ ?_
  rotate_left
  · intro w' hS
    have hS := blk_below K1.out hS
    have y0 := blk_cell hS 0
    have y1 := blk_cell hS 1
    have y2 := blk_cell hS 2
    have y3 := blk_cell hS 3
    have y4 := blk_cell hS 4
    have y5 := blk_cell hS 5
    simp only [List.getElem?_toArray, List.getElem?_cons_zero, List.getElem?_cons_succ] at y0 y1 y2 y3 y4 y5
    clear hS
    go_simp
    with_reducible rfl
  rotate_left; (go_frame; rfl)
  refine take_ (i := 3) (N := some 23) (v := ?_) (a' := ?_) #[true, false, false, true, false, false, false, false] rfl rfl (by kernel_rfl) (fun _ _ _ h => h) (Or.inl ⟨by rfl, ?_⟩) hHeld ?_ ?_
  rotate_left
  · intro w' hS
    have hS := blk_below K3.out hS
    have y0 := blk_cell hS 0
    have y1 := blk_cell hS 1
    have y2 := blk_cell hS 2
    have y3 := blk_cell hS 3
    have y4 := blk_cell hS 4
    have y5 := blk_cell hS 5
    simp only [List.getElem?_toArray, List.getElem?_cons_zero, List.getElem?_cons_succ] at y0 y1 y2 y3 y4 y5
    clear hS
    go_simp
    with_reducible rfl
  rotate_left; (go_frame; rfl)
  refine one_ (i := 1) (N := some 21) #[true, true, false, true, false, false, false, false] rfl rfl (by kernel_rfl) (by decide) (fun K hK => ?_)
  refine goes_ Tryd.func62 (by kernel_rfl) rfl #[.agg #[.int .u64 n1, .int .u64 n2, .int .u64 n3, .string pre, .string mt, .string og]] (by rfl) rfl rfl (by (try simp only [List.map_toArray, List.map_cons, List.map_nil]); first | done | rfl) ?_
  refine (HV.out _).mono ?_
  rintro e w1 ⟨rfl, hb⟩
  have hN := hHeld.trans (hb.mono hHeld.size)
  clear hHeld hb
  refine ⟨_, rfl, ?_⟩
  refine hK.out _ _ hN (fun hHeld => ?_)
  clear hN
  clear hK K
  refine norm_ (a' := ?_) ?_ ?_
  rotate_left
  · show Act.put _ (some 21) _ = _
    go_frame
    rfl
  refine pure_ (i := 2) (N := some 22) (v := ?_) (a' := ?_) #[true, true, true, true, false, false, false, false] rfl rfl (by kernel_rfl) (fun _ _ _ h => h) (Or.inl ⟨by rfl, ?_⟩) ?_ ?_
  rotate_left; (intro w'; go_simp; with_reducible rfl)
  rotate_left; (go_frame; rfl)
  refine one_ (i := 4) (N := some 24) #[true, true, true, true, true, false, false, false] rfl rfl (by kernel_rfl) (by decide) (fun K hK => ?_)
  refine goes_ Tryd.func40 (by kernel_rfl) rfl #[.agg #[.int .u64 n1, .int .u64 n2, .int .u64 (n3 + 1), .string ⟨#[]⟩, .string ⟨#[]⟩, .string og]] (by rfl) rfl rfl (by (try simp only [List.map_toArray, List.map_cons, List.map_nil]); first | done | rfl) ?_
  refine (HST.out _ (HT0.out.below hHeld)).mono ?_
  rintro e w2 ⟨rfl, hb⟩
  have hN := hHeld.trans (hb.mono hHeld.size)
  clear hHeld hb
  refine ⟨_, rfl, ?_⟩
  refine hK.out _ _ hN (fun hHeld => ?_)
  clear hN
  clear hK K
  refine norm_ (a' := ?_) ?_ ?_
  rotate_left
  · show Act.put _ (some 24) _ = _
    go_frame
    rfl
  refine pure_ (i := 5) (N := some 25) (v := ?_) (a' := ?_) #[true, true, true, true, true, true, false, false] rfl rfl (by kernel_rfl) (fun _ _ _ h => h) (Or.inl ⟨by rfl, ?_⟩) ?_ ?_
  rotate_left; (intro w'; go_simp; with_reducible rfl)
  rotate_left; (go_frame; rfl)
  refine pure_ (i := 6) (N := some 26) (v := ?_) (a' := ?_) #[true, true, true, true, true, true, true, false] rfl rfl (by kernel_rfl) (fun _ _ _ h => h) (Or.inl ⟨by rfl, ?_⟩) ?_ ?_
  rotate_left; (intro w'; go_simp; with_reducible rfl)
  rotate_left; (go_frame; rfl)
  have k3 := blk_below K3.out hHeld
  have z5 := blk_cell k3 5
  simp only [List.getElem?_toArray, List.getElem?_cons_zero, List.getElem?_cons_succ] at z5
  have f5 := blk_frozen k3 5
  refine last_ (i := 7) (N := none) #[true, true, true, true, true, true, true, true] rfl rfl (by kernel_rfl) (by decide) (fun K hK => ?_)
  refine skip_ (w1 := ?_) (by rfl) rfl ?_ ?_
  rotate_left
  · go_simp
    rfl
  refine hK.out _ _ ?_
  clear hK K
  refine done_ (by kernel_rfl) ?_
  generalize ((⟨#[]⟩ : ByteArray) ++ (⟨#[]⟩ : ByteArray) ++ T) = og2 at *
  have HB3 := Lib.hid ((HB0.out.trans (hHeld.mono HB0.out.size)).setCell (p := ⟨(w.heap.size + 1 + 1), 5, none⟩) (by show w.heap.size ≤ (w.heap.size + 1 + 1); omega) (.string og2))
  have hk3 : (w2.setCell ⟨(w.heap.size + 1 + 1), 5, none⟩ (.string og2)).heap[(w.heap.size + 1 + 1)]? = some (.cells #[.int .u64 n1, .int .u64 n2, .int .u64 (n3 + 1), .string ⟨#[]⟩, .string ⟨#[]⟩, .string og2] 69 (0, 0)) := blk_set k3 5 (.string og2)
  have hk2 : (w2.setCell ⟨(w.heap.size + 1 + 1), 5, none⟩ (.string og2)).heap[(w.heap.size + 1)]? = some (.cells #[.int .u64 0, .int .u64 0, .int .u64 0, .string ⟨#[]⟩, .string ⟨#[]⟩, .string ⟨#[]⟩] 69 (0, 0)) := blk_far (blk_below K2.out hHeld) (p := ⟨(w.heap.size + 1 + 1), 5, none⟩) (by show (w.heap.size + 1) ≠ (w.heap.size + 1 + 1); omega) (.string og2)
  clear hHeld k3 z5 f5 K1 K2 K3 HB0 HT0 HV HST
  generalize w2.setCell ⟨(w.heap.size + 1 + 1), 5, none⟩ (.string og2) = w3 at *
  have y0 := blk_cell hk3 0
  have y1 := blk_cell hk3 1
  have y2 := blk_cell hk3 2
  have y3 := blk_cell hk3 3
  have y4 := blk_cell hk3 4
  have y5 := blk_cell hk3 5
  have z0 := blk_cell hk2 0
  have z1 := blk_cell hk2 1
  have z2 := blk_cell hk2 2
  have z3 := blk_cell hk2 3
  have z4 := blk_cell hk2 4
  have z5 := blk_cell hk2 5
  have f0 := blk_frozen hk2 0
  have f1 := blk_frozen hk2 1
  have f2 := blk_frozen hk2 2
  have f3 := blk_frozen hk2 3
  have f4 := blk_frozen hk2 4
  have f5 := blk_frozen hk2 5
  simp only [List.getElem?_toArray, List.getElem?_cons_zero, List.getElem?_cons_succ] at y0 y1 y2 y3 y4 y5 z0 z1 z2 z3 z4 z5
  have HK2 := Lib.hid hk2
  clear hk3 hk2
  go_wp2
  (try simp only [Exit.inBlock, Exit.then])
  have HZ := Lib.hid (blk_set (blk_set (blk_set (blk_set (blk_set (blk_set HK2.out 0 (.int .u64 n1)) 1 (.int .u64 n2)) 2 (.int .u64 (n3 + 1))) 3 (.string ⟨#[]⟩)) 4 (.string ⟨#[]⟩)) 5 (.string og2))
  refine bodyPost_ret (results_cell_row rfl _ _ (w.heap.size + 1) 69 #[.int .u64 n1, .int .u64 n2, .int .u64 (n3 + 1), .string ⟨#[]⟩, .string ⟨#[]⟩, .string og2] (0, 0) _ rfl HZ.out Tryd.underlying69 rfl (by kernel_rfl)) rfl ?_
  exact ⟨_, rfl, (((((HB3.out.setCell (p := ⟨(w.heap.size + 1), 0, none⟩) (by show w.heap.size ≤ (w.heap.size + 1); omega) _).setCell (p := ⟨(w.heap.size + 1), 1, none⟩) (by show w.heap.size ≤ (w.heap.size + 1); omega) _).setCell (p := ⟨(w.heap.size + 1), 2, none⟩) (by show w.heap.size ≤ (w.heap.size + 1); omega) _).setCell (p := ⟨(w.heap.size + 1), 3, none⟩) (by show w.heap.size ≤ (w.heap.size + 1); omega) _).setCell (p := ⟨(w.heap.size + 1), 4, none⟩) (by show w.heap.size ≤ (w.heap.size + 1); omega) _).setCell (p := ⟨(w.heap.size + 1), 5, none⟩) (by show w.heap.size ≤ (w.heap.size + 1); omega) _⟩
set_option maxHeartbeats 1600000 in
set_option maxRecDepth 100000 in
theorem incMinor_rel (n1 n2 n3 : Int) (pre mt og T : ByteArray) (w : World) (hn0 : 0 ≤ n2) (hn1 : n2 < 1000000000) (h0 : 0 < og.size) (h1 : bt og 0 ≠ 118) (hT : TabsW w) (hTs : T.size ≤ 1000)
    (hst : ∀ W, TabsW W → Calls Tryd.prog 40 #[.agg #[.int .u64 n1, .int .u64 (n2 + 1), .int .u64 0, .string ⟨#[]⟩, .string ⟨#[]⟩, .string og]] W fun e w' => e = .returned (.string T) ∧ Below W.heap.size W w') :
    Calls Tryd.prog 45 #[.agg #[.int .u64 n1, .int .u64 n2, .int .u64 n3, .string pre, .string mt, .string og]] w fun e w' => ∃ og', e = .returned (.agg #[.int .u64 n1, .int .u64 (n2 + 1), .int .u64 0, .string ⟨#[]⟩, .string ⟨#[]⟩, .string og']) ∧ Below w.heap.size w w' := by
  have hu : IntKind.u64.wrap (n2 + 1) = n2 + 1 := IntWalk.u64_in _ ⟨by omega, by omega⟩
  have hd : decide (n2 = 18446744073709551615) = false := decide_eq_false (by omega)
  have hd2 : (n2 == 18446744073709551615) = false := by simp; omega
  clear hn0 hn1
  have HV := Lib.hid (fun W : World => vprefix_call n1 n2 n3 pre mt og h0 h1 W)
  have HST := Lib.hid hst
  have t1 : (9223372036854775807 < T.size) = False := eq_false (by omega)
  have hs2 : (((w.alloc (.cells #[.int .u64 n1, .int .u64 n2, .int .u64 n3, .string pre, .string mt, .string og] 69)).alloc (.cells #[.int .u64 0, .int .u64 0, .int .u64 0, .string ⟨#[]⟩, .string ⟨#[]⟩, .string ⟨#[]⟩] 69)).heap.size) = w.heap.size + 1 + 1 := by simp
  have hs1 : ((w.alloc (.cells #[.int .u64 n1, .int .u64 n2, .int .u64 n3, .string pre, .string mt, .string og] 69)).heap.size) = w.heap.size + 1 := by simp
  have b1 := alloc_below w (.cells #[.int .u64 n1, .int .u64 n2, .int .u64 n3, .string pre, .string mt, .string og] 69)
  have b2 := alloc_below (w.alloc (.cells #[.int .u64 n1, .int .u64 n2, .int .u64 n3, .string pre, .string mt, .string og] 69)) (.cells #[.int .u64 0, .int .u64 0, .int .u64 0, .string ⟨#[]⟩, .string ⟨#[]⟩, .string ⟨#[]⟩] 69)
  have b3 := alloc_below ((w.alloc (.cells #[.int .u64 n1, .int .u64 n2, .int .u64 n3, .string pre, .string mt, .string og] 69)).alloc (.cells #[.int .u64 0, .int .u64 0, .int .u64 0, .string ⟨#[]⟩, .string ⟨#[]⟩, .string ⟨#[]⟩] 69)) (.cells #[.int .u64 n1, .int .u64 (n2 + 1), .int .u64 0, .string ⟨#[]⟩, .string ⟨#[]⟩, .string og] 69)
  have k3 := heap_alloc_new ((w.alloc (.cells #[.int .u64 n1, .int .u64 n2, .int .u64 n3, .string pre, .string mt, .string og] 69)).alloc (.cells #[.int .u64 0, .int .u64 0, .int .u64 0, .string ⟨#[]⟩, .string ⟨#[]⟩, .string ⟨#[]⟩] 69)) (.cells #[.int .u64 n1, .int .u64 (n2 + 1), .int .u64 0, .string ⟨#[]⟩, .string ⟨#[]⟩, .string og] 69)
  have k2 := blk_below (heap_alloc_new (w.alloc (.cells #[.int .u64 n1, .int .u64 n2, .int .u64 n3, .string pre, .string mt, .string og] 69)) (.cells #[.int .u64 0, .int .u64 0, .int .u64 0, .string ⟨#[]⟩, .string ⟨#[]⟩, .string ⟨#[]⟩] 69)) b3
  have k1 := blk_below (blk_below (heap_alloc_new w (.cells #[.int .u64 n1, .int .u64 n2, .int .u64 n3, .string pre, .string mt, .string og] 69)) b2) b3
  rw [hs2] at k3
  rw [hs1] at k2
  have K1 := Lib.hid k1
  have K2 := Lib.hid k2
  have K3 := Lib.hid k3
  have hb0 := b1.trans ((b2.trans (b3.mono b2.size)).mono b1.size)
  have HB0 := Lib.hid hb0
  have HT0 := Lib.hid (hT.below hb0)
  clear hb0 b1 b2 b3 k1 k2 k3 hs1 hs2 hst h0 h1 hT hTs
  go_enter Tryd.func45, Tryd.ntmps45
  go_upto_region 8 with fail
  generalize ((w.alloc (.cells #[.int .u64 n1, .int .u64 n2, .int .u64 n3, .string pre, .string mt, .string og] 69)).alloc (.cells #[.int .u64 0, .int .u64 0, .int .u64 0, .string ⟨#[]⟩, .string ⟨#[]⟩, .string ⟨#[]⟩] 69)).alloc (.cells #[.int .u64 n1, .int .u64 (n2 + 1), .int .u64 0, .string ⟨#[]⟩, .string ⟨#[]⟩, .string og] 69) = v0 at *
  refine start_ (n := 8) (ds := [7]) (S := fun w' => Below v0.heap.size v0 w') #[false, false, false, false, false, false, false, false] (by kernel_rfl) rfl rfl ((Below.refl _ _).drew) (fun hHeld => ?_)
  refine take_ (i := 0) (N := some 16) (v := ?_) (a' := ?_) #[true, false, false, false, false, false, false, false] rfl rfl (by kernel_rfl) (fun _ _ _ h => h) (Or.inl ⟨by rfl, ?_⟩) hHeld ?_ ?_
  rotate_left
  · intro w' hS
    have hS := blk_below K1.out hS
    have y0 := blk_cell hS 0
    have y1 := blk_cell hS 1
    have y2 := blk_cell hS 2
    have y3 := blk_cell hS 3
    have y4 := blk_cell hS 4
    have y5 := blk_cell hS 5
    simp only [List.getElem?_toArray, List.getElem?_cons_zero, List.getElem?_cons_succ] at y0 y1 y2 y3 y4 y5
    clear hS
    go_simp
    with_reducible rfl
  rotate_left; (go_frame; rfl)
  refine take_ (i := 3) (N := some 19) (v := ?_) (a' := ?_) #[true, false, false, true, false, false, false, false] rfl rfl (by kernel_rfl) (fun _ _ _ h => h) (Or.inl ⟨by rfl, ?_⟩) hHeld ?_ ?_
  rotate_left
  · intro w' hS
    have hS := blk_below K3.out hS
    have y0 := blk_cell hS 0
    have y1 := blk_cell hS 1
    have y2 := blk_cell hS 2
    have y3 := blk_cell hS 3
    have y4 := blk_cell hS 4
    have y5 := blk_cell hS 5
    simp only [List.getElem?_toArray, List.getElem?_cons_zero, List.getElem?_cons_succ] at y0 y1 y2 y3 y4 y5
    clear hS
    go_simp
    with_reducible rfl
  rotate_left; (go_frame; rfl)
  refine one_ (i := 1) (N := some 17) #[true, true, false, true, false, false, false, false] rfl rfl (by kernel_rfl) (by decide) (fun K hK => ?_)
  refine goes_ Tryd.func62 (by kernel_rfl) rfl #[.agg #[.int .u64 n1, .int .u64 n2, .int .u64 n3, .string pre, .string mt, .string og]] (by rfl) rfl rfl (by (try simp only [List.map_toArray, List.map_cons, List.map_nil]); first | done | rfl) ?_
  refine (HV.out _).mono ?_
  rintro e w1 ⟨rfl, hb⟩
  have hN := hHeld.trans (hb.mono hHeld.size)
  clear hHeld hb
  refine ⟨_, rfl, ?_⟩
  refine hK.out _ _ hN (fun hHeld => ?_)
  clear hN
  clear hK K
  refine norm_ (a' := ?_) ?_ ?_
  rotate_left
  · show Act.put _ (some 17) _ = _
    go_frame
    rfl
  refine pure_ (i := 2) (N := some 18) (v := ?_) (a' := ?_) #[true, true, true, true, false, false, false, false] rfl rfl (by kernel_rfl) (fun _ _ _ h => h) (Or.inl ⟨by rfl, ?_⟩) ?_ ?_
  rotate_left; (intro w'; go_simp; with_reducible rfl)
  rotate_left; (go_frame; rfl)
  refine one_ (i := 4) (N := some 20) #[true, true, true, true, true, false, false, false] rfl rfl (by kernel_rfl) (by decide) (fun K hK => ?_)
  refine goes_ Tryd.func40 (by kernel_rfl) rfl #[.agg #[.int .u64 n1, .int .u64 (n2 + 1), .int .u64 0, .string ⟨#[]⟩, .string ⟨#[]⟩, .string og]] (by rfl) rfl rfl (by (try simp only [List.map_toArray, List.map_cons, List.map_nil]); first | done | rfl) ?_
  refine (HST.out _ (HT0.out.below hHeld)).mono ?_
  rintro e w2 ⟨rfl, hb⟩
  have hN := hHeld.trans (hb.mono hHeld.size)
  clear hHeld hb
  refine ⟨_, rfl, ?_⟩
  refine hK.out _ _ hN (fun hHeld => ?_)
  clear hN
  clear hK K
  refine norm_ (a' := ?_) ?_ ?_
  rotate_left
  · show Act.put _ (some 20) _ = _
    go_frame
    rfl
  refine pure_ (i := 5) (N := some 21) (v := ?_) (a' := ?_) #[true, true, true, true, true, true, false, false] rfl rfl (by kernel_rfl) (fun _ _ _ h => h) (Or.inl ⟨by rfl, ?_⟩) ?_ ?_
  rotate_left; (intro w'; go_simp; with_reducible rfl)
  rotate_left; (go_frame; rfl)
  refine pure_ (i := 6) (N := some 22) (v := ?_) (a' := ?_) #[true, true, true, true, true, true, true, false] rfl rfl (by kernel_rfl) (fun _ _ _ h => h) (Or.inl ⟨by rfl, ?_⟩) ?_ ?_
  rotate_left; (intro w'; go_simp; with_reducible rfl)
  rotate_left; (go_frame; rfl)
  have k3 := blk_below K3.out hHeld
  have z5 := blk_cell k3 5
  simp only [List.getElem?_toArray, List.getElem?_cons_zero, List.getElem?_cons_succ] at z5
  have f5 := blk_frozen k3 5
  refine last_ (i := 7) (N := none) #[true, true, true, true, true, true, true, true] rfl rfl (by kernel_rfl) (by decide) (fun K hK => ?_)
  refine skip_ (w1 := ?_) (by rfl) rfl ?_ ?_
  rotate_left
  · go_simp
    rfl
  refine hK.out _ _ ?_
  clear hK K
  refine done_ (by kernel_rfl) ?_
  generalize ((⟨#[]⟩ : ByteArray) ++ (⟨#[]⟩ : ByteArray) ++ T) = og2 at *
  have HB3 := Lib.hid ((HB0.out.trans (hHeld.mono HB0.out.size)).setCell (p := ⟨(w.heap.size + 1 + 1), 5, none⟩) (by show w.heap.size ≤ (w.heap.size + 1 + 1); omega) (.string og2))
  have hk3 : (w2.setCell ⟨(w.heap.size + 1 + 1), 5, none⟩ (.string og2)).heap[(w.heap.size + 1 + 1)]? = some (.cells #[.int .u64 n1, .int .u64 (n2 + 1), .int .u64 0, .string ⟨#[]⟩, .string ⟨#[]⟩, .string og2] 69 (0, 0)) := blk_set k3 5 (.string og2)
  have hk2 : (w2.setCell ⟨(w.heap.size + 1 + 1), 5, none⟩ (.string og2)).heap[(w.heap.size + 1)]? = some (.cells #[.int .u64 0, .int .u64 0, .int .u64 0, .string ⟨#[]⟩, .string ⟨#[]⟩, .string ⟨#[]⟩] 69 (0, 0)) := blk_far (blk_below K2.out hHeld) (p := ⟨(w.heap.size + 1 + 1), 5, none⟩) (by show (w.heap.size + 1) ≠ (w.heap.size + 1 + 1); omega) (.string og2)
  clear hHeld k3 z5 f5 K1 K2 K3 HB0 HT0 HV HST
  generalize w2.setCell ⟨(w.heap.size + 1 + 1), 5, none⟩ (.string og2) = w3 at *
  have y0 := blk_cell hk3 0
  have y1 := blk_cell hk3 1
  have y2 := blk_cell hk3 2
  have y3 := blk_cell hk3 3
  have y4 := blk_cell hk3 4
  have y5 := blk_cell hk3 5
  have z0 := blk_cell hk2 0
  have z1 := blk_cell hk2 1
  have z2 := blk_cell hk2 2
  have z3 := blk_cell hk2 3
  have z4 := blk_cell hk2 4
  have z5 := blk_cell hk2 5
  have f0 := blk_frozen hk2 0
  have f1 := blk_frozen hk2 1
  have f2 := blk_frozen hk2 2
  have f3 := blk_frozen hk2 3
  have f4 := blk_frozen hk2 4
  have f5 := blk_frozen hk2 5
  simp only [List.getElem?_toArray, List.getElem?_cons_zero, List.getElem?_cons_succ] at y0 y1 y2 y3 y4 y5 z0 z1 z2 z3 z4 z5
  have HK2 := Lib.hid hk2
  clear hk3 hk2
  go_wp2
  (try simp only [Exit.inBlock, Exit.then])
  have HZ := Lib.hid (blk_set (blk_set (blk_set (blk_set (blk_set (blk_set HK2.out 0 (.int .u64 n1)) 1 (.int .u64 (n2 + 1))) 2 (.int .u64 0)) 3 (.string ⟨#[]⟩)) 4 (.string ⟨#[]⟩)) 5 (.string og2))
  refine bodyPost_ret (results_cell_row rfl _ _ (w.heap.size + 1) 69 #[.int .u64 n1, .int .u64 (n2 + 1), .int .u64 0, .string ⟨#[]⟩, .string ⟨#[]⟩, .string og2] (0, 0) _ rfl HZ.out Tryd.underlying69 rfl (by kernel_rfl)) rfl ?_
  exact ⟨_, rfl, (((((HB3.out.setCell (p := ⟨(w.heap.size + 1), 0, none⟩) (by show w.heap.size ≤ (w.heap.size + 1); omega) _).setCell (p := ⟨(w.heap.size + 1), 1, none⟩) (by show w.heap.size ≤ (w.heap.size + 1); omega) _).setCell (p := ⟨(w.heap.size + 1), 2, none⟩) (by show w.heap.size ≤ (w.heap.size + 1); omega) _).setCell (p := ⟨(w.heap.size + 1), 3, none⟩) (by show w.heap.size ≤ (w.heap.size + 1); omega) _).setCell (p := ⟨(w.heap.size + 1), 4, none⟩) (by show w.heap.size ≤ (w.heap.size + 1); omega) _).setCell (p := ⟨(w.heap.size + 1), 5, none⟩) (by show w.heap.size ≤ (w.heap.size + 1); omega) _⟩
set_option maxHeartbeats 1600000 in
set_option maxRecDepth 100000 in
theorem incMajor_rel (n1 n2 n3 : Int) (pre mt og T : ByteArray) (w : World) (hn0 : 0 ≤ n1) (hn1 : n1 < 1000000000) (h0 : 0 < og.size) (h1 : bt og 0 ≠ 118) (hT : TabsW w) (hTs : T.size ≤ 1000)
    (hst : ∀ W, TabsW W → Calls Tryd.prog 40 #[.agg #[.int .u64 (n1 + 1), .int .u64 0, .int .u64 0, .string ⟨#[]⟩, .string ⟨#[]⟩, .string og]] W fun e w' => e = .returned (.string T) ∧ Below W.heap.size W w') :
    Calls Tryd.prog 46 #[.agg #[.int .u64 n1, .int .u64 n2, .int .u64 n3, .string pre, .string mt, .string og]] w fun e w' => ∃ og', e = .returned (.agg #[.int .u64 (n1 + 1), .int .u64 0, .int .u64 0, .string ⟨#[]⟩, .string ⟨#[]⟩, .string og']) ∧ Below w.heap.size w w' := by
  have hu : IntKind.u64.wrap (n1 + 1) = n1 + 1 := IntWalk.u64_in _ ⟨by omega, by omega⟩
  have hd : decide (n1 = 18446744073709551615) = false := decide_eq_false (by omega)
  have hd2 : (n1 == 18446744073709551615) = false := by simp; omega
  clear hn0 hn1
  have HV := Lib.hid (fun W : World => vprefix_call n1 n2 n3 pre mt og h0 h1 W)
  have HST := Lib.hid hst
  have t1 : (9223372036854775807 < T.size) = False := eq_false (by omega)
  have hs2 : (((w.alloc (.cells #[.int .u64 n1, .int .u64 n2, .int .u64 n3, .string pre, .string mt, .string og] 69)).alloc (.cells #[.int .u64 0, .int .u64 0, .int .u64 0, .string ⟨#[]⟩, .string ⟨#[]⟩, .string ⟨#[]⟩] 69)).heap.size) = w.heap.size + 1 + 1 := by simp
  have hs1 : ((w.alloc (.cells #[.int .u64 n1, .int .u64 n2, .int .u64 n3, .string pre, .string mt, .string og] 69)).heap.size) = w.heap.size + 1 := by simp
  have b1 := alloc_below w (.cells #[.int .u64 n1, .int .u64 n2, .int .u64 n3, .string pre, .string mt, .string og] 69)
  have b2 := alloc_below (w.alloc (.cells #[.int .u64 n1, .int .u64 n2, .int .u64 n3, .string pre, .string mt, .string og] 69)) (.cells #[.int .u64 0, .int .u64 0, .int .u64 0, .string ⟨#[]⟩, .string ⟨#[]⟩, .string ⟨#[]⟩] 69)
  have b3 := alloc_below ((w.alloc (.cells #[.int .u64 n1, .int .u64 n2, .int .u64 n3, .string pre, .string mt, .string og] 69)).alloc (.cells #[.int .u64 0, .int .u64 0, .int .u64 0, .string ⟨#[]⟩, .string ⟨#[]⟩, .string ⟨#[]⟩] 69)) (.cells #[.int .u64 (n1 + 1), .int .u64 0, .int .u64 0, .string ⟨#[]⟩, .string ⟨#[]⟩, .string og] 69)
  have k3 := heap_alloc_new ((w.alloc (.cells #[.int .u64 n1, .int .u64 n2, .int .u64 n3, .string pre, .string mt, .string og] 69)).alloc (.cells #[.int .u64 0, .int .u64 0, .int .u64 0, .string ⟨#[]⟩, .string ⟨#[]⟩, .string ⟨#[]⟩] 69)) (.cells #[.int .u64 (n1 + 1), .int .u64 0, .int .u64 0, .string ⟨#[]⟩, .string ⟨#[]⟩, .string og] 69)
  have k2 := blk_below (heap_alloc_new (w.alloc (.cells #[.int .u64 n1, .int .u64 n2, .int .u64 n3, .string pre, .string mt, .string og] 69)) (.cells #[.int .u64 0, .int .u64 0, .int .u64 0, .string ⟨#[]⟩, .string ⟨#[]⟩, .string ⟨#[]⟩] 69)) b3
  have k1 := blk_below (blk_below (heap_alloc_new w (.cells #[.int .u64 n1, .int .u64 n2, .int .u64 n3, .string pre, .string mt, .string og] 69)) b2) b3
  rw [hs2] at k3
  rw [hs1] at k2
  have K1 := Lib.hid k1
  have K2 := Lib.hid k2
  have K3 := Lib.hid k3
  have hb0 := b1.trans ((b2.trans (b3.mono b2.size)).mono b1.size)
  have HB0 := Lib.hid hb0
  have HT0 := Lib.hid (hT.below hb0)
  clear hb0 b1 b2 b3 k1 k2 k3 hs1 hs2 hst h0 h1 hT hTs
  go_enter Tryd.func46, Tryd.ntmps46
  go_upto_region 9 with fail
  generalize ((w.alloc (.cells #[.int .u64 n1, .int .u64 n2, .int .u64 n3, .string pre, .string mt, .string og] 69)).alloc (.cells #[.int .u64 0, .int .u64 0, .int .u64 0, .string ⟨#[]⟩, .string ⟨#[]⟩, .string ⟨#[]⟩] 69)).alloc (.cells #[.int .u64 (n1 + 1), .int .u64 0, .int .u64 0, .string ⟨#[]⟩, .string ⟨#[]⟩, .string og] 69) = v0 at *
  refine start_ (n := 8) (ds := [7]) (S := fun w' => Below v0.heap.size v0 w') #[false, false, false, false, false, false, false, false] (by kernel_rfl) rfl rfl ((Below.refl _ _).drew) (fun hHeld => ?_)
  refine take_ (i := 0) (N := some 17) (v := ?_) (a' := ?_) #[true, false, false, false, false, false, false, false] rfl rfl (by kernel_rfl) (fun _ _ _ h => h) (Or.inl ⟨by rfl, ?_⟩) hHeld ?_ ?_
  rotate_left
  · intro w' hS
    have hS := blk_below K1.out hS
    have y0 := blk_cell hS 0
    have y1 := blk_cell hS 1
    have y2 := blk_cell hS 2
    have y3 := blk_cell hS 3
    have y4 := blk_cell hS 4
    have y5 := blk_cell hS 5
    simp only [List.getElem?_toArray, List.getElem?_cons_zero, List.getElem?_cons_succ] at y0 y1 y2 y3 y4 y5
    clear hS
    go_simp
    with_reducible rfl
  rotate_left; (go_frame; rfl)
  refine take_ (i := 3) (N := some 20) (v := ?_) (a' := ?_) #[true, false, false, true, false, false, false, false] rfl rfl (by kernel_rfl) (fun _ _ _ h => h) (Or.inl ⟨by rfl, ?_⟩) hHeld ?_ ?_
  rotate_left
  · intro w' hS
    have hS := blk_below K3.out hS
    have y0 := blk_cell hS 0
    have y1 := blk_cell hS 1
    have y2 := blk_cell hS 2
    have y3 := blk_cell hS 3
    have y4 := blk_cell hS 4
    have y5 := blk_cell hS 5
    simp only [List.getElem?_toArray, List.getElem?_cons_zero, List.getElem?_cons_succ] at y0 y1 y2 y3 y4 y5
    clear hS
    go_simp
    with_reducible rfl
  rotate_left; (go_frame; rfl)
  refine one_ (i := 1) (N := some 18) #[true, true, false, true, false, false, false, false] rfl rfl (by kernel_rfl) (by decide) (fun K hK => ?_)
  refine goes_ Tryd.func62 (by kernel_rfl) rfl #[.agg #[.int .u64 n1, .int .u64 n2, .int .u64 n3, .string pre, .string mt, .string og]] (by rfl) rfl rfl (by (try simp only [List.map_toArray, List.map_cons, List.map_nil]); first | done | rfl) ?_
  refine (HV.out _).mono ?_
  rintro e w1 ⟨rfl, hb⟩
  have hN := hHeld.trans (hb.mono hHeld.size)
  clear hHeld hb
  refine ⟨_, rfl, ?_⟩
  refine hK.out _ _ hN (fun hHeld => ?_)
  clear hN
  clear hK K
  refine norm_ (a' := ?_) ?_ ?_
  rotate_left
  · show Act.put _ (some 18) _ = _
    go_frame
    rfl
  refine pure_ (i := 2) (N := some 19) (v := ?_) (a' := ?_) #[true, true, true, true, false, false, false, false] rfl rfl (by kernel_rfl) (fun _ _ _ h => h) (Or.inl ⟨by rfl, ?_⟩) ?_ ?_
  rotate_left; (intro w'; go_simp; with_reducible rfl)
  rotate_left; (go_frame; rfl)
  refine one_ (i := 4) (N := some 21) #[true, true, true, true, true, false, false, false] rfl rfl (by kernel_rfl) (by decide) (fun K hK => ?_)
  refine goes_ Tryd.func40 (by kernel_rfl) rfl #[.agg #[.int .u64 (n1 + 1), .int .u64 0, .int .u64 0, .string ⟨#[]⟩, .string ⟨#[]⟩, .string og]] (by rfl) rfl rfl (by (try simp only [List.map_toArray, List.map_cons, List.map_nil]); first | done | rfl) ?_
  refine (HST.out _ (HT0.out.below hHeld)).mono ?_
  rintro e w2 ⟨rfl, hb⟩
  have hN := hHeld.trans (hb.mono hHeld.size)
  clear hHeld hb
  refine ⟨_, rfl, ?_⟩
  refine hK.out _ _ hN (fun hHeld => ?_)
  clear hN
  clear hK K
  refine norm_ (a' := ?_) ?_ ?_
  rotate_left
  · show Act.put _ (some 21) _ = _
    go_frame
    rfl
  refine pure_ (i := 5) (N := some 22) (v := ?_) (a' := ?_) #[true, true, true, true, true, true, false, false] rfl rfl (by kernel_rfl) (fun _ _ _ h => h) (Or.inl ⟨by rfl, ?_⟩) ?_ ?_
  rotate_left; (intro w'; go_simp; with_reducible rfl)
  rotate_left; (go_frame; rfl)
  refine pure_ (i := 6) (N := some 23) (v := ?_) (a' := ?_) #[true, true, true, true, true, true, true, false] rfl rfl (by kernel_rfl) (fun _ _ _ h => h) (Or.inl ⟨by rfl, ?_⟩) ?_ ?_
  rotate_left; (intro w'; go_simp; with_reducible rfl)
  rotate_left; (go_frame; rfl)
  have k3 := blk_below K3.out hHeld
  have z5 := blk_cell k3 5
  simp only [List.getElem?_toArray, List.getElem?_cons_zero, List.getElem?_cons_succ] at z5
  have f5 := blk_frozen k3 5
  refine last_ (i := 7) (N := none) #[true, true, true, true, true, true, true, true] rfl rfl (by kernel_rfl) (by decide) (fun K hK => ?_)
  refine skip_ (w1 := ?_) (by rfl) rfl ?_ ?_
  rotate_left
  · go_simp
    rfl
  refine hK.out _ _ ?_
  clear hK K
  refine done_ (by kernel_rfl) ?_
  generalize ((⟨#[]⟩ : ByteArray) ++ (⟨#[]⟩ : ByteArray) ++ T) = og2 at *
  have HB3 := Lib.hid ((HB0.out.trans (hHeld.mono HB0.out.size)).setCell (p := ⟨(w.heap.size + 1 + 1), 5, none⟩) (by show w.heap.size ≤ (w.heap.size + 1 + 1); omega) (.string og2))
  have hk3 : (w2.setCell ⟨(w.heap.size + 1 + 1), 5, none⟩ (.string og2)).heap[(w.heap.size + 1 + 1)]? = some (.cells #[.int .u64 (n1 + 1), .int .u64 0, .int .u64 0, .string ⟨#[]⟩, .string ⟨#[]⟩, .string og2] 69 (0, 0)) := blk_set k3 5 (.string og2)
  have hk2 : (w2.setCell ⟨(w.heap.size + 1 + 1), 5, none⟩ (.string og2)).heap[(w.heap.size + 1)]? = some (.cells #[.int .u64 0, .int .u64 0, .int .u64 0, .string ⟨#[]⟩, .string ⟨#[]⟩, .string ⟨#[]⟩] 69 (0, 0)) := blk_far (blk_below K2.out hHeld) (p := ⟨(w.heap.size + 1 + 1), 5, none⟩) (by show (w.heap.size + 1) ≠ (w.heap.size + 1 + 1); omega) (.string og2)
  clear hHeld k3 z5 f5 K1 K2 K3 HB0 HT0 HV HST
  generalize w2.setCell ⟨(w.heap.size + 1 + 1), 5, none⟩ (.string og2) = w3 at *
  have y0 := blk_cell hk3 0
  have y1 := blk_cell hk3 1
  have y2 := blk_cell hk3 2
  have y3 := blk_cell hk3 3
  have y4 := blk_cell hk3 4
  have y5 := blk_cell hk3 5
  have z0 := blk_cell hk2 0
  have z1 := blk_cell hk2 1
  have z2 := blk_cell hk2 2
  have z3 := blk_cell hk2 3
  have z4 := blk_cell hk2 4
  have z5 := blk_cell hk2 5
  have f0 := blk_frozen hk2 0
  have f1 := blk_frozen hk2 1
  have f2 := blk_frozen hk2 2
  have f3 := blk_frozen hk2 3
  have f4 := blk_frozen hk2 4
  have f5 := blk_frozen hk2 5
  simp only [List.getElem?_toArray, List.getElem?_cons_zero, List.getElem?_cons_succ] at y0 y1 y2 y3 y4 y5 z0 z1 z2 z3 z4 z5
  have HK2 := Lib.hid hk2
  clear hk3 hk2
  go_wp2
  (try simp only [Exit.inBlock, Exit.then])
  have HZ := Lib.hid (blk_set (blk_set (blk_set (blk_set (blk_set (blk_set HK2.out 0 (.int .u64 (n1 + 1))) 1 (.int .u64 0)) 2 (.int .u64 0)) 3 (.string ⟨#[]⟩)) 4 (.string ⟨#[]⟩)) 5 (.string og2))
  refine bodyPost_ret (results_cell_row rfl _ _ (w.heap.size + 1) 69 #[.int .u64 (n1 + 1), .int .u64 0, .int .u64 0, .string ⟨#[]⟩, .string ⟨#[]⟩, .string og2] (0, 0) _ rfl HZ.out Tryd.underlying69 rfl (by kernel_rfl)) rfl ?_
  exact ⟨_, rfl, (((((HB3.out.setCell (p := ⟨(w.heap.size + 1), 0, none⟩) (by show w.heap.size ≤ (w.heap.size + 1); omega) _).setCell (p := ⟨(w.heap.size + 1), 1, none⟩) (by show w.heap.size ≤ (w.heap.size + 1); omega) _).setCell (p := ⟨(w.heap.size + 1), 2, none⟩) (by show w.heap.size ≤ (w.heap.size + 1); omega) _).setCell (p := ⟨(w.heap.size + 1), 3, none⟩) (by show w.heap.size ≤ (w.heap.size + 1); omega) _).setCell (p := ⟨(w.heap.size + 1), 4, none⟩) (by show w.heap.size ≤ (w.heap.size + 1); omega) _).setCell (p := ⟨(w.heap.size + 1), 5, none⟩) (by show w.heap.size ≤ (w.heap.size + 1); omega) _⟩
end Go.Proofs.YtlhijjfbcgconaaDoor.P

/- impl.next; the closure of impl.SemverNext. -/
set_option linter.unusedVariables false
set_option linter.unusedSimpArgs false
namespace Go.Proofs.YtlhijjfbcgconaaDoor.P
open Go.RowKit Go.Proofs.YtlhijjfbcgconaaDoorW.PrintWords Go.Proofs.YtlhijjfbcgconaaDoorW.PrintLast Go.Proofs.YtlhijjfbcgconaaDoorW.PrintMore

set_option maxHeartbeats 1600000 in
set_option maxRecDepth 100000 in
theorem next_call (m1 m2 m3 : Int) (og T : ByteArray) (w : World) (hT : TabsW w) (hst : ∀ W, TabsW W → Calls Tryd.prog 40 #[.agg #[.int .u64 m1, .int .u64 m2, .int .u64 m3, .string ⟨#[]⟩, .string ⟨#[]⟩, .string og]] W fun e w' => e = .returned (.string T) ∧ Below W.heap.size W w') :
    Calls Tryd.prog 43 #[.agg #[.int .u64 m1, .int .u64 m2, .int .u64 m3, .string ⟨#[]⟩, .string ⟨#[]⟩, .string og]] w fun e w' => e = .returned (.string T) ∧ Below w.heap.size w w' := by
  have HB0 := Lib.hid (alloc_below w (.cells #[.int .u64 m1, .int .u64 m2, .int .u64 m3, .string ⟨#[]⟩, .string ⟨#[]⟩, .string og] 69))
  have HS := Lib.hid (hst _ (hT.below HB0.out))
  clear hT hst
  go_enter Tryd.func43, Tryd.ntmps43
  go_wp2_with fail
  refine HS.out.mono ?_
  rintro e w1 ⟨rfl, hb⟩
  have HB1 := Lib.hid (HB0.out.trans (hb.mono HB0.out.size))
  clear hb HS HB0
  go_wp2
  go_ret
  exact ⟨rfl, HB1.out⟩
set_option maxHeartbeats 1600000 in
set_option maxRecDepth 100000 in
theorem clo0 (n1 n2 n3 m1 m2 m3 : Int) (pre mt og T : ByteArray) (w : World) (bw bx bs q : Nat) (hw : w.heap[bw]? = some (.cells #[.int .i64 0] 3 (0, 0))) (hx : w.heap[bx]? = some (.cells #[.pointer (some ⟨q, 0, none⟩)] 53 (0, 0))) (hs : w.heap[bs]? = some (.cells #[.string ⟨#[]⟩] 9 (0, 0))) (hq : w.heap[q]? = some (.cells #[.int .u64 n1, .int .u64 n2, .int .u64 n3, .string pre, .string mt, .string og] 69 (0, 0))) (hT : TabsW w)
    (hI : ∀ W, TabsW W → Calls Tryd.prog 44 #[.agg #[.int .u64 n1, .int .u64 n2, .int .u64 n3, .string pre, .string mt, .string og]] W fun e w' => ∃ og', e = .returned (.agg #[.int .u64 m1, .int .u64 m2, .int .u64 m3, .string ⟨#[]⟩, .string ⟨#[]⟩, .string og']) ∧ Below W.heap.size W w')
    (hN : ∀ (W : World) (og : ByteArray), TabsW W → Calls Tryd.prog 43 #[.agg #[.int .u64 m1, .int .u64 m2, .int .u64 m3, .string ⟨#[]⟩, .string ⟨#[]⟩, .string og]] W fun e w' => e = .returned (.string T) ∧ Below W.heap.size W w') :
    Calls Tryd.prog 42 #[.pointer (some ⟨bw, 0, none⟩), .pointer (some ⟨bx, 0, none⟩), .pointer (some ⟨bs, 0, none⟩)] w fun e w' => e = .returned (.tuple #[]) ∧ ∃ w1, Below w.heap.size w w1 ∧ w' = w1.setCell ⟨bs, 0, none⟩ (.string T) := by
  have xw := blk_cell hw 0
  have xx := blk_cell hx 0
  have y0 := blk_cell hq 0
  have y1 := blk_cell hq 1
  have y2 := blk_cell hq 2
  have y3 := blk_cell hq 3
  have y4 := blk_cell hq 4
  have y5 := blk_cell hq 5
  simp only [List.getElem?_toArray, List.getElem?_cons_zero, List.getElem?_cons_succ] at xw xx y0 y1 y2 y3 y4 y5
  have HI := Lib.hid (hI w hT)
  have HN := Lib.hid hN
  have HT := Lib.hid hT
  have HS := Lib.hid hs
  clear hw hx hs hq hT hI hN
  go_enter Tryd.func42, Tryd.ntmps42
  go_wp2_with fail
  refine HI.out.mono ?_
  rintro e w1 ⟨og1, rfl, hb⟩
  have HB1 := Lib.hid hb
  clear hb HI xw xx y0 y1 y2 y3 y4 y5
  go_wp2_with fail
  refine (HN.out _ og1 (HT.out.below HB1.out)).mono ?_
  rintro e w2 ⟨rfl, hb⟩
  have HB2 := Lib.hid (HB1.out.trans (hb.mono HB1.out.size))
  clear hb HB1 HN
  have hs2 := blk_below HS.out HB2.out
  have z0 := blk_cell hs2 0
  simp only [List.getElem?_toArray, List.getElem?_cons_zero, List.getElem?_cons_succ] at z0
  have f0 := blk_frozen hs2 0
  clear hs2 HS HT
  go_wp2
  refine bodyPost_end (results_none rfl _ _ _) rfl ?_
  exact ⟨rfl, w2, HB2.out, rfl⟩
set_option maxHeartbeats 1600000 in
set_option maxRecDepth 100000 in
theorem clo1 (n1 n2 n3 m1 m2 m3 : Int) (pre mt og T : ByteArray) (w : World) (bw bx bs q : Nat) (hw : w.heap[bw]? = some (.cells #[.int .i64 1] 3 (0, 0))) (hx : w.heap[bx]? = some (.cells #[.pointer (some ⟨q, 0, none⟩)] 53 (0, 0))) (hs : w.heap[bs]? = some (.cells #[.string ⟨#[]⟩] 9 (0, 0))) (hq : w.heap[q]? = some (.cells #[.int .u64 n1, .int .u64 n2, .int .u64 n3, .string pre, .string mt, .string og] 69 (0, 0))) (hT : TabsW w)
    (hI : ∀ W, TabsW W → Calls Tryd.prog 45 #[.agg #[.int .u64 n1, .int .u64 n2, .int .u64 n3, .string pre, .string mt, .string og]] W fun e w' => ∃ og', e = .returned (.agg #[.int .u64 m1, .int .u64 m2, .int .u64 m3, .string ⟨#[]⟩, .string ⟨#[]⟩, .string og']) ∧ Below W.heap.size W w')
    (hN : ∀ (W : World) (og : ByteArray), TabsW W → Calls Tryd.prog 43 #[.agg #[.int .u64 m1, .int .u64 m2, .int .u64 m3, .string ⟨#[]⟩, .string ⟨#[]⟩, .string og]] W fun e w' => e = .returned (.string T) ∧ Below W.heap.size W w') :
    Calls Tryd.prog 42 #[.pointer (some ⟨bw, 0, none⟩), .pointer (some ⟨bx, 0, none⟩), .pointer (some ⟨bs, 0, none⟩)] w fun e w' => e = .returned (.tuple #[]) ∧ ∃ w1, Below w.heap.size w w1 ∧ w' = w1.setCell ⟨bs, 0, none⟩ (.string T) := by
  have xw := blk_cell hw 0
  have xx := blk_cell hx 0
  have y0 := blk_cell hq 0
  have y1 := blk_cell hq 1
  have y2 := blk_cell hq 2
  have y3 := blk_cell hq 3
  have y4 := blk_cell hq 4
  have y5 := blk_cell hq 5
  simp only [List.getElem?_toArray, List.getElem?_cons_zero, List.getElem?_cons_succ] at xw xx y0 y1 y2 y3 y4 y5
  have HI := Lib.hid (hI w hT)
  have HN := Lib.hid hN
  have HT := Lib.hid hT
  have HS := Lib.hid hs
  clear hw hx hs hq hT hI hN
  go_enter Tryd.func42, Tryd.ntmps42
  go_wp2_with fail
  refine HI.out.mono ?_
  rintro e w1 ⟨og1, rfl, hb⟩
  have HB1 := Lib.hid hb
  clear hb HI xw xx y0 y1 y2 y3 y4 y5
  go_wp2_with fail
  refine (HN.out _ og1 (HT.out.below HB1.out)).mono ?_
  rintro e w2 ⟨rfl, hb⟩
  have HB2 := Lib.hid (HB1.out.trans (hb.mono HB1.out.size))
  clear hb HB1 HN
  have hs2 := blk_below HS.out HB2.out
  have z0 := blk_cell hs2 0
  simp only [List.getElem?_toArray, List.getElem?_cons_zero, List.getElem?_cons_succ] at z0
  have f0 := blk_frozen hs2 0
  clear hs2 HS HT
  go_wp2
  refine bodyPost_end (results_none rfl _ _ _) rfl ?_
  exact ⟨rfl, w2, HB2.out, rfl⟩
set_option maxHeartbeats 1600000 in
set_option maxRecDepth 100000 in
theorem clo2 (n1 n2 n3 m1 m2 m3 : Int) (pre mt og T : ByteArray) (w : World) (bw bx bs q : Nat) (hw : w.heap[bw]? = some (.cells #[.int .i64 2] 3 (0, 0))) (hx : w.heap[bx]? = some (.cells #[.pointer (some ⟨q, 0, none⟩)] 53 (0, 0))) (hs : w.heap[bs]? = some (.cells #[.string ⟨#[]⟩] 9 (0, 0))) (hq : w.heap[q]? = some (.cells #[.int .u64 n1, .int .u64 n2, .int .u64 n3, .string pre, .string mt, .string og] 69 (0, 0))) (hT : TabsW w)
    (hI : ∀ W, TabsW W → Calls Tryd.prog 46 #[.agg #[.int .u64 n1, .int .u64 n2, .int .u64 n3, .string pre, .string mt, .string og]] W fun e w' => ∃ og', e = .returned (.agg #[.int .u64 m1, .int .u64 m2, .int .u64 m3, .string ⟨#[]⟩, .string ⟨#[]⟩, .string og']) ∧ Below W.heap.size W w')
    (hN : ∀ (W : World) (og : ByteArray), TabsW W → Calls Tryd.prog 43 #[.agg #[.int .u64 m1, .int .u64 m2, .int .u64 m3, .string ⟨#[]⟩, .string ⟨#[]⟩, .string og]] W fun e w' => e = .returned (.string T) ∧ Below W.heap.size W w') :
    Calls Tryd.prog 42 #[.pointer (some ⟨bw, 0, none⟩), .pointer (some ⟨bx, 0, none⟩), .pointer (some ⟨bs, 0, none⟩)] w fun e w' => e = .returned (.tuple #[]) ∧ ∃ w1, Below w.heap.size w w1 ∧ w' = w1.setCell ⟨bs, 0, none⟩ (.string T) := by
  have xw := blk_cell hw 0
  have xx := blk_cell hx 0
  have y0 := blk_cell hq 0
  have y1 := blk_cell hq 1
  have y2 := blk_cell hq 2
  have y3 := blk_cell hq 3
  have y4 := blk_cell hq 4
  have y5 := blk_cell hq 5
  simp only [List.getElem?_toArray, List.getElem?_cons_zero, List.getElem?_cons_succ] at xw xx y0 y1 y2 y3 y4 y5
  have HI := Lib.hid (hI w hT)
  have HN := Lib.hid hN
  have HT := Lib.hid hT
  have HS := Lib.hid hs
  clear hw hx hs hq hT hI hN
  go_enter Tryd.func42, Tryd.ntmps42
  go_wp2_with fail
  refine HI.out.mono ?_
  rintro e w1 ⟨og1, rfl, hb⟩
  have HB1 := Lib.hid hb
  clear hb HI xw xx y0 y1 y2 y3 y4 y5
  go_wp2_with fail
  refine (HN.out _ og1 (HT.out.below HB1.out)).mono ?_
  rintro e w2 ⟨rfl, hb⟩
  have HB2 := Lib.hid (HB1.out.trans (hb.mono HB1.out.size))
  clear hb HB1 HN
  have hs2 := blk_below HS.out HB2.out
  have z0 := blk_cell hs2 0
  simp only [List.getElem?_toArray, List.getElem?_cons_zero, List.getElem?_cons_succ] at z0
  have f0 := blk_frozen hs2 0
  clear hs2 HS HT
  go_wp2
  refine bodyPost_end (results_none rfl _ _ _) rfl ?_
  exact ⟨rfl, w2, HB2.out, rfl⟩
end Go.Proofs.YtlhijjfbcgconaaDoor.P

/- impl.SemverNext. -/
set_option linter.unusedVariables false
set_option linter.unusedSimpArgs false
namespace Go.Proofs.YtlhijjfbcgconaaDoor.P
open Go.RowKit Go.Proofs.YtlhijjfbcgconaaDoorW.PrintWords Go.Proofs.YtlhijjfbcgconaaDoorW.PrintLast Go.Proofs.YtlhijjfbcgconaaDoorW.PrintMore

set_option maxHeartbeats 1600000 in
set_option maxRecDepth 100000 in
theorem semNext0 {s : ByteArray} {a b cc m : Nat} {n1 n2 n3 : Int} {pre mt : ByteArray} (h : Form s a b cc m n1 n2 n3 pre mt) (m1 m2 m3 : Int) (T : ByteArray) (w : World) (hT : TabsW w)
    (hI : ∀ W, TabsW W → Calls Tryd.prog 44 #[.agg #[.int .u64 n1, .int .u64 n2, .int .u64 n3, .string pre, .string mt, .string s]] W fun e w' => ∃ og', e = .returned (.agg #[.int .u64 m1, .int .u64 m2, .int .u64 m3, .string ⟨#[]⟩, .string ⟨#[]⟩, .string og']) ∧ Below W.heap.size W w')
    (hN : ∀ (W : World) (og : ByteArray), TabsW W → Calls Tryd.prog 43 #[.agg #[.int .u64 m1, .int .u64 m2, .int .u64 m3, .string ⟨#[]⟩, .string ⟨#[]⟩, .string og]] W fun e w' => e = .returned (.string T) ∧ Below W.heap.size W w') :
    Calls Tryd.prog 19 #[.string s, .int .i64 0] w fun e w' => e = .returned (.tuple #[.string T, .bool true]) ∧ Below w.heap.size w w' := by
  have HV := Lib.hid (fun W => newVersion_call h W)
  have HC := Lib.hid (fun (W : World) (bx q : Nat) h1 h2 h3 h4 h5 => clo0 n1 n2 n3 m1 m2 m3 pre mt s T W w.heap.size bx (w.heap.size + 1) q h1 h2 h3 h4 h5 hI hN)
  have b1 := alloc_below w (.cells #[.int .i64 0] 3)
  have b2 := alloc_below (w.alloc (.cells #[.int .i64 0] 3)) (.cells #[.string ⟨#[]⟩] 9)
  have kw := blk_below (heap_alloc_new w (.cells #[.int .i64 0] 3)) b2
  have ks := heap_alloc_new (w.alloc (.cells #[.int .i64 0] 3)) (.cells #[.string ⟨#[]⟩] 9)
  rw [show (w.alloc (.cells #[.int .i64 0] 3)).heap.size = w.heap.size + 1 by simp] at ks
  have KW := Lib.hid kw
  have KS := Lib.hid ks
  have HB2 := Lib.hid (b1.trans (b2.mono b1.size))
  have HT := Lib.hid hT
  have hsz := Lib.hid (show ((w.alloc (.cells #[.int .i64 0] 3)).alloc (.cells #[.string ⟨#[]⟩] 9)).heap.size = w.heap.size + 1 + 1 by simp)
  clear h hI hN b1 b2 kw ks hT
  go_enter Tryd.func19, Tryd.ntmps19
  go_wp2_with fail
  refine (HV.out _).mono ?_
  rintro e w3 ⟨q, rfl, hq, hk, hb⟩
  have hs3 := Lib.hid (show w.heap.size + 1 + 1 ≤ w3.heap.size by rw [← hsz.out]; exact hb.size)
  have b4 := alloc_below w3 (.cells #[.pointer (some ⟨q, 0, none⟩)] 53)
  have HB4 := Lib.hid ((HB2.out.trans (hb.mono HB2.out.size)).trans (b4.mono (HB2.out.trans (hb.mono HB2.out.size)).size))
  have K4w := Lib.hid (blk_below (blk_below KW.out hb) b4)
  have K4s := Lib.hid (blk_below (blk_below KS.out hb) b4)
  have K4x := Lib.hid (heap_alloc_new w3 (.cells #[.pointer (some ⟨q, 0, none⟩)] 53))
  have K4q := Lib.hid (blk_below hk b4)
  have hs4 := Lib.hid (show w.heap.size + 1 + 1 ≤ (w3.alloc (.cells #[.pointer (some ⟨q, 0, none⟩)] 53)).heap.size from Nat.le_trans hs3.out b4.size)
  clear hq hk hb b4 HB2 KW KS HV hsz hs3
  go_wp2_with fail
  generalize w3.alloc (.cells #[.pointer (some ⟨q, 0, none⟩)] 53) = w4 at *
  generalize w3.heap.size = bx at *
  have b5 := alloc_below w4 (.cells #[.bool false] 4)
  refine (impl_caught.ok 42 #[.pointer (some ⟨w.heap.size, 0, none⟩), .pointer (some ⟨bx, 0, none⟩), .pointer (some ⟨(w.heap.size + 1), 0, none⟩)] w4 (fun w1 => ∃ w', Below (w4.alloc (.cells #[.bool false] 4)).heap.size (w4.alloc (.cells #[.bool false] 4)) w' ∧ w1 = w'.setCell ⟨(w.heap.size + 1), 0, none⟩ (.string T)) ?_ (fun W => enters_ Tryd.func42 (by kernel_rfl) rfl _ W) ?_).mono ?_
  · rintro w1 ⟨w', hb', rfl⟩
    exact blk_far (blk_below (heap_alloc_new w4 (.cells #[.bool false] 4)) hb') (p := ⟨(w.heap.size + 1), 0, none⟩) (by have := hs4.out; show w4.heap.size ≠ (w.heap.size + 1); omega) (.string T)
  · exact HC.out _ bx q (blk_below K4w.out b5) (blk_below K4x.out b5) (blk_below K4s.out b5) (blk_below K4q.out b5) (HT.out.below (HB4.out.trans (b5.mono HB4.out.size)))
  rintro e w6 ⟨rfl, w1, ⟨w5, hb5, rfl⟩, rfl⟩
  have K5w := blk_below (blk_below K4w.out b5) hb5
  have K5s := blk_below (blk_below K4s.out b5) hb5
  have K7s := Lib.hid (show ((w5.setCell ⟨(w.heap.size + 1), 0, none⟩ (.string T)).setCell ⟨w4.heap.size, 0, none⟩ (.bool true)).heap[(w.heap.size + 1)]? = some (.cells #[.string T] 9 (0, 0)) from blk_far (blk_set K5s 0 (.string T)) (p := ⟨w4.heap.size, 0, none⟩) (by have := hs4.out; show (w.heap.size + 1) ≠ w4.heap.size; omega) _)
  have K7w := Lib.hid (show ((w5.setCell ⟨(w.heap.size + 1), 0, none⟩ (.string T)).setCell ⟨w4.heap.size, 0, none⟩ (.bool true)).heap[w.heap.size]? = some (.cells #[.int .i64 0] 3 (0, 0)) from blk_far (blk_far K5w (p := ⟨(w.heap.size + 1), 0, none⟩) (by show w.heap.size ≠ (w.heap.size + 1); omega) _) (p := ⟨w4.heap.size, 0, none⟩) (by have := hs4.out; show w.heap.size ≠ w4.heap.size; omega) _)
  have HB5 := HB4.out.trans ((b5.trans (hb5.mono b5.size)).mono HB4.out.size)
  have HB7 := Lib.hid ((HB5.setCell (p := ⟨(w.heap.size + 1), 0, none⟩) (by show w.heap.size ≤ (w.heap.size + 1); omega) (.string T)).setCell (p := ⟨w4.heap.size, 0, none⟩) (by have := hs4.out; show w.heap.size ≤ w4.heap.size; omega) (.bool true))
  clear K5w K5s HB5 b5 hb5 K4w K4s K4x K4q HB4 HC HT hs4
  generalize (w5.setCell ⟨(w.heap.size + 1), 0, none⟩ (.string T)).setCell ⟨w4.heap.size, 0, none⟩ (.bool true) = w7 at *
  go_upto_region 5 with fail
  refine start_ (n := 12) (ds := []) (S := fun w' => Below w.heap.size w w' ∧ w'.heap[(w.heap.size + 1)]? = some (.cells #[.string T] 9 (0, 0)) ∧ w'.heap[w.heap.size]? = some (.cells #[.int .i64 0] 3 (0, 0))) #[false, false, false, false, false, false, false, false, false, false, false, false] (by kernel_rfl) rfl rfl (⟨HB7.out.drew, K7s.out, K7w.out⟩) (fun hHeld => ?_)
  clear HB7 K7s K7w
  generalize w7.drew = v7 at *
  refine take_ (i := 0) (N := some 17) (v := ?_) (a' := ?_) #[true, false, false, false, false, false, false, false, false, false, false, false] rfl rfl (by kernel_rfl) (fun _ _ _ h => h) (Or.inl ⟨by rfl, ?_⟩) hHeld ?_ ?_
  rotate_left
  · intro w' hS
    have hA := blk_cell hS.2.1 0
    have hB := blk_cell hS.2.2 0
    simp only [List.getElem?_toArray, List.getElem?_cons_zero, List.getElem?_cons_succ] at hA hB
    go_simp
    with_reducible rfl
  rotate_left; (go_frame; rfl)
  refine pure_ (i := 1) (N := some 18) (v := ?_) (a' := ?_) #[true, true, false, false, false, false, false, false, false, false, false, false] rfl rfl (by kernel_rfl) (fun _ _ _ h => h) (Or.inl ⟨by rfl, ?_⟩) ?_ ?_
  rotate_left; (intro w'; go_simp; with_reducible rfl)
  rotate_left; (go_frame; rfl)
  refine pure_ (i := 2) (N := some 19) (v := ?_) (a' := ?_) #[true, true, true, false, false, false, false, false, false, false, false, false] rfl rfl (by kernel_rfl) (fun _ _ _ h => h) (Or.inl ⟨by rfl, ?_⟩) ?_ ?_
  rotate_left; (intro w'; go_simp; with_reducible rfl)
  rotate_left; (go_frame; rfl)
  refine take_ (i := 3) (N := some 20) (v := ?_) (a' := ?_) #[true, true, true, true, false, false, false, false, false, false, false, false] rfl rfl (by kernel_rfl) (fun _ _ _ h => h) (Or.inl ⟨by rfl, ?_⟩) hHeld ?_ ?_
  rotate_left
  · intro w' hS
    have hA := blk_cell hS.2.1 0
    have hB := blk_cell hS.2.2 0
    simp only [List.getElem?_toArray, List.getElem?_cons_zero, List.getElem?_cons_succ] at hA hB
    go_simp
    with_reducible rfl
  rotate_left; (go_frame; rfl)
  refine pure_ (i := 4) (N := some 21) (v := ?_) (a' := ?_) #[true, true, true, true, true, false, false, false, false, false, false, false] rfl rfl (by kernel_rfl) (fun _ _ _ h => h) (Or.inl ⟨by rfl, ?_⟩) ?_ ?_
  rotate_left; (intro w'; go_simp; with_reducible rfl)
  rotate_left; (go_frame; rfl)
  refine pure_ (i := 5) (N := some 22) (v := ?_) (a' := ?_) #[true, true, true, true, true, true, false, false, false, false, false, false] rfl rfl (by kernel_rfl) (fun _ _ _ h => h) (Or.inl ⟨by rfl, ?_⟩) ?_ ?_
  rotate_left; (intro w'; go_simp; with_reducible rfl)
  rotate_left; (go_frame; rfl)
  refine pure_ (i := 6) (N := some 23) (v := ?_) (a' := ?_) #[true, true, true, true, true, true, true, false, false, false, false, false] rfl rfl (by kernel_rfl) (fun _ _ _ h => h) (Or.inl ⟨by rfl, ?_⟩) ?_ ?_
  rotate_left; (intro w'; go_simp; with_reducible rfl)
  rotate_left; (go_frame; rfl)
  refine take_ (i := 7) (N := some 24) (v := ?_) (a' := ?_) #[true, true, true, true, true, true, true, true, false, false, false, false] rfl rfl (by kernel_rfl) (fun _ _ _ h => h) (Or.inl ⟨by rfl, ?_⟩) hHeld ?_ ?_
  rotate_left
  · intro w' hS
    have hA := blk_cell hS.2.1 0
    have hB := blk_cell hS.2.2 0
    simp only [List.getElem?_toArray, List.getElem?_cons_zero, List.getElem?_cons_succ] at hA hB
    go_simp
    with_reducible rfl
  rotate_left; (go_frame; rfl)
  refine pure_ (i := 8) (N := some 25) (v := ?_) (a' := ?_) #[true, true, true, true, true, true, true, true, true, false, false, false] rfl rfl (by kernel_rfl) (fun _ _ _ h => h) (Or.inl ⟨by rfl, ?_⟩) ?_ ?_
  rotate_left; (intro w'; go_simp; with_reducible rfl)
  rotate_left; (go_frame; rfl)
  have z0 := blk_cell hHeld.2.1 0
  simp only [List.getElem?_toArray, List.getElem?_cons_zero, List.getElem?_cons_succ] at z0
  have f0 := blk_frozen hHeld.2.1 0
  have hN : Below w.heap.size w (v7.setCell ⟨(w.heap.size + 1), 0, none⟩ (.string T)) ∧ (v7.setCell ⟨(w.heap.size + 1), 0, none⟩ (.string T)).heap[(w.heap.size + 1)]? = some (.cells #[.string T] 9 (0, 0)) ∧ (v7.setCell ⟨(w.heap.size + 1), 0, none⟩ (.string T)).heap[w.heap.size]? = some (.cells #[.int .i64 0] 3 (0, 0)) := ⟨hHeld.1.setCell (p := ⟨(w.heap.size + 1), 0, none⟩) (by show w.heap.size ≤ (w.heap.size + 1); omega) _, blk_set hHeld.2.1 0 (.string T), blk_far hHeld.2.2 (p := ⟨(w.heap.size + 1), 0, none⟩) (by show w.heap.size ≠ (w.heap.size + 1); omega) _⟩
  refine pure_ (i := 9) (N := some 26) (v := ?_) (a' := ?_) #[true, true, true, true, true, true, true, true, true, true, false, false] rfl rfl (by kernel_rfl) (fun _ _ _ h => h) (Or.inl ⟨by rfl, ?_⟩) ?_ ?_
  rotate_left; (intro w'; go_simp; with_reducible rfl)
  rotate_left; (go_frame; rfl)
  refine one_ (i := 10) (N := none) #[true, true, true, true, true, true, true, true, true, true, true, false] rfl rfl (by kernel_rfl) (by decide) (fun K hK => ?_)
  refine skip_ (w1 := ?_) (by rfl) rfl ?_ ?_
  rotate_left
  · go_simp
    rfl
  clear hHeld
  refine hK.out _ _ (hN) (fun hHeld => ?_)
  clear hK K
  clear z0 f0 hN
  generalize v7.setCell ⟨(w.heap.size + 1), 0, none⟩ (.string T) = w8 at *
  refine pure_ (i := 11) (N := some 5) (v := ?_) (a' := ?_) #[true, true, true, true, true, true, true, true, true, true, true, true] rfl rfl (by kernel_rfl) (fun _ _ _ h => h) (Or.inl ⟨by rfl, ?_⟩) ?_ ?_
  rotate_left; (intro w'; go_simp; with_reducible rfl)
  rotate_left; (go_frame; rfl)
  refine done_ (by kernel_rfl) ?_
  obtain ⟨hb8, hk8, _⟩ := hHeld
  have z0 := blk_cell hk8 0
  simp only [List.getElem?_toArray, List.getElem?_cons_zero, List.getElem?_cons_succ] at z0
  have HB8 := Lib.hid hb8
  clear hb8 hk8
  go_wp2
  (try simp only [Exit.inBlock, Exit.then])
  refine bodyPost_ret (show _ = Result.ok (Value.tuple #[.string T, .bool true]) _ from ?_) rfl ?_
  · rw [results_cell_tmp rfl]
    go_simp
  · exact ⟨rfl, HB8.out⟩
set_option maxHeartbeats 1600000 in
set_option maxRecDepth 100000 in
theorem semNext1 {s : ByteArray} {a b cc m : Nat} {n1 n2 n3 : Int} {pre mt : ByteArray} (h : Form s a b cc m n1 n2 n3 pre mt) (m1 m2 m3 : Int) (T : ByteArray) (w : World) (hT : TabsW w)
    (hI : ∀ W, TabsW W → Calls Tryd.prog 45 #[.agg #[.int .u64 n1, .int .u64 n2, .int .u64 n3, .string pre, .string mt, .string s]] W fun e w' => ∃ og', e = .returned (.agg #[.int .u64 m1, .int .u64 m2, .int .u64 m3, .string ⟨#[]⟩, .string ⟨#[]⟩, .string og']) ∧ Below W.heap.size W w')
    (hN : ∀ (W : World) (og : ByteArray), TabsW W → Calls Tryd.prog 43 #[.agg #[.int .u64 m1, .int .u64 m2, .int .u64 m3, .string ⟨#[]⟩, .string ⟨#[]⟩, .string og]] W fun e w' => e = .returned (.string T) ∧ Below W.heap.size W w') :
    Calls Tryd.prog 19 #[.string s, .int .i64 1] w fun e w' => e = .returned (.tuple #[.string T, .bool true]) ∧ Below w.heap.size w w' := by
  have HV := Lib.hid (fun W => newVersion_call h W)
  have HC := Lib.hid (fun (W : World) (bx q : Nat) h1 h2 h3 h4 h5 => clo1 n1 n2 n3 m1 m2 m3 pre mt s T W w.heap.size bx (w.heap.size + 1) q h1 h2 h3 h4 h5 hI hN)
  have b1 := alloc_below w (.cells #[.int .i64 1] 3)
  have b2 := alloc_below (w.alloc (.cells #[.int .i64 1] 3)) (.cells #[.string ⟨#[]⟩] 9)
  have kw := blk_below (heap_alloc_new w (.cells #[.int .i64 1] 3)) b2
  have ks := heap_alloc_new (w.alloc (.cells #[.int .i64 1] 3)) (.cells #[.string ⟨#[]⟩] 9)
  rw [show (w.alloc (.cells #[.int .i64 1] 3)).heap.size = w.heap.size + 1 by simp] at ks
  have KW := Lib.hid kw
  have KS := Lib.hid ks
  have HB2 := Lib.hid (b1.trans (b2.mono b1.size))
  have HT := Lib.hid hT
  have hsz := Lib.hid (show ((w.alloc (.cells #[.int .i64 1] 3)).alloc (.cells #[.string ⟨#[]⟩] 9)).heap.size = w.heap.size + 1 + 1 by simp)
  clear h hI hN b1 b2 kw ks hT
  go_enter Tryd.func19, Tryd.ntmps19
  go_wp2_with fail
  refine (HV.out _).mono ?_
  rintro e w3 ⟨q, rfl, hq, hk, hb⟩
  have hs3 := Lib.hid (show w.heap.size + 1 + 1 ≤ w3.heap.size by rw [← hsz.out]; exact hb.size)
  have b4 := alloc_below w3 (.cells #[.pointer (some ⟨q, 0, none⟩)] 53)
  have HB4 := Lib.hid ((HB2.out.trans (hb.mono HB2.out.size)).trans (b4.mono (HB2.out.trans (hb.mono HB2.out.size)).size))
  have K4w := Lib.hid (blk_below (blk_below KW.out hb) b4)
  have K4s := Lib.hid (blk_below (blk_below KS.out hb) b4)
  have K4x := Lib.hid (heap_alloc_new w3 (.cells #[.pointer (some ⟨q, 0, none⟩)] 53))
  have K4q := Lib.hid (blk_below hk b4)
  have hs4 := Lib.hid (show w.heap.size + 1 + 1 ≤ (w3.alloc (.cells #[.pointer (some ⟨q, 0, none⟩)] 53)).heap.size from Nat.le_trans hs3.out b4.size)
  clear hq hk hb b4 HB2 KW KS HV hsz hs3
  go_wp2_with fail
  generalize w3.alloc (.cells #[.pointer (some ⟨q, 0, none⟩)] 53) = w4 at *
  generalize w3.heap.size = bx at *
  have b5 := alloc_below w4 (.cells #[.bool false] 4)
  refine (impl_caught.ok 42 #[.pointer (some ⟨w.heap.size, 0, none⟩), .pointer (some ⟨bx, 0, none⟩), .pointer (some ⟨(w.heap.size + 1), 0, none⟩)] w4 (fun w1 => ∃ w', Below (w4.alloc (.cells #[.bool false] 4)).heap.size (w4.alloc (.cells #[.bool false] 4)) w' ∧ w1 = w'.setCell ⟨(w.heap.size + 1), 0, none⟩ (.string T)) ?_ (fun W => enters_ Tryd.func42 (by kernel_rfl) rfl _ W) ?_).mono ?_
  · rintro w1 ⟨w', hb', rfl⟩
    exact blk_far (blk_below (heap_alloc_new w4 (.cells #[.bool false] 4)) hb') (p := ⟨(w.heap.size + 1), 0, none⟩) (by have := hs4.out; show w4.heap.size ≠ (w.heap.size + 1); omega) (.string T)
  · exact HC.out _ bx q (blk_below K4w.out b5) (blk_below K4x.out b5) (blk_below K4s.out b5) (blk_below K4q.out b5) (HT.out.below (HB4.out.trans (b5.mono HB4.out.size)))
  rintro e w6 ⟨rfl, w1, ⟨w5, hb5, rfl⟩, rfl⟩
  have K5w := blk_below (blk_below K4w.out b5) hb5
  have K5s := blk_below (blk_below K4s.out b5) hb5
  have K7s := Lib.hid (show ((w5.setCell ⟨(w.heap.size + 1), 0, none⟩ (.string T)).setCell ⟨w4.heap.size, 0, none⟩ (.bool true)).heap[(w.heap.size + 1)]? = some (.cells #[.string T] 9 (0, 0)) from blk_far (blk_set K5s 0 (.string T)) (p := ⟨w4.heap.size, 0, none⟩) (by have := hs4.out; show (w.heap.size + 1) ≠ w4.heap.size; omega) _)
  have K7w := Lib.hid (show ((w5.setCell ⟨(w.heap.size + 1), 0, none⟩ (.string T)).setCell ⟨w4.heap.size, 0, none⟩ (.bool true)).heap[w.heap.size]? = some (.cells #[.int .i64 1] 3 (0, 0)) from blk_far (blk_far K5w (p := ⟨(w.heap.size + 1), 0, none⟩) (by show w.heap.size ≠ (w.heap.size + 1); omega) _) (p := ⟨w4.heap.size, 0, none⟩) (by have := hs4.out; show w.heap.size ≠ w4.heap.size; omega) _)
  have HB5 := HB4.out.trans ((b5.trans (hb5.mono b5.size)).mono HB4.out.size)
  have HB7 := Lib.hid ((HB5.setCell (p := ⟨(w.heap.size + 1), 0, none⟩) (by show w.heap.size ≤ (w.heap.size + 1); omega) (.string T)).setCell (p := ⟨w4.heap.size, 0, none⟩) (by have := hs4.out; show w.heap.size ≤ w4.heap.size; omega) (.bool true))
  clear K5w K5s HB5 b5 hb5 K4w K4s K4x K4q HB4 HC HT hs4
  generalize (w5.setCell ⟨(w.heap.size + 1), 0, none⟩ (.string T)).setCell ⟨w4.heap.size, 0, none⟩ (.bool true) = w7 at *
  go_upto_region 5 with fail
  refine start_ (n := 12) (ds := []) (S := fun w' => Below w.heap.size w w' ∧ w'.heap[(w.heap.size + 1)]? = some (.cells #[.string T] 9 (0, 0)) ∧ w'.heap[w.heap.size]? = some (.cells #[.int .i64 1] 3 (0, 0))) #[false, false, false, false, false, false, false, false, false, false, false, false] (by kernel_rfl) rfl rfl (⟨HB7.out.drew, K7s.out, K7w.out⟩) (fun hHeld => ?_)
  clear HB7 K7s K7w
  generalize w7.drew = v7 at *
  refine take_ (i := 0) (N := some 17) (v := ?_) (a' := ?_) #[true, false, false, false, false, false, false, false, false, false, false, false] rfl rfl (by kernel_rfl) (fun _ _ _ h => h) (Or.inl ⟨by rfl, ?_⟩) hHeld ?_ ?_
  rotate_left
  · intro w' hS
    have hA := blk_cell hS.2.1 0
    have hB := blk_cell hS.2.2 0
    simp only [List.getElem?_toArray, List.getElem?_cons_zero, List.getElem?_cons_succ] at hA hB
    go_simp
    with_reducible rfl
  rotate_left; (go_frame; rfl)
  refine pure_ (i := 1) (N := some 18) (v := ?_) (a' := ?_) #[true, true, false, false, false, false, false, false, false, false, false, false] rfl rfl (by kernel_rfl) (fun _ _ _ h => h) (Or.inl ⟨by rfl, ?_⟩) ?_ ?_
  rotate_left; (intro w'; go_simp; with_reducible rfl)
  rotate_left; (go_frame; rfl)
  refine pure_ (i := 2) (N := some 19) (v := ?_) (a' := ?_) #[true, true, true, false, false, false, false, false, false, false, false, false] rfl rfl (by kernel_rfl) (fun _ _ _ h => h) (Or.inl ⟨by rfl, ?_⟩) ?_ ?_
  rotate_left; (intro w'; go_simp; with_reducible rfl)
  rotate_left; (go_frame; rfl)
  refine take_ (i := 3) (N := some 20) (v := ?_) (a' := ?_) #[true, true, true, true, false, false, false, false, false, false, false, false] rfl rfl (by kernel_rfl) (fun _ _ _ h => h) (Or.inl ⟨by rfl, ?_⟩) hHeld ?_ ?_
  rotate_left
  · intro w' hS
    have hA := blk_cell hS.2.1 0
    have hB := blk_cell hS.2.2 0
    simp only [List.getElem?_toArray, List.getElem?_cons_zero, List.getElem?_cons_succ] at hA hB
    go_simp
    with_reducible rfl
  rotate_left; (go_frame; rfl)
  refine pure_ (i := 4) (N := some 21) (v := ?_) (a' := ?_) #[true, true, true, true, true, false, false, false, false, false, false, false] rfl rfl (by kernel_rfl) (fun _ _ _ h => h) (Or.inl ⟨by rfl, ?_⟩) ?_ ?_
  rotate_left; (intro w'; go_simp; with_reducible rfl)
  rotate_left; (go_frame; rfl)
  refine pure_ (i := 5) (N := some 22) (v := ?_) (a' := ?_) #[true, true, true, true, true, true, false, false, false, false, false, false] rfl rfl (by kernel_rfl) (fun _ _ _ h => h) (Or.inl ⟨by rfl, ?_⟩) ?_ ?_
  rotate_left; (intro w'; go_simp; with_reducible rfl)
  rotate_left; (go_frame; rfl)
  refine pure_ (i := 6) (N := some 23) (v := ?_) (a' := ?_) #[true, true, true, true, true, true, true, false, false, false, false, false] rfl rfl (by kernel_rfl) (fun _ _ _ h => h) (Or.inl ⟨by rfl, ?_⟩) ?_ ?_
  rotate_left; (intro w'; go_simp; with_reducible rfl)
  rotate_left; (go_frame; rfl)
  refine take_ (i := 7) (N := some 24) (v := ?_) (a' := ?_) #[true, true, true, true, true, true, true, true, false, false, false, false] rfl rfl (by kernel_rfl) (fun _ _ _ h => h) (Or.inl ⟨by rfl, ?_⟩) hHeld ?_ ?_
  rotate_left
  · intro w' hS
    have hA := blk_cell hS.2.1 0
    have hB := blk_cell hS.2.2 0
    simp only [List.getElem?_toArray, List.getElem?_cons_zero, List.getElem?_cons_succ] at hA hB
    go_simp
    with_reducible rfl
  rotate_left; (go_frame; rfl)
  refine pure_ (i := 8) (N := some 25) (v := ?_) (a' := ?_) #[true, true, true, true, true, true, true, true, true, false, false, false] rfl rfl (by kernel_rfl) (fun _ _ _ h => h) (Or.inl ⟨by rfl, ?_⟩) ?_ ?_
  rotate_left; (intro w'; go_simp; with_reducible rfl)
  rotate_left; (go_frame; rfl)
  have z0 := blk_cell hHeld.2.1 0
  simp only [List.getElem?_toArray, List.getElem?_cons_zero, List.getElem?_cons_succ] at z0
  have f0 := blk_frozen hHeld.2.1 0
  have hN : Below w.heap.size w (v7.setCell ⟨(w.heap.size + 1), 0, none⟩ (.string T)) ∧ (v7.setCell ⟨(w.heap.size + 1), 0, none⟩ (.string T)).heap[(w.heap.size + 1)]? = some (.cells #[.string T] 9 (0, 0)) ∧ (v7.setCell ⟨(w.heap.size + 1), 0, none⟩ (.string T)).heap[w.heap.size]? = some (.cells #[.int .i64 1] 3 (0, 0)) := ⟨hHeld.1.setCell (p := ⟨(w.heap.size + 1), 0, none⟩) (by show w.heap.size ≤ (w.heap.size + 1); omega) _, blk_set hHeld.2.1 0 (.string T), blk_far hHeld.2.2 (p := ⟨(w.heap.size + 1), 0, none⟩) (by show w.heap.size ≠ (w.heap.size + 1); omega) _⟩
  refine pure_ (i := 9) (N := some 26) (v := ?_) (a' := ?_) #[true, true, true, true, true, true, true, true, true, true, false, false] rfl rfl (by kernel_rfl) (fun _ _ _ h => h) (Or.inl ⟨by rfl, ?_⟩) ?_ ?_
  rotate_left; (intro w'; go_simp; with_reducible rfl)
  rotate_left; (go_frame; rfl)
  refine one_ (i := 10) (N := none) #[true, true, true, true, true, true, true, true, true, true, true, false] rfl rfl (by kernel_rfl) (by decide) (fun K hK => ?_)
  refine skip_ (w1 := ?_) (by rfl) rfl ?_ ?_
  rotate_left
  · go_simp
    rfl
  clear hHeld
  refine hK.out _ _ (hN) (fun hHeld => ?_)
  clear hK K
  clear z0 f0 hN
  generalize v7.setCell ⟨(w.heap.size + 1), 0, none⟩ (.string T) = w8 at *
  refine pure_ (i := 11) (N := some 5) (v := ?_) (a' := ?_) #[true, true, true, true, true, true, true, true, true, true, true, true] rfl rfl (by kernel_rfl) (fun _ _ _ h => h) (Or.inl ⟨by rfl, ?_⟩) ?_ ?_
  rotate_left; (intro w'; go_simp; with_reducible rfl)
  rotate_left; (go_frame; rfl)
  refine done_ (by kernel_rfl) ?_
  obtain ⟨hb8, hk8, _⟩ := hHeld
  have z0 := blk_cell hk8 0
  simp only [List.getElem?_toArray, List.getElem?_cons_zero, List.getElem?_cons_succ] at z0
  have HB8 := Lib.hid hb8
  clear hb8 hk8
  go_wp2
  (try simp only [Exit.inBlock, Exit.then])
  refine bodyPost_ret (show _ = Result.ok (Value.tuple #[.string T, .bool true]) _ from ?_) rfl ?_
  · rw [results_cell_tmp rfl]
    go_simp
  · exact ⟨rfl, HB8.out⟩
set_option maxHeartbeats 1600000 in
set_option maxRecDepth 100000 in
theorem semNext2 {s : ByteArray} {a b cc m : Nat} {n1 n2 n3 : Int} {pre mt : ByteArray} (h : Form s a b cc m n1 n2 n3 pre mt) (m1 m2 m3 : Int) (T : ByteArray) (w : World) (hT : TabsW w)
    (hI : ∀ W, TabsW W → Calls Tryd.prog 46 #[.agg #[.int .u64 n1, .int .u64 n2, .int .u64 n3, .string pre, .string mt, .string s]] W fun e w' => ∃ og', e = .returned (.agg #[.int .u64 m1, .int .u64 m2, .int .u64 m3, .string ⟨#[]⟩, .string ⟨#[]⟩, .string og']) ∧ Below W.heap.size W w')
    (hN : ∀ (W : World) (og : ByteArray), TabsW W → Calls Tryd.prog 43 #[.agg #[.int .u64 m1, .int .u64 m2, .int .u64 m3, .string ⟨#[]⟩, .string ⟨#[]⟩, .string og]] W fun e w' => e = .returned (.string T) ∧ Below W.heap.size W w') :
    Calls Tryd.prog 19 #[.string s, .int .i64 2] w fun e w' => e = .returned (.tuple #[.string T, .bool true]) ∧ Below w.heap.size w w' := by
  have HV := Lib.hid (fun W => newVersion_call h W)
  have HC := Lib.hid (fun (W : World) (bx q : Nat) h1 h2 h3 h4 h5 => clo2 n1 n2 n3 m1 m2 m3 pre mt s T W w.heap.size bx (w.heap.size + 1) q h1 h2 h3 h4 h5 hI hN)
  have b1 := alloc_below w (.cells #[.int .i64 2] 3)
  have b2 := alloc_below (w.alloc (.cells #[.int .i64 2] 3)) (.cells #[.string ⟨#[]⟩] 9)
  have kw := blk_below (heap_alloc_new w (.cells #[.int .i64 2] 3)) b2
  have ks := heap_alloc_new (w.alloc (.cells #[.int .i64 2] 3)) (.cells #[.string ⟨#[]⟩] 9)
  rw [show (w.alloc (.cells #[.int .i64 2] 3)).heap.size = w.heap.size + 1 by simp] at ks
  have KW := Lib.hid kw
  have KS := Lib.hid ks
  have HB2 := Lib.hid (b1.trans (b2.mono b1.size))
  have HT := Lib.hid hT
  have hsz := Lib.hid (show ((w.alloc (.cells #[.int .i64 2] 3)).alloc (.cells #[.string ⟨#[]⟩] 9)).heap.size = w.heap.size + 1 + 1 by simp)
  clear h hI hN b1 b2 kw ks hT
  go_enter Tryd.func19, Tryd.ntmps19
  go_wp2_with fail
  refine (HV.out _).mono ?_
  rintro e w3 ⟨q, rfl, hq, hk, hb⟩
  have hs3 := Lib.hid (show w.heap.size + 1 + 1 ≤ w3.heap.size by rw [← hsz.out]; exact hb.size)
  have b4 := alloc_below w3 (.cells #[.pointer (some ⟨q, 0, none⟩)] 53)
  have HB4 := Lib.hid ((HB2.out.trans (hb.mono HB2.out.size)).trans (b4.mono (HB2.out.trans (hb.mono HB2.out.size)).size))
  have K4w := Lib.hid (blk_below (blk_below KW.out hb) b4)
  have K4s := Lib.hid (blk_below (blk_below KS.out hb) b4)
  have K4x := Lib.hid (heap_alloc_new w3 (.cells #[.pointer (some ⟨q, 0, none⟩)] 53))
  have K4q := Lib.hid (blk_below hk b4)
  have hs4 := Lib.hid (show w.heap.size + 1 + 1 ≤ (w3.alloc (.cells #[.pointer (some ⟨q, 0, none⟩)] 53)).heap.size from Nat.le_trans hs3.out b4.size)
  clear hq hk hb b4 HB2 KW KS HV hsz hs3
  go_wp2_with fail
  generalize w3.alloc (.cells #[.pointer (some ⟨q, 0, none⟩)] 53) = w4 at *
  generalize w3.heap.size = bx at *
  have b5 := alloc_below w4 (.cells #[.bool false] 4)
  refine (impl_caught.ok 42 #[.pointer (some ⟨w.heap.size, 0, none⟩), .pointer (some ⟨bx, 0, none⟩), .pointer (some ⟨(w.heap.size + 1), 0, none⟩)] w4 (fun w1 => ∃ w', Below (w4.alloc (.cells #[.bool false] 4)).heap.size (w4.alloc (.cells #[.bool false] 4)) w' ∧ w1 = w'.setCell ⟨(w.heap.size + 1), 0, none⟩ (.string T)) ?_ (fun W => enters_ Tryd.func42 (by kernel_rfl) rfl _ W) ?_).mono ?_
  · rintro w1 ⟨w', hb', rfl⟩
    exact blk_far (blk_below (heap_alloc_new w4 (.cells #[.bool false] 4)) hb') (p := ⟨(w.heap.size + 1), 0, none⟩) (by have := hs4.out; show w4.heap.size ≠ (w.heap.size + 1); omega) (.string T)
  · exact HC.out _ bx q (blk_below K4w.out b5) (blk_below K4x.out b5) (blk_below K4s.out b5) (blk_below K4q.out b5) (HT.out.below (HB4.out.trans (b5.mono HB4.out.size)))
  rintro e w6 ⟨rfl, w1, ⟨w5, hb5, rfl⟩, rfl⟩
  have K5w := blk_below (blk_below K4w.out b5) hb5
  have K5s := blk_below (blk_below K4s.out b5) hb5
  have K7s := Lib.hid (show ((w5.setCell ⟨(w.heap.size + 1), 0, none⟩ (.string T)).setCell ⟨w4.heap.size, 0, none⟩ (.bool true)).heap[(w.heap.size + 1)]? = some (.cells #[.string T] 9 (0, 0)) from blk_far (blk_set K5s 0 (.string T)) (p := ⟨w4.heap.size, 0, none⟩) (by have := hs4.out; show (w.heap.size + 1) ≠ w4.heap.size; omega) _)
  have K7w := Lib.hid (show ((w5.setCell ⟨(w.heap.size + 1), 0, none⟩ (.string T)).setCell ⟨w4.heap.size, 0, none⟩ (.bool true)).heap[w.heap.size]? = some (.cells #[.int .i64 2] 3 (0, 0)) from blk_far (blk_far K5w (p := ⟨(w.heap.size + 1), 0, none⟩) (by show w.heap.size ≠ (w.heap.size + 1); omega) _) (p := ⟨w4.heap.size, 0, none⟩) (by have := hs4.out; show w.heap.size ≠ w4.heap.size; omega) _)
  have HB5 := HB4.out.trans ((b5.trans (hb5.mono b5.size)).mono HB4.out.size)
  have HB7 := Lib.hid ((HB5.setCell (p := ⟨(w.heap.size + 1), 0, none⟩) (by show w.heap.size ≤ (w.heap.size + 1); omega) (.string T)).setCell (p := ⟨w4.heap.size, 0, none⟩) (by have := hs4.out; show w.heap.size ≤ w4.heap.size; omega) (.bool true))
  clear K5w K5s HB5 b5 hb5 K4w K4s K4x K4q HB4 HC HT hs4
  generalize (w5.setCell ⟨(w.heap.size + 1), 0, none⟩ (.string T)).setCell ⟨w4.heap.size, 0, none⟩ (.bool true) = w7 at *
  go_upto_region 5 with fail
  refine start_ (n := 12) (ds := []) (S := fun w' => Below w.heap.size w w' ∧ w'.heap[(w.heap.size + 1)]? = some (.cells #[.string T] 9 (0, 0)) ∧ w'.heap[w.heap.size]? = some (.cells #[.int .i64 2] 3 (0, 0))) #[false, false, false, false, false, false, false, false, false, false, false, false] (by kernel_rfl) rfl rfl (⟨HB7.out.drew, K7s.out, K7w.out⟩) (fun hHeld => ?_)
  clear HB7 K7s K7w
  generalize w7.drew = v7 at *
  refine take_ (i := 0) (N := some 17) (v := ?_) (a' := ?_) #[true, false, false, false, false, false, false, false, false, false, false, false] rfl rfl (by kernel_rfl) (fun _ _ _ h => h) (Or.inl ⟨by rfl, ?_⟩) hHeld ?_ ?_
  rotate_left
  · intro w' hS
    have hA := blk_cell hS.2.1 0
    have hB := blk_cell hS.2.2 0
    simp only [List.getElem?_toArray, List.getElem?_cons_zero, List.getElem?_cons_succ] at hA hB
    go_simp
    with_reducible rfl
  rotate_left; (go_frame; rfl)
  refine pure_ (i := 1) (N := some 18) (v := ?_) (a' := ?_) #[true, true, false, false, false, false, false, false, false, false, false, false] rfl rfl (by kernel_rfl) (fun _ _ _ h => h) (Or.inl ⟨by rfl, ?_⟩) ?_ ?_
  rotate_left; (intro w'; go_simp; with_reducible rfl)
  rotate_left; (go_frame; rfl)
  refine pure_ (i := 2) (N := some 19) (v := ?_) (a' := ?_) #[true, true, true, false, false, false, false, false, false, false, false, false] rfl rfl (by kernel_rfl) (fun _ _ _ h => h) (Or.inl ⟨by rfl, ?_⟩) ?_ ?_
  rotate_left; (intro w'; go_simp; with_reducible rfl)
  rotate_left; (go_frame; rfl)
  refine take_ (i := 3) (N := some 20) (v := ?_) (a' := ?_) #[true, true, true, true, false, false, false, false, false, false, false, false] rfl rfl (by kernel_rfl) (fun _ _ _ h => h) (Or.inl ⟨by rfl, ?_⟩) hHeld ?_ ?_
  rotate_left
  · intro w' hS
    have hA := blk_cell hS.2.1 0
    have hB := blk_cell hS.2.2 0
    simp only [List.getElem?_toArray, List.getElem?_cons_zero, List.getElem?_cons_succ] at hA hB
    go_simp
    with_reducible rfl
  rotate_left; (go_frame; rfl)
  refine pure_ (i := 4) (N := some 21) (v := ?_) (a' := ?_) #[true, true, true, true, true, false, false, false, false, false, false, false] rfl rfl (by kernel_rfl) (fun _ _ _ h => h) (Or.inl ⟨by rfl, ?_⟩) ?_ ?_
  rotate_left; (intro w'; go_simp; with_reducible rfl)
  rotate_left; (go_frame; rfl)
  refine pure_ (i := 5) (N := some 22) (v := ?_) (a' := ?_) #[true, true, true, true, true, true, false, false, false, false, false, false] rfl rfl (by kernel_rfl) (fun _ _ _ h => h) (Or.inl ⟨by rfl, ?_⟩) ?_ ?_
  rotate_left; (intro w'; go_simp; with_reducible rfl)
  rotate_left; (go_frame; rfl)
  refine pure_ (i := 6) (N := some 23) (v := ?_) (a' := ?_) #[true, true, true, true, true, true, true, false, false, false, false, false] rfl rfl (by kernel_rfl) (fun _ _ _ h => h) (Or.inl ⟨by rfl, ?_⟩) ?_ ?_
  rotate_left; (intro w'; go_simp; with_reducible rfl)
  rotate_left; (go_frame; rfl)
  refine take_ (i := 7) (N := some 24) (v := ?_) (a' := ?_) #[true, true, true, true, true, true, true, true, false, false, false, false] rfl rfl (by kernel_rfl) (fun _ _ _ h => h) (Or.inl ⟨by rfl, ?_⟩) hHeld ?_ ?_
  rotate_left
  · intro w' hS
    have hA := blk_cell hS.2.1 0
    have hB := blk_cell hS.2.2 0
    simp only [List.getElem?_toArray, List.getElem?_cons_zero, List.getElem?_cons_succ] at hA hB
    go_simp
    with_reducible rfl
  rotate_left; (go_frame; rfl)
  refine pure_ (i := 8) (N := some 25) (v := ?_) (a' := ?_) #[true, true, true, true, true, true, true, true, true, false, false, false] rfl rfl (by kernel_rfl) (fun _ _ _ h => h) (Or.inl ⟨by rfl, ?_⟩) ?_ ?_
  rotate_left; (intro w'; go_simp; with_reducible rfl)
  rotate_left; (go_frame; rfl)
  have z0 := blk_cell hHeld.2.1 0
  simp only [List.getElem?_toArray, List.getElem?_cons_zero, List.getElem?_cons_succ] at z0
  have f0 := blk_frozen hHeld.2.1 0
  have hN : Below w.heap.size w (v7.setCell ⟨(w.heap.size + 1), 0, none⟩ (.string T)) ∧ (v7.setCell ⟨(w.heap.size + 1), 0, none⟩ (.string T)).heap[(w.heap.size + 1)]? = some (.cells #[.string T] 9 (0, 0)) ∧ (v7.setCell ⟨(w.heap.size + 1), 0, none⟩ (.string T)).heap[w.heap.size]? = some (.cells #[.int .i64 2] 3 (0, 0)) := ⟨hHeld.1.setCell (p := ⟨(w.heap.size + 1), 0, none⟩) (by show w.heap.size ≤ (w.heap.size + 1); omega) _, blk_set hHeld.2.1 0 (.string T), blk_far hHeld.2.2 (p := ⟨(w.heap.size + 1), 0, none⟩) (by show w.heap.size ≠ (w.heap.size + 1); omega) _⟩
  refine pure_ (i := 9) (N := some 26) (v := ?_) (a' := ?_) #[true, true, true, true, true, true, true, true, true, true, false, false] rfl rfl (by kernel_rfl) (fun _ _ _ h => h) (Or.inl ⟨by rfl, ?_⟩) ?_ ?_
  rotate_left; (intro w'; go_simp; with_reducible rfl)
  rotate_left; (go_frame; rfl)
  refine one_ (i := 10) (N := none) #[true, true, true, true, true, true, true, true, true, true, true, false] rfl rfl (by kernel_rfl) (by decide) (fun K hK => ?_)
  refine skip_ (w1 := ?_) (by rfl) rfl ?_ ?_
  rotate_left
  · go_simp
    rfl
  clear hHeld
  refine hK.out _ _ (hN) (fun hHeld => ?_)
  clear hK K
  clear z0 f0 hN
  generalize v7.setCell ⟨(w.heap.size + 1), 0, none⟩ (.string T) = w8 at *
  refine pure_ (i := 11) (N := some 5) (v := ?_) (a' := ?_) #[true, true, true, true, true, true, true, true, true, true, true, true] rfl rfl (by kernel_rfl) (fun _ _ _ h => h) (Or.inl ⟨by rfl, ?_⟩) ?_ ?_
  rotate_left; (intro w'; go_simp; with_reducible rfl)
  rotate_left; (go_frame; rfl)
  refine done_ (by kernel_rfl) ?_
  obtain ⟨hb8, hk8, _⟩ := hHeld
  have z0 := blk_cell hk8 0
  simp only [List.getElem?_toArray, List.getElem?_cons_zero, List.getElem?_cons_succ] at z0
  have HB8 := Lib.hid hb8
  clear hb8 hk8
  go_wp2
  (try simp only [Exit.inBlock, Exit.then])
  refine bodyPost_ret (show _ = Result.ok (Value.tuple #[.string T, .bool true]) _ from ?_) rfl ?_
  · rw [results_cell_tmp rfl]
    go_simp
  · exact ⟨rfl, HB8.out⟩
end Go.Proofs.YtlhijjfbcgconaaDoor.P

/- A version's String; spec.Next. -/
set_option linter.unusedVariables false
set_option linter.unusedSimpArgs false
namespace Go.Proofs.YtlhijjfbcgconaaDoor.P
open Go.RowKit Go.Proofs.YtlhijjfbcgconaaDoorW.PrintWords Go.Proofs.YtlhijjfbcgconaaDoorW.PrintLast Go.Proofs.YtlhijjfbcgconaaDoorW.PrintMore

theorem fmt_f (a : Nat) (ha : a < 10 ^ 15) : strconv_FormatUint_60.f (a : Int) 10 = some (decd a) := by
  unfold strconv_FormatUint_60.f strconv_FormatUint_74.f
  rw [if_pos ⟨by omega, by omega, rfl⟩, Int.toNat_natCast]
  rfl
theorem string_f (a b c : Nat) (ha : a < 10 ^ 15) (hb : b < 10 ^ 15) (hc : c < 10 ^ 15) (k : Nat) (og : ByteArray) : semver_Version_String.f (k + 1) (a : Int) (b : Int) (c : Int) ⟨#[]⟩ ⟨#[]⟩ og = some (verT a b c) := by
  have h1 := decd_le a ha
  have h2 := decd_le b hb
  have h3 := decd_le c hc
  have e1 : (⟨#[46]⟩ : ByteArray).size = 1 := rfl
  unfold semver_Version_String.f
  rw [fmt_f a ha, Option.bind_some, if_pos (by omega), fmt_f b hb, Option.bind_some, if_pos (by rw [ByteArray.size_append]; omega), if_pos (by simp only [ByteArray.size_append]; omega), fmt_f c hc, Option.bind_some, if_pos (by simp only [ByteArray.size_append]; omega), if_pos emp_list, semver_Version_String.j0, if_pos emp_list]
  rfl
theorem string_call (a b c : Nat) (ha : a < 10 ^ 15) (hb : b < 10 ^ 15) (hc : c < 10 ^ 15) (og : ByteArray) (w : World) (hT : TabsW w) :
    Calls Tryd.prog 40 #[.agg #[.int .u64 (a : Int), .int .u64 (b : Int), .int .u64 (c : Int), .string ⟨#[]⟩, .string ⟨#[]⟩, .string og]] w fun e w' => e = .returned (.string (verT a b c)) ∧ Below w.heap.size w w' :=
  semver_Version_String.calls 1 _ _ _ _ _ _ _ w (string_f a b c ha hb hc 0 og) hT
set_option maxHeartbeats 1600000 in
set_option maxRecDepth 100000 in
theorem specNext0e (n1 n2 n3 : Int) (pre mt : ByteArray) (w : World) (hp : pre.toList.isEmpty = true) (hn0 : 0 ≤ n3) (hn1 : n3 < 1000000000) :
    Calls Tryd.prog 18 #[.agg #[.int .u64 n1, .int .u64 n2, .int .u64 n3, .string pre, .string mt], .int .i64 0] w fun e w' => e = .returned (.agg #[.int .u64 n1, .int .u64 n2, .int .u64 (n3 + 1), .string ⟨#[]⟩, .string ⟨#[]⟩]) ∧ Below w.heap.size w w' := by
  have hu : IntKind.u64.wrap (n3 + 1) = n3 + 1 := IntWalk.u64_in _ ⟨by omega, by omega⟩
  clear hn0 hn1
  have HB3 := Lib.hid ((alloc_below w (.cells #[.int .u64 n1, .int .u64 n2, .int .u64 n3, .string pre, .string mt] 24)).trans (((alloc_below (w.alloc (.cells #[.int .u64 n1, .int .u64 n2, .int .u64 n3, .string pre, .string mt] 24)) (.cells #[.int .u64 n1, .int .u64 n2, .int .u64 (n3 + 1), .string ⟨#[]⟩, .string ⟨#[]⟩] 24)).trans ((alloc_below ((w.alloc (.cells #[.int .u64 n1, .int .u64 n2, .int .u64 n3, .string pre, .string mt] 24)).alloc (.cells #[.int .u64 n1, .int .u64 n2, .int .u64 (n3 + 1), .string ⟨#[]⟩, .string ⟨#[]⟩] 24)) (.cells #[.int .u64 n1, .int .u64 n2, .int .u64 (n3 + 1), .string ⟨#[]⟩, .string ⟨#[]⟩] 24)).mono (alloc_below _ _).size)).mono (alloc_below _ _).size))
  have k2 := blk_below (heap_alloc_new (w.alloc (.cells #[.int .u64 n1, .int .u64 n2, .int .u64 n3, .string pre, .string mt] 24)) (.cells #[.int .u64 n1, .int .u64 n2, .int .u64 (n3 + 1), .string ⟨#[]⟩, .string ⟨#[]⟩] 24)) (alloc_below _ (.cells #[.int .u64 n1, .int .u64 n2, .int .u64 (n3 + 1), .string ⟨#[]⟩, .string ⟨#[]⟩] 24))
  rw [show (w.alloc (.cells #[.int .u64 n1, .int .u64 n2, .int .u64 n3, .string pre, .string mt] 24)).heap.size = w.heap.size + 1 by simp] at k2
  have K2 := Lib.hid k2
  clear k2
  go_enter Tryd.func18, Tryd.ntmps18
  go_wp2
  (try simp only [Exit.inBlock, Exit.then])
  refine bodyPost_ret (results_cell_row rfl _ _ (w.heap.size + 1) 24 #[.int .u64 n1, .int .u64 n2, .int .u64 (n3 + 1), .string ⟨#[]⟩, .string ⟨#[]⟩] (0, 0) _ rfl K2.out Tryd.underlying24 rfl (by kernel_rfl)) rfl ?_
  exact ⟨rfl, HB3.out⟩
set_option maxHeartbeats 1600000 in
set_option maxRecDepth 100000 in
theorem specNext0p (n1 n2 n3 : Int) (pre mt : ByteArray) (w : World) (hp : pre.toList.isEmpty = false) :
    Calls Tryd.prog 18 #[.agg #[.int .u64 n1, .int .u64 n2, .int .u64 n3, .string pre, .string mt], .int .i64 0] w fun e w' => e = .returned (.agg #[.int .u64 n1, .int .u64 n2, .int .u64 n3, .string ⟨#[]⟩, .string ⟨#[]⟩]) ∧ Below w.heap.size w w' := by
  have HB3 := Lib.hid ((alloc_below w (.cells #[.int .u64 n1, .int .u64 n2, .int .u64 n3, .string pre, .string mt] 24)).trans (((alloc_below (w.alloc (.cells #[.int .u64 n1, .int .u64 n2, .int .u64 n3, .string pre, .string mt] 24)) (.cells #[.int .u64 n1, .int .u64 n2, .int .u64 n3, .string ⟨#[]⟩, .string ⟨#[]⟩] 24)).trans ((alloc_below ((w.alloc (.cells #[.int .u64 n1, .int .u64 n2, .int .u64 n3, .string pre, .string mt] 24)).alloc (.cells #[.int .u64 n1, .int .u64 n2, .int .u64 n3, .string ⟨#[]⟩, .string ⟨#[]⟩] 24)) (.cells #[.int .u64 n1, .int .u64 n2, .int .u64 n3, .string ⟨#[]⟩, .string ⟨#[]⟩] 24)).mono (alloc_below _ _).size)).mono (alloc_below _ _).size))
  have k2 := blk_below (heap_alloc_new (w.alloc (.cells #[.int .u64 n1, .int .u64 n2, .int .u64 n3, .string pre, .string mt] 24)) (.cells #[.int .u64 n1, .int .u64 n2, .int .u64 n3, .string ⟨#[]⟩, .string ⟨#[]⟩] 24)) (alloc_below _ (.cells #[.int .u64 n1, .int .u64 n2, .int .u64 n3, .string ⟨#[]⟩, .string ⟨#[]⟩] 24))
  rw [show (w.alloc (.cells #[.int .u64 n1, .int .u64 n2, .int .u64 n3, .string pre, .string mt] 24)).heap.size = w.heap.size + 1 by simp] at k2
  have K2 := Lib.hid k2
  clear k2
  go_enter Tryd.func18, Tryd.ntmps18
  go_wp2
  (try simp only [Exit.inBlock, Exit.then])
  refine bodyPost_ret (results_cell_row rfl _ _ (w.heap.size + 1) 24 #[.int .u64 n1, .int .u64 n2, .int .u64 n3, .string ⟨#[]⟩, .string ⟨#[]⟩] (0, 0) _ rfl K2.out Tryd.underlying24 rfl (by kernel_rfl)) rfl ?_
  exact ⟨rfl, HB3.out⟩
set_option maxHeartbeats 1600000 in
set_option maxRecDepth 100000 in
theorem specNext1 (n1 n2 n3 : Int) (pre mt : ByteArray) (w : World) (hn0 : 0 ≤ n2) (hn1 : n2 < 1000000000) :
    Calls Tryd.prog 18 #[.agg #[.int .u64 n1, .int .u64 n2, .int .u64 n3, .string pre, .string mt], .int .i64 1] w fun e w' => e = .returned (.agg #[.int .u64 n1, .int .u64 (n2 + 1), .int .u64 0, .string ⟨#[]⟩, .string ⟨#[]⟩]) ∧ Below w.heap.size w w' := by
  have hu : IntKind.u64.wrap (n2 + 1) = n2 + 1 := IntWalk.u64_in _ ⟨by omega, by omega⟩
  clear hn0 hn1
  have HB3 := Lib.hid ((alloc_below w (.cells #[.int .u64 n1, .int .u64 n2, .int .u64 n3, .string pre, .string mt] 24)).trans (((alloc_below (w.alloc (.cells #[.int .u64 n1, .int .u64 n2, .int .u64 n3, .string pre, .string mt] 24)) (.cells #[.int .u64 n1, .int .u64 (n2 + 1), .int .u64 0, .string ⟨#[]⟩, .string ⟨#[]⟩] 24)).trans ((alloc_below ((w.alloc (.cells #[.int .u64 n1, .int .u64 n2, .int .u64 n3, .string pre, .string mt] 24)).alloc (.cells #[.int .u64 n1, .int .u64 (n2 + 1), .int .u64 0, .string ⟨#[]⟩, .string ⟨#[]⟩] 24)) (.cells #[.int .u64 n1, .int .u64 (n2 + 1), .int .u64 0, .string ⟨#[]⟩, .string ⟨#[]⟩] 24)).mono (alloc_below _ _).size)).mono (alloc_below _ _).size))
  have k2 := blk_below (heap_alloc_new (w.alloc (.cells #[.int .u64 n1, .int .u64 n2, .int .u64 n3, .string pre, .string mt] 24)) (.cells #[.int .u64 n1, .int .u64 (n2 + 1), .int .u64 0, .string ⟨#[]⟩, .string ⟨#[]⟩] 24)) (alloc_below _ (.cells #[.int .u64 n1, .int .u64 (n2 + 1), .int .u64 0, .string ⟨#[]⟩, .string ⟨#[]⟩] 24))
  rw [show (w.alloc (.cells #[.int .u64 n1, .int .u64 n2, .int .u64 n3, .string pre, .string mt] 24)).heap.size = w.heap.size + 1 by simp] at k2
  have K2 := Lib.hid k2
  clear k2
  go_enter Tryd.func18, Tryd.ntmps18
  go_wp2
  (try simp only [Exit.inBlock, Exit.then])
  refine bodyPost_ret (results_cell_row rfl _ _ (w.heap.size + 1) 24 #[.int .u64 n1, .int .u64 (n2 + 1), .int .u64 0, .string ⟨#[]⟩, .string ⟨#[]⟩] (0, 0) _ rfl K2.out Tryd.underlying24 rfl (by kernel_rfl)) rfl ?_
  exact ⟨rfl, HB3.out⟩
set_option maxHeartbeats 1600000 in
set_option maxRecDepth 100000 in
theorem specNext2 (n1 n2 n3 : Int) (pre mt : ByteArray) (w : World) (hn0 : 0 ≤ n1) (hn1 : n1 < 1000000000) :
    Calls Tryd.prog 18 #[.agg #[.int .u64 n1, .int .u64 n2, .int .u64 n3, .string pre, .string mt], .int .i64 2] w fun e w' => e = .returned (.agg #[.int .u64 (n1 + 1), .int .u64 0, .int .u64 0, .string ⟨#[]⟩, .string ⟨#[]⟩]) ∧ Below w.heap.size w w' := by
  have hu : IntKind.u64.wrap (n1 + 1) = n1 + 1 := IntWalk.u64_in _ ⟨by omega, by omega⟩
  clear hn0 hn1
  have HB3 := Lib.hid ((alloc_below w (.cells #[.int .u64 n1, .int .u64 n2, .int .u64 n3, .string pre, .string mt] 24)).trans (((alloc_below (w.alloc (.cells #[.int .u64 n1, .int .u64 n2, .int .u64 n3, .string pre, .string mt] 24)) (.cells #[.int .u64 (n1 + 1), .int .u64 0, .int .u64 0, .string ⟨#[]⟩, .string ⟨#[]⟩] 24)).trans ((alloc_below ((w.alloc (.cells #[.int .u64 n1, .int .u64 n2, .int .u64 n3, .string pre, .string mt] 24)).alloc (.cells #[.int .u64 (n1 + 1), .int .u64 0, .int .u64 0, .string ⟨#[]⟩, .string ⟨#[]⟩] 24)) (.cells #[.int .u64 (n1 + 1), .int .u64 0, .int .u64 0, .string ⟨#[]⟩, .string ⟨#[]⟩] 24)).mono (alloc_below _ _).size)).mono (alloc_below _ _).size))
  have k2 := blk_below (heap_alloc_new (w.alloc (.cells #[.int .u64 n1, .int .u64 n2, .int .u64 n3, .string pre, .string mt] 24)) (.cells #[.int .u64 (n1 + 1), .int .u64 0, .int .u64 0, .string ⟨#[]⟩, .string ⟨#[]⟩] 24)) (alloc_below _ (.cells #[.int .u64 (n1 + 1), .int .u64 0, .int .u64 0, .string ⟨#[]⟩, .string ⟨#[]⟩] 24))
  rw [show (w.alloc (.cells #[.int .u64 n1, .int .u64 n2, .int .u64 n3, .string pre, .string mt] 24)).heap.size = w.heap.size + 1 by simp] at k2
  have K2 := Lib.hid k2
  clear k2
  go_enter Tryd.func18, Tryd.ntmps18
  go_wp2
  (try simp only [Exit.inBlock, Exit.then])
  refine bodyPost_ret (results_cell_row rfl _ _ (w.heap.size + 1) 24 #[.int .u64 (n1 + 1), .int .u64 0, .int .u64 0, .string ⟨#[]⟩, .string ⟨#[]⟩] (0, 0) _ rfl K2.out Tryd.underlying24 rfl (by kernel_rfl)) rfl ?_
  exact ⟨rfl, HB3.out⟩
end Go.Proofs.YtlhijjfbcgconaaDoor.P

/- FnSemverNext holds. -/
set_option linter.unusedVariables false
set_option linter.unusedSimpArgs false
namespace Go.Proofs.YtlhijjfbcgconaaDoor.P
open Go.RowKit Go.Proofs.YtlhijjfbcgconaaDoorW.PrintWords Go.Proofs.YtlhijjfbcgconaaDoorW.PrintLast Go.Proofs.YtlhijjfbcgconaaDoorW.PrintMore

theorem v9n (s : ByteArray) : ∃ (n1 n2 n3 : Int) (pre mt : ByteArray) (q : Bool), (∀ W : World, Calls Tryd.prog 12 #[.string s] W fun e w' => e = .returned (.tuple #[.agg #[.int .u64 n1, .int .u64 n2, .int .u64 n3, .string pre, .string mt], .bool q]) ∧ Below W.heap.size W w') ∧
    (q = true → ∃ a b c d, Form9 s a b c d n1 n2 n3 pre mt ∧ ∃ l, IdL pre l) := by
  obtain ⟨⟨n1, n2, n3, pre, mt, ok⟩, ⟨K, hK⟩, hf⟩ := parse_ev9 s
  cases ok with
  | false => exact ⟨n1, n2, n3, pre, mt, false, fun W => version9_no K s n1 n2 n3 pre mt (hK K (Nat.le_refl _)) W, fun h => by cases h⟩
  | true =>
    obtain ⟨a, b, c, d, hform⟩ := hf rfl
    obtain ⟨q, l, ⟨K2, hK2⟩, hq⟩ := short_ev hform.wide
    refine ⟨n1, n2, n3, pre, mt, q, fun W => version9_call (max K K2) s n1 n2 n3 pre mt (hK _ (by omega)) q (hK2 _ (by omega)) W, fun h => ⟨a, b, c, d, hform, l, hq h⟩⟩
theorem idl_nil : IdL ⟨#[]⟩ [] := fun h => absurd h (by decide)
set_option maxHeartbeats 1600000 in
set_option maxRecDepth 100000 in
theorem next0e {s : ByteArray} {a b cc d : Nat} {N1 N2 N3 : Nat} {pre mt : ByteArray} (h : Form9 s a b cc d (N1 : Int) (N2 : Int) (N3 : Int) pre mt) (hp : pre.toList.isEmpty = true) (l : List ByteArray) (hl : IdL pre l) :
    (∀ W, Calls Tryd.prog 18 #[.agg #[.int .u64 (N1 : Int), .int .u64 (N2 : Int), .int .u64 (N3 : Int), .string pre, .string mt], .int .i64 0] W fun e w' => e = .returned (.agg #[.int .u64 (((N1 : Nat) : Int)), .int .u64 (((N2 : Nat) : Int)), .int .u64 (((N3 : Nat) : Int) + 1), .string ⟨#[]⟩, .string ⟨#[]⟩]) ∧ Below W.heap.size W w') ∧
    (∀ W, TabsW W → Calls Tryd.prog 19 #[.string s, .int .i64 0] W fun e w' => e = .returned (.tuple #[.string (verT N1 N2 (N3 + 1)), .bool true]) ∧ Below W.heap.size W w') ∧
    (∀ W, TabsE W → Calls Tryd.prog 13 #[.string (verT N1 N2 (N3 + 1)), .string s] W fun e w' => e = .returned (.tuple #[.int .i64 1, .bool true]) ∧ Below W.heap.size W w') ∧
    (∀ W, Calls Tryd.prog 20 #[.agg #[.int .u64 (((N1 : Nat) : Int)), .int .u64 (((N2 : Nat) : Int)), .int .u64 (((N3 : Nat) : Int) + 1), .string ⟨#[]⟩, .string ⟨#[]⟩]] W fun e w' => e = .returned (.string (verT N1 N2 (N3 + 1))) ∧ Below W.heap.size W w') := by
  obtain ⟨⟨_, g1⟩, ⟨_, g2⟩, ⟨_, g3⟩⟩ := h.lt
  have h0 : 0 < s.size := by have := h.q1; omega
  have h1 : bt s 0 ≠ 118 := by
    have := h.d1.2.2.2.1 0 (Nat.le_refl _) h.d1.1
    unfold isD at this
    rw [show ((0 : Nat) : Int) = 0 from rfl] at this
    omega
  have e1 : (N1 : Nat) < 10 ^ 15 := by omega
  have e2 : (N2 : Nat) < 10 ^ 15 := by omega
  have e3 : ((N3 + 1) : Nat) < 10 ^ 15 := by omega
  obtain ⟨p, q, r, hf⟩ := verT_form N1 N2 (N3 + 1) e1 e2 e3
  have hts : (verT N1 N2 (N3 + 1)).size ≤ 1000 := by have := hf.size; omega
  refine ⟨fun W => specNext0e (N1 : Int) (N2 : Int) (N3 : Int) pre mt W hp (by omega) (by omega), fun W hW => semNext0 h.wide _ _ _ (verT N1 N2 (N3 + 1)) W hW (fun W hW => ?_) (fun W og hW => next_call _ _ _ og (verT N1 N2 (N3 + 1)) W hW (fun W hW => string_call N1 N2 (N3 + 1) e1 e2 e3 og W hW)), fun W hW => ?_, fun W => spec_TextOf.calls 15 _ _ _ _ _ _ W (textOf_f N1 N2 (N3 + 1) e1 e2 e3)⟩
  · have hz : ∀ W, TabsW W → _ := fun W hW => string_call N1 N2 (N3 + 1) e1 e2 e3 s W hW
    exact incPatch_rel _ _ _ _ _ _ (verT N1 N2 (N3 + 1)) W hp (by omega) (by omega) h0 h1 hW hts hz
  · have ho := implOrder_call hf h.wide [] l idl_nil hl W hW
    have hc : cmpV (N1 : Nat) (N2 : Nat) ((N3 + 1) : Nat) (N1 : Int) (N2 : Int) (N3 : Int) ⟨#[]⟩ pre (cmpL [] l) = 1 := by
      unfold cmpV
      have q1 : ord3 (((N1 : Nat)) : Int) ((N2 : Nat) : Int) (((N3 + 1) : Nat) : Int) (N1 : Int) (N2 : Int) (N3 : Int) = 1 := by unfold ord3 seg3; simp <;> omega
      rw [if_pos (by rw [q1]; decide), q1]
    rw [hc] at ho
    exact ho
set_option maxHeartbeats 1600000 in
set_option maxRecDepth 100000 in
theorem next0p {s : ByteArray} {a b cc d : Nat} {N1 N2 N3 : Nat} {pre mt : ByteArray} (h : Form9 s a b cc d (N1 : Int) (N2 : Int) (N3 : Int) pre mt) (hp : pre.toList.isEmpty = false) (l : List ByteArray) (hl : IdL pre l) :
    (∀ W, Calls Tryd.prog 18 #[.agg #[.int .u64 (N1 : Int), .int .u64 (N2 : Int), .int .u64 (N3 : Int), .string pre, .string mt], .int .i64 0] W fun e w' => e = .returned (.agg #[.int .u64 (((N1 : Nat) : Int)), .int .u64 (((N2 : Nat) : Int)), .int .u64 (((N3 : Nat) : Int)), .string ⟨#[]⟩, .string ⟨#[]⟩]) ∧ Below W.heap.size W w') ∧
    (∀ W, TabsW W → Calls Tryd.prog 19 #[.string s, .int .i64 0] W fun e w' => e = .returned (.tuple #[.string (verT N1 N2 N3), .bool true]) ∧ Below W.heap.size W w') ∧
    (∀ W, TabsE W → Calls Tryd.prog 13 #[.string (verT N1 N2 N3), .string s] W fun e w' => e = .returned (.tuple #[.int .i64 1, .bool true]) ∧ Below W.heap.size W w') ∧
    (∀ W, Calls Tryd.prog 20 #[.agg #[.int .u64 (((N1 : Nat) : Int)), .int .u64 (((N2 : Nat) : Int)), .int .u64 (((N3 : Nat) : Int)), .string ⟨#[]⟩, .string ⟨#[]⟩]] W fun e w' => e = .returned (.string (verT N1 N2 N3)) ∧ Below W.heap.size W w') := by
  obtain ⟨⟨_, g1⟩, ⟨_, g2⟩, ⟨_, g3⟩⟩ := h.lt
  have h0 : 0 < s.size := by have := h.q1; omega
  have h1 : bt s 0 ≠ 118 := by
    have := h.d1.2.2.2.1 0 (Nat.le_refl _) h.d1.1
    unfold isD at this
    rw [show ((0 : Nat) : Int) = 0 from rfl] at this
    omega
  have e1 : (N1 : Nat) < 10 ^ 15 := by omega
  have e2 : (N2 : Nat) < 10 ^ 15 := by omega
  have e3 : (N3 : Nat) < 10 ^ 15 := by omega
  obtain ⟨p, q, r, hf⟩ := verT_form N1 N2 N3 e1 e2 e3
  have hts : (verT N1 N2 N3).size ≤ 1000 := by have := hf.size; omega
  refine ⟨fun W => specNext0p (N1 : Int) (N2 : Int) (N3 : Int) pre mt W hp, fun W hW => semNext0 h.wide _ _ _ (verT N1 N2 N3) W hW (fun W hW => ?_) (fun W og hW => next_call _ _ _ og (verT N1 N2 N3) W hW (fun W hW => string_call N1 N2 N3 e1 e2 e3 og W hW)), fun W hW => ?_, fun W => spec_TextOf.calls 15 _ _ _ _ _ _ W (textOf_f N1 N2 N3 e1 e2 e3)⟩
  · have hz : ∀ W, TabsW W → _ := fun W hW => string_call N1 N2 N3 e1 e2 e3 s W hW
    exact incPatch_pre _ _ _ _ _ _ (verT N1 N2 N3) W hp h0 h1 hW hts hz
  · have ho := implOrder_call hf h.wide [] l idl_nil hl W hW
    have hc : cmpV (N1 : Nat) (N2 : Nat) (N3 : Nat) (N1 : Int) (N2 : Int) (N3 : Int) ⟨#[]⟩ pre (cmpL [] l) = 1 := by
      unfold cmpV
      have q0 : ord3 ((N1 : Nat) : Int) ((N2 : Nat) : Int) ((N3 : Nat) : Int) (N1 : Int) (N2 : Int) (N3 : Int) = 0 := by unfold ord3 seg3; simp
      rw [if_neg (by rw [q0]; decide)]; unfold preC; rw [if_pos (show (⟨#[]⟩ : ByteArray).size = 0 from rfl), if_neg]; intro hz; rw [show pre = ⟨#[]⟩ from ba_ext (List.eq_nil_of_length_eq_zero (by rw [size_list]; exact hz)), ByteArray.toList_eq] at hp; exact absurd hp (by decide)
    rw [hc] at ho
    exact ho
set_option maxHeartbeats 1600000 in
set_option maxRecDepth 100000 in
theorem next1 {s : ByteArray} {a b cc d : Nat} {N1 N2 N3 : Nat} {pre mt : ByteArray} (h : Form9 s a b cc d (N1 : Int) (N2 : Int) (N3 : Int) pre mt) (l : List ByteArray) (hl : IdL pre l) :
    (∀ W, Calls Tryd.prog 18 #[.agg #[.int .u64 (N1 : Int), .int .u64 (N2 : Int), .int .u64 (N3 : Int), .string pre, .string mt], .int .i64 1] W fun e w' => e = .returned (.agg #[.int .u64 (((N1 : Nat) : Int)), .int .u64 (((N2 : Nat) : Int) + 1), .int .u64 (0), .string ⟨#[]⟩, .string ⟨#[]⟩]) ∧ Below W.heap.size W w') ∧
    (∀ W, TabsW W → Calls Tryd.prog 19 #[.string s, .int .i64 1] W fun e w' => e = .returned (.tuple #[.string (verT N1 (N2 + 1) 0), .bool true]) ∧ Below W.heap.size W w') ∧
    (∀ W, TabsE W → Calls Tryd.prog 13 #[.string (verT N1 (N2 + 1) 0), .string s] W fun e w' => e = .returned (.tuple #[.int .i64 1, .bool true]) ∧ Below W.heap.size W w') ∧
    (∀ W, Calls Tryd.prog 20 #[.agg #[.int .u64 (((N1 : Nat) : Int)), .int .u64 (((N2 : Nat) : Int) + 1), .int .u64 (0), .string ⟨#[]⟩, .string ⟨#[]⟩]] W fun e w' => e = .returned (.string (verT N1 (N2 + 1) 0)) ∧ Below W.heap.size W w') := by
  obtain ⟨⟨_, g1⟩, ⟨_, g2⟩, ⟨_, g3⟩⟩ := h.lt
  have h0 : 0 < s.size := by have := h.q1; omega
  have h1 : bt s 0 ≠ 118 := by
    have := h.d1.2.2.2.1 0 (Nat.le_refl _) h.d1.1
    unfold isD at this
    rw [show ((0 : Nat) : Int) = 0 from rfl] at this
    omega
  have e1 : (N1 : Nat) < 10 ^ 15 := by omega
  have e2 : ((N2 + 1) : Nat) < 10 ^ 15 := by omega
  have e3 : (0 : Nat) < 10 ^ 15 := by omega
  obtain ⟨p, q, r, hf⟩ := verT_form N1 (N2 + 1) 0 e1 e2 e3
  have hts : (verT N1 (N2 + 1) 0).size ≤ 1000 := by have := hf.size; omega
  refine ⟨fun W => specNext1 (N1 : Int) (N2 : Int) (N3 : Int) pre mt W (by omega) (by omega), fun W hW => semNext1 h.wide _ _ _ (verT N1 (N2 + 1) 0) W hW (fun W hW => ?_) (fun W og hW => next_call _ _ _ og (verT N1 (N2 + 1) 0) W hW (fun W hW => string_call N1 (N2 + 1) 0 e1 e2 e3 og W hW)), fun W hW => ?_, fun W => spec_TextOf.calls 15 _ _ _ _ _ _ W (textOf_f N1 (N2 + 1) 0 e1 e2 e3)⟩
  · have hz : ∀ W, TabsW W → _ := fun W hW => string_call N1 (N2 + 1) 0 e1 e2 e3 s W hW
    exact incMinor_rel _ _ _ _ _ _ (verT N1 (N2 + 1) 0) W (by omega) (by omega) h0 h1 hW hts hz
  · have ho := implOrder_call hf h.wide [] l idl_nil hl W hW
    have hc : cmpV (N1 : Nat) ((N2 + 1) : Nat) (0 : Nat) (N1 : Int) (N2 : Int) (N3 : Int) ⟨#[]⟩ pre (cmpL [] l) = 1 := by
      unfold cmpV
      have q1 : ord3 (((N1 : Nat)) : Int) (((N2 + 1) : Nat) : Int) ((0 : Nat) : Int) (N1 : Int) (N2 : Int) (N3 : Int) = 1 := by unfold ord3 seg3; simp <;> omega
      rw [if_pos (by rw [q1]; decide), q1]
    rw [hc] at ho
    exact ho
set_option maxHeartbeats 1600000 in
set_option maxRecDepth 100000 in
theorem next2 {s : ByteArray} {a b cc d : Nat} {N1 N2 N3 : Nat} {pre mt : ByteArray} (h : Form9 s a b cc d (N1 : Int) (N2 : Int) (N3 : Int) pre mt) (l : List ByteArray) (hl : IdL pre l) :
    (∀ W, Calls Tryd.prog 18 #[.agg #[.int .u64 (N1 : Int), .int .u64 (N2 : Int), .int .u64 (N3 : Int), .string pre, .string mt], .int .i64 2] W fun e w' => e = .returned (.agg #[.int .u64 (((N1 : Nat) : Int) + 1), .int .u64 (0), .int .u64 (0), .string ⟨#[]⟩, .string ⟨#[]⟩]) ∧ Below W.heap.size W w') ∧
    (∀ W, TabsW W → Calls Tryd.prog 19 #[.string s, .int .i64 2] W fun e w' => e = .returned (.tuple #[.string (verT (N1 + 1) 0 0), .bool true]) ∧ Below W.heap.size W w') ∧
    (∀ W, TabsE W → Calls Tryd.prog 13 #[.string (verT (N1 + 1) 0 0), .string s] W fun e w' => e = .returned (.tuple #[.int .i64 1, .bool true]) ∧ Below W.heap.size W w') ∧
    (∀ W, Calls Tryd.prog 20 #[.agg #[.int .u64 (((N1 : Nat) : Int) + 1), .int .u64 (0), .int .u64 (0), .string ⟨#[]⟩, .string ⟨#[]⟩]] W fun e w' => e = .returned (.string (verT (N1 + 1) 0 0)) ∧ Below W.heap.size W w') := by
  obtain ⟨⟨_, g1⟩, ⟨_, g2⟩, ⟨_, g3⟩⟩ := h.lt
  have h0 : 0 < s.size := by have := h.q1; omega
  have h1 : bt s 0 ≠ 118 := by
    have := h.d1.2.2.2.1 0 (Nat.le_refl _) h.d1.1
    unfold isD at this
    rw [show ((0 : Nat) : Int) = 0 from rfl] at this
    omega
  have e1 : ((N1 + 1) : Nat) < 10 ^ 15 := by omega
  have e2 : (0 : Nat) < 10 ^ 15 := by omega
  have e3 : (0 : Nat) < 10 ^ 15 := by omega
  obtain ⟨p, q, r, hf⟩ := verT_form (N1 + 1) 0 0 e1 e2 e3
  have hts : (verT (N1 + 1) 0 0).size ≤ 1000 := by have := hf.size; omega
  refine ⟨fun W => specNext2 (N1 : Int) (N2 : Int) (N3 : Int) pre mt W (by omega) (by omega), fun W hW => semNext2 h.wide _ _ _ (verT (N1 + 1) 0 0) W hW (fun W hW => ?_) (fun W og hW => next_call _ _ _ og (verT (N1 + 1) 0 0) W hW (fun W hW => string_call (N1 + 1) 0 0 e1 e2 e3 og W hW)), fun W hW => ?_, fun W => spec_TextOf.calls 15 _ _ _ _ _ _ W (textOf_f (N1 + 1) 0 0 e1 e2 e3)⟩
  · have hz : ∀ W, TabsW W → _ := fun W hW => string_call (N1 + 1) 0 0 e1 e2 e3 s W hW
    exact incMajor_rel _ _ _ _ _ _ (verT (N1 + 1) 0 0) W (by omega) (by omega) h0 h1 hW hts hz
  · have ho := implOrder_call hf h.wide [] l idl_nil hl W hW
    have hc : cmpV ((N1 + 1) : Nat) (0 : Nat) (0 : Nat) (N1 : Int) (N2 : Int) (N3 : Int) ⟨#[]⟩ pre (cmpL [] l) = 1 := by
      unfold cmpV
      have q1 : ord3 ((((N1 + 1) : Nat)) : Int) ((0 : Nat) : Int) ((0 : Nat) : Int) (N1 : Int) (N2 : Int) (N3 : Int) = 1 := by unfold ord3 seg3; simp <;> omega
      rw [if_pos (by rw [q1]; decide), q1]
    rw [hc] at ho
    exact ho
set_option maxHeartbeats 1600000 in
set_option maxRecDepth 100000 in
theorem nextLaw (s : ByteArray) (x : Int) (c : Int) (n1 n2 n3 m1 m2 m3 : Int) (pre mt T : ByteArray) (w : World) (hs : decide (2147483647 < (s.size : Int)) = false) (hx : x % 3 = c) (hx0 : 0 ≤ x) (hx1 : x ≤ 255) (hE : TabsE w) (hW : TabsW w)
    (hv : ∀ W : World, Calls Tryd.prog 12 #[.string s] W fun e w' => e = .returned (.tuple #[.agg #[.int .u64 n1, .int .u64 n2, .int .u64 n3, .string pre, .string mt], .bool true]) ∧ Below W.heap.size W w')
    (hn : ∀ W, Calls Tryd.prog 18 #[.agg #[.int .u64 n1, .int .u64 n2, .int .u64 n3, .string pre, .string mt], .int .i64 c] W fun e w' => e = .returned (.agg #[.int .u64 m1, .int .u64 m2, .int .u64 m3, .string ⟨#[]⟩, .string ⟨#[]⟩]) ∧ Below W.heap.size W w')
    (hsn : ∀ W, TabsW W → Calls Tryd.prog 19 #[.string s, .int .i64 c] W fun e w' => e = .returned (.tuple #[.string T, .bool true]) ∧ Below W.heap.size W w')
    (ho : ∀ W, TabsE W → Calls Tryd.prog 13 #[.string T, .string s] W fun e w' => e = .returned (.tuple #[.int .i64 1, .bool true]) ∧ Below W.heap.size W w')
    (ht : ∀ W, Calls Tryd.prog 20 #[.agg #[.int .u64 m1, .int .u64 m2, .int .u64 m3, .string ⟨#[]⟩, .string ⟨#[]⟩]] W fun e w' => e = .returned (.string T) ∧ Below W.heap.size W w') :
    Calls Tryd.prog 6 #[.string s, .int .u8 x] w fun e w' => e = .returned (.bool true) ∧ Below w.heap.size w w' := by
  have HV := Lib.hid (hv w)
  have HN := Lib.hid hn
  have HSN := Lib.hid hsn
  have HO := Lib.hid ho
  have HTX := Lib.hid ht
  have HE := Lib.hid hE
  have HTW := Lib.hid hW
  have HX := Lib.hid hx
  clear hv hn hsn ho ht hE hW hx
  go_enter Tryd.func6, Tryd.ntmps6
  go_wp2_with fail
  refine HV.out.mono ?_
  rintro e w1 ⟨rfl, hb1⟩
  have HB1 := Lib.hid hb1
  clear hb1 HV
  go_upto_region 4 with fail
  have HB2 := Lib.hid (HB1.out.trans ((alloc_below w1 (.cells #[.int .u64 n1, .int .u64 n2, .int .u64 n3, .string pre, .string mt] 24)).mono HB1.out.size))
  have k2 := heap_alloc_new w1 (.cells #[.int .u64 n1, .int .u64 n2, .int .u64 n3, .string pre, .string mt] 24)
  have y0 := blk_cell k2 0
  have y1 := blk_cell k2 1
  have y2 := blk_cell k2 2
  have y3 := blk_cell k2 3
  have y4 := blk_cell k2 4
  simp only [List.getElem?_toArray, List.getElem?_cons_zero, List.getElem?_cons_succ] at y0 y1 y2 y3 y4
  clear k2 HB1
  generalize w1.alloc (.cells #[.int .u64 n1, .int .u64 n2, .int .u64 n3, .string pre, .string mt] 24) = w2 at *
  generalize w1.heap.size = g1 at *
  go_wp2_with fail
  rw [HX.out]
  refine (HN.out _).mono ?_
  rintro e w3 ⟨rfl, hb3⟩
  have HB3 := Lib.hid (HB2.out.trans (hb3.mono HB2.out.size))
  clear hb3 HN HB2 y0 y1 y2 y3 y4
  go_upto_region 7 with fail
  have HB4 := Lib.hid (HB3.out.trans ((alloc_below w3 (.cells #[.int .u64 m1, .int .u64 m2, .int .u64 m3, .string ⟨#[]⟩, .string ⟨#[]⟩] 24)).mono HB3.out.size))
  have K4 := Lib.hid (heap_alloc_new w3 (.cells #[.int .u64 m1, .int .u64 m2, .int .u64 m3, .string ⟨#[]⟩, .string ⟨#[]⟩] 24))
  clear HB3
  generalize w3.alloc (.cells #[.int .u64 m1, .int .u64 m2, .int .u64 m3, .string ⟨#[]⟩, .string ⟨#[]⟩] 24) = w4 at *
  generalize w3.heap.size = g2 at *
  go_wp2_with fail
  rw [HX.out]
  refine (HSN.out _ (HTW.out.below HB4.out)).mono ?_
  rintro e w5 ⟨rfl, hb⟩
  have HB5 := Lib.hid (HB4.out.trans (hb.mono HB4.out.size))
  have K5 := Lib.hid (blk_below K4.out hb)
  clear hb HSN HB4 K4
  go_wp2_with fail
  refine (HO.out _ (HE.out.below HB5.out)).mono ?_
  rintro e w6 ⟨rfl, hb⟩
  have HB6 := Lib.hid (HB5.out.trans (hb.mono HB5.out.size))
  have k6 := blk_below K5.out hb
  have z0 := blk_cell k6 0
  have z1 := blk_cell k6 1
  have z2 := blk_cell k6 2
  have z3 := blk_cell k6 3
  have z4 := blk_cell k6 4
  simp only [List.getElem?_toArray, List.getElem?_cons_zero, List.getElem?_cons_succ] at z0 z1 z2 z3 z4
  clear hb HO HB5 K5 k6
  go_wp2_with fail
  refine (HTX.out _).mono ?_
  rintro e w7 ⟨rfl, hb⟩
  have HB7 := Lib.hid (HB6.out.trans (hb.mono HB6.out.size))
  clear hb HTX HB6 z0 z1 z2 z3 z4
  go_wp2
  go_ret
  exact ⟨rfl, HB7.out⟩
set_option maxHeartbeats 1600000 in
set_option maxRecDepth 100000 in
theorem fnSemverNext (s : ByteArray) (x : Int) (w : World) (hs0 : s.size ≤ 140737488351232) (hx : (Lit.int IntKind.u8 x).wf = true) (hE : TabsE w) (hW : TabsW w) :
    Calls Tryd.prog 6 #[.string s, .int .u8 x] w fun e w' => e = .returned (.bool true) ∧ Below w.heap.size w w' := by
  simp only [Lit.wf, IntKind.min, IntKind.max, IntKind.signed, IntKind.bits, Bool.and_eq_true, decide_eq_true_eq] at hx
  obtain ⟨hx0, hx1⟩ : 0 ≤ x ∧ x ≤ 255 := by
    simp at hx
    omega
  clear hx
  have HB := Lib.hid (Below.refl w.heap.size w)
  by_cases c0 : 2147483647 < (s.size : Int)
  · have dc0 : decide (2147483647 < (s.size : Int)) = true := decide_eq_true c0
    clear hE hW
    go_enter Tryd.func6, Tryd.ntmps6
    go_wp2
    go_ret
    exact ⟨rfl, HB.out⟩
  have dc0 : decide (2147483647 < (s.size : Int)) = false := decide_eq_false c0
  obtain ⟨n1, n2, n3, pre, mt, ok, hv, hf⟩ := v9n s
  cases ok with
  | false =>
    have HV := Lib.hid (hv w)
    clear hv hf hE hW hx0 hx1
    go_enter Tryd.func6, Tryd.ntmps6
    go_wp2_with fail
    refine HV.out.mono ?_
    rintro e w1 ⟨rfl, hb1⟩
    have HB1 := Lib.hid (hb1.alloc hb1.size (.cells #[.int .u64 n1, .int .u64 n2, .int .u64 n3, .string pre, .string mt] 24))
    clear hb1 HV
    go_wp2
    go_ret
    exact ⟨rfl, HB1.out⟩
  | true =>
    obtain ⟨a, b, cc, d, hform, l, hl⟩ := hf rfl
    obtain ⟨⟨g1, _⟩, ⟨g2, _⟩, ⟨g3, _⟩⟩ := hform.lt
    obtain ⟨N1, rfl⟩ := Int.eq_ofNat_of_zero_le g1
    obtain ⟨N2, rfl⟩ := Int.eq_ofNat_of_zero_le g2
    obtain ⟨N3, rfl⟩ := Int.eq_ofNat_of_zero_le g3
    obtain ⟨X, rfl⟩ := Int.eq_ofNat_of_zero_le hx0
    have hm : (X : Int) % 3 = ((X % 3 : Nat) : Int) := by omega
    have h3 : X % 3 = 0 ∨ X % 3 = 1 ∨ X % 3 = 2 := by omega
    rcases h3 with h3 | h3 | h3
    · rw [h3] at hm
      cases hp : pre.toList.isEmpty with
      | true =>
        obtain ⟨a1, a2, a3, a4⟩ := next0e hform hp l hl
        exact nextLaw s X 0 _ _ _ _ _ _ pre mt _ w dc0 hm hx0 hx1 hE hW hv a1 a2 a3 a4
      | false =>
        obtain ⟨a1, a2, a3, a4⟩ := next0p hform hp l hl
        exact nextLaw s X 0 _ _ _ _ _ _ pre mt _ w dc0 hm hx0 hx1 hE hW hv a1 a2 a3 a4
    · rw [h3] at hm
      obtain ⟨a1, a2, a3, a4⟩ := next1 hform l hl
      exact nextLaw s X 1 _ _ _ _ _ _ pre mt _ w dc0 hm hx0 hx1 hE hW hv a1 a2 a3 a4
    · rw [h3] at hm
      obtain ⟨a1, a2, a3, a4⟩ := next2 hform l hl
      exact nextLaw s X 2 _ _ _ _ _ _ pre mt _ w dc0 hm hx0 hx1 hE hW hv a1 a2 a3 a4
end Go.Proofs.YtlhijjfbcgconaaDoor.P

