/- Adler-32 of a text, told as a decimal number: the two sums do not overflow for texts of at most 500 bytes, so reducing at the end is reducing at each byte: for every text. Nothing is assumed but what every Go string fulfils, and the tables of internal/strconv and math/bits. -/
import Derived.Test.YtagafmfmmnegfaaDoorPx33
import Derived.Lib.ItoaNum
import Derived.Laws.BitsAllLaws
namespace Go.Proofs.YtagafmfmmnegfaaDoor.Pure
open Go.RowKit Go.Proofs.YtagafmfmmnegfaaDoor.P Go.Proofs.YtagafmfmmnegfaaDoorW.PrintWords Go.Proofs.YtagafmfmmnegfaaDoorW.PrintLast

theorem one_digit (d : Nat) (h : d < 10) : strOfNums [((48 + (d : Int)) % 4294967296) % 256] = ⟨#[UInt8.ofNat (48 + d)]⟩ := by
  have e : ((48 + (d : Int)) % 4294967296) % 256 = ((48 + d : Nat) : Int) := by omega
  rw [e]
  rfl
theorem dec_from : ∀ (f u : Nat), u ≤ f → ∀ out : ByteArray, out.size + u ≤ 10000000000 → u < 4294967296 → Ev (fun k => spec_decimal.l0 k (u : Int) out) ((⟨(Lib.decDigits u).toArray⟩ : ByteArray) ++ out)
  | f, u, hf, out, ho, hu => by
    by_cases h9 : u < 10
    · refine Ev.step (fun k => by rw [spec_decimal.l0]) ?_
      refine Ev.neg (by omega) ?_
      simp only [Option.bind_some]
      refine Ev.pos ?_ (Ev.eq ?_ (Ev.ok _))
      · rw [strOfNums_size]; simp only [List.length_cons, List.length_nil]; omega
      · rw [one_digit u h9, Lib.decDigits, dif_pos h9]
    · have em : Int.tmod (u : Int) 10 = ((u % 10 : Nat) : Int) := rfl
      have ed : (Int.tdiv (u : Int) 10) % 4294967296 = ((u / 10 : Nat) : Int) := by
        have e1 : Int.tdiv (u : Int) 10 = ((u / 10 : Nat) : Int) := rfl
        rw [e1]; omega
      refine Ev.step (fun k => by rw [spec_decimal.l0, em, ed]) ?_
      refine Ev.pos (by omega) ?_
      simp only [Option.bind_some]
      refine Ev.pos ?_ ?_
      · rw [strOfNums_size]; simp only [List.length_cons, List.length_nil]; omega
      · rw [one_digit _ (Nat.mod_lt _ (by omega))]
        have hs : ((⟨#[UInt8.ofNat (48 + u % 10)]⟩ : ByteArray) ++ out).size = 1 + out.size := by
          rw [ByteArray.size_append]; rfl
        match f, hf with
        | f + 1, hf =>
          refine Ev.eq ?_ (dec_from f (u / 10) (by omega) _ (by rw [hs]; omega) (by omega))
          rw [Lib.decDigits.eq_1 u, dif_neg h9, ← ByteArray.append_assoc]
          congr 1
        | 0, hf => omega

/-- The two sums of Adler-32, not yet reduced. -/
def sA (s : ByteArray) : Nat → Int
  | 0 => 1
  | i + 1 => sA s i + bt s (i : Int)
def sB (s : ByteArray) : Nat → Int
  | 0 => 0
  | i + 1 => sB s i + (sA s i + bt s (i : Int))
theorem sA_range (s : ByteArray) : ∀ i : Nat, 0 ≤ sA s i ∧ sA s i ≤ 1 + 255 * (i : Int)
  | 0 => by simp [sA]
  | i + 1 => by
    have h := sA_range s i
    have hb := bt_range s i
    rw [sA]
    omega
theorem sB_range (s : ByteArray) : ∀ i : Nat, i ≤ 500 → 0 ≤ sB s i ∧ sB s i ≤ 200000 * (i : Int)
  | 0, _ => by simp [sB]
  | i + 1, hi => by
    have h := sB_range s i (by omega)
    have ha := sA_range s i
    have hb := bt_range s i
    rw [sB]
    omega
theorem rd_drop (s : ByteArray) (i : Nat) (j : Nat) (h : i + j < s.size) (j' : Int) (hj : j' = (j : Int)) : rd ((nums8 s).drop i) j' % 4294967296 = bt s ((i + j : Nat) : Int) := by
  subst hj
  have hb := bt_range s ((i + j : Nat) : Int)
  have e : rd ((nums8 s).drop i) (j : Int) = bt s ((i + j : Nat) : Int) := by
    rw [← nums8_at s (i + j) h]
    simp [rd, List.getD_eq_getElem?_getD, List.getElem?_drop, nums8_length, h]
  rw [e]
  omega
theorem stA (s : ByteArray) (i : Nat) (hi : i < 500) : (sA s i + bt s (i : Int)) % 4294967296 = sA s (i + 1) := by
  have h := sA_range s i
  have hb := bt_range s i
  rw [sA]
  omega
theorem stB (s : ByteArray) (i : Nat) (hi : i < 500) : (sB s i + sA s (i + 1)) % 4294967296 = sB s (i + 1) := by
  have h := sB_range s i (by omega)
  have h1 := sA_range s i
  have hb := bt_range s i
  rw [sA, sB]
  omega
/-- The number both sides tell. -/
def told (s : ByteArray) : Int := Go.bits .or .u32 (((sB s s.size % 65521) * 65536) % 4294967296) (sA s s.size % 65521)
theorem told_range (s : ByteArray) : 0 ≤ told s ∧ told s < 4294967296 := by
  unfold told
  rw [u32_or _ _ (by omega) (by omega) (by omega) (by omega)]
  have h : (((sB s s.size % 65521) * 65536) % 4294967296).toNat ||| (sA s s.size % 65521).toNat < 2 ^ 32 := Nat.or_lt_two_pow (by omega) (by omega)
  omega
theorem end_l0 (s : ByteArray) (a b : Int) (ha : a = sA s s.size % 65521) (hb : b = sB s s.size % 65521) : Ev (fun k => adler32_update.l0 k [] a b) (told s) := by
  subst ha hb
  refine Ev.step (fun k => by rw [adler32_update.l0]) ?_
  exact Ev.neg (by show ¬ (0 : Int) > 0; omega) (Ev.ok _)
theorem l2_from (s : ByteArray) (hn : s.size ≤ 500) (i : Nat) : ∀ (d j : Nat), i + j + d = s.size → Ev (fun k => adler32_update.l2 k (sA s (i + j)) (sB s (i + j)) ((nums8 s).drop i) (((nums8 s).drop i).length : Int) (j : Int)) (told s)
  | 0, j, hd => by
    have hl : (((nums8 s).drop i).length : Int) = (s.size - i : Nat) := by rw [List.length_drop, nums8_length]
    refine Ev.step (fun k => by rw [adler32_update.l2]) (Ev.neg (by omega) ?_)
    have h1 := sA_range s (i + j)
    have h2 := sB_range s (i + j) (by omega)
    refine end_l0 s _ _ ?_ ?_
    · rw [Int.tmod_eq_emod_of_nonneg h1.1]
      rw [show s.size = i + j by omega]
    · rw [Int.tmod_eq_emod_of_nonneg h2.1]
      rw [show s.size = i + j by omega]
  | d + 1, j, hd => by
    have hl : (((nums8 s).drop i).length : Int) = (s.size - i : Nat) := by rw [List.length_drop, nums8_length]
    have hw : wrap64 ((j : Int) + 1) = ((j + 1 : Nat) : Int) := by rw [w64_in (by omega) (by omega)]; rfl
    refine Ev.step (fun k => by rw [adler32_update.l2, rd_drop s i j (by omega) _ rfl, stA s (i + j) (by omega), stB s (i + j) (by omega), hw]) ?_
    exact Ev.pos (by omega) (Ev.pos (by omega) (Ev.pos (by omega) (l2_from s hn i d (j + 1) (by omega))))
theorem l1_from (s : ByteArray) (hn : s.size ≤ 500) : ∀ (d i : Nat), i + d = s.size → Ev (fun k => adler32_update.l1 k ((nums8 s).drop i) (sA s i) (sB s i)) (told s)
  | d, i, hd => by
    have hl : (((nums8 s).drop i).length : Int) = (d : Int) := by rw [List.length_drop, nums8_length]; omega
    by_cases h4 : d < 4
    · refine Ev.step (fun k => by rw [adler32_update.l1]) (Ev.neg (by omega) ?_)
      exact l2_from s hn i d 0 (by omega)
    · match d, h4, hd, hl with
      | d + 4, _, hd, hl =>
        refine Ev.step (fun k => by rw [adler32_update.l1, rd_drop s i 0 (by omega) 0 rfl, rd_drop s i 1 (by omega) 1 rfl, rd_drop s i 2 (by omega) 2 rfl, rd_drop s i 3 (by omega) 3 rfl, Nat.add_zero, stA s i (by omega), stA s (i + 1) (by omega), stA s (i + 2) (by omega), stA s (i + 3) (by omega), stB s i (by omega), stB s (i + 1) (by omega), stB s (i + 2) (by omega), stB s (i + 3) (by omega), List.drop_drop]) ?_
        exact Ev.pos (by omega) (Ev.pos (by omega) (Ev.pos (by omega) (Ev.pos (by omega) (Ev.pos (by omega) (Ev.pos (by omega) (l1_from s hn d (i + 4) (by omega)))))))
  termination_by d => d
theorem impl_side (s : ByteArray) (hn : s.size ≤ 500) : Ev (fun k => adler32_update.l0 k (nums8 s) 1 0) (told s) := by
  by_cases h0 : s.size = 0
  · have e : nums8 s = [] := List.eq_nil_of_length_eq_zero (by rw [nums8_length]; exact h0)
    rw [e]
    refine end_l0 s _ _ ?_ ?_
    · rw [h0]; rfl
    · rw [h0]; rfl
  · have hl := nums8_length s
    refine Ev.step (fun k => by rw [adler32_update.l0]) (Ev.pos (by omega) (Ev.neg (by omega) ?_))
    exact l1_from s hn s.size 0 (by omega)
theorem spec_from (s : ByteArray) (hn : s.size ≤ 500) : ∀ (d i : Nat), i + d = s.size → Ev (fun k => spec_Adler32.l0 k s (sA s i % 65521) (sB s i % 65521) (i : Int)) ⟨(Lib.decDigits (told s).toNat).toArray⟩
  | 0, i, hd => by
    have e : i = s.size := by omega
    subst e
    refine Ev.step (fun k => by rw [spec_Adler32.l0]) (Ev.neg (by omega) (Ev.bind (f := fun _ t => some t) (a := ⟨(Lib.decDigits (told s).toNat).toArray⟩) ?_ (Ev.ok _)))
    show Ev (fun k => spec_decimal.l0 k (told s) ⟨#[]⟩) _
    have ht := told_range s
    rw [show told s = ((told s).toNat : Int) by omega]
    refine Ev.eq ?_ (dec_from _ (told s).toNat (Nat.le_refl _) ⟨#[]⟩ ?_ (by omega))
    · rw [Int.toNat_natCast]
      apply ba_ext
      simp
    · show 0 + (told s).toNat ≤ _
      omega
  | d + 1, i, hd => by
    have hw : wrap64 ((i : Int) + 1) = ((i + 1 : Nat) : Int) := by rw [w64_in (by omega) (by omega)]; rfl
    have hb := bt_range s (i : Int)
    have e1 : ((sA s i % 65521 + bt s (i : Int) % 4294967296) % 4294967296) % 65521 = sA s (i + 1) % 65521 := by
      rw [sA]; omega
    have e2 : ((sB s i % 65521 + sA s (i + 1) % 65521) % 4294967296) % 65521 = sB s (i + 1) % 65521 := by
      rw [sB, sA]; omega
    refine Ev.step (fun k => by rw [spec_Adler32.l0, e1, e2, hw]) ?_
    exact Ev.pos (by omega) (Ev.pos (by omega) (spec_from s hn d (i + 1) (by omega)))

theorem FnAdler32 : laws_FnAdler32.Pure := by
  intro s hs
  by_cases h5 : s.size ≤ 500
  · have hi := impl_side s h5
    have hsp : Ev (fun k => spec_Adler32.f k s) ⟨(Lib.decDigits (told s).toNat).toArray⟩ := spec_from s h5 s.size 0 (by omega)
    have ht := told_range s
    have hsum : Ev (fun k => sprig_adler32sum.f k s) ⟨(Lib.decDigits (told s).toNat).toArray⟩ := by
      unfold sprig_adler32sum.f
      refine Ev.pos (by omega) ?_
      refine Ev.bind (f := fun _ h => if 0 ≤ h ∧ h < 4294967296 then strconv_FormatUint_96.f h 10 else none) (a := told s) ?_ ?_
      · unfold adler32_Checksum.f
        refine Ev.bind (f := fun _ t => some t) (a := told s) ?_ (Ev.ok _)
        exact hi
      · refine Ev.pos ht ?_
        unfold strconv_FormatUint_96.f strconv_FormatUint_115.f
        rw [if_pos (by omega)]
        exact Ev.ok _
    have him : Ev (fun k => impl_Adler32.f k s) ⟨(Lib.decDigits (told s).toNat).toArray⟩ :=
      Ev.bind (f := fun _ t => some t) (Ev.bind (f := fun _ t => some t) hsum (Ev.ok _)) (Ev.ok _)
    refine Ev.rounds ?_
    unfold laws_FnAdler32.f
    refine Ev.neg (by omega) (Ev.neg (by omega) (Ev.bind him (Ev.bind hsp (Ev.eq ?_ (Ev.ok _)))))
    simp
  · refine ⟨0, ?_⟩
    unfold laws_FnAdler32.f
    by_cases h6 : (s.size : Int) > 2147483647
    · rw [if_pos h6]
    · rw [if_neg h6, if_pos (by omega)]
end Go.Proofs.YtagafmfmmnegfaaDoor.Pure
