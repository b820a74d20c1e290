/- (sort.StringSlice).Sort on a row of the call's own. -/
import Derived.Test.YtgjcejgcljjdhaaGreatDoorB9
import Derived.Sort.OwnSorted
set_option linter.unusedVariables false
set_option linter.unusedSimpArgs false
namespace Go.Proofs.YtgjcejgcljjdhaaGreatDoor.P
open Go.RowKit Go.Proofs.YtgjcejgcljjdhaaGreatDoorW.PrintWords Go.Proofs.YtgjcejgcljjdhaaGreatDoorW.PrintLast Go.Proofs.YtgjcejgcljjdhaaGreatDoorW.PrintMore
open Go.Sort

theorem R_strs {e : Nat} {w : World} {B : Nat} {ok : Nat → Prop} {v : Value} {xs : List ByteArray} (h : Kd.string.R e w B ok v xs) : w.ownsRow B e 1 v xs.length (xs.map Value.string) := by
  obtain ⟨_, inner, ho, hr⟩ := h
  have e : inner = xs.map Value.string := by
    apply List.ext_getElem?
    intro j
    have hlen : inner.length = xs.length := by rw [hr.1]; exact Nat.mul_one _
    by_cases hj : j < xs.length
    · have h1 := hr.2 j xs[j] (by simp [hj])
      have h2 : (inner.drop (j * 1)).take 1 = [Value.string xs[j]] := h1
      rw [Nat.mul_one] at h2
      have h3 : ((inner.drop j).take 1)[0]? = some (Value.string xs[j]) := by rw [h2]; rfl
      rw [List.getElem?_take_of_lt (by decide), List.getElem?_drop, Nat.add_zero] at h3
      rw [h3]
      simp [hj]
    · rw [List.getElem?_eq_none (by omega), List.getElem?_eq_none (by simp; omega)]
  rw [← e]
  exact ho
theorem strs_R {e : Nat} {w : World} {B : Nat} {v : Value} {xs : List ByteArray} (h : w.ownsRow B e 1 v xs.length (xs.map Value.string)) : Kd.string.R e w B (fun _ => True) v xs := by
  refine ⟨fun _ _ => trivial, _, h, by rw [List.length_map]; exact (Nat.mul_one _).symm, fun j p hj => ?_⟩
  show ((xs.map Value.string).drop (j * 1)).take 1 = [Value.string p]
  rw [Nat.mul_one]
  obtain ⟨hl, he⟩ := List.getElem?_eq_some_iff.1 hj
  rw [List.drop_eq_getElem_cons (by simpa using hl)]
  simp [he]
theorem enc_list (xs : List ByteArray) : (xs.map (·.data.toList)).map encStr = xs.map Value.string := by
  rw [List.map_map]
  rfl
theorem back_list (xs : List ByteArray) : (xs.map (·.data.toList)).map (fun l => (⟨l.toArray⟩ : ByteArray)) = xs := by
  rw [List.map_map]
  exact List.map_id _
theorem enc_back (ts : List (List UInt8)) : (ts.map (fun l => (⟨l.toArray⟩ : ByteArray))).map Value.string = ts.map encStr := by
  rw [List.map_map]
  rfl
theorem reach217 (rv : Value) : Reaches Tryz.prog 65 rv "Len" 217 := Finds.reaches (fun _ _ => by kernel_rfl) Tryz.func217 (by kernel_rfl) rv
theorem reach218 (rv : Value) : Reaches Tryz.prog 65 rv "Less" 218 := Finds.reaches (fun _ _ => by kernel_rfl) Tryz.func218 (by kernel_rfl) rv
theorem reach219 (rv : Value) : Reaches Tryz.prog 65 rv "Swap" 219 := Finds.reaches (fun _ _ => by kernel_rfl) Tryz.func219 (by kernel_rfl) rv
theorem ssort_iface {B : Nat} {w : World} {v : Value} {xs : List ByteArray} (hR : Kd.string.R 9 w B (fun _ => True) v xs) (hl : xs.length ≤ 1000) :
    Calls Tryz.prog 60 #[.iface 65 v] w fun e w' => e = .returned (.tuple #[]) ∧ ∃ ys, Kd.string.R 9 w' B (fun _ => True) v ys ∧ ys.Perm xs ∧ ys.Pairwise leB ∧ ∃ row, w.grownBy w' row ∧ ∀ k, row = some k → B ≤ k := by
  obtain ⟨A, c, rfl, hle, hC⟩ := Kd.R_reads hR
  rcases Nat.lt_or_ge 1 xs.length with h2 | h1
  · have ho := R_strs hR
    rcases ho.2 with ⟨h1, h3⟩ | ⟨g, cap, cur, h1, hb, hg, hc1, hc2, hc3, ht⟩
    · omega
    injection h1 with hA _ hcap
    subst hA
    subst hcap
    rw [Nat.mul_one, ← enc_list] at ht
    obtain ⟨ss, hss⟩ : ∃ ss, ss = xs.map (·.data.toList) := ⟨_, rfl⟩
    have hlen : ss.length = xs.length := by rw [hss, List.length_map]
    rw [← hss, ← hlen] at ht
    have hH : Holds encStr w g 0 ss.toArray := holds_of_block hg ht
    have hgl := (Array.getElem?_eq_some_iff.1 hg).1
    have hsz : ss.toArray.size = xs.length := by rw [List.size_toArray, hlen]
    have hLen := Tryz.StringSlice_Len (some ⟨g, 0, none⟩) ss.toArray.size c w
    have hLess := Tryz.StringSlice_LessM g 0 c ss.toArray w hH hgl (by omega)
    have hSwap := Tryz.StringSlice_SwapM g 0 c ss.toArray.size (by omega)
    have key := Tryz.sort_Sort_sorted 65 (.slice (some ⟨g, 0, none⟩) ss.toArray.size c) _ _ _ (reach217 _) (reach218 _) (reach219 _) encS ltStr swo_ltStr g 0 ss.toArray (by omega) (by omega) w hLen hLess hSwap hH hgl
    rw [hsz] at key
    refine key.mono ?_
    rintro e w' ⟨rfl, d', n, os, hp, hs, rfl⟩
    obtain ⟨ts, rfl⟩ : ∃ ts, d' = ts.toArray := ⟨d'.toList, by simp⟩
    have htl : ts.length = xs.length := by have := hp.1; simpa [hlen] using this
    have hperm : ts.Perm ss := by
      have := hp.2.2
      rw [List.extract_toArray, List.extract_toArray] at this
      simp only [List.extract_eq_take_drop, List.drop_zero, Nat.sub_zero] at this
      rw [List.take_of_length_le (by omega), List.take_of_length_le (by omega)] at this
      exact this
    refine ⟨rfl, ts.map (fun l => (⟨l.toArray⟩ : ByteArray)), strs_R ?_, ?_, ?_, some g, grownBy_sorted _, fun k hk => by injection hk with hk; omega⟩
    · rw [enc_back, List.length_map, htl, ← hlen]
      exact ownsRow_sorted (by omega) hb hg (by omega) hc2 (by rw [hc3])
    · have := hperm.map (fun l => (⟨l.toArray⟩ : ByteArray))
      rwa [hss, back_list] at this
    · rw [List.pairwise_map, List.pairwise_iff_getElem]
      intro i j hi hj hij
      have h4 := hs i j (Nat.zero_le _) hij (by omega)
      rw [getElem!_pos ts.toArray j (by simpa using hj), getElem!_pos ts.toArray i (by simpa using hi)] at h4
      show Op.bytesLess (⟨ts[j].toArray⟩ : ByteArray).toList (⟨ts[i].toArray⟩ : ByteArray).toList = false
      rw [Go.Proofs.bytesLess_eq]
      simpa [ltStr] using h4
  · refine (Tryz.sort_Sort_tiny (α := List UInt8) 65 (.slice A xs.length c) _ (reach217 _) xs.length h1 w (Tryz.StringSlice_Len A xs.length c w)).mono ?_
    rintro e w' ⟨rfl, q, rfl⟩
    refine ⟨rfl, xs, Kd.R_drewN hR q, List.Perm.refl _, ?_, none, ?_, fun k hk => by cases hk⟩
    · match xs, h1 with
      | [], _ => exact List.Pairwise.nil
      | [x], _ => exact List.pairwise_singleton _ _
    · exact ⟨rfl, rfl, rfl, Nat.le_refl _, fun k _ _ => rfl⟩
end Go.Proofs.YtgjcejgcljjdhaaGreatDoor.P
