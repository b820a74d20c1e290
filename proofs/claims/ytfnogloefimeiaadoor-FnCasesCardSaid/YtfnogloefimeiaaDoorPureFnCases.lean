/- Letters of ASCII as capital ones, or small ones, for every text. Nothing is assumed but what every Go string fulfils. -/
import Derived.Test.YtfnogloefimeiaaDoorPx12
import Derived.Test.YtfnogloefimeiaaDoorP9
import Derived.Lib.Case
namespace Go.Proofs.YtfnogloefimeiaaDoor.Pure
open Go.RowKit Go.Proofs.YtfnogloefimeiaaDoor.P Go.Proofs.YtfnogloefimeiaaDoorW.PrintWords Go.Proofs.YtfnogloefimeiaaDoorW.PrintLast

theorem ascii_all {s : ByteArray} (h : ascii s) : asciiL s = true := by
  unfold asciiL
  rw [List.all_eq_true]
  intro b hb
  obtain ⟨j, hj, rfl⟩ := List.getElem_of_mem hb
  have hj' : j < s.size := by rwa [size_list] at hj
  have := h j hj'
  rw [bt_nat s j hj'] at this
  refine decide_eq_true ?_
  have e : s.data.toList[j] = s[j]'hj' := by simp [ByteArray.getElem_eq_getElem_data]
  rw [e]
  omega
theorem up_byte : ∀ b : UInt8, UInt8.ofNat (upB (b.toNat : Int)).toNat = Lib.upperB b := by
  have h : ∀ n : Fin 256, UInt8.ofNat (upB ((UInt8.ofNat n).toNat : Int)).toNat = Lib.upperB (UInt8.ofNat n) := by decide +kernel
  intro b
  have := h ⟨b.toNat, b.toNat_lt⟩
  simpa using this
theorem lo_byte : ∀ b : UInt8, UInt8.ofNat (loB (b.toNat : Int)).toNat = Lib.lowerB b := by
  have h : ∀ n : Fin 256, UInt8.ofNat (loB ((UInt8.ofNat n).toNat : Int)).toNat = Lib.lowerB (UInt8.ofNat n) := by decide +kernel
  intro b
  have := h ⟨b.toNat, b.toNat_lt⟩
  simpa using this
theorem nums_text (f : Int → Int) (g : UInt8 → UInt8) (h : ∀ b : UInt8, UInt8.ofNat (f (b.toNat : Int)).toNat = g b) (s : ByteArray) : (strOfNums ((nums8 s).map f)).data.toList = s.data.toList.map g := by
  rw [strOfNums_data, nums8, List.map_map, List.map_map]
  exact List.map_congr_left fun b _ => h b
theorem upper_tells (s : ByteArray) (h : ascii s) (hs : s.size ≤ 500) : impl_Upper.f s = some ⟨(Lib.toUpperA s.data.toList).toArray⟩ := by
  unfold impl_Upper.f sprig_Upper.f sprig_upper.f strings_ToUpper.f
  rw [if_pos ⟨by omega, ascii_all h⟩]
  rfl
theorem lower_tells (s : ByteArray) (h : ascii s) (hs : s.size ≤ 500) : impl_Lower.f s = some ⟨(Lib.toLowerA s.data.toList).toArray⟩ := by
  unfold impl_Lower.f sprig_Lower.f sprig_lower.f strings_ToLower.f
  rw [if_pos ⟨by omega, ascii_all h⟩]
  rfl

theorem FnCases : laws_FnCases.Pure := by
  intro s hs
  refine Ev.rounds (g := fun k => laws_FnCases.f k s) ?_
  unfold laws_FnCases.f
  by_cases h1 : (s.size : Int) > 2147483647
  · exact Ev.pos h1 (Ev.ok _)
  refine Ev.neg h1 ?_
  obtain ⟨b, e, hb⟩ := plain9_tells [s] (by simp)
  refine Ev.bind e ?_
  cases b with
  | false => exact Ev.neg Bool.false_ne_true (Ev.ok _)
  | true =>
    refine Ev.pos rfl ?_
    obtain ⟨h5, ha⟩ := hb rfl s (by simp)
    have one : impl_Upper.f (⟨#[97]⟩ : ByteArray) = some ⟨#[65]⟩ := by
      unfold impl_Upper.f sprig_Upper.f sprig_upper.f strings_ToUpper.f
      rfl
    have s1 : spec_Upper.f s = some (strOfNums ((nums8 s).map upB)) := by
      unfold spec_Upper.f
      exact if_pos (by omega)
    have s2 : spec_Lower.f s = some (strOfNums ((nums8 s).map loB)) := by
      unfold spec_Lower.f
      exact if_pos (by omega)
    rw [upper_tells s ha h5, lower_tells s ha h5, one, s1, s2]
    refine Ev.bind (Ev.ok _) (Ev.bind (Ev.ok _) (Ev.pos ?_ (Ev.bind (Ev.ok _) (Ev.bind (Ev.ok _) (Ev.pos ?_ (Ev.bind (Ev.ok _) (Ev.eq ?_ (Ev.ok _))))))))
    · rw [ByteArray.toList_eq, ByteArray.toList_eq, nums_text upB Lib.upperB up_byte]
      rfl
    · rw [ByteArray.toList_eq, ByteArray.toList_eq, nums_text loB Lib.lowerB lo_byte]
      rfl
    · rw [beq_iff_eq, ByteArray.toList_eq]
end Go.Proofs.YtfnogloefimeiaaDoor.Pure
