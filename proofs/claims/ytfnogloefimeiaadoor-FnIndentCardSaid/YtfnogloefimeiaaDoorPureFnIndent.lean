/- Each line of a text set in by so many blanks, also behind a line feed; refused for numbers below 0: for every text and every number. Nothing is assumed but what every Go string and int fulfils. -/
import Derived.Test.YtfnogloefimeiaaDoorPx9
import Derived.Test.YtfnogloefimeiaaDoorT9
import Derived.Test.YtfnogloefimeiaaDoorRepl
namespace Go.Proofs.YtfnogloefimeiaaDoor.Pure
open Go.RowKit Go.Proofs.YtfnogloefimeiaaDoor.P Go.Proofs.YtfnogloefimeiaaDoorW.PrintWords Go.Proofs.YtfnogloefimeiaaDoorW.PrintLast

theorem rep_loop (s : ByteArray) (n : Nat) (hn : n ≤ 50) (hs : s.size ≤ 500) : ∀ (d j : Nat) (acc : ByteArray), j + d = n → acc.data.toList = Lib.repeatL s.data.toList j →
    ∃ r : ByteArray, Ev (fun k => spec_Repeat.l0 k s acc n j) r ∧ r.data.toList = Lib.repeatL s.data.toList n
  | 0, j, acc, hd, ha => ⟨acc, Ev.step (fun k => by rw [spec_Repeat.l0]) (Ev.neg (by omega) (Ev.ok _)), by rw [ha, show j = n by omega]⟩
  | d + 1, j, acc, hd, ha => by
    have hl : acc.size = j * s.size := by rw [← size_list acc, ha, Lib.repeatL_length, size_list]
    have hj : j * s.size ≤ 50 * 500 := Nat.mul_le_mul (by omega) hs
    obtain ⟨r, e, hr⟩ := rep_loop s n hn hs d (j + 1) (acc ++ s) (by omega) (by rw [append_list, ha, Lib.repeatL_add, Lib.repeatL_one])
    refine ⟨r, Ev.step (fun k => by rw [spec_Repeat.l0, show wrap64 ((j : Int) + 1) = ((j + 1 : Nat) : Int) by rw [w64_in (by omega) (by omega)]; rfl]) (Ev.pos (by omega) (Ev.pos (by omega) e)), hr⟩

/-- So many blanks. -/
def pad (n : Nat) : ByteArray := ⟨(Lib.repeatL [32] n).toArray⟩
theorem pad_size (n : Nat) : (pad n).size = n := by
  rw [← size_list]
  simp [pad, Lib.repeatL_length]
theorem pad_spec (n : Nat) (h : n ≤ 20) : Ev (fun k => spec_Repeat.f k n (⟨#[32]⟩ : ByteArray)) (pad n) := by
  obtain ⟨r, e, hr⟩ := rep_loop (⟨#[32]⟩ : ByteArray) n (by omega) (by decide) n 0 ⟨#[]⟩ (by omega) rfl
  refine Ev.eq (ba_ext ?_) (by unfold spec_Repeat.f; exact e)
  rw [hr]
  simp [pad]
theorem one_size : (⟨#[32]⟩ : ByteArray).size = 1 := rfl
theorem pad_go (n : Nat) (h : n ≤ 20) : strings_Repeat.f (⟨#[32]⟩ : ByteArray) (n : Int) = some (pad n) := by
  unfold strings_Repeat.f
  rw [if_pos ⟨by omega, by omega, by rw [Int.toNat_natCast, one_size]; omega⟩, Int.toNat_natCast]
  rfl
/-- Set in so: both tell the same. -/
theorem indent_both (n : Nat) (h : n ≤ 20) (s : ByteArray) (hs : s.size ≤ 500) : ∃ t : ByteArray, t.size ≤ 2000000000 ∧ Ev (fun k => sprig_indent.f k n s) t ∧ Ev (fun k => spec_Indent.f k n s) t := by
  have z : ((⟨#[10]⟩ : ByteArray) ++ pad n).size = 1 + n := by rw [ByteArray.size_append, pad_size]; rfl
  obtain ⟨u, hu, e1, e2⟩ := replaced_same s (⟨#[10]⟩ : ByteArray) ((⟨#[10]⟩ : ByteArray) ++ pad n) (by omega) (Nat.le_refl 1) (by show (1 : Nat) ≤ _; omega) (by omega)
  refine ⟨pad n ++ u, by rw [ByteArray.size_append, pad_size]; omega, ?_, ?_⟩
  · unfold sprig_indent.f
    rw [pad_go n h]
    exact Ev.bind (Ev.ok _) (Ev.pos (by rw [pad_size]; omega) (Ev.bind e1 (Ev.pos (by rw [pad_size]; omega) (Ev.ok _))))
  · unfold spec_Indent.f
    exact Ev.bind (pad_spec n h) (Ev.pos (by rw [pad_size]; omega) (Ev.bind e2 (Ev.pos (by rw [pad_size]; omega) (Ev.ok _))))
theorem impl_indent_ok {n : Nat} {s t : ByteArray} (e : Ev (fun k => sprig_indent.f k n s) t) : Ev (fun k => impl_Indent.f k n s) (t, true) := by
  unfold impl_Indent.f sprig_Indent.f
  exact Ev.neg (by omega) (Ev.bind (Ev.bind e (Ev.ok _)) (Ev.ok _))
theorem impl_nindent_ok {n : Nat} {s t : ByteArray} (e : Ev (fun k => sprig_indent.f k n s) t) (ht : t.size ≤ 2000000000) : Ev (fun k => impl_Nindent.f k n s) ((⟨#[10]⟩ : ByteArray) ++ t, true) := by
  unfold impl_Nindent.f sprig_Nindent.f sprig_nindent.f
  exact Ev.neg (by omega) (Ev.bind (Ev.bind (Ev.bind e (Ev.pos (by omega) (Ev.ok _))) (Ev.ok _)) (Ev.ok _))

theorem FnIndent : laws_FnIndent.Pure := by
  intro n s hn hs
  refine Ev.rounds (g := fun k => laws_FnIndent.f k n s) ?_
  unfold laws_FnIndent.f
  have far : Ev (fun k => laws_FnIndent.j0 k n s true) true := Ev.step (fun k => by rw [laws_FnIndent.j0]) (Ev.pos rfl (Ev.ok _))
  by_cases h1 : (s.size : Int) > 2147483647
  · exact Ev.pos h1 (Ev.ok _)
  refine Ev.neg h1 ?_
  by_cases h2 : n > 20
  · exact Ev.pos h2 far
  refine Ev.neg h2 ?_
  obtain ⟨b, e, hb⟩ := text9_tells [s] (by simp)
  refine Ev.bind e ?_
  cases b with
  | false => exact far
  | true =>
    have hs5 : s.size ≤ 500 := (hb rfl s (by simp)).1
    refine Ev.step (fun k => by rw [laws_FnIndent.j0, Bool.not_true]) (Ev.neg Bool.false_ne_true ?_)
    by_cases h4 : n < 0
    · have a1 : Ev (fun k => impl_Indent.f k n s) (ByteArray.empty, false) := by
        unfold impl_Indent.f
        exact Ev.pos h4 (Ev.ok _)
      have a2 : Ev (fun k => impl_Nindent.f k n s) (ByteArray.empty, false) := by
        unfold impl_Nindent.f
        exact Ev.pos h4 (Ev.ok _)
      obtain ⟨t, _, e1, _⟩ := indent_both 1 (by omega) (⟨#[97]⟩ : ByteArray) (by show (1 : Nat) ≤ 500; omega)
      exact Ev.bind a1 (Ev.bind a2 (Ev.pos h4 (Ev.bind (impl_indent_ok e1) (Ev.pos rfl (Ev.neg Bool.false_ne_true (Ev.ok _))))))
    · obtain ⟨m, rfl⟩ : ∃ m : Nat, n = m := ⟨n.toNat, by omega⟩
      obtain ⟨t, ht, e1, e2⟩ := indent_both m (by omega) s hs5
      refine Ev.bind (impl_indent_ok e1) (Ev.bind (impl_nindent_ok e1 ht) (Ev.neg h4 (Ev.pos rfl (Ev.pos rfl (Ev.bind e2 (Ev.pos rfl (Ev.pos (by show 1 + t.size ≤ _; omega) (Ev.eq ?_ (Ev.ok _)))))))))
      exact beq_iff_eq.2 rfl
end Go.Proofs.YtfnogloefimeiaaDoor.Pure
