/- spec.Turned: a list the other way round. -/
import Derived.Test.YtlefdkemgfjieaaA1
import Derived.Test.YtlefdkemgfjieaaG7
set_option linter.unusedVariables false
set_option linter.unusedSimpArgs false
namespace Go.Proofs.Ytlefdkemgfjieaa.P
open Go.RowKit Go.Proofs.YtlefdkemgfjieaaW.PrintWords Go.Proofs.YtlefdkemgfjieaaW.PrintLast Go.Proofs.YtlefdkemgfjieaaW.PrintMore
attribute [local go_sem] run_store_float

/-- A row of the call's own whose elements are values that were there in world w0. -/
def Row0 (w0 : World) (B : Nat) (wr : World) (v : Value) (xs : List S26) : Prop := OwnRow (k26.K w0) 26 6 wr B v xs
theorem Row0.reads {w0 wr : World} {B : Nat} {v : Value} {xs : List S26} (h : Row0 w0 B wr v xs) (hb : Below w0.heap.size w0 wr) : ∃ A c, v = .slice A xs.length c ∧ xs.length ≤ c ∧ k26.C wr A xs.length xs := by
  obtain ⟨A, c, h1, h2, h3⟩ := OwnRow.reads h
  exact ⟨A, c, h1, h2, h3.imp_ (Below.refl _ _) (fun p cs hp => k26.K_below hb hp)⟩
theorem cell_ltR {w : World} {a : Addr} {v : Value} (h : w.cell? a = some v) : a.block < w.heap.size := by
  unfold World.cell? at h
  cases hh : w.heap[a.block]? with
  | none => simp [hh] at h
  | some o => exact (Array.getElem?_eq_some_iff.1 hh).1
theorem drop_rev (l : List S26) (m : Nat) (h : m < l.length) : (l.drop m).reverse = (l.drop (m + 1)).reverse ++ [rd_T26 l (m : Int)] := by
  rw [List.drop_eq_getElem_cons h, List.reverse_cons]
  simp [rd_T26, h]
set_option maxHeartbeats 3200000 in
set_option maxRecDepth 100000 in
theorem Turned_call (l : List S26) (A : Option Addr) (c : Nat) (w : World) (hl : l.length ≤ 1000) (hA : k26.C w A l.length l) (hc : l.length ≤ c) :
    Calls Try.prog 29 #[.slice A l.length c] w fun e w' => ∃ v, e = .returned v ∧ Row0 w w.heap.size w' v l.reverse ∧ Below w.heap.size w w' := by
  have HA := Lib.hid hA
  clear hA
  go_enter Try.func29, Try.ntmps29
  go_wp2
  go_loopw [3, 4] (fun v i wr => ∃ (m : Nat) (A3 : Option Addr) (c3 : Nat), i = .int .i64 ((m : Int) - 1) ∧ v = .slice A3 (l.length - m) c3 ∧ m ≤ l.length ∧ Hid (Row0 w w.heap.size wr v (l.drop m).reverse) ∧ Hid (Below w.heap.size w wr)) (fun _ i _ => (intOf i + 1).toNat)
  case atStart => exact ⟨l.length, none, 0, by go_num, by simp, Nat.le_refl _, Lib.hid (by rw [List.drop_length]; exact OwnRow.none_ _ _ _ _ _), Lib.hid (Below.refl _ _)⟩
  case round =>
    obtain ⟨m, A3, c3, rfl, rfl, hm, hR, hB⟩ := hrel
    by_cases ck : 0 < m
    · obtain ⟨k, rfl⟩ : ∃ k, m = k + 1 := ⟨m - 1, by omega⟩
      have hk : ((k + 1 : Nat) : Int) - 1 = (k : Int) := by omega
      rw [hk]
      obtain ⟨ad, A4, c4, A5, c5, hAd, e0, e1, e2, e3, e4, e5, l4, g4, l5, g5⟩ := at_T26 HA.out (k : Int) (by omega) (by omega)
      subst hAd
      simp only [Int.toNat_natCast] at e0 e1 e2 e3 e4 e5
      have q0 := (hB.out.cell (cell_ltR e0)).trans e0
      have q1 := (hB.out.cell (cell_ltR e1)).trans e1
      have q2 := (hB.out.cell (cell_ltR e2)).trans e2
      have q3 := (hB.out.cell (cell_ltR e3)).trans e3
      have q4 := (hB.out.cell (cell_ltR e4)).trans e4
      have q5 := (hB.out.cell (cell_ltR e5)).trans e5
      have HKx := Lib.hid (k26_mk w _ l4 g4 l5 g5)
      have ci0 : (0 : Int) ≤ (k : Int) := by omega
      have ci1 : (k : Int) < (l.length : Int) := by omega
      have ci2 : k < l.length := by omega
      have HDR := Lib.hid (drop_rev l k ci2)
      have hlr : (l.drop (k + 1)).reverse.length = l.length - (k + 1) := by simp
      have HLR := Lib.hid hlr
      clear l4 g4 l5 g5 e0 e1 e2 e3 e4 e5 hk hlr ck
      generalize rd_T26 l (k : Int) = x at *
      obtain ⟨xs, hxs⟩ : ∃ xs, xs = (l.drop (k + 1)).reverse := ⟨_, rfl⟩
      rw [← hxs] at HDR HLR hR
      clear hxs
      obtain ⟨n, hn⟩ : ∃ n, n = l.length - (k + 1) := ⟨_, rfl⟩
      rw [← hn] at HLR hR ⊢
      have HN := Lib.hid hn
      clear hn
      have hlx := HLR.out
      subst hlx
      clear HLR
      go_wp2_with (at_builtin; refine OwnRow.append (w0 := w) w.heap.size rfl _ _ 24 26 (.agg #[(.int .i64 0), (.int .i64 0), (.float .f64 0), (.string ⟨#[]⟩), (.slice none 0 0), (.slice none 0 0)]) 6 88 rfl Try.underlying24 info_val rfl (by decide) (by decide) (.slice A3 xs.length c3) xs x [.int .i64 x.f0, .int .i64 x.f1, .float .f64 x.f2, .string x.f3, .slice A4 x.f4.length c4, .slice A5 x.f5.length c5] rfl rfl HKx.out rfl (fun u hu => k26.K_one HKx.out u hu) hR.out hB.out hB.out.size (by have := HN.out; omega) ?_; intro v1 w3 h1 hb3 hg3 hat3)
      obtain ⟨A6, c6, rfl⟩ : ∃ A c, v1 = .slice A (l.length - k) c := by
        obtain ⟨A, c, h, _⟩ := OwnRow.slice_ h1
        rw [List.length_append] at h
        have := HN.out
        rw [show xs.length + [x].length = l.length - k by simp; omega] at h
        exact ⟨A, c, h⟩
      rw [← HDR.out] at h1
      have HR3 := Lib.hid (show Row0 w w.heap.size w3 (.slice A6 (l.length - k) c6) (l.drop k).reverse from h1)
      have HB3 := Lib.hid hb3
      clear h1 hb3 hg3 hat3
      go_wp2
      go_roundw
      case rel => exact ⟨k, A6, c6, by go_num, rfl, by omega, HR3, HB3⟩
      case measure => simp [intOf]
    · have hm0 : m = 0 := by omega
      subst hm0
      have HR2 := Lib.hid (show Row0 w w.heap.size wr (.slice A3 (l.length - 0) c3) l.reverse from by simpa using hR.out)
      clear hR
      go_wp2
      go_ret
      exact ⟨_, rfl, HR2.out, hB.out⟩
end Go.Proofs.Ytlefdkemgfjieaa.P
