-- WRITTEN by xprint.py (a program of this session, over the kit's print) out of the translation. Not trusted: Lean checks it.
import Derived.Test.YtjpibaehpmkdmaaDoorPx0
import Derived.Test.YtjpibaehpmkdmaaDoorPx5
namespace Go.Proofs.YtjpibaehpmkdmaaDoor.P
open Go.RowKit Go.Proofs.YtjpibaehpmkdmaaDoorW.PrintWords Go.Proofs.YtjpibaehpmkdmaaDoorW.PrintLast Go.Proofs.YtjpibaehpmkdmaaDoorW.PrintMore
attribute [local go_sem] max2_int min2_int max_two min_two max_three min_three max_four min_four run_store_float   -- for this text's walks alone
set_option linter.unusedVariables false
set_option linter.unusedSimpArgs false

-- GIVEN by hand: function 80 (sprig_intArrayToString)
/-! ### sprig_intArrayToString: function 80 -/
/-- Texts with one between each two. -/
def joinB (xs : List ByteArray) (sep : ByteArray) : ByteArray := ⟨(Lib.join (xs.map (·.data.toList)) sep.data.toList).toArray⟩
def decB (n : Int) : ByteArray := ⟨(Lib.itoa n).toArray⟩
def i64in (n : Int) : Bool := decide (-9223372036854775808 ≤ n) && decide (n ≤ 9223372036854775807)
theorem itoa_len (n : Int) (h0 : -9223372036854775808 ≤ n) (h1 : n ≤ 9223372036854775807) : (decB n).size ≤ 500 := by
  have := Lib.itoa_length_le n h0 h1
  show (Lib.itoa n).toArray.size ≤ 500
  rw [List.size_toArray]
  omega
theorem lens_le (xs : List (List UInt8)) (b : Nat) (h : ∀ x ∈ xs, x.length ≤ b) : Lib.lens xs ≤ xs.length * b := by
  induction xs with
  | nil => simp [Lib.lens]
  | cons x r ih =>
    have h1 := ih (fun y hy => h y (by simp [hy]))
    have h2 := h x (by simp)
    simp only [Lib.lens, List.map_cons, List.sum_cons, List.length_cons] at *
    rw [Nat.add_mul]
    omega
theorem join_le (xs : List (List UInt8)) (sep : List UInt8) (b : Nat) (h : ∀ x ∈ xs, x.length ≤ b) : (Lib.join xs sep).length ≤ xs.length * b + sep.length * xs.length := by
  cases xs with
  | nil => simp [Lib.join]
  | cons x r =>
    rw [Lib.join_cons, List.length_append, Lib.joinTail_length]
    have h1 := lens_le r b (fun y hy => h y (by simp [hy]))
    have h2 := h x (by simp)
    have h3 := Nat.mul_le_mul_left sep.length (Nat.le_succ r.length)
    simp only [List.length_cons, Nat.add_mul]
    have h4 : sep.length * (r.length + 1) = sep.length * r.length + sep.length := by rw [Nat.mul_add, Nat.mul_one]
    omega
theorem join_call {B : Nat} {u : Value} {xs : List ByteArray} {w : World} {ok : Nat → Prop} (hR : Kd.string.R 9 w B ok u xs) (sep : ByteArray) (hn : xs.length ≤ 1000) (hx : ∀ x ∈ xs, x.size ≤ 500) (hsep : sep.size ≤ 2147483647) :
    Calls Tryd.prog 104 #[u, .string sep] w fun e w' => e = .returned (.string (joinB xs sep)) ∧ Below w.heap.size w w' := by
  obtain ⟨inner, ho⟩ := Kd.R_own hR
  rcases ho.2 with ⟨h1, h2⟩ | ⟨g, cap, cur, h1, hb, hg, hc1, hc2, hc3, ht⟩
  · obtain rfl := List.eq_nil_of_length_eq_zero h2
    subst h1
    exact (Tryd.strings_Join_none none 0 sep w).mono fun e w' ⟨he, hw⟩ => ⟨he, hw ▸ Below.refl _ _⟩
  · subst h1
    refine Tryd.strings_Join g 0 cap xs sep w (fun j x hj => ?_) (Array.getElem?_eq_some_iff.1 hg).1 (by omega) hc1 ?_
    · obtain ⟨hj1, hj2⟩ := List.getElem?_eq_some_iff.1 hj
      have h := (Kd.R_cell (d := ByteArray.empty) hR (j : Int) (by omega) (by omega)).1
      rw [Int.toNat_natCast] at h
      rw [Nat.zero_add, h]
      simp [rdOf, List.getD_eq_getElem?_getD, hj]
    · have h := join_le (xs.map (·.data.toList)) sep.data.toList 500 (fun y hy => by
        obtain ⟨z, hz, rfl⟩ := List.mem_map.1 hy
        have := hx z hz
        rw [Array.length_toList]
        exact this)
      rw [List.length_map] at h
      have e1 : sep.data.toList.length ≤ 2147483647 := by rw [Array.length_toList]; exact hsep
      have h5 : sep.data.toList.length * xs.length ≤ 2147483647 * 1000 := Nat.mul_le_mul e1 hn
      have h6 : xs.length * 500 ≤ 1000 * 500 := Nat.mul_le_mul_right 500 hn
      omega
theorem info_str : (Tryd.prog.info? 9).map (fun i => (i.zero, i.size, i.bytes)) = some (some (.string ⟨#[]⟩), 1, 16) := by kernel_rfl
/-- make of no elements with room for n. -/
theorem make0 {P : Program} (t e : TypeId) (z : Value) (ht : P.underlying t = some (.slice e)) (hinfo : (P.info? e).map (fun i => (i.zero, i.size, i.bytes)) = some (some z, 1, 16)) (hz : z.cells = #[z]) (n : Nat) (hn : n ≤ 1000) (W : World) :
    (Instr.makeSlice t (.int .i64 0) (.int .i64 (n : Int))).run P W = .ok (.slice (some ⟨W.heap.size, 0, none⟩) 0 n) (W.alloc (.cells (madeCells #[z] n) e)) := by
  obtain ⟨i, hi, hzz⟩ := Option.map_eq_some_iff.1 hinfo
  simp only [Prod.mk.injEq] at hzz
  obtain ⟨h1, h2, h3⟩ := hzz
  have hr := run_make (P := P) W t e i z ht hi h1 .i64 .i64 0 (n : Int) (Int.le_refl _) (by omega) (by rw [h3]; omega) (by omega)
  simp only [Int.toNat_zero, Int.toNat_natCast] at hr
  rw [hr, h2, hz, Nat.mul_one]
theorem R_made0 {α : Type} {d : Kd α} (hd : d.sz = 1) {e : Nat} (W : World) (z : Value) (n : Nat) (hn : n ≤ 1000) : d.R e (W.alloc (.cells (madeCells #[z] n) e)) W.heap.size (fun _ => True) (.slice (some ⟨W.heap.size, 0, none⟩) 0 n) [] := by
  refine ⟨fun _ _ => trivial, [], ?_, Reps.none _ _⟩
  have h := World.ownsRow_made (base := W.heap.size) (e := e) (size := 1) W (madeCells #[z] n) n (Nat.le_refl _) (by unfold maxLen; omega) (by rw [size_madeCells]; simp)
  rw [hd]
  exact h
def sprig_intArrayToString.f (l0 : List Int) (a1 : ByteArray) : Option ByteArray := if l0.length ≤ 1000 ∧ l0.all i64in = true ∧ a1.size ≤ 1000 then some (joinB (l0.map decB) a1) else none
set_option maxHeartbeats 3200000 in
set_option maxRecDepth 100000 in
theorem sprig_intArrayToString.walk (l : List Int) (sep : ByteArray) (A : Option Addr) (c : Nat) (w : World) (hl : l.length ≤ 1000) (hs : ∀ x ∈ l, i64in x = true) (hsep : sep.size ≤ 1000) (hc : (Kd.int .i64).C w A l.length l) (hT : TabsW w) :
    Calls Tryd.prog 80 #[.slice A l.length c, .string sep] w fun e w' => e = .returned (.string (joinB (l.map decB) sep)) ∧ Below w.heap.size w w' := by
  have HF := Lib.hid hs
  have HC := Lib.hid hc
  have HT := Lib.hid hT
  have HSEP := Lib.hid hsep
  have HMK := fun W => make0 (P := Tryd.prog) 47 9 (.string ⟨#[]⟩) Tryd.underlying47 info_str rfl l.length hl W
  clear hs hc hT hsep
  obtain ⟨N, hNN⟩ : ∃ N, N = l.length := ⟨_, rfl⟩
  have HN := Lib.hid hNN
  rw [← hNN] at hl HMK ⊢
  clear hNN
  have HG := Lib.hid (show Kd.string.R 9 (w.alloc (.cells (madeCells #[.string ⟨#[]⟩] N) 9)) w.heap.size (fun _ => True) (.slice (some ⟨w.heap.size, 0, none⟩) 0 N) [] from R_made0 rfl w _ N hl)
  have HB := Lib.hid ((Below.refl w.heap.size w).alloc (Nat.le_refl _) (.cells (madeCells #[.string ⟨#[]⟩] N) 9))
  have HS := Lib.hid (show w.heap.size ≤ (w.alloc (.cells (madeCells #[.string ⟨#[]⟩] N) 9)).heap.size by simp)
  go_enter Tryd.func80, Tryd.ntmps80
  go_wp2
  go_loopw [5, 7, 13] (fun v y i wr => ∃ (k : Nat) (v' y' : Value), v' = v ∧ y' = y ∧ i = .int .i64 k ∧ k ≤ N ∧ Hid (Kd.string.R 9 wr w.heap.size (fun _ => True) v' ((l.take k).map decB)) ∧ Hid (Below w.heap.size w wr) ∧ Hid (w.heap.size ≤ wr.heap.size)) (fun _ _ i _ => N - (intOf i).toNat)
  case atStart => exact ⟨0, _, _, rfl, rfl, rfl, Nat.zero_le _, by rw [List.take_zero]; exact HG, HB, HS⟩
  case round =>
    clear HG HB HS HMK
    obtain ⟨k, v, y0, rfl, rfl, rfl, hk, hG, hB, hS⟩ := hrel
    by_cases ck : k < N
    · obtain ⟨ad, rfl, q0⟩ := Kd.at_int (Kd.C_below HC.out hB.out) (k : Int) (by omega) (by rw [← HN.out]; omega)
      simp only [Int.toNat_natCast] at q0
      have hkl : k < l.length := by rw [← HN.out]; exact ck
      have hkd : rd l (k : Int) = l[k] := by simp [rd, List.getD_eq_getElem?_getD, hkl]
      have hsx : i64in (rd l (k : Int)) = true := by rw [hkd]; exact HF.out _ (List.getElem_mem hkl)
      have HTK := Lib.hid (show (l.take (k + 1)).map decB = (l.take k).map decB ++ [decB (rd l (k : Int))] by rw [hkd, List.take_succ_eq_append_getElem hkl, List.map_append]; rfl)
      have HLT := Lib.hid (show ((l.take k).map decB).length ≤ k by rw [List.length_map]; exact List.length_take_le _ _)
      clear hkd hkl
      generalize rd l (k : Int) = x at *
      generalize (l.take k).map decB = xs at *
      simp only [i64in, Bool.and_eq_true, decide_eq_true_eq] at hsx
      have HZ := Lib.hid (Tryd.strconv_Itoa x hsx.1 hsx.2 wr (HT.out.below hB.out))
      clear hsx
      go_wp2_with fail
      refine HZ.out.mono ?_
      rintro e w2 ⟨rfl, k2, os, rfl⟩
      have hb := below_grow_ wr k2 os
      generalize Sort.grow (wr.drewN k2) os = w2 at *
      have HG2 := Lib.hid (Kd.R_below hG.out hb)
      have HB2 := Lib.hid (hB.out.trans (hb.mono hS.out))
      have HS2 := Lib.hid (Nat.le_trans hS.out hb.size)
      have HM := Lib.hid (show Kd.string.M w2 w.heap.size (fun _ => False) (decB x) [.string (decB x)] from rfl)
      change Hid (Kd.string.M w2 w.heap.size (fun _ => False) (decB x) [.string ⟨(Lib.itoa x).toArray⟩]) at HM
      clear hb hG hB hS HZ q0
      go_wp2_with (at_builtin; refine Kd.R_append Kd.string (w0 := w) w.heap.size rfl _ _ 47 9 (.string ⟨#[]⟩) 16 rfl Tryd.underlying47 info_str rfl (Nat.succ_pos 0) (by decide) v xs (decB x) [.string ⟨(Lib.itoa x).toArray⟩] (fun _ => True) (fun _ => False) rfl rfl HM.out (fun _ h => h.elim) (fun _ _ => trivial) HG2.out HB2.out HS2.out (by have := HLT.out; omega) ?_)
      intro v1 w3 h1 hb3 hgr hat
      have HG3 := Lib.hid (show Kd.string.R 9 w3 w.heap.size (fun _ => True) v1 ((l.take (k + 1)).map decB) by rw [HTK.out]; exact h1)
      have HB3 := Lib.hid hb3
      have HS3 := Lib.hid (Nat.le_trans HS2.out hgr.size)
      clear h1 hb3 hgr hat HG2 HB2 HS2 HTK HLT HM
      go_wp2
      go_roundw
      case rel => exact ⟨k + 1, v1, _, rfl, rfl, by go_num, by omega, HG3, HB3, HS3⟩
      case measure => simp [intOf]; omega
    · have hkn : k = N := by omega
      subst hkn
      have HG3 := Lib.hid (show Kd.string.R 9 wr w.heap.size (fun _ => True) v (l.map decB) by have := hG.out; rwa [HN.out, List.take_length] at this)
      clear hG
      have HJ := Lib.hid (join_call HG3.out sep (by rw [List.length_map, ← HN.out]; exact hl) (fun y hy => by
        obtain ⟨x, hx, rfl⟩ := List.mem_map.1 hy
        have h := HF.out x hx
        simp only [i64in, Bool.and_eq_true, decide_eq_true_eq] at h
        exact itoa_len x h.1 h.2) (by have := HSEP.out; omega))
      go_wp2_with fail
      refine HJ.out.mono ?_
      rintro e w2 ⟨rfl, hb⟩
      have HB2 := Lib.hid (hB.out.trans (hb.mono hS.out))
      clear hb HJ
      go_wp2
      go_ret
      exact ⟨rfl, HB2.out⟩
theorem sprig_intArrayToString.calls (A0 : Option Addr) (c0 : Nat) (l0 : List Int) (a1 : ByteArray) (r : ByteArray) (w : World) (hr0 : (Kd.int .i64).C w A0 l0.length l0) (hc0 : l0.length ≤ c0) (h : sprig_intArrayToString.f l0 a1 = some r) (HT0 : TabsW w) :
    Calls Tryd.prog 80 #[.slice A0 l0.length c0, .string a1] w fun e w' => e = .returned (.string r) ∧ Below w.heap.size w w' := by
  unfold sprig_intArrayToString.f at h
  split at h
  · rename_i hc
    injection h with h
    subst h
    exact sprig_intArrayToString.walk l0 a1 A0 c0 w hc.1 (List.all_eq_true.1 hc.2.1) hc.2.2 hr0 HT0
  · cases h

end Go.Proofs.YtjpibaehpmkdmaaDoor.P
