/- strings.Join of a row; cat, strslice, join of simple values; impl.Cat, impl.Join. -/
import Derived.Test.YtgjcejgcljjdhaaGreatDoorB2
set_option linter.unusedVariables false
set_option linter.unusedSimpArgs false
namespace Go.Proofs.YtgjcejgcljjdhaaGreatDoor.P
open Go.RowKit Go.Proofs.YtgjcejgcljjdhaaGreatDoorW.PrintWords Go.Proofs.YtgjcejgcljjdhaaGreatDoorW.PrintLast Go.Proofs.YtgjcejgcljjdhaaGreatDoorW.PrintMore

/-- Texts with one between each two. -/
def joinB (xs : List ByteArray) (sep : ByteArray) : ByteArray := ⟨(Lib.join (xs.map (·.data.toList)) sep.data.toList).toArray⟩
theorem lens_le (xs : List (List UInt8)) (b : Nat) (h : ∀ x ∈ xs, x.length ≤ b) : Lib.lens xs ≤ xs.length * b := by
  induction xs with
  | nil => simp [Lib.lens]
  | cons x r ih =>
    have h1 := ih (fun y hy => h y (by simp [hy]))
    have h2 := h x (by simp)
    simp only [Lib.lens, List.map_cons, List.sum_cons, List.length_cons] at *
    rw [Nat.add_mul]
    omega
theorem join_le (xs : List (List UInt8)) (sep : List UInt8) (b : Nat) (h : ∀ x ∈ xs, x.length ≤ b) : (Lib.join xs sep).length ≤ xs.length * b + sep.length * xs.length := by
  cases xs with
  | nil => simp [Lib.join]
  | cons x r =>
    rw [Lib.join_cons, List.length_append, Lib.joinTail_length]
    have h1 := lens_le r b (fun y hy => h y (by simp [hy]))
    have h2 := h x (by simp)
    have h3 := Nat.mul_le_mul_left sep.length (Nat.le_succ r.length)
    simp only [List.length_cons, Nat.add_mul]
    have h4 : sep.length * (r.length + 1) = sep.length * r.length + sep.length := by rw [Nat.mul_add, Nat.mul_one]
    omega
theorem join_call {B : Nat} {u : Value} {xs : List ByteArray} {w : World} {ok : Nat → Prop} (hR : Kd.string.R 9 w B ok u xs) (sep : ByteArray) (hn : xs.length ≤ 1000) (hx : ∀ x ∈ xs, x.size ≤ 500) (hsep : sep.size ≤ 2147483647) :
    Calls Tryz.prog 43 #[u, .string sep] w fun e w' => e = .returned (.string (joinB xs sep)) ∧ Below w.heap.size w w' := by
  obtain ⟨inner, ho⟩ := Kd.R_own hR
  rcases ho.2 with ⟨h1, h2⟩ | ⟨g, cap, cur, h1, hb, hg, hc1, hc2, hc3, ht⟩
  · obtain rfl := List.eq_nil_of_length_eq_zero h2
    subst h1
    exact (Tryz.strings_Join_none none 0 sep w).mono fun e w' ⟨he, hw⟩ => ⟨he, hw ▸ Below.refl _ _⟩
  · subst h1
    refine Tryz.strings_Join g 0 cap xs sep w (fun j x hj => ?_) (Array.getElem?_eq_some_iff.1 hg).1 (by omega) hc1 ?_
    · obtain ⟨hj1, hj2⟩ := List.getElem?_eq_some_iff.1 hj
      have h := (Kd.R_cell (d := ByteArray.empty) hR (j : Int) (by omega) (by omega)).1
      rw [Int.toNat_natCast] at h
      rw [Nat.zero_add, h]
      simp [rdOf, List.getD_eq_getElem?_getD, hj]
    · have h := join_le (xs.map (·.data.toList)) sep.data.toList 500 (fun y hy => by
        obtain ⟨z, hz, rfl⟩ := List.mem_map.1 hy
        have := hx z hz
        rw [Array.length_toList]
        exact this)
      rw [List.length_map] at h
      have e1 : sep.data.toList.length ≤ 2147483647 := by rw [Array.length_toList]; exact hsep
      have h5 : sep.data.toList.length * xs.length ≤ 2147483647 * 1000 := Nat.mul_le_mul e1 hn
      have h6 : xs.length * 500 ≤ 1000 * 500 := Nat.mul_le_mul_right 500 hn
      omega
theorem txts_size {m : List S36} (h : ∀ x ∈ m, simpV x = true) : ∀ y ∈ m.map txtV, y.size ≤ 500 := fun y hy => by
  obtain ⟨x, hx, rfl⟩ := List.mem_map.1 hy
  exact txtV_size (h x hx)
theorem filt_simp {l : List S36} (h : ∀ x ∈ l, simpV x = true) : ∀ x ∈ l.filter fullV, simpV x = true ∧ fullV x = true := fun x hx => by
  rw [List.mem_filter] at hx
  exact ⟨h x hx.1, hx.2⟩
set_option maxHeartbeats 3200000 in
set_option maxRecDepth 100000 in
theorem cat_call (l : List S36) (A : Option Addr) (c : Nat) (w : World) (hs : ∀ x ∈ l, simpV x = true) (hl : l.length ≤ 1000) (hc : kV.C w A l.length l) (hT : TabsW w) :
    Calls Tryz.prog 36 #[.slice A l.length c] w fun e w' => e = .returned (.string (joinB ((l.filter fullV).map txtV) ⟨#[32]⟩)) ∧ Below w.heap.size w w' := by
  have HRM := Lib.hid (removeNil_call l A c w hs hl hc)
  have HML := Lib.hid (show (l.filter fullV).length ≤ 1000 from Nat.le_trans (List.length_filter_le _ _) hl)
  have HMS := Lib.hid (filt_simp hs)
  have HT := Lib.hid hT
  clear hs hc hT
  obtain ⟨m, hm⟩ : ∃ m, m = l.filter fullV := ⟨_, rfl⟩
  rw [← hm] at HRM HML HMS ⊢
  clear hm
  go_enter Tryz.func36, Tryz.ntmps36
  go_wp2_with fail
  refine HRM.out.mono ?_
  rintro e w1 ⟨u, rfl, hr1, hb1⟩
  obtain ⟨A1, c1, rfl, hle1, hC1⟩ := Kd.R_reads hr1
  have hN0 := HML.out
  have HMK := fun W => make0 (P := Tryz.prog) 27 9 (.string ⟨#[]⟩) Tryz.underlying27 info_str rfl m.length hN0 W
  have HC := Lib.hid hC1
  have HB1 := Lib.hid hb1
  clear hr1 hC1 hb1 HRM hl hle1
  obtain ⟨N, hNN⟩ : ∃ N, N = m.length := ⟨_, rfl⟩
  have HN := Lib.hid hNN
  rw [← hNN] at hN0 HMK ⊢
  clear hNN
  have HG := Lib.hid (show Kd.string.R 9 (w1.alloc (.cells (madeCells #[.string ⟨#[]⟩] N) 9)) w1.heap.size (fun _ => True) (.slice (some ⟨w1.heap.size, 0, none⟩) 0 N) [] from R_made0 rfl w1 _ N hN0)
  have HB := Lib.hid ((Below.refl w1.heap.size w1).alloc (Nat.le_refl _) (.cells (madeCells #[.string ⟨#[]⟩] N) 9))
  have HS := Lib.hid (show w1.heap.size ≤ (w1.alloc (.cells (madeCells #[.string ⟨#[]⟩] N) 9)).heap.size by simp)
  have HT1 := Lib.hid (HT.out.below HB1.out)
  go_wp2
  go_loopw [3, 5, 13] (fun v y i wr => ∃ (k : Nat) (v' y' : Value), v' = v ∧ y' = y ∧ i = .int .i64 k ∧ k ≤ N ∧ Hid (Kd.string.R 9 wr w1.heap.size (fun _ => True) v' ((m.map txtV).take k)) ∧ Hid (Below w1.heap.size w1 wr) ∧ Hid (w1.heap.size ≤ wr.heap.size)) (fun _ _ i _ => N - (intOf i).toNat)
  case atStart => exact ⟨0, _, _, rfl, rfl, rfl, Nat.zero_le _, by rw [List.take_zero]; exact HG, HB, HS⟩
  case round =>
    clear HG HB HS HMK
    obtain ⟨k, v, y0, rfl, rfl, rfl, hk, hG, hB, hS⟩ := hrel
    by_cases ck : k < N
    · obtain ⟨ad, rfl, q0⟩ := at_V (Kd.C_below HC.out hB.out) (k : Int) (by omega) (by rw [← HN.out]; omega)
      simp only [Int.toNat_natCast] at q0
      have hkl : k < m.length := by rw [← HN.out]; exact ck
      have hkd : rd_T36 m (k : Int) = m.getD k z36 := by unfold rd_T36; rw [Int.toNat_natCast]
      have HSX := Lib.hid (show simpV (rd_T36 m (k : Int)) = true ∧ fullV (rd_T36 m (k : Int)) = true by rw [hkd]; exact HMS.out _ (getD_mem hkl))
      have HTK := Lib.hid (show (m.map txtV).take (k + 1) = (m.map txtV).take k ++ [txtV (rd_T36 m (k : Int))] by rw [hkd, ← List.map_take, take_getD hkl, List.map_append, List.map_take]; rfl)
      have HLT := Lib.hid (show ((m.map txtV).take k).length = k by rw [List.length_take, List.length_map]; omega)
      clear hkd hkl
      generalize rd_T36 m (k : Int) = x at *
      have HZ := Lib.hid (zzText_call HSX.out.1 HSX.out.2 wr (HT1.out.below hB.out))
      generalize encV x = xv at *
      generalize txtV x = tx at *
      go_wp2_with fail
      refine HZ.out.mono ?_
      rintro e w2 ⟨rfl, hb⟩
      have HG2 := Lib.hid (Kd.R_below hG.out hb)
      have HB2 := Lib.hid (hB.out.trans (hb.mono hS.out))
      have HS2 := Lib.hid (Nat.le_trans hS.out hb.size)
      have HM := Lib.hid (show Kd.string.M w2 w1.heap.size (fun _ => False) tx [.string tx] from rfl)
      clear hb hG hB hS HZ q0
      go_wp2_with (at_builtin; refine Kd.R_append Kd.string (w0 := w1) w1.heap.size rfl _ _ 27 9 (.string ⟨#[]⟩) 16 rfl Tryz.underlying27 info_str rfl (Nat.succ_pos 0) (by decide) v ((m.map txtV).take k) tx [.string tx] (fun _ => True) (fun _ => False) rfl rfl HM.out (fun _ h => h.elim) (fun _ _ => trivial) HG2.out HB2.out HS2.out (by rw [HLT.out]; omega) ?_)
      intro v1 w3 h1 hb3 hgr hat
      have HG3 := Lib.hid (show Kd.string.R 9 w3 w1.heap.size (fun _ => True) v1 ((m.map txtV).take (k + 1)) by rw [HTK.out]; exact h1)
      have HB3 := Lib.hid hb3
      have HS3 := Lib.hid (Nat.le_trans HS2.out hgr.size)
      clear h1 hb3 hgr hat HG2 HB2 HS2 HTK HLT HM
      go_wp2
      go_roundw
      case rel => exact ⟨k + 1, v1, _, rfl, rfl, by go_num, by omega, HG3, HB3, HS3⟩
      case measure => simp [intOf]; omega
    · have hkn : k = N := by omega
      subst hkn
      have HG3 := Lib.hid (show Kd.string.R 9 wr w1.heap.size (fun _ => True) v (m.map txtV) by have := hG.out; rwa [HN.out, List.take_of_length_le (by rw [List.length_map]; exact Nat.le_refl _)] at this)
      clear hG
      go_wp2_with fail
      refine (join_call HG3.out ⟨#[32]⟩ (by rw [List.length_map]; exact HML.out) (txts_size (fun x hx => (HMS.out x hx).1)) (by decide)).mono ?_
      rintro e w3 ⟨rfl, hb3⟩
      have HB3 := Lib.hid (HB1.out.trans ((hB.out.trans (hb3.mono hS.out)).mono HB1.out.size))
      clear hb3
      go_wp2
      go_ret
      exact ⟨rfl, HB3.out⟩
end Go.Proofs.YtgjcejgcljjdhaaGreatDoor.P
