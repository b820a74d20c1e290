/- laws.values9, spec.Joined, laws.text9; FnCat and FnJoin hold. -/
import Derived.Test.YtgjcejgcljjdhaaGreatDoorB6z
import Derived.Test.YtgjcejgcljjdhaaGreatDoorVV
set_option linter.unusedVariables false
set_option linter.unusedSimpArgs false
namespace Go.Proofs.YtgjcejgcljjdhaaGreatDoor.P
open Go.RowKit Go.Proofs.YtgjcejgcljjdhaaGreatDoorW.PrintWords Go.Proofs.YtgjcejgcljjdhaaGreatDoorW.PrintLast Go.Proofs.YtgjcejgcljjdhaaGreatDoorW.PrintMore
attribute [local go_sem] run_store_float

theorem info_val : (Tryz.prog.info? 36).map (fun i => (i.zero, i.size, i.bytes)) = some (some (.agg #[(.int .i64 0), (.int .i64 0), (.float .f64 0), (.string ⟨#[]⟩), (.slice none 0 0), (.slice none 0 0)]), 6, 88) := by kernel_rfl
/-- A text as a value. -/
def textV (s : ByteArray) : S36 := ⟨5, 0, 0, s, [], []⟩
theorem textV_simp {s : ByteArray} (h : s.size ≤ 500) : simpV (textV s) = true := good_simp ⟨.inr (.inr (.inr (.inr rfl))), h⟩ (by show (-9223372036854775808 : Int) ≤ 0; decide) (by show (0 : Int) ≤ 9223372036854775807; decide)
theorem textV_txt (s : ByteArray) : txtV (textV s) = s := rfl
theorem textV_full (s : ByteArray) : fullV (textV s) = true := rfl
theorem texts_full (xs : List ByteArray) : ((xs.map textV).filter fullV).map txtV = xs := by
  induction xs with
  | nil => rfl
  | cons x r ih => rw [List.map_cons, List.filter_cons_of_pos (textV_full x), List.map_cons, ih, textV_txt]
theorem textV_M (w : World) (B : Nat) (ok : Nat → Prop) (s : ByteArray) : k36.M w B ok (textV s) [.int .i64 5, .int .i64 0, .float .f64 0, .string s, .slice none 0 0, .slice none 0 0] :=
  k36_mkM w B ok (textV s) (Kd.R_nil _ _ _ _ _) (Kd.R_nil _ _ _ _ _)
set_option maxHeartbeats 3200000 in
set_option maxRecDepth 100000 in
theorem values9_call (xs : List ByteArray) (A : Option Addr) (c : Nat) (w : World) (hl : xs.length ≤ 1000) (hc : Kd.string.C w A xs.length xs) :
    Calls Tryz.prog 12 #[.slice A xs.length c] w fun e w' => ∃ u, e = .returned u ∧ k36.R 36 w' w.heap.size (fun _ => True) u (xs.map textV) ∧ Below w.heap.size w w' := by
  have HC := Lib.hid hc
  clear hc
  obtain ⟨N, hNN⟩ : ∃ N, N = xs.length := ⟨_, rfl⟩
  have HN := Lib.hid hNN
  obtain ⟨L, hLL⟩ : ∃ L, L = xs.map textV := ⟨_, rfl⟩
  have HL := Lib.hid hLL
  rw [← hNN] at hl ⊢
  rw [← hLL]
  have HLN := Lib.hid (show L.length = N by rw [hLL, List.length_map, hNN])
  clear hNN hLL
  have HG := Lib.hid (show k36.R 36 w w.heap.size (fun _ => True) (.slice none 0 0) [] from Kd.R_nil _ _ _ _ _)
  have HB := Lib.hid (Below.refl w.heap.size w)
  have HS := Lib.hid (Nat.le_refl w.heap.size)
  go_enter Tryz.func12, Tryz.ntmps12
  go_wp2
  go_loopw [3, 4, 7] (fun v y i wr => ∃ (k : Nat) (v' y' : Value), v' = v ∧ y' = y ∧ i = .int .i64 k ∧ k ≤ N ∧ Hid (k36.R 36 wr w.heap.size (fun _ => True) v' (L.take k)) ∧ Hid (Below w.heap.size w wr) ∧ Hid (w.heap.size ≤ wr.heap.size)) (fun _ _ i _ => N - (intOf i).toNat)
  case atStart => exact ⟨0, _, _, rfl, rfl, rfl, Nat.zero_le _, by rw [List.take_zero]; exact HG, HB, HS⟩
  case round =>
    clear HG HB HS
    obtain ⟨k, v, y0, rfl, rfl, rfl, hk, hG, hB, hS⟩ := hrel
    by_cases ck : k < N
    · obtain ⟨ad, rfl, q0⟩ := Kd.at_string (Kd.C_below HC.out hB.out) (k : Int) (by omega) (by rw [← HN.out]; omega)
      simp only [Int.toNat_natCast] at q0
      have hkl : k < xs.length := by rw [← HN.out]; exact ck
      have HTK := Lib.hid (show L.take (k + 1) = L.take k ++ [textV (rdOf ByteArray.empty xs (k : Int))] by
        have h1 : k < L.length := by rw [HLN.out]; exact ck
        rw [List.take_succ_eq_append_getElem h1]
        congr 2
        simp [HL.out, rdOf, hkl])
      have HLT := Lib.hid (show (L.take k).length = k by rw [List.length_take, HLN.out]; omega)
      have hb1 : (0 : Int) ≤ (k : Int) := by omega
      have hb2 : (k : Int) < (N : Int) := by omega
      clear hkl
      generalize rdOf ByteArray.empty xs (k : Int) = s at *
      have HM := Lib.hid (textV_M wr w.heap.size (fun _ => False) s)
      go_wp2_with (at_builtin; refine Kd.R_append k36 (w0 := w) w.heap.size rfl _ _ 22 36 (.agg #[(.int .i64 0), (.int .i64 0), (.float .f64 0), (.string ⟨#[]⟩), (.slice none 0 0), (.slice none 0 0)]) 88 rfl Tryz.underlying22 info_val rfl (by decide) (by decide) v (L.take k) (textV s) [.int .i64 5, .int .i64 0, .float .f64 0, .string s, .slice none 0 0, .slice none 0 0] (fun _ => True) (fun _ => False) rfl rfl HM.out (fun _ h => h.elim) (fun _ _ => trivial) hG.out hB.out hS.out (by rw [HLT.out]; omega) ?_)
      intro v1 w3 h1 hb3 hgr hat
      have HG3 := Lib.hid (show k36.R 36 w3 w.heap.size (fun _ => True) v1 (L.take (k + 1)) by rw [HTK.out]; exact h1)
      have HB3 := Lib.hid hb3
      have HS3 := Lib.hid (Nat.le_trans hS.out hgr.size)
      clear h1 hb3 hgr hat hG hB hS HTK HLT HM q0
      go_wp2
      go_roundw
      case rel => exact ⟨k + 1, v1, _, rfl, rfl, by go_num, by omega, HG3, HB3, HS3⟩
      case measure => simp [intOf]; omega
    · have hkn : k = N := by omega
      subst hkn
      have HG3 := Lib.hid (show k36.R 36 wr w.heap.size (fun _ => True) v L by have := hG.out; rwa [List.take_of_length_le (by rw [HLN.out]; exact Nat.le_refl _)] at this)
      clear hG
      go_wp2
      go_ret
      exact ⟨v, rfl, HG3.out, hB.out⟩
theorem join_more (xs : List ByteArray) (sep : ByteArray) (k : Nat) (h : k < xs.length) (h0 : 0 < k) : joinB (xs.take (k + 1)) sep = (joinB (xs.take k) sep ++ sep) ++ xs[k] := by
  cases xs with
  | nil => simp at h
  | cons x r =>
    obtain ⟨j, rfl⟩ : ∃ j, k = j + 1 := ⟨k - 1, by omega⟩
    have hj : j < r.length := by simpa using h
    apply ba_ext
    have hg : (r.map (·.data.toList))[j]? = some (r[j]).data.toList := by simp [hj]
    have h1 := Lib.joinTail_take_succ sep.data.toList (r.map (·.data.toList)) j _ hg
    simp only [joinB, List.take_succ_cons, List.map_cons, Lib.join_cons, List.map_take, append_list, List.getElem_cons_succ]
    rw [h1]
    simp
theorem join_first (xs : List ByteArray) (sep : ByteArray) (h : 0 < xs.length) : joinB (xs.take 1) sep = (⟨#[]⟩ : ByteArray) ++ xs[0] := by
  cases xs with
  | nil => simp at h
  | cons x r =>
    apply ba_ext
    simp [joinB, Lib.join_one]
theorem joinB_size (xs : List ByteArray) (sep : ByteArray) (hx : ∀ x ∈ xs, x.size ≤ 500) (hsep : sep.size ≤ 2147483647) (hn : xs.length ≤ 1000) : (joinB xs sep).size ≤ 3000000000000 := by
  have h := join_le (xs.map (·.data.toList)) sep.data.toList 500 (fun y hy => by
    obtain ⟨z, hz, rfl⟩ := List.mem_map.1 hy
    have := hx z hz
    rw [Array.length_toList]
    exact this)
  rw [List.length_map] at h
  have e1 : sep.data.toList.length ≤ 2147483647 := by rw [Array.length_toList]; exact hsep
  have h5 : sep.data.toList.length * xs.length ≤ 2147483647 * 1000 := Nat.mul_le_mul e1 hn
  have h6 : xs.length * 500 ≤ 1000 * 500 := Nat.mul_le_mul_right 500 hn
  show (Lib.join (xs.map (·.data.toList)) sep.data.toList).toArray.size ≤ _
  rw [List.size_toArray]
  omega
set_option maxHeartbeats 3200000 in
set_option maxRecDepth 100000 in
theorem joined_call (sep : ByteArray) (xs : List ByteArray) (A : Option Addr) (c : Nat) (w : World) (hl : xs.length ≤ 1000) (hx : ∀ x ∈ xs, x.size ≤ 500) (hsep : sep.size ≤ 2147483647) (hc : Kd.string.C w A xs.length xs) :
    Calls Tryz.prog 10 #[.string sep, .slice A xs.length c] w fun e w' => e = .returned (.string (joinB xs sep)) ∧ Below w.heap.size w w' := by
  have HC := Lib.hid hc
  have HSZ := Lib.hid (fun k => joinB_size (xs.take k) sep (fun x hx2 => hx x (List.mem_of_mem_take hx2)) hsep (by rw [List.length_take]; omega))
  have HX := Lib.hid hx
  have HM := Lib.hid (join_more xs sep)
  have HF := Lib.hid (join_first xs sep)
  clear hc hx
  obtain ⟨N, hNN⟩ : ∃ N, N = xs.length := ⟨_, rfl⟩
  have HN := Lib.hid hNN
  rw [← hNN] at hl ⊢
  clear hNN
  have HJ := Lib.hid (show (⟨#[]⟩ : ByteArray) = joinB (xs.take 0) sep by rw [List.take_zero]; rfl)
  have HB := Lib.hid (Below.refl w.heap.size w)
  go_enter Tryz.func10, Tryz.ntmps10
  go_wp2
  go_loopw [5, 6, 9] (fun v y i wr => ∃ (k : Nat) (acc : ByteArray) (y' : Value), v = .string acc ∧ y' = y ∧ i = .int .i64 k ∧ k ≤ N ∧ Hid (acc = joinB (xs.take k) sep) ∧ Hid (Below w.heap.size w wr)) (fun _ _ i _ => N - (intOf i).toNat)
  case atStart => exact ⟨0, _, _, rfl, rfl, rfl, Nat.zero_le _, HJ, HB⟩
  case round =>
    clear HJ HB
    obtain ⟨k, acc, y0, rfl, rfl, rfl, hk, hJ, hB⟩ := hrel
    by_cases ck : k < N
    · obtain ⟨ad, rfl, q0⟩ := Kd.at_string (Kd.C_below HC.out hB.out) (k : Int) (by omega) (by rw [← HN.out]; omega)
      simp only [Int.toNat_natCast] at q0
      have hkl : k < xs.length := by rw [← HN.out]; exact ck
      have hrd : rdOf ByteArray.empty xs (k : Int) = xs[k] := by simp [rdOf, hkl]
      have hs1 : (rdOf ByteArray.empty xs (k : Int)).size ≤ 500 := by rw [hrd]; exact HX.out _ (List.getElem_mem hkl)
      have hs2 : acc.size ≤ 3000000000000 := by rw [hJ.out]; exact HSZ.out k
      have HNX := Lib.hid (show (0 < k → (acc ++ sep) ++ rdOf ByteArray.empty xs (k : Int) = joinB (xs.take (k + 1)) sep) ∧ (k = 0 → acc ++ rdOf ByteArray.empty xs (k : Int) = joinB (xs.take (k + 1)) sep) from
        ⟨fun h => by rw [hrd, HM.out k hkl h, ← hJ.out], fun h => by
          subst h
          have e : acc = ⟨#[]⟩ := by rw [hJ.out, List.take_zero]; rfl
          rw [hrd, e, HF.out hkl]⟩)
      clear hkl hrd hJ
      generalize rdOf ByteArray.empty xs (k : Int) = s at *
      have t1 : acc.size + sep.size ≤ 9223372036854775807 := by omega
      have t2 : acc.size + sep.size + s.size ≤ 9223372036854775807 := by omega
      have t3 : acc.size + s.size ≤ 9223372036854775807 := by omega
      have t4 : (acc ++ sep).size + s.size ≤ 9223372036854775807 := by rw [ByteArray.size_append]; omega
      clear hs1 hs2
      by_cases c0 : 0 < k
      · have b0 : decide (0 < k) = true := decide_eq_true c0
        have b1 : decide (0 < (k : Int)) = true := decide_eq_true (by omega)
        have HNX1 := Lib.hid (HNX.out.1 c0)
        clear HNX c0
        go_wp2
        go_roundw
        case rel => exact ⟨k + 1, _, _, rfl, rfl, by go_num, by omega, HNX1, hB⟩
        case measure => simp [intOf]; omega
      · obtain rfl : k = 0 := by omega
        have HNX1 := Lib.hid (HNX.out.2 rfl)
        have q1 : wr.cell? ad = some (.string s) := by simpa [Addr.add] using q0
        clear HNX c0
        go_wp2
        go_roundw
        case rel => exact ⟨1, _, _, rfl, rfl, by first | rfl | go_num, by omega, HNX1, hB⟩
        case measure => simp [intOf]; omega
    · have hkn : k = N := by omega
      subst hkn
      have HFIN := Lib.hid (show acc = joinB xs sep by rw [hJ.out, HN.out, List.take_length])
      clear hJ
      go_wp2
      go_ret
      exact ⟨(by rw [HFIN.out]; rfl), hB.out⟩
set_option maxHeartbeats 3200000 in
set_option maxRecDepth 100000 in
theorem text9_call (s : ByteArray) (hs : s.size ≤ 2147483647) : ∃ b : Bool, ∀ (a : Addr) (c : Nat) (w : World), w.cell? a = some (.string s) →
    Calls Tryz.prog 8 #[.slice (some a) 1 c] w fun e w' => e = .returned (.bool b) ∧ Below w.heap.size w w' := by
  by_cases h5 : s.size ≤ 500
  · obtain ⟨bu, hu⟩ := utf8_con s h5
    refine ⟨bu, fun a c w hc => ?_⟩
    have b0 : decide (500 < (s.size : Int)) = false := decide_eq_false (by omega)
    have b1 : decide (500 < s.size) = false := decide_eq_false (by omega)
    have HU := Lib.hid hu
    have HB := Lib.hid (Below.refl w.heap.size w)
    have HC := Lib.hid hc
    clear h5 hu hs
    go_enter Tryz.func8, Tryz.ntmps8
    go_wp2
    go_loopw [3, 6] (fun y i wr => ∃ (k : Nat) (y' : Value), y' = y ∧ i = .int .i64 k ∧ k ≤ 1 ∧ (k = 1 → bu = true) ∧ Hid (Below w.heap.size w wr) ∧ Hid (wr.cell? a = some (.string s))) (fun _ i _ => 1 - (intOf i).toNat)
    case atStart => exact ⟨0, _, rfl, rfl, Nat.zero_le _, (fun h => by cases h), HB, HC⟩
    case round =>
      clear HB HC hc
      obtain ⟨k, y0, rfl, rfl, hk, hb, hB, hC⟩ := hrel
      have hcs : k = 0 ∨ k = 1 := by omega
      rcases hcs with rfl | rfl
      · have q0 := hC.out
        clear hb hk
        have HBC := Lib.hid (fun (W : World) (hb : Below wr.heap.size wr W) => hB.out.trans (hb.mono hB.out.size))
        have ha : a.block < wr.heap.size := by
          rcases Nat.lt_or_ge a.block wr.heap.size with h | h
          · exact h
          · exfalso
            have h2 : wr.heap[a.block]? = none := by simp; omega
            simp [World.cell?, h2] at q0
        have HAB := Lib.hid ha
        clear ha
        go_wp2_with fail
        refine (HU.out _).mono ?_
        rintro e w1 ⟨rfl, hb1⟩
        have HB1 := Lib.hid (HBC.out w1 hb1)
        have HC1 := Lib.hid ((hb1.cell HAB.out).trans q0)
        clear hb1 q0 hB hC HU HBC
        cases bu with
        | false =>
          go_wp2
          go_ret
          exact ⟨rfl, HB1.out⟩
        | true =>
          go_wp2
          go_roundw
          case rel => exact ⟨1, _, rfl, rfl, Nat.le_refl _, (by simp), HB1, HC1⟩
          case measure => simp [intOf]
      · have hbu := hb rfl
        subst hbu
        clear hb
        go_wp2
        go_ret
        exact ⟨rfl, hB.out⟩
  · refine ⟨false, fun a c w hc => ?_⟩
    have b0 : decide (500 < (s.size : Int)) = true := decide_eq_true (by omega)
    have b1 : decide (500 < s.size) = true := decide_eq_true (by omega)
    have HB := Lib.hid (Below.refl w.heap.size w)
    have HC := Lib.hid hc
    clear h5 hs
    go_enter Tryz.func8, Tryz.ntmps8
    go_wp2
    go_loopw [3, 6] (fun y i wr => ∃ (y' : Value), y' = y ∧ i = .int .i64 0 ∧ Hid (Below w.heap.size w wr) ∧ Hid (wr.cell? a = some (.string s))) (fun _ i _ => 1 - (intOf i).toNat)
    case atStart => exact ⟨_, rfl, rfl, HB, HC⟩
    case round =>
      clear HB HC hc
      obtain ⟨y0, rfl, rfl, hB, hC⟩ := hrel
      have q0 := hC.out
      go_wp2
      go_ret
      exact ⟨rfl, hB.out⟩
set_option maxHeartbeats 3200000 in
set_option maxRecDepth 100000 in
theorem fnCat (l : List S36) (A : Option Addr) (c : Nat) (w : World) (hw : ∀ y ∈ l, Whole64 y) (hA : k36.C w A l.length l) (hc : l.length ≤ c) (hT : TabsW w) :
    Calls Tryz.prog 5 #[.slice A l.length c] w fun e w' => e = .returned (.bool true) ∧ Below w.heap.size w w' := by
  have HW := Lib.hid (show ∀ y ∈ l, -9223372036854775808 ≤ y.f1 ∧ y.f1 ≤ 9223372036854775807 from fun y hy => by
    cases hw y hy with
    | mk _ h1 h2 _ => exact ⟨h1, h2⟩)
  have HA := Lib.hid hA
  have HT := Lib.hid hT
  have HB := Lib.hid (Below.refl w.heap.size w)
  clear hw hA hT
  by_cases hk0 : 2147483647 < (l.length : Int)
  · have hd0 : decide (2147483647 < (l.length : Int)) = true := decide_eq_true hk0
    go_enter Tryz.func5, Tryz.ntmps5
    go_wp2
    go_ret
    exact ⟨rfl, HB.out⟩
  have hd0 : decide (2147483647 < (l.length : Int)) = false := decide_eq_false hk0
  have HSI := Lib.hid (simple_call l A c w (by omega) HA.out)
  go_enter Tryz.func5, Tryz.ntmps5
  go_wp2_with fail
  refine HSI.out.mono ?_
  rintro e w1 ⟨r, rfl, hr, hb1⟩
  have HB1 := Lib.hid hb1
  cases r with
  | false =>
    clear hr hb1 HSI
    go_wp2
    go_ret
    exact ⟨rfl, HB1.out⟩
  | true =>
    obtain ⟨hl20, hg⟩ := hr (by trivial)
    have hs : ∀ x ∈ l, simpV x = true := fun x hx => good_simp (hg x hx) (HW.out x hx).1 (HW.out x hx).2
    have HS := Lib.hid hs
    have HL := Lib.hid (show l.length ≤ 1000 by omega)
    have HCAT := Lib.hid (implCat l A c w1 hs (by omega) (Kd.C_below HA.out hb1) (HT.out.below hb1))
    clear hr hb1 HSI hg hl20 hk0 hd0 hs
    go_wp2_with fail
    refine HCAT.out.mono ?_
    rintro e w2 ⟨rfl, hb2⟩
    have HB2 := Lib.hid (HB1.out.trans (hb2.mono HB1.out.size))
    have HSA := Lib.hid (shownAll_call l A c w2 HS.out HL.out (Kd.C_below HA.out HB2.out))
    clear hb2 HCAT HB1
    go_wp2_with fail
    refine HSA.out.mono ?_
    rintro e w3 ⟨u3, rfl, hr3, hb3⟩
    have HB3 := Lib.hid (HB2.out.trans (hb3.mono HB2.out.size))
    obtain ⟨A3, c3, rfl, le3, hC3⟩ := Kd.R_reads hr3
    have hml : ((l.filter fullV).map txtV).length ≤ 1000 := by rw [List.length_map]; exact Nat.le_trans (List.length_filter_le _ _) HL.out
    have HJO := Lib.hid (joined_call ⟨#[32]⟩ ((l.filter fullV).map txtV) A3 c3 w3 hml (txts_size (fun x hx => (filt_simp HS.out x hx).1)) (by decide) hC3)
    clear hb3 HSA HB2 hr3 hC3 hml le3
    obtain ⟨m, hm⟩ : ∃ m, m = (l.filter fullV).map txtV := ⟨_, rfl⟩
    rw [← hm] at HJO ⊢
    clear hm
    go_wp2_with fail
    refine HJO.out.mono ?_
    rintro e w4 ⟨rfl, hb4⟩
    have HB4 := Lib.hid (HB3.out.trans (hb4.mono HB3.out.size))
    have HTA := Lib.hid (HT.out.below HB4.out)
    clear hb4 HJO HB3 HS HL
    go_wp2_with fail
    have hrow : Kd.string.C (w4.alloc (.cells #[.string ⟨#[97]⟩, .string ⟨#[98]⟩] 9)) (some ⟨w4.heap.size, 0, none⟩) [(⟨#[97]⟩ : ByteArray), ⟨#[98]⟩].length [⟨#[97]⟩, ⟨#[98]⟩] := by
      obtain ⟨A', c', he, _, h⟩ := Kd.R_reads (d := Kd.string) (e := 9) (base := w4.heap.size) (ok := fun _ => True) (xs := [(⟨#[97]⟩ : ByteArray), ⟨#[98]⟩]) (v := .slice (some ⟨w4.heap.size, 0, none⟩) 2 2) (w := w4.alloc (.cells #[.string ⟨#[97]⟩, .string ⟨#[98]⟩] 9)) ⟨fun _ _ => trivial, OwnRow.lit (inner := [.string ⟨#[97]⟩, .string ⟨#[98]⟩]) w4 w4.heap.size (Reps.snoc (Reps.snoc (Reps.none _ _) (show Kd.string.M _ _ _ ⟨#[97]⟩ [.string ⟨#[97]⟩] from rfl) rfl) (show Kd.string.M _ _ _ ⟨#[98]⟩ [.string ⟨#[98]⟩] from rfl) rfl) (Nat.le_refl _) (by decide)⟩
      injection he with hA _ _
      subst hA
      exact h
    refine (values9_call [⟨#[97]⟩, ⟨#[98]⟩] (some ⟨w4.heap.size, 0, none⟩) 2 _ (by decide) hrow).mono ?_
    rintro e w5 ⟨u5, rfl, hr5, hb5⟩
    obtain ⟨A5, c5, rfl, le5, hC5⟩ := Kd.R_reads hr5
    have HB5 := Lib.hid (HB4.out.trans ((((Below.refl w4.heap.size w4).alloc (Nat.le_refl _) _).trans (hb5.mono (by simp))).mono HB4.out.size))
    have HC2 := Lib.hid (implCat (([⟨#[97]⟩, ⟨#[98]⟩] : List ByteArray).map textV) A5 c5 w5 (fun x hx => by
      obtain ⟨s, hs, rfl⟩ := List.mem_map.1 hx
      exact textV_simp (by simp at hs; rcases hs with rfl | rfl <;> decide)) (by decide) hC5 (HT.out.below HB5.out))
    rw [texts_full] at HC2
    have hab : joinB [⟨#[97]⟩, ⟨#[98]⟩] ⟨#[32]⟩ = ⟨#[97, 32, 98]⟩ := by apply ba_ext; decide +kernel
    rw [hab] at HC2
    clear hr5 hb5 hC5 le5 hrow hab HB4 HTA
    go_wp2_with fail
    refine HC2.out.mono ?_
    rintro e w6 ⟨rfl, hb6⟩
    have HB6 := Lib.hid (HB5.out.trans (hb6.mono HB5.out.size))
    clear hb6 HC2
    go_wp2
    go_ret
    exact ⟨rfl, HB6.out⟩
end Go.Proofs.YtgjcejgcljjdhaaGreatDoor.P
