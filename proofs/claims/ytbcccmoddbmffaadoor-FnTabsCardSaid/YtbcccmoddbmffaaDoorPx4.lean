-- WRITTEN by xprint.py (a program of this session, over the kit's print) out of the translation. Not trusted: Lean checks it.
import Derived.Test.YtbcccmoddbmffaaDoorPx0
import Derived.Test.YtbcccmoddbmffaaDoorPx3
namespace Go.Proofs.YtbcccmoddbmffaaDoor.P
open Go.RowKit Go.Proofs.YtbcccmoddbmffaaDoorW.PrintWords Go.Proofs.YtbcccmoddbmffaaDoorW.PrintLast Go.Proofs.YtbcccmoddbmffaaDoorW.PrintMore
attribute [local go_sem] max2_int min2_int max_two min_two max_three min_three max_four min_four   -- for this text's walks alone
set_option linter.unusedVariables false
set_option linter.unusedSimpArgs false

-- GIVEN by hand: function 41 (xstrings_Reverse)
/-! ### xstrings_Reverse: function 41 -/
/-- The characters of a text from place p on, each ahead of those that came before it. -/
def revGo (s : ByteArray) : Nat → Nat → List Int → List Int
  | 0, _, acc => acc
  | n + 1, p, acc => if p < s.size then revGo s n (p + (Utf8.decode s p).2) (((nums8 s).drop p).take (Utf8.decode s p).2 ++ acc) else acc
theorem revGo_step (s : ByteArray) (n p : Nat) (acc : List Int) (h : p < s.size) : revGo s (n + 1) p acc = revGo s n (p + (Utf8.decode s p).2) (((nums8 s).drop p).take (Utf8.decode s p).2 ++ acc) := by rw [revGo, if_pos h]
theorem revGo_end (s : ByteArray) (n p : Nat) (acc : List Int) (h : ¬ p < s.size) : revGo s n p acc = acc := by
  cases n with
  | zero => rw [revGo]
  | succ n => rw [revGo, if_neg h]
def xstrings_Reverse.f (a0 : ByteArray) : Option ByteArray := if a0.size ≤ 70368744177664 then some (strOfNums (revGo a0 a0.size 0 [])) else none
theorem nums8_extract (s : ByteArray) (p d : Nat) : nums8 (s.extract p (p + d)) = ((nums8 s).drop p).take d := by
  unfold nums8
  rw [extract_list, Nat.add_sub_cancel_left, List.map_take, List.map_drop]
theorem NumRow.of_own {k : IntKind} {w : World} {base e n : Nat} {v : Value} {xs : List Int} (hv : ∃ g, v = .slice (some ⟨g, 0, none⟩) n n) (h : w.ownsRow base e 1 v n (xs.map (Value.int k))) : ∃ g, v = .slice (some ⟨g, 0, none⟩) n n ∧ base ≤ g ∧ NumRow k w g e xs := by
  obtain ⟨g, rfl⟩ := hv
  obtain ⟨h1, h2 | ⟨g', cap, cur, hv, hb, hg, hn, hm, hc, ht⟩⟩ := h
  · cases h2.1
  · injection hv with ha _ hcap
    injection ha with ha
    injection ha with ha
    subst ha
    subst hcap
    rw [List.length_map, Nat.mul_one] at h1
    rw [Nat.mul_one] at hc ht
    refine ⟨g, rfl, hb, cur, (0, 0), hg, by omega, fun j _ => by simp, fun j hj => ?_⟩
    have : cur.toList = xs.map (Value.int k) := by rw [← ht, List.take_of_length_le (by simp; omega)]
    rw [← Array.getElem?_toList, this, List.getElem?_map, List.getElem?_eq_getElem hj, List.getD_eq_getElem?_getD, List.getElem?_eq_getElem hj]
    rfl
theorem NumRow.setCells {k : IntKind} {b e : Nat} : ∀ (ys : List Int) (o : Nat) (w : World) (xs : List Int), NumRow k w b e xs → o + ys.length ≤ xs.length →
    NumRow k (w.setCells b o (ys.map (Value.int k))) b e (xs.take o ++ ys ++ xs.drop (o + ys.length))
  | [], o, w, xs, h, _ => by
    have : xs.take o ++ [] ++ xs.drop (o + 0) = xs := by simp
    rw [List.length_nil, this]
    exact h
  | y :: ys, o, w, xs, h, hl => by
    rw [List.length_cons] at hl
    have h1 := h.set (j := o) (by omega) y
    have h2 := NumRow.setCells ys (o + 1) _ _ h1 (by rw [List.length_set]; omega)
    have e1 : (xs.set o y).take (o + 1) = xs.take o ++ [y] := by
      rw [List.take_succ_eq_append_getElem (by rw [List.length_set]; omega), List.take_set, List.set_eq_of_length_le (by rw [List.length_take]; omega), List.getElem_set_self]
    have e2 : (xs.set o y).drop (o + 1 + ys.length) = xs.drop (o + (ys.length + 1)) := by
      rw [List.drop_set, if_pos (by omega)]
      congr 1
      omega
    rw [e1, e2] at h2
    rw [List.map_cons, World.setCells, List.length_cons]
    simpa using h2
theorem Below.setCells {B : Nat} {w0 : World} {b : Nat} (hb : B ≤ b) : ∀ (vs : List Value) (o : Nat) (w : World), Below B w0 w → Below B w0 (w.setCells b o vs)
  | [], _, _, h => h
  | v :: vs, o, w, h => Below.setCells hb vs (o + 1) _ (h.setCell (by simpa using hb) _)
theorem nums8_cells (w : World) (e : Nat) (s : ByteArray) (g : Nat) (hg : g = w.heap.size) : ∀ j u, ((nums8 s).map (Value.int .u8))[j]? = some u → (Lib.bytesWorld w e s).cell? ((⟨g, 0, none⟩ : Addr).add j) = some u := by
  intro j u hu
  subst hg
  have hj := (List.getElem?_eq_some_iff.1 hu).1
  rw [List.length_map] at hj
  have hc := (NumRow.of_bytes w e s).cell hj
  rw [List.getElem?_map, List.getElem?_eq_getElem hj] at hu
  rw [show (⟨w.heap.size, 0, none⟩ : Addr).add j = ⟨w.heap.size, j, none⟩ by rw [Addr.add_lit, Nat.zero_add], hc, List.getD_eq_getElem?_getD, List.getElem?_eq_getElem hj]
  simpa using hu
theorem take_own (xs ys : List Int) (o n : Nat) (h : o + ys.length = n) (hn : n ≤ xs.length) : (xs.take o ++ ys ++ xs.drop (o + ys.length)).drop o = ys ++ xs.drop n := by
  rw [List.append_assoc, List.drop_left' (by rw [List.length_take]; omega), h]
set_option maxHeartbeats 1600000 in
set_option maxRecDepth 100000 in
theorem xstrings_Reverse.calls (a0 : ByteArray) (r : ByteArray) (w : World) (h : xstrings_Reverse.f a0 = some r) (HT0 : TabsU w) :
    Calls Tryd.prog 41 #[.string a0] w fun e w' => e = .returned (.string r) ∧ Below w.heap.size w w' := by
  have hsz : a0.size ≤ 70368744177664 := by
    unfold xstrings_Reverse.f at h
    split at h
    · assumption
    · cases h
  have hr : strOfNums (revGo a0 a0.size 0 []) = r := by
    unfold xstrings_Reverse.f at h
    rw [if_pos hsz] at h
    exact Option.some.inj h
  clear h
  have HT := Lib.hid HT0
  clear HT0
  have HF := Aside0.mk hr
  clear hr
  obtain ⟨i0, hi, hz0, hz1, hz2⟩ := info_parts (show (Tryd.prog.info? 5).map (fun i => (i.zero, i.size, i.bytes)) = some (some (.int .u8 0), 1, 1) by kernel_rfl)
  go_enter Tryd.func41, Tryd.ntmps41
  go_wp2_with (first | (at_make; refine wpList_make_full _ rfl _ _ 59 rfl w.heap.size 5 i0 (.int .u8 0) 1 Tryd.underlying59 hi hz0 hz1 _ _ _ _ a0.size rfl rfl rfl rfl (by rw [hz2]; omega) (by unfold maxLen; omega) (Nat.le_refl _) ?_) | fail)
  intro w1 hown hgrow
  have hR0 : NumRow .u8 w1 w.heap.size 5 (List.replicate a0.size 0) := by
    have e : (madeCells #[Value.int .u8 0] a0.size).toList = (List.replicate a0.size (0 : Int)).map (Value.int .u8) := by
      rw [List.map_replicate]
      apply List.ext_getElem
      · simp [size_madeCells]
      · intro j h1 h2
        simp [madeCells, Nat.mod_one]
    rw [e] at hown
    obtain ⟨g, hg, _, hN⟩ := NumRow.of_own ⟨_, rfl⟩ hown
    injection hg with hg
    injection hg with hg
    injection hg with hg
    rw [hg]
    exact hN
  have HB := Lib.hid (Below.grown (Below.refl w.heap.size w) hgrow (Nat.le_refl _) (fun k hk => by cases hk))
  have HW1 := Lib.hid (show w.heap.size < w1.heap.size by
    obtain ⟨cur, fz, hg, _⟩ := hR0
    exact lt_of_block hg)
  have HR0 := Lib.hid hR0
  clear hown hgrow hR0
  go_wp2
  go_loopw [0, 3, 4, 6] (fun s z t v w' => ∃ (p tl m n : Nat) (zz : Int) (acc xs : List Int), s = .string (a0.extract p a0.size) ∧ z = .int .i64 zz ∧ t = .int .i64 tl ∧ v = .slice (some ⟨w.heap.size, 0, none⟩) m a0.size ∧ p + tl = a0.size ∧ Aside0 (revGo a0 n p acc = revGo a0 a0.size 0 []) ∧ Hid (a0.size ≤ p + n) ∧ Hid (xs.length = a0.size) ∧ Hid (xs.drop tl = acc) ∧ Hid (NumRow .u8 w' w.heap.size 5 xs) ∧ Hid (w.heap.size < w'.heap.size) ∧ Hid (Below w.heap.size w w')) (fun _ _ t _ _ => (intOf t).toNat)
  case atStart => exact ⟨0, a0.size, a0.size, a0.size, 0, [], _, by rw [extract_whole], rfl, rfl, rfl, by omega, ⟨rfl⟩, Lib.hid (by omega), Lib.hid (List.length_replicate ..), Lib.hid (List.drop_eq_nil_of_le (by simp)), HR0, HW1, HB⟩
  case round =>
    obtain ⟨p, tl, m, n, zz, acc, xs, rfl, rfl, rfl, rfl, hp, hA, hn, hl, hx, hR, hW, hB⟩ := hrel
    by_cases cq : p < a0.size
    · obtain ⟨n, rfl⟩ : ∃ k, n = k + 1 := ⟨n - 1, by have := hn.out; omega⟩
      have hz : (a0.extract p a0.size).size = a0.size - p := by rw [ByteArray.size_extract, Nat.min_self]
      have hlz : ((a0.extract p a0.size).size : Int) > 0 := by rw [hz]; omega
      have hwl := width_le a0 p cq
      have hwp := width_pos a0 p cq
      have hgo := decodeGo_at a0 p cq
      have hA' := Aside0.mk ((revGo_step a0 n p acc cq).symm.trans hA.out)
      have hx1 : ((a0.extract p a0.size).extract (Utf8.decode a0 p).2 (a0.extract p a0.size).size) = a0.extract (p + (Utf8.decode a0 p).2) a0.size := extract_tail a0 p _ hwl
      have hC : utf8_DecodeRuneInString.f (a0.extract p a0.size) = some (((Utf8.decode a0 p).1 : Int), ((Utf8.decode a0 p).2 : Int)) := by unfold utf8_DecodeRuneInString.f; rw [hgo]
      have hCC := Lib.hid hC
      have hlen2 : ((Utf8.decode a0 p).2 : Int) ≤ ((a0.extract p a0.size).size : Int) := by rw [hz]; omega
      have hx3 := Lib.hid (show (a0.extract p a0.size).extract (Utf8.decode a0 p).2 (a0.size - p) = a0.extract (p + (Utf8.decode a0 p).2) a0.size by rw [← hx1, hz])
      have hx2 : (a0.extract p a0.size).extract 0 (Utf8.decode a0 p).2 = a0.extract p (p + (Utf8.decode a0 p).2) := by
        rw [ByteArray.extract_extract]
        congr 1
        omega
      clear hC hgo hA hz
      generalize (Utf8.decode a0 p).2 = d at *
      generalize (Utf8.decode a0 p).1 = ch at *
      obtain ⟨tl, rfl⟩ : ∃ q, tl = q + d := ⟨tl - d, by omega⟩
      have hx1' := Lib.hid hx1
      have hx2' := Lib.hid hx2
      clear hx1 hx2
      go_wp2_with fail
      refine (utf8_DecodeRuneInString.calls _ _ _ _ hCC.out (TabsU.below HT.out hB.out)).mono ?_
      rintro e w2 ⟨rfl, hb2⟩
      go_wp2_with fail
      have hxz : (a0.extract p (p + d)).size = d := by rw [ByteArray.size_extract]; omega
      obtain ⟨ch8, hch⟩ : ∃ x, x = nums8 (a0.extract p (p + d)) := ⟨_, rfl⟩
      have hch2 := nums8_extract a0 p d
      rw [← hch] at hch2
      have hchl : ch8.length = d := by rw [hch, nums8_length, hxz]
      have hR2 := hR.out.below hb2 hW.out
      have hB2 := Lib.hid (below_step hB.out hb2)
      have hcv := run_bytes (P := Tryd.prog) (src := 9) (dst := 59) (e := 5) Tryd.underlying9 Tryd.underlying59 Tryd.underlying5 (a0.extract p (p + d)) w2.drew
      rw [hxz] at hcv
      obtain ⟨cp, hcp⟩ : ∃ c, c = grownCap w2.drew d 0 5 := ⟨_, rfl⟩
      rw [← hcp] at hcv
      have hnews := nums8_cells w2.drew 5 (a0.extract p (p + d)) w2.heap.size rfl
      have hRb : NumRow .u8 (Lib.bytesWorld w2.drew 5 (a0.extract p (p + d))) w.heap.size 5 xs := NumRow.below (w := w2.drew) hR2 (bytes_below (Below.refl w2.drew.heap.size w2.drew) (Nat.le_refl _) 5 _) (by have := hb2.size; have := hW.out; show w.heap.size < w2.heap.size; omega)
      have hBb := Lib.hid (bytes_below (B := w.heap.size) (below_drew hB2.out) (by have := hb2.size; have := hW.out; show w.heap.size ≤ w2.heap.size; omega) 5 (a0.extract p (p + d)))
      obtain ⟨W, hWW⟩ : ∃ W, W = Lib.bytesWorld w2.drew 5 (a0.extract p (p + d)) := ⟨_, rfl⟩
      rw [← hWW] at hcv hnews hRb hBb
      rw [← hch] at hnews
      have hWs := Lib.hid (show w.heap.size < W.heap.size by obtain ⟨cur, fz, hg, _⟩ := hRb; exact lt_of_block hg)
      clear hR hR2 hb2 hB hW hWW hcp hch
      have hx0 := hx2'.out
      have hcc : ∀ q : Nat, (⟨q, 0, none⟩ : Addr).off = 0 := fun _ => rfl
      clear hcc
      have s1 : Hid ((ch8.map (Value.int .u8)).length = d * 1) := Lib.hid (by rw [List.length_map, hchl, Nat.mul_one])
      have s2 : Hid (∀ u ∈ ch8.map (Value.int .u8), u.oneCell' = true) := Lib.hid (fun u hu => by obtain ⟨x, _, rfl⟩ := List.mem_map.1 hu; rfl)
      have s3 : Hid (∀ j, j < (ch8.map (Value.int .u8)).length → (W.cell? ⟨w.heap.size, 0 + tl * 1 + j, none⟩).isSome = true ∧ W.frozen? ⟨w.heap.size, 0 + tl * 1 + j, none⟩ = false) := Lib.hid (by
        intro j hj
        rw [List.length_map, hchl] at hj
        have hjx : 0 + tl * 1 + j < xs.length := by have := hl.out; omega
        exact ⟨by rw [hRb.cell hjx]; rfl, hRb.free hjx⟩)
      have hq := Lib.hid hnews
      have hRb' := Lib.hid hRb
      have hch2' := Lib.hid hch2
      have hchl' := Lib.hid hchl
      have hxz' := Lib.hid hxz
      clear hnews hRb hch2 hchl hxz
      have hp0 : (tl : Int) ≤ (a0.size : Int) := by omega
      have hp1 : d ≤ a0.size - p := by omega
      have hp2 : tl ≤ a0.size := by omega
      go_region_law (refine step_append_room rfl (.tmp 25) (.tmp 29) 59 rfl 5 i0 1 Tryd.underlying59 hi hz1 w.heap.size 0 tl a0.size (by simp [Act.eval]) ⟨w2.heap.size, 0, none⟩ d cp (ch8.map (Value.int .u8)) (by simp [Act.eval]) s1.out hq.out s2.out (by omega) s3.out ?_)
      go_wp2
      go_roundw
      case rel =>
        refine ⟨p + d, tl, _, n, _, ch8 ++ acc, _, by rw [hx3.out], rfl, rfl, rfl, by omega, ?_, Lib.hid (by have := hn.out; omega), Lib.hid ?_, Lib.hid ?_, Lib.hid (NumRow.setCells ch8 tl _ _ hRb'.out (by have := hl.out; have := hchl'.out; omega)), ?_, Lib.hid (Below.setCells (Nat.le_refl _) _ _ _ hBb.out)⟩
        · rw [hch2'.out]
          exact hA'
        · have := hl.out
          have := hchl'.out
          simp only [List.length_append, List.length_take, List.length_drop]
          omega
        · rw [take_own xs ch8 tl (tl + d) (by rw [hchl'.out]) (by have := hl.out; omega), hx.out]
        · exact Lib.hid (Nat.lt_of_lt_of_le hWs.out (Below.setCells (B := 0) (Nat.zero_le _) _ _ _ (Below.refl _ _)).size)
      case measure => simp [intOf]; omega
    · have htl : tl = 0 := by omega
      subst htl
      have hfin := revGo_end a0 n p acc cq
      rw [hA.out] at hfin
      have hxx := hx.out
      rw [List.drop_zero] at hxx
      rw [hfin, ← hxx] at HF
      have hst := hR.out.string (P := Tryd.prog) (cap := a0.size) (src := 59) (dst := 9) Tryd.underlying59 Tryd.underlying5 Tryd.underlying9 (n := a0.size) hl.out.symm
      have hz : (a0.extract p a0.size).size = 0 := by rw [ByteArray.size_extract]; omega
      have hlz : ¬ ((a0.extract p a0.size).size : Int) > 0 := by rw [hz]; omega
      clear hA hfin hxx hx hz
      go_wp2
      go_ret
      exact ⟨by have hf := HF.out; subst hf; rfl, hB.out⟩

end Go.Proofs.YtbcccmoddbmffaaDoor.P
