/- impl.goDicts: a list of dictionaries as maps. -/
import Derived.Test.YtlefdkemgfjieaaC1
import Derived.Test.YtlefdkemgfjieaaR4
import Derived.Test.YtlefdkemgfjieaaE3
set_option linter.unusedVariables false
set_option linter.unusedSimpArgs false
namespace Go.Proofs.Ytlefdkemgfjieaa.P
open Go.RowKit Go.Proofs.YtlefdkemgfjieaaW.PrintWords Go.Proofs.YtlefdkemgfjieaaW.PrintLast Go.Proofs.YtlefdkemgfjieaaW.PrintMore
attribute [local go_sem] run_store_float

/-- A map that is the dictionary x. -/
def MapEl (ok : Nat → Prop) (w : World) (x : S26) (cs : List Value) : Prop := ∃ u, cs = [u] ∧ MapOf (GoN 7 ok w) ok w x.f4 x.f5 u
theorem MapEl.imp {ok ok' : Nat → Prop} {w w' : World} {x : S26} {cs : List Value} (h : MapEl ok w x cs) (hok : ∀ k, ok k → k < w.heap.size → ok' k) (hw : ∀ k, ok k → k < w.heap.size → w'.heap[k]? = w.heap[k]?) : MapEl ok' w' x cs := by
  obtain ⟨u, rfl, h⟩ := h
  exact ⟨u, rfl, h.imp (fun _ _ h => h.imp (Nat.le_refl _) hok hw) hok hw⟩
/-- What goDicts has collected. -/
def GotM (B : Nat) (wr : World) (v : Value) (xs : List S26) : Prop := OwnRow (MapEl (fun q => B ≤ q ∧ some q ≠ v.ownBlock) wr) 68 1 wr B v xs
theorem info_map : (Try.prog.info? 68).map (fun i => (i.zero, i.size, i.bytes)) = some (some (.map none), 1, 8) := by kernel_rfl
theorem GotM.below {B : Nat} {wr w2 : World} {v : Value} {xs : List S26} (h : GotM B wr v xs) (hb : Below wr.heap.size wr w2) : OwnRow (MapEl (fun q => B ≤ q ∧ some q ≠ v.ownBlock) w2) 68 1 w2 B v xs :=
  (OwnRow.below h hb).imp_ (fun p c hp => hp.imp (fun _ h _ => h) (fun k _ hk => hb.block k hk))
theorem GotM.grown {B : Nat} {w2 w3 : World} {v v1 : Value} {xs : List S26} (h : OwnRow (MapEl (fun q => B ≤ q ∧ some q ≠ v.ownBlock) w2) 68 1 w3 B v1 xs) (hg : w2.grownBy w3 v.ownBlock) (hat : v1.ownBlock = v.ownBlock ∨ ∃ b, v1.ownBlock = some b ∧ w2.heap.size ≤ b) : GotM B w3 v1 xs :=
  h.imp_ (fun p c hp => hp.imp (fun k hk hlt => ⟨hk.1, by
    rcases hat with h | ⟨b, h, h2⟩
    · rw [h]; exact hk.2
    · rw [h]
      intro he
      injection he with he
      omega⟩) (fun k hk hlt => hg.block k hlt hk.2))
set_option maxHeartbeats 3200000 in
set_option maxRecDepth 100000 in
theorem goDicts_call (l : List S26) (A : Option Addr) (c : Nat) (w : World) (hf : ∀ i, i < l.length → fitsN 8 (l.getD i z26)) (h7 : ∀ i, i < l.length → (l.getD i z26).f0 = 7) (hl : l.length ≤ 300) (hA : k26.C w A l.length l) :
    Calls Try.prog 52 #[.slice A l.length c] w fun e w' => ∃ u, e = .returned (.tuple #[u, .bool true]) ∧ GotM w.heap.size w' u l ∧ Below w.heap.size w w' := by
  have HF := Lib.hid hf
  have H7 := Lib.hid h7
  have HA := Lib.hid hA
  clear hf h7 hA
  obtain ⟨N, hNN⟩ : ∃ N, N = l.length := ⟨_, rfl⟩
  have HN := Lib.hid hNN
  rw [← hNN] at hl ⊢
  clear hNN
  go_enter Try.func52, Try.ntmps52
  go_wp2
  go_loopw [4, 11] (fun v i wr => ∃ (k : Nat) (A3 : Option Addr) (c3 : Nat), i = .int .i64 k ∧ v = .slice A3 k c3 ∧ k ≤ N ∧ Hid (GotM w.heap.size wr v (l.take k)) ∧ Hid (Below w.heap.size w wr)) (fun _ i _ => N - (intOf i).toNat)
  case atStart => exact ⟨0, none, 0, rfl, rfl, Nat.zero_le _, Lib.hid (by rw [List.take_zero]; exact OwnRow.none_ _ _ _ _ _), Lib.hid (Below.refl _ _)⟩
  case round =>
    obtain ⟨k, A3, c3, rfl, rfl, hk, hG, hB⟩ := hrel
    by_cases ck : k < N
    · have hkl : k < l.length := by rw [← HN.out]; exact ck
      obtain ⟨ad, A4, c4, A5, c5, rfl, q0, q1, q2, q3, q4, q5, l4, g4, l5, g5⟩ := at_T26 (Kd.C_below HA.out hB.out) (k : Int) (by omega) (by omega)
      simp only [Int.toNat_natCast] at q0 q1 q2 q3 q4 q5
      have hgd : rd_T26 l (k : Int) = l.getD k z26 := by simp [rd_T26]
      have hfk := HF.out k hkl
      have h7k := H7.out k hkl
      have HTK := Lib.hid (show l.take (k + 1) = l.take k ++ [l.getD k z26] by rw [List.take_succ_eq_append_getElem hkl]; simp [hkl])
      rw [hgd] at q0 q1 q2 q3 q4 q5 l4 g4 l5 g5
      have HRX := Lib.hid (show RowsAt (l.getD k z26) A4 c4 A5 c5 wr from ⟨g4, l4, g5, l5⟩)
      clear hgd l4 g4 l5 g5
      generalize l.getD k z26 = x at *
      rw [h7k] at q0
      obtain ⟨W1, hW1⟩ : ∃ W1, W1 = wr.alloc (.cells #[.int .i64 7, .int .i64 x.f1, .float .f64 x.f2, .string x.f3, .slice A4 x.f4.length c4, .slice A5 x.f5.length c5] 26) := ⟨_, rfl⟩
      have hal : Below wr.heap.size wr W1 := by rw [hW1]; exact (Below.refl _ _).alloc (Nat.le_refl _) _
      have HGD := Lib.hid (goDict_con x h7k A4 c4 A5 c5 W1 hfk (HRX.out.below hal))
      have HAL := Lib.hid hal
      have HW1 := Lib.hid hW1
      have hlt := Lib.hid (show (l.take k).length = k by rw [List.length_take]; omega)
      clear hal hW1 hfk h7k HRX
      go_wp2_with fail
      rw [← HW1.out]
      clear HW1
      refine HGD.out.mono ?_
      rintro e w2 ⟨u, rfl, hm, hb⟩
      have hb2 : Below wr.heap.size wr w2 := HAL.out.trans (hb.mono HAL.out.size)
      have HG2 := Lib.hid (hG.out.below hb2)
      have hob : ∀ q, (Value.slice A3 k c3).ownBlock = some q → q < wr.heap.size := fun q hq => by
        obtain ⟨inner, ho, _⟩ := hG.out
        exact (ho.lt q hq).2
      have hsz := HAL.out.size
      have HM := Lib.hid (show MapEl (fun q => w.heap.size ≤ q ∧ some q ≠ (Value.slice A3 k c3).ownBlock) w2 x [u] from ⟨u, rfl, hm.imp (fun _ _ h => h.imp (Nat.le_refl _) (fun q hq _ => ⟨by have := hB.out.size; omega, fun he => by have := hob q he.symm; omega⟩) (fun _ _ _ => rfl)) (fun q hq _ => ⟨by have := hB.out.size; omega, fun he => by have := hob q he.symm; omega⟩) (fun _ _ _ => rfl)⟩)
      have HB2 := Lib.hid (hB.out.trans (hb2.mono hB.out.size))
      obtain ⟨b, m, vs, rfl, -⟩ := hm
      clear hb hb2 hob hsz HGD HAL hG hB q0 q1 q2 q3 q4 q5
      obtain ⟨xs, hxs⟩ : ∃ xs, xs = l.take k := ⟨_, rfl⟩
      rw [← hxs] at HG2 HTK hlt
      clear hxs
      have hl2 := hlt.out
      clear hlt
      subst hl2
      go_wp2_with (at_builtin; refine OwnRow.append (w0 := w) w.heap.size rfl _ _ 73 68 (.map none) 1 8 rfl Try.underlying73 info_map rfl (by decide) (by decide) (.slice A3 xs.length c3) xs x [.map (some b)] rfl rfl HM.out rfl (fun u hu => by rw [List.mem_singleton.1 hu]; rfl) HG2.out HB2.out HB2.out.size (by omega) ?_)
      intro v1 w3 h1 hb3 hg3 hat3
      obtain ⟨A6, c6, rfl, _⟩ := OwnRow.slice_ h1
      have HG3 := Lib.hid (GotM.grown h1 hg3 hat3)
      have HB3 := Lib.hid hb3
      have hl3 : (xs ++ [x]).length = xs.length + 1 := by simp
      rw [hl3] at HG3
      rw [← HTK.out] at HG3
      simp only [hl3]
      clear h1 hb3 hg3 hat3 hl3
      go_wp2
      go_roundw
      case rel => exact ⟨xs.length + 1, A6, c6, by go_num, rfl, by omega, HG3, HB3⟩
      case measure => simp [intOf]; omega
    · have hkn : k = N := by omega
      subst hkn
      have HG2 := Lib.hid (show GotM w.heap.size wr (.slice A3 k c3) l by have := hG.out; rw [HN.out, List.take_length] at this; rw [HN.out]; exact this)
      clear hG
      go_wp2
      go_ret2
      exact ⟨_, rfl, HG2.out, hB.out⟩
/-- What stands behind a key: R says where. -/
def pickAt (R : Nat → Int × Bool) (l : List S26) (k : Nat) : List S26 := (List.range k).flatMap fun j => bif (R j).2 then [rd_T26 (l.getD j z26).f5 (R j).1] else []
theorem pickAt_succ (R : Nat → Int × Bool) (l : List S26) (k : Nat) : pickAt R l (k + 1) = pickAt R l k ++ (bif (R k).2 then [rd_T26 (l.getD k z26).f5 (R k).1] else []) := by
  unfold pickAt
  rw [List.range_succ, List.flatMap_append]
  simp
set_option maxHeartbeats 3200000 in
set_option maxRecDepth 100000 in
theorem pluck_call (l : List S26) (u : Value) (B : Nat) (key : ByteArray) (hkey : key.size ≤ 300) (R : Nat → Int × Bool) (w : World) (hl : l.length ≤ 300) (hR : ∀ k, k < l.length → AtOk (l.getD k z26).f4 key (R k)) (hA : ∀ k, k < l.length → Ascend (l.getD k z26).f4) (hu : GotM B w u l) :
    Calls Try.prog 75 #[.string key, u] w fun e w' => ∃ u', e = .returned u' ∧ RowOf (GoN 7 (fun _ => True) w') (fun _ => True) w' (pickAt R l l.length) u' ∧ Below w.heap.size w w' := by
  obtain ⟨A, c, rfl, hc, hrd⟩ := OwnRow.reads hu
  have HRD := Lib.hid hrd
  have HR := Lib.hid hR
  have HA := Lib.hid hA
  clear hu hrd hR hA
  obtain ⟨ok, hok⟩ : ∃ ok : Nat → Prop, ok = fun q => B ≤ q ∧ some q ≠ (Value.slice A l.length c).ownBlock := ⟨_, rfl⟩
  rw [← hok] at HRD
  clear hok
  obtain ⟨N, hNN⟩ : ∃ N, N = l.length := ⟨_, rfl⟩
  have HN := Lib.hid hNN
  rw [← hNN] at hl hc ⊢
  clear hNN
  have HR1 := Lib.hid (show OwnRow (Iface0 7 ok w) 20 1 (w.alloc (.cells #[] 20)) w.heap.size (.slice (some ⟨w.heap.size, 0, none⟩) 0 0) [] from OwnRow.lit (inner := []) w w.heap.size (Reps.none _ _) (Nat.le_refl _) (by decide))
  have HB2 := Lib.hid ((Below.refl w.heap.size w).alloc (Nat.le_refl _) (.cells #[] 20))
  go_enter Try.func75, Try.ntmps75
  go_wp2
  go_loopw [5, 13] (fun v i wr => ∃ (k g3 c3 : Nat) (xs : List S26), i = .int .i64 k ∧ v = .slice (some ⟨g3, 0, none⟩) xs.length c3 ∧ k ≤ N ∧ Hid (xs = pickAt R l k) ∧ Hid (xs.length ≤ k) ∧ Hid (OwnRow (Iface0 7 ok w) 20 1 wr w.heap.size v xs) ∧ Hid (Below w.heap.size w wr)) (fun _ i _ => N - (intOf i).toNat)
  case atStart => exact ⟨0, _, _, [], rfl, rfl, Nat.zero_le _, Lib.hid (by simp [pickAt]), Lib.hid (Nat.le_refl _), HR1, HB2⟩
  case round =>
    clear HR1 HB2
    obtain ⟨k, g3, c3, xs, rfl, rfl, hk, hxs, hxl, hRow, hB⟩ := hrel
    by_cases ck : k < N
    · have hkl : k < l.length := by rw [← HN.out]; exact ck
      obtain ⟨ad, cs, hAd, hcs1, hel, hcell0⟩ := HRD.out.get_ z26 (k : Int) (by omega) (by omega)
      subst hAd
      simp only [Int.toNat_natCast] at hel hcell0
      obtain ⟨um, rfl, b, m, vs, rfl, -, hvs, hks, -, ho, hgo⟩ := hel
      have hc0 := hcell0 0 _ rfl
      rw [Nat.mul_one, Nat.add_zero] at hc0
      have hcell := (hB.out.cell (cell_ltR hc0)).trans hc0
      have ho2 := ownsMap_below ho hB.out
      have hat := HR.out k hkl
      obtain ⟨v, hlk, hv⟩ := look_dict ho2 (by rw [hks, hvs]) (HA.out k hkl) hkey hat
      have HPK := Lib.hid (pickAt_succ R l k)
      have HV := Lib.hid (show (R k).2 = true → GoN 7 ok w (rd_T26 (l.getD k z26).f5 (R k).1) v from fun hb => by
        obtain ⟨i, h1, h2, -⟩ := hat.1 hb
        obtain ⟨h3, h4⟩ := hv i hb h1
        have h5 := hgo i (by rw [← hks]; exact h2)
        rw [h1, h4]
        simpa [rd_T26] using h5)
      have ci0 : (0 : Int) ≤ (k : Int) := by omega
      have ci1 : (k : Int) < (N : Int) := by omega
      clear hcell0 hcs1 hvs hks ho hgo hc0 ho2 hat hv
      generalize rd_T26 (l.getD k z26).f5 (R k).1 = x at *
      generalize (R k).2 = rb at *
      cases rb with
      | false =>
        have HX2 := Lib.hid (show xs = pickAt R l (k + 1) by rw [HPK.out, ← hxs.out]; simp)
        clear hxs HPK HV
        go_wp2
        go_roundw
        case rel => exact ⟨k + 1, g3, c3, xs, by go_num, rfl, by omega, HX2, Lib.hid (by have := hxl.out; omega), hRow, hB⟩
        case measure => simp [intOf]; omega
      | true =>
        have HX2 := Lib.hid (show xs ++ [x] = pickAt R l (k + 1) by rw [HPK.out, ← hxs.out]; simp)
        have HGO := Lib.hid (HV.out rfl)
        have hsh := HGO.out.shape
        clear hxs HPK HV
        rcases hsh with rfl | ⟨t, q, rfl⟩
        all_goals
          go_wp2_with (at_builtin; first | (refine OwnRow.append (w0 := w) w.heap.size rfl _ _ 77 20 .nilIface 1 16 rfl Try.underlying77 info_any rfl (by decide) (by decide) (.slice (some ⟨g3, 0, none⟩) xs.length c3) xs x [.nilIface] rfl rfl ⟨_, rfl, HGO.out⟩ rfl (fun u hu => by rw [List.mem_singleton.1 hu]; rfl) hRow.out hB.out hB.out.size (by have := hxl.out; omega) ?_) | (refine OwnRow.append (w0 := w) w.heap.size rfl _ _ 77 20 .nilIface 1 16 rfl Try.underlying77 info_any rfl (by decide) (by decide) (.slice (some ⟨g3, 0, none⟩) xs.length c3) xs x [.iface t q] rfl rfl ⟨_, rfl, HGO.out⟩ rfl (fun u hu => by rw [List.mem_singleton.1 hu]; rfl) hRow.out hB.out hB.out.size (by have := hxl.out; omega) ?_))
          intro v1 w3 h1 hb3 hg3 hat3
          obtain ⟨g4, c4, rfl⟩ : ∃ g c, v1 = .slice (some ⟨g, 0, none⟩) (xs ++ [x]).length c := by
            obtain ⟨inner, ho1, _⟩ := h1
            rcases ho1.2 with ⟨_, h⟩ | ⟨g', c', _, h, _⟩
            · simp at h
            · exact ⟨g', c', h⟩
          have HR3 := Lib.hid h1
          have HB3 := Lib.hid hb3
          clear h1 hb3 hg3 hat3
          go_wp2
          go_roundw
          case rel => exact ⟨k + 1, g4, c4, xs ++ [x], by go_num, rfl, by omega, HX2, Lib.hid (by have := hxl.out; simp; omega), HR3, HB3⟩
          case measure => simp [intOf]; omega
    · have hkn : k = N := by omega
      subst hkn
      have HFIN := Lib.hid (show RowOf (GoN 7 (fun _ => True) wr) (fun _ => True) wr (pickAt R l k) (.slice (some ⟨g3, 0, none⟩) xs.length c3) by
        rw [← hxs.out]
        exact rowOf_own hRow.out hB.out)
      clear hRow
      go_wp2
      go_ret
      exact ⟨_, rfl, HFIN.out, hB.out⟩
theorem pick_all {P : S26 → Prop} {R : Nat → Int × Bool} {l : List S26} {n : Nat} (h : ∀ k, k < n → (R k).2 = true → P (rd_T26 (l.getD k z26).f5 (R k).1)) : ∀ i, i < (pickAt R l n).length → P ((pickAt R l n).getD i z26) := by
  intro i hi
  rw [List.getD_eq_getElem?_getD, List.getElem?_eq_getElem hi]
  have hm := List.getElem_mem hi
  obtain ⟨k, hk, hy⟩ := List.mem_flatMap.1 hm
  have hk2 := List.mem_range.1 hk
  cases hb : (R k).2 with
  | false => rw [hb] at hy; cases hy
  | true =>
    rw [hb] at hy
    have he := List.mem_singleton.1 hy
    show P (pickAt R l n)[i]
    rw [he]
    exact h k hk2 hb
theorem pick_len (R : Nat → Int × Bool) (l : List S26) : ∀ n, (pickAt R l n).length ≤ n
  | 0 => by simp [pickAt]
  | n + 1 => by
    rw [pickAt_succ, List.length_append]
    have := pick_len R l n
    cases (R n).2 <;> simp <;> omega
theorem Pluck_call (l : List S26) (u : Value) (B : Nat) (key : ByteArray) (hkey : key.size ≤ 300) (R : Nat → Int × Bool) (w : World) (hl : l.length ≤ 300) (hR : ∀ k, k < l.length → AtOk (l.getD k z26).f4 key (R k)) (hA : ∀ k, k < l.length → Ascend (l.getD k z26).f4) (hu : GotM B w u l) :
    Calls Try.prog 54 #[.string key, u] w fun e w' => ∃ u', e = .returned u' ∧ RowOf (GoN 7 (fun _ => True) w') (fun _ => True) w' (pickAt R l l.length) u' ∧ Below w.heap.size w w' := by
  have HP := Lib.hid (pluck_call l u B key hkey R w hl hR hA hu)
  clear hR hA hu
  go_enter Try.func54, Try.ntmps54
  go_wp2_with fail
  refine HP.out.mono ?_
  rintro e w1 ⟨u', rfl, hr1, hb1⟩
  have HR1 := Lib.hid hr1
  have HB1 := Lib.hid hb1
  clear hr1 hb1 HP
  go_wp2
  go_ret
  exact ⟨_, rfl, HR1.out, HB1.out⟩
theorem at_fits {x : S26} (hx : fitsN 8 x) (h7 : x.f0 = 7) {key : ByteArray} {r : Int × Bool} (hr : AtOk x.f4 key r) (hb : r.2 = true) : fitsN 7 (rd_T26 x.f5 r.1) := by
  have h := got_fits h7 hx hr
  unfold gotOf at h
  rw [hb] at h
  exact h
theorem at_right {x : S26} (hx : rightN 8 x) (h7 : x.f0 = 7) {key : ByteArray} {r : Int × Bool} (hr : AtOk x.f4 key r) (hb : r.2 = true) : rightN 7 (rd_T26 x.f5 r.1) := by
  have h := got_right h7 hx hr
  unfold gotOf at h
  rw [hb] at h
  exact h
set_option maxHeartbeats 3200000 in
set_option maxRecDepth 100000 in
theorem implPluck_call (l : List S26) (A : Option Addr) (c : Nat) (key : ByteArray) (hkey : key.size ≤ 300) (R : Nat → Int × Bool) (w : World) (hf : ∀ i, i < l.length → fitsN 8 (l.getD i z26)) (h7 : ∀ i, i < l.length → (l.getD i z26).f0 = 7) (hl : l.length ≤ 300) (hR : ∀ k, k < l.length → AtOk (l.getD k z26).f4 key (R k)) (hA : k26.C w A l.length l) :
    Calls Try.prog 23 #[.string key, .slice A l.length c] w fun e w' => ∃ v, e = .returned (.tuple #[v, .bool true]) ∧ Kd.R k26 26 w' w.heap.size (fun _ => True) v ((pickAt R l l.length).map (normN 7)) ∧ Below w.heap.size w w' := by
  have HG := Lib.hid (goDicts_call l A c w hf h7 hl hA)
  have HF := Lib.hid hf
  have H7 := Lib.hid h7
  have HR := Lib.hid hR
  clear hf h7 hA hR
  go_enter Try.func23, Try.ntmps23
  go_wp2_with fail
  refine HG.out.mono ?_
  rintro e w1 ⟨u, rfl, hm, hb1⟩
  have HB1 := Lib.hid hb1
  have HP := Lib.hid (Pluck_call l u w.heap.size key hkey R w1 hl HR.out (fun k hk => ((HF.out k hk).2.2.2.2.2.2.1 (H7.out k hk)).2) hm)
  clear hm hb1 HG
  go_wp2_with fail
  refine HP.out.mono ?_
  rintro e w2 ⟨u', rfl, hr2, hb2⟩
  have HB2 := Lib.hid (HB1.out.trans (hb2.mono HB1.out.size))
  have HV := Lib.hid (vals_all 7 (pickAt R l l.length) u' _ w2 (pick_all (fun k hk hb => at_fits (HF.out k hk) (H7.out k hk) (HR.out k hk) hb)) (Nat.le_trans (pick_len R l _) hl) hr2)
  clear hr2 hb2 HP
  go_wp2_with fail
  refine HV.out.mono ?_
  rintro e w3 ⟨v, rfl, hr3, hb3⟩
  have HR3 := Lib.hid (Kd.R_lower hr3 HB2.out.size)
  have HB3 := Lib.hid (HB2.out.trans (hb3.mono HB2.out.size))
  clear hr3 hb3 HV
  go_wp2
  go_ret2
  exact ⟨_, rfl, HR3.out, HB3.out⟩
/-- At of a right value, whatever it is. -/
theorem At_any (x : S26) (key : ByteArray) (hx : rightN 8 x) : ∃ r : Int × Bool, AtOk x.f4 key r ∧ ∀ (A4 : Option Addr) (c4 : Nat) (A5 : Option Addr) (c5 : Nat) (w : World), RowsAt x A4 c4 A5 c5 w → Calls Try.prog 18 #[aggOf x A4 c4 A5 c5, .string key] w fun e w' => e = .returned (.tuple #[.int .i64 r.1, .bool r.2]) ∧ Below w.heap.size w w' := by
  have hA : Ascend x.f4 ∧ x.f4.length ≤ 1000 := by
    obtain ⟨_, _, hl, _, _, _, h7, h4, _⟩ := hx
    by_cases h0 : x.f0 = 7
    · exact ⟨(h7 h0).2, by have := (h7 h0).1; omega⟩
    · rw [h4 h0]
      exact ⟨List.Pairwise.nil, by simp⟩
  obtain ⟨k, r, hk, hr⟩ := At_tot x key hA.1 hA.2
  exact ⟨r, hr, fun A4 c4 A5 c5 w h => spec_At.calls k _ _ _ _ A4 c4 _ A5 c5 _ key _ _ w h.1 h.2.1 h.2.2.1 h.2.2.2 (hk k (Nat.le_refl _))⟩
set_option maxHeartbeats 3200000 in
set_option maxRecDepth 100000 in
theorem fnPluck (key : ByteArray) (l : List S26) (A : Option Addr) (c : Nat) (w : World) (hks : key.size ≤ 140737488351232) (hw : ∀ y ∈ l, Whole64 y) (hA : k26.C w A l.length l) (hc : l.length ≤ c) :
    Calls Try.prog 5 #[.string key, .slice A l.length c] w fun e w' => e = .returned (.bool true) ∧ Below w.heap.size w w' := by
  obtain ⟨r1, ht1, hr1⟩ := AllRight_con l A c
  have HW := Lib.hid hw
  have HA := Lib.hid hA
  have HT1 := Lib.hid ht1
  have HR1 := Lib.hid (hr1 w hA hc)
  clear hw hA ht1 hr1
  by_cases hk0 : 2147483647 < (key.size : Int)
  · have hd0 : decide (2147483647 < (key.size : Int)) = true := decide_eq_true hk0
    go_enter Try.func5, Try.ntmps5
    go_wp2
    go_ret
    exact ⟨rfl, Below.refl _ _⟩
  have hd0 : decide (2147483647 < (key.size : Int)) = false := decide_eq_false hk0
  by_cases hk1 : 2147483647 < (l.length : Int)
  · have hd1 : decide (2147483647 < (l.length : Int)) = true := decide_eq_true hk1
    go_enter Try.func5, Try.ntmps5
    go_wp2
    go_ret
    exact ⟨rfl, Below.refl _ _⟩
  have hd1 : decide (2147483647 < (l.length : Int)) = false := decide_eq_false hk1
  go_enter Try.func5, Try.ntmps5
  go_wp2_with fail
  refine HR1.out.mono ?_
  rintro e w1 ⟨rfl, hb1⟩
  have HB1 := Lib.hid hb1
  clear hb1 HR1 hk0 hk1 hd0 hd1
  cases r1
  · go_wp2
    go_ret
    exact ⟨rfl, HB1.out⟩
  by_cases hk2 : 300 < (key.size : Int)
  · have hd2 : decide (300 < (key.size : Int)) = true := decide_eq_true hk2
    go_wp2
    go_ret
    exact ⟨rfl, HB1.out⟩
  have hd2 : decide (300 < (key.size : Int)) = false := decide_eq_false hk2
  have HKEY := Lib.hid (show key.size ≤ 300 by omega)
  obtain ⟨hl60, hright⟩ := HT1.out rfl
  have HFIT := Lib.hid (lists_fit hright HW.out)
  have HRIGHT := Lib.hid hright
  have HL := Lib.hid hl60
  obtain ⟨R, hR⟩ := Go.Deep.choose_lt (n := l.length) (p := fun k (r : Int × Bool) => AtOk (l.getD k z26).f4 key r ∧ ∀ (A4 : Option Addr) (c4 : Nat) (A5 : Option Addr) (c5 : Nat) (w : World), RowsAt (l.getD k z26) A4 c4 A5 c5 w → Calls Try.prog 18 #[aggOf (l.getD k z26) A4 c4 A5 c5, .string key] w fun e w' => e = .returned (.tuple #[.int .i64 r.1, .bool r.2]) ∧ Below w.heap.size w w') (fun k hk => At_any _ key (hright k hk))
  have HR := Lib.hid hR
  clear hright hl60 hR HT1
  go_wp2
  go_loopw [5, 6] (fun v i wr => ∃ (k : Nat) (A3 : Option Addr) (c3 : Nat) (xs : List S26), i = .int .i64 k ∧ v = .slice A3 xs.length c3 ∧ k ≤ l.length ∧ Hid (xs = pickAt R l k) ∧ Hid (xs.length ≤ k) ∧ Hid (∀ j, j < k → (l.getD j z26).f0 = 7) ∧ Hid (Row0 w w.heap.size wr v xs) ∧ Hid (Below w.heap.size w wr)) (fun _ i _ => l.length - (intOf i).toNat)
  case atStart => exact ⟨0, none, 0, [], rfl, rfl, Nat.zero_le _, Lib.hid (by simp [pickAt]), Lib.hid (Nat.le_refl _), Lib.hid (fun j hj => absurd hj (by omega)), Lib.hid (OwnRow.none_ _ _ _ _ _), HB1⟩
  case round =>
    clear HB1 hk2 hd2
    have hl300 : l.length ≤ 300 := by have := HL.out; omega
    obtain ⟨k, A3, c3, xs, rfl, rfl, hk, hxs, hxl, h7s, hRow, hB⟩ := hrel
    by_cases ck : k < l.length
    · obtain ⟨ad, A4, c4, A5, c5, hAd, e0, e1, e2, e3, e4, e5, l4, g4, l5, g5⟩ := at_T26 HA.out (k : Int) (by omega) (by omega)
      subst hAd
      simp only [Int.toNat_natCast] at e0 e1 e2 e3 e4 e5
      have hgd : rd_T26 l (k : Int) = l.getD k z26 := by simp [rd_T26]
      rw [hgd] at e0 e1 e2 e3 e4 e5 l4 g4 l5 g5
      have q0 := (hB.out.cell (cell_ltR e0)).trans e0
      have q1 := (hB.out.cell (cell_ltR e1)).trans e1
      have q2 := (hB.out.cell (cell_ltR e2)).trans e2
      have q3 := (hB.out.cell (cell_ltR e3)).trans e3
      have q4 := (hB.out.cell (cell_ltR e4)).trans e4
      have q5 := (hB.out.cell (cell_ltR e5)).trans e5
      have HE5 := Lib.hid e5
      have hrows : RowsAt (l.getD k z26) A4 c4 A5 c5 w := ⟨g4, l4, g5, l5⟩
      have HROWS := Lib.hid hrows
      obtain ⟨hat, hcall⟩ := HR.out k ck
      have HAT := Lib.hid hat
      have HCALL := Lib.hid (hcall A4 c4 A5 c5 wr (hrows.below hB.out))
      have HPK := Lib.hid (pickAt_succ R l k)
      have HFK := Lib.hid (HFIT.out k ck)
      have ci0 : (0 : Int) ≤ (k : Int) := by omega
      have ci1 : (k : Int) < (l.length : Int) := by omega
      have HSEV := Lib.hid (fun (h : (l.getD k z26).f0 = 7) => show ∀ j, j < k + 1 → (l.getD j z26).f0 = 7 from fun j hj => by
        by_cases hjk : j < k
        · exact h7s.out j hjk
        · have : j = k := by omega
          subst this
          exact h)
      clear hgd l4 g4 l5 g5 e0 e1 e2 e3 e4 e5 hrows hat hcall h7s
      generalize l.getD k z26 = x at *
      by_cases h7 : x.f0 = 7
      · unfold aggOf at HCALL
        rw [h7] at q0 HCALL
        have HS2 := Lib.hid (HSEV.out h7)
        have HLEN := Lib.hid ((HFK.out.2.2.2.2.2.2.1 h7).1)
        clear h7 HSEV
        obtain ⟨⟨ri, rb⟩, hrr⟩ : ∃ r, r = R k := ⟨_, rfl⟩
        rw [← hrr] at HAT HCALL HPK
        clear hrr
        simp only at HCALL HPK
        go_wp2_with fail
        refine HCALL.out.mono ?_
        rintro e w2 ⟨rfl, hb2⟩
        have HB2 := Lib.hid (hB.out.trans (hb2.mono hB.out.size))
        have HR2 := Lib.hid (OwnRow.below hRow.out hb2)
        clear q0 q1 q2 q3 q4 q5 hb2 HCALL hRow hB
        cases rb with
        | false =>
          have HX2 := Lib.hid (show xs = pickAt R l (k + 1) by rw [HPK.out, ← hxs.out]; simp)
          clear hxs HPK
          go_wp2
          go_roundw
          case rel => exact ⟨k + 1, A3, c3, xs, by go_num, rfl, by omega, HX2, Lib.hid (by have := hxl.out; omega), HS2, HR2, HB2⟩
          case measure => simp [intOf]; omega
        | true =>
          obtain ⟨i, hi, hilt, -⟩ := HAT.out.1 rfl
          simp only at hi
          subst hi
          have HX2 := Lib.hid (show xs ++ [rd_T26 x.f5 (i : Int)] = pickAt R l (k + 1) by rw [HPK.out, ← hxs.out]; simp)
          have hi5 : i < x.f5.length := by have := HLEN.out; omega
          obtain ⟨ad5, D4, d4, D5, d5, hA5, f0, f1, f2, f3, f4, f5, m4, o4, m5, o5⟩ := at_T26 HROWS.out.2.2.1 (i : Int) (by omega) (by omega)
          subst hA5
          simp only [Int.toNat_natCast] at f0 f1 f2 f3 f4 f5
          have HKy := Lib.hid (k26_mk w _ m4 o4 m5 o5)
          have q5 := (HB2.out.cell (cell_ltR HE5.out)).trans HE5.out
          have p0 := (HB2.out.cell (cell_ltR f0)).trans f0
          have p1 := (HB2.out.cell (cell_ltR f1)).trans f1
          have p2 := (HB2.out.cell (cell_ltR f2)).trans f2
          have p3 := (HB2.out.cell (cell_ltR f3)).trans f3
          have p4 := (HB2.out.cell (cell_ltR f4)).trans f4
          have p5 := (HB2.out.cell (cell_ltR f5)).trans f5
          have ci2 : (0 : Int) ≤ (i : Int) := by omega
          have ci3 : (i : Int) < (x.f5.length : Int) := by omega
          clear hxs HPK m4 o4 m5 o5 f0 f1 f2 f3 f4 f5
          generalize rd_T26 x.f5 (i : Int) = y at *
          go_wp2_with (at_builtin; refine OwnRow.append (w0 := w) w.heap.size rfl _ _ 24 26 (.agg #[(.int .i64 0), (.int .i64 0), (.float .f64 0), (.string ⟨#[]⟩), (.slice none 0 0), (.slice none 0 0)]) 6 88 rfl Try.underlying24 info_val rfl (by decide) (by decide) (.slice A3 xs.length c3) xs y [.int .i64 y.f0, .int .i64 y.f1, .float .f64 y.f2, .string y.f3, .slice D4 y.f4.length d4, .slice D5 y.f5.length d5] rfl rfl HKy.out rfl (fun u hu => k26.K_one HKy.out u hu) HR2.out HB2.out HB2.out.size (by have := hxl.out; have := HL.out; omega) ?_; intro v1 w3 h1 hb3 hg3 hat3)
          obtain ⟨A6, c6, rfl, _⟩ := OwnRow.slice_ h1
          have HR3 := Lib.hid (show Row0 w w.heap.size w3 (.slice A6 (xs ++ [y]).length c6) (xs ++ [y]) from h1)
          have HB3 := Lib.hid hb3
          clear h1 hb3 hg3 hat3
          go_wp2
          go_roundw
          case rel => exact ⟨k + 1, A6, c6, xs ++ [y], by go_num, rfl, by omega, HX2, Lib.hid (by have := hxl.out; simp; omega), HS2, HR3, HB3⟩
          case measure => simp [intOf]; omega
      · have c7 : (x.f0 != 7) = true := by simpa using h7
        have c8 : (x.f0 == 7) = false := by simpa using h7
        go_wp2
        go_ret
        exact ⟨rfl, hB.out⟩
    · have hkn : k = l.length := by omega
      have hxsl : xs = pickAt R l l.length := by rw [hxs.out, hkn]
      have H7A := Lib.hid (show ∀ j, j < l.length → (l.getD j z26).f0 = 7 by rw [← hkn]; exact h7s.out)
      have HIP := Lib.hid (implPluck_call l A c key HKEY.out R wr HFIT.out H7A.out (by have := HL.out; omega) (fun k hk => (HR.out k hk).1) (Kd.C_below HA.out hB.out))
      obtain ⟨A4, c4, hsl, hc4, hC4⟩ := Row0.reads hRow.out hB.out
      injection hsl with hs1 hs2 hs3
      subst hs1
      subst hs3
      have HC4 := Lib.hid hC4
      have HXL := Lib.hid hxsl
      subst hkn
      clear hC4 hxsl hRow hxs h7s
      go_wp2_with fail
      refine HIP.out.mono ?_
      rintro e w2 ⟨v2, rfl, hr2, hb2⟩
      have HB2 := Lib.hid (hB.out.trans (hb2.mono hB.out.size))
      obtain ⟨A2, c2, rfl, hc2, hC2⟩ := Kd.R_reads hr2
      obtain ⟨la, hla⟩ : ∃ la, la = (pickAt R l l.length).map (normN 7) := ⟨_, rfl⟩
      rw [← hla] at hC2 hc2 ⊢
      have hS1 := sameList_all 7 la xs A2 c2 A3 c3 w2 (by rw [hla]; exact norm_fit (pick_all (fun k hk hb => at_fits (HFIT.out k hk) (H7A.out k hk) (HR.out k hk).1 hb))) (by rw [hla, List.length_map]; have := pick_len R l l.length; have := HL.out; omega) hC2 hc2 (Kd.C_below HC4.out hb2) hc4
      have HP1 := Lib.hid (show SameListP 7 la xs by rw [hla, HXL.out]; exact sameList_norm (pick_all (fun k hk hb => at_right (HRIGHT.out k hk) (H7A.out k hk) (HR.out k hk).1 hb)))
      have HS1 := Lib.hid hS1
      clear hr2 hb2 hC2 hS1 HIP HC4 hla
      go_wp2_with fail
      refine HS1.out.mono ?_
      rintro e w5 ⟨r5, rfl, hq5, hb5⟩
      obtain rfl : r5 = true := hq5.2 HP1.out
      have HB5 := Lib.hid (HB2.out.trans (hb5.mono HB2.out.size))
      clear hq5 hb5 HS1 HP1
      go_wp2
      go_ret
      exact ⟨rfl, HB5.out⟩
end Go.Proofs.Ytlefdkemgfjieaa.P
