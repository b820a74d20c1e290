/- dictOf: a dict of interface values as data, its keys ascending. -/
import Derived.Test.YtffkinonnkbcpaaG6
import Derived.Test.YtffkinonnkbcpaaSh
set_option linter.unusedVariables false
set_option linter.unusedSimpArgs false
namespace Go.Proofs.Ytffkinonnkbcpaa.P
open Go.RowKit Go.Proofs.YtffkinonnkbcpaaW.PrintWords Go.Proofs.YtffkinonnkbcpaaW.PrintLast Go.Proofs.YtffkinonnkbcpaaW.PrintMore
attribute [local go_sem] run_store_float

theorem grown_set (w : World) (g j : Nat) (u : Value) : w.grownBy (w.setCell ⟨g, j, none⟩ u) (some g) :=
  ⟨rfl, rfl, rfl, by simp [World.setCell], fun k _ hne => Below.heap_setCell w ⟨g, j, none⟩ u k (fun e => hne (by rw [e]))⟩
theorem key_string_inv {key : Value} {kl : Lit} (h : keyOf Try.prog 9 key = some kl) : ∃ s : ByteArray, key = .string s := by
  rw [keyOf_string Try.underlying9] at h
  cases key <;> simp [mapKey, Try.underlying9] at h
  exact ⟨_, rfl⟩
theorem key_string {s : ByteArray} {kl : Lit} (h : keyOf Try.prog 9 (.string s) = some kl) : kl = .string s.data.toList := by
  rw [keyOf_string Try.underlying9] at h
  simp [mapKey, Try.underlying9] at h
  exact h.2.symm
theorem below_of_grown {w w' : World} (h : w.grownBy w' none) : Below w.heap.size w w' := ⟨h.os, h.tape, h.output, h.size, fun k hk => h.block k hk (by simp)⟩
open Go.Sort in
/-- The library's sort over a row of the call's own. -/
theorem sort_row (B : Nat) (A : Option Addr) (c : Nat) (ss : List (List UInt8)) (w : World) (ho : w.ownsRow B 9 1 (.slice A ss.length c) ss.length (ss.map encStr)) (hn : ss.length ≤ 1000) :
    Calls Try.prog 25 #[.slice A ss.length c] w fun e w' => e = .returned (.tuple #[]) ∧ w'.ownsRow B 9 1 (.slice A ss.length c) ss.length ((ss.mergeSort fun x y => decide (x ≤ y)).map encStr) ∧ w.grownBy w' (Value.slice A ss.length c).ownBlock := by
  rcases ho.2 with ⟨h1, h2⟩ | ⟨g, cap, cur, h1, hb, hg, hc1, hc2, hc3, ht⟩
  · have h3 : ss = [] := List.eq_nil_of_length_eq_zero h2
    subst h3
    refine (Try.sort_Strings_none A c w).mono ?_
    rintro e w' ⟨rfl, rfl⟩
    exact ⟨rfl, by simpa using ho, World.grownBy.refl _ _⟩
  · injection h1 with hA _ hcap
    subst hA
    subst hcap
    rw [Nat.mul_one] at ht
    refine (Try.sort_Strings g 0 c ss w (holds_of_block hg ht) (Array.getElem?_eq_some_iff.1 hg).1 (by omega)).mono ?_
    rintro e w' ⟨rfl, n, os, rfl⟩
    exact ⟨rfl, ownsRow_sorted (by simp) hb hg hc1 hc2 hc3, grownBy_sorted _⟩
theorem R_sixO {α : Type} {d : Kd α} {e : Nat} {w : World} {base : Nat} {ok : Nat → Prop} {v : Value} {xs : List α} (h : d.R e w base ok v xs) {g : Nat} (hg : ∀ k, ok k → k ≠ g) (a0 a1 a2 a3 a4 a5 : Value) : d.R e (six w g a0 a1 a2 a3 a4 a5) base ok v xs :=
  Kd.R_far (p := ⟨g, 5, none⟩) (Kd.R_far (p := ⟨g, 4, none⟩) (Kd.R_far (p := ⟨g, 3, none⟩) (Kd.R_far (p := ⟨g, 2, none⟩) (Kd.R_far (p := ⟨g, 1, none⟩) (Kd.R_far (p := ⟨g, 0, none⟩) h hg _) hg _) hg _) hg _) hg _) hg _
theorem own_sixO {w : World} {base : Nat} {e : TypeId} {n : Nat} {v : Value} {xs : List Value} (h : w.ownsRow base e 1 v n xs) {g : Nat} (hg : some g ≠ v.ownBlock) (a0 a1 a2 a3 a4 a5 : Value) : (six w g a0 a1 a2 a3 a4 a5).ownsRow base e 1 v n xs :=
  own_move h (fun k hk => by
    have hne : k ≠ g := fun e => hg (by rw [hk, e])
    unfold six
    rw [Below.heap_setCell _ _ _ _ hne, Below.heap_setCell _ _ _ _ hne, Below.heap_setCell _ _ _ _ hne, Below.heap_setCell _ _ _ _ hne, Below.heap_setCell _ _ _ _ hne, Below.heap_setCell _ _ _ _ hne])
/-- The box of dictOf's value. -/
def dictBox (u v : Value) : Obj := .cells #[.int .i64 7, .int .i64 0, .float .f64 0, .string ⟨#[]⟩, u, v] 31 (0, 0)
theorem info_str : (Try.prog.info? 9).map (fun i => (i.zero, i.size, i.bytes)) = some (some (.string ⟨#[]⟩), 1, 16) := by kernel_rfl
theorem ownsMap_grown {w w' : World} {b m : Nat} {D : DataW Value} {row : Option Nat} (h : w.ownsMap Try.prog 9 rawR b m D) (hg : w.grownBy w' row) (hne : some b ≠ row) : w'.ownsMap Try.prog 9 rawR b m D := h.kept hg hne
set_option maxHeartbeats 3200000 in
set_option maxRecDepth 100000 in
theorem dictOf_step {n : Nat} (hV : ValueOfOk n) : DictOfOk n := by
  intro ks l u ok w hf hl hA hk hr
  obtain ⟨b, m, vs, rfl, hb, hvs, hks, hm, hown, hel⟩ := hr
  have hbl := hown.lt
  have HV := Lib.hid hV
  have HF := Lib.hid hf
  have HA := Lib.hid hA
  have HK := Lib.hid hk
  have HE := Lib.hid hel
  have HVS := Lib.hid hvs
  have HKS := Lib.hid hks
  have HKL := Lib.hid (Maps.string_keyed (P := Try.prog) Try.underlying9)
  have HCS := Lib.hid (Came.start (ks := ks) (vs := vs) (by rw [hks, hvs]))
  clear hV hf hA hk hel
  obtain ⟨N, hNN⟩ : ∃ N, N = l.length := ⟨_, rfl⟩
  have HN := Lib.hid hNN
  rw [← hNN] at hl
  clear hNN hvs hks
  obtain ⟨D, hD⟩ : ∃ D, D = DataW.map (pairsOf ks vs) := ⟨_, rfl⟩
  have HD := Lib.hid hD
  rw [← hD] at hown HCS
  clear hD
  have HOW := Lib.hid hown
  have HO := Lib.hid (((hown.alloc zeroCells).alloc (dictBox (.slice none 0 0) (.slice none 0 0))))
  have HB := Lib.hid (((Below.refl w.heap.size w).alloc (Nat.le_refl _) zeroCells).alloc (by simp) (dictBox (.slice none 0 0) (.slice none 0 0)))
  have hz : ((w.alloc zeroCells).alloc (dictBox (.slice none 0 0) (.slice none 0 0))).heap.size = w.heap.size + 2 := by simp
  have hb0 : ((w.alloc zeroCells).alloc (dictBox (.slice none 0 0) (.slice none 0 0))).heap[w.heap.size]? = some zeroCells := (blk_alloc_old (by simp)).trans (heap_alloc_new w _)
  have hb1 : ((w.alloc zeroCells).alloc (dictBox (.slice none 0 0) (.slice none 0 0))).heap[w.heap.size + 1]? = some (dictBox (.slice none 0 0) (.slice none 0 0)) := by
    have := heap_alloc_new (w.alloc zeroCells) (dictBox (.slice none 0 0) (.slice none 0 0))
    rwa [size_alloc1] at this
  have HZ := Lib.hid hz
  have HB0 := Lib.hid hb0
  have HB1 := Lib.hid hb1
  have HBL := Lib.hid hbl
  clear hown hz hb0 hb1 hbl
  go_enter Try.func28, Try.ntmps28
  go_wp2_with (at_range; refine wpList_range_own _ rfl _ 58 rfl 9 20 HKL.out Try.underlying58 rawR b m D rfl HO.out ?_; intro w0 hrg0 hg0 hs0)
  (try go_frame)
  simp only [size_alloc1]
  have hd0 : dictBox (.slice none 0 0) (.slice none 0 0) = .cells #[.int .i64 7, .int .i64 0, .float .f64 0, .string ⟨#[]⟩, .slice none 0 0, .slice none 0 0] 31 := rfl
  have hz0 : zeroCells = .cells #[.int .i64 0, .int .i64 0, .float .f64 0, .string ⟨#[]⟩, .slice none 0 0, .slice none 0 0] 31 := rfl
  rw [← hd0, ← hz0] at hg0 hs0 hrg0
  rw [HZ.out] at hrg0 hs0
  have HR0 := Lib.hid hrg0
  have HW0 := Lib.hid (HB.out.trans ((below_of_grown hg0).mono (by rw [HZ.out]; omega)))
  have HX0 := Lib.hid ((hg0.block _ (by rw [HZ.out]; omega) (by simp)).trans HB0.out)
  have HX1 := Lib.hid ((hg0.block _ (by rw [HZ.out]; omega) (by simp)).trans HB1.out)
  have HS0 := Lib.hid (show w.heap.size + 2 < w0.heap.size by omega)
  clear hd0 hz0 hrg0 hg0 hs0 HB HB0 HB1 HO
  go_loopw [] (fun wr => ∃ (left : Lit → Bool) (cnt : Nat) (ss : List (List UInt8)) (A4 : Option Addr) (c4 : Nat), Hid (wr.ranges Try.prog 9 rawR b (w.heap.size + 1 + 1) m D left cnt) ∧ Hid (Came ks left ss) ∧ Hid (wr.ownsRow w.heap.size 9 1 (.slice A4 ss.length c4) ss.length (ss.map Go.Proofs.encStr)) ∧ Hid (some (w.heap.size + 1) ≠ (Value.slice A4 ss.length c4).ownBlock ∧ some w.heap.size ≠ (Value.slice A4 ss.length c4).ownBlock) ∧
    Hid (wr.heap[w.heap.size + 1]? = some (dictBox (.slice A4 ss.length c4) (.slice none 0 0))) ∧ Hid (wr.heap[w.heap.size]? = some zeroCells) ∧ Hid (Below w.heap.size w wr) ∧ Hid (w.heap.size + 2 < wr.heap.size)) (fun wr => wr.rangeLeft b (w.heap.size + 1 + 1))
  case atStart => exact ⟨_, _, [], none, 0, HR0, HCS, Lib.hid (World.ownsRow_nil _ _ _ _), Lib.hid (by simp [Value.ownBlock]), HX1, HX0, HW0, HS0⟩
  case round =>
    clear HR0 HCS HX1 HX0 HW0 HS0
    obtain ⟨left, cnt, ss, A4, c4, hR, hC, hO, hNE, hX1, hX0, hB, hS⟩ := hrel
    go_wp2_with (at_next; refine wpList_next_ranges _ rfl _ rfl 9 HKL.out rawR Value.string id (fun key kl h => key_string_inv h) (fun v y _ => ⟨v, rfl⟩) b (w.heap.size + 1 + 1) m D left cnt rfl hR.out ?_ ?_)
    · intro hc0 hl0
      obtain ⟨hnd, hmem⟩ := hC.out.all hl0
      have hsort := sorted_keys HA.out hnd hmem
      have hsl : ss.length = N := by
        have h1 : (ss.mergeSort fun x y => decide (x ≤ y)).length = ss.length := by simp
        rw [← h1, hsort]
        simp [keyLists, HKS.out, HN.out]
      have q4 : wr.cell? ⟨w.heap.size + 1, 4, none⟩ = some (.slice A4 ss.length c4) := (blk_cell hX1.out 4).trans rfl
      have HSORT := Lib.hid hsort
      have HSL := Lib.hid hsl
      have hlen : ss.length ≤ 1000 := by omega
      clear hc0 hl0 hnd hmem hsort hsl hR hC
      go_wp2_with fail
      refine (sort_row w.heap.size A4 c4 ss wr hO.out hlen).mono ?_
      rintro e w1 ⟨rfl, ho1, hg1⟩
      rw [HSORT.out, enc_keys] at ho1
      have hX11 := blk_grown hX1.out hg1 hNE.out.1
      have hX10 := blk_grown hX0.out hg1 hNE.out.2
      have hB1 := Below.grown hB.out hg1 (by have := hS.out; omega) (fun q hq => (hO.out.lt q hq).1)
      have hS1 := Nat.lt_of_lt_of_le hS.out hg1.size
      have hNE1 := hNE.out
      rw [HSL.out] at ho1 hX11 hNE1
      have q4 : w1.cell? ⟨w.heap.size + 1, 4, none⟩ = some (.slice A4 N c4) := (blk_cell hX11 4).trans rfl
      have HX11 := Lib.hid hX11
      have HX10 := Lib.hid hX10
      have HO1 := Lib.hid ho1
      have HB1 := Lib.hid hB1
      have HS1 := Lib.hid hS1
      have HNE1 := Lib.hid hNE1
      obtain ⟨L, hLL⟩ : ∃ L, L = l.map (normN n) := ⟨_, rfl⟩
      have HL := Lib.hid hLL
      have HLn := Lib.hid (show L.length = N by rw [hLL, HN.out]; simp)
      rw [← hLL]
      clear ho1 hg1 hX11 hX10 hB1 hS1 hNE1 hO hX1 hX0 hB hS hNE hLL
      go_wp2
      go_loopw [26] (fun i wr => ∃ (k : Nat) (A5 : Option Addr) (c5 : Nat), i = .int .i64 k ∧ k ≤ N ∧ Hid (k31.R 31 wr w.heap.size (fun q => some q ≠ (Value.slice A4 N c4).ownBlock ∧ q ≠ w.heap.size + 1 ∧ q ≠ w.heap.size) (.slice A5 k c5) (L.take k)) ∧ Hid (wr.heap[w.heap.size + 1]? = some (dictBox (.slice A4 N c4) (.slice A5 k c5))) ∧ Hid (wr.heap[w.heap.size]? = some zeroCells) ∧
        Hid (wr.ownsRow w.heap.size 9 1 (.slice A4 N c4) N (ks.map Value.string)) ∧ Hid (Below w.heap.size w wr) ∧ Hid (w.heap.size + 2 < wr.heap.size)) (fun i _ => N - (intOf i).toNat)
      case atStart => exact ⟨0, none, 0, rfl, Nat.zero_le _, Lib.hid (by rw [List.take_zero]; exact Kd.R_nil _ _ _ _ _), HX11, HX10, HO1, HB1, HS1⟩
      case round =>
        clear HX11 HX10 HO1 HB1 HS1 q4
        obtain ⟨k, A5, c5, rfl, hk, hR, hX1, hX0, hO, hB, hS⟩ := hrel
        by_cases ck : k < N
        · have hkN : k < ks.length := by rw [HKS.out, ← HN.out]; exact ck
          obtain ⟨gk, hgk⟩ : ∃ gk, A4 = some ⟨gk, 0, none⟩ := by
            rcases hO.out.2 with ⟨_, h⟩ | ⟨g', c', _, h, _⟩
            · omega
            · injection h with h; exact ⟨g', h⟩
          subst hgk
          have hcell : wr.cell? ⟨gk, k, none⟩ = some (.string (ks.getD k ⟨#[]⟩)) := by
            have h1 : (ks.map Value.string)[k]? = some (.string (ks.getD k ⟨#[]⟩)) := by simp [List.getD_eq_getElem?_getD, hkN]
            have h2 := hO.out.cells (g := gk) (by simp [Value.ownBlock]) k _ h1
            rw [Addr.add_lit, Nat.zero_add] at h2
            exact h2
          have hks : (ks.getD k ⟨#[]⟩).size ≤ 300 := by
            have h1 : ks.getD k ⟨#[]⟩ = ks[k] := by simp [List.getD_eq_getElem?_getD, hkN]
            rw [h1]
            exact HK.out _ (List.getElem_mem hkN)
          have hlook : ∀ w' : World, Below w.heap.size w w' → (Instr.lookup 58 (.map (some b)) (.string (ks.getD k ⟨#[]⟩)) false).run Try.prog w' = .ok (vs.getD k .nilIface) w' := by
            intro w' hb'
            have ho' : w'.ownsMap Try.prog 9 rawR b m D := ownsMap_below HOW.out hb'
            obtain ⟨v, ps, hrun, hv⟩ := ho'.lookup HKL.out Try.underlying58 (z := .nilIface) (by kernel_rfl) (zd := .held .nilIface) rfl (WideMaps.keyOf_string_mk (P := Try.prog) Try.underlying9 (s := ks.getD k ⟨#[]⟩) (by unfold maxLen; omega))
            have h1 : ks.getD k ⟨#[]⟩ = ks[k] := by simp [List.getD_eq_getElem?_getD, hkN]
            rw [HD.out, h1, atKey_pairs ks vs (by rw [HKS.out, HVS.out]) HA.out k hkN] at hv
            have h2 : DataW.held v = .held (vs.getD k .nilIface) := congrArg Prod.fst (Option.some.inj hv)
            injection h2 with h2
            rw [h1] at hrun ⊢
            rw [← h2]
            exact hrun
          have hgo := HE.out k (by rw [← HN.out]; exact ck)
          have hfk := HF.out k (by rw [← HN.out]; exact ck)
          have hgo2 : GoN n ok wr.drew (l.getD k z31) (vs.getD k .nilIface) := hgo.imp (Nat.le_refl n) (fun _ h _ => h) (fun q _ hlt => hB.out.block q hlt)
          have hLk := Lib.hid (show L.take (k + 1) = L.take k ++ [normN n (l.getD k z31)] by
            have h1 : k < L.length := by rw [HLn.out]; exact ck
            rw [List.take_succ_eq_append_getElem h1]
            congr 2
            have h2 : k < l.length := by rw [← HN.out]; exact ck
            simp [HL.out, List.getD_eq_getElem?_getD, h2])
          have hLt := Lib.hid (show (L.take k).length = k by rw [List.length_take, HLn.out]; omega)
          have HLOOK := Lib.hid hlook
          have l0 := hlook _ hB.out.drew
          generalize l.getD k z31 = x at *
          generalize vs.getD k .nilIface = r at *
          generalize ks.getD k ⟨#[]⟩ = key at *
          generalize hy : normN n x = y at *
          have HVx := Lib.hid (HV.out x r ok wr.drew hfk hgo2)
          rw [hy] at HVx
          have q5 : wr.cell? ⟨w.heap.size + 1, 5, none⟩ = some (.slice A5 k c5) := (blk_cell hX1.out 5).trans rfl
          have L0 := Lib.hid l0
          clear hgo hfk hgo2 hy hlook l0
          go_wp2
          refine start_ (n := 10) (ds := [9]) (S := fun w' => w'.cell? ⟨w.heap.size + 1, 5, none⟩ = some (.slice A5 k c5) ∧ (Instr.lookup 58 (.map (some b)) (.string key) false).run Try.prog w' = .ok r w') #[false, false, false, false, false, false, false, false, false, false] (by kernel_rfl) rfl rfl ⟨q5, L0.out⟩ (fun hHeld => ?_)
          clear q5 hcell
          refine pure_ (i := 0) (N := some 30) (v := ?_) (a' := ?_) #[true, false, false, false, false, false, false, false, false, false] rfl rfl (by kernel_rfl) (fun _ _ _ h => h) (Or.inl ⟨by rfl, ?_⟩) ?_ ?_
          rotate_left; (intro w'; go_simp; with_reducible rfl)
          rotate_left; (go_frame; rfl)
          refine take_ (i := 1) (N := some 31) (v := ?_) (a' := ?_) #[true, true, false, false, false, false, false, false, false, false] rfl rfl (by kernel_rfl) (fun _ _ _ h => h) (Or.inl ⟨by rfl, ?_⟩) hHeld ?_ ?_
          rotate_left
          · rintro w' ⟨s0, s1⟩
            go_simp
            with_reducible rfl
          rotate_left; (go_frame; rfl)
          refine pure_ (i := 2) (N := some 32) (v := ?_) (a' := ?_) #[true, true, true, false, false, false, false, false, false, false] rfl rfl (by kernel_rfl) (fun _ _ _ h => h) (Or.inl ⟨by rfl, ?_⟩) ?_ ?_
          rotate_left; (intro w'; go_simp; with_reducible rfl)
          rotate_left; (go_frame; rfl)
          refine pure_ (i := 3) (N := some 33) (v := ?_) (a' := ?_) #[true, true, true, true, false, false, false, false, false, false] rfl rfl (by kernel_rfl) (fun _ _ _ h => h) (Or.inl ⟨by rfl, ?_⟩) ?_ ?_
          rotate_left; (intro w'; go_simp; with_reducible rfl)
          rotate_left; (go_frame; rfl)
          refine take_ (i := 4) (N := some 34) (v := ?_) (a' := ?_) #[true, true, true, true, true, false, false, false, false, false] rfl rfl (by kernel_rfl) (fun _ _ _ h => h) (Or.inl ⟨by rfl, ?_⟩) hHeld ?_ ?_
          rotate_left
          · rintro w' ⟨s0, s1⟩
            go_simp
            with_reducible rfl
          rotate_left; (go_frame; rfl)
          refine one_ (i := 5) (N := some 35) #[true, true, true, true, true, true, false, false, false, false] rfl rfl (by kernel_rfl) (by decide) (fun K hK => ?_)
          refine goes_ Try.func34 (by kernel_rfl) rfl #[r] (by rfl) rfl rfl (by (try simp only [List.map_toArray, List.map_cons, List.map_nil]); first | done | rfl) ?_
          refine HVx.out.mono ?_
          rintro e w2 ⟨v4, v5, rfl, h4, h5, hb2⟩
          obtain ⟨A4v, m4, c4v, rfl⟩ : ∃ A m c, v4 = .slice A m c := by obtain ⟨A, c, h⟩ := Kd.R_slice h4; exact ⟨A, _, c, h⟩
          obtain ⟨A5v, m5, c5v, rfl⟩ : ∃ A m c, v5 = .slice A m c := by obtain ⟨A, c, h⟩ := Kd.R_slice h5; exact ⟨A, _, c, h⟩
          refine ⟨_, rfl, ?_⟩
          have hSd : w.heap.size ≤ wr.drew.heap.size := by have := hS.out; show w.heap.size ≤ wr.heap.size; omega
          have hX12 : w2.heap[w.heap.size + 1]? = some (dictBox (.slice (some ⟨gk, 0, none⟩) N c4) (.slice A5 k c5)) := blk_below (w := wr.drew) (blk_drew hX1.out) hb2
          have hX02 : w2.heap[w.heap.size]? = some zeroCells := blk_below (w := wr.drew) (blk_drew hX0.out) hb2
          have hO2 : w2.ownsRow w.heap.size 9 1 (.slice (some ⟨gk, 0, none⟩) N c4) N (ks.map Value.string) := own_move hO.out (fun q hq => hb2.block q (hO.out.lt q hq).2)
          have hR2 := Kd.R_below (w := wr.drew) (Kd.R_drew hR.out) hb2
          have hB2 : Below w.heap.size w w2 := hB.out.drew.trans (hb2.mono hSd)
          have hS2 : w.heap.size + 2 < w2.heap.size := Nat.lt_of_lt_of_le hS.out hb2.size
          have hM := val_M hSd h4 h5
          obtain ⟨inner5, ho5⟩ := Kd.R_own hR.out
          have hvb : ∀ q, (Value.slice A5 k c5).ownBlock = some q → q < wr.heap.size ∧ q ≠ w.heap.size + 1 ∧ q ≠ w.heap.size ∧ some q ≠ (Value.slice (some ⟨gk, 0, none⟩) N c4).ownBlock := fun q hq => ⟨(ho5.lt q hq).2, (hR.out.1 q hq).2.1, (hR.out.1 q hq).2.2, (hR.out.1 q hq).1⟩
          have hkb := fun q hq => (hO.out.lt q hq).2
          have HX12 := Lib.hid hX12
          have HX02 := Lib.hid hX02
          have HO2 := Lib.hid hO2
          have HR2 := Lib.hid hR2
          have HB2 := Lib.hid hB2
          have HS2 := Lib.hid hS2
          have HM := Lib.hid hM
          have HVB := Lib.hid hvb
          have HKB := Lib.hid hkb
          have HSZ := Lib.hid hb2.size
          have q5 : w2.cell? ⟨w.heap.size + 1, 5, none⟩ = some (.slice A5 k c5) := (blk_cell hX12 5).trans rfl
          have l2 := HLOOK.out w2 hB2
          clear h4 h5 hb2 hSd hX12 hX02 hO2 hR2 hB2 hS2 hM ho5 hvb hkb hR hX1 hX0 hO hB hHeld HVx L0
          refine hK.out _ _ ⟨q5, l2⟩ (fun hHeld => ?_)
          clear q5 l2
          clear hK K
          refine norm_ (a' := ?_) ?_ ?_
          rotate_left
          · show Act.put _ (some 35) _ = _
            go_frame
            rfl
          refine one_ (i := 6) (N := some 36) #[true, true, true, true, true, true, true, false, false, false] rfl rfl (by kernel_rfl) (by decide) (fun K hK => ?_)
          refine value_ (w1 := w2.alloc (.cells #[.int .i64 y.f0, .int .i64 y.f1, .float .f64 y.f2, .string y.f3, .slice A4v m4 c4v, .slice A5v m5 c5v] 31)) (v := .slice (some ⟨w2.heap.size, 0, none⟩) 1 1) (by rfl) rfl ?_ ?_
          · go_simp
          refine hK.out _ _ ⟨(blk_cell (blk_alloc HX12.out _) 5).trans rfl, HLOOK.out _ (HB2.out.alloc (by have := HS2.out; omega) _)⟩ (fun hHeld => ?_)
          clear hK K
          refine norm_ (a' := ?_) ?_ ?_
          rotate_left
          · show Act.put _ (some 36) _ = _
            go_frame
            rfl
          refine one_ (i := 7) (N := some 37) #[true, true, true, true, true, true, true, true, false, false] rfl rfl (by kernel_rfl) (by decide) (fun K hK => ?_)
          refine Kd.R_append_step k31 (w0 := w) w.heap.size (by rfl) _ _ 22 31 (.agg #[(.int .i64 0), (.int .i64 0), (.float .f64 0), (.string ⟨#[]⟩), (.slice none 0 0), (.slice none 0 0)]) 88 rfl Try.underlying22 info_val rfl (by decide) (by decide) (.slice A5 k c5) (L.take k) y [.int .i64 y.f0, .int .i64 y.f1, .float .f64 y.f2, .string y.f3, .slice A4v m4 c4v, .slice A5v m5 c5v] (fun q => some q ≠ (Value.slice (some ⟨gk, 0, none⟩) N c4).ownBlock ∧ q ≠ w.heap.size + 1 ∧ q ≠ w.heap.size) _ rfl rfl HM.out ?_ ?_ HR2.out HB2.out (by have := HS2.out; omega) (by rw [hLt.out]; omega) ?_
          · intro q hq
            have h1 : wr.heap.size ≤ q := hq.1
            have h2 := hS.out
            refine ⟨⟨fun h => ?_, by omega, by omega⟩, fun h => ?_⟩
            · have := HKB.out q h.symm; omega
            · have := (HVB.out q h.symm).1; omega
          · intro q hq
            have h1 : wr.heap.size ≤ w2.heap.size := HSZ.out
            have h2 := hS.out
            refine ⟨fun h => ?_, by omega, by omega⟩
            have := HKB.out q h.symm; omega
          intro v1 w3 h1 hb3 hg3 hat3
          obtain ⟨A6, c6, rfl⟩ : ∃ A c, v1 = .slice A (k + 1) c := by
            obtain ⟨A, c, h⟩ := Kd.R_slice h1
            rw [List.length_append, hLt.out] at h
            exact ⟨A, c, h⟩
          have hne1 : some (w.heap.size + 1) ≠ (Value.slice A5 k c5).ownBlock := fun h => (HVB.out _ h.symm).2.1 rfl
          have hne0 : some w.heap.size ≠ (Value.slice A5 k c5).ownBlock := fun h => (HVB.out _ h.symm).2.2.1 rfl
          have hX13 := blk_grown HX12.out hg3 hne1
          have hX03 := blk_grown HX02.out hg3 hne0
          have hO3 : w3.ownsRow w.heap.size 9 1 (.slice (some ⟨gk, 0, none⟩) N c4) N (ks.map Value.string) := HO2.out.kept hg3 (.inr (fun e => by
            have h := HVB.out gk (by rw [← e]; rfl)
            exact h.2.2.2 rfl))
          have HX13 := Lib.hid hX13
          have HX03 := Lib.hid hX03
          have HO3 := Lib.hid hO3
          have HR3 := Lib.hid (show k31.R 31 w3 w.heap.size (fun q => some q ≠ (Value.slice (some ⟨gk, 0, none⟩) N c4).ownBlock ∧ q ≠ w.heap.size + 1 ∧ q ≠ w.heap.size) (.slice A6 (k + 1) c6) (L.take (k + 1)) by rw [hLk.out]; exact h1)
          have HB3 := Lib.hid hb3
          have HS3 := Lib.hid (Nat.lt_of_lt_of_le HS2.out hg3.size)
          have q5 : w3.cell? ⟨w.heap.size + 1, 5, none⟩ = some (.slice A5 k c5) := (blk_cell hX13 5).trans rfl
          have z5 := blk_frozen hX13 5
          have l3 := HLOOK.out w3 hb3
          clear h1 hb3 hg3 hat3 hne1 hne0 hX13 hX03 hO3 hHeld
          refine hK.out _ _ ⟨q5, l3⟩ (fun hHeld => ?_)
          clear l3
          clear hK K
          refine norm_ (a' := ?_) ?_ ?_
          rotate_left
          · show Act.put _ (some 37) _ = _
            go_frame
            rfl
          refine pure_ (i := 8) (N := some 38) (v := ?_) (a' := ?_) #[true, true, true, true, true, true, true, true, true, false] rfl rfl (by kernel_rfl) (fun _ _ _ h => h) (Or.inl ⟨by rfl, ?_⟩) ?_ ?_
          rotate_left; (intro w'; go_simp; with_reducible rfl)
          rotate_left; (go_frame; rfl)
          refine last_ (i := 9) (N := none) #[true, true, true, true, true, true, true, true, true, true] rfl rfl (by kernel_rfl) (by decide) (fun K hK => ?_)
          refine skip_ (w1 := w3.setCell ⟨w.heap.size + 1, 5, none⟩ (.slice A6 (k + 1) c6)) (by rfl) rfl ?_ ?_
          · go_simp
          refine hK.out _ _ ?_
          clear hK K q5 z5 hHeld
          refine done_ (by kernel_rfl) ?_
          go_wp2
          go_roundw
          case rel => exact ⟨k + 1, A6, c6, by go_num, by omega, Lib.hid (Kd.R_far (p := ⟨w.heap.size + 1, 5, none⟩) HR3.out (fun q hq => hq.2.1) _), Lib.hid (blk_put HX13.out 5 _ rfl), Lib.hid (blk_far HX03.out (by show w.heap.size ≠ w.heap.size + 1; omega) _), Lib.hid (own_move HO3.out (fun q hq => Below.heap_setCell _ _ _ _ (fun e => HNE1.out.1 (by rw [hq, e])))), Lib.hid (HB3.out.setCell (by show w.heap.size ≤ w.heap.size + 1; omega) _), Lib.hid (by have := HS3.out; simpa [World.setCell] using this)⟩
          case measure => simp [intOf]; omega
        · have hkn : k = N := by omega
          subst hkn
          have p0 := (blk_cell hX1.out 0).trans rfl
          have p1 := (blk_cell hX1.out 1).trans rfl
          have p2 := (blk_cell hX1.out 2).trans rfl
          have p3 := (blk_cell hX1.out 3).trans rfl
          have p4 := (blk_cell hX1.out 4).trans rfl
          have p5 := (blk_cell hX1.out 5).trans rfl
          have q0 := (blk_cell hX0.out 0).trans rfl
          have q1 := (blk_cell hX0.out 1).trans rfl
          have q2 := (blk_cell hX0.out 2).trans rfl
          have q3 := (blk_cell hX0.out 3).trans rfl
          have q4 := (blk_cell hX0.out 4).trans rfl
          have q5 := (blk_cell hX0.out 5).trans rfl
          have z0 := blk_frozen hX0.out 0
          have z1 := blk_frozen hX0.out 1
          have z2 := blk_frozen hX0.out 2
          have z3 := blk_frozen hX0.out 3
          have z4 := blk_frozen hX0.out 4
          have z5 := blk_frozen hX0.out 5
          have HR := Lib.hid (show k31.R 31 wr w.heap.size (fun q => some q ≠ (Value.slice A4 k c4).ownBlock ∧ q ≠ w.heap.size + 1 ∧ q ≠ w.heap.size) (.slice A5 k c5) (l.map (normN n)) by
            have h := hR.out
            rw [List.take_of_length_le (by rw [HLn.out]; exact Nat.le_refl _), HL.out] at h
            exact h)
          clear hR
          go_wp2
          refine bodyPost_ret (v := .agg #[.int .i64 7, .int .i64 0, .float .f64 0, .string ⟨#[]⟩, .slice A4 k c4, .slice A5 k c5]) (by simp [results, Try.results28, go_sem, q0, q1, q2, q3, q4, q5]) rfl ?_
          refine ⟨_, _, rfl, ?_, Kd.R_mono (R_sixO HR.out (g := w.heap.size) (fun q hq => hq.2.2) _ _ _ _ _ _) (fun q hq => hq.1), below_six hB.out (Nat.le_refl _) _ _ _ _ _ _⟩
          refine Kd.R_of_own (enc := Value.string) (h1 := fun _ => rfl) ?_ (fun _ _ => trivial)
          have h := own_sixO hO.out (g := w.heap.size) HNE1.out.2 (.int .i64 7) (.int .i64 0) (.float .f64 0) (.string ⟨#[]⟩) (.slice A4 k c4) (.slice A5 k c5)
          have e1 : ks.length = k := by rw [HKS.out, ← HN.out]
          rw [e1]
          exact h
    · intro x c kl y yp w1 cnt1 hkey hlk hRy hat hrg1 hlt hg1 hs1 hen
      obtain rfl := key_string hkey
      have hlen := hC.out.length_le
      rw [HKS.out, ← HN.out] at hlen
      have hri := row_ne_iter hO.out hR.out
      have HC1 := Lib.hid (hC.out.next hlk)
      have HO1 := Lib.hid (hO.out.kept hg1 (.inr (fun e => hri e.symm)))
      have HB1 := Lib.hid (Below.grown hB.out hg1 (by have := hS.out; omega) (fun q hq => by injection hq with hq; omega))
      have HS1 := Lib.hid (show w.heap.size + 2 < w1.heap.size by rw [hs1]; exact hS.out)
      have HX11 := Lib.hid ((hg1.block _ (by have := hS.out; omega) (by intro h; injection h with h; omega)).trans hX1.out)
      have HX10 := Lib.hid ((hg1.block _ (by have := hS.out; omega) (by intro h; injection h with h; omega)).trans hX0.out)
      have HR1 := Lib.hid hrg1
      have HLT := Lib.hid hlt
      have q4 : w1.cell? ⟨w.heap.size + 1, 4, none⟩ = some (.slice A4 ss.length c4) := (blk_cell HX11.out 4).trans rfl
      have HSW := Lib.hid hs1
      have HRL := Lib.hid hR.out.left_eq
      clear hkey hlk hRy hat hrg1 hlt hg1 hC hO hB hX1 hX0 hri hs1
      go_wp2_with (at_builtin; refine print_append_cells (w0 := w) w.heap.size rfl _ _ 28 9 (.string ⟨#[]⟩) 1 16 rfl Try.underlying28 info_str rfl (by decide) (by decide) (.slice A4 ss.length c4) ss.length (ss.map Go.Proofs.encStr) [.string x] rfl rfl rfl (fun u hu => by rw [List.mem_singleton.1 hu]; rfl) HO1.out HB1.out (by have := HS1.out; omega) (by omega) ?_)
      intro v1 w3 hown hb3 hgr hat1
      obtain ⟨A5, c5, rfl⟩ : ∃ A5 c5, v1 = .slice A5 (ss.length + 1) c5 := by
        rcases hown.2 with ⟨_, h⟩ | ⟨g', c', _, h, _⟩
        · omega
        · exact ⟨_, c', h⟩
      have hne := hNE.out
      have hlast : (ss ++ [x.data.toList]).length = ss.length + 1 := by simp
      have HLA := Lib.hid hlast
      have hown2 : w3.ownsRow w.heap.size 9 1 (.slice A5 (ss ++ [x.data.toList]).length c5) (ss ++ [x.data.toList]).length ((ss ++ [x.data.toList]).map Go.Proofs.encStr) := by
        rw [hlast, List.map_append]
        exact hown
      have hX13 : w3.heap[w.heap.size + 1]? = some (dictBox (.slice A4 ss.length c4) (.slice none 0 0)) := blk_grown HX11.out hgr hne.1
      have hX03 : w3.heap[w.heap.size]? = some zeroCells := blk_grown HX10.out hgr hne.2
      have hne3 : some (w.heap.size + 1) ≠ (Value.slice A5 (ss.length + 1) c5).ownBlock ∧ some w.heap.size ≠ (Value.slice A5 (ss.length + 1) c5).ownBlock := by
        rcases hat1 with h | ⟨b', h, h2⟩
        · rw [h]; exact hne
        · rw [h]
          have := HS1.out
          exact ⟨by intro e; injection e with e; omega, by intro e; injection e with e; omega⟩
      have hrow := HO1.out
      have hR3 : w3.ranges Try.prog 9 rawR b (w.heap.size + 1 + 1) m D (fun z => left z && !z.sameKey (.string x.data.toList)) cnt1 := HR1.out.kept hgr (by
          intro e
          have := (hrow.lt b e.symm).1
          have := HBL.out
          omega) (row_ne_iter hrow HR1.out)
      have q4 : w3.cell? ⟨w.heap.size + 1, 4, none⟩ = some (.slice A4 ss.length c4) := (blk_cell hX13 4).trans rfl
      have z4 := blk_frozen hX13 4
      have HX13 := Lib.hid hX13
      have HX03 := Lib.hid hX03
      have HO3 := Lib.hid hown2
      have HR3 := Lib.hid hR3
      have HB3 := Lib.hid hb3
      have HN3 := Lib.hid hne3
      have HS3 := Lib.hid (show w.heap.size + 2 < w3.heap.size from Nat.lt_of_lt_of_le HS1.out hgr.size)
      clear hown hb3 hgr hat1 hne hlast hown2 hX13 hX03 hne3 hrow hR3 HX11 HX10 HO1 HR1 HB1 hNE hR hS
      go_wp2
      go_roundw
      case rel =>
        refine ⟨_, cnt1, ss ++ [x.data.toList], A5, c5, Lib.hid (HR3.out.kept (grown_set w3 (w.heap.size + 1) 4 (.slice A5 (ss.length + 1) c5)) (by intro e; injection e with e; have := HBL.out; omega) (by intro e; injection e with e; omega)), HC1, ?_, ?_, ?_, Lib.hid (blk_far HX03.out (by show w.heap.size ≠ w.heap.size + 1; omega) _), Lib.hid (HB3.out.setCell (by show w.heap.size ≤ w.heap.size + 1; omega) _), Lib.hid (by have := HS3.out; simpa [World.setCell] using this)⟩
        · refine Lib.hid (own_move HO3.out (fun k hk => Below.heap_setCell _ _ _ _ ?_))
          intro e
          have h1 := HN3.out.1
          rw [HLA.out] at hk
          exact h1 (by rw [hk, e])
        · rw [HLA.out]; exact HN3
        · rw [HLA.out]
          exact Lib.hid (blk_put HX13.out 4 _ rfl)
      case measure =>
        have h1 := (HR3.out.kept (grown_set w3 (w.heap.size + 1) 4 (.slice A5 (ss.length + 1) c5)) (by intro e; injection e with e; have := HBL.out; omega) (by intro e; injection e with e; omega)).left_eq
        have h2 := HRL.out
        have h3 := HLT.out
        show World.rangeLeft _ b _ < World.rangeLeft _ b _
        rw [h1, h2]
        exact h3
/-- All three, at every depth. -/
theorem val_all : ∀ n, ValueOfOk n
  | 0 => fun x v ok w hx hv => hx.elim
  | n + 1 => valueOf_step (valuesOf_step (val_all n)) (dictOf_step (val_all n))
theorem vals_all (n : Nat) : ValuesOfOk n := valuesOf_step (val_all n)
theorem dict_all (n : Nat) : DictOfOk n := dictOf_step (val_all n)
theorem goList_all (n : Nat) : GoListOk n := goList_step (go_all n)
theorem goDict_all (n : Nat) : GoDictOk n := goDict_step (go_all n)
#print axioms val_all
end Go.Proofs.Ytffkinonnkbcpaa.P
