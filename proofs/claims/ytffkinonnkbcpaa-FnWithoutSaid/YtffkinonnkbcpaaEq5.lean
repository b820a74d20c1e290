/- zzEqual: two dicts; all values. -/
import Derived.Test.YtffkinonnkbcpaaEq4
import Derived.Test.YtffkinonnkbcpaaG7
set_option linter.unusedVariables false
set_option linter.unusedSimpArgs false
namespace Go.Proofs.Ytffkinonnkbcpaa.P
open Go.RowKit Go.Proofs.YtffkinonnkbcpaaW.PrintWords Go.Proofs.YtffkinonnkbcpaaW.PrintLast Go.Proofs.YtffkinonnkbcpaaW.PrintMore
attribute [local go_sem] run_store_float

theorem grown_of_below {w w' : World} (h : Below w.heap.size w w') : w.grownBy w' none := ⟨h.os, h.tape, h.output, h.size, fun k hk _ => h.block k hk⟩
theorem pairs_length : ∀ (ks : List ByteArray) (vs : List Value), ks.length = vs.length → (pairsOf ks vs).length = ks.length
  | [], [], _ => rfl
  | k :: ks, v :: vs, h => by simp only [pairsOf, List.length_cons]; rw [pairs_length ks vs (by simpa using h)]
  | [], _ :: _, h => by simp at h
  | _ :: _, [], h => by simp at h
/-- What stands under a key. -/
theorem atKey_inv : ∀ (ks : List ByteArray) (vs : List Value), ks.length = vs.length → ∀ (s : List UInt8) (c : Value), (∀ zd : DataW Value, (DataW.map (pairsOf ks vs)).atKey (.string s) zd = .held c) → ∃ i, ∃ hi : i < ks.length, (ks[i]).data.toList = s ∧ vs.getD i .nilIface = c
  | [], [], _, s, c, h => by
    exfalso
    have h1 := h (.held (.bool true))
    have h2 := h (.held (.bool false))
    simp [pairsOf, DataW.atKey] at h1 h2
    rw [← h1] at h2
    cases h2
  | k :: ks, v :: vs, hl, s, c, h => by
    by_cases hk : k.data.toList = s
    · refine ⟨0, by simp, hk, ?_⟩
      have h1 := h (.held .nilIface)
      simp only [pairsOf, DataW.atKey] at h1
      rw [List.find?_cons_of_pos (by simp [Lit.sameKey, hk])] at h1
      simpa using h1
    · have h2 : ∀ zd : DataW Value, (DataW.map (pairsOf ks vs)).atKey (.string s) zd = .held c := fun zd => by
        have h1 := h zd
        simp only [pairsOf, DataW.atKey] at h1
        rw [List.find?_cons_of_neg (by simp [Lit.sameKey]; exact hk)] at h1
        exact h1
      obtain ⟨i, hi, e1, e2⟩ := atKey_inv ks vs (by simpa using hl) s c h2
      exact ⟨i + 1, by simp; omega, by simpa using e1, by simpa using e2⟩
  | [], _ :: _, h, _, _, _ => by simp at h
  | _ :: _, [], h, _, _, _ => by simp at h
/-- Ascending keys that are all among other ascending ones are not more. -/
theorem ascend_sub : ∀ (ys xs : List ByteArray), Ascend xs → Ascend ys → (∀ a ∈ xs, a ∈ ys) → xs.length ≤ ys.length
  | [], xs, _, _, h => by
    cases xs with
    | nil => exact Nat.le_refl _
    | cons a xs => exact absurd (h a (List.mem_cons_self ..)) (by simp)
  | b :: ys, xs, hx, hy, h => by
    cases xs with
    | nil => simp
    | cons a xs =>
      have hx2 := List.pairwise_cons.1 hx
      have hy2 := List.pairwise_cons.1 hy
      have hsub : ∀ c ∈ xs, c ∈ ys := fun c hc => by
        rcases List.mem_cons.1 (h c (List.mem_cons_of_mem _ hc)) with e | e
        · exfalso
          subst e
          rcases List.mem_cons.1 (h a (List.mem_cons_self ..)) with e2 | e2
          · subst e2
            exact less_ne (hx2.1 _ hc) rfl
          · have := less_trans (hx2.1 _ hc) (hy2.1 _ e2)
            rw [less_irrefl] at this
            cases this
        · exact e
      have := ascend_sub ys xs hx2.2 hy2.2 hsub
      simp only [List.length_cons]
      omega
theorem ascend_eq : ∀ (ys xs : List ByteArray), Ascend xs → Ascend ys → xs.length = ys.length → (∀ a ∈ xs, a ∈ ys) → xs = ys
  | [], xs, _, _, hl, _ => List.eq_nil_of_length_eq_zero hl
  | b :: ys, xs, hx, hy, hl, h => by
    cases xs with
    | nil => cases hl
    | cons a xs =>
      have hx2 := List.pairwise_cons.1 hx
      have hy2 := List.pairwise_cons.1 hy
      rcases List.mem_cons.1 (h a (List.mem_cons_self ..)) with e | e
      · subst e
        have hsub : ∀ c ∈ xs, c ∈ ys := fun c hc => by
          rcases List.mem_cons.1 (h c (List.mem_cons_of_mem _ hc)) with e | e
          · exact absurd (by rw [e]) (less_ne (hx2.1 _ hc))
          · exact e
        rw [ascend_eq ys xs hx2.2 hy2.2 (by simpa using hl) hsub]
      · exfalso
        have hba := hy2.1 _ e
        have hsub : ∀ c ∈ a :: xs, c ∈ ys := fun c hc => by
          rcases List.mem_cons.1 (h c hc) with e2 | e2
          · exfalso
            subst e2
            rcases List.mem_cons.1 hc with e3 | e3
            · subst e3
              rw [less_irrefl] at hba
              cases hba
            · have := less_trans hba (hx2.1 _ e3)
              rw [less_irrefl] at this
              cases this
          · exact e2
        have := ascend_sub ys (a :: xs) hx hy2.2 hsub
        simp only [List.length_cons] at this hl
        omega
theorem mem_index {l : List ByteArray} {a : ByteArray} (h : a ∈ l) : ∃ j, ∃ hj : j < l.length, l[j] = a := by
  obtain ⟨j, hj, e⟩ := List.getElem_of_mem h
  exact ⟨j, hj, e⟩
theorem ascend_inj {ks : List ByteArray} (h : Ascend ks) {i j : Nat} (hi : i < ks.length) (hj : j < ks.length) (e : ks[i] = ks[j]) : i = j := by
  rcases Nat.lt_trichotomy i j with c | c | c
  · exact absurd (by rw [e]) (less_ne (List.pairwise_iff_getElem.1 h i j hi hj c))
  · exact c
  · exact absurd (by rw [e]) (less_ne (List.pairwise_iff_getElem.1 h j i hj hi c))
/-- The keys that have come so far have the same values in the other dict. -/
def Good (n : Nat) (ks ks' : List ByteArray) (l m : List S31) (left : Lit → Bool) : Prop := ∀ i, ∀ hi : i < ks.length, left (.string (ks[i]).data.toList) = false → ∃ j, ∃ hj : j < ks'.length, ks'[j] = ks[i] ∧ SameP n (m.getD j z31) (l.getD i z31)
theorem Good.done {n : Nat} {ks ks' : List ByteArray} {l m : List S31} {left : Lit → Bool} (h : Good n ks ks' l m left) (hl : ∀ z, left z = false) (ha : Ascend ks) (ha' : Ascend ks') (hlen : ks.length = ks'.length) (hk : ks.length = l.length) : ks = ks' ∧ ∀ j, j < l.length → SameP n (m.getD j z31) (l.getD j z31) := by
  have he : ks = ks' := ascend_eq ks' ks ha ha' hlen (fun a hm => by
    obtain ⟨i, hi, rfl⟩ := mem_index hm
    obtain ⟨j, hj, e, _⟩ := h i hi (hl _)
    rw [← e]
    exact List.getElem_mem hj)
  subst he
  refine ⟨rfl, fun i hi => ?_⟩
  obtain ⟨j, hj, e, hs⟩ := h i (by omega) (hl _)
  have := ascend_inj ha hj (by omega) e
  subst this
  exact hs
theorem Good.next {n : Nat} {ks ks' : List ByteArray} {l m : List S31} {left : Lit → Bool} (h : Good n ks ks' l m left) (ha : Ascend ks) {i j : Nat} (hi : i < ks.length) (hj : j < ks'.length) (e : ks'[j] = ks[i]) (hs : SameP n (m.getD j z31) (l.getD i z31)) : Good n ks ks' l m (fun z => left z && !z.sameKey (.string (ks[i]).data.toList)) := by
  intro i' hi' hf
  by_cases c : (ks[i']).data.toList = (ks[i]).data.toList
  · have := ascend_inj ha hi' hi (ba_ext c)
    subst this
    exact ⟨j, hj, e, hs⟩
  · refine h i' hi' ?_
    have hk : (Lit.string (ks[i']).data.toList).sameKey (.string (ks[i]).data.toList) = false := by
      cases hb : (Lit.string (ks[i']).data.toList).sameKey (.string (ks[i]).data.toList) with
      | false => rfl
      | true =>
        simp [Lit.sameKey] at hb
        exact absurd (by rw [hb]) c
    have hf2 : (left (.string (ks[i']).data.toList) && !(Lit.string (ks[i']).data.toList).sameKey (.string (ks[i]).data.toList)) = false := hf
    rw [hk] at hf2
    simpa using hf2
set_option maxHeartbeats 3200000 in
set_option maxRecDepth 100000 in
theorem eqMap_call {n : Nat} (hE : EqOk n) (ks ks' : List ByteArray) (l m : List S31) (p q : Value) (ok ok' : Nat → Prop) (w : World) (hl : ∀ i, i < l.length → rightN n (l.getD i z31) ∧ finN n (l.getD i z31)) (hm : ∀ i, i < m.length → rightN n (m.getD i z31)) (ha : Ascend ks) (ha' : Ascend ks') (hp : MapOf (GoN n ok w) ok w ks l p) (hq : MapOf (GoN n ok' w) ok' w ks' m q) :
    Calls Try.prog 47 #[.iface 58 p, .iface 58 q] w (BoolPost (ks = ks' ∧ ∀ j, j < l.length → SameP n (m.getD j z31) (l.getD j z31)) w) := by
  obtain ⟨b1, m1, vs1, rfl, hb1, hvs1, hks1, hm1, hown1, hel1⟩ := hp
  obtain ⟨b2, m2, vs2, rfl, hb2, hvs2, hks2, hm2, hown2, hel2⟩ := hq
  have HL := Lib.hid hl
  have HM := Lib.hid hm
  have HEQ := Lib.hid hE
  have HA1 := Lib.hid ha
  have HA2 := Lib.hid ha'
  have HE1 := Lib.hid hel1
  have HE2 := Lib.hid hel2
  have HVS1 := Lib.hid hvs1
  have HVS2 := Lib.hid hvs2
  have HK1 := Lib.hid hks1
  have HK2 := Lib.hid hks2
  have hz1 : Maps.size (DataW.map (pairsOf ks vs1)) = ks.length := pairs_length ks vs1 (by rw [hks1, hvs1])
  have hz2 : Maps.size (DataW.map (pairsOf ks' vs2)) = ks'.length := pairs_length ks' vs2 (by rw [hks2, hvs2])
  have l1 := fun ty => hown1.len (t := 58) Try.underlying58 ty
  have l2 := fun ty => hown2.len (t := 58) Try.underlying58 ty
  rw [hz1] at l1
  rw [hz2] at l2
  have HKL := Lib.hid (Maps.string_keyed (P := Try.prog) Try.underlying9)
  obtain ⟨D1, hD1⟩ : ∃ D, D = DataW.map (pairsOf ks vs1) := ⟨_, rfl⟩
  obtain ⟨D2, hD2⟩ : ∃ D, D = DataW.map (pairsOf ks' vs2) := ⟨_, rfl⟩
  have HD1 := Lib.hid hD1
  have HD2 := Lib.hid hD2
  rw [← hD1] at hown1
  rw [← hD2] at hown2
  have HO1 := Lib.hid hown1
  have HO2 := Lib.hid hown2
  have HG0 := Lib.hid (show Good n ks ks' l m (Maps.has D1) from fun i hi hf => by
    rw [hD1, (has_pairs ks vs1 (by rw [hks1, hvs1]) _).2 (List.mem_map.2 ⟨_, List.getElem_mem hi, rfl⟩)] at hf
    cases hf)
  have ta1 := shl_7 (.map (some b1))
  have ta2 := shm_7 (.map (some b1))
  have tb1 := shl_7 (.map (some b2))
  have tb2 := shm_7 (.map (some b2))
  have hn1 : ∀ W : World, (binOp BinOp.eql 58 (Value.map (some b1)) (Value.map none)).run Try.prog W = .ok (.bool false) W := fun W => by kernel_rfl
  have hn2 : ∀ W : World, (binOp BinOp.eql 58 (Value.map (some b2)) (Value.map none)).run Try.prog W = .ok (.bool false) W := fun W => by kernel_rfl
  clear hl hm hE ha ha' hel1 hel2 hvs1 hvs2 hks1 hks2 hz1 hz2 hD1 hD2 hown1 hown2 hb1 hb2 hm1 hm2
  by_cases hn : ks.length = ks'.length
  · have HN := Lib.hid hn
    have k1 : ((ks.length : Int) == (ks'.length : Int)) = true := by simp [hn]
    have k2 : ((ks.length : Int) != (ks'.length : Int)) = false := by simp [hn]
    clear hn
    go_enter Try.func47, Try.ntmps47
    go_wp2_with (at_range; refine wpList_range_own _ rfl _ 58 rfl 9 20 HKL.out Try.underlying58 rawR b1 m1 D1 rfl HO1.out ?_; intro w0 hrg0 hg0 hs0)
    (try go_frame)
    have HR0 := Lib.hid hrg0
    have HW0 := Lib.hid hg0
    clear hrg0 hg0 hs0
    go_loopw [] (fun wr => ∃ (left : Lit → Bool) (cnt : Nat), Hid (wr.ranges Try.prog 9 rawR b1 w.heap.size m1 D1 left cnt) ∧ Hid (w.grownBy wr none) ∧ Hid (Good n ks ks' l m left)) (fun wr => wr.rangeLeft b1 w.heap.size)
    case atStart => exact ⟨_, _, HR0, HW0, HG0⟩
    case round =>
      clear HR0 HW0 HG0
      obtain ⟨left, cnt, hR, hW, hG⟩ := hrel
      go_wp2_with (at_next; refine wpList_next_ranges _ rfl _ rfl 9 HKL.out rawR Value.string id (fun key kl h => key_string_inv h) (fun v y _ => ⟨v, rfl⟩) b1 w.heap.size m1 D1 left cnt rfl hR.out ?_ ?_)
      · intro hc0 hl0
        have HT := Lib.hid (hG.out.done hl0 HA1.out HA2.out HN.out HK1.out)
        clear hc0 hl0
        go_wp2
        go_ret
        exact ⟨true, rfl, ⟨fun _ => HT.out, fun _ => rfl⟩, below_of_grown hW.out⟩
      · intro x c kl yd yp w1 cnt1 hkey hlk hRy hat hrg1 hlt hg1 hs1 hen
        obtain rfl := key_string hkey
        obtain rfl : yd = .held c := by
          have := hRy
          simp only [rawR, Option.some.injEq, Prod.mk.injEq] at this
          exact this.1.symm
        obtain ⟨i, hi, hx, hc⟩ := atKey_inv ks vs1 (by rw [HK1.out, HVS1.out]) x.data.toList c (by rw [← HD1.out]; exact hat)
        have hxi : ks[i] = x := ba_ext hx
        have hW1 : w.grownBy w1 none := hW.out.andThen hg1 (fun j hj => by cases hj; exact Or.inl (Nat.le_refl _))
        have HW1 := Lib.hid hW1
        have HW2 := Lib.hid (HO2.out.kept hW1 (by simp))
        have HKEY := Lib.hid hkey
        have HRG1 := Lib.hid hrg1
        have HLT := Lib.hid hlt
        have HI := Lib.hid (⟨hi, hxi, hc⟩ : ∃ hi : i < ks.length, ks[i] = x ∧ vs1.getD i .nilIface = c)
        clear hkey hlk hRy hat hrg1 hlt hg1 hs1 hx hxi hc hW1 hi
        cases hh : Maps.has D2 (.string x.data.toList) with
        | false =>
          have HF := Lib.hid (show ¬ (ks = ks' ∧ ∀ j, j < l.length → SameP n (m.getD j z31) (l.getD j z31)) from fun h => by
            obtain ⟨hi, hx, _⟩ := HI.out
            have hm : x ∈ ks' := by rw [← h.1, ← hx]; exact List.getElem_mem hi
            rw [HD2.out, (has_pairs ks' vs2 (by rw [HK2.out, HVS2.out]) _).2 (List.mem_map.2 ⟨_, hm, rfl⟩)] at hh
            cases hh)
          go_wp2_with (at_lookup; refine wpList_lookup_own_ok _ rfl _ _ 58 rfl 9 20 HKL.out Try.underlying58 rawR (z := .nilIface) (by kernel_rfl) (.held .nilIface) [] rfl b2 m2 D2 rfl HW2.out _ (.string x.data.toList) rfl HKEY.out ?_; intro v2 ps2 hv2; rw [hh]; go_frame)
          go_ret
          exact ⟨false, rfl, ⟨(fun h => by cases h), fun h => absurd h HF.out⟩, below_of_grown HW1.out⟩
        | true =>
          obtain ⟨j, hj, hxj⟩ : ∃ j, ∃ hj : j < ks'.length, ks'[j] = x := by
            have h1 := hh
            rw [HD2.out] at h1
            obtain ⟨a, hm, e⟩ := List.mem_map.1 ((has_pairs ks' vs2 (by rw [HK2.out, HVS2.out]) _).1 h1)
            obtain rfl := ba_ext e
            exact mem_index hm
          have hat2 : D2.atKey (.string x.data.toList) (.held .nilIface) = .held (vs2.getD j .nilIface) := by
            rw [HD2.out, ← hxj]
            exact atKey_pairs ks' vs2 (by rw [HK2.out, HVS2.out]) HA2.out j hj _
          have HAT2 := Lib.hid hat2
          have HJ := Lib.hid (⟨hj, hxj⟩ : ∃ hj : j < ks'.length, ks'[j] = x)
          have hil : i < l.length := by have := HK1.out; have := HI.out.1; omega
          have hjm : j < m.length := by have := HK2.out; omega
          have HCA := Lib.hid (show Calls Try.prog 47 #[c, vs2.getD j .nilIface] w1 (BoolPost (SameP n (m.getD j z31) (l.getD i z31)) w1) from by
            have h1 := HE1.out i hil
            rw [HI.out.2.2] at h1
            exact HEQ.out _ _ _ _ ok ok' w1 (HL.out i hil).1 (HM.out j hjm) (HL.out i hil).2 (h1.below (below_of_grown HW1.out)) ((HE2.out j hjm).below (below_of_grown HW1.out)))
          clear hat2 hj hxj hil hjm
          generalize vs2.getD j .nilIface = vj at *
          go_wp2_with (at_lookup; refine wpList_lookup_own_ok _ rfl _ _ 58 rfl 9 20 HKL.out Try.underlying58 rawR (z := .nilIface) (by kernel_rfl) (.held .nilIface) [] rfl b2 m2 D2 rfl HW2.out _ (.string x.data.toList) rfl HKEY.out ?_; intro v2 ps2 hv2; rw [hh]; go_frame)
          have hv3 : v2 = vj := by
            have h1 := hv2
            rw [HAT2.out] at h1
            simp only [rawR, Option.some.injEq, Prod.mk.injEq, DataW.held.injEq] at h1
            exact h1.1
          subst hv3
          clear hv2
          refine HCA.out.mono ?_
          rintro e w2 ⟨r, rfl, hr, hb2⟩
          have HRR := Lib.hid hr
          have hg2 := grown_of_below hb2
          have HR2 := Lib.hid (HRG1.out.kept hg2 (by simp) (by simp))
          have HW3 := Lib.hid (show w.grownBy w2 none from HW1.out.andThen hg2 (fun j hj => by cases hj))
          clear hr hb2 hg2 HCA
          cases r with
          | false =>
            have HF := Lib.hid (show ¬ (ks = ks' ∧ ∀ j, j < l.length → SameP n (m.getD j z31) (l.getD j z31)) from fun h => by
              obtain ⟨hi, hx, _⟩ := HI.out
              obtain ⟨hj, hxj⟩ := HJ.out
              obtain ⟨h1, h2⟩ := h
              subst h1
              have := ascend_inj HA1.out hi hj (by rw [hx, hxj])
              subst this
              have := HRR.out.2 (h2 i (by rw [← HK1.out]; exact hi))
              cases this)
            go_wp2
            go_ret
            exact ⟨false, rfl, ⟨(fun h => by cases h), fun h => absurd h HF.out⟩, below_of_grown HW3.out⟩
          | true =>
            have HG2 := Lib.hid (show Good n ks ks' l m (fun z => left z && !z.sameKey (.string x.data.toList)) from by
              obtain ⟨hi, hx, _⟩ := HI.out
              obtain ⟨hj, hxj⟩ := HJ.out
              have := hG.out.next HA1.out hi hj (by rw [hx, hxj]) (HRR.out.1 rfl)
              rwa [hx] at this)
            go_wp2
            go_roundw
            case rel => exact ⟨_, cnt1, HR2, HW3, HG2⟩
            case measure => rw [HR2.out.left_eq, hR.out.left_eq]; exact HLT.out
  · have HNF := Lib.hid (show ¬ (ks = ks' ∧ ∀ j, j < l.length → SameP n (m.getD j z31) (l.getD j z31)) from fun h => hn (by rw [h.1]))
    have k1 : ((ks.length : Int) == (ks'.length : Int)) = false := by simpa using (show ¬ (ks.length : Int) = ks'.length by omega)
    have k2 : ((ks.length : Int) != (ks'.length : Int)) = true := by simpa using (show ¬ (ks.length : Int) = ks'.length by omega)
    clear hn
    go_enter Try.func47, Try.ntmps47
    go_wp2
    go_ret
    exact ⟨false, rfl, ⟨(fun h => by cases h), fun h => absurd h HNF.out⟩, Below.refl _ _⟩
theorem sh_scal {n : Nat} {x : S31} {v : Value} {ok : Nat → Prop} {w : World} (hv : GoN (n + 1) ok w x v) (h6 : x.f0 ≠ 6) (h7 : x.f0 ≠ 7) : (∀ W : World, (Instr.typeAssert v 20 43 true).run Try.prog W = .ok (.tuple #[.slice none 0 0, .bool false]) W) ∧ (∀ W : World, (Instr.typeAssert v 20 58 true).run Try.prog W = .ok (.tuple #[.map none, .bool false]) W) := by
  rcases hv with ⟨h0, rfl⟩ | ⟨h0, rfl⟩ | ⟨h0, rfl⟩ | ⟨h0, rfl⟩ | ⟨h0, rfl⟩ | ⟨h0, rfl⟩ | ⟨h0, _⟩ | ⟨h0, _⟩
  · exact ⟨fun W => shl_0 W, fun W => shm_0 W⟩
  · exact ⟨fun W => shl_1 _ W, fun W => shm_1 _ W⟩
  · exact ⟨fun W => shl_2 _ W, fun W => shm_2 _ W⟩
  · exact ⟨fun W => shl_3 _ W, fun W => shm_3 _ W⟩
  · exact ⟨fun W => shl_4 _ W, fun W => shm_4 _ W⟩
  · exact ⟨fun W => shl_5 _ W, fun W => shm_5 _ W⟩
  · exact absurd h0 h6
  · exact absurd h0 h7
theorem list_of {n : Nat} {x : S31} {v : Value} {ok : Nat → Prop} {w : World} (hv : GoN (n + 1) ok w x v) (h : x.f0 = 6) : ∃ u, v = .iface 43 u ∧ RowOf (GoN n ok w) ok w x.f5 u := by
  rcases hv with ⟨h0, _⟩ | ⟨h0, _⟩ | ⟨h0, _⟩ | ⟨h0, _⟩ | ⟨h0, _⟩ | ⟨h0, _⟩ | ⟨_, h1⟩ | ⟨h0, _⟩
  all_goals first | exact h1 | (rw [h] at h0; exact absurd h0 (by decide))
theorem dict_of {n : Nat} {x : S31} {v : Value} {ok : Nat → Prop} {w : World} (hv : GoN (n + 1) ok w x v) (h : x.f0 = 7) : ∃ u, v = .iface 58 u ∧ MapOf (GoN n ok w) ok w x.f4 x.f5 u := by
  rcases hv with ⟨h0, _⟩ | ⟨h0, _⟩ | ⟨h0, _⟩ | ⟨h0, _⟩ | ⟨h0, _⟩ | ⟨h0, _⟩ | ⟨h0, _⟩ | ⟨_, h1⟩
  all_goals first | exact h1 | (rw [h] at h0; exact absurd h0 (by decide))
theorem eq_step {n : Nat} (hE : EqOk n) : EqOk (n + 1) := by
  intro x y v u ok ok' w hx hy hf hv hu
  have hx2 := hx
  have hy2 := hy
  obtain ⟨-, -, xl, -, -, xe, x7, -⟩ := hx2
  obtain ⟨-, -, yl, -, -, ye, y7, -⟩ := hy2
  by_cases hx6 : x.f0 = 6
  · obtain ⟨p, rfl, hp⟩ := list_of hv hx6
    by_cases hy6 : y.f0 = 6
    · obtain ⟨q, rfl, hq⟩ := list_of hu hy6
      have h := eqList_call hE x.f5 y.f5 p q ok ok' w (fun i hi => ⟨xe i hi, hf.2 i hi⟩) ye (by omega) (by omega) hp hq
      rwa [← list_iff hx hy hx6 hy6] at h
    · refine post_of (eq_ln (fun W => shl_6 p W) ?_ w) (no_of (by rw [hx6]; exact fun h => hy6 h.symm))
      by_cases hy7 : y.f0 = 7
      · obtain ⟨q, rfl, _⟩ := dict_of hu hy7
        exact fun W => shl_7 q W
      · exact (sh_scal hu hy6 hy7).1
  by_cases hx7 : x.f0 = 7
  · obtain ⟨p, rfl, hp⟩ := dict_of hv hx7
    by_cases hy7 : y.f0 = 7
    · obtain ⟨q, rfl, hq⟩ := dict_of hu hy7
      have h := eqMap_call hE x.f4 y.f4 x.f5 y.f5 p q ok ok' w (fun i hi => ⟨xe i hi, hf.2 i hi⟩) ye (x7 hx7).2 (y7 hy7).2 hp hq
      rwa [← dict_iff hx hy hx7 hy7] at h
    · refine post_of (eq_mn (fun W => shl_7 p W) (fun W => shm_7 p W) ?_ w) (no_of (by rw [hx7]; exact fun h => hy7 h.symm))
      by_cases hy6 : y.f0 = 6
      · obtain ⟨q, rfl, _⟩ := list_of hu hy6
        exact fun W => shm_6 q W
      · exact (sh_scal hu hy6 hy7).2
  have hsv := sh_scal hv hx6 hx7
  by_cases hy6 : y.f0 = 6
  · obtain ⟨q, rfl, _⟩ := list_of hu hy6
    exact post_of (eq_sl hsv.1 hsv.2 (fun W => shl_6 q W) w) (no_of (by rw [hy6]; exact hx6))
  by_cases hy7 : y.f0 = 7
  · obtain ⟨q, rfl, _⟩ := dict_of hu hy7
    exact post_of (eq_sm hsv.1 hsv.2 (fun W => shl_7 q W) (fun W => shm_7 q W) w) (no_of (by rw [hy7]; exact hx7))
  exact eq_scal hx hy hf hv hu hx6 hx7 hy6 hy7
theorem eq_all : ∀ n, EqOk n
  | 0 => fun x y v u ok ok' w h => h.elim
  | n + 1 => eq_step (eq_all n)
end Go.Proofs.Ytffkinonnkbcpaa.P
