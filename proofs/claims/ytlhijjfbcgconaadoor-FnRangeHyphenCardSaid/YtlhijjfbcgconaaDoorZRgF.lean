/- Texts joined: Rg27, Rg28, Rg29, Rg30, Rg31. -/
import Derived.Test.YtlhijjfbcgconaaDoorZRgD
import Derived.Test.YtlhijjfbcgconaaDoorZRgC
import Derived.Test.YtlhijjfbcgconaaDoorZQR3

/- Ranges: a - b: where the versions lie, and the constraints that stand for it. -/
set_option linter.unusedVariables false
set_option linter.unusedSimpArgs false
namespace Go.Proofs.YtlhijjfbcgconaaDoor.P
open Go.RowKit Go.Proofs.YtlhijjfbcgconaaDoorW.PrintWords Go.Proofs.YtlhijjfbcgconaaDoorW.PrintLast Go.Proofs.YtlhijjfbcgconaaDoorW.PrintMore

/-- What stands behind a version: nothing, or a sign that is none of its own. -/
def Off (T : List UInt8) : Prop := T = [] ∨ ∃ v T', T = v :: T' ∧ ¬ isM (v.toNat : Int) ∧ v.toNat ≠ 45 ∧ v.toNat ≠ 43
theorem bt_at (s : ByteArray) (A : List UInt8) (v : UInt8) (T : List UInt8) (h : s.data.toList = A ++ v :: T) : bt s (A.length : Int) = (v.toNat : Int) ∧ A.length < s.size := by
  refine ⟨bt_some ?_, ?_⟩
  · rw [h, List.getElem?_append_right (Nat.le_refl _), Nat.sub_self]
    rfl
  · rw [← size_list, h, List.length_append, List.length_cons]
    omega
/-- Three numbers within a text. -/
theorem text3e (s : ByteArray) (hs : s.size ≤ 1000) (pre : List UInt8) (a b c : Nat) (T : List UInt8) (hT : Off T) (hl : s.data.toList = pre ++ ((verT a b c).data.toList ++ T)) :
    pre.length + (verT a b c).size + T.length = s.size ∧ isM (bt s (pre.length : Int)) ∧ 0 < (verT a b c).size ∧
    ∃ m0 m1 m2 p q, m0.data.toList = Lib.decDigits a ∧ m1.data.toList = 46 :: Lib.decDigits b ∧ m2.data.toList = 46 :: Lib.decDigits c ∧ Ver s pre.length (pre.length + (verT a b c).size) m0 m1 m2 ⟨#[]⟩ pre.length p q (pre.length + (verT a b c).size) (pre.length + (verT a b c).size) := by
  have ea := Lib.decDigits_length a
  have eb := Lib.decDigits_length b
  have ec := Lib.decDigits_length c
  have pa := Lib.nDigits_pos a
  have pb := Lib.nDigits_pos b
  have pc := Lib.nDigits_pos c
  have hz := verT_size a b c
  rw [verT_list] at hl
  have g1 : s.data.toList = pre ++ (Lib.decDigits a ++ (46 :: (Lib.decDigits b ++ (46 :: (Lib.decDigits c ++ T))))) := by
    rw [hl]; simp
  obtain ⟨h1, h2, h3, h4⟩ := pos2 s pre a b _ g1
  rw [List.length_cons, List.length_append, ec] at h4
  have g2 : s.data.toList = (pre ++ (Lib.decDigits a ++ (46 :: Lib.decDigits b))) ++ 46 :: (Lib.decDigits c ++ T) := by
    rw [hl]; simp
  have z2 : (pre ++ (Lib.decDigits a ++ (46 :: Lib.decDigits b))).length = pre.length + Lib.nDigits a + 1 + Lib.nDigits b := by
    simp only [List.length_append, List.length_cons, ea, eb]; omega
  have h5 := (bt_at s _ _ _ g2).1
  rw [z2] at h5
  have g3 : s.data.toList = (pre ++ (Lib.decDigits a ++ (46 :: (Lib.decDigits b ++ [46])))) ++ (Lib.decDigits c ++ T) := by
    rw [hl]; simp
  have z3 : (pre ++ (Lib.decDigits a ++ (46 :: (Lib.decDigits b ++ [46])))).length = pre.length + Lib.nDigits a + 1 + Lib.nDigits b + 1 := by
    simp only [List.length_append, List.length_cons, List.length_nil, ea, eb]; omega
  have h6 := (pos1 s _ c T g3).1
  rw [z3] at h6
  have hend : pre.length + (verT a b c).size = s.size ∨ (pre.length + (verT a b c).size < s.size ∧ ¬ isM (bt s ((pre.length + (verT a b c).size : Nat) : Int)) ∧ bt s ((pre.length + (verT a b c).size : Nat) : Int) ≠ 45 ∧ bt s ((pre.length + (verT a b c).size : Nat) : Int) ≠ 43) := by
    rcases hT with rfl | ⟨v, T', rfl, t1, t2, t3⟩
    · left
      rw [List.length_nil] at h4
      omega
    · right
      have h7 := bt_at s (pre ++ (verT a b c).data.toList) v T' (by rw [verT_list, hl]; simp)
      rw [List.length_append, size_list] at h7
      rw [h7.1]
      exact ⟨h7.2, t1, by omega, by omega⟩
  refine ⟨by omega, h1 _ (Nat.le_refl _) (by omega), by omega, s.extract pre.length (pre.length + Lib.nDigits a), s.extract (pre.length + Lib.nDigits a) (pre.length + Lib.nDigits a + 1 + Lib.nDigits b), s.extract (pre.length + Lib.nDigits a + 1 + Lib.nDigits b) (pre.length + (verT a b c).size), pre.length + Lib.nDigits a, pre.length + Lib.nDigits a + 1 + Lib.nDigits b, ?_, ?_, ?_, ?_⟩
  · have := part_list s pre (Lib.decDigits a) _ g1
    rwa [ea] at this
  · have := part_list s (pre ++ Lib.decDigits a) (46 :: Lib.decDigits b) (46 :: (Lib.decDigits c ++ T)) (by rw [hl]; simp)
    rw [List.length_append, List.length_cons, ea, eb] at this
    rwa [show pre.length + Lib.nDigits a + (Lib.nDigits b + 1) = pre.length + Lib.nDigits a + 1 + Lib.nDigits b by omega] at this
  · have := part_list s (pre ++ (Lib.decDigits a ++ (46 :: Lib.decDigits b))) (46 :: Lib.decDigits c) T (by rw [hl]; simp)
    rw [z2, List.length_cons, ec] at this
    rwa [show pre.length + Lib.nDigits a + 1 + Lib.nDigits b + (Lib.nDigits c + 1) = pre.length + (verT a b c).size by omega] at this
  · exact {
      hv := v0_at (by omega) (h1 _ (Nat.le_refl _) (by omega))
      h0 := by omega
      ha := by omega
      hm := mark_f s (by omega) _ _ (by omega) (by omega) (.inr (fun h => (isM_v h).2.1 h2)) h1
      e0 := rfl
      s1 := .on (by omega) h2 (by omega) (by omega) (mark_f s (by omega) _ _ (by omega) (by omega) (.inr (fun h => (isM_v h).2.1 h5)) h3)
      s2 := .inr ⟨by omega, .on (by omega) h5 (by omega) (by omega) (mark_f s (by omega) _ _ (by omega) (by omega) (by
        rcases hend with h | h
        · exact .inl h
        · exact .inr h.2.1) (fun j j1 j2 => h6 j j1 (by omega)))⟩
      hcd := Nat.le_refl _
      hd := by omega
      p3 := zzParts_none s _ 45 (by
        rcases hend with h | h
        · exact .inl h
        · exact .inr ⟨h.1, h.2.2.1⟩)
      e3 := by rw [if_neg (Nat.lt_irrefl _)]
      hde := Nat.le_refl _
      he := by omega
      p4 := zzParts_none s _ 43 (by
        rcases hend with h | h
        · exact .inl h
        · exact .inr ⟨h.1, h.2.2.2⟩) }
theorem noVer_of {s : ByteArray} {a : Nat} (hs : s.size ≤ 1000) (ha : a ≤ s.size) (h : a < s.size → bt s (a : Int) ≠ 118 ∧ ¬ isM (bt s (a : Int))) : NoVer s a := by
  refine ⟨a, ?_, ha, mark_f s (by omega) a a (Nat.le_refl _) ha ?_ (fun j h1 h2 => absurd h2 (by omega))⟩
  · by_cases c : a < s.size
    · exact .inl ⟨rfl, .inr ⟨c, (h c).1⟩⟩
    · exact .inl ⟨rfl, .inl (by omega)⟩
  · by_cases c : a < s.size
    · exact .inr (h c).2
    · exact .inl (by omega)
theorem ext_nil0 (s : ByteArray) (i : Nat) : s.extract i (i + 0) = ⟨#[]⟩ := ba_ext (List.eq_nil_of_length_eq_zero (by rw [size_list, ByteArray.size_extract]; omega))
/-- At a sign that begins no operator there is no constraint, if no version follows. -/
theorem noAt_of {s : ByteArray} {i a : Nat} (hi : i ≤ s.size) (hb : ∀ b : Int, b = 61 ∨ b = 33 ∨ b = 62 ∨ b = 60 ∨ b = 126 ∨ b = 94 → i < s.size → bt s (i : Int) ≠ b) (hsp : Ev (fun k => semver_zzSpace.f k s (i : Int)) (a : Int)) (ha : a ≤ s.size) (hv : NoVer s a) : NoAt s i := by
  refine ⟨hi, fun j hj => ?_⟩
  match j, hj with
  | 0, _ => exact fails_first (b := 61) (by decide) (by decide +kernel) (hb _ (by decide))
  | 1, _ => exact .none (a := a) (by show i + 0 ≤ s.size; omega) (ext_nil0 s i) hsp ha hv
  | 2, _ => exact fails_first (b := 33) (by decide) (by decide +kernel) (hb _ (by decide))
  | 3, _ => exact fails_first (b := 62) (by decide) (by decide +kernel) (hb _ (by decide))
  | 4, _ => exact fails_first (b := 60) (by decide) (by decide +kernel) (hb _ (by decide))
  | 5, _ => exact fails_first (b := 62) (by decide) (by decide +kernel) (hb _ (by decide))
  | 6, _ => exact fails_first (b := 61) (by decide) (by decide +kernel) (hb _ (by decide))
  | 7, _ => exact fails_first (b := 60) (by decide) (by decide +kernel) (hb _ (by decide))
  | 8, _ => exact fails_first (b := 61) (by decide) (by decide +kernel) (hb _ (by decide))
  | 9, _ => exact fails_first (b := 126) (by decide) (by decide +kernel) (hb _ (by decide))
  | 10, _ => exact fails_first (b := 126) (by decide) (by decide +kernel) (hb _ (by decide))
  | 11, _ => exact fails_first (b := 94) (by decide) (by decide +kernel) (hb _ (by decide))
/-- An operator of two signs, a blank, a version. -/
theorem at_two {s : ByteArray} {i e K : Nat} {c : UInt8} (hs : s.size ≤ 1000) (hK : (K = 5 ∧ c = 62) ∨ (K = 7 ∧ c = 60)) (pre T : List UInt8) (hpre : pre.length = i) (hl : s.data.toList = pre ++ (c :: 61 :: 32 :: T)) (hm : isM (bt s ((i + 3 : Nat) : Int))) (hlt : i + 3 < e) (hv : ∃ m0 m1 m2 m3 i0 a1 b c d, Ver s (i + 3) e m0 m1 m2 m3 i0 a1 b c d) : At s i K (i + 3) e := by
  subst hpre
  have hz : s.size = pre.length + 3 + T.length := by
    rw [← size_list, hl, List.length_append]
    simp only [List.length_cons]
    omega
  have b0 := (bt_at s pre c _ hl).1
  have b1 := (bt_at s (pre ++ [c]) 61 (32 :: T) (by rw [hl]; simp)).1
  have b2 := (bt_at s (pre ++ [c, 61]) 32 T (by rw [hl]; simp)).1
  simp only [List.length_append, List.length_cons, List.length_nil, Nat.zero_add] at b1 b2
  have b1 : bt s ((pre.length + 1 : Nat) : Int) = 61 := b1
  have b2 : bt s ((pre.length + 2 : Nat) : Int) = 32 := b2
  have hc : c = 62 ∨ c = 60 := by rcases hK with h | h <;> simp [h.2]
  have bc : bt s (pre.length : Int) = 62 ∨ bt s (pre.length : Int) = 60 := by
    rcases hc with h | h <;> subst h
    · exact .inl b0
    · exact .inr b0
  have x2 : (s.extract pre.length (pre.length + 2)).data.toList = [c, 61] := part_list s pre [c, 61] (32 :: T) (by rw [hl]; simp)
  have x1 : (s.extract pre.length (pre.length + 1)).data.toList = [c] := part_list s pre [c] (61 :: 32 :: T) (by rw [hl]; simp)
  have sp0 : Ev (fun k => semver_zzSpace.f k s (pre.length : Int)) (pre.length : Int) := space_none s hs _ (by omega) (fun _ h => by unfold isS at h; omega)
  have nv0 : NoVer s pre.length := noVer_of hs (by omega) (fun _ => ⟨by omega, fun h => by unfold isM at h; omega⟩)
  have sp1 : Ev (fun k => semver_zzSpace.f k s ((pre.length + 1 : Nat) : Int)) ((pre.length + 1 : Nat) : Int) := space_none s hs _ (by omega) (fun _ h => by unfold isS at h; omega)
  have nv1 : NoVer s (pre.length + 1) := noVer_of hs (by omega) (fun _ => ⟨by omega, fun h => by unfold isM at h; omega⟩)
  have sp2 : Ev (fun k => semver_zzSpace.f k s ((pre.length + 2 : Nat) : Int)) ((pre.length + 3 : Nat) : Int) := space_f s (by omega) _ _ (by omega) (by omega) (.inr (fun h => by unfold isS at h; unfold isM at hm; omega)) (fun j h1 h2 => by
    obtain rfl : j = pre.length + 2 := by omega
    rw [b2]
    exact .inl rfl)
  have hd : ∀ b : Int, b ≠ 62 → b ≠ 60 → (pre.length < s.size → bt s (pre.length : Int) ≠ b) := fun b h1 h2 _ h => by omega
  have F0 : Fails s pre.length (opAt 0) := fails_first (b := 61) (by decide) (by decide +kernel) (hd _ (by decide) (by decide))
  have F1 : Fails s pre.length (opAt 1) := .none (a := pre.length) (by show pre.length + 0 ≤ s.size; omega) (ext_nil0 s _) sp0 (by omega) nv0
  have F2 : Fails s pre.length (opAt 2) := fails_first (b := 33) (by decide) (by decide +kernel) (hd _ (by decide) (by decide))
  rcases hK with ⟨rfl, rfl⟩ | ⟨rfl, rfl⟩
  · exact {
      hK := by decide
      hf := fun j hj => by
        match j, hj with
        | 0, _ => exact F0
        | 1, _ => exact F1
        | 2, _ => exact F2
        | 3, _ => exact .none (a := pre.length + 1) (by show pre.length + 1 ≤ s.size; omega) (ba_ext x1) sp1 (by omega) nv1
        | 4, _ => exact fails_first (b := 60) (by decide) (by decide +kernel) (fun _ h => by rw [b0] at h; revert h; decide)
      hh := ⟨by show pre.length + 2 ≤ s.size; omega, ba_ext x2, sp2, by show pre.length + 2 ≤ pre.length + 3; omega, by omega, hlt, hv⟩ }
  · exact {
      hK := by decide
      hf := fun j hj => by
        match j, hj with
        | 0, _ => exact F0
        | 1, _ => exact F1
        | 2, _ => exact F2
        | 3, _ => exact fails_first (b := 62) (by decide) (by decide +kernel) (fun _ h => by rw [b0] at h; revert h; decide)
        | 4, _ => exact .none (a := pre.length + 1) (by show pre.length + 1 ≤ s.size; omega) (ba_ext x1) sp1 (by omega) nv1
        | 5, _ => exact fails_first (b := 62) (by decide) (by decide +kernel) (fun _ h => by rw [b0] at h; revert h; decide)
        | 6, _ => exact fails_first (b := 61) (by decide) (by decide +kernel) (fun _ h => by rw [b0] at h; revert h; decide)
      hh := ⟨by show pre.length + 2 ≤ s.size; omega, ba_ext x2, sp2, by show pre.length + 2 ≤ pre.length + 3; omega, by omega, hlt, hv⟩ }
end Go.Proofs.YtlhijjfbcgconaaDoor.P


/- Constraints: a - b is rewritten. -/
set_option linter.unusedVariables false
set_option linter.unusedSimpArgs false
namespace Go.Proofs.YtlhijjfbcgconaaDoor.P
open Go.RowKit Go.Proofs.YtlhijjfbcgconaaDoorW.PrintWords Go.Proofs.YtlhijjfbcgconaaDoorW.PrintLast Go.Proofs.YtlhijjfbcgconaaDoorW.PrintMore

theorem strOf_bytesOf (t : ByteArray) : strOfNums (bytesOf t) = t := by
  apply ba_ext
  rw [strOfNums_data, bytesOf, List.map_map]
  conv => rhs; rw [← List.map_id t.data.toList]
  refine List.map_congr_left (fun b _ => ?_)
  simp
theorem replace_ev (s t : ByteArray) (h0 : 0 < s.size) (hs : s.size ≤ 1000) (ht : t.size ≤ 10000) : Ev (fun k => semver_zzReplace.f k s s t 1) t := by
  have hx : s.extract 0 s.size = s := by
    apply ba_ext
    rw [extract_list, List.drop_zero, Nat.sub_zero, ← size_list, List.take_length]
  have hxz : s.extract s.size s.size = ⟨#[]⟩ := ba_ext (List.eq_nil_of_length_eq_zero (by rw [size_list, ByteArray.size_extract]; omega))
  have hx0 : s.extract 0 0 = ⟨#[]⟩ := ba_ext (List.eq_nil_of_length_eq_zero (by rw [size_list, ByteArray.size_extract]; omega))
  have hb0 : bytesOf (⟨#[]⟩ : ByteArray) = [] := rfl
  have hi : Ev (fun k => semver_zzIndex.f k s s) 0 := by
    unfold semver_zzIndex.f
    refine Ev.step (fun k => by rw [semver_zzIndex.l0]) ?_
    have e1 : wrap64 (0 + (s.size : Int)) = (s.size : Int) := by rw [w64_in (by omega) (by omega)]; omega
    rw [e1]
    refine Ev.pos (by omega) (Ev.pos (by omega) (Ev.pos (by omega) (Ev.pos ?_ (Ev.ok _))))
    rw [Int.toNat_zero, Int.toNat_natCast, hx]
  have e0 : wrap64 (0 + 0) = 0 := w64_in (by decide) (by decide)
  have e1 : wrap64 (0 + (s.size : Int)) = (s.size : Int) := by rw [w64_in (by omega) (by omega)]; omega
  have e2 : wrap64 (0 + 1) = 1 := w64_in (by decide) (by decide)
  have z0 : (⟨#[]⟩ : ByteArray).size = 0 := rfl
  have hlen : (bytesOf t).length = t.size := bytesOf_length t
  unfold semver_zzReplace.f
  refine Ev.step (fun k => by rw [semver_zzReplace.l0]) (Ev.neg (by omega) ?_)
  rw [decide_eq_true (show (0 : Int) < 1 by omega)]
  refine Ev.step (fun k => by rw [semver_zzReplace.j1]) (Ev.pos rfl (Ev.neg (by omega) (Ev.pos (by omega) (Ev.pos (by omega) ?_))))
  rw [Int.toNat_zero, hx]
  refine Ev.bind hi (Ev.neg (by omega) ?_)
  rw [e0, Int.toNat_zero, hx0, hb0, e1, e2]
  refine Ev.pos (by omega) (Ev.pos (by omega) (Ev.pos (by rw [z0]; simp) (Ev.bind (Ev.ok _) (Ev.pos ?_ ?_))))
  · simp only [List.append_nil, List.length_nil]
    omega
  refine Ev.step (fun k => by rw [semver_zzReplace.l0]) (Ev.neg (by omega) ?_)
  rw [decide_eq_false (show ¬ (1 : Int) < 1 by omega)]
  refine Ev.step (fun k => by rw [semver_zzReplace.j1]) (Ev.neg (by decide) (Ev.pos (by omega) (Ev.pos (by omega) (Ev.pos ?_ ?_))))
  · rw [Int.toNat_natCast, hxz, z0]
    simp only [List.append_nil, List.nil_append, hlen]
    omega
  · rw [Int.toNat_natCast, hxz, hb0]
    simp only [List.append_nil, List.nil_append]
    rw [strOf_bytesOf]
    exact Ev.ok _
theorem replace_call (s t : ByteArray) (h0 : 0 < s.size) (hs : s.size ≤ 1000) (ht : t.size ≤ 10000) (W : World) : Calls Tryd.prog 108 #[.string s, .string s, .string t, .int .i64 1] W fun e w' => e = .returned (.string t) ∧ Below W.heap.size W w' := by
  obtain ⟨K, hK⟩ := replace_ev s t h0 hs ht
  exact semver_zzReplace.calls K s s t 1 t W (hK K (Nat.le_refl _)) True.intro
set_option maxHeartbeats 3200000 in
set_option maxRecDepth 100000 in
theorem rewrite_hyphen {s t : ByteArray} {e : Nat} {m0 m1 m2 m3 : ByteArray} {i0 a b c d : Nat} {r0 r1 r2 r3 : ByteArray} {k0 x y z u : Nat} (hs : s.size ≤ 300) (he : e + 3 < s.size) (h0 : 0 < e)
    (hV1 : Ver s 0 e m0 m1 m2 m3 i0 a b c d) (hV2 : Ver s (e + 3) s.size r0 r1 r2 r3 k0 x y z u) (s0 : Ev (fun k => semver_zzSpace.f k s ((0 : Nat) : Int)) ((0 : Nat) : Int)) (s1 : Ev (fun k => semver_zzSpace.f k s (e : Int)) ((e + 1 : Nat) : Int)) (hy : bt s ((e + 1 : Nat) : Int) = 45)
    (s2 : Ev (fun k => semver_zzSpace.f k s ((e + 2 : Nat) : Int)) ((e + 3 : Nat) : Int)) (s3 : Ev (fun k => semver_zzSpace.f k s (s.size : Int)) (s.size : Int)) (ht : ((((⟨#[62, 61, 32]⟩ : ByteArray) ++ s.extract 0 e) ++ (⟨#[44, 32, 60, 61, 32]⟩ : ByteArray)) ++ s.extract (e + 3) s.size) ++ (⟨#[32]⟩ : ByteArray) = t)
    (hrep : ∀ W, Calls Tryd.prog 108 #[.string s, .string s, .string t, .int .i64 1] W fun e w' => e = .returned (.string t) ∧ Below W.heap.size W w') (w : World) :
    Calls Tryd.prog 92 #[.string s] w fun e' w' => e' = .returned (.string t) ∧ Below w.heap.size w w' := by
  have HREP := Lib.hid hrep
  have HS0 := Lib.hid (fun W => space_call s0 W)
  have HS1 := Lib.hid (fun W => space_call s1 W)
  have HS2 := Lib.hid (fun W => space_call s2 W)
  have HS3 := Lib.hid (fun W => space_call s3 W)
  have HV1 := Lib.hid (fun W => zzVersion_yes (by omega) hV1 W)
  have HV2 := Lib.hid (fun W => zzVersion_yes (by omega) hV2 W)
  rw [show ((0 : Nat) : Int) = 0 from rfl] at HS0 HV1
  rw [show ((e + 1 : Nat) : Int) = (e : Int) + 1 by omega] at HS1
  rw [show ((e + 3 : Nat) : Int) = (e : Int) + 3 by omega] at HS2 HV2
  rw [show ((e + 2 : Nat) : Int) = (e : Int) + 1 + 1 by omega] at HS2
  unfold four at HV1 HV2
  have HT := Lib.hid ht
  have d1 : decide ((e : Int) ≥ 0) = true := decide_eq_true (by omega)
  have d2 : decide ((e : Int) + 1 > (e : Int)) = true := decide_eq_true (by omega)
  have d3 : decide ((e : Int) + 1 < (s.size : Int)) = true := decide_eq_true (by omega)
  have d4 : ((((s[e + 1]'(by omega)).toNat : Nat) : Int) == 45) = true := by rw [← bt_nat s (e + 1) (by omega), hy]; rfl
  have d5 : decide ((e : Int) + 3 > (e : Int) + 1 + 1) = true := decide_eq_true (by omega)
  have d6 : decide ((s.size : Int) < 0) = false := decide_eq_false (by omega)
  have d7 : decide (0 < (s.size : Int)) = true := decide_eq_true (by omega)
  have d8 : decide ((s.size : Int) < (s.size : Int)) = false := decide_eq_false (by omega)
  have HB0 := Lib.hid (Below.refl w.heap.size w)
  clear hrep s0 s1 s2 s3 hV1 hV2 ht hy
  go_enter Tryd.func92, Tryd.ntmps92
  go_upto_region 3 with fail
  go_loopw [3, 4] (fun x3 x4 wr => ((x4 = .int .i64 0 ∧ x3 = .string s) ∨ (x4 = .int .i64 (s.size : Int) ∧ x3 = .string t)) ∧ Hid (Below w.heap.size w wr)) (fun _ x4 _ => s.size - (intOf x4).toNat)
  case atStart => exact ⟨.inl ⟨rfl, rfl⟩, HB0⟩
  case round =>
    clear HB0
    obtain ⟨⟨rfl, rfl⟩ | ⟨rfl, rfl⟩, HB1⟩ := hrel
    rotate_left
    · go_wp2
      go_ret
      exact ⟨rfl, HB1.out⟩
    · skip
      go_wp2_with fail
      refine (HS0.out _).mono ?_
      rintro e2 w2 ⟨rfl, hb⟩
      have HB2 := Lib.hid (HB1.out.trans (hb.mono HB1.out.size))
      clear hb HB1
      clear HS0
      go_wp2_with fail
      refine (HV1.out _).mono ?_
      rintro e3 w3 ⟨rfl, hb⟩
      have HB3 := Lib.hid (HB2.out.trans (hb.mono HB2.out.size))
      clear hb HB2
      clear HV1
      go_upto_region 7 with fail
      have HB4 := Lib.hid (HB3.out.alloc HB3.out.size (.cells #[.string m0, .string m1, .string m2, .string m3] 136))
      generalize w3.alloc (.cells #[.string m0, .string m1, .string m2, .string m3] 136) = w4 at *
      clear HB3
      go_wp2_with fail
      refine (HS1.out _).mono ?_
      rintro e5 w5 ⟨rfl, hb⟩
      have HB5 := Lib.hid (HB4.out.trans (hb.mono HB4.out.size))
      clear hb HB4
      clear HS1
      go_wp2_with fail
      refine (HS2.out _).mono ?_
      rintro e6 w6 ⟨rfl, hb⟩
      have HB6 := Lib.hid (HB5.out.trans (hb.mono HB5.out.size))
      clear hb HB5
      clear HS2
      go_wp2_with fail
      refine (HV2.out _).mono ?_
      rintro e7 w7 ⟨rfl, hb⟩
      have HB7 := Lib.hid (HB6.out.trans (hb.mono HB6.out.size))
      clear hb HB6
      clear HV2
      go_wp2_with fail
      refine (HS3.out _).mono ?_
      rintro e9 w9 ⟨rfl, hb⟩
      have HB9 := Lib.hid (HB7.out.trans (hb.mono HB7.out.size))
      clear hb HB7
      clear HS3
      go_upto_region 17 with fail
      have hex : s.extract 0 s.size = s := by
        apply ba_ext
        rw [extract_list, List.drop_zero, Nat.sub_zero, ← size_list, List.take_length]
      have hT2 := HT.out
      have he3 : ((e : Int) + 3).toNat = e + 3 := by omega
      have g0 := eq_true (show (0 : Int) ≤ 0 by omega)
      have g1 := eq_true (show (0 : Int) ≤ (e : Int) by omega)
      have g2 := eq_true (show (e : Int) ≤ (s.size : Int) by omega)
      have g3 := eq_true (show (e : Int) + 3 ≤ (s.size : Int) by omega)
      have g4 := eq_true (show (0 : Int) ≤ (e : Int) + 3 by omega)
      have g5 := eq_true (show (0 : Int) ≤ (s.size : Int) by omega)
      have g6 := eq_true (show (s.size : Int) ≤ (s.size : Int) by omega)
      have HBd := Lib.hid (show Below w.heap.size w w9.drew from HB9.out.drew)
      clear HB9
      refine start_ (n := 19) (ds := []) (S := fun w' => True) #[false, false, false, false, false, false, false, false, false, false, false, false, false, false, false, false, false, false, false] (by kernel_rfl) rfl rfl (True.intro) (fun hHeld => ?_)
      generalize w9.drew = v0 at *
      refine pure_ (i := 0) (N := some 69) (v := ?_) (a' := ?_) #[true, false, false, false, false, false, false, false, false, false, false, false, false, false, false, false, false, false, false] rfl rfl (by kernel_rfl) (fun _ _ _ h => h) (Or.inl ⟨by rfl, ?_⟩) ?_ ?_
      rotate_left; (intro w'; go_simp; with_reducible rfl)
      rotate_left; (go_frame; rfl)
      refine pure_ (i := 1) (N := some 70) (v := ?_) (a' := ?_) #[true, true, false, false, false, false, false, false, false, false, false, false, false, false, false, false, false, false, false] rfl rfl (by kernel_rfl) (fun _ _ _ h => h) (Or.inl ⟨by rfl, ?_⟩) ?_ ?_
      rotate_left; (intro w'; go_simp; with_reducible rfl)
      rotate_left; (go_frame; rfl)
      refine pure_ (i := 2) (N := some 71) (v := ?_) (a' := ?_) #[true, true, true, false, false, false, false, false, false, false, false, false, false, false, false, false, false, false, false] rfl rfl (by kernel_rfl) (fun _ _ _ h => h) (Or.inl ⟨by rfl, ?_⟩) ?_ ?_
      rotate_left; (intro w'; go_simp; with_reducible rfl)
      rotate_left; (go_frame; rfl)
      refine pure_ (i := 3) (N := some 72) (v := ?_) (a' := ?_) #[true, true, true, true, false, false, false, false, false, false, false, false, false, false, false, false, false, false, false] rfl rfl (by kernel_rfl) (fun _ _ _ h => h) (Or.inl ⟨by rfl, ?_⟩) ?_ ?_
      rotate_left; (intro w'; go_simp; with_reducible rfl)
      rotate_left; (go_frame; rfl)
      refine pure_ (i := 4) (N := some 73) (v := ?_) (a' := ?_) #[true, true, true, true, true, false, false, false, false, false, false, false, false, false, false, false, false, false, false] rfl rfl (by kernel_rfl) (fun _ _ _ h => h) (Or.inl ⟨by rfl, ?_⟩) ?_ ?_
      rotate_left; (intro w'; go_simp; with_reducible rfl)
      rotate_left; (go_frame; rfl)
      refine pure_ (i := 5) (N := some 74) (v := ?_) (a' := ?_) #[true, true, true, true, true, true, false, false, false, false, false, false, false, false, false, false, false, false, false] rfl rfl (by kernel_rfl) (fun _ _ _ h => h) (Or.inl ⟨by rfl, ?_⟩) ?_ ?_
      rotate_left; (intro w'; go_simp; with_reducible rfl)
      rotate_left; (go_frame; rfl)
      refine pure_ (i := 6) (N := some 75) (v := ?_) (a' := ?_) #[true, true, true, true, true, true, true, false, false, false, false, false, false, false, false, false, false, false, false] rfl rfl (by kernel_rfl) (fun _ _ _ h => h) (Or.inl ⟨by rfl, ?_⟩) ?_ ?_
      rotate_left; (intro w'; go_simp; with_reducible rfl)
      rotate_left; (go_frame; rfl)
      refine pure_ (i := 7) (N := some 76) (v := ?_) (a' := ?_) #[true, true, true, true, true, true, true, true, false, false, false, false, false, false, false, false, false, false, false] rfl rfl (by kernel_rfl) (fun _ _ _ h => h) (Or.inl ⟨by rfl, ?_⟩) ?_ ?_
      rotate_left; (intro w'; go_simp; with_reducible rfl)
      rotate_left; (go_frame; rfl)
      refine pure_ (i := 8) (N := some 77) (v := ?_) (a' := ?_) #[true, true, true, true, true, true, true, true, true, false, false, false, false, false, false, false, false, false, false] rfl rfl (by kernel_rfl) (fun _ _ _ h => h) (Or.inl ⟨by rfl, ?_⟩) ?_ ?_
      rotate_left; (intro w'; go_simp; with_reducible rfl)
      rotate_left; (go_frame; rfl)
      refine pure_ (i := 9) (N := some 78) (v := ?_) (a' := ?_) #[true, true, true, true, true, true, true, true, true, true, false, false, false, false, false, false, false, false, false] rfl rfl (by kernel_rfl) (fun _ _ _ h => h) (Or.inl ⟨by rfl, ?_⟩) ?_ ?_
      rotate_left; (intro w'; go_simp; rw [if_neg (by omega)])
      rotate_left; (go_frame; rfl)
      refine pure_ (i := 10) (N := some 79) (v := ?_) (a' := ?_) #[true, true, true, true, true, true, true, true, true, true, true, false, false, false, false, false, false, false, false] rfl rfl (by kernel_rfl) (fun _ _ _ h => h) (Or.inl ⟨by rfl, ?_⟩) ?_ ?_
      rotate_left; (intro w'; go_simp; rw [if_neg (by omega)])
      rotate_left; (go_frame; rfl)
      refine pure_ (i := 11) (N := some 80) (v := ?_) (a' := ?_) #[true, true, true, true, true, true, true, true, true, true, true, true, false, false, false, false, false, false, false] rfl rfl (by kernel_rfl) (fun _ _ _ h => h) (Or.inl ⟨by rfl, ?_⟩) ?_ ?_
      rotate_left; (intro w'; go_simp; with_reducible rfl)
      rotate_left; (go_frame; rfl)
      refine pure_ (i := 12) (N := some 81) (v := ?_) (a' := ?_) #[true, true, true, true, true, true, true, true, true, true, true, true, true, false, false, false, false, false, false] rfl rfl (by kernel_rfl) (fun _ _ _ h => h) (Or.inl ⟨by rfl, ?_⟩) ?_ ?_
      rotate_left; (intro w'; go_simp; with_reducible rfl)
      rotate_left; (go_frame; rfl)
      refine pure_ (i := 13) (N := some 82) (v := ?_) (a' := ?_) #[true, true, true, true, true, true, true, true, true, true, true, true, true, true, false, false, false, false, false] rfl rfl (by kernel_rfl) (fun _ _ _ h => h) (Or.inl ⟨by rfl, ?_⟩) ?_ ?_
      rotate_left; (intro w'; go_simp; with_reducible rfl)
      rotate_left; (go_frame; rfl)
      refine pure_ (i := 14) (N := some 83) (v := ?_) (a' := ?_) #[true, true, true, true, true, true, true, true, true, true, true, true, true, true, true, false, false, false, false] rfl rfl (by kernel_rfl) (fun _ _ _ h => h) (Or.inl ⟨by rfl, ?_⟩) ?_ ?_
      rotate_left; (intro w'; go_simp; with_reducible rfl)
      rotate_left; (go_frame; rfl)
      refine pure_ (i := 15) (N := some 84) (v := ?_) (a' := ?_) #[true, true, true, true, true, true, true, true, true, true, true, true, true, true, true, true, false, false, false] rfl rfl (by kernel_rfl) (fun _ _ _ h => h) (Or.inl ⟨by rfl, ?_⟩) ?_ ?_
      rotate_left; (intro w'; go_simp; rw [if_neg (by omega)])
      rotate_left; (go_frame; rfl)
      refine pure_ (i := 16) (N := some 85) (v := ?_) (a' := ?_) #[true, true, true, true, true, true, true, true, true, true, true, true, true, true, true, true, true, false, false] rfl rfl (by kernel_rfl) (fun _ _ _ h => h) (Or.inl ⟨by rfl, ?_⟩) ?_ ?_
      rotate_left; (intro w'; go_simp; rw [if_neg (by omega)])
      rotate_left; (go_frame; rfl)
      refine one_ (i := 17) (N := some 86) #[true, true, true, true, true, true, true, true, true, true, true, true, true, true, true, true, true, true, false] rfl rfl (by kernel_rfl) (by decide) (fun K hK => ?_)
      refine goes_ Tryd.func108 (by kernel_rfl) rfl #[.string s, .string s, .string t, .int .i64 1] (by rfl) rfl rfl (by (try simp only [List.map_toArray, List.map_cons, List.map_nil]); first | done | rfl) ?_
      refine (HREP.out v0).mono ?_
      rintro e v1 ⟨rfl, hb⟩
      have HBz := Lib.hid (HBd.out.trans (hb.mono HBd.out.size))
      clear hb HBd
      refine ⟨_, rfl, ?_⟩
      clear hHeld
      refine hK.out _ _ (True.intro) (fun hHeld => ?_)
      clear hK K
      refine norm_ (a' := ?_) ?_ ?_
      rotate_left
      · show Act.put _ (some 86) _ = _
        go_frame
        rfl
      refine pure_ (i := 18) (N := some 3) (v := ?_) (a' := ?_) #[true, true, true, true, true, true, true, true, true, true, true, true, true, true, true, true, true, true, true] rfl rfl (by kernel_rfl) (fun _ _ _ h => h) (Or.inl ⟨by rfl, ?_⟩) ?_ ?_
      rotate_left; (intro w'; go_simp; with_reducible rfl)
      rotate_left; (go_frame; rfl)
      refine done_ (by kernel_rfl) ?_
      clear hHeld
      go_wp2
      go_roundw
      case rel => exact ⟨.inr ⟨rfl, rfl⟩, HBz⟩
      case measure => simp [intOf]; omega
end Go.Proofs.YtlhijjfbcgconaaDoor.P


/- Constraints: NewConstraint of two constraints. -/
set_option linter.unusedVariables false
set_option linter.unusedSimpArgs false
namespace Go.Proofs.YtlhijjfbcgconaaDoor.P
open Go.RowKit Go.Proofs.YtlhijjfbcgconaaDoorW.PrintWords Go.Proofs.YtlhijjfbcgconaaDoorW.PrintLast Go.Proofs.YtlhijjfbcgconaaDoorW.PrintMore

theorem cell_ltz {w : World} {a : Addr} {v : Value} (h : w.cell? a = some v) : a.block < w.heap.size := by
  unfold World.cell? at h
  cases hh : w.heap[a.block]? with
  | none => simp [hh] at h
  | some o => exact (Array.getElem?_eq_some_iff.1 hh).1
theorem make2 {P : Program} (t e : TypeId) (z : Value) (by_ : Nat) (ht : P.underlying t = some (.slice e)) (hinfo : (P.info? e).map (fun i => (i.zero, i.size, i.bytes)) = some (some z, 1, by_)) (hz : z.cells = #[z]) (hb : by_ ≤ 100) (W : World) :
    (Instr.makeSlice t (.int .i64 2) (.int .i64 2)).run P W = .ok (.slice (some ⟨W.heap.size, 0, none⟩) 2 2) (W.alloc (.cells #[z, z] e)) := by
  obtain ⟨i, hi, hzz⟩ := Option.map_eq_some_iff.1 hinfo
  simp only [Prod.mk.injEq] at hzz
  obtain ⟨h1, h2, h3⟩ := hzz
  have hr := run_make (P := P) W t e i z ht hi h1 .i64 .i64 2 2 (by omega) (by omega) (by rw [h3]; omega) (by omega)
  have hm : madeCells #[z] (Int.toNat 2 * 1) = #[z, z] := by
    apply Array.ext (by simp [madeCells])
    intro i h1 h2
    have : i = 0 ∨ i = 1 := by simp [madeCells] at h1; omega
    rcases this with rfl | rfl <;> simp [madeCells]
  rw [hr, h2, hz, hm]
  rfl
theorem mk_row2 (W : World) : (Instr.makeSlice 115 (.int .i64 2) (.int .i64 2)).run Tryd.prog W = .ok (.slice (some ⟨W.heap.size, 0, none⟩) 2 2) (W.alloc (.cells #[.pointer none, .pointer none] 116)) := make2 _ _ _ 8 Tryd.underlying115 (by kernel_rfl) rfl (by decide) W
set_option maxHeartbeats 6400000 in
set_option maxRecDepth 100000 in
theorem new_two {s t cu1 cu2 : ByteArray} {orig1 op1 mt1 og1 : ByteArray} {md1 dd1 pd1 : Bool} {n11 n12 n13 : Int} {orig2 op2 mt2 og2 : ByteArray} {md2 dd2 pd2 : Bool} {n21 n22 n23 : Int} (hs : s.size ≤ 500) (hts : t.size ≤ 500) (hn : ∀ j, j < t.size → bt t (j : Int) ≠ 124)
    (hrw : ∀ W, Calls Tryd.prog 92 #[.string s] W fun e' w' => e' = .returned (.string t) ∧ Below W.heap.size W w')
    (hv : ∀ W, Calls Tryd.prog 93 #[.string t] W fun e' w' => e' = .returned (.bool true) ∧ Below W.heap.size W w')
    (hf : ∀ W, Calls Tryd.prog 94 #[.string t] W fun e' w' => ∃ v, e' = .returned v ∧ Kd.R Kd.string 9 w' W.heap.size (fun _ => True) v [cu1, cu2] ∧ Below W.heap.size W w')
    (hpa1 : ∀ W, Calls Tryd.prog 95 #[.string cu1] W fun e' w' => ∃ g q : Nat, e' = .returned (.tuple #[.pointer (some ⟨g, 0, none⟩), .nilIface]) ∧ W.heap.size ≤ g ∧ W.heap.size ≤ q ∧ w'.heap[g]? = some (.cells (consCells q orig1 op1 md1 dd1 pd1) 120 (0, 0)) ∧ w'.heap[q]? = some (.cells (verCells n11 n12 n13 ⟨#[]⟩ mt1 og1) 69 (0, 0)) ∧ Below W.heap.size W w') (hpa2 : ∀ W, Calls Tryd.prog 95 #[.string cu2] W fun e' w' => ∃ g q : Nat, e' = .returned (.tuple #[.pointer (some ⟨g, 0, none⟩), .nilIface]) ∧ W.heap.size ≤ g ∧ W.heap.size ≤ q ∧ w'.heap[g]? = some (.cells (consCells q orig2 op2 md2 dd2 pd2) 120 (0, 0)) ∧ w'.heap[q]? = some (.cells (verCells n21 n22 n23 ⟨#[]⟩ mt2 og2) 69 (0, 0)) ∧ Below W.heap.size W w') (w : World) :
    Calls Tryd.prog 75 #[.string s] w fun e' w' => ∃ gC gO gP gR g1 q1 g2 q2 : Nat, e' = .returned (.tuple #[.pointer (some ⟨gC, 0, none⟩), .nilIface]) ∧
      w'.heap[gC]? = some (.cells #[.slice (some ⟨gO, 0, none⟩) 1 1, .slice (some ⟨gP, 0, none⟩) 1 1, .bool false] 122 (0, 0)) ∧ w'.heap[gO]? = some (.cells #[.slice (some ⟨gR, 0, none⟩) 2 2] 115 (0, 0)) ∧ w'.heap[gP]? = some (.cells #[.bool false] 4 (0, 0)) ∧ w'.heap[gR]? = some (.cells #[.pointer (some ⟨g1, 0, none⟩), .pointer (some ⟨g2, 0, none⟩)] 116 (0, 0)) ∧
      w'.heap[g1]? = some (.cells (consCells q1 orig1 op1 md1 dd1 pd1) 120 (0, 0)) ∧ w'.heap[q1]? = some (.cells (verCells n11 n12 n13 ⟨#[]⟩ mt1 og1) 69 (0, 0)) ∧ w'.heap[g2]? = some (.cells (consCells q2 orig2 op2 md2 dd2 pd2) 120 (0, 0)) ∧ w'.heap[q2]? = some (.cells (verCells n21 n22 n23 ⟨#[]⟩ mt2 og2) 69 (0, 0)) ∧ Below w.heap.size w w' := by
  have HRW := Lib.hid hrw
  obtain ⟨K, hK⟩ := bar_split t (by omega) hn
  have HSP := Lib.hid (fun W => semver_zzSplit.calls K t ⟨#[124, 124]⟩ [t] W (hK K (Nat.le_refl _)))
  have HV := Lib.hid hv
  have HF := Lib.hid hf
  have HPA1 := Lib.hid hpa1
  have HPA2 := Lib.hid hpa2
  have HB0 := Lib.hid (Below.refl w.heap.size w)
  have d0 : decide ((s.size : Int) > 512) = false := decide_eq_false (by omega)
  clear hn hv hf hpa1 hpa2 hrw hK
  go_enter Tryd.func75, Tryd.ntmps75
  go_wp2_with fail
  refine (HRW.out _).mono ?_
  rintro e1 w1 ⟨rfl, hb⟩
  have HB1 := Lib.hid (HB0.out.trans (hb.mono HB0.out.size))
  clear hb HB0 HRW
  go_wp2_with fail
  refine (HSP.out _).mono ?_
  rintro e2 w2 ⟨v2, rfl, hr, hb⟩
  have HB2 := Lib.hid (HB1.out.trans (hb.mono HB1.out.size))
  obtain ⟨A2, c2, rfl, hle, hC⟩ := Kd.R_reads hr
  have HS2 := Lib.hid hC
  clear hb hr hle hC HB1
  clear HSP
  simp only [List.length_singleton] at HS2 ⊢
  obtain ⟨ad, rfl⟩ : ∃ ad, A2 = some ad := by
    obtain ⟨ad, h, _⟩ := Kd.at_string HS2.out 0 (by omega) (by decide)
    exact ⟨ad, h⟩
  have hm1 := mk_rows
  go_upto_region 9 with fail
  have HB3 := Lib.hid (HB2.out.alloc HB2.out.size (.cells #[.slice none 0 0] 115))
  have HO3 := Lib.hid (heap_alloc_new w2 (.cells #[.slice none 0 0] 115))
  have HS3 := Lib.hid (Kd.C_below HS2.out ((Below.refl w2.heap.size w2).alloc (Nat.le_refl _) (.cells #[.slice none 0 0] 115)))
  have gO := HB2.out.size
  clear HB2 HS2 hm1
  generalize w2.alloc (.cells #[.slice none 0 0] 115) = w3 at *
  generalize w2.heap.size = GO at *
  have hm2 := mk_bools
  go_upto_region 11 with fail
  have HB4 := Lib.hid (HB3.out.alloc HB3.out.size (.cells #[.bool false] 4))
  have HO4 := Lib.hid (blk_alloc HO3.out (.cells #[.bool false] 4))
  have HP4 := Lib.hid (heap_alloc_new w3 (.cells #[.bool false] 4))
  have HS4 := Lib.hid (Kd.C_below HS3.out ((Below.refl w3.heap.size w3).alloc (Nat.le_refl _) (.cells #[.bool false] 4)))
  have gP := HB3.out.size
  have hOP : GO ≠ w3.heap.size := by have := blk_lt HO3.out; omega
  clear HB3 HS3 HO3 hm2
  generalize w3.alloc (.cells #[.bool false] 4) = w4 at *
  generalize w3.heap.size = GP at *
  go_loopw [37] (fun x37 wr => Hid (Below w.heap.size w wr) ∧ ((x37 = .int .i64 0 ∧ Hid (wr.heap[GO]? = some (.cells #[.slice none 0 0] 115 (0, 0))) ∧ Hid (wr.heap[GP]? = some (.cells #[.bool false] 4 (0, 0))) ∧ Hid (Kd.string.C wr (some ad) 1 [t])) ∨ (x37 = .int .i64 1 ∧ ∃ gR g1 q1 g2 q2 : Nat, Hid (wr.heap[GO]? = some (.cells #[.slice (some ⟨gR, 0, none⟩) 2 2] 115 (0, 0))) ∧ Hid (wr.heap[GP]? = some (.cells #[.bool false] 4 (0, 0))) ∧ Hid (wr.heap[gR]? = some (.cells #[.pointer (some ⟨g1, 0, none⟩), .pointer (some ⟨g2, 0, none⟩)] 116 (0, 0))) ∧ Hid (wr.heap[g1]? = some (.cells (consCells q1 orig1 op1 md1 dd1 pd1) 120 (0, 0))) ∧ Hid (wr.heap[q1]? = some (.cells (verCells n11 n12 n13 ⟨#[]⟩ mt1 og1) 69 (0, 0))) ∧ Hid (wr.heap[g2]? = some (.cells (consCells q2 orig2 op2 md2 dd2 pd2) 120 (0, 0))) ∧ Hid (wr.heap[q2]? = some (.cells (verCells n21 n22 n23 ⟨#[]⟩ mt2 og2) 69 (0, 0)))))) (fun x37 _ => 1 - (intOf x37).toNat)
  case atStart => exact ⟨HB4, .inl ⟨rfl, HO4, HP4, HS4⟩⟩
  case round =>
    clear HB4 HO4 HP4 HS4
    obtain ⟨HB5, ⟨rfl, HO5, HP5, HS5⟩ | ⟨rfl, gR, g1, q1, g2, q2, HO5, HP5, HR5, HG15, HQ15, HG25, HQ25⟩⟩ := hrel
    rotate_left
    · go_wp2
      go_ret2
      exact ⟨wr.heap.size, GO, GP, gR, g1, q1, g2, q2, rfl, heap_alloc_new _ _, blk_alloc HO5.out _, blk_alloc HP5.out _, blk_alloc HR5.out _, blk_alloc HG15.out _, blk_alloc HQ15.out _, blk_alloc HG25.out _, blk_alloc HQ25.out _, HB5.out.alloc HB5.out.size _⟩
    · obtain ⟨ad', had, q0⟩ := Kd.at_string HS5.out 0 (by omega) (by decide)
      injection had with had
      subst had
      have q1 : wr.cell? ad = some (.string t) := by simpa [Addr.add, rdOf] using q0
      go_wp2_with fail
      refine (HV.out _).mono ?_
      rintro e6 w6 ⟨rfl, hb⟩
      have HB6 := Lib.hid (HB5.out.trans (hb.mono HB5.out.size))
      have HO6 := Lib.hid (blk_below HO5.out hb)
      have HP6 := Lib.hid (blk_below HP5.out hb)
      clear hb HB5 HO5 HP5 HS5 q0 q1 HV
      go_wp2_with fail
      refine (HF.out _).mono ?_
      rintro e7 w7 ⟨v7, rfl, hr, hb⟩
      have HB7 := Lib.hid (HB6.out.trans (hb.mono HB6.out.size))
      have HO7 := Lib.hid (blk_below HO6.out hb)
      have HP7 := Lib.hid (blk_below HP6.out hb)
      obtain ⟨A7, c7, rfl, hle, hC⟩ := Kd.R_reads hr
      have HS7 := Lib.hid hC
      clear hb hr hle hC HB6 HO6 HP6 HF
      simp only [List.length_cons, List.length_nil, Nat.zero_add, Nat.reduceAdd] at HS7 ⊢
      obtain ⟨ad7, hA7, p1⟩ := Kd.at_string HS7.out 0 (by omega) (by decide)
      obtain ⟨ad8, had, p2⟩ := Kd.at_string HS7.out 1 (by omega) (by decide)
      subst hA7
      injection had with had
      subst had
      have HT7 := Lib.hid (show w7.cell? ad7 = some (.string cu1) ∧ w7.cell? (ad7.add 1) = some (.string cu2) from ⟨by simpa [Addr.add, rdOf] using p1, by simpa [rdOf] using p2⟩)
      have hRS : ad7.block < w7.heap.size := cell_ltz HT7.out.1
      clear p1 p2 HS7
      have hnil : ∀ W : World, (binOp BinOp.eql 62 (Value.slice (some ad7) 2 c7) (Value.slice none 0 0)).run Tryd.prog W = .ok (.bool false) W := fun W => by kernel_rfl
      have hm3 := mk_row2
      go_upto_region 20 with fail
      have HB8 := Lib.hid (HB7.out.alloc HB7.out.size (.cells #[.pointer none, .pointer none] 116))
      have HO8 := Lib.hid (blk_alloc HO7.out (.cells #[.pointer none, .pointer none] 116))
      have HP8 := Lib.hid (blk_alloc HP7.out (.cells #[.pointer none, .pointer none] 116))
      have HR8 := Lib.hid (heap_alloc_new w7 (.cells #[.pointer none, .pointer none] 116))
      have hb8 := (Below.refl w7.heap.size w7).alloc (Nat.le_refl _) (.cells #[.pointer none, .pointer none] 116)
      have HS8 := Lib.hid (show (w7.alloc (.cells #[.pointer none, .pointer none] 116)).cell? ad7 = some (.string cu1) ∧ (w7.alloc (.cells #[.pointer none, .pointer none] 116)).cell? (ad7.add 1) = some (.string cu2) from ⟨(hb8.cell hRS).trans HT7.out.1, (hb8.cell (p := ad7.add 1) hRS).trans HT7.out.2⟩)
      have gR := HB7.out.size
      have hOR : GO < w7.heap.size := blk_lt HO7.out
      have hPR : GP < w7.heap.size := blk_lt HP7.out
      clear HB7 HO7 HP7 HT7 hb8 hm3 hnil
      generalize w7.alloc (.cells #[.pointer none, .pointer none] 116) = w8 at *
      generalize w7.heap.size = GR at *
      go_loopw [59] (fun x59 wq => Hid (Below w.heap.size w wq) ∧ Hid (wq.heap[GO]? = some (.cells #[.slice none 0 0] 115 (0, 0))) ∧ Hid (wq.heap[GP]? = some (.cells #[.bool false] 4 (0, 0))) ∧ ((x59 = .int .i64 0 ∧ Hid (wq.heap[GR]? = some (.cells #[.pointer none, .pointer none] 116 (0, 0))) ∧ Hid (wq.cell? ad7 = some (.string cu1) ∧ wq.cell? (ad7.add 1) = some (.string cu2))) ∨ (x59 = .int .i64 1 ∧ ∃ g1 q1 : Nat, GR < g1 ∧ GR < q1 ∧ Hid (wq.heap[GR]? = some (.cells #[.pointer (some ⟨g1, 0, none⟩), .pointer none] 116 (0, 0))) ∧ Hid (wq.heap[g1]? = some (.cells (consCells q1 orig1 op1 md1 dd1 pd1) 120 (0, 0))) ∧ Hid (wq.heap[q1]? = some (.cells (verCells n11 n12 n13 ⟨#[]⟩ mt1 og1) 69 (0, 0))) ∧ Hid (wq.cell? ad7 = some (.string cu1) ∧ wq.cell? (ad7.add 1) = some (.string cu2))) ∨ (x59 = .int .i64 2 ∧ ∃ g1 q1 g2 q2 : Nat, GR < g1 ∧ GR < q1 ∧ GR < g2 ∧ GR < q2 ∧ Hid (wq.heap[GR]? = some (.cells #[.pointer (some ⟨g1, 0, none⟩), .pointer (some ⟨g2, 0, none⟩)] 116 (0, 0))) ∧ Hid (wq.heap[g1]? = some (.cells (consCells q1 orig1 op1 md1 dd1 pd1) 120 (0, 0))) ∧ Hid (wq.heap[q1]? = some (.cells (verCells n11 n12 n13 ⟨#[]⟩ mt1 og1) 69 (0, 0))) ∧ Hid (wq.heap[g2]? = some (.cells (consCells q2 orig2 op2 md2 dd2 pd2) 120 (0, 0))) ∧ Hid (wq.heap[q2]? = some (.cells (verCells n21 n22 n23 ⟨#[]⟩ mt2 og2) 69 (0, 0)))))) (fun x59 _ => 2 - (intOf x59).toNat)
      case atStart => exact ⟨HB8, HO8, HP8, .inl ⟨rfl, HR8, HS8⟩⟩
      case round =>
        clear HB8 HO8 HP8 HR8 HS8
        obtain ⟨HB9, HO9, HP9, ⟨rfl, HR9, HS9⟩ | ⟨rfl, g1, q1, hg1, hq1, HR9, HG19, HQ19, HS9⟩ | ⟨rfl, g1, q1, g2, q2, hg1, hq1, hg2, hq2, HR9, HG19, HQ19, HG29, HQ29⟩⟩ := hrel
        · skip
          have q1_ : wr.cell? ad7 = some (.string cu1) := HS9.out.1
          have hl9 : ad7.block < wr.heap.size := cell_ltz HS9.out.1
          (try rw [show ad7.add 1 = ⟨ad7.block, ad7.off + 1, none⟩ from rfl] at q1_)
          go_wp2_with fail
          refine (HPA1.out _).mono ?_
          rintro e10 w10 ⟨g1, q1, rfl, hg0, hq0, hkg, hkq, hb⟩
          have HB10 := Lib.hid (HB9.out.trans (hb.mono HB9.out.size))
          have HO10 := Lib.hid (blk_below HO9.out hb)
          have HP10 := Lib.hid (blk_below HP9.out hb)
          have HR10 := Lib.hid (blk_below HR9.out hb)
          have HS10 := Lib.hid (show w10.cell? ad7 = some (.string cu1) ∧ w10.cell? (ad7.add 1) = some (.string cu2) from ⟨(hb.cell hl9).trans HS9.out.1, (hb.cell (p := ad7.add 1) hl9).trans HS9.out.2⟩)
          have HG110 := Lib.hid hkg
          have HQ110 := Lib.hid hkq
          have hg1 : GR < g1 := by have := blk_lt HR9.out; omega
          have hq1 : GR < q1 := by have := blk_lt HR9.out; omega
          clear hb HB9 HO9 HP9 HR9 HS9 hl9 q1_ hkg hkq HPA1 hg0 hq0
          have z0 := blk_cell HG110.out 0
          simp only [consCells, List.getElem?_toArray, List.getElem?_cons_zero] at z0
          have z3 := blk_cell HQ110.out 3
          simp only [verCells, List.getElem?_toArray, List.getElem?_cons_zero, List.getElem?_cons_succ] at z3
          have cz := blk_cell HR10.out 0
          simp only [List.getElem?_toArray, List.getElem?_cons_zero, List.getElem?_cons_succ] at cz
          have fz := blk_frozen HR10.out 0
          go_wp2
          go_roundw
          case rel => exact ⟨Lib.hid (HB10.out.setCell (p := ⟨GR, 0, none⟩) gR _), Lib.hid (blk_far HO10.out (p := ⟨GR, 0, none⟩) (show GO ≠ GR by omega) _), Lib.hid (blk_far HP10.out (p := ⟨GR, 0, none⟩) (show GP ≠ GR by omega) _), .inr (.inl ⟨rfl, g1, q1, hg1, hq1, Lib.hid (blk_set HR10.out 0 _), Lib.hid (blk_far HG110.out (p := ⟨GR, 0, none⟩) (show g1 ≠ GR by omega) _), Lib.hid (blk_far HQ110.out (p := ⟨GR, 0, none⟩) (show q1 ≠ GR by omega) _), Lib.hid (⟨(((Below.refl GR w10).setCell (p := ⟨GR, 0, none⟩) (Nat.le_refl _) _).cell hRS).trans HS10.out.1, (((Below.refl GR w10).setCell (p := ⟨GR, 0, none⟩) (Nat.le_refl _) _).cell (p := ad7.add 1) hRS).trans HS10.out.2⟩)⟩)⟩
          case measure => simp [intOf]
        · skip
          have q1_ : wr.cell? (ad7.add 1) = some (.string cu2) := HS9.out.2
          have hl9 : ad7.block < wr.heap.size := cell_ltz HS9.out.1
          (try rw [show ad7.add 1 = ⟨ad7.block, ad7.off + 1, none⟩ from rfl] at q1_)
          go_wp2_with fail
          refine (HPA2.out _).mono ?_
          rintro e10 w10 ⟨g2, q2, rfl, hg0, hq0, hkg, hkq, hb⟩
          have HB10 := Lib.hid (HB9.out.trans (hb.mono HB9.out.size))
          have HO10 := Lib.hid (blk_below HO9.out hb)
          have HP10 := Lib.hid (blk_below HP9.out hb)
          have HR10 := Lib.hid (blk_below HR9.out hb)
          have HS10 := Lib.hid (show w10.cell? ad7 = some (.string cu1) ∧ w10.cell? (ad7.add 1) = some (.string cu2) from ⟨(hb.cell hl9).trans HS9.out.1, (hb.cell (p := ad7.add 1) hl9).trans HS9.out.2⟩)
          have HG110 := Lib.hid (blk_below HG19.out hb)
          have HQ110 := Lib.hid (blk_below HQ19.out hb)
          have HG210 := Lib.hid hkg
          have HQ210 := Lib.hid hkq
          have hg2 : GR < g2 := by have := blk_lt HR9.out; omega
          have hq2 : GR < q2 := by have := blk_lt HR9.out; omega
          clear hb HB9 HO9 HP9 HR9 HS9 hl9 q1_ hkg hkq HPA2 hg0 hq0 HG19 HQ19
          have z0 := blk_cell HG210.out 0
          simp only [consCells, List.getElem?_toArray, List.getElem?_cons_zero] at z0
          have z3 := blk_cell HQ210.out 3
          simp only [verCells, List.getElem?_toArray, List.getElem?_cons_zero, List.getElem?_cons_succ] at z3
          have cz := blk_cell HR10.out 1
          simp only [List.getElem?_toArray, List.getElem?_cons_zero, List.getElem?_cons_succ] at cz
          have fz := blk_frozen HR10.out 1
          go_wp2
          go_roundw
          case rel => exact ⟨Lib.hid (HB10.out.setCell (p := ⟨GR, 1, none⟩) gR _), Lib.hid (blk_far HO10.out (p := ⟨GR, 1, none⟩) (show GO ≠ GR by omega) _), Lib.hid (blk_far HP10.out (p := ⟨GR, 1, none⟩) (show GP ≠ GR by omega) _), .inr (.inr ⟨rfl, g1, q1, g2, q2, hg1, hq1, hg2, hq2, Lib.hid (blk_set HR10.out 1 _), Lib.hid (blk_far HG110.out (p := ⟨GR, 1, none⟩) (show g1 ≠ GR by omega) _), Lib.hid (blk_far HQ110.out (p := ⟨GR, 1, none⟩) (show q1 ≠ GR by omega) _), Lib.hid (blk_far HG210.out (p := ⟨GR, 1, none⟩) (show g2 ≠ GR by omega) _), Lib.hid (blk_far HQ210.out (p := ⟨GR, 1, none⟩) (show q2 ≠ GR by omega) _)⟩)⟩
          case measure => simp [intOf]
        · have cz := blk_cell HO9.out 0
          simp only [List.getElem?_toArray, List.getElem?_cons_zero] at cz
          have fz := blk_frozen HO9.out 0
          go_wp2
          go_roundw
          case rel => exact ⟨Lib.hid (HB9.out.setCell (p := ⟨GO, 0, none⟩) gO _), .inr ⟨rfl, GR, g1, q1, g2, q2, Lib.hid (blk_set HO9.out 0 _), Lib.hid (blk_far HP9.out (p := ⟨GO, 0, none⟩) (show GP ≠ GO by omega) _), Lib.hid (blk_far HR9.out (p := ⟨GO, 0, none⟩) (show GR ≠ GO by omega) _), Lib.hid (blk_far HG19.out (p := ⟨GO, 0, none⟩) (show g1 ≠ GO by omega) _), Lib.hid (blk_far HQ19.out (p := ⟨GO, 0, none⟩) (show q1 ≠ GO by omega) _), Lib.hid (blk_far HG29.out (p := ⟨GO, 0, none⟩) (show g2 ≠ GO by omega) _), Lib.hid (blk_far HQ29.out (p := ⟨GO, 0, none⟩) (show q2 ≠ GO by omega) _)⟩⟩
          case measure => simp [intOf]
end Go.Proofs.YtlhijjfbcgconaaDoor.P


/- Constraints: Check of two constraints. -/
set_option linter.unusedVariables false
set_option linter.unusedSimpArgs false
namespace Go.Proofs.YtlhijjfbcgconaaDoor.P
open Go.RowKit Go.Proofs.YtlhijjfbcgconaaDoorW.PrintWords Go.Proofs.YtlhijjfbcgconaaDoorW.PrintLast Go.Proofs.YtlhijjfbcgconaaDoorW.PrintMore

set_option maxHeartbeats 3200000 in
set_option maxRecDepth 100000 in
theorem check_two {gO gP gR g1 g2 qv : Nat} {B1 B2 : Bool} (w : World) (hO : w.heap[gO]? = some (.cells #[.slice (some ⟨gR, 0, none⟩) 2 2] 115 (0, 0))) (hP : w.heap[gP]? = some (.cells #[.bool false] 4 (0, 0))) (hR : w.heap[gR]? = some (.cells #[.pointer (some ⟨g1, 0, none⟩), .pointer (some ⟨g2, 0, none⟩)] 116 (0, 0)))
    (hck1 : ∀ W, Below w.heap.size w W → Calls Tryd.prog 96 #[.pointer (some ⟨g1, 0, none⟩), .pointer (some ⟨qv, 0, none⟩), .bool false] W fun e w' => (∃ er, e = .returned (.tuple #[.bool B1, er])) ∧ Below W.heap.size W w') (hck2 : ∀ W, Below w.heap.size w W → Calls Tryd.prog 96 #[.pointer (some ⟨g2, 0, none⟩), .pointer (some ⟨qv, 0, none⟩), .bool false] W fun e w' => (∃ er, e = .returned (.tuple #[.bool B2, er])) ∧ Below W.heap.size W w') :
    Calls Tryd.prog 76 #[.agg #[.slice (some ⟨gO, 0, none⟩) 1 1, .slice (some ⟨gP, 0, none⟩) 1 1, .bool false], .pointer (some ⟨qv, 0, none⟩)] w fun e w' => e = .returned (.bool (B1 && B2)) ∧ Below w.heap.size w w' := by
  have HCK1 := Lib.hid hck1
  have HCK2 := Lib.hid hck2
  have HBA := Lib.hid ((Below.refl w.heap.size w).alloc (Nat.le_refl _) (.cells #[.slice (some ⟨gO, 0, none⟩) 1 1, .slice (some ⟨gP, 0, none⟩) 1 1, .bool false] 122))
  have HIB := Lib.hid (heap_alloc_new w (.cells #[.slice (some ⟨gO, 0, none⟩) 1 1, .slice (some ⟨gP, 0, none⟩) 1 1, .bool false] 122))
  have HIO := Lib.hid (blk_alloc hO (.cells #[.slice (some ⟨gO, 0, none⟩) 1 1, .slice (some ⟨gP, 0, none⟩) 1 1, .bool false] 122))
  have HIP := Lib.hid (blk_alloc hP (.cells #[.slice (some ⟨gO, 0, none⟩) 1 1, .slice (some ⟨gP, 0, none⟩) 1 1, .bool false] 122))
  have HIR := Lib.hid (blk_alloc hR (.cells #[.slice (some ⟨gO, 0, none⟩) 1 1, .slice (some ⟨gP, 0, none⟩) 1 1, .bool false] 122))
  clear hck1 hck2 hO hP hR
  go_enter Tryd.func76, Tryd.ntmps76
  go_upto_region 1 with fail
  generalize w.alloc (.cells #[.slice (some ⟨gO, 0, none⟩) 1 1, .slice (some ⟨gP, 0, none⟩) 1 1, .bool false] 122) = w1 at *
  obtain ⟨GB, hGB⟩ : ∃ GB, GB = w.heap.size := ⟨_, rfl⟩
  have HGB := Lib.hid hGB
  rw [← hGB] at HIB ⊢
  clear hGB
  have y0 := blk_cell HIB.out 0
  have y1 := blk_cell HIB.out 1
  have y2 := blk_cell HIB.out 2
  simp only [List.getElem?_toArray, List.getElem?_cons_zero, List.getElem?_cons_succ] at y0 y1 y2
  have yo := blk_cell HIO.out 0
  have yp := blk_cell HIP.out 0
  have yr := blk_cell HIR.out 0
  have ys := blk_cell HIR.out 1
  simp only [List.getElem?_toArray, List.getElem?_cons_zero, List.getElem?_cons_succ] at yo yp yr ys
  go_upto_region 2 with fail
  clear y0 y1 y2 yo yp yr ys
  go_loopw [15] (fun x15 wr => Hid (Below w.heap.size w wr) ∧ Hid (wr.heap[GB]? = some (.cells #[.slice (some ⟨gO, 0, none⟩) 1 1, .slice (some ⟨gP, 0, none⟩) 1 1, .bool false] 122 (0, 0))) ∧ Hid (wr.heap[gO]? = some (.cells #[.slice (some ⟨gR, 0, none⟩) 2 2] 115 (0, 0))) ∧ Hid (wr.heap[gP]? = some (.cells #[.bool false] 4 (0, 0))) ∧ Hid (wr.heap[gR]? = some (.cells #[.pointer (some ⟨g1, 0, none⟩), .pointer (some ⟨g2, 0, none⟩)] 116 (0, 0))) ∧ (x15 = .int .i64 0 ∨ (x15 = .int .i64 1 ∧ (B1 && B2) = false))) (fun x15 _ => 1 - (intOf x15).toNat)
  case atStart => exact ⟨by rw [HGB.out] at *; exact HBA, HIB, HIO, HIP, HIR, .inl rfl⟩
  case round =>
    clear HBA HIB HIO HIP HIR
    obtain ⟨HBB, HJB, HJO, HJP, HJR, rfl | ⟨rfl, hB⟩⟩ := hrel
    rotate_left
    · go_wp2
      go_ret
      exact ⟨by rw [hB]; rfl, HBB.out⟩
    · skip
      have y0 := blk_cell HJB.out 0
      have y1 := blk_cell HJB.out 1
      have y2 := blk_cell HJB.out 2
      simp only [List.getElem?_toArray, List.getElem?_cons_zero, List.getElem?_cons_succ] at y0 y1 y2
      have yo := blk_cell HJO.out 0
      have yp := blk_cell HJP.out 0
      have yr := blk_cell HJR.out 0
      have ys := blk_cell HJR.out 1
      simp only [List.getElem?_toArray, List.getElem?_cons_zero, List.getElem?_cons_succ] at yo yp yr ys
      go_upto_region 6 with fail
      clear y0 y1 y2 yo yp yr ys
      go_loopw [7, 22] (fun x7 x22 wr => x7 = .bool true ∧ Hid (Below w.heap.size w wr) ∧ Hid (wr.heap[GB]? = some (.cells #[.slice (some ⟨gO, 0, none⟩) 1 1, .slice (some ⟨gP, 0, none⟩) 1 1, .bool false] 122 (0, 0))) ∧ Hid (wr.heap[gO]? = some (.cells #[.slice (some ⟨gR, 0, none⟩) 2 2] 115 (0, 0))) ∧ Hid (wr.heap[gP]? = some (.cells #[.bool false] 4 (0, 0))) ∧ Hid (wr.heap[gR]? = some (.cells #[.pointer (some ⟨g1, 0, none⟩), .pointer (some ⟨g2, 0, none⟩)] 116 (0, 0))) ∧ (x22 = .int .i64 0 ∨ (x22 = .int .i64 1 ∧ B1 = true) ∨ (x22 = .int .i64 2 ∧ B1 = true ∧ B2 = true))) (fun _ x22 _ => 2 - (intOf x22).toNat)
      case atStart => exact ⟨rfl, HBB, HJB, HJO, HJP, HJR, .inl rfl⟩
      case round =>
        clear HBB HJB HJO HJP HJR
        obtain ⟨rfl, HBC, HKB, HKO, HKP, HKR, rfl | ⟨rfl, hB1⟩ | ⟨rfl, hB1, hB2⟩⟩ := hrel
        · skip
          skip
          have y0 := blk_cell HKB.out 0
          have y1 := blk_cell HKB.out 1
          have y2 := blk_cell HKB.out 2
          simp only [List.getElem?_toArray, List.getElem?_cons_zero, List.getElem?_cons_succ] at y0 y1 y2
          have yo := blk_cell HKO.out 0
          have yp := blk_cell HKP.out 0
          have yr := blk_cell HKR.out 0
          have ys := blk_cell HKR.out 1
          simp only [List.getElem?_toArray, List.getElem?_cons_zero, List.getElem?_cons_succ] at yo yp yr ys
          go_wp2_with fail
          refine (HCK1.out _ HBC.out).mono ?_
          rintro e5 w5 ⟨⟨er, rfl⟩, hb⟩
          have HBD := Lib.hid (HBC.out.trans (hb.mono HBC.out.size))
          have HLB := Lib.hid (blk_below HKB.out hb)
          have HLO := Lib.hid (blk_below HKO.out hb)
          have HLP := Lib.hid (blk_below HKP.out hb)
          have HLR := Lib.hid (blk_below HKR.out hb)
          clear y0 y1 y2 yo yp yr ys
          clear hb HBC HKB HKO HKP HKR HCK1 HCK2
          cases hB1 : B1 with
          | true =>
            go_wp2
            go_roundw
            case rel => exact ⟨rfl, HBD, HLB, HLO, HLP, HLR, .inr (.inl ⟨rfl, hB1⟩)⟩
            case measure => simp [intOf]
          | false =>
            go_wp2
            go_roundw
            case rel => exact ⟨HBD, HLB, HLO, HLP, HLR, .inr ⟨rfl, by rw [hB1]; rfl⟩⟩
            case measure => simp [intOf]
        · skip
          skip
          have y0 := blk_cell HKB.out 0
          have y1 := blk_cell HKB.out 1
          have y2 := blk_cell HKB.out 2
          simp only [List.getElem?_toArray, List.getElem?_cons_zero, List.getElem?_cons_succ] at y0 y1 y2
          have yo := blk_cell HKO.out 0
          have yp := blk_cell HKP.out 0
          have yr := blk_cell HKR.out 0
          have ys := blk_cell HKR.out 1
          simp only [List.getElem?_toArray, List.getElem?_cons_zero, List.getElem?_cons_succ] at yo yp yr ys
          go_wp2_with fail
          refine (HCK2.out _ HBC.out).mono ?_
          rintro e5 w5 ⟨⟨er, rfl⟩, hb⟩
          have HBD := Lib.hid (HBC.out.trans (hb.mono HBC.out.size))
          have HLB := Lib.hid (blk_below HKB.out hb)
          have HLO := Lib.hid (blk_below HKO.out hb)
          have HLP := Lib.hid (blk_below HKP.out hb)
          have HLR := Lib.hid (blk_below HKR.out hb)
          clear y0 y1 y2 yo yp yr ys
          clear hb HBC HKB HKO HKP HKR HCK1 HCK2
          cases hB2 : B2 with
          | true =>
            go_wp2
            go_roundw
            case rel => exact ⟨rfl, HBD, HLB, HLO, HLP, HLR, .inr (.inr ⟨rfl, hB1, hB2⟩)⟩
            case measure => simp [intOf]
          | false =>
            go_wp2
            go_roundw
            case rel => exact ⟨HBD, HLB, HLO, HLP, HLR, .inr ⟨rfl, by rw [hB1, hB2]; rfl⟩⟩
            case measure => simp [intOf]
        · go_wp2
          go_ret
          exact ⟨by rw [hB1, hB2]; rfl, HBC.out⟩
set_option maxHeartbeats 3200000 in
set_option maxRecDepth 100000 in
theorem semCompare_two {s t : ByteArray} {orig1 op1 mt1 og1 : ByteArray} {md1 dd1 pd1 : Bool} {n11 n12 n13 : Int} {orig2 op2 mt2 og2 : ByteArray} {md2 dd2 pd2 : Bool} {n21 n22 n23 : Int} {B1 B2 : Bool} {x y z o : Nat} {a1 a2 a3 : Int} {pa ma : ByteArray}
    (hnew : ∀ w, Calls Tryd.prog 75 #[.string s] w fun e' w' => ∃ gC gO gP gR g1 q1 g2 q2 : Nat, e' = .returned (.tuple #[.pointer (some ⟨gC, 0, none⟩), .nilIface]) ∧
      w'.heap[gC]? = some (.cells #[.slice (some ⟨gO, 0, none⟩) 1 1, .slice (some ⟨gP, 0, none⟩) 1 1, .bool false] 122 (0, 0)) ∧ w'.heap[gO]? = some (.cells #[.slice (some ⟨gR, 0, none⟩) 2 2] 115 (0, 0)) ∧ w'.heap[gP]? = some (.cells #[.bool false] 4 (0, 0)) ∧ w'.heap[gR]? = some (.cells #[.pointer (some ⟨g1, 0, none⟩), .pointer (some ⟨g2, 0, none⟩)] 116 (0, 0)) ∧
      w'.heap[g1]? = some (.cells (consCells q1 orig1 op1 md1 dd1 pd1) 120 (0, 0)) ∧ w'.heap[q1]? = some (.cells (verCells n11 n12 n13 ⟨#[]⟩ mt1 og1) 69 (0, 0)) ∧ w'.heap[g2]? = some (.cells (consCells q2 orig2 op2 md2 dd2 pd2) 120 (0, 0)) ∧ w'.heap[q2]? = some (.cells (verCells n21 n22 n23 ⟨#[]⟩ mt2 og2) 69 (0, 0)) ∧ Below w.heap.size w w') (hver : Form t x y z o a1 a2 a3 pa ma)
    (w : World) (hck1 : ∀ W qv g1 q1, Below w.heap.size w W → Mem W qv g1 q1 a1 a2 a3 n11 n12 n13 pa ma t ⟨#[]⟩ mt1 og1 orig1 op1 md1 dd1 pd1 → qv ≠ q1 → Calls Tryd.prog 96 #[.pointer (some ⟨g1, 0, none⟩), .pointer (some ⟨qv, 0, none⟩), .bool false] W fun e w' => (∃ er, e = .returned (.tuple #[.bool B1, er])) ∧ Below W.heap.size W w') (hck2 : ∀ W qv g2 q2, Below w.heap.size w W → Mem W qv g2 q2 a1 a2 a3 n21 n22 n23 pa ma t ⟨#[]⟩ mt2 og2 orig2 op2 md2 dd2 pd2 → qv ≠ q2 → Calls Tryd.prog 96 #[.pointer (some ⟨g2, 0, none⟩), .pointer (some ⟨qv, 0, none⟩), .bool false] W fun e w' => (∃ er, e = .returned (.tuple #[.bool B2, er])) ∧ Below W.heap.size W w') :
    Calls Tryd.prog 63 #[.string s, .string t] w fun e w' => e = .returned (.tuple #[.bool (B1 && B2), .nilIface]) ∧ Below w.heap.size w w' := by
  have HN := Lib.hid (hnew w)
  obtain ⟨BB, hBB⟩ : ∃ BB, BB = (B1 && B2) := ⟨_, rfl⟩
  rw [← hBB]
  have HV := Lib.hid (fun W => newVersion_call hver W)
  have HCK1 := Lib.hid hck1
  have HCK2 := Lib.hid hck2
  clear hnew hver hck1 hck2
  go_enter Tryd.func63, Tryd.ntmps63
  go_wp2_with fail
  refine HN.out.mono ?_
  rintro e1 w1 ⟨gC, gO, gP, gR, g1, q1, g2, q2, rfl, h1, h2, h3, h4, h5, h6, h7, h8, hb⟩
  have HB1 := Lib.hid hb
  have HM1 := Lib.hid (show _ ∧ _ ∧ _ ∧ _ ∧ _ ∧ _ ∧ _ ∧ _ from ⟨h1, h2, h3, h4, h5, h6, h7, h8⟩)
  clear h1 h2 h3 h4 h5 h6 h7 h8 hb HN
  go_wp2_with fail
  refine (HV.out _).mono ?_
  rintro e2 w2 ⟨qv, rfl, hq, hk, hb⟩
  obtain ⟨h1, h2, h3, h4, h5, h6, h7, h8⟩ := HM1.out
  have hne1 : qv ≠ q1 := by have := blk_lt h6; omega
  have hne2 : qv ≠ q2 := by have := blk_lt h8; omega
  have HB2 := Lib.hid (HB1.out.trans (hb.mono HB1.out.size))
  have HMM1 := Lib.hid (show Mem w2 qv g1 q1 a1 a2 a3 n11 n12 n13 pa ma t ⟨#[]⟩ mt1 og1 orig1 op1 md1 dd1 pd1 from ⟨hk, blk_below h6 hb, blk_below h5 hb⟩)
  have HMM2 := Lib.hid (show Mem w2 qv g2 q2 a1 a2 a3 n21 n22 n23 pa ma t ⟨#[]⟩ mt2 og2 orig2 op2 md2 dd2 pd2 from ⟨hk, blk_below h8 hb, blk_below h7 hb⟩)
  have h1' := blk_below h1 hb
  have HCH := Lib.hid (check_two (B1 := B1) (B2 := B2) w2 (blk_below h2 hb) (blk_below h3 hb) (blk_below h4 hb) (fun W hW => HCK1.out W qv g1 q1 (HB2.out.trans (hW.mono HB2.out.size)) (HMM1.out.below hW) hne1) (fun W hW => HCK2.out W qv g2 q2 (HB2.out.trans (hW.mono HB2.out.size)) (HMM2.out.below hW) hne2))
  have y0 := blk_cell h1' 0
  have y1 := blk_cell h1' 1
  have y2 := blk_cell h1' 2
  simp only [List.getElem?_toArray, List.getElem?_cons_zero, List.getElem?_cons_succ] at y0 y1 y2
  clear h1 h2 h3 h4 h5 h6 h7 h8 hb hk hq HM1 HMM1 HMM2 HCK1 HCK2 HV HB1 h1' hne1 hne2
  rw [← hBB] at HCH
  clear hBB
  go_wp2_with fail
  refine HCH.out.mono ?_
  rintro e3 w3 ⟨rfl, hb⟩
  have HB3 := Lib.hid (HB2.out.trans (hb.mono HB2.out.size))
  clear hb HB2 HCH y0 y1 y2
  go_wp2
  go_ret2
  exact ⟨rfl, HB3.out⟩
end Go.Proofs.YtlhijjfbcgconaaDoor.P


/- Ranges: impl.SemverCompare of a - b. -/
set_option linter.unusedVariables false
set_option linter.unusedSimpArgs false
namespace Go.Proofs.YtlhijjfbcgconaaDoor.P
open Go.RowKit Go.Proofs.YtlhijjfbcgconaaDoorW.PrintWords Go.Proofs.YtlhijjfbcgconaaDoorW.PrintLast Go.Proofs.YtlhijjfbcgconaaDoorW.PrintMore

theorem vsize (a b c : Nat) (ha : a < 1000) (hb : b < 1000) (hc : c < 1000) : 0 < (verT a b c).size ∧ (verT a b c).size ≤ 11 := by
  have na := nd_le 2 a (by simpa using ha)
  have nb := nd_le 2 b (by simpa using hb)
  have nc := nd_le 2 c (by simpa using hc)
  have := verT_size a b c
  omega
set_option maxHeartbeats 3200000 in
theorem parse_two (K : Nat) (c0 : UInt8) (hK : (K = 5 ∧ c0 = 62) ∨ (K = 7 ∧ c0 = 60)) (a b c : Nat) (ha : a < 1000) (hb : b < 1000) (hc : c < 1000) (u : ByteArray) (hu : u.data.toList = [c0, 61, 32] ++ (verT a b c).data.toList) (W : World) :
    Calls Tryd.prog 95 #[.string u] W fun e' w' => ∃ g q : Nat, e' = .returned (.tuple #[.pointer (some ⟨g, 0, none⟩), .nilIface]) ∧ W.heap.size ≤ g ∧ W.heap.size ≤ q ∧ w'.heap[g]? = some (.cells (consCells q (verT a b c) (opAt K) false false false) 120 (0, 0)) ∧ w'.heap[q]? = some (.cells (verCells (a : Int) (b : Int) (c : Int) ⟨#[]⟩ ⟨#[]⟩ (verT a b c)) 69 (0, 0)) ∧ Below W.heap.size W w' := by
  obtain ⟨z0, z1⟩ := vsize a b c ha hb hc
  have hl3 : ([c0, 61, 32] : List UInt8).length = 3 := rfl
  have hz : u.size = 3 + (verT a b c).size := by rw [← size_list, hu, List.length_append, hl3, size_list]
  obtain ⟨t1, t2, t3, m0, m1, m2, p, q, h0, h1, h2, hV⟩ := text3e u (by omega) [c0, 61, 32] a b c [] (.inl rfl) (by rw [hu, List.append_nil])
  rw [hl3] at t1 t2 hV
  rw [← hz] at hV
  have b0 : bt u 0 = (c0.toNat : Int) := (bt_at u [] c0 _ hu).1
  have hc0 : c0 = 62 ∨ c0 = 60 := by rcases hK with h | h <;> simp [h.2]
  have hA : At u 0 K 3 u.size := at_two (i := 0) (by omega) hK [] _ rfl hu t2 (by omega) ⟨_, _, _, _, _, _, _, _, _, hV⟩
  have mv : u.extract 3 u.size = verT a b c := ba_ext (by
    have h := part_end u [c0, 61, 32] _ hu
    rwa [hl3] at h)
  have hD := dirt_full (s := u) (x := 3) (e := u.size) h0 h1 h2
  rw [mv] at hD
  obtain ⟨x, y, z, hF⟩ := verT_form a b c (by omega) (by omega) (by omega)
  have s0 : Ev (fun k => semver_zzSpace.f k u ((0 : Nat) : Int)) ((0 : Nat) : Int) := space_none u (by omega) 0 (Nat.zero_le _) (fun _ h => by
    have h' : isS (bt u 0) := h
    rw [b0] at h'
    rcases hc0 with rfl | rfl <;> revert h' <;> unfold isS <;> decide)
  have se : Ev (fun k => semver_zzSpace.f k u (u.size : Int)) (u.size : Int) := space_none u (by omega) u.size (Nat.le_refl _) (fun h => absurd h (Nat.lt_irrefl _))
  have h := parseC_call (by omega) s0 hA hV se hD hF W
  rwa [mv] at h
theorem ans_gte {ma oa mb ob orig : ByteArray} {a1 a2 a3 b1 b2 b3 : Int} {md dd pd : Bool} (w : World) (hE : TabsE w) : ∀ (W : World) (qv g q : Nat), Below w.heap.size w W → Mem W qv g q a1 a2 a3 b1 b2 b3 ⟨#[]⟩ ma oa ⟨#[]⟩ mb ob orig (opAt 5) md dd pd → qv ≠ q →
    Calls Tryd.prog 96 #[.pointer (some ⟨g, 0, none⟩), .pointer (some ⟨qv, 0, none⟩), .bool false] W fun e w' => (∃ er, e = .returned (.tuple #[.bool (decide (ord3 a1 a2 a3 b1 b2 b3 ≥ 0)), er])) ∧ Below W.heap.size W w' := by
  intro W qv g q hW hm hne
  have hcmp : ∀ V, Below W.heap.size W V → Calls Tryd.prog 35 #[.pointer (some ⟨qv, 0, none⟩), .pointer (some ⟨q, 0, none⟩)] V fun e w' => e = .returned (.int .i64 (ord3 a1 a2 a3 b1 b2 b3)) ∧ Below V.heap.size V w' := fun V hV => by
    have h := compare_call qv q a1 a2 a3 b1 b2 b3 ⟨#[]⟩ ma oa ⟨#[]⟩ mb ob 0 V (hm.below hV).v (hm.below hV).c ((hE.below hW).below hV) (fun q => absurd q (by decide))
    rwa [cmp_nil] at h
  exact check_GreaterThanEqual false W hm zzOp_5 (fun V hmV hV => gte_call false V hmV (.inl rfl) (fun U hU => hcmp U (hV.trans (hU.mono hV.size))))
theorem ans_lte {ma oa mb ob orig : ByteArray} {a1 a2 a3 b1 b2 b3 : Int} {md pd : Bool} (w : World) (hE : TabsE w) : ∀ (W : World) (qv g q : Nat), Below w.heap.size w W → Mem W qv g q a1 a2 a3 b1 b2 b3 ⟨#[]⟩ ma oa ⟨#[]⟩ mb ob orig (opAt 7) md false pd → qv ≠ q →
    Calls Tryd.prog 96 #[.pointer (some ⟨g, 0, none⟩), .pointer (some ⟨qv, 0, none⟩), .bool false] W fun e w' => (∃ er, e = .returned (.tuple #[.bool (decide (ord3 a1 a2 a3 b1 b2 b3 ≤ 0)), er])) ∧ Below W.heap.size W w' := by
  intro W qv g q hW hm hne
  have hcmp : ∀ V, Below W.heap.size W V → Calls Tryd.prog 35 #[.pointer (some ⟨qv, 0, none⟩), .pointer (some ⟨q, 0, none⟩)] V fun e w' => e = .returned (.int .i64 (ord3 a1 a2 a3 b1 b2 b3)) ∧ Below V.heap.size V w' := fun V hV => by
    have h := compare_call qv q a1 a2 a3 b1 b2 b3 ⟨#[]⟩ ma oa ⟨#[]⟩ mb ob 0 V (hm.below hV).v (hm.below hV).c ((hE.below hW).below hV) (fun q => absurd q (by decide))
    rwa [cmp_nil] at h
  exact check_LessThanEqual false W hm zzOp_7 (fun V hmV hV => lte_call false rfl V hmV (.inl rfl) (fun U hU => hcmp U (hV.trans (hU.mono hV.size))))
theorem off_of (v : UInt8) (T : List UInt8) (h : v = 32 ∨ v = 44) : Off (v :: T) := .inr ⟨v, T, rfl, by rcases h with rfl | rfl <;> unfold isM <;> decide, by rcases h with rfl | rfl <;> decide, by rcases h with rfl | rfl <;> decide⟩
/-- The text of the two constraints: valid, and what is found in it. -/
theorem two_text (a b c d e f : Nat) (ha : a < 1000) (hb : b < 1000) (hc : c < 1000) (hd : d < 1000) (he : e < 1000) (hf : f < 1000) (t : ByteArray)
    (hl : t.data.toList = [62, 61, 32] ++ ((verT a b c).data.toList ++ ([44, 32] ++ ([60, 61, 32] ++ ((verT d e f).data.toList ++ [32]))))) :
    t.size ≤ 40 ∧ (∀ j, j < t.size → bt t (j : Int) ≠ 124) ∧ Ev (fun k => semver_zzSpace.f k t 0) ((0 : Nat) : Int) ∧ Valid t 0 ∧ ∃ u1 u2, Finds t 0 [u1, u2] ∧ u1.data.toList = [62, 61, 32] ++ (verT a b c).data.toList ∧ u2.data.toList = [60, 61, 32] ++ (verT d e f).data.toList := by
  obtain ⟨x0, x1⟩ := vsize a b c ha hb hc
  obtain ⟨y0, y1⟩ := vsize d e f hd he hf
  have q1 := verT_list a b c
  have q2 := verT_list d e f
  have L1 : (verT a b c).data.toList.length = (verT a b c).size := size_list _
  have L2 : (verT d e f).data.toList.length = (verT d e f).size := size_list _
  have hz : t.size = (verT a b c).size + (verT d e f).size + 9 := by
    rw [← size_list, hl]
    simp only [List.length_append, L1, L2, List.length_cons, List.length_nil]
    omega
  have U1 := text3e t (by omega) [62, 61, 32] a b c ([44, 32] ++ ([60, 61, 32] ++ ((verT d e f).data.toList ++ [32]))) (off_of _ _ (.inr rfl)) hl
  have U2 := text3e t (by omega) ([62, 61, 32] ++ ((verT a b c).data.toList ++ ([44, 32] ++ [60, 61, 32]))) d e f [32] (off_of _ _ (.inl rfl)) (by rw [hl]; simp)
  have p2 : ([62, 61, 32] ++ ((verT a b c).data.toList ++ ([44, 32] ++ [60, 61, 32]))).length = (verT a b c).size + 5 + 3 := by
    simp only [List.length_append, L1, List.length_cons, List.length_nil]
    omega
  have p1 : ([62, 61, 32] : List UInt8).length = 3 := rfl
  rw [p1] at U1
  rw [p2] at U2
  obtain ⟨-, i1, -, m0, m1, m2, k1, k2, -, -, -, V1⟩ := U1
  obtain ⟨-, i2, -, r0, r1, r2, k3, k4, -, -, -, V2⟩ := U2
  have c1 := bt_at t ([62, 61, 32] ++ (verT a b c).data.toList) 44 (32 :: ([60, 61, 32] ++ ((verT d e f).data.toList ++ [32]))) (by rw [hl]; simp)
  have c2 := bt_at t ([62, 61, 32] ++ ((verT a b c).data.toList ++ [44])) 32 ([60, 61, 32] ++ ((verT d e f).data.toList ++ [32])) (by rw [hl]; simp)
  have c3 := bt_at t ([62, 61, 32] ++ ((verT a b c).data.toList ++ [44, 32])) 60 (61 :: 32 :: ((verT d e f).data.toList ++ [32])) (by rw [hl]; simp)
  have c4 := bt_at t ([62, 61, 32] ++ ((verT a b c).data.toList ++ ([44, 32] ++ ([60, 61, 32] ++ (verT d e f).data.toList)))) 32 [] (by rw [hl]; simp)
  have c0 : bt t 0 = 62 := (bt_at t [] 62 _ hl).1
  simp only [List.length_append, L1, L2, List.length_cons, List.length_nil] at c1 c2 c3 c4
  generalize hN1 : (verT a b c).size = n1 at *
  generalize hN2 : (verT d e f).size = n2 at *
  rw [show 0 + 1 + 1 + 1 + n1 = 3 + n1 by omega] at c1
  rw [show 0 + 1 + 1 + 1 + (n1 + (0 + 1)) = 3 + n1 + 1 by omega] at c2
  rw [show 0 + 1 + 1 + 1 + (n1 + (0 + 1 + 1)) = n1 + 5 by omega] at c3
  rw [show 0 + 1 + 1 + 1 + (n1 + (0 + 1 + 1 + (0 + 1 + 1 + 1 + n2))) = n1 + 5 + 3 + n2 by omega] at c4
  have b1 : bt t ((3 + n1 : Nat) : Int) = 44 := c1.1
  have b2 : bt t ((3 + n1 + 1 : Nat) : Int) = 32 := c2.1
  have b3 : bt t ((n1 + 5 : Nat) : Int) = 60 := c3.1
  have b4 : bt t ((n1 + 5 + 3 + n2 : Nat) : Int) = 32 := c4.1
  have A1 : At t 0 5 3 (3 + n1) := at_two (i := 0) (c := 62) (by omega) (.inl ⟨rfl, rfl⟩) [] _ rfl hl i1 (by omega) ⟨_, _, _, _, _, _, _, _, _, V1⟩
  have A2 : At t (n1 + 5) 7 (n1 + 5 + 3) (n1 + 5 + 3 + n2) := at_two (i := n1 + 5) (c := 60) (by omega) (.inr ⟨rfl, rfl⟩) ([62, 61, 32] ++ ((verT a b c).data.toList ++ [44, 32])) ((verT d e f).data.toList ++ [32]) (by
    simp only [List.length_append, L1, List.length_cons, List.length_nil]
    omega) (by rw [hl]; simp) i2 (by omega) ⟨_, _, _, _, _, _, _, _, _, V2⟩
  have s1 : Ev (fun k => semver_zzSpace.f k t ((3 + n1 : Nat) : Int)) ((3 + n1 : Nat) : Int) := space_none t (by omega) _ (by omega) (fun _ h => by rw [b1] at h; revert h; unfold isS; decide)
  have s2 : Ev (fun k => semver_zzSpace.f k t ((3 + n1 + 1 : Nat) : Int)) ((n1 + 5 : Nat) : Int) := space_f t (by omega) _ _ (by omega) (by omega) (.inr (by rw [b3]; unfold isS; decide)) (fun j h1 h2 => by
    obtain rfl : j = 3 + n1 + 1 := by omega
    rw [b2]
    exact .inl rfl)
  have s3 : Ev (fun k => semver_zzSpace.f k t ((n1 + 5 + 3 + n2 : Nat) : Int)) (t.size : Int) := space_f t (by omega) _ _ (by omega) (Nat.le_refl _) (.inl rfl) (fun j h1 h2 => by
    obtain rfl : j = n1 + 5 + 3 + n2 := by omega
    rw [b4]
    exact .inl rfl)
  have hno : ∀ x : Int, x = 44 ∨ x = 32 → ∀ b : Int, b = 61 ∨ b = 33 ∨ b = 62 ∨ b = 60 ∨ b = 126 ∨ b = 94 → x ≠ b := by
    intro x hx b hb
    omega
  have N1 : NoAt t (3 + n1) := noAt_of (by omega) (fun b hb _ => by rw [b1]; exact hno _ (.inl rfl) b hb) s1 (by omega) (noVer_of (by omega) (by omega) (fun _ => by rw [b1]; unfold isM; decide))
  have N2 : NoAt t (3 + n1 + 1) := noAt_of (by omega) (fun b hb _ => by rw [b2]; exact hno _ (.inr rfl) b hb) s2 (by omega) (noVer_of (by omega) (by omega) (fun _ => by rw [b3]; unfold isM; decide))
  have N3 : NoAt t (n1 + 5 + 3 + n2) := noAt_of (by omega) (fun b hb _ => by rw [b4]; exact hno _ (.inr rfl) b hb) s3 (Nat.le_refl _) (noVer_of (by omega) (Nat.le_refl _) (fun h => absurd h (Nat.lt_irrefl _)))
  refine ⟨by omega, ?_, space_none t (by omega) 0 (by omega) (fun _ h => ?_), .comma A1 s1 (by omega) b1 s2 (by omega) (.last A2 s3), t.extract 0 (3 + n1), t.extract (n1 + 5) (n1 + 5 + 3 + n2), ?_, ?_, ?_⟩
  · intro j hj
    obtain ⟨v, hv⟩ : ∃ v, t.data.toList[j]? = some v := ⟨t.data.toList[j]'(by rw [size_list]; exact hj), List.getElem?_eq_getElem _⟩
    rw [bt_some hv]
    have hm := List.mem_of_getElem? hv
    rw [hl, q1, q2] at hm
    have hv2 : v.toNat ≠ 124 := by
      rcases List.mem_append.1 hm with h | h
      · simp only [List.mem_cons, List.not_mem_nil, or_false] at h
        rcases h with rfl | rfl | rfl <;> decide
      · rcases List.mem_append.1 h with h | h
        · exact (verT_bytes a b c v h).2
        · rcases List.mem_append.1 h with h | h
          · simp only [List.mem_cons, List.not_mem_nil, or_false] at h
            rcases h with rfl | rfl <;> decide
          · rcases List.mem_append.1 h with h | h
            · simp only [List.mem_cons, List.not_mem_nil, or_false] at h
              rcases h with rfl | rfl | rfl <;> decide
            · rcases List.mem_append.1 h with h | h
              · exact (verT_bytes d e f v h).2
              · rw [List.mem_singleton.1 h]; decide
    omega
  · have h' : isS (bt t 0) := h
    rw [c0] at h'
    revert h'
    unfold isS
    decide
  · refine .take (by omega) A1 (.skip (by omega) N1 (.skip (by omega) N2 ?_))
    rw [show 3 + n1 + 1 + 1 = n1 + 5 by omega]
    refine .take (by omega) A2 (.skip (by omega) N3 ?_)
    rw [show n1 + 5 + 3 + n2 + 1 = t.size by omega]
    exact .stop
  · have h := part_list t [] ([62, 61, 32] ++ (verT a b c).data.toList) ([44, 32] ++ ([60, 61, 32] ++ ((verT d e f).data.toList ++ [32]))) (by rw [hl]; simp)
    rw [List.length_append, L1, p1, List.length_nil, Nat.zero_add] at h
    exact h
  · have h := part_list t ([62, 61, 32] ++ ((verT a b c).data.toList ++ [44, 32])) ([60, 61, 32] ++ (verT d e f).data.toList) [32] (by rw [hl]; simp)
    simp only [List.length_append, L1, L2, List.length_cons, List.length_nil] at h
    rw [show 0 + 1 + 1 + 1 + (n1 + (0 + 1 + 1)) = n1 + 5 by omega, show n1 + 5 + (0 + 1 + 1 + 1 + n2) = n1 + 5 + 3 + n2 by omega] at h
    exact h
set_option maxHeartbeats 3200000 in
theorem compare_hyphen (a b c d e f v1 v2 v3 : Nat) (ha : a < 1000) (hb : b < 1000) (hc : c < 1000) (hd : d < 1000) (he : e < 1000) (hf : f < 1000) (h1 : v1 < 1000) (h2 : v2 < 1000) (h3 : v3 < 1000) (s : ByteArray) (hl : s.data.toList = (verT a b c).data.toList ++ ([32, 45, 32] ++ (verT d e f).data.toList)) (w : World) (hE : TabsE w) :
    Calls Tryd.prog 24 #[.string s, .string (verT v1 v2 v3)] w fun e' w' => e' = .returned (.tuple #[.bool (decide (ord3 v1 v2 v3 a b c ≥ 0) && decide (ord3 v1 v2 v3 d e f ≤ 0)), .bool true]) ∧ Below w.heap.size w w' := by
  obtain ⟨x0, x1⟩ := vsize a b c ha hb hc
  obtain ⟨y0, y1⟩ := vsize d e f hd he hf
  have L1 : (verT a b c).data.toList.length = (verT a b c).size := size_list _
  have L2 : (verT d e f).data.toList.length = (verT d e f).size := size_list _
  have hz : s.size = (verT a b c).size + (verT d e f).size + 3 := by
    rw [← size_list, hl]
    simp only [List.length_append, L1, L2, List.length_cons, List.length_nil]
    omega
  have p2 : ((verT a b c).data.toList ++ [32, 45, 32]).length = (verT a b c).size + 3 := by
    simp only [List.length_append, L1, List.length_cons, List.length_nil]
  have T1 := text3e s (by omega) [] a b c ([32, 45, 32] ++ (verT d e f).data.toList) (off_of _ _ (.inl rfl)) hl
  have T2 := text3e s (by omega) ((verT a b c).data.toList ++ [32, 45, 32]) d e f [] (.inl rfl) (by rw [hl]; simp)
  rw [List.length_nil, Nat.zero_add] at T1
  rw [p2] at T2
  obtain ⟨-, i1, -, m0, m1, m2, k1, k2, -, -, -, V1⟩ := T1
  obtain ⟨-, i2, -, r0, r1, r2, k3, k4, -, -, -, V2⟩ := T2
  have c1 := bt_at s (verT a b c).data.toList 32 _ (by rw [hl]; rfl)
  have c2 := bt_at s ((verT a b c).data.toList ++ [32]) 45 (32 :: (verT d e f).data.toList) (by rw [hl]; simp)
  have c3 := bt_at s ((verT a b c).data.toList ++ [32, 45]) 32 (verT d e f).data.toList (by rw [hl]; simp)
  simp only [List.length_append, L1, List.length_cons, List.length_nil] at c1 c2 c3
  have e1 : (s.extract 0 (verT a b c).size).data.toList = (verT a b c).data.toList := by
    have h := part_list s [] (verT a b c).data.toList _ hl
    rw [L1, List.length_nil, Nat.zero_add] at h
    exact h
  have e2 : (s.extract ((verT a b c).size + 3) s.size).data.toList = (verT d e f).data.toList := by
    have h := part_end s ((verT a b c).data.toList ++ [32, 45, 32]) (verT d e f).data.toList (by rw [hl]; simp)
    rw [p2] at h
    exact h
  obtain ⟨t, ht⟩ : ∃ t, ((((⟨#[62, 61, 32]⟩ : ByteArray) ++ s.extract 0 (verT a b c).size) ++ (⟨#[44, 32, 60, 61, 32]⟩ : ByteArray)) ++ s.extract ((verT a b c).size + 3) s.size) ++ (⟨#[32]⟩ : ByteArray) = t := ⟨_, rfl⟩
  have htl : t.data.toList = [62, 61, 32] ++ ((verT a b c).data.toList ++ ([44, 32] ++ ([60, 61, 32] ++ ((verT d e f).data.toList ++ [32])))) := by
    rw [← ht]
    simp only [append_list, e1, e2]
    simp
  obtain ⟨tz, tn, ts, tv, u1, u2, tf, hu1, hu2⟩ := two_text a b c d e f ha hb hc hd he hf t htl
  have V2' : Ver s ((verT a b c).size + 3) s.size r0 r1 r2 ⟨#[]⟩ ((verT a b c).size + 3) k3 k4 s.size s.size := by
    rw [show (verT a b c).size + 3 + (verT d e f).size = s.size by omega] at V2
    exact V2
  have hS : ∀ x : Int, isM x → ¬ isS x := fun x h g => by unfold isM at h; unfold isS at g; omega
  have hrw : ∀ W, Calls Tryd.prog 92 #[.string s] W fun e' w' => e' = .returned (.string t) ∧ Below W.heap.size W w' := fun W =>
    rewrite_hyphen (e := (verT a b c).size) (by omega) (by omega) x0 V1 V2' (space_none s (by omega) 0 (by omega) (fun _ h => hS _ i1 h))
      (space_f s (by omega) _ _ (by omega) (by omega) (.inr (by rw [c2.1]; unfold isS; decide)) (fun j g1 g2 => by
        obtain rfl : j = (verT a b c).size := by omega
        rw [c1.1]
        exact .inl rfl))
      c2.1
      (space_f s (by omega) _ _ (by omega) (by omega) (.inr (hS _ i2)) (fun j g1 g2 => by
        obtain rfl : j = (verT a b c).size + 2 := by omega
        rw [c3.1]
        exact .inl rfl))
      (space_none s (by omega) _ (Nat.le_refl _) (fun h => absurd h (Nat.lt_irrefl _))) ht (fun V => replace_call s t (by omega) (by omega) (by omega) V) W
  obtain ⟨x', y', z', hT⟩ := verT_form v1 v2 v3 (by omega) (by omega) (by omega)
  exact implCompare_of w (sprigCompare_of w (semCompare_two (fun W => new_two (by omega) (by omega) tn hrw (fun V => valid_call (by omega) ts tv V) (fun V => find_call (by omega) (by show 2 ≤ 1000; decide) tf V) (fun V => parse_two 5 62 (.inl ⟨rfl, rfl⟩) a b c ha hb hc u1 hu1 V) (fun V => parse_two 7 60 (.inr ⟨rfl, rfl⟩) d e f hd he hf u2 hu2 V) W) hT w (ans_gte w hE) (ans_lte w hE)))
end Go.Proofs.YtlhijjfbcgconaaDoor.P

