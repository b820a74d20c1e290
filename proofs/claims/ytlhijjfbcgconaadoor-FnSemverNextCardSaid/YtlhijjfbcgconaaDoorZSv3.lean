/- Versions, plain: zzLoose and ParseUint at a text that has the form of a version. -/
import Derived.Test.YtlhijjfbcgconaaDoorZSv2
import Derived.Test.YtlhijjfbcgconaaDoorZPx15
import Derived.Lib.ParseIntBTie
set_option linter.unusedVariables false
set_option linter.unusedSimpArgs false
namespace Go.Proofs.YtlhijjfbcgconaaDoor.P
open Go.RowKit Go.Proofs.YtlhijjfbcgconaaDoorW.PrintWords Go.Proofs.YtlhijjfbcgconaaDoorW.PrintLast Go.Proofs.YtlhijjfbcgconaaDoorW.PrintMore

theorem parseM_append (M : Nat) : ∀ (l1 l2 : List UInt8) (acc : Nat), Lib.parseUintM M acc (l1 ++ l2) = match Lib.parseUintM M acc l1 with | .ok a => Lib.parseUintM M a l2 | .syntax => .syntax | .range => .range
  | [], l2, acc => rfl
  | c :: r, l2, acc => by
    rw [List.cons_append, Lib.parseUintM, Lib.parseUintM]
    by_cases h1 : 48 ≤ c.toNat ∧ c.toNat ≤ 57
    · rw [if_pos h1, if_pos h1]
      by_cases h2 : 1844674407370955162 ≤ acc
      · rw [if_pos h2, if_pos h2]
      · rw [if_neg h2, if_neg h2]
        by_cases h3 : M < acc * 10 + (c.toNat - 48)
        · rw [if_pos h3, if_pos h3]
        · rw [if_neg h3, if_neg h3]
          exact parseM_append M r l2 _
    · rw [if_neg h1, if_neg h1]
theorem ext_snoc (s : ByteArray) (x d : Nat) (h : x + d < s.size) : (s.extract x (x + (d + 1))).data.toList = (s.extract x (x + d)).data.toList ++ [s[x + d]'h] := by
  rw [extract_list, extract_list, show x + (d + 1) - x = d + 1 by omega, show x + d - x = d by omega]
  have h2 : d < (s.data.toList.drop x).length := by rw [List.length_drop, Array.length_toList]; show d < s.size - x; omega
  rw [List.take_succ_eq_append_getElem h2, List.getElem_drop]
  rfl
theorem parse_run (s : ByteArray) (x : Nat) : ∀ d : Nat, d ≤ 15 → x + d ≤ s.size → (∀ j, x ≤ j → j < x + d → isD (bt s (j : Int))) → Lib.parseUintM (2 ^ 64 - 1) 0 (s.extract x (x + d)).data.toList = .ok (dv s x d).toNat ∧ 0 ≤ dv s x d ∧ dv s x d < 10 ^ d
  | 0, _, _, h => ⟨by rw [Nat.add_zero, ext_nil]; rfl, Int.le_refl 0, by show (0 : Int) < 1; decide⟩
  | d + 1, h1, h2, h3 => by
    obtain ⟨ih, i0, i1⟩ := parse_run s x d (by omega) (by omega) (fun j g1 g2 => h3 j g1 (by omega))
    have hd := h3 (x + d) (by omega) (by omega)
    unfold isD at hd
    have hb := bt_nat s (x + d) (by omega)
    rw [hb] at hd
    have hv : dv s x (d + 1) = dv s x d * 10 + ((((s[x + d]'(by omega)).toNat : Nat) : Int) - 48) := by
      show dv s x d * 10 + (bt s ((x + d : Nat) : Int) - 48) = _
      rw [hb]
    have h15 : dv s x d < 1000000000000000 := by
      have h4 : (10 : Nat) ^ d ≤ 10 ^ 14 := Nat.pow_le_pow_right (by decide) (by omega)
      have h5 : (10 : Int) ^ d ≤ 10 ^ 14 := by exact_mod_cast h4
      have h6 : (10 : Int) ^ 14 = 100000000000000 := by decide
      omega
    refine ⟨?_, ?_, ?_⟩
    · rw [ext_snoc s x d (by omega), parseM_append, ih]
      show Lib.parseUintM _ _ [_] = _
      rw [Lib.parseUintM, if_pos (by omega), if_neg (by omega), if_neg (by omega), Lib.parseUintM, hv]
      congr 1
      omega
    · omega
    · have h7 : (10 : Int) ^ (d + 1) = 10 ^ d * 10 := Int.pow_succ ..
      omega
theorem parse_at (s : ByteArray) (x e : Nat) (h : NumAt s x e) : Lib.parseUintB 64 (s.extract x e).data.toList = .ok (dv s x (e - x)).toNat ∧ 0 ≤ dv s x (e - x) ∧ dv s x (e - x) < 1000000000000000 := by
  obtain ⟨h1, h2, h3, h4, _, _⟩ := h
  obtain ⟨g1, g2, g3⟩ := parse_run s x (e - x) (by omega) (by omega) (fun j q1 q2 => h4 j q1 (by omega))
  rw [show x + (e - x) = e by omega] at g1
  refine ⟨?_, dv_fifteen (by omega) (fun j q1 q2 => h4 j q1 (by omega))⟩
  unfold Lib.parseUintB
  rw [if_neg]
  · exact g1
  · intro h0
    have : (s.extract x e).data.toList.length = 0 := by rw [h0]; rfl
    rw [size_list, ext_size _ _ _ h3] at this
    omega
theorem Form.notD {s : ByteArray} {a b c m : Nat} {n1 n2 n3 : Int} {pre mt : ByteArray} (h : Form s a b c m n1 n2 n3 pre mt) : a + 1 < b ∧ b + 1 < c ∧ 0 < a ∧ c ≤ m ∧ m ≤ s.size ∧ s.size ≤ 100 :=
  ⟨h.d2.1, h.d3.1, h.d1.1, h.cm, h.ms, h.size⟩
/-- What zzLoose gives. -/
theorem loose_ev {s : ByteArray} {a b c m : Nat} {n1 n2 n3 : Int} {pre mt : ByteArray} (h : Form s a b c m n1 n2 n3 pre mt) :
    Ev (fun k => semver_zzLoose.f k s) [s, s.extract 0 a, s.extract a b, s.extract b c, s.extract c m, pre, ⟨#[]⟩, s.extract m s.size, mt] := by
  obtain ⟨o1, o2, o3, o4, o5, o6⟩ := h.notD
  have hs : s.size ≤ 100000 := by omega
  have w1 : ∀ i : Nat, i ≤ 100 → wrap64 ((i : Int) + 1) = ((i + 1 : Nat) : Int) := fun i hi => by rw [w64_in (by omega) (by omega)]; omega
  have tn : ∀ i : Nat, ((i : Int)).toNat = i := fun i => Int.toNat_natCast i
  obtain ⟨_, _, _, da, ea, _⟩ := h.d1
  obtain ⟨_, _, _, db, eb, _⟩ := h.d2
  obtain ⟨_, _, _, dc, ec, _⟩ := h.d3
  have ra := zzDigits_run s hs 0 a (by omega) (by omega) (.inr (by rw [h.p1]; unfold isD; omega)) da
  have rb := zzDigits_run s hs (a + 1) b (by omega) (by omega) (.inr (by rw [h.p2]; unfold isD; omega)) db
  have rc := zzDigits_run s hs (b + 1) c (by omega) (by omega) ec dc
  have hb0 : bt s 0 ≠ 118 := by
    have := da 0 (Nat.le_refl _) o3
    unfold isD at this
    rw [show ((0 : Nat) : Int) = 0 from rfl] at this
    omega
  -- the end
  have r6 : Ev (fun k => semver_zzLoose.j6 k s [s, s.extract 0 a, s.extract a b, s.extract b c, s.extract c m, pre, ⟨#[]⟩, s.extract m s.size, mt] (s.size : Int)) [s, s.extract 0 a, s.extract a b, s.extract b c, s.extract c m, pre, ⟨#[]⟩, s.extract m s.size, mt] :=
    Ev.step (fun k => by rw [semver_zzLoose.j6]) (Ev.pos rfl (Ev.ok _))
  have r5 : Ev (fun k => semver_zzLoose.j5 k s [s, s.extract 0 a, s.extract a b, s.extract b c, s.extract c m, pre, ⟨#[]⟩, ⟨#[]⟩, ⟨#[]⟩] (m : Int)) [s, s.extract 0 a, s.extract a b, s.extract b c, s.extract c m, pre, ⟨#[]⟩, s.extract m s.size, mt] := by
    refine Ev.step (fun k => by rw [semver_zzLoose.j5]) ?_
    rcases h.hmeta with ⟨g1, g2⟩ | ⟨g1, g2, g3, g4⟩
    · refine Ev.bind (zzParts_none s m 43 (.inl g1)) (Ev.neg (by omega) ?_)
      rw [g1, ext_nil, g2]
      rw [g1, ext_nil, g2] at r6
      exact r6
    · refine Ev.bind (zzParts_run s hs false m s.size 43 g1 g2 (Nat.le_refl _) (.inl rfl) g3) (Ev.pos (by omega) ?_)
      rw [w1 m (by omega), tn, tn, tn]
      refine Ev.pos (by omega) (Ev.pos (by omega) (Ev.pos (by omega) (Ev.pos (by omega) (Ev.pos (by omega) (Ev.pos (by simp) (Ev.pos (by simp) ?_))))))
      rw [g4] at r6 ⊢
      exact r6
  have r4 : Ev (fun k => semver_zzLoose.j4 k s [s, s.extract 0 a, s.extract a b, s.extract b c, ⟨#[]⟩, ⟨#[]⟩, ⟨#[]⟩, ⟨#[]⟩, ⟨#[]⟩] (c : Int)) [s, s.extract 0 a, s.extract a b, s.extract b c, s.extract c m, pre, ⟨#[]⟩, s.extract m s.size, mt] := by
    refine Ev.step (fun k => by rw [semver_zzLoose.j4]) ?_
    rcases h.hpre with ⟨g1, g2⟩ | ⟨g1, g2, g3, g4⟩
    · have hno : c = s.size ∨ (c < s.size ∧ bt s (c : Int) ≠ 45) := by
        rcases h.hmeta with ⟨q1, q2⟩ | ⟨q1, q2, _⟩
        · exact .inl (by omega)
        · rw [g1]
          exact .inr ⟨q1, by rw [q2]; decide⟩
      refine Ev.bind (zzParts_none s c 45 hno) (Ev.neg (by omega) ?_)
      rw [← g1, ext_nil, g2] at r5 ⊢
      exact r5
    · have hend : m = s.size ∨ (¬ isP (bt s (m : Int)) ∧ bt s (m : Int) ≠ 46) := by
        rcases h.hmeta with ⟨q1, q2⟩ | ⟨q1, q2, _⟩
        · exact .inl q1
        · exact .inr (by rw [q2]; exact ⟨by unfold isP; omega, by decide⟩)
      refine Ev.bind (zzParts_run s hs true c m 45 (by omega) g2 (by omega) hend g3) (Ev.pos (by omega) ?_)
      rw [w1 c (by omega), tn, tn, tn]
      refine Ev.pos (by omega) (Ev.pos (by omega) (Ev.pos (by omega) (Ev.pos (by omega) (Ev.pos (by omega) (Ev.pos (by simp) (Ev.pos (by simp) ?_))))))
      rw [g4] at r5 ⊢
      exact r5
  have r3 : Ev (fun k => semver_zzLoose.l0 k s [s, s.extract 0 a, s.extract a b, s.extract b c, ⟨#[]⟩, ⟨#[]⟩, ⟨#[]⟩, ⟨#[]⟩, ⟨#[]⟩] (c : Int) 4) [s, s.extract 0 a, s.extract a b, s.extract b c, s.extract c m, pre, ⟨#[]⟩, s.extract m s.size, mt] :=
    Ev.step (fun k => by rw [semver_zzLoose.l0]) (Ev.neg (by decide) r4)
  have r2 : Ev (fun k => semver_zzLoose.l0 k s [s, s.extract 0 a, s.extract a b, ⟨#[]⟩, ⟨#[]⟩, ⟨#[]⟩, ⟨#[]⟩, ⟨#[]⟩, ⟨#[]⟩] (b : Int) 3) [s, s.extract 0 a, s.extract a b, s.extract b c, s.extract c m, pre, ⟨#[]⟩, s.extract m s.size, mt] := by
    have hq := h.q2
    refine Ev.step (fun k => by rw [semver_zzLoose.l0]) (Ev.pos (by decide) (Ev.pos (by omega) (Ev.pos (by omega) (Ev.pos h.p2 ?_))))
    rw [w1 b (by omega)]
    refine Ev.bind rc ?_
    rw [decide_eq_true (by omega)]
    refine Ev.step (fun k => by rw [semver_zzLoose.j3]) (Ev.pos rfl ?_)
    rw [w1 b (by omega), tn]
    refine Ev.bind rc ?_
    rw [tn]
    refine Ev.pos (by omega) (Ev.pos (by omega) (Ev.pos (by omega) (Ev.pos (by decide) (Ev.pos (by simp) ?_))))
    rw [show wrap64 (3 + 1) = 4 from w64_in (by decide) (by decide)]
    exact r3
  have r1 : Ev (fun k => semver_zzLoose.l0 k s [s, s.extract 0 a, ⟨#[]⟩, ⟨#[]⟩, ⟨#[]⟩, ⟨#[]⟩, ⟨#[]⟩, ⟨#[]⟩, ⟨#[]⟩] (a : Int) 2) [s, s.extract 0 a, s.extract a b, s.extract b c, s.extract c m, pre, ⟨#[]⟩, s.extract m s.size, mt] := by
    have hq := h.q1
    refine Ev.step (fun k => by rw [semver_zzLoose.l0]) (Ev.pos (by decide) (Ev.pos (by omega) (Ev.pos (by omega) (Ev.pos h.p1 ?_))))
    rw [w1 a (by omega)]
    refine Ev.bind rb ?_
    rw [decide_eq_true (by omega)]
    refine Ev.step (fun k => by rw [semver_zzLoose.j3]) (Ev.pos rfl ?_)
    rw [w1 a (by omega), tn]
    refine Ev.bind rb ?_
    rw [tn]
    refine Ev.pos (by omega) (Ev.pos (by omega) (Ev.pos (by omega) (Ev.pos (by decide) (Ev.pos (by simp) ?_))))
    rw [show wrap64 (2 + 1) = 3 from w64_in (by decide) (by decide)]
    exact r2
  have r0 : Ev (fun k => semver_zzLoose.j1 k s [s, ⟨#[]⟩, ⟨#[]⟩, ⟨#[]⟩, ⟨#[]⟩, ⟨#[]⟩, ⟨#[]⟩, ⟨#[]⟩, ⟨#[]⟩] 0) [s, s.extract 0 a, s.extract a b, s.extract b c, s.extract c m, pre, ⟨#[]⟩, s.extract m s.size, mt] := by
    refine Ev.step (fun k => by rw [semver_zzLoose.j1]) ?_
    rw [show ((0 : Nat) : Int) = 0 from rfl] at ra
    refine Ev.bind ra ?_
    refine Ev.neg (by omega) ?_
    rw [tn]
    refine Ev.pos (by decide) (Ev.pos (by omega) (Ev.pos (by omega) (Ev.pos (by simp) ?_)))
    exact r1
  have rz : Ev (fun k => semver_zzLoose.j0 k s [s, ⟨#[]⟩, ⟨#[]⟩, ⟨#[]⟩, ⟨#[]⟩, ⟨#[]⟩, ⟨#[]⟩, ⟨#[]⟩, ⟨#[]⟩] 0 false) [s, s.extract 0 a, s.extract a b, s.extract b c, s.extract c m, pre, ⟨#[]⟩, s.extract m s.size, mt] := by
    refine Ev.step (fun k => by rw [semver_zzLoose.j0]) ?_
    exact Ev.neg (by decide) r0
  unfold semver_zzLoose.f
  refine Ev.pos (by decide) (Ev.bind (Ev.ok _) (Ev.pos (by simp) (Ev.bind (Ev.ok _) ?_)))
  refine Ev.pos (by omega) ?_
  rw [beq_eq_false_iff_ne.2 hb0]
  exact rz
end Go.Proofs.YtlhijjfbcgconaaDoor.P

