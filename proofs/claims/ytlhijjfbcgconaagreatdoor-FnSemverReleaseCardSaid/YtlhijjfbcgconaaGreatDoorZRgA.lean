/- Texts joined: Rg1, Rg2, Rg3, Rg4. -/
import Derived.Test.YtlhijjfbcgconaaGreatDoorZSv
import Derived.Test.YtlhijjfbcgconaaGreatDoorZPx6
import Derived.Test.YtlhijjfbcgconaaGreatDoorZPx7
import Derived.Lib.Hide
import Derived.Deep.CutBlock
import Derived.Deep.DeepCutAuto
import Derived.Laws.ResultCell

/- Constraints: white space, marks, parts, and the version of a constraint at a place. -/
set_option linter.unusedVariables false
set_option linter.unusedSimpArgs false
namespace Go.Proofs.YtlhijjfbcgconaaGreatDoor.P
open Go.RowKit Go.Proofs.YtlhijjfbcgconaaGreatDoorW.PrintWords Go.Proofs.YtlhijjfbcgconaaGreatDoorW.PrintLast Go.Proofs.YtlhijjfbcgconaaGreatDoorW.PrintMore

def isM (x : Int) : Prop := (48 ≤ x ∧ x ≤ 57) ∨ x = 120 ∨ x = 88 ∨ x = 42 ∨ x = 124
def isS (x : Int) : Prop := x = 32 ∨ x = 9 ∨ x = 10 ∨ x = 12 ∨ x = 13
instance (x : Int) : Decidable (isM x) := by unfold isM; infer_instance
instance (x : Int) : Decidable (isS x) := by unfold isS; infer_instance
/-- Where a run ends. -/
theorem run_ex (P : Int → Prop) [DecidablePred P] (s : ByteArray) : ∀ n i : Nat, i + n = s.size → ∃ e, i ≤ e ∧ e ≤ s.size ∧ (e = s.size ∨ ¬ P (bt s (e : Int))) ∧ ∀ j, i ≤ j → j < e → P (bt s (j : Int))
  | 0, i, h => ⟨i, Nat.le_refl _, by omega, .inl (by omega), fun j h1 h2 => by omega⟩
  | n + 1, i, h => by
    by_cases c : P (bt s (i : Int))
    · obtain ⟨e, h1, h2, h3, h4⟩ := run_ex P s n (i + 1) (by omega)
      refine ⟨e, by omega, h2, h3, fun j g1 g2 => ?_⟩
      by_cases q : j = i
      · rw [q]; exact c
      · exact h4 j (by omega) g2
    · exact ⟨i, Nat.le_refl _, by omega, .inr c, fun j h1 h2 => by omega⟩
theorem mark_run (s : ByteArray) (hs : s.size ≤ 100000) (e : Nat) (he : e ≤ s.size) (hend : e = s.size ∨ ¬ isM (bt s (e : Int))) : ∀ n i : Nat, i + n = e → (∀ j, i ≤ j → j < e → isM (bt s (j : Int))) → Ev (fun k => semver_zzMark.l0 k s (i : Int)) (e : Int)
  | 0, i, hn, _ => by
    obtain rfl : i = e := by omega
    have hno : Ev (fun k => semver_zzMark.j1 k s (i : Int) false) (i : Int) := Ev.step (fun k => by rw [semver_zzMark.j1]) (Ev.neg (by decide) (Ev.ok _))
    refine Ev.step (fun k => by rw [semver_zzMark.l0]) ?_
    by_cases c : i = s.size
    · exact Ev.neg (by omega) hno
    · have h := hend.resolve_left c
      unfold isM at h
      have h124 : (bt s (i : Int) == 124) = false := beq_eq_false_iff_ne.2 (by omega)
      refine Ev.pos (by omega) (Ev.pos (by omega) ?_)
      rw [h124]
      by_cases c1 : bt s (i : Int) ≥ 48
      · exact Ev.pos c1 (Ev.neg (by omega) (Ev.neg (by omega) (Ev.neg (by omega) (Ev.neg (by omega) hno))))
      · exact Ev.neg c1 (Ev.neg (by omega) (Ev.neg (by omega) (Ev.neg (by omega) hno)))
  | n + 1, i, hn, hd => by
    have ih := mark_run s hs e he hend n (i + 1) (by omega) (fun j h1 h2 => hd j (by omega) h2)
    have e1 : wrap64 ((i : Int) + 1) = ((i + 1 : Nat) : Int) := by rw [w64_in (by omega) (by omega)]; omega
    have hyes : Ev (fun k => semver_zzMark.j1 k s (i : Int) true) (e : Int) := by
      refine Ev.step (fun k => by rw [semver_zzMark.j1]) (Ev.pos rfl ?_)
      rw [e1]
      exact ih
    have hlast : ∀ b : Bool, b = true → Ev (fun k => semver_zzMark.j1 k s (i : Int) b) (e : Int) := fun b hb => by rw [hb]; exact hyes
    have h := hd i (Nat.le_refl _) (by omega)
    unfold isM at h
    refine Ev.step (fun k => by rw [semver_zzMark.l0]) (Ev.pos (by omega) (Ev.pos (by omega) ?_))
    have tail : ¬ (48 ≤ bt s (i : Int) ∧ bt s (i : Int) ≤ 57) → Ev (fun k => (if (bt s (i : Int)) = 120 then (semver_zzMark.j1 k s (i : Int) true) else (if (bt s (i : Int)) = 88 then (semver_zzMark.j1 k s (i : Int) true) else (if (bt s (i : Int)) = 42 then (semver_zzMark.j1 k s (i : Int) true) else (semver_zzMark.j1 k s (i : Int) ((bt s (i : Int)) == 124)))))) (e : Int) := fun q => by
      by_cases c1 : bt s (i : Int) = 120
      · exact Ev.pos c1 hyes
      refine Ev.neg c1 ?_
      by_cases c2 : bt s (i : Int) = 88
      · exact Ev.pos c2 hyes
      refine Ev.neg c2 ?_
      by_cases c3 : bt s (i : Int) = 42
      · exact Ev.pos c3 hyes
      exact Ev.neg c3 (hlast _ (beq_iff_eq.2 (by omega)))
    by_cases c1 : bt s (i : Int) ≥ 48
    · by_cases c2 : bt s (i : Int) ≤ 57
      · exact Ev.pos c1 (Ev.pos c2 hyes)
      · exact Ev.pos c1 (Ev.neg c2 (tail (by omega)))
    · exact Ev.neg c1 (tail (by omega))
theorem space_run (s : ByteArray) (hs : s.size ≤ 100000) (e : Nat) (he : e ≤ s.size) (hend : e = s.size ∨ ¬ isS (bt s (e : Int))) : ∀ n i : Nat, i + n = e → (∀ j, i ≤ j → j < e → isS (bt s (j : Int))) → Ev (fun k => semver_zzSpace.l0 k s (i : Int)) (e : Int)
  | 0, i, hn, _ => by
    obtain rfl : i = e := by omega
    have hno : Ev (fun k => semver_zzSpace.j1 k s (i : Int) false) (i : Int) := Ev.step (fun k => by rw [semver_zzSpace.j1]) (Ev.neg (by decide) (Ev.ok _))
    refine Ev.step (fun k => by rw [semver_zzSpace.l0]) ?_
    by_cases c : i = s.size
    · exact Ev.neg (by omega) hno
    · have h := hend.resolve_left c
      unfold isS at h
      have h13 : (bt s (i : Int) == 13) = false := beq_eq_false_iff_ne.2 (by omega)
      refine Ev.pos (by omega) (Ev.pos (by omega) ?_)
      rw [h13]
      exact Ev.neg (by omega) (Ev.neg (by omega) (Ev.neg (by omega) (Ev.neg (by omega) hno)))
  | n + 1, i, hn, hd => by
    have ih := space_run s hs e he hend n (i + 1) (by omega) (fun j h1 h2 => hd j (by omega) h2)
    have e1 : wrap64 ((i : Int) + 1) = ((i + 1 : Nat) : Int) := by rw [w64_in (by omega) (by omega)]; omega
    have hyes : Ev (fun k => semver_zzSpace.j1 k s (i : Int) true) (e : Int) := by
      refine Ev.step (fun k => by rw [semver_zzSpace.j1]) (Ev.pos rfl ?_)
      rw [e1]
      exact ih
    have hlast : ∀ b : Bool, b = true → Ev (fun k => semver_zzSpace.j1 k s (i : Int) b) (e : Int) := fun b hb => by rw [hb]; exact hyes
    have h := hd i (Nat.le_refl _) (by omega)
    unfold isS at h
    refine Ev.step (fun k => by rw [semver_zzSpace.l0]) (Ev.pos (by omega) (Ev.pos (by omega) ?_))
    by_cases c1 : bt s (i : Int) = 32
    · exact Ev.pos c1 hyes
    refine Ev.neg c1 ?_
    by_cases c2 : bt s (i : Int) = 9
    · exact Ev.pos c2 hyes
    refine Ev.neg c2 ?_
    by_cases c3 : bt s (i : Int) = 10
    · exact Ev.pos c3 hyes
    refine Ev.neg c3 ?_
    by_cases c4 : bt s (i : Int) = 12
    · exact Ev.pos c4 hyes
    exact Ev.neg c4 (hlast _ (beq_iff_eq.2 (by omega)))
theorem mark_f (s : ByteArray) (hs : s.size ≤ 100000) (i e : Nat) (hi : i ≤ e) (he : e ≤ s.size) (hend : e = s.size ∨ ¬ isM (bt s (e : Int))) (hd : ∀ j, i ≤ j → j < e → isM (bt s (j : Int))) : Ev (fun k => semver_zzMark.f k s (i : Int)) (e : Int) := by
  unfold semver_zzMark.f
  exact mark_run s hs e he hend (e - i) i (by omega) hd
theorem space_f (s : ByteArray) (hs : s.size ≤ 100000) (i e : Nat) (hi : i ≤ e) (he : e ≤ s.size) (hend : e = s.size ∨ ¬ isS (bt s (e : Int))) (hd : ∀ j, i ≤ j → j < e → isS (bt s (j : Int))) : Ev (fun k => semver_zzSpace.f k s (i : Int)) (e : Int) := by
  unfold semver_zzSpace.f
  exact space_run s hs e he hend (e - i) i (by omega) hd
theorem mark_tot (s : ByteArray) (hs : s.size ≤ 100000) (i : Nat) (hi : i ≤ s.size) : ∃ e : Nat, i ≤ e ∧ e ≤ s.size ∧ Ev (fun k => semver_zzMark.f k s (i : Int)) (e : Int) := by
  obtain ⟨e, h1, h2, h3, h4⟩ := run_ex isM s (s.size - i) i (by omega)
  exact ⟨e, h1, h2, mark_f s hs i e h1 h2 h3 h4⟩
theorem part_tot (s : ByteArray) (hs : s.size ≤ 100000) (i : Nat) (hi : i ≤ s.size) : ∃ e : Nat, i ≤ e ∧ e ≤ s.size ∧ Ev (fun k => semver_zzPart.f k s (i : Int)) (e : Int) := by
  obtain ⟨e, h1, h2, h3, h4⟩ := run_ex isP s (s.size - i) i (by omega)
  exact ⟨e, h1, h2, zzPart_run s hs i e h1 h2 h3 h4⟩
theorem parts_tot_l (s : ByteArray) (hs : s.size ≤ 100000) : ∀ n i : Nat, s.size - i ≤ n → i ≤ s.size → ∃ e : Nat, i ≤ e ∧ e ≤ s.size ∧ Ev (fun k => semver_zzParts.l0 k s (i : Int)) (e : Int) := by
  have hnoj : ∀ z : Nat, Ev (fun k => semver_zzParts.j2 k s (z : Int) false) (z : Int) := fun z => Ev.step (fun k => by rw [semver_zzParts.j2]) (Ev.neg (by decide) (Ev.ok _))
  intro n
  induction n with
  | zero =>
    intro i h hi
    exact ⟨i, Nat.le_refl _, hi, Ev.step (fun k => by rw [semver_zzParts.l0]) (Ev.neg (by omega) (hnoj i))⟩
  | succ n ih =>
    intro i h hi
    by_cases c : i < s.size
    · by_cases c2 : bt s (i : Int) = 46
      · have e1 : wrap64 ((i : Int) + 1) = ((i + 1 : Nat) : Int) := by rw [w64_in (by omega) (by omega)]; omega
        obtain ⟨z, z1, z2, z3⟩ := part_tot s hs (i + 1) (by omega)
        by_cases c3 : z = i + 1
        · refine ⟨i, Nat.le_refl _, hi, Ev.step (fun k => by rw [semver_zzParts.l0]) (Ev.pos (by omega) (Ev.pos (by omega) (Ev.pos c2 ?_)))⟩
          rw [e1]
          refine Ev.bind z3 ?_
          rw [decide_eq_false (by omega)]
          exact hnoj i
        · obtain ⟨e, g1, g2, g3⟩ := ih z (by omega) z2
          refine ⟨e, by omega, g2, Ev.step (fun k => by rw [semver_zzParts.l0]) (Ev.pos (by omega) (Ev.pos (by omega) (Ev.pos c2 ?_)))⟩
          rw [e1]
          refine Ev.bind z3 ?_
          rw [decide_eq_true (by omega)]
          refine Ev.step (fun k => by rw [semver_zzParts.j2]) (Ev.pos rfl ?_)
          rw [e1]
          exact Ev.bind z3 g3
      · exact ⟨i, Nat.le_refl _, hi, Ev.step (fun k => by rw [semver_zzParts.l0]) (Ev.pos (by omega) (Ev.pos (by omega) (Ev.neg c2 (hnoj i))))⟩
    · exact ⟨i, Nat.le_refl _, hi, Ev.step (fun k => by rw [semver_zzParts.l0]) (Ev.neg (by omega) (hnoj i))⟩
theorem parts_tot (s : ByteArray) (hs : s.size ≤ 100000) (i : Nat) (c : Int) (hi : i ≤ s.size) : ∃ e : Nat, i ≤ e ∧ e ≤ s.size ∧ Ev (fun k => semver_zzParts.f k s (i : Int) c) (e : Int) := by
  by_cases c1 : i < s.size
  · by_cases c2 : bt s (i : Int) = c
    · have e1 : wrap64 ((i : Int) + 1) = ((i + 1 : Nat) : Int) := by rw [w64_in (by omega) (by omega)]; omega
      obtain ⟨z, z1, z2, z3⟩ := part_tot s hs (i + 1) (by omega)
      by_cases c3 : z = i + 1
      · refine ⟨i, Nat.le_refl _, hi, ?_⟩
        unfold semver_zzParts.f
        refine Ev.neg (by omega) (Ev.pos (by omega) (Ev.pos (by omega) ?_))
        rw [c2, bne_self_eq_false]
        refine Ev.step (fun k => by rw [semver_zzParts.j0]) (Ev.neg (by decide) ?_)
        rw [e1]
        exact Ev.bind z3 (Ev.pos (by omega) (Ev.ok _))
      · obtain ⟨e, g1, g2, g3⟩ := parts_tot_l s hs (s.size - z) z (Nat.le_refl _) z2
        refine ⟨e, by omega, g2, ?_⟩
        unfold semver_zzParts.f
        refine Ev.neg (by omega) (Ev.pos (by omega) (Ev.pos (by omega) ?_))
        rw [c2, bne_self_eq_false]
        refine Ev.step (fun k => by rw [semver_zzParts.j0]) (Ev.neg (by decide) ?_)
        rw [e1]
        exact Ev.bind z3 (Ev.neg (by omega) g3)
    · exact ⟨i, Nat.le_refl _, hi, zzParts_none s i c (.inr ⟨c1, c2⟩)⟩
  · exact ⟨i, Nat.le_refl _, hi, zzParts_none s i c (.inl (by omega))⟩
/-! ### the version of a constraint -/
def V0 (s : ByteArray) (i i0 : Nat) : Prop := (i0 = i ∧ (i = s.size ∨ (i < s.size ∧ bt s (i : Int) ≠ 118))) ∨ (i0 = i + 1 ∧ i < s.size ∧ bt s (i : Int) = 118)
/-- A segment .number from a to b (m: its text); none: b = a. -/
inductive Seg (s : ByteArray) (a : Nat) : Nat → ByteArray → Prop
  | off1 (h : a = s.size) : Seg s a a ⟨#[]⟩
  | off2 (h : a < s.size) (h2 : bt s (a : Int) ≠ 46) : Seg s a a ⟨#[]⟩
  | off3 (h : a < s.size) (h2 : bt s (a : Int) = 46) (h3 : Ev (fun k => semver_zzMark.f k s ((a + 1 : Nat) : Int)) ((a + 1 : Nat) : Int)) : Seg s a a ⟨#[]⟩
  | on {b : Nat} (h : a < s.size) (h2 : bt s (a : Int) = 46) (h3 : a + 1 < b) (h4 : b ≤ s.size) (h5 : Ev (fun k => semver_zzMark.f k s ((a + 1 : Nat) : Int)) (b : Int)) : Seg s a b (s.extract a b)
/-- The end of the first two segments: the second one only behind a first one. -/
structure Ver (s : ByteArray) (i e : Nat) (m0 m1 m2 m3 : ByteArray) (i0 a b c d : Nat) : Prop where
  hv : V0 s i i0
  h0 : i0 < a
  ha : a ≤ s.size
  hm : Ev (fun k => semver_zzMark.f k s (i0 : Int)) (a : Int)
  e0 : m0 = s.extract i0 a
  s1 : Seg s a b m1
  s2 : (b = a ∧ c = b ∧ m2 = ⟨#[]⟩) ∨ (a < b ∧ Seg s b c m2)
  hcd : c ≤ d
  hd : d ≤ s.size
  p3 : Ev (fun k => semver_zzParts.f k s (c : Int) 45) (d : Int)
  e3 : m3 = if c < d then s.extract c d else ⟨#[]⟩
  hde : d ≤ e
  he : e ≤ s.size
  p4 : Ev (fun k => semver_zzParts.f k s (d : Int) 43) (e : Int)
def NoVer (s : ByteArray) (i : Nat) : Prop := ∃ i0, V0 s i i0 ∧ i0 ≤ s.size ∧ Ev (fun k => semver_zzMark.f k s (i0 : Int)) (i0 : Int)
theorem seg_ex (s : ByteArray) (hs : s.size ≤ 100000) (a : Nat) (ha : a ≤ s.size) : ∃ b m, Seg s a b m ∧ a ≤ b ∧ b ≤ s.size := by
  by_cases c : a = s.size
  · exact ⟨a, _, .off1 c, Nat.le_refl _, ha⟩
  · by_cases c2 : bt s (a : Int) = 46
    · obtain ⟨b, h1, h2, h3⟩ := mark_tot s hs (a + 1) (by omega)
      by_cases c3 : b = a + 1
      · subst c3
        exact ⟨a, _, .off3 (by omega) c2 h3, Nat.le_refl _, ha⟩
      · exact ⟨b, _, .on (by omega) c2 (by omega) h2 h3, by omega, h2⟩
    · exact ⟨a, _, .off2 (by omega) c2, Nat.le_refl _, ha⟩
theorem v0_ex (s : ByteArray) (i : Nat) (hi : i ≤ s.size) : ∃ i0, V0 s i i0 ∧ i ≤ i0 ∧ i0 ≤ s.size := by
  by_cases c : i = s.size
  · exact ⟨i, .inl ⟨rfl, .inl c⟩, Nat.le_refl _, hi⟩
  · by_cases c2 : bt s (i : Int) = 118
    · exact ⟨i + 1, .inr ⟨rfl, by omega, c2⟩, by omega, by omega⟩
    · exact ⟨i, .inl ⟨rfl, .inr ⟨by omega, c2⟩⟩, Nat.le_refl _, hi⟩
theorem ver_ex (s : ByteArray) (hs : s.size ≤ 100000) (i : Nat) (hi : i ≤ s.size) : NoVer s i ∨ ∃ e m0 m1 m2 m3 i0 a b c d, Ver s i e m0 m1 m2 m3 i0 a b c d ∧ i < e := by
  obtain ⟨i0, hv, h1, h2⟩ := v0_ex s i hi
  obtain ⟨a, a1, a2, a3⟩ := mark_tot s hs i0 h2
  by_cases c : a = i0
  · subst c
    exact .inl ⟨a, hv, h2, a3⟩
  · obtain ⟨b, m1, b1, b2, b3⟩ := seg_ex s hs a a2
    have key : ∀ c m2, ((b = a ∧ c = b ∧ m2 = ⟨#[]⟩) ∨ (a < b ∧ Seg s b c m2)) → b ≤ c → c ≤ s.size → ∃ e m0 m1 m2 m3 i0 a b c d, Ver s i e m0 m1 m2 m3 i0 a b c d ∧ i < e := fun c m2 hs2 hc1 hc2 => by
      obtain ⟨d, d1, d2, d3⟩ := parts_tot s hs c 45 hc2
      obtain ⟨e, e1, e2, e3⟩ := parts_tot s hs d 43 d2
      exact ⟨e, _, m1, m2, _, i0, a, b, c, d, ⟨hv, by omega, a2, a3, rfl, b1, hs2, d1, d2, d3, rfl, e1, e2, e3⟩, by omega⟩
    right
    by_cases c2 : b = a
    · exact key b ⟨#[]⟩ (.inl ⟨c2, rfl, rfl⟩) (Nat.le_refl _) b3
    · obtain ⟨c, m2, c1, c3, c4⟩ := seg_ex s hs b b3
      exact key c m2 (.inr ⟨by omega, c1⟩) c3 c4
end Go.Proofs.YtlhijjfbcgconaaGreatDoor.P


/- Constraints: the version at a place (zzVersion). -/
set_option linter.unusedVariables false
set_option linter.unusedSimpArgs false
namespace Go.Proofs.YtlhijjfbcgconaaGreatDoor.P
open Go.RowKit Go.Proofs.YtlhijjfbcgconaaGreatDoorW.PrintWords Go.Proofs.YtlhijjfbcgconaaGreatDoorW.PrintLast Go.Proofs.YtlhijjfbcgconaaGreatDoorW.PrintMore

theorem mark_call {s : ByteArray} {i a : Nat} (h : Ev (fun k => semver_zzMark.f k s (i : Int)) (a : Int)) (W : World) : Calls Tryz.prog 43 #[.string s, .int .i64 (i : Int)] W fun e w' => e = .returned (.int .i64 (a : Int)) ∧ Below W.heap.size W w' := by
  obtain ⟨K, hK⟩ := h
  refine (semver_zzMark.calls K s i a W (hK K (Nat.le_refl _))).mono ?_
  rintro e w' ⟨rfl, hd⟩
  exact ⟨rfl, hd.below⟩
theorem parts_call {s : ByteArray} {i a : Nat} {c : Int} (h : Ev (fun k => semver_zzParts.f k s (i : Int) c) (a : Int)) (W : World) : Calls Tryz.prog 44 #[.string s, .int .i64 (i : Int), .int .u8 c] W fun e w' => e = .returned (.int .i64 (a : Int)) ∧ Below W.heap.size W w' := by
  obtain ⟨K, hK⟩ := h
  refine (semver_zzParts.calls K s i c a W (hK K (Nat.le_refl _))).mono ?_
  rintro e w' ⟨rfl, hd⟩
  exact ⟨rfl, hd.below⟩
theorem space_call {s : ByteArray} {i a : Nat} (h : Ev (fun k => semver_zzSpace.f k s (i : Int)) (a : Int)) (W : World) : Calls Tryz.prog 30 #[.string s, .int .i64 (i : Int)] W fun e w' => e = .returned (.int .i64 (a : Int)) ∧ Below W.heap.size W w' := by
  obtain ⟨K, hK⟩ := h
  refine (semver_zzSpace.calls K s i a W (hK K (Nat.le_refl _))).mono ?_
  rintro e w' ⟨rfl, hd⟩
  exact ⟨rfl, hd.below⟩
theorem blk_of {w w1 : World} {g : Nat} {o : Obj} (hb : Below w.heap.size w w1) (h : w.heap[g]? = some o) : w1.heap[g]? = some o := blk_below h hb
theorem blk_four {W : World} {g : Nat} {x0 x1 x2 x3 : Value} (h : W.heap[g]? = some (.cells #[x0, x1, x2, x3] 71 (0, 0))) (a b c d : ByteArray) :
    ((((W.setCell ⟨g, 0, none⟩ (.string a)).setCell ⟨g, 1, none⟩ (.string b)).setCell ⟨g, 2, none⟩ (.string c)).setCell ⟨g, 3, none⟩ (.string d)).heap[g]? = some (.cells #[.string a, .string b, .string c, .string d] 71 (0, 0)) := by
  have h1 := blk_set h 0 (.string a)
  have h2 := blk_set h1 1 (.string b)
  have h3 := blk_set h2 2 (.string c)
  have h4 := blk_set h3 3 (.string d)
  exact h4
def four (a b c d : ByteArray) : Array Value := #[.string a, .string b, .string c, .string d]
set_option maxHeartbeats 3200000 in
set_option maxRecDepth 100000 in
theorem zzVersion_no {s : ByteArray} {i : Nat} (hs : s.size ≤ 1000) (h : NoVer s i) (w : World) :
    Calls Tryz.prog 31 #[.string s, .int .i64 (i : Int)] w fun e w' => e = .returned (.tuple #[.int .i64 (-1), .agg (four ⟨#[]⟩ ⟨#[]⟩ ⟨#[]⟩ ⟨#[]⟩)]) ∧ Below w.heap.size w w' := by
  obtain ⟨i0, hv, hi0, hm⟩ := h
  have HV := Lib.hid hv
  have HM := Lib.hid (fun W => mark_call hm W)
  clear hv hm
  go_enter Tryz.func31, Tryz.ntmps31
  obtain ⟨bv, hbv⟩ : ∃ bv : Bool, (bv = true ∧ i0 = i + 1 ∧ i < s.size ∧ bt s (i : Int) = 118) ∨ (bv = false ∧ i0 = i ∧ (i = s.size ∨ (i < s.size ∧ bt s (i : Int) ≠ 118))) := by
    rcases HV.out with ⟨h1, h2⟩ | ⟨h1, h2, h3⟩
    · exact ⟨false, .inr ⟨rfl, h1, h2⟩⟩
    · exact ⟨true, .inl ⟨rfl, h1, h2, h3⟩⟩
  have HBV := Lib.hid hbv
  clear hbv HV
  go_upto_region 1 with fail
  have HB1 := Lib.hid ((Below.refl w.heap.size w).alloc (Nat.le_refl _) (.cells (four ⟨#[]⟩ ⟨#[]⟩ ⟨#[]⟩ ⟨#[]⟩) 71))
  have HK1 := Lib.hid (heap_alloc_new w (.cells (four ⟨#[]⟩ ⟨#[]⟩ ⟨#[]⟩ ⟨#[]⟩) 71))
  unfold four at HB1 HK1
  generalize w.alloc (.cells #[.string ⟨#[]⟩, .string ⟨#[]⟩, .string ⟨#[]⟩, .string ⟨#[]⟩] 71) = w1 at *
  go_cut [17] from 8 to 17 (fun v wc => v = .bool bv ∧ w1 = wc)
  case first =>
    rcases HBV.out with ⟨h1, h2, h3, h4⟩ | ⟨h1, h2, h3 | ⟨h3, h4⟩⟩
    · have d1 : decide ((i : Int) < (s.size : Int)) = true := decide_eq_true (by omega)
      have d2 : ((((s[i]'h3).toNat : Nat) : Int) == 118) = true := by rw [← bt_nat s i h3, h4]; rfl
      have h0 : (i : Int) < (s.size : Int) := by omega
      clear h2 h4
      go_wp2
      go_meet
      case rel => exact ⟨by rw [h1], rfl⟩
    · have d1 : decide ((i : Int) < (s.size : Int)) = false := decide_eq_false (by omega)
      clear h2
      go_wp2
      go_meet
      case rel => exact ⟨by rw [h1], rfl⟩
    · have d1 : decide ((i : Int) < (s.size : Int)) = true := decide_eq_true (by omega)
      have d2 : ((((s[i]'h3).toNat : Nat) : Int) == 118) = false := by rw [← bt_nat s i h3]; exact beq_eq_false_iff_ne.2 h4
      have h0 : (i : Int) < (s.size : Int) := by omega
      clear h2 h4
      go_wp2
      go_meet
      case rel => exact ⟨by rw [h1], rfl⟩
  case rest =>
  obtain ⟨rfl, rfl⟩ := hcut
  go_upto_if 17 with (fail)
  go_cut [1] (fun v wc => v = .int .i64 (i0 : Int) ∧ w1 = wc)
  case first =>
    rcases HBV.out with ⟨rfl, rfl, _⟩ | ⟨rfl, rfl, _⟩
    · go_wp2
      go_meet
      case rel => exact ⟨by go_num, rfl⟩
    · go_wp2
      go_meet
      case rel => exact ⟨rfl, rfl⟩
  case rest =>
  obtain ⟨rfl, rfl⟩ := hcut
  clear HBV
  go_wp2_with fail
  refine (HM.out _).mono ?_
  rintro e w2 ⟨rfl, hb⟩
  have HB2 := Lib.hid (HB1.out.trans (hb.mono HB1.out.size))
  have HK2 := Lib.hid (blk_below HK1.out hb)
  clear hb HB1 HK1 HM
  go_upto_region 5 with fail
  have y0 := blk_cell HK2.out 0
  have y1 := blk_cell HK2.out 1
  have y2 := blk_cell HK2.out 2
  have y3 := blk_cell HK2.out 3
  simp only [List.getElem?_toArray, List.getElem?_cons_zero, List.getElem?_cons_succ] at y0 y1 y2 y3
  have f0 := blk_frozen HK2.out 0
  have f1 := blk_frozen HK2.out 1
  have f2 := blk_frozen HK2.out 2
  have f3 := blk_frozen HK2.out 3
  go_region
  have HB3 := Lib.hid (((((HB2.out.setCell (p := ⟨w.heap.size, 0, none⟩) (Nat.le_refl _) (.string ⟨#[]⟩)).setCell (p := ⟨w.heap.size, 1, none⟩) (Nat.le_refl _) (.string ⟨#[]⟩)).setCell (p := ⟨w.heap.size, 2, none⟩) (Nat.le_refl _) (.string ⟨#[]⟩)).setCell (p := ⟨w.heap.size, 3, none⟩) (Nat.le_refl _) (.string ⟨#[]⟩)).drew)
  have HK3 := Lib.hid (blk_drew (blk_four HK2.out ⟨#[]⟩ ⟨#[]⟩ ⟨#[]⟩ ⟨#[]⟩))
  clear HB2 HK2
  generalize ((((w2.setCell ⟨w.heap.size, 0, none⟩ (.string ⟨#[]⟩)).setCell ⟨w.heap.size, 1, none⟩ (.string ⟨#[]⟩)).setCell ⟨w.heap.size, 2, none⟩ (.string ⟨#[]⟩)).setCell ⟨w.heap.size, 3, none⟩ (.string ⟨#[]⟩)).drew = w3 at *
  go_wp2
  (try simp only [Exit.inBlock, Exit.then])
  refine bodyPost_ret (results_tc rfl _ _ _ _ _ _ _ rfl HK3.out Tryz.underlying71 rfl (by kernel_rfl)) rfl ?_
  exact ⟨rfl, HB3.out⟩
set_option maxHeartbeats 3200000 in
set_option maxRecDepth 100000 in
theorem zzVersion_yes {s : ByteArray} {i e : Nat} {m0 m1 m2 m3 : ByteArray} {i0 a b c d : Nat} (hs : s.size ≤ 1000) (h : Ver s i e m0 m1 m2 m3 i0 a b c d) (w : World) :
    Calls Tryz.prog 31 #[.string s, .int .i64 (i : Int)] w fun e' w' => e' = .returned (.tuple #[.int .i64 (e : Int), .agg (four m0 m1 m2 m3)]) ∧ Below w.heap.size w w' := by
  have HV := Lib.hid h.hv
  have h0a := h.h0
  have haz := h.ha
  have HM0 := Lib.hid (fun W => mark_call h.hm W)
  have he0 := h.e0
  have HS1 := Lib.hid h.s1
  have HS2 := Lib.hid h.s2
  have hcd := h.hcd
  have hdz := h.hd
  have HP3 := Lib.hid (fun W => parts_call h.p3 W)
  have HP4 := Lib.hid (fun W => parts_call h.p4 W)
  have HE3 := Lib.hid h.e3
  clear h
  go_enter Tryz.func31, Tryz.ntmps31
  obtain ⟨bv, hbv⟩ : ∃ bv : Bool, (bv = true ∧ i0 = i + 1 ∧ i < s.size ∧ bt s (i : Int) = 118) ∨ (bv = false ∧ i0 = i ∧ (i = s.size ∨ (i < s.size ∧ bt s (i : Int) ≠ 118))) := by
    rcases HV.out with ⟨h1, h2⟩ | ⟨h1, h2, h3⟩
    · exact ⟨false, .inr ⟨rfl, h1, h2⟩⟩
    · exact ⟨true, .inl ⟨rfl, h1, h2, h3⟩⟩
  have HBV := Lib.hid hbv
  clear hbv HV
  go_upto_region 1 with fail
  have HB1 := Lib.hid ((Below.refl w.heap.size w).alloc (Nat.le_refl _) (.cells (four ⟨#[]⟩ ⟨#[]⟩ ⟨#[]⟩ ⟨#[]⟩) 71))
  have HK1 := Lib.hid (heap_alloc_new w (.cells (four ⟨#[]⟩ ⟨#[]⟩ ⟨#[]⟩ ⟨#[]⟩) 71))
  unfold four at HB1 HK1
  generalize w.alloc (.cells #[.string ⟨#[]⟩, .string ⟨#[]⟩, .string ⟨#[]⟩, .string ⟨#[]⟩] 71) = w1 at *
  go_cut [17] from 8 to 17 (fun v wc => v = .bool bv ∧ w1 = wc)
  case first =>
    rcases HBV.out with ⟨h1, h2, h3, h4⟩ | ⟨h1, h2, h3 | ⟨h3, h4⟩⟩
    · have d1 : decide ((i : Int) < (s.size : Int)) = true := decide_eq_true (by omega)
      have d2 : ((((s[i]'h3).toNat : Nat) : Int) == 118) = true := by rw [← bt_nat s i h3, h4]; rfl
      have h0 : (i : Int) < (s.size : Int) := by omega
      clear h2 h4
      go_wp2
      go_meet
      case rel => exact ⟨by rw [h1], rfl⟩
    · have d1 : decide ((i : Int) < (s.size : Int)) = false := decide_eq_false (by omega)
      clear h2
      go_wp2
      go_meet
      case rel => exact ⟨by rw [h1], rfl⟩
    · have d1 : decide ((i : Int) < (s.size : Int)) = true := decide_eq_true (by omega)
      have d2 : ((((s[i]'h3).toNat : Nat) : Int) == 118) = false := by rw [← bt_nat s i h3]; exact beq_eq_false_iff_ne.2 h4
      have h0 : (i : Int) < (s.size : Int) := by omega
      clear h2 h4
      go_wp2
      go_meet
      case rel => exact ⟨by rw [h1], rfl⟩
  case rest =>
  obtain ⟨rfl, rfl⟩ := hcut
  go_upto_if 17 with (fail)
  go_cut [1] (fun v wc => v = .int .i64 (i0 : Int) ∧ w1 = wc)
  case first =>
    rcases HBV.out with ⟨rfl, rfl, _⟩ | ⟨rfl, rfl, _⟩
    · go_wp2
      go_meet
      case rel => exact ⟨by go_num, rfl⟩
    · go_wp2
      go_meet
      case rel => exact ⟨rfl, rfl⟩
  case rest =>
  obtain ⟨rfl, rfl⟩ := hcut
  clear HBV
  go_wp2_with fail
  refine (HM0.out _).mono ?_
  rintro e2 w2 ⟨rfl, hb⟩
  have HB2 := Lib.hid (HB1.out.trans (hb.mono HB1.out.size))
  have HK2 := Lib.hid (blk_of hb HK1.out)
  clear hb HB1 HK1 HM0
  have dk : ((a : Int) == (i0 : Int)) = false := beq_eq_false_iff_ne.2 (by omega)
  have i1 : (0 : Int) ≤ (i0 : Int) := by omega
  have i2 : (i0 : Int) ≤ (a : Int) := by omega
  have i3 : (a : Int) ≤ (s.size : Int) := by omega
  have n1 : ((i0 : Int)).toNat = i0 := Int.toNat_natCast i0
  have n2 : ((a : Int)).toNat = a := Int.toNat_natCast a
  subst he0
  have cz : w2.cell? ⟨w.heap.size, 0, none⟩ = some (.string ⟨#[]⟩) := by rw [blk_cell HK2.out 0]; rfl
  have fz := blk_frozen HK2.out 0
  go_upto_region 7 with fail
  have HB4 := Lib.hid (HB2.out.setCell (p := ⟨w.heap.size, 0, none⟩) (Nat.le_refl _) (.string (s.extract i0 a)))
  have HK4 := Lib.hid (show (w2.setCell ⟨w.heap.size, 0, none⟩ (.string (s.extract i0 a))).heap[w.heap.size]? = some (.cells #[.string (s.extract i0 a), .string ⟨#[]⟩, .string ⟨#[]⟩, .string ⟨#[]⟩] 71 (0, 0)) from blk_set HK2.out 0 (.string (s.extract i0 a)))
  clear cz fz HB2 HK2
  generalize w2.setCell ⟨w.heap.size, 0, none⟩ (.string (s.extract i0 a)) = w4 at *
  generalize hq0 : s.extract i0 a = m0 at *
  clear dk i1 i2 i3 n1 n2
  go_upto_block 0 with fail
  go_cut [1, 6, 7] from 33 to 66 (fun p kv nn wc => p = .int .i64 (c : Int) ∧ (∃ z, kv = z) ∧ (∃ z, nn = z) ∧ Hid (Below w.heap.size w wc) ∧ Hid (wc.heap[w.heap.size]? = some (.cells #[.string m0, .string m1, .string m2, .string ⟨#[]⟩] 71 (0, 0))))
  case first =>
    go_wp2
    go_loopw [1, 6, 7] (fun p kv nn wr => (∃ z, kv = z) ∧ Hid (Below w.heap.size w wr) ∧ ((nn = .int .i64 1 ∧ p = .int .i64 (a : Int) ∧ Hid (wr.heap[w.heap.size]? = some (.cells #[.string m0, .string ⟨#[]⟩, .string ⟨#[]⟩, .string ⟨#[]⟩] 71 (0, 0)))) ∨ (nn = .int .i64 2 ∧ a < b ∧ p = .int .i64 (b : Int) ∧ Hid (wr.heap[w.heap.size]? = some (.cells #[.string m0, .string m1, .string ⟨#[]⟩, .string ⟨#[]⟩] 71 (0, 0)))) ∨ (nn = .int .i64 3 ∧ p = .int .i64 (c : Int) ∧ Hid (wr.heap[w.heap.size]? = some (.cells #[.string m0, .string m1, .string m2, .string ⟨#[]⟩] 71 (0, 0)))))) (fun _ _ nn _ => 3 - (intOf nn).toNat)
    case atStart => exact ⟨⟨_, rfl⟩, HB4, .inl ⟨rfl, rfl, HK4⟩⟩
    case round =>
      clear HB4 HK4 HP3 HP4 HE3
      obtain ⟨⟨zk, rfl⟩, HBr, hr⟩ := hrel
      rcases hr with ⟨rfl, rfl, HKr⟩ | ⟨rfl, hab, rfl, HKr⟩ | ⟨rfl, rfl, HKr⟩
      · skip
        have hsg := HS1.out
        clear HS1
        cases hsg with
        | off1 h =>
          have d1 : decide ((a : Int) < (s.size : Int)) = false := decide_eq_false (by omega)
          have hnl : ¬ a < s.size := by omega
          clear h
          rcases HS2.out with ⟨_, hcb, hm2⟩ | ⟨q, _⟩
          rotate_left
          · exact absurd q (Nat.lt_irrefl _)
          subst hcb hm2
          go_wp2
          go_meet
          case rel => exact ⟨rfl, ⟨_, rfl⟩, ⟨_, rfl⟩, HBr, HKr⟩
        | off2 h h2 =>
          have d1 : decide ((a : Int) < (s.size : Int)) = true := decide_eq_true (by omega)
          have h0 : (a : Int) < (s.size : Int) := by omega
          have d2 : ((((s[a]'h).toNat : Nat) : Int) == 46) = false := by rw [← bt_nat s a h]; exact beq_eq_false_iff_ne.2 h2
          clear h2
          rcases HS2.out with ⟨_, hcb, hm2⟩ | ⟨q, _⟩
          rotate_left
          · exact absurd q (Nat.lt_irrefl _)
          subst hcb hm2
          go_wp2
          go_meet
          case rel => exact ⟨rfl, ⟨_, rfl⟩, ⟨_, rfl⟩, HBr, HKr⟩
        | off3 h h2 h3 =>
          have d1 : decide ((a : Int) < (s.size : Int)) = true := decide_eq_true (by omega)
          have h0 : (a : Int) < (s.size : Int) := by omega
          have d2 : ((((s[a]'h).toNat : Nat) : Int) == 46) = true := by rw [← bt_nat s a h, h2]; rfl
          have HM := Lib.hid (fun W => mark_call h3 W)
          rw [show (((a + 1 : Nat)) : Int) = (a : Int) + 1 by omega] at HM
          clear h2 h3
          rcases HS2.out with ⟨_, hcb, hm2⟩ | ⟨q, _⟩
          rotate_left
          · exact absurd q (Nat.lt_irrefl _)
          subst hcb hm2
          go_wp2_with fail
          refine (HM.out _).mono ?_
          rintro e20 w20 ⟨rfl, hb⟩
          have HB20 := Lib.hid (HBr.out.trans (hb.mono HBr.out.size))
          have HK20 := Lib.hid (blk_of hb HKr.out)
          clear hb HBr HKr
          go_wp2
          go_meet
          case rel => exact ⟨rfl, ⟨_, rfl⟩, ⟨_, rfl⟩, HB20, HK20⟩
        | on h h2 h3 h4 h5 =>
          have d1 : decide ((a : Int) < (s.size : Int)) = true := decide_eq_true (by omega)
          have h0 : (a : Int) < (s.size : Int) := by omega
          have d2 : ((((s[a]'h).toNat : Nat) : Int) == 46) = true := by rw [← bt_nat s a h, h2]; rfl
          have HM := Lib.hid (fun W => mark_call h5 W)
          rw [show (((a + 1 : Nat)) : Int) = (a : Int) + 1 by omega] at HM
          have d3 : decide ((a : Int) + 1 < (b : Int)) = true := decide_eq_true (by omega)
          have i1 : (0 : Int) ≤ (a : Int) := by omega
          have i2 : (a : Int) ≤ (b : Int) := by omega
          have i3 : (b : Int) ≤ (s.size : Int) := by omega
          have n1 : ((a : Int)).toNat = a := Int.toNat_natCast a
          have n2 : ((b : Int)).toNat = b := Int.toNat_natCast b
          clear h2 h5
          go_wp2_with fail
          refine (HM.out _).mono ?_
          rintro e20 w20 ⟨rfl, hb⟩
          have HB20 := Lib.hid (HBr.out.trans (hb.mono HBr.out.size))
          have HK20 := Lib.hid (blk_of hb HKr.out)
          clear hb HBr HKr
          go_wp2_with fail
          refine (HM.out _).mono ?_
          rintro e21 w21 ⟨rfl, hb⟩
          have HB21 := Lib.hid (HB20.out.trans (hb.mono HB20.out.size))
          have HK21 := Lib.hid (blk_of hb HK20.out)
          clear hb HB20 HK20
          have cz : w21.cell? ⟨w.heap.size, 1, none⟩ = some (.string ⟨#[]⟩) := by rw [blk_cell HK21.out 1]; rfl
          have fz := blk_frozen HK21.out 1
          go_upto_region 9 with fail
          have HB22 := Lib.hid (HB21.out.setCell (p := ⟨w.heap.size, 1, none⟩) (Nat.le_refl _) (.string (s.extract a b)))
          have HK22 := Lib.hid (show (w21.setCell ⟨w.heap.size, 1, none⟩ (.string (s.extract a b))).heap[w.heap.size]? = some (.cells #[.string m0, .string (s.extract a b), .string ⟨#[]⟩, .string ⟨#[]⟩] 71 (0, 0)) from blk_set HK21.out 1 (.string (s.extract a b)))
          clear cz fz HB21 HK21
          generalize w21.setCell ⟨w.heap.size, 1, none⟩ (.string (s.extract a b)) = w22 at *
          go_wp2
          go_roundw
          case rel => exact ⟨⟨_, rfl⟩, HB22, .inr (.inl ⟨rfl, by omega, rfl, HK22⟩)⟩
          case measure => simp [intOf]
      · have hs2 : Seg s b c m2 := by
          rcases HS2.out with ⟨q, _⟩ | ⟨_, q⟩
          · omega
          · exact q
        have HSB := Lib.hid hs2
        clear hs2 HS2 HS1
        have hsg := HSB.out
        clear HSB
        cases hsg with
        | off1 h =>
          have d1 : decide ((b : Int) < (s.size : Int)) = false := decide_eq_false (by omega)
          have hnl : ¬ b < s.size := by omega
          clear h
          skip
          go_wp2
          go_meet
          case rel => exact ⟨rfl, ⟨_, rfl⟩, ⟨_, rfl⟩, HBr, HKr⟩
        | off2 h h2 =>
          have d1 : decide ((b : Int) < (s.size : Int)) = true := decide_eq_true (by omega)
          have h0 : (b : Int) < (s.size : Int) := by omega
          have d2 : ((((s[b]'h).toNat : Nat) : Int) == 46) = false := by rw [← bt_nat s b h]; exact beq_eq_false_iff_ne.2 h2
          clear h2
          skip
          go_wp2
          go_meet
          case rel => exact ⟨rfl, ⟨_, rfl⟩, ⟨_, rfl⟩, HBr, HKr⟩
        | off3 h h2 h3 =>
          have d1 : decide ((b : Int) < (s.size : Int)) = true := decide_eq_true (by omega)
          have h0 : (b : Int) < (s.size : Int) := by omega
          have d2 : ((((s[b]'h).toNat : Nat) : Int) == 46) = true := by rw [← bt_nat s b h, h2]; rfl
          have HM := Lib.hid (fun W => mark_call h3 W)
          rw [show (((b + 1 : Nat)) : Int) = (b : Int) + 1 by omega] at HM
          clear h2 h3
          skip
          go_wp2_with fail
          refine (HM.out _).mono ?_
          rintro e20 w20 ⟨rfl, hb⟩
          have HB20 := Lib.hid (HBr.out.trans (hb.mono HBr.out.size))
          have HK20 := Lib.hid (blk_of hb HKr.out)
          clear hb HBr HKr
          go_wp2
          go_meet
          case rel => exact ⟨rfl, ⟨_, rfl⟩, ⟨_, rfl⟩, HB20, HK20⟩
        | on h h2 h3 h4 h5 =>
          have d1 : decide ((b : Int) < (s.size : Int)) = true := decide_eq_true (by omega)
          have h0 : (b : Int) < (s.size : Int) := by omega
          have d2 : ((((s[b]'h).toNat : Nat) : Int) == 46) = true := by rw [← bt_nat s b h, h2]; rfl
          have HM := Lib.hid (fun W => mark_call h5 W)
          rw [show (((b + 1 : Nat)) : Int) = (b : Int) + 1 by omega] at HM
          have d3 : decide ((b : Int) + 1 < (c : Int)) = true := decide_eq_true (by omega)
          have i1 : (0 : Int) ≤ (b : Int) := by omega
          have i2 : (b : Int) ≤ (c : Int) := by omega
          have i3 : (c : Int) ≤ (s.size : Int) := by omega
          have n1 : ((b : Int)).toNat = b := Int.toNat_natCast b
          have n2 : ((c : Int)).toNat = c := Int.toNat_natCast c
          clear h2 h5
          go_wp2_with fail
          refine (HM.out _).mono ?_
          rintro e20 w20 ⟨rfl, hb⟩
          have HB20 := Lib.hid (HBr.out.trans (hb.mono HBr.out.size))
          have HK20 := Lib.hid (blk_of hb HKr.out)
          clear hb HBr HKr
          go_wp2_with fail
          refine (HM.out _).mono ?_
          rintro e21 w21 ⟨rfl, hb⟩
          have HB21 := Lib.hid (HB20.out.trans (hb.mono HB20.out.size))
          have HK21 := Lib.hid (blk_of hb HK20.out)
          clear hb HB20 HK20
          have cz : w21.cell? ⟨w.heap.size, 2, none⟩ = some (.string ⟨#[]⟩) := by rw [blk_cell HK21.out 2]; rfl
          have fz := blk_frozen HK21.out 2
          go_upto_region 9 with fail
          have HB22 := Lib.hid (HB21.out.setCell (p := ⟨w.heap.size, 2, none⟩) (Nat.le_refl _) (.string (s.extract b c)))
          have HK22 := Lib.hid (show (w21.setCell ⟨w.heap.size, 2, none⟩ (.string (s.extract b c))).heap[w.heap.size]? = some (.cells #[.string m0, .string m1, .string (s.extract b c), .string ⟨#[]⟩] 71 (0, 0)) from blk_set HK21.out 2 (.string (s.extract b c)))
          clear cz fz HB21 HK21
          generalize w21.setCell ⟨w.heap.size, 2, none⟩ (.string (s.extract b c)) = w22 at *
          go_wp2
          go_roundw
          case rel => exact ⟨⟨_, rfl⟩, HB22, .inr (.inr ⟨rfl, rfl, HK22⟩)⟩
          case measure => simp [intOf]
      · go_wp2
        go_meet
        case rel => exact ⟨rfl, ⟨_, rfl⟩, ⟨_, rfl⟩, HBr, HKr⟩
  case rest =>
  obtain ⟨rfl, ⟨kv, rfl⟩, ⟨nv, rfl⟩, HB5, HK5⟩ := hcut
  clear HB4 HK4 HS1 HS2
  go_wp2_with fail
  refine (HP3.out _).mono ?_
  rintro e6 w6 ⟨rfl, hb⟩
  have HB6 := Lib.hid (HB5.out.trans (hb.mono HB5.out.size))
  have HK6 := Lib.hid (blk_of hb HK5.out)
  clear hb HB5 HK5
  by_cases hcd2 : c < d
  · have d1 : decide ((c : Int) < (d : Int)) = true := decide_eq_true (by omega)
    have e3 := HE3.out
    rw [if_pos hcd2] at e3
    subst e3
    have i1 : (0 : Int) ≤ (c : Int) := by omega
    have i2 : (c : Int) ≤ (d : Int) := by omega
    have i3 : (d : Int) ≤ (s.size : Int) := by omega
    have n1 : ((c : Int)).toNat = c := Int.toNat_natCast c
    have n2 : ((d : Int)).toNat = d := Int.toNat_natCast d
    have cz : w6.cell? ⟨w.heap.size, 3, none⟩ = some (.string ⟨#[]⟩) := by rw [blk_cell HK6.out 3]; rfl
    have fz := blk_frozen HK6.out 3
    go_upto_region 16 with fail
    have HB7 := Lib.hid (HB6.out.setCell (p := ⟨w.heap.size, 3, none⟩) (Nat.le_refl _) (.string (s.extract c d)))
    have HK7 := Lib.hid (show (w6.setCell ⟨w.heap.size, 3, none⟩ (.string (s.extract c d))).heap[w.heap.size]? = some (.cells #[.string m0, .string m1, .string m2, .string (s.extract c d)] 71 (0, 0)) from blk_set HK6.out 3 (.string (s.extract c d)))
    clear cz fz HB6 HK6
    generalize w6.setCell ⟨w.heap.size, 3, none⟩ (.string (s.extract c d)) = w7 at *
    generalize hq3 : s.extract c d = m3 at *
    clear d1 i1 i2 i3 n1 n2
    have y0 := blk_cell HK7.out 0
    have y1 := blk_cell HK7.out 1
    have y2 := blk_cell HK7.out 2
    have y3 := blk_cell HK7.out 3
    simp only [List.getElem?_toArray, List.getElem?_cons_zero, List.getElem?_cons_succ] at y0 y1 y2 y3
    have f0 := blk_frozen HK7.out 0
    have f1 := blk_frozen HK7.out 1
    have f2 := blk_frozen HK7.out 2
    have f3 := blk_frozen HK7.out 3
    go_region_with (go_at_call 44; refine (HP4.out _).mono ?_; rintro e8 w8 ⟨rfl, hb8⟩; have HK8 := Lib.hid (blk_of hb8 HK7.out); have z0 := blk_cell HK8.out 0; have z1 := blk_cell HK8.out 1; have z2 := blk_cell HK8.out 2; have z3 := blk_cell HK8.out 3; simp only [List.getElem?_toArray, List.getElem?_cons_zero, List.getElem?_cons_succ] at z0 z1 z2 z3; have g0 := blk_frozen HK8.out 0; have g1 := blk_frozen HK8.out 1; have g2 := blk_frozen HK8.out 2; have g3 := blk_frozen HK8.out 3)
    all_goals
      have HB9 := Lib.hid (((((HB7.out.drew.trans (hb8.mono HB7.out.size)).setCell (p := ⟨w.heap.size, 0, none⟩) (Nat.le_refl _) (.string m0)).setCell (p := ⟨w.heap.size, 1, none⟩) (Nat.le_refl _) (.string m1)).setCell (p := ⟨w.heap.size, 2, none⟩) (Nat.le_refl _) (.string m2)).setCell (p := ⟨w.heap.size, 3, none⟩) (Nat.le_refl _) (.string m3))
      have HK9 := Lib.hid (blk_four HK8.out m0 m1 m2 m3)
      clear HB7 HK7 HK8 hb8 y0 y1 y2 y3 f0 f1 f2 f3 z0 z1 z2 z3 g0 g1 g2 g3
      generalize (((w8.setCell ⟨w.heap.size, 0, none⟩ (.string m0)).setCell ⟨w.heap.size, 1, none⟩ (.string m1)).setCell ⟨w.heap.size, 2, none⟩ (.string m2)).setCell ⟨w.heap.size, 3, none⟩ (.string m3) = w9 at *
      go_wp2
      (try simp only [Exit.inBlock, Exit.then])
      refine bodyPost_ret (results_tc rfl _ _ _ _ _ _ _ rfl HK9.out Tryz.underlying71 rfl (by kernel_rfl)) rfl ?_
      (try rw [hq0])
      (try rw [hq3])
      exact ⟨rfl, HB9.out⟩
  · have d1 : decide ((c : Int) < (d : Int)) = false := decide_eq_false (by omega)
    have e3 := HE3.out
    rw [if_neg hcd2] at e3
    have hdc : d = c := by omega
    subst hdc e3
    go_upto_region 16 with fail
    have HB7 := HB6
    have HK7 := HK6
    clear HB6 HK6 d1
    generalize w6 = w7 at *
    have y0 := blk_cell HK7.out 0
    have y1 := blk_cell HK7.out 1
    have y2 := blk_cell HK7.out 2
    have y3 := blk_cell HK7.out 3
    simp only [List.getElem?_toArray, List.getElem?_cons_zero, List.getElem?_cons_succ] at y0 y1 y2 y3
    have f0 := blk_frozen HK7.out 0
    have f1 := blk_frozen HK7.out 1
    have f2 := blk_frozen HK7.out 2
    have f3 := blk_frozen HK7.out 3
    go_region_with (go_at_call 44; refine (HP4.out _).mono ?_; rintro e8 w8 ⟨rfl, hb8⟩; have HK8 := Lib.hid (blk_of hb8 HK7.out); have z0 := blk_cell HK8.out 0; have z1 := blk_cell HK8.out 1; have z2 := blk_cell HK8.out 2; have z3 := blk_cell HK8.out 3; simp only [List.getElem?_toArray, List.getElem?_cons_zero, List.getElem?_cons_succ] at z0 z1 z2 z3; have g0 := blk_frozen HK8.out 0; have g1 := blk_frozen HK8.out 1; have g2 := blk_frozen HK8.out 2; have g3 := blk_frozen HK8.out 3)
    all_goals
      have HB9 := Lib.hid (((((HB7.out.drew.trans (hb8.mono HB7.out.size)).setCell (p := ⟨w.heap.size, 0, none⟩) (Nat.le_refl _) (.string m0)).setCell (p := ⟨w.heap.size, 1, none⟩) (Nat.le_refl _) (.string m1)).setCell (p := ⟨w.heap.size, 2, none⟩) (Nat.le_refl _) (.string m2)).setCell (p := ⟨w.heap.size, 3, none⟩) (Nat.le_refl _) (.string ⟨#[]⟩))
      have HK9 := Lib.hid (blk_four HK8.out m0 m1 m2 ⟨#[]⟩)
      clear HB7 HK7 HK8 hb8 y0 y1 y2 y3 f0 f1 f2 f3 z0 z1 z2 z3 g0 g1 g2 g3
      generalize (((w8.setCell ⟨w.heap.size, 0, none⟩ (.string m0)).setCell ⟨w.heap.size, 1, none⟩ (.string m1)).setCell ⟨w.heap.size, 2, none⟩ (.string m2)).setCell ⟨w.heap.size, 3, none⟩ (.string ⟨#[]⟩) = w9 at *
      go_wp2
      (try simp only [Exit.inBlock, Exit.then])
      refine bodyPost_ret (results_tc rfl _ _ _ _ _ _ _ rfl HK9.out Tryz.underlying71 rfl (by kernel_rfl)) rfl ?_
      (try rw [hq0])
      (try rw [hq3])
      exact ⟨rfl, HB9.out⟩
end Go.Proofs.YtlhijjfbcgconaaGreatDoor.P


/- Constraints: the constraint at a place (zzConstraint). -/
set_option linter.unusedVariables false
set_option linter.unusedSimpArgs false
namespace Go.Proofs.YtlhijjfbcgconaaGreatDoor.P
open Go.RowKit Go.Proofs.YtlhijjfbcgconaaGreatDoorW.PrintWords Go.Proofs.YtlhijjfbcgconaaGreatDoorW.PrintLast Go.Proofs.YtlhijjfbcgconaaGreatDoorW.PrintMore

def opsA : Array Value := #[.string ⟨#[61]⟩, .string ⟨#[]⟩, .string ⟨#[33, 61]⟩, .string ⟨#[62]⟩, .string ⟨#[60]⟩, .string ⟨#[62, 61]⟩, .string ⟨#[61, 62]⟩, .string ⟨#[60, 61]⟩, .string ⟨#[61, 60]⟩, .string ⟨#[126]⟩, .string ⟨#[126, 62]⟩, .string ⟨#[94]⟩]
def opAt (j : Nat) : ByteArray := match j with
  | 0 => ⟨#[61]⟩
  | 1 => ⟨#[]⟩
  | 2 => ⟨#[33, 61]⟩
  | 3 => ⟨#[62]⟩
  | 4 => ⟨#[60]⟩
  | 5 => ⟨#[62, 61]⟩
  | 6 => ⟨#[61, 62]⟩
  | 7 => ⟨#[60, 61]⟩
  | 8 => ⟨#[61, 60]⟩
  | 9 => ⟨#[126]⟩
  | 10 => ⟨#[126, 62]⟩
  | _ => ⟨#[94]⟩
theorem opsA_at {j : Nat} (h : j < 12) : opsA[j]? = some (.string (opAt j)) := by
  match j with
  | 0 => rfl
  | 1 => rfl
  | 2 => rfl
  | 3 => rfl
  | 4 => rfl
  | 5 => rfl
  | 6 => rfl
  | 7 => rfl
  | 8 => rfl
  | 9 => rfl
  | 10 => rfl
  | 11 => rfl
  | n + 12 => omega
theorem opAt_size (j : Nat) : (opAt j).size ≤ 2 := by
  match j with
  | 0 => decide
  | 1 => decide
  | 2 => decide
  | 3 => decide
  | 4 => decide
  | 5 => decide
  | 6 => decide
  | 7 => decide
  | 8 => decide
  | 9 => decide
  | 10 => decide
  | 11 => decide
  | n + 12 => exact (by decide : (⟨#[94]⟩ : ByteArray).size ≤ 2)
/-- An operator that is not the one at a place. -/
inductive Fails (s : ByteArray) (i : Nat) (o : ByteArray) : Prop
  | short (h : s.size < i + o.size)
  | other (h : i + o.size ≤ s.size) (h2 : s.extract i (i + o.size) ≠ o)
  | none {a : Nat} (h : i + o.size ≤ s.size) (h2 : s.extract i (i + o.size) = o) (h3 : Ev (fun k => semver_zzSpace.f k s ((i + o.size : Nat) : Int)) (a : Int)) (ha : a ≤ s.size) (h4 : NoVer s a)
/-- The operator at a place, its version from a to e. -/
structure Holds (s : ByteArray) (i : Nat) (o : ByteArray) (a e : Nat) : Prop where
  h : i + o.size ≤ s.size
  h2 : s.extract i (i + o.size) = o
  h3 : Ev (fun k => semver_zzSpace.f k s ((i + o.size : Nat) : Int)) (a : Int)
  ha0 : i + o.size ≤ a
  ha : a ≤ s.size
  lt : a < e
  hv : ∃ m0 m1 m2 m3 i0 a1 b c d, Ver s a e m0 m1 m2 m3 i0 a1 b c d
set_option maxHeartbeats 3200000 in
set_option maxRecDepth 100000 in
theorem cons_call {s : ByteArray} {i K a e : Nat} (hs : s.size ≤ 1000) (hi : i ≤ s.size) (hK : K ≤ 12) (hf : ∀ j, j < K → Fails s i (opAt j)) (hh : K < 12 → Holds s i (opAt K) a e) (w : World) :
    Calls Tryz.prog 34 #[.string s, .int .i64 (i : Int)] w fun e' w' => e' = .returned (.tuple (if K < 12 then #[.int .i64 (e : Int), .int .i64 (a : Int), .string (opAt K)] else #[.int .i64 (-1), .int .i64 0, .string ⟨#[]⟩])) ∧ Below w.heap.size w w' := by
  have HF := Lib.hid hf
  have HH := Lib.hid hh
  clear hf hh
  generalize hR : (Value.tuple (if K < 12 then #[.int .i64 (e : Int), .int .i64 (a : Int), .string (opAt K)] else #[.int .i64 (-1), .int .i64 0, .string ⟨#[]⟩])) = R
  have HR := Lib.hid hR
  clear hR
  go_enter Tryz.func34, Tryz.ntmps34
  go_upto_region 2 with fail
  have HB1 := Lib.hid ((Below.refl w.heap.size w).alloc (Nat.le_refl _) (.cells opsA 9))
  have HK1 := Lib.hid (heap_alloc_new w (.cells opsA 9))
  generalize hw1 : w.alloc (.cells #[.string ⟨#[61]⟩, .string ⟨#[]⟩, .string ⟨#[33, 61]⟩, .string ⟨#[62]⟩, .string ⟨#[60]⟩, .string ⟨#[62, 61]⟩, .string ⟨#[61, 62]⟩, .string ⟨#[60, 61]⟩, .string ⟨#[61, 60]⟩, .string ⟨#[126]⟩, .string ⟨#[126, 62]⟩, .string ⟨#[94]⟩] 9) = w1
  rw [show w.alloc (.cells opsA 9) = w1 from hw1] at HB1 HK1
  clear hw1
  go_loopw [4, 5, 8, 11] (fun x4 x5 x8 x11 wr => ∃ j : Nat, j ≤ K ∧ x11 = .int .i64 (j : Int) ∧ (∃ z, x4 = z) ∧ (∃ z, x5 = z) ∧ (∃ z, x8 = z) ∧ Hid (Below w.heap.size w wr) ∧ Hid (wr.heap[w.heap.size]? = some (.cells opsA 9 (0, 0)))) (fun _ _ _ x11 _ => 12 - (intOf x11).toNat)
  case atStart => exact ⟨0, Nat.zero_le _, rfl, ⟨_, rfl⟩, ⟨_, rfl⟩, ⟨_, rfl⟩, HB1, HK1⟩
  case round =>
    obtain ⟨j, hj, rfl, ⟨z4, rfl⟩, ⟨z5, rfl⟩, ⟨z8, rfl⟩, HBr, HKr⟩ := hrel
    clear HB1 HK1
    by_cases hjK : j < K
    · have hfj := HF.out j hjK
      have hq := blk_cell HKr.out j
      have hj12 : j < 12 := by omega
      rw [opsA_at hj12] at hq
      have dj : decide ((j : Int) < 12) = true := decide_eq_true (by omega)
      generalize hoo : opAt j = oo at *
      cases hfj with
      | short h =>
        have d1 : decide ((s.size : Int) - (i : Int) ≥ (oo.size : Int)) = false := decide_eq_false (by omega)
        go_wp2
        go_roundw
        case rel => exact ⟨j + 1, by omega, by go_num, ⟨_, rfl⟩, ⟨_, rfl⟩, ⟨_, rfl⟩, HBr, HKr⟩
        case measure => simp [intOf]; omega
      | other h h2 =>
        have d1 : decide ((s.size : Int) - (i : Int) ≥ (oo.size : Int)) = true := decide_eq_true (by omega)
        have i1 : (0 : Int) ≤ (i : Int) := by omega
        have i2 : (i : Int) ≤ (i : Int) + (oo.size : Int) := by omega
        have i3 : (i : Int) + (oo.size : Int) ≤ (s.size : Int) := by omega
        have n1 : ((i : Int)).toNat = i := Int.toNat_natCast i
        have n2 : ((i : Int) + (oo.size : Int)).toNat = i + oo.size := by omega
        have HEQ : ((s.extract i (i + oo.size)).toList == oo.toList) = false := beq_eq_false_iff_ne.2 (fun hh => h2 (toList_inj hh))
        clear h2
        go_wp2
        go_roundw
        case rel => exact ⟨j + 1, by omega, by go_num, ⟨_, rfl⟩, ⟨_, rfl⟩, ⟨_, rfl⟩, HBr, HKr⟩
        case measure => simp [intOf]; omega
      | @none a' h h2 h3 ha h4 =>
        have d1 : decide ((s.size : Int) - (i : Int) ≥ (oo.size : Int)) = true := decide_eq_true (by omega)
        have i1 : (0 : Int) ≤ (i : Int) := by omega
        have i2 : (i : Int) ≤ (i : Int) + (oo.size : Int) := by omega
        have i3 : (i : Int) + (oo.size : Int) ≤ (s.size : Int) := by omega
        have n1 : ((i : Int)).toNat = i := Int.toNat_natCast i
        have n2 : ((i : Int) + (oo.size : Int)).toNat = i + oo.size := by omega
        have HEQ : ((s.extract i (i + oo.size)).toList == oo.toList) = true := by rw [h2]; exact beq_self_eq_true _
        clear h2
        have HS := Lib.hid (fun W => space_call h3 W)
        rw [show ((i + oo.size : Nat) : Int) = (i : Int) + (oo.size : Int) by omega] at HS
        have HV := Lib.hid (fun W => zzVersion_no hs h4 W)
        clear h3 h4
        go_wp2_with fail
        refine (HS.out _).mono ?_
        rintro e1 w2 ⟨rfl, hb⟩
        have HB2 := Lib.hid (HBr.out.trans (hb.mono HBr.out.size))
        have HK2 := Lib.hid (blk_below HKr.out hb)
        clear hb HBr HKr HS
        go_wp2_with fail
        refine (HV.out _).mono ?_
        rintro e2 w3 ⟨rfl, hb⟩
        have HB3 := Lib.hid (HB2.out.trans (hb.mono HB2.out.size))
        have HK3 := Lib.hid (blk_below HK2.out hb)
        clear hb HB2 HK2 HV
        go_wp2
        go_roundw
        case rel => exact ⟨j + 1, by omega, by go_num, ⟨_, rfl⟩, ⟨_, rfl⟩, ⟨_, rfl⟩, HB3, HK3⟩
        case measure => simp [intOf]; omega
    · obtain rfl : j = K := by omega
      by_cases hK2 : j < 12
      · obtain ⟨h, h2, h3, ha0, ha, lt, m0, m1, m2, m3, i0, a1, b, c, d, hv⟩ := HH.out hK2
        have hq := blk_cell HKr.out j
        have hj12 : j < 12 := by omega
        rw [opsA_at hj12] at hq
        have dj : decide ((j : Int) < 12) = true := decide_eq_true (by omega)
        generalize hoo : opAt j = oo at *
        have d1 : decide ((s.size : Int) - (i : Int) ≥ (oo.size : Int)) = true := decide_eq_true (by omega)
        have i1 : (0 : Int) ≤ (i : Int) := by omega
        have i2 : (i : Int) ≤ (i : Int) + (oo.size : Int) := by omega
        have i3 : (i : Int) + (oo.size : Int) ≤ (s.size : Int) := by omega
        have n1 : ((i : Int)).toNat = i := Int.toNat_natCast i
        have n2 : ((i : Int) + (oo.size : Int)).toNat = i + oo.size := by omega
        have HEQ : ((s.extract i (i + oo.size)).toList == oo.toList) = true := by rw [h2]; exact beq_self_eq_true _
        clear h2
        have HS := Lib.hid (fun W => space_call h3 W)
        rw [show ((i + oo.size : Nat) : Int) = (i : Int) + (oo.size : Int) by omega] at HS
        have HV := Lib.hid (fun W => zzVersion_yes hs hv W)
        clear h3 hv
        go_wp2_with fail
        refine (HS.out _).mono ?_
        rintro e1 w2 ⟨rfl, hb⟩
        have HB2 := Lib.hid (HBr.out.trans (hb.mono HBr.out.size))
        have HK2 := Lib.hid (blk_below HKr.out hb)
        clear hb HBr HKr HS
        go_wp2_with fail
        refine (HV.out _).mono ?_
        rintro e2 w3 ⟨rfl, hb⟩
        have HB3 := Lib.hid (HB2.out.trans (hb.mono HB2.out.size))
        have HK3 := Lib.hid (blk_below HK2.out hb)
        clear hb HB2 HK2 HV
        have d5 : decide ((e : Int) ≥ 0) = true := decide_eq_true (by omega)
        go_wp2
        go_ret3
        exact ⟨by rw [← HR.out, if_pos hK2]; rfl, HB3.out⟩
      · have dj : decide ((j : Int) < 12) = false := decide_eq_false (by omega)
        go_wp2
        go_ret3
        exact ⟨by rw [← HR.out, if_neg hK2]; rfl, HBr.out⟩
end Go.Proofs.YtlhijjfbcgconaaGreatDoor.P


/- Constraints: the constraints of a text (zzValid, zzFind). -/

set_option linter.unusedVariables false
set_option linter.unusedSimpArgs false
namespace Go.Proofs.YtlhijjfbcgconaaGreatDoor.P
open Go.RowKit Go.Proofs.YtlhijjfbcgconaaGreatDoorW.PrintWords Go.Proofs.YtlhijjfbcgconaaGreatDoorW.PrintLast Go.Proofs.YtlhijjfbcgconaaGreatDoorW.PrintMore

theorem infoStr : (Tryz.prog.info? 9).map (fun i => (i.zero, i.size, i.bytes)) = some (some (.string ⟨#[]⟩), 1, 16) := by kernel_rfl
/-- A constraint at a place: operator K, its version from a to e. -/
structure At (s : ByteArray) (i K a e : Nat) : Prop where
  hK : K < 12
  hf : ∀ j, j < K → Fails s i (opAt j)
  hh : Holds s i (opAt K) a e
theorem At.lo {s : ByteArray} {i K a e : Nat} (h : At s i K a e) : i < e ∧ e ≤ s.size ∧ i ≤ s.size := by
  obtain ⟨m0, m1, m2, m3, i0, a1, b, c, d, hv⟩ := h.hh.hv
  have h1 := hv.he
  have h2 := h.hh.ha0
  have h3 := h.hh.lt
  have h4 := h.hh.ha
  exact ⟨by omega, h1, by omega⟩
/-- No constraint at a place. -/
def NoAt (s : ByteArray) (i : Nat) : Prop := i ≤ s.size ∧ ∀ j, j < 12 → Fails s i (opAt j)
theorem at_call {s : ByteArray} {i K a e : Nat} (hs : s.size ≤ 1000) (h : At s i K a e) (w : World) :
    Calls Tryz.prog 34 #[.string s, .int .i64 (i : Int)] w fun e' w' => e' = .returned (.tuple #[.int .i64 (e : Int), .int .i64 (a : Int), .string (opAt K)]) ∧ Below w.heap.size w w' := by
  have := cons_call (K := K) (a := a) (e := e) hs h.lo.2.2 (Nat.le_of_lt h.hK) h.hf (fun _ => h.hh) w
  rwa [if_pos h.hK] at this
theorem noat_call {s : ByteArray} {i : Nat} (hs : s.size ≤ 1000) (h : NoAt s i) (w : World) :
    Calls Tryz.prog 34 #[.string s, .int .i64 (i : Int)] w fun e' w' => e' = .returned (.tuple #[.int .i64 (-1), .int .i64 0, .string ⟨#[]⟩]) ∧ Below w.heap.size w w' := by
  have := cons_call (K := 12) (a := 0) (e := 0) hs h.1 (Nat.le_refl _) h.2 (fun q => absurd q (Nat.lt_irrefl _)) w
  rwa [if_neg (Nat.lt_irrefl _)] at this
/-- A text of constraints, from a place on. -/
inductive Valid (s : ByteArray) : Nat → Prop
  | last {i K a e : Nat} (h : At s i K a e) (hb : Ev (fun k => semver_zzSpace.f k s (e : Int)) (s.size : Int)) : Valid s i
  | comma {i K a e b i' : Nat} (h : At s i K a e) (hb : Ev (fun k => semver_zzSpace.f k s (e : Int)) (b : Int)) (hl : b < s.size) (hc : bt s (b : Int) = 44) (hi : Ev (fun k => semver_zzSpace.f k s ((b + 1 : Nat) : Int)) (i' : Int)) (hlt : i < i') (hv : Valid s i') : Valid s i
theorem Valid.lo {s : ByteArray} {i : Nat} (h : Valid s i) : i < s.size := by
  cases h with
  | last h hb => have := h.lo; omega
  | comma h hb hl hc hi hlt hv => have := h.lo; omega
set_option maxHeartbeats 3200000 in
set_option maxRecDepth 100000 in
theorem valid_call {s : ByteArray} {i0 : Nat} (hs : s.size ≤ 1000) (h0 : Ev (fun k => semver_zzSpace.f k s 0) (i0 : Int)) (hv : Valid s i0) (w : World) :
    Calls Tryz.prog 24 #[.string s] w fun e' w' => e' = .returned (.bool true) ∧ Below w.heap.size w w' := by
  have HV := Lib.hid hv
  have HS := Lib.hid (fun W => space_call (i := 0) h0 W)
  have HB0 := Lib.hid (Below.refl w.heap.size w)
  clear hv h0
  go_enter Tryz.func24, Tryz.ntmps24
  go_wp2_with fail
  refine (HS.out _).mono ?_
  rintro e1 w2 ⟨rfl, hb1⟩
  have HB1 := Lib.hid (HB0.out.trans (hb1.mono HB0.out.size))
  clear hb1 HB0
  go_upto_region 2 with fail
  go_loopw [3] (fun x3 wr => ∃ i : Nat, x3 = .int .i64 (i : Int) ∧ Hid (Valid s i) ∧ Hid (Below w.heap.size w wr)) (fun x3 _ => s.size - (intOf x3).toNat)
  case atStart => exact ⟨i0, rfl, HV, HB1⟩
  case round =>
    clear HV HB1 HS
    obtain ⟨i, rfl, HV, HBr⟩ := hrel
    have hlo := HV.out.lo
    cases HV.out with
    | @last _ K a e h hb =>
      have hl := h.lo
      have HC := Lib.hid (fun W => at_call hs h W)
      have HS := Lib.hid (fun W => space_call hb W)
      clear h hb HV
      have d1 : decide ((e : Int) < 0) = false := decide_eq_false (by omega)
      go_wp2_with fail
      refine (HC.out _).mono ?_
      rintro e1 w2 ⟨rfl, hb3⟩
      have HB3 := Lib.hid (HBr.out.trans (hb3.mono HBr.out.size))
      clear hb3 HBr
      go_wp2_with fail
      refine (HS.out _).mono ?_
      rintro e1 w2 ⟨rfl, hb4⟩
      have HB4 := Lib.hid (HB3.out.trans (hb4.mono HB3.out.size))
      clear hb4 HB3
      go_wp2
      go_ret
      exact ⟨rfl, HB4.out⟩
    | @comma _ K a e b i' h hb hlb hc hi hlt hv =>
      have hl := h.lo
      have HV2 := Lib.hid hv
      have hlo2 := hv.lo
      have HC := Lib.hid (fun W => at_call hs h W)
      have HS := Lib.hid (fun W => space_call hb W)
      have HS2 := Lib.hid (fun W => space_call hi W)
      rw [show ((b + 1 : Nat) : Int) = (b : Int) + 1 by omega] at HS2
      have d1 : decide ((e : Int) < 0) = false := decide_eq_false (by omega)
      have d2 : ((b : Int) == (s.size : Int)) = false := beq_eq_false_iff_ne.2 (by omega)
      have d3 : ((((s[b]'hlb).toNat : Nat) : Int) == 44) = true := by rw [← bt_nat s b hlb, hc]; rfl
      clear h hb HV hc hi hv
      go_wp2_with fail
      refine (HC.out _).mono ?_
      rintro e1 w2 ⟨rfl, hb3⟩
      have HB3 := Lib.hid (HBr.out.trans (hb3.mono HBr.out.size))
      clear hb3 HBr
      go_wp2_with fail
      refine (HS.out _).mono ?_
      rintro e1 w2 ⟨rfl, hb4⟩
      have HB4 := Lib.hid (HB3.out.trans (hb4.mono HB3.out.size))
      clear hb4 HB3
      go_wp2_with fail
      refine (HS2.out _).mono ?_
      rintro e1 w2 ⟨rfl, hb5⟩
      have HB5 := Lib.hid (HB4.out.trans (hb5.mono HB4.out.size))
      clear hb5 HB4
      go_wp2
      go_roundw
      case rel => exact ⟨i', rfl, HV2, HB5⟩
      case measure => simp [intOf]; omega
/-- The constraints found, from a place on. -/
inductive Finds (s : ByteArray) : Nat → List ByteArray → Prop
  | stop : Finds s s.size []
  | skip {i : Nat} {l : List ByteArray} (hi : i < s.size) (h : NoAt s i) (r : Finds s (i + 1) l) : Finds s i l
  | take {i K a e : Nat} {l : List ByteArray} (hi : i < s.size) (h : At s i K a e) (r : Finds s e l) : Finds s i (s.extract i e :: l)
theorem Finds.lo {s : ByteArray} {i : Nat} {l : List ByteArray} (h : Finds s i l) : i ≤ s.size := by
  cases h with
  | stop => exact Nat.le_refl _
  | skip hi _ _ => omega
  | take hi _ _ => omega
set_option maxHeartbeats 3200000 in
set_option maxRecDepth 100000 in
theorem find_call {s : ByteArray} {L : List ByteArray} (hs : s.size ≤ 1000) (hl : L.length ≤ 1000) (hF : Finds s 0 L) (w : World) :
    Calls Tryz.prog 26 #[.string s] w fun e' w' => ∃ v, e' = .returned v ∧ Kd.R Kd.string 9 w' w.heap.size (fun _ => True) v L ∧ Below w.heap.size w w' := by
  have HF := Lib.hid hF
  have HLL := Lib.hid hl
  have HB0 := Lib.hid (Below.refl w.heap.size w)
  clear hF hl
  go_enter Tryz.func26, Tryz.ntmps26
  go_upto_region 3 with fail
  go_loopw [3, 4] (fun x3 x4 wr => ∃ (i : Nat) (v : Value) (xs l : List ByteArray), x4 = .int .i64 (i : Int) ∧ v = x3 ∧ Hid (xs ++ l = L) ∧ Hid (Finds s i l) ∧ Hid (Kd.R Kd.string 9 wr w.heap.size (fun _ => True) v xs) ∧ Hid (Below w.heap.size w wr)) (fun _ x4 _ => s.size - (intOf x4).toNat)
  case atStart => exact ⟨0, _, [], L, rfl, rfl, Lib.hid rfl, HF, Lib.hid (Kd.R_nil _ _ _ _ _), HB0⟩
  case round =>
    clear HF HB0
    obtain ⟨i, v, xs, l, rfl, rfl, HX, HF, HG, HBr⟩ := hrel
    have hlo := HF.out.lo
    cases HF.out with
    | stop =>
      have d0 : decide ((s.size : Int) < (s.size : Int)) = false := decide_eq_false (by omega)
      have HG2 := Lib.hid (show Kd.R Kd.string 9 wr w.heap.size (fun _ => True) v L by rw [← HX.out, List.append_nil]; exact HG.out)
      clear HG HX HF
      go_wp2
      go_ret
      exact ⟨v, rfl, HG2.out, HBr.out⟩
    | skip hi h r =>
      have d0 : decide ((i : Int) < (s.size : Int)) = true := decide_eq_true (by omega)
      have HC := Lib.hid (fun W => noat_call hs h W)
      have HF2 := Lib.hid r
      clear h r HF
      go_wp2_with fail
      refine (HC.out _).mono ?_
      rintro e1 w2 ⟨rfl, hb⟩
      have HB3 := Lib.hid (HBr.out.trans (hb.mono HBr.out.size))
      have HG2 := Lib.hid (Kd.R_below HG.out hb)
      clear hb HBr HG HC
      go_wp2
      go_roundw
      case rel => exact ⟨i + 1, v, xs, l, by go_num, rfl, HX, HF2, HG2, HB3⟩
      case measure => simp [intOf]; omega
    | @take _ K a e l' hi h r =>
      have d0 : decide ((i : Int) < (s.size : Int)) = true := decide_eq_true (by omega)
      have hel := h.lo
      have HC := Lib.hid (fun W => at_call hs h W)
      have HF2 := Lib.hid r
      have d1 : decide ((e : Int) ≥ 0) = true := decide_eq_true (by omega)
      have i1 : (0 : Int) ≤ (i : Int) := by omega
      have i2 : (i : Int) ≤ (e : Int) := by omega
      have i3 : (e : Int) ≤ (s.size : Int) := by omega
      have n1 : ((i : Int)).toNat = i := Int.toNat_natCast i
      have n2 : ((e : Int)).toNat = e := Int.toNat_natCast e
      clear h r HF
      go_wp2_with fail
      refine (HC.out _).mono ?_
      rintro e1 w2 ⟨rfl, hb⟩
      have HB3 := Lib.hid (HBr.out.trans (hb.mono HBr.out.size))
      have HG2 := Lib.hid (Kd.R_below HG.out hb)
      have HS2 := Lib.hid (Nat.le_trans HBr.out.size hb.size)
      have HLT := Lib.hid (show xs.length ≤ 1000 by have := HLL.out; rw [← HX.out, List.length_append] at this; omega)
      obtain ⟨tx, htx⟩ : ∃ tx, tx = s.extract i e := ⟨_, rfl⟩
      have HXT := Lib.hid (show (xs ++ [tx]) ++ l' = L by rw [← HX.out, htx]; simp)
      have HM := Lib.hid (show Kd.string.M w2 w.heap.size (fun _ => False) tx [.string tx] from rfl)
      rw [htx] at HM HXT
      clear hb HBr HG HC HX htx
      go_wp2_with (at_builtin; refine Kd.R_append Kd.string (w0 := w) w.heap.size rfl _ _ 28 9 (.string ⟨#[]⟩) 16 rfl Tryz.underlying28 infoStr rfl (Nat.succ_pos 0) (by decide) v xs (s.extract i e) [.string (s.extract i e)] (fun _ => True) (fun _ => False) rfl rfl HM.out (fun _ h => h.elim) (fun _ _ => trivial) HG2.out HB3.out HS2.out (by have := HLT.out; omega) ?_)
      intro v1 w3 h1 hb3 hgr hat
      have HG3 := Lib.hid h1
      have HB5 := Lib.hid hb3
      have HS3 := Lib.hid (Nat.le_trans HS2.out hgr.size)
      clear h1 hb3 hgr hat HG2 HB3 HS2 HLT HM
      go_wp2
      go_roundw
      case rel => exact ⟨e, v1, xs ++ [s.extract i e], l', rfl, rfl, HXT, HF2, HG3, HB5⟩
      case measure => simp [intOf]; omega
end Go.Proofs.YtlhijjfbcgconaaGreatDoor.P

