/- Releases: the law FnSemverRelease. -/
import Derived.Test.YtlhijjfbcgconaaGreatDoorZRg42
import Derived.Test.YtlhijjfbcgconaaGreatDoorZSo6
import Derived.Test.YtlhijjfbcgconaaGreatDoorZQA4
set_option linter.unusedVariables false
set_option linter.unusedSimpArgs false
namespace Go.Proofs.YtlhijjfbcgconaaGreatDoor.P
open Go.RowKit Go.Proofs.YtlhijjfbcgconaaGreatDoorW.PrintWords Go.Proofs.YtlhijjfbcgconaaGreatDoorW.PrintLast Go.Proofs.YtlhijjfbcgconaaGreatDoorW.PrintMore

/-- The five tests. -/
def tests : List ByteArray := [⟨#[61]⟩, ⟨#[62]⟩, ⟨#[60]⟩, ⟨#[62, 61]⟩, ⟨#[60, 61]⟩]
theorem among_from (op : ByteArray) : ∀ n i : Nat, i + n = 5 → ∃ r : Bool, Ev (fun k => spec_Among.l0 k tests op (i : Int)) r ∧ (r = true → ∃ j : Nat, j < 5 ∧ (rdOf ByteArray.empty tests (j : Int)).toList = op.toList)
  | 0, i, h => ⟨false, Ev.step (fun k => by rw [spec_Among.l0]) (Ev.neg (by show ¬ (i : Int) < 5; omega) (Ev.ok _)), fun h => by cases h⟩
  | n + 1, i, h => by
    by_cases hc : (rdOf ByteArray.empty tests (i : Int)).toList = op.toList
    · exact ⟨true, Ev.step (fun k => by rw [spec_Among.l0]) (Ev.pos (by show (i : Int) < 5; omega) (Ev.pos (by omega) (Ev.pos hc (Ev.ok _)))), fun _ => ⟨i, by omega, hc⟩⟩
    · obtain ⟨r, hr, hi⟩ := among_from op n (i + 1) (by omega)
      refine ⟨r, Ev.step (fun k => by rw [spec_Among.l0]) (Ev.pos (by show (i : Int) < 5; omega) (Ev.pos (by omega) (Ev.neg hc ?_))), hi⟩
      rw [show wrap64 ((i : Int) + 1) = ((i + 1 : Nat) : Int) by rw [w64_in (by omega) (by omega)]; omega]
      exact hr
theorem among_ex (op : ByteArray) : ∃ r : Bool, (∀ W A, Kd.string.C W A 5 tests → Calls Tryz.prog 5 #[.slice A 5 5, .string op] W fun e w' => e = .returned (.bool r) ∧ Below W.heap.size W w') ∧ (r = true → ∃ K, (K = 0 ∨ K = 3 ∨ K = 4 ∨ K = 5 ∨ K = 7) ∧ op = opAt K) := by
  obtain ⟨r, ⟨k, hk⟩, hr⟩ := among_from op 5 0 rfl
  refine ⟨r, fun W A hC => ?_, fun h => ?_⟩
  · have h := spec_Among.calls k A 5 tests op r W hC (Nat.le_refl _) (hk k (Nat.le_refl _))
    refine h.mono ?_
    rintro e w' ⟨rfl, hd⟩
    obtain ⟨m, rfl⟩ := hd.out
    exact ⟨rfl, pw_below_drewN (Below.refl _ _) m⟩
  · obtain ⟨j, hj, he⟩ := hr h
    have hj' : j = 0 ∨ j = 1 ∨ j = 2 ∨ j = 3 ∨ j = 4 := by omega
    rcases hj' with rfl | rfl | rfl | rfl | rfl
    · exact ⟨0, by omega, (toList_inj he).symm⟩
    · exact ⟨3, by omega, (toList_inj he).symm⟩
    · exact ⟨4, by omega, (toList_inj he).symm⟩
    · exact ⟨5, by omega, (toList_inj he).symm⟩
    · exact ⟨7, by omega, (toList_inj he).symm⟩
theorem fnSemverRelease (op t v : ByteArray) (w : World) (y0 : op.size ≤ 140737488351232) (y1 : t.size ≤ 140737488351232) (y2 : v.size ≤ 140737488351232) (hE : TabsE w) :
    Calls Tryz.prog 3 #[.string op, .string t, .string v] w fun e w' => e = .returned (.bool true) ∧ Below w.heap.size w w' := by
  obtain ⟨n1, n2, n3, p1, q1, ok1, hv1, hf1⟩ := v9 v
  obtain ⟨m1, m2, m3, p2, q2, ok2, hv2, hf2⟩ := v9 t
  obtain ⟨am, ham, hop⟩ := among_ex op
  refine rel_walk op t v w hv1 hv2 ham (fun h1 h2 hp1 hq1 hq2 ha => ?_)
  obtain ⟨a, b, c, d, f1, l, hl⟩ := hf1 h1
  obtain ⟨a', b', c', d', f2, m, hm⟩ := hf2 h2
  have hq : q2 = ⟨#[]⟩ := ba_ext (List.eq_nil_of_length_eq_zero (by rw [size_list]; exact hq2))
  subst hq
  have he := form_end f2
  subst he
  obtain ⟨K, hK, rfl⟩ := hop ha
  have hpre : 0 < p1.size → 0 < p2.size → ∀ W, TabsE W → Calls Tryz.prog 76 #[.string p1, .string p2] W fun e w' => e = .returned (.int .i64 (cmpL l m)) ∧ Below W.heap.size W w' := fun g1 g2 W hW => by
    obtain ⟨⟨k, hk⟩, _, x1, z1⟩ := hl g1
    obtain ⟨⟨k', hk'⟩, _, x2, z2⟩ := hm g2
    exact prerelease_call (max k k') p1 p2 l m (hk _ (by omega)) (hk' _ (by omega)) x1 x2 z1 z2 W hW
  have tz := f2.size
  have oz := opAt_size K
  exact ⟨K, hK, rfl, by rw [ByteArray.size_append]; omega, cmpV n1 n2 n3 m1 m2 m3 p1 p2 (cmpL l m), cmpV_range _ _ _ _ _ _ _ _ _ _, fun W => whole_call n1 n2 n3 m1 m2 m3 p1 q1 p2 _ l m hl hm W, fun W hW => compare_rel K hK (by rw [append_list]) f2 f1 (cmpL l m) hp1 hpre W (hE.below hW)⟩
end Go.Proofs.YtlhijjfbcgconaaGreatDoor.P

