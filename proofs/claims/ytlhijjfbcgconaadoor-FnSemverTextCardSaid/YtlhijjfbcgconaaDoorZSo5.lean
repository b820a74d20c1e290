/- FnSemverOrder holds. -/
import Derived.Test.YtlhijjfbcgconaaDoorZSoM
set_option linter.unusedVariables false
set_option linter.unusedSimpArgs false
namespace Go.Proofs.YtlhijjfbcgconaaDoor.P
open Go.RowKit Go.Proofs.YtlhijjfbcgconaaDoorW.PrintWords Go.Proofs.YtlhijjfbcgconaaDoorW.PrintLast Go.Proofs.YtlhijjfbcgconaaDoorW.PrintMore

/-- The identifiers of what stands behind a hyphen, as both sides cut them. -/
def IdL (p : ByteArray) (l : List ByteArray) : Prop := 0 < p.size → Ev (fun k => semver_zzSplit.f k p ⟨#[46]⟩) l ∧ Ev (fun k => spec_identifiers.f k p) l ∧ (∀ t ∈ l, Id15 t) ∧ l.length ≤ 100
theorem short_l (l : List ByteArray) (hl : l.length ≤ 1000) (hz : ∀ t ∈ l, t.size ≤ 100) : ∀ n i : Nat, i + n = l.length → ∃ b : Bool, Ev (fun k => spec_Short.l0 k l (i : Int)) b ∧ (b = true → ∀ t ∈ l.drop i, Dg t → t.size ≤ 15)
  | 0, i, hi => ⟨true, Ev.step (fun k => by rw [spec_Short.l0]) (Ev.neg (by omega) (Ev.ok _)), fun _ t ht => by rw [List.drop_eq_nil_of_le (by omega)] at ht; cases ht⟩
  | n + 1, i, hi => by
    obtain ⟨b, hb, hbi⟩ := short_l l hl hz n (i + 1) (by omega)
    have hil : i < l.length := by omega
    have hr : rdOf ByteArray.empty l (i : Int) = l[i] := by simp [rdOf, hil]
    have e1 : wrap64 ((i : Int) + 1) = ((i + 1 : Nat) : Int) := by rw [w64_in (by omega) (by omega)]; omega
    have hzi := hz l[i] (List.getElem_mem _)
    obtain ⟨x, hx, hxi⟩ := onlyD l[i] (by omega)
    have hgo : ∀ q : Bool, Ev (fun k => (if x = true then (if ((l[i]).size : Int) > 15 then (some false) else (spec_Short.l0 k l ((i + 1 : Nat) : Int))) else (spec_Short.l0 k l ((i + 1 : Nat) : Int)))) q → Ev (fun k => spec_Short.l0 k l (i : Int)) q := fun q hq => by
      refine Ev.step (fun k => by rw [spec_Short.l0]) (Ev.pos (by omega) (Ev.pos (by omega) ?_))
      rw [hr, e1]
      exact Ev.bind hx hq
    cases x with
    | true =>
      by_cases c : ((l[i]).size : Int) > 15
      · exact ⟨false, hgo _ (Ev.pos rfl (Ev.pos c (Ev.ok _))), fun h => by cases h⟩
      · refine ⟨b, hgo _ (Ev.pos rfl (Ev.neg c hb)), fun h t ht hd => ?_⟩
        rw [List.drop_eq_getElem_cons hil] at ht
        rcases List.mem_cons.1 ht with ht | ht
        · rw [ht]; omega
        · exact hbi h t ht hd
    | false =>
      refine ⟨b, hgo _ (Ev.neg (by decide) hb), fun h t ht hd => ?_⟩
      rw [List.drop_eq_getElem_cons hil] at ht
      rcases List.mem_cons.1 ht with ht | ht
      · exfalso
        rw [ht] at hd
        have := hxi.2 hd
        cases this
      · exact hbi h t ht hd
theorem ids_nil : Ev (fun k => spec_identifiers.f k ⟨#[]⟩) [⟨#[]⟩] := by
  unfold spec_identifiers.f
  have hz : ((⟨#[]⟩ : ByteArray).size : Int) = 0 := rfl
  refine Ev.step (fun k => by rw [spec_identifiers.l0]) ?_
  rw [hz]
  refine Ev.pos (by decide) (Ev.pos rfl (Ev.pos (by decide) (Ev.pos (by decide) (Ev.pos (by decide) ?_))))
  rw [show wrap64 (0 + 1) = 1 from w64_in (by decide) (by decide)]
  refine Ev.step (fun k => by rw [spec_identifiers.l0]) ?_
  rw [hz]
  exact Ev.neg (by decide) (Ev.ok _)
theorem short_ev {s : ByteArray} {a b c m : Nat} {n1 n2 n3 : Int} {pre mt : ByteArray} (h : Form s a b c m n1 n2 n3 pre mt) : ∃ (q : Bool) (l : List ByteArray), Ev (fun k => spec_Short.f k n1 n2 n3 pre mt) q ∧ (q = true → IdL pre l) := by
  rcases h.pfpre with h0 | ⟨h1, h2, h3⟩
  · obtain ⟨q, hq, _⟩ := short_l [⟨#[]⟩] (by decide) (fun t ht => by rw [List.mem_singleton.1 ht]; decide) 1 0 rfl
    refine ⟨q, [], ?_, fun _ hp => ?_⟩
    · unfold spec_Short.f
      rw [h0]
      exact Ev.bind ids_nil hq
    · rw [h0] at hp
      exact absurd hp (by decide)
  · obtain ⟨l, e1, e2, g, hl⟩ := split2_ev pre h2 true h3
    obtain ⟨q, hq, hqi⟩ := short_l l (by omega) (fun t ht => (g t ht).2.1) l.length 0 (by omega)
    refine ⟨q, l, ?_, fun hq1 _ => ⟨e1, e2, fun t ht => ⟨g t ht, hqi hq1 t (by rw [List.drop_zero]; exact ht)⟩, hl⟩⟩
    unfold spec_Short.f
    exact Ev.bind e2 hq
theorem Ev.at_ {α : Type} {f : Nat → Option α} {r : α} (h : Ev f r) : ∃ K, ∀ k, K ≤ k → f k = some r := h
end Go.Proofs.YtlhijjfbcgconaaDoor.P

