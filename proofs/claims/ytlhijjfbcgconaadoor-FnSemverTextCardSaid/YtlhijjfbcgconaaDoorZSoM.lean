/- Texts joined: So1, So3, So4. -/
import Derived.Test.YtlhijjfbcgconaaDoorZSo2
import Derived.Test.YtlhijjfbcgconaaDoorZPx17

/- Versions: identifiers and their order, plain. -/
set_option linter.unusedVariables false
set_option linter.unusedSimpArgs false
namespace Go.Proofs.YtlhijjfbcgconaaDoor.P
open Go.RowKit Go.Proofs.YtlhijjfbcgconaaDoorW.PrintWords Go.Proofs.YtlhijjfbcgconaaDoorW.PrintLast Go.Proofs.YtlhijjfbcgconaaDoorW.PrintMore

theorem iface_of_reads {P : Program} {W : World} {n nm : String} {d : DataW Unit} {g : Nat} {ti : TypeId} {ms : Array (String × TypeId)}
    (hg : P.globalNamed n = some g) (ht : (P.globals[g]?).map (·.type) = some ti) (hi : P.underlying ti = some (.interface ms)) (h : Lib.VarReads P W n (.iface nm d)) :
    ∃ tp p, W.var? P n = some #[.iface tp p] := by
  obtain ⟨g0, t0, cs, fuel, p, hg0, ht0, hv, hd⟩ := h
  obtain rfl := Option.some.inj (hg.symm.trans hg0)
  obtain rfl := Option.some.inj (ht.symm.trans ht0)
  obtain ⟨l⟩ := cs
  cases fuel with
  | zero => simp [DataW.trod] at hd
  | succ k =>
    unfold DataW.trod at hd
    rw [hi] at hd
    simp only at hd
    split at hd
    all_goals first
      | (cases hd; done)
      | exact ⟨_, _, hv⟩
      | (rename_i heq; cases heq; done)
      | (rename_i heq _; cases heq; done)
theorem var_below {P : Program} {w w' : World} {n : String} {cs : Array Value} (h : w.var? P n = some cs) (hb : Below w.heap.size w w') : w'.var? P n = some cs := by
  unfold World.var? at h ⊢
  obtain ⟨g, hg, hc⟩ := Option.bind_eq_some_iff.1 h
  rw [hg, Option.bind_some]
  cases ho : w.heap[g]? with
  | none => rw [ho] at hc; cases hc
  | some ob =>
    have hlt := (Array.getElem?_eq_some_iff.1 ho).1
    rw [hb.block g hlt]
    exact hc
/-- The two errors of package strconv hold something. -/
def TabsE (w : World) : Prop := (∃ tp p, w.var? Tryd.prog "strconv.ErrSyntax" = some #[.iface tp p]) ∧ ∃ tp p, w.var? Tryd.prog "strconv.ErrRange" = some #[.iface tp p]
theorem TabsE.below {w w' : World} (h : TabsE w) (hb : Below w.heap.size w w') : TabsE w' := by
  obtain ⟨⟨a, b, h1⟩, c, d, h2⟩ := h
  exact ⟨⟨a, b, var_below h1 hb⟩, c, d, var_below h2 hb⟩

/-! ### both ways to cut at the points -/
theorem ids_scan (p : ByteArray) (hp : p.size ≤ 1000) (acc : List ByteArray) (f : Nat) (r : List ByteArray) (z : Nat) (hz : z ≤ p.size) (h : Ev (fun k => spec_identifiers.l0 k p acc (f : Int) (z : Int)) r) : ∀ n i : Nat, i + n = z → (∀ j, i ≤ j → j < z → bt p (j : Int) ≠ 46) → Ev (fun k => spec_identifiers.l0 k p acc (f : Int) (i : Int)) r
  | 0, i, hi, _ => by
    obtain rfl : i = z := by omega
    exact h
  | n + 1, i, hi, hno => by
    have ih := ids_scan p hp acc f r z hz h n (i + 1) (by omega) (fun j h1 h2 => hno j (by omega) h2)
    refine Ev.step (fun k => by rw [spec_identifiers.l0]) (Ev.pos (by omega) (Ev.neg (by omega) (Ev.pos (by omega) (Ev.pos (by omega) (Ev.neg (hno i (Nat.le_refl _) (by omega)) ?_)))))
    rw [show wrap64 ((i : Int) + 1) = ((i + 1 : Nat) : Int) by rw [w64_in (by omega) (by omega)]; omega]
    exact ih
theorem notdot {x : Int} (h : isP x) : x ≠ 46 := fun q => dot_notP (q ▸ h)
theorem split2_l (p : ByteArray) (hp : p.size ≤ 100) (strict : Bool) : ∀ {x : Nat}, PF p strict p.size x →
    ∃ l : List ByteArray, (∀ acc : List ByteArray, acc.length + (p.size - x) ≤ 1000 → Ev (fun k => semver_zzSplit.l0 k (p.extract x p.size) ⟨#[46]⟩ acc) (acc ++ l) ∧ Ev (fun k => spec_identifiers.l0 k p acc (x : Int) (x : Int)) (acc ++ l)) ∧ (∀ t ∈ l, Good strict t) ∧ l.length + x ≤ p.size ∧ 0 < l.length := by
  intro x h
  have h1 : ((⟨#[46]⟩ : ByteArray).size : Int) = 1 := rfl
  have w1 : ∀ i : Nat, i ≤ 1000 → wrap64 ((i : Int) + 1) = ((i + 1 : Nat) : Int) := fun i hi => by rw [w64_in (by omega) (by omega)]; omega
  induction h with
  | @last x h hP hs =>
    have hz : (p.extract x p.size).size = p.size - x := ext_size _ _ _ (Nat.le_refl _)
    have hi := index_dot (p.extract x p.size) (by omega) (p.extract x p.size).size (Nat.le_refl _) (.inl rfl) (p.extract x p.size).size 0 (by omega) (fun j _ hj => by
      rw [bt_ext p x p.size j (by omega)]
      exact notdot (hP (x + j) (by omega) (by omega)))
    rw [if_pos rfl] at hi
    refine ⟨[p.extract x p.size], fun acc hacc => ⟨?_, ?_⟩, fun t ht => ?_, by simp; omega, by simp⟩
    · refine Ev.step (fun k => by rw [semver_zzSplit.l0]) ?_
      refine Ev.bind (by unfold semver_zzIndex.f; exact hi) ?_
      exact Ev.pos (by decide) (Ev.pos (by omega) (Ev.ok _))
    · refine ids_scan p (by omega) acc x _ p.size (Nat.le_refl _) ?_ (p.size - x) x (by omega) (fun j h2 h3 => notdot (hP j h2 h3))
      refine Ev.step (fun k => by rw [spec_identifiers.l0]) (Ev.pos (by omega) (Ev.pos rfl (Ev.pos (by omega) (Ev.pos (by omega) (Ev.pos (by omega) ?_)))))
      rw [w1 p.size (by omega), Int.toNat_natCast, Int.toNat_natCast]
      exact Ev.step (fun k => by rw [spec_identifiers.l0]) (Ev.neg (by omega) (Ev.ok _))
    · rw [List.mem_singleton.1 ht]
      exact good_cut hp (Nat.le_refl _) h hP hs
  | @more x z h hz2 hP hs hd r ih =>
    have hz : (p.extract x p.size).size = p.size - x := ext_size _ _ _ (Nat.le_refl _)
    obtain ⟨l, hl1, hl2, hl3, hl4⟩ := ih
    have hi := index_dot (p.extract x p.size) (by omega) (z - x) (by omega) (.inr (by rw [bt_ext p x p.size (z - x) (by omega), show x + (z - x) = z by omega]; exact hd)) (z - x) 0 (by omega) (fun j _ hj => by
      rw [bt_ext p x p.size j (by omega)]
      exact notdot (hP (x + j) (by omega) (by omega)))
    rw [if_neg (by omega)] at hi
    refine ⟨p.extract x z :: l, fun acc hacc => ?_, fun t ht => ?_, by rw [List.length_cons]; omega, by simp⟩
    · obtain ⟨g1, g2⟩ := hl1 (acc ++ [p.extract x z]) (by rw [List.length_append, List.length_singleton]; omega)
      rw [show acc ++ p.extract x z :: l = (acc ++ [p.extract x z]) ++ l by rw [List.append_assoc]; rfl]
      refine ⟨?_, ?_⟩
      · refine Ev.step (fun k => by rw [semver_zzSplit.l0]) ?_
        refine Ev.bind (by unfold semver_zzIndex.f; exact hi) ?_
        rw [h1, w64_in (by omega) (by omega), show (((z - x : Nat) : Int) + 1).toNat = z - x + 1 by omega, Int.toNat_natCast]
        refine Ev.neg (by omega) (Ev.pos (by omega) (Ev.pos (by omega) (Ev.pos (by omega) (Ev.pos (by omega) (Ev.pos (by omega) ?_)))))
        rw [hz, ext_ext p x p.size _ _ (by omega), ext_ext p x p.size _ _ (by omega), show x + (z - x + 1) = z + 1 by omega, show x + (p.size - x) = p.size by omega, show x + (z - x) = z by omega, Nat.add_zero]
        exact g1
      · refine ids_scan p (by omega) acc x _ z (by omega) ?_ (z - x) x (by omega) (fun j h2 h3 => notdot (hP j h2 h3))
        refine Ev.step (fun k => by rw [spec_identifiers.l0]) (Ev.pos (by omega) (Ev.neg (by omega) (Ev.pos (by omega) (Ev.pos (by omega) (Ev.pos hd (Ev.pos (by omega) (Ev.pos (by omega) (Ev.pos (by omega) ?_))))))))
        rw [w1 z (by omega), Int.toNat_natCast, Int.toNat_natCast]
        exact g2
    · rcases List.mem_cons.1 ht with ht | ht
      · rw [ht]
        exact good_cut hp (by omega) h hP hs
      · exact hl2 t ht
theorem split2_ev (p : ByteArray) (hp : p.size ≤ 100) (strict : Bool) (h : PF p strict p.size 0) : ∃ l : List ByteArray, Ev (fun k => semver_zzSplit.f k p ⟨#[46]⟩) l ∧ Ev (fun k => spec_identifiers.f k p) l ∧ (∀ t ∈ l, Good strict t) ∧ l.length ≤ 100 := by
  obtain ⟨l, h1, h2, h3, _⟩ := split2_l p hp strict h
  obtain ⟨g1, g2⟩ := h1 [] (by simp; omega)
  rw [ext_all] at g1
  exact ⟨l, by unfold semver_zzSplit.f; exact g1, by unfold spec_identifiers.f; exact g2, h2, by omega⟩

/-! ### the order of identifiers -/
def Dg (t : ByteArray) : Prop := ∀ j : Nat, j < t.size → isD (bt t (j : Int))
/-! ### numbers of identifiers -/
def lv (acc : Nat) : List UInt8 → Nat
  | [] => acc
  | c :: r => lv (acc * 10 + (c.toNat - 48)) r
def DgL (l : List UInt8) : Prop := ∀ c ∈ l, 48 ≤ c.toNat ∧ c.toNat ≤ 57
theorem dgL_iff (t : ByteArray) : Dg t ↔ DgL t.data.toList := by
  constructor
  · intro h c hc
    obtain ⟨j, hj, rfl⟩ := List.getElem_of_mem hc
    have hj2 : j < t.size := by rw [Array.length_toList] at hj; exact hj
    have h1 := h j hj2
    unfold isD at h1
    rw [bt_nat t j hj2] at h1
    have h2 : t.data.toList[j] = t[j]'hj2 := rfl
    rw [h2]
    omega
  · intro h j hj
    have h1 := h (t[j]'hj) (List.getElem_mem (l := t.data.toList) (n := j) (by rw [Array.length_toList]; exact hj))
    unfold isD
    rw [bt_nat t j hj]
    omega
theorem parse_lv : ∀ (l : List UInt8) (acc : Nat), DgL l → (acc + 1) * 10 ^ l.length ≤ 1000000000000000 → Lib.parseUintM (2 ^ 64 - 1) acc l = .ok (lv acc l)
  | [], acc, _, _ => rfl
  | c :: r, acc, h, hb => by
    have h1 := h c (List.mem_cons_self ..)
    rw [List.length_cons, Nat.pow_succ] at hb
    have hp : 1 ≤ 10 ^ r.length := Nat.pos_of_ne_zero (by simp)
    have h3 : (acc + 1) * 10 * 10 ^ r.length = (acc + 1) * (10 ^ r.length * 10) := by rw [Nat.mul_assoc, Nat.mul_comm 10]
    have h4 : (acc + 1) * 10 ≤ (acc + 1) * 10 * 10 ^ r.length := Nat.le_mul_of_pos_right _ hp
    have h2 : (acc * 10 + (c.toNat - 48) + 1) * 10 ^ r.length ≤ (acc + 1) * 10 * 10 ^ r.length := Nat.mul_le_mul_right _ (by omega)
    rw [Lib.parseUintM, if_pos h1, if_neg (by omega), if_neg (by omega)]
    exact parse_lv r _ (fun x hx => h x (List.mem_cons_of_mem _ hx)) (by omega)
end Go.Proofs.YtlhijjfbcgconaaDoor.P

/- Versions: the package's order of what stands behind a hyphen. -/
set_option linter.unusedVariables false
set_option linter.unusedSimpArgs false
namespace Go.Proofs.YtlhijjfbcgconaaDoor.P
open Go.RowKit Go.Proofs.YtlhijjfbcgconaaDoorW.PrintWords Go.Proofs.YtlhijjfbcgconaaDoorW.PrintLast Go.Proofs.YtlhijjfbcgconaaDoorW.PrintMore

/-- An identifier that is well, a number of at most 15 digits. -/
def Id15 (t : ByteArray) : Prop := Good true t ∧ (Dg t → t.size ≤ 15)
end Go.Proofs.YtlhijjfbcgconaaDoor.P

/- Versions: the package's order. -/
set_option linter.unusedVariables false
set_option linter.unusedSimpArgs false
namespace Go.Proofs.YtlhijjfbcgconaaDoor.P
open Go.RowKit Go.Proofs.YtlhijjfbcgconaaDoorW.PrintWords Go.Proofs.YtlhijjfbcgconaaDoorW.PrintLast Go.Proofs.YtlhijjfbcgconaaDoorW.PrintMore

end Go.Proofs.YtlhijjfbcgconaaDoor.P

