/- Versions: identifiers and their order, plain. -/
import Derived.Test.YtlhijjfbcgconaaDoorSo2
import Derived.Test.YtlhijjfbcgconaaDoorPx17
set_option linter.unusedVariables false
set_option linter.unusedSimpArgs false
namespace Go.Proofs.YtlhijjfbcgconaaDoor.P
open Go.RowKit Go.Proofs.YtlhijjfbcgconaaDoorW.PrintWords Go.Proofs.YtlhijjfbcgconaaDoorW.PrintLast Go.Proofs.YtlhijjfbcgconaaDoorW.PrintMore

theorem iface_of_reads {P : Program} {W : World} {n nm : String} {d : DataW Unit} {g : Nat} {ti : TypeId} {ms : Array (String × TypeId)}
    (hg : P.globalNamed n = some g) (ht : (P.globals[g]?).map (·.type) = some ti) (hi : P.underlying ti = some (.interface ms)) (h : Lib.VarReads P W n (.iface nm d)) :
    ∃ tp p, W.var? P n = some #[.iface tp p] := by
  obtain ⟨g0, t0, cs, fuel, p, hg0, ht0, hv, hd⟩ := h
  obtain rfl := Option.some.inj (hg.symm.trans hg0)
  obtain rfl := Option.some.inj (ht.symm.trans ht0)
  obtain ⟨l⟩ := cs
  cases fuel with
  | zero => simp [DataW.trod] at hd
  | succ k =>
    unfold DataW.trod at hd
    rw [hi] at hd
    simp only at hd
    split at hd
    all_goals first
      | (cases hd; done)
      | exact ⟨_, _, hv⟩
      | (rename_i heq; cases heq; done)
      | (rename_i heq _; cases heq; done)
theorem var_below {P : Program} {w w' : World} {n : String} {cs : Array Value} (h : w.var? P n = some cs) (hb : Below w.heap.size w w') : w'.var? P n = some cs := by
  unfold World.var? at h ⊢
  obtain ⟨g, hg, hc⟩ := Option.bind_eq_some_iff.1 h
  rw [hg, Option.bind_some]
  cases ho : w.heap[g]? with
  | none => rw [ho] at hc; cases hc
  | some ob =>
    have hlt := (Array.getElem?_eq_some_iff.1 ho).1
    rw [hb.block g hlt]
    exact hc
/-- The two errors of package strconv hold something. -/
def TabsE (w : World) : Prop := (∃ tp p, w.var? Tryd.prog "strconv.ErrSyntax" = some #[.iface tp p]) ∧ ∃ tp p, w.var? Tryd.prog "strconv.ErrRange" = some #[.iface tp p]
theorem TabsE.below {w w' : World} (h : TabsE w) (hb : Below w.heap.size w w') : TabsE w' := by
  obtain ⟨⟨a, b, h1⟩, c, d, h2⟩ := h
  exact ⟨⟨a, b, var_below h1 hb⟩, c, d, var_below h2 hb⟩

/-! ### both ways to cut at the points -/
theorem ids_scan (p : ByteArray) (hp : p.size ≤ 1000) (acc : List ByteArray) (f : Nat) (r : List ByteArray) (z : Nat) (hz : z ≤ p.size) (h : Ev (fun k => spec_identifiers.l0 k p acc (f : Int) (z : Int)) r) : ∀ n i : Nat, i + n = z → (∀ j, i ≤ j → j < z → bt p (j : Int) ≠ 46) → Ev (fun k => spec_identifiers.l0 k p acc (f : Int) (i : Int)) r
  | 0, i, hi, _ => by
    obtain rfl : i = z := by omega
    exact h
  | n + 1, i, hi, hno => by
    have ih := ids_scan p hp acc f r z hz h n (i + 1) (by omega) (fun j h1 h2 => hno j (by omega) h2)
    refine Ev.step (fun k => by rw [spec_identifiers.l0]) (Ev.pos (by omega) (Ev.neg (by omega) (Ev.pos (by omega) (Ev.pos (by omega) (Ev.neg (hno i (Nat.le_refl _) (by omega)) ?_)))))
    rw [show wrap64 ((i : Int) + 1) = ((i + 1 : Nat) : Int) by rw [w64_in (by omega) (by omega)]; omega]
    exact ih
theorem notdot {x : Int} (h : isP x) : x ≠ 46 := fun q => dot_notP (q ▸ h)
theorem split2_l (p : ByteArray) (hp : p.size ≤ 100) (strict : Bool) : ∀ {x : Nat}, PF p strict p.size x →
    ∃ l : List ByteArray, (∀ acc : List ByteArray, acc.length + (p.size - x) ≤ 1000 → Ev (fun k => semver_zzSplit.l0 k (p.extract x p.size) ⟨#[46]⟩ acc) (acc ++ l) ∧ Ev (fun k => spec_identifiers.l0 k p acc (x : Int) (x : Int)) (acc ++ l)) ∧ (∀ t ∈ l, Good strict t) ∧ l.length + x ≤ p.size ∧ 0 < l.length := by
  intro x h
  have h1 : ((⟨#[46]⟩ : ByteArray).size : Int) = 1 := rfl
  have w1 : ∀ i : Nat, i ≤ 1000 → wrap64 ((i : Int) + 1) = ((i + 1 : Nat) : Int) := fun i hi => by rw [w64_in (by omega) (by omega)]; omega
  induction h with
  | @last x h hP hs =>
    have hz : (p.extract x p.size).size = p.size - x := ext_size _ _ _ (Nat.le_refl _)
    have hi := index_dot (p.extract x p.size) (by omega) (p.extract x p.size).size (Nat.le_refl _) (.inl rfl) (p.extract x p.size).size 0 (by omega) (fun j _ hj => by
      rw [bt_ext p x p.size j (by omega)]
      exact notdot (hP (x + j) (by omega) (by omega)))
    rw [if_pos rfl] at hi
    refine ⟨[p.extract x p.size], fun acc hacc => ⟨?_, ?_⟩, fun t ht => ?_, by simp; omega, by simp⟩
    · refine Ev.step (fun k => by rw [semver_zzSplit.l0]) ?_
      refine Ev.bind (by unfold semver_zzIndex.f; exact hi) ?_
      exact Ev.pos (by decide) (Ev.pos (by omega) (Ev.ok _))
    · refine ids_scan p (by omega) acc x _ p.size (Nat.le_refl _) ?_ (p.size - x) x (by omega) (fun j h2 h3 => notdot (hP j h2 h3))
      refine Ev.step (fun k => by rw [spec_identifiers.l0]) (Ev.pos (by omega) (Ev.pos rfl (Ev.pos (by omega) (Ev.pos (by omega) (Ev.pos (by omega) ?_)))))
      rw [w1 p.size (by omega), Int.toNat_natCast, Int.toNat_natCast]
      exact Ev.step (fun k => by rw [spec_identifiers.l0]) (Ev.neg (by omega) (Ev.ok _))
    · rw [List.mem_singleton.1 ht]
      exact good_cut hp (Nat.le_refl _) h hP hs
  | @more x z h hz2 hP hs hd r ih =>
    have hz : (p.extract x p.size).size = p.size - x := ext_size _ _ _ (Nat.le_refl _)
    obtain ⟨l, hl1, hl2, hl3, hl4⟩ := ih
    have hi := index_dot (p.extract x p.size) (by omega) (z - x) (by omega) (.inr (by rw [bt_ext p x p.size (z - x) (by omega), show x + (z - x) = z by omega]; exact hd)) (z - x) 0 (by omega) (fun j _ hj => by
      rw [bt_ext p x p.size j (by omega)]
      exact notdot (hP (x + j) (by omega) (by omega)))
    rw [if_neg (by omega)] at hi
    refine ⟨p.extract x z :: l, fun acc hacc => ?_, fun t ht => ?_, by rw [List.length_cons]; omega, by simp⟩
    · obtain ⟨g1, g2⟩ := hl1 (acc ++ [p.extract x z]) (by rw [List.length_append, List.length_singleton]; omega)
      rw [show acc ++ p.extract x z :: l = (acc ++ [p.extract x z]) ++ l by rw [List.append_assoc]; rfl]
      refine ⟨?_, ?_⟩
      · refine Ev.step (fun k => by rw [semver_zzSplit.l0]) ?_
        refine Ev.bind (by unfold semver_zzIndex.f; exact hi) ?_
        rw [h1, w64_in (by omega) (by omega), show (((z - x : Nat) : Int) + 1).toNat = z - x + 1 by omega, Int.toNat_natCast]
        refine Ev.neg (by omega) (Ev.pos (by omega) (Ev.pos (by omega) (Ev.pos (by omega) (Ev.pos (by omega) (Ev.pos (by omega) ?_)))))
        rw [hz, ext_ext p x p.size _ _ (by omega), ext_ext p x p.size _ _ (by omega), show x + (z - x + 1) = z + 1 by omega, show x + (p.size - x) = p.size by omega, show x + (z - x) = z by omega, Nat.add_zero]
        exact g1
      · refine ids_scan p (by omega) acc x _ z (by omega) ?_ (z - x) x (by omega) (fun j h2 h3 => notdot (hP j h2 h3))
        refine Ev.step (fun k => by rw [spec_identifiers.l0]) (Ev.pos (by omega) (Ev.neg (by omega) (Ev.pos (by omega) (Ev.pos (by omega) (Ev.pos hd (Ev.pos (by omega) (Ev.pos (by omega) (Ev.pos (by omega) ?_))))))))
        rw [w1 z (by omega), Int.toNat_natCast, Int.toNat_natCast]
        exact g2
    · rcases List.mem_cons.1 ht with ht | ht
      · rw [ht]
        exact good_cut hp (by omega) h hP hs
      · exact hl2 t ht
theorem split2_ev (p : ByteArray) (hp : p.size ≤ 100) (strict : Bool) (h : PF p strict p.size 0) : ∃ l : List ByteArray, Ev (fun k => semver_zzSplit.f k p ⟨#[46]⟩) l ∧ Ev (fun k => spec_identifiers.f k p) l ∧ (∀ t ∈ l, Good strict t) ∧ l.length ≤ 100 := by
  obtain ⟨l, h1, h2, h3, _⟩ := split2_l p hp strict h
  obtain ⟨g1, g2⟩ := h1 [] (by simp; omega)
  rw [ext_all] at g1
  exact ⟨l, by unfold semver_zzSplit.f; exact g1, by unfold spec_identifiers.f; exact g2, h2, by omega⟩

/-! ### the order of identifiers -/
def Dg (t : ByteArray) : Prop := ∀ j : Nat, j < t.size → isD (bt t (j : Int))
open Classical in
noncomputable def cmpI (a b : ByteArray) : Int :=
  if a.toList = b.toList then 0 else if Dg a ∧ ¬ Dg b then -1 else if Dg b ∧ ¬ Dg a then 1 else if Dg a ∧ a.size ≠ b.size then (if a.size < b.size then -1 else 1) else if Op.bytesLess a.toList b.toList = true then -1 else 1
theorem sign_pure (n : Int) : spec_sign.f n = some (if n < 0 then -1 else mn n 1) := by
  unfold spec_sign.f
  split <;> rfl
theorem identifier_ev (a b : ByteArray) (ha : a.size ≤ 100) (hb : b.size ≤ 100) : Ev (fun k => spec_identifier.f k a b) (cmpI a b) := by
  obtain ⟨x, hx, hxi⟩ := onlyD a (by omega)
  obtain ⟨y, hy, hyi⟩ := onlyD b (by omega)
  have hxd : x = true ↔ Dg a := hxi
  have hyd : y = true ↔ Dg b := hyi
  unfold spec_identifier.f cmpI
  refine Ev.bind hx (Ev.bind hy ?_)
  by_cases c0 : a.toList = b.toList
  · rw [if_pos c0]
    exact Ev.pos c0 (Ev.ok _)
  · rw [if_neg c0]
    refine Ev.neg c0 ?_
    have hless : ∀ q : Bool, q = false → Ev (fun k => spec_identifier.j2 k a b q) (if Op.bytesLess a.toList b.toList = true then -1 else 1) := fun q hq => by
      subst hq
      refine Ev.step (fun k => by rw [spec_identifier.j2]) (Ev.neg (by decide) ?_)
      by_cases c : Op.bytesLess a.toList b.toList = true
      · exact Ev.eq (if_pos c).symm (Ev.pos c (Ev.ok _))
      · exact Ev.eq (if_neg c).symm (Ev.neg c (Ev.ok _))
    cases x with
    | true =>
      have dx := hxd.1 rfl
      refine Ev.pos rfl ?_
      cases y with
      | false =>
        have dy : ¬ Dg b := fun h => by have := hyd.2 h; cases this
        rw [if_pos ⟨dx, dy⟩]
        refine Ev.step (fun k => by rw [spec_identifier.j0]) ?_
        exact Ev.pos rfl (Ev.ok _)
      | true =>
        have dy := hyd.1 rfl
        rw [if_neg (fun h => h.2 dy), if_neg (fun h => h.2 dx)]
        refine Ev.step (fun k => by rw [spec_identifier.j0]) (Ev.neg (by decide) (Ev.pos rfl ?_))
        refine Ev.step (fun k => by rw [spec_identifier.j1]) (Ev.neg (by decide) (Ev.pos rfl ?_))
        by_cases c1 : a.size = b.size
        · rw [if_neg (fun h => h.2 c1)]
          exact hless _ (by rw [c1]; simp)
        · rw [if_pos ⟨dx, c1⟩]
          have hne : ((a.size : Int) != (b.size : Int)) = true := bne_iff_ne.2 (by omega)
          rw [hne]
          refine Ev.step (fun k => by rw [spec_identifier.j2]) (Ev.pos rfl ?_)
          refine Ev.bind (a := if a.size < b.size then -1 else 1) ?_ (Ev.ok _)
          rw [sign_pure, w64_in (by omega) (by omega)]
          by_cases c2 : a.size < b.size
          · rw [if_pos c2, if_pos (by omega)]
            exact Ev.ok _
          · rw [if_neg c2, if_neg (by omega)]
            have : mn ((a.size : Int) - (b.size : Int)) 1 = 1 := by unfold mn; split <;> omega
            rw [this]
            exact Ev.ok _
    | false =>
      have dx : ¬ Dg a := fun h => by have := hxd.2 h; cases this
      refine Ev.neg (by decide) ?_
      rw [if_neg (fun h => dx h.1)]
      refine Ev.step (fun k => by rw [spec_identifier.j0]) (Ev.neg (by decide) ?_)
      cases y with
      | true =>
        have dy := hyd.1 rfl
        rw [if_pos ⟨dy, dx⟩]
        refine Ev.pos rfl ?_
        refine Ev.step (fun k => by rw [spec_identifier.j1]) ?_
        exact Ev.pos rfl (Ev.ok _)
      | false =>
        have dy : ¬ Dg b := fun h => by have := hyd.2 h; cases this
        rw [if_neg (fun h => dy h.1), if_neg (fun h => dx h.1)]
        refine Ev.neg (by decide) (Ev.step (fun k => by rw [spec_identifier.j1]) (Ev.neg (by decide) (Ev.neg (by decide) ?_)))
        exact hless _ rfl
theorem less_anti (x y : List UInt8) (h : x ≠ y) : Op.bytesLess x y = !Op.bytesLess y x := by
  have h1 := bytesLe_not x y
  rw [beq_eq_false_iff_ne.2 h, Bool.or_false] at h1
  exact h1
theorem cmpI_anti (a b : ByteArray) : cmpI b a = - cmpI a b := by
  unfold cmpI
  by_cases c0 : a.toList = b.toList
  · rw [if_pos c0, if_pos c0.symm]; rfl
  · rw [if_neg c0, if_neg (fun h => c0 h.symm)]
    have hl := less_anti _ _ c0
    by_cases da : Dg a <;> by_cases db : Dg b <;> by_cases hs : a.size = b.size <;> by_cases hlt : a.size < b.size <;> cases hq : Op.bytesLess b.toList a.toList <;> simp_all <;> omega
theorem cmpI_range (a b : ByteArray) : cmpI a b = -1 ∨ cmpI a b = 0 ∨ cmpI a b = 1 := by
  unfold cmpI
  repeat' split
  all_goals simp
noncomputable def cmpL : List ByteArray → List ByteArray → Int
  | [], [] => 0
  | [], _ :: _ => -1
  | _ :: _, [] => 1
  | a :: l, b :: m => if cmpI a b ≠ 0 then cmpI a b else cmpL l m
theorem cmpL_anti : ∀ l m : List ByteArray, cmpL m l = - cmpL l m
  | [], [] => rfl
  | [], _ :: _ => rfl
  | _ :: _, [] => rfl
  | a :: l, b :: m => by
    unfold cmpL
    rw [cmpI_anti a b, cmpL_anti l m]
    by_cases c : cmpI a b = 0
    · simp [c]
    · rw [if_pos c, if_pos (by omega)]
theorem cmpL_range : ∀ l m : List ByteArray, cmpL l m = -1 ∨ cmpL l m = 0 ∨ cmpL l m = 1
  | [], [] => by simp [cmpL]
  | [], _ :: _ => by simp [cmpL]
  | _ :: _, [] => by simp [cmpL]
  | a :: l, b :: m => by
    unfold cmpL
    split
    · exact cmpI_range a b
    · exact cmpL_range l m
/-! ### numbers of identifiers -/
def lv (acc : Nat) : List UInt8 → Nat
  | [] => acc
  | c :: r => lv (acc * 10 + (c.toNat - 48)) r
def DgL (l : List UInt8) : Prop := ∀ c ∈ l, 48 ≤ c.toNat ∧ c.toNat ≤ 57
theorem dgL_iff (t : ByteArray) : Dg t ↔ DgL t.data.toList := by
  constructor
  · intro h c hc
    obtain ⟨j, hj, rfl⟩ := List.getElem_of_mem hc
    have hj2 : j < t.size := by rw [Array.length_toList] at hj; exact hj
    have h1 := h j hj2
    unfold isD at h1
    rw [bt_nat t j hj2] at h1
    have h2 : t.data.toList[j] = t[j]'hj2 := rfl
    rw [h2]
    omega
  · intro h j hj
    have h1 := h (t[j]'hj) (List.getElem_mem (l := t.data.toList) (n := j) (by rw [Array.length_toList]; exact hj))
    unfold isD
    rw [bt_nat t j hj]
    omega
theorem lv_lt : ∀ (l : List UInt8) (acc : Nat), DgL l → lv acc l < (acc + 1) * 10 ^ l.length
  | [], acc, _ => by show acc < _; simp
  | c :: r, acc, h => by
    have h1 := h c (List.mem_cons_self ..)
    have ih := lv_lt r (acc * 10 + (c.toNat - 48)) (fun x hx => h x (List.mem_cons_of_mem _ hx))
    show lv (acc * 10 + (c.toNat - 48)) r < _
    rw [List.length_cons, Nat.pow_succ]
    have h2 : (acc * 10 + (c.toNat - 48) + 1) * 10 ^ r.length ≤ (acc + 1) * 10 * 10 ^ r.length := Nat.mul_le_mul_right _ (by omega)
    have h3 : (acc + 1) * 10 * 10 ^ r.length = (acc + 1) * (10 ^ r.length * 10) := by rw [Nat.mul_assoc, Nat.mul_comm 10]
    omega
theorem lv_ge : ∀ (l : List UInt8) (acc : Nat), acc * 10 ^ l.length ≤ lv acc l
  | [], acc => by show _ ≤ acc; simp
  | c :: r, acc => by
    have ih := lv_ge r (acc * 10 + (c.toNat - 48))
    show _ ≤ lv (acc * 10 + (c.toNat - 48)) r
    rw [List.length_cons, Nat.pow_succ]
    have h2 : (acc * 10) * 10 ^ r.length ≤ (acc * 10 + (c.toNat - 48)) * 10 ^ r.length := Nat.mul_le_mul_right _ (by omega)
    have h3 : (acc * 10) * 10 ^ r.length = acc * (10 ^ r.length * 10) := by rw [Nat.mul_assoc, Nat.mul_comm 10]
    omega
theorem parse_lv : ∀ (l : List UInt8) (acc : Nat), DgL l → (acc + 1) * 10 ^ l.length ≤ 1000000000000000 → Lib.parseUintM (2 ^ 64 - 1) acc l = .ok (lv acc l)
  | [], acc, _, _ => rfl
  | c :: r, acc, h, hb => by
    have h1 := h c (List.mem_cons_self ..)
    rw [List.length_cons, Nat.pow_succ] at hb
    have hp : 1 ≤ 10 ^ r.length := Nat.pos_of_ne_zero (by simp)
    have h3 : (acc + 1) * 10 * 10 ^ r.length = (acc + 1) * (10 ^ r.length * 10) := by rw [Nat.mul_assoc, Nat.mul_comm 10]
    have h4 : (acc + 1) * 10 ≤ (acc + 1) * 10 * 10 ^ r.length := Nat.le_mul_of_pos_right _ hp
    have h2 : (acc * 10 + (c.toNat - 48) + 1) * 10 ^ r.length ≤ (acc + 1) * 10 * 10 ^ r.length := Nat.mul_le_mul_right _ (by omega)
    rw [Lib.parseUintM, if_pos h1, if_neg (by omega), if_neg (by omega)]
    exact parse_lv r _ (fun x hx => h x (List.mem_cons_of_mem _ hx)) (by omega)
theorem parse_ok_dg (M : Nat) : ∀ (l : List UInt8) (acc u : Nat), Lib.parseUintM M acc l = .ok u → DgL l
  | [], _, _, _ => fun c hc => by cases hc
  | c :: r, acc, u, h => by
    rw [Lib.parseUintM] at h
    by_cases h1 : 48 ≤ c.toNat ∧ c.toNat ≤ 57
    · rw [if_pos h1] at h
      split at h
      · cases h
      · split at h
        · cases h
        · intro x hx
          rcases List.mem_cons.1 hx with hx | hx
          · rw [hx]; exact h1
          · exact parse_ok_dg M r _ u h x hx
    · rw [if_neg h1] at h
      cases h
theorem lv_mono : ∀ (l m : List UInt8) (a b : Nat), l.length = m.length → DgL l → DgL m → a < b → lv a l < lv b m
  | [], [], a, b, _, _, _, h => h
  | c :: r, d :: q, a, b, hl, h, h', hab => by
    have h1 := h c (List.mem_cons_self ..)
    have h2 := h' d (List.mem_cons_self ..)
    exact lv_mono r q (a * 10 + (c.toNat - 48)) (b * 10 + (d.toNat - 48)) (by simpa using hl) (fun x hx => h x (List.mem_cons_of_mem _ hx)) (fun x hx => h' x (List.mem_cons_of_mem _ hx)) (by omega)
theorem lv_less : ∀ (l m : List UInt8) (a : Nat), l.length = m.length → DgL l → DgL m → (Op.bytesLess l m = true → lv a l < lv a m) ∧ (l ≠ m → Op.bytesLess l m = false → lv a m < lv a l)
  | [], [], a, _, _, _ => ⟨(fun h => by cases h), fun h => absurd rfl h⟩
  | c :: r, d :: q, a, hl, h, h' => by
    have h1 := h c (List.mem_cons_self ..)
    have h2 := h' d (List.mem_cons_self ..)
    have hlr : r.length = q.length := by simpa using hl
    have hr : DgL r := fun x hx => h x (List.mem_cons_of_mem _ hx)
    have hq' : DgL q := fun x hx => h' x (List.mem_cons_of_mem _ hx)
    obtain ⟨i2, i3⟩ := lv_less r q (a * 10 + (c.toNat - 48)) hlr hr hq'
    refine ⟨fun hq => ?_, fun hne hq => ?_⟩
    · unfold Op.bytesLess at hq
      rw [Bool.or_eq_true, Bool.and_eq_true, decide_eq_true_eq, beq_iff_eq] at hq
      rcases hq with hq | ⟨hq, hq2⟩
      · have := UInt8.lt_iff_toNat_lt.1 hq
        exact lv_mono r q _ _ hlr hr hq' (by omega)
      · subst hq
        exact i2 hq2
    · unfold Op.bytesLess at hq
      rw [Bool.or_eq_false_iff, decide_eq_false_iff_not] at hq
      obtain ⟨q1, q2⟩ := hq
      by_cases hcd : c = d
      · subst hcd
        rw [beq_self_eq_true, Bool.true_and] at q2
        exact i3 (fun e => hne (by rw [e])) q2
      · have : d.toNat < c.toNat := by
          have n1 : ¬ c.toNat < d.toNat := fun e => q1 (UInt8.lt_iff_toNat_lt.2 e)
          have n2 : c.toNat ≠ d.toNat := fun e => hcd (UInt8.toNat_inj.1 e)
          omega
        exact lv_mono q r _ _ hlr.symm hq' hr (by omega)
/-- Of numbers without zeros ahead the greater one is the one that comes later. -/
theorem num_cmp {a b : ByteArray} (ga : Good true a) (gb : Good true b) (da : Dg a) (db : Dg b) (hne : a.toList ≠ b.toList) : (lv 0 b.data.toList < lv 0 a.data.toList → cmpI a b = 1) ∧ (¬ lv 0 b.data.toList < lv 0 a.data.toList → cmpI a b = -1) := by
  have la := (dgL_iff a).1 da
  have lb := (dgL_iff b).1 db
  have key : ∀ (s t : ByteArray), Good true s → Good true t → Dg s → Dg t → s.size < t.size → lv 0 s.data.toList < lv 0 t.data.toList := by
    intro s t gs gt ds dt hst
    have h1 := lv_lt s.data.toList 0 ((dgL_iff s).1 ds)
    rw [size_list] at h1
    have hok := gt.2.2.2 rfl
    unfold okSeg at hok
    have gs1 := gs.1
    have h48 : bt t 0 ≠ 48 := fun q => hok (by omega) q (fun j _ hj => dt j hj)
    have ht0 : 0 < t.data.toList.length := by rw [size_list]; omega
    obtain ⟨c, r, hcr⟩ : ∃ c r, t.data.toList = c :: r := by
      cases hc : t.data.toList with
      | nil => rw [hc] at ht0; simp at ht0
      | cons c r => exact ⟨c, r, rfl⟩
    have hc := (dgL_iff t).1 dt c (by rw [hcr]; exact List.mem_cons_self ..)
    have hcb : bt t 0 = ((c.toNat : Nat) : Int) := by
      have := bt_opt t 0
      rw [hcr] at this
      exact this
    have hc49 : 49 ≤ c.toNat := by
      rw [hcb] at h48
      have : c.toNat ≠ 48 := fun e => h48 (by rw [e]; rfl)
      omega
    have hr : r.length + 1 = t.size := by rw [← size_list, hcr, List.length_cons]
    rw [hcr]
    show _ < lv (0 * 10 + (c.toNat - 48)) r
    have h2 := lv_ge r (0 * 10 + (c.toNat - 48))
    have h3 : 10 ^ s.size ≤ 10 ^ r.length := Nat.pow_le_pow_right (by decide) (by omega)
    have h4 : 1 * 10 ^ r.length ≤ (0 * 10 + (c.toNat - 48)) * 10 ^ r.length := Nat.mul_le_mul_right _ (by omega)
    omega
  have hle : a.data.toList ≠ b.data.toList := by rw [← ByteArray.toList_eq, ← ByteArray.toList_eq]; exact hne
  unfold cmpI
  rw [if_neg hne, if_neg (fun h => h.2 db), if_neg (fun h => h.2 da)]
  rcases Nat.lt_trichotomy a.size b.size with hs | hs | hs
  · have := key a b ga gb da db hs
    rw [if_pos ⟨da, by omega⟩, if_pos hs]
    exact ⟨fun h => by omega, fun _ => rfl⟩
  · rw [if_neg (fun h => h.2 hs), ByteArray.toList_eq, ByteArray.toList_eq]
    obtain ⟨i2, i3⟩ := lv_less a.data.toList b.data.toList 0 (by rw [size_list, size_list]; exact hs) la lb
    cases hq : Op.bytesLess a.data.toList b.data.toList with
    | true =>
      have := i2 hq
      exact ⟨fun h => by omega, fun _ => by simp⟩
    | false =>
      have := i3 hle hq
      exact ⟨fun _ => by simp, fun h => absurd this h⟩
  · have := key b a gb ga db da hs
    rw [if_pos ⟨da, by omega⟩, if_neg (by omega)]
    exact ⟨fun _ => rfl, fun h => absurd this h⟩
end Go.Proofs.YtlhijjfbcgconaaDoor.P
