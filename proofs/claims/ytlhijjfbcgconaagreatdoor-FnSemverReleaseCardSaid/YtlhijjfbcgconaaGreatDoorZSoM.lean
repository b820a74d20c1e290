/- Texts joined: So1, So3, So4. -/
import Derived.Test.YtlhijjfbcgconaaGreatDoorZSo2
import Derived.Lib.LaidU8
import Derived.Test.YtlhijjfbcgconaaGreatDoorZPx6

/- Versions: identifiers and their order, plain. -/
set_option linter.unusedVariables false
set_option linter.unusedSimpArgs false
namespace Go.Proofs.YtlhijjfbcgconaaGreatDoor.P
open Go.RowKit Go.Proofs.YtlhijjfbcgconaaGreatDoorW.PrintWords Go.Proofs.YtlhijjfbcgconaaGreatDoorW.PrintLast Go.Proofs.YtlhijjfbcgconaaGreatDoorW.PrintMore

theorem iface_of_reads {P : Program} {W : World} {n nm : String} {d : DataW Unit} {g : Nat} {ti : TypeId} {ms : Array (String × TypeId)}
    (hg : P.globalNamed n = some g) (ht : (P.globals[g]?).map (·.type) = some ti) (hi : P.underlying ti = some (.interface ms)) (h : Lib.VarReads P W n (.iface nm d)) :
    ∃ tp p, W.var? P n = some #[.iface tp p] := by
  obtain ⟨g0, t0, cs, fuel, p, hg0, ht0, hv, hd⟩ := h
  obtain rfl := Option.some.inj (hg.symm.trans hg0)
  obtain rfl := Option.some.inj (ht.symm.trans ht0)
  obtain ⟨l⟩ := cs
  cases fuel with
  | zero => simp [DataW.trod] at hd
  | succ k =>
    unfold DataW.trod at hd
    rw [hi] at hd
    simp only at hd
    split at hd
    all_goals first
      | (cases hd; done)
      | exact ⟨_, _, hv⟩
      | (rename_i heq; cases heq; done)
      | (rename_i heq _; cases heq; done)
theorem var_below {P : Program} {w w' : World} {n : String} {cs : Array Value} (h : w.var? P n = some cs) (hb : Below w.heap.size w w') : w'.var? P n = some cs := by
  unfold World.var? at h ⊢
  obtain ⟨g, hg, hc⟩ := Option.bind_eq_some_iff.1 h
  rw [hg, Option.bind_some]
  cases ho : w.heap[g]? with
  | none => rw [ho] at hc; cases hc
  | some ob =>
    have hlt := (Array.getElem?_eq_some_iff.1 ho).1
    rw [hb.block g hlt]
    exact hc
/-- The two errors of package strconv hold something. -/
def TabsE (w : World) : Prop := (∃ tp p, w.var? Tryz.prog "strconv.ErrSyntax" = some #[.iface tp p]) ∧ ∃ tp p, w.var? Tryz.prog "strconv.ErrRange" = some #[.iface tp p]
theorem TabsE.below {w w' : World} (h : TabsE w) (hb : Below w.heap.size w w') : TabsE w' := by
  obtain ⟨⟨a, b, h1⟩, c, d, h2⟩ := h
  exact ⟨⟨a, b, var_below h1 hb⟩, c, d, var_below h2 hb⟩

/-! ### both ways to cut at the points -/
theorem ids_scan (p : ByteArray) (hp : p.size ≤ 1000) (acc : List ByteArray) (f : Nat) (r : List ByteArray) (z : Nat) (hz : z ≤ p.size) (h : Ev (fun k => spec_identifiers.l0 k p acc (f : Int) (z : Int)) r) : ∀ n i : Nat, i + n = z → (∀ j, i ≤ j → j < z → bt p (j : Int) ≠ 46) → Ev (fun k => spec_identifiers.l0 k p acc (f : Int) (i : Int)) r
  | 0, i, hi, _ => by
    obtain rfl : i = z := by omega
    exact h
  | n + 1, i, hi, hno => by
    have ih := ids_scan p hp acc f r z hz h n (i + 1) (by omega) (fun j h1 h2 => hno j (by omega) h2)
    refine Ev.step (fun k => by rw [spec_identifiers.l0]) (Ev.pos (by omega) (Ev.neg (by omega) (Ev.pos (by omega) (Ev.pos (by omega) (Ev.neg (hno i (Nat.le_refl _) (by omega)) ?_)))))
    rw [show wrap64 ((i : Int) + 1) = ((i + 1 : Nat) : Int) by rw [w64_in (by omega) (by omega)]; omega]
    exact ih
theorem notdot {x : Int} (h : isP x) : x ≠ 46 := fun q => dot_notP (q ▸ h)
theorem split2_l (p : ByteArray) (hp : p.size ≤ 100) (strict : Bool) : ∀ {x : Nat}, PF p strict p.size x →
    ∃ l : List ByteArray, (∀ acc : List ByteArray, acc.length + (p.size - x) ≤ 1000 → Ev (fun k => semver_zzSplit.l0 k (p.extract x p.size) ⟨#[46]⟩ acc) (acc ++ l) ∧ Ev (fun k => spec_identifiers.l0 k p acc (x : Int) (x : Int)) (acc ++ l)) ∧ (∀ t ∈ l, Good strict t) ∧ l.length + x ≤ p.size ∧ 0 < l.length := by
  intro x h
  have h1 : ((⟨#[46]⟩ : ByteArray).size : Int) = 1 := rfl
  have w1 : ∀ i : Nat, i ≤ 1000 → wrap64 ((i : Int) + 1) = ((i + 1 : Nat) : Int) := fun i hi => by rw [w64_in (by omega) (by omega)]; omega
  induction h with
  | @last x h hP hs =>
    have hz : (p.extract x p.size).size = p.size - x := ext_size _ _ _ (Nat.le_refl _)
    have hi := index_dot (p.extract x p.size) (by omega) (p.extract x p.size).size (Nat.le_refl _) (.inl rfl) (p.extract x p.size).size 0 (by omega) (fun j _ hj => by
      rw [bt_ext p x p.size j (by omega)]
      exact notdot (hP (x + j) (by omega) (by omega)))
    rw [if_pos rfl] at hi
    refine ⟨[p.extract x p.size], fun acc hacc => ⟨?_, ?_⟩, fun t ht => ?_, by simp; omega, by simp⟩
    · refine Ev.step (fun k => by rw [semver_zzSplit.l0]) ?_
      refine Ev.bind (by unfold semver_zzIndex.f; exact hi) ?_
      exact Ev.pos (by decide) (Ev.pos (by omega) (Ev.ok _))
    · refine ids_scan p (by omega) acc x _ p.size (Nat.le_refl _) ?_ (p.size - x) x (by omega) (fun j h2 h3 => notdot (hP j h2 h3))
      refine Ev.step (fun k => by rw [spec_identifiers.l0]) (Ev.pos (by omega) (Ev.pos rfl (Ev.pos (by omega) (Ev.pos (by omega) (Ev.pos (by omega) ?_)))))
      rw [w1 p.size (by omega), Int.toNat_natCast, Int.toNat_natCast]
      exact Ev.step (fun k => by rw [spec_identifiers.l0]) (Ev.neg (by omega) (Ev.ok _))
    · rw [List.mem_singleton.1 ht]
      exact good_cut hp (Nat.le_refl _) h hP hs
  | @more x z h hz2 hP hs hd r ih =>
    have hz : (p.extract x p.size).size = p.size - x := ext_size _ _ _ (Nat.le_refl _)
    obtain ⟨l, hl1, hl2, hl3, hl4⟩ := ih
    have hi := index_dot (p.extract x p.size) (by omega) (z - x) (by omega) (.inr (by rw [bt_ext p x p.size (z - x) (by omega), show x + (z - x) = z by omega]; exact hd)) (z - x) 0 (by omega) (fun j _ hj => by
      rw [bt_ext p x p.size j (by omega)]
      exact notdot (hP (x + j) (by omega) (by omega)))
    rw [if_neg (by omega)] at hi
    refine ⟨p.extract x z :: l, fun acc hacc => ?_, fun t ht => ?_, by rw [List.length_cons]; omega, by simp⟩
    · obtain ⟨g1, g2⟩ := hl1 (acc ++ [p.extract x z]) (by rw [List.length_append, List.length_singleton]; omega)
      rw [show acc ++ p.extract x z :: l = (acc ++ [p.extract x z]) ++ l by rw [List.append_assoc]; rfl]
      refine ⟨?_, ?_⟩
      · refine Ev.step (fun k => by rw [semver_zzSplit.l0]) ?_
        refine Ev.bind (by unfold semver_zzIndex.f; exact hi) ?_
        rw [h1, w64_in (by omega) (by omega), show (((z - x : Nat) : Int) + 1).toNat = z - x + 1 by omega, Int.toNat_natCast]
        refine Ev.neg (by omega) (Ev.pos (by omega) (Ev.pos (by omega) (Ev.pos (by omega) (Ev.pos (by omega) (Ev.pos (by omega) ?_)))))
        rw [hz, ext_ext p x p.size _ _ (by omega), ext_ext p x p.size _ _ (by omega), show x + (z - x + 1) = z + 1 by omega, show x + (p.size - x) = p.size by omega, show x + (z - x) = z by omega, Nat.add_zero]
        exact g1
      · refine ids_scan p (by omega) acc x _ z (by omega) ?_ (z - x) x (by omega) (fun j h2 h3 => notdot (hP j h2 h3))
        refine Ev.step (fun k => by rw [spec_identifiers.l0]) (Ev.pos (by omega) (Ev.neg (by omega) (Ev.pos (by omega) (Ev.pos (by omega) (Ev.pos hd (Ev.pos (by omega) (Ev.pos (by omega) (Ev.pos (by omega) ?_))))))))
        rw [w1 z (by omega), Int.toNat_natCast, Int.toNat_natCast]
        exact g2
    · rcases List.mem_cons.1 ht with ht | ht
      · rw [ht]
        exact good_cut hp (by omega) h hP hs
      · exact hl2 t ht
theorem split2_ev (p : ByteArray) (hp : p.size ≤ 100) (strict : Bool) (h : PF p strict p.size 0) : ∃ l : List ByteArray, Ev (fun k => semver_zzSplit.f k p ⟨#[46]⟩) l ∧ Ev (fun k => spec_identifiers.f k p) l ∧ (∀ t ∈ l, Good strict t) ∧ l.length ≤ 100 := by
  obtain ⟨l, h1, h2, h3, _⟩ := split2_l p hp strict h
  obtain ⟨g1, g2⟩ := h1 [] (by simp; omega)
  rw [ext_all] at g1
  exact ⟨l, by unfold semver_zzSplit.f; exact g1, by unfold spec_identifiers.f; exact g2, h2, by omega⟩

/-! ### the order of identifiers -/
def Dg (t : ByteArray) : Prop := ∀ j : Nat, j < t.size → isD (bt t (j : Int))
open Classical in
noncomputable def cmpI (a b : ByteArray) : Int :=
  if a.toList = b.toList then 0 else if Dg a ∧ ¬ Dg b then -1 else if Dg b ∧ ¬ Dg a then 1 else if Dg a ∧ a.size ≠ b.size then (if a.size < b.size then -1 else 1) else if Op.bytesLess a.toList b.toList = true then -1 else 1
theorem sign_pure (n : Int) : spec_sign.f n = some (if n < 0 then -1 else mn n 1) := by
  unfold spec_sign.f
  split <;> rfl
theorem identifier_ev (a b : ByteArray) (ha : a.size ≤ 100) (hb : b.size ≤ 100) : Ev (fun k => spec_identifier.f k a b) (cmpI a b) := by
  obtain ⟨x, hx, hxi⟩ := onlyD a (by omega)
  obtain ⟨y, hy, hyi⟩ := onlyD b (by omega)
  have hxd : x = true ↔ Dg a := hxi
  have hyd : y = true ↔ Dg b := hyi
  unfold spec_identifier.f cmpI
  refine Ev.bind hx (Ev.bind hy ?_)
  by_cases c0 : a.toList = b.toList
  · rw [if_pos c0]
    exact Ev.pos c0 (Ev.ok _)
  · rw [if_neg c0]
    refine Ev.neg c0 ?_
    have hless : ∀ q : Bool, q = false → Ev (fun k => spec_identifier.j2 k a b q) (if Op.bytesLess a.toList b.toList = true then -1 else 1) := fun q hq => by
      subst hq
      refine Ev.step (fun k => by rw [spec_identifier.j2]) (Ev.neg (by decide) ?_)
      by_cases c : Op.bytesLess a.toList b.toList = true
      · exact Ev.eq (if_pos c).symm (Ev.pos c (Ev.ok _))
      · exact Ev.eq (if_neg c).symm (Ev.neg c (Ev.ok _))
    cases x with
    | true =>
      have dx := hxd.1 rfl
      refine Ev.pos rfl ?_
      cases y with
      | false =>
        have dy : ¬ Dg b := fun h => by have := hyd.2 h; cases this
        rw [if_pos ⟨dx, dy⟩]
        refine Ev.step (fun k => by rw [spec_identifier.j0]) ?_
        exact Ev.pos rfl (Ev.ok _)
      | true =>
        have dy := hyd.1 rfl
        rw [if_neg (fun h => h.2 dy), if_neg (fun h => h.2 dx)]
        refine Ev.step (fun k => by rw [spec_identifier.j0]) (Ev.neg (by decide) (Ev.pos rfl ?_))
        refine Ev.step (fun k => by rw [spec_identifier.j1]) (Ev.neg (by decide) (Ev.pos rfl ?_))
        by_cases c1 : a.size = b.size
        · rw [if_neg (fun h => h.2 c1)]
          exact hless _ (by rw [c1]; simp)
        · rw [if_pos ⟨dx, c1⟩]
          have hne : ((a.size : Int) != (b.size : Int)) = true := bne_iff_ne.2 (by omega)
          rw [hne]
          refine Ev.step (fun k => by rw [spec_identifier.j2]) (Ev.pos rfl ?_)
          refine Ev.bind (a := if a.size < b.size then -1 else 1) ?_ (Ev.ok _)
          rw [sign_pure, w64_in (by omega) (by omega)]
          by_cases c2 : a.size < b.size
          · rw [if_pos c2, if_pos (by omega)]
            exact Ev.ok _
          · rw [if_neg c2, if_neg (by omega)]
            have : mn ((a.size : Int) - (b.size : Int)) 1 = 1 := by unfold mn; split <;> omega
            rw [this]
            exact Ev.ok _
    | false =>
      have dx : ¬ Dg a := fun h => by have := hxd.2 h; cases this
      refine Ev.neg (by decide) ?_
      rw [if_neg (fun h => dx h.1)]
      refine Ev.step (fun k => by rw [spec_identifier.j0]) (Ev.neg (by decide) ?_)
      cases y with
      | true =>
        have dy := hyd.1 rfl
        rw [if_pos ⟨dy, dx⟩]
        refine Ev.pos rfl ?_
        refine Ev.step (fun k => by rw [spec_identifier.j1]) ?_
        exact Ev.pos rfl (Ev.ok _)
      | false =>
        have dy : ¬ Dg b := fun h => by have := hyd.2 h; cases this
        rw [if_neg (fun h => dy h.1), if_neg (fun h => dx h.1)]
        refine Ev.neg (by decide) (Ev.step (fun k => by rw [spec_identifier.j1]) (Ev.neg (by decide) (Ev.neg (by decide) ?_)))
        exact hless _ rfl
theorem less_anti (x y : List UInt8) (h : x ≠ y) : Op.bytesLess x y = !Op.bytesLess y x := by
  have h1 := bytesLe_not x y
  rw [beq_eq_false_iff_ne.2 h, Bool.or_false] at h1
  exact h1
theorem cmpI_anti (a b : ByteArray) : cmpI b a = - cmpI a b := by
  unfold cmpI
  by_cases c0 : a.toList = b.toList
  · rw [if_pos c0, if_pos c0.symm]; rfl
  · rw [if_neg c0, if_neg (fun h => c0 h.symm)]
    have hl := less_anti _ _ c0
    by_cases da : Dg a <;> by_cases db : Dg b <;> by_cases hs : a.size = b.size <;> by_cases hlt : a.size < b.size <;> cases hq : Op.bytesLess b.toList a.toList <;> simp_all <;> omega
theorem cmpI_range (a b : ByteArray) : cmpI a b = -1 ∨ cmpI a b = 0 ∨ cmpI a b = 1 := by
  unfold cmpI
  repeat' split
  all_goals simp
noncomputable def cmpL : List ByteArray → List ByteArray → Int
  | [], [] => 0
  | [], _ :: _ => -1
  | _ :: _, [] => 1
  | a :: l, b :: m => if cmpI a b ≠ 0 then cmpI a b else cmpL l m
theorem cmpL_anti : ∀ l m : List ByteArray, cmpL m l = - cmpL l m
  | [], [] => rfl
  | [], _ :: _ => rfl
  | _ :: _, [] => rfl
  | a :: l, b :: m => by
    unfold cmpL
    rw [cmpI_anti a b, cmpL_anti l m]
    by_cases c : cmpI a b = 0
    · simp [c]
    · rw [if_pos c, if_pos (by omega)]
theorem cmpL_range : ∀ l m : List ByteArray, cmpL l m = -1 ∨ cmpL l m = 0 ∨ cmpL l m = 1
  | [], [] => by simp [cmpL]
  | [], _ :: _ => by simp [cmpL]
  | _ :: _, [] => by simp [cmpL]
  | a :: l, b :: m => by
    unfold cmpL
    split
    · exact cmpI_range a b
    · exact cmpL_range l m
/-! ### numbers of identifiers -/
def lv (acc : Nat) : List UInt8 → Nat
  | [] => acc
  | c :: r => lv (acc * 10 + (c.toNat - 48)) r
def DgL (l : List UInt8) : Prop := ∀ c ∈ l, 48 ≤ c.toNat ∧ c.toNat ≤ 57
theorem dgL_iff (t : ByteArray) : Dg t ↔ DgL t.data.toList := by
  constructor
  · intro h c hc
    obtain ⟨j, hj, rfl⟩ := List.getElem_of_mem hc
    have hj2 : j < t.size := by rw [Array.length_toList] at hj; exact hj
    have h1 := h j hj2
    unfold isD at h1
    rw [bt_nat t j hj2] at h1
    have h2 : t.data.toList[j] = t[j]'hj2 := rfl
    rw [h2]
    omega
  · intro h j hj
    have h1 := h (t[j]'hj) (List.getElem_mem (l := t.data.toList) (n := j) (by rw [Array.length_toList]; exact hj))
    unfold isD
    rw [bt_nat t j hj]
    omega
theorem lv_lt : ∀ (l : List UInt8) (acc : Nat), DgL l → lv acc l < (acc + 1) * 10 ^ l.length
  | [], acc, _ => by show acc < _; simp
  | c :: r, acc, h => by
    have h1 := h c (List.mem_cons_self ..)
    have ih := lv_lt r (acc * 10 + (c.toNat - 48)) (fun x hx => h x (List.mem_cons_of_mem _ hx))
    show lv (acc * 10 + (c.toNat - 48)) r < _
    rw [List.length_cons, Nat.pow_succ]
    have h2 : (acc * 10 + (c.toNat - 48) + 1) * 10 ^ r.length ≤ (acc + 1) * 10 * 10 ^ r.length := Nat.mul_le_mul_right _ (by omega)
    have h3 : (acc + 1) * 10 * 10 ^ r.length = (acc + 1) * (10 ^ r.length * 10) := by rw [Nat.mul_assoc, Nat.mul_comm 10]
    omega
theorem lv_ge : ∀ (l : List UInt8) (acc : Nat), acc * 10 ^ l.length ≤ lv acc l
  | [], acc => by show _ ≤ acc; simp
  | c :: r, acc => by
    have ih := lv_ge r (acc * 10 + (c.toNat - 48))
    show _ ≤ lv (acc * 10 + (c.toNat - 48)) r
    rw [List.length_cons, Nat.pow_succ]
    have h2 : (acc * 10) * 10 ^ r.length ≤ (acc * 10 + (c.toNat - 48)) * 10 ^ r.length := Nat.mul_le_mul_right _ (by omega)
    have h3 : (acc * 10) * 10 ^ r.length = acc * (10 ^ r.length * 10) := by rw [Nat.mul_assoc, Nat.mul_comm 10]
    omega
theorem parse_lv : ∀ (l : List UInt8) (acc : Nat), DgL l → (acc + 1) * 10 ^ l.length ≤ 1000000000000000 → Lib.parseUintM (2 ^ 64 - 1) acc l = .ok (lv acc l)
  | [], acc, _, _ => rfl
  | c :: r, acc, h, hb => by
    have h1 := h c (List.mem_cons_self ..)
    rw [List.length_cons, Nat.pow_succ] at hb
    have hp : 1 ≤ 10 ^ r.length := Nat.pos_of_ne_zero (by simp)
    have h3 : (acc + 1) * 10 * 10 ^ r.length = (acc + 1) * (10 ^ r.length * 10) := by rw [Nat.mul_assoc, Nat.mul_comm 10]
    have h4 : (acc + 1) * 10 ≤ (acc + 1) * 10 * 10 ^ r.length := Nat.le_mul_of_pos_right _ hp
    have h2 : (acc * 10 + (c.toNat - 48) + 1) * 10 ^ r.length ≤ (acc + 1) * 10 * 10 ^ r.length := Nat.mul_le_mul_right _ (by omega)
    rw [Lib.parseUintM, if_pos h1, if_neg (by omega), if_neg (by omega)]
    exact parse_lv r _ (fun x hx => h x (List.mem_cons_of_mem _ hx)) (by omega)
theorem parse_ok_dg (M : Nat) : ∀ (l : List UInt8) (acc u : Nat), Lib.parseUintM M acc l = .ok u → DgL l
  | [], _, _, _ => fun c hc => by cases hc
  | c :: r, acc, u, h => by
    rw [Lib.parseUintM] at h
    by_cases h1 : 48 ≤ c.toNat ∧ c.toNat ≤ 57
    · rw [if_pos h1] at h
      split at h
      · cases h
      · split at h
        · cases h
        · intro x hx
          rcases List.mem_cons.1 hx with hx | hx
          · rw [hx]; exact h1
          · exact parse_ok_dg M r _ u h x hx
    · rw [if_neg h1] at h
      cases h
theorem lv_mono : ∀ (l m : List UInt8) (a b : Nat), l.length = m.length → DgL l → DgL m → a < b → lv a l < lv b m
  | [], [], a, b, _, _, _, h => h
  | c :: r, d :: q, a, b, hl, h, h', hab => by
    have h1 := h c (List.mem_cons_self ..)
    have h2 := h' d (List.mem_cons_self ..)
    exact lv_mono r q (a * 10 + (c.toNat - 48)) (b * 10 + (d.toNat - 48)) (by simpa using hl) (fun x hx => h x (List.mem_cons_of_mem _ hx)) (fun x hx => h' x (List.mem_cons_of_mem _ hx)) (by omega)
theorem lv_less : ∀ (l m : List UInt8) (a : Nat), l.length = m.length → DgL l → DgL m → (Op.bytesLess l m = true → lv a l < lv a m) ∧ (l ≠ m → Op.bytesLess l m = false → lv a m < lv a l)
  | [], [], a, _, _, _ => ⟨(fun h => by cases h), fun h => absurd rfl h⟩
  | c :: r, d :: q, a, hl, h, h' => by
    have h1 := h c (List.mem_cons_self ..)
    have h2 := h' d (List.mem_cons_self ..)
    have hlr : r.length = q.length := by simpa using hl
    have hr : DgL r := fun x hx => h x (List.mem_cons_of_mem _ hx)
    have hq' : DgL q := fun x hx => h' x (List.mem_cons_of_mem _ hx)
    obtain ⟨i2, i3⟩ := lv_less r q (a * 10 + (c.toNat - 48)) hlr hr hq'
    refine ⟨fun hq => ?_, fun hne hq => ?_⟩
    · unfold Op.bytesLess at hq
      rw [Bool.or_eq_true, Bool.and_eq_true, decide_eq_true_eq, beq_iff_eq] at hq
      rcases hq with hq | ⟨hq, hq2⟩
      · have := UInt8.lt_iff_toNat_lt.1 hq
        exact lv_mono r q _ _ hlr hr hq' (by omega)
      · subst hq
        exact i2 hq2
    · unfold Op.bytesLess at hq
      rw [Bool.or_eq_false_iff, decide_eq_false_iff_not] at hq
      obtain ⟨q1, q2⟩ := hq
      by_cases hcd : c = d
      · subst hcd
        rw [beq_self_eq_true, Bool.true_and] at q2
        exact i3 (fun e => hne (by rw [e])) q2
      · have : d.toNat < c.toNat := by
          have n1 : ¬ c.toNat < d.toNat := fun e => q1 (UInt8.lt_iff_toNat_lt.2 e)
          have n2 : c.toNat ≠ d.toNat := fun e => hcd (UInt8.toNat_inj.1 e)
          omega
        exact lv_mono q r _ _ hlr.symm hq' hr (by omega)
/-- Of numbers without zeros ahead the greater one is the one that comes later. -/
theorem num_cmp {a b : ByteArray} (ga : Good true a) (gb : Good true b) (da : Dg a) (db : Dg b) (hne : a.toList ≠ b.toList) : (lv 0 b.data.toList < lv 0 a.data.toList → cmpI a b = 1) ∧ (¬ lv 0 b.data.toList < lv 0 a.data.toList → cmpI a b = -1) := by
  have la := (dgL_iff a).1 da
  have lb := (dgL_iff b).1 db
  have key : ∀ (s t : ByteArray), Good true s → Good true t → Dg s → Dg t → s.size < t.size → lv 0 s.data.toList < lv 0 t.data.toList := by
    intro s t gs gt ds dt hst
    have h1 := lv_lt s.data.toList 0 ((dgL_iff s).1 ds)
    rw [size_list] at h1
    have hok := gt.2.2.2 rfl
    unfold okSeg at hok
    have gs1 := gs.1
    have h48 : bt t 0 ≠ 48 := fun q => hok (by omega) q (fun j _ hj => dt j hj)
    have ht0 : 0 < t.data.toList.length := by rw [size_list]; omega
    obtain ⟨c, r, hcr⟩ : ∃ c r, t.data.toList = c :: r := by
      cases hc : t.data.toList with
      | nil => rw [hc] at ht0; simp at ht0
      | cons c r => exact ⟨c, r, rfl⟩
    have hc := (dgL_iff t).1 dt c (by rw [hcr]; exact List.mem_cons_self ..)
    have hcb : bt t 0 = ((c.toNat : Nat) : Int) := by
      have := bt_opt t 0
      rw [hcr] at this
      exact this
    have hc49 : 49 ≤ c.toNat := by
      rw [hcb] at h48
      have : c.toNat ≠ 48 := fun e => h48 (by rw [e]; rfl)
      omega
    have hr : r.length + 1 = t.size := by rw [← size_list, hcr, List.length_cons]
    rw [hcr]
    show _ < lv (0 * 10 + (c.toNat - 48)) r
    have h2 := lv_ge r (0 * 10 + (c.toNat - 48))
    have h3 : 10 ^ s.size ≤ 10 ^ r.length := Nat.pow_le_pow_right (by decide) (by omega)
    have h4 : 1 * 10 ^ r.length ≤ (0 * 10 + (c.toNat - 48)) * 10 ^ r.length := Nat.mul_le_mul_right _ (by omega)
    omega
  have hle : a.data.toList ≠ b.data.toList := by rw [← ByteArray.toList_eq, ← ByteArray.toList_eq]; exact hne
  unfold cmpI
  rw [if_neg hne, if_neg (fun h => h.2 db), if_neg (fun h => h.2 da)]
  rcases Nat.lt_trichotomy a.size b.size with hs | hs | hs
  · have := key a b ga gb da db hs
    rw [if_pos ⟨da, by omega⟩, if_pos hs]
    exact ⟨fun h => by omega, fun _ => rfl⟩
  · rw [if_neg (fun h => h.2 hs), ByteArray.toList_eq, ByteArray.toList_eq]
    obtain ⟨i2, i3⟩ := lv_less a.data.toList b.data.toList 0 (by rw [size_list, size_list]; exact hs) la lb
    cases hq : Op.bytesLess a.data.toList b.data.toList with
    | true =>
      have := i2 hq
      exact ⟨fun h => by omega, fun _ => by simp⟩
    | false =>
      have := i3 hle hq
      exact ⟨fun _ => by simp, fun h => absurd this h⟩
  · have := key b a gb ga db da hs
    rw [if_pos ⟨da, by omega⟩, if_neg (by omega)]
    exact ⟨fun _ => rfl, fun h => absurd this h⟩
end Go.Proofs.YtlhijjfbcgconaaGreatDoor.P

/- Versions: the package's order of what stands behind a hyphen. -/
set_option linter.unusedVariables false
set_option linter.unusedSimpArgs false
namespace Go.Proofs.YtlhijjfbcgconaaGreatDoor.P
open Go.RowKit Go.Proofs.YtlhijjfbcgconaaGreatDoorW.PrintWords Go.Proofs.YtlhijjfbcgconaaGreatDoorW.PrintLast Go.Proofs.YtlhijjfbcgconaaGreatDoorW.PrintMore

/-- An identifier that is well, a number of at most 15 digits. -/
def Id15 (t : ByteArray) : Prop := Good true t ∧ (Dg t → t.size ≤ 15)
theorem parse_dg (t : ByteArray) (h : Id15 t) (hd : Dg t) (W : World) : Calls Tryz.prog 39 #[.string t, .int .i64 10, .int .i64 64] W fun r w' => r = .returned (.tuple #[.int .u64 (lv 0 t.data.toList : Nat), .nilIface]) ∧ Below W.heap.size W w' := by
  have h1 := h.2 hd
  have hl := (dgL_iff t).1 hd
  have hp : 10 ^ t.data.toList.length ≤ 10 ^ 15 := Nat.pow_le_pow_right (by decide) (by rw [size_list]; exact h1)
  have h2 : Lib.parseUintB 64 t.data.toList = .ok (lv 0 t.data.toList) := by
    unfold Lib.parseUintB
    rw [if_neg, parse_lv _ _ hl (by omega)]
    intro h0
    have := size_list t
    rw [h0] at this
    have := h.1.1
    simp at *
    omega
  refine (Tryz.strconv_ParseUint_10_at64_ok t (by omega) _ h2 W).mono ?_
  rintro r w' ⟨rfl, hw⟩
  refine ⟨rfl, ?_⟩
  rcases hw with rfl | rfl
  · exact Below.refl _ _
  · exact bytes_below (Below.refl _ _) (Nat.le_refl _) _ _
theorem parse_nd (t : ByteArray) (h : Id15 t) (hd : ¬ Dg t) (W : World) (hE : TabsE W) : Calls Tryz.prog 39 #[.string t, .int .i64 10, .int .i64 64] W fun r w' => ∃ u tp p, r = .returned (.tuple #[.int .u64 u, .iface tp p]) ∧ Below W.heap.size W w' := by
  have hz := h.1.2.1
  obtain ⟨⟨a, b, h1⟩, c, d, h2⟩ := hE
  have c1 := World.var?_cell (show Tryz.prog.globalNamed "strconv.ErrSyntax" = some 2 by kernel_rfl) h1 0
  have c2 := World.var?_cell (show Tryz.prog.globalNamed "strconv.ErrRange" = some 3 by kernel_rfl) h2 0
  cases hq : Lib.parseUintB 64 t.data.toList with
  | ok u =>
    exfalso
    unfold Lib.parseUintB at hq
    split at hq
    · cases hq
    · exact hd ((dgL_iff t).2 (parse_ok_dg _ _ _ _ hq))
  | range =>
    refine (Tryz.strconv_ParseUint_10_at64_range t (by omega) hq _ W (by simpa using c2) (.inr ⟨c, d, rfl⟩)).mono ?_
    rintro r w' ⟨N, rfl, _, _, hb⟩
    exact ⟨_, _, _, rfl, hb⟩
  | _ =>
    refine (Tryz.strconv_ParseUint_10_at64_syntax t (by omega) (fun u h => by rw [hq] at h; cases h) (fun h => by rw [hq] at h; cases h) _ W (by simpa using c1) (.inr ⟨a, b, rfl⟩)).mono ?_
    rintro r w' ⟨N, rfl, _, _, hb⟩
    exact ⟨_, _, _, rfl, hb⟩
set_option maxHeartbeats 1600000 in
set_option maxRecDepth 100000 in
theorem prePart_call (s t : ByteArray) (hs : Id15 s) (ht : Id15 t) (w : World) (hE : TabsE w) :
    Calls Tryz.prog 82 #[.string s, .string t] w fun e w' => e = .returned (.int .i64 (cmpI s t)) ∧ Below w.heap.size w w' := by
  have HE := Lib.hid hE
  have es := full_t hs.1.1
  have et := full_t ht.1.1
  by_cases c0 : s.toList = t.toList
  · have HV := Lib.hid (show cmpI s t = 0 by unfold cmpI; rw [if_pos c0])
    have b0 : (s.toList == t.toList) = true := beq_iff_eq.2 c0
    have HB2 := Lib.hid (Below.refl w.heap.size w)
    clear c0 hs ht hE
    go_enter Tryz.func82, Tryz.ntmps82
    go_wp2
    go_ret
    exact ⟨congrArg (fun z => Ending.returned (Value.int .i64 z)) HV.out.symm, HB2.out⟩
  have b0 : (s.toList == t.toList) = false := beq_eq_false_iff_ne.2 c0
  by_cases dt : Dg t
  · have HO := Lib.hid (fun W => parse_dg t ht dt W)
    by_cases ds : Dg s
    · have HS := Lib.hid (fun W => parse_dg s hs ds W)
      obtain ⟨n1, n2⟩ := num_cmp hs.1 ht.1 ds dt c0
      by_cases c1 : lv 0 t.data.toList < lv 0 s.data.toList
      · have HV := Lib.hid (n1 c1)
        have d1 : decide (((lv 0 t.data.toList : Nat) : Int) < ((lv 0 s.data.toList : Nat) : Int)) = true := decide_eq_true (by omega)
        have d2 : decide (lv 0 t.data.toList < lv 0 s.data.toList) = true := decide_eq_true c1
        generalize lv 0 t.data.toList = x at *
        generalize lv 0 s.data.toList = y at *
        clear c0 hs ht hE dt ds n1 n2 c1
        go_enter Tryz.func82, Tryz.ntmps82
        go_wp2_with fail
        refine (HO.out _).mono ?_
        rintro e w1 ⟨rfl, hb1⟩
        have HB1 := Lib.hid hb1
        have HE1 := Lib.hid (HE.out.below hb1)
        clear hb1 HO
        go_wp2_with fail
        refine (HS.out _).mono ?_
        rintro e w2 ⟨rfl, hb2⟩
        have HB2 := Lib.hid (HB1.out.trans (hb2.mono HB1.out.size))
        clear hb2 HS HB1
        go_wp2
        go_ret
        exact ⟨congrArg (fun z => Ending.returned (Value.int .i64 z)) HV.out.symm, HB2.out⟩
      · have HV := Lib.hid (n2 c1)
        have d1 : decide (((lv 0 t.data.toList : Nat) : Int) < ((lv 0 s.data.toList : Nat) : Int)) = false := decide_eq_false (by omega)
        have d2 : decide (lv 0 t.data.toList < lv 0 s.data.toList) = false := decide_eq_false c1
        generalize lv 0 t.data.toList = x at *
        generalize lv 0 s.data.toList = y at *
        clear c0 hs ht hE dt ds n1 n2 c1
        go_enter Tryz.func82, Tryz.ntmps82
        go_wp2_with fail
        refine (HO.out _).mono ?_
        rintro e w1 ⟨rfl, hb1⟩
        have HB1 := Lib.hid hb1
        have HE1 := Lib.hid (HE.out.below hb1)
        clear hb1 HO
        go_wp2_with fail
        refine (HS.out _).mono ?_
        rintro e w2 ⟨rfl, hb2⟩
        have HB2 := Lib.hid (HB1.out.trans (hb2.mono HB1.out.size))
        clear hb2 HS HB1
        go_wp2
        go_ret
        exact ⟨congrArg (fun z => Ending.returned (Value.int .i64 z)) HV.out.symm, HB2.out⟩
    · have HS := Lib.hid (fun W hW => parse_nd s hs ds W hW)
      have HV := Lib.hid (show cmpI s t = 1 by unfold cmpI; rw [if_neg c0, if_neg (fun h => ds h.1), if_pos ⟨dt, ds⟩])
      clear c0 hs ht hE dt ds
      go_enter Tryz.func82, Tryz.ntmps82
      go_wp2_with fail
      refine (HO.out _).mono ?_
      rintro e w1 ⟨rfl, hb1⟩
      have HB1 := Lib.hid hb1
      have HE1 := Lib.hid (HE.out.below hb1)
      clear hb1 HO
      go_wp2_with fail
      refine (HS.out _ HE1.out).mono ?_
      rintro e w2 ⟨u2, t2, p2, rfl, hb2⟩
      have HB2 := Lib.hid (HB1.out.trans (hb2.mono HB1.out.size))
      clear hb2 HS HB1
      go_wp2
      go_ret
      exact ⟨congrArg (fun z => Ending.returned (Value.int .i64 z)) HV.out.symm, HB2.out⟩
  · have HO := Lib.hid (fun W hW => parse_nd t ht dt W hW)
    by_cases ds : Dg s
    · have HS := Lib.hid (fun W => parse_dg s hs ds W)
      have HV := Lib.hid (show cmpI s t = -1 by unfold cmpI; rw [if_neg c0, if_pos ⟨ds, dt⟩])
      clear c0 hs ht hE dt ds
      go_enter Tryz.func82, Tryz.ntmps82
      go_wp2_with fail
      refine (HO.out _ HE.out).mono ?_
      rintro e w1 ⟨u1, t1, p1, rfl, hb1⟩
      have HB1 := Lib.hid hb1
      have HE1 := Lib.hid (HE.out.below hb1)
      clear hb1 HO
      go_wp2_with fail
      refine (HS.out _).mono ?_
      rintro e w2 ⟨rfl, hb2⟩
      have HB2 := Lib.hid (HB1.out.trans (hb2.mono HB1.out.size))
      clear hb2 HS HB1
      go_wp2
      go_ret
      exact ⟨congrArg (fun z => Ending.returned (Value.int .i64 z)) HV.out.symm, HB2.out⟩
    · have HS := Lib.hid (fun W hW => parse_nd s hs ds W hW)
      cases hq : Op.bytesLess s.toList t.toList with
      | true =>
        have HV := Lib.hid (show cmpI s t = -1 by unfold cmpI; rw [if_neg c0, if_neg (fun h => ds h.1), if_neg (fun h => dt h.1), if_neg (fun h => ds h.1), if_pos hq])
        clear c0 hs ht hE dt ds
        go_enter Tryz.func82, Tryz.ntmps82
        go_wp2_with fail
        refine (HO.out _ HE.out).mono ?_
        rintro e w1 ⟨u1, t1, p1, rfl, hb1⟩
        have HB1 := Lib.hid hb1
        have HE1 := Lib.hid (HE.out.below hb1)
        clear hb1 HO
        go_wp2_with fail
        refine (HS.out _ HE1.out).mono ?_
        rintro e w2 ⟨u2, t2, p2, rfl, hb2⟩
        have HB2 := Lib.hid (HB1.out.trans (hb2.mono HB1.out.size))
        clear hb2 HS HB1
        go_wp2
        go_ret
        exact ⟨congrArg (fun z => Ending.returned (Value.int .i64 z)) HV.out.symm, HB2.out⟩
      | false =>
        have HV := Lib.hid (show cmpI s t = 1 by unfold cmpI; rw [if_neg c0, if_neg (fun h => ds h.1), if_neg (fun h => dt h.1), if_neg (fun h => ds h.1), if_neg (by rw [hq]; decide)])
        clear c0 hs ht hE dt ds
        go_enter Tryz.func82, Tryz.ntmps82
        go_wp2_with fail
        refine (HO.out _ HE.out).mono ?_
        rintro e w1 ⟨u1, t1, p1, rfl, hb1⟩
        have HB1 := Lib.hid hb1
        have HE1 := Lib.hid (HE.out.below hb1)
        clear hb1 HO
        go_wp2_with fail
        refine (HS.out _ HE1.out).mono ?_
        rintro e w2 ⟨u2, t2, p2, rfl, hb2⟩
        have HB2 := Lib.hid (HB1.out.trans (hb2.mono HB1.out.size))
        clear hb2 HS HB1
        go_wp2
        go_ret
        exact ⟨congrArg (fun z => Ending.returned (Value.int .i64 z)) HV.out.symm, HB2.out⟩
set_option maxHeartbeats 1600000 in
set_option maxRecDepth 100000 in
theorem prePart_none (t : ByteArray) (ht : 0 < t.size) (w : World) :
    Calls Tryz.prog 82 #[.string ⟨#[]⟩, .string t] w fun e w' => e = .returned (.int .i64 (-1)) ∧ Below w.heap.size w w' := by
  have et := full_t ht
  have ez : (⟨#[]⟩ : ByteArray).toList = [] := by rw [ByteArray.toList_eq]
  have ne : t.toList ≠ [] := fun h => by rw [h] at et; cases et
  have b0 : (([] : List UInt8) == t.toList) = false := beq_eq_false_iff_ne.2 ne.symm
  have b1 : (t.toList == ([] : List UInt8)) = false := beq_eq_false_iff_ne.2 ne
  have HB2 := Lib.hid (Below.refl w.heap.size w)
  clear ht ne
  go_enter Tryz.func82, Tryz.ntmps82
  go_wp2
  go_ret
  exact ⟨rfl, HB2.out⟩
set_option maxHeartbeats 1600000 in
set_option maxRecDepth 100000 in
theorem prePart_more (t : ByteArray) (ht : 0 < t.size) (w : World) :
    Calls Tryz.prog 82 #[.string t, .string ⟨#[]⟩] w fun e w' => e = .returned (.int .i64 (1)) ∧ Below w.heap.size w w' := by
  have et := full_t ht
  have ez : (⟨#[]⟩ : ByteArray).toList = [] := by rw [ByteArray.toList_eq]
  have ne : t.toList ≠ [] := fun h => by rw [h] at et; cases et
  have b0 : (([] : List UInt8) == t.toList) = false := beq_eq_false_iff_ne.2 ne.symm
  have b1 : (t.toList == ([] : List UInt8)) = false := beq_eq_false_iff_ne.2 ne
  have HB2 := Lib.hid (Below.refl w.heap.size w)
  clear ht ne
  go_enter Tryz.func82, Tryz.ntmps82
  go_wp2
  go_ret
  exact ⟨rfl, HB2.out⟩
end Go.Proofs.YtlhijjfbcgconaaGreatDoor.P

/- Versions: the package's order. -/
set_option linter.unusedVariables false
set_option linter.unusedSimpArgs false
namespace Go.Proofs.YtlhijjfbcgconaaGreatDoor.P
open Go.RowKit Go.Proofs.YtlhijjfbcgconaaGreatDoorW.PrintWords Go.Proofs.YtlhijjfbcgconaaGreatDoorW.PrintLast Go.Proofs.YtlhijjfbcgconaaGreatDoorW.PrintMore

theorem cmpL_drop (l m : List ByteArray) (i : Nat) (hl : i < l.length) (hm : i < m.length) : cmpL (l.drop i) (m.drop i) = if cmpI l[i] m[i] ≠ 0 then cmpI l[i] m[i] else cmpL (l.drop (i + 1)) (m.drop (i + 1)) := by
  rw [List.drop_eq_getElem_cons hl, List.drop_eq_getElem_cons hm]
  rfl
theorem cmpL_less (l m : List ByteArray) (i : Nat) (hl : ¬ i < l.length) (hm : i < m.length) : cmpL (l.drop i) (m.drop i) = -1 := by
  rw [List.drop_eq_nil_of_le (by omega), List.drop_eq_getElem_cons hm]
  rfl
theorem cmpL_more (l m : List ByteArray) (i : Nat) (hl : i < l.length) (hm : ¬ i < m.length) : cmpL (l.drop i) (m.drop i) = 1 := by
  rw [List.drop_eq_nil_of_le (show m.length ≤ i by omega), List.drop_eq_getElem_cons hl]
  rfl
theorem cmpL_end (l m : List ByteArray) (i : Nat) (hl : ¬ i < l.length) (hm : ¬ i < m.length) : cmpL (l.drop i) (m.drop i) = 0 := by
  rw [List.drop_eq_nil_of_le (by omega), List.drop_eq_nil_of_le (by omega)]
  rfl
set_option maxHeartbeats 1600000 in
set_option maxRecDepth 100000 in
theorem prerelease_call (k : Nat) (p q : ByteArray) (l m : List ByteArray) (hl : semver_zzSplit.f k p ⟨#[46]⟩ = some l) (hm : semver_zzSplit.f k q ⟨#[46]⟩ = some m) (gl : ∀ t ∈ l, Id15 t) (gm : ∀ t ∈ m, Id15 t) (zl : l.length ≤ 100) (zm : m.length ≤ 100) (w : World) (hE : TabsE w) :
    Calls Tryz.prog 76 #[.string p, .string q] w fun e w' => e = .returned (.int .i64 (cmpL l m)) ∧ Below w.heap.size w w' := by
  have HL := Lib.hid (fun W => semver_zzSplit.calls k p ⟨#[46]⟩ l W hl)
  have HM := Lib.hid (fun W => semver_zzSplit.calls k q ⟨#[46]⟩ m W hm)
  have HGL := Lib.hid gl
  have HGM := Lib.hid gm
  have HE0 := Lib.hid hE
  obtain ⟨R, hR⟩ : ∃ R, R = cmpL l m := ⟨_, rfl⟩
  have HR := Lib.hid (show R = cmpL (l.drop 0) (m.drop 0) from hR)
  rw [← hR]
  clear hl hm gl gm hE hR
  go_enter Tryz.func76, Tryz.ntmps76
  go_wp2_with fail
  refine (HL.out _).mono ?_
  rintro e w1 ⟨v1, rfl, hr1, hb1⟩
  obtain ⟨A1, k1, rfl, hle1, hC1⟩ := Kd.R_reads hr1
  have HC1 := Lib.hid hC1
  have HB1 := Lib.hid hb1
  clear hr1 hC1 hb1 HL
  go_wp2_with fail
  refine (HM.out _).mono ?_
  rintro e w2 ⟨v2, rfl, hr2, hb2⟩
  obtain ⟨A2, k2, rfl, hle2, hC2⟩ := Kd.R_reads hr2
  have HCM := Lib.hid hC2
  have HCL := Lib.hid (Kd.C_below HC1.out hb2)
  have HB2 := Lib.hid (HB1.out.trans (hb2.mono HB1.out.size))
  have HE := Lib.hid (HE0.out.below HB2.out)
  clear hr2 hC2 hb2 HM HC1 HB1 HE0 hle1 hle2
  go_upto_if 25 with (fail)
  go_cut [9] (fun v wc => v = .int .i64 ((max l.length m.length : Nat) : Int) ∧ w2 = wc)
  case first =>
    by_cases h1 : (l.length : Int) < (m.length : Int)
    · have d1 : decide ((l.length : Int) < (m.length : Int)) = true := decide_eq_true h1
      have d2 : decide (l.length < m.length) = true := decide_eq_true (by omega)
      go_wp2
      go_meet
      case rel => exact ⟨congrArg (Value.int .i64) (by omega), rfl⟩
    · have d1 : decide ((l.length : Int) < (m.length : Int)) = false := decide_eq_false h1
      have d2 : decide (l.length < m.length) = false := decide_eq_false (by omega)
      go_wp2
      go_meet
      case rel => exact ⟨congrArg (Value.int .i64) (by omega), rfl⟩
  case rest =>
    obtain ⟨rfl, rfl⟩ := hcut
    go_wp2
    go_loopw [10, 11, 12, 13] (fun iv y1 y2 y3 wr => ∃ (i : Nat) (z1 z2 z3 : Value), iv = .int .i64 i ∧ z1 = y1 ∧ z2 = y2 ∧ z3 = y3 ∧ i ≤ max l.length m.length ∧ Hid (R = cmpL (l.drop i) (m.drop i)) ∧ Hid (Below w2.heap.size w2 wr)) (fun iv _ _ _ _ => max l.length m.length - (intOf iv).toNat)
    case atStart => exact ⟨0, _, _, _, rfl, rfl, rfl, rfl, Nat.zero_le _, HR, Lib.hid (Below.refl _ _)⟩
    case round =>
      clear HR
      obtain ⟨i, z1, z2, z3, rfl, rfl, rfl, rfl, hi, hX, hW⟩ := hrel
      by_cases hl : i < l.length
      · have dl : decide ((i : Int) < (l.length : Int)) = true := decide_eq_true (by omega)
        have dl2 : decide (i < l.length) = true := decide_eq_true hl
        obtain ⟨al, ale, ql0⟩ := Kd.at_string (Kd.C_below HCL.out hW.out) (i : Int) (by omega) (by omega)
        subst ale
        have ql : wr.cell? (al.add i) = some (.string l[i]) := by
          have h1 : rdOf (⟨#[]⟩ : ByteArray) l (i : Int) = l[i] := by simp [rdOf, hl]
          rw [← h1]
          exact ql0
        clear ql0
        by_cases hm : i < m.length
        · have dm : decide ((i : Int) < (m.length : Int)) = true := decide_eq_true (by omega)
          have dm2 : decide (i < m.length) = true := decide_eq_true hm
          obtain ⟨am, ame, qm0⟩ := Kd.at_string (Kd.C_below HCM.out hW.out) (i : Int) (by omega) (by omega)
          subst ame
          have qm : wr.cell? (am.add i) = some (.string m[i]) := by
            have h1 : rdOf (⟨#[]⟩ : ByteArray) m (i : Int) = m[i] := by simp [rdOf, hm]
            rw [← h1]
            exact qm0
          clear qm0
          have HV := Lib.hid (cmpL_drop l m i hl hm)
          have HPP := Lib.hid (prePart_call l[i] m[i] (HGL.out _ (List.getElem_mem _)) (HGM.out _ (List.getElem_mem _)) wr (HE.out.below hW.out))
          generalize cmpI l[i] m[i] = d at *
          have dx : decide ((i : Int) < ((max l.length m.length : Nat) : Int)) = true := decide_eq_true (by omega)
          by_cases hd : d = 0
          · have hd2 : (d != 0) = false := bne_eq_false_iff_eq.2 hd
            have HX2 := Lib.hid (show R = cmpL (l.drop (i + 1)) (m.drop (i + 1)) by rw [hX.out, HV.out, if_neg (fun h => h hd)])
            clear hX HV hd
            go_wp2_with fail
            refine HPP.out.mono ?_
            rintro e w3 ⟨rfl, hb3⟩
            have HW3 := Lib.hid (hW.out.trans (hb3.mono hW.out.size))
            clear hb3 HPP
            go_wp2
            go_roundw
            case rel => exact ⟨i + 1, _, _, _, by go_num, rfl, rfl, rfl, by omega, HX2, HW3⟩
            case measure => simp [intOf]; omega
          · have hd2 : (d != 0) = true := bne_iff_ne.2 hd
            have HZ := Lib.hid (show R = d by rw [hX.out, HV.out, if_pos hd])
            clear hX HV hd
            go_wp2_with fail
            refine HPP.out.mono ?_
            rintro e w3 ⟨rfl, hb3⟩
            have HW3 := Lib.hid (hW.out.trans (hb3.mono hW.out.size))
            clear hb3 HPP
            have HBF := Lib.hid (HB2.out.trans (HW3.out.mono HB2.out.size))
            go_wp2
            go_ret
            exact ⟨congrArg (fun z => Ending.returned (Value.int .i64 z)) HZ.out.symm, HBF.out⟩
        · have dm : decide ((i : Int) < (m.length : Int)) = false := decide_eq_false (by omega)
          have dm2 : decide (i < m.length) = false := decide_eq_false hm
          have HZ := Lib.hid (show R = 1 by rw [hX.out, cmpL_more l m i hl hm])
          have HPP := Lib.hid (prePart_more l[i] (HGL.out _ (List.getElem_mem _)).1.1 wr)
          have dx : decide ((i : Int) < ((max l.length m.length : Nat) : Int)) = true := decide_eq_true (by omega)
          clear hX
          go_wp2_with fail
          refine HPP.out.mono ?_
          rintro e w3 ⟨rfl, hb3⟩
          have HW3 := Lib.hid (hW.out.trans (hb3.mono hW.out.size))
          clear hb3 HPP
          have HBF := Lib.hid (HB2.out.trans (HW3.out.mono HB2.out.size))
          go_wp2
          go_ret
          exact ⟨congrArg (fun z => Ending.returned (Value.int .i64 z)) HZ.out.symm, HBF.out⟩
      · have dl : decide ((i : Int) < (l.length : Int)) = false := decide_eq_false (by omega)
        have dl2 : decide (i < l.length) = false := decide_eq_false hl
        by_cases hm : i < m.length
        · have dm : decide ((i : Int) < (m.length : Int)) = true := decide_eq_true (by omega)
          have dm2 : decide (i < m.length) = true := decide_eq_true hm
          obtain ⟨am, ame, qm0⟩ := Kd.at_string (Kd.C_below HCM.out hW.out) (i : Int) (by omega) (by omega)
          subst ame
          have qm : wr.cell? (am.add i) = some (.string m[i]) := by
            have h1 : rdOf (⟨#[]⟩ : ByteArray) m (i : Int) = m[i] := by simp [rdOf, hm]
            rw [← h1]
            exact qm0
          clear qm0
          have HZ := Lib.hid (show R = -1 by rw [hX.out, cmpL_less l m i hl hm])
          have HPP := Lib.hid (prePart_none m[i] (HGM.out _ (List.getElem_mem _)).1.1 wr)
          have dx : decide ((i : Int) < ((max l.length m.length : Nat) : Int)) = true := decide_eq_true (by omega)
          clear hX
          go_wp2_with fail
          refine HPP.out.mono ?_
          rintro e w3 ⟨rfl, hb3⟩
          have HW3 := Lib.hid (hW.out.trans (hb3.mono hW.out.size))
          clear hb3 HPP
          have HBF := Lib.hid (HB2.out.trans (HW3.out.mono HB2.out.size))
          go_wp2
          go_ret
          exact ⟨congrArg (fun z => Ending.returned (Value.int .i64 z)) HZ.out.symm, HBF.out⟩
        · have HZ := Lib.hid (show R = 0 by rw [hX.out, cmpL_end l m i hl hm])
          have dx : decide ((i : Int) < ((max l.length m.length : Nat) : Int)) = false := decide_eq_false (by omega)
          have HBF := Lib.hid (HB2.out.trans (hW.out.mono HB2.out.size))
          clear hX
          go_wp2
          go_ret
          exact ⟨congrArg (fun z => Ending.returned (Value.int .i64 z)) HZ.out.symm, HBF.out⟩
theorem seg_pure (a b : Int) : semver_compareSegment.f a b = some (seg3 a b) := by
  unfold semver_compareSegment.f seg3
  split
  · rfl
  · split <;> rfl
theorem seg_call (a b : Int) (W : World) : Calls Tryz.prog 83 #[.int .u64 a, .int .u64 b] W fun e w' => e = .returned (.int .i64 (seg3 a b)) ∧ Below W.heap.size W w' := by
  refine (semver_compareSegment.calls a b (seg3 a b) W (seg_pure a b)).mono ?_
  rintro e w' ⟨rfl, hd⟩
  obtain ⟨n, rfl⟩ := hd.out
  exact ⟨rfl, pw_below_drewN (Below.refl _ _) n⟩
/-- What stands behind the hyphen, or not. -/
def preC (pa pb : ByteArray) (C : Int) : Int := if pa.size = 0 then (if pb.size = 0 then 0 else 1) else if pb.size = 0 then -1 else C
def cmpV (n1 n2 n3 m1 m2 m3 : Int) (pa pb : ByteArray) (C : Int) : Int := if ord3 n1 n2 n3 m1 m2 m3 ≠ 0 then ord3 n1 n2 n3 m1 m2 m3 else preC pa pb C
theorem seg3_range (a b : Int) : seg3 a b = -1 ∨ seg3 a b = 0 ∨ seg3 a b = 1 := by
  unfold seg3
  repeat' split
  all_goals simp
set_option maxHeartbeats 1600000 in
set_option maxRecDepth 100000 in
theorem compare_call (qa qb : Nat) (n1 n2 n3 m1 m2 m3 : Int) (pa ma oa pb mb ob : ByteArray) (C : Int) (w : World) (hA : w.heap[qa]? = some (.cells (verCells n1 n2 n3 pa ma oa) 64 (0, 0))) (hB : w.heap[qb]? = some (.cells (verCells m1 m2 m3 pb mb ob) 64 (0, 0))) (hE : TabsE w)
    (hpre : 0 < pa.size → 0 < pb.size → ∀ W, TabsE W → Calls Tryz.prog 76 #[.string pa, .string pb] W fun e w' => e = .returned (.int .i64 C) ∧ Below W.heap.size W w') :
    Calls Tryz.prog 77 #[.pointer (some ⟨qa, 0, none⟩), .pointer (some ⟨qb, 0, none⟩)] w fun e w' => e = .returned (.int .i64 (cmpV n1 n2 n3 m1 m2 m3 pa pb C)) ∧ Below w.heap.size w w' := by
  have HS := Lib.hid (⟨hA, hB⟩ : w.heap[qa]? = some (.cells (verCells n1 n2 n3 pa ma oa) 64 (0, 0)) ∧ w.heap[qb]? = some (.cells (verCells m1 m2 m3 pb mb ob) 64 (0, 0)))
  have HBW := Lib.hid (Below.refl w.heap.size w)
  have HE := Lib.hid hE
  have HP := Lib.hid hpre
  obtain ⟨R, hR⟩ : ∃ R, R = cmpV n1 n2 n3 m1 m2 m3 pa pb C := ⟨_, rfl⟩
  have HR := Lib.hid hR
  rw [← hR]
  clear hA hB hE hpre hR
  go_enter Tryz.func77, Tryz.ntmps77
  go_upto_region 1 with fail
  have HSd := Lib.hid (show w.drew.heap[qa]? = _ ∧ w.drew.heap[qb]? = _ from HS.out)
  have HBd := Lib.hid (show Below w.heap.size w w.drew from HBW.out.drew)
  clear HS HBW
  refine start_ (n := 10) (ds := []) (S := fun w' => w'.heap[qa]? = some (.cells (verCells n1 n2 n3 pa ma oa) 64 (0, 0)) ∧ w'.heap[qb]? = some (.cells (verCells m1 m2 m3 pb mb ob) 64 (0, 0))) #[false, false, false, false, false, false, false, false, false, false] (by kernel_rfl) rfl rfl (HSd.out) (fun hHeld => ?_)
  generalize w.drew = a1 at *
  refine pure_ (i := 0) (N := some 10) (v := ?_) (a' := ?_) #[true, false, false, false, false, false, false, false, false, false] rfl rfl (by kernel_rfl) (fun _ _ _ h => h) (Or.inl ⟨by rfl, ?_⟩) ?_ ?_
  rotate_left; (intro w'; go_simp; with_reducible rfl)
  rotate_left; (go_frame; rfl)
  refine pure_ (i := 1) (N := some 11) (v := ?_) (a' := ?_) #[true, true, false, false, false, false, false, false, false, false] rfl rfl (by kernel_rfl) (fun _ _ _ h => h) (Or.inl ⟨by rfl, ?_⟩) ?_ ?_
  rotate_left; (intro w'; go_simp; with_reducible rfl)
  rotate_left; (go_frame; rfl)
  refine pure_ (i := 4) (N := some 14) (v := ?_) (a' := ?_) #[true, true, false, false, true, false, false, false, false, false] rfl rfl (by kernel_rfl) (fun _ _ _ h => h) (Or.inl ⟨by rfl, ?_⟩) ?_ ?_
  rotate_left; (intro w'; go_simp; with_reducible rfl)
  rotate_left; (go_frame; rfl)
  refine pure_ (i := 5) (N := some 15) (v := ?_) (a' := ?_) #[true, true, false, false, true, true, false, false, false, false] rfl rfl (by kernel_rfl) (fun _ _ _ h => h) (Or.inl ⟨by rfl, ?_⟩) ?_ ?_
  rotate_left; (intro w'; go_simp; with_reducible rfl)
  rotate_left; (go_frame; rfl)
  refine take_ (i := 2) (N := some 12) (v := ?_) (a' := ?_) #[true, true, true, false, true, true, false, false, false, false] rfl rfl (by kernel_rfl) (fun _ _ _ h => h) (Or.inl ⟨by rfl, ?_⟩) hHeld ?_ ?_
  rotate_left
  · intro w' hS
    obtain ⟨hS, _⟩ := hS
    have y0 := blk_cell hS 0
    have y1 := blk_cell hS 1
    have y2 := blk_cell hS 2
    have y3 := blk_cell hS 3
    have y4 := blk_cell hS 4
    have y5 := blk_cell hS 5
    simp only [verCells, List.getElem?_toArray, List.getElem?_cons_zero, List.getElem?_cons_succ] at y0 y1 y2 y3 y4 y5
    clear hS
    go_simp
    with_reducible rfl
  rotate_left; (go_frame; rfl)
  refine take_ (i := 6) (N := some 16) (v := ?_) (a' := ?_) #[true, true, true, false, true, true, true, false, false, false] rfl rfl (by kernel_rfl) (fun _ _ _ h => h) (Or.inl ⟨by rfl, ?_⟩) hHeld ?_ ?_
  rotate_left
  · intro w' hS
    obtain ⟨_, hS⟩ := hS
    have y0 := blk_cell hS 0
    have y1 := blk_cell hS 1
    have y2 := blk_cell hS 2
    have y3 := blk_cell hS 3
    have y4 := blk_cell hS 4
    have y5 := blk_cell hS 5
    simp only [verCells, List.getElem?_toArray, List.getElem?_cons_zero, List.getElem?_cons_succ] at y0 y1 y2 y3 y4 y5
    clear hS
    go_simp
    with_reducible rfl
  rotate_left; (go_frame; rfl)
  refine one_ (i := 3) (N := some 13) #[true, true, true, true, true, true, true, false, false, false] rfl rfl (by kernel_rfl) (by decide) (fun K hK => ?_)
  refine goes_ Tryz.func73 (by kernel_rfl) rfl #[.agg #[.int .u64 n1, .int .u64 n2, .int .u64 n3, .string pa, .string ma, .string oa]] (by rfl) rfl rfl (by (try simp only [List.map_toArray, List.map_cons, List.map_nil]); first | done | rfl) ?_
  refine (verMajor_call n1 n2 n3 pa ma oa a1).mono ?_
  rintro e b1 ⟨rfl, hb⟩
  have HSe := Lib.hid (⟨blk_below HSd.out.1 hb, blk_below HSd.out.2 hb⟩ : _ ∧ _)
  have HBe := Lib.hid (HBd.out.trans (hb.mono HBd.out.size))
  clear hb HSd HBd
  refine ⟨_, rfl, ?_⟩
  clear hHeld
  refine hK.out _ _ (HSe.out) (fun hHeld => ?_)
  clear hK K
  refine norm_ (a' := ?_) ?_ ?_
  rotate_left
  · show Act.put _ (some 13) _ = _
    go_frame
    rfl
  refine one_ (i := 7) (N := some 17) #[true, true, true, true, true, true, true, true, false, false] rfl rfl (by kernel_rfl) (by decide) (fun K hK => ?_)
  refine goes_ Tryz.func73 (by kernel_rfl) rfl #[.agg #[.int .u64 m1, .int .u64 m2, .int .u64 m3, .string pb, .string mb, .string ob]] (by rfl) rfl rfl (by (try simp only [List.map_toArray, List.map_cons, List.map_nil]); first | done | rfl) ?_
  refine (verMajor_call m1 m2 m3 pb mb ob b1).mono ?_
  rintro e c1 ⟨rfl, hb⟩
  have HSf := Lib.hid (⟨blk_below HSe.out.1 hb, blk_below HSe.out.2 hb⟩ : _ ∧ _)
  have HBf := Lib.hid (HBe.out.trans (hb.mono HBe.out.size))
  clear hb HSe HBe
  refine ⟨_, rfl, ?_⟩
  clear hHeld
  refine hK.out _ _ (HSf.out) (fun hHeld => ?_)
  clear hK K
  refine norm_ (a' := ?_) ?_ ?_
  rotate_left
  · show Act.put _ (some 17) _ = _
    go_frame
    rfl
  refine one_ (i := 8) (N := some 18) #[true, true, true, true, true, true, true, true, true, false] rfl rfl (by kernel_rfl) (by decide) (fun K hK => ?_)
  refine goes_ Tryz.func83 (by kernel_rfl) rfl #[.int .u64 n1, .int .u64 m1] (by rfl) rfl rfl (by (try simp only [List.map_toArray, List.map_cons, List.map_nil]); first | done | rfl) ?_
  refine (seg_call n1 m1 c1).mono ?_
  rintro e x1 ⟨rfl, hb⟩
  have HS := Lib.hid (⟨blk_below HSf.out.1 hb, blk_below HSf.out.2 hb⟩ : _ ∧ _)
  have HBW := Lib.hid (HBf.out.trans (hb.mono HBf.out.size))
  clear hb HSf HBf
  refine ⟨_, rfl, ?_⟩
  clear hHeld
  refine hK.out _ _ (HS.out) (fun hHeld => ?_)
  clear hK K
  refine norm_ (a' := ?_) ?_ ?_
  rotate_left
  · show Act.put _ (some 18) _ = _
    go_frame
    rfl
  refine pure_ (i := 9) (N := some 5) (v := ?_) (a' := ?_) #[true, true, true, true, true, true, true, true, true, true] rfl rfl (by kernel_rfl) (fun _ _ _ h => h) (Or.inl ⟨by rfl, ?_⟩) ?_ ?_
  rotate_left; (intro w'; go_simp; with_reducible rfl)
  rotate_left; (go_frame; rfl)
  refine done_ (by kernel_rfl) ?_
  clear hHeld
  by_cases h1 : seg3 n1 m1 = 0
  rotate_left
  · have HV := Lib.hid (show R = seg3 n1 m1 by rw [HR.out]; unfold cmpV ord3; simp [h1])
    have d1 : (seg3 n1 m1 != 0) = true := bne_iff_ne.2 h1
    generalize seg3 n1 m1 = d at *
    clear h1 HS HE HP HR
    go_wp2
    go_ret
    exact ⟨congrArg (fun z => Ending.returned (Value.int .i64 z)) HV.out.symm, HBW.out⟩
  rw [h1]
  go_upto_region 4 with fail
  have HSd := Lib.hid (show x1.drew.heap[qa]? = _ ∧ x1.drew.heap[qb]? = _ from HS.out)
  have HBd := Lib.hid (show Below w.heap.size w x1.drew from HBW.out.drew)
  clear HS HBW
  refine start_ (n := 10) (ds := []) (S := fun w' => w'.heap[qa]? = some (.cells (verCells n1 n2 n3 pa ma oa) 64 (0, 0)) ∧ w'.heap[qb]? = some (.cells (verCells m1 m2 m3 pb mb ob) 64 (0, 0))) #[false, false, false, false, false, false, false, false, false, false] (by kernel_rfl) rfl rfl (HSd.out) (fun hHeld => ?_)
  generalize x1.drew = a2 at *
  refine pure_ (i := 0) (N := some 22) (v := ?_) (a' := ?_) #[true, false, false, false, false, false, false, false, false, false] rfl rfl (by kernel_rfl) (fun _ _ _ h => h) (Or.inl ⟨by rfl, ?_⟩) ?_ ?_
  rotate_left; (intro w'; go_simp; with_reducible rfl)
  rotate_left; (go_frame; rfl)
  refine pure_ (i := 1) (N := some 23) (v := ?_) (a' := ?_) #[true, true, false, false, false, false, false, false, false, false] rfl rfl (by kernel_rfl) (fun _ _ _ h => h) (Or.inl ⟨by rfl, ?_⟩) ?_ ?_
  rotate_left; (intro w'; go_simp; with_reducible rfl)
  rotate_left; (go_frame; rfl)
  refine pure_ (i := 4) (N := some 26) (v := ?_) (a' := ?_) #[true, true, false, false, true, false, false, false, false, false] rfl rfl (by kernel_rfl) (fun _ _ _ h => h) (Or.inl ⟨by rfl, ?_⟩) ?_ ?_
  rotate_left; (intro w'; go_simp; with_reducible rfl)
  rotate_left; (go_frame; rfl)
  refine pure_ (i := 5) (N := some 27) (v := ?_) (a' := ?_) #[true, true, false, false, true, true, false, false, false, false] rfl rfl (by kernel_rfl) (fun _ _ _ h => h) (Or.inl ⟨by rfl, ?_⟩) ?_ ?_
  rotate_left; (intro w'; go_simp; with_reducible rfl)
  rotate_left; (go_frame; rfl)
  refine take_ (i := 2) (N := some 24) (v := ?_) (a' := ?_) #[true, true, true, false, true, true, false, false, false, false] rfl rfl (by kernel_rfl) (fun _ _ _ h => h) (Or.inl ⟨by rfl, ?_⟩) hHeld ?_ ?_
  rotate_left
  · intro w' hS
    obtain ⟨hS, _⟩ := hS
    have y0 := blk_cell hS 0
    have y1 := blk_cell hS 1
    have y2 := blk_cell hS 2
    have y3 := blk_cell hS 3
    have y4 := blk_cell hS 4
    have y5 := blk_cell hS 5
    simp only [verCells, List.getElem?_toArray, List.getElem?_cons_zero, List.getElem?_cons_succ] at y0 y1 y2 y3 y4 y5
    clear hS
    go_simp
    with_reducible rfl
  rotate_left; (go_frame; rfl)
  refine take_ (i := 6) (N := some 28) (v := ?_) (a' := ?_) #[true, true, true, false, true, true, true, false, false, false] rfl rfl (by kernel_rfl) (fun _ _ _ h => h) (Or.inl ⟨by rfl, ?_⟩) hHeld ?_ ?_
  rotate_left
  · intro w' hS
    obtain ⟨_, hS⟩ := hS
    have y0 := blk_cell hS 0
    have y1 := blk_cell hS 1
    have y2 := blk_cell hS 2
    have y3 := blk_cell hS 3
    have y4 := blk_cell hS 4
    have y5 := blk_cell hS 5
    simp only [verCells, List.getElem?_toArray, List.getElem?_cons_zero, List.getElem?_cons_succ] at y0 y1 y2 y3 y4 y5
    clear hS
    go_simp
    with_reducible rfl
  rotate_left; (go_frame; rfl)
  refine one_ (i := 3) (N := some 25) #[true, true, true, true, true, true, true, false, false, false] rfl rfl (by kernel_rfl) (by decide) (fun K hK => ?_)
  refine goes_ Tryz.func74 (by kernel_rfl) rfl #[.agg #[.int .u64 n1, .int .u64 n2, .int .u64 n3, .string pa, .string ma, .string oa]] (by rfl) rfl rfl (by (try simp only [List.map_toArray, List.map_cons, List.map_nil]); first | done | rfl) ?_
  refine (verMinor_call n1 n2 n3 pa ma oa a2).mono ?_
  rintro e b2 ⟨rfl, hb⟩
  have HSe := Lib.hid (⟨blk_below HSd.out.1 hb, blk_below HSd.out.2 hb⟩ : _ ∧ _)
  have HBe := Lib.hid (HBd.out.trans (hb.mono HBd.out.size))
  clear hb HSd HBd
  refine ⟨_, rfl, ?_⟩
  clear hHeld
  refine hK.out _ _ (HSe.out) (fun hHeld => ?_)
  clear hK K
  refine norm_ (a' := ?_) ?_ ?_
  rotate_left
  · show Act.put _ (some 25) _ = _
    go_frame
    rfl
  refine one_ (i := 7) (N := some 29) #[true, true, true, true, true, true, true, true, false, false] rfl rfl (by kernel_rfl) (by decide) (fun K hK => ?_)
  refine goes_ Tryz.func74 (by kernel_rfl) rfl #[.agg #[.int .u64 m1, .int .u64 m2, .int .u64 m3, .string pb, .string mb, .string ob]] (by rfl) rfl rfl (by (try simp only [List.map_toArray, List.map_cons, List.map_nil]); first | done | rfl) ?_
  refine (verMinor_call m1 m2 m3 pb mb ob b2).mono ?_
  rintro e c2 ⟨rfl, hb⟩
  have HSf := Lib.hid (⟨blk_below HSe.out.1 hb, blk_below HSe.out.2 hb⟩ : _ ∧ _)
  have HBf := Lib.hid (HBe.out.trans (hb.mono HBe.out.size))
  clear hb HSe HBe
  refine ⟨_, rfl, ?_⟩
  clear hHeld
  refine hK.out _ _ (HSf.out) (fun hHeld => ?_)
  clear hK K
  refine norm_ (a' := ?_) ?_ ?_
  rotate_left
  · show Act.put _ (some 29) _ = _
    go_frame
    rfl
  refine one_ (i := 8) (N := some 30) #[true, true, true, true, true, true, true, true, true, false] rfl rfl (by kernel_rfl) (by decide) (fun K hK => ?_)
  refine goes_ Tryz.func83 (by kernel_rfl) rfl #[.int .u64 n2, .int .u64 m2] (by rfl) rfl rfl (by (try simp only [List.map_toArray, List.map_cons, List.map_nil]); first | done | rfl) ?_
  refine (seg_call n2 m2 c2).mono ?_
  rintro e x2 ⟨rfl, hb⟩
  have HS := Lib.hid (⟨blk_below HSf.out.1 hb, blk_below HSf.out.2 hb⟩ : _ ∧ _)
  have HBW := Lib.hid (HBf.out.trans (hb.mono HBf.out.size))
  clear hb HSf HBf
  refine ⟨_, rfl, ?_⟩
  clear hHeld
  refine hK.out _ _ (HS.out) (fun hHeld => ?_)
  clear hK K
  refine norm_ (a' := ?_) ?_ ?_
  rotate_left
  · show Act.put _ (some 30) _ = _
    go_frame
    rfl
  refine pure_ (i := 9) (N := some 6) (v := ?_) (a' := ?_) #[true, true, true, true, true, true, true, true, true, true] rfl rfl (by kernel_rfl) (fun _ _ _ h => h) (Or.inl ⟨by rfl, ?_⟩) ?_ ?_
  rotate_left; (intro w'; go_simp; with_reducible rfl)
  rotate_left; (go_frame; rfl)
  refine done_ (by kernel_rfl) ?_
  clear hHeld
  by_cases h2 : seg3 n2 m2 = 0
  rotate_left
  · have HV := Lib.hid (show R = seg3 n2 m2 by rw [HR.out]; unfold cmpV ord3; simp [h1, h2])
    have d1 : (seg3 n2 m2 != 0) = true := bne_iff_ne.2 h2
    generalize seg3 n2 m2 = d at *
    clear h2 HS HE HP HR
    go_wp2
    go_ret
    exact ⟨congrArg (fun z => Ending.returned (Value.int .i64 z)) HV.out.symm, HBW.out⟩
  rw [h2]
  go_upto_region 7 with fail
  have HSd := Lib.hid (show x2.drew.heap[qa]? = _ ∧ x2.drew.heap[qb]? = _ from HS.out)
  have HBd := Lib.hid (show Below w.heap.size w x2.drew from HBW.out.drew)
  clear HS HBW
  refine start_ (n := 10) (ds := []) (S := fun w' => w'.heap[qa]? = some (.cells (verCells n1 n2 n3 pa ma oa) 64 (0, 0)) ∧ w'.heap[qb]? = some (.cells (verCells m1 m2 m3 pb mb ob) 64 (0, 0))) #[false, false, false, false, false, false, false, false, false, false] (by kernel_rfl) rfl rfl (HSd.out) (fun hHeld => ?_)
  generalize x2.drew = a3 at *
  refine pure_ (i := 0) (N := some 34) (v := ?_) (a' := ?_) #[true, false, false, false, false, false, false, false, false, false] rfl rfl (by kernel_rfl) (fun _ _ _ h => h) (Or.inl ⟨by rfl, ?_⟩) ?_ ?_
  rotate_left; (intro w'; go_simp; with_reducible rfl)
  rotate_left; (go_frame; rfl)
  refine pure_ (i := 1) (N := some 35) (v := ?_) (a' := ?_) #[true, true, false, false, false, false, false, false, false, false] rfl rfl (by kernel_rfl) (fun _ _ _ h => h) (Or.inl ⟨by rfl, ?_⟩) ?_ ?_
  rotate_left; (intro w'; go_simp; with_reducible rfl)
  rotate_left; (go_frame; rfl)
  refine pure_ (i := 4) (N := some 38) (v := ?_) (a' := ?_) #[true, true, false, false, true, false, false, false, false, false] rfl rfl (by kernel_rfl) (fun _ _ _ h => h) (Or.inl ⟨by rfl, ?_⟩) ?_ ?_
  rotate_left; (intro w'; go_simp; with_reducible rfl)
  rotate_left; (go_frame; rfl)
  refine pure_ (i := 5) (N := some 39) (v := ?_) (a' := ?_) #[true, true, false, false, true, true, false, false, false, false] rfl rfl (by kernel_rfl) (fun _ _ _ h => h) (Or.inl ⟨by rfl, ?_⟩) ?_ ?_
  rotate_left; (intro w'; go_simp; with_reducible rfl)
  rotate_left; (go_frame; rfl)
  refine take_ (i := 2) (N := some 36) (v := ?_) (a' := ?_) #[true, true, true, false, true, true, false, false, false, false] rfl rfl (by kernel_rfl) (fun _ _ _ h => h) (Or.inl ⟨by rfl, ?_⟩) hHeld ?_ ?_
  rotate_left
  · intro w' hS
    obtain ⟨hS, _⟩ := hS
    have y0 := blk_cell hS 0
    have y1 := blk_cell hS 1
    have y2 := blk_cell hS 2
    have y3 := blk_cell hS 3
    have y4 := blk_cell hS 4
    have y5 := blk_cell hS 5
    simp only [verCells, List.getElem?_toArray, List.getElem?_cons_zero, List.getElem?_cons_succ] at y0 y1 y2 y3 y4 y5
    clear hS
    go_simp
    with_reducible rfl
  rotate_left; (go_frame; rfl)
  refine take_ (i := 6) (N := some 40) (v := ?_) (a' := ?_) #[true, true, true, false, true, true, true, false, false, false] rfl rfl (by kernel_rfl) (fun _ _ _ h => h) (Or.inl ⟨by rfl, ?_⟩) hHeld ?_ ?_
  rotate_left
  · intro w' hS
    obtain ⟨_, hS⟩ := hS
    have y0 := blk_cell hS 0
    have y1 := blk_cell hS 1
    have y2 := blk_cell hS 2
    have y3 := blk_cell hS 3
    have y4 := blk_cell hS 4
    have y5 := blk_cell hS 5
    simp only [verCells, List.getElem?_toArray, List.getElem?_cons_zero, List.getElem?_cons_succ] at y0 y1 y2 y3 y4 y5
    clear hS
    go_simp
    with_reducible rfl
  rotate_left; (go_frame; rfl)
  refine one_ (i := 3) (N := some 37) #[true, true, true, true, true, true, true, false, false, false] rfl rfl (by kernel_rfl) (by decide) (fun K hK => ?_)
  refine goes_ Tryz.func75 (by kernel_rfl) rfl #[.agg #[.int .u64 n1, .int .u64 n2, .int .u64 n3, .string pa, .string ma, .string oa]] (by rfl) rfl rfl (by (try simp only [List.map_toArray, List.map_cons, List.map_nil]); first | done | rfl) ?_
  refine (verPatch_call n1 n2 n3 pa ma oa a3).mono ?_
  rintro e b3 ⟨rfl, hb⟩
  have HSe := Lib.hid (⟨blk_below HSd.out.1 hb, blk_below HSd.out.2 hb⟩ : _ ∧ _)
  have HBe := Lib.hid (HBd.out.trans (hb.mono HBd.out.size))
  clear hb HSd HBd
  refine ⟨_, rfl, ?_⟩
  clear hHeld
  refine hK.out _ _ (HSe.out) (fun hHeld => ?_)
  clear hK K
  refine norm_ (a' := ?_) ?_ ?_
  rotate_left
  · show Act.put _ (some 37) _ = _
    go_frame
    rfl
  refine one_ (i := 7) (N := some 41) #[true, true, true, true, true, true, true, true, false, false] rfl rfl (by kernel_rfl) (by decide) (fun K hK => ?_)
  refine goes_ Tryz.func75 (by kernel_rfl) rfl #[.agg #[.int .u64 m1, .int .u64 m2, .int .u64 m3, .string pb, .string mb, .string ob]] (by rfl) rfl rfl (by (try simp only [List.map_toArray, List.map_cons, List.map_nil]); first | done | rfl) ?_
  refine (verPatch_call m1 m2 m3 pb mb ob b3).mono ?_
  rintro e c3 ⟨rfl, hb⟩
  have HSf := Lib.hid (⟨blk_below HSe.out.1 hb, blk_below HSe.out.2 hb⟩ : _ ∧ _)
  have HBf := Lib.hid (HBe.out.trans (hb.mono HBe.out.size))
  clear hb HSe HBe
  refine ⟨_, rfl, ?_⟩
  clear hHeld
  refine hK.out _ _ (HSf.out) (fun hHeld => ?_)
  clear hK K
  refine norm_ (a' := ?_) ?_ ?_
  rotate_left
  · show Act.put _ (some 41) _ = _
    go_frame
    rfl
  refine one_ (i := 8) (N := some 42) #[true, true, true, true, true, true, true, true, true, false] rfl rfl (by kernel_rfl) (by decide) (fun K hK => ?_)
  refine goes_ Tryz.func83 (by kernel_rfl) rfl #[.int .u64 n3, .int .u64 m3] (by rfl) rfl rfl (by (try simp only [List.map_toArray, List.map_cons, List.map_nil]); first | done | rfl) ?_
  refine (seg_call n3 m3 c3).mono ?_
  rintro e x3 ⟨rfl, hb⟩
  have HS := Lib.hid (⟨blk_below HSf.out.1 hb, blk_below HSf.out.2 hb⟩ : _ ∧ _)
  have HBW := Lib.hid (HBf.out.trans (hb.mono HBf.out.size))
  clear hb HSf HBf
  refine ⟨_, rfl, ?_⟩
  clear hHeld
  refine hK.out _ _ (HS.out) (fun hHeld => ?_)
  clear hK K
  refine norm_ (a' := ?_) ?_ ?_
  rotate_left
  · show Act.put _ (some 42) _ = _
    go_frame
    rfl
  refine pure_ (i := 9) (N := some 7) (v := ?_) (a' := ?_) #[true, true, true, true, true, true, true, true, true, true] rfl rfl (by kernel_rfl) (fun _ _ _ h => h) (Or.inl ⟨by rfl, ?_⟩) ?_ ?_
  rotate_left; (intro w'; go_simp; with_reducible rfl)
  rotate_left; (go_frame; rfl)
  refine done_ (by kernel_rfl) ?_
  clear hHeld
  by_cases h3 : seg3 n3 m3 = 0
  rotate_left
  · have HV := Lib.hid (show R = seg3 n3 m3 by rw [HR.out]; unfold cmpV ord3; simp [h1, h2, h3])
    have d1 : (seg3 n3 m3 != 0) = true := bne_iff_ne.2 h3
    generalize seg3 n3 m3 = d at *
    clear h3 HS HE HP HR
    go_wp2
    go_ret
    exact ⟨congrArg (fun z => Ending.returned (Value.int .i64 z)) HV.out.symm, HBW.out⟩
  rw [h3]
  have HR2 := Lib.hid (show R = preC pa pb C by rw [HR.out]; unfold cmpV ord3; simp [h1, h2, h3])
  clear h1 h2 h3 HR
  obtain ⟨hka, hkb⟩ := HS.out
  have ya := blk_cell hka 3
  simp only [verCells, List.getElem?_toArray, List.getElem?_cons_zero, List.getElem?_cons_succ] at ya
  have y0 := blk_cell hkb 0
  have y1 := blk_cell hkb 1
  have y2 := blk_cell hkb 2
  have y3 := blk_cell hkb 3
  have y4 := blk_cell hkb 4
  have y5 := blk_cell hkb 5
  simp only [verCells, List.getElem?_toArray, List.getElem?_cons_zero, List.getElem?_cons_succ] at y0 y1 y2 y3 y4 y5
  clear hka hkb HS
  go_wp2_with fail
  refine (verPrerelease_call m1 m2 m3 pb mb ob _).mono ?_
  rintro e w5 ⟨rfl, hb5⟩
  have HB5 := Lib.hid (HBW.out.trans (hb5.mono HBW.out.size))
  clear hb5 HBW ya y0 y1 y2 y3 y4 y5
  have HBW := HB5
  clear HB5
  by_cases ea : pa.size = 0
  · have ia : pa.toList.isEmpty = true := by rw [show pa = ⟨#[]⟩ from ba_ext (List.eq_nil_of_length_eq_zero (by rw [size_list]; exact ea)), ByteArray.toList_eq]; rfl
    by_cases eb : pb.size = 0
    · have ib : pb.toList.isEmpty = true := by rw [show pb = ⟨#[]⟩ from ba_ext (List.eq_nil_of_length_eq_zero (by rw [size_list]; exact eb)), ByteArray.toList_eq]; rfl
      have HV := Lib.hid (show R = 0 by rw [HR2.out]; unfold preC; rw [if_pos ea, if_pos eb])
      clear ea eb HP HE HR2
      go_wp2
      go_ret
      exact ⟨congrArg (fun z => Ending.returned (Value.int .i64 z)) HV.out.symm, HBW.out⟩
    · have ib := full_t (show 0 < pb.size by omega)
      have HV := Lib.hid (show R = 1 by rw [HR2.out]; unfold preC; rw [if_pos ea, if_neg eb])
      clear ea eb HP HE HR2
      go_wp2
      go_ret
      exact ⟨congrArg (fun z => Ending.returned (Value.int .i64 z)) HV.out.symm, HBW.out⟩
  · have ia := full_t (show 0 < pa.size by omega)
    by_cases eb : pb.size = 0
    · have ib : pb.toList.isEmpty = true := by rw [show pb = ⟨#[]⟩ from ba_ext (List.eq_nil_of_length_eq_zero (by rw [size_list]; exact eb)), ByteArray.toList_eq]; rfl
      have HV := Lib.hid (show R = -1 by rw [HR2.out]; unfold preC; rw [if_neg ea, if_pos eb])
      clear ea eb HP HE HR2
      go_wp2
      go_ret
      exact ⟨congrArg (fun z => Ending.returned (Value.int .i64 z)) HV.out.symm, HBW.out⟩
    · have ib := full_t (show 0 < pb.size by omega)
      have HV := Lib.hid (show R = C by rw [HR2.out]; unfold preC; rw [if_neg ea, if_neg eb])
      have HPC := Lib.hid (HP.out (by omega) (by omega) w5 (HE.out.below HBW.out))
      clear ea eb HP HE HR2
      go_wp2_with fail
      refine HPC.out.mono ?_
      rintro e w6 ⟨rfl, hb6⟩
      have HB6 := Lib.hid (HBW.out.trans (hb6.mono HBW.out.size))
      clear hb6 HBW HPC
      have HBW := HB6
      clear HB6
      go_wp2
      go_ret
      exact ⟨congrArg (fun z => Ending.returned (Value.int .i64 z)) HV.out.symm, HBW.out⟩
end Go.Proofs.YtlhijjfbcgconaaGreatDoor.P

