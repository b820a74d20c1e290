/- What a value of the thin package is in memory as an interface value: a relation, and that it stays while other blocks are written. Nothing is assumed. -/
import Derived.Test.YtffkinonnkbcpaaPx0
import Derived.Maps.RangeWalk
import Derived.Maps.OwnOps
import Derived.StringKeys
set_option linter.unusedVariables false
set_option linter.unusedSimpArgs false
namespace Go.Proofs.Ytffkinonnkbcpaa.P
open Go.RowKit Go.Proofs.YtffkinonnkbcpaaW.PrintWords Go.Proofs.YtffkinonnkbcpaaW.PrintLast Go.Proofs.YtffkinonnkbcpaaW.PrintMore

/-- An element of a map as it is: its value. -/
def rawR (v : Value) : Option (DataW Value × List MemPlace) := some (.held v, [])
/-- The entries of a map of values: keys and values, side by side. -/
def pairsOf : List ByteArray → List Value → List (Lit × DataW Value)
  | k :: ks, v :: vs => (.string k.data.toList, .held v) :: pairsOf ks vs
  | _, _ => []
/-- u is a list of values whose elements are what R says of l. -/
def RowOf (R : S31 → Value → Prop) (ok : Nat → Prop) (w : World) (l : List S31) (u : Value) : Prop :=
  ∃ g c vs, u = .slice (some ⟨g, 0, none⟩) l.length c ∧ ok g ∧ vs.length = l.length ∧ w.ownsRow 0 20 1 u l.length vs ∧ ∀ i, i < l.length → R (l.getD i z31) (vs.getD i .nilIface)
/-- u is a dict of values. -/
def MapOf (R : S31 → Value → Prop) (ok : Nat → Prop) (w : World) (ks : List ByteArray) (l : List S31) (u : Value) : Prop :=
  ∃ b m vs, u = .map (some b) ∧ ok b ∧ vs.length = l.length ∧ ks.length = l.length ∧ m ≤ 1000 ∧ w.ownsMap Try.prog 9 rawR b m (.map (pairsOf ks vs)) ∧ ∀ i, i < l.length → R (l.getD i z31) (vs.getD i .nilIface)
/-- The interface value v is the value x; its rows and maps satisfy ok; at most n deep. -/
def GoN : Nat → (Nat → Prop) → World → S31 → Value → Prop
  | 0, _, _, _, _ => False
  | n + 1, ok, w, x, v =>
    (x.f0 = 0 ∧ v = .nilIface) ∨ (x.f0 = 1 ∧ v = .iface 4 (.bool (x.f1 == 1))) ∨ (x.f0 = 2 ∧ v = .iface 3 (.int .i64 x.f1)) ∨ (x.f0 = 3 ∧ v = .iface 2 (.int .i64 x.f1)) ∨
    (x.f0 = 4 ∧ v = .iface 29 (.float .f64 x.f2)) ∨ (x.f0 = 5 ∧ v = .iface 9 (.string x.f3)) ∨
    (x.f0 = 6 ∧ ∃ u, v = .iface 43 u ∧ RowOf (GoN n ok w) ok w x.f5 u) ∨ (x.f0 = 7 ∧ ∃ u, v = .iface 58 u ∧ MapOf (GoN n ok w) ok w x.f4 x.f5 u)

theorem RowOf.imp {R R' : S31 → Value → Prop} {ok ok' : Nat → Prop} {w w' : World} {l : List S31} {u : Value} (h : RowOf R ok w l u) (hR : ∀ x v, R x v → R' x v) (hok : ∀ k, ok k → k < w.heap.size → ok' k) (hw : ∀ k, ok k → k < w.heap.size → w'.heap[k]? = w.heap[k]?) : RowOf R' ok' w' l u := by
  obtain ⟨g, c, vs, rfl, hg, hl, ho, hr⟩ := h
  have hlt := (ho.lt g (by simp [Value.ownBlock])).2
  refine ⟨g, c, vs, rfl, hok g hg hlt, hl, own_move ho (fun k hk => ?_), fun i hi => hR _ _ (hr i hi)⟩
  have : g = k := by simpa [Value.ownBlock] using hk
  subst this
  exact hw g hg hlt
theorem MapOf.imp {R R' : S31 → Value → Prop} {ok ok' : Nat → Prop} {w w' : World} {ks : List ByteArray} {l : List S31} {u : Value} (h : MapOf R ok w ks l u) (hR : ∀ x v, R x v → R' x v) (hok : ∀ k, ok k → k < w.heap.size → ok' k) (hw : ∀ k, ok k → k < w.heap.size → w'.heap[k]? = w.heap[k]?) : MapOf R' ok' w' ks l u := by
  obtain ⟨b, m, vs, rfl, hg, hl, hk, hm, ho, hr⟩ := h
  have hlt := ho.lt
  obtain ⟨es, clock, hb, F, hs, hD⟩ := ho
  exact ⟨b, m, vs, rfl, hok b hg hlt, hl, hk, hm, ⟨es, clock, (hw b hg hlt).trans hb, F, hs, hD⟩, fun i hi => hR _ _ (hr i hi)⟩
/-- Blocks that are ok and stay keep the value; other blocks don't matter. -/
theorem GoN.imp : ∀ {n m : Nat} {ok ok' : Nat → Prop} {w w' : World} {x : S31} {v : Value}, GoN n ok w x v → n ≤ m → (∀ k, ok k → k < w.heap.size → ok' k) → (∀ k, ok k → k < w.heap.size → w'.heap[k]? = w.heap[k]?) → GoN m ok' w' x v
  | 0, _, _, _, _, _, _, _, h, _, _, _ => h.elim
  | n + 1, 0, _, _, _, _, _, _, _, hm, _, _ => absurd hm (by omega)
  | n + 1, m + 1, ok, ok', w, w', x, v, h, hm, hok, hw => by
    have ih : ∀ x v, GoN n ok w x v → GoN m ok' w' x v := fun x v h => GoN.imp h (by omega) hok hw
    rcases h with h | h | h | h | h | h | ⟨h0, u, h1, h2⟩ | ⟨h0, u, h1, h2⟩
    · exact .inl h
    · exact .inr (.inl h)
    · exact .inr (.inr (.inl h))
    · exact .inr (.inr (.inr (.inl h)))
    · exact .inr (.inr (.inr (.inr (.inl h))))
    · exact .inr (.inr (.inr (.inr (.inr (.inl h)))))
    · exact .inr (.inr (.inr (.inr (.inr (.inr (.inl ⟨h0, u, h1, h2.imp ih hok hw⟩))))))
    · exact .inr (.inr (.inr (.inr (.inr (.inr (.inr ⟨h0, u, h1, h2.imp ih hok hw⟩))))))
theorem GoN.below {n : Nat} {ok : Nat → Prop} {w w' : World} {x : S31} {v : Value} (h : GoN n ok w x v) (hb : Below w.heap.size w w') : GoN n ok w' x v :=
  h.imp (Nat.le_refl _) (fun _ hk _ => hk) (fun k _ hk => hb.block k hk)
theorem GoN.ok {n : Nat} {ok ok' : Nat → Prop} {w : World} {x : S31} {v : Value} (h : GoN n ok w x v) (hok : ∀ k, ok k → k < w.heap.size → ok' k) : GoN n ok' w x v :=
  h.imp (Nat.le_refl _) hok (fun _ _ _ => rfl)
theorem RowOf.below {n : Nat} {ok : Nat → Prop} {w w' : World} {l : List S31} {u : Value} (h : RowOf (GoN n ok w) ok w l u) (hb : Below w.heap.size w w') : RowOf (GoN n ok w') ok w' l u :=
  h.imp (fun _ _ h => h.below hb) (fun _ hk _ => hk) (fun k _ hk => hb.block k hk)
theorem RowOf.ok {n : Nat} {ok ok' : Nat → Prop} {w : World} {l : List S31} {u : Value} (h : RowOf (GoN n ok w) ok w l u) (hok : ∀ k, ok k → k < w.heap.size → ok' k) : RowOf (GoN n ok' w) ok' w l u :=
  h.imp (fun _ _ h => h.ok hok) hok (fun _ _ _ => rfl)
theorem MapOf.below {n : Nat} {ok : Nat → Prop} {w w' : World} {ks : List ByteArray} {l : List S31} {u : Value} (h : MapOf (GoN n ok w) ok w ks l u) (hb : Below w.heap.size w w') : MapOf (GoN n ok w') ok w' ks l u :=
  h.imp (fun _ _ h => h.below hb) (fun _ hk _ => hk) (fun k _ hk => hb.block k hk)
/-- Keys ascend. -/
def Ascend (ks : List ByteArray) : Prop := ks.Pairwise fun a b => Op.bytesLess a.data.toList b.data.toList = true
theorem before_less (a b : List UInt8) : Lit.before (.string a) (.string b) = Op.bytesLess a b := by
  show bytesBefore a b = _
  induction a generalizing b with
  | nil => cases b <;> simp [bytesBefore, Op.bytesLess]
  | cons x a ih => cases b with
    | nil => simp [bytesBefore, Op.bytesLess]
    | cons y b => simp [bytesBefore, Op.bytesLess, ih]
theorem less_irrefl : ∀ a : List UInt8, Op.bytesLess a a = false
  | [] => rfl
  | x :: a => by simp [Op.bytesLess, less_irrefl a]
theorem less_asymm {a b : List UInt8} (h : Op.bytesLess a b = true) : Op.bytesLess b a = false := by
  have := bytesLe_not a b
  rw [h] at this
  simpa using this.symm
theorem less_ne {a b : List UInt8} (h : Op.bytesLess a b = true) : ¬ a = b := fun e => by rw [e, less_irrefl] at h; cases h
theorem pairsOf_append : ∀ (ks : List ByteArray) (vs : List Value) (k : ByteArray) (v : Value), ks.length = vs.length → pairsOf (ks ++ [k]) (vs ++ [v]) = pairsOf ks vs ++ [(.string k.data.toList, .held v)]
  | [], [], k, v, _ => rfl
  | a :: ks, u :: vs, k, v, h => by
    simp only [List.cons_append, pairsOf]
    rw [pairsOf_append ks vs k v (by simpa using h)]
  | [], _ :: _, _, _, h => by simp at h
  | _ :: _, [], _, _, h => by simp at h
theorem pairsOf_mem : ∀ {ks : List ByteArray} {vs : List Value} {p : Lit × DataW Value}, p ∈ pairsOf ks vs → ∃ k ∈ ks, p.1 = .string k.data.toList
  | [], [], _, h => by simp [pairsOf] at h
  | a :: ks, u :: vs, p, h => by
    simp only [pairsOf, List.mem_cons] at h
    rcases h with rfl | h
    · exact ⟨a, by simp, rfl⟩
    · obtain ⟨k, hk, e⟩ := pairsOf_mem h
      exact ⟨k, by simp [hk], e⟩
  | [], _ :: _, _, h => by simp [pairsOf] at h
  | _ :: _, [], _, h => by simp [pairsOf] at h
theorem insert_last {x : Lit × DataW Value} : ∀ {es : List (Lit × DataW Value)}, (∀ p ∈ es, x.1.before p.1 = false) → DataW.insert x es = es ++ [x]
  | [], _ => rfl
  | y :: r, h => by
    unfold DataW.insert
    rw [if_neg (by rw [h y (by simp)]; simp), insert_last (fun p hp => h p (by simp [hp]))]
    rfl
/-- A new key behind all others. -/
theorem put_last {ks : List ByteArray} {vs : List Value} {k : ByteArray} {v : Value} (hl : ks.length = vs.length) (h : ∀ a ∈ ks, Op.bytesLess a.data.toList k.data.toList = true) :
    (DataW.map (pairsOf ks vs)).put (.string k.data.toList) (.held v) = .map (pairsOf (ks ++ [k]) (vs ++ [v])) := by
  have hf : (pairsOf ks vs).filter (fun p => !p.1.sameKey (.string k.data.toList)) = pairsOf ks vs := by
    rw [List.filter_eq_self]
    intro p hp
    obtain ⟨a, ha, e⟩ := pairsOf_mem hp
    rw [e]
    have := less_ne (h a ha)
    simp [Lit.sameKey]
    intro hc
    exact this (by rw [hc])
  show DataW.map (DataW.insert _ _) = _
  rw [hf, insert_last, pairsOf_append ks vs k v hl]
  intro p hp
  obtain ⟨a, ha, e⟩ := pairsOf_mem hp
  rw [e]
  show Lit.before (.string _) (.string _) = false
  rw [before_less]
  exact less_asymm (h a ha)
/-- A value that is right: it has what its kind says; at most n deep. -/
def fitsN : Nat → S31 → Prop
  | 0, _ => False
  | n + 1, x => 0 ≤ x.f0 ∧ x.f0 ≤ 7 ∧ x.f5.length ≤ 300 ∧ x.f3.size ≤ 300 ∧ (∀ k ∈ x.f4, k.size ≤ 300) ∧ (∀ i, i < x.f5.length → fitsN n (x.f5.getD i z31)) ∧
    (x.f0 = 7 → x.f4.length = x.f5.length ∧ Ascend x.f4) ∧ (x.f0 ≠ 7 → x.f4 = []) ∧ (x.f0 ≠ 6 → x.f0 ≠ 7 → x.f5 = []) ∧ (x.f0 ≠ 5 → x.f3 = ⟨#[]⟩) ∧ (x.f0 ≠ 1 → x.f0 ≠ 2 → x.f0 ≠ 3 → x.f1 = 0) ∧ (x.f0 = 1 → x.f1 = 0 ∨ x.f1 = 1) ∧ -9223372036854775808 ≤ x.f1 ∧ x.f1 ≤ 9223372036854775807
/-- The value as it comes back: a float of another kind is nought. -/
def normN : Nat → S31 → S31
  | 0, x => x
  | n + 1, x => ⟨x.f0, x.f1, if x.f0 = 4 then x.f2 else 0, x.f3, x.f4, x.f5.map (normN n)⟩
end Go.Proofs.Ytffkinonnkbcpaa.P
