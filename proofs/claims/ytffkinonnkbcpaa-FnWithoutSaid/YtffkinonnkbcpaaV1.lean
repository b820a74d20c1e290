/- A value of the thin package, as it is handed in from outside: its rows are rows of values. -/
import Derived.Test.YtffkinonnkbcpaaG9
import Derived.Test.YtffkinonnkbcpaaT1
import Derived.Deep.Strs
set_option linter.unusedVariables false
set_option linter.unusedSimpArgs false
set_option maxRecDepth 100000
namespace Go.Proofs.Ytffkinonnkbcpaa.P
open Go.RowKit Go.Proofs.YtffkinonnkbcpaaW.PrintWords Go.Proofs.YtffkinonnkbcpaaW.PrintLast Go.Proofs.YtffkinonnkbcpaaW.PrintMore
open Go.ChangeShapes Go.WideShapes Go.Deep

theorem trod_flt {H : Type} {enc : TypeId × Value → H} {P : Program} {w : World} {base : Nat} {spare : Nat → Bool} {held : Bool} {t : TypeId} {fuel : Nat} {cs : List Value} {x : DataW H × List MemPlace} {k : FloatKind} (ht : P.underlying t = some (.float k)) (h : DataW.trod enc P w base spare held fuel t cs = some x) : ∃ b, cs = [.float k b] := by
  cases fuel with
  | zero => simp [DataW.trod] at h
  | succ n =>
    unfold DataW.trod at h
    rw [ht] at h
    split at h <;> simp_all
/-- What the cells of a value are. -/
def ValAt (w : World) (y : S31) (cs : List Value) : Prop := ∃ A4 c4 A5 c5, cs = [.int .i64 y.f0, .int .i64 y.f1, .float .f64 y.f2, .string y.f3, .slice A4 y.f4.length c4, .slice A5 y.f5.length c5] ∧ RowsAt y A4 c4 A5 c5 w
theorem ValAt.K {w : World} {y : S31} {cs : List Value} (h : ValAt w y cs) : k31.K w y cs := by
  obtain ⟨A4, c4, A5, c5, rfl, g4, l4, g5, l5⟩ := h
  exact k31_mk w y l4 g4 l5 g5
theorem strs_C {w : World} {a : Addr} {len : Nat} {Sx : Nat → ByteArray} (hl : len ≤ 9223372036854775807) (h : ∀ i, i < len → w.cell? (a.add i) = some (.string (Sx i))) : Kd.string.C w (some a) len ((List.range len).map Sx) := by
  refine ⟨by simp, hl, fun _ => ⟨a, rfl, fun j p hj => ?_⟩⟩
  have hj2 : j < len := by
    have := (List.getElem?_eq_some_iff.1 hj).1
    simpa using this
  have hp : p = Sx j := by
    simp [hj2] at hj
    exact hj.symm
  subst hp
  refine ⟨[.string (Sx j)], rfl, rfl, fun i u hu => ?_⟩
  cases i with
  | zero =>
    simp at hu
    subst hu
    have := h j hj2
    simpa [Kd.string, Kd.scalar] using this
  | succ i => simp at hu
theorem nil_C {α : Type} {d : Kd α} {w : World} : d.C w none 0 [] := ⟨rfl, by omega, fun h => absurd h (by omega)⟩
theorem rows_C {w : World} {a : Addr} {len : Nat} {Y : Nat → S31} {V : Nat → List Value} (hl : len ≤ 9223372036854775807) (h : ∀ i, i < len → w.cells? 0 (a.add (i * 6)) 6 = some (V i) ∧ ValAt w (Y i) (V i)) : k31.C w (some a) len ((List.range len).map Y) := by
  refine ⟨by simp, hl, fun _ => ⟨a, rfl, fun j p hj => ?_⟩⟩
  have hj2 : j < len := by
    have := (List.getElem?_eq_some_iff.1 hj).1
    simpa using this
  have hp : p = Y j := by
    simp [hj2] at hj
    exact hj.symm
  subst hp
  obtain ⟨h1, h2⟩ := h j hj2
  obtain ⟨_, h3, h4⟩ := World.cells?_some h1
  refine ⟨V j, h3, h2.K, fun i u hu => ?_⟩
  have hi : i < 6 := by rw [← h3]; exact (List.getElem?_eq_some_iff.1 hu).1
  have h5 := h4 i hi
  rw [hu] at h5
  rw [← h5]
  show w.cell? (a.add (j * 6 + i)) = w.cell? ((a.add (j * 6)).add i)
  rw [Addr.add_add]
instance : Inhabited S31 := ⟨z31⟩
theorem open_val {H : Type} {enc : TypeId × Value → H} {w : World} {spare : Nat → Bool} {held : Bool} (fuel : Nat) :
    (∀ cs x, DataW.trod enc Try.prog w 0 spare held fuel 31 cs = some x → ∃ y, Whole64 y ∧ ValAt w y cs) ∧
    ∀ cs x, DataW.trod enc Try.prog w 0 spare held fuel 22 cs = some x → ∃ (l : List S31) (A : Option Addr) (c : Nat), cs = [.slice A l.length c] ∧ (∀ y ∈ l, Whole64 y) ∧ k31.C w A l.length l ∧ l.length ≤ c := by
  have c1 : Try.prog.cellsOf 3 = 1 := by kernel_rfl
  have c2 : Try.prog.cellsOf 2 = 1 := by kernel_rfl
  have c3 : Try.prog.cellsOf 29 = 1 := by kernel_rfl
  have c4 : Try.prog.cellsOf 9 = 1 := by kernel_rfl
  have c5 : Try.prog.cellsOf 28 = 1 := by kernel_rfl
  have c6 : Try.prog.cellsOf 22 = 1 := by kernel_rfl
  have c7 : Try.prog.cellsOf 31 = 6 := by kernel_rfl
  induction fuel using Nat.strongRecOn with
  | ind fuel ih =>
  have hlist : ∀ cs x, DataW.trod enc Try.prog w 0 spare held fuel 22 cs = some x → ∃ (l : List S31) (A : Option Addr) (c : Nat), cs = [.slice A l.length c] ∧ (∀ y ∈ l, Whole64 y) ∧ k31.C w A l.length l ∧ l.length ≤ c := by
    intro cs x h
    rcases DataW.trod_slice Try.underlying22 h with ⟨rfl, _⟩ | ⟨a, len, cap, elems, rest, n, rfl, rfl, rfl, hb, hl, hm, hlen, hel, -, -⟩
    · exact ⟨[], none, 0, rfl, (fun y hy => by cases hy), nil_C, Nat.le_refl _⟩
    · rw [c7] at hel
      have each : ∀ i, i < len → ∃ q : List Value × S31, w.cells? 0 (a.add (i * 6)) 6 = some q.1 ∧ Whole64 q.2 ∧ ValAt w q.2 q.1 := fun i hi => by
        have h1 := hel i hi
        rw [List.getElem?_eq_getElem (by omega)] at h1
        obtain ⟨cs', h2, h3⟩ := Option.bind_eq_some_iff.1 h1
        obtain ⟨y, h4, h5⟩ := (ih n (by omega)).1 cs' _ h3
        exact ⟨(cs', y), h2, h4, h5⟩
      obtain ⟨q, hq⟩ := choose_lt each
      refine ⟨(List.range len).map fun i => (q i).2, some a, cap, by simp, fun y hy => ?_, by simpa using rows_C (V := fun i => (q i).1) (by unfold maxLen at hm; omega) (fun i hi => ⟨(hq i hi).1, (hq i hi).2.2⟩), by simpa using hl⟩
      obtain ⟨i, hi, rfl⟩ := List.mem_map.1 hy
      exact (hq i (List.mem_range.1 hi)).2.1
  refine ⟨fun cs x h => ?_, hlist⟩
  obtain ⟨xs, n, hfu, rfl, hlen, hxl, hf⟩ := DataW.trod_struct Try.underlying31 h
  rw [c7] at hlen
  obtain ⟨v0, v1, v2, v3, v4, v5, rfl⟩ : ∃ v0 v1 v2 v3 v4 v5, cs = [v0, v1, v2, v3, v4, v5] := by
    match cs, hlen with
    | [v0, v1, v2, v3, v4, v5], _ => exact ⟨_, _, _, _, _, _, rfl⟩
  have hx : xs.length = 6 := hxl
  have e0 := hf 0 _ rfl
  have e1 := hf 1 _ rfl
  have e2 := hf 2 _ rfl
  have e3 := hf 3 _ rfl
  have e4 := hf 4 _ rfl
  have e5 := hf 5 _ rfl
  rw [List.getElem?_eq_getElem (by omega)] at e0 e1 e2 e3 e4 e5
  simp only [List.getElem_toArray, List.getElem_cons_zero, List.getElem_cons_succ] at e0 e1 e2 e3 e4 e5
  rw [c1] at e0
  rw [c2] at e1
  rw [c3] at e2
  rw [c4] at e3
  rw [c5] at e4
  rw [c6] at e5
  simp only [List.drop, List.take] at e0 e1 e2 e3 e4 e5
  obtain ⟨i0, hv0, -, -⟩ := DataW.trod_int Try.underlying3 e0
  obtain ⟨i1, hv1, -, hw1⟩ := DataW.trod_int Try.underlying2 e1
  obtain ⟨i2, hv2⟩ := trod_flt Try.underlying29 e2
  obtain ⟨i3, hv3, -, -⟩ := DataW.trod_string Try.underlying9 e3
  obtain ⟨l5, A5, cc5, hv5, w5, g5, le5⟩ := (ih n (by omega)).2 _ _ e5
  simp only [List.cons.injEq, and_true] at hv0 hv1 hv2 hv3 hv5
  subst hv0 hv1 hv2 hv3 hv5
  have hw : -9223372036854775808 ≤ i1 ∧ i1 ≤ 9223372036854775807 := by
    simp only [Lit.wf, IntKind.min, IntKind.max, IntKind.signed, IntKind.bits, Bool.and_eq_true, decide_eq_true_eq, if_true] at hw1
    omega
  rcases open_strs Try.underlying28 Try.underlying9 c4 e4 with ⟨hv4, -⟩ | ⟨a4, len4, cap4, m4, Sx, hv4, -, hl4, hm4, hmm, -, hS⟩
  · simp only [List.cons.injEq, and_true] at hv4
    subst hv4
    exact ⟨⟨i0, i1, i2, i3, [], l5⟩, .mk _ hw.1 hw.2 w5, none, 0, A5, cc5, rfl, nil_C, Nat.le_refl _, g5, le5⟩
  · simp only [List.cons.injEq, and_true] at hv4
    subst hv4
    have hmle : len4 ≤ m4 := by rw [hmm]; split <;> omega
    exact ⟨⟨i0, i1, i2, i3, (List.range len4).map Sx, l5⟩, .mk _ hw.1 hw.2 w5, some a4, cap4, A5, cc5, by simp, by simpa using strs_C (by unfold maxLen at hm4; omega) (fun i hi => (hS i (by omega)).1), by simpa using hl4, g5, le5⟩
/-- A value argument, opened. -/
theorem open_arg {H : Type} {enc : TypeId × Value → H} {w : World} {spare : Nat → Bool} {held : Bool} {r : Reach} {b0 : Nat} {v : Value} {d : DataW H} {p : List MemPlace} (hval : Value.okWide Try.prog w r b0 31 v) (h : DataW.Trod enc Try.prog w 0 spare held 31 v d p) :
    ∃ y A4 c4 A5 c5, v = aggOf y A4 c4 A5 c5 ∧ Whole64 y ∧ RowsAt y A4 c4 A5 c5 w := by
  obtain ⟨cs, rfl, hsz⟩ := okWide_struct Try.underlying31 hval
  obtain ⟨fuel, hf⟩ := h
  obtain ⟨y, hy, A4, c4, A5, c5, hcs, hr⟩ := (open_val fuel).1 _ _ hf
  refine ⟨y, A4, c4, A5, c5, ?_, hy, hr⟩
  unfold aggOf
  congr 1
  apply Array.ext'
  rw [show (Value.agg cs).cells = cs from rfl] at hcs
  rw [hcs]
/-- A list of values, opened. -/
theorem open_args {H : Type} {enc : TypeId × Value → H} {w : World} {spare : Nat → Bool} {held : Bool} {v : Value} {d : DataW H} {p : List MemPlace} {r : Reach} {b0 : Nat} (hval : Value.okWide Try.prog w r b0 22 v) (h : DataW.Trod enc Try.prog w 0 spare held 22 v d p) :
    ∃ (l : List S31) (A : Option Addr) (c : Nat), v = .slice A l.length c ∧ (∀ y ∈ l, Whole64 y) ∧ k31.C w A l.length l ∧ l.length ≤ c := by
  obtain ⟨a, len, cap, rfl⟩ := okWide_slice Try.underlying22 hval
  obtain ⟨fuel, hf⟩ := h
  obtain ⟨l, A, c, hcs, h1, h2, h3⟩ := (open_val fuel).2 _ _ hf
  have : Value.slice a len cap = .slice A l.length c := by
    have h4 : [Value.slice a len cap] = [.slice A l.length c] := hcs
    injection h4
  exact ⟨l, A, c, this, h1, h2, h3⟩
end Go.Proofs.Ytffkinonnkbcpaa.P
