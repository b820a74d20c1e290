/- valueOf and valuesOf (dictOf asked for): what an interface value is as data. -/
import Derived.Test.YtffkinonnkbcpaaG3
set_option linter.unusedVariables false
set_option linter.unusedSimpArgs false
namespace Go.Proofs.Ytffkinonnkbcpaa.P
open Go.RowKit Go.Proofs.YtffkinonnkbcpaaW.PrintWords Go.Proofs.YtffkinonnkbcpaaW.PrintLast Go.Proofs.YtffkinonnkbcpaaW.PrintMore
attribute [local go_sem] run_store_float

def ValPost (y : S31) (w : World) (e : Ending) (w' : World) : Prop :=
  ∃ v4 v5 : Value, e = .returned (.agg #[.int .i64 y.f0, .int .i64 y.f1, .float .f64 y.f2, .string y.f3, v4, v5]) ∧ Kd.R Kd.string 9 w' w.heap.size (fun _ => True) v4 y.f4 ∧ Kd.R k31 31 w' w.heap.size (fun k => some k ≠ v4.ownBlock) v5 y.f5 ∧ Below w.heap.size w w'
def ValueOfOk (n : Nat) : Prop := ∀ (x : S31) (v : Value) (ok : Nat → Prop) (w : World), fitsN n x → GoN n ok w x v → Calls Try.prog 34 #[v] w (ValPost (normN n x) w)
def ValsPost (l : List S31) (w : World) (e : Ending) (w' : World) : Prop :=
  ∃ u : Value, e = .returned u ∧ Kd.R k31 31 w' w.heap.size (fun _ => True) u l ∧ Below w.heap.size w w'
def ValuesOfOk (n : Nat) : Prop := ∀ (l : List S31) (u : Value) (ok : Nat → Prop) (w : World), (∀ i, i < l.length → fitsN n (l.getD i z31)) → l.length ≤ 300 → RowOf (GoN n ok w) ok w l u → Calls Try.prog 20 #[u] w (ValsPost (l.map (normN n)) w)
def DictOfOk (n : Nat) : Prop := ∀ (ks : List ByteArray) (l : List S31) (u : Value) (ok : Nat → Prop) (w : World), (∀ i, i < l.length → fitsN n (l.getD i z31)) → l.length ≤ 300 → Ascend ks → (∀ k ∈ ks, k.size ≤ 300) → MapOf (GoN n ok w) ok w ks l u → Calls Try.prog 28 #[u] w (ValPost ⟨7, 0, 0, ⟨#[]⟩, ks, l.map (normN n)⟩ w)
theorem val_simple {w w' : World} {f0 f1 : Int} {f2 : Nat} {f3 : ByteArray} (hb : Below w.heap.size w w') : ValPost ⟨f0, f1, f2, f3, [], []⟩ w (.returned (.agg #[.int .i64 f0, .int .i64 f1, .float .f64 f2, .string f3, .slice none 0 0, .slice none 0 0])) w' :=
  ⟨_, _, rfl, Kd.R_nil _ _ _ _ _, Kd.R_nil _ _ _ _ _, hb⟩
theorem R_far1 {α : Type} {d : Kd α} {e : Nat} {w : World} {base : Nat} {ok : Nat → Prop} {v : Value} {xs : List α} (h : d.R e w base ok v xs) {g : Nat} (hg : g < base) (j : Nat) (u : Value) : d.R e (w.setCell ⟨g, j, none⟩ u) base ok v xs :=
  Kd.R_mono (Kd.R_far (p := ⟨g, j, none⟩) (Kd.R_bound h) (fun k hk => by have := hk.2.1; show k ≠ g; omega) u) (fun _ hk => hk.1)
/-- Six cells of one block, written one after the other. -/
def six (w : World) (g : Nat) (a b c d e f : Value) : World := (((((w.setCell ⟨g, 0, none⟩ a).setCell ⟨g, 1, none⟩ b).setCell ⟨g, 2, none⟩ c).setCell ⟨g, 3, none⟩ d).setCell ⟨g, 4, none⟩ e).setCell ⟨g, 5, none⟩ f
theorem R_six {α : Type} {d : Kd α} {e : Nat} {w : World} {base : Nat} {ok : Nat → Prop} {v : Value} {xs : List α} (h : d.R e w base ok v xs) {g : Nat} (hg : g < base) (a0 a1 a2 a3 a4 a5 : Value) : d.R e (six w g a0 a1 a2 a3 a4 a5) base ok v xs :=
  R_far1 (R_far1 (R_far1 (R_far1 (R_far1 (R_far1 h hg _ _) hg _ _) hg _ _) hg _ _) hg _ _) hg _ _
theorem below_six {w0 w : World} {B g : Nat} (h : Below B w0 w) (hg : B ≤ g) (a0 a1 a2 a3 a4 a5 : Value) : Below B w0 (six w g a0 a1 a2 a3 a4 a5) :=
  (((((h.setCell hg _).setCell hg _).setCell hg _).setCell hg _).setCell hg _).setCell hg _
def zeroCells : Obj := .cells #[.int .i64 0, .int .i64 0, .float .f64 0, .string ⟨#[]⟩, .slice none 0 0, .slice none 0 0] 31 (0, 0)
set_option maxHeartbeats 3200000 in
set_option maxRecDepth 100000 in
theorem valueOf_step {n : Nat} (hL : ValuesOfOk n) (hD : DictOfOk n) : ValueOfOk (n + 1) := by
  intro x v ok w hx hv
  obtain ⟨f0, f1, f2, f3, f4, f5⟩ := x
  have HX := Lib.hid hx
  have HB := Lib.hid (fun o => (Below.refl w.heap.size w).alloc (Nat.le_refl _) o)
  rcases hv with ⟨h0, rfl⟩ | ⟨h0, rfl⟩ | ⟨h0, rfl⟩ | ⟨h0, rfl⟩ | ⟨h0, rfl⟩ | ⟨h0, rfl⟩ | ⟨h0, u, rfl, hr⟩ | ⟨h0, u, rfl, hr⟩
  · simp only at h0
    subst h0
    obtain ⟨-, -, -, -, -, -, -, e4, e5, e3, e1, e6, -, -⟩ := hx
    simp only at e4 e5 e3 e1 e6
    obtain rfl := e4 (by decide)
    obtain rfl := e5 (by decide) (by decide)
    obtain rfl := e3 (by decide)
    obtain rfl := e1 (by decide) (by decide) (by decide)
    clear e4 e5 e3 e1 e6 HX
    go_enter Try.func34, Try.ntmps34
    go_wp2
    exact bodyPost_ret (v := .agg #[.int .i64 0, .int .i64 0, .float .f64 0, .string ⟨#[]⟩, .slice none 0 0, .slice none 0 0]) (by simp [results, Try.results34, go_sem]) rfl (val_simple (HB.out _))
  · simp only at h0
    subst h0
    obtain ⟨-, -, -, -, -, -, -, e4, e5, e3, e1, e6, -, -⟩ := hx
    simp only at e4 e5 e3 e1 e6
    obtain rfl := e4 (by decide)
    obtain rfl := e5 (by decide) (by decide)
    obtain rfl := e3 (by decide)
    have e7 := e6 trivial
    clear e4 e5 e3 e1 e6 HX
    have ta0 : ∀ (v : Value) (W : World), (Instr.typeAssert (.iface 4 v) 20 4 true).run Try.prog W = .ok (.tuple #[v, .bool true]) W := fun v W => by kernel_rfl
    rcases e7 with rfl | rfl
    · go_enter Try.func34, Try.ntmps34
      go_wp2
      exact bodyPost_ret (v := .agg #[.int .i64 1, .int .i64 0, .float .f64 0, .string ⟨#[]⟩, .slice none 0 0, .slice none 0 0]) (by simp [results, Try.results34, go_sem]) rfl (val_simple (HB.out _))
    · go_enter Try.func34, Try.ntmps34
      go_wp2
      exact bodyPost_ret (v := .agg #[.int .i64 1, .int .i64 1, .float .f64 0, .string ⟨#[]⟩, .slice none 0 0, .slice none 0 0]) (by simp [results, Try.results34, go_sem]) rfl (val_simple (HB.out _))
  · simp only at h0
    subst h0
    obtain ⟨-, -, -, -, -, -, -, e4, e5, e3, e1, e6, -, -⟩ := hx
    simp only at e4 e5 e3 e1 e6
    obtain rfl := e4 (by decide)
    obtain rfl := e5 (by decide) (by decide)
    obtain rfl := e3 (by decide)
    clear e4 e5 e3 e1 e6 HX
    have ta0 : ∀ (v : Value) (W : World), (Instr.typeAssert (.iface 3 v) 20 4 true).run Try.prog W = .ok (.tuple #[.bool false, .bool false]) W := fun v W => by kernel_rfl
    have ta1 : ∀ (v : Value) (W : World), (Instr.typeAssert (.iface 3 v) 20 3 true).run Try.prog W = .ok (.tuple #[v, .bool true]) W := fun v W => by kernel_rfl
    go_enter Try.func34, Try.ntmps34
    go_wp2
    exact bodyPost_ret (v := .agg #[.int .i64 2, .int .i64 f1, .float .f64 0, .string ⟨#[]⟩, .slice none 0 0, .slice none 0 0]) (by simp [results, Try.results34, go_sem]) rfl (val_simple (HB.out _))
  · simp only at h0
    subst h0
    obtain ⟨-, -, -, -, -, -, -, e4, e5, e3, e1, e6, -, -⟩ := hx
    simp only at e4 e5 e3 e1 e6
    obtain rfl := e4 (by decide)
    obtain rfl := e5 (by decide) (by decide)
    obtain rfl := e3 (by decide)
    clear e4 e5 e3 e1 e6 HX
    have ta0 : ∀ (v : Value) (W : World), (Instr.typeAssert (.iface 2 v) 20 4 true).run Try.prog W = .ok (.tuple #[.bool false, .bool false]) W := fun v W => by kernel_rfl
    have ta1 : ∀ (v : Value) (W : World), (Instr.typeAssert (.iface 2 v) 20 3 true).run Try.prog W = .ok (.tuple #[.int .i64 0, .bool false]) W := fun v W => by kernel_rfl
    have ta2 : ∀ (v : Value) (W : World), (Instr.typeAssert (.iface 2 v) 20 2 true).run Try.prog W = .ok (.tuple #[v, .bool true]) W := fun v W => by kernel_rfl
    go_enter Try.func34, Try.ntmps34
    go_wp2
    exact bodyPost_ret (v := .agg #[.int .i64 3, .int .i64 f1, .float .f64 0, .string ⟨#[]⟩, .slice none 0 0, .slice none 0 0]) (by simp [results, Try.results34, go_sem]) rfl (val_simple (HB.out _))
  · simp only at h0
    subst h0
    obtain ⟨-, -, -, -, -, -, -, e4, e5, e3, e1, e6, -, -⟩ := hx
    simp only at e4 e5 e3 e1 e6
    obtain rfl := e4 (by decide)
    obtain rfl := e5 (by decide) (by decide)
    obtain rfl := e3 (by decide)
    obtain rfl := e1 (by decide) (by decide) (by decide)
    clear e4 e5 e3 e1 e6 HX
    have ta0 : ∀ (v : Value) (W : World), (Instr.typeAssert (.iface 29 v) 20 4 true).run Try.prog W = .ok (.tuple #[.bool false, .bool false]) W := fun v W => by kernel_rfl
    have ta1 : ∀ (v : Value) (W : World), (Instr.typeAssert (.iface 29 v) 20 3 true).run Try.prog W = .ok (.tuple #[.int .i64 0, .bool false]) W := fun v W => by kernel_rfl
    have ta2 : ∀ (v : Value) (W : World), (Instr.typeAssert (.iface 29 v) 20 2 true).run Try.prog W = .ok (.tuple #[.int .i64 0, .bool false]) W := fun v W => by kernel_rfl
    have ta3 : ∀ (v : Value) (W : World), (Instr.typeAssert (.iface 29 v) 20 29 true).run Try.prog W = .ok (.tuple #[v, .bool true]) W := fun v W => by kernel_rfl
    go_enter Try.func34, Try.ntmps34
    go_wp2
    exact bodyPost_ret (v := .agg #[.int .i64 4, .int .i64 0, .float .f64 f2, .string ⟨#[]⟩, .slice none 0 0, .slice none 0 0]) (by simp [results, Try.results34, go_sem]) rfl (val_simple (HB.out _))
  · simp only at h0
    subst h0
    obtain ⟨-, -, -, -, -, -, -, e4, e5, e3, e1, e6, -, -⟩ := hx
    simp only at e4 e5 e3 e1 e6
    obtain rfl := e4 (by decide)
    obtain rfl := e5 (by decide) (by decide)
    obtain rfl := e1 (by decide) (by decide) (by decide)
    clear e4 e5 e3 e1 e6 HX
    have ta0 : ∀ (v : Value) (W : World), (Instr.typeAssert (.iface 9 v) 20 4 true).run Try.prog W = .ok (.tuple #[.bool false, .bool false]) W := fun v W => by kernel_rfl
    have ta1 : ∀ (v : Value) (W : World), (Instr.typeAssert (.iface 9 v) 20 3 true).run Try.prog W = .ok (.tuple #[.int .i64 0, .bool false]) W := fun v W => by kernel_rfl
    have ta2 : ∀ (v : Value) (W : World), (Instr.typeAssert (.iface 9 v) 20 2 true).run Try.prog W = .ok (.tuple #[.int .i64 0, .bool false]) W := fun v W => by kernel_rfl
    have ta3 : ∀ (v : Value) (W : World), (Instr.typeAssert (.iface 9 v) 20 29 true).run Try.prog W = .ok (.tuple #[.float .f64 0, .bool false]) W := fun v W => by kernel_rfl
    have ta4 : ∀ (v : Value) (W : World), (Instr.typeAssert (.iface 9 v) 20 9 true).run Try.prog W = .ok (.tuple #[v, .bool true]) W := fun v W => by kernel_rfl
    go_enter Try.func34, Try.ntmps34
    go_wp2
    exact bodyPost_ret (v := .agg #[.int .i64 5, .int .i64 0, .float .f64 0, .string f3, .slice none 0 0, .slice none 0 0]) (by simp [results, Try.results34, go_sem]) rfl (val_simple (HB.out _))
  · simp only at h0 hr
    subst h0
    obtain ⟨-, -, el, -, -, ec, -, e4, -, e3, e1, -, -, -⟩ := hx
    simp only at el ec e4 e3 e1
    obtain rfl := e4 (by decide)
    obtain rfl := e3 (by decide)
    obtain rfl := e1 (by decide) (by decide) (by decide)
    have HR := Lib.hid hr
    have HL := Lib.hid hL
    have HC := Lib.hid ec
    clear e4 e3 e1 HX hr hL hD ec
    have ta0 : ∀ (v : Value) (W : World), (Instr.typeAssert (.iface 43 v) 20 4 true).run Try.prog W = .ok (.tuple #[.bool false, .bool false]) W := fun v W => by kernel_rfl
    have ta1 : ∀ (v : Value) (W : World), (Instr.typeAssert (.iface 43 v) 20 3 true).run Try.prog W = .ok (.tuple #[.int .i64 0, .bool false]) W := fun v W => by kernel_rfl
    have ta2 : ∀ (v : Value) (W : World), (Instr.typeAssert (.iface 43 v) 20 2 true).run Try.prog W = .ok (.tuple #[.int .i64 0, .bool false]) W := fun v W => by kernel_rfl
    have ta3 : ∀ (v : Value) (W : World), (Instr.typeAssert (.iface 43 v) 20 29 true).run Try.prog W = .ok (.tuple #[.float .f64 0, .bool false]) W := fun v W => by kernel_rfl
    have ta4 : ∀ (v : Value) (W : World), (Instr.typeAssert (.iface 43 v) 20 9 true).run Try.prog W = .ok (.tuple #[.string ⟨#[]⟩, .bool false]) W := fun v W => by kernel_rfl
    have ta5 : ∀ (v : Value) (W : World), (Instr.typeAssert (.iface 43 v) 20 43 true).run Try.prog W = .ok (.tuple #[v, .bool true]) W := fun v W => by kernel_rfl
    go_enter Try.func34, Try.ntmps34
    go_wp2_with fail
    refine (HL.out f5 u ok _ HC.out el (HR.out.imp (fun _ _ h => h.below ((Below.refl _ _).alloc (Nat.le_refl _) _)) (fun _ h _ => h) (fun k _ hk => blk_alloc_old hk))).mono ?_
    rintro e w1 ⟨u1, rfl, hv1, hb1⟩
    obtain ⟨A1, m1, c1, rfl⟩ : ∃ A m c, u1 = .slice A m c := by obtain ⟨A, c, h⟩ := Kd.R_slice hv1; exact ⟨A, _, c, h⟩
    have hX : w1.heap[w.heap.size]? = some zeroCells := (hb1.block _ (by simp)).trans (heap_alloc_new w _)
    have HX := Lib.hid hX
    have HV1 := Lib.hid hv1
    have HB1 := Lib.hid hb1
    have q0 := (blk_cell HX.out 0).trans rfl
    have q1 := (blk_cell HX.out 1).trans rfl
    have q2 := (blk_cell HX.out 2).trans rfl
    have q3 := (blk_cell HX.out 3).trans rfl
    have q4 := (blk_cell HX.out 4).trans rfl
    have q5 := (blk_cell HX.out 5).trans rfl
    have z0 := blk_frozen HX.out 0
    have z1 := blk_frozen HX.out 1
    have z2 := blk_frozen HX.out 2
    have z3 := blk_frozen HX.out 3
    have z4 := blk_frozen HX.out 4
    have z5 := blk_frozen HX.out 5
    clear hv1 hb1 hX
    go_wp2
    refine bodyPost_ret (v := .agg #[.int .i64 6, .int .i64 0, .float .f64 0, .string ⟨#[]⟩, .slice none 0 0, .slice A1 m1 c1]) (by simp [results, Try.results34, go_sem, q0, q1, q2, q3, q4, q5]) rfl ?_
    exact ⟨_, _, rfl, Kd.R_nil _ _ _ _ _, Kd.R_mono (Kd.R_lower (R_six HV1.out (g := w.heap.size) (by simp) _ _ _ _ _ _) (by simp)) (fun k _ => by simp [Value.ownBlock]), below_six ((HB.out _).trans (HB1.out.mono (by simp))) (Nat.le_refl _) _ _ _ _ _ _⟩
  · simp only at h0 hr
    subst h0
    obtain ⟨-, -, el, -, ek, ec, e7, -, -, e3, e1, -, -, -⟩ := hx
    simp only at el ec ek e3 e1 e7
    obtain ⟨-, easc⟩ := e7 trivial
    obtain rfl := e3 (by decide)
    obtain rfl := e1 (by decide) (by decide) (by decide)
    have HR := Lib.hid hr
    have HL := Lib.hid hD
    have HC := Lib.hid ec
    have HK := Lib.hid ek
    have HA := Lib.hid easc
    clear e3 e1 HX hr hL hD ec ek easc e7
    have ta0 : ∀ (v : Value) (W : World), (Instr.typeAssert (.iface 58 v) 20 4 true).run Try.prog W = .ok (.tuple #[.bool false, .bool false]) W := fun v W => by kernel_rfl
    have ta1 : ∀ (v : Value) (W : World), (Instr.typeAssert (.iface 58 v) 20 3 true).run Try.prog W = .ok (.tuple #[.int .i64 0, .bool false]) W := fun v W => by kernel_rfl
    have ta2 : ∀ (v : Value) (W : World), (Instr.typeAssert (.iface 58 v) 20 2 true).run Try.prog W = .ok (.tuple #[.int .i64 0, .bool false]) W := fun v W => by kernel_rfl
    have ta3 : ∀ (v : Value) (W : World), (Instr.typeAssert (.iface 58 v) 20 29 true).run Try.prog W = .ok (.tuple #[.float .f64 0, .bool false]) W := fun v W => by kernel_rfl
    have ta4 : ∀ (v : Value) (W : World), (Instr.typeAssert (.iface 58 v) 20 9 true).run Try.prog W = .ok (.tuple #[.string ⟨#[]⟩, .bool false]) W := fun v W => by kernel_rfl
    have ta5 : ∀ (v : Value) (W : World), (Instr.typeAssert (.iface 58 v) 20 43 true).run Try.prog W = .ok (.tuple #[.slice none 0 0, .bool false]) W := fun v W => by kernel_rfl
    have ta6 : ∀ (v : Value) (W : World), (Instr.typeAssert (.iface 58 v) 20 58 true).run Try.prog W = .ok (.tuple #[v, .bool true]) W := fun v W => by kernel_rfl
    go_enter Try.func34, Try.ntmps34
    go_wp2_with fail
    refine (HL.out f4 f5 u ok _ HC.out el HA.out HK.out (HR.out.imp (fun _ _ h => h.below ((Below.refl _ _).alloc (Nat.le_refl _) _)) (fun _ h _ => h) (fun k _ hk => blk_alloc_old hk))).mono ?_
    rintro e w1 ⟨v4, v5, rfl, hv4, hv5, hb1⟩
    obtain ⟨A4, m4, c4, rfl⟩ : ∃ A m c, v4 = .slice A m c := by obtain ⟨A, c, h⟩ := Kd.R_slice hv4; exact ⟨A, _, c, h⟩
    obtain ⟨A5, m5, c5, rfl⟩ : ∃ A m c, v5 = .slice A m c := by obtain ⟨A, c, h⟩ := Kd.R_slice hv5; exact ⟨A, _, c, h⟩
    have hX : w1.heap[w.heap.size]? = some zeroCells := (hb1.block _ (by simp)).trans (heap_alloc_new w _)
    have HX := Lib.hid hX
    have HV4 := Lib.hid hv4
    have HV5 := Lib.hid hv5
    have HB1 := Lib.hid hb1
    have q0 := (blk_cell HX.out 0).trans rfl
    have q1 := (blk_cell HX.out 1).trans rfl
    have q2 := (blk_cell HX.out 2).trans rfl
    have q3 := (blk_cell HX.out 3).trans rfl
    have q4 := (blk_cell HX.out 4).trans rfl
    have q5 := (blk_cell HX.out 5).trans rfl
    have z0 := blk_frozen HX.out 0
    have z1 := blk_frozen HX.out 1
    have z2 := blk_frozen HX.out 2
    have z3 := blk_frozen HX.out 3
    have z4 := blk_frozen HX.out 4
    have z5 := blk_frozen HX.out 5
    clear hv4 hv5 hb1 hX
    go_wp2
    refine bodyPost_ret (v := .agg #[.int .i64 7, .int .i64 0, .float .f64 0, .string ⟨#[]⟩, .slice A4 m4 c4, .slice A5 m5 c5]) (by simp [results, Try.results34, go_sem, q0, q1, q2, q3, q4, q5]) rfl ?_
    exact ⟨_, _, rfl, Kd.R_lower (R_six HV4.out (g := w.heap.size) (by simp) _ _ _ _ _ _) (by simp), Kd.R_lower (R_six HV5.out (g := w.heap.size) (by simp) _ _ _ _ _ _) (by simp), below_six ((HB.out _).trans (HB1.out.mono (by simp))) (Nat.le_refl _) _ _ _ _ _ _⟩
end Go.Proofs.Ytffkinonnkbcpaa.P
