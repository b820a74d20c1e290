/- sprig.empty, sprig.Empty, spec.Empty: whether a value is empty. -/
import Derived.Test.YtlefdkemgfjieaaT1
import Derived.Test.YtlefdkemgfjieaaQ1
set_option linter.unusedVariables false
set_option linter.unusedSimpArgs false
namespace Go.Proofs.Ytlefdkemgfjieaa.P
open Go.RowKit Go.Proofs.YtlefdkemgfjieaaW.PrintWords Go.Proofs.YtlefdkemgfjieaaW.PrintLast Go.Proofs.YtlefdkemgfjieaaW.PrintMore
attribute [local go_sem] run_store_float

/-- Whether a value is empty. -/
def emptyB (x : S26) : Bool := if x.f0 = 4 then (FloatKind.f64.format.order x.f2 0 == some Ordering.eq) else if x.f0 = 5 then (x.f3.toList == ([] : List UInt8)) else if x.f0 = 6 then ((x.f5.length : Int) == 0) else if x.f0 = 7 then ((x.f5.length : Int) == 0) else (x.f1 == 0)
theorem empty_some (x : S26) : spec_Empty.f 1 x.f0 x.f1 x.f2 x.f3 x.f4 x.f5 = some (emptyB x) := by
  unfold spec_Empty.f emptyB
  split
  · rfl
  · split
    · rfl
    · split
      · rename_i h
        simp [spec_Empty.j0, h]
      · split
        · rename_i h
          simp [spec_Empty.j0, h]
        · rename_i h
          simp [spec_Empty.j0, h]
theorem specEmpty_con (x : S26) (A4 : Option Addr) (c4 : Nat) (A5 : Option Addr) (c5 : Nat) (w : World) (h : RowsAt x A4 c4 A5 c5 w) : Calls Try.prog 25 #[aggOf x A4 c4 A5 c5] w fun e w' => e = .returned (.bool (emptyB x)) ∧ Below w.heap.size w w' :=
  spec_Empty.calls 1 _ _ _ _ A4 c4 _ A5 c5 _ _ w h.1 h.2.1 h.2.2.1 h.2.2.2 (empty_some x)
theorem pairs_length : ∀ (ks : List ByteArray) (vs : List Value), ks.length = vs.length → (pairsOf ks vs).length = vs.length
  | [], [], _ => rfl
  | _ :: ks, _ :: vs, h => by simp only [pairsOf, List.length_cons]; rw [pairs_length ks vs (by simpa using h)]
  | [], _ :: _, h => by simp at h
  | _ :: _, [], h => by simp at h
theorem nil_size (s : ByteArray) : (s.toList == ([] : List UInt8)) = ((s.size : Int) == 0) := by
  rw [ByteArray.toList_eq]
  have h : s.size = s.data.toList.length := by rw [Array.length_toList]; rfl
  rw [h]
  cases s.data.toList with
  | nil => rfl
  | cons a l => simp; omega
set_option maxHeartbeats 3200000 in
set_option maxRecDepth 100000 in
theorem empty_call {n : Nat} {x : S26} {v : Value} {ok : Nat → Prop} {w : World} (hx : fitsN n x) (hv : GoN n ok w x v) : Calls Try.prog 77 #[v] w fun e w' => e = .returned (.bool (emptyB x)) ∧ Below w.heap.size w w' := by
  cases n with
  | zero => exact hx.elim
  | succ n =>
  obtain ⟨f0, f1, f2, f3, f4, f5⟩ := x
  have hB := Below.refl w.heap.size w
  have HB := Lib.hid hB
  clear hB
  rcases hv with ⟨h0, rfl⟩ | ⟨h0, rfl⟩ | ⟨h0, rfl⟩ | ⟨h0, rfl⟩ | ⟨h0, rfl⟩ | ⟨h0, rfl⟩ | ⟨h0, u, rfl, hr⟩ | ⟨h0, u, rfl, hr⟩
  · simp only at h0
    subst h0
    obtain ⟨-, -, -, -, -, -, -, e4, e5, e3, e1, e6, -, -⟩ := hx
    simp only at e1
    obtain rfl := e1 (by decide) (by decide) (by decide)
    have he : emptyB ⟨0, 0, f2, f3, f4, f5⟩ = true := rfl
    rw [he]
    clear e4 e5 e3 e1 e6 he
    go_enter Try.func77, Try.ntmps77
    go_wp2
    go_ret
    exact ⟨rfl, HB.out⟩
  · simp only at h0
    subst h0
    obtain ⟨-, -, -, -, -, -, -, -, -, -, -, e6, -, -⟩ := hx
    have e7 := e6 rfl
    simp only at e7
    clear e6
    have he : emptyB ⟨1, f1, f2, f3, f4, f5⟩ = !(f1 == 1) := by rcases e7 with rfl | rfl <;> rfl
    simp only at *
    rw [he]
    clear he e7
    generalize (f1 == 1) = bb
    have ta0 : ∀ (v : Value) (W : World), (Instr.typeAssert (.iface 4 v) 20 77 true).run Try.prog W = .ok (.tuple #[.slice none 0 0, .bool false]) W := fun v W => by kernel_rfl
    have ta1 : ∀ (v : Value) (W : World), (Instr.typeAssert (.iface 4 v) 20 23 true).run Try.prog W = .ok (.tuple #[.slice none 0 0, .bool false]) W := fun v W => by kernel_rfl
    have ta2 : ∀ (v : Value) (W : World), (Instr.typeAssert (.iface 4 v) 20 68 true).run Try.prog W = .ok (.tuple #[.map none, .bool false]) W := fun v W => by kernel_rfl
    have ta3 : ∀ (v : Value) (W : World), (Instr.typeAssert (.iface 4 v) 20 9 true).run Try.prog W = .ok (.tuple #[.string ⟨#[]⟩, .bool false]) W := fun v W => by kernel_rfl
    have ta4 : ∀ (v : Value) (W : World), (Instr.typeAssert (.iface 4 v) 20 4 true).run Try.prog W = .ok (.tuple #[v, .bool true]) W := fun v W => by kernel_rfl
    go_enter Try.func77, Try.ntmps77
    go_wp2
    go_ret
    exact ⟨rfl, HB.out⟩
  · simp only at h0
    subst h0
    clear hx
    have he : emptyB ⟨2, f1, f2, f3, f4, f5⟩ = (f1 == 0) := rfl
    rw [he]
    clear he
    have ta0 : ∀ (v : Value) (W : World), (Instr.typeAssert (.iface 3 v) 20 77 true).run Try.prog W = .ok (.tuple #[.slice none 0 0, .bool false]) W := fun v W => by kernel_rfl
    have ta1 : ∀ (v : Value) (W : World), (Instr.typeAssert (.iface 3 v) 20 23 true).run Try.prog W = .ok (.tuple #[.slice none 0 0, .bool false]) W := fun v W => by kernel_rfl
    have ta2 : ∀ (v : Value) (W : World), (Instr.typeAssert (.iface 3 v) 20 68 true).run Try.prog W = .ok (.tuple #[.map none, .bool false]) W := fun v W => by kernel_rfl
    have ta3 : ∀ (v : Value) (W : World), (Instr.typeAssert (.iface 3 v) 20 9 true).run Try.prog W = .ok (.tuple #[.string ⟨#[]⟩, .bool false]) W := fun v W => by kernel_rfl
    have ta4 : ∀ (v : Value) (W : World), (Instr.typeAssert (.iface 3 v) 20 4 true).run Try.prog W = .ok (.tuple #[.bool false, .bool false]) W := fun v W => by kernel_rfl
    have ta5 : ∀ (v : Value) (W : World), (Instr.typeAssert (.iface 3 v) 20 3 true).run Try.prog W = .ok (.tuple #[v, .bool true]) W := fun v W => by kernel_rfl
    go_enter Try.func77, Try.ntmps77
    go_wp2
    go_ret
    exact ⟨rfl, HB.out⟩
  · simp only at h0
    subst h0
    clear hx
    have he : emptyB ⟨3, f1, f2, f3, f4, f5⟩ = (f1 == 0) := rfl
    rw [he]
    clear he
    have ta0 : ∀ (v : Value) (W : World), (Instr.typeAssert (.iface 2 v) 20 77 true).run Try.prog W = .ok (.tuple #[.slice none 0 0, .bool false]) W := fun v W => by kernel_rfl
    have ta1 : ∀ (v : Value) (W : World), (Instr.typeAssert (.iface 2 v) 20 23 true).run Try.prog W = .ok (.tuple #[.slice none 0 0, .bool false]) W := fun v W => by kernel_rfl
    have ta2 : ∀ (v : Value) (W : World), (Instr.typeAssert (.iface 2 v) 20 68 true).run Try.prog W = .ok (.tuple #[.map none, .bool false]) W := fun v W => by kernel_rfl
    have ta3 : ∀ (v : Value) (W : World), (Instr.typeAssert (.iface 2 v) 20 9 true).run Try.prog W = .ok (.tuple #[.string ⟨#[]⟩, .bool false]) W := fun v W => by kernel_rfl
    have ta4 : ∀ (v : Value) (W : World), (Instr.typeAssert (.iface 2 v) 20 4 true).run Try.prog W = .ok (.tuple #[.bool false, .bool false]) W := fun v W => by kernel_rfl
    have ta5 : ∀ (v : Value) (W : World), (Instr.typeAssert (.iface 2 v) 20 3 true).run Try.prog W = .ok (.tuple #[.int .i64 0, .bool false]) W := fun v W => by kernel_rfl
    have ta6 : ∀ (v : Value) (W : World), (Instr.typeAssert (.iface 2 v) 20 2 true).run Try.prog W = .ok (.tuple #[v, .bool true]) W := fun v W => by kernel_rfl
    go_enter Try.func77, Try.ntmps77
    go_wp2
    go_ret
    exact ⟨rfl, HB.out⟩
  · simp only at h0
    subst h0
    clear hx
    have he : emptyB ⟨4, f1, f2, f3, f4, f5⟩ = (FloatKind.f64.format.order f2 0 == some Ordering.eq) := rfl
    rw [he]
    clear he
    have ta0 : ∀ (v : Value) (W : World), (Instr.typeAssert (.iface 22 v) 20 77 true).run Try.prog W = .ok (.tuple #[.slice none 0 0, .bool false]) W := fun v W => by kernel_rfl
    have ta1 : ∀ (v : Value) (W : World), (Instr.typeAssert (.iface 22 v) 20 23 true).run Try.prog W = .ok (.tuple #[.slice none 0 0, .bool false]) W := fun v W => by kernel_rfl
    have ta2 : ∀ (v : Value) (W : World), (Instr.typeAssert (.iface 22 v) 20 68 true).run Try.prog W = .ok (.tuple #[.map none, .bool false]) W := fun v W => by kernel_rfl
    have ta3 : ∀ (v : Value) (W : World), (Instr.typeAssert (.iface 22 v) 20 9 true).run Try.prog W = .ok (.tuple #[.string ⟨#[]⟩, .bool false]) W := fun v W => by kernel_rfl
    have ta4 : ∀ (v : Value) (W : World), (Instr.typeAssert (.iface 22 v) 20 4 true).run Try.prog W = .ok (.tuple #[.bool false, .bool false]) W := fun v W => by kernel_rfl
    have ta5 : ∀ (v : Value) (W : World), (Instr.typeAssert (.iface 22 v) 20 3 true).run Try.prog W = .ok (.tuple #[.int .i64 0, .bool false]) W := fun v W => by kernel_rfl
    have ta6 : ∀ (v : Value) (W : World), (Instr.typeAssert (.iface 22 v) 20 2 true).run Try.prog W = .ok (.tuple #[.int .i64 0, .bool false]) W := fun v W => by kernel_rfl
    have ta7 : ∀ (v : Value) (W : World), (Instr.typeAssert (.iface 22 v) 20 22 true).run Try.prog W = .ok (.tuple #[v, .bool true]) W := fun v W => by kernel_rfl
    go_enter Try.func77, Try.ntmps77
    go_wp2
    go_ret
    exact ⟨rfl, HB.out⟩
  · simp only at h0
    subst h0
    clear hx
    have he : emptyB ⟨5, f1, f2, f3, f4, f5⟩ = ((f3.size : Int) == 0) := nil_size f3
    rw [he]
    clear he
    have ta0 : ∀ (v : Value) (W : World), (Instr.typeAssert (.iface 9 v) 20 77 true).run Try.prog W = .ok (.tuple #[.slice none 0 0, .bool false]) W := fun v W => by kernel_rfl
    have ta1 : ∀ (v : Value) (W : World), (Instr.typeAssert (.iface 9 v) 20 23 true).run Try.prog W = .ok (.tuple #[.slice none 0 0, .bool false]) W := fun v W => by kernel_rfl
    have ta2 : ∀ (v : Value) (W : World), (Instr.typeAssert (.iface 9 v) 20 68 true).run Try.prog W = .ok (.tuple #[.map none, .bool false]) W := fun v W => by kernel_rfl
    have ta3 : ∀ (v : Value) (W : World), (Instr.typeAssert (.iface 9 v) 20 9 true).run Try.prog W = .ok (.tuple #[v, .bool true]) W := fun v W => by kernel_rfl
    go_enter Try.func77, Try.ntmps77
    go_wp2
    go_ret
    exact ⟨rfl, HB.out⟩
  · simp only at h0
    subst h0
    clear hx
    obtain ⟨g, c, vs, rfl, -, -, -, -⟩ := hr
    have he : emptyB ⟨6, f1, f2, f3, f4, f5⟩ = ((f5.length : Int) == 0) := rfl
    rw [he]
    clear he
    have ta0 : ∀ (v : Value) (W : World), (Instr.typeAssert (.iface 77 v) 20 77 true).run Try.prog W = .ok (.tuple #[v, .bool true]) W := fun v W => by kernel_rfl
    go_enter Try.func77, Try.ntmps77
    go_wp2
    go_ret
    exact ⟨rfl, HB.out⟩
  · simp only at h0
    subst h0
    clear hx
    obtain ⟨b, m, vs, rfl, -, hvs, hks, -, ho, -⟩ := hr
    have hln := fun (w : World) (h : w.ownsMap Try.prog 9 rawR b m (.map (pairsOf f4 vs))) (ty : TypeId) => h.len Try.underlying68 ty
    have hsz : Maps.size (DataW.map (pairsOf f4 vs)) = f5.length := by rw [Maps.size_eq, pairs_length _ _ (by simp only at hvs hks; omega)]; exact hvs
    have hl0 := hln w ho
    simp only [hsz] at hl0
    clear hln hsz ho hvs hks
    have he : emptyB ⟨7, f1, f2, f3, f4, f5⟩ = ((f5.length : Int) == 0) := rfl
    rw [he]
    clear he
    have ta0 : ∀ (v : Value) (W : World), (Instr.typeAssert (.iface 68 v) 20 77 true).run Try.prog W = .ok (.tuple #[.slice none 0 0, .bool false]) W := fun v W => by kernel_rfl
    have ta1 : ∀ (v : Value) (W : World), (Instr.typeAssert (.iface 68 v) 20 23 true).run Try.prog W = .ok (.tuple #[.slice none 0 0, .bool false]) W := fun v W => by kernel_rfl
    have ta2 : ∀ (v : Value) (W : World), (Instr.typeAssert (.iface 68 v) 20 68 true).run Try.prog W = .ok (.tuple #[v, .bool true]) W := fun v W => by kernel_rfl
    go_enter Try.func77, Try.ntmps77
    go_wp2
    go_ret
    exact ⟨rfl, HB.out⟩
end Go.Proofs.Ytlefdkemgfjieaa.P
