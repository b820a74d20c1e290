/- Texts joined: Rg9, Rg10, Rg11, Rg12, Rg13, Rg14. -/
import Derived.Test.YtlhijjfbcgconaaDoorZRgA
import Derived.Test.YtlhijjfbcgconaaDoorZRgB
import Derived.Test.YtlhijjfbcgconaaDoorZSo2

/- Constraints: a text without white space is not rewritten. -/
set_option linter.unusedVariables false
set_option linter.unusedSimpArgs false
namespace Go.Proofs.YtlhijjfbcgconaaDoor.P
open Go.RowKit Go.Proofs.YtlhijjfbcgconaaDoorW.PrintWords Go.Proofs.YtlhijjfbcgconaaDoorW.PrintLast Go.Proofs.YtlhijjfbcgconaaDoorW.PrintMore

end Go.Proofs.YtlhijjfbcgconaaDoor.P


/- Constraints: the list of a text (NewConstraint). -/
set_option linter.unusedVariables false
set_option linter.unusedSimpArgs false
namespace Go.Proofs.YtlhijjfbcgconaaDoor.P
open Go.RowKit Go.Proofs.YtlhijjfbcgconaaDoorW.PrintWords Go.Proofs.YtlhijjfbcgconaaDoorW.PrintLast Go.Proofs.YtlhijjfbcgconaaDoorW.PrintMore

theorem bar_index (s : ByteArray) (hs : s.size ≤ 1000) (hn : ∀ j, j < s.size → bt s (j : Int) ≠ 124) : ∀ n x : Nat, x + n = s.size → Ev (fun k => semver_zzIndex.l0 k s ⟨#[124, 124]⟩ (x : Int)) (-1)
  | n, x, hx => by
    have h1 : ((⟨#[124, 124]⟩ : ByteArray).size : Int) = 2 := rfl
    refine Ev.step (fun k => by rw [semver_zzIndex.l0]) ?_
    rw [h1, w64_in (by omega) (by omega)]
    by_cases c : x + 2 ≤ s.size
    · refine Ev.pos (by omega) (Ev.pos (by omega) (Ev.pos (by omega) (Ev.neg ?_ ?_)))
      · intro h
        rw [show ((x : Int) + 2).toNat = x + 2 by omega, Int.toNat_natCast] at h
        have h2 : s.extract x (x + 2) = ⟨#[124, 124]⟩ := toList_inj h
        have h3 := bt_ext s x (x + 2) 0 (by omega)
        rw [h2] at h3
        exact hn x (by omega) (by rw [show x = x + 0 from rfl, ← h3]; rfl)
      · match n, hx with
        | 0, hx => omega
        | m + 1, hx =>
          rw [w64_in (by omega) (by omega), show (x : Int) + 1 = ((x + 1 : Nat) : Int) by omega]
          exact bar_index s hs hn m (x + 1) (by omega)
    · exact Ev.neg (by omega) (Ev.ok _)
theorem bar_split (s : ByteArray) (hs : s.size ≤ 1000) (hn : ∀ j, j < s.size → bt s (j : Int) ≠ 124) : Ev (fun k => semver_zzSplit.f k s ⟨#[124, 124]⟩) [s] := by
  unfold semver_zzSplit.f
  refine Ev.step (fun k => by rw [semver_zzSplit.l0]) ?_
  refine Ev.bind (by unfold semver_zzIndex.f; exact bar_index s hs hn s.size 0 (by omega)) ?_
  exact Ev.pos (by decide) (Ev.pos (by decide) (Ev.ok _))
end Go.Proofs.YtlhijjfbcgconaaDoor.P


/- Constraints: NewConstraint of one constraint. -/
set_option linter.unusedVariables false
set_option linter.unusedSimpArgs false
namespace Go.Proofs.YtlhijjfbcgconaaDoor.P
open Go.RowKit Go.Proofs.YtlhijjfbcgconaaDoorW.PrintWords Go.Proofs.YtlhijjfbcgconaaDoorW.PrintLast Go.Proofs.YtlhijjfbcgconaaDoorW.PrintMore

theorem make1 {P : Program} (t e : TypeId) (z : Value) (by_ : Nat) (ht : P.underlying t = some (.slice e)) (hinfo : (P.info? e).map (fun i => (i.zero, i.size, i.bytes)) = some (some z, 1, by_)) (hz : z.cells = #[z]) (hb : by_ ≤ 100) (W : World) :
    (Instr.makeSlice t (.int .i64 1) (.int .i64 1)).run P W = .ok (.slice (some ⟨W.heap.size, 0, none⟩) 1 1) (W.alloc (.cells #[z] e)) := by
  obtain ⟨i, hi, hzz⟩ := Option.map_eq_some_iff.1 hinfo
  simp only [Prod.mk.injEq] at hzz
  obtain ⟨h1, h2, h3⟩ := hzz
  have hr := run_make (P := P) W t e i z ht hi h1 .i64 .i64 1 1 (by omega) (by omega) (by rw [h3]; omega) (by omega)
  have hm : madeCells #[z] (Int.toNat 1 * 1) = #[z] := by
    apply Array.ext (by simp [madeCells])
    intro i h1 h2
    have : i = 0 := by simp [madeCells] at h1; omega
    subst this
    simp [madeCells]
  rw [hr, h2, hz, hm]
  rfl
theorem mk_rows (W : World) : (Instr.makeSlice 113 (.int .i64 1) (.int .i64 1)).run Tryd.prog W = .ok (.slice (some ⟨W.heap.size, 0, none⟩) 1 1) (W.alloc (.cells #[.slice none 0 0] 115)) := make1 _ _ _ 24 Tryd.underlying113 (by kernel_rfl) rfl (by decide) W
theorem mk_bools (W : World) : (Instr.makeSlice 114 (.int .i64 1) (.int .i64 1)).run Tryd.prog W = .ok (.slice (some ⟨W.heap.size, 0, none⟩) 1 1) (W.alloc (.cells #[.bool false] 4)) := make1 _ _ _ 1 Tryd.underlying114 (by kernel_rfl) rfl (by decide) W
end Go.Proofs.YtlhijjfbcgconaaDoor.P


/- Constraints: Check, and the doors. -/
set_option linter.unusedVariables false
set_option linter.unusedSimpArgs false
namespace Go.Proofs.YtlhijjfbcgconaaDoor.P
open Go.RowKit Go.Proofs.YtlhijjfbcgconaaDoorW.PrintWords Go.Proofs.YtlhijjfbcgconaaDoorW.PrintLast Go.Proofs.YtlhijjfbcgconaaDoorW.PrintMore

end Go.Proofs.YtlhijjfbcgconaaDoor.P


/- Constraints: the doors. -/
set_option linter.unusedVariables false
set_option linter.unusedSimpArgs false
namespace Go.Proofs.YtlhijjfbcgconaaDoor.P
open Go.RowKit Go.Proofs.YtlhijjfbcgconaaDoorW.PrintWords Go.Proofs.YtlhijjfbcgconaaDoorW.PrintLast Go.Proofs.YtlhijjfbcgconaaDoorW.PrintMore

set_option maxHeartbeats 3200000 in
set_option maxRecDepth 100000 in
theorem sprigCompare_of {s t : ByteArray} {B : Bool} (w : World) (h : Calls Tryd.prog 63 #[.string s, .string t] w fun e w' => e = .returned (.tuple #[.bool B, .nilIface]) ∧ Below w.heap.size w w') :
    Calls Tryd.prog 49 #[.string s, .string t] w fun e w' => e = .returned (.tuple #[.bool B, .nilIface]) ∧ Below w.heap.size w w' := by
  have H := Lib.hid h
  clear h
  go_enter Tryd.func49, Tryd.ntmps49
  go_wp2_with fail
  refine H.out.mono ?_
  rintro e w2 ⟨rfl, hb⟩
  have HB := Lib.hid hb
  clear hb H
  go_wp2
  go_ret2
  exact ⟨rfl, HB.out⟩
set_option maxHeartbeats 3200000 in
set_option maxRecDepth 100000 in
theorem implCompare_of {s t : ByteArray} {B : Bool} (w : World) (h : Calls Tryd.prog 49 #[.string s, .string t] w fun e w' => e = .returned (.tuple #[.bool B, .nilIface]) ∧ Below w.heap.size w w') :
    Calls Tryd.prog 24 #[.string s, .string t] w fun e w' => e = .returned (.tuple #[.bool B, .bool true]) ∧ Below w.heap.size w w' := by
  have H := Lib.hid h
  clear h
  go_enter Tryd.func24, Tryd.ntmps24
  go_wp2_with fail
  refine H.out.mono ?_
  rintro e w2 ⟨rfl, hb⟩
  have HB := Lib.hid hb
  clear hb H
  go_upto_region 2 with fail
  go_region
  (try go_wp2)
  go_ret2
  exact ⟨rfl, HB.out.drew⟩
end Go.Proofs.YtlhijjfbcgconaaDoor.P


/- Ranges: what lies within (within16). -/
set_option linter.unusedVariables false
set_option linter.unusedSimpArgs false
namespace Go.Proofs.YtlhijjfbcgconaaDoor.P
open Go.RowKit Go.Proofs.YtlhijjfbcgconaaDoorW.PrintWords Go.Proofs.YtlhijjfbcgconaaDoorW.PrintLast Go.Proofs.YtlhijjfbcgconaaDoorW.PrintMore

end Go.Proofs.YtlhijjfbcgconaaDoor.P

