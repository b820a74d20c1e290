/- Texts joined: So1, So3, So4. -/
import Derived.Test.YtlhijjfbcgconaaDoorZSo2
import Derived.Test.YtlhijjfbcgconaaDoorZPx17

/- Versions: identifiers and their order, plain. -/
set_option linter.unusedVariables false
set_option linter.unusedSimpArgs false
namespace Go.Proofs.YtlhijjfbcgconaaDoor.P
open Go.RowKit Go.Proofs.YtlhijjfbcgconaaDoorW.PrintWords Go.Proofs.YtlhijjfbcgconaaDoorW.PrintLast Go.Proofs.YtlhijjfbcgconaaDoorW.PrintMore

theorem iface_of_reads {P : Program} {W : World} {n nm : String} {d : DataW Unit} {g : Nat} {ti : TypeId} {ms : Array (String × TypeId)}
    (hg : P.globalNamed n = some g) (ht : (P.globals[g]?).map (·.type) = some ti) (hi : P.underlying ti = some (.interface ms)) (h : Lib.VarReads P W n (.iface nm d)) :
    ∃ tp p, W.var? P n = some #[.iface tp p] := by
  obtain ⟨g0, t0, cs, fuel, p, hg0, ht0, hv, hd⟩ := h
  obtain rfl := Option.some.inj (hg.symm.trans hg0)
  obtain rfl := Option.some.inj (ht.symm.trans ht0)
  obtain ⟨l⟩ := cs
  cases fuel with
  | zero => simp [DataW.trod] at hd
  | succ k =>
    unfold DataW.trod at hd
    rw [hi] at hd
    simp only at hd
    split at hd
    all_goals first
      | (cases hd; done)
      | exact ⟨_, _, hv⟩
      | (rename_i heq; cases heq; done)
      | (rename_i heq _; cases heq; done)
theorem var_below {P : Program} {w w' : World} {n : String} {cs : Array Value} (h : w.var? P n = some cs) (hb : Below w.heap.size w w') : w'.var? P n = some cs := by
  unfold World.var? at h ⊢
  obtain ⟨g, hg, hc⟩ := Option.bind_eq_some_iff.1 h
  rw [hg, Option.bind_some]
  cases ho : w.heap[g]? with
  | none => rw [ho] at hc; cases hc
  | some ob =>
    have hlt := (Array.getElem?_eq_some_iff.1 ho).1
    rw [hb.block g hlt]
    exact hc
/-- The two errors of package strconv hold something. -/
def TabsE (w : World) : Prop := (∃ tp p, w.var? Tryd.prog "strconv.ErrSyntax" = some #[.iface tp p]) ∧ ∃ tp p, w.var? Tryd.prog "strconv.ErrRange" = some #[.iface tp p]
theorem TabsE.below {w w' : World} (h : TabsE w) (hb : Below w.heap.size w w') : TabsE w' := by
  obtain ⟨⟨a, b, h1⟩, c, d, h2⟩ := h
  exact ⟨⟨a, b, var_below h1 hb⟩, c, d, var_below h2 hb⟩

/-! ### both ways to cut at the points -/
/-! ### the order of identifiers -/
/-! ### numbers of identifiers -/
end Go.Proofs.YtlhijjfbcgconaaDoor.P

/- Versions: the package's order of what stands behind a hyphen. -/
set_option linter.unusedVariables false
set_option linter.unusedSimpArgs false
namespace Go.Proofs.YtlhijjfbcgconaaDoor.P
open Go.RowKit Go.Proofs.YtlhijjfbcgconaaDoorW.PrintWords Go.Proofs.YtlhijjfbcgconaaDoorW.PrintLast Go.Proofs.YtlhijjfbcgconaaDoorW.PrintMore

end Go.Proofs.YtlhijjfbcgconaaDoor.P

/- Versions: the package's order. -/
set_option linter.unusedVariables false
set_option linter.unusedSimpArgs false
namespace Go.Proofs.YtlhijjfbcgconaaDoor.P
open Go.RowKit Go.Proofs.YtlhijjfbcgconaaDoorW.PrintWords Go.Proofs.YtlhijjfbcgconaaDoorW.PrintLast Go.Proofs.YtlhijjfbcgconaaDoorW.PrintMore

theorem seg_pure (a b : Int) : semver_compareSegment.f a b = some (seg3 a b) := by
  unfold semver_compareSegment.f seg3
  split
  · rfl
  · split <;> rfl
theorem seg_call (a b : Int) (W : World) : Calls Tryd.prog 52 #[.int .u64 a, .int .u64 b] W fun e w' => e = .returned (.int .i64 (seg3 a b)) ∧ Below W.heap.size W w' := by
  refine (semver_compareSegment.calls a b (seg3 a b) W (seg_pure a b)).mono ?_
  rintro e w' ⟨rfl, hd⟩
  obtain ⟨n, rfl⟩ := hd.out
  exact ⟨rfl, pw_below_drewN (Below.refl _ _) n⟩
/-- What stands behind the hyphen, or not. -/
def preC (pa pb : ByteArray) (C : Int) : Int := if pa.size = 0 then (if pb.size = 0 then 0 else 1) else if pb.size = 0 then -1 else C
def cmpV (n1 n2 n3 m1 m2 m3 : Int) (pa pb : ByteArray) (C : Int) : Int := if ord3 n1 n2 n3 m1 m2 m3 ≠ 0 then ord3 n1 n2 n3 m1 m2 m3 else preC pa pb C
set_option maxHeartbeats 1600000 in
set_option maxRecDepth 100000 in
theorem compare_call (qa qb : Nat) (n1 n2 n3 m1 m2 m3 : Int) (pa ma oa pb mb ob : ByteArray) (C : Int) (w : World) (hA : w.heap[qa]? = some (.cells (verCells n1 n2 n3 pa ma oa) 69 (0, 0))) (hB : w.heap[qb]? = some (.cells (verCells m1 m2 m3 pb mb ob) 69 (0, 0))) (hE : TabsE w)
    (hpre : 0 < pa.size → 0 < pb.size → ∀ W, TabsE W → Calls Tryd.prog 53 #[.string pa, .string pb] W fun e w' => e = .returned (.int .i64 C) ∧ Below W.heap.size W w') :
    Calls Tryd.prog 35 #[.pointer (some ⟨qa, 0, none⟩), .pointer (some ⟨qb, 0, none⟩)] w fun e w' => e = .returned (.int .i64 (cmpV n1 n2 n3 m1 m2 m3 pa pb C)) ∧ Below w.heap.size w w' := by
  have HS := Lib.hid (⟨hA, hB⟩ : w.heap[qa]? = some (.cells (verCells n1 n2 n3 pa ma oa) 69 (0, 0)) ∧ w.heap[qb]? = some (.cells (verCells m1 m2 m3 pb mb ob) 69 (0, 0)))
  have HBW := Lib.hid (Below.refl w.heap.size w)
  have HE := Lib.hid hE
  have HP := Lib.hid hpre
  obtain ⟨R, hR⟩ : ∃ R, R = cmpV n1 n2 n3 m1 m2 m3 pa pb C := ⟨_, rfl⟩
  have HR := Lib.hid hR
  rw [← hR]
  clear hA hB hE hpre hR
  go_enter Tryd.func35, Tryd.ntmps35
  go_upto_region 1 with fail
  have HSd := Lib.hid (show w.drew.heap[qa]? = _ ∧ w.drew.heap[qb]? = _ from HS.out)
  have HBd := Lib.hid (show Below w.heap.size w w.drew from HBW.out.drew)
  clear HS HBW
  refine start_ (n := 10) (ds := []) (S := fun w' => w'.heap[qa]? = some (.cells (verCells n1 n2 n3 pa ma oa) 69 (0, 0)) ∧ w'.heap[qb]? = some (.cells (verCells m1 m2 m3 pb mb ob) 69 (0, 0))) #[false, false, false, false, false, false, false, false, false, false] (by kernel_rfl) rfl rfl (HSd.out) (fun hHeld => ?_)
  generalize w.drew = a1 at *
  refine pure_ (i := 0) (N := some 10) (v := ?_) (a' := ?_) #[true, false, false, false, false, false, false, false, false, false] rfl rfl (by kernel_rfl) (fun _ _ _ h => h) (Or.inl ⟨by rfl, ?_⟩) ?_ ?_
  rotate_left; (intro w'; go_simp; with_reducible rfl)
  rotate_left; (go_frame; rfl)
  refine pure_ (i := 1) (N := some 11) (v := ?_) (a' := ?_) #[true, true, false, false, false, false, false, false, false, false] rfl rfl (by kernel_rfl) (fun _ _ _ h => h) (Or.inl ⟨by rfl, ?_⟩) ?_ ?_
  rotate_left; (intro w'; go_simp; with_reducible rfl)
  rotate_left; (go_frame; rfl)
  refine pure_ (i := 4) (N := some 14) (v := ?_) (a' := ?_) #[true, true, false, false, true, false, false, false, false, false] rfl rfl (by kernel_rfl) (fun _ _ _ h => h) (Or.inl ⟨by rfl, ?_⟩) ?_ ?_
  rotate_left; (intro w'; go_simp; with_reducible rfl)
  rotate_left; (go_frame; rfl)
  refine pure_ (i := 5) (N := some 15) (v := ?_) (a' := ?_) #[true, true, false, false, true, true, false, false, false, false] rfl rfl (by kernel_rfl) (fun _ _ _ h => h) (Or.inl ⟨by rfl, ?_⟩) ?_ ?_
  rotate_left; (intro w'; go_simp; with_reducible rfl)
  rotate_left; (go_frame; rfl)
  refine take_ (i := 2) (N := some 12) (v := ?_) (a' := ?_) #[true, true, true, false, true, true, false, false, false, false] rfl rfl (by kernel_rfl) (fun _ _ _ h => h) (Or.inl ⟨by rfl, ?_⟩) hHeld ?_ ?_
  rotate_left
  · intro w' hS
    obtain ⟨hS, _⟩ := hS
    have y0 := blk_cell hS 0
    have y1 := blk_cell hS 1
    have y2 := blk_cell hS 2
    have y3 := blk_cell hS 3
    have y4 := blk_cell hS 4
    have y5 := blk_cell hS 5
    simp only [verCells, List.getElem?_toArray, List.getElem?_cons_zero, List.getElem?_cons_succ] at y0 y1 y2 y3 y4 y5
    clear hS
    go_simp
    with_reducible rfl
  rotate_left; (go_frame; rfl)
  refine take_ (i := 6) (N := some 16) (v := ?_) (a' := ?_) #[true, true, true, false, true, true, true, false, false, false] rfl rfl (by kernel_rfl) (fun _ _ _ h => h) (Or.inl ⟨by rfl, ?_⟩) hHeld ?_ ?_
  rotate_left
  · intro w' hS
    obtain ⟨_, hS⟩ := hS
    have y0 := blk_cell hS 0
    have y1 := blk_cell hS 1
    have y2 := blk_cell hS 2
    have y3 := blk_cell hS 3
    have y4 := blk_cell hS 4
    have y5 := blk_cell hS 5
    simp only [verCells, List.getElem?_toArray, List.getElem?_cons_zero, List.getElem?_cons_succ] at y0 y1 y2 y3 y4 y5
    clear hS
    go_simp
    with_reducible rfl
  rotate_left; (go_frame; rfl)
  refine one_ (i := 3) (N := some 13) #[true, true, true, true, true, true, true, false, false, false] rfl rfl (by kernel_rfl) (by decide) (fun K hK => ?_)
  refine goes_ Tryd.func29 (by kernel_rfl) rfl #[.agg #[.int .u64 n1, .int .u64 n2, .int .u64 n3, .string pa, .string ma, .string oa]] (by rfl) rfl rfl (by (try simp only [List.map_toArray, List.map_cons, List.map_nil]); first | done | rfl) ?_
  refine (verMajor_call n1 n2 n3 pa ma oa a1).mono ?_
  rintro e b1 ⟨rfl, hb⟩
  have HSe := Lib.hid (⟨blk_below HSd.out.1 hb, blk_below HSd.out.2 hb⟩ : _ ∧ _)
  have HBe := Lib.hid (HBd.out.trans (hb.mono HBd.out.size))
  clear hb HSd HBd
  refine ⟨_, rfl, ?_⟩
  clear hHeld
  refine hK.out _ _ (HSe.out) (fun hHeld => ?_)
  clear hK K
  refine norm_ (a' := ?_) ?_ ?_
  rotate_left
  · show Act.put _ (some 13) _ = _
    go_frame
    rfl
  refine one_ (i := 7) (N := some 17) #[true, true, true, true, true, true, true, true, false, false] rfl rfl (by kernel_rfl) (by decide) (fun K hK => ?_)
  refine goes_ Tryd.func29 (by kernel_rfl) rfl #[.agg #[.int .u64 m1, .int .u64 m2, .int .u64 m3, .string pb, .string mb, .string ob]] (by rfl) rfl rfl (by (try simp only [List.map_toArray, List.map_cons, List.map_nil]); first | done | rfl) ?_
  refine (verMajor_call m1 m2 m3 pb mb ob b1).mono ?_
  rintro e c1 ⟨rfl, hb⟩
  have HSf := Lib.hid (⟨blk_below HSe.out.1 hb, blk_below HSe.out.2 hb⟩ : _ ∧ _)
  have HBf := Lib.hid (HBe.out.trans (hb.mono HBe.out.size))
  clear hb HSe HBe
  refine ⟨_, rfl, ?_⟩
  clear hHeld
  refine hK.out _ _ (HSf.out) (fun hHeld => ?_)
  clear hK K
  refine norm_ (a' := ?_) ?_ ?_
  rotate_left
  · show Act.put _ (some 17) _ = _
    go_frame
    rfl
  refine one_ (i := 8) (N := some 18) #[true, true, true, true, true, true, true, true, true, false] rfl rfl (by kernel_rfl) (by decide) (fun K hK => ?_)
  refine goes_ Tryd.func52 (by kernel_rfl) rfl #[.int .u64 n1, .int .u64 m1] (by rfl) rfl rfl (by (try simp only [List.map_toArray, List.map_cons, List.map_nil]); first | done | rfl) ?_
  refine (seg_call n1 m1 c1).mono ?_
  rintro e x1 ⟨rfl, hb⟩
  have HS := Lib.hid (⟨blk_below HSf.out.1 hb, blk_below HSf.out.2 hb⟩ : _ ∧ _)
  have HBW := Lib.hid (HBf.out.trans (hb.mono HBf.out.size))
  clear hb HSf HBf
  refine ⟨_, rfl, ?_⟩
  clear hHeld
  refine hK.out _ _ (HS.out) (fun hHeld => ?_)
  clear hK K
  refine norm_ (a' := ?_) ?_ ?_
  rotate_left
  · show Act.put _ (some 18) _ = _
    go_frame
    rfl
  refine pure_ (i := 9) (N := some 5) (v := ?_) (a' := ?_) #[true, true, true, true, true, true, true, true, true, true] rfl rfl (by kernel_rfl) (fun _ _ _ h => h) (Or.inl ⟨by rfl, ?_⟩) ?_ ?_
  rotate_left; (intro w'; go_simp; with_reducible rfl)
  rotate_left; (go_frame; rfl)
  refine done_ (by kernel_rfl) ?_
  clear hHeld
  by_cases h1 : seg3 n1 m1 = 0
  rotate_left
  · have HV := Lib.hid (show R = seg3 n1 m1 by rw [HR.out]; unfold cmpV ord3; simp [h1])
    have d1 : (seg3 n1 m1 != 0) = true := bne_iff_ne.2 h1
    generalize seg3 n1 m1 = d at *
    clear h1 HS HE HP HR
    go_wp2
    go_ret
    exact ⟨congrArg (fun z => Ending.returned (Value.int .i64 z)) HV.out.symm, HBW.out⟩
  rw [h1]
  go_upto_region 4 with fail
  have HSd := Lib.hid (show x1.drew.heap[qa]? = _ ∧ x1.drew.heap[qb]? = _ from HS.out)
  have HBd := Lib.hid (show Below w.heap.size w x1.drew from HBW.out.drew)
  clear HS HBW
  refine start_ (n := 10) (ds := []) (S := fun w' => w'.heap[qa]? = some (.cells (verCells n1 n2 n3 pa ma oa) 69 (0, 0)) ∧ w'.heap[qb]? = some (.cells (verCells m1 m2 m3 pb mb ob) 69 (0, 0))) #[false, false, false, false, false, false, false, false, false, false] (by kernel_rfl) rfl rfl (HSd.out) (fun hHeld => ?_)
  generalize x1.drew = a2 at *
  refine pure_ (i := 0) (N := some 22) (v := ?_) (a' := ?_) #[true, false, false, false, false, false, false, false, false, false] rfl rfl (by kernel_rfl) (fun _ _ _ h => h) (Or.inl ⟨by rfl, ?_⟩) ?_ ?_
  rotate_left; (intro w'; go_simp; with_reducible rfl)
  rotate_left; (go_frame; rfl)
  refine pure_ (i := 1) (N := some 23) (v := ?_) (a' := ?_) #[true, true, false, false, false, false, false, false, false, false] rfl rfl (by kernel_rfl) (fun _ _ _ h => h) (Or.inl ⟨by rfl, ?_⟩) ?_ ?_
  rotate_left; (intro w'; go_simp; with_reducible rfl)
  rotate_left; (go_frame; rfl)
  refine pure_ (i := 4) (N := some 26) (v := ?_) (a' := ?_) #[true, true, false, false, true, false, false, false, false, false] rfl rfl (by kernel_rfl) (fun _ _ _ h => h) (Or.inl ⟨by rfl, ?_⟩) ?_ ?_
  rotate_left; (intro w'; go_simp; with_reducible rfl)
  rotate_left; (go_frame; rfl)
  refine pure_ (i := 5) (N := some 27) (v := ?_) (a' := ?_) #[true, true, false, false, true, true, false, false, false, false] rfl rfl (by kernel_rfl) (fun _ _ _ h => h) (Or.inl ⟨by rfl, ?_⟩) ?_ ?_
  rotate_left; (intro w'; go_simp; with_reducible rfl)
  rotate_left; (go_frame; rfl)
  refine take_ (i := 2) (N := some 24) (v := ?_) (a' := ?_) #[true, true, true, false, true, true, false, false, false, false] rfl rfl (by kernel_rfl) (fun _ _ _ h => h) (Or.inl ⟨by rfl, ?_⟩) hHeld ?_ ?_
  rotate_left
  · intro w' hS
    obtain ⟨hS, _⟩ := hS
    have y0 := blk_cell hS 0
    have y1 := blk_cell hS 1
    have y2 := blk_cell hS 2
    have y3 := blk_cell hS 3
    have y4 := blk_cell hS 4
    have y5 := blk_cell hS 5
    simp only [verCells, List.getElem?_toArray, List.getElem?_cons_zero, List.getElem?_cons_succ] at y0 y1 y2 y3 y4 y5
    clear hS
    go_simp
    with_reducible rfl
  rotate_left; (go_frame; rfl)
  refine take_ (i := 6) (N := some 28) (v := ?_) (a' := ?_) #[true, true, true, false, true, true, true, false, false, false] rfl rfl (by kernel_rfl) (fun _ _ _ h => h) (Or.inl ⟨by rfl, ?_⟩) hHeld ?_ ?_
  rotate_left
  · intro w' hS
    obtain ⟨_, hS⟩ := hS
    have y0 := blk_cell hS 0
    have y1 := blk_cell hS 1
    have y2 := blk_cell hS 2
    have y3 := blk_cell hS 3
    have y4 := blk_cell hS 4
    have y5 := blk_cell hS 5
    simp only [verCells, List.getElem?_toArray, List.getElem?_cons_zero, List.getElem?_cons_succ] at y0 y1 y2 y3 y4 y5
    clear hS
    go_simp
    with_reducible rfl
  rotate_left; (go_frame; rfl)
  refine one_ (i := 3) (N := some 25) #[true, true, true, true, true, true, true, false, false, false] rfl rfl (by kernel_rfl) (by decide) (fun K hK => ?_)
  refine goes_ Tryd.func30 (by kernel_rfl) rfl #[.agg #[.int .u64 n1, .int .u64 n2, .int .u64 n3, .string pa, .string ma, .string oa]] (by rfl) rfl rfl (by (try simp only [List.map_toArray, List.map_cons, List.map_nil]); first | done | rfl) ?_
  refine (verMinor_call n1 n2 n3 pa ma oa a2).mono ?_
  rintro e b2 ⟨rfl, hb⟩
  have HSe := Lib.hid (⟨blk_below HSd.out.1 hb, blk_below HSd.out.2 hb⟩ : _ ∧ _)
  have HBe := Lib.hid (HBd.out.trans (hb.mono HBd.out.size))
  clear hb HSd HBd
  refine ⟨_, rfl, ?_⟩
  clear hHeld
  refine hK.out _ _ (HSe.out) (fun hHeld => ?_)
  clear hK K
  refine norm_ (a' := ?_) ?_ ?_
  rotate_left
  · show Act.put _ (some 25) _ = _
    go_frame
    rfl
  refine one_ (i := 7) (N := some 29) #[true, true, true, true, true, true, true, true, false, false] rfl rfl (by kernel_rfl) (by decide) (fun K hK => ?_)
  refine goes_ Tryd.func30 (by kernel_rfl) rfl #[.agg #[.int .u64 m1, .int .u64 m2, .int .u64 m3, .string pb, .string mb, .string ob]] (by rfl) rfl rfl (by (try simp only [List.map_toArray, List.map_cons, List.map_nil]); first | done | rfl) ?_
  refine (verMinor_call m1 m2 m3 pb mb ob b2).mono ?_
  rintro e c2 ⟨rfl, hb⟩
  have HSf := Lib.hid (⟨blk_below HSe.out.1 hb, blk_below HSe.out.2 hb⟩ : _ ∧ _)
  have HBf := Lib.hid (HBe.out.trans (hb.mono HBe.out.size))
  clear hb HSe HBe
  refine ⟨_, rfl, ?_⟩
  clear hHeld
  refine hK.out _ _ (HSf.out) (fun hHeld => ?_)
  clear hK K
  refine norm_ (a' := ?_) ?_ ?_
  rotate_left
  · show Act.put _ (some 29) _ = _
    go_frame
    rfl
  refine one_ (i := 8) (N := some 30) #[true, true, true, true, true, true, true, true, true, false] rfl rfl (by kernel_rfl) (by decide) (fun K hK => ?_)
  refine goes_ Tryd.func52 (by kernel_rfl) rfl #[.int .u64 n2, .int .u64 m2] (by rfl) rfl rfl (by (try simp only [List.map_toArray, List.map_cons, List.map_nil]); first | done | rfl) ?_
  refine (seg_call n2 m2 c2).mono ?_
  rintro e x2 ⟨rfl, hb⟩
  have HS := Lib.hid (⟨blk_below HSf.out.1 hb, blk_below HSf.out.2 hb⟩ : _ ∧ _)
  have HBW := Lib.hid (HBf.out.trans (hb.mono HBf.out.size))
  clear hb HSf HBf
  refine ⟨_, rfl, ?_⟩
  clear hHeld
  refine hK.out _ _ (HS.out) (fun hHeld => ?_)
  clear hK K
  refine norm_ (a' := ?_) ?_ ?_
  rotate_left
  · show Act.put _ (some 30) _ = _
    go_frame
    rfl
  refine pure_ (i := 9) (N := some 6) (v := ?_) (a' := ?_) #[true, true, true, true, true, true, true, true, true, true] rfl rfl (by kernel_rfl) (fun _ _ _ h => h) (Or.inl ⟨by rfl, ?_⟩) ?_ ?_
  rotate_left; (intro w'; go_simp; with_reducible rfl)
  rotate_left; (go_frame; rfl)
  refine done_ (by kernel_rfl) ?_
  clear hHeld
  by_cases h2 : seg3 n2 m2 = 0
  rotate_left
  · have HV := Lib.hid (show R = seg3 n2 m2 by rw [HR.out]; unfold cmpV ord3; simp [h1, h2])
    have d1 : (seg3 n2 m2 != 0) = true := bne_iff_ne.2 h2
    generalize seg3 n2 m2 = d at *
    clear h2 HS HE HP HR
    go_wp2
    go_ret
    exact ⟨congrArg (fun z => Ending.returned (Value.int .i64 z)) HV.out.symm, HBW.out⟩
  rw [h2]
  go_upto_region 7 with fail
  have HSd := Lib.hid (show x2.drew.heap[qa]? = _ ∧ x2.drew.heap[qb]? = _ from HS.out)
  have HBd := Lib.hid (show Below w.heap.size w x2.drew from HBW.out.drew)
  clear HS HBW
  refine start_ (n := 10) (ds := []) (S := fun w' => w'.heap[qa]? = some (.cells (verCells n1 n2 n3 pa ma oa) 69 (0, 0)) ∧ w'.heap[qb]? = some (.cells (verCells m1 m2 m3 pb mb ob) 69 (0, 0))) #[false, false, false, false, false, false, false, false, false, false] (by kernel_rfl) rfl rfl (HSd.out) (fun hHeld => ?_)
  generalize x2.drew = a3 at *
  refine pure_ (i := 0) (N := some 34) (v := ?_) (a' := ?_) #[true, false, false, false, false, false, false, false, false, false] rfl rfl (by kernel_rfl) (fun _ _ _ h => h) (Or.inl ⟨by rfl, ?_⟩) ?_ ?_
  rotate_left; (intro w'; go_simp; with_reducible rfl)
  rotate_left; (go_frame; rfl)
  refine pure_ (i := 1) (N := some 35) (v := ?_) (a' := ?_) #[true, true, false, false, false, false, false, false, false, false] rfl rfl (by kernel_rfl) (fun _ _ _ h => h) (Or.inl ⟨by rfl, ?_⟩) ?_ ?_
  rotate_left; (intro w'; go_simp; with_reducible rfl)
  rotate_left; (go_frame; rfl)
  refine pure_ (i := 4) (N := some 38) (v := ?_) (a' := ?_) #[true, true, false, false, true, false, false, false, false, false] rfl rfl (by kernel_rfl) (fun _ _ _ h => h) (Or.inl ⟨by rfl, ?_⟩) ?_ ?_
  rotate_left; (intro w'; go_simp; with_reducible rfl)
  rotate_left; (go_frame; rfl)
  refine pure_ (i := 5) (N := some 39) (v := ?_) (a' := ?_) #[true, true, false, false, true, true, false, false, false, false] rfl rfl (by kernel_rfl) (fun _ _ _ h => h) (Or.inl ⟨by rfl, ?_⟩) ?_ ?_
  rotate_left; (intro w'; go_simp; with_reducible rfl)
  rotate_left; (go_frame; rfl)
  refine take_ (i := 2) (N := some 36) (v := ?_) (a' := ?_) #[true, true, true, false, true, true, false, false, false, false] rfl rfl (by kernel_rfl) (fun _ _ _ h => h) (Or.inl ⟨by rfl, ?_⟩) hHeld ?_ ?_
  rotate_left
  · intro w' hS
    obtain ⟨hS, _⟩ := hS
    have y0 := blk_cell hS 0
    have y1 := blk_cell hS 1
    have y2 := blk_cell hS 2
    have y3 := blk_cell hS 3
    have y4 := blk_cell hS 4
    have y5 := blk_cell hS 5
    simp only [verCells, List.getElem?_toArray, List.getElem?_cons_zero, List.getElem?_cons_succ] at y0 y1 y2 y3 y4 y5
    clear hS
    go_simp
    with_reducible rfl
  rotate_left; (go_frame; rfl)
  refine take_ (i := 6) (N := some 40) (v := ?_) (a' := ?_) #[true, true, true, false, true, true, true, false, false, false] rfl rfl (by kernel_rfl) (fun _ _ _ h => h) (Or.inl ⟨by rfl, ?_⟩) hHeld ?_ ?_
  rotate_left
  · intro w' hS
    obtain ⟨_, hS⟩ := hS
    have y0 := blk_cell hS 0
    have y1 := blk_cell hS 1
    have y2 := blk_cell hS 2
    have y3 := blk_cell hS 3
    have y4 := blk_cell hS 4
    have y5 := blk_cell hS 5
    simp only [verCells, List.getElem?_toArray, List.getElem?_cons_zero, List.getElem?_cons_succ] at y0 y1 y2 y3 y4 y5
    clear hS
    go_simp
    with_reducible rfl
  rotate_left; (go_frame; rfl)
  refine one_ (i := 3) (N := some 37) #[true, true, true, true, true, true, true, false, false, false] rfl rfl (by kernel_rfl) (by decide) (fun K hK => ?_)
  refine goes_ Tryd.func31 (by kernel_rfl) rfl #[.agg #[.int .u64 n1, .int .u64 n2, .int .u64 n3, .string pa, .string ma, .string oa]] (by rfl) rfl rfl (by (try simp only [List.map_toArray, List.map_cons, List.map_nil]); first | done | rfl) ?_
  refine (verPatch_call n1 n2 n3 pa ma oa a3).mono ?_
  rintro e b3 ⟨rfl, hb⟩
  have HSe := Lib.hid (⟨blk_below HSd.out.1 hb, blk_below HSd.out.2 hb⟩ : _ ∧ _)
  have HBe := Lib.hid (HBd.out.trans (hb.mono HBd.out.size))
  clear hb HSd HBd
  refine ⟨_, rfl, ?_⟩
  clear hHeld
  refine hK.out _ _ (HSe.out) (fun hHeld => ?_)
  clear hK K
  refine norm_ (a' := ?_) ?_ ?_
  rotate_left
  · show Act.put _ (some 37) _ = _
    go_frame
    rfl
  refine one_ (i := 7) (N := some 41) #[true, true, true, true, true, true, true, true, false, false] rfl rfl (by kernel_rfl) (by decide) (fun K hK => ?_)
  refine goes_ Tryd.func31 (by kernel_rfl) rfl #[.agg #[.int .u64 m1, .int .u64 m2, .int .u64 m3, .string pb, .string mb, .string ob]] (by rfl) rfl rfl (by (try simp only [List.map_toArray, List.map_cons, List.map_nil]); first | done | rfl) ?_
  refine (verPatch_call m1 m2 m3 pb mb ob b3).mono ?_
  rintro e c3 ⟨rfl, hb⟩
  have HSf := Lib.hid (⟨blk_below HSe.out.1 hb, blk_below HSe.out.2 hb⟩ : _ ∧ _)
  have HBf := Lib.hid (HBe.out.trans (hb.mono HBe.out.size))
  clear hb HSe HBe
  refine ⟨_, rfl, ?_⟩
  clear hHeld
  refine hK.out _ _ (HSf.out) (fun hHeld => ?_)
  clear hK K
  refine norm_ (a' := ?_) ?_ ?_
  rotate_left
  · show Act.put _ (some 41) _ = _
    go_frame
    rfl
  refine one_ (i := 8) (N := some 42) #[true, true, true, true, true, true, true, true, true, false] rfl rfl (by kernel_rfl) (by decide) (fun K hK => ?_)
  refine goes_ Tryd.func52 (by kernel_rfl) rfl #[.int .u64 n3, .int .u64 m3] (by rfl) rfl rfl (by (try simp only [List.map_toArray, List.map_cons, List.map_nil]); first | done | rfl) ?_
  refine (seg_call n3 m3 c3).mono ?_
  rintro e x3 ⟨rfl, hb⟩
  have HS := Lib.hid (⟨blk_below HSf.out.1 hb, blk_below HSf.out.2 hb⟩ : _ ∧ _)
  have HBW := Lib.hid (HBf.out.trans (hb.mono HBf.out.size))
  clear hb HSf HBf
  refine ⟨_, rfl, ?_⟩
  clear hHeld
  refine hK.out _ _ (HS.out) (fun hHeld => ?_)
  clear hK K
  refine norm_ (a' := ?_) ?_ ?_
  rotate_left
  · show Act.put _ (some 42) _ = _
    go_frame
    rfl
  refine pure_ (i := 9) (N := some 7) (v := ?_) (a' := ?_) #[true, true, true, true, true, true, true, true, true, true] rfl rfl (by kernel_rfl) (fun _ _ _ h => h) (Or.inl ⟨by rfl, ?_⟩) ?_ ?_
  rotate_left; (intro w'; go_simp; with_reducible rfl)
  rotate_left; (go_frame; rfl)
  refine done_ (by kernel_rfl) ?_
  clear hHeld
  by_cases h3 : seg3 n3 m3 = 0
  rotate_left
  · have HV := Lib.hid (show R = seg3 n3 m3 by rw [HR.out]; unfold cmpV ord3; simp [h1, h2, h3])
    have d1 : (seg3 n3 m3 != 0) = true := bne_iff_ne.2 h3
    generalize seg3 n3 m3 = d at *
    clear h3 HS HE HP HR
    go_wp2
    go_ret
    exact ⟨congrArg (fun z => Ending.returned (Value.int .i64 z)) HV.out.symm, HBW.out⟩
  rw [h3]
  have HR2 := Lib.hid (show R = preC pa pb C by rw [HR.out]; unfold cmpV ord3; simp [h1, h2, h3])
  clear h1 h2 h3 HR
  obtain ⟨hka, hkb⟩ := HS.out
  have ya := blk_cell hka 3
  simp only [verCells, List.getElem?_toArray, List.getElem?_cons_zero, List.getElem?_cons_succ] at ya
  have y0 := blk_cell hkb 0
  have y1 := blk_cell hkb 1
  have y2 := blk_cell hkb 2
  have y3 := blk_cell hkb 3
  have y4 := blk_cell hkb 4
  have y5 := blk_cell hkb 5
  simp only [verCells, List.getElem?_toArray, List.getElem?_cons_zero, List.getElem?_cons_succ] at y0 y1 y2 y3 y4 y5
  clear hka hkb HS
  go_wp2_with fail
  refine (verPrerelease_call m1 m2 m3 pb mb ob _).mono ?_
  rintro e w5 ⟨rfl, hb5⟩
  have HB5 := Lib.hid (HBW.out.trans (hb5.mono HBW.out.size))
  clear hb5 HBW ya y0 y1 y2 y3 y4 y5
  have HBW := HB5
  clear HB5
  by_cases ea : pa.size = 0
  · have ia : pa.toList.isEmpty = true := by rw [show pa = ⟨#[]⟩ from ba_ext (List.eq_nil_of_length_eq_zero (by rw [size_list]; exact ea)), ByteArray.toList_eq]; rfl
    by_cases eb : pb.size = 0
    · have ib : pb.toList.isEmpty = true := by rw [show pb = ⟨#[]⟩ from ba_ext (List.eq_nil_of_length_eq_zero (by rw [size_list]; exact eb)), ByteArray.toList_eq]; rfl
      have HV := Lib.hid (show R = 0 by rw [HR2.out]; unfold preC; rw [if_pos ea, if_pos eb])
      clear ea eb HP HE HR2
      go_wp2
      go_ret
      exact ⟨congrArg (fun z => Ending.returned (Value.int .i64 z)) HV.out.symm, HBW.out⟩
    · have ib := full_t (show 0 < pb.size by omega)
      have HV := Lib.hid (show R = 1 by rw [HR2.out]; unfold preC; rw [if_pos ea, if_neg eb])
      clear ea eb HP HE HR2
      go_wp2
      go_ret
      exact ⟨congrArg (fun z => Ending.returned (Value.int .i64 z)) HV.out.symm, HBW.out⟩
  · have ia := full_t (show 0 < pa.size by omega)
    by_cases eb : pb.size = 0
    · have ib : pb.toList.isEmpty = true := by rw [show pb = ⟨#[]⟩ from ba_ext (List.eq_nil_of_length_eq_zero (by rw [size_list]; exact eb)), ByteArray.toList_eq]; rfl
      have HV := Lib.hid (show R = -1 by rw [HR2.out]; unfold preC; rw [if_neg ea, if_pos eb])
      clear ea eb HP HE HR2
      go_wp2
      go_ret
      exact ⟨congrArg (fun z => Ending.returned (Value.int .i64 z)) HV.out.symm, HBW.out⟩
    · have ib := full_t (show 0 < pb.size by omega)
      have HV := Lib.hid (show R = C by rw [HR2.out]; unfold preC; rw [if_neg ea, if_neg eb])
      have HPC := Lib.hid (HP.out (by omega) (by omega) w5 (HE.out.below HBW.out))
      clear ea eb HP HE HR2
      go_wp2_with fail
      refine HPC.out.mono ?_
      rintro e w6 ⟨rfl, hb6⟩
      have HB6 := Lib.hid (HBW.out.trans (hb6.mono HBW.out.size))
      clear hb6 HBW HPC
      have HBW := HB6
      clear HB6
      go_wp2
      go_ret
      exact ⟨congrArg (fun z => Ending.returned (Value.int .i64 z)) HV.out.symm, HBW.out⟩
end Go.Proofs.YtlhijjfbcgconaaDoor.P

