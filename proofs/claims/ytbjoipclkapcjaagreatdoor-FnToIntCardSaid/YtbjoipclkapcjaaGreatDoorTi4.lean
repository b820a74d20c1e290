/- ParseFloat of a decimal text. -/
import Derived.Test.YtbjoipclkapcjaaGreatDoorTi3
import Derived.Laws.Externs
import Derived.Lib.LaidU8
set_option linter.unusedVariables false
set_option linter.unusedSimpArgs false
namespace Go.Proofs.YtbjoipclkapcjaaGreatDoor.P
open Go.RowKit Go.Proofs.YtbjoipclkapcjaaGreatDoorW.PrintWords Go.Proofs.YtbjoipclkapcjaaGreatDoorW.PrintLast Go.Proofs.YtbjoipclkapcjaaGreatDoorW.PrintMore
attribute [local go_sem] max2_int min2_int max_two min_two

theorem frombits_run (n : Int) (W : World) : (callFunc 78 #[.int .u64 n]).run Tryz.prog W = .ok (.value (.float .f64 n.toNat)) W := by
  rw [run_callFunc_extern Tryz.func78 (by kernel_rfl) (by kernel_rfl) (by kernel_rfl) (e := Extern.MathFloatBits.float64frombits) (by kernel_rfl)]
  rfl
theorem var_below {P : Program} {w w' : World} {n : String} {cs : Array Value} (h : w.var? P n = some cs) (hb : Below w.heap.size w w') : w'.var? P n = some cs := by
  unfold World.var? at h ⊢
  obtain ⟨g, hg, hc⟩ := Option.bind_eq_some_iff.1 h
  rw [hg, Option.bind_some]
  cases ho : w.heap[g]? with
  | none => rw [ho] at hc; cases hc
  | some ob =>
    have hlt := (Array.getElem?_eq_some_iff.1 ho).1
    rw [hb.block g hlt]
    exact hc
/-- What the parser of floats reads of its package's variables. -/
def TabsF (w : World) : Prop := w.var? Tryz.prog "internal/strconv.optimize" = some #[.bool true] ∧ ∃ cs : Array Value, w.var? Tryz.prog "internal/strconv.float64info" = some cs ∧ cs[0]? = some (.int .u64 52)
theorem TabsF.below {w w' : World} (h : TabsF w) (hb : Below w.heap.size w w') : TabsF w' := by
  obtain ⟨h1, cs, h2, h3⟩ := h
  exact ⟨var_below h1 hb, cs, var_below h2 hb, h3⟩
theorem struct_first {H : Type} {enc : TypeId × Value → H} {P : Program} {w : World} {base : Nat} {sp : Nat → Bool} {held : Bool} {fuel : Nat} {t : TypeId} {fs : Array Field} {cs : List Value} {ds : List (DataW H)} {p : List MemPlace} (ht : P.underlying t = some (.struct fs))
    (h : DataW.trod enc P w base sp held fuel t cs = some (.agg ds, p)) (f : Field) (hi : fs.toList[0]? = some f) :
    ∃ fuel' d q, ds[0]? = some d ∧ DataW.trod enc P w base sp held fuel' f.type ((cs.drop f.offset).take (P.cellsOf f.type)) = some (d, q) := by
  cases fuel with
  | zero => simp [DataW.trod] at h
  | succ fuel =>
    simp only [DataW.trod, ht] at h
    split at h
    · obtain ⟨xs, hm, hx⟩ := Option.map_eq_some_iff.1 h
      obtain ⟨b, hb, hf⟩ := Lib.mapM_at hm 0 f hi
      have hds : xs.map (·.1) = ds := by
        have := congrArg Prod.fst hx
        simpa using this
      exact ⟨fuel, b.1, b.2, by rw [← hds]; simp [hb], hf⟩
    · cases h
set_option maxHeartbeats 3200000 in
set_option maxRecDepth 100000 in
theorem tabsF_of_reads {W : World} (h1 : Lib.VarReads Tryz.prog W "internal/strconv.optimize" (.lit (.bool true))) (h2 : Lib.VarReads Tryz.prog W "internal/strconv.float64info" (.agg [.lit (.int .u64 52), .lit (.int .u64 11), .lit (.int .i64 (-1023))])) : TabsF W := by
  constructor
  · obtain ⟨g, t, cs, fuel, p, hg, ht, hv, hd⟩ := h1
    obtain rfl := Option.some.inj ((show Tryz.prog.globalNamed "internal/strconv.optimize" = some 6 by kernel_rfl).symm.trans hg)
    obtain rfl := Option.some.inj ((show (Tryz.prog.globals[6]?).map (·.type) = some 4 by kernel_rfl).symm.trans ht)
    obtain ⟨l⟩ := cs
    cases fuel with
    | zero => simp [DataW.trod] at hd
    | succ k =>
      unfold DataW.trod at hd
      rw [Tryz.underlying4] at hd
      simp only at hd
      split at hd
      all_goals first
        | (cases hd; done)
        | (cases hd; exact hv)
        | (rename_i heq; cases heq; done)
        | (rename_i heq _; cases heq; done)
        | (simp at hd; done)
        | (simp at hd; obtain ⟨rfl, _⟩ := hd; exact hv)
  · obtain ⟨g, t, cs, fuel, p, hg, ht, hv, hd⟩ := h2
    obtain rfl := Option.some.inj ((show Tryz.prog.globalNamed "internal/strconv.float64info" = some 7 by kernel_rfl).symm.trans hg)
    obtain rfl := Option.some.inj ((show (Tryz.prog.globals[7]?).map (·.type) = some 121 by kernel_rfl).symm.trans ht)
    obtain ⟨fuel', d, q, hd0, hd1⟩ := struct_first Tryz.underlying121 hd _ rfl
    obtain rfl := Option.some.inj hd0
    obtain ⟨z, hc, hz, _⟩ := DataW.trod_int Tryz.underlying57 hd1
    refine ⟨cs, hv, ?_⟩
    simp only [Prod.mk.injEq, DataW.lit.injEq, Lit.int.injEq, true_and] at hz
    obtain ⟨rfl, _⟩ := hz
    have := congrArg (·[0]?) hc
    simpa [List.getElem?_take, List.getElem?_drop, show Tryz.prog.cellsOf 57 = 1 by kernel_rfl] using this
set_option maxHeartbeats 3200000 in
set_option maxRecDepth 100000 in
theorem cp_call (t : ByteArray) (u m : Nat) (hd : Dg t 0 u m) (w : World) :
    Calls Tryz.prog 81 #[.string t, .string ⟨#[105, 110, 102, 105, 110, 105, 116, 121]⟩] w fun e w' => e = .returned (.int .i64 0) ∧ w = w' := by
  have hz : 0 < t.size := by have := hd.size; have := hd.m1; omega
  have hs : t.size ≤ 16 := by have := hd.size; have := hd.m2; omega
  have hb0 : bt t 0 = (((t[0]'hz).toNat : Nat) : Int) := bt_nat t 0 hz
  have h1 : bt t 0 = 48 + ((DD u m 0 : Nat) : Int) := hd.dig 0 (by have := hd.m1; omega)
  have h2 := DD_lt u m 0
  have d65 : decide ((65 : Int) ≤ (((t[0]'hz).toNat : Nat) : Int)) = false := decide_eq_false (by omega)
  have d33 : ((((t[0]'hz).toNat : Nat) : Int) != (((({ data := #[105, 110, 102, 105, 110, 105, 116, 121] } : ByteArray)[0]'(by decide)).toNat : Nat) : Int)) = true := by
    rw [show (({ data := #[105, 110, 102, 105, 110, 105, 116, 121] } : ByteArray)[0]'(by decide)).toNat = 105 from rfl]
    exact bne_iff_ne.2 (by omega)
  have d65n : ¬ 65 ≤ (t[0]'hz).toNat := by omega
  have d105n : ¬ (t[0]'hz).toNat = 105 := by omega
  have d105 : ((((t[0]'hz).toNat : Nat) : Int) == 105) = false := beq_eq_false_iff_ne.2 (by omega)
  have hne : ¬ t = ByteArray.empty := fun h => by rw [h] at hz; exact absurd hz (by decide)
  clear hd hb0 h1 h2
  by_cases h8 : t.size < 8
  · have h8i : (t.size : Int) < 8 := by omega
    go_enter Tryz.func81, Tryz.ntmps81
    go_wp2
    go_loopw [6] (fun i wr => i = .int .i64 0 ∧ wr = w) (fun _ _ => 0)
    case atStart => exact ⟨rfl, rfl⟩
    case round =>
      obtain ⟨rfl, rfl⟩ := hrel
      go_wp2
      go_ret
      exact ⟨rfl, rfl⟩
  · have h8i : ¬ (t.size : Int) < 8 := by omega
    go_enter Tryz.func81, Tryz.ntmps81
    go_wp2
    go_loopw [6] (fun i wr => i = .int .i64 0 ∧ wr = w) (fun _ _ => 0)
    case atStart => exact ⟨rfl, rfl⟩
    case round =>
      obtain ⟨rfl, rfl⟩ := hrel
      go_wp2
      go_ret
      exact ⟨rfl, rfl⟩
set_option maxHeartbeats 3200000 in
set_option maxRecDepth 100000 in
theorem sp_pos (s : ByteArray) (u m : Nat) (hd : Dg s 0 u m) (w : World) :
    Calls Tryz.prog 68 #[.string s] w fun e w' => e = .returned (.tuple #[.float .f64 0, .int .i64 0, .bool false]) ∧ w = w' := by
  have hz : 0 < s.size := by have := hd.size; have := hd.m1; omega
  have hs : s.size ≤ 16 := by have := hd.size; have := hd.m2; have := hd.o1; omega
  have hb0 : bt s 0 = (((s[0]'hz).toNat : Nat) : Int) := bt_nat s 0 hz
  have hne : ¬ s = ByteArray.empty := fun h => by rw [h] at hz; exact absurd hz (by decide)
  have h1 : bt s 0 = 48 + ((DD u m 0 : Nat) : Int) := hd.dig 0 (by have := hd.m1; omega)
  have h2 := DD_lt u m 0
  have d43 : ((((s[0]'hz).toNat : Nat) : Int) == 43) = false := beq_eq_false_iff_ne.2 (by omega)
  have d45 : ((((s[0]'hz).toNat : Nat) : Int) == 45) = false := beq_eq_false_iff_ne.2 (by omega)
  have d105 : ((((s[0]'hz).toNat : Nat) : Int) == 105) = false := beq_eq_false_iff_ne.2 (by omega)
  have d73 : ((((s[0]'hz).toNat : Nat) : Int) == 73) = false := beq_eq_false_iff_ne.2 (by omega)
  have d110 : ((((s[0]'hz).toNat : Nat) : Int) == 110) = false := beq_eq_false_iff_ne.2 (by omega)
  have d78 : ((((s[0]'hz).toNat : Nat) : Int) == 78) = false := beq_eq_false_iff_ne.2 (by omega)
  clear hd hb0 h1 h2
  go_enter Tryz.func68, Tryz.ntmps68
  go_wp2
  go_ret3
  exact ⟨rfl, rfl⟩
set_option maxHeartbeats 3200000 in
set_option maxRecDepth 100000 in
theorem sp_neg (s : ByteArray) (u m : Nat) (hd : Dg s 1 u m) (w : World) :
    Calls Tryz.prog 68 #[.string s] w fun e w' => e = .returned (.tuple #[.float .f64 0, .int .i64 0, .bool false]) ∧ w = w' := by
  have HC := Lib.hid (fun W => cp_call (s.extract 1 s.size) u m hd.tail W)
  have hz : 0 < s.size := by have := hd.size; have := hd.m1; omega
  have hs : s.size ≤ 16 := by have := hd.size; have := hd.m2; have := hd.o1; omega
  have hb0 : bt s 0 = (((s[0]'hz).toNat : Nat) : Int) := bt_nat s 0 hz
  have hne : ¬ s = ByteArray.empty := fun h => by rw [h] at hz; exact absurd hz (by decide)
  have h1 := (hd.sign rfl).1
  have d43 : ((((s[0]'hz).toNat : Nat) : Int) == 43) = false := beq_eq_false_iff_ne.2 (by omega)
  have d45 : ((((s[0]'hz).toNat : Nat) : Int) == 45) = true := beq_iff_eq.2 (by omega)
  have hz1 : 1 ≤ s.size := hz
  clear hd hb0 h1
  go_enter Tryz.func68, Tryz.ntmps68
  go_wp2_with fail
  refine (HC.out _).mono ?_
  rintro e _ ⟨rfl, rfl⟩
  go_wp2
  go_ret3
  exact ⟨rfl, rfl⟩
set_option maxHeartbeats 3200000 in
set_option maxRecDepth 100000 in
theorem ex_pos (u : Nat) (h0 : 0 < u) (hu : u < 1000000000000000) (w : World) (hF : TabsF w) :
    Calls Tryz.prog 79 #[.int .u64 (u : Int), .int .i64 0, .bool false] w fun e w' => e = .returned (.tuple #[.float .f64 (floatOfInt .f64 (u : Int)), .bool true]) ∧ w = w' := by
  obtain ⟨cs, hv, hcs⟩ := hF.2
  have c1 := World.var?_cell (show Tryz.prog.globalNamed "internal/strconv.float64info" = some 7 by kernel_rfl) hv 0
  rw [hcs] at c1
  clear hv hcs
  have hdv : ((u : Int) / 4503599627370496 != 0) = false := by rw [show (u : Int) / 4503599627370496 = 0 by omega]; rfl
  have hneg := neg_word u h0 hu
  have hun : ∀ W : World, Sem.run Tryz.prog (Op.unary UnOp.neg (Value.float FloatKind.f64 (floatOfInt .f64 (u : Int)))) W = .ok (.float .f64 (floatOfInt .f64 (-(u : Int)))) W := fun W => by rw [← hneg]; rfl
  obtain ⟨U, hU⟩ : ∃ U : Int, U = (u : Int) := ⟨_, rfl⟩
  simp only [← hU] at hdv hun ⊢
  clear hF h0 hu hneg hU
  go_enter Tryz.func79, Tryz.ntmps79
  go_wp2
  go_ret2
  exact ⟨rfl, rfl⟩
set_option maxHeartbeats 3200000 in
set_option maxRecDepth 100000 in
theorem ex_neg (u : Nat) (h0 : 0 < u) (hu : u < 1000000000000000) (w : World) (hF : TabsF w) :
    Calls Tryz.prog 79 #[.int .u64 (u : Int), .int .i64 0, .bool true] w fun e w' => e = .returned (.tuple #[.float .f64 (floatOfInt .f64 (-(u : Int))), .bool true]) ∧ w = w' := by
  obtain ⟨cs, hv, hcs⟩ := hF.2
  have c1 := World.var?_cell (show Tryz.prog.globalNamed "internal/strconv.float64info" = some 7 by kernel_rfl) hv 0
  rw [hcs] at c1
  clear hv hcs
  have hdv : ((u : Int) / 4503599627370496 != 0) = false := by rw [show (u : Int) / 4503599627370496 = 0 by omega]; rfl
  have hneg := neg_word u h0 hu
  have hun : ∀ W : World, Sem.run Tryz.prog (Op.unary UnOp.neg (Value.float FloatKind.f64 (floatOfInt .f64 (u : Int)))) W = .ok (.float .f64 (floatOfInt .f64 (-(u : Int)))) W := fun W => by rw [← hneg]; rfl
  obtain ⟨U, hU⟩ : ∃ U : Int, U = (u : Int) := ⟨_, rfl⟩
  simp only [← hU] at hdv hun ⊢
  clear hF h0 hu hneg hU
  go_enter Tryz.func79, Tryz.ntmps79
  go_wp2
  go_ret2
  exact ⟨rfl, rfl⟩
end Go.Proofs.YtbjoipclkapcjaaGreatDoor.P
