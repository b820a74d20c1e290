/- sprig.duration of whole seconds, spec.Seconds; FnDuration holds. -/
import Derived.Test.YtaeddkndkmfdiaaDoorS1
import Derived.Shelf.Unicode.PredsPay
import Derived.Lib.AppendIntMem
import Derived.Shelf.Strconv.Itoa3
import Derived.Lib.LaidIn
import Derived.Lib.LaidRTab
set_option linter.unusedVariables false
set_option linter.unusedSimpArgs false
namespace Go.Proofs.YtaeddkndkmfdiaaDoor.P
open Go.RowKit Go.Proofs.YtaeddkndkmfdiaaDoorW.PrintWords Go.Proofs.YtaeddkndkmfdiaaDoorW.PrintLast Go.Proofs.YtaeddkndkmfdiaaDoorW.PrintMore
attribute [local go_sem] run_store_float

/-- The table of powers of ten lies in memory as its initialiser laid it. -/
def TabsW (w : World) : Prop := Lib.TabIs Tryd.prog w "internal/strconv.uint64pow10" .u64 Lib.pow10Tab
theorem TabsW.below {w w' : World} (h : TabsW w) (hb : Below w.heap.size w w') : TabsW w' := Go.Proofs.TabIs_below (g := 4) (by kernel_rfl) h hb
theorem below_grow_ (w : World) (k : Nat) (os : Array Obj) : Below w.heap.size w (Sort.grow (w.drewN k) os) := by
  have h := pw_below_drewN (Below.refl w.heap.size w) k
  exact ⟨h.os, h.tape, h.output, by show w.heap.size ≤ (w.heap ++ os).size; simp, fun g hg => Lib.heap_grow_old w k os g hg⟩
theorem tabIs_of_readsW {P : Program} {W : World} {name : String} {k : IntKind} {zs : List Int} {g : Nat} {t e : TypeId} {n : Nat}
    (hg : P.globalNamed name = some g) (hty : (P.globals[g]?).map (·.type) = some t) (ht : P.underlying t = some (.array n e)) (he : P.underlying e = some (.int k)) (hce : P.cellsOf e = 1) (hct : P.cellsOf t = n)
    (h : Lib.VarReads P W name (Lib.tabData k zs)) : Lib.TabIs P W name k zs := by
  obtain ⟨g', t', cs, fuel, p, hg', ht', hvar, hd⟩ := h
  obtain rfl := Option.some.inj (hg.symm.trans hg')
  obtain rfl := Option.some.inj (hty.symm.trans ht')
  unfold Lib.TabIs
  rw [hvar, ← Lib.cells_of_tab ht he hce hct hd]
set_option maxHeartbeats 1600000 in
set_option maxRecDepth 100000 in
theorem goText (s : ByteArray) (w : World) : Calls Tryd.prog 66 #[.agg #[.int .i64 5, .int .i64 0, .float .f64 0, .string s, .slice none 0 0, .slice none 0 0]] w fun e w' => e = .returned (.tuple #[.iface 9 (.string s), .bool true]) ∧ Below w.heap.size w w' := by
  have HB := Lib.hid (fun o => (Below.refl w.heap.size w).alloc (Nat.le_refl _) o)
  go_enter Tryd.func66, Tryd.ntmps66
  go_wp2
  go_ret2
  exact ⟨rfl, HB.out _⟩
set_option maxHeartbeats 1600000 in
set_option maxRecDepth 100000 in
theorem goI64 (n : Int) (w : World) : Calls Tryd.prog 66 #[.agg #[.int .i64 3, .int .i64 n, .float .f64 0, .string ⟨#[]⟩, .slice none 0 0, .slice none 0 0]] w fun e w' => e = .returned (.tuple #[.iface 2 (.int .i64 n), .bool true]) ∧ Below w.heap.size w w' := by
  have HB := Lib.hid (fun o => (Below.refl w.heap.size w).alloc (Nat.le_refl _) o)
  go_enter Tryd.func66, Tryd.ntmps66
  go_wp2
  go_ret2
  exact ⟨rfl, HB.out _⟩
set_option maxHeartbeats 1600000 in
set_option maxRecDepth 100000 in
theorem duration_text (n : Nat) (hn : n ≤ 9000000000) (w : World) : Calls Tryd.prog 91 #[.iface 9 (.string ⟨(Lib.itoa (n : Int)).toArray⟩)] w fun e w' => e = .returned (.string ⟨(secT n).toArray⟩) ∧ Below w.heap.size w w' := by
  have hl := Lib.itoa_length_le (n : Int) (by omega) (by omega)
  have HP := Lib.hid (fun W => Tryd.strconv_ParseInt_10_at64_ok ⟨(Lib.itoa (n : Int)).toArray⟩ (by show (Lib.itoa (n : Int)).toArray.size ≤ _; rw [List.size_toArray]; omega) (n : Int) (by rw [Lib.itoa_nonneg]; simpa using Lib.parse_itoa n (by omega)) W)
  have HS := Lib.hid (fun W => string_call n W hn)
  have ta1 : ∀ (v : ByteArray) (W : World), (Instr.typeAssert (.iface 9 (.string v)) 20 9 true).run Tryd.prog W = .ok (.tuple #[.string v, .bool true]) W := fun v W => by kernel_rfl
  generalize (⟨(Lib.itoa (n : Int)).toArray⟩ : ByteArray) = tx at *
  generalize secT n = sx at *
  clear hl
  have hni : (n : Int) ≤ 9000000000 := by omega
  have HG := Lib.hid (fun t => bytes_below (Below.refl w.heap.size w) (Nat.le_refl _) 5 t)
  go_enter Tryd.func91, Tryd.ntmps91
  go_wp2_with fail
  refine (HP.out _).mono ?_
  rintro e w1 ⟨rfl, hw1⟩
  have HB1 := Lib.hid (show Below w.heap.size w w1 by
    rcases hw1 with rfl | ⟨t, rfl⟩
    · exact Below.refl _ _
    · exact HG.out t)
  clear hw1 HG HP
  go_wp2_with fail
  refine (HS.out _).mono ?_
  rintro e w2 ⟨rfl, hb2⟩
  have HB2 := Lib.hid (HB1.out.trans (hb2.mono HB1.out.size))
  clear hb2 HB1 HS
  go_wp2
  go_ret
  exact ⟨rfl, HB2.out⟩
set_option maxHeartbeats 1600000 in
set_option maxRecDepth 100000 in
theorem duration_int (n : Nat) (hn : n ≤ 9000000000) (w : World) : Calls Tryd.prog 91 #[.iface 2 (.int .i64 n)] w fun e w' => e = .returned (.string ⟨(secT n).toArray⟩) ∧ Below w.heap.size w w' := by
  have HS := Lib.hid (fun W => string_call n W hn)
  have ta0 : ∀ (v : Int) (W : World), (Instr.typeAssert (.iface 2 (.int .i64 v)) 20 9 true).run Tryd.prog W = .ok (.tuple #[.string ⟨#[]⟩, .bool false]) W := fun v W => by kernel_rfl
  have ta1 : ∀ (v : Int) (W : World), (Instr.typeAssert (.iface 2 (.int .i64 v)) 20 2 true).run Tryd.prog W = .ok (.tuple #[.int .i64 v, .bool true]) W := fun v W => by kernel_rfl
  generalize secT n = sx at *
  have hni : (n : Int) ≤ 9000000000 := by omega
  go_enter Tryd.func91, Tryd.ntmps91
  go_wp2_with fail
  refine (HS.out _).mono ?_
  rintro e w2 ⟨rfl, hb2⟩
  have HB2 := Lib.hid hb2
  clear hb2 HS
  go_wp2
  go_ret
  exact ⟨rfl, HB2.out⟩
set_option maxHeartbeats 1600000 in
set_option maxRecDepth 100000 in
theorem door_text (n : Nat) (hn : n ≤ 9000000000) (w : World) : Calls Tryd.prog 67 #[.iface 9 (.string ⟨(Lib.itoa (n : Int)).toArray⟩)] w fun e w' => e = .returned (.string ⟨(secT n).toArray⟩) ∧ Below w.heap.size w w' := by
  have HC := Lib.hid (duration_text n hn w)
  generalize secT n = sx at *
  go_enter Tryd.func67, Tryd.ntmps67
  go_wp2_with fail
  refine HC.out.mono ?_
  rintro e w2 ⟨rfl, hb2⟩
  have HB2 := Lib.hid hb2
  clear hb2 HC
  go_wp2
  go_ret
  exact ⟨rfl, HB2.out⟩
set_option maxHeartbeats 1600000 in
set_option maxRecDepth 100000 in
theorem of_text (n : Nat) (hn : n ≤ 9000000000) (w : World) : Calls Tryd.prog 39 #[.agg #[.int .i64 5, .int .i64 0, .float .f64 0, .string ⟨(Lib.itoa (n : Int)).toArray⟩, .slice none 0 0, .slice none 0 0]] w fun e w' => e = .returned (.string ⟨(secT n).toArray⟩) ∧ Below w.heap.size w w' := by
  have HG := Lib.hid (fun (W : World) => goText ⟨(Lib.itoa (n : Int)).toArray⟩ W)
  have HC := Lib.hid (fun (W : World) => door_text n hn W)
  have HB := Lib.hid (fun o => (Below.refl w.heap.size w).alloc (Nat.le_refl _) o)
  generalize secT n = sx at *
  generalize (⟨(Lib.itoa (n : Int)).toArray⟩ : ByteArray) = tx at *
  go_enter Tryd.func39, Tryd.ntmps39
  go_wp2_with fail
  refine (HG.out _).mono ?_
  rintro e w1 ⟨rfl, hb1⟩
  have HB1 := Lib.hid ((HB.out _).trans (hb1.mono (by simp)))
  clear hb1 HG
  go_wp2_with fail
  refine (HC.out w1).mono ?_
  rintro e w2 ⟨rfl, hb2⟩
  have HB2 := Lib.hid (HB1.out.trans (hb2.mono HB1.out.size))
  clear hb2 HC
  go_wp2
  go_ret
  exact ⟨rfl, HB2.out⟩
set_option maxHeartbeats 1600000 in
set_option maxRecDepth 100000 in
theorem door_int (n : Nat) (hn : n ≤ 9000000000) (w : World) : Calls Tryd.prog 67 #[.iface 2 (.int .i64 n)] w fun e w' => e = .returned (.string ⟨(secT n).toArray⟩) ∧ Below w.heap.size w w' := by
  have HC := Lib.hid (duration_int n hn w)
  generalize secT n = sx at *
  go_enter Tryd.func67, Tryd.ntmps67
  go_wp2_with fail
  refine HC.out.mono ?_
  rintro e w2 ⟨rfl, hb2⟩
  have HB2 := Lib.hid hb2
  clear hb2 HC
  go_wp2
  go_ret
  exact ⟨rfl, HB2.out⟩
set_option maxHeartbeats 1600000 in
set_option maxRecDepth 100000 in
theorem of_int (n : Nat) (hn : n ≤ 9000000000) (w : World) : Calls Tryd.prog 39 #[.agg #[.int .i64 3, .int .i64 n, .float .f64 0, .string ⟨#[]⟩, .slice none 0 0, .slice none 0 0]] w fun e w' => e = .returned (.string ⟨(secT n).toArray⟩) ∧ Below w.heap.size w w' := by
  have HG := Lib.hid (fun (W : World) => goI64 (n : Int) W)
  have HC := Lib.hid (fun (W : World) => door_int n hn W)
  have HB := Lib.hid (fun o => (Below.refl w.heap.size w).alloc (Nat.le_refl _) o)
  generalize secT n = sx at *
  clear hn
  go_enter Tryd.func39, Tryd.ntmps39
  go_wp2_with fail
  refine (HG.out _).mono ?_
  rintro e w1 ⟨rfl, hb1⟩
  have HB1 := Lib.hid ((HB.out _).trans (hb1.mono (by simp)))
  clear hb1 HG
  go_wp2_with fail
  refine (HC.out w1).mono ?_
  rintro e w2 ⟨rfl, hb2⟩
  have HB2 := Lib.hid (HB1.out.trans (hb2.mono HB1.out.size))
  clear hb2 HC
  go_wp2
  go_ret
  exact ⟨rfl, HB2.out⟩
/-- A number's decimal text. -/
def decB (v : Nat) : ByteArray := ⟨(Lib.itoa (v : Int)).toArray⟩
theorem decB_size {v : Nat} (h : v ≤ 9000000000) : (decB v).size ≤ 21 := by
  show (Lib.itoa (v : Int)).toArray.size ≤ 21
  rw [List.size_toArray]
  exact Lib.itoa_length_le (v : Int) (by omega) (by omega)
theorem decB_list (v : Nat) : (decB v).data.toList = Lib.decDigits v := by
  show (Lib.itoa (v : Int)).toArray.toList = _
  rw [Lib.itoa_nonneg]
def secB (n : Nat) : ByteArray := ⟨(secT n).toArray⟩
theorem secB_list (n : Nat) : (secB n).data.toList = secT n := rfl
theorem sec_one {n : Nat} (h : ¬ 60 ≤ n) : decB (n % 60) ++ ⟨#[115]⟩ = secB n := by
  apply ba_ext
  rw [append_list, decB_list, secB_list]
  unfold secT
  rw [if_neg (by omega), if_neg h]
  rfl
theorem sec_two {n : Nat} (h : 60 ≤ n) (h2 : ¬ 3600 ≤ n) : (decB (n / 60 % 60) ++ ⟨#[109]⟩) ++ (decB (n % 60) ++ ⟨#[115]⟩) = secB n := by
  apply ba_ext
  simp only [append_list, decB_list, secB_list]
  unfold secT
  rw [if_neg h2, if_pos h]
  rfl
theorem sec_three {n : Nat} (h : 3600 ≤ n) : (decB (n / 3600) ++ ⟨#[104]⟩) ++ ((decB (n / 60 % 60) ++ ⟨#[109]⟩) ++ (decB (n % 60) ++ ⟨#[115]⟩)) = secB n := by
  apply ba_ext
  simp only [append_list, decB_list, secB_list]
  unfold secT
  rw [if_pos h, if_pos (by omega)]
set_option maxHeartbeats 1600000 in
set_option maxRecDepth 100000 in
theorem decimal_at (vi : Int) (v : Nat) (hvi : vi = (v : Int)) (hv : v ≤ 9000000000) (w : World) (hT : TabsW w) : Calls Tryd.prog 40 #[.int .i64 vi] w fun e w' => e = .returned (.string (decB v)) ∧ Below w.heap.size w w' := by
  subst hvi
  have HT := Lib.hid hT
  clear hT
  go_enter Tryd.func40, Tryd.ntmps40
  go_wp2_with fail
  refine (Tryd.strconv_FormatInt_10 (v : Int) (by omega) (by omega) w HT.out).mono ?_
  rintro e w' ⟨rfl, k, os, rfl⟩
  have HG := Lib.hid (below_grow_ w k os)
  generalize Sort.grow (w.drewN k) os = w2 at *
  go_wp2
  go_ret
  exact ⟨rfl, HG.out⟩
set_option maxHeartbeats 1600000 in
set_option maxRecDepth 100000 in
theorem seconds_call (n : Nat) (hn : n ≤ 9000000000) (w : World) (hT : TabsW w) : Calls Tryd.prog 38 #[.int .i64 n] w fun e w' => e = .returned (.string (secB n)) ∧ Below w.heap.size w w' := by
  have HT := Lib.hid hT
  have HB := Lib.hid (Below.refl w.heap.size w)
  have H1 := Lib.hid (fun (W : World) (hb : Below w.heap.size w W) => decimal_at ((n : Int) % 60) (n % 60) (by omega) (by omega) W (hT.below hb))
  have H2 := Lib.hid (fun (W : World) (hb : Below w.heap.size w W) => decimal_at ((n : Int) / 60 % 60) (n / 60 % 60) (by omega) (by omega) W (hT.below hb))
  have H3 := Lib.hid (fun (W : World) (hb : Below w.heap.size w W) => decimal_at ((n : Int) / 3600) (n / 3600) (by omega) (by omega) W (hT.below hb))
  have z1 := decB_size (v := n % 60) (by omega)
  have z2 := decB_size (v := n / 60 % 60) (by omega)
  have z3 := decB_size (v := n / 3600) (by omega)
  have S1 := Lib.hid (@sec_one n)
  have S2 := Lib.hid (@sec_two n)
  have S3 := Lib.hid (@sec_three n)
  clear hT
  generalize decB (n % 60) = d1 at *
  generalize decB (n / 60 % 60) = d2 at *
  generalize decB (n / 3600) = d3 at *
  have y1 : (d1 ++ ⟨#[115]⟩ : ByteArray).size ≤ 22 := by rw [ByteArray.size_append]; exact Nat.add_le_add z1 (Nat.le_refl 1)
  have y2 : (d2 ++ ⟨#[109]⟩ : ByteArray).size ≤ 22 := by rw [ByteArray.size_append]; exact Nat.add_le_add z2 (Nat.le_refl 1)
  have y3 : (d3 ++ ⟨#[104]⟩ : ByteArray).size ≤ 22 := by rw [ByteArray.size_append]; exact Nat.add_le_add z3 (Nat.le_refl 1)
  have y4 : ((d2 ++ ⟨#[109]⟩) ++ (d1 ++ ⟨#[115]⟩) : ByteArray).size ≤ 44 := by rw [ByteArray.size_append]; exact Nat.add_le_add y2 y1
  have x1 : d1.size + (⟨#[115]⟩ : ByteArray).size ≤ 9223372036854775807 := by have : (⟨#[115]⟩ : ByteArray).size = 1 := rfl; omega
  have x2 : d2.size + (⟨#[109]⟩ : ByteArray).size ≤ 9223372036854775807 := by have : (⟨#[109]⟩ : ByteArray).size = 1 := rfl; omega
  have x3 : d3.size + (⟨#[104]⟩ : ByteArray).size ≤ 9223372036854775807 := by have : (⟨#[104]⟩ : ByteArray).size = 1 := rfl; omega
  have x4 : (d2 ++ ⟨#[109]⟩ : ByteArray).size + (d1 ++ ⟨#[115]⟩ : ByteArray).size ≤ 9223372036854775807 := by omega
  have x5 : (d3 ++ ⟨#[104]⟩ : ByteArray).size + ((d2 ++ ⟨#[109]⟩) ++ (d1 ++ ⟨#[115]⟩) : ByteArray).size ≤ 9223372036854775807 := by omega
  clear y1 y2 y3 y4 z1 z2 z3
  have hni : (n : Int) ≤ 9000000000 := by omega
  go_enter Tryd.func38, Tryd.ntmps38
  go_wp2_with fail
  refine (H1.out _ HB.out).mono ?_
  rintro e w1 ⟨rfl, hb1⟩
  have HB1 := Lib.hid hb1
  clear hb1 H1
  by_cases c1 : 60 ≤ n
  · go_wp2_with fail
    refine (H2.out _ HB1.out).mono ?_
    rintro e w2 ⟨rfl, hb2⟩
    have HB2 := Lib.hid (HB1.out.trans (hb2.mono HB1.out.size))
    clear hb2 H2 HB1
    by_cases c2 : 3600 ≤ n
    · go_wp2_with fail
      refine (H3.out _ HB2.out).mono ?_
      rintro e w3 ⟨rfl, hb3⟩
      have HB3 := Lib.hid (HB2.out.trans (hb3.mono HB2.out.size))
      clear hb3 H3 HB2
      have HX := Lib.hid (S3.out c2)
      go_wp2
      go_ret
      exact ⟨congrArg (fun z => Ending.returned (Value.string z)) HX.out, HB3.out⟩
    · have HX := Lib.hid (S2.out c1 c2)
      go_wp2
      go_ret
      exact ⟨congrArg (fun z => Ending.returned (Value.string z)) HX.out, HB2.out⟩
  · have HX := Lib.hid (S1.out c1)
    have c2 : ¬ 3600 ≤ n := by omega
    go_wp2
    go_ret
    exact ⟨congrArg (fun z => Ending.returned (Value.string z)) HX.out, HB1.out⟩
set_option maxHeartbeats 1600000 in
set_option maxRecDepth 100000 in
theorem fnDuration (n : Int) (w : World) (hn : (Lit.int IntKind.i64 n).wf = true) (hT : TabsW w) : Calls Tryd.prog 8 #[.int .i64 n] w fun e w' => e = .returned (.bool true) ∧ Below w.heap.size w w' := by
  have HT := Lib.hid hT
  have HB := Lib.hid (Below.refl w.heap.size w)
  clear hT hn
  by_cases c0 : n < 0
  · go_enter Tryd.func8, Tryd.ntmps8
    go_wp2
    go_ret
    exact ⟨rfl, HB.out⟩
  by_cases c1 : 9000000000 < n
  · go_enter Tryd.func8, Tryd.ntmps8
    go_wp2
    go_ret
    exact ⟨rfl, HB.out⟩
  obtain ⟨m, rfl⟩ : ∃ m : Nat, n = (m : Int) := ⟨n.toNat, by omega⟩
  have hm : m ≤ 9000000000 := by omega
  have HS := Lib.hid (fun (W : World) (hb : Below w.heap.size w W) => seconds_call m hm W (HT.out.below hb))
  have HD := Lib.hid (fun (W : World) (hb : Below w.heap.size w W) => decimal_at (m : Int) m rfl hm W (HT.out.below hb))
  have HO1 := Lib.hid (fun (W : World) => show Calls Tryd.prog 39 #[.agg #[.int .i64 5, .int .i64 0, .float .f64 0, .string (decB m), .slice none 0 0, .slice none 0 0]] W fun e w' => e = .returned (.string (secB m)) ∧ Below W.heap.size W w' from of_text m hm W)
  have HO2 := Lib.hid (fun (W : World) => show Calls Tryd.prog 39 #[.agg #[.int .i64 3, .int .i64 m, .float .f64 0, .string ⟨#[]⟩, .slice none 0 0, .slice none 0 0]] W fun e w' => e = .returned (.string (secB m)) ∧ Below W.heap.size W w' from of_int m hm W)
  have HO3 := Lib.hid (fun (W : World) => show Calls Tryd.prog 39 #[.agg #[.int .i64 5, .int .i64 0, .float .f64 0, .string ⟨#[57, 53]⟩, .slice none 0 0, .slice none 0 0]] W fun e w' => e = .returned (.string ⟨#[49, 109, 51, 53, 115]⟩) ∧ Below W.heap.size W w' from by
    have h := of_text 95 (by decide) W
    rw [show (⟨(Lib.itoa ((95 : Nat) : Int)).toArray⟩ : ByteArray) = ⟨#[57, 53]⟩ by apply ba_ext; decide +kernel, show (⟨(secT 95).toArray⟩ : ByteArray) = ⟨#[49, 109, 51, 53, 115]⟩ by apply ba_ext; decide +kernel] at h
    exact h)
  generalize secB m = sx at *
  generalize decB m = tx at *
  clear HT
  have hm0 : (0 : Int) ≤ (m : Int) := by omega
  have hm1 : (m : Int) ≤ 9000000000 := by omega
  go_enter Tryd.func8, Tryd.ntmps8
  go_wp2_with fail
  refine (HS.out _ HB.out).mono ?_
  rintro e w1 ⟨rfl, hb1⟩
  have HB1 := Lib.hid hb1
  clear hb1 HS
  go_wp2_with fail
  refine (HD.out _ HB1.out).mono ?_
  rintro e w2 ⟨rfl, hb2⟩
  have HB2 := Lib.hid (HB1.out.trans (hb2.mono HB1.out.size))
  clear hb2 HD HB1
  go_wp2_with fail
  refine (HO1.out _).mono ?_
  rintro e w3 ⟨rfl, hb3⟩
  have HB3 := Lib.hid (HB2.out.trans (hb3.mono HB2.out.size))
  clear hb3 HO1 HB2
  go_wp2_with fail
  refine (HO2.out _).mono ?_
  rintro e w4 ⟨rfl, hb4⟩
  have HB4 := Lib.hid (HB3.out.trans (hb4.mono HB3.out.size))
  clear hb4 HO2 HB3
  go_wp2_with fail
  refine (HO3.out _).mono ?_
  rintro e w5 ⟨rfl, hb5⟩
  have HB5 := Lib.hid (HB4.out.trans (hb5.mono HB4.out.size))
  clear hb5 HO3 HB4
  go_wp2
  go_ret
  exact ⟨rfl, HB5.out⟩
end Go.Proofs.YtaeddkndkmfdiaaDoor.P
