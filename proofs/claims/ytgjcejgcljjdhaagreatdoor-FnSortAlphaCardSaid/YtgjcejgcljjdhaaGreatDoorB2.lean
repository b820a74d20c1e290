/- zzText, strval, removeNilElements, cat, strslice, join of simple values. -/
import Derived.Test.YtgjcejgcljjdhaaGreatDoorB1
import Derived.Laws.MakeOwn
import Derived.Shelf.Unicode.PredsPay
import Derived.Lib.ItoaMem
import Derived.Lib.AppendIntMem
import Derived.Shelf.Strconv.Itoa3
import Derived.Lib.LaidIn
import Derived.Lib.LaidRTab
set_option linter.unusedVariables false
set_option linter.unusedSimpArgs false
namespace Go.Proofs.YtgjcejgcljjdhaaGreatDoor.P
open Go.RowKit Go.Proofs.YtgjcejgcljjdhaaGreatDoorW.PrintWords Go.Proofs.YtgjcejgcljjdhaaGreatDoorW.PrintLast Go.Proofs.YtgjcejgcljjdhaaGreatDoorW.PrintMore

/-- The table of powers of ten lies in memory as its initialiser laid it. -/
def TabsW (w : World) : Prop := Lib.TabIs Tryz.prog w "internal/strconv.uint64pow10" .u64 Lib.pow10Tab
theorem TabsW.below {w w' : World} (h : TabsW w) (hb : Below w.heap.size w w') : TabsW w' := Go.Proofs.TabIs_below (g := 0) (by kernel_rfl) h hb
theorem below_grow_ (w : World) (k : Nat) (os : Array Obj) : Below w.heap.size w (Sort.grow (w.drewN k) os) := by
  have h := pw_below_drewN (Below.refl w.heap.size w) k
  exact ⟨h.os, h.tape, h.output, by show w.heap.size ≤ (w.heap ++ os).size; simp, fun g hg => Lib.heap_grow_old w k os g hg⟩
theorem tabIs_of_readsW {P : Program} {W : World} {name : String} {k : IntKind} {zs : List Int} {g : Nat} {t e : TypeId} {n : Nat}
    (hg : P.globalNamed name = some g) (hty : (P.globals[g]?).map (·.type) = some t) (ht : P.underlying t = some (.array n e)) (he : P.underlying e = some (.int k)) (hce : P.cellsOf e = 1) (hct : P.cellsOf t = n)
    (h : Lib.VarReads P W name (Lib.tabData k zs)) : Lib.TabIs P W name k zs := by
  obtain ⟨g', t', cs, fuel, p, hg', ht', hvar, hd⟩ := h
  obtain rfl := Option.some.inj (hg.symm.trans hg')
  obtain rfl := Option.some.inj (hty.symm.trans ht')
  unfold Lib.TabIs
  rw [hvar, ← Lib.cells_of_tab ht he hce hct hd]
theorem info_str : (Tryz.prog.info? 9).map (fun i => (i.zero, i.size, i.bytes)) = some (some (.string ⟨#[]⟩), 1, 16) := by kernel_rfl
/-- make of no elements with room for n. -/
theorem make0 {P : Program} (t e : TypeId) (z : Value) (ht : P.underlying t = some (.slice e)) (hinfo : (P.info? e).map (fun i => (i.zero, i.size, i.bytes)) = some (some z, 1, 16)) (hz : z.cells = #[z]) (n : Nat) (hn : n ≤ 1000) (W : World) :
    (Instr.makeSlice t (.int .i64 0) (.int .i64 (n : Int))).run P W = .ok (.slice (some ⟨W.heap.size, 0, none⟩) 0 n) (W.alloc (.cells (madeCells #[z] n) e)) := by
  obtain ⟨i, hi, hzz⟩ := Option.map_eq_some_iff.1 hinfo
  simp only [Prod.mk.injEq] at hzz
  obtain ⟨h1, h2, h3⟩ := hzz
  have hr := run_make (P := P) W t e i z ht hi h1 .i64 .i64 0 (n : Int) (Int.le_refl _) (by omega) (by rw [h3]; omega) (by omega)
  simp only [Int.toNat_zero, Int.toNat_natCast] at hr
  rw [hr, h2, hz, Nat.mul_one]
theorem R_made0 {α : Type} {d : Kd α} (hd : d.sz = 1) {e : Nat} (W : World) (z : Value) (n : Nat) (hn : n ≤ 1000) : d.R e (W.alloc (.cells (madeCells #[z] n) e)) W.heap.size (fun _ => True) (.slice (some ⟨W.heap.size, 0, none⟩) 0 n) [] := by
  refine ⟨fun _ _ => trivial, [], ?_, Reps.none _ _⟩
  have h := World.ownsRow_made (base := W.heap.size) (e := e) (size := 1) W (madeCells #[z] n) n (Nat.le_refl _) (by unfold maxLen; omega) (by rw [size_madeCells]; simp)
  rw [hd]
  exact h
theorem R_made0B {α : Type} {d : Kd α} (hd : d.sz = 1) {e : Nat} (W : World) (z : Value) (n : Nat) (hn : n ≤ 1000) (B : Nat) (hB : B ≤ W.heap.size) : d.R e (W.alloc (.cells (madeCells #[z] n) e)) B (fun _ => True) (.slice (some ⟨W.heap.size, 0, none⟩) 0 n) [] := by
  refine ⟨fun _ _ => trivial, [], ?_, Reps.none _ _⟩
  have h := World.ownsRow_made (base := B) (e := e) (size := 1) W (madeCells #[z] n) n hB (by unfold maxLen; omega) (by rw [size_madeCells]; simp)
  rw [hd]
  exact h
theorem at_V {w : World} {A : Option Addr} {n : Nat} {xs : List S36} (h : kV.C w A n xs) (i : Int) (h0 : 0 ≤ i) (h1 : i < n) : ∃ ad, A = some ad ∧ w.cell? (ad.add i.toNat) = some (encV (rd_T36 xs i)) :=
  ReadsOf.at_ (Kd.reads_of_C (enc := encV) (d := z36) (h1 := encV_one) h) i h0 h1
theorem takeF {l : List S36} {k : Nat} (h : k < l.length) : (l.take (k + 1)).filter fullV = (l.take k).filter fullV ++ (if fullV (l.getD k z36) then [l.getD k z36] else []) := by
  rw [take_getD h, List.filter_append]
  congr 1
  cases hp : fullV (l.getD k z36) <;> simp [hp, -List.getD_eq_getElem?_getD]
theorem takeF_le {l : List S36} {k : Nat} : ((l.take k).filter fullV).length ≤ k := Nat.le_trans (List.length_filter_le _ _) (List.length_take_le _ _)

set_option maxHeartbeats 3200000 in
set_option maxRecDepth 100000 in
theorem zzText_bool (b : Bool) (w : World) : Calls Tryz.prog 49 #[.iface 4 (.bool b)] w fun e w' => e = .returned (.string ⟨(Lib.formatBool b).toArray⟩) ∧ Below w.heap.size w w' := by
  have ta0 : ∀ (v : Value) (W : World), (Instr.typeAssert (.iface 4 v) 20 4 true).run Tryz.prog W = .ok (.tuple #[v, .bool true]) W := fun v W => by kernel_rfl
  have HB := Lib.hid (Below.refl w.heap.size w)
  go_enter Tryz.func49, Tryz.ntmps49
  go_wp2_with fail
  refine (Tryz.strconv_FormatBool b w).mono ?_
  rintro e w' ⟨rfl, rfl⟩
  go_wp2
  go_ret
  exact ⟨rfl, HB.out⟩
set_option maxHeartbeats 3200000 in
set_option maxRecDepth 100000 in
theorem zzText_int (n : Int) (h0 : -9223372036854775808 ≤ n) (h1 : n ≤ 9223372036854775807) (w : World) (hT : TabsW w) : Calls Tryz.prog 49 #[.iface 3 (.int .i64 n)] w fun e w' => e = .returned (.string ⟨(Lib.itoa n).toArray⟩) ∧ Below w.heap.size w w' := by
  have ta0 : ∀ (v : Value) (W : World), (Instr.typeAssert (.iface 3 v) 20 4 true).run Tryz.prog W = .ok (.tuple #[.bool false, .bool false]) W := fun v W => by kernel_rfl
  have ta1 : ∀ (v : Value) (W : World), (Instr.typeAssert (.iface 3 v) 20 3 true).run Tryz.prog W = .ok (.tuple #[v, .bool true]) W := fun v W => by kernel_rfl
  have HB := Lib.hid (Below.refl w.heap.size w)
  go_enter Tryz.func49, Tryz.ntmps49
  have HT := Lib.hid hT
  clear hT
  go_wp2_with fail
  refine (Tryz.strconv_Itoa n h0 h1 w HT.out).mono ?_
  rintro e w' ⟨rfl, k, os, rfl⟩
  have HG := Lib.hid (below_grow_ w k os)
  generalize Sort.grow (w.drewN k) os = w2 at *
  go_wp2
  go_ret
  exact ⟨rfl, HG.out⟩
set_option maxHeartbeats 3200000 in
set_option maxRecDepth 100000 in
theorem zzText_int64 (n : Int) (h0 : -9223372036854775808 ≤ n) (h1 : n ≤ 9223372036854775807) (w : World) (hT : TabsW w) : Calls Tryz.prog 49 #[.iface 2 (.int .i64 n)] w fun e w' => e = .returned (.string ⟨(Lib.itoa n).toArray⟩) ∧ Below w.heap.size w w' := by
  have ta0 : ∀ (v : Value) (W : World), (Instr.typeAssert (.iface 2 v) 20 4 true).run Tryz.prog W = .ok (.tuple #[.bool false, .bool false]) W := fun v W => by kernel_rfl
  have ta1 : ∀ (v : Value) (W : World), (Instr.typeAssert (.iface 2 v) 20 3 true).run Tryz.prog W = .ok (.tuple #[.int .i64 0, .bool false]) W := fun v W => by kernel_rfl
  have ta2 : ∀ (v : Value) (W : World), (Instr.typeAssert (.iface 2 v) 20 2 true).run Tryz.prog W = .ok (.tuple #[v, .bool true]) W := fun v W => by kernel_rfl
  have HB := Lib.hid (Below.refl w.heap.size w)
  go_enter Tryz.func49, Tryz.ntmps49
  have HT := Lib.hid hT
  clear hT
  go_wp2_with fail
  refine (Tryz.strconv_FormatInt_10 n h0 h1 w HT.out).mono ?_
  rintro e w' ⟨rfl, k, os, rfl⟩
  have HG := Lib.hid (below_grow_ w k os)
  generalize Sort.grow (w.drewN k) os = w2 at *
  go_wp2
  go_ret
  exact ⟨rfl, HG.out⟩
set_option maxHeartbeats 3200000 in
set_option maxRecDepth 100000 in
theorem zzText_string (s : ByteArray) (w : World) : Calls Tryz.prog 49 #[.iface 9 (.string s)] w fun e w' => e = .returned (.string s) ∧ Below w.heap.size w w' := by
  have ta0 : ∀ (v : Value) (W : World), (Instr.typeAssert (.iface 9 v) 20 4 true).run Tryz.prog W = .ok (.tuple #[.bool false, .bool false]) W := fun v W => by kernel_rfl
  have ta1 : ∀ (v : Value) (W : World), (Instr.typeAssert (.iface 9 v) 20 3 true).run Tryz.prog W = .ok (.tuple #[.int .i64 0, .bool false]) W := fun v W => by kernel_rfl
  have ta2 : ∀ (v : Value) (W : World), (Instr.typeAssert (.iface 9 v) 20 2 true).run Tryz.prog W = .ok (.tuple #[.int .i64 0, .bool false]) W := fun v W => by kernel_rfl
  have ta3 : ∀ (v : Value) (W : World), (Instr.typeAssert (.iface 9 v) 20 34 true).run Tryz.prog W = .ok (.tuple #[.float .f64 0, .bool false]) W := fun v W => by kernel_rfl
  have ta4 : ∀ (v : Value) (W : World), (Instr.typeAssert (.iface 9 v) 20 9 true).run Tryz.prog W = .ok (.tuple #[v, .bool true]) W := fun v W => by kernel_rfl
  have HB := Lib.hid (Below.refl w.heap.size w)
  go_enter Tryz.func49, Tryz.ntmps49
  go_wp2
  go_ret
  exact ⟨rfl, HB.out⟩
theorem zzText_call {x : S36} (hs : simpV x = true) (hf : fullV x = true) (w : World) (hT : TabsW w) : Calls Tryz.prog 49 #[encV x] w fun e w' => e = .returned (.string (txtV x)) ∧ Below w.heap.size w w' := by
  rcases encV_cases hs with ⟨_, _, h⟩ | ⟨_, ⟨b, h, ht⟩ | ⟨n, a0, a1, h, ht⟩ | ⟨n, a0, a1, h, ht⟩ | h⟩
  · rw [h] at hf
    cases hf
  · rw [h, ht]
    exact zzText_bool b w
  · rw [h, ht]
    exact zzText_int n a0 a1 w hT
  · rw [h, ht]
    exact zzText_int64 n a0 a1 w hT
  · rw [h]
    exact zzText_string _ w
set_option maxHeartbeats 3200000 in
set_option maxRecDepth 100000 in
theorem strval_call {x : S36} (hs : simpV x = true) (hf : fullV x = true) (w : World) (hT : TabsW w) : Calls Tryz.prog 47 #[encV x] w fun e w' => e = .returned (.string (txtV x)) ∧ Below w.heap.size w w' := by
  have HZ := Lib.hid (zzText_call hs hf w hT)
  have HB := Lib.hid (Below.refl w.heap.size w)
  rcases encV_cases hs with ⟨_, _, h⟩ | ⟨_, ⟨b, h, ht⟩ | ⟨n, a0, a1, h, ht⟩ | ⟨n, a0, a1, h, ht⟩ | h⟩
  · rw [h] at hf
    cases hf
  · rw [h] at HZ ⊢
    clear h ht hs hf hT
    have ta0 : ∀ (v : Value) (W : World), (Instr.typeAssert (.iface 4 v) 20 9 true).run Tryz.prog W = .ok (.tuple #[.string ⟨#[]⟩, .bool false]) W := fun v W => by kernel_rfl
    have ta1 : ∀ (v : Value) (W : World), (Instr.typeAssert (.iface 4 v) 20 63 true).run Tryz.prog W = .ok (.tuple #[.slice none 0 0, .bool false]) W := fun v W => by kernel_rfl
    go_enter Tryz.func47, Tryz.ntmps47
    go_wp2_with fail
    refine HZ.out.mono ?_
    rintro e w' ⟨rfl, hb⟩
    have HB1 := Lib.hid hb
    clear hb HZ
    go_wp2
    go_ret
    exact ⟨rfl, HB1.out⟩
  · rw [h] at HZ ⊢
    clear h ht hs hf hT
    have ta0 : ∀ (v : Value) (W : World), (Instr.typeAssert (.iface 3 v) 20 9 true).run Tryz.prog W = .ok (.tuple #[.string ⟨#[]⟩, .bool false]) W := fun v W => by kernel_rfl
    have ta1 : ∀ (v : Value) (W : World), (Instr.typeAssert (.iface 3 v) 20 63 true).run Tryz.prog W = .ok (.tuple #[.slice none 0 0, .bool false]) W := fun v W => by kernel_rfl
    go_enter Tryz.func47, Tryz.ntmps47
    go_wp2_with fail
    refine HZ.out.mono ?_
    rintro e w' ⟨rfl, hb⟩
    have HB1 := Lib.hid hb
    clear hb HZ
    go_wp2
    go_ret
    exact ⟨rfl, HB1.out⟩
  · rw [h] at HZ ⊢
    clear h ht hs hf hT
    have ta0 : ∀ (v : Value) (W : World), (Instr.typeAssert (.iface 2 v) 20 9 true).run Tryz.prog W = .ok (.tuple #[.string ⟨#[]⟩, .bool false]) W := fun v W => by kernel_rfl
    have ta1 : ∀ (v : Value) (W : World), (Instr.typeAssert (.iface 2 v) 20 63 true).run Tryz.prog W = .ok (.tuple #[.slice none 0 0, .bool false]) W := fun v W => by kernel_rfl
    go_enter Tryz.func47, Tryz.ntmps47
    go_wp2_with fail
    refine HZ.out.mono ?_
    rintro e w' ⟨rfl, hb⟩
    have HB1 := Lib.hid hb
    clear hb HZ
    go_wp2
    go_ret
    exact ⟨rfl, HB1.out⟩
  · rw [h]
    clear h hs hf hT HZ
    have ta0 : ∀ (v : Value) (W : World), (Instr.typeAssert (.iface 9 v) 20 9 true).run Tryz.prog W = .ok (.tuple #[v, .bool true]) W := fun v W => by kernel_rfl
    go_enter Tryz.func47, Tryz.ntmps47
    go_wp2
    go_ret
    exact ⟨rfl, HB.out⟩
set_option maxHeartbeats 3200000 in
set_option maxRecDepth 100000 in
theorem removeNil_call (l : List S36) (A : Option Addr) (c : Nat) (w : World) (hs : ∀ x ∈ l, simpV x = true) (hl : l.length ≤ 1000) (hc : kV.C w A l.length l) :
    Calls Tryz.prog 48 #[.slice A l.length c] w fun e w' => ∃ u, e = .returned u ∧ kV.R 20 w' w.heap.size (fun _ => True) u (l.filter fullV) ∧ Below w.heap.size w w' := by
  have HF := Lib.hid hs
  have HC := Lib.hid hc
  have HMK := fun W => make0 (P := Tryz.prog) 42 20 .nilIface Tryz.underlying42 info_any rfl l.length hl W
  clear hs hc
  obtain ⟨N, hNN⟩ : ∃ N, N = l.length := ⟨_, rfl⟩
  have HN := Lib.hid hNN
  rw [← hNN] at hl HMK ⊢
  clear hNN
  have HG := Lib.hid (show kV.R 20 (w.alloc (.cells (madeCells #[.nilIface] N) 20)) w.heap.size (fun _ => True) (.slice (some ⟨w.heap.size, 0, none⟩) 0 N) [] from R_made0 rfl w _ N hl)
  have HB := Lib.hid ((Below.refl w.heap.size w).alloc (Nat.le_refl _) (.cells (madeCells #[.nilIface] N) 20))
  have HS := Lib.hid (show w.heap.size ≤ (w.alloc (.cells (madeCells #[.nilIface] N) 20)).heap.size by simp)
  go_enter Tryz.func48, Tryz.ntmps48
  go_wp2
  go_loopw [3, 5, 11] (fun v y i wr => ∃ (k : Nat) (v' y' : Value), v' = v ∧ y' = y ∧ i = .int .i64 k ∧ k ≤ N ∧ Hid (kV.R 20 wr w.heap.size (fun _ => True) v' ((l.take k).filter fullV)) ∧ Hid (Below w.heap.size w wr) ∧ Hid (w.heap.size ≤ wr.heap.size)) (fun _ _ i _ => N - (intOf i).toNat)
  case atStart => exact ⟨0, _, _, rfl, rfl, rfl, Nat.zero_le _, by rw [List.take_zero]; exact HG, HB, HS⟩
  case round =>
    clear HG HB HS HMK
    obtain ⟨k, v, y0, rfl, rfl, rfl, hk, hG, hB, hS⟩ := hrel
    by_cases ck : k < N
    · obtain ⟨ad, rfl, q0⟩ := at_V (Kd.C_below HC.out hB.out) (k : Int) (by omega) (by rw [← HN.out]; omega)
      simp only [Int.toNat_natCast] at q0
      have hkl : k < l.length := by rw [← HN.out]; exact ck
      have hkd : rd_T36 l (k : Int) = l.getD k z36 := by unfold rd_T36; rw [Int.toNat_natCast]
      have hsx : simpV (rd_T36 l (k : Int)) = true := by rw [hkd]; exact HF.out _ (getD_mem hkl)
      have HTK := Lib.hid (show (l.take (k + 1)).filter fullV = (l.take k).filter fullV ++ (if fullV (rd_T36 l (k : Int)) then [rd_T36 l (k : Int)] else []) by rw [hkd]; exact takeF hkl)
      have HLT := Lib.hid (takeF_le (l := l) (k := k))
      have HSX := Lib.hid hsx
      clear hkd hkl hsx
      generalize rd_T36 l (k : Int) = x at *
      have HM := Lib.hid (show kV.M wr w.heap.size (fun _ => False) x [encV x] from rfl)
      rcases encV_cases HSX.out with ⟨_, h, hf⟩ | ⟨hf, h⟩
      · rw [h] at q0
        rw [hf] at HTK
        have HG3 := Lib.hid (show kV.R 20 wr w.heap.size (fun _ => True) v ((l.take (k + 1)).filter fullV) by rw [HTK.out]; simpa using hG.out)
        clear h hf HTK HM hG HLT
        go_wp2
        go_roundw
        case rel => exact ⟨k + 1, v, _, rfl, rfl, by go_num, by omega, HG3, hB, hS⟩
        case measure => simp [intOf]; omega
      · obtain ⟨t, u, h⟩ : ∃ t u, encV x = .iface t u := by
          rcases h with ⟨b, h, _⟩ | ⟨n, _, _, h, _⟩ | ⟨n, _, _, h, _⟩ | h
          all_goals exact ⟨_, _, h⟩
        rw [h] at q0 HM
        rw [hf] at HTK
        clear h hf
        go_wp2_with (at_builtin; refine Kd.R_append kV (w0 := w) w.heap.size rfl _ _ 42 20 .nilIface 16 rfl Tryz.underlying42 info_any rfl (Nat.succ_pos 0) (by decide) v ((l.take k).filter fullV) x [.iface t u] (fun _ => True) (fun _ => False) rfl rfl HM.out (fun _ h => h.elim) (fun _ _ => trivial) hG.out hB.out hS.out (by have := HLT.out; omega) ?_)
        intro v1 w3 h1 hb3 hgr hat
        have HG3 := Lib.hid (show kV.R 20 w3 w.heap.size (fun _ => True) v1 ((l.take (k + 1)).filter fullV) by rw [HTK.out]; exact h1)
        have HB3 := Lib.hid hb3
        have HS3 := Lib.hid (Nat.le_trans hS.out hgr.size)
        clear h1 hb3 hgr hat HTK HLT HM
        go_wp2
        go_roundw
        case rel => exact ⟨k + 1, v1, _, rfl, rfl, by go_num, by omega, HG3, HB3, HS3⟩
        case measure => simp [intOf]; omega
    · have hkn : k = N := by omega
      subst hkn
      have HG3 := Lib.hid (show kV.R 20 wr w.heap.size (fun _ => True) v (l.filter fullV) by have := hG.out; rwa [HN.out, List.take_length] at this)
      clear hG
      go_wp2
      go_ret
      exact ⟨v, rfl, HG3.out, hB.out⟩
end Go.Proofs.YtgjcejgcljjdhaaGreatDoor.P
