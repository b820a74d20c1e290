-- WRITTEN by xprint.py (a program of this session, over the kit's print) out of the translation. Not trusted: Lean checks it.
import Derived.Test.YtlhijjfbcgconaaDoorZSb
import Derived.Test.YtlhijjfbcgconaaDoorZPx0
namespace Go.Proofs.YtlhijjfbcgconaaDoor.P
open Go.RowKit Go.Proofs.YtlhijjfbcgconaaDoorW.PrintWords Go.Proofs.YtlhijjfbcgconaaDoorW.PrintLast Go.Proofs.YtlhijjfbcgconaaDoorW.PrintMore
attribute [local go_sem] max2_int min2_int max_two min_two max_three min_three max_four min_four run_store_float   -- for this text's walks alone
set_option linter.unusedVariables false
set_option linter.unusedSimpArgs false

-- GIVEN by hand: function 74 (strconv_FormatUint_74)
/-! ### strconv_FormatUint_74: function 74 -/
/-- The table of powers of ten lies in memory as its initialiser laid it. -/
def TabsW (w : World) : Prop := Lib.TabIs Tryd.prog w "internal/strconv.uint64pow10" .u64 Lib.pow10Tab
theorem TabsW.below {w w' : World} (h : TabsW w) (hb : Below w.heap.size w w') : TabsW w' := Go.Proofs.TabIs_below (g := 4) (by kernel_rfl) h hb
theorem tabIs_of_readsW {P : Program} {W : World} {name : String} {k : IntKind} {zs : List Int} {g : Nat} {t e : TypeId} {n : Nat}
    (hg : P.globalNamed name = some g) (hty : (P.globals[g]?).map (·.type) = some t) (ht : P.underlying t = some (.array n e)) (he : P.underlying e = some (.int k)) (hce : P.cellsOf e = 1) (hct : P.cellsOf t = n)
    (h : Lib.VarReads P W name (Lib.tabData k zs)) : Lib.TabIs P W name k zs := by
  obtain ⟨g', t', cs, fuel, p, hg', ht', hvar, hd⟩ := h
  obtain rfl := Option.some.inj (hg.symm.trans hg')
  obtain rfl := Option.some.inj (hty.symm.trans ht')
  unfold Lib.TabIs
  rw [hvar, ← Lib.cells_of_tab ht he hce hct hd]
def strconv_FormatUint_74.f (a0 a1 : Int) : Option ByteArray := if 0 ≤ a0 ∧ a0 < 18446744073709551616 ∧ a1 = 10 then some ⟨(Lib.decDigits a0.toNat).toArray⟩ else none
theorem below_grow_ (w : World) (k : Nat) (os : Array Obj) : Below w.heap.size w (Sort.grow (w.drewN k) os) := by
  have h := pw_below_drewN (Below.refl w.heap.size w) k
  exact ⟨h.os, h.tape, h.output, by show w.heap.size ≤ (w.heap ++ os).size; simp, fun g hg => Lib.heap_grow_old w k os g hg⟩
set_option maxHeartbeats 1600000 in
set_option maxRecDepth 100000 in
theorem strconv_FormatUint_74.ten (u : Nat) (hu64 : u < 18446744073709551616) (w : World) (HT : TabsW w) :
    Calls Tryd.prog 74 #[.int .u64 u, .int .i64 10] w fun e w' => e = .returned (.string ⟨(Lib.decDigits u).toArray⟩) ∧ Below w.heap.size w w' := by
  have htab : Lib.TabIs Tryd.prog w "internal/strconv.uint64pow10" .u64 Lib.pow10Tab := HT
  by_cases hs : u < 100
  · have HTB := Lib.hid htab
    clear htab HT
    go_enter Tryd.func74, Tryd.ntmps74
    go_wp2_with (go_at_call 88; refine (Tryd.internal_strconv_small u hs _).mono ?_; rintro e w' ⟨rfl, rfl⟩)
    go_ret
    exact ⟨rfl, Below.refl _ _⟩
  · have hu1 : 1 ≤ u := by omega
    have hnd20 : Lib.nDigits u ≤ 20 := by have := Lib.numDigits_eq u hu1 hu64; split at this <;> omega
    have hb3 : Lib.nDigits u ≤ 24 := by omega
    have hal : Tryd.prog.arrayLen 107 = 24 := by kernel_rfl
    have hsl1 : ∀ W, (Instr.sliceAt 107 (.pointer (some ⟨w.heap.size, 0, none⟩)) none (some (.int .i64 (Lib.nDigits u : Int))) none).run Tryd.prog W = .ok (.slice (some ⟨w.heap.size, 0, none⟩) (Lib.nDigits u) 24) W := fun W => by
      rw [run_sliceAt_array_h W 107 ⟨w.heap.size, 0, none⟩ (by kernel_rfl) .i64 (Lib.nDigits u : Int) (by omega) (by rw [hal]; omega)]
      go_simp
    have hH0 := Lib.holds_zero0 w 107 (Lib.nDigits u) (by omega)
    have hfmt := Tryd.internal_strconv_formatBase10 w.heap.size 0 24 u (Array.replicate (Lib.nDigits u) 0) (w.alloc (.cells Lib.zeros24 107)) hH0 (by rw [Array.size_replicate]; exact Lib.lt_pow_nDigits u) hu64 (by rw [Array.size_replicate]; omega)
    rw [Array.size_replicate] at hfmt
    have HH0 := Lib.hid hH0
    have HF0 := Lib.hid hfmt
    have HTB := Lib.hid htab
    clear hH0 hal htab HT hfmt
    go_enter Tryd.func74, Tryd.ntmps74
    go_wp2_with (first | (go_at_call 89; refine (Tryd.internal_strconv_numDigits u hu1 hu64 _ (Lib.tabIs_alloc HTB.out _)).mono ?_; rintro e w' ⟨rfl, rfl⟩))
    refine HF0.out.mono ?_
    rintro e w' ⟨rfl, k, v', dk, rfl, hF⟩
    have hcv : (convert 83 9 (.slice (some ⟨w.heap.size, 0, none⟩) (Lib.nDigits u) 24)).run Tryd.prog ((Sort.putRow (fun (b : UInt8) => Value.int .u8 (b.toNat : Int)) (w.alloc (.cells Lib.zeros24 107)) w.heap.size 0 dk).drewN k) = .ok (.string ⟨(Lib.decDigits u).toArray⟩) ((Sort.putRow (fun (b : UInt8) => Value.int .u8 (b.toNat : Int)) (w.alloc (.cells Lib.zeros24 107)) w.heap.size 0 dk).drewN k) := by
      have h := run_convert_bytes_back (P := Tryd.prog) ((Sort.putRow (fun (b : UInt8) => Value.int .u8 (b.toNat : Int)) (w.alloc (.cells Lib.zeros24 107)) w.heap.size 0 dk).drewN k) 83 9 5 ⟨w.heap.size, 0, none⟩ 24 (Lib.decDigits u) Tryd.underlying83 Tryd.underlying5 Tryd.underlying9 (fun j hj => by
        rw [Lib.row_is_numeral hF j hj, Lib.add_plain, World.cell?_drewN]
        exact Sort.cell?_putRow (fun (b : UInt8) => Value.int .u8 (b.toNat : Int)) _ w.heap.size 0 _ dk HH0.out (by rw [hF.size, Array.size_replicate]) j (by rw [hF.size]; rw [Lib.decDigits_length] at hj; exact hj))
      rw [Lib.decDigits_length] at h
      exact h
    have hbel := Lib.hid (show Below w.heap.size w ((Sort.putRow (fun (b : UInt8) => Value.int .u8 (b.toNat : Int)) (w.alloc (.cells Lib.zeros24 107)) w.heap.size 0 dk).drewN k) by
      obtain ⟨os, eo⟩ := Lib.fin_at w (.cells Lib.zeros24 107) dk k 0
      rw [eo]
      exact below_grow_ w k os)
    go_wp2
    go_ret
    exact ⟨rfl, hbel.out⟩
theorem strconv_FormatUint_74.calls (a0 a1 : Int) (r : ByteArray) (w : World) (h : strconv_FormatUint_74.f a0 a1 = some r) (HT : TabsW w) :
    Calls Tryd.prog 74 #[.int .u64 a0, .int .i64 a1] w fun e w' => e = .returned (.string r) ∧ Below w.heap.size w w' := by
  unfold strconv_FormatUint_74.f at h
  split at h
  · rename_i hc
    obtain ⟨c0, c1, rfl⟩ := hc
    injection h with h
    subst h
    obtain ⟨u, rfl⟩ : ∃ u : Nat, a0 = u := ⟨a0.toNat, by omega⟩
    exact strconv_FormatUint_74.ten u (by omega) w HT
  · cases h

end Go.Proofs.YtlhijjfbcgconaaDoor.P

