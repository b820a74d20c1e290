-- WRITTEN by xprint.py (a program of this session, over the kit's print) out of the translation. Not trusted: Lean checks it.
import Derived.Test.YtjpibaehpmkdmaaDoorPx0
namespace Go.Proofs.YtjpibaehpmkdmaaDoor.P
open Go.RowKit Go.Proofs.YtjpibaehpmkdmaaDoorW.PrintWords Go.Proofs.YtjpibaehpmkdmaaDoorW.PrintLast Go.Proofs.YtjpibaehpmkdmaaDoorW.PrintMore
attribute [local go_sem] max2_int min2_int max_two min_two max_three min_three max_four min_four run_store_float   -- for this text's walks alone
set_option linter.unusedVariables false
set_option linter.unusedSimpArgs false

/-- A state of type 115 at block g of W; what its slices lead to came in by w0. -/
def IsS115 (w0 W : World) (g : Nat) (f0 : List Int) (f1 : Int) (f2 : Int) : Prop := ∃ A0 c0, W.heap[g]? = some (.cells #[.slice A0 f0.length c0, .int .i64 f1, .int .i8 f2] 115 (0, 0)) ∧ w0.heap.size ≤ g ∧ Kd.C (Kd.int .u8) w0 A0 f0.length f0
theorem IsS115.grown {w0 W : World} {g : Nat} {f0 : List Int} {f1 : Int} {f2 : Int} {W1 : World} {row : Option Nat} (h : IsS115 w0 W g f0 f1 f2) (hw : W.grownBy W1 row) (hne : some g ≠ row) : IsS115 w0 W1 g f0 f1 f2 := by
  obtain ⟨A0, c0, hb, hg, hr0⟩ := h
  exact ⟨A0, c0, blk_grown hb hw hne, hg, hr0⟩
theorem IsS115.own_neN {w0 W : World} {g : Nat} {f0 : List Int} {f1 : Int} {f2 : Int} {α : Type} {d : Kd α} {e : Nat} {base : Nat} {ok : Nat → Prop} {v : Value} {xs : List α} (h : IsS115 w0 W g f0 f1 f2) (ho : Kd.N d e W base ok v xs) (ht : e ≠ 115) : some g ≠ v.ownBlock := by
  obtain ⟨A0, c0, hb, hg, hr0⟩ := h
  exact Kd.N_ne ho hb ht
theorem IsS115.fresh {w0 W : World} {g : Nat} {f0 : List Int} {f1 : Int} {f2 : Int} (h : IsS115 w0 W g f0 f1 f2) : ∀ k, W.heap.size ≤ k → k ≠ g := by
  obtain ⟨A0, c0, hb, hg, hr0⟩ := h
  exact Kd.freshB hb
theorem IsS115.kept {w0 W : World} {g : Nat} {f0 : List Int} {f1 : Int} {f2 : Int} {W1 : World} {S : Nat → Prop} (h : IsS115 w0 W g f0 f1 f2) (hk : Kept W W1 S) (hne : ¬ S g) : IsS115 w0 W1 g f0 f1 f2 := by
  obtain ⟨A0, c0, hb, hg, hr0⟩ := h
  exact ⟨A0, c0, blk_kept hb hk hne, hg, hr0⟩
theorem IsS115.below {w0 W : World} {g : Nat} {f0 : List Int} {f1 : Int} {f2 : Int} {W1 : World} (h : IsS115 w0 W g f0 f1 f2) (hw : Below W.heap.size W W1) : IsS115 w0 W1 g f0 f1 f2 := h.grown (grown_of_below hw none) (by simp)
theorem IsS115.alloc {w0 W : World} {g : Nat} {f0 : List Int} {f1 : Int} {f2 : Int} (h : IsS115 w0 W g f0 f1 f2) (o : Obj) : IsS115 w0 (W.alloc o) g f0 f1 f2 := h.below (below_alloc (Below.refl _ _) o)
theorem IsS115.drewN {w0 W : World} {g : Nat} {f0 : List Int} {f1 : Int} {f2 : Int} (h : IsS115 w0 W g f0 f1 f2) (m : Nat) : IsS115 w0 (W.drewN m) g f0 f1 f2 := h
theorem IsS115.drew {w0 W : World} {g : Nat} {f0 : List Int} {f1 : Int} {f2 : Int} (h : IsS115 w0 W g f0 f1 f2) : IsS115 w0 W.drew g f0 f1 f2 := h
theorem IsS115.at_ {w0 W : World} {g : Nat} {f0 : List Int} {f1 : Int} {f2 : Int} {w' : World} {m : Nat} (hq : W.drewN m = w') (h : IsS115 w0 W g f0 f1 f2) : IsS115 w0 w' g f0 f1 f2 := by subst hq; exact IsS115.drewN h m
theorem IsS115.apart {w0 W : World} {g : Nat} {f0 : List Int} {f1 : Int} {f2 : Int} {α : Type} {d : Kd α} {e : Nat} {base : Nat} {ok : Nat → Prop} {v : Value} {xs : List α} (h : IsS115 w0 W g f0 f1 f2) (ho : d.R e W base ok v xs) (ht : ∀ q, q ∈ e :: d.E → q ≠ 115) : d.R e W base (fun k => ok k ∧ k ≠ g) v xs := by
  obtain ⟨A0, c0, hb, hg, hr0⟩ := h
  exact Kd.R_types ho hb ht
theorem IsS115.own_ne {w0 W : World} {g : Nat} {f0 : List Int} {f1 : Int} {f2 : Int} {α : Type} {d : Kd α} {e : Nat} {base : Nat} {ok : Nat → Prop} {v : Value} {xs : List α} (h : IsS115 w0 W g f0 f1 f2) (ho : d.R e W base ok v xs) (ht : e ≠ 115) : some g ≠ v.ownBlock := by
  obtain ⟨A0, c0, hb, hg, hr0⟩ := h
  exact Kd.R_ne ho hb ht
theorem IsS115.apartQ {w0 W : World} {g : Nat} {f0 : List Int} {f1 : Int} {f2 : Int} {α : Type} {d : Kd α} {e : Nat} {base : Nat} {ok : Nat → Prop} {v : Value} {xs : List α} (h : IsS115 w0 W g f0 f1 f2) (ho : d.Q e W base ok v xs) (ht : ∀ q, q ∈ e :: d.E → q ≠ 115) : d.Q e W base (fun k => ok k ∧ k ≠ g) v xs := by
  obtain ⟨A0, c0, hb, hg, hr0⟩ := h
  exact Kd.Q_types ho hb ht
theorem IsS115.own_neQ {w0 W : World} {g : Nat} {f0 : List Int} {f1 : Int} {f2 : Int} {α : Type} {d : Kd α} {e : Nat} {base : Nat} {ok : Nat → Prop} {v : Value} {xs : List α} (h : IsS115 w0 W g f0 f1 f2) (ho : d.Q e W base ok v xs) (ht : e ≠ 115) : some g ≠ v.ownBlock := by
  obtain ⟨A0, c0, hb, hg, hr0⟩ := h
  exact Kd.Q_ne ho hb ht
theorem IsS115.apartS {w0 W : World} {g : Nat} {f0 : List Int} {f1 : Int} {f2 : Int} {α : Type} {d : Kd α} {e : Nat} {base : Nat} {ok : Nat → Prop} {v : Value} {xs : List α} (h : IsS115 w0 W g f0 f1 f2) (ho : d.S e W base ok v xs) (ht : ∀ q, q ∈ e :: d.E → q ≠ 115) : d.S e W base (fun k => ok k ∧ k ≠ g) v xs := by
  obtain ⟨A0, c0, hb, hg, hr0⟩ := h
  exact Kd.S_types ho hb ht
theorem IsS115.own_neS {w0 W : World} {g : Nat} {f0 : List Int} {f1 : Int} {f2 : Int} {α : Type} {d : Kd α} {e : Nat} {base : Nat} {ok : Nat → Prop} {v : Value} {xs : List α} (h : IsS115 w0 W g f0 f1 f2) (ho : d.S e W base ok v xs) (ht : e ≠ 115) : some g ≠ v.ownBlock := by
  obtain ⟨A0, c0, hb, hg, hr0⟩ := h
  exact Kd.S_ne ho hb ht
theorem IsS115.lt {w0 W : World} {g : Nat} {f0 : List Int} {f1 : Int} {f2 : Int} (h : IsS115 w0 W g f0 f1 f2) : g < W.heap.size := by
  obtain ⟨A0, c0, hb, hg, hr0⟩ := h
  exact blk_lt hb
theorem IsS115.ge {w0 W : World} {g : Nat} {f0 : List Int} {f1 : Int} {f2 : Int} (h : IsS115 w0 W g f0 f1 f2) : w0.heap.size ≤ g := by
  obtain ⟨A0, c0, hb, hg, hr0⟩ := h
  exact hg
theorem IsS115.ne_blk {w0 W : World} {g : Nat} {f0 : List Int} {f1 : Int} {f2 : Int} {a : Nat} {cs : Array Value} {t : TypeId} {fr : Nat × Nat} (h : IsS115 w0 W g f0 f1 f2) (hb2 : W.heap[a]? = some (.cells cs t fr)) (ht : t ≠ 115) : g ≠ a := by
  obtain ⟨A0, c0, hb, hg, hr0⟩ := h
  rintro rfl
  rw [hb] at hb2
  injection hb2 with hb2
  injection hb2 with _ ht2
  exact ht ht2.symm
theorem IsS115.far {w0 W : World} {g : Nat} {f0 : List Int} {f1 : Int} {f2 : Int} {p : Addr} (h : IsS115 w0 W g f0 f1 f2) (hne : g ≠ p.block) (u : Value) : IsS115 w0 (W.setCell p u) g f0 f1 f2 := by
  obtain ⟨A0, c0, hb, hg, hr0⟩ := h
  exact ⟨A0, c0, blk_far hb hne u, hg, hr0⟩
theorem cellS115_0 {W : World} {g : Nat} {A0 : Option Addr} {c0 : Nat} {f0 : List Int} {f1 : Int} {f2 : Int} (h : W.heap[g]? = some (.cells #[.slice A0 f0.length c0, .int .i64 f1, .int .i8 f2] 115 (0, 0))) : W.cell? ⟨g, 0, none⟩ = some (.slice A0 f0.length c0) := (blk_cell h 0).trans rfl
theorem cellS115_1 {W : World} {g : Nat} {A0 : Option Addr} {c0 : Nat} {f0 : List Int} {f1 : Int} {f2 : Int} (h : W.heap[g]? = some (.cells #[.slice A0 f0.length c0, .int .i64 f1, .int .i8 f2] 115 (0, 0))) : W.cell? ⟨g, 1, none⟩ = some (.int .i64 f1) := (blk_cell h 1).trans rfl
theorem IsS115.set_1 {w0 W : World} {g : Nat} {f0 : List Int} {f1 : Int} {f2 : Int} (h : IsS115 w0 W g f0 f1 f2) (x : Int) : IsS115 w0 (W.setCell ⟨g, 1, none⟩ (.int .i64 x)) g f0 x f2 := by
  obtain ⟨A0, c0, hb, hg, hr0⟩ := h
  exact ⟨A0, c0, by simpa using blk_set hb 1 (.int .i64 x), hg, hr0⟩
theorem cellS115_2 {W : World} {g : Nat} {A0 : Option Addr} {c0 : Nat} {f0 : List Int} {f1 : Int} {f2 : Int} (h : W.heap[g]? = some (.cells #[.slice A0 f0.length c0, .int .i64 f1, .int .i8 f2] 115 (0, 0))) : W.cell? ⟨g, 2, none⟩ = some (.int .i8 f2) := (blk_cell h 2).trans rfl
theorem IsS115.set_2 {w0 W : World} {g : Nat} {f0 : List Int} {f1 : Int} {f2 : Int} (h : IsS115 w0 W g f0 f1 f2) (x : Int) : IsS115 w0 (W.setCell ⟨g, 2, none⟩ (.int .i8 x)) g f0 f1 x := by
  obtain ⟨A0, c0, hb, hg, hr0⟩ := h
  exact ⟨A0, c0, by simpa using blk_set hb 2 (.int .i8 x), hg, hr0⟩
theorem IsS115.new (w0 W : World) (A0 : Option Addr) (c0 : Nat) (f0 : List Int) (f1 : Int) (f2 : Int) (hB : Below w0.heap.size w0 W) (hr0 : Kd.C (Kd.int .u8) w0 A0 f0.length f0) : IsS115 w0 (W.alloc (.cells #[.slice A0 f0.length c0, .int .i64 f1, .int .i8 f2] 115)) W.heap.size f0 f1 f2 := ⟨A0, c0, by simpa using heap_alloc_new W _, hB.size, hr0⟩

/-! ### bytes_Buffer_Len: function 124 -/
def bytes_Buffer_Len.f (s0_0 : List Int) (s0_1 : Int) (s0_2 : Int) : Option (Int × Int × Int) := some (wrap64 ((s0_0.length : Int) - s0_1), s0_1, s0_2)
set_option maxHeartbeats 8000000 in
set_option maxRecDepth 100000 in
theorem bytes_Buffer_Len.calls (g : Nat) (s0_0 : List Int) (s0_1 : Int) (s0_2 : Int) (r1 : Int) (r2 : Int) (r3 : Int) (w0 w : World) (hI : IsS115 w0 w g s0_0 s0_1 s0_2) (hB : Below w0.heap.size w0 w) (h : bytes_Buffer_Len.f s0_0 s0_1 s0_2 = some (r1, r2, r3)) :
    Calls Tryd.prog 124 #[.pointer (some ⟨g, 0, none⟩)] w fun e w' => e = .returned (.int .i64 r1) ∧ IsS115 w0 w' g s0_0 r2 r3 ∧ Below w0.heap.size w0 w' ∧ KeepBut w w' g none := by
  have HI0 := Aside0.mk hI
  have HK := Aside0.mk (KeepBut.refl w g none)
  have HL := Aside0.mk hB.size
  clear hI
  have HW0 := Aside0.mk hB.size
  have HB := Aside0.mk hB
  clear hB
  have H : (some (wrap64 ((s0_0.length : Int) - s0_1), s0_1, s0_2)) = some (r1, r2, r3) := h
  clear h
  as_aux_lemma =>
    simp only [Option.some.injEq, Prod.mk.injEq] at H
    obtain ⟨rfl, rfl, rfl⟩ := H
    obtain ⟨ASz2_0, cSz2_0, HGz2, hgz2, HSz2_0⟩ := HI0.out
    have hcz2_0 := cellS115_0 HGz2
    have hcz2_1 := cellS115_1 HGz2
    have hcz2_2 := cellS115_2 HGz2
    have hfz2_1 := blk_frozen HGz2 1
    have hfz2_2 := blk_frozen HGz2 2
    clear HGz2 hgz2
    go_enter Tryd.func124, Tryd.ntmps124
    go_wp2
    repeat (go_quiet (fail); try go_wp2)
    go_ret
    exact ⟨by first | rfl | (simp [errW_none, errW_some] <;> rfl) | (simp [*, errW_none, errW_some] <;> rfl), by repeat (first | (with_reducible first | exact HI0.out | apply IsS115.alloc | apply IsS115.drewN | apply IsS115.drew | apply IsS115.set_1 | apply IsS115.set_2) | exact HI0.out), by repeat (first | (with_reducible first | exact HB.out | apply below_alloc | apply pw_below_drewN | apply below_drew1 | refine below_set ?_ (IsS115.ge HI0.out)) | exact HB.out), by repeat (first | (with_reducible first | exact HK.out | apply KeepBut.set_ | apply keep_drewN | apply keep_drew | apply keep_alloc) | exact HK.out)⟩

-- NOT PRINTED: function 125 (bytes_Buffer_Reset)

-- NOT PRINTED: function 126 (bytes_growSlice)

-- NOT PRINTED: function 115 (bytes_Buffer_grow)

-- NOT PRINTED: function 96 (bytes_Buffer_WriteString)

-- NOT PRINTED: function 97 (goutils_zzIndexRune)

-- NOT PRINTED: function 98 (bytes_Buffer_String)

-- NOT PRINTED: function 78 (goutils_WrapCustom)

-- NOT PRINTED: function 77 (goutils_Wrap)

-- NOT PRINTED: function 57 (sprig_wrap)

-- NOT PRINTED: function 39 (sprig_Wrap)

-- NOT PRINTED: function 15 (impl_Wrap)

/-! ### spec_lastBlank: function 40 -/
def spec_lastBlank.l0 : Nat → ByteArray → Int → Int → Option (Int)
  | 0, _, _, _ => none
  | k + 1, x0, x1, x7 => if x7 ≥ x1 then (if 0 ≤ x7 then (if x7 < (x0.size : Int) then (if (bt x0 x7) = 32 then (some x7) else (spec_lastBlank.l0 k x0 x1 (wrap64 (x7 - 1)))) else (none)) else (none)) else (some (-1))
def spec_lastBlank.f (k : Nat) (a0 : ByteArray) (a1 : Int) (a2 : Int) : Option (Int) := spec_lastBlank.l0 k a0 a1 (wrap64 ((mn a2 (a0.size : Int)) - 1))
theorem spec_lastBlank.mono_l : ∀ k, (∀ y0 y1 y2, LeO (spec_lastBlank.l0 k y0 y1 y2) (spec_lastBlank.l0 (k + 1) y0 y1 y2))
  | 0 => fun _ _ _ r h => by simp [spec_lastBlank.l0] at h
  | k + 1 => by
    have ih0 := spec_lastBlank.mono_l k
    · intro y0 y1 y2
      unfold spec_lastBlank.l0
      repeat' first
      | (with_reducible exact ih0 _ _ _)
      | (with_reducible exact LeO.refl _)
      | (with_reducible exact LeO.none _)
      | (with_reducible refine LeO.ite ?_ ?_)
      | (with_reducible refine LeO.bind ?_ (fun _ => ?_))
      | exact ih0 _ _ _
      | exact LeO.none _
      | refine LeO.ite ?_ ?_
      | refine LeO.bind ?_ (fun _ => ?_)
theorem spec_lastBlank.mono : ∀ a0 a1 a2 k, LeO (spec_lastBlank.f k a0 a1 a2) (spec_lastBlank.f (k + 1) a0 a1 a2) := by
  intro a0 a1 a2 k
  have ih0 := spec_lastBlank.mono_l k
  unfold spec_lastBlank.f
  repeat' first
      | (with_reducible exact ih0 _ _ _)
      | (with_reducible exact LeO.refl _)
      | (with_reducible exact LeO.none _)
      | (with_reducible refine LeO.ite ?_ ?_)
      | (with_reducible refine LeO.bind ?_ (fun _ => ?_))
      | exact ih0 _ _ _
      | exact LeO.none _
      | refine LeO.ite ?_ ?_
      | refine LeO.bind ?_ (fun _ => ?_)
set_option maxHeartbeats 8000000 in
set_option maxRecDepth 100000 in
theorem spec_lastBlank.calls (k : Nat) (a0 : ByteArray) (a1 : Int) (a2 : Int) (r : Int) (w : World) (h : spec_lastBlank.f k a0 a1 a2 = some r) :
    Calls Tryd.prog 40 #[.string a0, .int .i64 a1, .int .i64 a2] w fun e w' => e = .returned (.int .i64 r) ∧ Below w.heap.size w w' := by
  have HB := Aside0.mk (Below.refl w.heap.size w)
  have H : (spec_lastBlank.l0 k a0 a1 (wrap64 ((mn a2 (a0.size : Int)) - 1))) = some r := h
  clear h
  obtain ⟨ji4, hji4⟩ : ∃ j_ : Int, (mn a2 (a0.size : Int)) = j_ := ⟨_, rfl⟩
  replace H : (spec_lastBlank.l0 k a0 a1 (wrap64 ((ji4) - 1))) = some r := by first | (rw [hji4] at H; exact H) | (simp only [hji4] at H ⊢; exact H)
  have hji4_ : (if (a0.size : Int) < a2 then (a0.size : Int) else a2) = ji4 := hji4
  have H' := Aside0.mk H
  clear H
  go_enter Tryd.func40, Tryd.ntmps40
  go_wp2
  go_loopg [7] k (fun kq v7 w' => ∃ (x7_1 : Int), v7 = .int .i64 x7_1 ∧ Aside0 (spec_lastBlank.l0 kq a0 a1 x7_1 = some r) ∧ Aside0 (kq ≤ k) ∧ Aside0 (Below w.heap.size w w'))
  case atStart => exact ⟨(wrap64 ((ji4) - 1)), (by first | rfl | (simp only [bytesLe_not]; done) | (simp; done) | (simp only [← hji4] <;> (first | rfl | simp)) | (simp [*]; done)), H', ⟨Nat.le_refl _⟩, ⟨by repeat (first | (with_reducible first | exact HB.out | apply below_alloc | apply pw_below_drewN | apply below_drew1) | exact HB.out)⟩⟩
  case round =>
    clear H'
    try clear p2
    try clear c4
    obtain ⟨x7_1, rfl, HA, HK1, HB⟩ := hrel
    cases gk with
    | zero => exact absurd HA.out (by simp [spec_lastBlank.l0])
    | succ k1 =>
      have H := HA.out
      clear HA
      simp only [spec_lastBlank.l0] at H
      by_cases c5 : x7_1 ≥ a1
      · rw [if_pos c5] at H
        have c5b0 : decide (a1 ≤ x7_1) = true := decide_eq_true c5
        clear c5
        by_cases c6 : 0 ≤ x7_1
        · rw [if_pos c6] at H
          have c6b0 : decide (0 ≤ x7_1) = true := decide_eq_true c6
          clear c6
          by_cases c7 : x7_1 < (a0.size : Int)
          · rw [if_pos c7] at H
            have c7b0 : decide (x7_1 < (a0.size : Int)) = true := decide_eq_true c7
            clear c7
            by_cases c9 : (bt a0 x7_1) = 32
            · rw [if_pos c9] at H
              have c9b0 : ((bt a0 x7_1) == 32) = true := beq_iff_eq.mpr c9
              have c9b1 : ((bt a0 x7_1) != 32) = false := bne_eq_false_iff_eq.mpr c9
              clear c9
              as_aux_lemma =>
                obtain rfl := Option.some.inj H
                have p8 : 0 ≤ (x7_1 : Int) := of_decide_eq_true (by first | (with_reducible assumption) | assumption)
                have q8 : x7_1 < (a0.size : Int) := of_decide_eq_true (by first | (with_reducible assumption) | assumption)
                have hx8 := bt_at a0 x7_1
                replace p8 := eq_true p8
                replace q8 := eq_true q8
                go_wp2
                go_ret
                exact ⟨by first | rfl | (simp [errW_none, errW_some] <;> rfl) | (simp only [← hji4]; first | rfl | (simp [errW_none, errW_some] <;> rfl)) | (simp [*, errW_none, errW_some] <;> rfl), by repeat (first | (with_reducible first | exact HB.out | apply below_alloc | apply pw_below_drewN | apply below_drew1) | exact HB.out)⟩
            · rw [if_neg c9] at H
              have c9b0 : ((bt a0 x7_1) == 32) = false := beq_eq_false_iff_ne.mpr c9
              have c9b1 : ((bt a0 x7_1) != 32) = true := bne_iff_ne.mpr c9
              as_aux_lemma =>
                have H' := Aside0.mk H
                clear H
                have p8 : 0 ≤ (x7_1 : Int) := of_decide_eq_true (by first | (with_reducible assumption) | assumption)
                have q8 : x7_1 < (a0.size : Int) := of_decide_eq_true (by first | (with_reducible assumption) | assumption)
                have hx8 := bt_at a0 x7_1
                replace p8 := eq_true p8
                replace q8 := eq_true q8
                go_wp2
                go_roundg k1
                case measure => have := HK1.out; omega
                case rel => exact ⟨(wrap64 (x7_1 - 1)), (by first | rfl | (simp only [bytesLe_not]; done) | (simp; done) | (simp [*]; done)), H', ⟨by have := HK1.out; omega⟩, ⟨by repeat (first | (with_reducible first | exact HB.out | apply below_alloc | apply pw_below_drewN | apply below_drew1) | exact HB.out)⟩⟩
          · rw [if_neg c7] at H
            exact absurd H (by simp)
        · rw [if_neg c6] at H
          exact absurd H (by simp)
      · rw [if_neg c5] at H
        have c5b0 : decide (a1 ≤ x7_1) = false := decide_eq_false c5
        clear c5
        as_aux_lemma =>
          obtain rfl := Option.some.inj H
          go_wp2
          go_ret
          exact ⟨by first | rfl | (simp [errW_none, errW_some] <;> rfl) | (simp only [← hji4]; first | rfl | (simp [errW_none, errW_some] <;> rfl)) | (simp [*, errW_none, errW_some] <;> rfl), by repeat (first | (with_reducible first | exact HB.out | apply below_alloc | apply pw_below_drewN | apply below_drew1) | exact HB.out)⟩

/-! ### spec_nextBlank: function 41 -/
def spec_nextBlank.l0 : Nat → ByteArray → Int → Option (Int)
  | 0, _, _ => none
  | k + 1, x0, x5 => if x5 < (x0.size : Int) then (if 0 ≤ x5 then (if (bt x0 x5) = 32 then (some x5) else (spec_nextBlank.l0 k x0 (wrap64 (x5 + 1)))) else (none)) else (some (-1))
def spec_nextBlank.f (k : Nat) (a0 : ByteArray) (a1 : Int) : Option (Int) := spec_nextBlank.l0 k a0 a1
theorem spec_nextBlank.mono_l : ∀ k, (∀ y0 y1, LeO (spec_nextBlank.l0 k y0 y1) (spec_nextBlank.l0 (k + 1) y0 y1))
  | 0 => fun _ _ r h => by simp [spec_nextBlank.l0] at h
  | k + 1 => by
    have ih0 := spec_nextBlank.mono_l k
    · intro y0 y1
      unfold spec_nextBlank.l0
      repeat' first
      | (with_reducible exact ih0 _ _)
      | (with_reducible exact LeO.refl _)
      | (with_reducible exact LeO.none _)
      | (with_reducible refine LeO.ite ?_ ?_)
      | (with_reducible refine LeO.bind ?_ (fun _ => ?_))
      | exact ih0 _ _
      | exact LeO.none _
      | refine LeO.ite ?_ ?_
      | refine LeO.bind ?_ (fun _ => ?_)
theorem spec_nextBlank.mono : ∀ a0 a1 k, LeO (spec_nextBlank.f k a0 a1) (spec_nextBlank.f (k + 1) a0 a1) := by
  intro a0 a1 k
  have ih0 := spec_nextBlank.mono_l k
  unfold spec_nextBlank.f
  repeat' first
      | (with_reducible exact ih0 _ _)
      | (with_reducible exact LeO.refl _)
      | (with_reducible exact LeO.none _)
      | (with_reducible refine LeO.ite ?_ ?_)
      | (with_reducible refine LeO.bind ?_ (fun _ => ?_))
      | exact ih0 _ _
      | exact LeO.none _
      | refine LeO.ite ?_ ?_
      | refine LeO.bind ?_ (fun _ => ?_)
set_option maxHeartbeats 8000000 in
set_option maxRecDepth 100000 in
theorem spec_nextBlank.calls (k : Nat) (a0 : ByteArray) (a1 : Int) (r : Int) (w : World) (h : spec_nextBlank.f k a0 a1 = some r) :
    Calls Tryd.prog 41 #[.string a0, .int .i64 a1] w fun e w' => e = .returned (.int .i64 r) ∧ Drawn0 w w' := by
  have H : (spec_nextBlank.l0 k a0 a1) = some r := h
  clear h
  have H' := Aside0.mk H
  clear H
  go_enter Tryd.func41, Tryd.ntmps41
  go_wp2
  go_loopg [5] k (fun kq v5 w' => ∃ (x5_1 : Int), v5 = .int .i64 x5_1 ∧ Aside0 (spec_nextBlank.l0 kq a0 x5_1 = some r) ∧ Aside0 (kq ≤ k) ∧ Drawn0 w w')
  case atStart => exact ⟨(a1), (by first | rfl | (simp only [bytesLe_not]; done) | (simp; done) | (simp [*]; done)), H', ⟨Nat.le_refl _⟩, by repeat (first | exact Drawn0.refl _ | apply Drawn0.step)⟩
  case round =>
    clear H'
    try clear p2
    obtain ⟨x5_1, rfl, HA, HK1, ⟨m1, rfl⟩⟩ := hrel
    cases gk with
    | zero => exact absurd HA.out (by simp [spec_nextBlank.l0])
    | succ k1 =>
      have H := HA.out
      clear HA
      simp only [spec_nextBlank.l0] at H
      by_cases c3 : x5_1 < (a0.size : Int)
      · rw [if_pos c3] at H
        have c3b0 : decide (x5_1 < (a0.size : Int)) = true := decide_eq_true c3
        clear c3
        by_cases c4 : 0 ≤ x5_1
        · rw [if_pos c4] at H
          have c4b0 : decide (0 ≤ x5_1) = true := decide_eq_true c4
          clear c4
          by_cases c6 : (bt a0 x5_1) = 32
          · rw [if_pos c6] at H
            have c6b0 : ((bt a0 x5_1) == 32) = true := beq_iff_eq.mpr c6
            have c6b1 : ((bt a0 x5_1) != 32) = false := bne_eq_false_iff_eq.mpr c6
            clear c6
            as_aux_lemma =>
              obtain rfl := Option.some.inj H
              have p5 : 0 ≤ (x5_1 : Int) := of_decide_eq_true (by first | (with_reducible assumption) | assumption)
              have q5 : x5_1 < (a0.size : Int) := of_decide_eq_true (by first | (with_reducible assumption) | assumption)
              have hx5 := bt_at a0 x5_1
              replace p5 := eq_true p5
              replace q5 := eq_true q5
              go_wp2
              go_ret
              exact ⟨by first | rfl | (simp only [bytesLe_not]; done) | (simp; done) | (simp [*]; done), by repeat (first | exact Drawn0.refl _ | apply Drawn0.step)⟩
          · rw [if_neg c6] at H
            have c6b0 : ((bt a0 x5_1) == 32) = false := beq_eq_false_iff_ne.mpr c6
            have c6b1 : ((bt a0 x5_1) != 32) = true := bne_iff_ne.mpr c6
            as_aux_lemma =>
              have H' := Aside0.mk H
              clear H
              have p5 : 0 ≤ (x5_1 : Int) := of_decide_eq_true (by first | (with_reducible assumption) | assumption)
              have q5 : x5_1 < (a0.size : Int) := of_decide_eq_true (by first | (with_reducible assumption) | assumption)
              have hx5 := bt_at a0 x5_1
              replace p5 := eq_true p5
              replace q5 := eq_true q5
              go_wp2
              go_roundg k1
              case measure => have := HK1.out; omega
              case rel => exact ⟨(wrap64 (x5_1 + 1)), (by first | rfl | (simp only [bytesLe_not]; done) | (simp; done) | (simp [*]; done)), H', ⟨by have := HK1.out; omega⟩, by repeat (first | exact Drawn0.refl _ | apply Drawn0.step)⟩
        · rw [if_neg c4] at H
          exact absurd H (by simp)
      · rw [if_neg c3] at H
        have c3b0 : decide (x5_1 < (a0.size : Int)) = false := decide_eq_false c3
        clear c3
        as_aux_lemma =>
          obtain rfl := Option.some.inj H
          go_wp2
          go_ret
          exact ⟨by first | rfl | (simp only [bytesLe_not]; done) | (simp; done) | (simp [*]; done), by repeat (first | exact Drawn0.refl _ | apply Drawn0.step)⟩

/-! ### spec_Wrapped: function 16 -/
mutual
def spec_Wrapped.j0 : Nat → ByteArray → Int → ByteArray → Bool → Option (ByteArray)
  | 0, _, _, _, _ => none
  | k + 1, x0, x1, x2, x3 => spec_Wrapped.l0 k x0 x1 x2 x3 (⟨#[]⟩ : ByteArray)
def spec_Wrapped.l0 : Nat → ByteArray → Int → ByteArray → Bool → ByteArray → Option (ByteArray)
  | 0, _, _, _, _, _ => none
  | k + 1, x0, x1, x2, x3, x9 => if (x0.size : Int) > x1 then (if 0 < (x0.size : Int) then (if (bt x0 0) = 32 then (if 1 ≤ (x0.size : Int) then (spec_Wrapped.l0 k (x0.extract 1 x0.size) x1 x2 x3 x9) else (none)) else ((spec_lastBlank.f k x0 0 (wrap64 (x1 + 1))).bind fun t122 => (if t122 ≥ 0 then (if 0 ≤ t122 then (if t122 ≤ (x0.size : Int) then (if x9.size + (x0.extract 0 (t122 : Int).toNat).size ≤ 9223372036854775807 then (if (x9 ++ (x0.extract 0 (t122 : Int).toNat)).size + x2.size ≤ 9223372036854775807 then (if 0 ≤ (wrap64 (t122 + 1)) then (if (wrap64 (t122 + 1)) ≤ (x0.size : Int) then (spec_Wrapped.l0 k (x0.extract ((wrap64 (t122 + 1)) : Int).toNat x0.size) x1 x2 x3 ((x9 ++ (x0.extract 0 (t122 : Int).toNat)) ++ x2)) else (none)) else (none)) else (none)) else (none)) else (none)) else (none)) else (if x3 = true then (if 0 ≤ x1 then (if x1 ≤ (x0.size : Int) then (if x9.size + (x0.extract 0 (x1 : Int).toNat).size ≤ 9223372036854775807 then (if (x9 ++ (x0.extract 0 (x1 : Int).toNat)).size + x2.size ≤ 9223372036854775807 then (spec_Wrapped.l0 k (x0.extract (x1 : Int).toNat x0.size) x1 x2 x3 ((x9 ++ (x0.extract 0 (x1 : Int).toNat)) ++ x2)) else (none)) else (none)) else (none)) else (none)) else ((spec_nextBlank.f k x0 x1).bind fun t123 => (if t123 < 0 then (if x9.size + x0.size ≤ 9223372036854775807 then (some (x9 ++ x0)) else (none)) else (if 0 ≤ t123 then (if t123 ≤ (x0.size : Int) then (if x9.size + (x0.extract 0 (t123 : Int).toNat).size ≤ 9223372036854775807 then (if (x9 ++ (x0.extract 0 (t123 : Int).toNat)).size + x2.size ≤ 9223372036854775807 then (if 0 ≤ (wrap64 (t123 + 1)) then (if (wrap64 (t123 + 1)) ≤ (x0.size : Int) then (spec_Wrapped.l0 k (x0.extract ((wrap64 (t123 + 1)) : Int).toNat x0.size) x1 x2 x3 ((x9 ++ (x0.extract 0 (t123 : Int).toNat)) ++ x2)) else (none)) else (none)) else (none)) else (none)) else (none)) else (none)))))))) else (none)) else (if x9.size + x0.size ≤ 9223372036854775807 then (some (x9 ++ x0)) else (none))
end
def spec_Wrapped.f (k : Nat) (a0 : ByteArray) (a1 : Int) (a2 : ByteArray) (a3 : Bool) : Option (ByteArray) := if a2.toList = ([] : List UInt8) then (spec_Wrapped.j0 k a0 (mx a1 1) (⟨#[10]⟩ : ByteArray) a3) else (spec_Wrapped.j0 k a0 (mx a1 1) a2 a3)
theorem spec_Wrapped.mono_l : ∀ k, (∀ y0 y1 y2 y3, LeO (spec_Wrapped.j0 k y0 y1 y2 y3) (spec_Wrapped.j0 (k + 1) y0 y1 y2 y3)) ∧ (∀ y0 y1 y2 y3 y4, LeO (spec_Wrapped.l0 k y0 y1 y2 y3 y4) (spec_Wrapped.l0 (k + 1) y0 y1 y2 y3 y4))
  | 0 => ⟨fun _ _ _ _ r h => by simp [spec_Wrapped.j0] at h, fun _ _ _ _ _ r h => by simp [spec_Wrapped.l0] at h⟩
  | k + 1 => by
    obtain ⟨ih0, ih1⟩ := spec_Wrapped.mono_l k
    refine ⟨?_, ?_⟩
    · intro y0 y1 y2 y3
      unfold spec_Wrapped.j0
      repeat' first
      | (with_reducible exact ih0 _ _ _ _)
      | (with_reducible exact ih1 _ _ _ _ _)
      | (with_reducible exact spec_lastBlank.mono _ _ _ _)
      | (with_reducible exact spec_nextBlank.mono _ _ _)
      | (with_reducible exact LeO.refl _)
      | (with_reducible exact LeO.none _)
      | (with_reducible refine LeO.ite ?_ ?_)
      | (with_reducible refine LeO.bind ?_ (fun _ => ?_))
      | exact ih0 _ _ _ _
      | exact ih1 _ _ _ _ _
      | exact spec_lastBlank.mono _ _ _ _
      | exact spec_nextBlank.mono _ _ _
      | exact LeO.none _
      | refine LeO.ite ?_ ?_
      | refine LeO.bind ?_ (fun _ => ?_)
    · intro y0 y1 y2 y3 y4
      unfold spec_Wrapped.l0
      repeat' first
      | (with_reducible exact ih0 _ _ _ _)
      | (with_reducible exact ih1 _ _ _ _ _)
      | (with_reducible exact spec_lastBlank.mono _ _ _ _)
      | (with_reducible exact spec_nextBlank.mono _ _ _)
      | (with_reducible exact LeO.refl _)
      | (with_reducible exact LeO.none _)
      | (with_reducible refine LeO.ite ?_ ?_)
      | (with_reducible refine LeO.bind ?_ (fun _ => ?_))
      | exact ih0 _ _ _ _
      | exact ih1 _ _ _ _ _
      | exact spec_lastBlank.mono _ _ _ _
      | exact spec_nextBlank.mono _ _ _
      | exact LeO.none _
      | refine LeO.ite ?_ ?_
      | refine LeO.bind ?_ (fun _ => ?_)
theorem spec_Wrapped.mono : ∀ a0 a1 a2 a3 k, LeO (spec_Wrapped.f k a0 a1 a2 a3) (spec_Wrapped.f (k + 1) a0 a1 a2 a3) := by
  intro a0 a1 a2 a3 k
  obtain ⟨ih0, ih1⟩ := spec_Wrapped.mono_l k
  unfold spec_Wrapped.f
  repeat' first
      | (with_reducible exact ih0 _ _ _ _)
      | (with_reducible exact ih1 _ _ _ _ _)
      | (with_reducible exact spec_lastBlank.mono _ _ _ _)
      | (with_reducible exact spec_nextBlank.mono _ _ _)
      | (with_reducible exact LeO.refl _)
      | (with_reducible exact LeO.none _)
      | (with_reducible refine LeO.ite ?_ ?_)
      | (with_reducible refine LeO.bind ?_ (fun _ => ?_))
      | exact ih0 _ _ _ _
      | exact ih1 _ _ _ _ _
      | exact spec_lastBlank.mono _ _ _ _
      | exact spec_nextBlank.mono _ _ _
      | exact LeO.none _
      | refine LeO.ite ?_ ?_
      | refine LeO.bind ?_ (fun _ => ?_)
set_option maxHeartbeats 8000000 in
set_option maxRecDepth 100000 in
theorem spec_Wrapped.calls (k : Nat) (a0 : ByteArray) (a1 : Int) (a2 : ByteArray) (a3 : Bool) (r : ByteArray) (w : World) (h : spec_Wrapped.f k a0 a1 a2 a3 = some r) :
    Calls Tryd.prog 16 #[.string a0, .int .i64 a1, .string a2, .bool a3] w fun e w' => e = .returned (.string r) ∧ Below w.heap.size w w' := by
  have HB := Aside0.mk (Below.refl w.heap.size w)
  have H : (if a2.toList = ([] : List UInt8) then (spec_Wrapped.j0 k a0 (mx a1 1) (⟨#[10]⟩ : ByteArray) a3) else (spec_Wrapped.j0 k a0 (mx a1 1) a2 a3)) = some r := h
  clear h
  obtain ⟨ji5, hji5⟩ : ∃ j_ : Int, (mx a1 1) = j_ := ⟨_, rfl⟩
  replace H : (if a2.toList = ([] : List UInt8) then (spec_Wrapped.j0 k a0 ji5 (⟨#[10]⟩ : ByteArray) a3) else (spec_Wrapped.j0 k a0 ji5 a2 a3)) = some r := by first | (rw [hji5] at H; exact H) | (simp only [hji5] at H ⊢; exact H)
  (try (have hji5l : 1 ≤ ji5 := by (rw [← hji5]; unfold mx; (repeat' split) <;> omega)))
  (try (have hji5m : 0 ≤ ji5 := by omega))
  have hji5_ : (if a1 < 1 then 1 else a1) = ji5 := hji5
  have HC6 := Aside0.mk H
  clear H
  go_enter Tryd.func16, Tryd.ntmps16
  go_upto_if 14 with (fail)
  repeat (go_quiet (fail); go_upto_if 14 with (fail))
  go_cut [2] (fun v2 wc => ∃ (kq : Nat) (x2_5 : ByteArray), v2 = .string x2_5 ∧ Aside0 (spec_Wrapped.j0 kq a0 ji5 x2_5 a3 = some r) ∧ Aside0 (kq ≤ k) ∧ Aside0 (Below w.heap.size w wc))
  case first =>
    have H := HC6.out
    clear HC6
    by_cases c7 : a2.toList = ([] : List UInt8)
    · rw [if_pos c7] at H
      have c7b0 : (a2.toList == ([] : List UInt8)) = true := beq_iff_eq.mpr c7
      have c7e0 : (a2.toList).isEmpty = true := by rw [c7]; rfl
      have c7b1 : (a2.toList != ([] : List UInt8)) = false := bne_eq_false_iff_eq.mpr c7
      clear c7
      (first | rw [c7e0] | rw [c7b0] | (simp only [i64_w, i32_w]; rw [c7b0]) | skip)
      as_aux_lemma =>
        have H' := Aside0.mk H
        clear H
        go_wp2
        repeat (go_quiet (fail); try go_wp2)
        go_meet
        case rel => exact ⟨_, ((⟨#[10]⟩ : ByteArray)), (by first | rfl | (simp only [bytesLe_not]; done) | (simp; done) | (simp [*]; done)), H', ⟨by first | omega | exact Nat.le_refl _⟩, ⟨by repeat (first | (with_reducible first | exact HB.out | apply below_alloc | apply pw_below_drewN | apply below_drew1) | exact HB.out)⟩⟩
    · rw [if_neg c7] at H
      have c7b0 : (a2.toList == ([] : List UInt8)) = false := beq_eq_false_iff_ne.mpr c7
      have c7e0 : (a2.toList).isEmpty = false := by cases hq_ : (a2.toList).isEmpty with | false => rfl | true => exact absurd (List.isEmpty_iff.mp hq_) c7
      have c7b1 : (a2.toList != ([] : List UInt8)) = true := bne_iff_ne.mpr c7
      (first | rw [c7e0] | rw [c7b0] | (simp only [i64_w, i32_w]; rw [c7b0]) | skip)
      as_aux_lemma =>
        have H' := Aside0.mk H
        clear H
        go_wp2
        repeat (go_quiet (fail); try go_wp2)
        go_meet
        case rel => exact ⟨_, (a2), (by first | rfl | (simp only [bytesLe_not]; done) | (simp; done) | (simp [*]; done)), H', ⟨by first | omega | exact Nat.le_refl _⟩, ⟨by repeat (first | (with_reducible first | exact HB.out | apply below_alloc | apply pw_below_drewN | apply below_drew1) | exact HB.out)⟩⟩
  case rest =>
    clear HC6
    try clear c1
    try clear p2
    try clear c7
    try clear c7b0
    try clear c7b1
    obtain ⟨kq, x2_5, rfl, HA, HJ5, HB⟩ := hcut
    cases kq with
    | zero => exact absurd HA.out (by simp [spec_Wrapped.j0])
    | succ kj5 =>
      have H := HA.out
      clear HA
      simp only [spec_Wrapped.j0] at H
      have H' := Aside0.mk H
      clear H
      go_wp2
      repeat (go_quiet (fail); try go_wp2)
      go_loopg [0, 9] kj5 (fun kq v0 v9 w' => ∃ (x0_2 : ByteArray) (x9_2 : ByteArray), v0 = .string x0_2 ∧ v9 = .string x9_2 ∧ Aside0 (spec_Wrapped.l0 kq x0_2 ji5 x2_5 a3 x9_2 = some r) ∧ Aside0 (kq ≤ kj5) ∧ Aside0 (Below w.heap.size w w'))
      case atStart => exact ⟨(a0), ((⟨#[]⟩ : ByteArray)), (by first | rfl | (simp only [bytesLe_not]; done) | (simp; done) | (simp [*]; done)), (by first | rfl | (simp only [bytesLe_not]; done) | (simp; done) | (simp [*]; done)), H', ⟨Nat.le_refl _⟩, ⟨by repeat (first | (with_reducible first | exact HB.out | apply below_alloc | apply pw_below_drewN | apply below_drew1) | exact HB.out)⟩⟩
      case round =>
        clear H'
        try clear c1
        try clear p2
        try clear c7
        try clear c7b0
        try clear c7b1
        try clear p2
        obtain ⟨x0_2, x9_2, rfl, rfl, HA, HK2, HB⟩ := hrel
        cases gk with
        | zero => exact absurd HA.out (by simp [spec_Wrapped.l0])
        | succ k2 =>
          have H := HA.out
          clear HA
          simp only [spec_Wrapped.l0] at H
          by_cases c8 : (x0_2.size : Int) > ji5
          · rw [if_pos c8] at H
            have c8b0 : decide (ji5 < (x0_2.size : Int)) = true := decide_eq_true c8
            clear c8
            by_cases c9 : 0 < (x0_2.size : Int)
            · rw [if_pos c9] at H
              have c9b0 : decide (0 < (x0_2.size : Int)) = true := decide_eq_true c9
              have c9b1 : decide (0 < x0_2.size) = true := decide_eq_true (by omega)
              clear c9
              by_cases c11 : (bt x0_2 0) = 32
              · rw [if_pos c11] at H
                have c11b0 : ((bt x0_2 0) == 32) = true := beq_iff_eq.mpr c11
                have c11b1 : ((bt x0_2 0) != 32) = false := bne_eq_false_iff_eq.mpr c11
                clear c11
                by_cases c12 : 1 ≤ (x0_2.size : Int)
                · rw [if_pos c12] at H
                  have c12b0 := eq_true c12
                  have c12b1 : decide (1 ≤ (x0_2.size : Int)) = true := decide_eq_true c12
                  clear c12
                  as_aux_lemma =>
                    have H' := Aside0.mk H
                    clear H
                    have p10 : 0 ≤ (0 : Int) := (by omega)
                    have q10 : 0 < x0_2.size := (by have : (0 : Int) < (x0_2.size : Int) := of_decide_eq_true (by first | (with_reducible assumption) | assumption); omega)
                    have hx10 : ∀ h : 0 < x0_2.size, ((x0_2[0]'h).toNat : Int) = bt x0_2 0 := bt_at x0_2 0
                    clear p10
                    have qi10 : (0 < (x0_2.size : Int)) = True := eq_true (of_decide_eq_true (by first | (with_reducible assumption) | assumption))
                    replace q10 := eq_true q10
                    go_wp2
                    repeat (go_quiet (fail); try go_wp2)
                    go_roundg k2
                    case measure => have := HJ5.out; have := HK2.out; omega
                    case rel => exact ⟨(x0_2.extract 1 x0_2.size), (x9_2), (by first | rfl | (simp only [bytesLe_not]; done) | (simp; done) | (simp [*]; done)), (by first | rfl | (simp only [bytesLe_not]; done) | (simp; done) | (simp [*]; done)), H', ⟨by have := HJ5.out; have := HK2.out; omega⟩, ⟨by repeat (first | (with_reducible first | exact HB.out | apply below_alloc | apply pw_below_drewN | apply below_drew1) | exact HB.out)⟩⟩
                · rw [if_neg c12] at H
                  exact absurd H (by simp)
              · rw [if_neg c11] at H
                have c11b0 : ((bt x0_2 0) == 32) = false := beq_eq_false_iff_ne.mpr c11
                have c11b1 : ((bt x0_2 0) != 32) = true := bne_iff_ne.mpr c11
                replace H := Option.bind_eq_some_iff.mp H
                obtain ⟨t122, A130, H⟩ := H
                replace H : (if t122 ≥ 0 then (if 0 ≤ t122 then (if t122 ≤ (x0_2.size : Int) then (if x9_2.size + (x0_2.extract 0 (t122 : Int).toNat).size ≤ 9223372036854775807 then (if (x9_2 ++ (x0_2.extract 0 (t122 : Int).toNat)).size + x2_5.size ≤ 9223372036854775807 then (if 0 ≤ (wrap64 (t122 + 1)) then (if (wrap64 (t122 + 1)) ≤ (x0_2.size : Int) then (spec_Wrapped.l0 k2 (x0_2.extract ((wrap64 (t122 + 1)) : Int).toNat x0_2.size) ji5 x2_5 a3 ((x9_2 ++ (x0_2.extract 0 (t122 : Int).toNat)) ++ x2_5)) else (none)) else (none)) else (none)) else (none)) else (none)) else (none)) else (if a3 = true then (if 0 ≤ ji5 then (if ji5 ≤ (x0_2.size : Int) then (if x9_2.size + (x0_2.extract 0 (ji5 : Int).toNat).size ≤ 9223372036854775807 then (if (x9_2 ++ (x0_2.extract 0 (ji5 : Int).toNat)).size + x2_5.size ≤ 9223372036854775807 then (spec_Wrapped.l0 k2 (x0_2.extract (ji5 : Int).toNat x0_2.size) ji5 x2_5 a3 ((x9_2 ++ (x0_2.extract 0 (ji5 : Int).toNat)) ++ x2_5)) else (none)) else (none)) else (none)) else (none)) else ((spec_nextBlank.f k2 x0_2 ji5).bind fun t123 => (if t123 < 0 then (if x9_2.size + x0_2.size ≤ 9223372036854775807 then (some (x9_2 ++ x0_2)) else (none)) else (if 0 ≤ t123 then (if t123 ≤ (x0_2.size : Int) then (if x9_2.size + (x0_2.extract 0 (t123 : Int).toNat).size ≤ 9223372036854775807 then (if (x9_2 ++ (x0_2.extract 0 (t123 : Int).toNat)).size + x2_5.size ≤ 9223372036854775807 then (if 0 ≤ (wrap64 (t123 + 1)) then (if (wrap64 (t123 + 1)) ≤ (x0_2.size : Int) then (spec_Wrapped.l0 k2 (x0_2.extract ((wrap64 (t123 + 1)) : Int).toNat x0_2.size) ji5 x2_5 a3 ((x9_2 ++ (x0_2.extract 0 (t123 : Int).toNat)) ++ x2_5)) else (none)) else (none)) else (none)) else (none)) else (none)) else (none)))))) = some r := H
                have A13 := Aside0.mk A130
                clear A130
                by_cases c14 : t122 ≥ 0
                · rw [if_pos c14] at H
                  have c14b0 : decide (0 ≤ t122) = true := decide_eq_true c14
                  clear c14
                  by_cases c15 : 0 ≤ t122
                  · rw [if_pos c15] at H
                    have c15b0 := eq_true c15
                    have c15b1 : decide (0 ≤ t122) = true := decide_eq_true c15
                    clear c15
                    by_cases c16 : t122 ≤ (x0_2.size : Int)
                    · rw [if_pos c16] at H
                      have c16b0 := eq_true c16
                      have c16b1 : decide (t122 ≤ (x0_2.size : Int)) = true := decide_eq_true c16
                      clear c16
                      by_cases c17 : x9_2.size + (x0_2.extract 0 (t122 : Int).toNat).size ≤ 9223372036854775807
                      · rw [if_pos c17] at H
                        have c17b0 := eq_true c17
                        have c17b1 : decide (x9_2.size + (x0_2.extract 0 (t122 : Int).toNat).size ≤ 9223372036854775807) = true := decide_eq_true c17
                        try have c17b2 : (9223372036854775807 < x9_2.size + (x0_2.extract 0 (t122 : Int).toNat).size) = False := eq_false (Nat.not_lt.2 c17)
                        by_cases c18 : (x9_2 ++ (x0_2.extract 0 (t122 : Int).toNat)).size + x2_5.size ≤ 9223372036854775807
                        · rw [if_pos c18] at H
                          have c18b0 := eq_true c18
                          have c18b1 : decide ((x9_2 ++ (x0_2.extract 0 (t122 : Int).toNat)).size + x2_5.size ≤ 9223372036854775807) = true := decide_eq_true c18
                          try have c18b2 : (9223372036854775807 < (x9_2 ++ (x0_2.extract 0 (t122 : Int).toNat)).size + x2_5.size) = False := eq_false (Nat.not_lt.2 c18)
                          obtain ⟨ji19, hji19⟩ : ∃ j_ : Int, (wrap64 (t122 + 1)) = j_ := ⟨_, rfl⟩
                          replace H : (if 0 ≤ (ji19) then (if (ji19) ≤ (x0_2.size : Int) then (spec_Wrapped.l0 k2 (x0_2.extract ((ji19) : Int).toNat x0_2.size) ji5 x2_5 a3 ((x9_2 ++ (x0_2.extract 0 (t122 : Int).toNat)) ++ x2_5)) else (none)) else (none)) = some r := by first | (rw [hji19] at H; exact H) | (simp only [hji19] at H ⊢; exact H)
                          (try rw [hji19] at A13)
                          have hji19w : (IntKind.i64.wrap (t122 + 1)) = ji19 := (i64_w _).trans hji19
                          by_cases c20 : 0 ≤ (ji19)
                          · rw [if_pos c20] at H
                            have c20b0 := eq_true c20
                            have c20b1 : decide (0 ≤ (ji19)) = true := decide_eq_true c20
                            clear c20
                            by_cases c21 : (ji19) ≤ (x0_2.size : Int)
                            · rw [if_pos c21] at H
                              have c21b0 := eq_true c21
                              have c21b1 : decide ((ji19) ≤ (x0_2.size : Int)) = true := decide_eq_true c21
                              clear c21
                              as_aux_lemma =>
                                have H' := Aside0.mk H
                                clear H
                                have p10 : 0 ≤ (0 : Int) := (by omega)
                                have q10 : 0 < x0_2.size := (by have : (0 : Int) < (x0_2.size : Int) := of_decide_eq_true (by first | (with_reducible assumption) | assumption); omega)
                                have hx10 : ∀ h : 0 < x0_2.size, ((x0_2[0]'h).toNat : Int) = bt x0_2 0 := bt_at x0_2 0
                                clear p10
                                have qi10 : (0 < (x0_2.size : Int)) = True := eq_true (of_decide_eq_true (by first | (with_reducible assumption) | assumption))
                                replace q10 := eq_true q10
                                go_wp2_with (first | (go_at_call 40; (with_reducible refine (spec_lastBlank.calls k2 x0_2 0 (wrap64 (ji5 + 1)) t122 _ A13.out).mono ?_); rintro e w22 ⟨rfl, hb⟩; have n0_ := Aside0.mk (below_step (by repeat (first | (with_reducible first | exact HB.out | apply below_alloc | apply pw_below_drewN | apply below_drew1) | exact HB.out)) hb); clear HB; have HB := n0_; clear n0_; (try clear hb); (try clear hb2); (try clear hk); (try clear hi)))
                                repeat (go_quiet (first | (go_at_call 40; (with_reducible refine (spec_lastBlank.calls k2 x0_2 0 (wrap64 (ji5 + 1)) t122 _ A13.out).mono ?_); rintro e w22 ⟨rfl, hb⟩; have n0_ := Aside0.mk (below_step (by repeat (first | (with_reducible first | exact HB.out | apply below_alloc | apply pw_below_drewN | apply below_drew1) | exact HB.out)) hb); clear HB; have HB := n0_; clear n0_; (try clear hb); (try clear hb2); (try clear hk); (try clear hi))); try go_wp2_with (first | (go_at_call 40; (with_reducible refine (spec_lastBlank.calls k2 x0_2 0 (wrap64 (ji5 + 1)) t122 _ A13.out).mono ?_); rintro e w22 ⟨rfl, hb⟩; have n0_ := Aside0.mk (below_step (by repeat (first | (with_reducible first | exact HB.out | apply below_alloc | apply pw_below_drewN | apply below_drew1) | exact HB.out)) hb); clear HB; have HB := n0_; clear n0_; (try clear hb); (try clear hb2); (try clear hk); (try clear hi))))
                                go_roundg k2
                                case measure => have := HJ5.out; have := HK2.out; omega
                                case rel => exact ⟨(x0_2.extract ((ji19) : Int).toNat x0_2.size), ((x9_2 ++ (x0_2.extract 0 (t122 : Int).toNat)) ++ x2_5), (by first | rfl | (simp only [bytesLe_not]; done) | (simp; done) | (simp only [← hji19] <;> (first | rfl | simp)) | (simp [*]; done)), (by first | rfl | (simp only [bytesLe_not]; done) | (simp; done) | (simp [*]; done)), H', ⟨by have := HJ5.out; have := HK2.out; omega⟩, ⟨by repeat (first | (with_reducible first | exact HB.out | apply below_alloc | apply pw_below_drewN | apply below_drew1) | exact HB.out)⟩⟩
                            · rw [if_neg c21] at H
                              exact absurd H (by simp)
                          · rw [if_neg c20] at H
                            exact absurd H (by simp)
                        · rw [if_neg c18] at H
                          exact absurd H (by simp)
                      · rw [if_neg c17] at H
                        exact absurd H (by simp)
                    · rw [if_neg c16] at H
                      exact absurd H (by simp)
                  · rw [if_neg c15] at H
                    exact absurd H (by simp)
                · rw [if_neg c14] at H
                  have c14b0 : decide (0 ≤ t122) = false := decide_eq_false c14
                  clear c14
                  by_cases c23 : a3 = true
                  · subst c23
                    have H1 : (if 0 ≤ ji5 then (if ji5 ≤ (x0_2.size : Int) then (if x9_2.size + (x0_2.extract 0 (ji5 : Int).toNat).size ≤ 9223372036854775807 then (if (x9_2 ++ (x0_2.extract 0 (ji5 : Int).toNat)).size + x2_5.size ≤ 9223372036854775807 then (spec_Wrapped.l0 k2 (x0_2.extract (ji5 : Int).toNat x0_2.size) ji5 x2_5 true ((x9_2 ++ (x0_2.extract 0 (ji5 : Int).toNat)) ++ x2_5)) else (none)) else (none)) else (none)) else (none)) = some r := by rw [if_pos rfl] at H; exact H
                    clear H
                    have H := H1
                    clear H1
                    by_cases c24 : 0 ≤ ji5
                    · rw [if_pos c24] at H
                      have c24b0 := eq_true c24
                      have c24b1 : decide (0 ≤ ji5) = true := decide_eq_true c24
                      clear c24
                      by_cases c25 : ji5 ≤ (x0_2.size : Int)
                      · rw [if_pos c25] at H
                        have c25b0 := eq_true c25
                        have c25b1 : decide (ji5 ≤ (x0_2.size : Int)) = true := decide_eq_true c25
                        clear c25
                        by_cases c26 : x9_2.size + (x0_2.extract 0 (ji5 : Int).toNat).size ≤ 9223372036854775807
                        · rw [if_pos c26] at H
                          have c26b0 := eq_true c26
                          have c26b1 : decide (x9_2.size + (x0_2.extract 0 (ji5 : Int).toNat).size ≤ 9223372036854775807) = true := decide_eq_true c26
                          try have c26b2 : (9223372036854775807 < x9_2.size + (x0_2.extract 0 (ji5 : Int).toNat).size) = False := eq_false (Nat.not_lt.2 c26)
                          by_cases c27 : (x9_2 ++ (x0_2.extract 0 (ji5 : Int).toNat)).size + x2_5.size ≤ 9223372036854775807
                          · rw [if_pos c27] at H
                            have c27b0 := eq_true c27
                            have c27b1 : decide ((x9_2 ++ (x0_2.extract 0 (ji5 : Int).toNat)).size + x2_5.size ≤ 9223372036854775807) = true := decide_eq_true c27
                            try have c27b2 : (9223372036854775807 < (x9_2 ++ (x0_2.extract 0 (ji5 : Int).toNat)).size + x2_5.size) = False := eq_false (Nat.not_lt.2 c27)
                            have c28b0 := eq_true (of_decide_eq_true (by first | (with_reducible assumption) | assumption) : 0 ≤ ji5)
                            have c29b0 := eq_true (of_decide_eq_true (by first | (with_reducible assumption) | assumption) : ji5 ≤ (x0_2.size : Int))
                            as_aux_lemma =>
                              have H' := Aside0.mk H
                              clear H
                              have p10 : 0 ≤ (0 : Int) := (by omega)
                              have q10 : 0 < x0_2.size := (by have : (0 : Int) < (x0_2.size : Int) := of_decide_eq_true (by first | (with_reducible assumption) | assumption); omega)
                              have hx10 : ∀ h : 0 < x0_2.size, ((x0_2[0]'h).toNat : Int) = bt x0_2 0 := bt_at x0_2 0
                              clear p10
                              have qi10 : (0 < (x0_2.size : Int)) = True := eq_true (of_decide_eq_true (by first | (with_reducible assumption) | assumption))
                              replace q10 := eq_true q10
                              go_wp2_with (first | (go_at_call 40; (with_reducible refine (spec_lastBlank.calls k2 x0_2 0 (wrap64 (ji5 + 1)) t122 _ A13.out).mono ?_); rintro e w30 ⟨rfl, hb⟩; have n0_ := Aside0.mk (below_step (by repeat (first | (with_reducible first | exact HB.out | apply below_alloc | apply pw_below_drewN | apply below_drew1) | exact HB.out)) hb); clear HB; have HB := n0_; clear n0_; (try clear hb); (try clear hb2); (try clear hk); (try clear hi)))
                              repeat (go_quiet (first | (go_at_call 40; (with_reducible refine (spec_lastBlank.calls k2 x0_2 0 (wrap64 (ji5 + 1)) t122 _ A13.out).mono ?_); rintro e w30 ⟨rfl, hb⟩; have n0_ := Aside0.mk (below_step (by repeat (first | (with_reducible first | exact HB.out | apply below_alloc | apply pw_below_drewN | apply below_drew1) | exact HB.out)) hb); clear HB; have HB := n0_; clear n0_; (try clear hb); (try clear hb2); (try clear hk); (try clear hi))); try go_wp2_with (first | (go_at_call 40; (with_reducible refine (spec_lastBlank.calls k2 x0_2 0 (wrap64 (ji5 + 1)) t122 _ A13.out).mono ?_); rintro e w30 ⟨rfl, hb⟩; have n0_ := Aside0.mk (below_step (by repeat (first | (with_reducible first | exact HB.out | apply below_alloc | apply pw_below_drewN | apply below_drew1) | exact HB.out)) hb); clear HB; have HB := n0_; clear n0_; (try clear hb); (try clear hb2); (try clear hk); (try clear hi))))
                              go_roundg k2
                              case measure => have := HJ5.out; have := HK2.out; omega
                              case rel => exact ⟨(x0_2.extract (ji5 : Int).toNat x0_2.size), ((x9_2 ++ (x0_2.extract 0 (ji5 : Int).toNat)) ++ x2_5), (by first | rfl | (simp only [bytesLe_not]; done) | (simp; done) | (simp only [← hji5] <;> (first | rfl | simp)) | (simp [*]; done)), (by first | rfl | (simp only [bytesLe_not]; done) | (simp; done) | (simp only [← hji5] <;> (first | rfl | simp)) | (simp [*]; done)), H', ⟨by have := HJ5.out; have := HK2.out; omega⟩, ⟨by repeat (first | (with_reducible first | exact HB.out | apply below_alloc | apply pw_below_drewN | apply below_drew1) | exact HB.out)⟩⟩
                          · rw [if_neg c27] at H
                            exact absurd H (by simp)
                        · rw [if_neg c26] at H
                          exact absurd H (by simp)
                      · rw [if_neg c25] at H
                        exact absurd H (by simp)
                    · rw [if_neg c24] at H
                      exact absurd H (by simp)
                  · replace c23 := Bool.eq_false_iff.mpr c23
                    subst c23
                    have H1 : ((spec_nextBlank.f k2 x0_2 ji5).bind fun t123 => (if t123 < 0 then (if x9_2.size + x0_2.size ≤ 9223372036854775807 then (some (x9_2 ++ x0_2)) else (none)) else (if 0 ≤ t123 then (if t123 ≤ (x0_2.size : Int) then (if x9_2.size + (x0_2.extract 0 (t123 : Int).toNat).size ≤ 9223372036854775807 then (if (x9_2 ++ (x0_2.extract 0 (t123 : Int).toNat)).size + x2_5.size ≤ 9223372036854775807 then (if 0 ≤ (wrap64 (t123 + 1)) then (if (wrap64 (t123 + 1)) ≤ (x0_2.size : Int) then (spec_Wrapped.l0 k2 (x0_2.extract ((wrap64 (t123 + 1)) : Int).toNat x0_2.size) ji5 x2_5 false ((x9_2 ++ (x0_2.extract 0 (t123 : Int).toNat)) ++ x2_5)) else (none)) else (none)) else (none)) else (none)) else (none)) else (none)))) = some r := by rw [if_neg (show ¬ (false = true) by decide)] at H; exact H
                    clear H
                    have H := H1
                    clear H1
                    replace H := Option.bind_eq_some_iff.mp H
                    obtain ⟨t123, A310, H⟩ := H
                    replace H : (if t123 < 0 then (if x9_2.size + x0_2.size ≤ 9223372036854775807 then (some (x9_2 ++ x0_2)) else (none)) else (if 0 ≤ t123 then (if t123 ≤ (x0_2.size : Int) then (if x9_2.size + (x0_2.extract 0 (t123 : Int).toNat).size ≤ 9223372036854775807 then (if (x9_2 ++ (x0_2.extract 0 (t123 : Int).toNat)).size + x2_5.size ≤ 9223372036854775807 then (if 0 ≤ (wrap64 (t123 + 1)) then (if (wrap64 (t123 + 1)) ≤ (x0_2.size : Int) then (spec_Wrapped.l0 k2 (x0_2.extract ((wrap64 (t123 + 1)) : Int).toNat x0_2.size) ji5 x2_5 false ((x9_2 ++ (x0_2.extract 0 (t123 : Int).toNat)) ++ x2_5)) else (none)) else (none)) else (none)) else (none)) else (none)) else (none))) = some r := H
                    have A31 := Aside0.mk A310
                    clear A310
                    by_cases c32 : t123 < 0
                    · rw [if_pos c32] at H
                      have c32b0 : decide (t123 < 0) = true := decide_eq_true c32
                      clear c32
                      by_cases c33 : x9_2.size + x0_2.size ≤ 9223372036854775807
                      · rw [if_pos c33] at H
                        have c33b0 := eq_true c33
                        have c33b1 : decide (x9_2.size + x0_2.size ≤ 9223372036854775807) = true := decide_eq_true c33
                        try have c33b2 : (9223372036854775807 < x9_2.size + x0_2.size) = False := eq_false (Nat.not_lt.2 c33)
                        as_aux_lemma =>
                          obtain rfl := Option.some.inj H
                          have p10 : 0 ≤ (0 : Int) := (by omega)
                          have q10 : 0 < x0_2.size := (by have : (0 : Int) < (x0_2.size : Int) := of_decide_eq_true (by first | (with_reducible assumption) | assumption); omega)
                          have hx10 : ∀ h : 0 < x0_2.size, ((x0_2[0]'h).toNat : Int) = bt x0_2 0 := bt_at x0_2 0
                          clear p10
                          have qi10 : (0 < (x0_2.size : Int)) = True := eq_true (of_decide_eq_true (by first | (with_reducible assumption) | assumption))
                          replace q10 := eq_true q10
                          go_wp2_with (first | (go_at_call 40; (with_reducible refine (spec_lastBlank.calls k2 x0_2 0 (wrap64 (ji5 + 1)) t122 _ A13.out).mono ?_); rintro e w34 ⟨rfl, hb⟩; have n0_ := Aside0.mk (below_step (by repeat (first | (with_reducible first | exact HB.out | apply below_alloc | apply pw_below_drewN | apply below_drew1) | exact HB.out)) hb); clear HB; have HB := n0_; clear n0_; (try clear hb); (try clear hb2); (try clear hk); (try clear hi)) | (go_at_call 41; (with_reducible refine (spec_nextBlank.calls k2 x0_2 ji5 t123 _ A31.out).mono ?_); rintro e w' ⟨rfl, ⟨nd, rfl⟩⟩; (try first | exact ⟨rfl, _, World.drewN_drewN _ _ _⟩ | exact ⟨rfl, _, Eq.trans (World.drewN_drewN _ _ _) (congrArg (World.drewN _) (Nat.add_assoc _ _ _))⟩)))
                          repeat (go_quiet (first | (go_at_call 40; (with_reducible refine (spec_lastBlank.calls k2 x0_2 0 (wrap64 (ji5 + 1)) t122 _ A13.out).mono ?_); rintro e w34 ⟨rfl, hb⟩; have n0_ := Aside0.mk (below_step (by repeat (first | (with_reducible first | exact HB.out | apply below_alloc | apply pw_below_drewN | apply below_drew1) | exact HB.out)) hb); clear HB; have HB := n0_; clear n0_; (try clear hb); (try clear hb2); (try clear hk); (try clear hi)) | (go_at_call 41; (with_reducible refine (spec_nextBlank.calls k2 x0_2 ji5 t123 _ A31.out).mono ?_); rintro e w' ⟨rfl, ⟨nd, rfl⟩⟩; (try first | exact ⟨rfl, _, World.drewN_drewN _ _ _⟩ | exact ⟨rfl, _, Eq.trans (World.drewN_drewN _ _ _) (congrArg (World.drewN _) (Nat.add_assoc _ _ _))⟩))); try go_wp2_with (first | (go_at_call 40; (with_reducible refine (spec_lastBlank.calls k2 x0_2 0 (wrap64 (ji5 + 1)) t122 _ A13.out).mono ?_); rintro e w34 ⟨rfl, hb⟩; have n0_ := Aside0.mk (below_step (by repeat (first | (with_reducible first | exact HB.out | apply below_alloc | apply pw_below_drewN | apply below_drew1) | exact HB.out)) hb); clear HB; have HB := n0_; clear n0_; (try clear hb); (try clear hb2); (try clear hk); (try clear hi)) | (go_at_call 41; (with_reducible refine (spec_nextBlank.calls k2 x0_2 ji5 t123 _ A31.out).mono ?_); rintro e w' ⟨rfl, ⟨nd, rfl⟩⟩; (try first | exact ⟨rfl, _, World.drewN_drewN _ _ _⟩ | exact ⟨rfl, _, Eq.trans (World.drewN_drewN _ _ _) (congrArg (World.drewN _) (Nat.add_assoc _ _ _))⟩))))
                          go_ret
                          exact ⟨by first | rfl | (simp [errW_none, errW_some] <;> rfl) | (simp only [← hji5]; first | rfl | (simp [errW_none, errW_some] <;> rfl)) | (simp [*, errW_none, errW_some] <;> rfl), by repeat (first | (with_reducible first | exact HB.out | apply below_alloc | apply pw_below_drewN | apply below_drew1) | exact HB.out)⟩
                      · rw [if_neg c33] at H
                        exact absurd H (by simp)
                    · rw [if_neg c32] at H
                      have c32b0 : decide (t123 < 0) = false := decide_eq_false c32
                      clear c32
                      by_cases c35 : 0 ≤ t123
                      · rw [if_pos c35] at H
                        have c35b0 := eq_true c35
                        have c35b1 : decide (0 ≤ t123) = true := decide_eq_true c35
                        clear c35
                        by_cases c36 : t123 ≤ (x0_2.size : Int)
                        · rw [if_pos c36] at H
                          have c36b0 := eq_true c36
                          have c36b1 : decide (t123 ≤ (x0_2.size : Int)) = true := decide_eq_true c36
                          clear c36
                          by_cases c37 : x9_2.size + (x0_2.extract 0 (t123 : Int).toNat).size ≤ 9223372036854775807
                          · rw [if_pos c37] at H
                            have c37b0 := eq_true c37
                            have c37b1 : decide (x9_2.size + (x0_2.extract 0 (t123 : Int).toNat).size ≤ 9223372036854775807) = true := decide_eq_true c37
                            try have c37b2 : (9223372036854775807 < x9_2.size + (x0_2.extract 0 (t123 : Int).toNat).size) = False := eq_false (Nat.not_lt.2 c37)
                            by_cases c38 : (x9_2 ++ (x0_2.extract 0 (t123 : Int).toNat)).size + x2_5.size ≤ 9223372036854775807
                            · rw [if_pos c38] at H
                              have c38b0 := eq_true c38
                              have c38b1 : decide ((x9_2 ++ (x0_2.extract 0 (t123 : Int).toNat)).size + x2_5.size ≤ 9223372036854775807) = true := decide_eq_true c38
                              try have c38b2 : (9223372036854775807 < (x9_2 ++ (x0_2.extract 0 (t123 : Int).toNat)).size + x2_5.size) = False := eq_false (Nat.not_lt.2 c38)
                              obtain ⟨ji39, hji39⟩ : ∃ j_ : Int, (wrap64 (t123 + 1)) = j_ := ⟨_, rfl⟩
                              replace H : (if 0 ≤ (ji39) then (if (ji39) ≤ (x0_2.size : Int) then (spec_Wrapped.l0 k2 (x0_2.extract ((ji39) : Int).toNat x0_2.size) ji5 x2_5 false ((x9_2 ++ (x0_2.extract 0 (t123 : Int).toNat)) ++ x2_5)) else (none)) else (none)) = some r := by first | (rw [hji39] at H; exact H) | (simp only [hji39] at H ⊢; exact H)
                              (try rw [hji39] at A13)
                              (try rw [hji39] at A31)
                              have hji39w : (IntKind.i64.wrap (t123 + 1)) = ji39 := (i64_w _).trans hji39
                              by_cases c40 : 0 ≤ (ji39)
                              · rw [if_pos c40] at H
                                have c40b0 := eq_true c40
                                have c40b1 : decide (0 ≤ (ji39)) = true := decide_eq_true c40
                                clear c40
                                by_cases c41 : (ji39) ≤ (x0_2.size : Int)
                                · rw [if_pos c41] at H
                                  have c41b0 := eq_true c41
                                  have c41b1 : decide ((ji39) ≤ (x0_2.size : Int)) = true := decide_eq_true c41
                                  clear c41
                                  as_aux_lemma =>
                                    have H' := Aside0.mk H
                                    clear H
                                    have p10 : 0 ≤ (0 : Int) := (by omega)
                                    have q10 : 0 < x0_2.size := (by have : (0 : Int) < (x0_2.size : Int) := of_decide_eq_true (by first | (with_reducible assumption) | assumption); omega)
                                    have hx10 : ∀ h : 0 < x0_2.size, ((x0_2[0]'h).toNat : Int) = bt x0_2 0 := bt_at x0_2 0
                                    clear p10
                                    have qi10 : (0 < (x0_2.size : Int)) = True := eq_true (of_decide_eq_true (by first | (with_reducible assumption) | assumption))
                                    replace q10 := eq_true q10
                                    go_wp2_with (first | (go_at_call 40; (with_reducible refine (spec_lastBlank.calls k2 x0_2 0 (wrap64 (ji5 + 1)) t122 _ A13.out).mono ?_); rintro e w42 ⟨rfl, hb⟩; have n0_ := Aside0.mk (below_step (by repeat (first | (with_reducible first | exact HB.out | apply below_alloc | apply pw_below_drewN | apply below_drew1) | exact HB.out)) hb); clear HB; have HB := n0_; clear n0_; (try clear hb); (try clear hb2); (try clear hk); (try clear hi)) | (go_at_call 41; (with_reducible refine (spec_nextBlank.calls k2 x0_2 ji5 t123 _ A31.out).mono ?_); rintro e w' ⟨rfl, ⟨nd, rfl⟩⟩; (try first | exact ⟨rfl, _, World.drewN_drewN _ _ _⟩ | exact ⟨rfl, _, Eq.trans (World.drewN_drewN _ _ _) (congrArg (World.drewN _) (Nat.add_assoc _ _ _))⟩)))
                                    repeat (go_quiet (first | (go_at_call 40; (with_reducible refine (spec_lastBlank.calls k2 x0_2 0 (wrap64 (ji5 + 1)) t122 _ A13.out).mono ?_); rintro e w42 ⟨rfl, hb⟩; have n0_ := Aside0.mk (below_step (by repeat (first | (with_reducible first | exact HB.out | apply below_alloc | apply pw_below_drewN | apply below_drew1) | exact HB.out)) hb); clear HB; have HB := n0_; clear n0_; (try clear hb); (try clear hb2); (try clear hk); (try clear hi)) | (go_at_call 41; (with_reducible refine (spec_nextBlank.calls k2 x0_2 ji5 t123 _ A31.out).mono ?_); rintro e w' ⟨rfl, ⟨nd, rfl⟩⟩; (try first | exact ⟨rfl, _, World.drewN_drewN _ _ _⟩ | exact ⟨rfl, _, Eq.trans (World.drewN_drewN _ _ _) (congrArg (World.drewN _) (Nat.add_assoc _ _ _))⟩))); try go_wp2_with (first | (go_at_call 40; (with_reducible refine (spec_lastBlank.calls k2 x0_2 0 (wrap64 (ji5 + 1)) t122 _ A13.out).mono ?_); rintro e w42 ⟨rfl, hb⟩; have n0_ := Aside0.mk (below_step (by repeat (first | (with_reducible first | exact HB.out | apply below_alloc | apply pw_below_drewN | apply below_drew1) | exact HB.out)) hb); clear HB; have HB := n0_; clear n0_; (try clear hb); (try clear hb2); (try clear hk); (try clear hi)) | (go_at_call 41; (with_reducible refine (spec_nextBlank.calls k2 x0_2 ji5 t123 _ A31.out).mono ?_); rintro e w' ⟨rfl, ⟨nd, rfl⟩⟩; (try first | exact ⟨rfl, _, World.drewN_drewN _ _ _⟩ | exact ⟨rfl, _, Eq.trans (World.drewN_drewN _ _ _) (congrArg (World.drewN _) (Nat.add_assoc _ _ _))⟩))))
                                    go_roundg k2
                                    case measure => have := HJ5.out; have := HK2.out; omega
                                    case rel => exact ⟨(x0_2.extract ((ji39) : Int).toNat x0_2.size), ((x9_2 ++ (x0_2.extract 0 (t123 : Int).toNat)) ++ x2_5), (by first | rfl | (simp only [bytesLe_not]; done) | (simp; done) | (simp only [← hji39] <;> (first | rfl | simp)) | (simp [*]; done)), (by first | rfl | (simp only [bytesLe_not]; done) | (simp; done) | (simp [*]; done)), H', ⟨by have := HJ5.out; have := HK2.out; omega⟩, ⟨by repeat (first | (with_reducible first | exact HB.out | apply below_alloc | apply pw_below_drewN | apply below_drew1) | exact HB.out)⟩⟩
                                · rw [if_neg c41] at H
                                  exact absurd H (by simp)
                              · rw [if_neg c40] at H
                                exact absurd H (by simp)
                            · rw [if_neg c38] at H
                              exact absurd H (by simp)
                          · rw [if_neg c37] at H
                            exact absurd H (by simp)
                        · rw [if_neg c36] at H
                          exact absurd H (by simp)
                      · rw [if_neg c35] at H
                        exact absurd H (by simp)
            · rw [if_neg c9] at H
              exact absurd H (by simp)
          · rw [if_neg c8] at H
            have c8b0 : decide (ji5 < (x0_2.size : Int)) = false := decide_eq_false c8
            clear c8
            by_cases c43 : x9_2.size + x0_2.size ≤ 9223372036854775807
            · rw [if_pos c43] at H
              have c43b0 := eq_true c43
              have c43b1 : decide (x9_2.size + x0_2.size ≤ 9223372036854775807) = true := decide_eq_true c43
              try have c43b2 : (9223372036854775807 < x9_2.size + x0_2.size) = False := eq_false (Nat.not_lt.2 c43)
              as_aux_lemma =>
                obtain rfl := Option.some.inj H
                go_wp2
                repeat (go_quiet (fail); try go_wp2)
                go_ret
                exact ⟨by first | rfl | (simp [errW_none, errW_some] <;> rfl) | (simp only [← hji5]; first | rfl | (simp [errW_none, errW_some] <;> rfl)) | (simp [*, errW_none, errW_some] <;> rfl), by repeat (first | (with_reducible first | exact HB.out | apply below_alloc | apply pw_below_drewN | apply below_drew1) | exact HB.out)⟩
            · rw [if_neg c43] at H
              exact absurd H (by simp)

-- NOT PRINTED: function 58 (sprig_wrapWith)

-- NOT PRINTED: function 42 (sprig_WrapWith)

-- NOT PRINTED: function 17 (impl_WrapWith)

-- NOT PRINTED: function 4 (laws_FnWrap)

end Go.Proofs.YtjpibaehpmkdmaaDoor.P
