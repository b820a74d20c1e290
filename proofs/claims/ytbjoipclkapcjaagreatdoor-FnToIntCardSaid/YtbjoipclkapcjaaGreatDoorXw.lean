/- Words of this session beside the print's: a string as its code points, laws for the two conversions, and small laws on rounds. Nothing is assumed. -/
import Derived.Test.YtbjoipclkapcjaaGreatDoorWMore
import Derived.Test.YtbjoipclkapcjaaGreatDoorWN
import Derived.Laws.IdiomStrings
import Derived.Laws.Cover4
import Derived.Laws.RangeAny
import Derived.Lib.Strings
import Derived.Lib.BufferMore
import Derived.Lib.ConvBytes
import Derived.WalkLawsBesides
import Derived.Maps.RangeWalk
import Derived.WalkKit
set_option linter.unusedVariables false
set_option linter.unusedSimpArgs false
namespace Go.Proofs.YtbjoipclkapcjaaGreatDoorW.PrintWords
open Go.RowKit

/-! ### Rounds -/
theorem Ev.pos {α : Type} {c : Prop} [Decidable c] {a b : Nat → Option α} {r : α} (h : c) (e : Ev a r) : Ev (fun k => if c then a k else b k) r := by
  obtain ⟨K, hK⟩ := e
  exact ⟨K, fun k hk => (if_pos h).trans (hK k hk)⟩
theorem Ev.neg {α : Type} {c : Prop} [Decidable c] {a b : Nat → Option α} {r : α} (h : ¬ c) (e : Ev b r) : Ev (fun k => if c then a k else b k) r := by
  obtain ⟨K, hK⟩ := e
  exact ⟨K, fun k hk => (if_neg h).trans (hK k hk)⟩
theorem Ev.ok {α : Type} (r : α) : Ev (fun _ => some r) r := ⟨0, fun _ _ => rfl⟩
theorem Ev.eq {α : Type} {g : Nat → Option α} {r r' : α} (h : r = r') (e : Ev g r) : Ev g r' := h ▸ e
theorem step64 {i : Int} {n : Nat} (h0 : 0 ≤ i) (h : i < (n : Int)) (hn : n ≤ 140737488351232) : wrap64 (i + 1) = i + 1 := by
  unfold wrap64
  omega
theorem w64_in {i : Int} (h0 : -9223372036854775808 ≤ i) (h : i ≤ 9223372036854775807) : wrap64 i = i := by
  unfold wrap64
  omega
theorem toList_inj {a b : ByteArray} (h : a.toList = b.toList) : a = b := by
  have h' : a.data.toList = b.data.toList := by rw [← ByteArray.toList_eq, ← ByteArray.toList_eq]; exact h
  cases a; cases b; simp at h'; simp [h']

/-! ### Blocks laid one behind the other -/
def laidAll (w : World) : List Obj → World
  | [] => w
  | o :: os => laidAll (w.alloc o) os
theorem blk_alloc_old {w : World} {o : Obj} {b : Nat} (h : b < w.heap.size) : (w.alloc o).heap[b]? = w.heap[b]? := by
  show (w.heap.push o)[b]? = _
  rw [Array.getElem?_push]
  split
  · omega
  · rfl
theorem size_alloc1 (w : World) (o : Obj) : (w.alloc o).heap.size = w.heap.size + 1 := by
  show (w.heap.push o).size = _
  simp
theorem laidAll_size : ∀ (os : List Obj) (w : World), (laidAll w os).heap.size = w.heap.size + os.length
  | [], _ => rfl
  | o :: os, w => by rw [laidAll, laidAll_size os, size_alloc1]; simp only [List.length_cons]; omega
theorem laidAll_below : ∀ (os : List Obj) (w w0 : World) {B : Nat}, Below B w0 w → B ≤ w.heap.size → Below B w0 (laidAll w os)
  | [], _, _, _, h, _ => h
  | o :: os, w, _, _, h, hb => laidAll_below os _ _ (h.alloc hb o) (by rw [size_alloc1]; omega)
theorem laidAll_old : ∀ (os : List Obj) (w : World) (b : Nat), b < w.heap.size → (laidAll w os).heap[b]? = w.heap[b]?
  | [], _, _, _ => rfl
  | o :: os, w, b, h => by rw [laidAll, laidAll_old os _ _ (by rw [size_alloc1]; omega), blk_alloc_old h]
theorem laidAll_at : ∀ (os : List Obj) (w : World) (i : Nat) (o : Obj), os[i]? = some o → (laidAll w os).heap[w.heap.size + i]? = some o
  | [], _, _, _, h => by simp at h
  | o' :: os, w, 0, o, h => by
    rw [laidAll, laidAll_old os _ _ (by rw [size_alloc1]; omega)]
    simp at h
    subst h
    exact heap_alloc_new w _
  | o' :: os, w, i + 1, o, h => by
    have := laidAll_at os (w.alloc o') i o (by simpa using h)
    rw [size_alloc1] at this
    rw [laidAll, show w.heap.size + (i + 1) = w.heap.size + 1 + i by omega]
    exact this

/-! ### Bytes -/
theorem ba_ext {a b : ByteArray} (h : a.data.toList = b.data.toList) : a = b := by
  cases a; cases b; simp at h; simp [h]
theorem extract_list (s : ByteArray) (a b : Nat) : (s.extract a b).data.toList = (s.data.toList.drop a).take (b - a) := by
  rw [← ByteArray.toList_eq, Lib.extract_toList]
theorem append_list (a b : ByteArray) : (a ++ b).data.toList = a.data.toList ++ b.data.toList := by simp
theorem size_list (s : ByteArray) : s.data.toList.length = s.size := by simp

/-! ### The first place of a text in another one, by a loop -/
/-- p stands in s at j. -/
def occ (s p : ByteArray) (j : Nat) : Prop := j + p.size ≤ s.size ∧ s.extract j (j + p.size) = p
/-- r is the first place from i on, or -1. -/
def firstAt (s p : ByteArray) (i : Nat) (r : Int) : Prop := (r = -1 ∧ ∀ j, i ≤ j → ¬ occ s p j) ∨ ∃ j : Nat, r = (j : Int) ∧ i ≤ j ∧ occ s p j ∧ ∀ j', i ≤ j' → j' < j → ¬ occ s p j'
theorem firstAt_unique {s p : ByteArray} {i : Nat} {r r' : Int} (h : firstAt s p i r) (h' : firstAt s p i r') : r = r' := by
  rcases h with ⟨rfl, h⟩ | ⟨j, rfl, h1, h2, h3⟩
  · rcases h' with ⟨rfl, _⟩ | ⟨j', rfl, h1', h2', _⟩
    · rfl
    · exact absurd h2' (h j' h1')
  · rcases h' with ⟨rfl, h'⟩ | ⟨j', rfl, h1', h2', h3'⟩
    · exact absurd h2 (h' j h1)
    · have : ¬ j < j' := fun hl => h3' j h1 hl h2
      have : ¬ j' < j := fun hl => h3 j' h1' hl h2'
      omega
theorem index_tells (g : Nat → Int → Option Int) (s p : ByteArray) (hs : s.size ≤ 281474976710656) (hp : p.size ≤ 281474976710656)
    (hstep : ∀ k x, g (k + 1) x = if wrap64 (x + (p.size : Int)) ≤ (s.size : Int) then (if 0 ≤ x then (if x ≤ wrap64 (x + (p.size : Int)) then (if (s.extract (x : Int).toNat ((wrap64 (x + (p.size : Int))) : Int).toNat).toList = p.toList then some x else g k (wrap64 (x + 1))) else none) else none) else some (-1))
    (d : Nat) : ∀ i : Nat, i ≤ s.size + 1 → s.size + 1 - i = d → ∃ r, Ev (fun k => g k (i : Int)) r ∧ firstAt s p i r := by
  have w1 : ∀ i : Nat, i ≤ s.size + 1 → wrap64 ((i : Int) + (p.size : Int)) = (i : Int) + (p.size : Int) := fun i hi => w64_in (by omega) (by omega)
  have no : ∀ i : Nat, i ≤ s.size + 1 → ¬ (i : Int) + (p.size : Int) ≤ (s.size : Int) → ∃ r, Ev (fun k => g k (i : Int)) r ∧ firstAt s p i r := by
    intro i hi h
    refine ⟨-1, Ev.step (fun k => by rw [hstep, w1 i hi]) (Ev.neg h (Ev.ok _)), .inl ⟨rfl, fun j hj ho => ?_⟩⟩
    have := ho.1
    omega
  induction d with
  | zero => intro i hi hd; exact no i hi (by omega)
  | succ d ih =>
    intro i hi hd
    by_cases h : (i : Int) + (p.size : Int) ≤ (s.size : Int)
    · have ht : ((i : Int) + (p.size : Int)).toNat = i + p.size := by omega
      by_cases he : (s.extract i (i + p.size)).toList = p.toList
      · refine ⟨i, ?_, .inr ⟨i, rfl, Nat.le_refl _, ⟨by omega, toList_inj he⟩, fun j' h1 h2 => by omega⟩⟩
        refine Ev.step (fun k => by rw [hstep, w1 i hi, ht, Int.toNat_natCast]) ?_
        exact Ev.pos h (Ev.pos (by omega) (Ev.pos (by omega) (Ev.pos he (Ev.ok _))))
      · obtain ⟨r, e, hr⟩ := ih (i + 1) (by omega) (by omega)
        refine ⟨r, ?_, ?_⟩
        · refine Ev.step (fun k => by rw [hstep, w1 i hi, ht, Int.toNat_natCast, w64_in (i := (i : Int) + 1) (by omega) (by omega)]) ?_
          exact Ev.pos h (Ev.pos (by omega) (Ev.pos (by omega) (Ev.neg he e)))
        · have hi0 : ¬ occ s p i := fun ho => he (by rw [ho.2])
          rcases hr with ⟨rfl, hr⟩ | ⟨j, rfl, h1, h2, h3⟩
          · refine .inl ⟨rfl, fun j hj => ?_⟩
            by_cases hji : j = i
            · rw [hji]; exact hi0
            · exact hr j (by omega)
          · refine .inr ⟨j, rfl, by omega, h2, fun j' h4 h5 => ?_⟩
            by_cases hji : j' = i
            · rw [hji]; exact hi0
            · exact h3 j' (by omega) h5
    · exact no i hi h
theorem occ_append (s p : ByteArray) : occ (s ++ p) p s.size := by
  refine ⟨by rw [ByteArray.size_append]; omega, ba_ext ?_⟩
  rw [extract_list, append_list, List.drop_left' (by simp), List.take_of_length_le (by simp)]
theorem occ_ahead (s p : ByteArray) : occ (p ++ s) p 0 := by
  refine ⟨by rw [ByteArray.size_append]; omega, ba_ext ?_⟩
  rw [extract_list, append_list]
  simp

/-! ### What is left of a text by points -/
def abO (s : ByteArray) (o m : Int) : Int := if (s.size : Int) - (if o > s.size then (s.size : Int) else o) < m - 3 then (s.size : Int) - (m - 3) else (if o > s.size then (s.size : Int) else o)
def dots : ByteArray := ⟨#[46, 46, 46]⟩
/-- What is left of a text by points; none if it is refused. -/
def abF (s : ByteArray) (o m : Int) : Option ByteArray :=
  if s.toList = [] then some ByteArray.empty else if m < 4 then none else if (s.size : Int) ≤ m then some s else if abO s o m ≤ 4 then some (s.extract 0 (m - 3).toNat ++ dots) else if m < 7 then none
  else if abO s o m + m - 3 < s.size then some (dots ++ ((s.extract (abO s o m).toNat s.size).extract 0 (m - 3 - 3).toNat ++ dots)) else some (dots ++ s.extract ((s.size : Int) - (m - 3)).toNat s.size)
def near (s : ByteArray) (o m : Int) : Prop := s.size ≤ 500 ∧ -1000000 ≤ o ∧ o ≤ 1000000 ∧ m ≤ 1000000
instance (s : ByteArray) (o m : Int) : Decidable (near s o m) := by unfold near; exact inferInstance

/-! ### Code points -/
/-- The code points of a text from place i on, at most b of them. -/
def runesGo (s : ByteArray) : Nat → Nat → List Int
  | 0, _ => []
  | b + 1, i => if i < s.size then (((Utf8.decode s i).1 : Nat) : Int) :: runesGo s b (i + (Utf8.decode s i).2) else []
/-- '[]rune(s)'. -/
def runesOf (s : ByteArray) : List Int := runesGo s s.size 0

theorem runesFrom_go (s : ByteArray) : ∀ (b i : Nat) (acc : Array Value), Conv.runesFrom s b i acc = acc ++ ((runesGo s b i).map (Value.int .i32)).toArray
  | 0, i, acc => by simp [Conv.runesFrom, runesGo]
  | b + 1, i, acc => by
    unfold Conv.runesFrom runesGo
    split
    · show Conv.runesFrom s b (i + (Utf8.decode s i).2) (acc.push (.int .i32 (Int.ofNat (Utf8.decode s i).1))) = _
      rw [runesFrom_go s b]
      simp
    · simp
theorem runesFrom_of (s : ByteArray) : Conv.runesFrom s s.size 0 #[] = ((runesOf s).map (Value.int .i32)).toArray := by
  rw [runesFrom_go]
  simp [runesOf]
theorem runesGo_length (s : ByteArray) : ∀ b i, (runesGo s b i).length ≤ b
  | 0, _ => by simp [runesGo]
  | b + 1, i => by
    unfold runesGo
    split
    · have := runesGo_length s b (i + (Utf8.decode s i).2)
      simp only [List.length_cons]
      omega
    · simp
theorem runesOf_length (s : ByteArray) : (runesOf s).length ≤ s.size := runesGo_length s _ _

theorem width_pos (s : ByteArray) (pos : Nat) (h : pos < s.size) : 1 ≤ (Utf8.decode s pos).2 := by
  by_cases ha : (s[pos]'h).toNat < 128
  · rw [decode_ascii s pos h ha]
    exact Nat.le_refl _
  · exact (decode_high s pos h (by omega)).2

/-- A text of ASCII. -/
def ascii (s : ByteArray) : Prop := ∀ i : Nat, i < s.size → bt s i < 128
/-- A text's bytes as numbers. -/
def nums8 (s : ByteArray) : List Int := s.data.toList.map fun b => (b.toNat : Int)
theorem nums8_length (s : ByteArray) : (nums8 s).length = s.size := by simp [nums8]
theorem bt_nat (s : ByteArray) (i : Nat) (h : i < s.size) : bt s (i : Int) = ((s[i]'h).toNat : Int) := by
  unfold bt
  rw [dif_pos (by rw [Int.toNat_natCast]; exact h)]
  simp
theorem nums8_at (s : ByteArray) (i : Nat) (h : i < s.size) : (nums8 s)[i]'(by rw [nums8_length]; exact h) = bt s i := by
  rw [bt_nat s i h]
  simp [nums8]
  rfl
theorem nums8_mem (s : ByteArray) : ∀ x ∈ nums8 s, 0 ≤ x ∧ x ≤ 255 := by
  intro x hx
  obtain ⟨b, _, rfl⟩ := List.mem_map.1 hx
  have := b.toNat_lt
  omega
theorem ascii_mem {s : ByteArray} (h : ascii s) : ∀ x ∈ nums8 s, 0 ≤ x ∧ x < 128 := by
  intro x hx
  obtain ⟨i, hi, rfl⟩ := List.getElem_of_mem hx
  have hi' : i < s.size := by rw [nums8_length] at hi; exact hi
  rw [nums8_at s i hi']
  exact ⟨(bt_range s i).1, h i hi'⟩
theorem runesGo_ascii {s : ByteArray} (h : ascii s) : ∀ b i : Nat, i ≤ s.size → s.size ≤ i + b → runesGo s b i = (nums8 s).drop i
  | 0, i, h1, h2 => by
    rw [List.drop_of_length_le (by rw [nums8_length]; omega)]
    rfl
  | b + 1, i, h1, h2 => by
    unfold runesGo
    by_cases hi : i < s.size
    · have hl : i < (nums8 s).length := by rw [nums8_length]; exact hi
      have ha := h i hi
      rw [bt_nat s i hi] at ha
      rw [if_pos hi, List.drop_eq_getElem_cons hl, nums8_at s i hi, bt_nat s i hi, decode_ascii s i hi (by omega), runesGo_ascii h b (i + 1) hi (by omega)]
    · rw [if_neg hi, List.drop_of_length_le (by rw [nums8_length]; omega)]
theorem runesOf_ascii {s : ByteArray} (h : ascii s) : runesOf s = nums8 s := by
  unfold runesOf
  rw [runesGo_ascii h s.size 0 (Nat.zero_le _) (by omega), List.drop_zero]
theorem encode_ascii {x : Int} (h0 : 0 ≤ x) (h : x < 128) : Utf8.encode x = ⟨#[UInt8.ofNat x.toNat]⟩ := by
  have hv : Utf8.valid x = true := by
    unfold Utf8.valid
    simp
    omega
  unfold Utf8.encode
  simp only [hv, if_true]
  rw [if_pos (by omega)]
theorem runes_fold (xs : List Int) : ∀ r : ByteArray, (xs.foldl (fun r n => r ++ Utf8.encode n) r).data.toList = r.data.toList ++ xs.flatMap fun n => (Utf8.encode n).data.toList := by
  induction xs with
  | nil => intro r; simp
  | cons x xs ih =>
    intro r
    rw [List.foldl_cons, ih, append_list, List.flatMap_cons, List.append_assoc]
theorem runesBytes_list (xs : List Int) : (runesBytes xs).data.toList = xs.flatMap fun n => (Utf8.encode n).data.toList := by
  unfold runesBytes
  rw [runes_fold]
  rfl
theorem runesBytes_ascii {xs : List Int} (h : ∀ x ∈ xs, 0 ≤ x ∧ x < 128) : (runesBytes xs).data.toList = xs.map fun x => UInt8.ofNat x.toNat := by
  rw [runesBytes_list]
  induction xs with
  | nil => rfl
  | cons x xs ih =>
    have hx := h x List.mem_cons_self
    rw [List.flatMap_cons, List.map_cons, encode_ascii hx.1 hx.2, ih (fun y hy => h y (List.mem_cons_of_mem _ hy))]
    rfl

namespace Kd
section
variable {P : Program} {ops : Array Oper} {rest : List Oper} {o : Oper} {a : Act} {Q : Exit → Act → World → Prop}
/-- '[]rune(s)': a row of the call's own. -/
theorem R_runes {w0 W : World} (base e : Nat) (hgd : o.guard = none) {N : Tmp} (_hd : o.dst = some N) (t1 t2 : TypeId) (x : Operand) (ho : o.op = .convert t1 t2 x) (s : ByteArray) (hx : a.eval x = .string s)
    (h1 : P.underlying t1 = some .string) (h2 : P.underlying t2 = some (.slice e)) (h3 : P.underlying e = some (.int .i32)) {ok : Nat → Prop} (hfresh : ok W.heap.size) (hsz : s.size ≤ 70368744177664)
    (HB : Below base w0 W) (hbase : base ≤ W.heap.size)
    (h : ∀ v1 w1, (Kd.int .i32).R e w1 base ok v1 (runesOf s) → Below base w0 w1 → W.grownBy w1 none → (∃ b, v1.ownBlock = some b ∧ W.heap.size ≤ b) → wpList P ops Q rest (a.put o.dst v1) w1) : wpList P ops Q (o :: rest) a W := by
  have hl := runesOf_length s
  have hr := run_runes_of_string (P := P) W t1 t2 e s h1 h2 h3 (by rw [runesFrom_of]; simp; omega)
  rw [runesFrom_of] at hr
  simp only [List.size_toArray, List.length_map] at hr
  obtain ⟨C, hC⟩ : ∃ C, C = grownCap W (runesOf s).length 0 e := ⟨_, rfl⟩
  have hge : (runesOf s).length ≤ C := hC ▸ grownCap_ge W _ 0 e
  have hle : C ≤ maxLen := hC ▸ grownCap_le_maxLen W _ 0 e (by unfold maxLen; omega)
  rw [← hC] at hr
  have hB : Below base w0 (W.drew.alloc (.cells (((runesOf s).map (Value.int .i32)).toArray ++ Array.replicate (C - (runesOf s).length) (.int .i32 0)) e)) := HB.drew.alloc hbase _
  refine event_run (v := .slice (some ⟨W.heap.size, 0, none⟩) (runesOf s).length C) hgd (w1 := W.drew.alloc (.cells (((runesOf s).map (Value.int .i32)).toArray ++ Array.replicate (C - (runesOf s).length) (.int .i32 0)) e)) (by simp [execOp, ho, hx, hr]) (h _ _ ⟨fun k hk => ?_, (runesOf s).map (Value.int .i32), ?_, ?_⟩ hB ?_ ⟨W.heap.size, by simp [Value.ownBlock], Nat.le_refl _⟩)
  · have : W.heap.size = k := by simpa [Value.ownBlock] using hk
    subst this
    exact hfresh
  · refine ⟨by simp [Kd.int, Kd.scalar], .inr ⟨W.heap.size, C, _, rfl, hbase, heap_alloc_new W.drew _, hge, hle, ?_, ?_⟩⟩
    · simp [Kd.int, Kd.scalar]; omega
    · simp [Kd.int, Kd.scalar]
  · exact reps_scalar (enc := Value.int .i32) (runesOf s)
  · have hg := World.grownBy_alloc W.drew (.cells (((runesOf s).map (Value.int .i32)).toArray ++ Array.replicate (C - (runesOf s).length) (.int .i32 0)) e) none
    exact ⟨hg.os, hg.tape, hg.output, hg.size, hg.block⟩
end
end Kd

/-! ### 'string(runes)' -/
theorem runestring_of_reads {P : Program} {w : World} {src dst e : TypeId} {A : Option Addr} {n c : Nat} {xs : List Int} (hs : P.underlying src = some (.slice e)) (he : P.underlying e = some (.int .i32)) (hd : P.underlying dst = some .string)
    (h : ReadsInt w .i32 A n xs) : (convert src dst (.slice A n c)).run P w = .ok (.string (runesBytes xs)) w := by
  have hn : xs.length = n := h.1
  rcases A with _ | ad
  · have h0 : n = 0 := by
      rcases Nat.eq_zero_or_pos n with h0 | h0
      · exact h0
      · obtain ⟨ad, h', _⟩ := h.2.2 h0
        cases h'
    subst h0
    obtain rfl : xs = [] := List.eq_nil_of_length_eq_zero hn
    exact run_convert_runes_nil w src dst e 0 c hs he hd
  · rcases Nat.eq_zero_or_pos n with h0 | h0
    · subst h0
      obtain rfl : xs = [] := List.eq_nil_of_length_eq_zero hn
      exact run_convert_runes w src dst e ad 0 c [] (Nat.le_refl _) hs he hd (fun j hj => by simp at hj)
    · have := run_convert_runes (P := P) w src dst e ad n c xs (by omega) hs he hd (fun j hj => by
        obtain ⟨ad', he', hc⟩ := h.2.2 h0
        injection he' with he'
        subst he'
        exact hc j (by omega))
      rwa [← hn, List.take_length, hn] at this
theorem Kd.C_runestring {P : Program} {w : World} {src dst e : TypeId} {A : Option Addr} {n c : Nat} {xs : List Int} (hs : P.underlying src = some (.slice e)) (he : P.underlying e = some (.int .i32)) (hd : P.underlying dst = some .string)
    (h : (Kd.int .i32).C w A n xs) : (convert src dst (.slice A n c)).run P w = .ok (.string (runesBytes xs)) w :=
  runestring_of_reads hs he hd (Kd.reads_of_C (enc := Value.int .i32) (d := (0 : Int)) (h1 := fun _ => rfl) h)
theorem own_runestring {P : Program} {w : World} {base n : Nat} {e' src dst e : TypeId} {v : Value} {xs : List Int} (hs : P.underlying src = some (.slice e)) (he : P.underlying e = some (.int .i32)) (hd : P.underlying dst = some .string)
    (h : w.ownsRow base e' 1 v n (nums .i32 xs)) : (convert src dst v).run P w = .ok (.string (runesBytes xs)) w := by
  obtain ⟨A, c, rfl, hr⟩ := own_reads h
  exact runestring_of_reads hs he hd hr
theorem Q_runestring {P : Program} {w : World} {base e' : Nat} {ok : Nat → Prop} {src dst e : TypeId} {v : Value} {xs : List Int} (hs : P.underlying src = some (.slice e)) (he : P.underlying e = some (.int .i32)) (hd : P.underlying dst = some .string)
    (h : (Kd.int .i32).Q e' w base ok v xs) : (convert src dst v).run P w = .ok (.string (runesBytes xs)) w := by
  obtain ⟨A, c, rfl, _, hr⟩ := Kd.Q_reads h
  exact Kd.C_runestring hs he hd hr
/-- The same behind draws. -/
theorem Kd.C_runestring_d {P : Program} {w : World} {src dst e : TypeId} {A : Option Addr} {n c : Nat} {xs : List Int} (hs : P.underlying src = some (.slice e)) (he : P.underlying e = some (.int .i32)) (hd : P.underlying dst = some .string)
    (h : (Kd.int .i32).C w A n xs) (m : Nat) : (convert src dst (.slice A n c)).run P (w.drewN m) = .ok (.string (runesBytes xs)) (w.drewN m) :=
  Kd.C_runestring hs he hd (Kd.C_drewN h m)
theorem Q_runestring_d {P : Program} {w : World} {base e' : Nat} {ok : Nat → Prop} {src dst e : TypeId} {v : Value} {xs : List Int} (hs : P.underlying src = some (.slice e)) (he : P.underlying e = some (.int .i32)) (hd : P.underlying dst = some .string)
    (h : (Kd.int .i32).Q e' w base ok v xs) (m : Nat) : (convert src dst v).run P (w.drewN m) = .ok (.string (runesBytes xs)) (w.drewN m) := by
  obtain ⟨A, c, rfl, _, hr⟩ := Kd.Q_reads h
  exact Kd.C_runestring_d hs he hd hr m
theorem own_runestring_d {P : Program} {w : World} {base n : Nat} {e' src dst e : TypeId} {v : Value} {xs : List Int} (hs : P.underlying src = some (.slice e)) (he : P.underlying e = some (.int .i32)) (hd : P.underlying dst = some .string)
    (h : w.ownsRow base e' 1 v n (nums .i32 xs)) (m : Nat) : (convert src dst v).run P (w.drewN m) = .ok (.string (runesBytes xs)) (w.drewN m) :=
  own_runestring hs he hd (pw_own_drewN h m)
/-! ### A row of numbers that is the call's own, with cells that may be written ('[]byte(s)' lays such a one) -/
def NumRow (k : IntKind) (w : World) (b e : Nat) (xs : List Int) : Prop :=
  ∃ cur fz, w.heap[b]? = some (.cells cur e fz) ∧ xs.length ≤ cur.size ∧ (∀ j, j < cur.size → ¬ (fz.1 ≤ j ∧ j < fz.2)) ∧ ∀ j, j < xs.length → cur[j]? = some (.int k (xs.getD j 0))
theorem NumRow.cell {k : IntKind} {w : World} {b e : Nat} {xs : List Int} (h : NumRow k w b e xs) {j : Nat} (hj : j < xs.length) : w.cell? ⟨b, j, none⟩ = some (.int k (xs.getD j 0)) := by
  obtain ⟨cur, fz, h1, h2, h3, h4⟩ := h
  simp only [World.cell?, h1]
  exact h4 j hj
theorem NumRow.free {k : IntKind} {w : World} {b e : Nat} {xs : List Int} (h : NumRow k w b e xs) {j : Nat} (hj : j < xs.length) : w.frozen? ⟨b, j, none⟩ = false := by
  obtain ⟨cur, fz, h1, h2, h3, h4⟩ := h
  have := h3 j (by omega)
  simp only [World.frozen?, h1]
  simpa using this
theorem NumRow.set {k : IntKind} {w : World} {b e : Nat} {xs : List Int} (h : NumRow k w b e xs) {j : Nat} (hj : j < xs.length) (y : Int) : NumRow k (w.setCell ⟨b, j, none⟩ (.int k y)) b e (xs.set j y) := by
  obtain ⟨cur, fz, h1, h2, h3, h4⟩ := h
  refine ⟨cur.setIfInBounds j (.int k y), fz, Lib.heap_setCell_same h1 _, by rw [List.length_set, Array.size_setIfInBounds]; exact h2, by rw [Array.size_setIfInBounds]; exact h3, fun i hi => ?_⟩
  rw [List.length_set] at hi
  rw [Array.getElem?_setIfInBounds]
  by_cases hij : j = i
  · subst hij
    rw [if_pos rfl, if_pos (by omega)]
    simp [List.getD_eq_getElem?_getD, hj]
  · rw [if_neg hij, h4 i hi]
    simp [List.getD_eq_getElem?_getD, List.getElem?_set, hij]
theorem NumRow.of_bytes (W : World) (e : Nat) (s : ByteArray) : NumRow .u8 (Lib.bytesWorld W e s) W.heap.size e (nums8 s) := by
  have hs : s.data.size = s.size := rfl
  refine ⟨_, _, Lib.bytesWorld_at_new W e s, ?_, ?_, ?_⟩
  · simp [Lib.bytesCells, nums8_length]
  · intro j hj; simp; omega
  · intro j hj
    rw [nums8_length] at hj
    simp [Lib.bytesCells, Array.getElem?_append, hs, hj, nums8, List.getD_eq_getElem?_getD]
theorem NumRow.below {k : IntKind} {w w1 : World} {b e B : Nat} {xs : List Int} (h : NumRow k w b e xs) (hb : Below B w w1) (hB : b < B) : NumRow k w1 b e xs := by
  obtain ⟨cur, fz, h1, h⟩ := h
  exact ⟨cur, fz, (hb.block b hB).trans h1, h⟩
theorem NumRow.string {P : Program} {w : World} {b e cap : Nat} {xs : List Int} (h : NumRow .u8 w b e xs) {src dst : TypeId} (hs : P.underlying src = some (.slice e)) (he : P.underlying e = some (.int .u8)) (hd : P.underlying dst = some .string)
    {n : Nat} (hn : n = xs.length) : (convert src dst (.slice (some ⟨b, 0, none⟩) n cap)).run P w = .ok (.string (strOfNums xs)) w := by
  subst hn
  exact run_convert_bytes_arg w src e hs he b 0 _ cap xs rfl (fun i hi => by rw [Nat.zero_add]; exact h.cell hi) dst hd
theorem run_bytes {P : Program} {src dst e : TypeId} (hs : P.underlying src = some .string) (hd : P.underlying dst = some (.slice e)) (he : P.underlying e = some (.int .u8)) (s : ByteArray) (W : World) :
    (convert src dst (.string s)).run P W = .ok (.slice (some ⟨W.heap.size, 0, none⟩) s.size (grownCap W s.size 0 e)) (Lib.bytesWorld W e s) := Lib.run_convert_string_bytes W src dst e s hs hd he
/-- The first j taken through f, the others as they were. -/
def halfMap (f : Int → Int) (xs : List Int) (j : Nat) : List Int := (xs.map f).take j ++ xs.drop j
theorem halfMap_zero (f : Int → Int) (xs : List Int) : halfMap f xs 0 = xs := by simp [halfMap]
theorem halfMap_all (f : Int → Int) (xs : List Int) {j : Nat} (h : xs.length ≤ j) : halfMap f xs j = xs.map f := by
  simp [halfMap, List.drop_eq_nil_of_le h, List.take_of_length_le (show (xs.map f).length ≤ j by simpa using h)]
theorem halfMap_length (f : Int → Int) (xs : List Int) (j : Nat) (h : j ≤ xs.length) : (halfMap f xs j).length = xs.length := by
  simp [halfMap]; omega
theorem halfMap_at (f : Int → Int) (xs : List Int) {j : Nat} (h : j < xs.length) : (halfMap f xs j).getD j 0 = xs.getD j 0 := by
  simp [halfMap, List.getD_eq_getElem?_getD, List.getElem?_append, Nat.min_eq_left (Nat.le_of_lt h)]
theorem halfMap_next (f : Int → Int) (xs : List Int) {j : Nat} (h : j < xs.length) : halfMap f xs (j + 1) = (halfMap f xs j).set j (f (xs.getD j 0)) := by
  apply List.ext_getElem?
  intro i
  have hm : min j xs.length = j := by omega
  have hm1 : min (j + 1) xs.length = j + 1 := by omega
  simp only [halfMap, List.getElem?_set, List.getElem?_append, List.length_take, List.length_map, hm, hm1, List.getElem?_take, List.getElem?_map, List.getElem?_drop, List.length_append, List.length_drop]
  by_cases h1 : i < j
  · rw [if_pos (by omega), if_pos (by omega), if_neg (by omega), if_pos h1, if_pos h1]
  · by_cases h2 : i = j
    · subst h2
      rw [if_pos (by omega), if_pos (by omega), if_pos rfl, if_pos (by omega)]
      simp [List.getD_eq_getElem?_getD, h]
    · rw [if_neg (by omega), if_neg (by omega), if_neg h1]
      rw [show j + 1 + (i - (j + 1)) = i by omega, show j + (i - j) = i by omega]
theorem halfMap_same (f : Int → Int) (xs : List Int) {j : Nat} (h : j < xs.length) (hx : f (xs.getD j 0) = xs.getD j 0) : halfMap f xs (j + 1) = halfMap f xs j := by
  rw [halfMap_next f xs h, hx]
  apply List.ext_getElem?
  intro i
  rw [List.getElem?_set]
  by_cases h2 : j = i
  · subst h2
    rw [if_pos rfl, if_pos (by rw [halfMap_length f xs j (by omega)]; exact h)]
    have := halfMap_at f xs h
    rw [List.getD_eq_getElem?_getD] at this
    rw [← this]
    rw [List.getElem?_eq_getElem (by rw [halfMap_length f xs j (by omega)]; exact h)]
    rfl
  · rw [if_neg h2]
/-- A row of marks by its number. -/
def bn_ (n k : Nat) : Array Bool := ((List.range n).map fun i => k.testBit i).toArray
theorem w_ : (∀ n, IntKind.i64.wrap n = wrap64 n) ∧ ∀ n, IntKind.i32.wrap n = wrap32 n := ⟨fun _ => by simp only [PrintLast.i64_w], fun _ => by simp only [PrintLast.i32_w]⟩
/-! ### Texts in order -/
theorem bytesLe_not : ∀ x y : List UInt8, (Op.bytesLess x y || x == y) = !Op.bytesLess y x
  | [], [] => rfl
  | [], _ :: _ => rfl
  | _ :: _, [] => rfl
  | a :: x, b :: y => by
    have ih := bytesLe_not x y
    unfold Op.bytesLess
    by_cases hab : a < b
    · have h1 : ¬ b < a := fun h => by rw [UInt8.lt_iff_toNat_lt] at *; omega
      have h2 : ¬ b = a := fun h => by subst h; exact h1 hab
      simp [hab, h1, h2]
    · by_cases hba : b < a
      · have h2 : ¬ a = b := fun h => by subst h; exact hab hba
        have h3 : ¬ b = a := fun h => h2 h.symm
        simp [hab, hba, h2]
      · have h2 : a = b := by
          apply UInt8.toNat_inj.1
          rw [UInt8.lt_iff_toNat_lt] at *
          omega
        subst h2
        simp [hab, ← ih]
theorem bytesGt_less (x y : List UInt8) : (!(Op.bytesLess x y || x == y)) = Op.bytesLess y x := by rw [bytesLe_not, Bool.not_not]
theorem run_store_float {P : Program} {w : World} {a : Addr} {m : Mode} (k : FloatKind) (b : Nat) : (store a (.float k b) m).run P w = stored P w a (.float k b) m := run_store P w a _ m rfl
/-! ### x - x of a float: nought, or a NaN whose bits the tape tells -/
theorem fsub_self {x r : Nat} (h : FloatKind.f64.format.sub x x = some r) : r = 0 := by
  unfold Ieee.Format.sub at h
  cases hd : FloatKind.f64.format.read x with
  | nan s t => rw [hd] at h; cases s <;> simp [Ieee.Datum.sum, Ieee.Datum.opposite] at h
  | infinity s => rw [hd] at h; cases s <;> simp [Ieee.Datum.sum, Ieee.Datum.opposite] at h
  | number s m i =>
    rw [hd] at h
    have ht : Ieee.signed s m 0 + Ieee.signed (!s) m 0 = 0 := by
      cases s <;> simp [Ieee.signed] <;> omega
    simp [Ieee.Datum.sum, Ieee.Datum.opposite, ht, Ieee.Format.write, Ieee.Format.nearest, Ieee.Format.word] at h
    first | exact h.symm | (cases s <;> simp at h <;> exact h.symm)
theorem forder_00 : FloatKind.f64.format.order 0 0 = some Ordering.eq := by decide +kernel
/-- A NaN's word. -/
def fnanBits (t : Nat) : Nat := t % 2 * 2 ^ 63 + 0x7ff0000000000000 + 1 + t / 2 % (2 ^ 52 - 1)
theorem fnan_read (t : Nat) : ∃ s u, FloatKind.f64.format.read (fnanBits t) = .nan s u := by
  unfold fnanBits Ieee.Format.read
  have hsw : FloatKind.f64.format.signWeight = 9223372036854775808 := by decide +kernel
  have hb : FloatKind.f64.format.binade = 4503599627370496 := by decide +kernel
  have hi : FloatKind.f64.format.infRung = 9218868437227405312 := by decide +kernel
  simp only [hsw, hb, hi]
  have e : (t % 2 * 2 ^ 63 + 0x7ff0000000000000 + 1 + t / 2 % (2 ^ 52 - 1)) % 9223372036854775808 = 9218868437227405312 + 1 + t / 2 % (2 ^ 52 - 1) := by omega
  rw [e, if_neg (by omega), if_neg (by omega), if_neg (by omega)]
  exact ⟨_, _, rfl⟩
theorem fnan_order (t y : Nat) : FloatKind.f64.format.order (fnanBits t) y = none := by
  obtain ⟨s, u, h⟩ := fnan_read t
  unfold Ieee.Format.order
  rw [h]
  simp [Ieee.Datum.order]
/-- The NaN that the world tells. -/
def fnanAt (x : Nat) (w : World) : Nat := fnanBits (w.tape w.drawn (.nanBits .f64 x x))
theorem fsub_nan_run {P : Program} {x : Nat} (h : FloatKind.f64.format.sub x x = none) (t : TypeId) (w : World) : (binOp .sub t (.float .f64 x) (.float .f64 x)).run P w = .ok (.float .f64 (fnanAt x w)) w.drew := by
  simp [binOp, Op.floatArith, h, Question.forced, Question.cut]
  rfl
theorem fsub_num_run {P : Program} {x : Nat} (h : ¬ FloatKind.f64.format.sub x x = none) (t : TypeId) (w : World) : (binOp .sub t (.float .f64 x) (.float .f64 x)).run P w = .ok (.float .f64 0) w := by
  obtain ⟨r, hr⟩ := Option.ne_none_iff_exists'.1 h
  obtain rfl := fsub_self hr
  simp [binOp, Op.floatArith, hr]
namespace Kd
/-! ### Floats that are only carried: their bits -/
def flt : Kd Nat := scalar (Value.float .f64) (fun _ => rfl)
theorem heap_flt : Heap Kd.flt := ⟨fun _ h => h⟩
theorem at_flt {w : World} {A : Option Addr} {n : Nat} {xs : List Nat} (h : Kd.flt.C w A n xs) (i : Int) (h0 : 0 ≤ i) (h1 : i < n) : ∃ ad, A = some ad ∧ w.cell? (ad.add i.toNat) = some (.float .f64 (rdOf (0 : Nat) xs i)) :=
  ReadsOf.at_ (reads_of_C (enc := Value.float .f64) (d := (0 : Nat)) (h1 := fun _ => rfl) h) i h0 h1
end Kd
end Go.Proofs.YtbjoipclkapcjaaGreatDoorW.PrintWords
