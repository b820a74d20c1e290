/- Two ways of putting a text in the place of another one tell the same. Nothing is assumed but what is said in each law. -/
import Derived.Test.YtfnogloefimeiaaDoorPx9
import Derived.Test.YtfnogloefimeiaaDoorPx8
namespace Go.Proofs.YtfnogloefimeiaaDoor.Pure
open Go.RowKit Go.Proofs.YtfnogloefimeiaaDoor.P Go.Proofs.YtfnogloefimeiaaDoorW.PrintWords Go.Proofs.YtfnogloefimeiaaDoorW.PrintLast

/-- The text from place i on, with new for each p. -/
inductive Repl (s p new : ByteArray) : Nat → List UInt8 → Prop
  | last (i : Nat) (h : ∀ j, i ≤ j → ¬ occ s p j) : Repl s p new i (s.data.toList.drop i)
  | more (i j : Nat) (R : List UInt8) (h1 : i ≤ j) (h2 : occ s p j) (h3 : ∀ j', i ≤ j' → j' < j → ¬ occ s p j') (r : Repl s p new (j + p.size) R) :
      Repl s p new i ((s.data.toList.drop i).take (j - i) ++ new.data.toList ++ R)
theorem Repl.same {s p new : ByteArray} {i : Nat} {R R' : List UInt8} (h : Repl s p new i R) (h' : Repl s p new i R') : R = R' := by
  induction h generalizing R' with
  | last i h =>
    cases h' with
    | last => rfl
    | more _ j R h1 h2 h3 r => exact absurd h2 (h j h1)
  | more i j R h1 h2 h3 r ih =>
    cases h' with
    | last _ h => exact absurd h2 (h j h1)
    | more _ j2 R2 g1 g2 g3 r2 =>
      have a : ¬ j < j2 := fun hl => g3 j h1 hl h2
      have b : ¬ j2 < j := fun hl => h3 j2 g1 hl g2
      obtain rfl : j = j2 := by omega
      rw [ih r2]

theorem occ_from (s p : ByteArray) (i j : Nat) (hi : i ≤ s.size) : occ (s.extract i s.size) p j ↔ occ s p (i + j) := by
  unfold occ
  have hsz : (s.extract i s.size).size = s.size - i := by rw [ByteArray.size_extract]; omega
  rw [hsz]
  have he : (s.extract i s.size).extract j (j + p.size) = s.extract (i + j) (min (i + (j + p.size)) s.size) := by rw [ByteArray.extract_extract]
  rw [he]
  constructor
  · rintro ⟨h1, h2⟩
    refine ⟨by omega, ?_⟩
    rw [show min (i + (j + p.size)) s.size = i + j + p.size by omega] at h2
    exact h2
  · rintro ⟨h1, h2⟩
    refine ⟨by omega, ?_⟩
    rw [show min (i + (j + p.size)) s.size = i + j + p.size by omega]
    exact h2
theorem firstAt_from {s p : ByteArray} {i : Nat} {r : Int} (hi : i ≤ s.size) (h : firstAt (s.extract i s.size) p 0 r) :
    (r = -1 ∧ ∀ j, i ≤ j → ¬ occ s p j) ∨ ∃ j : Nat, r = ((j - i : Nat) : Int) ∧ i ≤ j ∧ occ s p j ∧ ∀ j', i ≤ j' → j' < j → ¬ occ s p j' := by
  rcases h with ⟨rfl, h⟩ | ⟨j, rfl, _, h2, h3⟩
  · refine .inl ⟨rfl, fun j hj ho => h (j - i) (by omega) ((occ_from s p i _ hi).2 ?_)⟩
    rwa [show i + (j - i) = j by omega]
  · refine .inr ⟨i + j, by rw [show i + j - i = j by omega], by omega, (occ_from s p i _ hi).1 h2, fun j' h4 h5 ho => h3 (j' - i) (by omega) (by omega) ((occ_from s p i _ hi).2 ?_)⟩
    rwa [show i + (j' - i) = j' by omega]
theorem zzIndex_first (s p : ByteArray) (hs : s.size ≤ 281474976710656) (hp : p.size ≤ 281474976710656) : ∃ r, Ev (fun k => sprig_zzIndex.f k s p) r ∧ firstAt s p 0 r :=
  index_tells (fun k x => sprig_zzIndex.l0 k s p x) s p hs hp (fun k x => by rw [sprig_zzIndex.l0]) _ 0 (by omega) rfl
theorem place_first (s p : ByteArray) (hs : s.size ≤ 281474976710656) (hp : p.size ≤ 281474976710656) (i : Nat) (hi : i ≤ s.size + 1) : ∃ r, Ev (fun k => spec_Place.f k p s (i : Int)) r ∧ firstAt s p i r :=
  index_tells (fun k x => spec_Place.l0 k p s x) s p hs hp (fun k x => by rw [spec_Place.l0]) _ i hi rfl

theorem bytesOf_map (s : ByteArray) : bytesOf s = s.data.toList.map fun b => (b.toNat : Int) := rfl
theorem strOfNums_back (l : List UInt8) : strOfNums (l.map fun b => (b.toNat : Int)) = ⟨l.toArray⟩ := by
  unfold strOfNums
  rw [List.map_map]
  congr 2
  conv => rhs; rw [← List.map_id l]
  exact List.map_congr_left fun b _ => by simp
theorem extract_nums (s : ByteArray) (i j : Nat) : bytesOf (s.extract i j) = ((s.data.toList.drop i).take (j - i)).map fun b => (b.toNat : Int) := by rw [bytesOf_map, extract_list]

theorem w64_add {a b : Nat} (h : a + b ≤ 9223372036854775807) : wrap64 ((a : Int) + (b : Int)) = ((a + b : Nat) : Int) := by
  rw [w64_in (by omega) (by omega)]
  omega
/-- The numbers of one step. -/
theorem step_nums {i j P S A N : Nat} (h1 : i ≤ j) (ho : j + P ≤ S) (hs : S ≤ 1000000) (hp : 1 ≤ P) (hn : N ≤ 1000) (hA : A ≤ i * 1001) :
    A + (j - i) + N ≤ (j + P) * 1001 ∧ A + (j - i) + N ≤ 1002001000 ∧ i + (j - i) = j ∧ S - (j + P) < S - i := by
  refine ⟨by omega, by omega, by omega, by omega⟩
theorem nz {n : Nat} (h : 1 ≤ n) : ¬ (n : Int) = 0 := by omega
theorem nneg (n : Nat) : ¬ (n : Int) < 0 := by omega
theorem lt_a {a b c : Nat} (h : a + b + c ≤ 1002001000) : a + b < 140737488355328 := by omega
theorem lt_b {a b c : Nat} (h : a + b + c ≤ 1002001000) : a + b + c < 140737488355328 := by omega
theorem le_c {a b c : Nat} (h : a + b + c ≤ 1002001000) : b + c ≤ 9223372036854775807 := by omega
theorem le_d {a b c : Nat} (h : a + b + c ≤ 1002001000) : a + (b + c) ≤ 9223372036854775807 := by omega
theorem zzReplace_from (s p new : ByteArray) (hs : s.size ≤ 1000000) (hp : 1 ≤ p.size) (hp2 : p.size ≤ 1000000) (hn : new.size ≤ 1000) :
    ∀ (d i : Nat) (A : List UInt8) (m : Nat), i ≤ s.size → s.size - i = d → A.length ≤ i * 1001 → m ≤ i →
    ∃ R, Repl s p new i R ∧ Ev (fun k => sprig_zzReplace.l0 k s p new (-1) (A.map fun b => (b.toNat : Int)) (i : Int) (m : Int)) (⟨(A ++ R).toArray⟩ : ByteArray) := by
  intro d
  induction d using Nat.strongRecOn with
  | _ d ih =>
    intro i A m hi hd hA hm
    have hsz : (s.extract i s.size).size = s.size - i := by rw [ByteArray.size_extract]; omega
    obtain ⟨r, er, hr⟩ := zzIndex_first (s.extract i s.size) p (by omega) (by omega)
    have into : ∀ {X : ByteArray}, Ev (fun k => sprig_zzReplace.j1 k s p new (-1) (A.map fun b => (b.toNat : Int)) (i : Int) (m : Int) true) X → Ev (fun k => sprig_zzReplace.l0 k s p new (-1) (A.map fun b => (b.toNat : Int)) (i : Int) (m : Int)) X :=
      fun e => Ev.step (fun k => by rw [sprig_zzReplace.l0]) (Ev.pos (by omega) e)
    have hlen : (A.map fun b => (b.toNat : Int)).length = A.length := List.length_map _
    rcases firstAt_from hi hr with ⟨rfl, hno⟩ | ⟨j, rfl, h1, h2, h3⟩
    · refine ⟨_, .last i hno, into ?_⟩
      refine Ev.step (fun k => by rw [sprig_zzReplace.j1, Int.toNat_natCast]) ?_
      refine Ev.pos rfl (Ev.neg (by omega) (Ev.pos (by omega) (Ev.pos (by omega) (Ev.bind er (Ev.pos (by omega) (Ev.pos (by rw [hlen, hsz]; omega) ?_))))))
      refine Ev.eq ?_ (Ev.ok _)
      rw [extract_nums, ← List.map_append, strOfNums_back, List.take_of_length_le (by simp)]
    · have ho := h2.1
      obtain ⟨n1, n2, n3, n4⟩ := step_nums h1 ho hs hp hn hA
      have hex : (s.extract i j).size = j - i := by rw [ByteArray.size_extract, Nat.min_eq_left (Nat.le_trans (Nat.le_add_right _ _) ho)]
      have w1 : wrap64 ((i : Int) + ((j - i : Nat) : Int)) = (j : Int) := by rw [w64_add (by rw [n3]; exact Nat.le_trans (Nat.le_trans (Nat.le_add_right _ _) ho) (Nat.le_trans hs (by decide))), n3]
      have w2 : wrap64 ((j : Int) + (p.size : Int)) = ((j + p.size : Nat) : Int) := w64_add (Nat.le_trans ho (Nat.le_trans hs (by decide)))
      have w3 : wrap64 ((m : Int) + 1) = ((m + 1 : Nat) : Int) := w64_add (a := m) (b := 1) (Nat.le_trans (Nat.succ_le_succ (Nat.le_trans hm (Nat.le_trans hi hs))) (by decide))
      have hA2 : (A ++ (s.data.toList.drop i).take (j - i) ++ new.data.toList).length ≤ (j + p.size) * 1001 := by
        rw [List.length_append, List.length_append, List.length_take, List.length_drop, size_list, size_list, Nat.min_eq_left (Nat.sub_le_sub_right (Nat.le_trans (Nat.le_add_right _ _) ho) i)]
        exact n1
      obtain ⟨R, hR, eR⟩ := ih (s.size - (j + p.size)) (by rw [← hd]; exact n4) (j + p.size) (A ++ (s.data.toList.drop i).take (j - i) ++ new.data.toList) (m + 1) ho rfl hA2 (Nat.add_le_add (Nat.le_trans hm h1) hp)
      refine ⟨_, .more i j R h1 h2 h3 hR, into ?_⟩
      have hy : (A.map (fun b => (b.toNat : Int)) ++ bytesOf (s.extract i j)).length = A.length + (j - i) := by rw [List.length_append, hlen, bytesOf_length, hex]
      have e1 : A.map (fun b => (b.toNat : Int)) ++ bytesOf (s.extract i j) ++ bytesOf new = (A ++ (s.data.toList.drop i).take (j - i) ++ new.data.toList).map fun b => (b.toNat : Int) := by
        rw [extract_nums, bytesOf_map, List.map_append, List.map_append]
      have fin : A ++ (s.data.toList.drop i).take (j - i) ++ new.data.toList ++ R = A ++ ((s.data.toList.drop i).take (j - i) ++ new.data.toList ++ R) := by simp only [List.append_assoc]
      refine Ev.step (fun k => by rw [sprig_zzReplace.j1, Int.toNat_natCast]) ?_
      refine Ev.pos rfl ?_
      refine Ev.neg (nz hp) ?_
      refine Ev.pos (Int.natCast_nonneg _) ?_
      refine Ev.pos (Int.ofNat_le.2 hi) ?_
      refine Ev.bind er ?_
      refine Ev.neg (nneg _) ?_
      rw [w1, Int.toNat_natCast, w2, w3]
      refine Ev.pos (Int.ofNat_le.2 h1) ?_
      refine Ev.pos (Int.ofNat_le.2 (Nat.le_trans (Nat.le_add_right _ _) ho)) ?_
      refine Ev.pos (by rw [hlen, hex]; exact lt_a n2) ?_
      refine Ev.bind (Ev.ok _) ?_
      refine Ev.pos (by rw [hy]; exact lt_b n2) ?_
      rw [e1]
      exact Ev.eq (congrArg (fun l : List UInt8 => (⟨l.toArray⟩ : ByteArray)) fin) eR
theorem replaceAll_from (s p new : ByteArray) (hs : s.size ≤ 1000000) (hp : 1 ≤ p.size) (hp2 : p.size ≤ 1000000) (hn : new.size ≤ 1000) :
    ∀ (d i : Nat) (A : ByteArray), i ≤ s.size → s.size - i = d → A.size ≤ i * 1001 →
    ∃ R, Repl s p new i R ∧ Ev (fun k => spec_ReplaceAll.l0 k p new s A (i : Int)) (⟨(A.data.toList ++ R).toArray⟩ : ByteArray) := by
  intro d
  induction d using Nat.strongRecOn with
  | _ d ih =>
    intro i A hi hd hA
    obtain ⟨r, er, hr⟩ := place_first s p (by omega) (by omega) i (by omega)
    have hsz : (s.extract i s.size).size = s.size - i := by rw [ByteArray.size_extract]; omega
    rcases hr with ⟨rfl, hno⟩ | ⟨j, rfl, h1, h2, h3⟩
    · refine ⟨_, .last i hno, ?_⟩
      refine Ev.step (fun k => by rw [spec_ReplaceAll.l0, Int.toNat_natCast]) ?_
      refine Ev.bind er (Ev.pos (by omega) (Ev.pos (by omega) (Ev.pos (by omega) (Ev.pos (by rw [hsz]; omega) ?_))))
      refine Ev.eq ?_ (Ev.ok _)
      apply ba_ext
      rw [append_list, extract_list, List.take_of_length_le (by simp)]
    · have ho := h2.1
      obtain ⟨n1, n2, n3, n4⟩ := step_nums h1 ho hs hp hn hA
      have hex : (s.extract i j).size = j - i := by rw [ByteArray.size_extract, Nat.min_eq_left (Nat.le_trans (Nat.le_add_right _ _) ho)]
      have hB : (A ++ (s.extract i j ++ new)).size ≤ (j + p.size) * 1001 := by
        rw [ByteArray.size_append, ByteArray.size_append, hex, ← Nat.add_assoc]; exact n1
      obtain ⟨R, hR, eR⟩ := ih (s.size - (j + p.size)) (by rw [← hd]; exact n4) (j + p.size) (A ++ (s.extract i j ++ new)) ho rfl hB
      have w2 : wrap64 ((j : Int) + (p.size : Int)) = ((j + p.size : Nat) : Int) := w64_add (Nat.le_trans ho (Nat.le_trans hs (by decide)))
      have fin : (⟨((A ++ (s.extract i j ++ new)).data.toList ++ R).toArray⟩ : ByteArray) = ⟨(A.data.toList ++ ((s.data.toList.drop i).take (j - i) ++ new.data.toList ++ R)).toArray⟩ := by
        rw [append_list, append_list, extract_list]
        simp only [List.append_assoc]
      refine ⟨_, .more i j R h1 h2 h3 hR, ?_⟩
      refine Ev.step (fun k => by rw [spec_ReplaceAll.l0, Int.toNat_natCast]) ?_
      refine Ev.bind er ?_
      refine Ev.neg (nneg _) ?_
      rw [Int.toNat_natCast, w2]
      refine Ev.pos (Int.natCast_nonneg _) ?_
      refine Ev.pos (Int.ofNat_le.2 h1) ?_
      refine Ev.pos (Int.ofNat_le.2 (Nat.le_trans (Nat.le_add_right _ _) ho)) ?_
      refine Ev.pos (by rw [hex]; exact le_c n2) ?_
      refine Ev.pos (by rw [ByteArray.size_append, hex]; exact le_d n2) ?_
      exact Ev.eq fin eR

/-- Both tell the same text. -/
theorem replaced_same (s p new : ByteArray) (hs : s.size ≤ 1000000) (hp : 1 ≤ p.size) (hp2 : p.size ≤ 1000000) (hn : new.size ≤ 1000) :
    ∃ t : ByteArray, t.size ≤ 1001000000 ∧ Ev (fun k => sprig_zzReplace.f k s p new (-1)) t ∧ Ev (fun k => spec_ReplaceAll.f k p new s) t := by
  obtain ⟨R, hR, e⟩ := zzReplace_from s p new hs hp hp2 hn _ 0 [] 0 (by omega) rfl (by simp) (by omega)
  obtain ⟨R', hR', e'⟩ := replaceAll_from s p new hs hp hp2 hn _ 0 ⟨#[]⟩ (by omega) rfl (by decide)
  obtain rfl := hR.same hR'
  refine ⟨⟨R.toArray⟩, ?_, by unfold sprig_zzReplace.f; exact e, by unfold spec_ReplaceAll.f; exact e'⟩
  have size : ∀ {i : Nat} {R : List UInt8}, Repl s p new i R → i ≤ s.size → R.length ≤ (s.size - i) * 1001 := by
    intro i R h
    induction h with
    | last i h => intro hi; rw [List.length_drop, size_list]; omega
    | more i j R h1 h2 h3 r ih =>
      intro hi
      have := h2.1
      have := ih (by omega)
      rw [List.length_append, List.length_append, List.length_take, List.length_drop, size_list, size_list]
      omega
  have := size hR (by omega)
  show R.toArray.size ≤ _
  rw [List.size_toArray]
  omega
end Go.Proofs.YtfnogloefimeiaaDoor.Pure
