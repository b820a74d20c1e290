/- A text without white space at both ends: strings.TrimSpace is what the set's own reference says, character by character: for every text. Nothing is assumed but what every Go string fulfils, and the tables that TrimSpace looks into. -/
import Derived.Test.YtagafmfmmnegfaaDoorPx42
import Derived.Test.YtagafmfmmnegfaaDoorU9
namespace Go.Proofs.YtagafmfmmnegfaaDoor.Pure
open Go.RowKit Go.Proofs.YtagafmfmmnegfaaDoor.P Go.Proofs.YtagafmfmmnegfaaDoorW.PrintWords Go.Proofs.YtagafmfmmnegfaaDoorW.PrintLast
open Go.Lib (decodeL encodeRune encodeRuneZ)
open Go.Lib (isSpaceR decodeLastL runeStartB spaceSeqs trimLeftD trimRightD trimSpaceD)

/-- One byte that begins a character, and none behind it. -/
def shapeB (l : List UInt8) : Bool := match l with | [] => false | h :: t => runeStartB h && t.all fun b => !runeStartB b
theorem shape_len {t q : List UInt8} (hq : shapeB q = true) : ((t ++ q).reverse.takeWhile fun b => !runeStartB b).length + 1 = q.length := by
  match q, hq with
  | h :: r, hq =>
    simp only [shapeB, Bool.and_eq_true, List.all_eq_true, Bool.not_eq_true'] at hq
    rw [List.reverse_append, List.reverse_cons, List.append_assoc]
    rw [List.takeWhile_append_of_pos (by intro a ha; simp [hq.2 a (List.mem_reverse.1 ha)])]
    simp [hq.1]
theorem shape_same {t t' q q' : List UInt8} (hq : shapeB q = true) (hq' : shapeB q' = true) (h : t ++ q = t' ++ q') : q = q' := by
  have h1 := shape_len (t := t) hq
  have h2 := shape_len (t := t') hq'
  rw [h] at h1
  exact (List.append_inj' h (by omega)).2
theorem spaces_shape : ∀ q ∈ spaceSeqs, shapeB q = true := by decide +kernel
set_option maxRecDepth 100000 in
theorem enc_shape {c : Int} (h : okPoint c) : shapeB (enc c) = true := by
  obtain ⟨n, rfl, hn⟩ := h
  rw [enc_list]
  unfold encodeRune encodeRuneZ
  by_cases h1 : n < 128
  · rw [if_pos (by omega)]
    simp only [List.map_cons, List.map_nil, shapeB, runeStartB, List.all_nil]
    rw [u8n (n := n) (by omega) (by omega)]
    simp; omega
  · by_cases h2 : n < 2048
    · rw [if_neg (by omega), if_pos (by omega)]
      simp only [List.map_cons, List.map_nil, shapeB, runeStartB, List.all_nil, List.all_cons]
      rw [u8n (n := 192 + n / 64) (by omega) (by omega), u8n (n := 128 + n % 64) (by omega) (by omega)]
      simp; omega
    · by_cases h3 : n < 65536
      · rw [if_neg (by omega), if_neg (by omega), if_pos (by omega)]
        simp only [List.map_cons, List.map_nil, shapeB, runeStartB, List.all_nil, List.all_cons]
        rw [u8n (n := 224 + n / 4096) (by omega) (by omega), u8n (n := 128 + n / 64 % 64) (by omega) (by omega), u8n (n := 128 + n % 64) (by omega) (by omega)]
        simp; omega
      · rw [if_neg (by omega), if_neg (by omega), if_neg (by omega), if_pos (by omega)]
        simp only [List.map_cons, List.map_nil, shapeB, runeStartB, List.all_nil, List.all_cons]
        rw [u8n (n := 240 + n / 262144) (by omega) (by omega), u8n (n := 128 + n / 4096 % 64) (by omega) (by omega), u8n (n := 128 + n / 64 % 64) (by omega) (by omega), u8n (n := 128 + n % 64) (by omega) (by omega)]
        simp; omega
theorem dec_head {c : Int} (h : okPoint c) (z : List UInt8) : decodeL (enc c ++ z) = (c.toNat, (enc c).length) := by
  obtain ⟨n, rfl, hn⟩ := h
  rw [enc_list, decode_enc n hn z]
  rfl
/-- White space, a code point. -/
def sp (c : Int) : Bool := isSpaceR c.toNat
theorem seq_of_sp {c : Int} (h : okPoint c) (hs : sp c = true) : enc c ∈ spaceSeqs := by
  have hd := dec_head h []
  rw [List.append_nil] at hd
  have hne : enc c ≠ [] := fun e => by have := enc_pos h; rw [e] at this; simp at this
  have := (Lib.space_has_seq (enc c) hne (by rw [hd]; exact hs)).1
  rw [hd] at this
  simpa using this
theorem last_sp (t : List UInt8) {c : Int} (h : okPoint c) : isSpaceR (decodeLastL (t ++ enc c)).1 = sp c ∧ (sp c = true → (decodeLastL (t ++ enc c)).2 = (enc c).length) := by
  cases hs : sp c with
  | true =>
    have := Lib.seq_decodes_last _ (seq_of_sp h hs) t
    exact ⟨this.1, fun _ => this.2⟩
  | false =>
    refine ⟨?_, fun x => by cases x⟩
    rw [Bool.eq_false_iff]
    intro hx
    have hne : t ++ enc c ≠ [] := fun e => by have := enc_pos h; simp at e; rw [e.2] at this; simp at this
    have hm := Lib.space_has_seq_last _ hne hx
    have hw := Lib.decodeLastL_width (t ++ enc c) (List.length_pos_iff.2 hne)
    have e := shape_same (t := (t ++ enc c).take ((t ++ enc c).length - (decodeLastL (t ++ enc c)).2)) (t' := t) (spaces_shape _ hm) (enc_shape h) (List.take_append_drop _ _)
    rw [e] at hm
    have h2 := (Lib.seq_decodes _ hm []).1
    rw [dec_head h] at h2
    exact absurd (hs.symm.trans h2) (by simp)
theorem trimL : ∀ (cs : List Int) (f : Nat), (∀ c ∈ cs, okPoint c) → (cs.flatMap enc).length ≤ f → trimLeftD f (cs.flatMap enc) = (cs.dropWhile sp).flatMap enc
  | [], f, _, _ => by simp only [List.flatMap_nil, List.dropWhile_nil]; exact Lib.trimLeftD_nil f
  | c :: cs, f, hc, hf => by
    have h0 := hc c (List.mem_cons_self ..)
    have hp := enc_pos h0
    rw [List.flatMap_cons] at hf ⊢
    rw [List.length_append] at hf
    obtain ⟨g, rfl⟩ : ∃ g, f = g + 1 := ⟨f - 1, by omega⟩
    have hne : enc c ++ cs.flatMap enc ≠ [] := List.ne_nil_of_length_pos (by rw [List.length_append]; omega)
    rw [trimLeftD, if_neg hne, dec_head h0]
    show (if sp c = true then _ else _) = _
    cases hs : sp c with
    | true =>
      rw [if_pos rfl, List.drop_left, List.dropWhile_cons_of_pos hs]
      exact trimL cs g (fun x hx => hc x (List.mem_cons_of_mem _ hx)) (by omega)
    | false =>
      rw [if_neg (by simp), List.dropWhile_cons_of_neg (by simp [hs]), List.flatMap_cons]
/-- Without white space behind. -/
def rstrip (cs : List Int) : List Int := (cs.reverse.dropWhile sp).reverse
theorem trimR : ∀ (rs : List Int) (f : Nat), (∀ c ∈ rs, okPoint c) → (rs.reverse.flatMap enc).length ≤ f → trimRightD f (rs.reverse.flatMap enc) = (rs.dropWhile sp).reverse.flatMap enc
  | [], f, _, _ => by simp only [List.reverse_nil, List.flatMap_nil, List.dropWhile_nil]; exact Lib.trimRightD_nil f
  | c :: rs, f, hc, hf => by
    have h0 := hc c (List.mem_cons_self ..)
    have hp := enc_pos h0
    have e1 : (c :: rs).reverse.flatMap enc = rs.reverse.flatMap enc ++ enc c := by simp
    rw [e1] at hf ⊢
    rw [List.length_append] at hf
    obtain ⟨g, rfl⟩ : ∃ g, f = g + 1 := ⟨f - 1, by omega⟩
    have hne : rs.reverse.flatMap enc ++ enc c ≠ [] := List.ne_nil_of_length_pos (by rw [List.length_append]; omega)
    have hl := last_sp (rs.reverse.flatMap enc) h0
    rw [trimRightD, if_neg hne, hl.1]
    cases hs : sp c with
    | true =>
      rw [if_pos rfl, hl.2 hs, List.length_append, Nat.add_sub_cancel, List.take_left, List.dropWhile_cons_of_pos hs]
      exact trimR rs g (fun x hx => hc x (List.mem_cons_of_mem _ hx)) (by omega)
    | false =>
      rw [if_neg (by simp), List.dropWhile_cons_of_neg (by simp [hs]), e1]
/-- Without white space at both ends. -/
def strip (cs : List Int) : List Int := rstrip (cs.dropWhile sp)
theorem trim_both (cs : List Int) (hc : ∀ c ∈ cs, okPoint c) : trimSpaceD (cs.flatMap enc) = (strip cs).flatMap enc := by
  unfold trimSpaceD
  have hle := Lib.trimLeftD_le (cs.flatMap enc).length (cs.flatMap enc)
  rw [trimL cs _ hc (Nat.le_refl _)] at hle ⊢
  have hd : ∀ c ∈ cs.dropWhile sp, okPoint c := fun c h => hc c ((List.dropWhile_sublist _).mem h)
  have e : cs.dropWhile sp = (cs.dropWhile sp).reverse.reverse := by rw [List.reverse_reverse]
  have := trimR (cs.dropWhile sp).reverse (cs.flatMap enc).length (fun c h => hd c (List.mem_reverse.1 h)) (by rw [← e]; exact hle)
  rw [← e] at this
  exact this
theorem isp (n : Nat) : isSpaceR n = true ↔ (9 ≤ n ∧ n ≤ 13) ∨ n = 32 ∨ n = 133 ∨ n = 160 ∨ n = 5760 ∨ (8192 ≤ n ∧ n ≤ 8202) ∨ n = 8232 ∨ n = 8233 ∨ n = 8239 ∨ n = 8287 ∨ n = 12288 := by
  simp [isSpaceR, or_assoc]
theorem spec_sp {c : Int} (h : okPoint c) : spec_IsSpace.f c = some (sp c) := by
  obtain ⟨n, rfl, hn⟩ := h
  have e : sp (n : Int) = isSpaceR n := rfl
  rw [e]
  unfold spec_IsSpace.f
  have hi := isp n
  cases hb : isSpaceR n with
  | true =>
    rw [hb] at hi
    have h := hi.1 rfl
    rcases h with h | h | h | h | h | h | h | h | h | h | h
    all_goals repeat (first | rw [if_pos (by omega)] | rw [if_neg (by omega)])
    all_goals (congr 1; rw [beq_iff_eq]; omega)
  | false =>
    rw [hb] at hi
    have h : ¬ _ := fun x => Bool.false_ne_true (hi.2 x)
    clear hi
    by_cases h9 : n ≥ 9
    · by_cases h8 : n ≥ 8192
      · repeat (first | rw [if_pos (by omega)] | rw [if_neg (by omega)])
        congr 1; rw [beq_eq_false_iff_ne]; omega
      · repeat (first | rw [if_pos (by omega)] | rw [if_neg (by omega)])
        congr 1; rw [beq_eq_false_iff_ne]; omega
    · repeat (first | rw [if_pos (by omega)] | rw [if_neg (by omega)])
      congr 1; rw [beq_eq_false_iff_ne]; omega
theorem back_from : ∀ rs : List Int, rs.length ≤ 1000 → (∀ c ∈ rs, okPoint c) → Ev (fun k => spec_cut_IsSpace.l1 k rs.reverse) (runesBytes (rs.dropWhile sp).reverse)
  | [], _, _ => by
    refine Ev.step (fun k => by rw [spec_cut_IsSpace.l1]) ?_
    exact Ev.neg (by simp) (Ev.ok _)
  | c :: rs, hl, hc => by
    have h0 := hc c (List.mem_cons_self ..)
    rw [List.length_cons] at hl
    have hlen : ((c :: rs).reverse.length : Int) = (rs.length : Int) + 1 := by simp
    have hw : wrap64 (((c :: rs).reverse.length : Int) - 1) = (rs.length : Int) := by rw [hlen, w64_in (by omega) (by omega)]; omega
    have hr : rd (c :: rs).reverse (rs.length : Int) = c := by
      simp [rd, List.getD_eq_getElem?_getD]
    have ht : (c :: rs).reverse.take ((rs.length : Int)).toNat = rs.reverse := by
      rw [List.reverse_cons, Int.toNat_natCast]
      have : rs.length = rs.reverse.length := by simp
      rw [this, List.take_left]
    refine Ev.step (fun k => by rw [spec_cut_IsSpace.l1, hw, hr, spec_sp h0, ht]) ?_
    refine Ev.pos (by omega) (Ev.pos (by omega) (Ev.pos (by omega) ?_))
    simp only [Option.bind_some]
    cases hs : sp c with
    | true =>
      rw [List.dropWhile_cons_of_pos hs]
      exact Ev.pos rfl (Ev.pos (by omega) (back_from rs (by omega) fun x hx => hc x (List.mem_cons_of_mem _ hx)))
    | false =>
      rw [List.dropWhile_cons_of_neg (by simp [hs])]
      exact Ev.neg (by simp) (Ev.ok _)
theorem rear (cs : List Int) (hl : cs.length ≤ 1000) (hc : ∀ c ∈ cs, okPoint c) : Ev (fun k => spec_cut_IsSpace.j1 k cs) (runesBytes (rstrip cs)) := by
  refine Ev.step (fun k => by rw [spec_cut_IsSpace.j1]) ?_
  have := back_from cs.reverse (by simpa using hl) (fun c h => hc c (List.mem_reverse.1 h))
  rw [List.reverse_reverse] at this
  exact this
theorem front_from : ∀ cs : List Int, cs.length ≤ 1000 → (∀ c ∈ cs, okPoint c) → Ev (fun k => spec_cut_IsSpace.l0 k cs) (runesBytes (strip cs))
  | [], hl, hc => by
    refine Ev.step (fun k => by rw [spec_cut_IsSpace.l0]) ?_
    exact Ev.neg (by simp) (rear [] hl hc)
  | c :: cs, hl, hc => by
    have h0 := hc c (List.mem_cons_self ..)
    have hlen : ((c :: cs).length : Int) = (cs.length : Int) + 1 := by simp
    have hr : rd (c :: cs) 0 = c := rfl
    refine Ev.step (fun k => by rw [spec_cut_IsSpace.l0, hr, spec_sp h0]) ?_
    refine Ev.pos (by omega) (Ev.pos (by omega) ?_)
    simp only [Option.bind_some]
    cases hs : sp c with
    | true =>
      have e : strip (c :: cs) = strip cs := by unfold strip; rw [List.dropWhile_cons_of_pos hs]
      rw [e]
      rw [List.length_cons] at hl
      exact Ev.pos rfl (Ev.pos (by omega) (front_from cs (by omega) fun x hx => hc x (List.mem_cons_of_mem _ hx)))
    | false =>
      have e : strip (c :: cs) = rstrip (c :: cs) := by unfold strip; rw [List.dropWhile_cons_of_neg (by simp [hs])]
      rw [e]
      exact Ev.neg (by simp) (rear _ hl hc)
theorem impl_f (s : ByteArray) (hs : s.size ≤ 500) : impl_Trim.f s = some ⟨(trimSpaceD s.data.toList).toArray⟩ := by
  unfold impl_Trim.f sprig_Trim.f sprig_trim.f strings_TrimSpace.f
  rw [if_pos (by omega)]
  rfl
theorem FnTrim : laws_FnTrim.Pure := by
  intro s hs
  by_cases h6 : (s.size : Int) > 2147483647
  · refine ⟨0, ?_⟩
    unfold laws_FnTrim.f
    rw [if_pos h6]
  · obtain ⟨b, e, hb⟩ := text9_tells [s] (by simp)
    refine Ev.rounds ?_
    unfold laws_FnTrim.f
    refine Ev.neg h6 (Ev.bind e ?_)
    cases b with
    | false => exact Ev.neg (by simp) (Ev.ok _)
    | true =>
      obtain ⟨h5, hu⟩ := hb rfl s (by simp)
      have hok := ok_of hu
      have hof := ofCh_of hu
      have hlen : (runesOf s).length ≤ 1000 := by
        have h1 := chars_le (runesOf s) hok
        have h2 := ofCh_size (runesOf s)
        rw [← hof] at h2
        omega
      have hi : impl_Trim.f s = some (runesBytes (strip (runesOf s))) := by
        rw [impl_f s h5, ← ofCh_runes]
        have : s.data.toList = (runesOf s).flatMap enc := by
          have h2 := ofCh_list (runesOf s)
          rw [← hof] at h2
          exact h2
        rw [this, trim_both _ hok]
        rfl
      have hsp : Ev (fun k => spec_Trim.f k s) (runesBytes (strip (runesOf s))) := by
        have hp : spec_Points.f s = some (runesOf s, true) := by
          unfold spec_Points.f spec_replaced.f
          rw [if_pos (by omega)]
          simp only [Option.bind_some]
          rw [if_pos (by rw [hu.1]), if_pos (by omega), hu.2]
          rfl
        unfold spec_Trim.f spec_cut_IsSpace.f
        rw [hp]
        exact Ev.bind (f := fun _ t => some t) (front_from _ hlen hok) (Ev.ok _)
      refine Ev.pos rfl ?_
      rw [hi]
      simp only [Option.bind_some]
      refine Ev.bind hsp (Ev.pos rfl ?_)
      rw [impl_f _ (by decide)]
      have ht : trimSpaceD (⟨#[32, 97, 10]⟩ : ByteArray).data.toList = [97] := by decide +kernel
      rw [ht]
      simp only [Option.bind_some]
      refine Ev.eq ?_ (Ev.ok _)
      decide +kernel
end Go.Proofs.YtagafmfmmnegfaaDoor.Pure
