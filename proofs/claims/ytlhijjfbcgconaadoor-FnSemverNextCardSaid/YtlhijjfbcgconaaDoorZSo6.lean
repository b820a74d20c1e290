/- FnSemverOrder holds. -/
import Derived.Test.YtlhijjfbcgconaaDoorZSo5
set_option linter.unusedVariables false
set_option linter.unusedSimpArgs false
namespace Go.Proofs.YtlhijjfbcgconaaDoor.P
open Go.RowKit Go.Proofs.YtlhijjfbcgconaaDoorW.PrintWords Go.Proofs.YtlhijjfbcgconaaDoorW.PrintLast Go.Proofs.YtlhijjfbcgconaaDoorW.PrintMore

set_option maxHeartbeats 1600000 in
set_option maxRecDepth 100000 in
theorem implOrder_call {s t : ByteArray} {a b c d a' b' c' d' : Nat} {n1 n2 n3 m1 m2 m3 : Int} {pa ma pb mb : ByteArray} (hs : Form s a b c d n1 n2 n3 pa ma) (ht : Form t a' b' c' d' m1 m2 m3 pb mb) (l m : List ByteArray) (hl : IdL pa l) (hm : IdL pb m) (w : World) (hE : TabsE w) :
    Calls Tryd.prog 13 #[.string s, .string t] w fun e w' => e = .returned (.tuple #[.int .i64 (cmpV n1 n2 n3 m1 m2 m3 pa pb (cmpL l m)), .bool true]) ∧ Below w.heap.size w w' := by
  have HA := Lib.hid (fun W => newVersion_call hs W)
  have HB := Lib.hid (fun W => newVersion_call ht W)
  have HE := Lib.hid hE
  have HPR := Lib.hid (show 0 < pa.size → 0 < pb.size → ∀ W, TabsE W → Calls Tryd.prog 53 #[.string pa, .string pb] W fun e w' => e = .returned (.int .i64 (cmpL l m)) ∧ Below W.heap.size W w' from fun h1 h2 W hW => by
    obtain ⟨⟨K, hK⟩, _, g1, z1⟩ := hl h1
    obtain ⟨⟨K', hK'⟩, _, g2, z2⟩ := hm h2
    exact prerelease_call (max K K') pa pb l m (hK _ (by omega)) (hK' _ (by omega)) g1 g2 z1 z2 W hW)
  clear hs ht hl hm hE
  generalize cmpL l m = C at *
  obtain ⟨r, hr⟩ : ∃ r, r = cmpV n1 n2 n3 m1 m2 m3 pa pb C := ⟨_, rfl⟩
  have HR := Lib.hid hr
  rw [← hr]
  clear hr
  go_enter Tryd.func13, Tryd.ntmps13
  go_wp2_with fail
  refine (HA.out _).mono ?_
  rintro e w1 ⟨qa, rfl, hqa, hka, hb1⟩
  have HB1 := Lib.hid hb1
  have HK1 := Lib.hid hka
  clear hqa hka hb1 HA
  go_wp2_with fail
  refine (HB.out _).mono ?_
  rintro e w2 ⟨qb, rfl, hqb, hkb, hb2⟩
  have HB2 := Lib.hid (HB1.out.trans (hb2.mono HB1.out.size))
  have HCC := Lib.hid (compare_call qa qb n1 n2 n3 m1 m2 m3 pa ma s pb mb t C w2 (blk_below HK1.out hb2) hkb (HE.out.below HB2.out) HPR.out)
  clear hqb hkb hb2 HB HB1 HK1 HE HPR
  rw [← HR.out] at HCC
  go_wp2_with fail
  refine HCC.out.mono ?_
  rintro e w3 ⟨rfl, hb3⟩
  have HB3 := Lib.hid (HB2.out.trans (hb3.mono HB2.out.size))
  clear hb3 HCC HB2
  go_wp2
  go_ret2
  exact ⟨rfl, HB3.out⟩
/-- What laws.version9 answers at a text. -/
theorem v9 (s : ByteArray) : ∃ (n1 n2 n3 : Int) (pre mt : ByteArray) (q : Bool), (∀ W : World, Calls Tryd.prog 12 #[.string s] W fun e w' => e = .returned (.tuple #[.agg #[.int .u64 n1, .int .u64 n2, .int .u64 n3, .string pre, .string mt], .bool q]) ∧ Below W.heap.size W w') ∧
    (q = true → ∃ a b c d, Form s a b c d n1 n2 n3 pre mt ∧ ∃ l, IdL pre l) := by
  obtain ⟨⟨n1, n2, n3, pre, mt, ok⟩, ⟨K, hK⟩, hf⟩ := parse_ev s
  cases ok with
  | false => exact ⟨n1, n2, n3, pre, mt, false, fun W => version9_no K s n1 n2 n3 pre mt (hK K (Nat.le_refl _)) W, fun h => by cases h⟩
  | true =>
    obtain ⟨a, b, c, d, hform⟩ := hf rfl
    obtain ⟨q, l, ⟨K2, hK2⟩, hq⟩ := short_ev hform
    refine ⟨n1, n2, n3, pre, mt, q, fun W => version9_call (max K K2) s n1 n2 n3 pre mt (hK _ (by omega)) q (hK2 _ (by omega)) W, fun h => ⟨a, b, c, d, hform, l, hq h⟩⟩
end Go.Proofs.YtlhijjfbcgconaaDoor.P

