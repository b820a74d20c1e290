/- goOf, goList, goDict: a right value becomes an interface value that is this value. -/
import Derived.Test.YtffkinonnkbcpaaG1
import Derived.Lib.Hide
set_option linter.unusedVariables false
set_option linter.unusedSimpArgs false
namespace Go.Proofs.Ytffkinonnkbcpaa.P
open Go.RowKit Go.Proofs.YtffkinonnkbcpaaW.PrintWords Go.Proofs.YtffkinonnkbcpaaW.PrintLast Go.Proofs.YtffkinonnkbcpaaW.PrintMore
attribute [local go_sem] run_store_float

def OfPost (n : Nat) (x : S31) (w : World) (e : Ending) (w' : World) : Prop :=
  ∃ v, e = .returned (.tuple #[v, .bool true]) ∧ GoN n (fun k => w.heap.size ≤ k) w' x v ∧ Below w.heap.size w w'
def GoOfOk (n : Nat) : Prop := ∀ (x : S31) (A4 : Option Addr) (c4 : Nat) (A5 : Option Addr) (c5 : Nat) (w : World), fitsN n x → Kd.string.C w A4 x.f4.length x.f4 → x.f4.length ≤ c4 → k31.C w A5 x.f5.length x.f5 → x.f5.length ≤ c5 →
  Calls Try.prog 32 #[.agg #[.int .i64 x.f0, .int .i64 x.f1, .float .f64 x.f2, .string x.f3, .slice A4 x.f4.length c4, .slice A5 x.f5.length c5]] w (OfPost n x w)
def ListPost (n : Nat) (l : List S31) (w : World) (e : Ending) (w' : World) : Prop :=
  ∃ u, e = .returned (.tuple #[u, .bool true]) ∧ RowOf (GoN n (fun k => w.heap.size ≤ k) w') (fun k => w.heap.size ≤ k) w' l u ∧ Below w.heap.size w w'
def GoListOk (n : Nat) : Prop := ∀ (l : List S31) (A : Option Addr) (c : Nat) (w : World), (∀ i, i < l.length → fitsN n (l.getD i z31)) → l.length ≤ 300 → k31.C w A l.length l →
  Calls Try.prog 18 #[.slice A l.length c] w (ListPost n l w)
def DictPost (n : Nat) (f4 : List ByteArray) (f5 : List S31) (w : World) (e : Ending) (w' : World) : Prop :=
  ∃ u, e = .returned (.tuple #[u, .bool true]) ∧ MapOf (GoN n (fun k => w.heap.size ≤ k) w') (fun k => w.heap.size ≤ k) w' f4 f5 u ∧ Below w.heap.size w w'
def GoDictOk (n : Nat) : Prop := ∀ (f1 : Int) (f2 : Nat) (f3 : ByteArray) (f4 : List ByteArray) (f5 : List S31) (A4 : Option Addr) (c4 : Nat) (A5 : Option Addr) (c5 : Nat) (w : World), fitsN (n + 1) ⟨7, f1, f2, f3, f4, f5⟩ → Kd.string.C w A4 f4.length f4 → f4.length ≤ c4 → k31.C w A5 f5.length f5 → f5.length ≤ c5 →
  Calls Try.prog 26 #[.agg #[.int .i64 7, .int .i64 f1, .float .f64 f2, .string f3, .slice A4 f4.length c4, .slice A5 f5.length c5]] w (DictPost n f4 f5 w)

set_option maxHeartbeats 1600000 in
set_option maxRecDepth 100000 in
theorem goOf_step {n : Nat} (hL : GoListOk n) (hD : GoDictOk n) : GoOfOk (n + 1) := by
  intro x A4 c4 A5 c5 w hx h4 hc4 h5 hc5
  have HX := Lib.hid hx
  obtain ⟨h0, h7, hl, -, -, hch, -⟩ := hx
  obtain ⟨f0, f1, f2, f3, f4, f5⟩ := x
  simp only at *
  have H4 := Lib.hid h4
  have H5 := Lib.hid h5
  have HL := Lib.hid hL
  have HD := Lib.hid hD
  have HC := Lib.hid hch
  clear hL hD h4 h5 hch
  have hcase : f0 = 0 ∨ f0 = 1 ∨ f0 = 2 ∨ f0 = 3 ∨ f0 = 4 ∨ f0 = 5 ∨ f0 = 6 ∨ f0 = 7 := by omega
  have HB := Lib.hid (fun o => (Below.refl w.heap.size w).alloc (Nat.le_refl _) o)
  clear h0 h7
  rcases hcase with rfl | rfl | rfl | rfl | rfl | rfl | rfl | rfl
  case inr.inr.inr.inr.inr.inr.inl =>
    go_enter Try.func32, Try.ntmps32
    go_wp2_with fail
    refine (HL.out f5 A5 c5 _ HC.out hl (Kd.C_alloc H5.out _)).mono ?_
    rintro e w1 ⟨u, rfl, hr, hb⟩
    have HR := Lib.hid hr
    have HB1 := Lib.hid hb
    clear hr hb
    go_wp2
    go_ret2
    exact ⟨_, rfl, .inr (.inr (.inr (.inr (.inr (.inr (.inl ⟨rfl, u, rfl, HR.out.imp (fun _ _ h => h.ok (fun k hk _ => by simp at hk; omega)) (fun k hk _ => by simp at hk; omega) (fun _ _ _ => rfl)⟩)))))), (HB.out _).trans (HB1.out.mono (by simp))⟩
  case inr.inr.inr.inr.inr.inr.inr =>
    go_enter Try.func32, Try.ntmps32
    go_wp2_with fail
    refine (HD.out f1 f2 f3 f4 f5 A4 c4 A5 c5 _ HX.out (Kd.C_alloc H4.out _) hc4 (Kd.C_alloc H5.out _) hc5).mono ?_
    rintro e w1 ⟨u, rfl, hr, hb⟩
    have HR := Lib.hid hr
    have HB1 := Lib.hid hb
    clear hr hb
    go_wp2
    go_ret2
    exact ⟨_, rfl, .inr (.inr (.inr (.inr (.inr (.inr (.inr ⟨rfl, u, rfl, HR.out.imp (fun _ _ h => h.ok (fun k hk _ => by simp at hk; omega)) (fun k hk _ => by simp at hk; omega) (fun _ _ _ => rfl)⟩)))))), (HB.out _).trans (HB1.out.mono (by simp))⟩
  all_goals
    go_enter Try.func32, Try.ntmps32
    go_wp2
    go_ret2
    refine ⟨_, rfl, ?_, HB.out _⟩
    simp [GoN]

theorem GoN.shape {n : Nat} {ok : Nat → Prop} {w : World} {x : S31} {v : Value} (h : GoN n ok w x v) : v = .nilIface ∨ ∃ t u, v = .iface t u := by
  cases n with
  | zero => exact h.elim
  | succ n =>
    rcases h with ⟨_, h⟩ | ⟨_, h⟩ | ⟨_, h⟩ | ⟨_, h⟩ | ⟨_, h⟩ | ⟨_, h⟩ | ⟨_, u, h, _⟩ | ⟨_, u, h, _⟩
    · exact .inl h
    all_goals exact .inr ⟨_, _, h⟩
/-- What the loop of goList has collected. -/
def Got (n : Nat) (l : List S31) (B k g c : Nat) (w : World) : Prop :=
  ∃ vs, vs.length = k ∧ w.ownsRow B 20 1 (.slice (some ⟨g, 0, none⟩) k c) k vs ∧ ∀ i, i < k → GoN n (fun q => B ≤ q ∧ q ≠ g) w (l.getD i z31) (vs.getD i .nilIface)
theorem Got.start {n : Nat} {l : List S31} (w : World) : Got n l w.heap.size 0 w.heap.size 0 (w.alloc (.cells #[] 20)) :=
  ⟨[], rfl, World.ownsRow_lit w #[] 0 (Nat.le_refl _) (by decide) rfl, fun i hi => absurd hi (by omega)⟩
theorem Got.next {n : Nat} {l : List S31} {B k g c g' c' : Nat} {wr w2 w3 : World} {v v' : Value} (h : Got n l B k g c wr) (hB : B ≤ wr.heap.size) (hb : Below wr.heap.size wr w2) (hv : GoN n (fun q => wr.heap.size ≤ q) w2 (l.getD k z31) v)
    (vs : List Value) (hvs : vs.length = k) (hel : ∀ i, i < k → GoN n (fun q => B ≤ q ∧ q ≠ g) wr (l.getD i z31) (vs.getD i .nilIface)) (hg : g < wr.heap.size)
    (hown : w3.ownsRow B 20 1 (.slice (some ⟨g', 0, none⟩) (k + 1) c') (k + 1) (vs ++ [v])) (hgr : w2.grownBy w3 (some g)) (hat : g' = g ∨ w2.heap.size ≤ g') : Got n l B (k + 1) g' c' w3 := by
  refine ⟨vs ++ [v], by simp [hvs], hown, fun i hi => ?_⟩
  have ne : ∀ q, q ≠ g → q < w2.heap.size → q ≠ g' := by
    intro q h1 h2 h3
    rcases hat with h | h
    · exact h1 (h3.trans h)
    · omega
  by_cases hik : i < k
  · have e0 : (vs ++ [v]).getD i .nilIface = vs.getD i .nilIface := by simp [List.getD_eq_getElem?_getD, List.getElem?_append, show i < vs.length by omega]
    rw [e0]
    have h1 := (hel i hik).below hb
    exact h1.imp (Nat.le_refl _) (fun q hq hlt => ⟨hq.1, ne q hq.2 hlt⟩) (fun q hq hlt => hgr.block q hlt (by intro h; injection h with h; exact hq.2 h))
  · have hik : i = k := by omega
    subst hik
    have e1 : (vs ++ [v]).getD i .nilIface = v := by simp [List.getD_eq_getElem?_getD, List.getElem?_append, hvs]
    rw [e1]
    exact hv.imp (Nat.le_refl _) (fun q hq hlt => ⟨by omega, ne q (by omega) hlt⟩) (fun q hq hlt => hgr.block q hlt (by intro h; injection h with h; omega))
theorem Got.lt {n : Nat} {l : List S31} {B k g c : Nat} {w : World} (h : Got n l B k g c w) : g < w.heap.size := by
  obtain ⟨vs, _, ho, _⟩ := h
  exact (ho.lt g (by simp [Value.ownBlock])).2
theorem info_any : (Try.prog.info? 20).map (fun i => (i.zero, i.size, i.bytes)) = some (some .nilIface, 1, 16) := by kernel_rfl
set_option maxHeartbeats 3200000 in
set_option maxRecDepth 100000 in
theorem goList_step {n : Nat} (hO : GoOfOk n) : GoListOk n := by
  intro l A c w hf hl hc
  have HO := Lib.hid hO
  have HF := Lib.hid hf
  have HC := Lib.hid hc
  clear hO hf hc
  obtain ⟨N, hNN⟩ : ∃ N, N = l.length := ⟨_, rfl⟩
  have HN := Lib.hid hNN
  rw [← hNN] at hl ⊢
  clear hNN
  have HG := Lib.hid (Got.start (n := n) (l := l) w)
  have HB := Lib.hid ((Below.refl w.heap.size w).alloc (Nat.le_refl _) (.cells #[] 20))
  have HS := Lib.hid (show w.heap.size ≤ (w.alloc (.cells #[] 20)).heap.size by simp)
  go_enter Try.func18, Try.ntmps18
  go_wp2
  go_loopw [4, 12] (fun v i wr => ∃ k g cp : Nat, i = .int .i64 k ∧ v = .slice (some ⟨g, 0, none⟩) k cp ∧ k ≤ N ∧ Hid (Got n l w.heap.size k g cp wr) ∧ Hid (Below w.heap.size w wr) ∧ Hid (w.heap.size ≤ wr.heap.size)) (fun _ i _ => N - (intOf i).toNat)
  case atStart => exact ⟨0, _, _, rfl, rfl, Nat.zero_le _, HG, HB, HS⟩
  case round =>
    clear HG HB HS
    obtain ⟨k, g, cp, rfl, rfl, hk, hG, hB, hS⟩ := hrel
    by_cases ck : k < N
    · obtain ⟨ad, A4, c4, A5, c5, rfl, q0, q1, q2, q3, q4, q5, l4, g4, l5, g5⟩ := at_T31 (Kd.C_below HC.out hB.out) (k : Int) (by omega) (by rw [← HN.out]; omega)
      simp only [Int.toNat_natCast] at q0 q1 q2 q3 q4 q5
      have hfk : fitsN n (rd_T31 l (k : Int)) := HF.out k (by rw [← HN.out]; exact ck)
      have HFK := Lib.hid hfk
      have G4 := Lib.hid g4
      have G5 := Lib.hid g5
      have hkd : rd_T31 l (k : Int) = l.getD k z31 := by unfold rd_T31; rw [Int.toNat_natCast]
      have HKD := Lib.hid hkd
      clear hfk g4 g5 hkd
      generalize rd_T31 l (k : Int) = x at *
      go_wp2_with fail
      refine (HO.out x A4 c4 A5 c5 _ HFK.out (Kd.C_alloc G4.out _) l4 (Kd.C_alloc G5.out _) l5).mono ?_
      rintro e w2 ⟨v, rfl, hv, hb⟩
      obtain ⟨vs, hvs, ho, hel⟩ := hG.out
      have hgl := hG.out.lt
      have hb0 : Below wr.heap.size wr w2 := ((Below.refl wr.heap.size wr).alloc (Nat.le_refl _) _).trans (hb.mono (by simp))
      have hv0 : GoN n (fun q => wr.heap.size ≤ q) w2 (l.getD k z31) v := by rw [← HKD.out]; exact hv.ok (fun q hq _ => by simp at hq; omega)
      have ho2 : w2.ownsRow w.heap.size 20 1 (.slice (some ⟨g, 0, none⟩) k cp) k vs := own_move ho (fun q hq => by
        have : g = q := by simpa [Value.ownBlock] using hq
        subst this
        exact hb0.block _ hgl)
      have HB2 := Lib.hid (hB.out.trans (hb0.mono hS.out))
      have HS2 := Lib.hid (Nat.le_trans hS.out hb0.size)
      have HO2 := Lib.hid ho2
      have HV := Lib.hid hv0
      have HB0 := Lib.hid hb0
      have HVS := Lib.hid hvs
      have HEL := Lib.hid hel
      have HGL := Lib.hid hgl
      have hsh := hv.shape
      clear hv hb ho hel hb0 hv0 ho2 hvs hgl q0 q1 q2 q3 q4 q5 HFK G4 G5
      rcases hsh with rfl | ⟨t, u, rfl⟩
      all_goals
        go_wp2_with (at_builtin; first | (refine print_append_cells (w0 := w) w.heap.size rfl _ _ 43 20 .nilIface 1 16 rfl Try.underlying43 info_any rfl (by decide) (by decide) (.slice (some ⟨g, 0, none⟩) k cp) k vs [.nilIface] rfl rfl rfl (fun u hu => by rw [List.mem_singleton.1 hu]; rfl) HO2.out HB2.out HS2.out (by omega) ?_) | (refine print_append_cells (w0 := w) w.heap.size rfl _ _ 43 20 .nilIface 1 16 rfl Try.underlying43 info_any rfl (by decide) (by decide) (.slice (some ⟨g, 0, none⟩) k cp) k vs [.iface t u] rfl rfl rfl (fun u hu => by rw [List.mem_singleton.1 hu]; rfl) HO2.out HB2.out HS2.out (by omega) ?_))
        intro v1 w3 hown hb3 hgr hat
        obtain ⟨g', c', rfl⟩ : ∃ g' c', v1 = .slice (some ⟨g', 0, none⟩) (k + 1) c' := by
          rcases hown.2 with ⟨_, h⟩ | ⟨g', c', _, h, _⟩
          · omega
          · exact ⟨g', c', h⟩
        have HG3 := Lib.hid (hG.out.next hS.out HB0.out HV.out vs HVS.out HEL.out HGL.out hown hgr (by
          rcases hat with h | ⟨b, h, h2⟩
          · left; simpa [Value.ownBlock] using h
          · right; simp [Value.ownBlock] at h; omega) (v' := .nilIface))
        have HB3 := Lib.hid hb3
        have HS3 := Lib.hid (Nat.le_trans HS2.out hgr.size)
        clear hown hb3 hgr hat HO2 HB2 HV HB0 HEL hG hB
        go_wp2
        go_roundw
        case rel => exact ⟨k + 1, g', c', by go_num, rfl, by omega, HG3, HB3, HS3⟩
        case measure => simp [intOf]; omega
    · have hkn : k = N := by omega
      subst hkn
      go_wp2
      go_ret2
      obtain ⟨vs, hvs, ho, hel⟩ := hG.out
      have hgl := (ho.lt g (by simp [Value.ownBlock])).1
      refine ⟨.slice (some ⟨g, 0, none⟩) k cp, rfl, ⟨g, cp, vs, by rw [HN.out], hgl, by rw [hvs, HN.out], ?_, fun i hi => (hel i (by rw [HN.out]; exact hi)).ok (fun q hq _ => hq.1)⟩, hB.out⟩
      rw [← HN.out]
      exact own_weaken ho (Nat.zero_le _)
end Go.Proofs.Ytffkinonnkbcpaa.P
