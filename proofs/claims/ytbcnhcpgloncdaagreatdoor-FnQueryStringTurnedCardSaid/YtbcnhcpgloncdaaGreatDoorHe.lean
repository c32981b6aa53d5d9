/- FormatFloat at 'f', six digits, of a number from a 64th to 1000. -/
import Derived.Test.YtbcnhcpgloncdaaGreatDoorHd
import Derived.Lib.SlBytesRow
namespace Go.Proofs.YtbcnhcpgloncdaaGreatDoor
open Go Go.RowKit Go.BigFrame Go.Sort Go.Lib

theorem FfPost.str {B : Nat} {w w' : World} {L : List UInt8} {e : Ending} (h : FfPost B w L e w') (hL : L ≠ []) : ∃ v, e = .returned v ∧ (convert 195 9 v).run Tryz.prog w' = .ok (.string ⟨L.toArray⟩) w' ∧ Below B w w' := by
  obtain ⟨v, N, rfl, h1, _, h3⟩ := h
  refine ⟨v, rfl, ?_, h3⟩
  obtain ⟨hl, h2⟩ := h1
  have hN : N = L.length := by simpa using hl.symm
  subst hN
  rcases h2 with ⟨_, h0⟩ | ⟨g, cap, cur, rfl, h4⟩
  · exact absurd (List.length_eq_zero_iff.1 h0) hL
  · obtain ⟨_, h5, _, _, _, h6⟩ := h4
    have hb : Lib.Bytes w' g 0 ⟨L.toArray⟩ := by
      intro i hi
      have hi' : i < L.length := by simpa [ByteArray.size] using hi
      have h7 : cur.toList[i]? = some (encB L[i]) := by
        have h8 := congrArg (fun l => l[i]?) h6
        simp only [Nat.mul_one] at h8
        rw [List.getElem?_take_of_lt hi'] at h8
        rw [h8]; simp [hi']
      have h9 : cur[i]? = some (encB L[i]) := by simpa using h7
      rw [Nat.zero_add]
      simp [World.cell?, h5, h9]
      rfl
    have := Lib.run_convert_whole (P := Tryz.prog) w' 195 5 9 Tryz.underlying195 Tryz.underlying5 Tryz.underlying9 g 0 ⟨L.toArray⟩ hb cap
    have hsz : (ByteArray.mk L.toArray).size = L.length := by simp [ByteArray.size]
    rw [hsz] at this
    exact this

set_option maxRecDepth 100000 in
set_option maxHeartbeats 4000000 in
theorem ff_any (x : Nat) (L : List UInt8) (hL : L ≠ []) (w : World) (ht : FTabs w)
    (hf : ∀ B (w : World) a c, FTabs w → w.ownsRow B 5 1 (.slice a 0 c) 0 [] → B ≤ w.heap.size → Calls Tryz.prog 174 #[.slice a 0 c, .float .f64 x, .int .u8 102, .int .i64 6] w (FfPost B w L)) :
    Calls Tryz.prog 114 #[.float .f64 x, .int .u8 102, .int .i64 6, .int .i64 64] w fun e w' => e = .returned (.string ⟨L.toArray⟩) ∧ Below w.heap.size w w' := by
  have Hf := Lib.hid hf; clear hf
  have hmx : max (10 : Int) 24 = 24 := by decide
  obtain ⟨i0, hi, hz0, hz1, hz2⟩ := info_parts Tryz.info5
  obtain ⟨w1, hr1, hown, hg⟩ := run_makeSlice_owned (P := Tryz.prog) w w.heap.size 195 5 i0 _ 1 Tryz.underlying195 hi hz0 hz1 .i64 .i64 24 (by omega) (by rw [hz2]; omega) (by unfold maxLen; omega) (Nat.le_refl _)
  have hb1 : Below w.heap.size w w1 := (Below.refl _ _).grown hg (Nat.le_refl _) (fun k hk => by cases hk)
  have hc := Hf.out w.heap.size w1 _ 24 (ht.below hb1) hown hb1.size
  have Hc := Lib.hid hc; clear hc Hf hown hg
  rw [show ((24 : Nat) : Int) = 24 from rfl] at hr1
  go_enter Tryz.func114, Tryz.ntmps114
  go_wp2_with (first | (go_at_call 174; refine Hc.out.mono ?_; intro e w2 hp; obtain ⟨v, rfl, hv, hb2⟩ := hp.str hL) | go_in)
  exact bodyPost_ret (v := .string ⟨L.toArray⟩) (by simp [results, Tryz.results114, go_sem]) rfl ⟨rfl, hb1.trans (hb2.mono (Nat.le_refl _))⟩

theorem efgPos_ok (f : Nat → UInt8) (D n : Nat) (hD : D ≤ 20) : efgPos f D n ≠ [] ∧ (efgPos f D n).length ≤ 1000 := by
  unfold efgPos
  refine ⟨by simp, ?_⟩
  simp only [List.length_append, List.length_map, List.length_range, List.length_replicate, List.length_cons, List.length_nil]
  omega
theorem efgNeg_ok (f : Nat → UInt8) (z n : Nat) (hz : z ≤ 6) (hn : n ≤ 20) : efgNeg f z n ≠ [] ∧ (efgNeg f z n).length ≤ 1000 := by
  unfold efgNeg
  refine ⟨by simp, ?_⟩
  simp only [List.length_append, List.length_map, List.length_range, List.length_replicate, List.length_cons, List.length_nil]
  omega
theorem ffL_ok (M n p s : Nat) : ffL M n p s ≠ [] ∧ (ffL M n p s).length ≤ 1000 := by
  have hr := fxD_range (M * 2048) n p s
  have hP := fxP_or (M * 2048) n p s
  unfold ffL
  generalize fxP (M * 2048) n p s = P at *
  have hN := nDigits_le20 (fxD (M * 2048) n p s).toNat (by omega)
  have ht := trimN_le (fxD (M * 2048) n p s).toNat (nDigits (fxD (M * 2048) n p s).toNat) (nDigits (fxD (M * 2048) n p s).toNat)
  split
  · exact efgNeg_ok _ _ _ (by omega) (by omega)
  · split
    · exact efgPos_ok _ _ _ (by omega)
    · exact efgNeg_ok _ _ _ (by omega) (by omega)

/-- What is written of a boost. -/
def ffT (x : Nat) : ByteArray := ⟨(ffL (x % 4503599627370496 + 4503599627370496) (nE (x / 4503599627370496)) (pE (x / 4503599627370496)) (sE (x / 4503599627370496))).toArray⟩
theorem ffT_size (x : Nat) : (ffT x).size ≤ 1000 := by
  have := (ffL_ok (x % 4503599627370496 + 4503599627370496) (nE (x / 4503599627370496)) (pE (x / 4503599627370496)) (sE (x / 4503599627370496))).2
  simpa [ffT, ByteArray.size] using this

theorem ffT_any (x : Nat) (hx : x < 18446744073709551616) (hf : fitF x = true) (w : World) (ht : FTabs w) :
    Calls Tryz.prog 114 #[.float .f64 x, .int .u8 102, .int .i64 6, .int .i64 64] w fun e w' => e = .returned (.string (ffT x)) ∧ Below w.heap.size w w' := by
  obtain ⟨h0, h1⟩ := fitF_range hx hf
  refine ff_any x _ (ffL_ok _ _ _ _).1 w ht ?_
  intro B w a c ht hown hB
  by_cases hE : 1023 ≤ x / 4503599627370496
  · exact ftoa_up x (x / 4503599627370496) (x % 4503599627370496) (by omega) (by omega) hE (by omega) B w ht a c hown hB
  · exact ftoa_dn x (x / 4503599627370496) (x % 4503599627370496) (by omega) (by omega) (by omega) (by omega) B w ht a c hown hB
end Go.Proofs.YtbcnhcpgloncdaaGreatDoor
