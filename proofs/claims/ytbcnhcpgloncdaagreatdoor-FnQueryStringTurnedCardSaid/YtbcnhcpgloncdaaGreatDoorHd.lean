/- FormatFloat's parts: 'ftoa64' at 'f', six digits, of a number from a 64th to 1000. -/
import Derived.Test.YtbcnhcpgloncdaaGreatDoorHb
import Derived.Test.YtbcnhcpgloncdaaGreatDoorHc
import Derived.Laws.Bits64b
namespace Go.Proofs.YtbcnhcpgloncdaaGreatDoor
open Go Go.RowKit Go.BigFrame Go.Sort Go.Lib

theorem bits185 (x : Nat) (w : World) : (callFunc 185 #[.float .f64 x]).run Tryz.prog w = .ok (.value (.int .u64 x)) w := by
  rw [run_callFunc_extern Tryz.func185 (by kernel_rfl) (by kernel_rfl) (by kernel_rfl) (show Extern.find Tryz.f185 = some Extern.MathFloatBits.float64bits by kernel_rfl)]
  rfl

theorem frac_mask (x : Nat) (hx : x < 18446744073709551616) : bits BinOp.and IntKind.u64 (x : Int) 4503599627370495 = ((x % 4503599627370496 : Nat) : Int) := by
  rw [show (4503599627370495 : Int) = ((4503599627370495 : Nat) : Int) from rfl, bits_and_u64_nat _ _ hx (by decide), show (4503599627370495 : Nat) = 2 ^ 52 - 1 by decide, Nat.and_two_pow_sub_one_eq_mod]
theorem exp_mask : ∀ E : Nat, E < 2048 → bits BinOp.and IntKind.i64 (E : Int) 2047 = (E : Int) := by decide +kernel
theorem mant_or (F : Nat) (hF : F < 4503599627370496) : bits BinOp.or IntKind.u64 (F : Int) 4503599627370496 = ((F + 4503599627370496 : Nat) : Int) := by
  rw [show (4503599627370496 : Int) = ((4503599627370496 : Nat) : Int) from rfl, bits_or_u64_nat _ _ (by omega) (by decide), Nat.or_comm]
  have := Nat.two_pow_add_eq_or_of_lt (i := 52) (b := F) (by omega) 1
  rw [show (2 : Nat) ^ 52 * 1 = 4503599627370496 by decide] at this
  rw [← this]; congr 1; omega
theorem len_mant (F : Nat) (hF : F < 4503599627370496) : Lib.bitLen (F + 4503599627370496) = 53 := by
  rw [Lib.bitLen_shift 52 (F + 4503599627370496) (by omega) (by omega), show (F + 4503599627370496) / 2 ^ 52 = 1 by omega]
  rfl

/-- The digits that are wanted, the power of ten, the shift: for each exponent. -/
def nE (E : Nat) : Nat := if 1023 ≤ E then (7 + l10 ((E : Int) - 1022)).toNat else (7 - l10 (1023 - (E : Int))).toNat
def pE (E : Nat) : Nat := ((nE E : Int) - 1 - l10 ((E : Int) - 1086 + 63)).toNat
def sE (E : Nat) : Nat := (wrap64 (-(wrap64 (wrap64 ((E : Int) - 1086 + l2 (pE E)) + 3)))).toNat
theorem exp_facts : ∀ E : Nat, E < 1033 → 1017 ≤ E → 6 ≤ nE E ∧ nE E ≤ 10 ∧ (pE E = 6 ∨ pE E = 7) ∧ sE E < 64 ∧ (1023 ≤ E → 7 + l10 ((E : Int) - 1022) = nE E) ∧ (E < 1023 → 7 - l10 (1023 - (E : Int)) = nE E) ∧
    (nE E : Int) - 1 - l10 ((E : Int) - 1086 + 63) = pE E ∧ wrap64 (-(wrap64 (wrap64 ((E : Int) - 1086 + l2 (pE E)) + 3))) = sE E := by
  intro E h1 h2
  obtain ⟨k, rfl⟩ : ∃ k, E = 1017 + k := ⟨E - 1017, by omega⟩
  have : ∀ k : Nat, k < 16 → 6 ≤ nE (1017 + k) ∧ nE (1017 + k) ≤ 10 ∧ (pE (1017 + k) = 6 ∨ pE (1017 + k) = 7) ∧ sE (1017 + k) < 64 ∧ (1023 ≤ (1017 + k) → 7 + l10 (((1017 + k : Nat) : Int) - 1022) = nE (1017 + k)) ∧ ((1017 + k) < 1023 → 7 - l10 (1023 - ((1017 + k : Nat) : Int)) = nE (1017 + k)) ∧
    (nE (1017 + k) : Int) - 1 - l10 (((1017 + k : Nat) : Int) - 1086 + 63) = pE (1017 + k) ∧ wrap64 (-(wrap64 (wrap64 (((1017 + k : Nat) : Int) - 1086 + l2 (pE (1017 + k))) + 3))) = sE (1017 + k) := by decide +kernel
  exact this k (by omega)

theorem fxD_range (m n p s : Nat) : 0 ≤ fxD m n p s ∧ fxD m n p s < 18446744073709551616 := by
  have h : ∀ u, 0 ≤ rnd u ∧ rnd u < 18446744073709551616 := by
    intro u
    unfold rnd
    rw [IntKind.wrap_u64]
    omega
  unfold fxD
  split
  · exact h _
  · exact h _
theorem fxP_or (m n p s : Nat) : fxP m n p s = -5 ∨ fxP m n p s = -6 := by
  unfold fxP; split <;> simp

theorem len_any (M : Nat) (h0 : 4503599627370496 ≤ M) (h1 : M < 9007199254740992) (w : World) : Calls Tryz.prog 189 #[.int .u64 M] w fun e w' => e = .returned (.int .i64 53) ∧ w' = w := by
  have := Tryz.bits_Len64 (M : Int) w (by omega) (by omega)
  obtain ⟨F, rfl⟩ : ∃ F, M = F + 4503599627370496 := ⟨M - 4503599627370496, by omega⟩
  rw [show ((F + 4503599627370496 : Nat) : Int).toNat = F + 4503599627370496 by omega, len_mant F (by omega)] at this
  exact this

/-- What is written: of M, the digits and the power that the exponent tells. -/
def ffL (M n p s : Nat) : List UInt8 :=
  if (fxD (M * 2048) n p s).toNat = 0 then efgNeg (fun _ => 0) 0 0
  else if 0 < (nDigits (fxD (M * 2048) n p s).toNat : Int) + fxP (M * 2048) n p s then
    efgPos (fun t => dg (fxD (M * 2048) n p s).toNat (nDigits (fxD (M * 2048) n p s).toNat - 1 - t)) ((nDigits (fxD (M * 2048) n p s).toNat : Int) + fxP (M * 2048) n p s).toNat (trimN (fxD (M * 2048) n p s).toNat (nDigits (fxD (M * 2048) n p s).toNat) (nDigits (fxD (M * 2048) n p s).toNat))
  else efgNeg (fun t => dg (fxD (M * 2048) n p s).toNat (nDigits (fxD (M * 2048) n p s).toNat - 1 - t)) (-((nDigits (fxD (M * 2048) n p s).toNat : Int) + fxP (M * 2048) n p s)).toNat (trimN (fxD (M * 2048) n p s).toNat (nDigits (fxD (M * 2048) n p s).toNat) (nDigits (fxD (M * 2048) n p s).toNat))

def FfPost (B : Nat) (w : World) (L : List UInt8) (e : Ending) (w' : World) : Prop := ∃ v N, e = .returned v ∧ w'.ownsRow B 5 1 v N (L.map encB) ∧ N ≤ 27 ∧ Below B w w'

theorem EfgPost.ff {w : World} {B b n : Nat} {f : Nat → UInt8} {L : List UInt8} {N : Nat} {e : Ending} {w' : World} (h : EfgPost w B b n f L N e w') (hN : N ≤ 27) : FfPost B w L e w' := by
  obtain ⟨v, h1, h2⟩ := h
  exact ⟨v, N, h1, h2.own, hN, h2.bel⟩

theorem FTabs.drew {w : World} (h : FTabs w) : FTabs w.drew := h.below (Below.refl _ _).drew
def zeros24 : Array Value := Array.replicate 24 (.int .u8 0)
theorem zero_buf {w w2 : World} (hb : Below (w.alloc (.cells zeros24 226)).heap.size (w.alloc (.cells zeros24 226)) w2) : ∀ j, j < 24 → w2.cell? ⟨w.heap.size, j, none⟩ = some (.int .u8 0) ∧ w2.frozen? ⟨w.heap.size, j, none⟩ = false := by
  intro j hj
  have h1 := (hb.block w.heap.size (by simp)).trans (heap_alloc_new w (.cells zeros24 226))
  constructor
  · simp [World.cell?, h1, zeros24, hj]
  · simp [World.frozen?, h1]

/-- The last call. -/
theorem efg_last (M n p s d : Nat) (P : Int) (hd : fxD (M * 2048) n p s = (d : Int)) (hP : fxP (M * 2048) n p s = P) (hP2 : P = -5 ∨ P = -6) (hd0 : d ≠ 0) (hd64 : d < 18446744073709551616) (B b : Nat) (w w3 : World) (a : Option Addr) (c : Nat)
    (ds : DS w B b (trimN d (nDigits d) (nDigits d)) (fun t => dg d (nDigits d - 1 - t)) [] 0 (.slice a 0 c) w3) :
    Calls Tryz.prog 188 #[.slice a 0 c, .bool false, .slice (some ⟨b, 0, none⟩) 24 24, .int .i64 ((nDigits d : Int) + P), .int .i64 (trimN d (nDigits d) (nDigits d)), .int .i64 6, .int .u8 102, .bool false] w3 (FfPost B w (ffL M n p s)) := by
  have hN := nDigits_le20 d hd64
  have hN1 := nDigits_pos d
  have ht := trimN_le d (nDigits d) (nDigits d)
  have hL : ffL M n p s = if 0 < (nDigits d : Int) + P then efgPos (fun t => dg d (nDigits d - 1 - t)) ((nDigits d : Int) + P).toNat (trimN d (nDigits d) (nDigits d)) else efgNeg (fun t => dg d (nDigits d - 1 - t)) (-((nDigits d : Int) + P)).toNat (trimN d (nDigits d) (nDigits d)) := by
    unfold ffL
    rw [hd, hP, Int.toNat_natCast, if_neg hd0]
  have hds : DS w3 B b (trimN d (nDigits d) (nDigits d)) (fun t => dg d (nDigits d - 1 - t)) [] 0 (.slice a 0 c) w3 := ⟨ds.own, ds.ne, ds.cells, ds.lt, Below.refl _ _, ds.base⟩
  by_cases h : 0 < (nDigits d : Int) + P
  · rw [hL, if_pos h]
    obtain ⟨D, hD⟩ : ∃ D : Nat, (nDigits d : Int) + P = D := ⟨((nDigits d : Int) + P).toNat, by omega⟩
    rw [hD, Int.toNat_natCast]
    refine (efg_pos _ B b D _ _ (by omega) (by omega) (by omega) rfl w3 a c hds).mono ?_
    rintro e w' ⟨v, h1, h2⟩
    exact ⟨v, _, h1, h2.own, by omega, ds.bel.trans h2.bel⟩
  · rw [hL, if_neg h]
    obtain ⟨D, hD⟩ : ∃ D : Nat, (nDigits d : Int) + P = -(D : Int) := ⟨(-((nDigits d : Int) + P)).toNat, by omega⟩
    rw [hD, show (-(-(D : Int))).toNat = D by omega]
    refine (efg_neg _ B b D _ (by omega) (by omega) w3 a c hds).mono ?_
    rintro e w' ⟨v, h1, h2⟩
    exact ⟨v, _, h1, h2.own, by omega, ds.bel.trans h2.bel⟩
theorem efg_zero (M n p s : Nat) (hd : fxD (M * 2048) n p s = 0) (B b : Nat) (w w3 : World) (a : Option Addr) (c : Nat) (ds : DS w B b 0 (fun _ => 0) [] 0 (.slice a 0 c) w3) :
    Calls Tryz.prog 188 #[.slice a 0 c, .bool false, .slice (some ⟨b, 0, none⟩) 24 24, .int .i64 0, .int .i64 0, .int .i64 6, .int .u8 102, .bool false] w3 (FfPost B w (ffL M n p s)) := by
  have hL : ffL M n p s = efgNeg (fun _ => 0) 0 0 := by
    unfold ffL
    rw [hd, if_pos (by simp)]
  have hds : DS w3 B b 0 (fun _ => 0) [] 0 (.slice a 0 c) w3 := ⟨ds.own, ds.ne, ds.cells, ds.lt, Below.refl _ _, ds.base⟩
  rw [hL]
  refine (efg_neg _ B b 0 0 (by omega) (by omega) w3 a c hds).mono ?_
  rintro e w' ⟨v, h1, h2⟩
  exact ⟨v, _, h1, h2.own, by omega, ds.bel.trans h2.bel⟩

set_option maxRecDepth 100000 in
set_option maxHeartbeats 4000000 in
theorem ftoa_up (x E F : Nat) (hxE : x = E * 4503599627370496 + F) (hF : F < 4503599627370496) (hE0 : 1023 ≤ E) (hE1 : E ≤ 1032) (B : Nat) (w : World) (ht : FTabs w) (a : Option Addr) (c : Nat) (hown : w.ownsRow B 5 1 (.slice a 0 c) 0 []) (hB : B ≤ w.heap.size) :
    Calls Tryz.prog 174 #[.slice a 0 c, .float .f64 x, .int .u8 102, .int .i64 6] w (FfPost B w (ffL (F + 4503599627370496) (nE E) (pE E) (sE E))) := by
  obtain ⟨n0, n1, hp, hs, hL, _, hLp, hss⟩ := exp_facts E (by omega) (by omega)
  replace hL := hL hE0
  generalize nE E = n at *
  generalize pE E = p at *
  generalize sE E = s at *
  have f1 : ((x : Int) / 9223372036854775808 != 0) = false := by rw [bne_eq_false_iff_eq]; omega
  have f2 : (x : Int) / 4503599627370496 = (E : Int) := by omega
  have f3 := exp_mask E (by omega)
  have f4 := frac_mask x (by omega)
  rw [show x % 4503599627370496 = F by omega] at f4
  have f5 := mant_or F hF
  obtain ⟨M, hM⟩ : ∃ M, F + 4503599627370496 = M := ⟨_, rfl⟩
  rw [hM] at f5 ⊢
  have hM0 : 4503599627370496 ≤ M := by omega
  have hM1 : M < 9007199254740992 := by omega
  have hlen := fun w => len_any M hM0 hM1 w
  have f7 : ((E : Int) == 2047) = false := by rw [beq_eq_false_iff_ne]; omega
  have f8 : ((E : Int) == 0) = false := by rw [beq_eq_false_iff_ne]; omega
  have f9 : ((M : Int) == 0) = false := by rw [beq_eq_false_iff_ne]; omega
  have f10 : (0 : Int) ≤ (E : Int) + -1023 := by omega
  have f11 : 1 + ((E : Int) + -1023) = (E : Int) - 1022 := by omega
  have hl := fun w => l10_any ((E : Int) - 1022) w
  rw [show l10 ((E : Int) - 1022) = (n : Int) - 7 by omega] at hl
  have f12 : 1 + ((n : Int) - 7) + 6 = n := by omega
  have f13 : (n : Int) ≤ 18 := by omega
  have f14 : (0 : Int) < (n : Int) := by omega
  have f15 : IntKind.u64.wrap ((M : Int) * 2048) = ((M * 2048 : Nat) : Int) := by rw [IntKind.wrap_u64]; omega
  have f16 : (E : Int) + -1023 - 11 - 52 = (E : Int) - 1086 := by omega
  have hrange := fxD_range (M * 2048) n p s
  obtain ⟨d, hd⟩ : ∃ d : Nat, fxD (M * 2048) n p s = d := ⟨(fxD (M * 2048) n p s).toNat, by omega⟩
  have hd64 : d < 18446744073709551616 := by omega
  obtain ⟨P, hP⟩ : ∃ P, fxP (M * 2048) n p s = P := ⟨_, rfl⟩
  have hP2 := fxP_or (M * 2048) n p s
  rw [hP] at hP2
  have hfx := fun w => fixed_any (M * 2048) (by omega) ((E : Int) - 1086) n p s (by omega) (by omega) n0 n1 hp _ rfl hLp hss hs w
  rw [hd, hP, show ((M * 2048 : Nat) : Int) = (M : Int) * 2048 by omega] at hfx
  have Hfx := Lib.hid hfx; clear hfx
  have Hd := Lib.hid hd; clear hd
  have HP := Lib.hid hP; clear hP
  have Hown := Lib.hid hown; clear hown
  have Hlen := Lib.hid hlen; clear hlen
  have Hl := Lib.hid hl; clear hl
  clear hL hrange hss hLp hp hs n0 n1
  clear hxE hM hF
  go_enter Tryz.func174, Tryz.ntmps174
  go_wp2_with fail
  rw [bits185]
  go_wp2_with fail
  refine wp_region_later (by kernel_rfl) (by kernel_rfl) ?_
  repeat (go_big_quiet_step (fail))
  refine wpQuiet_nil ?_
  intro _ hw'
  obtain ⟨nq, rfl⟩ := hw'
  have htq := ht.below nq.ok
  have q0 := htq.opt
  have Htq := Lib.hid htq; clear htq ht
  clear f2 f3 f1
  go_wp2_with fail
  refine (Hl.out _).mono ?_
  rintro e1 w' ⟨rfl, rfl⟩
  go_wp2_with fail
  refine (Hlen.out _).mono ?_
  rintro e1 w' ⟨rfl, rfl⟩
  go_wp2_with fail
  generalize hv : nq.to = v at *
  have hbv : Below w.heap.size w v := by rw [← hv]; exact nq.ok
  clear hv nq
  have hzv : w.heap.size ≤ v.heap.size := hbv.size
  have hba : Below v.heap.size v (v.alloc (.cells zeros24 226)) := (Below.refl _ _).alloc (Nat.le_refl _) _
  have hta := Htq.out.below hba
  refine (Hfx.out _ hta).mono ?_
  rintro e1 w2 ⟨rfl, hb2⟩
  have ht2 := hta.below hb2
  have hz2 := zero_buf hb2
  have hlt2 : v.heap.size < w2.heap.size := by have := hb2.size; simp at this; omega
  have hown2 := ownsRow_below ((ownsRow_below Hown.out hbv).alloc (.cells zeros24 226)) hb2
  have hne : (Value.slice a 0 c).ownBlock ≠ some v.heap.size := by
    intro e
    have := (Hown.out.lt _ e).2
    omega
  have hbel2 : Below B w w2 := ((hbv.mono hB).trans (hba.mono (by omega))).trans (hb2.mono (by simp; omega))
  have Hown2 := Lib.hid hown2; clear hown2 Hown
  have Ht2 := Lib.hid ht2; clear ht2 hta Htq
  have Hz2 := Lib.hid hz2; clear hz2
  have Hbel2 := Lib.hid hbel2; clear hbel2 hba hb2 hbv
  have Hne := Lib.hid hne; clear hne
  by_cases hd0 : d = 0
  · subst hd0
    go_wp2_with fail
    refine (efg_zero M n p s Hd.out B v.heap.size w w2 a c ⟨Hown2.out, Hne.out, fun t h => by omega, hlt2, Hbel2.out, by omega⟩).mono ?_
    rintro e1 w4 ⟨vv, N, rfl, h1, h2, h3⟩
    go_wp2_with fail
    exact bodyPost_ret (v := vv) (by simp [results, Tryz.results174, go_sem]) rfl ⟨vv, N, rfl, h1, h2, h3⟩
  · have f20 : ((d : Int) != 0) = true := by rw [bne_iff_ne]; omega
    have hnd := fun w ht => Tryz.internal_strconv_numDigits d (by omega) hd64 w ht
    have hsd := fun w hz => setDigits_any d hd64 P hP2 w v.heap.size hz
    have Hnd := Lib.hid hnd; clear hnd
    have Hsd := Lib.hid hsd; clear hsd
    go_wp2_with fail
    go_region_law (first
      | (go_simp; go_at_call 192; refine (Hnd.out _ Ht2.out.drew.tens).mono ?_; rintro e1 w' ⟨rfl, rfl⟩)
      | (go_simp; go_at_call 191; refine (Hsd.out _ (fun j hj => by simpa using Hz2.out j hj)).mono ?_; rintro e1 w3 ⟨rfl, hcell, hg⟩))
    all_goals (
      have hg' : w2.grownBy w3 (some v.heap.size) := ⟨hg.os, hg.tape, hg.output, hg.size, hg.block⟩
      have ds : DS w B v.heap.size (trimN d (nDigits d) (nDigits d)) (fun t => dg d (nDigits d - 1 - t)) [] 0 (.slice a 0 c) w3 :=
        ⟨Hown2.out.kept hg' (.inr Hne.out), Hne.out, fun t h => hcell t (by have := trimN_le d (nDigits d) (nDigits d); omega), Nat.lt_of_lt_of_le hlt2 hg'.size, Hbel2.out.grown hg' (by omega) (fun k hk => by injection hk; omega), by have := hg'.size; omega⟩
      have Ds := Lib.hid ds
      clear ds hg hg' hcell
      go_wp2_with fail
      refine (efg_last M n p s d P Hd.out HP.out hP2 hd0 hd64 B v.heap.size w w3 a c Ds.out).mono ?_
      rintro e1 w4 ⟨vv, N, rfl, h1, h2, h3⟩
      go_wp2_with fail
      exact bodyPost_ret (v := vv) (by simp [results, Tryz.results174, go_sem]) rfl ⟨vv, N, rfl, h1, h2, h3⟩)
set_option maxRecDepth 100000 in
set_option maxHeartbeats 4000000 in
theorem ftoa_dn (x E F : Nat) (hxE : x = E * 4503599627370496 + F) (hF : F < 4503599627370496) (hE0 : 1017 ≤ E) (hE1 : E < 1023) (B : Nat) (w : World) (ht : FTabs w) (a : Option Addr) (c : Nat) (hown : w.ownsRow B 5 1 (.slice a 0 c) 0 []) (hB : B ≤ w.heap.size) :
    Calls Tryz.prog 174 #[.slice a 0 c, .float .f64 x, .int .u8 102, .int .i64 6] w (FfPost B w (ffL (F + 4503599627370496) (nE E) (pE E) (sE E))) := by
  obtain ⟨n0, n1, hp, hs, _, hL, hLp, hss⟩ := exp_facts E (by omega) (by omega)
  replace hL := hL hE1
  generalize nE E = n at *
  generalize pE E = p at *
  generalize sE E = s at *
  have f1 : ((x : Int) / 9223372036854775808 != 0) = false := by rw [bne_eq_false_iff_eq]; omega
  have f2 : (x : Int) / 4503599627370496 = (E : Int) := by omega
  have f3 := exp_mask E (by omega)
  have f4 := frac_mask x (by omega)
  rw [show x % 4503599627370496 = F by omega] at f4
  have f5 := mant_or F hF
  obtain ⟨M, hM⟩ : ∃ M, F + 4503599627370496 = M := ⟨_, rfl⟩
  rw [hM] at f5 ⊢
  have hM0 : 4503599627370496 ≤ M := by omega
  have hM1 : M < 9007199254740992 := by omega
  have hlen := fun w => len_any M hM0 hM1 w
  have f7 : ((E : Int) == 2047) = false := by rw [beq_eq_false_iff_ne]; omega
  have f8 : ((E : Int) == 0) = false := by rw [beq_eq_false_iff_ne]; omega
  have f9 : ((M : Int) == 0) = false := by rw [beq_eq_false_iff_ne]; omega
  have f10 : ¬ (0 : Int) ≤ (E : Int) + -1023 := by omega
  have f11 : -((E : Int) + -1023) = 1023 - (E : Int) := by omega
  have hl := fun w => l10_any (1023 - (E : Int)) w
  rw [show l10 (1023 - (E : Int)) = 7 - (n : Int) by omega] at hl
  have f12 : 7 - (7 - (n : Int)) = n := by omega
  have f13 : (n : Int) ≤ 18 := by omega
  have f14 : (0 : Int) < (n : Int) := by omega
  have f15 : IntKind.u64.wrap ((M : Int) * 2048) = ((M * 2048 : Nat) : Int) := by rw [IntKind.wrap_u64]; omega
  have f16 : (E : Int) + -1023 - 11 - 52 = (E : Int) - 1086 := by omega
  have hrange := fxD_range (M * 2048) n p s
  obtain ⟨d, hd⟩ : ∃ d : Nat, fxD (M * 2048) n p s = d := ⟨(fxD (M * 2048) n p s).toNat, by omega⟩
  have hd64 : d < 18446744073709551616 := by omega
  obtain ⟨P, hP⟩ : ∃ P, fxP (M * 2048) n p s = P := ⟨_, rfl⟩
  have hP2 := fxP_or (M * 2048) n p s
  rw [hP] at hP2
  have hfx := fun w => fixed_any (M * 2048) (by omega) ((E : Int) - 1086) n p s (by omega) (by omega) n0 n1 hp _ rfl hLp hss hs w
  rw [hd, hP, show ((M * 2048 : Nat) : Int) = (M : Int) * 2048 by omega] at hfx
  have Hfx := Lib.hid hfx; clear hfx
  have Hd := Lib.hid hd; clear hd
  have HP := Lib.hid hP; clear hP
  have Hown := Lib.hid hown; clear hown
  have Hlen := Lib.hid hlen; clear hlen
  have Hl := Lib.hid hl; clear hl
  clear hL hrange hss hLp hp hs n0 n1
  clear hxE hM hF
  go_enter Tryz.func174, Tryz.ntmps174
  go_wp2_with fail
  rw [bits185]
  go_wp2_with fail
  refine wp_region_later (by kernel_rfl) (by kernel_rfl) ?_
  repeat (go_big_quiet_step (fail))
  refine wpQuiet_nil ?_
  intro _ hw'
  obtain ⟨nq, rfl⟩ := hw'
  have htq := ht.below nq.ok
  have q0 := htq.opt
  have Htq := Lib.hid htq; clear htq ht
  clear f2 f3 f1
  go_wp2_with fail
  refine (Hl.out _).mono ?_
  rintro e1 w' ⟨rfl, rfl⟩
  go_wp2_with fail
  refine (Hlen.out _).mono ?_
  rintro e1 w' ⟨rfl, rfl⟩
  go_wp2_with fail
  generalize hv : nq.to = v at *
  have hbv : Below w.heap.size w v := by rw [← hv]; exact nq.ok
  clear hv nq
  have hzv : w.heap.size ≤ v.heap.size := hbv.size
  have hba : Below v.heap.size v (v.alloc (.cells zeros24 226)) := (Below.refl _ _).alloc (Nat.le_refl _) _
  have hta := Htq.out.below hba
  refine (Hfx.out _ hta).mono ?_
  rintro e1 w2 ⟨rfl, hb2⟩
  have ht2 := hta.below hb2
  have hz2 := zero_buf hb2
  have hlt2 : v.heap.size < w2.heap.size := by have := hb2.size; simp at this; omega
  have hown2 := ownsRow_below ((ownsRow_below Hown.out hbv).alloc (.cells zeros24 226)) hb2
  have hne : (Value.slice a 0 c).ownBlock ≠ some v.heap.size := by
    intro e
    have := (Hown.out.lt _ e).2
    omega
  have hbel2 : Below B w w2 := ((hbv.mono hB).trans (hba.mono (by omega))).trans (hb2.mono (by simp; omega))
  have Hown2 := Lib.hid hown2; clear hown2 Hown
  have Ht2 := Lib.hid ht2; clear ht2 hta Htq
  have Hz2 := Lib.hid hz2; clear hz2
  have Hbel2 := Lib.hid hbel2; clear hbel2 hba hb2 hbv
  have Hne := Lib.hid hne; clear hne
  by_cases hd0 : d = 0
  · subst hd0
    go_wp2_with fail
    refine (efg_zero M n p s Hd.out B v.heap.size w w2 a c ⟨Hown2.out, Hne.out, fun t h => by omega, hlt2, Hbel2.out, by omega⟩).mono ?_
    rintro e1 w4 ⟨vv, N, rfl, h1, h2, h3⟩
    go_wp2_with fail
    exact bodyPost_ret (v := vv) (by simp [results, Tryz.results174, go_sem]) rfl ⟨vv, N, rfl, h1, h2, h3⟩
  · have f20 : ((d : Int) != 0) = true := by rw [bne_iff_ne]; omega
    have hnd := fun w ht => Tryz.internal_strconv_numDigits d (by omega) hd64 w ht
    have hsd := fun w hz => setDigits_any d hd64 P hP2 w v.heap.size hz
    have Hnd := Lib.hid hnd; clear hnd
    have Hsd := Lib.hid hsd; clear hsd
    go_wp2_with fail
    go_region_law (first
      | (go_simp; go_at_call 192; refine (Hnd.out _ Ht2.out.drew.tens).mono ?_; rintro e1 w' ⟨rfl, rfl⟩)
      | (go_simp; go_at_call 191; refine (Hsd.out _ (fun j hj => by simpa using Hz2.out j hj)).mono ?_; rintro e1 w3 ⟨rfl, hcell, hg⟩))
    all_goals (
      have hg' : w2.grownBy w3 (some v.heap.size) := ⟨hg.os, hg.tape, hg.output, hg.size, hg.block⟩
      have ds : DS w B v.heap.size (trimN d (nDigits d) (nDigits d)) (fun t => dg d (nDigits d - 1 - t)) [] 0 (.slice a 0 c) w3 :=
        ⟨Hown2.out.kept hg' (.inr Hne.out), Hne.out, fun t h => hcell t (by have := trimN_le d (nDigits d) (nDigits d); omega), Nat.lt_of_lt_of_le hlt2 hg'.size, Hbel2.out.grown hg' (by omega) (fun k hk => by injection hk; omega), by have := hg'.size; omega⟩
      have Ds := Lib.hid ds
      clear ds hg hg' hcell
      go_wp2_with fail
      refine (efg_last M n p s d P Hd.out HP.out hP2 hd0 hd64 B v.heap.size w w3 a c Ds.out).mono ?_
      rintro e1 w4 ⟨vv, N, rfl, h1, h2, h3⟩
      go_wp2_with fail
      exact bodyPost_ret (v := vv) (by simp [results, Tryz.results174, go_sem]) rfl ⟨vv, N, rfl, h1, h2, h3⟩)
end Go.Proofs.YtbcnhcpgloncdaaGreatDoor
