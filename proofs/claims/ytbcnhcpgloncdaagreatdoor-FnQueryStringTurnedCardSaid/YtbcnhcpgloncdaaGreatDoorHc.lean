/- Which numbers can be boosts: from a 64th to 1000. -/
import Derived.Test.YtbcnhcpgloncdaaGreatDoorGg
namespace Go.Proofs.YtbcnhcpgloncdaaGreatDoor
open Go Go.RowKit

theorem d_sw : Ieee.double.signWeight = 9223372036854775808 := by decide
theorem d_bi : Ieee.double.binade = 4503599627370496 := by decide
theorem d_ir : Ieee.double.infRung = 9218868437227405312 := by decide
theorem d_lp : Ieee.double.leastPlace = -1074 := by decide

theorem read_pos {r : Nat} (h : r < 9218868437227405312) : (r < 4503599627370496 ∧ Ieee.double.read r = .number false r (-1074)) ∨
    (4503599627370496 ≤ r ∧ Ieee.double.read r = .number false (4503599627370496 + r % 4503599627370496) (-1074 + ((r / 4503599627370496 - 1 : Nat) : Int))) := by
  have h1 : r / 9223372036854775808 % 2 = 0 := by omega
  have h2 : r % 9223372036854775808 = r := by omega
  unfold Ieee.Format.read
  simp only [d_sw, d_bi, d_ir, d_lp, h1, h2]
  by_cases h3 : r < 4503599627370496
  · left; exact ⟨h3, by rw [if_pos h3]; rfl⟩
  · right; exact ⟨by omega, by rw [if_neg h3, if_pos h]; rfl⟩

theorem read_one : Ieee.double.read 4607182418800017408 = .number false 4503599627370496 (-52) := by decide +kernel
theorem read_top : Ieee.double.read 4679028906605412352 = .number false 8796093022208000 (-37) := by decide +kernel

theorem lt_one {r : Nat} (h : r < 4607182418800017408) : fge r 4607182418800017408 = false := by
  have e : FloatKind.f64.format = Ieee.double := rfl
  unfold fge Ieee.Format.order
  rw [e, read_one]
  rcases read_pos (r := r) (by omega) with ⟨h1, h2⟩ | ⟨h1, h2⟩
  · rw [h2]
    simp only [Ieee.Datum.order]
    have : compare (Ieee.signed false r (-1074 - min (-1074) (-52) : Int).toNat) (Ieee.signed false 4503599627370496 (-52 - min (-1074) (-52) : Int).toNat) = .lt := by
      rw [signed_nonneg, signed_nonneg, Int.compare_eq_lt, Int.ofNat_lt]
      rw [show (-1074 - min (-1074) (-52) : Int).toNat = 0 by decide, Nat.pow_zero, Nat.mul_one]
      exact Nat.lt_of_lt_of_le h1 (Nat.le_mul_of_pos_right _ (Nat.two_pow_pos _))
    rw [this]; rfl
  · rw [h2]
    have hk : r / 4503599627370496 - 1 ≤ 1021 := by omega
    generalize r / 4503599627370496 - 1 = k at *
    have hm : 4503599627370496 + r % 4503599627370496 < 9007199254740992 := by omega
    generalize 4503599627370496 + r % 4503599627370496 = m at *
    simp only [Ieee.Datum.order]
    have : compare (Ieee.signed false m (-1074 + (k : Int) - min (-1074 + (k : Int)) (-52)).toNat) (Ieee.signed false 4503599627370496 (-52 - min (-1074 + (k : Int)) (-52)).toNat) = .lt := by
      rw [signed_nonneg, signed_nonneg, Int.compare_eq_lt, Int.ofNat_lt]
      rw [Int.min_eq_left (by omega), show (-1074 + (k : Int) - (-1074 + (k : Int))).toNat = 0 by omega, Nat.pow_zero, Nat.mul_one]
      have h2 : 1 ≤ (-52 - (-1074 + (k : Int))).toNat := by omega
      have h3 : 2 ^ 1 ≤ 2 ^ (-52 - (-1074 + (k : Int))).toNat := Nat.pow_le_pow_right (by decide) h2
      have h4 := Nat.mul_le_mul_left 4503599627370496 h3
      omega
    rw [this]; rfl

theorem read_inf : Ieee.double.read 9218868437227405312 = .infinity false := by decide +kernel

theorem gt_top {r : Nat} (h : 4679028906605412352 < r) (hr : r ≤ 9218868437227405312) : fle r 4679028906605412352 = false := by
  have e : FloatKind.f64.format = Ieee.double := rfl
  unfold fle Ieee.Format.order
  rw [e, read_top]
  by_cases hi : r = 9218868437227405312
  · subst hi; rw [read_inf]; rfl
  rcases read_pos (r := r) (by omega) with ⟨h1, h2⟩ | ⟨h1, h2⟩
  · omega
  · rw [h2]
    have hk : 1037 ≤ r / 4503599627370496 - 1 := by omega
    have hkk : r / 4503599627370496 - 1 = 1037 → 8796093022208000 < 4503599627370496 + r % 4503599627370496 := by omega
    generalize r / 4503599627370496 - 1 = k at *
    have hm : 4503599627370496 ≤ 4503599627370496 + r % 4503599627370496 := by omega
    generalize 4503599627370496 + r % 4503599627370496 = m at *
    simp only [Ieee.Datum.order]
    have : compare (Ieee.signed false m (-1074 + (k : Int) - min (-1074 + (k : Int)) (-37)).toNat) (Ieee.signed false 8796093022208000 (-37 - min (-1074 + (k : Int)) (-37)).toNat) = .gt := by
      rw [signed_nonneg, signed_nonneg, Int.compare_eq_gt, Int.ofNat_lt]
      rw [Int.min_eq_right (by omega), show (-37 - (-37 : Int)).toNat = 0 by omega, Nat.pow_zero, Nat.mul_one]
      by_cases h5 : k = 1037
      · have := hkk h5
        exact Nat.lt_of_lt_of_le this (Nat.le_mul_of_pos_right _ (Nat.two_pow_pos _))
      · have h2 : 1 ≤ (-1074 + (k : Int) - (-37)).toNat := by omega
        have h3 : 2 ^ 1 ≤ 2 ^ (-1074 + (k : Int) - (-37)).toNat := Nat.pow_le_pow_right (by decide) h2
        have h4 := Nat.mul_le_mul hm h3
        omega
    rw [this]; rfl

theorem read_neg {r : Nat} (h : r ≤ 9218868437227405312) : Ieee.double.read (9223372036854775808 + r) = .infinity true ∨ ∃ m i, Ieee.double.read (9223372036854775808 + r) = .number true m i := by
  have h1 : (9223372036854775808 + r) / 9223372036854775808 % 2 = 1 := by omega
  have h2 : (9223372036854775808 + r) % 9223372036854775808 = r := by omega
  unfold Ieee.Format.read
  simp only [d_sw, d_bi, d_ir, d_lp, h1, h2]
  by_cases h3 : r < 4503599627370496
  · right; exact ⟨_, _, by rw [if_pos h3]; rfl⟩
  · by_cases h4 : r < 9218868437227405312
    · right; exact ⟨_, _, by rw [if_neg h3, if_pos h4]; rfl⟩
    · left; rw [if_neg h3, if_neg h4, if_pos (by omega)]; rfl

theorem neg_one {r : Nat} (h : r ≤ 9218868437227405312) : fge (9223372036854775808 + r) 4607182418800017408 = false := by
  have e : FloatKind.f64.format = Ieee.double := rfl
  unfold fge Ieee.Format.order
  rw [e, read_one]
  rcases read_neg h with h1 | ⟨m, i, h1⟩
  · rw [h1]; rfl
  · rw [h1]
    simp only [Ieee.Datum.order]
    have : compare (Ieee.signed true m (i - min i (-52)).toNat) (Ieee.signed false 4503599627370496 (-52 - min i (-52)).toNat) = .lt := by
      rw [signed_neg, signed_nonneg, Int.compare_eq_lt]
      have : 0 < 4503599627370496 * 2 ^ (-52 - min i (-52)).toNat := Nat.mul_pos (by decide) (Nat.two_pow_pos _)
      omega
    rw [this]; rfl

/-- What a word of 64 bits stands for. -/
theorem read_any {x : Nat} (hx : x < 18446744073709551616) : ∃ s r, x = Ieee.double.word s r ∧ r < 9223372036854775808 ∧
    ((r < 4503599627370496 ∧ Ieee.double.read x = .number s r (-1074)) ∨ (4503599627370496 ≤ r ∧ r < 9218868437227405312 ∧ Ieee.double.read x = .number s (4503599627370496 + r % 4503599627370496) (-1074 + ((r / 4503599627370496 - 1 : Nat) : Int))) ∨
      Ieee.double.read x = .infinity s ∨ ∃ f, Ieee.double.read x = .nan s f) := by
  refine ⟨x / 9223372036854775808 % 2 == 1, x % 9223372036854775808, ?_, by omega, ?_⟩
  · unfold Ieee.Format.word
    rw [d_sw]
    by_cases h : x / 9223372036854775808 % 2 = 1
    · simp [h]; omega
    · simp [h]; omega
  · unfold Ieee.Format.read
    simp only [d_sw, d_bi, d_ir, d_lp]
    by_cases h3 : x % 9223372036854775808 < 4503599627370496
    · left; exact ⟨h3, by rw [if_pos h3]⟩
    · by_cases h4 : x % 9223372036854775808 < 9218868437227405312
      · right; left; exact ⟨by omega, h4, by rw [if_neg h3, if_pos h4]⟩
      · right; right
        by_cases h5 : x % 9223372036854775808 = 9218868437227405312
        · left; rw [if_neg h3, if_neg h4, if_pos h5]
        · right; exact ⟨_, by rw [if_neg h3, if_neg h4, if_neg h5]⟩

theorem read_64 : Ieee.double.read 4634204016564240384 = .number false 4503599627370496 (-46) := by decide +kernel

theorem cut_exact (s : Bool) (m d : Nat) (hm : 0 < m) : Ieee.Toward.cut .even s (m * 2 ^ d) d = m := by
  have hl : d ≤ (m * 2 ^ d).log2 := by
    rw [Nat.le_log2 (Nat.mul_ne_zero (by omega) (by exact Nat.ne_of_gt (Nat.two_pow_pos _)))]
    exact Nat.le_mul_of_pos_left _ hm
  unfold Ieee.Toward.cut
  simp only
  rw [Nat.min_eq_left (by omega), Nat.shiftLeft_eq, Nat.one_mul, Nat.mul_div_cancel _ (Nat.two_pow_pos _), Nat.mul_mod_left]
  have h0 : 0 < 2 ^ d := Nat.two_pow_pos d
  have h1 : decide (2 ^ d < 2 * 0) = false := by simp
  have h2 : (2 ^ d == 2 * 0) = false := by simp
  rw [h1, h2]; rfl

theorem cut_even_le (s : Bool) (m d : Nat) : Ieee.Toward.cut .even s m d ≤ m / 2 ^ (min d (m.log2 + 2)) + 1 := by
  unfold Ieee.Toward.cut
  simp only
  rw [Nat.shiftLeft_eq, Nat.one_mul]
  exact Nat.add_le_add_left (Bool.toNat_le _) _

theorem log2_mul52 {m : Nat} (h : m ≠ 0) : (m * 4503599627370496).log2 = m.log2 + 52 := by
  have h0 : m * 4503599627370496 ≠ 0 := by omega
  have h1 : m.log2 + 52 ≤ (m * 4503599627370496).log2 := by
    rw [Nat.le_log2 h0, Nat.pow_add]
    exact Nat.mul_le_mul (Nat.log2_self_le h) (by decide)
  have h2 : (m * 4503599627370496).log2 < m.log2 + 52 + 1 := by
    rw [Nat.log2_lt h0, show m.log2 + 52 + 1 = (m.log2 + 1) + 52 by omega, Nat.pow_add]
    exact Nat.mul_lt_mul_of_lt_of_le Nat.lt_log2_self (by decide) (by decide)
  omega

theorem near_normal (s : Bool) (m k : Nat) (h1 : 4503599627370496 ≤ m) (h2 : m < 9007199254740992) : Ieee.double.nearest s (m * 4503599627370496) (-1074 + (k : Int) + -46) = Ieee.double.word s (min ((k + 6) * 4503599627370496 + m) 9218868437227405312) := by
  have hl := log2_mul52 (m := m) (by omega)
  have hl2 : m.log2 = 52 := by
    have a1 : 52 ≤ m.log2 := by rw [Nat.le_log2 (by omega)]; omega
    have a2 : m.log2 < 53 := by rw [Nat.log2_lt (by omega)]; omega
    omega
  have hc := cut_exact s m 52 (by omega)
  rw [show (2 : Nat) ^ 52 = 4503599627370496 by decide] at hc
  have hf : Ieee.double.fractionBits = 52 := rfl
  have hd : max (-1074 + (k : Int) + -46 + ((52 + 52 : Nat) : Int) - ((52 : Nat) : Int)) (-1074) = (k : Int) - 1068 := by omega
  have e1 : (-1074 + (k : Int) + -46 - ((k : Int) - 1068)).toNat = 0 := by omega
  have e2 : ((k : Int) - 1068 - (-1074 + (k : Int) + -46)).toNat = 52 := by omega
  have e3 : ((k : Int) - 1068 - -1074).toNat = k + 6 := by omega
  unfold Ieee.Format.nearest
  rw [if_neg (by omega), hl, hl2, d_bi, d_ir, d_lp, hf]
  simp only [hd, e1, e2, e3, Nat.shiftLeft_zero, hc]

theorem fitF_range {x : Nat} (hx : x < 18446744073709551616) (h : fitF x = true) : 4580160821035794432 ≤ x ∧ x ≤ 4652007308841189376 := by
  unfold fitF Ieee.Format.mul at h
  rw [read_64] at h
  obtain ⟨s, r, rfl, hr, h1 | h1 | h1 | ⟨f, h1⟩⟩ := read_any hx
  · -- a subnormal one
    exfalso
    obtain ⟨h1, h2⟩ := h1
    rw [h2] at h
    simp only [Ieee.Datum.product, Option.map_some, Bool.and_eq_true, Ieee.Format.write] at h
    obtain ⟨⟨ha, _⟩, _⟩ := h
    have hp : ∃ q, q < 4607182418800017408 ∧ Ieee.double.nearest (s ^^ false) (r * 4503599627370496) (-1074 + -46) = Ieee.double.word s q := by
      unfold Ieee.Format.nearest
      rw [Bool.xor_false]
      by_cases h0 : r * 4503599627370496 = 0
      · exact ⟨0, by decide, by rw [if_pos h0]⟩
      · rw [if_neg h0]
        refine ⟨_, ?_, rfl⟩
        have hl := log2_mul52 (m := r) (by omega)
        have hl2 : r.log2 < 52 := by rw [Nat.log2_lt (by omega)]; omega
        rw [hl, d_bi, d_ir, d_lp, show Ieee.double.fractionBits = 52 from rfl]
        generalize r.log2 = l at *
        refine Nat.lt_of_le_of_lt (Nat.min_le_left _ _) ?_
        obtain ⟨d, hd, hd1, hd2⟩ : ∃ d : Nat, max (-1074 + -46 + ((l + 52 : Nat) : Int) - ((52 : Nat) : Int)) (-1074) = -1120 + (d : Int) ∧ 46 ≤ d ∧ d ≤ 51 := ⟨(max (-1074 + -46 + ((l + 52 : Nat) : Int) - ((52 : Nat) : Int)) (-1074) + 1120).toNat, by omega, by omega, by omega⟩
        rw [hd]
        rw [show (-1074 + -46 - (-1120 + (d : Int))).toNat = 0 by omega, Nat.shiftLeft_zero, show (-1120 + (d : Int) - (-1074 + -46)).toNat = d by omega]
        have hc := cut_even_le s (r * 4503599627370496) d
        rw [hl, Nat.min_eq_left (by omega)] at hc
        have h46 : (2 : Nat) ^ 46 ≤ 2 ^ d := Nat.pow_le_pow_right (by decide) hd1
        have hq : r * 4503599627370496 / 2 ^ d ≤ r * 4503599627370496 / 2 ^ 46 := Nat.div_le_div_left h46 (Nat.two_pow_pos _)
        have hq2 : r * 4503599627370496 / 2 ^ 46 ≤ 4503599627370496 * 4503599627370496 / 2 ^ 46 := Nat.div_le_div_right (by omega)
        have hq3 : 4503599627370496 * 4503599627370496 / 2 ^ 46 = 288230376151711744 := by decide
        omega
    obtain ⟨q, hq, hq2⟩ := hp
    rw [hq2] at ha
    cases s
    · have : Ieee.double.word false q = q := rfl
      rw [this, lt_one hq] at ha
      cases ha
    · have : Ieee.double.word true q = 9223372036854775808 + q := by unfold Ieee.Format.word; rw [d_sw]; rfl
      rw [this, neg_one (by omega)] at ha
      cases ha
  · obtain ⟨h1, h2, h3⟩ := h1
    rw [h3] at h
    simp only [Ieee.Datum.product, Option.map_some, Bool.and_eq_true, Ieee.Format.write] at h
    obtain ⟨⟨ha, hb⟩, _⟩ := h
    obtain ⟨k, hk⟩ : ∃ k, k = r / 4503599627370496 - 1 := ⟨_, rfl⟩
    rw [← hk] at ha hb
    obtain ⟨m, hm⟩ : ∃ m, m = 4503599627370496 + r % 4503599627370496 := ⟨_, rfl⟩
    rw [← hm] at ha hb
    have hp := near_normal s m k (by omega) (by omega)
    rw [show (k + 6) * 4503599627370496 + m = r + 27021597764222976 by omega] at hp
    have hxor : (s ^^ false) = s := Bool.xor_false s
    rw [hxor] at ha hb
    clear hm hk hx
    rw [hp] at ha hb
    cases s
    · have hw : ∀ q, Ieee.double.word false q = q := fun _ => rfl
      rw [hw] at ha hb ⊢
      have h4 : ¬ (min (r + 27021597764222976) 9218868437227405312 < 4607182418800017408) := fun h => by rw [lt_one h] at ha; cases ha
      have h5 : ¬ (4679028906605412352 < min (r + 27021597764222976) 9218868437227405312) := fun h => by rw [gt_top h (Nat.min_le_right _ _)] at hb; cases hb
      omega
    · have : Ieee.double.word true (min (r + 27021597764222976) 9218868437227405312) = 9223372036854775808 + min (r + 27021597764222976) 9218868437227405312 := by unfold Ieee.Format.word; rw [d_sw]; rfl
      rw [this, neg_one (Nat.min_le_right _ _)] at ha
      cases ha
  · rw [h1] at h
    cases s
    · simp [Ieee.Datum.product] at h
      exact absurd h.1 (by decide +kernel)
    · simp [Ieee.Datum.product] at h
      exact absurd h.1 (by decide +kernel)
  · rw [h1] at h; simp [Ieee.Datum.product] at h
end Go.Proofs.YtbcnhcpgloncdaaGreatDoor
