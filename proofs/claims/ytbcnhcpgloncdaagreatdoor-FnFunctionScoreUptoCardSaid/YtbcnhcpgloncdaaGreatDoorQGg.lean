/- 'fit', kind by kind. -/
import Derived.Test.YtbcnhcpgloncdaaGreatDoorQGd
namespace Go.Proofs.YtbcnhcpgloncdaaGreatDoor
open Go Go.RowKit

set_option maxRecDepth 100000 in
set_option maxHeartbeats 1000000 in
theorem fit_t (v : TV) (w : World) : Calls Tryz.prog 26 #[.string ⟨#[116]⟩, v.val] w fun e w' => e = .returned (.bool (decide (v.kind = 1) && scalarV v)) ∧ Below w.heap.size w w' := by
  have hcall := fun w => scalar_any v w
  obtain ⟨kind, text, num, yes, ka, kn, kc, ca, cn, cc⟩ := v
  generalize scalarV ⟨kind, text, num, yes, ka, kn, kc, ca, cn, cc⟩ = bb at *
  have Hcall := Lib.hid hcall; clear hcall
  simp only [TV.val] at *
  by_cases hk : kind = 1
  · subst hk
    go_enter Tryz.func26, Tryz.ntmps26
    go_wp2_with (go_at_call 101; refine (Hcall.out _).mono ?_; rintro e w' ⟨rfl, hb⟩)
    go_ret
    exact ⟨by simp, via ((Below.refl _ _).alloc (Nat.le_refl _) _) hb⟩
  · have hk' : (kind == 1) = false := by simp [hk]
    rw [show decide (kind = 1) = false by simp [hk]]
    clear hk
    go_enter Tryz.func26, Tryz.ntmps26
    go_wp2_with fail
    go_ret
    exact ⟨by simp, (Below.refl _ _).alloc (Nat.le_refl _) _⟩
set_option maxRecDepth 100000 in
set_option maxHeartbeats 1000000 in
theorem fit_n (v : TV) (w : World) : Calls Tryz.prog 26 #[.string ⟨#[110]⟩, v.val] w fun e w' => e = .returned (.bool (decide (v.kind = 2) && scalarV v)) ∧ Below w.heap.size w w' := by
  have hcall := fun w => scalar_any v w
  obtain ⟨kind, text, num, yes, ka, kn, kc, ca, cn, cc⟩ := v
  generalize scalarV ⟨kind, text, num, yes, ka, kn, kc, ca, cn, cc⟩ = bb at *
  have Hcall := Lib.hid hcall; clear hcall
  simp only [TV.val] at *
  by_cases hk : kind = 2
  · subst hk
    go_enter Tryz.func26, Tryz.ntmps26
    go_wp2_with (go_at_call 101; refine (Hcall.out _).mono ?_; rintro e w' ⟨rfl, hb⟩)
    go_ret
    exact ⟨by simp, via ((Below.refl _ _).alloc (Nat.le_refl _) _) hb⟩
  · have hk' : (kind == 2) = false := by simp [hk]
    rw [show decide (kind = 2) = false by simp [hk]]
    clear hk
    go_enter Tryz.func26, Tryz.ntmps26
    go_wp2_with fail
    go_ret
    exact ⟨by simp, (Below.refl _ _).alloc (Nat.le_refl _) _⟩
set_option maxRecDepth 100000 in
set_option maxHeartbeats 1000000 in
theorem fit_b (v : TV) (w : World) : Calls Tryz.prog 26 #[.string ⟨#[98]⟩, v.val] w fun e w' => e = .returned (.bool (decide (v.kind = 3) && scalarV v)) ∧ Below w.heap.size w w' := by
  have hcall := fun w => scalar_any v w
  obtain ⟨kind, text, num, yes, ka, kn, kc, ca, cn, cc⟩ := v
  generalize scalarV ⟨kind, text, num, yes, ka, kn, kc, ca, cn, cc⟩ = bb at *
  have Hcall := Lib.hid hcall; clear hcall
  simp only [TV.val] at *
  by_cases hk : kind = 3
  · subst hk
    go_enter Tryz.func26, Tryz.ntmps26
    go_wp2_with (go_at_call 101; refine (Hcall.out _).mono ?_; rintro e w' ⟨rfl, hb⟩)
    go_ret
    exact ⟨by simp, via ((Below.refl _ _).alloc (Nat.le_refl _) _) hb⟩
  · have hk' : (kind == 3) = false := by simp [hk]
    rw [show decide (kind = 3) = false by simp [hk]]
    clear hk
    go_enter Tryz.func26, Tryz.ntmps26
    go_wp2_with fail
    go_ret
    exact ⟨by simp, (Below.refl _ _).alloc (Nat.le_refl _) _⟩
theorem fit_v (v : TV) (w : World) : Calls Tryz.prog 26 #[.string ⟨#[118]⟩, v.val] w fun e w' => e = .returned (.bool (scalarV v)) ∧ Below w.heap.size w w' := by
  have hcall := fun w => scalar_any v w
  obtain ⟨kind, text, num, yes, ka, kn, kc, ca, cn, cc⟩ := v
  generalize scalarV ⟨kind, text, num, yes, ka, kn, kc, ca, cn, cc⟩ = bb at *
  have Hcall := Lib.hid hcall; clear hcall
  simp only [TV.val] at *
  go_enter Tryz.func26, Tryz.ntmps26
  go_wp2_with (go_at_call 101; refine (Hcall.out _).mono ?_; rintro e w' ⟨rfl, hb⟩)
  go_ret
  exact ⟨by simp, via ((Below.refl _ _).alloc (Nat.le_refl _) _) hb⟩

theorem fit_none (v : TV) (w : World) : Calls Tryz.prog 26 #[.string ⟨#[]⟩, v.val] w fun e w' => e = .returned (.bool false) ∧ Below w.heap.size w w' := by
  obtain ⟨kind, text, num, yes, ka, kn, kc, ca, cn, cc⟩ := v
  simp only [TV.val] at *
  go_enter Tryz.func26, Tryz.ntmps26
  go_wp2_with fail
  go_ret
  exact ⟨by simp, (Below.refl _ _).alloc (Nat.le_refl _) _⟩

/-- '≥', '≤', '==' of numbers. -/
def fge (x y : Nat) : Bool := FloatKind.f64.format.order x y == some .gt || FloatKind.f64.format.order x y == some .eq
def fle (x y : Nat) : Bool := FloatKind.f64.format.order x y == some .lt || FloatKind.f64.format.order x y == some .eq
def feq (x y : Nat) : Bool := FloatKind.f64.format.order x y == some .eq

theorem cut_le (m d B : Nat) (h : m ≤ B * 2 ^ d) : Ieee.Toward.cut .zero false m d ≤ B := by
  unfold Ieee.Toward.cut
  simp only [Bool.toNat_false, Nat.add_zero]
  rw [Nat.shiftLeft_eq, Nat.one_mul]
  by_cases hd : d ≤ m.log2 + 2
  · rw [Nat.min_eq_left hd]
    exact Nat.div_le_of_le_mul (by rw [Nat.mul_comm]; exact h)
  · rw [Nat.min_eq_right (by omega)]
    have : m < 2 ^ (m.log2 + 2) := Nat.lt_of_lt_of_le Nat.lt_log2_self (Nat.pow_le_pow_right (by decide) (by omega))
    rw [Nat.div_eq_of_lt this]; omega
theorem cut_zero (s : Bool) (d : Nat) : Ieee.Toward.cut .zero s 0 d = 0 := by
  unfold Ieee.Toward.cut
  simp

theorem signed_nonneg (m n : Nat) : Ieee.signed false m n = ((m * 2 ^ n : Nat) : Int) := by
  simp [Ieee.signed, Nat.shiftLeft_eq]
theorem signed_neg (m n : Nat) : Ieee.signed true m n = -((m * 2 ^ n : Nat) : Int) := by
  simp [Ieee.signed, Nat.shiftLeft_eq]

/-- A number from 0 to B (B * 2 ^ k as written) can be cut to a whole one. -/
theorem toInt_range {x y z c B k : Nat} {jz : Int} (hz : Ieee.double.read z = .number false c jz) (hy : Ieee.double.read y = .number false (B * 2 ^ k) (-k)) (hB : B ≤ 2 ^ 60) (h0 : fge x z = true) (h1 : fle x y = true) :
    ∃ n : Nat, n ≤ B ∧ floatToIntVal .f64 x .i64 = some (n : Int) := by
  have e : FloatKind.f64.format = Ieee.double := rfl
  unfold fge at h0
  unfold fle at h1
  unfold floatToIntVal
  rw [e] at h0 h1
  unfold Ieee.Format.order at h0 h1
  rw [hz] at h0
  rw [hy] at h1
  have ed : FloatKind.f64.decode x = Ieee.double.read x := rfl
  rw [ed]
  cases hx : Ieee.double.read x with
  | nan s f => rw [hx] at h0; simp [Ieee.Datum.order] at h0
  | infinity s => rw [hx] at h0 h1; cases s <;> simp [Ieee.Datum.order] at h0 h1
  | number s m i =>
    rw [hx] at h0 h1
    simp only [Ieee.Datum.order] at h0 h1
    have hcase : s = false ∨ m = 0 := by
      cases s with
      | false => exact .inl rfl
      | true =>
        right
        rw [signed_neg, signed_nonneg] at h0
        by_cases hm : m = 0
        · exact hm
        · exfalso
          have hp : 0 < m * 2 ^ (i - min i jz).toNat := Nat.mul_pos (by omega) (Nat.two_pow_pos _)
          have : compare (-((m * 2 ^ (i - min i jz).toNat : Nat) : Int)) ((c * 2 ^ (jz - min i jz).toNat : Nat) : Int) = .lt := by
            rw [Int.compare_eq_lt]; omega
          rw [this] at h0
          simp at h0
    rcases hcase with rfl | rfl
    · rw [signed_nonneg, signed_nonneg] at h1
      have hle : m * 2 ^ (i - min i (-(k : Int))).toNat ≤ B * 2 ^ k * 2 ^ (-(k : Int) - min i (-(k : Int))).toNat := by
        rw [Bool.or_eq_true] at h1
        rcases h1 with h1 | h1
        · have := Int.compare_eq_lt.1 (by simpa using h1)
          exact Int.ofNat_le.1 (Int.le_of_lt this)
        · have := Int.compare_eq_eq.1 (by simpa using h1)
          exact Int.ofNat_le.1 (Int.le_of_eq this)
      have hb : (m <<< i.toNat) ≤ B * 2 ^ (-i).toNat := by
        rw [Nat.shiftLeft_eq]
        by_cases hi : i ≤ -(k : Int)
        · rw [Int.min_eq_left hi] at hle
          rw [show i.toNat = 0 by omega]
          rw [show (i - i).toNat = 0 by omega] at hle
          rw [Nat.mul_assoc, ← Nat.pow_add, show k + (-(k : Int) - i).toNat = (-i).toNat by omega] at hle
          simpa using hle
        · rw [Int.min_eq_right (by omega)] at hle
          rw [show (-(k : Int) - -(k : Int)).toNat = 0 by omega, Nat.pow_zero, Nat.mul_one] at hle
          by_cases h0 : 0 ≤ i
          · rw [show (-i).toNat = 0 by omega, Nat.pow_zero, Nat.mul_one]
            rw [show (i - -(k : Int)).toNat = i.toNat + k by omega, Nat.pow_add, ← Nat.mul_assoc] at hle
            exact Nat.le_of_mul_le_mul_right hle (Nat.two_pow_pos k)
          · rw [show i.toNat = 0 by omega, Nat.pow_zero, Nat.mul_one]
            have : k = (i - -(k : Int)).toNat + (-i).toNat := by omega
            rw [show B * 2 ^ k = B * 2 ^ (-i).toNat * 2 ^ (i - -(k : Int)).toNat by rw [Nat.mul_assoc, ← Nat.pow_add]; congr 2; omega] at hle
            exact Nat.le_of_mul_le_mul_right hle (Nat.two_pow_pos _)
      have hc := cut_le _ _ _ hb
      refine ⟨_, hc, ?_⟩
      simp only [Ieee.Datum.toInt, Ieee.Datum.integral]
      rw [signed_nonneg]
      simp only [Nat.pow_zero, Nat.mul_one]
      rw [if_pos]
      have hm : IntKind.i64.min = -9223372036854775808 := by decide
      have hM : IntKind.i64.max = 9223372036854775807 := by decide
      have : (2 : Nat) ^ 60 = 1152921504606846976 := by decide
      omega
    · refine ⟨0, by omega, ?_⟩
      simp only [Ieee.Datum.toInt, Ieee.Datum.integral]
      rw [Nat.zero_shiftLeft, cut_zero]
      cases s <;> decide

def roundB (x : Nat) : Bool := match floatToIntVal .f64 x .i64 with | some n => feq (floatOfInt .f64 n) x | none => false
def fitW (x : Nat) : Bool := fge x 0 && fle x 4696837146684686336 && roundB x

theorem fitW_int {x : Nat} (h0 : fge x 0 = true) (h1 : fle x 4696837146684686336 = true) : ∃ n : Nat, n ≤ 1000000 ∧ floatToIntVal .f64 x .i64 = some (n : Int) :=
  toInt_range (B := 1000000) (k := 33) (c := 0) (jz := -1074) (by decide +kernel) (by decide +kernel) (by decide) h0 h1
theorem parts_int {x : Nat} (h0 : fge x 4607182418800017408 = true) (h1 : fle x 4679028906605412352 = true) : ∃ n : Nat, n ≤ 64000 ∧ floatToIntVal .f64 x .i64 = some (n : Int) :=
  toInt_range (B := 64000) (k := 37) (c := 4503599627370496) (jz := -52) (by decide +kernel) (by decide +kernel) (by decide) h0 h1

theorem conv_int {x : Nat} {n : Int} (h : floatToIntVal .f64 x .i64 = some n) (w : World) : (convert 28 3 (.float .f64 x)).run Tryz.prog w = .ok (.int .i64 n) w :=
  run_convert_float_int w 28 3 .f64 .i64 x n (by rw [Tryz.underlying28]; rfl) Tryz.underlying3 h

set_option maxRecDepth 100000 in
set_option maxHeartbeats 1000000 in
theorem fit_w (v : TV) (w : World) : Calls Tryz.prog 26 #[.string ⟨#[119]⟩, v.val] w fun e w' => e = .returned (.bool (decide (v.kind = 2) && scalarV v && fitW v.num)) ∧ Below w.heap.size w w' := by
  have hcall := fun w => scalar_any v w
  obtain ⟨kind, text, num, yes, ka, kn, kc, ca, cn, cc⟩ := v
  simp only [TV.val] at *
  by_cases hk : kind = 2
  · subst hk
    cases hsv : scalarV ⟨2, text, num, yes, ka, kn, kc, ca, cn, cc⟩ with
    | false =>
      rw [hsv] at hcall
      have Hcall := Lib.hid hcall; clear hcall hsv
      go_enter Tryz.func26, Tryz.ntmps26
      go_wp2_with (go_at_call 101; refine (Hcall.out _).mono ?_; rintro e w' ⟨rfl, hb⟩)
      go_ret
      exact ⟨by simp, via ((Below.refl _ _).alloc (Nat.le_refl _) _) hb⟩
    | true =>
      rw [hsv] at hcall
      have Hcall := Lib.hid hcall; clear hcall hsv
      cases hge : fge num 0 with
      | false =>
        have Hfw : Hid (fitW num = false) := Lib.hid (by simp [fitW, hge])
        unfold fge at hge
        go_enter Tryz.func26, Tryz.ntmps26
        go_wp2_with fail
        refine (Hcall.out _).mono ?_; rintro e w' ⟨rfl, hb⟩
        obtain ⟨hc, hf⟩ := bcell hb
        have hz : w.heap.size + 1 ≤ w'.heap.size := by have := hb.size; simp at this; omega
        go_wp2_with fail
        go_ret
        exact ⟨by rw [Hfw.out]; simp, via ((Below.refl _ _).alloc (Nat.le_refl _) _) hb⟩
      | true =>
        cases hle : fle num 4696837146684686336 with
        | false =>
          have Hfw : Hid (fitW num = false) := Lib.hid (by simp [fitW, hle])
          unfold fge at hge
          unfold fle at hle
          go_enter Tryz.func26, Tryz.ntmps26
          go_wp2_with fail
          refine (Hcall.out _).mono ?_; rintro e w' ⟨rfl, hb⟩
          obtain ⟨hc, hf⟩ := bcell hb
          have hz : w.heap.size + 1 ≤ w'.heap.size := by have := hb.size; simp at this; omega
          go_wp2_with fail
          go_ret
          exact ⟨by rw [Hfw.out]; simp, via ((Below.refl _ _).alloc (Nat.le_refl _) _) hb⟩
        | true =>
          obtain ⟨n, hn, hconv⟩ := fitW_int hge hle
          have Hfw : Hid (fitW num = (FloatKind.f64.format.order (floatOfInt .f64 n) num == some .eq)) := Lib.hid (by simp [fitW, hge, hle, roundB, hconv, feq])
          have hcv := conv_int hconv
          clear hconv
          unfold fge at hge
          unfold fle at hle
          go_enter Tryz.func26, Tryz.ntmps26
          go_wp2_with fail
          refine (Hcall.out _).mono ?_; rintro e w' ⟨rfl, hb⟩
          obtain ⟨hc, hf⟩ := bcell hb
          have hz : w.heap.size + 1 ≤ w'.heap.size := by have := hb.size; simp at this; omega
          go_wp2_with fail
          go_ret
          exact ⟨by rw [Hfw.out]; simp, via ((Below.refl _ _).alloc (Nat.le_refl _) _) hb⟩
  · have hk' : (kind == 2) = false := by simp [hk]
    rw [show decide (kind = 2) = false by simp [hk]]
    clear hk hcall
    go_enter Tryz.func26, Tryz.ntmps26
    go_wp2_with fail
    go_ret
    exact ⟨by simp, (Below.refl _ _).alloc (Nat.le_refl _) _⟩

def fitF (x : Nat) : Bool := match Ieee.double.mul x 4634204016564240384 with | some p => fge p 4607182418800017408 && fle p 4679028906605412352 && roundB p | none => false

theorem run_parts (w : World) (x : Nat) : ∃ r w', (binOp .mul 28 (.float .f64 x) (.float .f64 4634204016564240384)).run Tryz.prog w = .ok (.float .f64 r) w' ∧ fitF x = (fge r 4607182418800017408 && fle r 4679028906605412352 && roundB r) ∧ (w' = w ∨ w' = w.drew) := by
  cases h : Ieee.double.mul x 4634204016564240384 with
  | some r => exact ⟨r, w, run_float_arith w .mul 28 .f64 x _ r h, by simp [fitF, h], .inl rfl⟩
  | none =>
    refine ⟨Question.cut (.nanBits .f64 x 4634204016564240384) (w.tape w.drawn (.nanBits .f64 x 4634204016564240384)), w.drew, ?_, ?_, .inr rfl⟩
    · have e : FloatKind.f64.format = Ieee.double := rfl
      simp [binOp, Op.floatArith, e, h, Question.forced]
    · obtain ⟨s, f, hr⟩ := read_nan (w.tape w.drawn (.nanBits .f64 x 4634204016564240384)) x 4634204016564240384
      have e : FloatKind.f64.format = Ieee.double := rfl
      have : fge (Question.cut (.nanBits .f64 x 4634204016564240384) (w.tape w.drawn (.nanBits .f64 x 4634204016564240384))) 4607182418800017408 = false := by
        unfold fge Ieee.Format.order
        rw [e, hr]
        rfl
      rw [this]; simp [fitF, h]

set_option maxRecDepth 100000 in
set_option maxHeartbeats 2000000 in
theorem fit_f (v : TV) (w : World) (hsz : v.text.size ≤ 9223372036854775807) : Calls Tryz.prog 26 #[.string ⟨#[102]⟩, v.val] w fun e w' => e = .returned (.bool (decide (v.kind = 1) && scalarV v && fieldB v.text && fitF v.num)) ∧ Below w.heap.size w w' := by
  have hcall := fun w => scalar_any v w
  have hfld := fun w => field_any v.text w hsz
  clear hsz
  obtain ⟨kind, text, num, yes, ka, kn, kc, ca, cn, cc⟩ := v
  simp only [TV.val] at *
  obtain ⟨r, w0, hmul, hfit, hw0⟩ := run_parts (w.alloc (.cells #[.int .i64 kind, .string text, .float .f64 num, .bool yes, .slice ka kn kc, .slice ca cn cc] 31)) num
  rw [hfit]; clear hfit
  have hb0 : Below w.heap.size w w0 := by
    rcases hw0 with rfl | rfl
    · exact (Below.refl _ _).alloc (Nat.le_refl _) _
    · exact ((Below.refl _ _).alloc (Nat.le_refl _) _).drew
  have hc0 : ∀ b o, w0.cell? ⟨b, o, none⟩ = (w.alloc (.cells #[.int .i64 kind, .string text, .float .f64 num, .bool yes, .slice ka kn kc, .slice ca cn cc] 31)).cell? ⟨b, o, none⟩ := by
    rcases hw0 with rfl | rfl <;> intro b o <;> rfl
  have hz0 : w0.heap.size = w.heap.size + 1 := by
    rcases hw0 with rfl | rfl <;> simp
  clear hw0
  by_cases hk : kind = 1
  · subst hk
    have b0 := (hc0 w.heap.size 0).trans (World.cell?_alloc_new w _ 31 0)
    have b1 := (hc0 w.heap.size 1).trans (World.cell?_alloc_new w _ 31 1)
    have b2 := (hc0 w.heap.size 2).trans (World.cell?_alloc_new w _ 31 2)
    have b3 := (hc0 w.heap.size 3).trans (World.cell?_alloc_new w _ 31 3)
    have b4 := (hc0 w.heap.size 4).trans (World.cell?_alloc_new w _ 31 4)
    have b5 := (hc0 w.heap.size 5).trans (World.cell?_alloc_new w _ 31 5)
    simp only [List.getElem?_toArray, List.getElem?_cons_succ, List.getElem?_cons_zero] at b0 b1 b2 b3 b4 b5
    clear hc0
    have Hb0 := Lib.hid hb0; clear hb0
    cases hsv : scalarV ⟨1, text, num, yes, ka, kn, kc, ca, cn, cc⟩ with
    | false =>
      rw [hsv] at hcall
      have Hcall := Lib.hid hcall; clear hcall hsv hfld
      go_enter Tryz.func26, Tryz.ntmps26
      go_wp2_with (go_at_call 101; refine (Hcall.out _).mono ?_; rintro e w' ⟨rfl, hb⟩)
      go_ret
      exact ⟨by simp, via Hb0.out hb⟩
    | true =>
      rw [hsv] at hcall
      have Hcall := Lib.hid hcall; clear hcall hsv
      cases hfb : fieldB text with
      | false =>
        rw [hfb] at hfld
        have Hfld := Lib.hid hfld; clear hfld hfb
        go_enter Tryz.func26, Tryz.ntmps26
        go_wp2_with fail
        refine (Hcall.out _).mono ?_; rintro e w' ⟨rfl, hb⟩
        obtain ⟨hc, hf⟩ := bcell hb
        have hz : w.heap.size + 1 ≤ w'.heap.size := by have := hb.size; omega
        rw [hz0] at hc hf
        go_wp2_with fail
        refine (Hfld.out _).mono ?_; rintro e w2 ⟨rfl, hb2⟩
        go_wp2_with fail
        go_ret
        exact ⟨by simp, via (via Hb0.out hb) hb2⟩
      | true =>
        rw [hfb] at hfld
        have Hfld := Lib.hid hfld; clear hfld hfb
        cases hge : fge r 4607182418800017408 with
        | false =>
          unfold fge at hge
          go_enter Tryz.func26, Tryz.ntmps26
          go_wp2_with fail
          refine (Hcall.out _).mono ?_; rintro e w' ⟨rfl, hb⟩
          obtain ⟨hc, hf⟩ := bcell hb
          have hz : w.heap.size + 1 ≤ w'.heap.size := by have := hb.size; omega
          rw [hz0] at hc hf
          go_wp2_with fail
          refine (Hfld.out _).mono ?_; rintro e w2 ⟨rfl, hb2⟩
          go_wp2_with fail
          go_ret
          exact ⟨by simp, via (via Hb0.out hb) hb2⟩
        | true =>
          cases hle : fle r 4679028906605412352 with
          | false =>
            unfold fge at hge
            unfold fle at hle
            go_enter Tryz.func26, Tryz.ntmps26
            go_wp2_with fail
            refine (Hcall.out _).mono ?_; rintro e w' ⟨rfl, hb⟩
            obtain ⟨hc, hf⟩ := bcell hb
            have hz : w.heap.size + 1 ≤ w'.heap.size := by have := hb.size; omega
            rw [hz0] at hc hf
            go_wp2_with fail
            refine (Hfld.out _).mono ?_; rintro e w2 ⟨rfl, hb2⟩
            go_wp2_with fail
            go_ret
            exact ⟨by simp, via (via Hb0.out hb) hb2⟩
          | true =>
            obtain ⟨n, hn, hconv⟩ := parts_int hge hle
            have Hfw : Hid (roundB r = (FloatKind.f64.format.order (floatOfInt .f64 n) r == some .eq)) := Lib.hid (by simp [roundB, hconv, feq])
            have hcv := conv_int hconv
            clear hconv
            unfold fge at hge
            unfold fle at hle
            go_enter Tryz.func26, Tryz.ntmps26
            go_wp2_with fail
            refine (Hcall.out _).mono ?_; rintro e w' ⟨rfl, hb⟩
            obtain ⟨hc, hf⟩ := bcell hb
            have hz : w.heap.size + 1 ≤ w'.heap.size := by have := hb.size; omega
            rw [hz0] at hc hf
            go_wp2_with fail
            refine (Hfld.out _).mono ?_; rintro e w2 ⟨rfl, hb2⟩
            go_wp2_with fail
            go_ret
            exact ⟨by rw [Hfw.out]; simp, via (via Hb0.out hb) hb2⟩
  · have hk' : (kind == 1) = false := by simp [hk]
    rw [show decide (kind = 1) = false by simp [hk]]
    clear hk hcall hfld
    have b0 := (hc0 w.heap.size 0).trans (World.cell?_alloc_new w _ 31 0)
    simp only [List.getElem?_toArray, List.getElem?_cons_zero] at b0
    clear hc0
    have Hb0 := Lib.hid hb0; clear hb0
    go_enter Tryz.func26, Tryz.ntmps26
    go_wp2_with fail
    go_ret
    exact ⟨by simp, Hb0.out⟩
end Go.Proofs.YtbcnhcpgloncdaaGreatDoor
