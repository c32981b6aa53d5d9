/- 'finite' and 'Scalar': what each returns, for every input. -/
import Derived.Test.YtbcnhcpgloncdaaGreatDoorGa
namespace Go.Proofs.YtbcnhcpgloncdaaGreatDoor
open Go Go.RowKit

/-- A number that is no infinity and no NaN. -/
def fin (x : Nat) : Bool := match Ieee.double.read x with | .number .. => true | _ => false

theorem sub_self {x : Nat} (h : fin x = true) : Ieee.double.sub x x = some 0 := by
  unfold fin at h
  unfold Ieee.Format.sub
  split at h
  · rename_i s m e he
    rw [he]
    have : Ieee.signed s m 0 + Ieee.signed (!s) m 0 = 0 := by
      unfold Ieee.signed; cases s <;> simp <;> omega
    simp only [Ieee.Datum.opposite, Ieee.Datum.sum, Int.min_self, Int.sub_self, Int.toNat_zero, this]
    cases s <;> rfl
  · cases h
theorem sub_none {x : Nat} (h : fin x = false) : Ieee.double.sub x x = none := by
  unfold fin at h
  unfold Ieee.Format.sub
  split at h
  · cases h
  · rename_i hx
    cases he : Ieee.double.read x with
    | number s m e => exact absurd he (hx s m e)
    | infinity s => simp [Ieee.Datum.opposite, Ieee.Datum.sum]
    | nan s t => simp [Ieee.Datum.sum]

theorem read_nan (t : Nat) (y z : Nat) : ∃ s f, Ieee.double.read (Question.cut (.nanBits .f64 y z) t) = .nan s f := by
  have h1 : t % 2 < 2 := Nat.mod_lt _ (by decide)
  have h2 : t / 2 % 4503599627370495 < 4503599627370495 := Nat.mod_lt _ (by decide)
  have e : Question.cut (.nanBits .f64 y z) t = (t % 2) * 9223372036854775808 + 9218868437227405312 + 1 + (t / 2) % 4503599627370495 := by
    simp [Question.cut]
  have hs : Ieee.double.signWeight = 9223372036854775808 := by decide
  have hb : Ieee.double.binade = 4503599627370496 := by decide
  have hi : Ieee.double.infRung = 9218868437227405312 := by decide
  refine ⟨(Question.cut (.nanBits .f64 y z) t / Ieee.double.signWeight % 2 == 1), Question.cut (.nanBits .f64 y z) t % Ieee.double.signWeight - Ieee.double.infRung, ?_⟩
  unfold Ieee.Format.read
  simp only [hs, hb, hi]
  have hm : Question.cut (.nanBits .f64 y z) t % 9223372036854775808 = 9218868437227405312 + 1 + (t / 2) % 4503599627370495 := by rw [e]; omega
  rw [hm]
  rw [if_neg (by omega), if_neg (by omega), if_neg (by omega)]

theorem run_sub_self (w : World) (x : Nat) : ∃ r w', (binOp .sub 28 (.float .f64 x) (.float .f64 x)).run Tryz.prog w = .ok (.float .f64 r) w' ∧ (FloatKind.f64.format.order r 0 == some .eq) = fin x ∧ (w' = w ∨ w' = w.drew) := by
  cases h : fin x with
  | true => exact ⟨0, w, run_float_arith w .sub 28 .f64 x x 0 (sub_self h), by decide, .inl rfl⟩
  | false =>
    refine ⟨Question.cut (.nanBits .f64 x x) (w.tape w.drawn (.nanBits .f64 x x)), w.drew, ?_, ?_, .inr rfl⟩
    · have : Ieee.double.sub x x = none := sub_none h
      have e : FloatKind.f64.format = Ieee.double := rfl
      simp [binOp, Op.floatArith, e, this, Question.forced]
    · obtain ⟨s, f, hr⟩ := read_nan (w.tape w.drawn (.nanBits .f64 x x)) x x
      unfold Ieee.Format.order
      have e : FloatKind.f64.format = Ieee.double := rfl
      rw [e, hr]
      rfl

set_option maxHeartbeats 400000 in
theorem finite_any (x : Nat) (w : World) : Calls Tryz.prog 21 #[.float .f64 x] w fun e w' => e = .returned (.bool (fin x)) ∧ Below w.heap.size w w' := by
  obtain ⟨r, w1, hsub, hr, hw⟩ := run_sub_self w x
  have Hr := Lib.hid hr; clear hr
  have Hw := Lib.hid hw; clear hw
  go_enter Tryz.func21, Tryz.ntmps21
  go_wp2
  go_ret
  refine ⟨?_, ?_⟩
  · have := Hr.out
    simp [this]
  · rcases Hw.out with rfl | rfl
    · exact Below.refl _ _
    · exact (Below.refl _ _).drew

/-- What 'Scalar' says of a tree's cells. -/
def scalarV (v : TV) : Bool :=
  if 0 < v.kn ∨ 0 < v.cn then false else if v.kind = 1 then !(decide (v.text = ⟨#[]⟩)) else if v.kind = 2 then fin v.num else decide (v.kind = 3)

set_option maxHeartbeats 400000 in
theorem scalar_any (v : TV) (w : World) : Calls Tryz.prog 101 #[v.val] w fun e w' => e = .returned (.bool (scalarV v)) ∧ Below w.heap.size w w' := by
  obtain ⟨kind, text, num, yes, ka, kn, kc, ca, cn, cc⟩ := v
  by_cases hkn : 0 < kn
  · have hs : scalarV ⟨kind, text, num, yes, ka, kn, kc, ca, cn, cc⟩ = false := by simp [scalarV, hkn]
    rw [hs]; clear hs
    go_enter Tryz.func101, Tryz.ntmps101
    go_wp2
    go_ret
    exact ⟨by simp, (Below.refl _ _).alloc (Nat.le_refl _) _⟩
  · obtain rfl : kn = 0 := by omega
    clear hkn
    by_cases hcn : 0 < cn
    · have hs : scalarV ⟨kind, text, num, yes, ka, 0, kc, ca, cn, cc⟩ = false := by simp [scalarV, hcn]
      rw [hs]; clear hs
      go_enter Tryz.func101, Tryz.ntmps101
      go_wp2
      go_ret
      exact ⟨by simp, (Below.refl _ _).alloc (Nat.le_refl _) _⟩
    · obtain rfl : cn = 0 := by omega
      clear hcn
      by_cases h1 : kind = 1
      · subst h1
        have hs : scalarV ⟨1, text, num, yes, ka, 0, kc, ca, 0, cc⟩ = !(decide (text = ⟨#[]⟩)) := by simp [scalarV]
        rw [hs]; clear hs
        go_enter Tryz.func101, Tryz.ntmps101
        go_wp2
        go_ret
        exact ⟨by simp [bs_isEmpty], (Below.refl _ _).alloc (Nat.le_refl _) _⟩
      · by_cases h2 : kind = 2
        · subst h2
          have hs : scalarV ⟨2, text, num, yes, ka, 0, kc, ca, 0, cc⟩ = fin num := by simp [scalarV]
          rw [hs]; clear hs
          go_enter Tryz.func101, Tryz.ntmps101
          go_wp2_with (go_at_call 21; refine (finite_any num _).mono ?_; rintro e w' ⟨rfl, hb⟩)
          go_ret
          exact ⟨by simp, via ((Below.refl _ _).alloc (Nat.le_refl _) _) hb⟩
        · have hs : scalarV ⟨kind, text, num, yes, ka, 0, kc, ca, 0, cc⟩ = decide (kind = 3) := by simp [scalarV, h1, h2]
          rw [hs]; clear hs
          have h1' : (kind == 1) = false := by simp [h1]
          have h2' : (kind == 2) = false := by simp [h2]
          clear h1 h2
          go_enter Tryz.func101, Tryz.ntmps101
          go_wp2
          go_ret
          exact ⟨by simp [int_beq], (Below.refl _ _).alloc (Nat.le_refl _) _⟩
end Go.Proofs.YtbcnhcpgloncdaaGreatDoor
