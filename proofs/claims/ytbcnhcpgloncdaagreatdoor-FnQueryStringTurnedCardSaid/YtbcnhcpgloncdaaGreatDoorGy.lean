/- FormatFloat's parts: 'setDigits'. -/
import Derived.Test.YtbcnhcpgloncdaaGreatDoorGx
import Derived.Lib.ItoaLen
namespace Go.Proofs.YtbcnhcpgloncdaaGreatDoor
open Go Go.RowKit Go.BigFrame Go.Sort Go.Lib

/-- How many digits stand ahead of the last zeros. -/
def trimN (d N : Nat) : Nat → Nat
  | 0 => 0
  | k + 1 => if dg d (N - 1 - k) = 48 then trimN d N k else k + 1
theorem trimN_le (d N k : Nat) : trimN d N k ≤ k := by
  induction k with
  | zero => simp [trimN]
  | succ k ih => unfold trimN; split <;> omega

abbrev encB (b : UInt8) : Value := .int .u8 (b.toNat : Int)

theorem format_any (d N : Nat) (hd : d < 18446744073709551616) (hN : N ≤ 24) (hlt : d < 10 ^ N) (w : World) (b : Nat) (hz : ∀ j, j < 24 → w.cell? ⟨b, j, none⟩ = some (.int .u8 0) ∧ w.frozen? ⟨b, j, none⟩ = false) :
    Calls Tryz.prog 200 #[.slice (some ⟨b, 0, none⟩) N 24, .int .u64 d] w fun e w' => e = .returned (.tuple #[]) ∧ (∀ t, t < N → w'.cell? ⟨b, t, none⟩ = some (encB (dg d (N - 1 - t)))) ∧ w.grownBy w' (some b) := by
  have hH : Holds encB w b 0 (Array.replicate N (0 : UInt8)) := by
    intro j hj
    have hj' : j < N := by simpa using hj
    obtain ⟨h1, h2⟩ := hz j (by omega)
    rw [Nat.zero_add]
    exact ⟨by rw [h1]; simp [hj'], h2⟩
  have hc := Tryz.internal_strconv_formatBase10 b 0 24 d (Array.replicate N (0 : UInt8)) w hH (by simpa using hlt) hd (by simp; omega)
  rw [Array.size_replicate] at hc
  refine hc.mono ?_
  rintro e w' ⟨rfl, nn, v', dk, rfl, hinv⟩
  refine ⟨rfl, fun t ht => ?_, ⟨rfl, rfl, rfl, by simp [putRow, mapBlock], fun k _ hne => ?_⟩⟩
  · have h1 := cell?_putRow encB w b 0 _ dk hH (by simp [hinv.size]) t (by rw [hinv.size]; exact ht)
    rw [Nat.zero_add, hinv.done t (Nat.zero_le _) ht] at h1
    exact h1
  · show (w.heap.modify b (onCells (putCells encB 0 dk)))[k]? = w.heap[k]?
    rw [Array.getElem?_modify, if_neg (fun e => hne (by rw [e]))]

set_option maxRecDepth 100000 in
set_option maxHeartbeats 1000000 in
theorem setDigits_any (d : Nat) (hd : d < 18446744073709551616) (p : Int) (hp : p = -5 ∨ p = -6) (w : World) (b : Nat) (hz : ∀ j, j < 24 → w.cell? ⟨b, j, none⟩ = some (.int .u8 0) ∧ w.frozen? ⟨b, j, none⟩ = false) :
    Calls Tryz.prog 191 #[.slice (some ⟨b, 0, none⟩) 24 24, .int .u64 d, .int .i64 p, .int .i64 (nDigits d)] w fun e w' => e = .returned (.tuple #[.int .i64 (nDigits d + p), .int .i64 (trimN d (nDigits d) (nDigits d))]) ∧
      (∀ t, t < nDigits d → w'.cell? ⟨b, t, none⟩ = some (encB (dg d (nDigits d - 1 - t)))) ∧ w.grownBy w' (some b) := by
  have hN := nDigits_le20 d hd
  have hN1 := nDigits_pos d
  have hlt := lt_pow_nDigits d
  have hc := format_any d (nDigits d) hd (by omega) hlt w b hz
  generalize hNN : nDigits d = N at *
  clear hNN hlt hd hz
  have Hc := Lib.hid hc; clear hc
  go_enter Tryz.func191, Tryz.ntmps191
  go_wp2_with fail
  refine Hc.out.mono ?_
  rintro e w1 ⟨rfl, hcell, hg⟩
  have Hg := Lib.hid hg; clear hg
  have Hcell := Lib.hid hcell; clear hcell
  go_wp2_with fail
  go_loop [3] (fun i => ∃ k : Nat, k ≤ N ∧ i = .int .i64 k ∧ trimN d N N = trimN d N k) (fun i => (intOf i).toNat)
  case atStart => exact ⟨N, Nat.le_refl _, rfl, rfl⟩
  case round =>
    obtain ⟨k, hk, rfl, ht⟩ := hrel
    have Ht := Lib.hid ht; clear ht
    rcases k with _ | k
    · go_wp2_with fail
      refine bodyPost_ret (v := .tuple #[.int .i64 (N + p), .int .i64 0]) (by simp [results, Tryz.results191, go_sem]) rfl ?_
      exact ⟨by rw [Ht.out]; rfl, Hcell.out, Hg.out⟩
    · have ck := Hcell.out k (by omega)
      have hi1 : (0 : Int) ≤ (k : Int) := by omega
      have hi2 : (k : Int) < 24 := by omega
      by_cases h48 : dg d (N - 1 - k) = 48
      · have hstep : trimN d N (k + 1) = trimN d N k := by rw [trimN, if_pos h48]
        rw [h48] at ck
        have ck' : w1.cell? ⟨b, k, none⟩ = some (.int .u8 48) := ck
        have Hstep := Lib.hid hstep; clear hstep ck h48
        go_wp2_with fail
        go_round
        case rel => exact ⟨k, by omega, by simp, Ht.out.trans Hstep.out⟩
        case measure => simp [intOf]
      · have hstep : trimN d N (k + 1) = k + 1 := by rw [trimN, if_neg h48]
        have hne : (((dg d (N - 1 - k)).toNat : Int) == 48) = false := by
          rw [beq_eq_false_iff_ne]
          intro e
          apply h48
          apply UInt8.toNat_inj.1
          have : (48 : UInt8).toNat = 48 := rfl
          omega
        have Hstep := Lib.hid hstep; clear hstep h48
        go_wp2_with fail
        refine bodyPost_ret (v := .tuple #[.int .i64 (N + p), .int .i64 (k + 1)]) (by simp [results, Tryz.results191, go_sem]) rfl ?_
        exact ⟨by rw [Ht.out, Hstep.out]; simp, Hcell.out, Hg.out⟩
end Go.Proofs.YtbcnhcpgloncdaaGreatDoor
