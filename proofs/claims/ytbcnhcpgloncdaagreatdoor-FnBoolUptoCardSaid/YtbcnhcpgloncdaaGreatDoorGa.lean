/- The smallest guards of the statements: 'place', 'Has', 'finite', 'Scalar', 'Field': what each returns, for every input. -/
import Derived.Test.YtbcnhcpgloncdaaGreatDoorBase
import Derived.Test.YtbcnhcpgloncdaaGreatDoorProg
namespace Go.Proofs.YtbcnhcpgloncdaaGreatDoor
open Go Go.RowKit

/-- The first place of a byte. -/
def placeOf (l : List UInt8) (c : UInt8) : Nat := (l.takeWhile (fun x => x != c)).length

theorem placeOf_at (l : List UInt8) (c : UInt8) (k : Nat) (hk : k ≤ l.length) (h : ∀ i (h : i < k), l[i]'(by omega) ≠ c) (he : ∀ h : k < l.length, l[k] = c) : placeOf l c = k := by
  induction l generalizing k with
  | nil => simp [placeOf]; simp at hk; exact hk.symm
  | cons x r ih =>
    cases k with
    | zero =>
      have := he (by simp)
      simp at this
      simp [placeOf, this]
    | succ k =>
      have h0 := h 0 (by omega)
      simp at h0
      have := ih k (by simpa using hk) (fun i hi => by have := h (i + 1) (by omega); simpa using this) (fun hh => by have := he (by simpa using hh); simpa using this)
      simp [placeOf, h0] at this ⊢
      exact this

set_option maxHeartbeats 400000 in
theorem place_any (s : ByteArray) (c : UInt8) (w : World) (hs : s.size ≤ 9223372036854775807) :
    Calls Tryz.prog 100 #[.string s, .int .u8 c.toNat] w fun e w' => e = .returned (.int .i64 (placeOf s.data.toList c)) ∧ w = w' := by
  have hcl := c.toNat_lt
  go_enter Tryz.func100, Tryz.ntmps100
  go_wp2
  go_loop [5] (fun i => ∃ k : Nat, k ≤ s.size ∧ i = .int .i64 k ∧ ∀ j (h : j < s.data.toList.length), j < k → s.data.toList[j] ≠ c) (fun i => s.size - (intOf i).toNat)
  case atStart => exact ⟨0, Nat.zero_le _, rfl, fun j _ h => by omega⟩
  case round =>
    obtain ⟨k, hk, rfl, hno⟩ := hrel
    have Hno := Lib.hid hno; clear hno
    by_cases hlt : k < s.size
    · by_cases hx : s[k] = c
      · have hx' : (((s[k].toNat : Nat) : Int) != (c.toNat : Int)) = false := by rw [hx]; simp
        have Hx := Lib.hid hx; clear hx
        go_wp2
        go_ret
        refine ⟨?_, rfl⟩
        have hl : s.data.toList.length = s.size := by simp
        have := placeOf_at s.data.toList c k (by omega) (fun i hi => Hno.out i (by omega) hi) (fun h => Hx.out)
        simp [this]
      · have hx' : (((s[k].toNat : Nat) : Int) != (c.toNat : Int)) = true := by
          rw [bne_iff_ne]; intro e; apply hx; apply UInt8.toNat_inj.1; omega
        have Hx := Lib.hid hx; clear hx
        go_wp2
        go_round
        case rel =>
          refine ⟨k + 1, by omega, by go_num, fun j h hj => ?_⟩
          by_cases e : j = k
          · subst e; exact Hx.out
          · exact Hno.out j h (by omega)
        case measure => simp [intOf]; omega
    · go_wp2
      go_ret
      refine ⟨?_, rfl⟩
      have hl : s.data.toList.length = s.size := by simp
      have := placeOf_at s.data.toList c k (by omega) (fun i hi => Hno.out i (by omega) hi) (fun h => by omega)
      simp [this]

set_option maxHeartbeats 400000 in
theorem has_any (ss : List ByteArray) (s : ByteArray) (S : Nat → Prop) (a : Option Addr) (c : Nat) (w : World) (hr : StrsAt w S a ss) (hl : ss.length ≤ 4294967296) :
    Calls Tryz.prog 43 #[.slice a ss.length c, .string s] w fun e w' => e = .returned (.bool (memB s ss)) ∧ w = w' := by
  go_enter Tryz.func43, Tryz.ntmps43
  go_wp2
  go_loop [5] (fun i => ∃ k : Nat, k ≤ ss.length ∧ i = .int .i64 k ∧ memB s (ss.take k) = false) (fun i => ss.length - (intOf i).toNat)
  case atStart => exact ⟨0, Nat.zero_le _, rfl, by simp [memB]⟩
  case round =>
    obtain ⟨k, hk, rfl, hno⟩ := hrel
    have Hno := Lib.hid hno; clear hno
    by_cases hlt : k < ss.length
    · obtain ⟨b, o, rfl, hS, hlb, hc1⟩ := hr.cell hlt
      have Hcut := Lib.hid (memB_take_succ (s := s) hlt)
      have hall : ss[k] = s → memB s ss = true := fun h => by rw [memB_iff, ← h]; simp
      have Hall := Lib.hid hall; clear hall
      clear hr
      generalize ss[k] = x at *
      by_cases hx : x = s
      · have hx' := bs_eq hx
        have Hx := Lib.hid hx; clear hx
        go_wp2
        go_ret
        exact ⟨by simp [Hall.out Hx.out], rfl⟩
      · have hx' := bs_ne hx
        have Hx := Lib.hid hx; clear hx
        go_wp2
        go_round
        case rel => exact ⟨k + 1, by omega, by go_num, by rw [Hcut.out, Hno.out]; simp [Hx.out]⟩
        case measure => simp [intOf]; omega
    · go_wp2
      go_ret
      have h1 : ss.take k = ss := List.take_of_length_le (by omega)
      have h2 := Hno.out
      rw [h1] at h2
      exact ⟨by simp [h2], rfl⟩
end Go.Proofs.YtbcnhcpgloncdaaGreatDoor
