/- 'Fits', for any table and any kinds of values. -/
import Derived.Test.YtbcnhcpgloncdaaGreatDoorGg
import Derived.Test.YtbcnhcpgloncdaaGreatDoorGa0
namespace Go.Proofs.YtbcnhcpgloncdaaGreatDoor
open Go Go.RowKit
open Go.BigFrame

set_option maxRecDepth 100000 in
set_option maxHeartbeats 2000000 in
theorem fits_any (b : ByteArray) (rs : List (ByteArray × ByteArray)) (P : SetM → Bool) (sets : List SetM) (S : Nat → Prop) (a : Option Addr) (c : Nat) (w : World) (hsets : SetsAt w S a sets) (hl : sets.length ≤ 9223372036854775807)
    (hk : ∀ name w, Calls Tryz.prog 27 #[.string b, .string name] w fun e w' => e = .returned (.string (kindOf rs name)) ∧ Below w.heap.size w w')
    (hfit : ∀ s, s ∈ sets → ∀ v S w, RepT w S v s.val → Calls Tryz.prog 26 #[.string (kindOf rs s.name), v.val] w fun e w' => e = .returned (.bool (P s)) ∧ Below w.heap.size w w') :
    Calls Tryz.prog 8 #[.string b, .slice a sets.length c] w fun e w' => e = .returned (.bool (sets.all P)) ∧ Below w.heap.size w w' := by
  have Hsets := Lib.hid hsets; clear hsets
  have Hk := Lib.hid hk; clear hk
  have Hfit := Lib.hid hfit; clear hfit
  go_enter Tryz.func8, Tryz.ntmps8
  go_wp2_with fail
  go_loopw [5] (fun i wr => ∃ k : Nat, k ≤ sets.length ∧ i = .int .i64 k ∧ (sets.take k).all P = true ∧ Below w.heap.size w wr) (fun i _ => sets.length - (intOf i).toNat)
  case atStart => exact ⟨0, Nat.zero_le _, rfl, by simp, Below.refl _ _⟩
  case round =>
    obtain ⟨k, hk, rfl, hall, hbel⟩ := hrel
    have Hall := Lib.hid hall; clear hall
    by_cases hlt : k < sets.length
    · obtain ⟨b', o, v, hca, hSb, hlb, c0, c1, c2, c3, c4, c5, c6, hv⟩ := (Hsets.out.keep (Keeps.of_below S hbel)).cells (k := k) hlt
      subst hca
      have hks := fun w => Hk.out sets[k].name w
      have hfs := Hfit.out sets[k] (by simp)
      have Htake : Hid ((sets.take (k+1)).all P = P sets[k]) := Lib.hid (by rw [List.take_succ_eq_append_getElem hlt, List.all_append, Hall.out]; simp)
      generalize hset : sets[k] = s at *
      have Hset := Lib.hid hset; clear hset
      generalize kindOf rs s.name = kd at *
      have Hks := Lib.hid hks; clear hks
      have Hfs := Lib.hid hfs; clear hfs
      have Hv := Lib.hid hv; clear hv
      have Hbel := Lib.hid hbel; clear hbel
      have l0 := fun n : Later wr => n.cell c0
      have l1 := fun n : Later wr => n.cell c1
      have l2 := fun n : Later wr => n.cell c2
      have l3 := fun n : Later wr => n.cell c3
      have l4 := fun n : Later wr => n.cell c4
      have l5 := fun n : Later wr => n.cell c5
      have l6 := fun n : Later wr => n.cell c6
      clear c0 c1 c2 c3 c4 c5 c6
      have hi1 : (0 : Int) ≤ (k : Int) := by omega
      have hi2 : (k : Int) < (sets.length : Int) := by omega
      cases hP : P s with
      | false =>
        rw [hP] at Hfs
        have Hno : Hid (sets.all P = false) := Lib.hid (by
          rw [List.all_eq_false]
          exact ⟨s, by rw [← Hset.out]; simp, by simp [hP]⟩)
        clear hP
        go_wp2_with fail
        refine wp_region_later (by kernel_rfl) (by kernel_rfl) ?_
        repeat (go_big_quiet_step (first | (go_at_call 27; exact Calls.later_of (Hks.out _)) | (go_at_call 26; exact Calls.later_of (Hfs.out v S _ (Hv.out.keep (Later.keeps _ _))))))
        refine wpQuiet_nil ?_
        intro _ hw'
        obtain ⟨nq, rfl⟩ := hw'
        go_wp2_with fail
        go_ret
        exact ⟨by rw [Hno.out]; simp, via Hbel.out nq.ok⟩
      | true =>
        rw [hP] at Hfs
        have Hyes : Hid ((sets.take (k+1)).all P = true) := Lib.hid (by rw [Htake.out]; exact hP)
        clear hP
        go_wp2_with fail
        refine wp_region_later (by kernel_rfl) (by kernel_rfl) ?_
        repeat (go_big_quiet_step (first | (go_at_call 27; exact Calls.later_of (Hks.out _)) | (go_at_call 26; exact Calls.later_of (Hfs.out v S _ (Hv.out.keep (Later.keeps _ _))))))
        refine wpQuiet_nil ?_
        intro _ hw'
        obtain ⟨nq, rfl⟩ := hw'
        go_wp2_with fail
        go_roundw
        case rel => exact ⟨k + 1, by omega, by simp, Hyes.out, via Hbel.out nq.ok⟩
        case measure => simp [intOf]; omega
    · obtain rfl : k = sets.length := by omega
      have Hbel := Lib.hid hbel; clear hbel
      go_wp2_with fail
      go_ret
      exact ⟨by have := Hall.out; rw [List.take_length] at this; rw [this]; simp, Hbel.out⟩
end Go.Proofs.YtbcnhcpgloncdaaGreatDoor
