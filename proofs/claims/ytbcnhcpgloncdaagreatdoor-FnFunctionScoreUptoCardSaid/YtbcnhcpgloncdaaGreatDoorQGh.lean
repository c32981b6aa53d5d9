/- 'Fits', for any table and any kinds of values. -/
import Derived.Test.YtbcnhcpgloncdaaGreatDoorQGg
import Derived.Test.YtbcnhcpgloncdaaGreatDoorQGa0
namespace Go.Proofs.YtbcnhcpgloncdaaGreatDoor
open Go Go.RowKit
open Go.BigFrame

set_option maxRecDepth 100000 in
set_option maxHeartbeats 2000000 in
theorem fits_any (b : ByteArray) (rs : List (ByteArray × ByteArray)) (P : SetM → Bool) (sets : List SetM) (S : Nat → Prop) (a : Option Addr) (c : Nat) (w : World) (hsets : SetsAt w S a sets) (hl : sets.length ≤ 9223372036854775807)
    (hk : ∀ name w, Calls Tryz.prog 27 #[.string b, .string name] w fun e w' => e = .returned (.string (kindOf rs name)) ∧ Below w.heap.size w w')
    (hfit : ∀ s, s ∈ sets → ∀ v S w, RepT w S v s.val → Calls Tryz.prog 26 #[.string (kindOf rs s.name), v.val] w fun e w' => e = .returned (.bool (P s)) ∧ Below w.heap.size w w') :
    Calls Tryz.prog 8 #[.string b, .slice a sets.length c] w fun e w' => e = .returned (.bool (sets.all P)) ∧ Below w.heap.size w w' := by
  have Hsets := Lib.hid hsets; clear hsets
  have Hk := Lib.hid hk; clear hk
  have Hfit := Lib.hid hfit; clear hfit
  go_enter Tryz.func8, Tryz.ntmps8
  go_wp2_with fail
  go_loopw [5] (fun i wr => ∃ k : Nat, k ≤ sets.length ∧ i = .int .i64 k ∧ (sets.take k).all P = true ∧ Below w.heap.size w wr) (fun i _ => sets.length - (intOf i).toNat)
  case atStart => exact ⟨0, Nat.zero_le _, rfl, by simp, Below.refl _ _⟩
  case round =>
    obtain ⟨k, hk, rfl, hall, hbel⟩ := hrel
    have Hall := Lib.hid hall; clear hall
    by_cases hlt : k < sets.length
    · obtain ⟨b', o, v, hca, hSb, hlb, c0, c1, c2, c3, c4, c5, c6, hv⟩ := (Hsets.out.keep (Keeps.of_below S hbel)).cells (k := k) hlt
      subst hca
      have hks := fun w => Hk.out sets[k].name w
      have hfs := Hfit.out sets[k] (by simp)
      have Htake : Hid ((sets.take (k+1)).all P = P sets[k]) := Lib.hid (by rw [List.take_succ_eq_append_getElem hlt, List.all_append, Hall.out]; simp)
      generalize hset : sets[k] = s at *
      have Hset := Lib.hid hset; clear hset
      generalize kindOf rs s.name = kd at *
      have Hks := Lib.hid hks; clear hks
      have Hfs := Lib.hid hfs; clear hfs
      have Hv := Lib.hid hv; clear hv
      have Hbel := Lib.hid hbel; clear hbel
      have l0 := fun n : Later wr => n.cell c0
      have l1 := fun n : Later wr => n.cell c1
      have l2 := fun n : Later wr => n.cell c2
      have l3 := fun n : Later wr => n.cell c3
      have l4 := fun n : Later wr => n.cell c4
      have l5 := fun n : Later wr => n.cell c5
      have l6 := fun n : Later wr => n.cell c6
      clear c0 c1 c2 c3 c4 c5 c6
      have hi1 : (0 : Int) ≤ (k : Int) := by omega
      have hi2 : (k : Int) < (sets.length : Int) := by omega
      cases hP : P s with
      | false =>
        rw [hP] at Hfs
        have Hno : Hid (sets.all P = false) := Lib.hid (by
          rw [List.all_eq_false]
          exact ⟨s, by rw [← Hset.out]; simp, by simp [hP]⟩)
        clear hP
        go_wp2_with fail
        refine wp_region_later (by kernel_rfl) (by kernel_rfl) ?_
        repeat (go_big_quiet_step (first | (go_at_call 27; exact Calls.later_of (Hks.out _)) | (go_at_call 26; exact Calls.later_of (Hfs.out v S _ (Hv.out.keep (Later.keeps _ _))))))
        refine wpQuiet_nil ?_
        intro _ hw'
        obtain ⟨nq, rfl⟩ := hw'
        go_wp2_with fail
        go_ret
        exact ⟨by rw [Hno.out]; simp, via Hbel.out nq.ok⟩
      | true =>
        rw [hP] at Hfs
        have Hyes : Hid ((sets.take (k+1)).all P = true) := Lib.hid (by rw [Htake.out]; exact hP)
        clear hP
        go_wp2_with fail
        refine wp_region_later (by kernel_rfl) (by kernel_rfl) ?_
        repeat (go_big_quiet_step (first | (go_at_call 27; exact Calls.later_of (Hks.out _)) | (go_at_call 26; exact Calls.later_of (Hfs.out v S _ (Hv.out.keep (Later.keeps _ _))))))
        refine wpQuiet_nil ?_
        intro _ hw'
        obtain ⟨nq, rfl⟩ := hw'
        go_wp2_with fail
        go_roundw
        case rel => exact ⟨k + 1, by omega, by simp, Hyes.out, via Hbel.out nq.ok⟩
        case measure => simp [intOf]; omega
    · obtain rfl : k = sets.length := by omega
      have Hbel := Lib.hid hbel; clear hbel
      go_wp2_with fail
      go_ret
      exact ⟨by have := Hall.out; rw [List.take_length] at this; rw [this]; simp, Hbel.out⟩
end Go.Proofs.YtbcnhcpgloncdaaGreatDoor
/- 'Last', 'Is', 'Distinct'. -/
namespace Go.Proofs.YtbcnhcpgloncdaaGreatDoor
open Go Go.RowKit
open Go.BigFrame

/-- The last value of a setting. -/
def lastOf (sets : List SetM) (name : ByteArray) : Option Tr := (sets.reverse.find? (fun s => decide (s.name = name))).map (·.val)

theorem lastOf_hit {sets : List SetM} {name : ByteArray} {k : Nat} (hk : k < sets.length) (hno : (sets.drop (k + 1)).all (fun s => !decide (s.name = name)) = true) (he : sets[k].name = name) : lastOf sets name = some sets[k].val := by
  have hsp : sets = sets.take k ++ sets[k] :: sets.drop (k + 1) := by rw [← List.drop_eq_getElem_cons hk]; simp
  unfold lastOf
  have : sets.reverse = (sets.drop (k+1)).reverse ++ sets[k] :: (sets.take k).reverse := by
    conv => lhs; rw [hsp]
    simp
  rw [this, List.find?_append]
  have hn : (sets.drop (k+1)).reverse.find? (fun s => decide (s.name = name)) = none := by
    rw [List.find?_eq_none]
    intro x hx
    have := List.all_eq_true.1 hno x (by simpa using hx)
    simpa using this
  rw [hn]
  simp [he]

theorem lastOf_none {sets : List SetM} {name : ByteArray} (hno : sets.all (fun s => !decide (s.name = name)) = true) : lastOf sets name = none := by
  unfold lastOf
  rw [Option.map_eq_none_iff, List.find?_eq_none]
  intro x hx
  have := List.all_eq_true.1 hno x (by simpa using hx)
  simpa using this

def LastPost (w : World) (S : Nat → Prop) (r : Option Tr) (e : Ending) (w' : World) : Prop :=
  ∃ v : TV, e = .returned (.tuple #[v.val, .bool r.isSome]) ∧ RepT w S v (r.getD Tr.zero) ∧ Below w.heap.size w w'

set_option maxRecDepth 100000 in
set_option maxHeartbeats 2000000 in
theorem last_any (sets : List SetM) (name : ByteArray) (S : Nat → Prop) (a : Option Addr) (c : Nat) (w : World) (hr : SetsAt w S a sets) (hl : sets.length ≤ 9223372036854775807) :
    Calls Tryz.prog 99 #[.slice a sets.length c, .string name] w (LastPost w S (lastOf sets name)) := by
  have Hr := Lib.hid hr; clear hr
  go_enter Tryz.func99, Tryz.ntmps99
  go_wp2
  go_loop [6] (fun i => ∃ k : Nat, k ≤ sets.length ∧ i = .int .i64 ((k : Int) - 1) ∧ (sets.drop k).all (fun s => !decide (s.name = name)) = true) (fun i => (intOf i + 1).toNat)
  case atStart => exact ⟨sets.length, Nat.le_refl _, rfl, by simp⟩
  case round =>
    obtain ⟨k, hk, rfl, hno⟩ := hrel
    have Hno := Lib.hid hno; clear hno
    rcases k with _ | k
    · go_wp2
      refine bodyPost_ret (v := .tuple #[.agg #[.int .i64 0, .string ⟨#[]⟩, .float .f64 0, .bool false, .slice none 0 0, .slice none 0 0], .bool false]) (by simp [results, Tryz.results99, go_sem]) rfl ?_
      refine ⟨⟨0, ⟨#[]⟩, 0, false, none, 0, 0, none, 0, 0⟩, ?_, ?_, ?_⟩
      · rw [lastOf_none (by simpa using Hno.out)]; rfl
      · rw [lastOf_none (by simpa using Hno.out)]; exact RepT.zero w S
      · exact (Below.refl _ _).alloc (Nat.le_refl _) _
    · obtain ⟨b, o, v, hca, hS, hlt, c0, c1, c2, c3, c4, c5, c6, hv⟩ := Hr.out.cells (k := k) (by omega)
      subst hca
      have Hlo : Hid (sets[k].name = name → lastOf sets name = some sets[k].val) := Lib.hid (fun he => lastOf_hit (by omega) Hno.out he)
      have Hal : Hid (sets[k].name ≠ name → (sets.drop k).all (fun s => !decide (s.name = name)) = true) := Lib.hid (fun he => by
        rw [List.drop_eq_getElem_cons (by omega : k < sets.length), List.all_cons, Hno.out]; simp [he])
      generalize hs : sets[k] = x at *
      have Hs := Lib.hid hs; clear hs
      have Hv := Lib.hid hv; clear hv
      by_cases hn : x.name = name
      · have Hlo' := Lib.hid (Hlo.out hn); clear Hlo
        have hn' := bs_eq hn
        have Hn := Lib.hid hn; clear hn
        go_wp2
        refine bodyPost_ret (v := .tuple #[v.val, .bool true]) (by simp [results, Tryz.results99, go_sem]) rfl ?_
        refine ⟨v, ?_, ?_, ?_⟩
        · rw [Hlo'.out]; rfl
        · rw [Hlo'.out]; exact Hv.out
        · exact (Below.refl _ _).alloc (Nat.le_refl _) _
      · have Hal' := Lib.hid (Hal.out hn); clear Hal Hlo
        have hn' := bs_ne hn
        have Hn := Lib.hid hn; clear hn
        go_wp2
        go_round
        case rel => exact ⟨k, by omega, by simp, Hal'.out⟩
        case measure => simp [intOf]

set_option maxRecDepth 100000 in
set_option maxHeartbeats 2000000 in
theorem is_any (sets : List SetM) (name : ByteArray) (S : Nat → Prop) (a : Option Addr) (c : Nat) (w : World) (hr : SetsAt w S a sets) (hl : sets.length ≤ 9223372036854775807) :
    Calls Tryz.prog 23 #[.slice a sets.length c, .string name] w fun e w' => e = .returned (.bool (lastOf sets name).isSome) ∧ Below w.heap.size w w' := by
  have hc := last_any sets name S a c w hr hl
  have Hc := Lib.hid hc; clear hc hr
  go_enter Tryz.func23, Tryz.ntmps23
  go_wp2_with fail
  refine Hc.out.mono ?_
  rintro e w' ⟨v, rfl, hv, hb⟩
  clear hv
  go_wp2_with fail
  go_ret
  exact ⟨by simp, hb.alloc hb.size _⟩
theorem SetsAt.take {w : World} {S : Nat → Prop} {a : Option Addr} {sets : List SetM} (h : SetsAt w S a sets) (k : Nat) : SetsAt w S a (sets.take k) := by
  obtain ⟨vs, h1, h2⟩ := h
  refine ⟨vs, ?_, ?_⟩
  · intro hn
    have hn' : 0 < sets.length := by simp at hn; omega
    obtain ⟨b, o, e, hS, hr⟩ := h1 hn'
    refine ⟨b, o, e, hS, fun i hi j u hu => ?_⟩
    have hi' : i < k ∧ i < sets.length := by simp at hi; omega
    refine hr i hi'.2 j u ?_
    rw [← hu]
    simp [hi']
  · intro i s hs
    rw [List.getElem?_take] at hs
    split at hs
    · exact h2 i s hs
    · cases hs

/-- Has no setting that of one before it? -/
def distinctB (sets : List SetM) : Bool := (List.range sets.length).all fun i => !(lastOf (sets.take i) (sets.getD i SetM.zero).name).isSome

set_option maxRecDepth 100000 in
set_option maxHeartbeats 2000000 in
theorem distinct_any (sets : List SetM) (S : Nat → Prop) (a : Option Addr) (c : Nat) (w : World) (hr : SetsAt w S a sets) (hl : sets.length ≤ 9223372036854775807) (hcap : sets.length ≤ c) :
    Calls Tryz.prog 13 #[.slice a sets.length c] w fun e w' => e = .returned (.bool (distinctB sets)) ∧ Below w.heap.size w w' := by
  have Hr := Lib.hid hr; clear hr
  go_enter Tryz.func13, Tryz.ntmps13
  go_wp2
  go_loopw [3] (fun i wr => ∃ k : Nat, k ≤ sets.length ∧ i = .int .i64 k ∧ ((List.range k).all fun i => !(lastOf (sets.take i) (sets.getD i SetM.zero).name).isSome) = true ∧ Below w.heap.size w wr) (fun i _ => sets.length - (intOf i).toNat)
  case atStart => exact ⟨0, Nat.zero_le _, rfl, by simp, Below.refl _ _⟩
  case round =>
    obtain ⟨k, hk, rfl, hall, hbel⟩ := hrel
    have Hall := Lib.hid hall; clear hall
    by_cases hlt : k < sets.length
    · obtain ⟨b', o, v, hca, hSb, hlb, c0, c1, c2, c3, c4, c5, c6, hv⟩ := (Hr.out.keep (Keeps.of_below S hbel)).cells (k := k) hlt
      subst hca
      have his := fun (n : Later wr) => is_any (sets.take k) sets[k].name S (some ⟨b', o, none⟩) c n.to ((Hr.out.take k).keep (Keeps.of_below S (via hbel n.ok))) (by simp; omega)
      simp only [List.length_take, Nat.min_eq_left hk] at his
      have Htake : Hid (((List.range (k + 1)).all fun i => !(lastOf (sets.take i) (sets.getD i SetM.zero).name).isSome) = !(lastOf (sets.take k) sets[k].name).isSome) := Lib.hid (by rw [List.range_succ, List.all_append, Hall.out]; simp [hlt])
      have Hno : Hid ((lastOf (sets.take k) sets[k].name).isSome = true → distinctB sets = false) := Lib.hid (fun h => by
        unfold distinctB
        rw [List.all_eq_false]
        exact ⟨k, by simpa using hlt, by simp [hlt, h]⟩)
      generalize sets[k].name = nm at *
      generalize hls : (lastOf (sets.take k) nm).isSome = yes at *
      clear hls
      have His := Lib.hid his; clear his
      clear hv
      have Hbel := Lib.hid hbel; clear hbel
      have l0 := fun n : Later wr => n.cell c0
      clear c0 c1 c2 c3 c4 c5 c6
      have hi1 : (0 : Int) ≤ (k : Int) := by omega
      have hi2 : (k : Int) < (sets.length : Int) := by omega
      have hi3 : (k : Int) ≤ (c : Int) := by omega
      cases yes with
      | true =>
        have Hno' := Lib.hid (Hno.out rfl); clear Hno Htake
        go_wp2_with fail
        refine wp_region_later (by kernel_rfl) (by kernel_rfl) ?_
        repeat (go_big_quiet_step ((go_at_call 23; exact Calls.later_of (His.out _))))
        refine wpQuiet_nil ?_
        intro _ hw'
        obtain ⟨nq, rfl⟩ := hw'
        go_wp2_with fail
        go_ret
        exact ⟨by rw [Hno'.out]; simp, via Hbel.out nq.ok⟩
      | false =>
        clear Hno
        go_wp2_with fail
        refine wp_region_later (by kernel_rfl) (by kernel_rfl) ?_
        repeat (go_big_quiet_step ((go_at_call 23; exact Calls.later_of (His.out _))))
        refine wpQuiet_nil ?_
        intro _ hw'
        obtain ⟨nq, rfl⟩ := hw'
        go_wp2_with fail
        go_roundw
        case rel => exact ⟨k + 1, by omega, by simp, by rw [Htake.out]; rfl, via Hbel.out nq.ok⟩
        case measure => simp [intOf]; omega
    · obtain rfl : k = sets.length := by omega
      have Hbel := Lib.hid hbel; clear hbel
      go_wp2_with fail
      go_ret
      exact ⟨by unfold distinctB; rw [Hall.out]; simp, Hbel.out⟩
end Go.Proofs.YtbcnhcpgloncdaaGreatDoor
