/- 'FnQueryStringTurned': what the law returns, for every input. -/
import Derived.Test.YtbcnhcpgloncdaaGreatDoorHf
import Derived.Test.YtbcnhcpgloncdaaGreatDoorGk
namespace Go.Proofs.YtbcnhcpgloncdaaGreatDoor
open Go Go.RowKit

def fitQS (s : SetM) : Bool := fitK (kindOf rsQueryString s.name) s.val
theorem kinds_QS (name : ByteArray) : kindOf rsQueryString name ∈ [kT, kN, kB, kV, kW, kF, ⟨#[]⟩] := kindOf_mem _ _ (by decide +kernel) (by simp) _
theorem fits_QS (sets : List SetM) (S : Nat → Prop) (a : Option Addr) (c : Nat) (w : World) (hsets : SetsAt w S a sets) (hl : sets.length ≤ 9223372036854775807) :
    Calls Tryz.prog 8 #[.string ⟨#[81, 117, 101, 114, 121, 83, 116, 114, 105, 110, 103]⟩, .slice a sets.length c] w fun e w' => e = .returned (.bool (sets.all fitQS)) ∧ Below w.heap.size w w' :=
  fits_any _ rsQueryString fitQS sets S a c w hsets hl kindIn_QueryString (fun s _ v S w h => fitK_any _ (kinds_QS s.name) s.val v S w h)

theorem fitK_none (t : Tr) : fitK ⟨#[]⟩ t = false := by unfold fitK; rfl
theorem name_QS {s : SetM} (h : fitQS s = true) : s.name ∈ namesQS := by
  have hk : kindOf rsQueryString s.name ≠ ⟨#[]⟩ := by
    intro e
    unfold fitQS at h
    rw [e, fitK_none] at h
    cases h
  obtain ⟨r, hr, he, _⟩ := kindOf_name hk
  have hall : rsQueryString.all (fun r => memB r.1 namesQS) = true := by decide +kernel
  have := List.all_eq_true.1 hall r hr
  rw [memB_iff, he] at this
  exact this

theorem whole_fit {t : Tr} (h : fitK kW t = true) : fitW t.num = true := by
  have e : fitK kW t = (decide (t.kind = 2) && scalarT t && fitW t.num) := rfl
  rw [e, Bool.and_eq_true] at h
  exact h.2
theorem num_fit {t : Tr} (h : fitK kN t = true) : fin t.num = true := by
  have e : fitK kN t = (decide (t.kind = 2) && scalarT t) := rfl
  rw [e, Bool.and_eq_true] at h
  obtain ⟨h1, h2⟩ := h
  have h1' : t.kind = 2 := by simpa using h1
  unfold scalarT at h2
  rw [h1'] at h2
  split at h2
  · cases h2
  · exact h2
theorem boost_fit {t : Tr} (h : fitK kF t = true) : fitF t.num = true := by
  have e : fitK kF t = (decide (t.kind = 1) && scalarT t && fieldB t.text && fitF t.num) := rfl
  rw [e, Bool.and_eq_true] at h
  exact h.2
theorem wholes_kind : wholes.all (fun nm => decide (kindOf rsQueryString nm = kW)) = true := by decide +kernel
theorem whole_QS {s : SetM} (h : fitQS s = true) (hw : s.name ∈ wholes) : ∃ n, floatToIntVal .f64 s.val.num .i64 = some n := by
  have hk := List.all_eq_true.1 wholes_kind s.name hw
  unfold fitQS at h
  rw [of_decide_eq_true hk] at h
  have h2 := whole_fit h
  unfold fitW at h2
  rw [Bool.and_eq_true, Bool.and_eq_true] at h2
  obtain ⟨n, _, hn⟩ := fitW_int h2.1.1 h2.1.2
  exact ⟨_, hn⟩
theorem boost_QS {s : SetM} (h : fitQS s = true) (hw : s.name = nFieldBoost) : fitF s.val.num = true := by
  unfold fitQS at h
  rw [hw, show kindOf rsQueryString nFieldBoost = kF by decide +kernel] at h
  exact boost_fit h

def FK.ok (k : FK) : Bool := match k with
  | .whole nm => decide (kindOf rsQueryString nm = kW)
  | .num nm => decide (kindOf rsQueryString nm = kN)
  | _ => true
theorem keys_ok : keysQS.all (fun p => (fkQS p.2).ok) = true := by decide +kernel

theorem lastOf_of {sets : List SetM} {nm : ByteArray} {t : Tr} (h : lastOf sets nm = some t) : ∃ s ∈ sets, s.name = nm ∧ s.val = t := by
  unfold lastOf at h
  rw [Option.map_eq_some_iff] at h
  obtain ⟨s, hs, rfl⟩ := h
  have h1 := List.find?_some hs
  have h2 := List.mem_of_find?_eq_some hs
  simp at h1 h2
  exact ⟨s, h2, h1, rfl⟩

theorem good_QS (text : ByteArray) {sets : List SetM} (h : sets.all fitQS = true) : GoodT (treeQS ffT text sets) := by
  rw [List.all_eq_true] at h
  refine good_map ?_
  intro p hp
  have hp' : p = (nQS, mapTree (srcQS ffT text sets 27)) := by simpa using hp
  subst hp'
  refine good_map ?_
  intro p hp
  unfold srcQS at hp
  obtain ⟨q, hq, hp⟩ := List.mem_flatMap.1 hp
  have hok := List.all_eq_true.1 keys_ok q (List.mem_of_mem_take hq)
  generalize hk : fkQS q.2 = k at *
  cases k with
  | qs => obtain rfl : p = _ := by simpa [entT] using hp
          exact good_text _
  | text nm =>
    simp only [entT] at hp
    split at hp
    · cases hp
    · obtain rfl : p = _ := by simpa using hp
      exact good_text _
  | yes nm =>
    simp only [entT] at hp
    split at hp
    · cases hp
    · obtain rfl : p = _ := by simpa using hp
      exact good_yes _
  | whole nm =>
    simp only [entT] at hp
    split at hp
    · cases hp
    · rename_i t ht
      obtain rfl : p = _ := by simpa using hp
      obtain ⟨s, hs, hn, rfl⟩ := lastOf_of ht
      have hf := h s hs
      have hk : kindOf rsQueryString nm = kW := by simpa [FK.ok] using hok
      unfold fitQS at hf
      rw [hn, hk] at hf
      have h2 := whole_fit hf
      unfold fitW at h2
      rw [Bool.and_eq_true] at h2
      have h3 := h2.2
      unfold roundB at h3
      cases e : floatToIntVal .f64 s.val.num .i64 with
      | none => rw [e] at h3; cases h3
      | some n =>
        rw [e] at h3
        unfold toI
        rw [e]
        exact good_num (feq_left h3)
  | num nm =>
    simp only [entT] at hp
    split at hp
    · cases hp
    · rename_i t ht
      obtain rfl : p = _ := by simpa using hp
      obtain ⟨s, hs, hn, rfl⟩ := lastOf_of ht
      have hf := h s hs
      have hk : kindOf rsQueryString nm = kN := by simpa [FK.ok] using hok
      unfold fitQS at hf
      rw [hn, hk] at hf
      exact good_num (feq_fin (num_fit hf))
  | noText => simp [entT] at hp
  | noPtr => simp [entT] at hp
  | list =>
    simp only [entT, entFields] at hp
    split at hp
    · obtain rfl : p = _ := by simpa using hp
      exact good_list (fun t ht => by
        obtain ⟨s, _, rfl⟩ := List.mem_map.1 ht
        exact good_text _)
    · cases hp
  | boosts => simp [entT] at hp

/-- One call of the builder. -/
theorem qs_call (text : ByteArray) (sets : List SetM) (S : Nat → Prop) (a : Option Addr) (c : Nat) (w : World) (hsets : SetsAt w S a sets) (hl : sets.length ≤ 9223372036854775807) (htx : text.size ≤ 9223372036854775807)
    (hok : ∀ s ∈ sets, s.val.text.size ≤ 140737488355328 ∧ s.val.num < 18446744073709551616) (ht : FTabs w) (hfit : sets.all fitQS = true) (hfl : (sets.filter isField).length ≤ 1) :
    Calls Tryz.prog 15 #[.string text, .slice a sets.length c] w (ToldPost w (treeQS ffT text sets)) := by
  rw [List.all_eq_true] at hfit
  refine queryString_any text sets _ S a c w hsets hl hfl (fun s hs hw => whole_QS (hfit s hs) hw) (fun s hs => name_QS (hfit s hs)) ?_
  intro wr h hb hq
  refine srcQS_any ffT text sets wr h hq htx (fun s hs => (hok s hs).1) hfl ?_
  intro s hs hn
  refine ⟨ffT_size _, fun wx hbx => ?_⟩
  exact ffT_any _ (hok s hs).2 (boost_QS (hfit s hs) hn) wx (ht.below (hb.trans (hbx.mono hb.size)))

set_option maxRecDepth 100000 in
set_option maxHeartbeats 4000000 in
theorem turned_any (text : ByteArray) (sets : List SetM) (S : Nat → Prop) (a : Option Addr) (c : Nat) (w : World) (hsets : SetsAt w S a sets) (hcap : sets.length ≤ c) (hl : sets.length ≤ 9223372036854775807) (htx : text.size ≤ 9223372036854775807)
    (hok : ∀ s ∈ sets, s.val.text.size ≤ 140737488355328 ∧ s.val.num < 18446744073709551616) (ht : FTabs w) :
    Calls Tryz.prog 4 #[.string text, .slice a sets.length c] w fun e w' => e = .returned (.bool true) ∧ Below w.heap.size w w' := by
  have hdist := fun w h => distinct_any sets S a c w h hl hcap
  have hfits := fun w h => fits_QS sets S a c w h hl
  have Hsets := Lib.hid hsets; clear hsets
  have Hok := Lib.hid hok; clear hok
  have Ht := Lib.hid ht; clear ht
  by_cases hbig : 2147483647 < text.size
  · go_enter Tryz.func4, Tryz.ntmps4
    go_wp2_with fail
    go_ret
    exact ⟨rfl, Below.refl _ _⟩
  by_cases hbig2 : 2147483647 < sets.length
  · go_enter Tryz.func4, Tryz.ntmps4
    go_wp2_with fail
    go_ret
    exact ⟨rfl, Below.refl _ _⟩
  cases hD : distinctB sets with
  | false =>
    rw [hD] at hdist
    have Hdist := Lib.hid hdist; clear hdist hD
    clear hfits
    go_enter Tryz.func4, Tryz.ntmps4
    go_wp2_with fail
    refine (Hdist.out _ Hsets.out).mono ?_
    rintro e w1 ⟨rfl, hb1⟩
    go_wp2_with fail
    go_ret
    exact ⟨rfl, hb1⟩
  | true =>
    have hnd := distinct_nodup hD
    have hshort : sets.all fitQS = true → sets.length ≤ 25 := by
      intro h
      rw [List.all_eq_true] at h
      have := nodup_short (sets.map (·.name)) namesQS hnd (fun x hx => by
        obtain ⟨s, hs, rfl⟩ := List.mem_map.1 hx
        exact name_QS (h s hs))
      rw [List.length_map] at this
      exact Nat.le_trans this (by decide)
    rw [hD] at hdist
    have Hdist := Lib.hid hdist; clear hdist hD
    cases hF : sets.all fitQS with
    | false =>
      rw [hF] at hfits
      have Hfits := Lib.hid hfits; clear hfits hF hshort hnd
      go_enter Tryz.func4, Tryz.ntmps4
      go_wp2_with fail
      refine (Hdist.out _ Hsets.out).mono ?_
      rintro e w1 ⟨rfl, hb1⟩
      have hs1 := Hsets.out.keep (Keeps.of_below S hb1)
      have Hs1 := Lib.hid hs1; clear hs1
      go_wp2_with fail
      refine (Hfits.out _ Hs1.out).mono ?_
      rintro e w2 ⟨rfl, hb2⟩
      go_wp2_with fail
      go_ret
      exact ⟨rfl, via hb1 hb2⟩
    | true =>
      have hsh := hshort hF
      clear hshort
      rw [hF] at hfits
      have Hfits := Lib.hid hfits; clear hfits
      by_cases hN : (sets.filter isField).length ≤ 1
      · have hq1 := fun w h ht => qs_call text sets S a c w h hl htx Hok.out ht hF hN
        have hq2 := fun g cap w h ht => qs_call text sets.reverse (fun _ => True) (some ⟨g, 0, none⟩) cap w h (by simpa using hl) htx (fun s hs => Hok.out s (by simpa using hs)) ht (by rw [List.all_reverse]; exact hF) (by rw [filter_turned isField sets hN]; exact hN)
        rw [treeQS_turned ffT text hnd hN] at hq2
        simp only [List.length_reverse] at hq2
        have hback := fun w h => back_any sets S a c w h (by omega)
        have hfn := fun w h => fieldNames_any sets S a c w h (by omega)
        have hsame := (good_QS text hF).same
        generalize treeQS ffT text sets = T at *
        generalize hn : (sets.filter isField).length = N at *
        have hN' : (N : Int) ≤ 1 := by omega
        have Hq1 := Lib.hid hq1; clear hq1
        have Hq2 := Lib.hid hq2; clear hq2
        have Hback := Lib.hid hback; clear hback
        have Hfn := Lib.hid hfn; clear hfn
        have Hsame := Lib.hid hsame; clear hsame hF hnd hn Hok
        go_enter Tryz.func4, Tryz.ntmps4
        go_wp2_with fail
        refine (Hdist.out _ Hsets.out).mono ?_
        rintro e w1 ⟨rfl, hb1⟩
        have hs1 := Hsets.out.keep (Keeps.of_below S hb1)
        have ht1 := Ht.out.below hb1
        have Hs1 := Lib.hid hs1; clear hs1
        have Ht1 := Lib.hid ht1; clear ht1
        go_wp2_with fail
        refine (Hfits.out _ Hs1.out).mono ?_
        rintro e w2 ⟨rfl, hb2⟩
        have hs2 := Hs1.out.keep (Keeps.of_below S hb2)
        have ht2 := Ht1.out.below hb2
        have Hs2 := Lib.hid hs2; clear hs2
        have Ht2 := Lib.hid ht2; clear ht2
        go_wp2_with fail
        refine (Hfn.out _ Hs2.out).mono ?_
        rintro e w3 ⟨⟨a', c', rfl⟩, hb3⟩
        have hs3 := Hs2.out.keep (Keeps.of_below S hb3)
        have ht3 := Ht2.out.below hb3
        have Hs3 := Lib.hid hs3; clear hs3
        have Ht3 := Lib.hid ht3; clear ht3
        go_wp2_with fail
        refine (Hq1.out _ Hs3.out Ht3.out).mono ?_
        rintro e w4 ⟨⟨kind, txt, num, yes, ka, kn, kc, ca, cn, cc⟩, rfl, hv1, hb4⟩
        have hs4 := Hs3.out.keep (Keeps.of_below S hb4)
        have ht4 := Ht3.out.below hb4
        have Hs4 := Lib.hid hs4; clear hs4
        have Ht4 := Lib.hid ht4; clear ht4
        have Hv1 := Lib.hid hv1; clear hv1
        go_wp2_with fail
        have hba : Below w4.heap.size w4 (w4.alloc (.cells #[.int .i64 kind, .string txt, .float .f64 num, .bool yes, .slice ka kn kc, .slice ca cn cc] 31)) := (Below.refl _ _).alloc (Nat.le_refl _) _
        have hbox : Box6 (w4.alloc (.cells #[.int .i64 kind, .string txt, .float .f64 num, .bool yes, .slice ka kn kc, .slice ca cn cc] 31)) w4.heap.size (.int .i64 kind) (.string txt) (.float .f64 num) (.bool yes) (.slice ka kn kc) (.slice ca cn cc) := heap_alloc_new w4 _
        have Hbox := Lib.hid hbox; clear hbox
        refine (Hback.out _ (Hs4.out.keep (Keeps.of_below S hba))).mono ?_
        rintro e w5 ⟨⟨g, cap, rfl, hs5⟩, hb5⟩
        have hbox5 := Hbox.out.below hb5
        have ht5 := (Ht4.out.below hba).below hb5
        have hv5 := (Hv1.out.keep (Keeps.of_below _ hba)).keep (Keeps.of_below _ hb5)
        have hbel5 := (via (via (via (via (via hb1 hb2) hb3) hb4) hba) hb5)
        have Hbel5 := Lib.hid hbel5; clear hbel5 hb1 hb2 hb3 hb4 hba hb5
        have Hbox5 := Lib.hid hbox5; clear hbox5 Hbox
        have Hs5 := Lib.hid hs5; clear hs5
        have Ht5 := Lib.hid ht5; clear ht5
        have Hv5 := Lib.hid hv5; clear hv5 Hv1
        go_wp2_with fail
        refine (Hq2.out g cap _ Hs5.out Ht5.out).mono ?_
        rintro e w6 ⟨⟨kind', txt', num', yes', ka', kn', kc', ca', cn', cc'⟩, rfl, hv2, hb6⟩
        obtain ⟨b0, b1, b2, b3, b4, b5, _, bl⟩ := (Hbox5.out.below hb6).cells
        have hba : Below w6.heap.size w6 (w6.alloc (.cells #[.int .i64 kind', .string txt', .float .f64 num', .bool yes', .slice ka' kn' kc', .slice ca' cn' cc'] 31)) := (Below.refl _ _).alloc (Nat.le_refl _) _
        have hv6 := (Hv5.out.keep (Keeps.of_below _ hb6)).keep (Keeps.of_below _ hba)
        have hv7 := hv2.keep (Keeps.of_below _ hba)
        have hsm := same_any Hsame.out _ _ _ _ _ hv6 hv7
        have hbel6 := via (via Hbel5.out hb6) hba
        have Hsm := Lib.hid hsm; clear hsm
        have Hbel6 := Lib.hid hbel6; clear hbel6 hb6 hba hv2 hv6 hv7 Hv5 Hbox5
        go_wp2_with fail
        refine Hsm.out.mono ?_
        rintro e w7 ⟨rfl, hb7⟩
        go_wp2_with fail
        go_ret
        exact ⟨rfl, via Hbel6.out hb7⟩
      · have hfn := fun w h => fieldNames_any sets S a c w h (by omega)
        generalize hn : (sets.filter isField).length = N at *
        have hN' : 1 < (N : Int) := by omega
        have hN2 : decide ((N : Int) ≤ 1) = false := by simp; omega
        clear hN
        have Hfn := Lib.hid hfn; clear hfn hF hnd hn Hok
        go_enter Tryz.func4, Tryz.ntmps4
        go_wp2_with fail
        refine (Hdist.out _ Hsets.out).mono ?_
        rintro e w1 ⟨rfl, hb1⟩
        have hs1 := Hsets.out.keep (Keeps.of_below S hb1)
        have Hs1 := Lib.hid hs1; clear hs1
        go_wp2_with fail
        refine (Hfits.out _ Hs1.out).mono ?_
        rintro e w2 ⟨rfl, hb2⟩
        have hs2 := Hs1.out.keep (Keeps.of_below S hb2)
        have Hs2 := Lib.hid hs2; clear hs2
        go_wp2_with fail
        refine (Hfn.out _ Hs2.out).mono ?_
        rintro e w3 ⟨⟨a', c', rfl⟩, hb3⟩
        go_wp2_with fail
        go_ret
        exact ⟨rfl, via (via hb1 hb2) hb3⟩
end Go.Proofs.YtbcnhcpgloncdaaGreatDoor
