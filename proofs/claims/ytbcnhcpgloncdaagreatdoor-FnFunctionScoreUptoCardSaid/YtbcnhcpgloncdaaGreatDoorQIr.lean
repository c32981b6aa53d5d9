/- The setters of a bool query. -/
import Derived.Test.YtbcnhcpgloncdaaGreatDoorQIp
namespace Go.Proofs.YtbcnhcpgloncdaaGreatDoor
open Go Go.RowKit Go.BigFrame Go.Maps

theorem cells9 {w : World} {b : Nat} {c0 c1 c2 c3 c4 c5 c6 c7 c8 : Value} (h : w.heap[b]? = some (.cells #[c0, c1, c2, c3, c4, c5, c6, c7, c8] 136 (0, 0))) :
    w.cell? ⟨b, 0, none⟩ = some c0 ∧ w.cell? ⟨b, 1, none⟩ = some c1 ∧ w.cell? ⟨b, 2, none⟩ = some c2 ∧ w.cell? ⟨b, 3, none⟩ = some c3 ∧ w.cell? ⟨b, 4, none⟩ = some c4 ∧ w.cell? ⟨b, 5, none⟩ = some c5 ∧ w.cell? ⟨b, 6, none⟩ = some c6 ∧ w.cell? ⟨b, 7, none⟩ = some c7 ∧ w.cell? ⟨b, 8, none⟩ = some c8 ∧ (∀ o, w.frozen? ⟨b, o, none⟩ = false) ∧ b < w.heap.size := by
  refine ⟨?_, ?_, ?_, ?_, ?_, ?_, ?_, ?_, ?_, fun o => ?_, (Array.getElem?_eq_some_iff.1 h).1⟩ <;> simp [World.cell?, World.frozen?, h]
theorem set9 {w : World} {b : Nat} {cs : Array Value} (h : w.heap[b]? = some (.cells cs 136 (0, 0))) (j : Nat) (v : Value) : (w.setCell ⟨b, j, none⟩ v).heap[b]? = some (.cells (cs.setIfInBounds j v) 136 (0, 0)) := heap_setCell_same w b j cs 136 v h
theorem own_flat {w : World} {S : Nat → Prop} {base g n c : Nat} {ts : List Tr} (h : OwnL QueryR oneCell 114 1 w S base (.slice (some ⟨g, 0, none⟩) n c) ts) : ∃ us : List Value, us.length = ts.length ∧ (∀ (i : Nat) (v : Value) (t : Tr), us[i]? = some v → ts[i]? = some t → QueryR w S v t) ∧ (∀ j u, us[j]? = some u → w.cell? ((⟨g, 0, none⟩ : Addr).add j) = some u) ∧ (∀ u ∈ us, u.oneCell' = true) := by
  obtain ⟨us, h1, h2, h3⟩ := h
  rw [flat_one] at h2
  refine ⟨us, h1, fun i v t hv ht => query_law.mono (h3 i v t hv ht) (fun _ _ hb => hb.1), h2.cells rfl, fun u hu => ?_⟩
  obtain ⟨i, hi, rfl⟩ := List.mem_iff_getElem.1 hu
  obtain ⟨x, hx, _⟩ := h3 i us[i] (ts[i]'(by omega)) (List.getElem?_eq_getElem hi) (List.getElem?_eq_getElem (by omega))
  rw [hx]; rfl
/-- A row of clauses that a setting tells. -/
theorem clause_len {nm : ByteArray} {done : List SetM} {s : SetM} (h : s.name = nm) : clausesT nm (done ++ [s]) = clausesT nm done ++ clauseK s.val := by rw [clausesT_snoc, if_pos h]

set_option maxRecDepth 100000 in
set_option maxHeartbeats 4000000 in
theorem setB_must (w : World) (h : Nat) (done : List SetM) (s : SetM) (hs : s.name = n_must) (hq : BQ w h done) (base : Nat) (qv : Value) (hqv : OwnL QueryR oneCell 114 1 w (fun b => b < h) base qv (clauseK s.val)) (hpos : 0 < (clauseK s.val).length) (hlen : (clausesT n_must (done ++ [s])).length ≤ 1048576) :
    Calls Tryz.prog 81 #[.pointer (some ⟨h + 5, 0, none⟩), qv] w (SetB w h (done ++ [s])) := by
  obtain ⟨i0, hi, hz0, hz1, hz2⟩ := info_parts Tryz.info114
  obtain ⟨X, m, n, f, sh, pb, pa, hX, hbx, hr, hpb, hpa⟩ := hq
  obtain ⟨c0, c1, c2, c3, c4, c5, c6, c7, c8, cf, cl⟩ := cells9 hbx
  have hown := hr.own 0 m (clausesT n_must done) rfl rfl
  rw [clause_len hs, List.length_append] at hlen
  obtain ⟨L, hL⟩ : ∃ L, L = clausesT n_must done := ⟨_, rfl⟩
  rw [← hL] at hown hlen
  have HL := Lib.hid hL; clear hL
  have hzl : h + 1 ≤ w.heap.size := by omega
  obtain ⟨a2, cc2, hform⟩ := hown.form
  subst hform
  obtain ⟨vs, hvl, hrow, hreps⟩ := hown
  have Hreps := Lib.hid hreps; clear hreps
  have Hvl := Lib.hid hvl; clear hvl
  obtain ⟨aq, cq, hqf⟩ := hqv.form
  subst hqf
  obtain ⟨gq, rfl⟩ : ∃ gq, aq = some ⟨gq, 0, none⟩ := by
    obtain ⟨us, h1, h2, h3⟩ := hqv
    obtain ⟨g, cap, e, _⟩ := h2.form hpos
    injection e with e1
    exact ⟨g, e1⟩
  obtain ⟨us, hul, hur, huc, huo⟩ := own_flat hqv
  have Hul := Lib.hid hul
  have Huc := Lib.hid huc
  have Huo := Lib.hid huo
  have Hur := Lib.hid hur
  have Hs := Lib.hid hs
  have Hpb := Lib.hid hpb
  have Hpa := Lib.hid hpa
  have Hr := Lib.hid hr
  have Hbx := Lib.hid hbx
  have HX := Lib.hid hX
  have Hpos := Lib.hid hpos
  clear hul huc huo hur hs hpb hpa hr hbx hX hqv hpos
  go_enter Tryz.func81, Tryz.ntmps81
  go_wp2_with (at_builtin; refine wpList_append_lies _ rfl _ _ _ rfl (h + 1) 114 i0 _ 1 16 Tryz.underlying95 hi hz0 hz1 hz2 rfl (by omega) (.slice a2 L.length cc2) L.length _ rfl hrow ⟨gq, 0, none⟩ (clauseK s.val).length cq us rfl (by rw [Hul.out]; omega) Huc.out Huo.out Hpos.out (by unfold maxLen; omega) (by omega) hzl w.heap.size rfl ?_; intro g cap w1 hown1 hgrow hat hlt1; have e5 := (World.cell?_of_block (a := ⟨h + 5, 1, none⟩) (hgrow.block (h + 5) cl (fun e => (Hr.out.off (h + 5) HX.out).2 0 _ rfl e.symm))).trans c1; have e5f := (World.frozen?_of_block (a := ⟨h + 5, 1, none⟩) (hgrow.block (h + 5) cl (fun e => (Hr.out.off (h + 5) HX.out).2 0 _ rfl e.symm))).trans (cf 1))
  all_goals (
    have hk5 : w1.heap[h + 5]? = w.heap[h + 5]? := hgrow.block (h + 5) cl (fun e => (Hr.out.off (h + 5) HX.out).2 0 _ rfl e.symm)
    have d1 := (World.cell?_of_block (a := ⟨h + 5, 1, none⟩) hk5).trans c1
    have df := (World.frozen?_of_block (a := ⟨h + 5, 1, none⟩) hk5).trans (cf 1)
    have Hk5 := Lib.hid (hk5.trans Hbx.out); clear hk5
    have hs1 := hgrow.size
    have hnew : OwnL QueryR oneCell 114 1 w1 (fun b => b < h) (h + 1) (.slice (some ⟨g, 0, none⟩) (L.length + (clauseK s.val).length) cap) (L ++ clauseK s.val) :=
      OwnL.more query_law Hvl.out Hreps.out Hul.out (fun i v t hv ht => query_law.mono (Hur.out i v t hv ht) (fun b hb hlt => ⟨hlt, fun e => by have := (hrow.lt b e).1; omega⟩)) hown1 hgrow hat (Nat.le_refl _) rfl (by rw [flat_one, flat_one])
    have hr1 := Hr.out.put (i := 0) rfl hgrow hat (Nat.le_refl _) hnew rfl
    have hr2 := hr1.kept (grownBy_setCell w1 ⟨h + 5, 1, none⟩ (.slice (some ⟨g, 0, none⟩) (L.length + (clauseK s.val).length) cap)) (by simp) HX.out
    have hkeepX : ∀ b ∈ X, b ≠ h + 5 → b < w.heap.size → (w1.setCell ⟨h + 5, 1, none⟩ (.slice (some ⟨g, 0, none⟩) (L.length + (clauseK s.val).length) cap)).heap[b]? = w.heap[b]? := fun b hb hne hlt =>
      (heap_setCell_other _ _ _ _ (by simpa using hne)).trans (hgrow.block b hlt (fun e => (Hr.out.off b hb).2 0 _ rfl e.symm))
    have hbq : BQ (w1.setCell ⟨h + 5, 1, none⟩ (.slice (some ⟨g, 0, none⟩) (L.length + (clauseK s.val).length) cap)) h (done ++ [s]) := by
      refine ⟨X, (.slice (some ⟨g, 0, none⟩) (L.length + (clauseK s.val).length) cap), n, f, sh, pb, pa, HX.out, ?_, ?_, ?_, ?_⟩
      · rw [set9 Hk5.out, msm_other (by rw [Hs.out]; decide) (by rw [Hs.out]; decide), textLast_other (by rw [Hs.out]; decide)]; rfl
      · rw [show clausesT n_must (done ++ [s]) = L ++ clauseK s.val by rw [clause_len Hs.out, HL.out]]
        rw [clausesT_other (show s.name ≠ n_must_not by rw [Hs.out]; decide)]; rw [clausesT_other (show s.name ≠ n_filter by rw [Hs.out]; decide)]; rw [clausesT_other (show s.name ≠ n_should by rw [Hs.out]; decide)]
        exact hr2
      · rw [lastOf_other (by rw [Hs.out]; decide)]; exact Hpb.out.keep (fun _ h => h) hkeepX
      · rw [lastOf_other (by rw [Hs.out]; decide)]; exact Hpa.out.keep (fun _ h => h) hkeepX
    have hbel : Below (h + 1) w (w1.setCell ⟨h + 5, 1, none⟩ (.slice (some ⟨g, 0, none⟩) (L.length + (clauseK s.val).length) cap)) :=
      ((Below.refl _ _).grown hgrow hzl (fun k hk => (hrow.lt k hk).1)).setCell (by simp) _
    have Hbq := Lib.hid hbq
    have Hbel := Lib.hid hbel
    clear hnew hr1 hr2 hkeepX hbq hbel hgrow hat hown1 hrow
    go_wp2_with fail
    go_ret
    exact ⟨by simp, Hbq.out, Hbel.out⟩)

set_option maxRecDepth 100000 in
set_option maxHeartbeats 4000000 in
theorem setB_must_not (w : World) (h : Nat) (done : List SetM) (s : SetM) (hs : s.name = n_must_not) (hq : BQ w h done) (base : Nat) (qv : Value) (hqv : OwnL QueryR oneCell 114 1 w (fun b => b < h) base qv (clauseK s.val)) (hpos : 0 < (clauseK s.val).length) (hlen : (clausesT n_must_not (done ++ [s])).length ≤ 1048576) :
    Calls Tryz.prog 83 #[.pointer (some ⟨h + 5, 0, none⟩), qv] w (SetB w h (done ++ [s])) := by
  obtain ⟨i0, hi, hz0, hz1, hz2⟩ := info_parts Tryz.info114
  obtain ⟨X, m, n, f, sh, pb, pa, hX, hbx, hr, hpb, hpa⟩ := hq
  obtain ⟨c0, c1, c2, c3, c4, c5, c6, c7, c8, cf, cl⟩ := cells9 hbx
  have hown := hr.own 1 n (clausesT n_must_not done) rfl rfl
  rw [clause_len hs, List.length_append] at hlen
  obtain ⟨L, hL⟩ : ∃ L, L = clausesT n_must_not done := ⟨_, rfl⟩
  rw [← hL] at hown hlen
  have HL := Lib.hid hL; clear hL
  have hzl : h + 1 ≤ w.heap.size := by omega
  obtain ⟨a2, cc2, hform⟩ := hown.form
  subst hform
  obtain ⟨vs, hvl, hrow, hreps⟩ := hown
  have Hreps := Lib.hid hreps; clear hreps
  have Hvl := Lib.hid hvl; clear hvl
  obtain ⟨aq, cq, hqf⟩ := hqv.form
  subst hqf
  obtain ⟨gq, rfl⟩ : ∃ gq, aq = some ⟨gq, 0, none⟩ := by
    obtain ⟨us, h1, h2, h3⟩ := hqv
    obtain ⟨g, cap, e, _⟩ := h2.form hpos
    injection e with e1
    exact ⟨g, e1⟩
  obtain ⟨us, hul, hur, huc, huo⟩ := own_flat hqv
  have Hul := Lib.hid hul
  have Huc := Lib.hid huc
  have Huo := Lib.hid huo
  have Hur := Lib.hid hur
  have Hs := Lib.hid hs
  have Hpb := Lib.hid hpb
  have Hpa := Lib.hid hpa
  have Hr := Lib.hid hr
  have Hbx := Lib.hid hbx
  have HX := Lib.hid hX
  have Hpos := Lib.hid hpos
  clear hul huc huo hur hs hpb hpa hr hbx hX hqv hpos
  go_enter Tryz.func83, Tryz.ntmps83
  go_wp2_with (at_builtin; refine wpList_append_lies _ rfl _ _ _ rfl (h + 1) 114 i0 _ 1 16 Tryz.underlying95 hi hz0 hz1 hz2 rfl (by omega) (.slice a2 L.length cc2) L.length _ rfl hrow ⟨gq, 0, none⟩ (clauseK s.val).length cq us rfl (by rw [Hul.out]; omega) Huc.out Huo.out Hpos.out (by unfold maxLen; omega) (by omega) hzl w.heap.size rfl ?_; intro g cap w1 hown1 hgrow hat hlt1; have e5 := (World.cell?_of_block (a := ⟨h + 5, 2, none⟩) (hgrow.block (h + 5) cl (fun e => (Hr.out.off (h + 5) HX.out).2 1 _ rfl e.symm))).trans c2; have e5f := (World.frozen?_of_block (a := ⟨h + 5, 2, none⟩) (hgrow.block (h + 5) cl (fun e => (Hr.out.off (h + 5) HX.out).2 1 _ rfl e.symm))).trans (cf 2))
  all_goals (
    have hk5 : w1.heap[h + 5]? = w.heap[h + 5]? := hgrow.block (h + 5) cl (fun e => (Hr.out.off (h + 5) HX.out).2 1 _ rfl e.symm)
    have d1 := (World.cell?_of_block (a := ⟨h + 5, 2, none⟩) hk5).trans c2
    have df := (World.frozen?_of_block (a := ⟨h + 5, 2, none⟩) hk5).trans (cf 2)
    have Hk5 := Lib.hid (hk5.trans Hbx.out); clear hk5
    have hs1 := hgrow.size
    have hnew : OwnL QueryR oneCell 114 1 w1 (fun b => b < h) (h + 1) (.slice (some ⟨g, 0, none⟩) (L.length + (clauseK s.val).length) cap) (L ++ clauseK s.val) :=
      OwnL.more query_law Hvl.out Hreps.out Hul.out (fun i v t hv ht => query_law.mono (Hur.out i v t hv ht) (fun b hb hlt => ⟨hlt, fun e => by have := (hrow.lt b e).1; omega⟩)) hown1 hgrow hat (Nat.le_refl _) rfl (by rw [flat_one, flat_one])
    have hr1 := Hr.out.put (i := 1) rfl hgrow hat (Nat.le_refl _) hnew rfl
    have hr2 := hr1.kept (grownBy_setCell w1 ⟨h + 5, 2, none⟩ (.slice (some ⟨g, 0, none⟩) (L.length + (clauseK s.val).length) cap)) (by simp) HX.out
    have hkeepX : ∀ b ∈ X, b ≠ h + 5 → b < w.heap.size → (w1.setCell ⟨h + 5, 2, none⟩ (.slice (some ⟨g, 0, none⟩) (L.length + (clauseK s.val).length) cap)).heap[b]? = w.heap[b]? := fun b hb hne hlt =>
      (heap_setCell_other _ _ _ _ (by simpa using hne)).trans (hgrow.block b hlt (fun e => (Hr.out.off b hb).2 1 _ rfl e.symm))
    have hbq : BQ (w1.setCell ⟨h + 5, 2, none⟩ (.slice (some ⟨g, 0, none⟩) (L.length + (clauseK s.val).length) cap)) h (done ++ [s]) := by
      refine ⟨X, m, (.slice (some ⟨g, 0, none⟩) (L.length + (clauseK s.val).length) cap), f, sh, pb, pa, HX.out, ?_, ?_, ?_, ?_⟩
      · rw [set9 Hk5.out, msm_other (by rw [Hs.out]; decide) (by rw [Hs.out]; decide), textLast_other (by rw [Hs.out]; decide)]; rfl
      · rw [show clausesT n_must_not (done ++ [s]) = L ++ clauseK s.val by rw [clause_len Hs.out, HL.out]]
        rw [clausesT_other (show s.name ≠ n_must by rw [Hs.out]; decide)]; rw [clausesT_other (show s.name ≠ n_filter by rw [Hs.out]; decide)]; rw [clausesT_other (show s.name ≠ n_should by rw [Hs.out]; decide)]
        exact hr2
      · rw [lastOf_other (by rw [Hs.out]; decide)]; exact Hpb.out.keep (fun _ h => h) hkeepX
      · rw [lastOf_other (by rw [Hs.out]; decide)]; exact Hpa.out.keep (fun _ h => h) hkeepX
    have hbel : Below (h + 1) w (w1.setCell ⟨h + 5, 2, none⟩ (.slice (some ⟨g, 0, none⟩) (L.length + (clauseK s.val).length) cap)) :=
      ((Below.refl _ _).grown hgrow hzl (fun k hk => (hrow.lt k hk).1)).setCell (by simp) _
    have Hbq := Lib.hid hbq
    have Hbel := Lib.hid hbel
    clear hnew hr1 hr2 hkeepX hbq hbel hgrow hat hown1 hrow
    go_wp2_with fail
    go_ret
    exact ⟨by simp, Hbq.out, Hbel.out⟩)

set_option maxRecDepth 100000 in
set_option maxHeartbeats 4000000 in
theorem setB_filter (w : World) (h : Nat) (done : List SetM) (s : SetM) (hs : s.name = n_filter) (hq : BQ w h done) (base : Nat) (qv : Value) (hqv : OwnL QueryR oneCell 114 1 w (fun b => b < h) base qv (clauseK s.val)) (hpos : 0 < (clauseK s.val).length) (hlen : (clausesT n_filter (done ++ [s])).length ≤ 1048576) :
    Calls Tryz.prog 85 #[.pointer (some ⟨h + 5, 0, none⟩), qv] w (SetB w h (done ++ [s])) := by
  obtain ⟨i0, hi, hz0, hz1, hz2⟩ := info_parts Tryz.info114
  obtain ⟨X, m, n, f, sh, pb, pa, hX, hbx, hr, hpb, hpa⟩ := hq
  obtain ⟨c0, c1, c2, c3, c4, c5, c6, c7, c8, cf, cl⟩ := cells9 hbx
  have hown := hr.own 2 f (clausesT n_filter done) rfl rfl
  rw [clause_len hs, List.length_append] at hlen
  obtain ⟨L, hL⟩ : ∃ L, L = clausesT n_filter done := ⟨_, rfl⟩
  rw [← hL] at hown hlen
  have HL := Lib.hid hL; clear hL
  have hzl : h + 1 ≤ w.heap.size := by omega
  obtain ⟨a2, cc2, hform⟩ := hown.form
  subst hform
  obtain ⟨vs, hvl, hrow, hreps⟩ := hown
  have Hreps := Lib.hid hreps; clear hreps
  have Hvl := Lib.hid hvl; clear hvl
  obtain ⟨aq, cq, hqf⟩ := hqv.form
  subst hqf
  obtain ⟨gq, rfl⟩ : ∃ gq, aq = some ⟨gq, 0, none⟩ := by
    obtain ⟨us, h1, h2, h3⟩ := hqv
    obtain ⟨g, cap, e, _⟩ := h2.form hpos
    injection e with e1
    exact ⟨g, e1⟩
  obtain ⟨us, hul, hur, huc, huo⟩ := own_flat hqv
  have Hul := Lib.hid hul
  have Huc := Lib.hid huc
  have Huo := Lib.hid huo
  have Hur := Lib.hid hur
  have Hs := Lib.hid hs
  have Hpb := Lib.hid hpb
  have Hpa := Lib.hid hpa
  have Hr := Lib.hid hr
  have Hbx := Lib.hid hbx
  have HX := Lib.hid hX
  have Hpos := Lib.hid hpos
  clear hul huc huo hur hs hpb hpa hr hbx hX hqv hpos
  go_enter Tryz.func85, Tryz.ntmps85
  go_wp2_with (at_builtin; refine wpList_append_lies _ rfl _ _ _ rfl (h + 1) 114 i0 _ 1 16 Tryz.underlying95 hi hz0 hz1 hz2 rfl (by omega) (.slice a2 L.length cc2) L.length _ rfl hrow ⟨gq, 0, none⟩ (clauseK s.val).length cq us rfl (by rw [Hul.out]; omega) Huc.out Huo.out Hpos.out (by unfold maxLen; omega) (by omega) hzl w.heap.size rfl ?_; intro g cap w1 hown1 hgrow hat hlt1; have e5 := (World.cell?_of_block (a := ⟨h + 5, 3, none⟩) (hgrow.block (h + 5) cl (fun e => (Hr.out.off (h + 5) HX.out).2 2 _ rfl e.symm))).trans c3; have e5f := (World.frozen?_of_block (a := ⟨h + 5, 3, none⟩) (hgrow.block (h + 5) cl (fun e => (Hr.out.off (h + 5) HX.out).2 2 _ rfl e.symm))).trans (cf 3))
  all_goals (
    have hk5 : w1.heap[h + 5]? = w.heap[h + 5]? := hgrow.block (h + 5) cl (fun e => (Hr.out.off (h + 5) HX.out).2 2 _ rfl e.symm)
    have d1 := (World.cell?_of_block (a := ⟨h + 5, 3, none⟩) hk5).trans c3
    have df := (World.frozen?_of_block (a := ⟨h + 5, 3, none⟩) hk5).trans (cf 3)
    have Hk5 := Lib.hid (hk5.trans Hbx.out); clear hk5
    have hs1 := hgrow.size
    have hnew : OwnL QueryR oneCell 114 1 w1 (fun b => b < h) (h + 1) (.slice (some ⟨g, 0, none⟩) (L.length + (clauseK s.val).length) cap) (L ++ clauseK s.val) :=
      OwnL.more query_law Hvl.out Hreps.out Hul.out (fun i v t hv ht => query_law.mono (Hur.out i v t hv ht) (fun b hb hlt => ⟨hlt, fun e => by have := (hrow.lt b e).1; omega⟩)) hown1 hgrow hat (Nat.le_refl _) rfl (by rw [flat_one, flat_one])
    have hr1 := Hr.out.put (i := 2) rfl hgrow hat (Nat.le_refl _) hnew rfl
    have hr2 := hr1.kept (grownBy_setCell w1 ⟨h + 5, 3, none⟩ (.slice (some ⟨g, 0, none⟩) (L.length + (clauseK s.val).length) cap)) (by simp) HX.out
    have hkeepX : ∀ b ∈ X, b ≠ h + 5 → b < w.heap.size → (w1.setCell ⟨h + 5, 3, none⟩ (.slice (some ⟨g, 0, none⟩) (L.length + (clauseK s.val).length) cap)).heap[b]? = w.heap[b]? := fun b hb hne hlt =>
      (heap_setCell_other _ _ _ _ (by simpa using hne)).trans (hgrow.block b hlt (fun e => (Hr.out.off b hb).2 2 _ rfl e.symm))
    have hbq : BQ (w1.setCell ⟨h + 5, 3, none⟩ (.slice (some ⟨g, 0, none⟩) (L.length + (clauseK s.val).length) cap)) h (done ++ [s]) := by
      refine ⟨X, m, n, (.slice (some ⟨g, 0, none⟩) (L.length + (clauseK s.val).length) cap), sh, pb, pa, HX.out, ?_, ?_, ?_, ?_⟩
      · rw [set9 Hk5.out, msm_other (by rw [Hs.out]; decide) (by rw [Hs.out]; decide), textLast_other (by rw [Hs.out]; decide)]; rfl
      · rw [show clausesT n_filter (done ++ [s]) = L ++ clauseK s.val by rw [clause_len Hs.out, HL.out]]
        rw [clausesT_other (show s.name ≠ n_must by rw [Hs.out]; decide)]; rw [clausesT_other (show s.name ≠ n_must_not by rw [Hs.out]; decide)]; rw [clausesT_other (show s.name ≠ n_should by rw [Hs.out]; decide)]
        exact hr2
      · rw [lastOf_other (by rw [Hs.out]; decide)]; exact Hpb.out.keep (fun _ h => h) hkeepX
      · rw [lastOf_other (by rw [Hs.out]; decide)]; exact Hpa.out.keep (fun _ h => h) hkeepX
    have hbel : Below (h + 1) w (w1.setCell ⟨h + 5, 3, none⟩ (.slice (some ⟨g, 0, none⟩) (L.length + (clauseK s.val).length) cap)) :=
      ((Below.refl _ _).grown hgrow hzl (fun k hk => (hrow.lt k hk).1)).setCell (by simp) _
    have Hbq := Lib.hid hbq
    have Hbel := Lib.hid hbel
    clear hnew hr1 hr2 hkeepX hbq hbel hgrow hat hown1 hrow
    go_wp2_with fail
    go_ret
    exact ⟨by simp, Hbq.out, Hbel.out⟩)

set_option maxRecDepth 100000 in
set_option maxHeartbeats 4000000 in
theorem setB_should (w : World) (h : Nat) (done : List SetM) (s : SetM) (hs : s.name = n_should) (hq : BQ w h done) (base : Nat) (qv : Value) (hqv : OwnL QueryR oneCell 114 1 w (fun b => b < h) base qv (clauseK s.val)) (hpos : 0 < (clauseK s.val).length) (hlen : (clausesT n_should (done ++ [s])).length ≤ 1048576) :
    Calls Tryz.prog 84 #[.pointer (some ⟨h + 5, 0, none⟩), qv] w (SetB w h (done ++ [s])) := by
  obtain ⟨i0, hi, hz0, hz1, hz2⟩ := info_parts Tryz.info114
  obtain ⟨X, m, n, f, sh, pb, pa, hX, hbx, hr, hpb, hpa⟩ := hq
  obtain ⟨c0, c1, c2, c3, c4, c5, c6, c7, c8, cf, cl⟩ := cells9 hbx
  have hown := hr.own 3 sh (clausesT n_should done) rfl rfl
  rw [clause_len hs, List.length_append] at hlen
  obtain ⟨L, hL⟩ : ∃ L, L = clausesT n_should done := ⟨_, rfl⟩
  rw [← hL] at hown hlen
  have HL := Lib.hid hL; clear hL
  have hzl : h + 1 ≤ w.heap.size := by omega
  obtain ⟨a2, cc2, hform⟩ := hown.form
  subst hform
  obtain ⟨vs, hvl, hrow, hreps⟩ := hown
  have Hreps := Lib.hid hreps; clear hreps
  have Hvl := Lib.hid hvl; clear hvl
  obtain ⟨aq, cq, hqf⟩ := hqv.form
  subst hqf
  obtain ⟨gq, rfl⟩ : ∃ gq, aq = some ⟨gq, 0, none⟩ := by
    obtain ⟨us, h1, h2, h3⟩ := hqv
    obtain ⟨g, cap, e, _⟩ := h2.form hpos
    injection e with e1
    exact ⟨g, e1⟩
  obtain ⟨us, hul, hur, huc, huo⟩ := own_flat hqv
  have Hul := Lib.hid hul
  have Huc := Lib.hid huc
  have Huo := Lib.hid huo
  have Hur := Lib.hid hur
  have Hs := Lib.hid hs
  have Hpb := Lib.hid hpb
  have Hpa := Lib.hid hpa
  have Hr := Lib.hid hr
  have Hbx := Lib.hid hbx
  have HX := Lib.hid hX
  have Hpos := Lib.hid hpos
  clear hul huc huo hur hs hpb hpa hr hbx hX hqv hpos
  go_enter Tryz.func84, Tryz.ntmps84
  go_wp2_with (at_builtin; refine wpList_append_lies _ rfl _ _ _ rfl (h + 1) 114 i0 _ 1 16 Tryz.underlying95 hi hz0 hz1 hz2 rfl (by omega) (.slice a2 L.length cc2) L.length _ rfl hrow ⟨gq, 0, none⟩ (clauseK s.val).length cq us rfl (by rw [Hul.out]; omega) Huc.out Huo.out Hpos.out (by unfold maxLen; omega) (by omega) hzl w.heap.size rfl ?_; intro g cap w1 hown1 hgrow hat hlt1; have e5 := (World.cell?_of_block (a := ⟨h + 5, 4, none⟩) (hgrow.block (h + 5) cl (fun e => (Hr.out.off (h + 5) HX.out).2 3 _ rfl e.symm))).trans c4; have e5f := (World.frozen?_of_block (a := ⟨h + 5, 4, none⟩) (hgrow.block (h + 5) cl (fun e => (Hr.out.off (h + 5) HX.out).2 3 _ rfl e.symm))).trans (cf 4))
  all_goals (
    have hk5 : w1.heap[h + 5]? = w.heap[h + 5]? := hgrow.block (h + 5) cl (fun e => (Hr.out.off (h + 5) HX.out).2 3 _ rfl e.symm)
    have d1 := (World.cell?_of_block (a := ⟨h + 5, 4, none⟩) hk5).trans c4
    have df := (World.frozen?_of_block (a := ⟨h + 5, 4, none⟩) hk5).trans (cf 4)
    have Hk5 := Lib.hid (hk5.trans Hbx.out); clear hk5
    have hs1 := hgrow.size
    have hnew : OwnL QueryR oneCell 114 1 w1 (fun b => b < h) (h + 1) (.slice (some ⟨g, 0, none⟩) (L.length + (clauseK s.val).length) cap) (L ++ clauseK s.val) :=
      OwnL.more query_law Hvl.out Hreps.out Hul.out (fun i v t hv ht => query_law.mono (Hur.out i v t hv ht) (fun b hb hlt => ⟨hlt, fun e => by have := (hrow.lt b e).1; omega⟩)) hown1 hgrow hat (Nat.le_refl _) rfl (by rw [flat_one, flat_one])
    have hr1 := Hr.out.put (i := 3) rfl hgrow hat (Nat.le_refl _) hnew rfl
    have hr2 := hr1.kept (grownBy_setCell w1 ⟨h + 5, 4, none⟩ (.slice (some ⟨g, 0, none⟩) (L.length + (clauseK s.val).length) cap)) (by simp) HX.out
    have hkeepX : ∀ b ∈ X, b ≠ h + 5 → b < w.heap.size → (w1.setCell ⟨h + 5, 4, none⟩ (.slice (some ⟨g, 0, none⟩) (L.length + (clauseK s.val).length) cap)).heap[b]? = w.heap[b]? := fun b hb hne hlt =>
      (heap_setCell_other _ _ _ _ (by simpa using hne)).trans (hgrow.block b hlt (fun e => (Hr.out.off b hb).2 3 _ rfl e.symm))
    have hbq : BQ (w1.setCell ⟨h + 5, 4, none⟩ (.slice (some ⟨g, 0, none⟩) (L.length + (clauseK s.val).length) cap)) h (done ++ [s]) := by
      refine ⟨X, m, n, f, (.slice (some ⟨g, 0, none⟩) (L.length + (clauseK s.val).length) cap), pb, pa, HX.out, ?_, ?_, ?_, ?_⟩
      · rw [set9 Hk5.out, msm_other (by rw [Hs.out]; decide) (by rw [Hs.out]; decide), textLast_other (by rw [Hs.out]; decide)]; rfl
      · rw [show clausesT n_should (done ++ [s]) = L ++ clauseK s.val by rw [clause_len Hs.out, HL.out]]
        rw [clausesT_other (show s.name ≠ n_must by rw [Hs.out]; decide)]; rw [clausesT_other (show s.name ≠ n_must_not by rw [Hs.out]; decide)]; rw [clausesT_other (show s.name ≠ n_filter by rw [Hs.out]; decide)]
        exact hr2
      · rw [lastOf_other (by rw [Hs.out]; decide)]; exact Hpb.out.keep (fun _ h => h) hkeepX
      · rw [lastOf_other (by rw [Hs.out]; decide)]; exact Hpa.out.keep (fun _ h => h) hkeepX
    have hbel : Below (h + 1) w (w1.setCell ⟨h + 5, 4, none⟩ (.slice (some ⟨g, 0, none⟩) (L.length + (clauseK s.val).length) cap)) :=
      ((Below.refl _ _).grown hgrow hzl (fun k hk => (hrow.lt k hk).1)).setCell (by simp) _
    have Hbq := Lib.hid hbq
    have Hbel := Lib.hid hbel
    clear hnew hr1 hr2 hkeepX hbq hbel hgrow hat hown1 hrow
    go_wp2_with fail
    go_ret
    exact ⟨by simp, Hbq.out, Hbel.out⟩)

theorem new_state (w : World) (h a b c d : Nat) (hh : w.heap.size = h + 1) (ha : h + 1 ≤ a ∧ a ≤ h + 4) (hb : h + 1 ≤ b ∧ b ≤ h + 4) (hc : h + 1 ≤ c ∧ c ≤ h + 4) (hd : h + 1 ≤ d ∧ d ≤ h + 4) (hab : a ≠ b) (hac : a ≠ c) (had : a ≠ d) (hbc : b ≠ c) (hbd : b ≠ d) (hcd : c ≠ d) :
    BQ (((((w.alloc (.cells #[] 114)).alloc (.cells #[] 114)).alloc (.cells #[] 114)).alloc (.cells #[] 114)).alloc (.cells #[.nilIface, .slice (some ⟨a, 0, none⟩) 0 0, .slice (some ⟨b, 0, none⟩) 0 0, .slice (some ⟨c, 0, none⟩) 0 0, .slice (some ⟨d, 0, none⟩) 0 0, .pointer none, .string ⟨#[]⟩, .pointer none, .string ⟨#[]⟩] 136)) h [] := by
  obtain ⟨W, hW⟩ : ∃ W, W = (((w.alloc (.cells #[] 114)).alloc (.cells #[] 114)).alloc (.cells #[] 114)).alloc (.cells #[] 114) := ⟨_, rfl⟩
  have hs : W.heap.size = h + 5 := by rw [hW]; simp [hh]
  have hrow : ∀ x, h + 1 ≤ x ∧ x ≤ h + 4 → W.heap[x]? = some (.cells #[] 114 (0, 0)) := by
    intro x hx
    have h1 := heap_alloc_new w (.cells #[] 114)
    have h2 := heap_alloc_new (w.alloc (.cells #[] 114)) (.cells #[] 114)
    have h3 := heap_alloc_new ((w.alloc (.cells #[] 114)).alloc (.cells #[] 114)) (.cells #[] 114)
    have h4 := heap_alloc_new (((w.alloc (.cells #[] 114)).alloc (.cells #[] 114)).alloc (.cells #[] 114)) (.cells #[] 114)
    simp only [World.size_alloc, hh] at h1 h2 h3 h4
    have e : x = h + 1 ∨ x = h + 2 ∨ x = h + 3 ∨ x = h + 4 := by omega
    rw [hW]
    rcases e with rfl | rfl | rfl | rfl
    · exact (heap_alloc_old _ _ (by simp [hh])).trans ((heap_alloc_old _ _ (by simp [hh])).trans ((heap_alloc_old _ _ (by simp [hh])).trans h1))
    · exact (heap_alloc_old _ _ (by simp [hh])).trans ((heap_alloc_old _ _ (by simp [hh])).trans h2)
    · exact (heap_alloc_old _ _ (by simp [hh])).trans h3
    · exact h4
  rw [← hW]
  have hnew := heap_alloc_new W (.cells #[.nilIface, .slice (some ⟨a, 0, none⟩) 0 0, .slice (some ⟨b, 0, none⟩) 0 0, .slice (some ⟨c, 0, none⟩) 0 0, .slice (some ⟨d, 0, none⟩) 0 0, .pointer none, .string ⟨#[]⟩, .pointer none, .string ⟨#[]⟩] 136)
  rw [hs] at hnew
  have hown : ∀ x, h + 1 ≤ x ∧ x ≤ h + 4 → OwnL QueryR oneCell 114 1 (W.alloc (.cells #[.nilIface, .slice (some ⟨a, 0, none⟩) 0 0, .slice (some ⟨b, 0, none⟩) 0 0, .slice (some ⟨c, 0, none⟩) 0 0, .slice (some ⟨d, 0, none⟩) 0 0, .pointer none, .string ⟨#[]⟩, .pointer none, .string ⟨#[]⟩] 136)) (fun b => b < h) (h + 1) (.slice (some ⟨x, 0, none⟩) 0 0) ([] : List Tr) := by
    intro x hx
    exact OwnL.made ⟨rfl, .inr ⟨x, 0, #[], rfl, hx.1, (heap_alloc_old _ _ (by omega)).trans (hrow x hx), Nat.le_refl _, by unfold maxLen; omega, rfl, rfl⟩⟩
  refine ⟨[h + 5], _, _, _, _, none, none, by simp, hnew, ⟨?_, rfl, ?_, ?_⟩, rfl, rfl⟩
  · intro i v ts hv ht
    have hi : i < 4 := by have := (List.getElem?_eq_some_iff.1 hv).1; simpa using this
    match i, hi, hv, ht with
    | 0, _, hv, ht => cases hv; cases ht; exact hown a ha
    | 1, _, hv, ht => cases hv; cases ht; exact hown b hb
    | 2, _, hv, ht => cases hv; cases ht; exact hown c hc
    | 3, _, hv, ht => cases hv; cases ht; exact hown d hd
  · intro i j v u hij hv hu x hx e
    have hi : i < 4 := by have := (List.getElem?_eq_some_iff.1 hv).1; simpa using this
    have hj : j < 4 := by have := (List.getElem?_eq_some_iff.1 hu).1; simpa using this
    have hg : ∀ (k : Nat) (v : Value), [Value.slice (some ⟨a, 0, none⟩) 0 0, .slice (some ⟨b, 0, none⟩) 0 0, .slice (some ⟨c, 0, none⟩) 0 0, .slice (some ⟨d, 0, none⟩) 0 0][k]? = some v → Value.ownBlock v = [a, b, c, d][k]? := by
      intro k v hk
      have hk4 : k < 4 := by have := (List.getElem?_eq_some_iff.1 hk).1; simpa using this
      match k, hk4, hk with
      | 0, _, hk => cases hk; rfl
      | 1, _, hk => cases hk; rfl
      | 2, _, hk => cases hk; rfl
      | 3, _, hk => cases hk; rfl
    rw [hg i v hv] at hx
    rw [hg j u hu] at e
    have hnd : [a, b, c, d].Nodup := by simp; omega
    have h1 := List.getElem?_eq_some_iff.1 hx
    have h2 := List.getElem?_eq_some_iff.1 e
    obtain ⟨h1a, h1b⟩ := h1
    obtain ⟨h2a, h2b⟩ := h2
    exact hij ((List.getElem_inj hnd).1 (h1b.trans h2b.symm))
  · intro k hk
    have : k = h + 5 := by simpa using hk
    subst this
    refine ⟨by simp [hs], fun i v hv e => ?_⟩
    have hi : i < 4 := by have := (List.getElem?_eq_some_iff.1 hv).1; simpa using this
    match i, hi, hv with
    | 0, _, hv => cases hv; simp [Value.ownBlock] at e; omega
    | 1, _, hv => cases hv; simp [Value.ownBlock] at e; omega
    | 2, _, hv => cases hv; simp [Value.ownBlock] at e; omega
    | 3, _, hv => cases hv; simp [Value.ownBlock] at e; omega
set_option maxRecDepth 100000 in
set_option maxHeartbeats 8000000 in
theorem new_bool (w : World) (h : Nat) (hh : w.heap.size = h + 1) : Calls Tryz.prog 80 #[] w (SetB w h []) := by
  have Hh := Lib.hid hh; clear hh
  go_enter Tryz.func80, Tryz.ntmps80
  go_wp2_with fail
  go_region_law (fail)
  all_goals (
    go_wp2_with fail
    have hh := Hh.out
    refine bodyPost_ret (v := .pointer (some ⟨w.heap.size + 1 + 1 + 1 + 1, 0, none⟩)) (by simp [results, Tryz.results80, go_sem]) rfl ?_
    have hbl : Below (h + 1) w ((((w.alloc (.cells #[] 114)).alloc (.cells #[] 114)).alloc (.cells #[] 114)).alloc (.cells #[] 114)) := ((((Below.refl _ _).alloc (by omega) _).alloc (by simp; omega) _).alloc (by simp; omega) _).alloc (by simp; omega) _
    refine ⟨by rw [hh], ?_, ?_⟩
    · first
        | exact new_state w h _ _ _ _ hh (by omega) (by omega) (by omega) (by omega) (by omega) (by omega) (by omega) (by omega) (by omega) (by omega)
        | exact (new_state w h _ _ _ _ hh (by omega) (by omega) (by omega) (by omega) (by omega) (by omega) (by omega) (by omega) (by omega) (by omega)).below (Below.refl _ _).drew
    · first
        | exact hbl.alloc (by simp; omega) _
        | exact (hbl.alloc (by simp; omega) _).drew)
set_option maxRecDepth 100000 in
set_option maxHeartbeats 4000000 in
theorem setB_boost (w : World) (h : Nat) (done : List SetM) (s : SetM) (hs : s.name = n_boost) (hq : BQ w h done) : Calls Tryz.prog 87 #[.pointer (some ⟨h + 5, 0, none⟩), .float .f64 s.val.num] w (SetB w h (done ++ [s])) := by
  obtain ⟨X, m, n, f, sh, pb, pa, hX, hbx, hr, hpb, hpa⟩ := hq
  obtain ⟨c0, c1, c2, c3, c4, c5, c6, c7, c8, cf, cl⟩ := cells9 hbx
  have hne := Nat.ne_of_lt cl
  have Hs := Lib.hid hs
  have Hpb := Lib.hid hpb
  have Hpa := Lib.hid hpa
  have Hr := Lib.hid hr
  have Hbx := Lib.hid hbx
  have HX := Lib.hid hX
  clear hs hpb hpa hr hbx hX
  go_enter Tryz.func87, Tryz.ntmps87
  go_wp2
  go_ret
  have hr1 := (Hr.out.kept (grownBy_setCell w ⟨h + 5, 5, none⟩ (.pointer (some ⟨w.heap.size, 0, none⟩))) (by simp) HX.out).join (.cells #[.float .f64 s.val.num] 28)
  have hr2 : BRows ((w.setCell ⟨h + 5, 5, none⟩ (.pointer (some ⟨w.heap.size, 0, none⟩))).alloc (.cells #[.float .f64 s.val.num] 28)) h (w.heap.size :: X) [m, n, f, sh] [clausesT n_must done, clausesT n_must_not done, clausesT n_filter done, clausesT n_should done] := by simpa using hr1
  have hkeepX : ∀ b ∈ X, b ≠ h + 5 → b < w.heap.size → ((w.setCell ⟨h + 5, 5, none⟩ (.pointer (some ⟨w.heap.size, 0, none⟩))).alloc (.cells #[.float .f64 s.val.num] 28)).heap[b]? = w.heap[b]? := fun b _ hne hlt =>
    (heap_alloc_old _ _ (by simpa using hlt)).trans (heap_setCell_other _ _ _ _ (by simpa using hne))
  refine ⟨by simp, ⟨w.heap.size :: X, m, n, f, sh, (some ⟨w.heap.size, 0, none⟩), pa, by simp [HX.out], ?_, ?_, by rw [lastOf_snoc, if_pos Hs.out]; exact ⟨w.heap.size, rfl, by simp, by omega, ptr_new _ _ _ _ _⟩, by rw [lastOf_other (by rw [Hs.out]; decide)]; exact Hpa.out.keep (fun _ h => by simp [h]) hkeepX⟩, ((Below.refl _ _).setCell (by simp) _).alloc (by simp; omega) _⟩
  · rw [heap_alloc_old _ _ (by simpa using cl), set9 Hbx.out, msm_other (by rw [Hs.out]; decide) (by rw [Hs.out]; decide), textLast_other (by rw [Hs.out]; decide)]; rfl
  · rw [clausesT_other (show s.name ≠ n_must by rw [Hs.out]; decide), clausesT_other (show s.name ≠ n_must_not by rw [Hs.out]; decide), clausesT_other (show s.name ≠ n_filter by rw [Hs.out]; decide), clausesT_other (show s.name ≠ n_should by rw [Hs.out]; decide)]
    exact hr2

set_option maxRecDepth 100000 in
set_option maxHeartbeats 4000000 in
theorem setB_apn (w : World) (h : Nat) (done : List SetM) (s : SetM) (hs : s.name = n_adjust_pure_negative) (hq : BQ w h done) : Calls Tryz.prog 86 #[.pointer (some ⟨h + 5, 0, none⟩), .bool s.val.yes] w (SetB w h (done ++ [s])) := by
  obtain ⟨X, m, n, f, sh, pb, pa, hX, hbx, hr, hpb, hpa⟩ := hq
  obtain ⟨c0, c1, c2, c3, c4, c5, c6, c7, c8, cf, cl⟩ := cells9 hbx
  have hne := Nat.ne_of_lt cl
  have Hs := Lib.hid hs
  have Hpb := Lib.hid hpb
  have Hpa := Lib.hid hpa
  have Hr := Lib.hid hr
  have Hbx := Lib.hid hbx
  have HX := Lib.hid hX
  clear hs hpb hpa hr hbx hX
  go_enter Tryz.func86, Tryz.ntmps86
  go_wp2
  go_ret
  have hr1 := (Hr.out.kept (grownBy_setCell w ⟨h + 5, 7, none⟩ (.pointer (some ⟨w.heap.size, 0, none⟩))) (by simp) HX.out).join (.cells #[.bool s.val.yes] 4)
  have hr2 : BRows ((w.setCell ⟨h + 5, 7, none⟩ (.pointer (some ⟨w.heap.size, 0, none⟩))).alloc (.cells #[.bool s.val.yes] 4)) h (w.heap.size :: X) [m, n, f, sh] [clausesT n_must done, clausesT n_must_not done, clausesT n_filter done, clausesT n_should done] := by simpa using hr1
  have hkeepX : ∀ b ∈ X, b ≠ h + 5 → b < w.heap.size → ((w.setCell ⟨h + 5, 7, none⟩ (.pointer (some ⟨w.heap.size, 0, none⟩))).alloc (.cells #[.bool s.val.yes] 4)).heap[b]? = w.heap[b]? := fun b _ hne hlt =>
    (heap_alloc_old _ _ (by simpa using hlt)).trans (heap_setCell_other _ _ _ _ (by simpa using hne))
  refine ⟨by simp, ⟨w.heap.size :: X, m, n, f, sh, pb, (some ⟨w.heap.size, 0, none⟩), by simp [HX.out], ?_, ?_, by rw [lastOf_other (by rw [Hs.out]; decide)]; exact Hpb.out.keep (fun _ h => by simp [h]) hkeepX, by rw [lastOf_snoc, if_pos Hs.out]; exact ⟨w.heap.size, rfl, by simp, by omega, ptr_new _ _ _ _ _⟩⟩, ((Below.refl _ _).setCell (by simp) _).alloc (by simp; omega) _⟩
  · rw [heap_alloc_old _ _ (by simpa using cl), set9 Hbx.out, msm_other (by rw [Hs.out]; decide) (by rw [Hs.out]; decide), textLast_other (by rw [Hs.out]; decide)]; rfl
  · rw [clausesT_other (show s.name ≠ n_must by rw [Hs.out]; decide), clausesT_other (show s.name ≠ n_must_not by rw [Hs.out]; decide), clausesT_other (show s.name ≠ n_filter by rw [Hs.out]; decide), clausesT_other (show s.name ≠ n_should by rw [Hs.out]; decide)]
    exact hr2

set_option maxRecDepth 100000 in
set_option maxHeartbeats 4000000 in
theorem setB_name (w : World) (h : Nat) (done : List SetM) (s : SetM) (hs : s.name = n__name) (hq : BQ w h done) : Calls Tryz.prog 90 #[.pointer (some ⟨h + 5, 0, none⟩), .string s.val.text] w (SetB w h (done ++ [s])) := by
  obtain ⟨X, m, n, f, sh, pb, pa, hX, hbx, hr, hpb, hpa⟩ := hq
  obtain ⟨c0, c1, c2, c3, c4, c5, c6, c7, c8, cf, cl⟩ := cells9 hbx
  have hne := Nat.ne_of_lt cl
  have Hs := Lib.hid hs
  have Hpb := Lib.hid hpb
  have Hpa := Lib.hid hpa
  have Hr := Lib.hid hr
  have Hbx := Lib.hid hbx
  have HX := Lib.hid hX
  clear hs hpb hpa hr hbx hX
  go_enter Tryz.func90, Tryz.ntmps90
  go_wp2
  have hold : ∀ b, b < w.heap.size → w.heap[b]? = w.heap[b]? := fun _ _ => rfl
  have hbelW : Below (h + 1) w w := Below.refl _ _
  have HrW := Hr.out
  go_ret
  have hr2 := HrW.kept (grownBy_setCell w ⟨h + 5, 8, none⟩ (.string s.val.text)) (by simp) HX.out
  have hkeepX : ∀ b ∈ X, b ≠ h + 5 → b < w.heap.size → (w.setCell ⟨h + 5, 8, none⟩ (.string s.val.text)).heap[b]? = w.heap[b]? := fun b _ hne hlt =>
    (heap_setCell_other _ _ _ _ (by simpa using hne)).trans (hold b hlt)
  refine ⟨by simp, ⟨X, m, n, f, sh, pb, pa, HX.out, ?_, ?_, by rw [lastOf_other (by rw [Hs.out]; decide)]; exact Hpb.out.keep (fun _ h => h) hkeepX, by rw [lastOf_other (by rw [Hs.out]; decide)]; exact Hpa.out.keep (fun _ h => h) hkeepX⟩, hbelW.setCell (by simp) _⟩
  · rw [set9 ((hold _ cl).trans Hbx.out), msm_other (by rw [Hs.out]; decide) (by rw [Hs.out]; decide), textLast_this Hs.out]; rfl
  · rw [clausesT_other (show s.name ≠ n_must by rw [Hs.out]; decide), clausesT_other (show s.name ≠ n_must_not by rw [Hs.out]; decide), clausesT_other (show s.name ≠ n_filter by rw [Hs.out]; decide), clausesT_other (show s.name ≠ n_should by rw [Hs.out]; decide)]
    exact hr2

set_option maxRecDepth 100000 in
set_option maxHeartbeats 4000000 in
theorem setB_msm (w : World) (h : Nat) (done : List SetM) (s : SetM) (hs : s.name = n_minimum_should_match) (hq : BQ w h done) : Calls Tryz.prog 88 #[.pointer (some ⟨h + 5, 0, none⟩), .string s.val.text] w (SetB w h (done ++ [s])) := by
  obtain ⟨X, m, n, f, sh, pb, pa, hX, hbx, hr, hpb, hpa⟩ := hq
  obtain ⟨c0, c1, c2, c3, c4, c5, c6, c7, c8, cf, cl⟩ := cells9 hbx
  have hne := Nat.ne_of_lt cl
  have Hs := Lib.hid hs
  have Hpb := Lib.hid hpb
  have Hpa := Lib.hid hpa
  have Hr := Lib.hid hr
  have Hbx := Lib.hid hbx
  have HX := Lib.hid hX
  clear hs hpb hpa hr hbx hX
  go_enter Tryz.func88, Tryz.ntmps88
  go_wp2
  have hold : ∀ b, b < w.heap.size → w.heap[b]? = w.heap[b]? := fun _ _ => rfl
  have hbelW : Below (h + 1) w w := Below.refl _ _
  have HrW := Hr.out
  go_ret
  have hr2 := HrW.kept (grownBy_setCell w ⟨h + 5, 6, none⟩ (.string s.val.text)) (by simp) HX.out
  have hkeepX : ∀ b ∈ X, b ≠ h + 5 → b < w.heap.size → (w.setCell ⟨h + 5, 6, none⟩ (.string s.val.text)).heap[b]? = w.heap[b]? := fun b _ hne hlt =>
    (heap_setCell_other _ _ _ _ (by simpa using hne)).trans (hold b hlt)
  refine ⟨by simp, ⟨X, m, n, f, sh, pb, pa, HX.out, ?_, ?_, by rw [lastOf_other (by rw [Hs.out]; decide)]; exact Hpb.out.keep (fun _ h => h) hkeepX, by rw [lastOf_other (by rw [Hs.out]; decide)]; exact Hpa.out.keep (fun _ h => h) hkeepX⟩, hbelW.setCell (by simp) _⟩
  · rw [set9 ((hold _ cl).trans Hbx.out), show msmOf (done ++ [s]) = s.val.text by rw [msmOf_snoc]; unfold msmStep; rw [if_pos Hs.out], textLast_other (by rw [Hs.out]; decide)]; rfl
  · rw [clausesT_other (show s.name ≠ n_must by rw [Hs.out]; decide), clausesT_other (show s.name ≠ n_must_not by rw [Hs.out]; decide), clausesT_other (show s.name ≠ n_filter by rw [Hs.out]; decide), clausesT_other (show s.name ≠ n_should by rw [Hs.out]; decide)]
    exact hr2

set_option maxRecDepth 100000 in
set_option maxHeartbeats 4000000 in
theorem setB_mnsm (w : World) (h : Nat) (done : List SetM) (s : SetM) (hs : s.name = n_minimum_number_should_match) (hq : BQ w h done) (nn : Nat) (hn : nn ≤ 1000000) (hx : floatToIntVal .f64 s.val.num .i64 = some (nn : Int)) (htab : Lib.TabIs Tryz.prog w "internal/strconv.uint64pow10" .u64 Lib.pow10Tab) : Calls Tryz.prog 89 #[.pointer (some ⟨h + 5, 0, none⟩), .int .i64 nn] w (SetB w h (done ++ [s])) := by
  obtain ⟨X, m, n, f, sh, pb, pa, hX, hbx, hr, hpb, hpa⟩ := hq
  obtain ⟨c0, c1, c2, c3, c4, c5, c6, c7, c8, cf, cl⟩ := cells9 hbx
  have hitoa : itoaB s.val.num = ⟨(Lib.itoa (nn : Int)).toArray⟩ := by unfold itoaB toI; rw [hx]; rfl
  have hc : Calls Tryz.prog 116 #[.int .i64 nn] w fun e w2 => e = .returned (.string (itoaB s.val.num)) ∧ Below w.heap.size w w2 := by
    rw [hitoa]
    exact (Tryz.strconv_Itoa nn (by omega) (by omega) w htab).mono fun e w2 ⟨he, q, os, hw⟩ => ⟨he, by rw [hw]; exact below_grow _ _ _⟩
  have Hc := Lib.hid hc; clear hc hitoa hx htab
  have hne := Nat.ne_of_lt cl
  have Hs := Lib.hid hs
  have Hpb := Lib.hid hpb
  have Hpa := Lib.hid hpa
  have Hr := Lib.hid hr
  have Hbx := Lib.hid hbx
  have HX := Lib.hid hX
  clear hs hpb hpa hr hbx hX
  go_enter Tryz.func89, Tryz.ntmps89
  go_wp2_with (go_at_call 116; refine Hc.out.mono ?_; rintro e w2 ⟨rfl, hb2⟩; have d6 := (hb2.cell (p := ⟨h + 5, 6, none⟩) cl).trans c6; have d6f := (hb2.frozen (p := ⟨h + 5, 6, none⟩) cl).trans (cf 6))
  have hold : ∀ b, b < w.heap.size → w2.heap[b]? = w.heap[b]? := fun b hb => hb2.block b hb
  have hbelW : Below (h + 1) w w2 := hb2.mono (by omega)
  have HrW := Hr.out.below hb2
  go_ret
  have hr2 := HrW.kept (grownBy_setCell w2 ⟨h + 5, 6, none⟩ (.string (itoaB s.val.num))) (by simp) HX.out
  have hkeepX : ∀ b ∈ X, b ≠ h + 5 → b < w.heap.size → (w2.setCell ⟨h + 5, 6, none⟩ (.string (itoaB s.val.num))).heap[b]? = w.heap[b]? := fun b _ hne hlt =>
    (heap_setCell_other _ _ _ _ (by simpa using hne)).trans (hold b hlt)
  refine ⟨by simp, ⟨X, m, n, f, sh, pb, pa, HX.out, ?_, ?_, by rw [lastOf_other (by rw [Hs.out]; decide)]; exact Hpb.out.keep (fun _ h => h) hkeepX, by rw [lastOf_other (by rw [Hs.out]; decide)]; exact Hpa.out.keep (fun _ h => h) hkeepX⟩, hbelW.setCell (by simp) _⟩
  · rw [set9 ((hold _ cl).trans Hbx.out), show msmOf (done ++ [s]) = itoaB s.val.num by rw [msmOf_snoc]; unfold msmStep; rw [if_neg (by rw [Hs.out]; decide), if_pos Hs.out], textLast_other (by rw [Hs.out]; decide)]; rfl
  · rw [clausesT_other (show s.name ≠ n_must by rw [Hs.out]; decide), clausesT_other (show s.name ≠ n_must_not by rw [Hs.out]; decide), clausesT_other (show s.name ≠ n_filter by rw [Hs.out]; decide), clausesT_other (show s.name ≠ n_should by rw [Hs.out]; decide)]
    exact hr2

end Go.Proofs.YtbcnhcpgloncdaaGreatDoor
