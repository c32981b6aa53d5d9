/- Plain facts that join the walks of the law of function_score queries. -/
import Derived.Test.YtbcnhcpgloncdaaGreatDoorQKb
import Derived.Test.YtbcnhcpgloncdaaGreatDoorQKc
import Derived.Test.YtbcnhcpgloncdaaGreatDoorQJx
import Derived.Test.YtbcnhcpgloncdaaGreatDoorQJy
import Derived.Test.YtbcnhcpgloncdaaGreatDoorQJm
import Derived.Test.YtbcnhcpgloncdaaGreatDoorQIt
namespace Go.Proofs.YtbcnhcpgloncdaaGreatDoor
open Go Go.RowKit Go.BigFrame Go.Maps

theorem TreesAt.mono {w : World} {S S' : Nat → Prop} {a : Option Addr} {ts : List Tr} (h : TreesAt w S a ts) (hS : ∀ b, b < w.heap.size → S b → S' b) : TreesAt w S' a ts := by
  obtain ⟨vs, h1, h2⟩ := h
  exact ⟨vs, h1.mono (fun _ => by simp) hS, fun i s hs => (h2 i s hs).mono hS⟩
theorem ScoresAt.mono {w : World} {S S' : Nat → Prop} {a : Option Addr} {ss : List ScoreM} (h : ScoresAt w S a ss) (hS : ∀ b, b < w.heap.size → S b → S' b) : ScoresAt w S' a ss := by
  obtain ⟨vs, h1, h2⟩ := h
  exact ⟨vs, h1.mono (fun _ => by simp [ScoreM.cells]) hS, fun i s hs => ⟨(h2 i s hs).1.mono hS, (h2 i s hs).2.mono hS⟩⟩

theorem mem_mapL {ps : List SetM} {p : ByteArray × Tr} (h : p ∈ mapL ps) : ∃ s ∈ ps, p = (s.name, s.val) := by
  induction ps using snoc_ind with
  | h0 => simp [mapL] at h
  | h1 l a ih =>
    rw [mapL_snoc] at h
    rcases mem_with h with e | h
    · exact ⟨a, by simp, e⟩
    · obtain ⟨s, hs, e⟩ := ih h
      exact ⟨s, by simp [hs], e⟩
theorem mem_params {rs : List (ByteArray × ByteArray)} {sets : List SetM} {s : SetM} (h : s ∈ paramsL rs sets) : ∃ r ∈ rs, s.name = r.1 ∧ lastOf sets r.1 = some s.val := by
  unfold paramsL at h
  obtain ⟨r, hr, hs⟩ := List.mem_flatMap.1 h
  unfold paramOf at hs
  split at hs
  · rename_i v hv
    split at hs
    · simp only [List.mem_singleton] at hs
      subst hs
      exact ⟨r, hr, rfl, hv⟩
    · cases hs
  · cases hs
theorem fold_ok {s : ScoreM} (ht : tailB .factor s = true) (hf : s.field.size ≤ 1048576) (hx : ∀ x ∈ s.sets, x.val.text.size ≤ 1048576) :
    ∀ p ∈ mapL (ownP .factor s ++ [⟨n_field, textT s.field⟩]), p.2.kind ≠ 5 ∧ p.1.size ≤ 9223372036854775807 ∧ p.2.text.size ≤ 16777216 := by
  intro p hp
  obtain ⟨x, hxm, rfl⟩ := mem_mapL hp
  rcases List.mem_append.1 hxm with h | h
  · unfold ownP pickL at h
    rw [List.mem_filter] at h
    obtain ⟨r, hr, hn, hv⟩ := mem_params h.1
    obtain ⟨y, hy, hyn, hyv⟩ := lastOf_of hv
    have hfit := (fit_factor ht).1 y hy
    have htx := hx y hy
    rw [hyv] at htx
    have hr' : r ∈ rsFactor := hr
    have hcases : r = (n_factor, kN) ∨ r = (n_missing, kN) ∨ r = (n_modifier, kT) ∨ r = (n_weight, kN) := by
      have : rsFactor = [(n_factor, kN), (n_missing, kN), (n_modifier, kT), (n_weight, kN)] := rfl
      rw [this] at hr'
      simpa using hr'
    have hk : x.val.kind ≠ 5 ∧ x.name.size ≤ 9223372036854775807 := by
      rw [hn, ← hyv]
      rcases hcases with e | e | e | e
      · subst e
        have := (fit_n_parts (fitR_at hfit hyn (kd := kN) (by decide +kernel))).1
        exact ⟨by omega, by decide⟩
      · subst e
        have := (fit_n_parts (fitR_at hfit hyn (kd := kN) (by decide +kernel))).1
        exact ⟨by omega, by decide⟩
      · subst e
        have := (fit_t_parts (fitR_at hfit hyn (kd := kT) (by decide +kernel))).1
        exact ⟨by omega, by decide⟩
      · subst e
        have := (fit_n_parts (fitR_at hfit hyn (kd := kN) (by decide +kernel))).1
        exact ⟨by omega, by decide⟩
    exact ⟨hk.1, hk.2, by show x.val.text.size ≤ 16777216; omega⟩
  · simp only [List.mem_singleton] at h
    subst h
    exact ⟨by simp [textT, Tr.kind], by show n_field.size ≤ 9223372036854775807; decide, by show s.field.size ≤ 16777216; omega⟩

theorem scoreT_eq (qs : List Tr) (fs : List ScoreM) (sets : List SetM) : scoreT qs fs sets = mapT [n_function_score] [mapE (mapTE (entsTo (scoreEnts qs fs sets) 8))] := by
  unfold scoreT
  rw [mapTree_eq (entsTo (scoreEnts qs fs sets) 8)]
  unfold mapTree
  simp only [List.map_cons, List.map_nil, sort_one]
  unfold lookT
  simp
theorem scoreTE_length (qs : List Tr) (fs : List ScoreM) (sets : List SetM) : (mapTE (entsTo (scoreEnts qs fs sets) 8)).length ≤ 8 := by
  rw [mapTE_length]
  exact (score_parts qs fs sets).length
theorem beside_list (G : Tr) (e1 : G.kind = 4) (e2 : G.kids ≠ []) : besideKid [n_functions] n_functions G = some G := by
  unfold besideKid
  rw [show memB n_functions [n_functions] = true by decide +kernel]
  simp [e1, e2]
theorem fsE_functions {qs : List Tr} {fs : List ScoreM} {sets : List SetM} (h : fs ≠ []) : lookE (fsE qs fs sets) n_functions = some (listT (fs.map funT)) := by
  rw [lookE_fsE, (score_parts qs fs sets).at keysFS_nodup 2 _ _ rfl rfl]
  cases fs with
  | nil => exact absurd rfl h
  | cons s r =>
    simp only [funsEnt, lookE_cons, if_true, Option.bind_some]
    refine beside_list _ rfl ?_
    rw [listT_kids]
    simp
theorem fsE_names (qs : List Tr) (fs : List ScoreM) (sets : List SetM) : ∀ p ∈ fsE qs fs sets, memB p.1 namesS = false := by
  intro p hp
  have hk : p.1 ∈ keysFS := by
    by_cases h : p.1 ∈ keysFS
    · exact h
    · exfalso
      have h0 : lookE (fsE qs fs sets) p.1 = none := by
        rw [lookE_fsE, (score_parts qs fs sets).none h]
        rfl
      unfold lookE at h0
      rw [Option.map_eq_none_iff, List.find?_eq_none] at h0
      exact h0 p hp (by simp)
  have hall : keysFS.all (fun k => !memB k namesS) = true := by decide +kernel
  have := List.all_eq_true.1 hall _ hk
  simpa using this
end Go.Proofs.YtbcnhcpgloncdaaGreatDoor
/- The law 'FnFunctionScore' says yes of all queries, score functions and settings, where they are not too many. -/
namespace Go.Proofs.YtbcnhcpgloncdaaGreatDoor
open Go Go.RowKit Go.BigFrame Go.Maps

theorem fits_FS (sets : List SetM) (S : Nat → Prop) (a : Option Addr) (c : Nat) (w : World) (hsets : SetsAt w S a sets) (hl : sets.length ≤ 9223372036854775807) :
    Calls Tryz.prog 8 #[.string ⟨#[70, 117, 110, 99, 116, 105, 111, 110, 83, 99, 111, 114, 101]⟩, .slice a sets.length c] w fun e w' => e = .returned (.bool (sets.all (fitR rsFunctionScore))) ∧ Below w.heap.size w w' :=
  fits_any _ rsFunctionScore (fitR rsFunctionScore) sets S a c w hsets hl kindIn_FunctionScore (fun s _ v S w h => fitK_any (kindOf rsFunctionScore s.name) (kindOf_mem rsFunctionScore _ (by decide +kernel) (by simp) s.name) s.val v S w h)

def condB (qs : List Tr) (fs : List ScoreM) (sets : List SetM) : Bool := decide (0 < fs.length) && decide (qs.length ≤ 1) && (decide (qs.length = 0) || queriesT qs) && fs.all scoreP && sets.all (fitR rsFunctionScore)

/-- What is compared, where all fits. -/
theorem law_parts (qs : List Tr) (fs : List ScoreM) (sets : List SetM) (S : Nat → Prop) (qa fa a : Option Addr) (qc fc c : Nat) (w : World) (n r : Nat) (hqs : TreesAt w S qa qs) (hfs : ScoresAt w S fa fs) (hsets : SetsAt w S a sets)
    (hn : n ≤ 1048576) (hr : r ≤ 9223372036854775807) (hfl : fs.length ≤ 1048576) (hl : sets.length ≤ 1048576) (hqok : ∀ t ∈ qs, OkT n r t) (hfok : ScoresOK n r fs) (hsok : SetsOK n r sets)
    (htab : ∀ wx, Below w.heap.size w wx → UTabs wx) (hc : condB qs fs sets = true) :
    (∀ wx, Below w.heap.size w wx → Calls Tryz.prog 9 #[.slice qa qs.length qc, .slice fa fs.length fc, .slice a sets.length c] wx (ToldPost wx (scoreT qs fs sets))) ∧
    (∀ wx, Below w.heap.size w wx → Calls Tryz.prog 12 #[.slice qa qs.length qc, .slice fa fs.length fc, .slice a sets.length c] wx (TreeA wx (besideT n_function_score (fsPairs qs fs sets)))) ∧
    (∀ wx (v : TV), Below w.heap.size w wx → RepT wx (fun _ => True) v (scoreT qs fs sets) → Calls Tryz.prog 11 #[v.val] wx (TreeA wx (fsRead qs fs sets))) ∧
    SameT (fsRead qs fs sets) (besideT n_function_score (fsPairs qs fs sets)) := by
  unfold condB at hc
  simp only [Bool.and_eq_true, decide_eq_true_eq, Bool.or_eq_true] at hc
  obtain ⟨⟨⟨⟨h0, h1⟩, h2⟩, h3⟩, h4⟩ := hc
  have hne : fs ≠ [] := by intro e; rw [e] at h0; simp at h0
  have hq : ∀ t ∈ qs, queryT t = true := by
    rcases h2 with h | h
    · intro t ht
      rw [List.eq_nil_of_length_eq_zero h] at ht
      cases ht
    · unfold queriesT at h
      rw [Bool.and_eq_true] at h
      exact List.all_eq_true.1 h.1
  have hqp : ∀ t ∈ qs, OkT n r t ∧ properT 100 t = true := fun t ht => ⟨hqok t ht, by have := hq t ht; unfold queryT at this; rw [Bool.and_eq_true] at this; exact this.2⟩
  have hsc : ∀ s ∈ fs, s.kind = (SK.of s.kind).num ∧ scoreFitB (SK.of s.kind) s = true := by
    intro s hs
    obtain ⟨⟨k, hk⟩, h⟩ := scoreP_fit (List.all_eq_true.1 h3 s hs)
    exact ⟨by rw [hk, SK.of_num], h⟩
  have hfit : ∀ s ∈ sets, fitR rsFunctionScore s = true := List.all_eq_true.1 h4
  have htx : ∀ s ∈ fs, ∀ x ∈ s.sets, x.val.text.size ≤ 1048576 := by
    intro s hs x hx
    have := ((hfok s hs).2.2.2.1 x hx).2.2.size
    omega
  have hfd : ∀ s ∈ fs, s.field.size ≤ 1048576 := fun s hs => by have := (hfok s hs).1; omega
  have hsl : ∀ s ∈ fs, s.sets.length ≤ 1048576 := fun s hs => by have := (hfok s hs).2.1; omega
  have hfq : ∀ s ∈ fs, ∀ t ∈ s.filters, OkT n r t ∧ properT 100 t = true := by
    intro s hs t ht
    refine ⟨(hfok s hs).2.2.2.2 t ht, ?_⟩
    have h := (hsc s hs).2
    unfold scoreFitB at h
    rw [Bool.and_eq_true, Bool.and_eq_true] at h
    have := List.all_eq_true.1 h.1.2 t ht
    unfold queryT at this
    rw [Bool.and_eq_true] at this
    exact this.2
  have hf1 : ∀ s ∈ fs, s.filters.length ≤ 1 := by
    intro s hs
    have h := (hsc s hs).2
    unfold scoreFitB at h
    rw [Bool.and_eq_true, Bool.and_eq_true] at h
    simpa using h.1.1
  have hsrc : ∀ s ∈ fs, SrcOK (SK.of s.kind) s := fun s hs => src_of_fit (hsc s hs).2 (by have := hfd s hs; omega) (htx s hs)
  have hqs' : TreesAt w (fun b => b < w.heap.size) qa qs := hqs.mono (fun _ hb _ => hb)
  have hfs' : ScoresAt w (fun b => b < w.heap.size) fa fs := hfs.mono (fun _ hb _ => hb)
  have hsets' := hsets.lts
  refine ⟨fun wx hb => ?_, fun wx hb => ?_, fun wx v hb hv => ?_, fs_same hq (fun s hs => (hsc s hs).2) hfit⟩
  · exact implScore_any qs fs sets (scoreT qs fs sets) _ qa fa a qc fc c wx (hqs'.keep (Keeps.of_below _ hb)) (hfs'.keep (Keeps.of_below _ hb)) (hsets'.keep (Keeps.of_below _ hb)) (fun b h => Nat.lt_of_lt_of_le h hb.size) h1 hfl hl
      (fun s hs => good_of_fit (hsc s hs).1 (hsc s hs).2 (hsl s hs)) (fun s hs => fitR_name (hfit s hs))
      (fun wr hbr hq => srcScore_any qs fs sets wr _ _ hq n r (by omega) hr hqp hfq hsrc (fun wy hy => htab wy (via hb (via hbr hy))) hfl (fun s hs => by have := ((hsok s hs).2.2).size; omega))
  · refine specFS_any qs fs sets _ qa fa a qc fc c wx (hqs'.keep (Keeps.of_below _ hb)) (hfs'.keep (Keeps.of_below _ hb)) (hsets'.keep (Keeps.of_below _ hb)) (fun b h => Nat.lt_of_lt_of_le h hb.size) h1 hfl hl ?_
    intro s hs wr v hbr hst hft
    have hbw := via hb hbr
    exact score_any (SK.of s.kind) s (hsc s hs).1 _ v.sa v.fa v.sc v.fc wr hst hft (fun b h => Nat.lt_of_lt_of_le h hbw.size) (hsl s hs) (hf1 s hs) (hfd s hs)
      (fun hk => fold_ok (by have h := (hsc s hs).2; rw [hk] at h; unfold scoreFitB at h; rw [Bool.and_eq_true] at h; exact h.2) (hfd s hs) (htx s hs)) (fun wy hy => htab wy (via hbw hy))
  · rw [scoreT_eq] at hv
    have hrd := readFS_any (mapTE (entsTo (scoreEnts qs fs sets) 8)) (listT (fs.map funT)) v (fun b => b < wx.heap.size) wx hv.lts (fun b h => h) (by have := scoreTE_length qs fs sets; omega) (fsE_functions hne) (by rw [listT_kids, List.length_map]; exact hfl) (fsE_names qs fs sets)
      (fun t ht v' S' wr hv' hS' => by
        rw [listT_kids] at ht
        obtain ⟨s, hs, rfl⟩ := List.mem_map.1 ht
        exact noNulls_any (item_clean (SK.of s.kind) s (hsrc s hs) n r (by omega) (hfq s hs)) v' S' wr hv' hS')
      (fun t ht v' S' wr hv' hS' hb' => by
        rw [listT_kids] at ht
        obtain ⟨s, hs, rfl⟩ := List.mem_map.1 ht
        have e : funT s = mapE (mapTE (itemEnts (SK.of s.kind) s)) := mapTree_eq _
        rw [e, prs_mapE]
        rw [e] at hv'
        exact scored_any _ (by rw [mapTE_length]; have := item_length (SK.of s.kind) s; omega) (fun f hf => factor_read (hfd s hs) (htx s hs) hf) v' S' wr hv' hS' (fun wy hy => htab wy (via hb (via hb' hy))))
    exact hrd

set_option maxRecDepth 100000 in
set_option maxHeartbeats 16000000 in
theorem fnFS_any (qs : List Tr) (fs : List ScoreM) (sets : List SetM) (S : Nat → Prop) (qa fa a : Option Addr) (qc fc c : Nat) (w : World) (n r : Nat) (hqs : TreesAt w S qa qs) (hfs : ScoresAt w S fa fs) (hsets : SetsAt w S a sets)
    (hn : n ≤ 1048576) (hr : r ≤ 9223372036854775807) (hql : qs.length ≤ 1048576) (hfl : fs.length ≤ 1048576) (hl : sets.length ≤ 1048576) (hqok : ∀ t ∈ qs, OkT n r t) (hfok : ScoresOK n r fs) (hsok : SetsOK n r sets)
    (htab : ∀ wx, Below w.heap.size w wx → UTabs wx) :
    Calls Tryz.prog 3 #[.slice qa qs.length qc, .slice fa fs.length fc, .slice a sets.length c] w fun e w' => e = .returned (.bool true) ∧ Below w.heap.size w w' := by
  have hparts := law_parts qs fs sets S qa fa a qc fc c w n r hqs hfs hsets hn hr hfl hl hqok hfok hsok htab
  have h6 : ∀ wx, Below w.heap.size w wx → Calls Tryz.prog 6 #[.slice qa qs.length qc] wx fun e w' => e = .returned (.bool (queriesT qs)) ∧ Below wx.heap.size wx w' := fun wx hb => queries_any qs S qa qc wx (hqs.keep (Keeps.of_below _ hb)) (by omega)
  have h7 : ∀ wx, Below w.heap.size w wx → Calls Tryz.prog 7 #[.slice fa fs.length fc] wx fun e w' => e = .returned (.bool (fs.all scoreP)) ∧ Below wx.heap.size wx w' := fun wx hb => scoresFit_any fs S fa fc wx (hfs.keep (Keeps.of_below _ hb)) hfl (fun s hs => by have h := hfok s hs; exact ⟨by have := h.2.1; omega, by have := h.2.2.1; omega, by have := h.1; omega⟩)
  have h8 : ∀ wx, Below w.heap.size w wx → Calls Tryz.prog 8 #[.string ⟨#[70, 117, 110, 99, 116, 105, 111, 110, 83, 99, 111, 114, 101]⟩, .slice a sets.length c] wx fun e w' => e = .returned (.bool (sets.all (fitR rsFunctionScore))) ∧ Below wx.heap.size wx w' := fun wx hb => fits_FS sets S a c wx (hsets.keep (Keeps.of_below _ hb)) (by omega)
  obtain ⟨Q, hQ⟩ : ∃ b, b = queriesT qs := ⟨_, rfl⟩
  obtain ⟨F, hF⟩ : ∃ b, b = fs.all scoreP := ⟨_, rfl⟩
  obtain ⟨T, hT⟩ : ∃ b, b = sets.all (fitR rsFunctionScore) := ⟨_, rfl⟩
  obtain ⟨cb, hcb⟩ : ∃ b, b = condB qs fs sets := ⟨_, rfl⟩
  have hcb' : cb = (decide (0 < fs.length) && decide (qs.length ≤ 1) && (decide (qs.length = 0) || Q) && F && T) := by rw [hcb, hQ, hF, hT]; rfl
  rw [← hQ] at h6
  rw [← hF] at h7
  rw [← hT] at h8
  rw [← hcb] at hparts
  obtain ⟨T0, hT0⟩ : ∃ t, t = scoreT qs fs sets := ⟨_, rfl⟩
  obtain ⟨T1, hT1⟩ : ∃ t, t = fsRead qs fs sets := ⟨_, rfl⟩
  obtain ⟨T2, hT2⟩ : ∃ t, t = besideT n_function_score (fsPairs qs fs sets) := ⟨_, rfl⟩
  rw [← hT0, ← hT1, ← hT2] at hparts
  obtain ⟨nq, hnq⟩ : ∃ n, n = qs.length := ⟨_, rfl⟩
  obtain ⟨nf, hnf⟩ : ∃ n, n = fs.length := ⟨_, rfl⟩
  obtain ⟨ns, hns⟩ : ∃ n, n = sets.length := ⟨_, rfl⟩
  rw [← hnq] at h6 hparts hcb' hql ⊢
  rw [← hnf] at h7 hparts hcb' hfl ⊢
  rw [← hns] at h8 hparts hl ⊢
  clear hQ hF hT hcb hT0 hT1 hT2 hnq hnf hns hqs hfs hsets hqok hfok hsok htab
  have Hcb := Lib.hid hcb'; clear hcb'
  have H6 := Lib.hid h6; clear h6
  have H7 := Lib.hid h7; clear h7
  have H8 := Lib.hid h8; clear h8
  have Hparts := Lib.hid hparts; clear hparts
  go_enter Tryz.func3, Tryz.ntmps3
  go_upto_region 3 with fail
  go_cut [47] from 22 to 46 (fun c wx => c = .bool (!cb) ∧ Below w.heap.size w wx)
  case first =>
    by_cases hf0 : nf = 0
    · have HC : Hid (cb = false) := Lib.hid (by rw [Hcb.out]; simp [hf0])
      subst hf0
      clear Hcb
      go_wp2_with fail
      go_meet
      case rel => exact ⟨by rw [HC.out]; rfl, Below.refl _ _⟩
    · have hf1 : 0 < nf := by omega
      have hf1' : (0 : Int) < (nf : Int) := by omega
      by_cases hq1 : nq ≤ 1
      · have hq1' : (nq : Int) ≤ 1 := by omega
        by_cases hq0 : nq = 0
        · have HC : Hid (cb = (F && T)) := Lib.hid (by rw [Hcb.out]; simp [hf1, hq0])
          subst hq0
          clear Hcb
          cases F <;> cases T
          all_goals (
            go_wp2_with (first
              | (go_at_call 7; (with_reducible refine (H7.out _ (Below.refl _ _)).mono ?_); rintro e w5 ⟨rfl, hb5⟩)
              | (go_at_call 8; (with_reducible refine (H8.out _ hb5).mono ?_); rintro e w6 ⟨rfl, hb6⟩))
            go_meet
            case rel => first
              | exact ⟨by rw [HC.out]; rfl, via hb5 hb6⟩
              | exact ⟨by rw [HC.out]; rfl, hb5⟩)
        · have hq2 : nq = 1 := by omega
          have HC : Hid (cb = (Q && F && T)) := Lib.hid (by rw [Hcb.out]; simp [hf1, hq2])
          subst hq2
          clear Hcb
          cases Q <;> cases F <;> cases T
          all_goals (
            go_wp2_with (first
              | (go_at_call 6; (with_reducible refine (H6.out _ (Below.refl _ _)).mono ?_); rintro e w4 ⟨rfl, hb4⟩)
              | (go_at_call 7; (with_reducible refine (H7.out _ hb4).mono ?_); rintro e w5 ⟨rfl, hb5⟩; have hb45 := via hb4 hb5)
              | (go_at_call 8; (with_reducible refine (H8.out _ hb45).mono ?_); rintro e w6 ⟨rfl, hb6⟩))
            go_meet
            case rel => first
              | exact ⟨by rw [HC.out]; rfl, via hb45 hb6⟩
              | exact ⟨by rw [HC.out]; rfl, hb45⟩
              | exact ⟨by rw [HC.out]; rfl, hb4⟩)
      · have HC : Hid (cb = false) := Lib.hid (by rw [Hcb.out]; simp [hq1])
        have hq1' : ¬ (nq : Int) ≤ 1 := by omega
        clear Hcb
        go_wp2_with fail
        go_meet
        case rel => exact ⟨by rw [HC.out]; rfl, Below.refl _ _⟩
  case rest =>
  clear Hcb H6 H7 H8
  obtain ⟨rfl, hb0⟩ := hcut
  cases cb with
  | false =>
    go_wp2_with fail
    go_ret
    exact ⟨by simp, hb0⟩
  | true =>
    obtain ⟨h9, h12, h11, hsame⟩ := Hparts.out rfl
    have H9 := Lib.hid h9; clear h9
    have H12 := Lib.hid h12; clear h12
    have H11 := Lib.hid h11; clear h11
    have Hsame := Lib.hid (fun v v' S S' w => same_any hsame v v' S S' w); clear hsame Hparts
    go_upto_region 6 with (go_at_call 9; (with_reducible refine (H9.out _ hb0).mono ?_); rintro e w3 ⟨⟨kd, tx, nm, ys, ka, kn, kc, ca, cn, cc⟩, rfl, hv, hb3⟩)
    have hba : Below w3.heap.size w3 (w3.alloc (.cells #[.int .i64 kd, .string tx, .float .f64 nm, .bool ys, .slice ka kn kc, .slice ca cn cc] 31)) := (Below.refl _ _).alloc (Nat.le_refl _) _
    have hv4 := hv.all.on hba
    have Hbel := Lib.hid (via (via hb0 hb3) hba)
    have Hv4 := Lib.hid hv4
    clear hv hv4 hba hb3
    go_wp2_with (first
      | (go_at_call 11; (with_reducible refine (H11.out _ ⟨kd, tx, nm, ys, ka, kn, kc, ca, cn, cc⟩ Hbel.out Hv4.out).mono ?_); rintro e w5 ⟨⟨kd5, tx5, nm5, ys5, ka5, kn5, kc5, ca5, cn5, cc5⟩, rfl, hv5, hb5⟩)
      | (go_at_call 12; (with_reducible refine (H12.out _ (via Hbel.out hb5)).mono ?_); rintro e w6 ⟨⟨kd6, tx6, nm6, ys6, ka6, kn6, kc6, ca6, cn6, cc6⟩, rfl, hv6, hb6⟩)
      | (go_at_call 10; refine (Hsame.out ⟨kd5, tx5, nm5, ys5, ka5, kn5, kc5, ca5, cn5, cc5⟩ ⟨kd6, tx6, nm6, ys6, ka6, kn6, kc6, ca6, cn6, cc6⟩ _ _ _ (hv5.on hb6) hv6).mono ?_; rintro e w7 ⟨rfl, hb7⟩))
    go_ret
    exact ⟨rfl, via (via (via Hbel.out hb5) hb6) hb7⟩
end Go.Proofs.YtbcnhcpgloncdaaGreatDoor
