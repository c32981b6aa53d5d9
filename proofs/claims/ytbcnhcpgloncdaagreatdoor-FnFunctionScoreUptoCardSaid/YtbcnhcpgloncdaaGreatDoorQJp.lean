/- 'scored': the factor of a score function has small letters. -/
import Derived.Test.YtbcnhcpgloncdaaGreatDoorQJo
namespace Go.Proofs.YtbcnhcpgloncdaaGreatDoor
open Go Go.RowKit Go.BigFrame Go.Maps

def n_fvf : ByteArray := ⟨#[102, 105, 101, 108, 100, 95, 118, 97, 108, 117, 101, 95, 102, 97, 99, 116, 111, 114]⟩
/-- What 'scored' gives. -/
def scoredE (es : List (ByteArray × Tr)) : List (ByteArray × Tr) := match lookE es n_fvf with | some f => withE n_fvf (mapE (foldE (prs f))) false es | none => es

set_option maxRecDepth 100000 in
set_option maxHeartbeats 8000000 in
theorem scored_any (es : List (ByteArray × Tr)) (hl : es.length ≤ 100000000) (hf : ∀ f, lookE es n_fvf = some f → f = mapE (prs f) ∧ Asc (prs f) ∧ (prs f).length ≤ 100000000 ∧ (∀ p ∈ prs f, p.2.kind ≠ 5) ∧ (∀ p ∈ prs f, p.1.size ≤ 9223372036854775807) ∧ ∀ p ∈ prs f, p.2.text.size ≤ 16777216)
    (v : TV) (S : Nat → Prop) (w : World) (hv : RepT w S v (mapE es)) (hS : ∀ b, S b → b < w.heap.size) (htab : ∀ wx, Below w.heap.size w wx → UTabs wx) :
    Calls Tryz.prog 48 #[v.val] w (TreeS w S (mapE (scoredE es))) := by
  obtain ⟨e1, e2, e3, e4, e5, e6⟩ := hv.eqs
  clear e2 e3 e4
  obtain ⟨kd, tx, nm, ys, ka, kn, kc, ca, cn, cc⟩ := v
  simp only at e1 e5 e6
  rw [mapE_keys, List.length_map] at e5
  rw [mapE_kids, List.length_map] at e6
  have e1' : kd = 5 := e1
  subst e1' e5 e6
  clear e1
  have Hv := Lib.hid hv; clear hv
  have hnS : ∀ b, w.heap.size ≤ b → ¬ S b := fun b hb h => by have := hS b h; omega
  have HnS := Lib.hid hnS; clear hnS
  have HS := Lib.hid hS; clear hS
  have Htab := Lib.hid htab; clear htab
  go_enter Tryz.func48, Tryz.ntmps48
  go_upto_region 1 with fail
  have hb0 : Below w.heap.size w ((w.alloc (.cells #[.int .i64 5, .string tx, .float .f64 nm, .bool ys, .slice ka es.length kc, .slice ca es.length cc] 31)).alloc (.cells #[.int .i64 0, .string ⟨#[]⟩, .float .f64 0, .bool false, .slice none 0 0, .slice none 0 0] 31)) := ((Below.refl _ _).alloc (Nat.le_refl _) _).alloc (by simp) _
  have hz0 : Zero6 ((w.alloc (.cells #[.int .i64 5, .string tx, .float .f64 nm, .bool ys, .slice ka es.length kc, .slice ca es.length cc] 31)).alloc (.cells #[.int .i64 0, .string ⟨#[]⟩, .float .f64 0, .bool false, .slice none 0 0, .slice none 0 0] 31)) (w.heap.size + 1) := by
    have := heap_alloc_new (w.alloc (.cells #[.int .i64 5, .string tx, .float .f64 nm, .bool ys, .slice ka es.length kc, .slice ca es.length cc] 31)) (.cells #[.int .i64 0, .string ⟨#[]⟩, .float .f64 0, .bool false, .slice none 0 0, .slice none 0 0] 31)
    rw [World.size_alloc] at this
    exact this
  have hx0 : Box6 ((w.alloc (.cells #[.int .i64 5, .string tx, .float .f64 nm, .bool ys, .slice ka es.length kc, .slice ca es.length cc] 31)).alloc (.cells #[.int .i64 0, .string ⟨#[]⟩, .float .f64 0, .bool false, .slice none 0 0, .slice none 0 0] 31)) w.heap.size (.int .i64 5) (.string tx) (.float .f64 nm) (.bool ys) (.slice ka es.length kc) (.slice ca es.length cc) := Box6.alloc (heap_alloc_new w _)
  have hv0 := Hv.out.keep (Keeps.of_below _ hb0)
  have hs0 : ((w.alloc (.cells #[.int .i64 5, .string tx, .float .f64 nm, .bool ys, .slice ka es.length kc, .slice ca es.length cc] 31)).alloc (.cells #[.int .i64 0, .string ⟨#[]⟩, .float .f64 0, .bool false, .slice none 0 0, .slice none 0 0] 31)).heap.size = w.heap.size + 2 := by simp
  generalize (w.alloc (.cells #[.int .i64 5, .string tx, .float .f64 nm, .bool ys, .slice ka es.length kc, .slice ca es.length cc] 31)).alloc (.cells #[.int .i64 0, .string ⟨#[]⟩, .float .f64 0, .bool false, .slice none 0 0, .slice none 0 0] 31) = w0 at *
  obtain ⟨x0, x1, x2, x3, x4, x5, xf, xl⟩ := hx0.cells
  have hat := at_any (mapE es) ⟨5, tx, nm, ys, ka, es.length, kc, ca, es.length, cc⟩ n_fvf S w0 hv0 rfl (by rw [mapE_keys, mapE_kids, List.length_map, List.length_map])
  rw [prs_mapE] at hat
  have Hat := Lib.hid hat; clear hat
  have Hz0 := Lib.hid hz0; clear hz0
  have Hx0 := Lib.hid hx0; clear hx0
  have Hv0 := Lib.hid hv0; clear hv0 Hv
  have Hb0 := Lib.hid hb0; clear hb0
  go_upto_region 2 with (go_at_call 41; refine Hat.out.mono ?_; rintro e w3 ⟨⟨fk, ft, fm, fy, fka, fkn, fkc, fca, fcn, fcc⟩, rfl, hr3, hb3⟩)
  have hal : Below w3.heap.size w3 (w3.alloc (.cells #[.int .i64 fk, .string ft, .float .f64 fm, .bool fy, .slice fka fkn fkc, .slice fca fcn fcc] 31)) := (Below.refl _ _).alloc (Nat.le_refl _) _
  have hfb : Box6 (w3.alloc (.cells #[.int .i64 fk, .string ft, .float .f64 fm, .bool fy, .slice fka fkn fkc, .slice fca fcn fcc] 31)) w3.heap.size (.int .i64 fk) (.string ft) (.float .f64 fm) (.bool fy) (.slice fka fkn fkc) (.slice fca fcn fcc) := heap_alloc_new w3 _
  have hb5 := via hb3 hal
  have hr5 := hr3.keep (Keeps.of_below _ hal)
  have hsz3 := hb3.size
  rw [hs0] at hsz3
  generalize w3.alloc (.cells #[.int .i64 fk, .string ft, .float .f64 fm, .bool fy, .slice fka fkn fkc, .slice fca fcn fcc] 31) = w5 at *
  obtain ⟨y0, y1, y2, y3, y4, y5, yf, yl⟩ := hfb.cells
  have hx5 := Hx0.out.below hb5
  obtain ⟨m0, m1, m2, m3, m4, m5, mf, ml⟩ := hx5.cells
  have hz5 := Hz0.out.below hb5
  obtain ⟨z0, z1, z2, z3, z4, z5, zf, zl⟩ := hz5.cells
  have Hv5 := Lib.hid (Hv0.out.keep (Keeps.of_below _ hb5))
  have Hz5 := Lib.hid hz5; clear hz5
  have Hx5 := Lib.hid hx5; clear hx5 Hx0 Hz0 Hv0
  have Hb5 := Lib.hid (via Hb0.out hb5); clear hb5 hb3 hal hr3 Hb0
  have Hfb := Lib.hid hfb; clear hfb
  clear x0 x1 x2 x3 x4 x5 xf xl
  have hsc : scoredE es = match lookE es n_fvf with | some f => withE n_fvf (mapE (foldE (prs f))) false es | none => es := rfl
  generalize lookE es n_fvf = lf at *
  cases lf with
  | none =>
    have Hsc := Lib.hid hsc; clear hsc hr5 hf
    go_wp2_with fail
    obtain ⟨p0, p1, p2, p3, p4, p5, _, _⟩ := (Hz5.out.put6 (.int .i64 5) (.string tx) (.float .f64 nm) (.bool ys) (.slice ka es.length kc) (.slice ca es.length cc)).cells
    refine bodyPost_ret (v := .agg #[.int .i64 5, .string tx, .float .f64 nm, .bool ys, .slice ka es.length kc, .slice ca es.length cc]) (by simp [results, Tryz.results48, go_sem, p0, p1, p2, p3, p4, p5]) rfl ?_
    exact ⟨⟨5, tx, nm, ys, ka, es.length, kc, ca, es.length, cc⟩, rfl, by rw [Hsc.out]; exact (Hv5.out.put6 (HnS.out _ (by omega)) _ _ _ _ _ _).mono (fun b _ hb => .inl hb), Below.put6' Hb5.out (by omega) _ _ _ _ _ _⟩
  | some f =>
    have Hsc := Lib.hid hsc; clear hsc
    obtain ⟨f0, f1, f2, f3, f4, f5⟩ := hf f rfl
    simp only [Option.getD_some] at hr5
    rw [f0] at hr5
    have hc112 : ∀ wx, Below w5.heap.size w5 wx → Calls Tryz.prog 112 #[TV.val ⟨fk, ft, fm, fy, fka, fkn, fkc, fca, fcn, fcc⟩] wx fun e w' => ∃ v' : TV, e = .returned v'.val ∧ RepT w' (fun b => S b ∨ w5.heap.size ≤ b) v' (mapE (foldE (prs f))) ∧ Below w5.heap.size w5 w' := by
      intro wx hbx
      have hsx := hbx.size
      have hs5 := Hb5.out.size
      refine (folded_any (prs f) f1 f2 f3 f4 f5 _ S wx (hr5.keep (Keeps.of_below _ hbx)) (fun b hb => by have := HS.out b hb; omega) (fun wy hy => Htab.out _ (via (via Hb5.out hbx) hy))).mono ?_
      rintro e w' ⟨v', rfl, hv', hb'⟩
      exact ⟨v', rfl, hv'.mono (fun b _ hb => by rcases hb with h | h; exact .inl h; exact .inr (by omega)), via hbx hb'⟩
    have hc45 : ∀ (w6 : World) (u : TV), Below w5.heap.size w5 w6 → RepT w6 (fun b => S b ∨ w5.heap.size ≤ b) u (mapE (foldE (prs f))) → ∀ wx, Below w6.heap.size w6 wx → Calls Tryz.prog 45 #[TV.val ⟨5, tx, nm, ys, ka, es.length, kc, ca, es.length, cc⟩, .string ⟨#[102, 105, 101, 108, 100, 95, 118, 97, 108, 117, 101, 95, 102, 97, 99, 116, 111, 114]⟩, u.val] wx fun e w' => ∃ v' : TV, e = .returned v'.val ∧ RepT w' (fun b => S b ∨ w5.heap.size ≤ b) v' (mapE (withE n_fvf (mapE (foldE (prs f))) false es)) ∧ Below w6.heap.size w6 w' := by
      intro w6 u hb6 hu wx hbx
      have hs5 := Hb5.out.size
      have hs6 := hb6.size
      have hsx := hbx.size
      have h1 := ((Hv5.out.mono (S' := fun b => b < wx.heap.size ∧ (S b ∨ w5.heap.size ≤ b)) (fun b hb h => ⟨by omega, .inl h⟩)).keep (Keeps.of_below _ hb6)).keep (Keeps.of_below _ hbx)
      have h2 := (hu.mono (S' := fun b => b < wx.heap.size ∧ (S b ∨ w5.heap.size ≤ b)) (fun b hb h => ⟨by omega, h⟩)).keep (Keeps.of_below _ hbx)
      refine (with_any _ _ n_fvf _ _ _ wx h1 h2 (fun b hb => by omega) (by rw [mapE_keys, mapE_kids, List.length_map, List.length_map]) (by rw [mapE_kids, List.length_map]; omega)).mono ?_
      rintro e w' ⟨v', rfl, hv', hb'⟩
      refine ⟨v', rfl, ?_, via hbx hb'⟩
      have e1 := prs_mapE es
      unfold prs at e1
      rw [e1] at hv'
      exact hv'.mono (fun b _ hb => by rcases hb with hb | hb; exact hb.2; exact .inr (by omega))
    have Hc112 := Lib.hid hc112; clear hc112
    have Hc45 := Lib.hid hc45; clear hc45 hr5 hf f0 f1 f2 f3 f4 f5
    have hs5 := Hb5.out.size
    have hl3 : w3.heap.size < w5.heap.size := (Array.getElem?_eq_some_iff.1 Hfb.out).1
    go_upto_region 3 with fail
    go_region_law (first
      | (go_simp; go_at_call 112; refine (Hc112.out _ (by first | exact Below.refl _ _ | exact (Below.refl _ _).drew)).mono ?_; rintro e w6 ⟨⟨kd6, tx6, nm6, ys6, ka6, kn6, kc6, ca6, cn6, cc6⟩, rfl, hV6, hb6⟩; have hx6 := Hx5.out.below hb6; obtain ⟨u0, u1, u2, u3, u4, u5, uf, ul⟩ := hx6.cells)
      | (go_simp; go_at_call 45; refine (Hc45.out w6 _ hb6 hV6 _ (by first | exact Below.refl _ _ | exact (Below.refl _ _).drew)).mono ?_; rintro e w7 ⟨⟨kind2, text2, num2, yes2, ka2, kn2, kc2, ca2, cn2, cc2⟩, rfl, hV, hb7⟩; have hz7 := (Hz5.out.below hb6).below hb7; obtain ⟨t0, t1, t2, t3, t4, t5, tf, tl⟩ := hz7.cells))
    all_goals (
      have hbc := via hb6 hb7
      have Hbc := Lib.hid hbc
      have HV := Lib.hid hV
      have Hz7 := Lib.hid hz7
      clear hbc hV hz7 hx6 hV6 hb6 hb7
      go_wp2_with fail
      obtain ⟨p0, p1, p2, p3, p4, p5, _, _⟩ := (Hz7.out.put6 (.int .i64 kind2) (.string text2) (.float .f64 num2) (.bool yes2) (.slice ka2 kn2 kc2) (.slice ca2 cn2 cc2)).cells
      refine bodyPost_ret (v := .agg #[.int .i64 kind2, .string text2, .float .f64 num2, .bool yes2, .slice ka2 kn2 kc2, .slice ca2 cn2 cc2]) (by simp [results, Tryz.results48, go_sem, p0, p1, p2, p3, p4, p5]) rfl ?_
      exact ⟨⟨kind2, text2, num2, yes2, ka2, kn2, kc2, ca2, cn2, cc2⟩, rfl, by rw [Hsc.out]; exact (HV.out.put6 (fun h => by rcases h with h | h; exact HnS.out _ (by omega) h; omega) _ _ _ _ _ _).mono (fun b _ hb => by rcases hb with h | h; exact .inl h; exact .inr (by omega)), Below.put6' (via Hb5.out Hbc.out) (by omega) _ _ _ _ _ _⟩)
end Go.Proofs.YtbcnhcpgloncdaaGreatDoor
/- Trees that 'Source' gives hold no nulls. -/
namespace Go.Proofs.YtbcnhcpgloncdaaGreatDoor
open Go Go.RowKit Go.BigFrame Go.Maps

theorem mem_mapTE {ts : List (ByteArray × Tr)} (h : (ts.map (·.1)).Nodup) {p : ByteArray × Tr} (hp : p ∈ mapTE ts) : p ∈ ts := by
  unfold mapTE at hp
  obtain ⟨x, hx, rfl⟩ := List.mem_map.1 hp
  rw [mem_sortKeys] at hx
  obtain ⟨q, hq, rfl⟩ := List.mem_map.1 hx
  rw [lookT_mem h (k := q.1) (t := q.2) hq]
  exact hq
theorem mapTE_length (ts : List (ByteArray × Tr)) : (mapTE ts).length = ts.length := by
  unfold mapTE sortKeys
  simp only [List.length_map, List.length_mergeSort]
/-- A map of clean entries. -/
theorem Clean.tree {ts : List (ByteArray × Tr)} (h : (ts.map (·.1)).Nodup) (hl : ts.length ≤ 100000000) (h0 : ∀ p ∈ ts, p.2.kind ≠ 0) (hc : ∀ p ∈ ts, Clean p.2) : Clean (mapTree ts) := by
  rw [mapTree_eq]
  exact .map _ (asc_mapTE h) (by rw [mapTE_length]; exact hl) (fun p hp => h0 p (mem_mapTE h hp)) (fun p hp => hc p (mem_mapTE h hp))
theorem leafT_kind (t : Tr) : (leafT t).kind ≠ 5 := by
  unfold leafT
  split
  · simp [textT, Tr.kind]
  · split
    · simp [numT, Tr.kind]
    · split <;> simp [yesT, Tr.zero, Tr.kind]
theorem scalar_kind {t : Tr} (h : scalarP t = true) : t.kind ≠ 0 := by
  intro e
  unfold scalarP at h
  simp [e] at h
theorem proper_kind {d : Nat} {t : Tr} (h : properT d t = true) : t.kind ≠ 0 := by
  cases d with
  | zero => exact scalar_kind h
  | succ d =>
    intro e
    unfold properT at h
    rw [if_pos (by omega)] at h
    exact scalar_kind h e
theorem norm_kind {d : Nat} {t : Tr} (h : properT d t = true) : (normT d t).kind = t.kind := by
  have := norm_same d h
  cases this with
  | mk _ _ hk => exact hk
theorem norm_clean (d n r : Nat) (hn : n ≤ 100000000) : ∀ {t : Tr}, OkT n r t → properT d t = true → Clean (normT d t) := by
  induction d with
  | zero => intro t _ _; exact .leaf _ (leafT_kind t)
  | succ d ih =>
    intro t hok h
    by_cases h5 : t.kind = 5
    · obtain ⟨hkids, _, hm⟩ := proper_kids h (.inr h5)
      have hm := hm h5
      have hz : (t.keys.zip (t.kids.map (normT d))).map (·.1) = t.keys := by rw [List.map_fst_zip]; simp [hm.len]
      unfold normT
      rw [if_neg (by omega), if_pos h5]
      have hmem : ∀ p ∈ t.keys.zip (t.kids.map (normT d)), ∃ k ∈ t.kids, p.2 = normT d k := by
        intro p hp
        obtain ⟨k, hk, e⟩ := List.mem_map.1 (List.of_mem_zip hp).2
        exact ⟨k, hk, e.symm⟩
      refine Clean.tree (by rw [hz]; exact hm.nodup) ?_ ?_ ?_
      · have := hok.size
        rw [List.length_zip]
        omega
      · intro p hp
        obtain ⟨k, hk, e⟩ := hmem p hp
        rw [e, norm_kind (hkids k hk)]
        exact proper_kind (hkids k hk)
      · intro p hp
        obtain ⟨k, hk, e⟩ := hmem p hp
        rw [e]
        exact ih (hok.kid hk) (hkids k hk)
    · exact .leaf _ (by rw [norm_kind h]; exact h5)
end Go.Proofs.YtbcnhcpgloncdaaGreatDoor
/- What 'Source' of a score function gives holds no nulls. -/
namespace Go.Proofs.YtbcnhcpgloncdaaGreatDoor
open Go Go.RowKit Go.BigFrame Go.Maps

/-- Entries of single values. -/
def LeafE (es : List (ByteArray × Tr)) : Prop := ∀ p ∈ es, p.2.kind ≠ 0 ∧ p.2.kind ≠ 5
theorem LeafE.tree {ts : List (ByteArray × Tr)} (h : LeafE ts) (hn : (ts.map (·.1)).Nodup) (hl : ts.length ≤ 100000000) : Clean (mapTree ts) :=
  Clean.tree hn hl (fun p hp => (h p hp).1) (fun p hp => .leaf _ (h p hp).2)
theorem leaf_num (k : ByteArray) (o : Option Tr) : LeafE (numEnt k o) := by
  cases o with
  | none => intro p hp; cases hp
  | some t => intro p hp; simp only [numEnt, List.mem_singleton] at hp; subst hp; exact ⟨by simp [numT, Tr.kind], by simp [numT, Tr.kind]⟩
theorem leaf_text (k s : ByteArray) : LeafE (textEnt k s) := by
  intro p hp
  unfold textEnt at hp
  split at hp
  · cases hp
  · simp only [List.mem_singleton] at hp; subst hp; exact ⟨by simp [textT, Tr.kind], by simp [textT, Tr.kind]⟩
theorem leaf_low (k s : ByteArray) : LeafE (lowEnt k s) := by
  intro p hp
  unfold lowEnt at hp
  split at hp
  · cases hp
  · simp only [List.mem_singleton] at hp; subst hp; exact ⟨by simp [textT, Tr.kind], by simp [textT, Tr.kind]⟩
theorem leaf_seed (k : ByteArray) (o : Option Tr) : LeafE (seedEnt k o) := by
  cases o with
  | none => intro p hp; cases hp
  | some t => intro p hp; simp only [seedEnt, List.mem_singleton] at hp; subst hp; exact ⟨by simp [numT, Tr.kind], by simp [numT, Tr.kind]⟩
theorem leafE_any (k : ByteArray) (o : Option Tr) (h : ∀ t, o = some t → scalarT t = true) : LeafE (anyEnt k o) := by
  cases o with
  | none => intro p hp; cases hp
  | some t =>
    intro p hp
    simp only [anyEnt, List.mem_singleton] at hp
    subst hp
    have hs := h t rfl
    have hk := leaf_same (t := t) hs
    have h0 := scalar_kind (t := t) hs
    refine ⟨?_, leafT_kind t⟩
    cases hk with
    | mk _ _ he => simp only [he]; exact h0
theorem LeafE.append {a b : List (ByteArray × Tr)} (h1 : LeafE a) (h2 : LeafE b) : LeafE (a ++ b) := by
  intro p hp
  rcases List.mem_append.1 hp with h | h
  · exact h1 p h
  · exact h2 p h
theorem ents_leaf4 {a b c d : List (ByteArray × Tr)} (h1 : LeafE a) (h2 : LeafE b) (h3 : LeafE c) (h4 : LeafE d) : LeafE (entsTo [a, b, c, d] 4) := by
  intro p hp
  unfold entsTo at hp
  simp only [List.take_succ_cons, List.take_zero, List.flatMap_cons, List.flatMap_nil, id, List.append_nil, List.mem_append] at hp
  rcases hp with h | h | h | h
  · exact h1 p h
  · exact h2 p h
  · exact h3 p h
  · exact h4 p h
theorem clean_factor (fd : ByteArray) (sets : List SetM) : Clean (factorT fd sets) := by
  unfold factorT
  refine LeafE.tree (ents_leaf4 (leaf_text _ _) (leaf_num _ _) (leaf_num _ _) (leaf_low _ _)) ?_ ?_
  · exact (factor_parts fd sets).nodup (by decide +kernel)
  · have := (factor_parts fd sets).length
    have h4 : [n_field, n_factor, n_missing, n_modifier].length = 4 := rfl
    have e : entsTo (factorEnts fd sets) 4 = (factorEnts fd sets).flatMap id := rfl
    rw [e]; omega
theorem clean_random (fd : ByteArray) (sets : List SetM) : Clean (randomT fd sets) := by
  unfold randomT
  refine LeafE.tree ?_ ?_ ?_
  · intro p hp
    unfold entsTo randomEnts at hp
    simp only [List.take_succ_cons, List.take_zero, List.flatMap_cons, List.flatMap_nil, id, List.append_nil, List.mem_append] at hp
    rcases hp with h | h
    · exact leaf_text _ _ p h
    · exact leaf_seed _ _ p h
  · exact (random_parts fd sets).nodup (by decide +kernel)
  · have := (random_parts fd sets).length
    have h4 : [n_field, n_seed].length = 2 := rfl
    have e : entsTo (randomEnts fd sets) 2 = (randomEnts fd sets).flatMap id := rfl
    rw [e]; omega
theorem last_scalar {sets : List SetM} {nm : ByteArray} (h : ∀ s ∈ sets, s.name = nm → scalarT s.val = true) : ∀ t, lastOf sets nm = some t → scalarT t = true := by
  intro t ht
  obtain ⟨s, hs, hn, rfl⟩ := lastOf_of ht
  exact h s hs hn
theorem clean_decay (fd : ByteArray) (sets : List SetM) (hfd : fd ≠ n_multi_value_mode) (hsc : ∀ s ∈ sets, s.name ∈ [n_origin, n_scale, n_offset] → scalarT s.val = true) : Clean (decayT fd sets) := by
  have hin : Clean (mapTree (entsTo (decayEnts sets) 4)) := by
    refine LeafE.tree (ents_leaf4 (leafE_any _ _ (last_scalar fun s hs hn => hsc s hs (by simp [hn]))) (leafE_any _ _ (last_scalar fun s hs hn => hsc s hs (by simp [hn]))) (leaf_num _ _) (leafE_any _ _ (last_scalar fun s hs hn => hsc s hs (by simp [hn])))) ?_ ?_
    · exact (decay_parts sets).nodup (by decide +kernel)
    · have := (decay_parts sets).length
      have h4 : [n_origin, n_scale, n_decay, n_offset].length = 4 := rfl
      have e : entsTo (decayEnts sets) 4 = (decayEnts sets).flatMap id := rfl
      rw [e]; omega
  have ht := textEnt_keys n_multi_value_mode (textLast sets n_multi_value_mode)
  unfold decayT
  refine Clean.tree ?_ ?_ ?_ ?_
  · rw [List.map_cons]
    have : (fd :: (textEnt n_multi_value_mode (textLast sets n_multi_value_mode)).map (·.1)).Sublist [fd, n_multi_value_mode] := List.Sublist.cons_cons _ ht
    exact this.nodup (by simp [hfd])
  · have := ht.length_le
    rw [List.length_map] at this
    simp only [List.length_cons, List.length_nil] at this ⊢
    omega
  · intro p hp
    rcases List.mem_cons.1 hp with rfl | h
    · simp [mapTree, mapT, Tr.kind]
    · exact (leaf_text _ _ p h).1
  · intro p hp
    rcases List.mem_cons.1 hp with rfl | h
    · exact hin
    · exact .leaf _ (leaf_text _ _ p h).2
theorem src_kind (k : SK) (s : ScoreM) : (srcT k s).kind ≠ 0 := by cases k <;> simp [srcT, decayT, factorT, randomT, mapTree, mapT, numT, Tr.kind]
theorem src_clean (k : SK) (s : ScoreM) (h : SrcOK k s) : Clean (srcT k s) := by
  obtain ⟨h1, h2, h3⟩ := h
  cases k with
  | weight => exact .leaf _ (by simp [srcT, numT, Tr.kind])
  | exponential => exact clean_decay _ _ h3.1 h3.2.1
  | gauss => exact clean_decay _ _ h3.1 h3.2.1
  | linear => exact clean_decay _ _ h3.1 h3.2.1
  | factor => exact clean_factor _ _
  | random => exact clean_random _ _
theorem item_clean (k : SK) (s : ScoreM) (h : SrcOK k s) (n r : Nat) (hn : n ≤ 100000000) (hf : ∀ t ∈ s.filters, OkT n r t ∧ properT 100 t = true) : Clean (mapTree (itemEnts k s)) := by
  have hp0 : ∀ p ∈ itemEnts k s, p.2.kind ≠ 0 ∧ Clean p.2 := by
    intro p hp
    unfold itemEnts at hp
    rcases List.mem_append.1 hp with hp | hp
    · rcases List.mem_append.1 hp with hp | hp
      · cases e : s.filters with
        | nil => rw [e] at hp; cases hp
        | cons t rest =>
          rw [e] at hp
          simp only [oneEnt, List.mem_singleton] at hp
          subst hp
          obtain ⟨ho, hpr⟩ := hf t (by rw [e]; simp)
          exact ⟨by rw [norm_kind hpr]; exact proper_kind hpr, norm_clean 100 n r hn ho hpr⟩
      · have hw : ∀ o : Option Nat, p ∈ weightEnt o → p.2.kind ≠ 0 ∧ Clean p.2 := by
          intro o ho
          cases o with
          | none => cases ho
          | some x =>
            simp only [weightEnt, List.mem_singleton] at ho
            subst ho
            exact ⟨by simp [numT, Tr.kind], .leaf _ (by simp [numT, Tr.kind])⟩
        unfold preW at hp
        cases k with
        | weight => cases hp
        | _ => exact hw _ hp
    · simp only [List.mem_singleton] at hp
      subst hp
      exact ⟨src_kind k s, src_clean k s h⟩
  exact Clean.tree (item_nodup k s) (by have := item_length k s; omega) (fun p hp => (hp0 p hp).1) (fun p hp => (hp0 p hp).2)
end Go.Proofs.YtbcnhcpgloncdaaGreatDoor
