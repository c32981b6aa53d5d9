/- 'score': what the reference says of a score function. -/
import Derived.Test.YtbcnhcpgloncdaaGreatDoorQJy0
namespace Go.Proofs.YtbcnhcpgloncdaaGreatDoor
open Go Go.RowKit Go.BigFrame Go.Maps

set_option maxRecDepth 100000 in
set_option maxHeartbeats 100000000 in
theorem score_any (k : SK) (s : ScoreM) (hk : s.kind = k.num) (S : Nat → Prop) (sa fa : Option Addr) (sc fc : Nat) (w : World) (hsets : SetsAt w S sa s.sets) (hfil : TreesAt w S fa s.filters) (hS : ∀ b, S b → b < w.heap.size) (hl : s.sets.length ≤ 1048576) (hf1 : s.filters.length ≤ 1) (hfs : s.field.size ≤ 1048576)
    (hfold : k = .factor → ∀ p ∈ mapL (ownP .factor s ++ [⟨n_field, textT s.field⟩]), p.2.kind ≠ 5 ∧ p.1.size ≤ 9223372036854775807 ∧ p.2.text.size ≤ 16777216) (htab : ∀ wx, Below w.heap.size w wx → UTabs wx) :
    Calls Tryz.prog 50 #[.agg #[.int .i64 s.kind, .string s.field, .float .f64 s.a, .slice sa s.sets.length sc, .slice fa s.filters.length fc]] w (TreeS w S (scoreTr k s)) := by
  obtain ⟨i0, hi, hz0, hz1, hz2⟩ := info_parts Tryz.info81
  rw [hk]
  clear hk
  obtain ⟨nf, hnf⟩ : ∃ n, n = s.filters.length := ⟨_, rfl⟩
  rw [← hnf] at hf1 ⊢
  obtain ⟨P1, hP1⟩ : ∃ l, l = filP s.filters := ⟨_, rfl⟩
  have hP1l : P1.length ≤ 1 := by rw [hP1]; cases s.filters <;> simp [filP]
  obtain ⟨P2, hP2⟩ : ∃ l, l = wtP k (lastOf s.sets n_weight) := ⟨_, rfl⟩
  have hpre : preP k s = P1 ++ P2 := by rw [hP1, hP2]; rfl
  have hres : scoreTr k s = mapE (mapL ((P1 ++ P2) ++ [⟨k.key, keyP k s⟩])) := by unfold scoreTr; rw [hpre]
  have Hres := Lib.hid hres; clear hres hpre
  have Hsets := Lib.hid hsets; clear hsets
  have Hfil := Lib.hid hfil; clear hfil
  have Hfold := Lib.hid hfold; clear hfold
  have HS := Lib.hid hS; clear hS
  have Htab := Lib.hid htab; clear htab
  have Hnf := Lib.hid hnf; clear hnf
  have HP1 := Lib.hid hP1; clear hP1
  have HP2 := Lib.hid hP2; clear hP2
  go_enter Tryz.func50, Tryz.ntmps50
  go_upto_region 2 with fail
  have st0 : ScSt w (.cells #[.int .i64 k.num, .string s.field, .float .f64 s.a, .slice sa s.sets.length sc, .slice fa nf fc] 46) (((w.alloc (.cells #[.int .i64 k.num, .string s.field, .float .f64 s.a, .slice sa s.sets.length sc, .slice fa nf fc] 46)).alloc (.cells #[.int .i64 0, .string ⟨#[]⟩, .float .f64 0, .bool false, .slice none 0 0, .slice none 0 0] 31)).alloc (.cells #[] 81)) :=
    ⟨(heap_alloc_old _ _ (by simp only [World.size_alloc]; omega)).trans ((heap_alloc_old _ _ (by simp only [World.size_alloc]; omega)).trans (heap_alloc_new w _)), Box6.alloc (by have := heap_alloc_new (w.alloc (.cells #[.int .i64 k.num, .string s.field, .float .f64 s.a, .slice sa s.sets.length sc, .slice fa nf fc] 46)) (.cells #[.int .i64 0, .string ⟨#[]⟩, .float .f64 0, .bool false, .slice none 0 0, .slice none 0 0] 31); rw [World.size_alloc] at this; exact this), (((Below.refl _ _).alloc (Nat.le_refl _) _).alloc (by simp only [World.size_alloc]; omega) _).alloc (by simp only [World.size_alloc]; omega) _⟩
  have hP0 : OwnL PairR pairCells 81 7 (((w.alloc (.cells #[.int .i64 k.num, .string s.field, .float .f64 s.a, .slice sa s.sets.length sc, .slice fa nf fc] 46)).alloc (.cells #[.int .i64 0, .string ⟨#[]⟩, .float .f64 0, .bool false, .slice none 0 0, .slice none 0 0] 31)).alloc (.cells #[] 81)) S (w.heap.size + 2) (.slice (some ⟨w.heap.size + 2, 0, none⟩) 0 0) ([] : List SetM) := by
    have := OwnL.made (R := PairR) (cells := pairCells) (β := SetM) (S := S) (World.ownsRow_made (base := w.heap.size + 2) (e := 81) (size := 7) ((w.alloc (.cells #[.int .i64 k.num, .string s.field, .float .f64 s.a, .slice sa s.sets.length sc, .slice fa nf fc] 46)).alloc (.cells #[.int .i64 0, .string ⟨#[]⟩, .float .f64 0, .bool false, .slice none 0 0, .slice none 0 0] 31)) #[] 0 (by simp only [World.size_alloc]; omega) (by unfold maxLen; omega) rfl)
    simpa using this
  generalize ((w.alloc (.cells #[.int .i64 k.num, .string s.field, .float .f64 s.a, .slice sa s.sets.length sc, .slice fa nf fc] 46)).alloc (.cells #[.int .i64 0, .string ⟨#[]⟩, .float .f64 0, .bool false, .slice none 0 0, .slice none 0 0] 31)).alloc (.cells #[] 81) = w0 at *
  obtain ⟨b0, b1, b2, b3, b4⟩ := cells5 st0.box
  have hls0 := st0.lt
  have St0 := Lib.hid st0; clear st0
  -- filter
  go_upto_if 15 with fail
  go_cut [3] from 12 to 23 (fun v wx => OwnL PairR pairCells 81 7 wx S (w.heap.size + 2) v P1 ∧ ScSt w (.cells #[.int .i64 k.num, .string s.field, .float .f64 s.a, .slice sa s.sets.length sc, .slice fa nf fc] 46) wx)
  case first =>
    cases hff : s.filters with
    | nil =>
      have h0 : nf = 0 := by rw [Hnf.out, hff]; rfl
      have h1 : P1 = [] := by rw [HP1.out, hff]; rfl
      clear hff
      subst h0
      have HP0 := Lib.hid hP0; clear hP0
      go_wp2_with fail
      go_meet
      case rel => exact ⟨by rw [h1]; exact HP0.out, St0.out⟩
    | cons t rest =>
      have h0 : nf = 1 := by have := Hnf.out; rw [hff, List.length_cons] at this; omega
      have h1 : P1 = [⟨n_filter', t⟩] := by rw [HP1.out, hff]; rfl
      obtain ⟨b', o', ⟨kind, text, num, yes, ka, kn, kc, ca, cn, cc⟩, hca, hSb, hlb, ⟨d0, d1, d2, d3, d4, d5⟩, hv⟩ := (Hfil.out.keep (Keeps.of_below S St0.out.bel)).cells (k := 0) (by rw [hff]; simp)
      have ht : s.filters[0]'(by rw [hff]; simp) = t := by simp [hff]
      rw [ht] at hv
      simp only [Nat.zero_mul, Nat.add_zero] at d0 d1 d2 d3 d4 d5
      clear hff ht
      subst h0 hca
      have Hv := Lib.hid hv; clear hv
      obtain ⟨vs, hvl, hrow, hreps⟩ := hP0
      have Hreps := Lib.hid hreps; clear hreps
      have Hvl := Lib.hid hvl; clear hvl
      have H1 := Lib.hid h1; clear h1
      go_wp2_with (at_builtin; refine wpList_append_lies _ rfl _ _ _ rfl (w.heap.size + 2) 81 i0 _ 7 104 Tryz.underlying83 hi hz0 hz1 hz2 rfl (by omega) (.slice (some ⟨w.heap.size + 2, 0, none⟩) 0 0) 0 _ rfl (hrow.alloc _) ⟨w0.heap.size, 0, none⟩ 1 1 [.string ⟨#[102, 105, 108, 116, 101, 114]⟩, .int .i64 kind, .string text, .float .f64 num, .bool yes, .slice ka kn kc, .slice ca cn cc] rfl rfl (World.news_of_block (cs := #[.string ⟨#[102, 105, 108, 116, 101, 114]⟩, .int .i64 kind, .string text, .float .f64 num, .bool yes, .slice ka kn kc, .slice ca cn cc]) (t := 81) (fr := (0, 0)) (heap_alloc_new w0 _)) (by simp [Value.oneCell']) (by omega) (by unfold maxLen; omega) (by omega) (by simp; omega) (w0.heap.size + 1) (by simp) ?_; intro g cap w1 hown hgrow hat hlt)
      obtain ⟨hP, st, _⟩ := pairs_put (T := S) (L := []) (u := ⟨kind, text, num, yes, ka, kn, kc, ca, cn, cc⟩) (key := n_filter') (t := t) St0.out (Nat.le_refl _) Hvl.out hrow Hreps.out (Hv.out.mono (fun b _ hb => ⟨hb, fun e => by have := (hrow.lt b e).1; have := HS.out b hb; omega⟩)) hown rfl hgrow hat
      have HP := Lib.hid hP
      have St := Lib.hid st
      clear hP st hgrow hat hown hrow
      go_wp2_with fail
      go_meet
      case rel => exact ⟨by rw [H1.out]; exact HP.out, St.out⟩
  case rest =>
  clear b0 b1 b2 b3 b4 hP0 St0 hls0 HP1 Hfil
  obtain ⟨hP, st⟩ := hcut
  obtain ⟨a2, cc2, hform⟩ := hP.form
  subst hform
  obtain ⟨b0, b1, b2, b3, b4⟩ := cells5 st.box
  by_cases hkw : k = .weight
  · -- weight alone
    subst hkw
    have h2 : P2 = [] := by rw [HP2.out]; rfl
    subst h2
    rw [List.append_nil] at Hres
    replace b0 : wc.cell? ⟨w.heap.size, 0, none⟩ = some (.int .i64 0) := b0
    have HP := Lib.hid hP; clear hP
    have hlc := st.lt
    have St := Lib.hid st; clear st
    go_wp2_with fail
    refine (number_any s.a wc).mono ?_
    rintro e w4 ⟨⟨kind4, text4, num4, yes4, ka4, kn4, kc4, ca4, cn4, cc4⟩, rfl, hu4, hb4⟩
    obtain ⟨vs, hvl, hrow, hreps⟩ := (HP.out.mono (S' := fun b => S b ∨ wc.heap.size ≤ b) (base' := w.heap.size + 2) pair_law (fun b _ hb => .inl hb) (Nat.le_refl _)).below pair_law hb4
    have hlr : ∀ b, (Value.slice a2 P1.length cc2).ownBlock = some b → w.heap.size + 2 ≤ b ∧ b < wc.heap.size := HP.out.lt
    have St4 := Lib.hid (St.out.below hb4)
    have hl4 := St4.out.lt
    have hu4' := hu4.mono (S' := fun b => (S b ∨ wc.heap.size ≤ b) ∧ (Value.slice a2 P1.length cc2).ownBlock ≠ some b) (fun b _ hb => ⟨.inr (by rcases hb with h | h; exact h.elim; exact h), fun e => by have := (hlr b e).2; rcases hb with h | h; exact h.elim; omega⟩)
    have Hu4 := Lib.hid hu4'; clear hu4 hu4'
    have Hreps := Lib.hid hreps; clear hreps
    have Hvl := Lib.hid hvl; clear hvl
    clear HP St hb4
    go_wp2_with (at_builtin; refine wpList_append_lies _ rfl _ _ _ rfl (w.heap.size + 2) 81 i0 _ 7 104 Tryz.underlying83 hi hz0 hz1 hz2 rfl (by omega) (.slice a2 P1.length cc2) P1.length _ rfl (hrow.alloc _) ⟨w4.heap.size, 0, none⟩ 1 1 [.string ⟨#[119, 101, 105, 103, 104, 116]⟩, .int .i64 kind4, .string text4, .float .f64 num4, .bool yes4, .slice ka4 kn4 kc4, .slice ca4 cn4 cc4] rfl rfl (World.news_of_block (cs := #[.string ⟨#[119, 101, 105, 103, 104, 116]⟩, .int .i64 kind4, .string text4, .float .f64 num4, .bool yes4, .slice ka4 kn4 kc4, .slice ca4 cn4 cc4]) (t := 81) (fr := (0, 0)) (heap_alloc_new w4 _)) (by simp [Value.oneCell']) (by omega) (by unfold maxLen; omega) (by omega) (by simp; omega) (w4.heap.size + 1) (by simp) ?_; intro g cap w1 hown hgrow hat hlt)
    obtain ⟨hP, st, hsz⟩ := pairs_put (T := fun b => S b ∨ wc.heap.size ≤ b) (u := ⟨kind4, text4, num4, yes4, ka4, kn4, kc4, ca4, cn4, cc4⟩) (key := SK.weight.key) (t := numT s.a) St4.out (Nat.le_refl _) Hvl.out hrow Hreps.out Hu4.out hown rfl hgrow hat
    have hc := made_of hP (by rw [List.length_append]; simp; omega)
    have Hc := Lib.hid hc; clear hc hP
    have St1 := Lib.hid st; clear st
    clear hgrow hat hown hrow
    go_wp2_with (go_at_call 42; refine Hc.out.mono ?_; rintro e w5 ⟨⟨kind5, text5, num5, yes5, ka5, kn5, kc5, ca5, cn5, cc5⟩, rfl, hu5, hb5⟩; obtain ⟨z0, z1, z2, z3, z4, z5, zf, zl⟩ := (St1.out.below hb5).zero.cells)
    have hst5 := St1.out.below hb5
    obtain ⟨p0, p1, p2, p3, p4, p5, _, _⟩ := (hst5.zero.put6 (.int .i64 kind5) (.string text5) (.float .f64 num5) (.bool yes5) (.slice ka5 kn5 kc5) (.slice ca5 cn5 cc5)).cells
    refine bodyPost_ret (v := .agg #[.int .i64 kind5, .string text5, .float .f64 num5, .bool yes5, .slice ka5 kn5 kc5, .slice ca5 cn5 cc5]) (by simp [results, Tryz.results50, go_sem, p0, p1, p2, p3, p4, p5]) rfl ?_
    rw [Hres.out]
    exact score_end (v := ⟨kind5, text5, num5, yes5, ka5, kn5, kc5, ca5, cn5, cc5⟩) HS.out hst5 hu5 (by omega)
  · have hkn : (k.num == 0) = false := by cases k <;> first | exact absurd rfl hkw | rfl
    have HP := Lib.hid hP; clear hP
    have St := Lib.hid st; clear st
    -- weight
    have hlst := last_any s.sets n_weight S sa sc wc (Hsets.out.keep (Keeps.of_below S St.out.bel)) (by omega)
    obtain ⟨r, hr⟩ : ∃ r, r = lastOf s.sets n_weight := ⟨_, rfl⟩
    rw [← hr] at hlst
    have h2 : P2 = wtO r := by
      rw [HP2.out, hr]
      cases k <;> first | exact absurd rfl hkw | rfl
    clear hr
    have H2 := Lib.hid h2; clear h2
    have Hlst := Lib.hid hlst; clear hlst
    go_upto_if 41 with (go_at_call 99; refine Hlst.out.mono ?_; rintro e w3 ⟨⟨kind3, text3, num3, yes3, ka3, kn3, kc3, ca3, cn3, cc3⟩, rfl, hu, hb3⟩)
    have hb4 : Below wc.heap.size wc (w3.alloc (.cells #[.int .i64 kind3, .string text3, .float .f64 num3, .bool yes3, .slice ka3 kn3 kc3, .slice ca3 cn3 cc3] 31)) := hb3.alloc hb3.size _
    have hbx : Box6 _ w3.heap.size (.int .i64 kind3) (.string text3) (.float .f64 num3) (.bool yes3) (.slice ka3 kn3 kc3) (.slice ca3 cn3 cc3) := heap_alloc_new w3 (.cells #[.int .i64 kind3, .string text3, .float .f64 num3, .bool yes3, .slice ka3 kn3 kc3, .slice ca3 cn3 cc3] 31)
    have hu4 := hu.keep (Keeps.of_below S hb4)
    have St4 := Lib.hid (St.out.below hb4)
    have HP4 := Lib.hid (HP.out.below pair_law hb4)
    have hl4 := St4.out.lt
    clear hb4 hb3 hu HP St b0 b1 b2 b3 b4
    generalize w3.alloc (.cells #[.int .i64 kind3, .string text3, .float .f64 num3, .bool yes3, .slice ka3 kn3 kc3, .slice ca3 cn3 cc3] 31) = w4 at *
    go_cut [3] from 41 to 46 (fun v wx => OwnL PairR pairCells 81 7 wx S (w.heap.size + 2) v (P1 ++ P2) ∧ ScSt w (.cells #[.int .i64 k.num, .string s.field, .float .f64 s.a, .slice sa s.sets.length sc, .slice fa nf fc] 46) wx)
    case first =>
      cases r with
      | none =>
        have h2' : P2 = [] := H2.out
        simp only [Option.isSome_none]
        clear hbx hu4
        go_wp2_with fail
        go_meet
        case rel => exact ⟨by rw [h2', List.append_nil]; exact HP4.out, St4.out⟩
      | some t =>
        have H2' : Hid (P2 = [⟨n_weight, t⟩]) := Lib.hid H2.out
        simp only [Option.isSome_some, Option.getD_some] at hu4 ⊢
        obtain ⟨x0, x1, x2, x3, x4, x5, xf, xl⟩ := hbx.cells
        obtain ⟨vs, hvl, hrow, hreps⟩ := HP4.out
        have Hu4 : Hid (RepT w4 (fun b => S b ∧ (Value.slice a2 P1.length cc2).ownBlock ≠ some b) ⟨kind3, text3, num3, yes3, ka3, kn3, kc3, ca3, cn3, cc3⟩ t) := Lib.hid (hu4.mono (fun b _ hb => ⟨hb, fun e => by have := (hrow.lt b e).1; have := HS.out b hb; omega⟩))
        have Hreps := Lib.hid hreps; clear hreps
        have Hvl := Lib.hid hvl; clear hvl
        clear hu4 hbx HP4
        go_wp2_with (at_builtin; refine wpList_append_lies _ rfl _ _ _ rfl (w.heap.size + 2) 81 i0 _ 7 104 Tryz.underlying83 hi hz0 hz1 hz2 rfl (by omega) (.slice a2 P1.length cc2) P1.length _ rfl (hrow.alloc _) ⟨w4.heap.size, 0, none⟩ 1 1 [.string ⟨#[119, 101, 105, 103, 104, 116]⟩, .int .i64 kind3, .string text3, .float .f64 num3, .bool yes3, .slice ka3 kn3 kc3, .slice ca3 cn3 cc3] rfl rfl (World.news_of_block (cs := #[.string ⟨#[119, 101, 105, 103, 104, 116]⟩, .int .i64 kind3, .string text3, .float .f64 num3, .bool yes3, .slice ka3 kn3 kc3, .slice ca3 cn3 cc3]) (t := 81) (fr := (0, 0)) (heap_alloc_new w4 _)) (by simp [Value.oneCell']) (by omega) (by unfold maxLen; omega) (by omega) (by simp; omega) (w4.heap.size + 1) (by simp) ?_; intro g cap w1 hown hgrow hat hlt)
        obtain ⟨hP, st, _⟩ := pairs_put (T := S) (u := ⟨kind3, text3, num3, yes3, ka3, kn3, kc3, ca3, cn3, cc3⟩) (key := n_weight) (t := t) St4.out (Nat.le_refl _) Hvl.out hrow Hreps.out Hu4.out hown rfl hgrow hat
        have HP := Lib.hid hP
        have St := Lib.hid st
        clear hP st hgrow hat hown hrow
        go_wp2_with fail
        go_meet
        case rel => exact ⟨by rw [H2'.out]; exact HP.out, St.out⟩
    case rest =>
    clear hbx hu4 HP4 St4 hl4 H2
    obtain ⟨hP, st⟩ := hcut
    have hP2l : P2.length ≤ 1 := by
      rw [HP2.out]
      generalize lastOf s.sets n_weight = o
      cases k <;> cases o <;> simp [wtP, wtO]
    obtain ⟨L, hL⟩ : ∃ L, L = P1 ++ P2 := ⟨_, rfl⟩
    rw [← hL] at hP Hres
    have hLl : L.length ≤ 2 := by rw [hL, List.length_append]; omega
    clear hL HP2 hP2l hP1l
    obtain ⟨a3, cL, hform⟩ := hP.form
    subst hform
    obtain ⟨b0, b1, b2, b3, b4⟩ := cells5 st.box
    obtain ⟨PL, hPL⟩ : ∃ l, l = paramsL (rsOf k) s.sets := ⟨_, rfl⟩
    have hPLl : PL.length ≤ 6 := by rw [hPL]; exact Nat.le_trans (paramsL_length _ _) (rsOf_length k)
    have hpo : pickL PL [n_weight] = ownP k s := by rw [hPL]; rfl
    have h51 : ∀ wx, Below wc.heap.size wc wx → Calls Tryz.prog 51 #[.string k.table, .slice sa s.sets.length sc] wx fun e w' => ∃ a c, e = .returned (.slice a PL.length c) ∧ SetsAt w' (fun b => b < w'.heap.size ∧ (S b ∨ wc.heap.size ≤ b)) a PL ∧ Below wx.heap.size wx w' := by
      intro wx hb
      have hsz := hb.size
      have hbw := via st.bel hb
      refine (params_of hkw s.sets S sa sc wx (Hsets.out.keep (Keeps.of_below S hbw)) (fun b h => Nat.lt_of_lt_of_le (HS.out b h) hbw.size) (by omega)).mono ?_
      rintro e w' ⟨kv, rfl, hown, hb'⟩
      obtain ⟨a, c, rfl, hps⟩ := hown.sets'
      rw [← hPL] at hps ⊢
      exact ⟨a, c, rfl, hps.mono (fun b hb h => ⟨hb, by rcases h.2 with h | h; exact .inl h; exact .inr (by omega)⟩), hb'⟩
    have h95 : ∀ (w5 wx : World) (a : Option Addr) (c pb : Nat), Below wc.heap.size wc w5 → SetsAt w5 (fun b => b < w5.heap.size ∧ (S b ∨ wc.heap.size ≤ b)) a PL → Below w5.heap.size w5 wx → StrsAt wx (fun _ => True) (some ⟨pb, 0, none⟩) [n_weight] →
        Calls Tryz.prog 95 #[.slice a PL.length c, .slice (some ⟨pb, 0, none⟩) 1 1] wx fun e w' => ∃ kv, e = .returned kv ∧ OwnL PairR pairCells 81 7 w' (fun b => S b ∨ wc.heap.size ≤ b) wc.heap.size kv (ownP k s) ∧ Below wx.heap.size wx w' := by
      intro w5 wx a c pb h0 hps hb hs
      have hsz0 := h0.size
      have hsz := hb.size
      refine (pick_any PL [n_weight] _ a (some ⟨pb, 0, none⟩) c 1 wx (hps.keep (Keeps.of_below _ hb)) (fun b h => Nat.lt_of_lt_of_le h.1 hsz) (by omega) hs (by decide)).mono ?_
      rintro e w' ⟨kv, rfl, hown, hb'⟩
      rw [hpo] at hown
      exact ⟨kv, rfl, hown.mono pair_law (fun b _ hb => hb.2) (by omega), hb'⟩
    have H51 := Lib.hid h51; clear h51
    have H95 := Lib.hid h95; clear h95 hPL hpo
    have HP := Lib.hid hP; clear hP
    have hlw := st.lt
    have hlw' : w.heap.size < wc.heap.size := by omega
    have St := Lib.hid st; clear st
    go_upto_region 9 with fail
    go_cut [6] from 47 to 54 (fun v wx => ∃ X, w.heap.size + 2 ≤ X ∧ X ≤ wx.heap.size ∧ (∀ b, (Value.slice a3 L.length cL).ownBlock = some b → b < X) ∧ OwnL PairR pairCells 81 7 wx (fun b => S b ∨ X ≤ b) X v (ownP k s) ∧ OwnL PairR pairCells 81 7 wx S (w.heap.size + 2) (.slice a3 L.length cL) L ∧ ScSt w (.cells #[.int .i64 k.num, .string s.field, .float .f64 s.a, .slice sa s.sets.length sc, .slice fa nf fc] 46) wx)
    case first =>
      go_region_law (first
        | (go_simp; go_at_call 22; refine (scoreTable_any k _).mono ?_; rintro e w' ⟨rfl, rfl⟩)
        | (go_simp; go_at_call 51; refine (H51.out _ (by (first | assumption | exact Below.refl _ _ | exact bel_drew (Below.refl _ _) | exact bel_alloc (Below.refl _ _) | exact bel_drew (bel_alloc (Below.refl _ _)) | exact bel_alloc (bel_drew (Below.refl _ _)) | exact bel_alloc (by assumption) | exact bel_drew (by assumption) | exact bel_drew (bel_alloc (by assumption))))).mono ?_; rintro e w5 ⟨a5, c5, rfl, hps, hb5⟩; have hb05 := via (show Below wc.heap.size wc _ by (first | assumption | exact Below.refl _ _ | exact bel_drew (Below.refl _ _) | exact bel_alloc (Below.refl _ _) | exact bel_drew (bel_alloc (Below.refl _ _)) | exact bel_alloc (bel_drew (Below.refl _ _)) | exact bel_alloc (by assumption) | exact bel_drew (by assumption) | exact bel_drew (bel_alloc (by assumption)))) hb5; have hst5 := fun pb (h : StrsAt _ (fun _ => True) (some ⟨pb, 0, none⟩) [n_weight]) => StrsAt.keep h (Keeps.of_below _ hb5))
        | (go_simp; go_at_call 95; refine (H95.out w5 _ a5 c5 _ hb05 hps (by (first | assumption | exact Below.refl _ _ | exact bel_drew (Below.refl _ _) | exact bel_alloc (Below.refl _ _) | exact bel_drew (bel_alloc (Below.refl _ _)) | exact bel_alloc (bel_drew (Below.refl _ _)) | exact bel_alloc (by assumption) | exact bel_drew (by assumption) | exact bel_drew (bel_alloc (by assumption)))) (by (first | exact strs_new _ [n_weight] 9 trivial | exact hst5 _ (strs_new _ [n_weight] 9 trivial) | exact hst5 _ (strs_drew (strs_new _ [n_weight] 9 trivial)) | exact strs_drew (strs_new _ [n_weight] 9 trivial)))).mono ?_; rintro e w6 ⟨kv, rfl, hown, hb6⟩; have hb06 := via (show Below wc.heap.size wc _ by (first | assumption | exact Below.refl _ _ | exact bel_drew (Below.refl _ _) | exact bel_alloc (Below.refl _ _) | exact bel_drew (bel_alloc (Below.refl _ _)) | exact bel_alloc (bel_drew (Below.refl _ _)) | exact bel_alloc (by assumption) | exact bel_drew (by assumption) | exact bel_drew (bel_alloc (by assumption)))) hb6))
      all_goals (
        have Hown := Lib.hid hown
        have Hb06 := Lib.hid hb06
        clear hown hb06 hb6 hst5 hb05 hb5 hps
        go_wp2_with fail
        go_meet
        case rel => exact ⟨wc.heap.size, hlw, Hb06.out.size, fun b hb => (HP.out.lt b hb).2, Hown.out, HP.out.below pair_law Hb06.out, St.out.below Hb06.out⟩)
    case rest =>
    clear b0 b1 b2 b3 b4 HP St H51 H95 hlw hlw' PL hPLl
    obtain ⟨X, hX, hXl, hXo, hO, hP, st⟩ := hcut
    obtain ⟨O, hOe⟩ : ∃ l, l = ownP k s := ⟨_, rfl⟩
    rw [← hOe] at hO
    have hOl : O.length ≤ 6 := by rw [hOe]; exact ownP_length k s
    have HOe := Lib.hid hOe; clear hOe
    obtain ⟨a6, c6, hform⟩ := hO.form
    subst hform
    obtain ⟨b0, b1, b2, b3, b4⟩ := cells5 st.box
    have HP := Lib.hid hP; clear hP
    have HO := Lib.hid hO; clear hO
    have hlw := st.lt
    have hlw' : w.heap.size < wc.heap.size := by omega
    have St := Lib.hid st; clear st
    have HSX : Hid (∀ b, S b → b < X) := Lib.hid (fun b hb => by have := HS.out b hb; omega)
    by_cases hkf : k = .factor
    · subst hkf
      replace b0 : wc.cell? ⟨w.heap.size, 0, none⟩ = some (.int .i64 4) := b0
      have hes : (mapL (O ++ [⟨n_field, textT s.field⟩])).length ≤ 100000000 := Nat.le_trans (mapL_length _) (by rw [List.length_append]; simp; omega)
      have hfo := Hfold.out rfl
      rw [← HOe.out] at hfo
      have Hfo := Lib.hid hfo; clear hfo
      go_wp2_with fail
      refine (text_any s.field wc (by omega)).mono ?_
      rintro e w4 ⟨⟨kind4, text4, num4, yes4, ka4, kn4, kc4, ca4, cn4, cc4⟩, rfl, hu4, hb4⟩
      obtain ⟨vs, hvl, hrow, hreps⟩ := HO.out.below pair_law hb4
      have hO6 := HO.out.lt
      have Hu4 : Hid (RepT w4 (fun b => (S b ∨ X ≤ b) ∧ (Value.slice a6 O.length c6).ownBlock ≠ some b) ⟨kind4, text4, num4, yes4, ka4, kn4, kc4, ca4, cn4, cc4⟩ (textT s.field)) := Lib.hid (hu4.mono (fun b _ hb => ⟨.inr (by rcases hb with h | h; exact h.elim; omega), fun e => by have := (hO6 b e).2; rcases hb with h | h; exact h.elim; omega⟩))
      have Hreps := Lib.hid hreps; clear hreps
      have Hvl := Lib.hid hvl; clear hvl
      have St4 := Lib.hid (St.out.below hb4)
      have HP4 := Lib.hid (HP.out.below pair_law hb4)
      have hl4 := hb4.size
      clear hu4 hb4 HP HO St
      go_wp2_with (at_builtin; refine wpList_append_lies _ rfl _ _ _ rfl X 81 i0 _ 7 104 Tryz.underlying83 hi hz0 hz1 hz2 rfl (by omega) (.slice a6 O.length c6) O.length _ rfl (hrow.alloc _) ⟨w4.heap.size, 0, none⟩ 1 1 [.string ⟨#[102, 105, 101, 108, 100]⟩, .int .i64 kind4, .string text4, .float .f64 num4, .bool yes4, .slice ka4 kn4 kc4, .slice ca4 cn4 cc4] rfl rfl (World.news_of_block (cs := #[.string ⟨#[102, 105, 101, 108, 100]⟩, .int .i64 kind4, .string text4, .float .f64 num4, .bool yes4, .slice ka4 kn4 kc4, .slice ca4 cn4 cc4]) (t := 81) (fr := (0, 0)) (heap_alloc_new w4 _)) (by simp [Value.oneCell']) (by omega) (by unfold maxLen; omega) (by omega) (by simp; omega) (w4.heap.size + 1) (by simp) ?_; intro g cap w1 hown hgrow hat hlt)
      obtain ⟨hO1, st, hsz⟩ := pairs_put (T := fun b => S b ∨ X ≤ b) (u := ⟨kind4, text4, num4, yes4, ka4, kn4, kc4, ca4, cn4, cc4⟩) (key := n_field) (t := textT s.field) St4.out hX Hvl.out hrow Hreps.out Hu4.out hown rfl hgrow hat
      have HP1' := Lib.hid (far_kept HP4.out hXo (fun b hb => (hO6 b hb).1) HSX.out hgrow)
      have hc := made_of hO1 (by rw [List.length_append]; simp; omega)
      have Hc := Lib.hid hc; clear hc hO1
      have St1 := Lib.hid st; clear st
      clear hgrow hat hown hrow HP4 St4 hO6 Hvl Hreps Hu4
      go_wp2_with (go_at_call 42; refine Hc.out.mono ?_; rintro e w5 ⟨⟨kind5, text5, num5, yes5, ka5, kn5, kc5, ca5, cn5, cc5⟩, rfl, hu5, hb5⟩)
      have hl5 := hb5.size
      have hbel5 := (St1.out.below hb5).bel
      refine (folded_any (mapL (O ++ [⟨n_field, textT s.field⟩])) (asc_mapL _) hes (fun p hp => (Hfo.out p hp).1) (fun p hp => (Hfo.out p hp).2.1) (fun p hp => (Hfo.out p hp).2.2) ⟨kind5, text5, num5, yes5, ka5, kn5, kc5, ca5, cn5, cc5⟩ (fun b => b < w5.heap.size ∧ (S b ∨ X ≤ b)) w5 (hu5.mono (fun b hb h => ⟨hb, by rcases h with ⟨_, (h | h) | h⟩ | h; exact .inl h; exact .inr h; exact .inr h; exact .inr (by omega)⟩)) (fun b h => h.1) (fun wx hx => Htab.out wx (via hbel5 hx))).mono ?_
      rintro e w7 ⟨⟨kind7, text7, num7, yes7, ka7, kn7, kc7, ca7, cn7, cc7⟩, rfl, hu7, hb7⟩
      have HPt : Hid (OwnL PairR pairCells 81 7 w7 (fun b => S b ∨ X ≤ b) (w.heap.size + 2) (.slice a3 L.length cL) L) := Lib.hid (((HP1'.out.below pair_law hb5).below pair_law hb7).mono pair_law (fun b _ hb => .inl hb) (Nat.le_refl _))
      have Hut : Hid (RepT w7 (fun b => S b ∨ X ≤ b) ⟨kind7, text7, num7, yes7, ka7, kn7, kc7, ca7, cn7, cc7⟩ (mapE (foldE (mapL (O ++ [⟨n_field, textT s.field⟩]))))) := Lib.hid (hu7.mono (fun b _ hb => by rcases hb with h | h; exact h.2; exact .inr (by omega)))
      have Stt := Lib.hid ((St1.out.below hb5).below hb7)
      have hl7 := hb7.size
      clear hu5 hu7 hb5 hb7 HP1' St1 hbel5
      obtain ⟨vsP, hvlP, hrowP, hrepsP⟩ := HPt.out
      have HuP : Hid (RepT w7 (fun b => (S b ∨ X ≤ b) ∧ (Value.slice a3 L.length cL).ownBlock ≠ some b) ⟨kind7, text7, num7, yes7, ka7, kn7, kc7, ca7, cn7, cc7⟩ (mapE (foldE (mapL (O ++ [⟨n_field, textT s.field⟩]))))) := Lib.hid (Hut.out.mono (fun b _ hb => ⟨hb, fun e => by have h1 := hXo b e; have h2 := (hrowP.lt b e).1; rcases hb with h | h; have := HS.out b h; omega; omega⟩))
      have HrepsP := Lib.hid hrepsP; clear hrepsP
      have HvlP := Lib.hid hvlP; clear hvlP HPt Hut
      go_wp2_with (at_builtin; refine wpList_append_lies _ rfl _ _ _ rfl (w.heap.size + 2) 81 i0 _ 7 104 Tryz.underlying83 hi hz0 hz1 hz2 rfl (by omega) (.slice a3 L.length cL) L.length _ rfl (hrowP.alloc _) ⟨w7.heap.size, 0, none⟩ 1 1 [.string ⟨#[102, 105, 101, 108, 100, 95, 118, 97, 108, 117, 101, 95, 102, 97, 99, 116, 111, 114]⟩, .int .i64 kind7, .string text7, .float .f64 num7, .bool yes7, .slice ka7 kn7 kc7, .slice ca7 cn7 cc7] rfl rfl (World.news_of_block (cs := #[.string ⟨#[102, 105, 101, 108, 100, 95, 118, 97, 108, 117, 101, 95, 102, 97, 99, 116, 111, 114]⟩, .int .i64 kind7, .string text7, .float .f64 num7, .bool yes7, .slice ka7 kn7 kc7, .slice ca7 cn7 cc7]) (t := 81) (fr := (0, 0)) (heap_alloc_new w7 _)) (by simp [Value.oneCell']) (by omega) (by unfold maxLen; omega) (by omega) (by simp; omega) (w7.heap.size + 1) (by simp) ?_; intro g8 cap8 w8 hown8 hgrow8 hat8 hlt8)
      obtain ⟨hP8, st8, hsz8⟩ := pairs_put (T := fun b => S b ∨ X ≤ b) (u := ⟨kind7, text7, num7, yes7, ka7, kn7, kc7, ca7, cn7, cc7⟩) (key := SK.factor.key) (t := mapE (foldE (mapL (O ++ [⟨n_field, textT s.field⟩])))) Stt.out (Nat.le_refl _) HvlP.out hrowP HrepsP.out HuP.out hown8 rfl hgrow8 hat8
      have hc8 := made_of hP8 (by rw [List.length_append]; simp; omega)
      have Hc8 := Lib.hid hc8; clear hc8 hP8
      have St8 := Lib.hid st8; clear st8
      have hlt8 := Stt.out.lt
      clear hgrow8 hat8 hown8 hrowP
      go_wp2_with (go_at_call 42; refine Hc8.out.mono ?_; rintro e w9 ⟨⟨kind9, text9, num9, yes9, ka9, kn9, kc9, ca9, cn9, cc9⟩, rfl, hu9, hb9⟩; obtain ⟨z0, z1, z2, z3, z4, z5, zf, zl⟩ := (St8.out.below hb9).zero.cells)
      have hst9 := St8.out.below hb9
      obtain ⟨p0, p1, p2, p3, p4, p5, _, _⟩ := (hst9.zero.put6 (.int .i64 kind9) (.string text9) (.float .f64 num9) (.bool yes9) (.slice ka9 kn9 kc9) (.slice ca9 cn9 cc9)).cells
      refine bodyPost_ret (v := .agg #[.int .i64 kind9, .string text9, .float .f64 num9, .bool yes9, .slice ka9 kn9 kc9, .slice ca9 cn9 cc9]) (by simp [results, Tryz.results50, go_sem, p0, p1, p2, p3, p4, p5]) rfl ?_
      rw [Hres.out, show keyP .factor s = mapE (foldE (mapL (O ++ [⟨n_field, textT s.field⟩]))) by rw [HOe.out]; rfl]
      exact score_end (v := ⟨kind9, text9, num9, yes9, ka9, kn9, kc9, ca9, cn9, cc9⟩) HS.out hst9 hu9 (by omega)
    · by_cases hkr : k = .random
      · subst hkr
        replace b0 : wc.cell? ⟨w.heap.size, 0, none⟩ = some (.int .i64 5) := b0
        go_upto_if 77 with fail
        go_cut [6] from 75 to 84 (fun v wx => OwnL PairR pairCells 81 7 wx (fun b => S b ∨ X ≤ b) X v (O ++ fieldP s) ∧ X ≤ wx.heap.size ∧ OwnL PairR pairCells 81 7 wx S (w.heap.size + 2) (.slice a3 L.length cL) L ∧ ScSt w (.cells #[.int .i64 SK.random.num, .string s.field, .float .f64 s.a, .slice sa s.sets.length sc, .slice fa nf fc] 46) wx)
        case first =>
          by_cases hz : s.field = ⟨#[]⟩
          · have hemp : s.field.toList.isEmpty = true := by rw [bs_isEmpty]; simp [hz]
            have hfp : fieldP s = [] := by unfold fieldP; rw [if_pos hz]
            have Hfp := Lib.hid hfp; clear hfp hz
            simp only [hemp, Bool.not_true]
            go_wp2_with fail
            go_meet
            case rel => exact ⟨by rw [Hfp.out, List.append_nil]; exact HO.out, hXl, HP.out, St.out⟩
          · have hemp : s.field.toList.isEmpty = false := by rw [bs_isEmpty]; simp [hz]
            have hfp : fieldP s = [⟨n_field, textT s.field⟩] := by unfold fieldP; rw [if_neg hz]
            have Hfp := Lib.hid hfp; clear hfp hz
            simp only [hemp, Bool.not_false]
            go_wp2_with fail
            refine (text_any s.field wc (by omega)).mono ?_
            rintro e w4 ⟨⟨kind4, text4, num4, yes4, ka4, kn4, kc4, ca4, cn4, cc4⟩, rfl, hu4, hb4⟩
            obtain ⟨vs, hvl, hrow, hreps⟩ := HO.out.below pair_law hb4
            have hO6 := HO.out.lt
            have Hu4 : Hid (RepT w4 (fun b => (S b ∨ X ≤ b) ∧ (Value.slice a6 O.length c6).ownBlock ≠ some b) ⟨kind4, text4, num4, yes4, ka4, kn4, kc4, ca4, cn4, cc4⟩ (textT s.field)) := Lib.hid (hu4.mono (fun b _ hb => ⟨.inr (by rcases hb with h | h; exact h.elim; omega), fun e => by have := (hO6 b e).2; rcases hb with h | h; exact h.elim; omega⟩))
            have Hreps := Lib.hid hreps; clear hreps
            have Hvl := Lib.hid hvl; clear hvl
            have St4 := Lib.hid (St.out.below hb4)
            have HP4 := Lib.hid (HP.out.below pair_law hb4)
            have hl4 := hb4.size
            clear hu4 hb4 HP HO St
            go_wp2_with (at_builtin; refine wpList_append_lies _ rfl _ _ _ rfl X 81 i0 _ 7 104 Tryz.underlying83 hi hz0 hz1 hz2 rfl (by omega) (.slice a6 O.length c6) O.length _ rfl (hrow.alloc _) ⟨w4.heap.size, 0, none⟩ 1 1 [.string ⟨#[102, 105, 101, 108, 100]⟩, .int .i64 kind4, .string text4, .float .f64 num4, .bool yes4, .slice ka4 kn4 kc4, .slice ca4 cn4 cc4] rfl rfl (World.news_of_block (cs := #[.string ⟨#[102, 105, 101, 108, 100]⟩, .int .i64 kind4, .string text4, .float .f64 num4, .bool yes4, .slice ka4 kn4 kc4, .slice ca4 cn4 cc4]) (t := 81) (fr := (0, 0)) (heap_alloc_new w4 _)) (by simp [Value.oneCell']) (by omega) (by unfold maxLen; omega) (by omega) (by simp; omega) (w4.heap.size + 1) (by simp) ?_; intro g cap w1 hown hgrow hat hlt)
            obtain ⟨hO1, st, hsz⟩ := pairs_put (T := fun b => S b ∨ X ≤ b) (u := ⟨kind4, text4, num4, yes4, ka4, kn4, kc4, ca4, cn4, cc4⟩) (key := n_field) (t := textT s.field) St4.out hX Hvl.out hrow Hreps.out Hu4.out hown rfl hgrow hat
            have HP1' := Lib.hid (far_kept HP4.out hXo (fun b hb => (hO6 b hb).1) HSX.out hgrow)
            have HO1 := Lib.hid hO1; clear hO1
            have St1 := Lib.hid st; clear st
            clear hgrow hat hown hrow HP4 St4 hO6 Hvl Hreps Hu4
            go_wp2_with fail
            go_meet
            case rel => exact ⟨by rw [Hfp.out]; exact HO1.out, by omega, HP1'.out, St1.out⟩
        case rest =>
        clear b0 b1 b2 b3 b4 HO HP St
        obtain ⟨hO, hXl2, hP, st⟩ := hcut
        have hlw2 := st.lt
        have hfl : (O ++ fieldP s).length ≤ 7 := by
          have : (fieldP s).length ≤ 1 := by unfold fieldP; split <;> simp
          rw [List.length_append]; omega
        obtain ⟨Q, hQe⟩ : ∃ l, l = O ++ fieldP s := ⟨_, rfl⟩
        rw [← hQe] at hO hfl
        have HQe := Lib.hid hQe; clear hQe
        have hc := made_of hO (by omega)
        obtain ⟨a6', c6', hform⟩ := hO.form
        subst hform
        have Hc := Lib.hid hc; clear hc hO
        have HP := Lib.hid hP; clear hP
        have St := Lib.hid st; clear st
        go_wp2_with fail
        refine Hc.out.mono ?_
        rintro e w7 ⟨⟨kind7, text7, num7, yes7, ka7, kn7, kc7, ca7, cn7, cc7⟩, rfl, hu7, hb7⟩
        have hl7 := hb7.size
        have HPt : Hid (OwnL PairR pairCells 81 7 w7 (fun b => S b ∨ X ≤ b) (w.heap.size + 2) (.slice a3 L.length cL) L) := Lib.hid ((HP.out.below pair_law hb7).mono pair_law (fun b _ hb => .inl hb) (Nat.le_refl _))
        have Hut : Hid (RepT w7 (fun b => S b ∨ X ≤ b) ⟨kind7, text7, num7, yes7, ka7, kn7, kc7, ca7, cn7, cc7⟩ (mapE (mapL Q))) := Lib.hid (hu7.mono (fun b _ hb => by rcases hb with ⟨_, (h | h) | h⟩ | h; exact .inl h; exact .inr h; exact .inr h; exact .inr (by omega)))
        have Stt := Lib.hid (St.out.below hb7)
        clear hu7 hb7 HP St Hc
        obtain ⟨vsP, hvlP, hrowP, hrepsP⟩ := HPt.out
        have HuP : Hid (RepT w7 (fun b => (S b ∨ X ≤ b) ∧ (Value.slice a3 L.length cL).ownBlock ≠ some b) ⟨kind7, text7, num7, yes7, ka7, kn7, kc7, ca7, cn7, cc7⟩ (mapE (mapL Q))) := Lib.hid (Hut.out.mono (fun b _ hb => ⟨hb, fun e => by have h1 := hXo b e; have h2 := (hrowP.lt b e).1; rcases hb with h | h; have := HS.out b h; omega; omega⟩))
        have HrepsP := Lib.hid hrepsP; clear hrepsP
        have HvlP := Lib.hid hvlP; clear hvlP HPt Hut
        go_wp2_with (at_builtin; refine wpList_append_lies _ rfl _ _ _ rfl (w.heap.size + 2) 81 i0 _ 7 104 Tryz.underlying83 hi hz0 hz1 hz2 rfl (by omega) (.slice a3 L.length cL) L.length _ rfl (hrowP.alloc _) ⟨w7.heap.size, 0, none⟩ 1 1 [.string ⟨#[114, 97, 110, 100, 111, 109, 95, 115, 99, 111, 114, 101]⟩, .int .i64 kind7, .string text7, .float .f64 num7, .bool yes7, .slice ka7 kn7 kc7, .slice ca7 cn7 cc7] rfl rfl (World.news_of_block (cs := #[.string ⟨#[114, 97, 110, 100, 111, 109, 95, 115, 99, 111, 114, 101]⟩, .int .i64 kind7, .string text7, .float .f64 num7, .bool yes7, .slice ka7 kn7 kc7, .slice ca7 cn7 cc7]) (t := 81) (fr := (0, 0)) (heap_alloc_new w7 _)) (by simp [Value.oneCell']) (by omega) (by unfold maxLen; omega) (by omega) (by simp; omega) (w7.heap.size + 1) (by simp) ?_; intro g8 cap8 w8 hown8 hgrow8 hat8 hlt8)
        obtain ⟨hP8, st8, hsz8⟩ := pairs_put (T := fun b => S b ∨ X ≤ b) (u := ⟨kind7, text7, num7, yes7, ka7, kn7, kc7, ca7, cn7, cc7⟩) (key := SK.random.key) (t := mapE (mapL Q)) Stt.out (Nat.le_refl _) HvlP.out hrowP HrepsP.out HuP.out hown8 rfl hgrow8 hat8
        have hc8 := made_of hP8 (by rw [List.length_append]; simp; omega)
        have Hc8 := Lib.hid hc8; clear hc8 hP8
        have St8 := Lib.hid st8; clear st8
        have hlt8 := Stt.out.lt
        clear hgrow8 hat8 hown8 hrowP
        go_wp2_with (go_at_call 42; refine Hc8.out.mono ?_; rintro e w9 ⟨⟨kind9, text9, num9, yes9, ka9, kn9, kc9, ca9, cn9, cc9⟩, rfl, hu9, hb9⟩; obtain ⟨z0, z1, z2, z3, z4, z5, zf, zl⟩ := (St8.out.below hb9).zero.cells)
        have hst9 := St8.out.below hb9
        obtain ⟨p0, p1, p2, p3, p4, p5, _, _⟩ := (hst9.zero.put6 (.int .i64 kind9) (.string text9) (.float .f64 num9) (.bool yes9) (.slice ka9 kn9 kc9) (.slice ca9 cn9 cc9)).cells
        refine bodyPost_ret (v := .agg #[.int .i64 kind9, .string text9, .float .f64 num9, .bool yes9, .slice ka9 kn9 kc9, .slice ca9 cn9 cc9]) (by simp [results, Tryz.results50, go_sem, p0, p1, p2, p3, p4, p5]) rfl ?_
        rw [Hres.out, show keyP .random s = mapE (mapL Q) by rw [HQe.out, HOe.out]; rfl]
        exact score_end (v := ⟨kind9, text9, num9, yes9, ka9, kn9, kc9, ca9, cn9, cc9⟩) HS.out hst9 hu9 (by omega)
      · have hkd : k = .exponential ∨ k = .gauss ∨ k = .linear := by cases k <;> first | exact absurd rfl hkw | exact absurd rfl hkf | exact absurd rfl hkr | simp
        have hk4 : (k.num == 4) = false := by cases k <;> first | exact absurd rfl hkf | rfl
        have hk5 : (k.num == 5) = false := by cases k <;> first | exact absurd rfl hkr | rfl
        go_upto_region 17 with fail
        go_cut [7] from 92 to 97 (fun c wx => c = .string k.key ∧ X ≤ wx.heap.size ∧ OwnL PairR pairCells 81 7 wx (fun b => S b ∨ X ≤ b) X (.slice a6 O.length c6) O ∧ OwnL PairR pairCells 81 7 wx S (w.heap.size + 2) (.slice a3 L.length cL) L ∧ ScSt w (.cells #[.int .i64 k.num, .string s.field, .float .f64 s.a, .slice sa s.sets.length sc, .slice fa nf fc] 46) wx)
        case first =>
          have hbN : Below wc.heap.size wc (wc.alloc (.cells #[.string ⟨#[101, 120, 112]⟩, .string ⟨#[103, 97, 117, 115, 115]⟩, .string ⟨#[108, 105, 110, 101, 97, 114]⟩] 9)) := (Below.refl _ _).alloc (Nat.le_refl _) _
          rcases hkd with hk1 | hk1 | hk1
          · subst hk1
            replace b0 : wc.cell? ⟨w.heap.size, 0, none⟩ = some (.int .i64 1) := b0
            go_wp2_with fail
            go_meet
            case rel => exact ⟨rfl, by simp; omega, HO.out.below pair_law hbN, HP.out.below pair_law hbN, St.out.below hbN⟩
          · subst hk1
            replace b0 : wc.cell? ⟨w.heap.size, 0, none⟩ = some (.int .i64 2) := b0
            go_wp2_with fail
            go_meet
            case rel => exact ⟨rfl, by simp; omega, HO.out.below pair_law hbN, HP.out.below pair_law hbN, St.out.below hbN⟩
          · subst hk1
            replace b0 : wc.cell? ⟨w.heap.size, 0, none⟩ = some (.int .i64 3) := b0
            go_wp2_with fail
            go_meet
            case rel => exact ⟨rfl, by simp; omega, HO.out.below pair_law hbN, HP.out.below pair_law hbN, St.out.below hbN⟩
        case rest =>
        clear b0 b1 b2 b3 b4 HO HP St hlw hlw' hXl
        obtain ⟨hc7, hXl, hO, hP, st⟩ := hcut
        subst hc7
        obtain ⟨b0, b1, b2, b3, b4⟩ := cells5 st.box
        have hlw := st.lt
        have hlw' : w.heap.size < wc.heap.size := by omega
        have h95 : ∀ (wx : World) (pb : Nat), Below wc.heap.size wc wx → StrsAt wx (fun _ => True) (some ⟨pb, 0, none⟩) [n_multi_value_mode] →
            Calls Tryz.prog 95 #[.slice a6 O.length c6, .slice (some ⟨pb, 0, none⟩) 1 1] wx fun e w' => ∃ kv, e = .returned kv ∧ OwnL PairR pairCells 81 7 w' (fun b => b < wc.heap.size ∧ (S b ∨ X ≤ b)) wx.heap.size kv (pickL O [n_multi_value_mode]) ∧ Below wx.heap.size wx w' := by
          intro wx pb hb hs
          obtain ⟨a, c, e, hps⟩ := hO.sets'
          injection e with e1 e2 e3
          subst e1 e3
          have hps' := (hps.mono (S' := fun b => b < wc.heap.size ∧ (S b ∨ X ≤ b)) (fun b _ h => ⟨h.1, by rcases h.2 with h | h; exact h; exact .inr h⟩)).keep (Keeps.of_below _ hb)
          exact pick_any O [n_multi_value_mode] _ a6 (some ⟨pb, 0, none⟩) c6 1 wx hps' (fun b h => Nat.lt_of_lt_of_le h.1 hb.size) (by omega) hs (by decide)
        have h42 : ∀ (w6 W6 : World) (B5 : Nat) (kv : Value), OwnL PairR pairCells 81 7 w6 (fun b => b < wc.heap.size ∧ (S b ∨ X ≤ b)) B5 kv (pickL O [n_multi_value_mode]) → Below w6.heap.size w6 W6 →
            Calls Tryz.prog 42 #[kv] W6 fun e w' => ∃ v : TV, e = .returned v.val ∧ RepT w' (fun b => (b < w6.heap.size ∧ ((b < wc.heap.size ∧ (S b ∨ X ≤ b)) ∨ B5 ≤ b)) ∨ W6.heap.size ≤ b) v (mapE (mapL (pickL O [n_multi_value_mode]))) ∧ Below W6.heap.size W6 w' := by
          intro w6 W6 B5 kv h6 hb
          obtain ⟨a, c, rfl, hps⟩ := h6.sets'
          have hl2 : (pickL O [n_multi_value_mode]).length ≤ 6 := Nat.le_trans (pickL_length _ _) hOl
          exact map_made (pickL O [n_multi_value_mode]) _ _ _ W6 (hps.keep (Keeps.of_below _ hb)) (fun b h => Nat.lt_of_lt_of_le h.1 hb.size) (by omega)
        have h42b : ∀ (W7 : World) (Q : Nat → Prop) (p : Nat), SetsAt W7 Q (some ⟨p, 0, none⟩) [⟨s.field, mapE (mapL (pickL O [n_multi_value_mode]))⟩] → (∀ b, Q b → b < W7.heap.size) →
            Calls Tryz.prog 42 #[.slice (some ⟨p, 0, none⟩) 1 1] W7 (TreeS W7 Q (mapE (mapL [⟨s.field, mapE (mapL (pickL O [n_multi_value_mode]))⟩]))) := fun W7 Q p h hQ => map_made [⟨s.field, mapE (mapL (pickL O [n_multi_value_mode]))⟩] Q _ 1 W7 h hQ (by simp)
        obtain ⟨TM, hTM⟩ : ∃ t, t = mapE (mapL (pickL O [n_multi_value_mode])) := ⟨_, rfl⟩
        obtain ⟨TD, hTD⟩ : ∃ t, t = mapE (mapL [⟨s.field, mapE (mapL (pickL O [n_multi_value_mode]))⟩]) := ⟨_, rfl⟩
        simp only [← hTM] at h42 h42b hTD
        simp only [← hTD] at h42b
        have H95 := Lib.hid h95; clear h95
        have H42 := Lib.hid h42; clear h42
        have H42b := Lib.hid h42b; clear h42b
        have HTM := Lib.hid hTM; clear hTM
        have HTD := Lib.hid hTD; clear hTD
        have HP := Lib.hid hP; clear hP hO
        have St := Lib.hid st; clear st
        go_upto_region 18 with fail
        go_cut [8] from 98 to 106 (fun p wx => ∃ B, p = .pointer (some ⟨B, 0, none⟩) ∧ X ≤ B ∧ TBox wx (fun b => (S b ∨ X ≤ b) ∧ b ≠ B) B TD ∧ OwnL PairR pairCells 81 7 wx S (w.heap.size + 2) (.slice a3 L.length cL) L ∧ ScSt w (.cells #[.int .i64 k.num, .string s.field, .float .f64 s.a, .slice sa s.sets.length sc, .slice fa nf fc] 46) wx)
        case first =>
          go_region_law (first
            | (go_simp; go_at_call 95; (with_reducible refine (H95.out _ _ (by (first | assumption | exact Below.refl _ _ | exact bel_drew (Below.refl _ _) | exact bel_alloc (Below.refl _ _) | exact bel_drew (bel_alloc (Below.refl _ _)) | exact bel_drew (bel_alloc (bel_alloc (Below.refl _ _))) | exact bel_alloc (by assumption) | exact bel_alloc (bel_alloc (by assumption)))) (by (first | exact strs_drew (strs_at _ _ n_multi_value_mode (by simp)) | exact strs_drew (strs_alloc (strs_at _ _ n_multi_value_mode (by simp))) | exact strs_at _ _ n_multi_value_mode (by simp) | exact strs_alloc (strs_at _ _ n_multi_value_mode (by simp))))).mono ?_); rintro e w6 ⟨kv, rfl, hO6, hb6⟩; have hb06 := via (show Below wc.heap.size wc _ by (first | assumption | exact Below.refl _ _ | exact bel_drew (Below.refl _ _) | exact bel_alloc (Below.refl _ _) | exact bel_drew (bel_alloc (Below.refl _ _)) | exact bel_drew (bel_alloc (bel_alloc (Below.refl _ _))) | exact bel_alloc (by assumption) | exact bel_alloc (bel_alloc (by assumption)))) hb6; have hs6 := hb6.size; have hq6 := hb06.size; have hlt6 : w.heap.size < w6.heap.size := (by omega); (try simp only [World.size_alloc, World.size_drew] at hs6); (try simp only [World.size_alloc, World.size_drew] at hO6); obtain ⟨y0, y1, y2, y3, y4⟩ := cells5 (St.out.below hb06).box; (first | (with_reducible have hz6 := zbel (zero_drew (zero_alloc (zero_new wc))) hb6) | (with_reducible have hz6 := zbel (zero_drew (zero_new (wc.alloc _))) hb6; simp only [World.size_alloc] at hz6) | skip))
            | (go_simp; go_at_call 42; (with_reducible refine (H42.out w6 _ _ kv hO6 (by (first | assumption | exact Below.refl _ _ | exact bel_drew (Below.refl _ _) | exact bel_alloc (Below.refl _ _) | exact bel_drew (bel_alloc (Below.refl _ _)) | exact bel_drew (bel_alloc (bel_alloc (Below.refl _ _))) | exact bel_alloc (by assumption) | exact bel_alloc (bel_alloc (by assumption))))).mono ?_); rintro e w7 ⟨⟨kind7, text7, num7, yes7, ka7, kn7, kc7, ca7, cn7, cc7⟩, rfl, hu7, hb7⟩; have hb07 := via (show Below wc.heap.size wc _ by (first | assumption | exact Below.refl _ _ | exact bel_drew (Below.refl _ _) | exact bel_alloc (Below.refl _ _) | exact bel_drew (bel_alloc (Below.refl _ _)) | exact bel_drew (bel_alloc (bel_alloc (Below.refl _ _))) | exact bel_alloc (by assumption) | exact bel_alloc (bel_alloc (by assumption)))) hb7; have hs7 := hb7.size; have hq7 := hb07.size; have hlt7 : w.heap.size < w7.heap.size := (by omega); (try simp only [World.size_alloc] at hs7); (try simp only [World.size_alloc] at hu7); obtain ⟨x0, x1, x2, x3, x4⟩ := cells5 (St.out.below hb07).box; (first | (with_reducible have hz7 := zbel (zero_new w6) hb7) | (with_reducible have hz7 := zbel hz6 hb7) | skip))
            | (go_simp; go_at_call 42; (with_reducible refine (H42b.out _ (fun b => (b < w7.heap.size ∧ ((b < w6.heap.size ∧ ((b < wc.heap.size ∧ (S b ∨ X ≤ b)) ∨ _ ≤ b)) ∨ _ ≤ b)) ∨ b = w7.heap.size) _ (sets_p hu7) (fun b h => by simp; omega)).mono ?_); rintro e w8 ⟨⟨kind8, text8, num8, yes8, ka8, kn8, kc8, ca8, cn8, cc8⟩, rfl, hu8, hb8⟩; have hb08 := via (show Below wc.heap.size wc _ by (first | assumption | exact Below.refl _ _ | exact bel_drew (Below.refl _ _) | exact bel_alloc (Below.refl _ _) | exact bel_drew (bel_alloc (Below.refl _ _)) | exact bel_drew (bel_alloc (bel_alloc (Below.refl _ _))) | exact bel_alloc (by assumption) | exact bel_alloc (bel_alloc (by assumption)))) hb8; have hs8 := hb8.size; (try simp only [World.size_alloc] at hs8); (try simp only [World.size_alloc] at hu8); (first | (with_reducible have hz8 := zbel (zero_alloc hz7) hb8) | skip); (first | (obtain ⟨z0, z1, z2, z3, z4, z5, zf, zl⟩ := hz8.cells) | skip))
            | (go_simp; go_at_call 42; (with_reducible refine (H42b.out _ (fun b => (b < w7.heap.size ∧ ((b < w6.heap.size ∧ ((b < wc.heap.size ∧ (S b ∨ X ≤ b)) ∨ _ ≤ b)) ∨ _ ≤ b)) ∨ b = w7.heap.size + 1) _ (sets_pz hu7) (fun b h => by simp; omega)).mono ?_); rintro e w8 ⟨⟨kind8, text8, num8, yes8, ka8, kn8, kc8, ca8, cn8, cc8⟩, rfl, hu8, hb8⟩; have hb08 := via (show Below wc.heap.size wc _ by (first | assumption | exact Below.refl _ _ | exact bel_drew (Below.refl _ _) | exact bel_alloc (Below.refl _ _) | exact bel_drew (bel_alloc (Below.refl _ _)) | exact bel_drew (bel_alloc (bel_alloc (Below.refl _ _))) | exact bel_alloc (by assumption) | exact bel_alloc (bel_alloc (by assumption)))) hb8; have hs8 := hb8.size; (try simp only [World.size_alloc] at hs8); (try simp only [World.size_alloc] at hu8); have hz8 := zbel (zero_alloc (zero_new w7)) hb8; obtain ⟨z0, z1, z2, z3, z4, z5, zf, zl⟩ := hz8.cells)
            | (go_simp; go_at_call 42; (with_reducible refine (H42b.out _ (fun b => (b < w7.heap.size ∧ ((b < w6.heap.size ∧ ((b < wc.heap.size ∧ (S b ∨ X ≤ b)) ∨ _ ≤ b)) ∨ _ ≤ b)) ∨ b = w7.heap.size) _ (sets_zp hu7) (fun b h => by simp; omega)).mono ?_); rintro e w8 ⟨⟨kind8, text8, num8, yes8, ka8, kn8, kc8, ca8, cn8, cc8⟩, rfl, hu8, hb8⟩; have hb08 := via (show Below wc.heap.size wc _ by (first | assumption | exact Below.refl _ _ | exact bel_drew (Below.refl _ _) | exact bel_alloc (Below.refl _ _) | exact bel_drew (bel_alloc (Below.refl _ _)) | exact bel_drew (bel_alloc (bel_alloc (Below.refl _ _))) | exact bel_alloc (by assumption) | exact bel_alloc (bel_alloc (by assumption)))) hb8; have hs8 := hb8.size; (try simp only [World.size_alloc] at hs8); (try simp only [World.size_alloc] at hu8); have hz8 := zbel (zero_new (w7.alloc _)) hb8; (try simp only [World.size_alloc] at hz8); obtain ⟨z0, z1, z2, z3, z4, z5, zf, zl⟩ := hz8.cells))
          all_goals (
            clear y0 y1 y2 y3 y4 x0 x1 x2 x3 x4 hO6 hu7 hb6 hb7 hb8 hb06 hb07
            have Hu8 := Lib.hid hu8
            have Hb08 := Lib.hid hb08
            clear hu8 hb08
            go_wp2_with fail
            go_meet
            case rel => first
              | (with_reducible refine d_new HP.out St.out Hb08.out Hu8.out (fun b _ h => ?_) ?_)
                · rcases h with ((⟨_, (⟨_, (⟨_, h⟩ | h)⟩ | h)⟩ | h) | h)
                  · exact h
                  · exact .inr (by omega)
                  · exact .inr (by omega)
                  · exact .inr (by omega)
                  · exact .inr (by omega)
                · omega
              | (with_reducible refine d_old HP.out St.out Hb08.out Hu8.out hz8 (fun b _ h => ?_) ?_ HSX.out hXo)
                · rcases h with ((⟨_, (⟨_, (⟨_, h⟩ | h)⟩ | h)⟩ | h) | h)
                  · exact ⟨h, by omega⟩
                  · exact ⟨.inr (by omega), by omega⟩
                  · exact ⟨.inr (by omega), by omega⟩
                  · exact ⟨.inr (by omega), by omega⟩
                  · exact ⟨.inr (by omega), by omega⟩
                · omega)
        case rest =>
        clear b0 b1 b2 b3 b4 HP St H95 H42 H42b hlw hlw' hXl
        obtain ⟨B, hBe, hXB, htb, hP, st⟩ := hcut
        subst hBe
        obtain ⟨b0, b1, b2, b3, b4⟩ := cells5 st.box
        have hlw := st.lt
        have hBl := htb.lt
        have hlst := last_any s.sets n_multi_value_mode S sa sc wc (Hsets.out.keep (Keeps.of_below S st.bel)) (by omega)
        obtain ⟨rm, hrm⟩ : ∃ r, r = lastOf s.sets n_multi_value_mode := ⟨_, rfl⟩
        rw [← hrm] at hlst
        have hdp : decayP k s = mvP s.field TM rm := by rw [decayP_eq, hrm, HTM.out, HOe.out]
        clear hrm
        have Hdp := Lib.hid hdp; clear hdp
        have Hlst := Lib.hid hlst; clear hlst
        have HP := Lib.hid hP; clear hP
        have Htb := Lib.hid htb; clear htb
        have St := Lib.hid st; clear st
        go_upto_if 113 with (go_at_call 99; refine Hlst.out.mono ?_; rintro e w3 ⟨⟨kind3, text3, num3, yes3, ka3, kn3, kc3, ca3, cn3, cc3⟩, rfl, hu, hb3⟩)
        have hb4 : Below wc.heap.size wc (w3.alloc (.cells #[.int .i64 kind3, .string text3, .float .f64 num3, .bool yes3, .slice ka3 kn3 kc3, .slice ca3 cn3 cc3] 31)) := hb3.alloc hb3.size _
        have hbx : Box6 _ w3.heap.size (.int .i64 kind3) (.string text3) (.float .f64 num3) (.bool yes3) (.slice ka3 kn3 kc3) (.slice ca3 cn3 cc3) := heap_alloc_new w3 (.cells #[.int .i64 kind3, .string text3, .float .f64 num3, .bool yes3, .slice ka3 kn3 kc3, .slice ca3 cn3 cc3] 31)
        have hu4 := hu.keep (Keeps.of_below S hb4)
        have St4 := Lib.hid (St.out.below hb4)
        have HP4 := Lib.hid (HP.out.below pair_law hb4)
        have htb4 := Htb.out.below hb4
        have hl4 := hb4.size
        clear hb4 hb3 hu HP St Htb b0 b1 b2 b3 b4
        generalize w3.alloc (.cells #[.int .i64 kind3, .string text3, .float .f64 num3, .bool yes3, .slice ka3 kn3 kc3, .slice ca3 cn3 cc3] 31) = w4 at *
        have Htb4 := Lib.hid htb4; clear htb4
        go_cut [] from 113 to 116 (fun wx => TBox wx (fun b => (S b ∨ X ≤ b) ∧ b ≠ B) B (mapE (decayP k s)) ∧ OwnL PairR pairCells 81 7 wx S (w.heap.size + 2) (.slice a3 L.length cL) L ∧ ScSt w (.cells #[.int .i64 k.num, .string s.field, .float .f64 s.a, .slice sa s.sets.length sc, .slice fa nf fc] 46) wx)
        case first =>
          cases rm with
          | none =>
            have hd : decayP k s = mapL [⟨s.field, TM⟩] := Hdp.out
            have Hd := Lib.hid hd; clear hd Hdp
            simp only [Option.isSome_none]
            clear hbx hu4
            go_wp2_with fail
            go_meet
            case rel => exact ⟨by rw [Hd.out, ← HTD.out]; exact Htb4.out, HP4.out, St4.out⟩
          | some m =>
            have hd : decayP k s = withE n_multi_value_mode m false (mapL [⟨s.field, TM⟩]) := Hdp.out
            have Hd := Lib.hid hd; clear hd Hdp
            simp only [Option.isSome_some, Option.getD_some] at hu4 ⊢
            obtain ⟨⟨kind6, text6, num6, yes6, ka6, kn6, kc6, ca6, cn6, cc6⟩, hbox, hv⟩ := Htb4.out.box
            simp only at hbox
            have h45 : Calls Tryz.prog 45 #[.agg #[.int .i64 kind6, .string text6, .float .f64 num6, .bool yes6, .slice ka6 kn6 kc6, .slice ca6 cn6 cc6], .string ⟨#[109, 117, 108, 116, 105, 95, 118, 97, 108, 117, 101, 95, 109, 111, 100, 101]⟩, .agg #[.int .i64 kind3, .string text3, .float .f64 num3, .bool yes3, .slice ka3 kn3 kc3, .slice ca3 cn3 cc3]] w4 (fun e w' => ∃ v' : TV, e = .returned v'.val ∧ RepT w' (fun b => (b < w4.heap.size ∧ ((S b ∨ X ≤ b) ∧ b ≠ B)) ∨ w4.heap.size ≤ b) v' (mapE (decayP k s)) ∧ Below w4.heap.size w4 w') := by
              have h1 := hv.mono (S' := fun b => b < w4.heap.size ∧ ((S b ∨ X ≤ b) ∧ b ≠ B)) (fun b hb h => ⟨hb, h⟩)
              have h2 := hu4.mono (S' := fun b => b < w4.heap.size ∧ ((S b ∨ X ≤ b) ∧ b ≠ B)) (fun b hb h => ⟨hb, .inl h, by have := HSX.out b h; omega⟩)
              rw [HTD.out] at h1
              refine (with_any _ _ n_multi_value_mode _ _ _ w4 h1 h2 (fun b hb => hb.1) (by rw [mapE_keys, mapE_kids, List.length_map, List.length_map]) (by rw [mapE_kids, List.length_map]; exact Nat.le_trans (mapL_length _) (by simp))).mono ?_
              rintro e w' ⟨v', rfl, hv', hb'⟩
              have e1 := prs_mapE (mapL [⟨s.field, TM⟩])
              unfold prs at e1
              rw [e1, ← Hd.out] at hv'
              exact ⟨v', rfl, hv', hb'⟩
            have H45 := Lib.hid h45; clear h45 hv
            obtain ⟨x0, x1, x2, x3, x4, x5, xf, xl⟩ := hbx.cells
            obtain ⟨y0, y1, y2, y3, y4, y5, yf, yl⟩ := hbox.cells
            have Hbox := Lib.hid hbox; clear hbox hbx hu4
            go_wp2_with (go_at_call 45; refine H45.out.mono ?_; rintro e w5 ⟨⟨kind5, text5, num5, yes5, ka5, kn5, kc5, ca5, cn5, cc5⟩, rfl, hu5, hb5⟩; obtain ⟨z0, z1, z2, z3, z4, z5, zf, zl⟩ := (Hbox.out.below hb5).cells)
            go_meet
            case rel =>
              have hl5 := hb5.size
              exact d_put (v := ⟨kind5, text5, num5, yes5, ka5, kn5, kc5, ca5, cn5, cc5⟩) (HP4.out.below pair_law hb5) (St4.out.below hb5) hu5 (Hbox.out.below hb5) (fun b _ hb => by rcases hb with ⟨_, h⟩ | h; exact h; exact ⟨.inr (by omega), by omega⟩) ⟨hX, hXB⟩ HSX.out hXo
        case rest =>
        clear hbx hu4 HP4 St4 Htb4 hl4 hlw hBl
        obtain ⟨htb, hP, st⟩ := hcut
        obtain ⟨⟨kind7, text7, num7, yes7, ka7, kn7, kc7, ca7, cn7, cc7⟩, hbox, hv⟩ := htb.box
        simp only at hbox
        obtain ⟨y0, y1, y2, y3, y4, y5, yf, yl⟩ := hbox.cells
        have HPt : Hid (OwnL PairR pairCells 81 7 wc (fun b => S b ∨ X ≤ b) (w.heap.size + 2) (.slice a3 L.length cL) L) := Lib.hid (hP.mono pair_law (fun b _ hb => .inl hb) (Nat.le_refl _))
        have Hut : Hid (RepT wc (fun b => S b ∨ X ≤ b) ⟨kind7, text7, num7, yes7, ka7, kn7, kc7, ca7, cn7, cc7⟩ (mapE (decayP k s))) := Lib.hid (hv.mono (fun b _ hb => hb.1))
        have Stt := Lib.hid st
        clear hv hbox htb hP st
        obtain ⟨vsP, hvlP, hrowP, hrepsP⟩ := HPt.out
        have HuP : Hid (RepT wc (fun b => (S b ∨ X ≤ b) ∧ (Value.slice a3 L.length cL).ownBlock ≠ some b) ⟨kind7, text7, num7, yes7, ka7, kn7, kc7, ca7, cn7, cc7⟩ (mapE (decayP k s))) := Lib.hid (Hut.out.mono (fun b _ hb => ⟨hb, fun e => by have h1 := hXo b e; have h2 := (hrowP.lt b e).1; rcases hb with h | h; have := HS.out b h; omega; omega⟩))
        have HrepsP := Lib.hid hrepsP; clear hrepsP
        have HvlP := Lib.hid hvlP; clear hvlP HPt Hut
        go_wp2_with (at_builtin; refine wpList_append_lies _ rfl _ _ _ rfl (w.heap.size + 2) 81 i0 _ 7 104 Tryz.underlying83 hi hz0 hz1 hz2 rfl (by omega) (.slice a3 L.length cL) L.length _ rfl (hrowP.alloc _) ⟨wc.heap.size, 0, none⟩ 1 1 [.string k.key, .int .i64 kind7, .string text7, .float .f64 num7, .bool yes7, .slice ka7 kn7 kc7, .slice ca7 cn7 cc7] rfl rfl (World.news_of_block (cs := #[.string k.key, .int .i64 kind7, .string text7, .float .f64 num7, .bool yes7, .slice ka7 kn7 kc7, .slice ca7 cn7 cc7]) (t := 81) (fr := (0, 0)) (heap_alloc_new wc _)) (by simp [Value.oneCell']) (by omega) (by unfold maxLen; omega) (by omega) (by simp; omega) (wc.heap.size + 1) (by simp) ?_; intro g8 cap8 w8 hown8 hgrow8 hat8 hlt8)
        obtain ⟨hP8, st8, hsz8⟩ := pairs_put (T := fun b => S b ∨ X ≤ b) (u := ⟨kind7, text7, num7, yes7, ka7, kn7, kc7, ca7, cn7, cc7⟩) (key := k.key) (t := mapE (decayP k s)) Stt.out (Nat.le_refl _) HvlP.out hrowP HrepsP.out HuP.out hown8 rfl hgrow8 hat8
        have hc8 := made_of hP8 (by rw [List.length_append]; simp; omega)
        have Hc8 := Lib.hid hc8; clear hc8 hP8
        have St8 := Lib.hid st8; clear st8
        have hlt8 := Stt.out.lt
        clear hgrow8 hat8 hown8 hrowP
        go_wp2_with (go_at_call 42; refine Hc8.out.mono ?_; rintro e w9 ⟨⟨kind9, text9, num9, yes9, ka9, kn9, kc9, ca9, cn9, cc9⟩, rfl, hu9, hb9⟩; obtain ⟨z0, z1, z2, z3, z4, z5, zf, zl⟩ := (St8.out.below hb9).zero.cells)
        have hst9 := St8.out.below hb9
        obtain ⟨p0, p1, p2, p3, p4, p5, _, _⟩ := (hst9.zero.put6 (.int .i64 kind9) (.string text9) (.float .f64 num9) (.bool yes9) (.slice ka9 kn9 kc9) (.slice ca9 cn9 cc9)).cells
        refine bodyPost_ret (v := .agg #[.int .i64 kind9, .string text9, .float .f64 num9, .bool yes9, .slice ka9 kn9 kc9, .slice ca9 cn9 cc9]) (by simp [results, Tryz.results50, go_sem, p0, p1, p2, p3, p4, p5]) rfl ?_
        rw [Hres.out, show keyP k s = mapE (decayP k s) by cases k <;> first | exact absurd rfl hkw | exact absurd rfl hkf | exact absurd rfl hkr | rfl]
        exact score_end (v := ⟨kind9, text9, num9, yes9, ka9, kn9, kc9, ca9, cn9, cc9⟩) HS.out hst9 hu9 (by omega)
end Go.Proofs.YtbcnhcpgloncdaaGreatDoor
