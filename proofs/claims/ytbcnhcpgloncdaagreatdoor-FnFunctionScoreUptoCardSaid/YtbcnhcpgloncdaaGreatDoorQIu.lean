/- 'Source' of a bool query: which entries its map has. -/
import Derived.Test.YtbcnhcpgloncdaaGreatDoorQIt
namespace Go.Proofs.YtbcnhcpgloncdaaGreatDoor
open Go Go.RowKit Go.BigFrame Go.Maps

/-- Clauses that lie as queries: each is proper and small. -/
def ClausesOK (n r : Nat) (ts : List Tr) : Prop := ∀ t ∈ ts, OkT n r t ∧ properT 100 t = true

theorem text_small47 {sets : List SetM} (h : ∀ s ∈ sets, s.val.text.size ≤ 9223372036854775807) (nm : ByteArray) : (textLast sets nm).size ≤ 9223372036854775807 := by
  unfold textLast
  cases e : lastOf sets nm with
  | none => decide
  | some t =>
    obtain ⟨s, hs, _, rfl⟩ := lastOf_of e
    exact h s hs
@[go_sem] theorem method59 (v : Value) (w : World) : (method 419 59 v "Source").run Tryz.prog w = .ok (277, v) w := by kernel_rfl
/-- What a row of queries holds. -/
theorem own_queries {w : World} {S : Nat → Prop} {base n c : Nat} {a : Option Addr} {ts : List Tr} (h : OwnL QueryR oneCell 114 1 w S base (.slice a n c) ts) (hpos : 0 < ts.length) :
    ∃ g, a = some ⟨g, 0, none⟩ ∧ g < w.heap.size ∧ ∀ k (hk : k < ts.length), ∃ u : TV, w.cell? ⟨g, k, none⟩ = some (.iface 59 u.val) ∧ RepT w S u ts[k] := by
  obtain ⟨us, h1, h2, h3⟩ := id h
  obtain ⟨g, cap, e, _⟩ := h2.form hpos
  injection e with e1 e2 e3
  subst e1
  obtain ⟨us, hul, hur, huc, _⟩ := own_flat h
  have hcell : ∀ k (hk : k < ts.length), ∃ u : TV, w.cell? ⟨g, k, none⟩ = some (.iface 59 u.val) ∧ RepT w S u ts[k] := by
    intro k hk
    have hk' : k < us.length := by omega
    obtain ⟨u, hu1, hu2⟩ := hur k us[k] ts[k] (List.getElem?_eq_getElem hk') (List.getElem?_eq_getElem hk)
    have hc := huc k us[k] (List.getElem?_eq_getElem hk')
    rw [hu1] at hc
    refine ⟨u, ?_, hu2⟩
    have e : (⟨g, 0, none⟩ : Addr).add k = ⟨g, k, none⟩ := by rw [WideShapes.add_plain]; simp
    rw [← e]; exact hc
  obtain ⟨u, hu, _⟩ := hcell 0 hpos
  exact ⟨g, rfl, World.block_lt_of_cell? w _ hu, hcell⟩

set_option maxRecDepth 100000 in
set_option maxHeartbeats 100000000 in
theorem srcBool_any (sets : List SetM) (w : World) (h : Nat) (hq : BQ w h sets) (n0 r0 : Nat) (hn0 : n0 ≤ 4294967296) (hr0 : r0 ≤ 9223372036854775807) (hcl : ∀ pl ∈ placesB, ClausesOK n0 r0 (clausesT pl sets)) (hbd : ∀ pl, (clausesT pl sets).length ≤ 1048576) (hsm : ∀ s ∈ sets, s.val.text.size ≤ 9223372036854775807) (hms : (msmOf sets).size ≤ 9223372036854775807) :
    Calls Tryz.prog 91 #[.pointer (some ⟨h + 5, 0, none⟩)] w fun e w' => ∃ v, e = .returned (.tuple #[v, .nilIface]) ∧ AnyAt w' (fun _ => True) v (boolT sets) ∧ Below w.heap.size w w' := by
  obtain ⟨i0, hi, hz0, hz1, hz2⟩ := info_parts Tryz.info20
  obtain ⟨X, m, n, f, sh, pb, pa, hX, hbx, hr, hpb, hpa⟩ := hq
  obtain ⟨_, _, _, _, _, _, _, _, _, _, hlt⟩ := cells9 hbx
  have Hbx := Lib.hid hbx; clear hbx
  have Hr := Lib.hid hr; clear hr
  have Hpb := Lib.hid hpb; clear hpb
  have Hpa := Lib.hid hpa; clear hpa
  have Hcl := Lib.hid hcl; clear hcl
  have Hbd := Lib.hid hbd; clear hbd
  have Hsm := Lib.hid hsm; clear hsm
  have Hms := Lib.hid hms; clear hms
  have Hn0 := Lib.hid (And.intro hn0 hr0); clear hn0 hr0
  clear hX
  have hm0 := World.ownsMap_made w Tryz.prog 9 R9
  have hm1 := World.ownsMap_made (w.alloc (.map #[] 0)) Tryz.prog 9 R9
  rw [World.size_alloc] at hm1
  have k1 := key_of [98, 111, 111, 108] (by decide)
  go_enter Tryz.func91, Tryz.ntmps91
  go_upto_region 4 with (at_mapUpdate; refine wpList_mapUpdate_own _ rfl _ _ _ 122 rfl 9 20 keyed9 Tryz.underlying122 R9 w.heap.size 0 _ rfl (hm0.alloc _) (by decide) (.string ⟨#[98, 111, 111, 108]⟩) (.iface 122 (.map (some (w.heap.size + 1)))) _ rfl rfl k1 (.held (.iface 122 (.map (some (w.heap.size + 1))))) [] rfl ?_; intro w1 hn0 hg1)
  have hcut : SrcRel w n_bool (boolSrc sets 0) 0 w1 := by
    have h1 := hg1.size
    simp at h1
    refine ⟨by omega, ⟨0, [], hm1.kept hg1 (by simp), Nat.le_refl _, by simpa [boolSrc] using EntriesOK.nil _ _⟩, ⟨_, hn0⟩, ?_⟩
    exact ((((Below.refl _ _).alloc (Nat.le_refl _) _).alloc (by simp) _).grown hg1 (by simp; omega) (fun k hk => by injection hk with hk; omega))
  clear hm0 hm1 k1 hn0 hg1

  -- must
  have hstep := boolSrc_succ sets (i := 0) (es := placeEnt (normT 100) n_must (clausesT n_must sets)) rfl
  have Hstep := Lib.hid hstep; clear hstep
  have Hcut := Lib.hid hcut; clear hcut
  obtain ⟨_, c1, c2, c3, c4, _, _, _, _, _, _⟩ := cells9 ((Hcut.out.bel.block (h + 5) hlt).trans Hbx.out)
  have cq := c1
  clear c1 c2 c3 c4
  have hown := (Hr.out.below Hcut.out.bel).own 0 m (clausesT n_must sets) rfl rfl
  have hbase := Hcut.out.sz
  have kk := key_of [109, 117, 115, 116] (by decide)
  obtain ⟨nn, es, hmap, hnn, hes⟩ := Hcut.out.map
  have hnm : nn < maxLen := by unfold maxLen; omega
  have Hes := Lib.hid hes; clear hes
  have Hok := Lib.hid (Hcl.out n_must (memB_iff.1 (by decide +kernel)))
  have hlen := Hbd.out n_must
  generalize clausesT n_must sets = ts at hown hlen Hok Hstep
  obtain ⟨qa, qc, hform⟩ := hown.form
  rw [hform] at cq hown
  have Hown := Lib.hid hown; clear hown
  clear hform
  go_upto_if 44 with fail
  go_cut [6, 7, 8, 10, 11, 12] from 39 to 90 (fun _ _ _ _ _ _ wr => SrcRel w n_bool (boolSrc sets 1) 1 wr)
  case first =>
    as_aux_lemma =>
    rcases ts with _ | ⟨t, _ | ⟨t2, rest⟩⟩
    · simp only [List.length_nil, Int.natCast_zero]
      go_wp2_with fail
      go_meet
      case rel => exact Hcut.out.skip (by rw [Hstep.out]; simp [placeEnt])
    · obtain ⟨g, rfl, hgl, hcells⟩ := own_queries Hown.out (by simp)
      obtain ⟨⟨kd, tx, nu, ys, ka, kn, kc, ca, cn, cc⟩, hc0, hr0⟩ := hcells 0 (by simp)
      simp only [List.getElem_cons_zero] at hr0
      have Hr0 := Lib.hid hr0; clear hr0 hcells
      have Ht := Lib.hid (Hok.out t (by simp))
      clear hlen Hok
      simp only [List.length_cons, List.length_nil, Nat.zero_add]
      go_wp2_with (first
        | (go_at_call 277; refine (given_any t n0 r0 100 Hn0.out.1 Hn0.out.2 Ht.out.1 Ht.out.2 ⟨kd, tx, nu, ys, ka, kn, kc, ca, cn, cc⟩ _ _ Hr0.out).mono ?_; rintro e w2 ⟨ty, x, rfl, hany, hb2⟩; have Hany := Lib.hid hany; clear hany; have hmap2 := hmap.kept (Below.grow hb2) (by simp))
        | (at_mapUpdate; refine wpList_mapUpdate_own _ rfl _ _ _ 122 rfl 9 20 keyed9 Tryz.underlying122 R9 (w.heap.size + 1) nn _ rfl hmap2 hnm (.string ⟨#[109, 117, 115, 116]⟩) (.iface ty x) _ rfl rfl kk (.held (.iface ty x)) [] rfl ?_; intro w3 hn3 hg3))
      go_meet
      case rel => exact (Hcut.out.below hb2).put hnn (Hes.out.keep (Keeps.of_below _ hb2)) (k := ⟨#[109, 117, 115, 116]⟩) hn3 hg3 (Hany.out.mono (fun b _ hb => by omega)) (by rw [Hstep.out]; rfl)
    · have h2 : 2 ≤ (t :: t2 :: rest).length := by simp
      have hpe : placeEnt (normT 100) n_must (t :: t2 :: rest) = [(n_must, listT ((t :: t2 :: rest).map (normT 100)))] := rfl
      generalize t :: t2 :: rest = ts at *
      have Hpe := Lib.hid hpe; clear hpe
      have hn1 : ((ts.length : Int) == 1) = false := by rw [beq_eq_false_iff_ne]; omega
      have hn2 : (1 : Int) < (ts.length : Int) := by omega
      simp only [hn1]
      obtain ⟨g, rfl, hgl, hcells⟩ := own_queries Hown.out (by omega)
      have Hcells := Lib.hid hcells; clear hcells
      go_wp2_with fail
      go_loopw [71, 8] (fun i v wr => ∃ (k : Nat) (a : Option Addr) (c : Nat), k ≤ ts.length ∧ i = .int .i64 k ∧ v = .slice a k c ∧ ValsAt wr w1.heap.size (.slice a k c) ((ts.take k).map (normT 100)) ∧ Below w1.heap.size w1 wr) (fun i _ _ => ts.length - (intOf i).toNat)
      case atStart => exact ⟨0, none, 0, Nat.zero_le _, rfl, rfl, ⟨[], by simp, ⟨by simp, .inl ⟨rfl, rfl⟩⟩, fun i v t h => by simp at h⟩, Below.refl _ _⟩
      case round =>
        obtain ⟨k, a, c, hk, rfl, rfl, hvals, hbel⟩ := hrel
        have hb2 := hbel.size
        by_cases hlt : k < ts.length
        · obtain ⟨⟨kd, tx, nu, ys, ka, kn, kc, ca, cn, cc⟩, hc0, hr0⟩ := Hcells.out k hlt
          have hck := (hbel.cell (p := ⟨g, k, none⟩) hgl).trans hc0
          have Hr0 := Lib.hid (hr0.keep (Keeps.of_below _ hbel)); clear hr0 hc0
          have Ht := Lib.hid (Hok.out ts[k] (List.getElem_mem hlt))
          have hk1 : Hid ((ts.take (k + 1)).map (normT 100) = (ts.take k).map (normT 100) ++ [normT 100 ts[k]]) := Lib.hid (by rw [List.take_succ_eq_append_getElem hlt, List.map_append]; rfl)
          have hkl : Hid (((ts.take k).map (normT 100)).length = k) := Lib.hid (by rw [List.length_map, List.length_take]; omega)
          generalize ts[k] = t at *
          obtain ⟨vs, hvl, hrow, hreps⟩ := hvals
          rw [hkl.out] at hrow
          have Hvl := Lib.hid hvl; clear hvl
          have Hreps := Lib.hid hreps; clear hreps
          have Hrow := Lib.hid hrow; clear hrow
          have Hbel := Lib.hid hbel; clear hbel
          have hi1 : (0 : Int) ≤ (k : Int) := by omega
          have hi2 : (k : Int) < (ts.length : Int) := by omega
          go_upto_region 17 with (go_at_call 277; refine (given_any t n0 r0 100 Hn0.out.1 Hn0.out.2 Ht.out.1 Ht.out.2 ⟨kd, tx, nu, ys, ka, kn, kc, ca, cn, cc⟩ _ _ Hr0.out).mono ?_; rintro e w2 ⟨ty, x, rfl, hany, hb3⟩; have Hany := Lib.hid hany; clear hany)
          have hrow2 := ownsRow_below Hrow.out hb3
          have hsz3 := hb3.size
          go_wp2_with (at_builtin; refine wpList_append_lies _ rfl _ _ _ rfl w1.heap.size 20 i0 _ 1 16 Tryz.underlying123 hi hz0 hz1 hz2 rfl (by omega) (.slice a k c) k vs rfl (hrow2.alloc _) ⟨w2.heap.size, 0, none⟩ 1 1 [.iface ty x] rfl rfl (World.news_of_block (cs := #[.iface ty x]) (t := 20) (fr := (0, 0)) (heap_alloc_new w2 _)) (by simp [Value.oneCell']) (by omega) (by unfold maxLen; omega) (by omega) (by simp; omega) (w2.heap.size + 1) (by simp) ?_; intro gg cap' w3 hown3 hgrow hat hlt3)
          have hv3 := vals_round hkl.out hb2 Hvl.out Hreps.out Hrow.out hb3 Hany.out _ hgrow hat hown3
          have hbel3 := ((via Hbel.out hb3).alloc (by omega) _).grown hgrow (by simp; omega) (fun k hk => (Hrow.out.lt k hk).1)
          have Hv3 := Lib.hid hv3
          have Hbel3 := Lib.hid hbel3
          clear hv3 hbel3 hgrow hat hown3 hrow2
          go_wp2_with fail
          go_roundw
          case rel => exact ⟨k + 1, some ⟨gg, 0, none⟩, cap', by omega, by simp, by simp, by rw [hk1.out]; exact Hv3.out, Hbel3.out⟩
          case measure => simp [intOf]; omega
        · obtain rfl : k = ts.length := by omega
          rw [List.take_length] at hvals
          have hany := hvals.any (by rw [List.length_map]; omega)
          rw [List.length_map] at hany
          have Hany := Lib.hid hany; clear hany hvals
          have hmap2 := hmap.kept (Below.grow hbel) (by simp)
          go_wp2_with (at_mapUpdate; refine wpList_mapUpdate_own _ rfl _ _ _ 122 rfl 9 20 keyed9 Tryz.underlying122 R9 (w.heap.size + 1) nn _ rfl hmap2 hnm (.string ⟨#[109, 117, 115, 116]⟩) (.iface 123 (.slice a ts.length c)) _ rfl rfl kk (.held (.iface 123 (.slice a ts.length c))) [] rfl ?_; intro w3 hn3 hg3)
          go_meet
          case rel => exact (Hcut.out.below hbel).put hnn (Hes.out.keep (Keeps.of_below _ hbel)) (k := ⟨#[109, 117, 115, 116]⟩) hn3 hg3 (Hany.out.mono (fun b _ hb => by omega)) (by rw [Hstep.out, Hpe.out]; rfl)
  case rest =>
  clear cq Hown hbase kk hmap hnn hnm Hes Hok hlen Hstep Hcut nn es ts qa qc

  -- must_not
  have hstep := boolSrc_succ sets (i := 1) (es := placeEnt (normT 100) n_must_not (clausesT n_must_not sets)) rfl
  have Hstep := Lib.hid hstep; clear hstep
  have Hcut := Lib.hid hcut; clear hcut
  obtain ⟨_, c1, c2, c3, c4, _, _, _, _, _, _⟩ := cells9 ((Hcut.out.bel.block (h + 5) hlt).trans Hbx.out)
  have cq := c2
  clear c1 c2 c3 c4
  have hown := (Hr.out.below Hcut.out.bel).own 1 n (clausesT n_must_not sets) rfl rfl
  have hbase := Hcut.out.sz
  have kk := key_of [109, 117, 115, 116, 95, 110, 111, 116] (by decide)
  obtain ⟨nn, es, hmap, hnn, hes⟩ := Hcut.out.map
  have hnm : nn < maxLen := by unfold maxLen; omega
  have Hes := Lib.hid hes; clear hes
  have Hok := Lib.hid (Hcl.out n_must_not (memB_iff.1 (by decide +kernel)))
  have hlen := Hbd.out n_must_not
  generalize clausesT n_must_not sets = ts at hown hlen Hok Hstep
  obtain ⟨qa, qc, hform⟩ := hown.form
  rw [hform] at cq hown
  have Hown := Lib.hid hown; clear hown
  clear hform
  go_upto_if 96 with fail
  go_cut [13, 14, 15, 17, 18, 19] from 91 to 142 (fun _ _ _ _ _ _ wr => SrcRel w n_bool (boolSrc sets 2) 2 wr)
  case first =>
    as_aux_lemma =>
    rcases ts with _ | ⟨t, _ | ⟨t2, rest⟩⟩
    · simp only [List.length_nil, Int.natCast_zero]
      go_wp2_with fail
      go_meet
      case rel => exact Hcut.out.skip (by rw [Hstep.out]; simp [placeEnt])
    · obtain ⟨g, rfl, hgl, hcells⟩ := own_queries Hown.out (by simp)
      obtain ⟨⟨kd, tx, nu, ys, ka, kn, kc, ca, cn, cc⟩, hc0, hr0⟩ := hcells 0 (by simp)
      simp only [List.getElem_cons_zero] at hr0
      have Hr0 := Lib.hid hr0; clear hr0 hcells
      have Ht := Lib.hid (Hok.out t (by simp))
      clear hlen Hok
      simp only [List.length_cons, List.length_nil, Nat.zero_add]
      go_wp2_with (first
        | (go_at_call 277; refine (given_any t n0 r0 100 Hn0.out.1 Hn0.out.2 Ht.out.1 Ht.out.2 ⟨kd, tx, nu, ys, ka, kn, kc, ca, cn, cc⟩ _ _ Hr0.out).mono ?_; rintro e w2 ⟨ty, x, rfl, hany, hb2⟩; have Hany := Lib.hid hany; clear hany; have hmap2 := hmap.kept (Below.grow hb2) (by simp))
        | (at_mapUpdate; refine wpList_mapUpdate_own _ rfl _ _ _ 122 rfl 9 20 keyed9 Tryz.underlying122 R9 (w.heap.size + 1) nn _ rfl hmap2 hnm (.string ⟨#[109, 117, 115, 116, 95, 110, 111, 116]⟩) (.iface ty x) _ rfl rfl kk (.held (.iface ty x)) [] rfl ?_; intro w3 hn3 hg3))
      go_meet
      case rel => exact (Hcut.out.below hb2).put hnn (Hes.out.keep (Keeps.of_below _ hb2)) (k := ⟨#[109, 117, 115, 116, 95, 110, 111, 116]⟩) hn3 hg3 (Hany.out.mono (fun b _ hb => by omega)) (by rw [Hstep.out]; rfl)
    · have h2 : 2 ≤ (t :: t2 :: rest).length := by simp
      have hpe : placeEnt (normT 100) n_must_not (t :: t2 :: rest) = [(n_must_not, listT ((t :: t2 :: rest).map (normT 100)))] := rfl
      generalize t :: t2 :: rest = ts at *
      have Hpe := Lib.hid hpe; clear hpe
      have hn1 : ((ts.length : Int) == 1) = false := by rw [beq_eq_false_iff_ne]; omega
      have hn2 : (1 : Int) < (ts.length : Int) := by omega
      simp only [hn1]
      obtain ⟨g, rfl, hgl, hcells⟩ := own_queries Hown.out (by omega)
      have Hcells := Lib.hid hcells; clear hcells
      go_wp2_with fail
      go_loopw [123, 15] (fun i v wr => ∃ (k : Nat) (a : Option Addr) (c : Nat), k ≤ ts.length ∧ i = .int .i64 k ∧ v = .slice a k c ∧ ValsAt wr wc.heap.size (.slice a k c) ((ts.take k).map (normT 100)) ∧ Below wc.heap.size wc wr) (fun i _ _ => ts.length - (intOf i).toNat)
      case atStart => exact ⟨0, none, 0, Nat.zero_le _, rfl, rfl, ⟨[], by simp, ⟨by simp, .inl ⟨rfl, rfl⟩⟩, fun i v t h => by simp at h⟩, Below.refl _ _⟩
      case round =>
        obtain ⟨k, a, c, hk, rfl, rfl, hvals, hbel⟩ := hrel
        have hb2 := hbel.size
        by_cases hlt : k < ts.length
        · obtain ⟨⟨kd, tx, nu, ys, ka, kn, kc, ca, cn, cc⟩, hc0, hr0⟩ := Hcells.out k hlt
          have hck := (hbel.cell (p := ⟨g, k, none⟩) hgl).trans hc0
          have Hr0 := Lib.hid (hr0.keep (Keeps.of_below _ hbel)); clear hr0 hc0
          have Ht := Lib.hid (Hok.out ts[k] (List.getElem_mem hlt))
          have hk1 : Hid ((ts.take (k + 1)).map (normT 100) = (ts.take k).map (normT 100) ++ [normT 100 ts[k]]) := Lib.hid (by rw [List.take_succ_eq_append_getElem hlt, List.map_append]; rfl)
          have hkl : Hid (((ts.take k).map (normT 100)).length = k) := Lib.hid (by rw [List.length_map, List.length_take]; omega)
          generalize ts[k] = t at *
          obtain ⟨vs, hvl, hrow, hreps⟩ := hvals
          rw [hkl.out] at hrow
          have Hvl := Lib.hid hvl; clear hvl
          have Hreps := Lib.hid hreps; clear hreps
          have Hrow := Lib.hid hrow; clear hrow
          have Hbel := Lib.hid hbel; clear hbel
          have hi1 : (0 : Int) ≤ (k : Int) := by omega
          have hi2 : (k : Int) < (ts.length : Int) := by omega
          go_upto_region 33 with (go_at_call 277; refine (given_any t n0 r0 100 Hn0.out.1 Hn0.out.2 Ht.out.1 Ht.out.2 ⟨kd, tx, nu, ys, ka, kn, kc, ca, cn, cc⟩ _ _ Hr0.out).mono ?_; rintro e w2 ⟨ty, x, rfl, hany, hb3⟩; have Hany := Lib.hid hany; clear hany)
          have hrow2 := ownsRow_below Hrow.out hb3
          have hsz3 := hb3.size
          go_wp2_with (at_builtin; refine wpList_append_lies _ rfl _ _ _ rfl wc.heap.size 20 i0 _ 1 16 Tryz.underlying123 hi hz0 hz1 hz2 rfl (by omega) (.slice a k c) k vs rfl (hrow2.alloc _) ⟨w2.heap.size, 0, none⟩ 1 1 [.iface ty x] rfl rfl (World.news_of_block (cs := #[.iface ty x]) (t := 20) (fr := (0, 0)) (heap_alloc_new w2 _)) (by simp [Value.oneCell']) (by omega) (by unfold maxLen; omega) (by omega) (by simp; omega) (w2.heap.size + 1) (by simp) ?_; intro gg cap' w3 hown3 hgrow hat hlt3)
          have hv3 := vals_round hkl.out hb2 Hvl.out Hreps.out Hrow.out hb3 Hany.out _ hgrow hat hown3
          have hbel3 := ((via Hbel.out hb3).alloc (by omega) _).grown hgrow (by simp; omega) (fun k hk => (Hrow.out.lt k hk).1)
          have Hv3 := Lib.hid hv3
          have Hbel3 := Lib.hid hbel3
          clear hv3 hbel3 hgrow hat hown3 hrow2
          go_wp2_with fail
          go_roundw
          case rel => exact ⟨k + 1, some ⟨gg, 0, none⟩, cap', by omega, by simp, by simp, by rw [hk1.out]; exact Hv3.out, Hbel3.out⟩
          case measure => simp [intOf]; omega
        · obtain rfl : k = ts.length := by omega
          rw [List.take_length] at hvals
          have hany := hvals.any (by rw [List.length_map]; omega)
          rw [List.length_map] at hany
          have Hany := Lib.hid hany; clear hany hvals
          have hmap2 := hmap.kept (Below.grow hbel) (by simp)
          go_wp2_with (at_mapUpdate; refine wpList_mapUpdate_own _ rfl _ _ _ 122 rfl 9 20 keyed9 Tryz.underlying122 R9 (w.heap.size + 1) nn _ rfl hmap2 hnm (.string ⟨#[109, 117, 115, 116, 95, 110, 111, 116]⟩) (.iface 123 (.slice a ts.length c)) _ rfl rfl kk (.held (.iface 123 (.slice a ts.length c))) [] rfl ?_; intro w3 hn3 hg3)
          go_meet
          case rel => exact (Hcut.out.below hbel).put hnn (Hes.out.keep (Keeps.of_below _ hbel)) (k := ⟨#[109, 117, 115, 116, 95, 110, 111, 116]⟩) hn3 hg3 (Hany.out.mono (fun b _ hb => by omega)) (by rw [Hstep.out, Hpe.out]; rfl)
  case rest =>
  clear cq Hown hbase kk hmap hnn hnm Hes Hok hlen Hstep Hcut nn es ts qa qc

  -- filter
  have hstep := boolSrc_succ sets (i := 2) (es := placeEnt (normT 100) n_filter (clausesT n_filter sets)) rfl
  have Hstep := Lib.hid hstep; clear hstep
  have Hcut := Lib.hid hcut; clear hcut
  obtain ⟨_, c1, c2, c3, c4, _, _, _, _, _, _⟩ := cells9 ((Hcut.out.bel.block (h + 5) hlt).trans Hbx.out)
  have cq := c3
  clear c1 c2 c3 c4
  have hown := (Hr.out.below Hcut.out.bel).own 2 f (clausesT n_filter sets) rfl rfl
  have hbase := Hcut.out.sz
  have kk := key_of [102, 105, 108, 116, 101, 114] (by decide)
  obtain ⟨nn, es, hmap, hnn, hes⟩ := Hcut.out.map
  have hnm : nn < maxLen := by unfold maxLen; omega
  have Hes := Lib.hid hes; clear hes
  have Hok := Lib.hid (Hcl.out n_filter (memB_iff.1 (by decide +kernel)))
  have hlen := Hbd.out n_filter
  generalize clausesT n_filter sets = ts at hown hlen Hok Hstep
  obtain ⟨qa, qc, hform⟩ := hown.form
  rw [hform] at cq hown
  have Hown := Lib.hid hown; clear hown
  clear hform
  go_upto_if 148 with fail
  go_cut [20, 21, 22, 24, 25, 26] from 143 to 194 (fun _ _ _ _ _ _ wr => SrcRel w n_bool (boolSrc sets 3) 3 wr)
  case first =>
    as_aux_lemma =>
    rcases ts with _ | ⟨t, _ | ⟨t2, rest⟩⟩
    · simp only [List.length_nil, Int.natCast_zero]
      go_wp2_with fail
      go_meet
      case rel => exact Hcut.out.skip (by rw [Hstep.out]; simp [placeEnt])
    · obtain ⟨g, rfl, hgl, hcells⟩ := own_queries Hown.out (by simp)
      obtain ⟨⟨kd, tx, nu, ys, ka, kn, kc, ca, cn, cc⟩, hc0, hr0⟩ := hcells 0 (by simp)
      simp only [List.getElem_cons_zero] at hr0
      have Hr0 := Lib.hid hr0; clear hr0 hcells
      have Ht := Lib.hid (Hok.out t (by simp))
      clear hlen Hok
      simp only [List.length_cons, List.length_nil, Nat.zero_add]
      go_wp2_with (first
        | (go_at_call 277; refine (given_any t n0 r0 100 Hn0.out.1 Hn0.out.2 Ht.out.1 Ht.out.2 ⟨kd, tx, nu, ys, ka, kn, kc, ca, cn, cc⟩ _ _ Hr0.out).mono ?_; rintro e w2 ⟨ty, x, rfl, hany, hb2⟩; have Hany := Lib.hid hany; clear hany; have hmap2 := hmap.kept (Below.grow hb2) (by simp))
        | (at_mapUpdate; refine wpList_mapUpdate_own _ rfl _ _ _ 122 rfl 9 20 keyed9 Tryz.underlying122 R9 (w.heap.size + 1) nn _ rfl hmap2 hnm (.string ⟨#[102, 105, 108, 116, 101, 114]⟩) (.iface ty x) _ rfl rfl kk (.held (.iface ty x)) [] rfl ?_; intro w3 hn3 hg3))
      go_meet
      case rel => exact (Hcut.out.below hb2).put hnn (Hes.out.keep (Keeps.of_below _ hb2)) (k := ⟨#[102, 105, 108, 116, 101, 114]⟩) hn3 hg3 (Hany.out.mono (fun b _ hb => by omega)) (by rw [Hstep.out]; rfl)
    · have h2 : 2 ≤ (t :: t2 :: rest).length := by simp
      have hpe : placeEnt (normT 100) n_filter (t :: t2 :: rest) = [(n_filter, listT ((t :: t2 :: rest).map (normT 100)))] := rfl
      generalize t :: t2 :: rest = ts at *
      have Hpe := Lib.hid hpe; clear hpe
      have hn1 : ((ts.length : Int) == 1) = false := by rw [beq_eq_false_iff_ne]; omega
      have hn2 : (1 : Int) < (ts.length : Int) := by omega
      simp only [hn1]
      obtain ⟨g, rfl, hgl, hcells⟩ := own_queries Hown.out (by omega)
      have Hcells := Lib.hid hcells; clear hcells
      go_wp2_with fail
      go_loopw [175, 22] (fun i v wr => ∃ (k : Nat) (a : Option Addr) (c : Nat), k ≤ ts.length ∧ i = .int .i64 k ∧ v = .slice a k c ∧ ValsAt wr wc.heap.size (.slice a k c) ((ts.take k).map (normT 100)) ∧ Below wc.heap.size wc wr) (fun i _ _ => ts.length - (intOf i).toNat)
      case atStart => exact ⟨0, none, 0, Nat.zero_le _, rfl, rfl, ⟨[], by simp, ⟨by simp, .inl ⟨rfl, rfl⟩⟩, fun i v t h => by simp at h⟩, Below.refl _ _⟩
      case round =>
        obtain ⟨k, a, c, hk, rfl, rfl, hvals, hbel⟩ := hrel
        have hb2 := hbel.size
        by_cases hlt : k < ts.length
        · obtain ⟨⟨kd, tx, nu, ys, ka, kn, kc, ca, cn, cc⟩, hc0, hr0⟩ := Hcells.out k hlt
          have hck := (hbel.cell (p := ⟨g, k, none⟩) hgl).trans hc0
          have Hr0 := Lib.hid (hr0.keep (Keeps.of_below _ hbel)); clear hr0 hc0
          have Ht := Lib.hid (Hok.out ts[k] (List.getElem_mem hlt))
          have hk1 : Hid ((ts.take (k + 1)).map (normT 100) = (ts.take k).map (normT 100) ++ [normT 100 ts[k]]) := Lib.hid (by rw [List.take_succ_eq_append_getElem hlt, List.map_append]; rfl)
          have hkl : Hid (((ts.take k).map (normT 100)).length = k) := Lib.hid (by rw [List.length_map, List.length_take]; omega)
          generalize ts[k] = t at *
          obtain ⟨vs, hvl, hrow, hreps⟩ := hvals
          rw [hkl.out] at hrow
          have Hvl := Lib.hid hvl; clear hvl
          have Hreps := Lib.hid hreps; clear hreps
          have Hrow := Lib.hid hrow; clear hrow
          have Hbel := Lib.hid hbel; clear hbel
          have hi1 : (0 : Int) ≤ (k : Int) := by omega
          have hi2 : (k : Int) < (ts.length : Int) := by omega
          go_upto_region 49 with (go_at_call 277; refine (given_any t n0 r0 100 Hn0.out.1 Hn0.out.2 Ht.out.1 Ht.out.2 ⟨kd, tx, nu, ys, ka, kn, kc, ca, cn, cc⟩ _ _ Hr0.out).mono ?_; rintro e w2 ⟨ty, x, rfl, hany, hb3⟩; have Hany := Lib.hid hany; clear hany)
          have hrow2 := ownsRow_below Hrow.out hb3
          have hsz3 := hb3.size
          go_wp2_with (at_builtin; refine wpList_append_lies _ rfl _ _ _ rfl wc.heap.size 20 i0 _ 1 16 Tryz.underlying123 hi hz0 hz1 hz2 rfl (by omega) (.slice a k c) k vs rfl (hrow2.alloc _) ⟨w2.heap.size, 0, none⟩ 1 1 [.iface ty x] rfl rfl (World.news_of_block (cs := #[.iface ty x]) (t := 20) (fr := (0, 0)) (heap_alloc_new w2 _)) (by simp [Value.oneCell']) (by omega) (by unfold maxLen; omega) (by omega) (by simp; omega) (w2.heap.size + 1) (by simp) ?_; intro gg cap' w3 hown3 hgrow hat hlt3)
          have hv3 := vals_round hkl.out hb2 Hvl.out Hreps.out Hrow.out hb3 Hany.out _ hgrow hat hown3
          have hbel3 := ((via Hbel.out hb3).alloc (by omega) _).grown hgrow (by simp; omega) (fun k hk => (Hrow.out.lt k hk).1)
          have Hv3 := Lib.hid hv3
          have Hbel3 := Lib.hid hbel3
          clear hv3 hbel3 hgrow hat hown3 hrow2
          go_wp2_with fail
          go_roundw
          case rel => exact ⟨k + 1, some ⟨gg, 0, none⟩, cap', by omega, by simp, by simp, by rw [hk1.out]; exact Hv3.out, Hbel3.out⟩
          case measure => simp [intOf]; omega
        · obtain rfl : k = ts.length := by omega
          rw [List.take_length] at hvals
          have hany := hvals.any (by rw [List.length_map]; omega)
          rw [List.length_map] at hany
          have Hany := Lib.hid hany; clear hany hvals
          have hmap2 := hmap.kept (Below.grow hbel) (by simp)
          go_wp2_with (at_mapUpdate; refine wpList_mapUpdate_own _ rfl _ _ _ 122 rfl 9 20 keyed9 Tryz.underlying122 R9 (w.heap.size + 1) nn _ rfl hmap2 hnm (.string ⟨#[102, 105, 108, 116, 101, 114]⟩) (.iface 123 (.slice a ts.length c)) _ rfl rfl kk (.held (.iface 123 (.slice a ts.length c))) [] rfl ?_; intro w3 hn3 hg3)
          go_meet
          case rel => exact (Hcut.out.below hbel).put hnn (Hes.out.keep (Keeps.of_below _ hbel)) (k := ⟨#[102, 105, 108, 116, 101, 114]⟩) hn3 hg3 (Hany.out.mono (fun b _ hb => by omega)) (by rw [Hstep.out, Hpe.out]; rfl)
  case rest =>
  clear cq Hown hbase kk hmap hnn hnm Hes Hok hlen Hstep Hcut nn es ts qa qc

  -- should
  have hstep := boolSrc_succ sets (i := 3) (es := placeEnt (normT 100) n_should (clausesT n_should sets)) rfl
  have Hstep := Lib.hid hstep; clear hstep
  have Hcut := Lib.hid hcut; clear hcut
  obtain ⟨_, c1, c2, c3, c4, _, _, _, _, _, _⟩ := cells9 ((Hcut.out.bel.block (h + 5) hlt).trans Hbx.out)
  have cq := c4
  clear c1 c2 c3 c4
  have hown := (Hr.out.below Hcut.out.bel).own 3 sh (clausesT n_should sets) rfl rfl
  have hbase := Hcut.out.sz
  have kk := key_of [115, 104, 111, 117, 108, 100] (by decide)
  obtain ⟨nn, es, hmap, hnn, hes⟩ := Hcut.out.map
  have hnm : nn < maxLen := by unfold maxLen; omega
  have Hes := Lib.hid hes; clear hes
  have Hok := Lib.hid (Hcl.out n_should (memB_iff.1 (by decide +kernel)))
  have hlen := Hbd.out n_should
  generalize clausesT n_should sets = ts at hown hlen Hok Hstep
  obtain ⟨qa, qc, hform⟩ := hown.form
  rw [hform] at cq hown
  have Hown := Lib.hid hown; clear hown
  clear hform
  go_upto_if 200 with fail
  go_cut [27, 28, 29, 31, 32, 33] from 195 to 246 (fun _ _ _ _ _ _ wr => SrcRel w n_bool (boolSrc sets 4) 4 wr)
  case first =>
    as_aux_lemma =>
    rcases ts with _ | ⟨t, _ | ⟨t2, rest⟩⟩
    · simp only [List.length_nil, Int.natCast_zero]
      go_wp2_with fail
      go_meet
      case rel => exact Hcut.out.skip (by rw [Hstep.out]; simp [placeEnt])
    · obtain ⟨g, rfl, hgl, hcells⟩ := own_queries Hown.out (by simp)
      obtain ⟨⟨kd, tx, nu, ys, ka, kn, kc, ca, cn, cc⟩, hc0, hr0⟩ := hcells 0 (by simp)
      simp only [List.getElem_cons_zero] at hr0
      have Hr0 := Lib.hid hr0; clear hr0 hcells
      have Ht := Lib.hid (Hok.out t (by simp))
      clear hlen Hok
      simp only [List.length_cons, List.length_nil, Nat.zero_add]
      go_wp2_with (first
        | (go_at_call 277; refine (given_any t n0 r0 100 Hn0.out.1 Hn0.out.2 Ht.out.1 Ht.out.2 ⟨kd, tx, nu, ys, ka, kn, kc, ca, cn, cc⟩ _ _ Hr0.out).mono ?_; rintro e w2 ⟨ty, x, rfl, hany, hb2⟩; have Hany := Lib.hid hany; clear hany; have hmap2 := hmap.kept (Below.grow hb2) (by simp))
        | (at_mapUpdate; refine wpList_mapUpdate_own _ rfl _ _ _ 122 rfl 9 20 keyed9 Tryz.underlying122 R9 (w.heap.size + 1) nn _ rfl hmap2 hnm (.string ⟨#[115, 104, 111, 117, 108, 100]⟩) (.iface ty x) _ rfl rfl kk (.held (.iface ty x)) [] rfl ?_; intro w3 hn3 hg3))
      go_meet
      case rel => exact (Hcut.out.below hb2).put hnn (Hes.out.keep (Keeps.of_below _ hb2)) (k := ⟨#[115, 104, 111, 117, 108, 100]⟩) hn3 hg3 (Hany.out.mono (fun b _ hb => by omega)) (by rw [Hstep.out]; rfl)
    · have h2 : 2 ≤ (t :: t2 :: rest).length := by simp
      have hpe : placeEnt (normT 100) n_should (t :: t2 :: rest) = [(n_should, listT ((t :: t2 :: rest).map (normT 100)))] := rfl
      generalize t :: t2 :: rest = ts at *
      have Hpe := Lib.hid hpe; clear hpe
      have hn1 : ((ts.length : Int) == 1) = false := by rw [beq_eq_false_iff_ne]; omega
      have hn2 : (1 : Int) < (ts.length : Int) := by omega
      simp only [hn1]
      obtain ⟨g, rfl, hgl, hcells⟩ := own_queries Hown.out (by omega)
      have Hcells := Lib.hid hcells; clear hcells
      go_wp2_with fail
      go_loopw [227, 29] (fun i v wr => ∃ (k : Nat) (a : Option Addr) (c : Nat), k ≤ ts.length ∧ i = .int .i64 k ∧ v = .slice a k c ∧ ValsAt wr wc.heap.size (.slice a k c) ((ts.take k).map (normT 100)) ∧ Below wc.heap.size wc wr) (fun i _ _ => ts.length - (intOf i).toNat)
      case atStart => exact ⟨0, none, 0, Nat.zero_le _, rfl, rfl, ⟨[], by simp, ⟨by simp, .inl ⟨rfl, rfl⟩⟩, fun i v t h => by simp at h⟩, Below.refl _ _⟩
      case round =>
        obtain ⟨k, a, c, hk, rfl, rfl, hvals, hbel⟩ := hrel
        have hb2 := hbel.size
        by_cases hlt : k < ts.length
        · obtain ⟨⟨kd, tx, nu, ys, ka, kn, kc, ca, cn, cc⟩, hc0, hr0⟩ := Hcells.out k hlt
          have hck := (hbel.cell (p := ⟨g, k, none⟩) hgl).trans hc0
          have Hr0 := Lib.hid (hr0.keep (Keeps.of_below _ hbel)); clear hr0 hc0
          have Ht := Lib.hid (Hok.out ts[k] (List.getElem_mem hlt))
          have hk1 : Hid ((ts.take (k + 1)).map (normT 100) = (ts.take k).map (normT 100) ++ [normT 100 ts[k]]) := Lib.hid (by rw [List.take_succ_eq_append_getElem hlt, List.map_append]; rfl)
          have hkl : Hid (((ts.take k).map (normT 100)).length = k) := Lib.hid (by rw [List.length_map, List.length_take]; omega)
          generalize ts[k] = t at *
          obtain ⟨vs, hvl, hrow, hreps⟩ := hvals
          rw [hkl.out] at hrow
          have Hvl := Lib.hid hvl; clear hvl
          have Hreps := Lib.hid hreps; clear hreps
          have Hrow := Lib.hid hrow; clear hrow
          have Hbel := Lib.hid hbel; clear hbel
          have hi1 : (0 : Int) ≤ (k : Int) := by omega
          have hi2 : (k : Int) < (ts.length : Int) := by omega
          go_upto_region 65 with (go_at_call 277; refine (given_any t n0 r0 100 Hn0.out.1 Hn0.out.2 Ht.out.1 Ht.out.2 ⟨kd, tx, nu, ys, ka, kn, kc, ca, cn, cc⟩ _ _ Hr0.out).mono ?_; rintro e w2 ⟨ty, x, rfl, hany, hb3⟩; have Hany := Lib.hid hany; clear hany)
          have hrow2 := ownsRow_below Hrow.out hb3
          have hsz3 := hb3.size
          go_wp2_with (at_builtin; refine wpList_append_lies _ rfl _ _ _ rfl wc.heap.size 20 i0 _ 1 16 Tryz.underlying123 hi hz0 hz1 hz2 rfl (by omega) (.slice a k c) k vs rfl (hrow2.alloc _) ⟨w2.heap.size, 0, none⟩ 1 1 [.iface ty x] rfl rfl (World.news_of_block (cs := #[.iface ty x]) (t := 20) (fr := (0, 0)) (heap_alloc_new w2 _)) (by simp [Value.oneCell']) (by omega) (by unfold maxLen; omega) (by omega) (by simp; omega) (w2.heap.size + 1) (by simp) ?_; intro gg cap' w3 hown3 hgrow hat hlt3)
          have hv3 := vals_round hkl.out hb2 Hvl.out Hreps.out Hrow.out hb3 Hany.out _ hgrow hat hown3
          have hbel3 := ((via Hbel.out hb3).alloc (by omega) _).grown hgrow (by simp; omega) (fun k hk => (Hrow.out.lt k hk).1)
          have Hv3 := Lib.hid hv3
          have Hbel3 := Lib.hid hbel3
          clear hv3 hbel3 hgrow hat hown3 hrow2
          go_wp2_with fail
          go_roundw
          case rel => exact ⟨k + 1, some ⟨gg, 0, none⟩, cap', by omega, by simp, by simp, by rw [hk1.out]; exact Hv3.out, Hbel3.out⟩
          case measure => simp [intOf]; omega
        · obtain rfl : k = ts.length := by omega
          rw [List.take_length] at hvals
          have hany := hvals.any (by rw [List.length_map]; omega)
          rw [List.length_map] at hany
          have Hany := Lib.hid hany; clear hany hvals
          have hmap2 := hmap.kept (Below.grow hbel) (by simp)
          go_wp2_with (at_mapUpdate; refine wpList_mapUpdate_own _ rfl _ _ _ 122 rfl 9 20 keyed9 Tryz.underlying122 R9 (w.heap.size + 1) nn _ rfl hmap2 hnm (.string ⟨#[115, 104, 111, 117, 108, 100]⟩) (.iface 123 (.slice a ts.length c)) _ rfl rfl kk (.held (.iface 123 (.slice a ts.length c))) [] rfl ?_; intro w3 hn3 hg3)
          go_meet
          case rel => exact (Hcut.out.below hbel).put hnn (Hes.out.keep (Keeps.of_below _ hbel)) (k := ⟨#[115, 104, 111, 117, 108, 100]⟩) hn3 hg3 (Hany.out.mono (fun b _ hb => by omega)) (by rw [Hstep.out, Hpe.out]; rfl)
  case rest =>
  clear cq Hown hbase kk hmap hnn hnm Hes Hok hlen Hstep Hcut nn es ts qa qc

  -- boost
  have hstep := boolSrc_succ sets (i := 4) (es := numEnt n_boost (lastOf sets n_boost)) rfl
  have Hstep := Lib.hid hstep; clear hstep
  have Hcut := Lib.hid hcut; clear hcut
  obtain ⟨_, _, _, _, _, c5, c6, c7, c8, _, _⟩ := cells9 ((Hcut.out.bel.block (h + 5) hlt).trans Hbx.out)
  have cq := c5
  clear c5 c6 c7 c8
  have kk := key_of [98, 111, 111, 115, 116] (by decide)
  obtain ⟨nn, es, hmap, hnn, hes⟩ := Hcut.out.map
  have hnm : nn < maxLen := by unfold maxLen; omega
  have Hes := Lib.hid hes; clear hes
  have hp : PtrX wc h X (fun t => .float .f64 t.num) (lastOf sets n_boost) pb := Hpb.out.keep (fun _ h => h) (fun b _ _ hlt => Hcut.out.bel.block b hlt)
  generalize lastOf sets n_boost = lst at hp Hstep
  have Hp := Lib.hid hp; clear hp
  go_upto_if 251 with fail
  go_cut [] from 247 to 259 (fun wr => SrcRel w n_bool (boolSrc sets 5) 5 wr)
  case first =>
    as_aux_lemma =>
    rcases lst with _ | t
    · obtain rfl : pb = none := Hp.out
      go_wp2_with fail
      go_meet
      case rel => exact Hcut.out.skip (by rw [Hstep.out]; simp [numEnt])
    · obtain ⟨b, rfl, _, _, cb⟩ := Hp.out
      go_wp2_with (at_mapUpdate; refine wpList_mapUpdate_own _ rfl _ _ _ 122 rfl 9 20 keyed9 Tryz.underlying122 R9 (w.heap.size + 1) nn _ rfl hmap hnm (.string ⟨#[98, 111, 111, 115, 116]⟩) (.iface 28 (.float .f64 t.num)) _ rfl rfl kk (.held (.iface 28 (.float .f64 t.num))) [] rfl ?_; intro w3 hn3 hg3)
      go_meet
      case rel => exact Hcut.out.put hnn Hes.out (k := ⟨#[98, 111, 111, 115, 116]⟩) hn3 hg3 (.num _) (by rw [Hstep.out]; rfl)
  case rest =>
  clear cq kk hmap hnn hnm Hes Hstep Hcut nn es Hp lst

  -- minimum_should_match
  have hstep := boolSrc_succ sets (i := 5) (es := textEnt n_minimum_should_match (msmOf sets)) rfl
  have Hstep := Lib.hid hstep; clear hstep
  have Hcut := Lib.hid hcut; clear hcut
  obtain ⟨_, _, _, _, _, c5, c6, c7, c8, _, _⟩ := cells9 ((Hcut.out.bel.block (h + 5) hlt).trans Hbx.out)
  have cq := c6
  clear c5 c6 c7 c8
  have kk := key_of [109, 105, 110, 105, 109, 117, 109, 95, 115, 104, 111, 117, 108, 100, 95, 109, 97, 116, 99, 104] (by decide)
  obtain ⟨nn, es, hmap, hnn, hes⟩ := Hcut.out.map
  have hnm : nn < maxLen := by unfold maxLen; omega
  have Hes := Lib.hid hes; clear hes
  have hsz : (msmOf sets).size ≤ 9223372036854775807 := Hms.out
  generalize msmOf sets = str at hsz cq Hstep
  go_upto_if 264 with fail
  go_cut [] from 260 to 270 (fun wr => SrcRel w n_bool (boolSrc sets 6) 6 wr)
  case first =>
    as_aux_lemma =>
    by_cases hs0 : str = ⟨#[]⟩
    · have hemp : str.toList.isEmpty = true := by rw [bs_isEmpty]; simp [hs0]
      have Hs0 := Lib.hid hs0; clear hs0
      simp only [hemp, Bool.not_true]
      go_wp2_with fail
      go_meet
      case rel => exact Hcut.out.skip (by rw [Hstep.out, textEnt, if_pos Hs0.out]; simp)
    · have hemp : str.toList.isEmpty = false := by rw [bs_isEmpty]; simp [hs0]
      have Hs0 := Lib.hid hs0; clear hs0
      simp only [hemp, Bool.not_false]
      go_wp2_with (at_mapUpdate; refine wpList_mapUpdate_own _ rfl _ _ _ 122 rfl 9 20 keyed9 Tryz.underlying122 R9 (w.heap.size + 1) nn _ rfl hmap hnm (.string ⟨#[109, 105, 110, 105, 109, 117, 109, 95, 115, 104, 111, 117, 108, 100, 95, 109, 97, 116, 99, 104]⟩) (.iface 9 (.string str)) _ rfl rfl kk (.held (.iface 9 (.string str))) [] rfl ?_; intro w3 hn3 hg3)
      go_meet
      case rel => exact Hcut.out.put hnn Hes.out (k := ⟨#[109, 105, 110, 105, 109, 117, 109, 95, 115, 104, 111, 117, 108, 100, 95, 109, 97, 116, 99, 104]⟩) hn3 hg3 (.str str hsz) (by rw [Hstep.out, textEnt, if_neg Hs0.out]; rfl)
  case rest =>
  clear cq kk hmap hnn hnm Hes Hstep Hcut nn es hsz str

  -- adjust_pure_negative
  have hstep := boolSrc_succ sets (i := 6) (es := yesEnt n_adjust_pure_negative (lastOf sets n_adjust_pure_negative)) rfl
  have Hstep := Lib.hid hstep; clear hstep
  have Hcut := Lib.hid hcut; clear hcut
  obtain ⟨_, _, _, _, _, c5, c6, c7, c8, _, _⟩ := cells9 ((Hcut.out.bel.block (h + 5) hlt).trans Hbx.out)
  have cq := c7
  clear c5 c6 c7 c8
  have kk := key_of [97, 100, 106, 117, 115, 116, 95, 112, 117, 114, 101, 95, 110, 101, 103, 97, 116, 105, 118, 101] (by decide)
  obtain ⟨nn, es, hmap, hnn, hes⟩ := Hcut.out.map
  have hnm : nn < maxLen := by unfold maxLen; omega
  have Hes := Lib.hid hes; clear hes
  have hp : PtrX wc h X (fun t => .bool t.yes) (lastOf sets n_adjust_pure_negative) pa := Hpa.out.keep (fun _ h => h) (fun b _ _ hlt => Hcut.out.bel.block b hlt)
  generalize lastOf sets n_adjust_pure_negative = lst at hp Hstep
  have Hp := Lib.hid hp; clear hp
  go_upto_if 275 with fail
  go_cut [] from 271 to 283 (fun wr => SrcRel w n_bool (boolSrc sets 7) 7 wr)
  case first =>
    as_aux_lemma =>
    rcases lst with _ | t
    · obtain rfl : pa = none := Hp.out
      go_wp2_with fail
      go_meet
      case rel => exact Hcut.out.skip (by rw [Hstep.out]; simp [yesEnt])
    · obtain ⟨b, rfl, _, _, cb⟩ := Hp.out
      go_wp2_with (at_mapUpdate; refine wpList_mapUpdate_own _ rfl _ _ _ 122 rfl 9 20 keyed9 Tryz.underlying122 R9 (w.heap.size + 1) nn _ rfl hmap hnm (.string ⟨#[97, 100, 106, 117, 115, 116, 95, 112, 117, 114, 101, 95, 110, 101, 103, 97, 116, 105, 118, 101]⟩) (.iface 4 (.bool t.yes)) _ rfl rfl kk (.held (.iface 4 (.bool t.yes))) [] rfl ?_; intro w3 hn3 hg3)
      go_meet
      case rel => exact Hcut.out.put hnn Hes.out (k := ⟨#[97, 100, 106, 117, 115, 116, 95, 112, 117, 114, 101, 95, 110, 101, 103, 97, 116, 105, 118, 101]⟩) hn3 hg3 (.yes _) (by rw [Hstep.out]; rfl)
  case rest =>
  clear cq kk hmap hnn hnm Hes Hstep Hcut nn es Hp lst

  -- _name
  have hstep := boolSrc_succ sets (i := 7) (es := textEnt n__name (textLast sets n__name)) rfl
  have Hstep := Lib.hid hstep; clear hstep
  have Hcut := Lib.hid hcut; clear hcut
  obtain ⟨_, _, _, _, _, c5, c6, c7, c8, _, _⟩ := cells9 ((Hcut.out.bel.block (h + 5) hlt).trans Hbx.out)
  have cq := c8
  clear c5 c6 c7 c8
  have kk := key_of [95, 110, 97, 109, 101] (by decide)
  obtain ⟨nn, es, hmap, hnn, hes⟩ := Hcut.out.map
  have hnm : nn < maxLen := by unfold maxLen; omega
  have Hes := Lib.hid hes; clear hes
  have hsz : (textLast sets n__name).size ≤ 9223372036854775807 := text_small47 Hsm.out n__name
  generalize textLast sets n__name = str at hsz cq Hstep
  go_upto_if 288 with fail
  go_cut [] from 284 to 294 (fun wr => SrcRel w n_bool (boolSrc sets 8) 8 wr)
  case first =>
    as_aux_lemma =>
    by_cases hs0 : str = ⟨#[]⟩
    · have hemp : str.toList.isEmpty = true := by rw [bs_isEmpty]; simp [hs0]
      have Hs0 := Lib.hid hs0; clear hs0
      simp only [hemp, Bool.not_true]
      go_wp2_with fail
      go_meet
      case rel => exact Hcut.out.skip (by rw [Hstep.out, textEnt, if_pos Hs0.out]; simp)
    · have hemp : str.toList.isEmpty = false := by rw [bs_isEmpty]; simp [hs0]
      have Hs0 := Lib.hid hs0; clear hs0
      simp only [hemp, Bool.not_false]
      go_wp2_with (at_mapUpdate; refine wpList_mapUpdate_own _ rfl _ _ _ 122 rfl 9 20 keyed9 Tryz.underlying122 R9 (w.heap.size + 1) nn _ rfl hmap hnm (.string ⟨#[95, 110, 97, 109, 101]⟩) (.iface 9 (.string str)) _ rfl rfl kk (.held (.iface 9 (.string str))) [] rfl ?_; intro w3 hn3 hg3)
      go_meet
      case rel => exact Hcut.out.put hnn Hes.out (k := ⟨#[95, 110, 97, 109, 101]⟩) hn3 hg3 (.str str hsz) (by rw [Hstep.out, textEnt, if_neg Hs0.out]; rfl)
  case rest =>
  clear cq kk hmap hnn hnm Hes Hstep Hcut nn es hsz str

  go_wp2_with fail
  refine bodyPost_ret (v := .tuple #[.iface 122 (.map (some w.heap.size)), .nilIface]) (by simp [results, Tryz.results91, go_sem]) rfl ?_
  exact ⟨_, rfl, hcut.any (boolSrc_nodup sets) (by have := boolSrc_length sets; omega), hcut.bel⟩
end Go.Proofs.YtbcnhcpgloncdaaGreatDoor
