/- 'Source' of a score function that decays. -/
import Derived.Test.YtbcnhcpgloncdaaGreatDoorQJe
namespace Go.Proofs.YtbcnhcpgloncdaaGreatDoor
open Go Go.RowKit Go.BigFrame Go.Maps

/-- Under way: the outer map has the inner one under the field's name. -/
structure DRel (w0 : World) (fd : ByteArray) (ts : List (ByteArray × Tr)) (i : Nat) (wr : World) : Prop where
  inn : MRel w0 (w0.heap.size + 1) ts i wr
  outr : wr.ownsMap Tryz.prog 9 R9 w0.heap.size 1 (dput [(fd, .iface 122 (.map (some (w0.heap.size + 1))))])
theorem DRel.skip {w0 wr : World} {fd : ByteArray} {i : Nat} {ts ts' : List (ByteArray × Tr)} (r : DRel w0 fd ts i wr) (h : ts' = ts) : DRel w0 fd ts' (i + 1) wr := ⟨r.inn.skip h, r.outr⟩
theorem DRel.put {w0 wr w1 : World} {fd : ByteArray} {i n : Nat} {ts ts' : List (ByteArray × Tr)} (r : DRel w0 fd ts i wr) {es : List (ByteArray × Value)} {k : ByteArray} {v : Value} {t : Tr} (hn : n ≤ i) (hes : EntriesOK wr (fun _ => False) es ts)
    (hown : w1.ownsMap Tryz.prog 9 R9 (w0.heap.size + 1) (n + 1) ((dput es).put (.string k.data.toList) (.held v))) (hg : wr.grownBy w1 (some (w0.heap.size + 1))) (hv : ∀ w S, AnyAt w S v t) (hts : ts' = ts ++ [(k, t)]) : DRel w0 fd ts' (i + 1) w1 :=
  ⟨r.inn.put hn hes hown hg hv hts, r.outr.kept hg (by simp)⟩
theorem DRel.fin0 {w0 wr : World} {fd : ByteArray} {i : Nat} {ts : List (ByteArray × Tr)} (r : DRel w0 fd ts i wr) (hd : (ts.map (·.1)).Nodup) (hl : ts.length ≤ 4294967296) : AnyAt wr (fun c => w0.heap.size ≤ c) (.iface 122 (.map (some w0.heap.size))) (mapTree [(fd, mapTree ts)]) :=
  map_any (Nat.le_refl _) r.outr (by simp) (by simp) ((EntriesOK.nil _ _).snoc fd (r.inn.any _ (by omega) hd hl))
theorem DRel.fin1 {w0 wr w1 : World} {fd k : ByteArray} {i : Nat} {ts : List (ByteArray × Tr)} {str : ByteArray} (r : DRel w0 fd ts i wr) (hk : fd ≠ k) (hstr : str.size ≤ 9223372036854775807)
    (hown : w1.ownsMap Tryz.prog 9 R9 w0.heap.size 2 ((dput [(fd, .iface 122 (.map (some (w0.heap.size + 1))))]).put (.string k.data.toList) (.held (.iface 9 (.string str))))) (hg : wr.grownBy w1 (some w0.heap.size)) (hd : (ts.map (·.1)).Nodup) (hl : ts.length ≤ 4294967296) :
    AnyAt w1 (fun c => w0.heap.size ≤ c) (.iface 122 (.map (some w0.heap.size))) (mapTree [(fd, mapTree ts), (k, textT str)]) := by
  have hown : w1.ownsMap Tryz.prog 9 R9 w0.heap.size 2 (dput ([(fd, .iface 122 (.map (some (w0.heap.size + 1))))] ++ [(k, .iface 9 (.string str))])) := by rw [dput_snoc]; exact hown
  have hin := (r.inn.any (fun c => w0.heap.size + 1 ≤ c) (Nat.le_refl _) hd hl).keep (w' := w1) (fun b hb hlt => hg.block b hlt (fun e => by injection e with e; omega))
  exact map_any (Nat.le_refl _) hown (by simp) (by simpa using hk) (((EntriesOK.nil _ _).snoc fd (hin.mono (fun b _ hb => by omega))).snoc k (.str str hstr))

set_option maxRecDepth 100000 in
set_option maxHeartbeats 100000000 in
theorem srcExp (fd : ByteArray) (sets : List SetM) (B : Nat) (S : Nat → Prop) (w : World) (hq : GSt w S B (ksDecay fd) 186 sets) (hfs : fd.size ≤ 9223372036854775807) (hfd : fd ≠ n_multi_value_mode) (hsm : ∀ s ∈ sets, s.val.text.size ≤ 9223372036854775807)
    (hsc : ∀ s ∈ sets, s.name ∈ [n_origin, n_scale, n_offset] → scalarT s.val = true) (hscale : (lastOf sets n_scale).isSome = true) (hdec : ∀ t, lastOf sets n_decay = some t → (FloatKind.f64.format.order t.num 0 == some .gt) = true) : Calls Tryz.prog 283 #[.pointer (some ⟨B, 0, none⟩)] w (SrcPost w (decayT fd sets)) := by
  have hlt := hq.lt
  have Hq := Lib.hid hq; clear hq
  have Hfd := Lib.hid hfd; clear hfd
  have Hsm := Lib.hid hsm; clear hsm
  have Hsc := Lib.hid hsc; clear hsc
  have Hscale := Lib.hid hscale; clear hscale
  have Hdec := Lib.hid hdec; clear hdec
  obtain ⟨u, cq, hu⟩ := Hq.out.cell 0 _ rfl
  have hu' : u = .string fd := hu
  subst hu'
  clear hu
  have hm0 := World.ownsMap_made w Tryz.prog 9 R9
  have hm1 := World.ownsMap_made (w.alloc (.map #[] 0)) Tryz.prog 9 R9
  rw [World.size_alloc] at hm1
  have kk := Go.WideMaps.keyOf_string_mk (P := Tryz.prog) (k := 9) Tryz.underlying9 (s := fd) (by unfold maxLen; omega)
  go_enter Tryz.func283, Tryz.ntmps283
  go_upto_region 4 with (at_mapUpdate; refine wpList_mapUpdate_own _ rfl _ _ _ 122 rfl 9 20 keyed9 Tryz.underlying122 R9 w.heap.size 0 _ rfl (hm0.alloc _) (by decide) (.string fd) (.iface 122 (.map (some (w.heap.size + 1)))) _ rfl rfl kk (.held (.iface 122 (.map (some (w.heap.size + 1))))) [] rfl ?_; intro w1 hn0 hg1)
  have hcut : DRel w fd (entsTo (decayEnts sets) 0) 0 w1 := by
    have h1 := hg1.size
    simp at h1
    exact ⟨⟨⟨0, [], hm1.kept hg1 (by simp), Nat.le_refl _, by simpa [entsTo] using EntriesOK.nil _ _⟩, (((Below.refl _ _).alloc (Nat.le_refl _) _).alloc (by simp) _).grown hg1 (by simp; omega) (fun k hk => by injection hk with hk; omega), by omega⟩, hn0⟩
  clear hm0 hm1 kk hn0 hg1 cq hfs
  -- origin
  have hstep := entsTo_succ (decayEnts sets) (i := 0) (es := anyEnt n_origin (lastOf sets n_origin)) rfl
  have Hstep := Lib.hid hstep; clear hstep
  have Hcut := Lib.hid hcut; clear hcut
  obtain ⟨u, cq, hu⟩ := (Hq.out.keep (Keeps.of_below _ Hcut.out.inn.bel)).cell 1 _ rfl
  have kk := key_of [111, 114, 105, 103, 105, 110] (by decide)
  obtain ⟨nn, es, hmap, hnn, hes⟩ := Hcut.out.inn.map
  have hnm : nn < maxLen := by unfold maxLen; omega
  have Hes := Lib.hid hes; clear hes
  have hlf := fun t h => leaf_last (nm := n_origin) (t := t) (fun s hs hn => Hsc.out s hs (by rw [hn]; simp)) Hsm.out h
  have hneq := any_neq hu
  have hgd := any_guard hu
  simp only [GOK] at hu
  generalize lastOf sets n_origin = lst at hu hneq Hstep hlf
  have Hu := Lib.hid hu; clear hu
  have Hlf := Lib.hid hlf; clear hlf
  go_upto_if 19 with fail
  go_cut [] from 15 to 24 (fun wr => DRel w fd (entsTo (decayEnts sets) 1) 1 wr)
  case first =>
    as_aux_lemma =>
    rcases lst with _ | t
    · obtain rfl : u = .nilIface := Hu.out
      go_wp2_with fail
      go_meet
      case rel => exact Hcut.out.skip (by rw [Hstep.out]; simp [anyEnt])
    · obtain rfl : u = .iface (leafTy t) (leafX t) := Hu.out
      have Hl := Lib.hid (Hlf.out t rfl); clear Hu Hlf
      generalize leafTy t = ty at *
      generalize leafX t = x at *
      go_wp2_with (at_mapUpdate; refine wpList_mapUpdate_own _ rfl _ _ _ 122 rfl 9 20 keyed9 Tryz.underlying122 R9 (w.heap.size + 1) nn _ rfl hmap hnm (.string ⟨#[111, 114, 105, 103, 105, 110]⟩) (.iface ty x) _ rfl rfl kk (.held (.iface ty x)) [] rfl ?_; intro w3 hn3 hg3)
      go_meet
      case rel => exact Hcut.out.put hnn Hes.out (k := ⟨#[111, 114, 105, 103, 105, 110]⟩) hn3 hg3 Hl.out (by rw [Hstep.out]; rfl)
  case rest =>
  clear cq kk hmap hnn hnm Hes Hstep Hcut nn es Hu lst u hneq hgd Hlf
  -- scale
  have hstep := entsTo_succ (decayEnts sets) (i := 1) (es := anyEnt n_scale (lastOf sets n_scale)) rfl
  have Hstep := Lib.hid hstep; clear hstep
  have Hcut := Lib.hid hcut; clear hcut
  obtain ⟨u, cq, hu⟩ := (Hq.out.keep (Keeps.of_below _ Hcut.out.inn.bel)).cell 2 _ rfl
  have kk := key_of [115, 99, 97, 108, 101] (by decide)
  obtain ⟨nn, es, hmap, hnn, hes⟩ := Hcut.out.inn.map
  have hnm : nn < maxLen := by unfold maxLen; omega
  have Hes := Lib.hid hes; clear hes
  have hlf := fun t h => leaf_last (nm := n_scale) (t := t) (fun s hs hn => Hsc.out s hs (by rw [hn]; simp)) Hsm.out h
  simp only [GOK] at hu
  generalize lastOf sets n_scale = lst at hu Hstep hlf Hscale
  obtain ⟨t, rfl⟩ := Option.isSome_iff_exists.1 Hscale.out
  obtain rfl : u = .iface (leafTy t) (leafX t) := hu
  have Hl := Lib.hid (hlf t rfl); clear hlf Hscale
  generalize leafTy t = ty at *
  generalize leafX t = x at *
  go_upto_region 7 with (at_mapUpdate; refine wpList_mapUpdate_own _ rfl _ _ _ 122 rfl 9 20 keyed9 Tryz.underlying122 R9 (w.heap.size + 1) nn _ rfl hmap hnm (.string ⟨#[115, 99, 97, 108, 101]⟩) (.iface ty x) _ rfl rfl kk (.held (.iface ty x)) [] rfl ?_; intro w3 hn3 hg3)
  have hcut := Hcut.out.put (ts' := entsTo (decayEnts sets) 2) hnn Hes.out (k := ⟨#[115, 99, 97, 108, 101]⟩) hn3 hg3 Hl.out (by rw [Hstep.out]; rfl)
  clear cq kk hmap hnn hnm Hes Hstep Hcut nn es hn3 hg3 Hl
  -- decay
  have hstep := entsTo_succ (decayEnts sets) (i := 2) (es := numEnt n_decay (lastOf sets n_decay)) rfl
  have Hstep := Lib.hid hstep; clear hstep
  have Hcut := Lib.hid hcut; clear hcut
  obtain ⟨u, cq, hu⟩ := (Hq.out.keep (Keeps.of_below _ Hcut.out.inn.bel)).cell 3 _ rfl
  have kk := key_of [100, 101, 99, 97, 121] (by decide)
  obtain ⟨nn, es, hmap, hnn, hes⟩ := Hcut.out.inn.map
  have hnm : nn < maxLen := by unfold maxLen; omega
  have Hes := Lib.hid hes; clear hes
  obtain ⟨p, rfl, hp⟩ := num_form hu
  clear hu
  generalize lastOf sets n_decay = lst at hp Hstep Hdec
  have Hu := Lib.hid hp; clear hp
  dsimp only [Act.put]
  go_cut [43] from 30 to 42 (fun c wx => c = .bool lst.isSome ∧ w3 = wx)
  case first =>
    rcases lst with _ | t
    · obtain rfl : p = none := Hu.out
      go_wp2_with fail
      go_meet
      case rel => exact ⟨rfl, rfl⟩
    · obtain ⟨b, rfl, _, cb⟩ := Hu.out
      have hgt := Hdec.out t rfl
      go_wp2_with fail
      go_meet
      case rel => exact ⟨rfl, rfl⟩
  case rest =>
  obtain ⟨rfl, rfl⟩ := hcut
  go_upto_if 43 with fail
  go_cut [] from 43 to 51 (fun wr => DRel w fd (entsTo (decayEnts sets) 3) 3 wr)
  case first =>
    as_aux_lemma =>
    rcases lst with _ | t
    · obtain rfl : p = none := Hu.out
      go_wp2_with fail
      go_meet
      case rel => exact Hcut.out.skip (by rw [Hstep.out]; simp [numEnt])
    · obtain ⟨b, rfl, _, cb⟩ := Hu.out
      have hgt := Hdec.out t rfl
      go_wp2_with (at_mapUpdate; refine wpList_mapUpdate_own _ rfl _ _ _ 122 rfl 9 20 keyed9 Tryz.underlying122 R9 (w.heap.size + 1) nn _ rfl hmap hnm (.string ⟨#[100, 101, 99, 97, 121]⟩) (.iface 28 (.float .f64 t.num)) _ rfl rfl kk (.held (.iface 28 (.float .f64 t.num))) [] rfl ?_; intro w3 hn3 hg3)
      go_meet
      case rel => exact Hcut.out.put hnn Hes.out (k := ⟨#[100, 101, 99, 97, 121]⟩) hn3 hg3 (fun _ _ => .num _) (by rw [Hstep.out]; rfl)
  case rest =>
  clear cq kk hmap hnn hnm Hes Hstep Hcut nn es Hu lst p Hdec
  -- offset
  have hstep := entsTo_succ (decayEnts sets) (i := 3) (es := anyEnt n_offset (lastOf sets n_offset)) rfl
  have Hstep := Lib.hid hstep; clear hstep
  have Hcut := Lib.hid hcut; clear hcut
  obtain ⟨u, cq, hu⟩ := (Hq.out.keep (Keeps.of_below _ Hcut.out.inn.bel)).cell 4 _ rfl
  have kk := key_of [111, 102, 102, 115, 101, 116] (by decide)
  obtain ⟨nn, es, hmap, hnn, hes⟩ := Hcut.out.inn.map
  have hnm : nn < maxLen := by unfold maxLen; omega
  have Hes := Lib.hid hes; clear hes
  have hlf := fun t h => leaf_last (nm := n_offset) (t := t) (fun s hs hn => Hsc.out s hs (by rw [hn]; simp)) Hsm.out h
  have hneq := any_neq hu
  have hgd := any_guard hu
  simp only [GOK] at hu
  generalize lastOf sets n_offset = lst at hu hneq Hstep hlf
  have Hu := Lib.hid hu; clear hu
  have Hlf := Lib.hid hlf; clear hlf
  go_upto_if 56 with fail
  go_cut [] from 52 to 61 (fun wr => DRel w fd (entsTo (decayEnts sets) 4) 4 wr)
  case first =>
    as_aux_lemma =>
    rcases lst with _ | t
    · obtain rfl : u = .nilIface := Hu.out
      go_wp2_with fail
      go_meet
      case rel => exact Hcut.out.skip (by rw [Hstep.out]; simp [anyEnt])
    · obtain rfl : u = .iface (leafTy t) (leafX t) := Hu.out
      have Hl := Lib.hid (Hlf.out t rfl); clear Hu Hlf
      generalize leafTy t = ty at *
      generalize leafX t = x at *
      go_wp2_with (at_mapUpdate; refine wpList_mapUpdate_own _ rfl _ _ _ 122 rfl 9 20 keyed9 Tryz.underlying122 R9 (w.heap.size + 1) nn _ rfl hmap hnm (.string ⟨#[111, 102, 102, 115, 101, 116]⟩) (.iface ty x) _ rfl rfl kk (.held (.iface ty x)) [] rfl ?_; intro w3 hn3 hg3)
      go_meet
      case rel => exact Hcut.out.put hnn Hes.out (k := ⟨#[111, 102, 102, 115, 101, 116]⟩) hn3 hg3 Hl.out (by rw [Hstep.out]; rfl)
  case rest =>
  clear cq kk hmap hnn hnm Hes Hstep Hcut nn es Hu lst u hneq hgd Hlf
  -- multi_value_mode
  have Hcut := Lib.hid hcut; clear hcut
  obtain ⟨u, cq, hu⟩ := (Hq.out.keep (Keeps.of_below _ Hcut.out.inn.bel)).cell 5 _ rfl
  have kk := key_of [109, 117, 108, 116, 105, 95, 118, 97, 108, 117, 101, 95, 109, 111, 100, 101] (by decide)
  have hmap := Hcut.out.outr
  have hu' : u = .string (textLast sets n_multi_value_mode) := hu
  subst hu'
  clear hu
  have hsz : (textLast sets n_multi_value_mode).size ≤ 9223372036854775807 := text_small63 Hsm.out n_multi_value_mode
  have hT : decayT fd sets = mapTree ((fd, mapTree (entsTo (decayEnts sets) 4)) :: textEnt n_multi_value_mode (textLast sets n_multi_value_mode)) := rfl
  generalize textLast sets n_multi_value_mode = str at hsz cq hT
  generalize decayT fd sets = T at *
  have HT := Lib.hid hT; clear hT
  have Hnd : Hid (((entsTo (decayEnts sets) 4).map (·.1)).Nodup) := Lib.hid ((decay_parts sets).nodup (by decide +kernel))
  have Hln : Hid ((entsTo (decayEnts sets) 4).length ≤ 4294967296) := Lib.hid (by have := (decay_parts sets).length; simp only [List.length_cons, List.length_nil] at this; exact Nat.le_trans this (by decide))
  go_upto_if 66 with fail
  go_cut [] from 62 to 72 (fun wr => AnyAt wr (fun c => w.heap.size ≤ c) (.iface 122 (.map (some w.heap.size))) T ∧ Below w.heap.size w wr)
  case first =>
    as_aux_lemma =>
    by_cases hs0 : str = ⟨#[]⟩
    · have hemp : str.toList.isEmpty = true := by rw [bs_isEmpty]; simp [hs0]
      have Hs0 := Lib.hid hs0; clear hs0
      simp only [hemp, Bool.not_true]
      go_wp2_with fail
      go_meet
      case rel => exact ⟨by rw [HT.out, textEnt, if_pos Hs0.out]; exact Hcut.out.fin0 Hnd.out Hln.out, Hcut.out.inn.bel⟩
    · have hemp : str.toList.isEmpty = false := by rw [bs_isEmpty]; simp [hs0]
      have Hs0 := Lib.hid hs0; clear hs0
      simp only [hemp, Bool.not_false]
      go_wp2_with (at_mapUpdate; refine wpList_mapUpdate_own _ rfl _ _ _ 122 rfl 9 20 keyed9 Tryz.underlying122 R9 w.heap.size 1 _ rfl hmap (by decide) (.string ⟨#[109, 117, 108, 116, 105, 95, 118, 97, 108, 117, 101, 95, 109, 111, 100, 101]⟩) (.iface 9 (.string str)) _ rfl rfl kk (.held (.iface 9 (.string str))) [] rfl ?_; intro w3 hn3 hg3)
      go_meet
      case rel => exact ⟨by rw [HT.out, textEnt, if_neg Hs0.out]; exact Hcut.out.fin1 (k := n_multi_value_mode) Hfd.out hsz hn3 hg3 Hnd.out Hln.out, Hcut.out.inn.bel.grown hg3 Hcut.out.inn.bel.size (fun k hk => by injection hk with hk; omega)⟩
  case rest =>
  obtain ⟨hfin, hbel⟩ := hcut
  clear cq kk hmap hsz Hcut
  have Hfin := Lib.hid hfin; clear hfin
  go_wp2_with fail
  refine bodyPost_ret (v := .tuple #[.iface 122 (.map (some w.heap.size)), .nilIface]) (by simp [results, Tryz.results283, go_sem]) rfl ?_
  exact ⟨_, rfl, Hfin.out, hbel⟩

set_option maxRecDepth 100000 in
set_option maxHeartbeats 100000000 in
theorem srcGauss (fd : ByteArray) (sets : List SetM) (B : Nat) (S : Nat → Prop) (w : World) (hq : GSt w S B (ksDecay fd) 188 sets) (hfs : fd.size ≤ 9223372036854775807) (hfd : fd ≠ n_multi_value_mode) (hsm : ∀ s ∈ sets, s.val.text.size ≤ 9223372036854775807)
    (hsc : ∀ s ∈ sets, s.name ∈ [n_origin, n_scale, n_offset] → scalarT s.val = true) (hscale : (lastOf sets n_scale).isSome = true) (hdec : ∀ t, lastOf sets n_decay = some t → (FloatKind.f64.format.order t.num 0 == some .gt) = true) : Calls Tryz.prog 286 #[.pointer (some ⟨B, 0, none⟩)] w (SrcPost w (decayT fd sets)) := by
  have hlt := hq.lt
  have Hq := Lib.hid hq; clear hq
  have Hfd := Lib.hid hfd; clear hfd
  have Hsm := Lib.hid hsm; clear hsm
  have Hsc := Lib.hid hsc; clear hsc
  have Hscale := Lib.hid hscale; clear hscale
  have Hdec := Lib.hid hdec; clear hdec
  obtain ⟨u, cq, hu⟩ := Hq.out.cell 0 _ rfl
  have hu' : u = .string fd := hu
  subst hu'
  clear hu
  have hm0 := World.ownsMap_made w Tryz.prog 9 R9
  have hm1 := World.ownsMap_made (w.alloc (.map #[] 0)) Tryz.prog 9 R9
  rw [World.size_alloc] at hm1
  have kk := Go.WideMaps.keyOf_string_mk (P := Tryz.prog) (k := 9) Tryz.underlying9 (s := fd) (by unfold maxLen; omega)
  go_enter Tryz.func286, Tryz.ntmps286
  go_upto_region 4 with (at_mapUpdate; refine wpList_mapUpdate_own _ rfl _ _ _ 122 rfl 9 20 keyed9 Tryz.underlying122 R9 w.heap.size 0 _ rfl (hm0.alloc _) (by decide) (.string fd) (.iface 122 (.map (some (w.heap.size + 1)))) _ rfl rfl kk (.held (.iface 122 (.map (some (w.heap.size + 1))))) [] rfl ?_; intro w1 hn0 hg1)
  have hcut : DRel w fd (entsTo (decayEnts sets) 0) 0 w1 := by
    have h1 := hg1.size
    simp at h1
    exact ⟨⟨⟨0, [], hm1.kept hg1 (by simp), Nat.le_refl _, by simpa [entsTo] using EntriesOK.nil _ _⟩, (((Below.refl _ _).alloc (Nat.le_refl _) _).alloc (by simp) _).grown hg1 (by simp; omega) (fun k hk => by injection hk with hk; omega), by omega⟩, hn0⟩
  clear hm0 hm1 kk hn0 hg1 cq hfs
  -- origin
  have hstep := entsTo_succ (decayEnts sets) (i := 0) (es := anyEnt n_origin (lastOf sets n_origin)) rfl
  have Hstep := Lib.hid hstep; clear hstep
  have Hcut := Lib.hid hcut; clear hcut
  obtain ⟨u, cq, hu⟩ := (Hq.out.keep (Keeps.of_below _ Hcut.out.inn.bel)).cell 1 _ rfl
  have kk := key_of [111, 114, 105, 103, 105, 110] (by decide)
  obtain ⟨nn, es, hmap, hnn, hes⟩ := Hcut.out.inn.map
  have hnm : nn < maxLen := by unfold maxLen; omega
  have Hes := Lib.hid hes; clear hes
  have hlf := fun t h => leaf_last (nm := n_origin) (t := t) (fun s hs hn => Hsc.out s hs (by rw [hn]; simp)) Hsm.out h
  have hneq := any_neq hu
  have hgd := any_guard hu
  simp only [GOK] at hu
  generalize lastOf sets n_origin = lst at hu hneq Hstep hlf
  have Hu := Lib.hid hu; clear hu
  have Hlf := Lib.hid hlf; clear hlf
  go_upto_if 19 with fail
  go_cut [] from 15 to 24 (fun wr => DRel w fd (entsTo (decayEnts sets) 1) 1 wr)
  case first =>
    as_aux_lemma =>
    rcases lst with _ | t
    · obtain rfl : u = .nilIface := Hu.out
      go_wp2_with fail
      go_meet
      case rel => exact Hcut.out.skip (by rw [Hstep.out]; simp [anyEnt])
    · obtain rfl : u = .iface (leafTy t) (leafX t) := Hu.out
      have Hl := Lib.hid (Hlf.out t rfl); clear Hu Hlf
      generalize leafTy t = ty at *
      generalize leafX t = x at *
      go_wp2_with (at_mapUpdate; refine wpList_mapUpdate_own _ rfl _ _ _ 122 rfl 9 20 keyed9 Tryz.underlying122 R9 (w.heap.size + 1) nn _ rfl hmap hnm (.string ⟨#[111, 114, 105, 103, 105, 110]⟩) (.iface ty x) _ rfl rfl kk (.held (.iface ty x)) [] rfl ?_; intro w3 hn3 hg3)
      go_meet
      case rel => exact Hcut.out.put hnn Hes.out (k := ⟨#[111, 114, 105, 103, 105, 110]⟩) hn3 hg3 Hl.out (by rw [Hstep.out]; rfl)
  case rest =>
  clear cq kk hmap hnn hnm Hes Hstep Hcut nn es Hu lst u hneq hgd Hlf
  -- scale
  have hstep := entsTo_succ (decayEnts sets) (i := 1) (es := anyEnt n_scale (lastOf sets n_scale)) rfl
  have Hstep := Lib.hid hstep; clear hstep
  have Hcut := Lib.hid hcut; clear hcut
  obtain ⟨u, cq, hu⟩ := (Hq.out.keep (Keeps.of_below _ Hcut.out.inn.bel)).cell 2 _ rfl
  have kk := key_of [115, 99, 97, 108, 101] (by decide)
  obtain ⟨nn, es, hmap, hnn, hes⟩ := Hcut.out.inn.map
  have hnm : nn < maxLen := by unfold maxLen; omega
  have Hes := Lib.hid hes; clear hes
  have hlf := fun t h => leaf_last (nm := n_scale) (t := t) (fun s hs hn => Hsc.out s hs (by rw [hn]; simp)) Hsm.out h
  simp only [GOK] at hu
  generalize lastOf sets n_scale = lst at hu Hstep hlf Hscale
  obtain ⟨t, rfl⟩ := Option.isSome_iff_exists.1 Hscale.out
  obtain rfl : u = .iface (leafTy t) (leafX t) := hu
  have Hl := Lib.hid (hlf t rfl); clear hlf Hscale
  generalize leafTy t = ty at *
  generalize leafX t = x at *
  go_upto_region 7 with (at_mapUpdate; refine wpList_mapUpdate_own _ rfl _ _ _ 122 rfl 9 20 keyed9 Tryz.underlying122 R9 (w.heap.size + 1) nn _ rfl hmap hnm (.string ⟨#[115, 99, 97, 108, 101]⟩) (.iface ty x) _ rfl rfl kk (.held (.iface ty x)) [] rfl ?_; intro w3 hn3 hg3)
  have hcut := Hcut.out.put (ts' := entsTo (decayEnts sets) 2) hnn Hes.out (k := ⟨#[115, 99, 97, 108, 101]⟩) hn3 hg3 Hl.out (by rw [Hstep.out]; rfl)
  clear cq kk hmap hnn hnm Hes Hstep Hcut nn es hn3 hg3 Hl
  -- decay
  have hstep := entsTo_succ (decayEnts sets) (i := 2) (es := numEnt n_decay (lastOf sets n_decay)) rfl
  have Hstep := Lib.hid hstep; clear hstep
  have Hcut := Lib.hid hcut; clear hcut
  obtain ⟨u, cq, hu⟩ := (Hq.out.keep (Keeps.of_below _ Hcut.out.inn.bel)).cell 3 _ rfl
  have kk := key_of [100, 101, 99, 97, 121] (by decide)
  obtain ⟨nn, es, hmap, hnn, hes⟩ := Hcut.out.inn.map
  have hnm : nn < maxLen := by unfold maxLen; omega
  have Hes := Lib.hid hes; clear hes
  obtain ⟨p, rfl, hp⟩ := num_form hu
  clear hu
  generalize lastOf sets n_decay = lst at hp Hstep Hdec
  have Hu := Lib.hid hp; clear hp
  dsimp only [Act.put]
  go_cut [43] from 30 to 42 (fun c wx => c = .bool lst.isSome ∧ w3 = wx)
  case first =>
    rcases lst with _ | t
    · obtain rfl : p = none := Hu.out
      go_wp2_with fail
      go_meet
      case rel => exact ⟨rfl, rfl⟩
    · obtain ⟨b, rfl, _, cb⟩ := Hu.out
      have hgt := Hdec.out t rfl
      go_wp2_with fail
      go_meet
      case rel => exact ⟨rfl, rfl⟩
  case rest =>
  obtain ⟨rfl, rfl⟩ := hcut
  go_upto_if 43 with fail
  go_cut [] from 43 to 51 (fun wr => DRel w fd (entsTo (decayEnts sets) 3) 3 wr)
  case first =>
    as_aux_lemma =>
    rcases lst with _ | t
    · obtain rfl : p = none := Hu.out
      go_wp2_with fail
      go_meet
      case rel => exact Hcut.out.skip (by rw [Hstep.out]; simp [numEnt])
    · obtain ⟨b, rfl, _, cb⟩ := Hu.out
      have hgt := Hdec.out t rfl
      go_wp2_with (at_mapUpdate; refine wpList_mapUpdate_own _ rfl _ _ _ 122 rfl 9 20 keyed9 Tryz.underlying122 R9 (w.heap.size + 1) nn _ rfl hmap hnm (.string ⟨#[100, 101, 99, 97, 121]⟩) (.iface 28 (.float .f64 t.num)) _ rfl rfl kk (.held (.iface 28 (.float .f64 t.num))) [] rfl ?_; intro w3 hn3 hg3)
      go_meet
      case rel => exact Hcut.out.put hnn Hes.out (k := ⟨#[100, 101, 99, 97, 121]⟩) hn3 hg3 (fun _ _ => .num _) (by rw [Hstep.out]; rfl)
  case rest =>
  clear cq kk hmap hnn hnm Hes Hstep Hcut nn es Hu lst p Hdec
  -- offset
  have hstep := entsTo_succ (decayEnts sets) (i := 3) (es := anyEnt n_offset (lastOf sets n_offset)) rfl
  have Hstep := Lib.hid hstep; clear hstep
  have Hcut := Lib.hid hcut; clear hcut
  obtain ⟨u, cq, hu⟩ := (Hq.out.keep (Keeps.of_below _ Hcut.out.inn.bel)).cell 4 _ rfl
  have kk := key_of [111, 102, 102, 115, 101, 116] (by decide)
  obtain ⟨nn, es, hmap, hnn, hes⟩ := Hcut.out.inn.map
  have hnm : nn < maxLen := by unfold maxLen; omega
  have Hes := Lib.hid hes; clear hes
  have hlf := fun t h => leaf_last (nm := n_offset) (t := t) (fun s hs hn => Hsc.out s hs (by rw [hn]; simp)) Hsm.out h
  have hneq := any_neq hu
  have hgd := any_guard hu
  simp only [GOK] at hu
  generalize lastOf sets n_offset = lst at hu hneq Hstep hlf
  have Hu := Lib.hid hu; clear hu
  have Hlf := Lib.hid hlf; clear hlf
  go_upto_if 56 with fail
  go_cut [] from 52 to 61 (fun wr => DRel w fd (entsTo (decayEnts sets) 4) 4 wr)
  case first =>
    as_aux_lemma =>
    rcases lst with _ | t
    · obtain rfl : u = .nilIface := Hu.out
      go_wp2_with fail
      go_meet
      case rel => exact Hcut.out.skip (by rw [Hstep.out]; simp [anyEnt])
    · obtain rfl : u = .iface (leafTy t) (leafX t) := Hu.out
      have Hl := Lib.hid (Hlf.out t rfl); clear Hu Hlf
      generalize leafTy t = ty at *
      generalize leafX t = x at *
      go_wp2_with (at_mapUpdate; refine wpList_mapUpdate_own _ rfl _ _ _ 122 rfl 9 20 keyed9 Tryz.underlying122 R9 (w.heap.size + 1) nn _ rfl hmap hnm (.string ⟨#[111, 102, 102, 115, 101, 116]⟩) (.iface ty x) _ rfl rfl kk (.held (.iface ty x)) [] rfl ?_; intro w3 hn3 hg3)
      go_meet
      case rel => exact Hcut.out.put hnn Hes.out (k := ⟨#[111, 102, 102, 115, 101, 116]⟩) hn3 hg3 Hl.out (by rw [Hstep.out]; rfl)
  case rest =>
  clear cq kk hmap hnn hnm Hes Hstep Hcut nn es Hu lst u hneq hgd Hlf
  -- multi_value_mode
  have Hcut := Lib.hid hcut; clear hcut
  obtain ⟨u, cq, hu⟩ := (Hq.out.keep (Keeps.of_below _ Hcut.out.inn.bel)).cell 5 _ rfl
  have kk := key_of [109, 117, 108, 116, 105, 95, 118, 97, 108, 117, 101, 95, 109, 111, 100, 101] (by decide)
  have hmap := Hcut.out.outr
  have hu' : u = .string (textLast sets n_multi_value_mode) := hu
  subst hu'
  clear hu
  have hsz : (textLast sets n_multi_value_mode).size ≤ 9223372036854775807 := text_small63 Hsm.out n_multi_value_mode
  have hT : decayT fd sets = mapTree ((fd, mapTree (entsTo (decayEnts sets) 4)) :: textEnt n_multi_value_mode (textLast sets n_multi_value_mode)) := rfl
  generalize textLast sets n_multi_value_mode = str at hsz cq hT
  generalize decayT fd sets = T at *
  have HT := Lib.hid hT; clear hT
  have Hnd : Hid (((entsTo (decayEnts sets) 4).map (·.1)).Nodup) := Lib.hid ((decay_parts sets).nodup (by decide +kernel))
  have Hln : Hid ((entsTo (decayEnts sets) 4).length ≤ 4294967296) := Lib.hid (by have := (decay_parts sets).length; simp only [List.length_cons, List.length_nil] at this; exact Nat.le_trans this (by decide))
  go_upto_if 66 with fail
  go_cut [] from 62 to 72 (fun wr => AnyAt wr (fun c => w.heap.size ≤ c) (.iface 122 (.map (some w.heap.size))) T ∧ Below w.heap.size w wr)
  case first =>
    as_aux_lemma =>
    by_cases hs0 : str = ⟨#[]⟩
    · have hemp : str.toList.isEmpty = true := by rw [bs_isEmpty]; simp [hs0]
      have Hs0 := Lib.hid hs0; clear hs0
      simp only [hemp, Bool.not_true]
      go_wp2_with fail
      go_meet
      case rel => exact ⟨by rw [HT.out, textEnt, if_pos Hs0.out]; exact Hcut.out.fin0 Hnd.out Hln.out, Hcut.out.inn.bel⟩
    · have hemp : str.toList.isEmpty = false := by rw [bs_isEmpty]; simp [hs0]
      have Hs0 := Lib.hid hs0; clear hs0
      simp only [hemp, Bool.not_false]
      go_wp2_with (at_mapUpdate; refine wpList_mapUpdate_own _ rfl _ _ _ 122 rfl 9 20 keyed9 Tryz.underlying122 R9 w.heap.size 1 _ rfl hmap (by decide) (.string ⟨#[109, 117, 108, 116, 105, 95, 118, 97, 108, 117, 101, 95, 109, 111, 100, 101]⟩) (.iface 9 (.string str)) _ rfl rfl kk (.held (.iface 9 (.string str))) [] rfl ?_; intro w3 hn3 hg3)
      go_meet
      case rel => exact ⟨by rw [HT.out, textEnt, if_neg Hs0.out]; exact Hcut.out.fin1 (k := n_multi_value_mode) Hfd.out hsz hn3 hg3 Hnd.out Hln.out, Hcut.out.inn.bel.grown hg3 Hcut.out.inn.bel.size (fun k hk => by injection hk with hk; omega)⟩
  case rest =>
  obtain ⟨hfin, hbel⟩ := hcut
  clear cq kk hmap hsz Hcut
  have Hfin := Lib.hid hfin; clear hfin
  go_wp2_with fail
  refine bodyPost_ret (v := .tuple #[.iface 122 (.map (some w.heap.size)), .nilIface]) (by simp [results, Tryz.results286, go_sem]) rfl ?_
  exact ⟨_, rfl, Hfin.out, hbel⟩

set_option maxRecDepth 100000 in
set_option maxHeartbeats 100000000 in
theorem srcLinear (fd : ByteArray) (sets : List SetM) (B : Nat) (S : Nat → Prop) (w : World) (hq : GSt w S B (ksDecay fd) 189 sets) (hfs : fd.size ≤ 9223372036854775807) (hfd : fd ≠ n_multi_value_mode) (hsm : ∀ s ∈ sets, s.val.text.size ≤ 9223372036854775807)
    (hsc : ∀ s ∈ sets, s.name ∈ [n_origin, n_scale, n_offset] → scalarT s.val = true) (hscale : (lastOf sets n_scale).isSome = true) (hdec : ∀ t, lastOf sets n_decay = some t → (FloatKind.f64.format.order t.num 0 == some .gt) = true) : Calls Tryz.prog 290 #[.pointer (some ⟨B, 0, none⟩)] w (SrcPost w (decayT fd sets)) := by
  have hlt := hq.lt
  have Hq := Lib.hid hq; clear hq
  have Hfd := Lib.hid hfd; clear hfd
  have Hsm := Lib.hid hsm; clear hsm
  have Hsc := Lib.hid hsc; clear hsc
  have Hscale := Lib.hid hscale; clear hscale
  have Hdec := Lib.hid hdec; clear hdec
  obtain ⟨u, cq, hu⟩ := Hq.out.cell 0 _ rfl
  have hu' : u = .string fd := hu
  subst hu'
  clear hu
  have hm0 := World.ownsMap_made w Tryz.prog 9 R9
  have hm1 := World.ownsMap_made (w.alloc (.map #[] 0)) Tryz.prog 9 R9
  rw [World.size_alloc] at hm1
  have kk := Go.WideMaps.keyOf_string_mk (P := Tryz.prog) (k := 9) Tryz.underlying9 (s := fd) (by unfold maxLen; omega)
  go_enter Tryz.func290, Tryz.ntmps290
  go_upto_region 4 with (at_mapUpdate; refine wpList_mapUpdate_own _ rfl _ _ _ 122 rfl 9 20 keyed9 Tryz.underlying122 R9 w.heap.size 0 _ rfl (hm0.alloc _) (by decide) (.string fd) (.iface 122 (.map (some (w.heap.size + 1)))) _ rfl rfl kk (.held (.iface 122 (.map (some (w.heap.size + 1))))) [] rfl ?_; intro w1 hn0 hg1)
  have hcut : DRel w fd (entsTo (decayEnts sets) 0) 0 w1 := by
    have h1 := hg1.size
    simp at h1
    exact ⟨⟨⟨0, [], hm1.kept hg1 (by simp), Nat.le_refl _, by simpa [entsTo] using EntriesOK.nil _ _⟩, (((Below.refl _ _).alloc (Nat.le_refl _) _).alloc (by simp) _).grown hg1 (by simp; omega) (fun k hk => by injection hk with hk; omega), by omega⟩, hn0⟩
  clear hm0 hm1 kk hn0 hg1 cq hfs
  -- origin
  have hstep := entsTo_succ (decayEnts sets) (i := 0) (es := anyEnt n_origin (lastOf sets n_origin)) rfl
  have Hstep := Lib.hid hstep; clear hstep
  have Hcut := Lib.hid hcut; clear hcut
  obtain ⟨u, cq, hu⟩ := (Hq.out.keep (Keeps.of_below _ Hcut.out.inn.bel)).cell 1 _ rfl
  have kk := key_of [111, 114, 105, 103, 105, 110] (by decide)
  obtain ⟨nn, es, hmap, hnn, hes⟩ := Hcut.out.inn.map
  have hnm : nn < maxLen := by unfold maxLen; omega
  have Hes := Lib.hid hes; clear hes
  have hlf := fun t h => leaf_last (nm := n_origin) (t := t) (fun s hs hn => Hsc.out s hs (by rw [hn]; simp)) Hsm.out h
  have hneq := any_neq hu
  have hgd := any_guard hu
  simp only [GOK] at hu
  generalize lastOf sets n_origin = lst at hu hneq Hstep hlf
  have Hu := Lib.hid hu; clear hu
  have Hlf := Lib.hid hlf; clear hlf
  go_upto_if 19 with fail
  go_cut [] from 15 to 24 (fun wr => DRel w fd (entsTo (decayEnts sets) 1) 1 wr)
  case first =>
    as_aux_lemma =>
    rcases lst with _ | t
    · obtain rfl : u = .nilIface := Hu.out
      go_wp2_with fail
      go_meet
      case rel => exact Hcut.out.skip (by rw [Hstep.out]; simp [anyEnt])
    · obtain rfl : u = .iface (leafTy t) (leafX t) := Hu.out
      have Hl := Lib.hid (Hlf.out t rfl); clear Hu Hlf
      generalize leafTy t = ty at *
      generalize leafX t = x at *
      go_wp2_with (at_mapUpdate; refine wpList_mapUpdate_own _ rfl _ _ _ 122 rfl 9 20 keyed9 Tryz.underlying122 R9 (w.heap.size + 1) nn _ rfl hmap hnm (.string ⟨#[111, 114, 105, 103, 105, 110]⟩) (.iface ty x) _ rfl rfl kk (.held (.iface ty x)) [] rfl ?_; intro w3 hn3 hg3)
      go_meet
      case rel => exact Hcut.out.put hnn Hes.out (k := ⟨#[111, 114, 105, 103, 105, 110]⟩) hn3 hg3 Hl.out (by rw [Hstep.out]; rfl)
  case rest =>
  clear cq kk hmap hnn hnm Hes Hstep Hcut nn es Hu lst u hneq hgd Hlf
  -- scale
  have hstep := entsTo_succ (decayEnts sets) (i := 1) (es := anyEnt n_scale (lastOf sets n_scale)) rfl
  have Hstep := Lib.hid hstep; clear hstep
  have Hcut := Lib.hid hcut; clear hcut
  obtain ⟨u, cq, hu⟩ := (Hq.out.keep (Keeps.of_below _ Hcut.out.inn.bel)).cell 2 _ rfl
  have kk := key_of [115, 99, 97, 108, 101] (by decide)
  obtain ⟨nn, es, hmap, hnn, hes⟩ := Hcut.out.inn.map
  have hnm : nn < maxLen := by unfold maxLen; omega
  have Hes := Lib.hid hes; clear hes
  have hlf := fun t h => leaf_last (nm := n_scale) (t := t) (fun s hs hn => Hsc.out s hs (by rw [hn]; simp)) Hsm.out h
  simp only [GOK] at hu
  generalize lastOf sets n_scale = lst at hu Hstep hlf Hscale
  obtain ⟨t, rfl⟩ := Option.isSome_iff_exists.1 Hscale.out
  obtain rfl : u = .iface (leafTy t) (leafX t) := hu
  have Hl := Lib.hid (hlf t rfl); clear hlf Hscale
  generalize leafTy t = ty at *
  generalize leafX t = x at *
  go_upto_region 7 with (at_mapUpdate; refine wpList_mapUpdate_own _ rfl _ _ _ 122 rfl 9 20 keyed9 Tryz.underlying122 R9 (w.heap.size + 1) nn _ rfl hmap hnm (.string ⟨#[115, 99, 97, 108, 101]⟩) (.iface ty x) _ rfl rfl kk (.held (.iface ty x)) [] rfl ?_; intro w3 hn3 hg3)
  have hcut := Hcut.out.put (ts' := entsTo (decayEnts sets) 2) hnn Hes.out (k := ⟨#[115, 99, 97, 108, 101]⟩) hn3 hg3 Hl.out (by rw [Hstep.out]; rfl)
  clear cq kk hmap hnn hnm Hes Hstep Hcut nn es hn3 hg3 Hl
  -- decay
  have hstep := entsTo_succ (decayEnts sets) (i := 2) (es := numEnt n_decay (lastOf sets n_decay)) rfl
  have Hstep := Lib.hid hstep; clear hstep
  have Hcut := Lib.hid hcut; clear hcut
  obtain ⟨u, cq, hu⟩ := (Hq.out.keep (Keeps.of_below _ Hcut.out.inn.bel)).cell 3 _ rfl
  have kk := key_of [100, 101, 99, 97, 121] (by decide)
  obtain ⟨nn, es, hmap, hnn, hes⟩ := Hcut.out.inn.map
  have hnm : nn < maxLen := by unfold maxLen; omega
  have Hes := Lib.hid hes; clear hes
  obtain ⟨p, rfl, hp⟩ := num_form hu
  clear hu
  generalize lastOf sets n_decay = lst at hp Hstep Hdec
  have Hu := Lib.hid hp; clear hp
  dsimp only [Act.put]
  go_cut [43] from 30 to 42 (fun c wx => c = .bool lst.isSome ∧ w3 = wx)
  case first =>
    rcases lst with _ | t
    · obtain rfl : p = none := Hu.out
      go_wp2_with fail
      go_meet
      case rel => exact ⟨rfl, rfl⟩
    · obtain ⟨b, rfl, _, cb⟩ := Hu.out
      have hgt := Hdec.out t rfl
      go_wp2_with fail
      go_meet
      case rel => exact ⟨rfl, rfl⟩
  case rest =>
  obtain ⟨rfl, rfl⟩ := hcut
  go_upto_if 43 with fail
  go_cut [] from 43 to 51 (fun wr => DRel w fd (entsTo (decayEnts sets) 3) 3 wr)
  case first =>
    as_aux_lemma =>
    rcases lst with _ | t
    · obtain rfl : p = none := Hu.out
      go_wp2_with fail
      go_meet
      case rel => exact Hcut.out.skip (by rw [Hstep.out]; simp [numEnt])
    · obtain ⟨b, rfl, _, cb⟩ := Hu.out
      have hgt := Hdec.out t rfl
      go_wp2_with (at_mapUpdate; refine wpList_mapUpdate_own _ rfl _ _ _ 122 rfl 9 20 keyed9 Tryz.underlying122 R9 (w.heap.size + 1) nn _ rfl hmap hnm (.string ⟨#[100, 101, 99, 97, 121]⟩) (.iface 28 (.float .f64 t.num)) _ rfl rfl kk (.held (.iface 28 (.float .f64 t.num))) [] rfl ?_; intro w3 hn3 hg3)
      go_meet
      case rel => exact Hcut.out.put hnn Hes.out (k := ⟨#[100, 101, 99, 97, 121]⟩) hn3 hg3 (fun _ _ => .num _) (by rw [Hstep.out]; rfl)
  case rest =>
  clear cq kk hmap hnn hnm Hes Hstep Hcut nn es Hu lst p Hdec
  -- offset
  have hstep := entsTo_succ (decayEnts sets) (i := 3) (es := anyEnt n_offset (lastOf sets n_offset)) rfl
  have Hstep := Lib.hid hstep; clear hstep
  have Hcut := Lib.hid hcut; clear hcut
  obtain ⟨u, cq, hu⟩ := (Hq.out.keep (Keeps.of_below _ Hcut.out.inn.bel)).cell 4 _ rfl
  have kk := key_of [111, 102, 102, 115, 101, 116] (by decide)
  obtain ⟨nn, es, hmap, hnn, hes⟩ := Hcut.out.inn.map
  have hnm : nn < maxLen := by unfold maxLen; omega
  have Hes := Lib.hid hes; clear hes
  have hlf := fun t h => leaf_last (nm := n_offset) (t := t) (fun s hs hn => Hsc.out s hs (by rw [hn]; simp)) Hsm.out h
  have hneq := any_neq hu
  have hgd := any_guard hu
  simp only [GOK] at hu
  generalize lastOf sets n_offset = lst at hu hneq Hstep hlf
  have Hu := Lib.hid hu; clear hu
  have Hlf := Lib.hid hlf; clear hlf
  go_upto_if 56 with fail
  go_cut [] from 52 to 61 (fun wr => DRel w fd (entsTo (decayEnts sets) 4) 4 wr)
  case first =>
    as_aux_lemma =>
    rcases lst with _ | t
    · obtain rfl : u = .nilIface := Hu.out
      go_wp2_with fail
      go_meet
      case rel => exact Hcut.out.skip (by rw [Hstep.out]; simp [anyEnt])
    · obtain rfl : u = .iface (leafTy t) (leafX t) := Hu.out
      have Hl := Lib.hid (Hlf.out t rfl); clear Hu Hlf
      generalize leafTy t = ty at *
      generalize leafX t = x at *
      go_wp2_with (at_mapUpdate; refine wpList_mapUpdate_own _ rfl _ _ _ 122 rfl 9 20 keyed9 Tryz.underlying122 R9 (w.heap.size + 1) nn _ rfl hmap hnm (.string ⟨#[111, 102, 102, 115, 101, 116]⟩) (.iface ty x) _ rfl rfl kk (.held (.iface ty x)) [] rfl ?_; intro w3 hn3 hg3)
      go_meet
      case rel => exact Hcut.out.put hnn Hes.out (k := ⟨#[111, 102, 102, 115, 101, 116]⟩) hn3 hg3 Hl.out (by rw [Hstep.out]; rfl)
  case rest =>
  clear cq kk hmap hnn hnm Hes Hstep Hcut nn es Hu lst u hneq hgd Hlf
  -- multi_value_mode
  have Hcut := Lib.hid hcut; clear hcut
  obtain ⟨u, cq, hu⟩ := (Hq.out.keep (Keeps.of_below _ Hcut.out.inn.bel)).cell 5 _ rfl
  have kk := key_of [109, 117, 108, 116, 105, 95, 118, 97, 108, 117, 101, 95, 109, 111, 100, 101] (by decide)
  have hmap := Hcut.out.outr
  have hu' : u = .string (textLast sets n_multi_value_mode) := hu
  subst hu'
  clear hu
  have hsz : (textLast sets n_multi_value_mode).size ≤ 9223372036854775807 := text_small63 Hsm.out n_multi_value_mode
  have hT : decayT fd sets = mapTree ((fd, mapTree (entsTo (decayEnts sets) 4)) :: textEnt n_multi_value_mode (textLast sets n_multi_value_mode)) := rfl
  generalize textLast sets n_multi_value_mode = str at hsz cq hT
  generalize decayT fd sets = T at *
  have HT := Lib.hid hT; clear hT
  have Hnd : Hid (((entsTo (decayEnts sets) 4).map (·.1)).Nodup) := Lib.hid ((decay_parts sets).nodup (by decide +kernel))
  have Hln : Hid ((entsTo (decayEnts sets) 4).length ≤ 4294967296) := Lib.hid (by have := (decay_parts sets).length; simp only [List.length_cons, List.length_nil] at this; exact Nat.le_trans this (by decide))
  go_upto_if 66 with fail
  go_cut [] from 62 to 72 (fun wr => AnyAt wr (fun c => w.heap.size ≤ c) (.iface 122 (.map (some w.heap.size))) T ∧ Below w.heap.size w wr)
  case first =>
    as_aux_lemma =>
    by_cases hs0 : str = ⟨#[]⟩
    · have hemp : str.toList.isEmpty = true := by rw [bs_isEmpty]; simp [hs0]
      have Hs0 := Lib.hid hs0; clear hs0
      simp only [hemp, Bool.not_true]
      go_wp2_with fail
      go_meet
      case rel => exact ⟨by rw [HT.out, textEnt, if_pos Hs0.out]; exact Hcut.out.fin0 Hnd.out Hln.out, Hcut.out.inn.bel⟩
    · have hemp : str.toList.isEmpty = false := by rw [bs_isEmpty]; simp [hs0]
      have Hs0 := Lib.hid hs0; clear hs0
      simp only [hemp, Bool.not_false]
      go_wp2_with (at_mapUpdate; refine wpList_mapUpdate_own _ rfl _ _ _ 122 rfl 9 20 keyed9 Tryz.underlying122 R9 w.heap.size 1 _ rfl hmap (by decide) (.string ⟨#[109, 117, 108, 116, 105, 95, 118, 97, 108, 117, 101, 95, 109, 111, 100, 101]⟩) (.iface 9 (.string str)) _ rfl rfl kk (.held (.iface 9 (.string str))) [] rfl ?_; intro w3 hn3 hg3)
      go_meet
      case rel => exact ⟨by rw [HT.out, textEnt, if_neg Hs0.out]; exact Hcut.out.fin1 (k := n_multi_value_mode) Hfd.out hsz hn3 hg3 Hnd.out Hln.out, Hcut.out.inn.bel.grown hg3 Hcut.out.inn.bel.size (fun k hk => by injection hk with hk; omega)⟩
  case rest =>
  obtain ⟨hfin, hbel⟩ := hcut
  clear cq kk hmap hsz Hcut
  have Hfin := Lib.hid hfin; clear hfin
  go_wp2_with fail
  refine bodyPost_ret (v := .tuple #[.iface 122 (.map (some w.heap.size)), .nilIface]) (by simp [results, Tryz.results290, go_sem]) rfl ?_
  exact ⟨_, rfl, Hfin.out, hbel⟩
end Go.Proofs.YtbcnhcpgloncdaaGreatDoor
