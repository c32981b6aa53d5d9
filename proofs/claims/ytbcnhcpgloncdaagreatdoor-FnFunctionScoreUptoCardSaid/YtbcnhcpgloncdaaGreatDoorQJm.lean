/- 'Source' of a function_score query: the walk. -/
import Derived.Test.YtbcnhcpgloncdaaGreatDoorQJj
namespace Go.Proofs.YtbcnhcpgloncdaaGreatDoor
open Go Go.RowKit Go.BigFrame Go.Maps

theorem Tryz.info20' : (Tryz.prog.info? 20).map (fun i => (i.zero, i.size, i.bytes)) = some (some .nilIface, 1, 16) := by kernel_rfl
theorem neq114_nil (w : World) : (binOp .neq 114 .nilIface .nilIface).run Tryz.prog w = .ok (.bool false) w := by kernel_rfl
theorem neq114_59 (x : Value) (w : World) : (binOp .neq 114 (.iface 59 x) .nilIface).run Tryz.prog w = .ok (.bool true) w := by kernel_rfl
theorem guard114_nil (n : Nat) (w : World) : (eqGuard .neq 114 (.tmp n) (.const .nilIface) .nilIface .nilIface).run Tryz.prog w = .ok () w := by kernel_rfl
theorem guard114_59 (n : Nat) (x : Value) (w : World) : (eqGuard .neq 114 (.tmp n) (.const .nilIface) (.iface 59 x) .nilIface).run Tryz.prog w = .ok () w := by kernel_rfl
theorem qry_neq {w : World} {S : Nat → Prop} {v : Value} {qs : List Tr} (h : QryR w S v qs) (w' : World) : (binOp .neq 114 v .nilIface).run Tryz.prog w' = .ok (.bool (!qs.isEmpty)) w' := by
  cases qs with
  | nil => obtain rfl : v = .nilIface := h; exact neq114_nil w'
  | cons t r => obtain ⟨u, rfl, _⟩ := h; exact neq114_59 _ w'
theorem qry_guard {w : World} {S : Nat → Prop} {v : Value} {qs : List Tr} (h : QryR w S v qs) (n : Nat) (w' : World) : (eqGuard .neq 114 (.tmp n) (.const .nilIface) v .nilIface).run Tryz.prog w' = .ok () w' := by
  cases qs with
  | nil => obtain rfl : v = .nilIface := h; exact guard114_nil n w'
  | cons t r => obtain ⟨u, rfl, _⟩ := h; exact guard114_59 n _ w'
theorem FilR.qry {w : World} {S : Nat → Prop} {v : Value} {s : ScoreM} (h : FilR w S v s) : QryR w S v s.filters := by
  unfold FilR at h
  cases e : s.filters with
  | nil => rw [e] at h; exact h
  | cons t r => rw [e] at h; exact h
theorem key_kind (k : SK) : keyOf Tryz.prog 9 (.string k.key) = some (.string k.key.data.toList) := by
  cases k <;> exact key_of _ (by decide)
theorem weight_rel {wl wx w1 : World} {S : Nat → Prop} {n : Nat} (kk : SK) (s : ScoreM) (r : IRel wl S (oneEnt n_filter' s.filters ++ weightEnt (weightOf kk s)) 2 wx) {es : List (ByteArray × Value)} {v : Value} (hn : n ≤ 2) (hes : EntriesOK wx (fun b => S b ∧ b ≠ wl.heap.size) es (oneEnt n_filter' s.filters ++ weightEnt (weightOf kk s)))
    (hown : w1.ownsMap Tryz.prog 9 R9 wl.heap.size (n + 1) ((dput es).put (.string kk.key.data.toList) (.held v))) (hg : wx.grownBy w1 (some wl.heap.size)) (hv : AnyAt wx (fun b => S b ∧ b ≠ wl.heap.size) v (srcT kk s)) : IRel wl S (itemEnts kk s) 3 w1 := by
  cases kk with
  | weight =>
    have := r.over (k := n_weight) hn hes hown hg hv
    simpa [itemEnts, preW, SK.key, n_weight] using this
  | _ => exact r.put hn hes hown hg hv (by simp [itemEnts, preW])
/-- The row of functions, at the end. -/
theorem funs_any {wr : World} {F : Nat} {cs : Array Value} {fs : List ScoreM} {S : Nat → Prop} (hF : wr.heap[F]? = some (.cells cs 20 (0, 0))) (hn : cs.size = fs.length) (hS : S F) (hv : ∀ (j : Nat) (u : Value) (t : ScoreM), cs[j]? = some u → fs[j]? = some t → AnyAt wr S u (funT t)) (hl : fs.length ≤ 4294967296) :
    AnyAt wr S (.iface 123 (.slice (some ⟨F, 0, none⟩) fs.length fs.length)) (listT (fs.map funT)) := by
  have h : AnyAt wr S (.iface 123 (.slice (some ⟨F, 0, none⟩) (fs.map funT).length fs.length)) (listT (fs.map funT)) := by
    refine .anys (some ⟨F, 0, none⟩) fs.length (fun i => cs.getD i .nilIface) (fs.map funT) (fun _ => ⟨F, 0, rfl, hS, fun i hi j u hu => ?_⟩) (by rw [List.length_map]; exact hl) (fun i t ht => ?_)
    · rw [List.length_map] at hi
      rw [List.getElem?_singleton] at hu
      split at hu
      · rename_i hj
        cases hu
        subst hj
        have hi' : i < cs.size := by omega
        simp [World.cell?, hF, Array.getD, hi']
      · cases hu
    · rw [List.getElem?_map] at ht
      cases e : fs[i]? with
      | none => rw [e] at ht; cases ht
      | some s =>
        rw [e] at ht
        cases ht
        have hi := (List.getElem?_eq_some_iff.1 e).1
        have hi' : i < cs.size := by omega
        have : cs[i]? = some (cs.getD i .nilIface) := by simp [Array.getD, hi']
        exact hv i _ s this e
  rw [List.length_map] at h
  exact h
/-- One more function stored. -/
theorem funs_round {wr w7 : World} {F k : Nat} {cs : Array Value} {fs : List ScoreM} {S0 : Nat → Prop} {v : Value} {s : ScoreM} (hF : wr.heap[F]? = some (.cells cs 20 (0, 0)))
    (hv : ∀ (j : Nat) (u : Value) (t : ScoreM), j < k → cs[j]? = some u → fs[j]? = some t → AnyAt wr (fun b => S0 b ∧ b ≠ F) u (funT t)) (hb : Below wr.heap.size wr w7) (hn : AnyAt w7 (fun b => S0 b ∧ b ≠ F) v (funT s)) (hs : ∀ u, fs[k]? = some u → u = s) :
    (w7.setCell ⟨F, k, none⟩ v).heap[F]? = some (.cells (cs.setIfInBounds k v) 20 (0, 0)) ∧ ∀ (j : Nat) (u : Value) (t : ScoreM), j < k + 1 → (cs.setIfInBounds k v)[j]? = some u → fs[j]? = some t → AnyAt (w7.setCell ⟨F, k, none⟩ v) (fun b => S0 b ∧ b ≠ F) u (funT t) := by
  have hF7 := (hb.block F (Array.getElem?_eq_some_iff.1 hF).1).trans hF
  have hk : Keeps (fun b => S0 b ∧ b ≠ F) w7 (w7.setCell ⟨F, k, none⟩ v) := fun b hb _ => heap_setCell_other _ _ _ _ hb.2
  refine ⟨heap_setCell_same w7 F k cs 20 v hF7, fun j u t hj hu ht => ?_⟩
  by_cases hjk : j = k
  · subst hjk
    have hjl : j < cs.size := by have := (Array.getElem?_eq_some_iff.1 hu).1; simpa using this
    rw [Array.getElem?_setIfInBounds_self_of_lt hjl] at hu
    cases hu
    rw [hs t ht]
    exact hn.keep hk
  · rw [Array.getElem?_setIfInBounds_ne (by omega)] at hu
    exact ((hv j u t (by omega) hu ht).keep (Keeps.of_below _ hb)).keep hk
attribute [local go_sem] meth_GetWeight meth_Name meth_Source call_GetWeight call_Name call_Source

set_option maxRecDepth 100000 in
set_option maxHeartbeats 100000000 in
theorem srcScore_any (qs : List Tr) (fs : List ScoreM) (sets : List SetM) (w : World) (h B : Nat) (hq : FQ w h B qs fs sets) (n0 r0 : Nat) (hn0 : n0 ≤ 4294967296) (hr0 : r0 ≤ 9223372036854775807) (hqok : ∀ t ∈ qs, OkT n0 r0 t ∧ properT 100 t = true) (hfok : ∀ s ∈ fs, ∀ t ∈ s.filters, OkT n0 r0 t ∧ properT 100 t = true)
    (hsok : ∀ s ∈ fs, SrcOK (SK.of s.kind) s) (htab : ∀ wx, Below w.heap.size w wx → UTabs wx) (hfl : fs.length ≤ 1048576) (hsm : ∀ s ∈ sets, s.val.text.size ≤ 9223372036854775807) :
    Calls Tryz.prog 39 #[.pointer (some ⟨B, 0, none⟩)] w fun e w' => ∃ v, e = .returned (.tuple #[v, .nilIface]) ∧ AnyAt w' (fun _ => True) v (scoreT qs fs sets) ∧ Below w.heap.size w w' := by
  obtain ⟨i0, hi, hz0, hz1, hz2⟩ := info_parts Tryz.info20'
  obtain ⟨X, Z, qv, fv, sv, p2, p3, p8, hX, hbx, hr, hqr, h2, h3, h8⟩ := hq
  obtain ⟨_, _, _, _, _, _, _, _, _, _, hlt⟩ := cells9' hbx
  have Hbx := Lib.hid hbx; clear hbx
  have Hr := Lib.hid hr; clear hr
  have hqn := qry_neq hqr
  have hqg := qry_guard hqr
  have Hqr := Lib.hid hqr; clear hqr
  have H2 := Lib.hid h2; clear h2
  have H3 := Lib.hid h3; clear h3
  have H8 := Lib.hid h8; clear h8
  have Hqok := Lib.hid hqok; clear hqok
  have Hfok := Lib.hid hfok; clear hfok
  have Hsok := Lib.hid hsok; clear hsok
  have Htab := Lib.hid htab; clear htab
  have Hsm := Lib.hid hsm; clear hsm
  have Hn0 := Lib.hid (And.intro hn0 hr0); clear hn0 hr0
  clear hX
  have hm0 := World.ownsMap_made w Tryz.prog 9 R9
  have hm1 := World.ownsMap_made (w.alloc (.map #[] 0)) Tryz.prog 9 R9
  rw [World.size_alloc] at hm1
  have k1 := key_of [102, 117, 110, 99, 116, 105, 111, 110, 95, 115, 99, 111, 114, 101] (by decide)
  go_enter Tryz.func39, Tryz.ntmps39
  go_upto_region 4 with (at_mapUpdate; refine wpList_mapUpdate_own _ rfl _ _ _ 122 rfl 9 20 keyed9 Tryz.underlying122 R9 w.heap.size 0 _ rfl (hm0.alloc _) (by decide) (.string ⟨#[102, 117, 110, 99, 116, 105, 111, 110, 95, 115, 99, 111, 114, 101]⟩) (.iface 122 (.map (some (w.heap.size + 1)))) _ rfl rfl k1 (.held (.iface 122 (.map (some (w.heap.size + 1))))) [] rfl ?_; intro w1 hn0 hg1)
  have hcut : ORel w (entsTo (scoreEnts qs fs sets) 0) 0 w1 := by
    have h1 := hg1.size
    simp at h1
    refine ⟨by omega, ⟨0, [], hm1.kept hg1 (by simp), Nat.le_refl _, by simpa [entsTo] using EntriesOK.nil _ _⟩, ⟨_, hn0⟩, ?_⟩
    exact ((((Below.refl _ _).alloc (Nat.le_refl _) _).alloc (by simp) _).grown hg1 (by simp; omega) (fun k hk => by injection hk with hk; omega))
  clear hm0 hm1 k1 hn0 hg1

  -- query
  have hstep := entsTo_succ (scoreEnts qs fs sets) (i := 0) (es := oneEnt n_query qs) rfl
  have Hstep := Lib.hid hstep; clear hstep
  have Hcut := Lib.hid hcut; clear hcut
  obtain ⟨c0, c1, c2, c3, c4, c5, c6, c7, c8, _, _⟩ := cells9' ((Hcut.out.bel.block B hlt).trans Hbx.out)
  clear c1 c2 c3 c4 c5 c6 c7 c8
  have kk := key_of [113, 117, 101, 114, 121] (by decide)
  obtain ⟨nn, es, hmap, hnn, hes⟩ := Hcut.out.map
  have hnm : nn < maxLen := by unfold maxLen; omega
  have Hes := Lib.hid hes; clear hes
  have hq1 := Hqr.out.keep (Keeps.of_below _ Hcut.out.bel)
  have Hq1 := Lib.hid hq1; clear hq1
  go_upto_if 28 with fail
  go_cut [6, 7] from 24 to 41 (fun _ _ wr => ORel w (entsTo (scoreEnts qs fs sets) 1) 1 wr)
  case first =>
    rcases qs with _ | ⟨t, rest⟩
    · simp only [List.isEmpty_nil, Bool.not_true] at hqn
      go_wp2_with fail
      go_meet
      case rel => exact Hcut.out.skip (by rw [Hstep.out]; simp [oneEnt])
    · simp only [List.isEmpty_cons, Bool.not_false] at hqn
      obtain ⟨⟨kd, tx, nu, ys, ka, kn, kc, ca, cn, cc⟩, rfl, hr0⟩ := Hq1.out
      have Hr0 := Lib.hid hr0; clear hr0
      have Ht := Lib.hid (Hqok.out t (by simp))
      go_wp2_with (first
        | (go_at_call 277; refine (given_any t n0 r0 100 Hn0.out.1 Hn0.out.2 Ht.out.1 Ht.out.2 ⟨kd, tx, nu, ys, ka, kn, kc, ca, cn, cc⟩ _ _ Hr0.out).mono ?_; rintro e w2 ⟨ty, x, rfl, hany, hb2⟩; have Hany := Lib.hid hany; clear hany; have hmap2 := hmap.kept (Below.grow hb2) (by simp))
        | (at_mapUpdate; refine wpList_mapUpdate_own _ rfl _ _ _ 122 rfl 9 20 keyed9 Tryz.underlying122 R9 (w.heap.size + 1) nn _ rfl hmap2 hnm (.string ⟨#[113, 117, 101, 114, 121]⟩) (.iface ty x) _ rfl rfl kk (.held (.iface ty x)) [] rfl ?_; intro w3 hn3 hg3))
      go_meet
      case rel => exact (Hcut.out.below hb2).put hnn (Hes.out.keep (Keeps.of_below _ hb2)) (k := ⟨#[113, 117, 101, 114, 121]⟩) hn3 hg3 (Hany.out.mono (fun b _ hb => by have := Hcut.out.sz; exact ⟨by omega, by omega⟩)) (by rw [Hstep.out]; rfl)
  case rest =>
  clear c0 kk hmap hnn hnm Hes Hstep Hcut nn es Hq1 hqn hqg
  have hcut : ORel w (entsTo (scoreEnts qs fs sets) 2) 2 wc := hcut.skip (by rw [entsTo_succ (scoreEnts qs fs sets) (i := 1) (es := []) rfl]; simp)

  -- functions
  have hstep := entsTo_succ (scoreEnts qs fs sets) (i := 2) (es := funsEnt fs) rfl
  have Hstep := Lib.hid hstep; clear hstep
  have Hcut := Lib.hid hcut; clear hcut
  obtain ⟨c0, c1, c2, c3, c4, c5, c6, c7, c8, _, _⟩ := cells9' ((Hcut.out.bel.block B hlt).trans Hbx.out)
  clear c0 c2 c3 c4 c5 c8
  have kk := key_of [102, 117, 110, 99, 116, 105, 111, 110, 115] (by decide)
  obtain ⟨nn, es, hmap, hnn, hes⟩ := Hcut.out.map
  have hnm : nn < maxLen := by unfold maxLen; omega
  have Hes := Lib.hid hes; clear hes
  obtain ⟨wF, hwF⟩ : ∃ wF, wF = wc := ⟨_, rfl⟩
  subst hwF
  obtain ⟨a6, k6, hf6⟩ := Hr.out.own6.form
  subst hf6
  obtain ⟨a7, k7, hf7⟩ := Hr.out.own7.form
  subst hf7
  go_upto_if 65 with fail
  go_cut [10, 11, 12, 13, 14, 15, 16, 17, 18] from 60 to 140 (fun _ _ _ _ _ _ _ _ _ wr => ORel w (entsTo (scoreEnts qs fs sets) 3) 3 wr)
  case first =>
    by_cases h0 : fs.length = 0
    · obtain rfl : fs = [] := List.length_eq_zero_iff.1 h0
      simp only [List.length_nil, Int.natCast_zero] at c6 ⊢
      go_wp2_with fail
      go_meet
      case rel => exact Hcut.out.skip (by rw [Hstep.out]; simp [funsEnt])
    · have hpe : funsEnt fs = [(n_functions, listT (fs.map funT))] := by
        cases fs with
        | nil => simp at h0
        | cons s r => rfl
      have Hpe := Lib.hid hpe; clear hpe
      obtain ⟨g6, k6', e6, hg6, r6⟩ := own_cells fil_law (fun x => x) (fun x => rfl) Hr.out.own6 (by omega) .nilIface
      obtain ⟨g7, k7', e7, hg7, r7⟩ := own_cells fun_law (fun x => x) (fun x => rfl) Hr.out.own7 (by omega) .nilIface
      injection e6 with e6 _ _
      injection e7 with e7 _ _
      subst e6 e7
      have R6 := Lib.hid r6; clear r6
      have R7 := Lib.hid r7; clear r7
      have hn1 : (0 : Int) < (fs.length : Int) := by omega
      have hmk : ∀ W : World, (Instr.makeSlice 123 (.int .i64 (fs.length : Int)) (.int .i64 (fs.length : Int))).run Tryz.prog W = .ok (.slice (some ⟨W.heap.size, 0, none⟩) fs.length fs.length) (W.alloc (.cells (madeCells (Value.cells .nilIface) (fs.length * i0.size)) 20)) := fun W => by
        have hr := run_make (P := Tryz.prog) W 123 20 i0 _ Tryz.underlying123 hi hz0 .i64 .i64 fs.length fs.length (by omega) (Int.le_refl _) (by rw [hz2]; omega) (by omega)
        simpa using hr
      have hsC : (madeCells (Value.cells .nilIface) (fs.length * i0.size)).size = fs.length := by rw [size_madeCells, hz1, Nat.mul_one]
      generalize madeCells (Value.cells .nilIface) (fs.length * i0.size) = C0 at hmk hsC
      clear hi hz0 hz1 hz2
      go_wp2_with fail
      go_loopw [77] (fun i wr => ∃ (k : Nat) (cs : Array Value), k ≤ fs.length ∧ i = .int .i64 k ∧ wr.heap[wF.heap.size]? = some (.cells cs 20 (0, 0)) ∧ cs.size = fs.length ∧ (∀ j u t, j < k → cs[j]? = some u → fs[j]? = some t → AnyAt wr (fun b => S2 w b ∧ b ≠ wF.heap.size) u (funT t)) ∧ Below wF.heap.size wF wr) (fun i _ => fs.length - (intOf i).toNat)
      case atStart => exact ⟨0, C0, Nat.zero_le _, rfl, heap_alloc_new _ _, hsC, fun j u t hj => by omega, (Below.refl _ _).alloc (Nat.le_refl _) _⟩
      case round =>
        obtain ⟨k, cs, hk, rfl, hF, hcs, hvals, hbel⟩ := hrel
        have hba := via Hcut.out.bel hbel
        have hsz := Hcut.out.sz
        have hszr := hbel.size
        obtain ⟨d0, d1, d2, d3, d4, d5, d6, d7, d8, _, _⟩ := cells9' ((hbel.block B (by have := Hcut.out.bel.size; omega)).trans ((Hcut.out.bel.block B hlt).trans Hbx.out))
        clear d0 d1 d2 d3 d4 d5 d8
        by_cases hlk : k < fs.length
        · obtain ⟨u6, hc6, hr6⟩ := R6.out k hlk
          obtain ⟨u7, hc7, hr7⟩ := R7.out k hlk
          obtain ⟨kk7, hkk, Bf, rfl, hgst⟩ := hr7
          have q6 := (hba.cell (p := ⟨g6, k, none⟩) hg6).trans hc6
          have q7 := (hba.cell (p := ⟨g7, k, none⟩) hg7).trans hc7
          have hok := Hsok.out fs[k] (List.getElem_mem hlk)
          rw [hkk, SK.of_num] at hok
          have hfk := Hfok.out fs[k] (List.getElem_mem hlk)
          have hft : funT fs[k] = mapTree (itemEnts kk7 fs[k]) := by unfold funT; rw [hkk, SK.of_num]
          have hfe : ∀ u, fs[k]? = some u → u = fs[k] := fun u hu => by rw [List.getElem?_eq_getElem hlk] at hu; cases hu; rfl
          generalize fs[k] = s at *
          have hgl : Bf < w.heap.size := hgst.lt
          have hg2 := hgst.mono (S' := fun b => b < w.heap.size) (fun b hb _ => hb)
          have hfq := FilR.qry hr6
          have hqn := qry_neq hfq
          have hqg := qry_guard hfq
          have Hfq := Lib.hid (hfq.keep (Keeps.of_below _ hba))
          have Hgs := Lib.hid (hg2.keep (Keeps.of_below _ hba))
          have Hok := Lib.hid hok
          have Hfk := Lib.hid hfk
          have Hft := Lib.hid hft
          have Hfe := Lib.hid hfe
          have Hvals := Lib.hid hvals
          have Hbel := Lib.hid hbel
          have Hba := Lib.hid hba
          have HF := Lib.hid hF
          clear hr6 hgst hg2 hfq hok hfk hft hfe hvals hbel hba hc6 hc7 hkk hF
          have hi1 : (0 : Int) ≤ (k : Int) := by omega
          have hi2 : (k : Int) < (fs.length : Int) := by omega
          have hFl : wF.heap.size < wr.heap.size := (Array.getElem?_eq_some_iff.1 HF.out).1
          have hI0 : IRel wr (fun b => S2 w b ∧ b ≠ wF.heap.size) [] 0 (wr.alloc (.map #[] 0)) := IRel.start _ _
          have HI := Lib.hid hI0; clear hI0
          -- filter
          obtain ⟨nf, ef, hmf, hnf, hef⟩ := HI.out.map
          have hnmf : nf < maxLen := by unfold maxLen; omega
          have Hef := Lib.hid hef; clear hef
          have kf := key_of [102, 105, 108, 116, 101, 114] (by decide)
          go_upto_if 84 with fail
          go_cut [14, 15] from 83 to 94 (fun _ _ wx => IRel wr (fun b => S2 w b ∧ b ≠ wF.heap.size) (oneEnt n_filter' s.filters) 1 wx)
          case first =>
            generalize hfs : s.filters = fl at *
            rcases fl with _ | ⟨t, rest⟩
            · simp only [List.isEmpty_nil, Bool.not_true] at hqn
              go_wp2_with fail
              go_meet
              case rel => exact HI.out.skip (by simp [oneEnt])
            · simp only [List.isEmpty_cons, Bool.not_false] at hqn
              obtain ⟨⟨kd, tx, nu, ys, ka, kn, kc, ca, cn, cc⟩, rfl, hr0⟩ := Hfq.out
              have Hr0 := Lib.hid (hr0.keep (Keeps.of_below _ ((Below.refl _ _).alloc (Nat.le_refl _) (.map #[] 0)))); clear hr0
              have Ht := Lib.hid (Hfk.out t (by simp))
              go_wp2_with (first
                | (go_at_call 277; refine (given_any t n0 r0 100 Hn0.out.1 Hn0.out.2 Ht.out.1 Ht.out.2 ⟨kd, tx, nu, ys, ka, kn, kc, ca, cn, cc⟩ _ _ Hr0.out).mono ?_; rintro e w2 ⟨ty, x, rfl, hany, hb2⟩; have Hany := Lib.hid hany; clear hany; have hmap2 := hmf.kept (Below.grow hb2) (by simp))
                | (at_mapUpdate; refine wpList_mapUpdate_own _ rfl _ _ _ 122 rfl 9 20 keyed9 Tryz.underlying122 R9 wr.heap.size nf _ rfl hmap2 hnmf (.string ⟨#[102, 105, 108, 116, 101, 114]⟩) (.iface ty x) _ rfl rfl kf (.held (.iface ty x)) [] rfl ?_; intro w3 hn3 hg3))
              go_meet
              case rel => exact (HI.out.below hb2).put hnf (Hef.out.keep (Keeps.of_below _ hb2)) (k := ⟨#[102, 105, 108, 116, 101, 114]⟩) hn3 hg3 (Hany.out.mono (fun b _ hb => by simp only [World.size_alloc] at hb; exact ⟨⟨⟨by omega, by omega⟩, by omega⟩, by omega⟩)) (by rfl)
          case rest =>
          have HI2 := Lib.hid hcut; clear hcut HI hmf hnf Hef hnmf nf ef kf hqn hqg
          obtain ⟨wm, hwm⟩ : ∃ wm, wm = wc := ⟨_, rfl⟩
          subst hwm
          -- weight
          have hBr : B < wr.heap.size := by have := Hba.out.size; omega
          have hg7r : g7 < wr.heap.size := by have := Hba.out.size; omega
          have d7m := (HI2.out.bel.cell (p := ⟨B, 7, none⟩) hBr).trans d7
          have q7m := (HI2.out.bel.cell (p := ⟨g7, k, none⟩) hg7r).trans q7
          have hgm := Hgs.out.keep (Keeps.of_below _ HI2.out.bel)
          have Hgm := Lib.hid hgm; clear hgm
          obtain ⟨nw, ew, hmw, hnw, hew⟩ := HI2.out.map
          have hnmw : nw < maxLen := by unfold maxLen; omega
          have Hew := Lib.hid hew; clear hew
          have kw := key_of [119, 101, 105, 103, 104, 116] (by decide)
          go_upto_region 26 with ((with_reducible refine (getWeight_any kk7 s Bf _ _ Hgm.out).mono ?_); rintro e w4 ⟨p, rfl, hp, rfl⟩)
          have Hp := Lib.hid hp; clear hp
          go_upto_if 104 with fail
          go_cut [] from 103 to 107 (fun wx => IRel wr (fun b => S2 w b ∧ b ≠ wF.heap.size) (oneEnt n_filter' s.filters ++ weightEnt (weightOf kk7 s)) 2 wx)
          case first =>
            generalize weightOf kk7 s = ow at *
            rcases ow with _ | x
            · obtain rfl : p = none := Hp.out
              go_wp2_with fail
              go_meet
              case rel => exact HI2.out.skip (by simp [weightEnt])
            · obtain ⟨pb, rfl, hpb, hpc⟩ := Hp.out
              have hpb' : pb < w.heap.size := hpb
              clear hpb
              go_wp2_with (at_mapUpdate; refine wpList_mapUpdate_own _ rfl _ _ _ 122 rfl 9 20 keyed9 Tryz.underlying122 R9 wr.heap.size nw _ rfl hmw hnmw (.string ⟨#[119, 101, 105, 103, 104, 116]⟩) (.iface 115 (.pointer (some ⟨pb, 0, none⟩))) _ rfl rfl kw (.held (.iface 115 (.pointer (some ⟨pb, 0, none⟩)))) [] rfl ?_; intro w3 hn3 hg3)
              go_meet
              case rel => exact HI2.out.put hnw Hew.out (k := ⟨#[119, 101, 105, 103, 104, 116]⟩) hn3 hg3 (.ptr pb 0 x ⟨⟨⟨by omega, by omega⟩, by omega⟩, by omega⟩ hpc) (by rfl)
          case rest =>
          have HI3 := Lib.hid hcut; clear hcut HI2 hmw hnw Hew hnmw nw ew kw Hp d7m q7m Hgm
          obtain ⟨wn, hwn⟩ : ∃ wn, wn = wc := ⟨_, rfl⟩
          subst hwn
          -- source
          have d7m := (HI3.out.bel.cell (p := ⟨B, 7, none⟩) hBr).trans d7
          have q7m := (HI3.out.bel.cell (p := ⟨g7, k, none⟩) hg7r).trans q7
          have hgm := Hgs.out.keep (Keeps.of_below _ HI3.out.bel)
          have Hgm := Lib.hid hgm; clear hgm
          have htb : ∀ wx, Below wn.heap.size wn wx → UTabs wx := fun wx hx => Htab.out wx (via (via Hba.out HI3.out.bel) hx)
          have Htb := Lib.hid htb; clear htb
          go_upto_region 31 with ((with_reducible refine (src_any kk7 s Bf _ _ Hgm.out Hok.out Htb.out).mono ?_); rintro e w5 ⟨v, rfl, hv, hb5⟩)
          have d7n := (hb5.cell (p := ⟨B, 7, none⟩) (Nat.lt_of_lt_of_le hBr HI3.out.bel.size)).trans d7m
          have q7n := (hb5.cell (p := ⟨g7, k, none⟩) (Nat.lt_of_lt_of_le hg7r HI3.out.bel.size)).trans q7m
          have hI5 := HI3.out.below hb5
          have hwl := HI3.out.lt
          have HI5 := Lib.hid hI5; clear hI5
          obtain ⟨ns, es', hms, hns, hes'⟩ := HI5.out.map
          have hnms : ns < maxLen := by unfold maxLen; omega
          have Hes' := Lib.hid hes'; clear hes'
          have Hv := Lib.hid (hv.mono (S' := fun b => (S2 w b ∧ b ≠ wF.heap.size) ∧ b ≠ wr.heap.size) (fun b _ hb => ⟨⟨⟨by omega, by omega⟩, by omega⟩, by omega⟩)); clear hv
          have kn := key_kind kk7
          go_upto_region 32 with (first
            | ((with_reducible refine (getName_any kk7 _ _).mono ?_); rintro e w6 ⟨rfl, rfl⟩)
            | (at_mapUpdate; refine wpList_mapUpdate_own _ rfl _ _ _ 122 rfl 9 20 keyed9 Tryz.underlying122 R9 wr.heap.size ns _ rfl hms hnms (.string kk7.key) v _ rfl rfl kn (.held v) [] rfl ?_; intro w7 hn7 hg7))
          have hI7 := weight_rel kk7 s HI5.out hns Hes'.out hn7 hg7 Hv.out
          have hany7 := hI7.any ⟨⟨by omega, by omega⟩, by omega⟩ (item_nodup kk7 s) (by have := item_length kk7 s; omega)
          rw [← Hft.out] at hany7
          obtain ⟨z1, z2⟩ := funs_round HF.out Hvals.out hI7.bel hany7 Hfe.out
          have hb8 := (via Hbel.out hI7.bel).setCell (p := ⟨wF.heap.size, k, none⟩) (Nat.le_refl _) (.iface 122 (.map (some wr.heap.size)))
          have hF7 := (hI7.bel.block _ hFl).trans HF.out
          have e7 : w7.cell? ⟨wF.heap.size, k, none⟩ = some (cs[k]'(by omega)) := by simp [World.cell?, hF7]
          have e7f : w7.frozen? ⟨wF.heap.size, k, none⟩ = false := by simp [World.frozen?, hF7]
          have Z := Lib.hid (And.intro z1 z2); clear z1 z2
          have Hb8 := Lib.hid hb8; clear hb8
          clear hany7 hI7 hn7 hg7 hF7 hms hns Hes' hnms HI5 HI3
          go_wp2_with fail
          go_roundw
          case rel => exact ⟨k + 1, cs.setIfInBounds k (.iface 122 (.map (some wr.heap.size))), by omega, by simp, Z.out.1, by simpa using hcs, Z.out.2, Hb8.out⟩
          case measure => simp [intOf]; omega
        · obtain rfl : k = fs.length := by omega
          have hany := funs_any (S := S2 w) hF hcs ⟨by omega, by omega⟩ (fun j u t hj hs => (hvals j u t ((List.getElem?_eq_some_iff.1 hs).1) hj hs).mono (fun b _ hb => hb.1)) (by omega)
          have Hany := Lib.hid hany; clear hany hvals
          have hmap2 := hmap.kept (Below.grow hbel) (by simp)
          go_wp2_with (at_mapUpdate; refine wpList_mapUpdate_own _ rfl _ _ _ 122 rfl 9 20 keyed9 Tryz.underlying122 R9 (w.heap.size + 1) nn _ rfl hmap2 hnm (.string ⟨#[102, 117, 110, 99, 116, 105, 111, 110, 115]⟩) (.iface 123 (.slice (some ⟨wF.heap.size, 0, none⟩) fs.length fs.length)) _ rfl rfl kk (.held (.iface 123 (.slice (some ⟨wF.heap.size, 0, none⟩) fs.length fs.length))) [] rfl ?_; intro w3 hn3 hg3)
          go_meet
          case rel => exact (Hcut.out.below hbel).put hnn (Hes.out.keep (Keeps.of_below _ hbel)) (k := ⟨#[102, 117, 110, 99, 116, 105, 111, 110, 115]⟩) hn3 hg3 Hany.out (by rw [Hstep.out, Hpe.out]; rfl)
  case rest =>
  clear c6 c7 kk hmap hnn hnm Hes Hstep Hcut nn es

  -- score_mode
  have hstep := entsTo_succ (scoreEnts qs fs sets) (i := 3) (es := textEnt n_score_mode (textLast sets n_score_mode)) rfl
  have Hstep := Lib.hid hstep; clear hstep
  have Hcut := Lib.hid hcut; clear hcut
  obtain ⟨c0, c1, c2, c3, c4, c5, c6, c7, c8, _, _⟩ := cells9' ((Hcut.out.bel.block B hlt).trans Hbx.out)
  clear c0 c1 c2 c3 c5 c6 c7 c8
  have kk := key_of [115, 99, 111, 114, 101, 95, 109, 111, 100, 101] (by decide)
  obtain ⟨nn, es, hmap, hnn, hes⟩ := Hcut.out.map
  have hnm : nn < maxLen := by unfold maxLen; omega
  have Hes := Lib.hid hes; clear hes
  have hsz := text_small63 Hsm.out n_score_mode
  generalize textLast sets n_score_mode = str at hsz c4 Hstep
  go_upto_if 145 with fail
  go_cut [] from 141 to 151 (fun wr => ORel w (entsTo (scoreEnts qs fs sets) 4) 4 wr)
  case first =>
    as_aux_lemma =>
    by_cases hs0 : str = ⟨#[]⟩
    · have hemp : str.toList.isEmpty = true := by rw [bs_isEmpty]; simp [hs0]
      have Hs0 := Lib.hid hs0; clear hs0
      simp only [hemp, Bool.not_true]
      go_wp2_with fail
      go_meet
      case rel => exact Hcut.out.skip (by rw [Hstep.out, textEnt, if_pos Hs0.out]; simp)
    · have hemp : str.toList.isEmpty = false := by rw [bs_isEmpty]; simp [hs0]
      have Hs0 := Lib.hid hs0; clear hs0
      simp only [hemp, Bool.not_false]
      go_wp2_with (at_mapUpdate; refine wpList_mapUpdate_own _ rfl _ _ _ 122 rfl 9 20 keyed9 Tryz.underlying122 R9 (w.heap.size + 1) nn _ rfl hmap hnm (.string ⟨#[115, 99, 111, 114, 101, 95, 109, 111, 100, 101]⟩) (.iface 9 (.string str)) _ rfl rfl kk (.held (.iface 9 (.string str))) [] rfl ?_; intro w3 hn3 hg3)
      go_meet
      case rel => exact Hcut.out.put hnn Hes.out (k := ⟨#[115, 99, 111, 114, 101, 95, 109, 111, 100, 101]⟩) hn3 hg3 (.str str hsz) (by rw [Hstep.out, textEnt, if_neg Hs0.out]; rfl)
  case rest =>
  clear c4 kk hmap hnn hnm Hes Hstep Hcut nn es hsz str

  -- boost_mode
  have hstep := entsTo_succ (scoreEnts qs fs sets) (i := 4) (es := textEnt n_boost_mode (textLast sets n_boost_mode)) rfl
  have Hstep := Lib.hid hstep; clear hstep
  have Hcut := Lib.hid hcut; clear hcut
  obtain ⟨c0, c1, c2, c3, c4, c5, c6, c7, c8, _, _⟩ := cells9' ((Hcut.out.bel.block B hlt).trans Hbx.out)
  clear c0 c1 c2 c3 c4 c6 c7 c8
  have kk := key_of [98, 111, 111, 115, 116, 95, 109, 111, 100, 101] (by decide)
  obtain ⟨nn, es, hmap, hnn, hes⟩ := Hcut.out.map
  have hnm : nn < maxLen := by unfold maxLen; omega
  have Hes := Lib.hid hes; clear hes
  have hsz := text_small63 Hsm.out n_boost_mode
  generalize textLast sets n_boost_mode = str at hsz c5 Hstep
  go_upto_if 156 with fail
  go_cut [] from 152 to 162 (fun wr => ORel w (entsTo (scoreEnts qs fs sets) 5) 5 wr)
  case first =>
    as_aux_lemma =>
    by_cases hs0 : str = ⟨#[]⟩
    · have hemp : str.toList.isEmpty = true := by rw [bs_isEmpty]; simp [hs0]
      have Hs0 := Lib.hid hs0; clear hs0
      simp only [hemp, Bool.not_true]
      go_wp2_with fail
      go_meet
      case rel => exact Hcut.out.skip (by rw [Hstep.out, textEnt, if_pos Hs0.out]; simp)
    · have hemp : str.toList.isEmpty = false := by rw [bs_isEmpty]; simp [hs0]
      have Hs0 := Lib.hid hs0; clear hs0
      simp only [hemp, Bool.not_false]
      go_wp2_with (at_mapUpdate; refine wpList_mapUpdate_own _ rfl _ _ _ 122 rfl 9 20 keyed9 Tryz.underlying122 R9 (w.heap.size + 1) nn _ rfl hmap hnm (.string ⟨#[98, 111, 111, 115, 116, 95, 109, 111, 100, 101]⟩) (.iface 9 (.string str)) _ rfl rfl kk (.held (.iface 9 (.string str))) [] rfl ?_; intro w3 hn3 hg3)
      go_meet
      case rel => exact Hcut.out.put hnn Hes.out (k := ⟨#[98, 111, 111, 115, 116, 95, 109, 111, 100, 101]⟩) hn3 hg3 (.str str hsz) (by rw [Hstep.out, textEnt, if_neg Hs0.out]; rfl)
  case rest =>
  clear c5 kk hmap hnn hnm Hes Hstep Hcut nn es hsz str

  -- max_boost
  have hstep := entsTo_succ (scoreEnts qs fs sets) (i := 5) (es := numEnt n_max_boost (lastOf sets n_max_boost)) rfl
  have Hstep := Lib.hid hstep; clear hstep
  have Hcut := Lib.hid hcut; clear hcut
  obtain ⟨c0, c1, c2, c3, c4, c5, c6, c7, c8, _, _⟩ := cells9' ((Hcut.out.bel.block B hlt).trans Hbx.out)
  clear c0 c1 c2 c4 c5 c6 c7 c8
  have kk := key_of [109, 97, 120, 95, 98, 111, 111, 115, 116] (by decide)
  obtain ⟨nn, es, hmap, hnn, hes⟩ := Hcut.out.map
  have hnm : nn < maxLen := by unfold maxLen; omega
  have Hes := Lib.hid hes; clear hes
  have hp := H3.out.keep (fun _ h => h) (fun b _ _ hlt => Hcut.out.bel.block b hlt)
  generalize lastOf sets n_max_boost = lst at hp Hstep
  have Hp := Lib.hid hp; clear hp
  go_upto_if 167 with fail
  go_cut [] from 163 to 175 (fun wr => ORel w (entsTo (scoreEnts qs fs sets) 6) 6 wr)
  case first =>
    as_aux_lemma =>
    rcases lst with _ | t
    · obtain rfl : p3 = none := Hp.out
      go_wp2_with fail
      go_meet
      case rel => exact Hcut.out.skip (by rw [Hstep.out]; simp [numEnt])
    · obtain ⟨b, rfl, _, _, cb⟩ := Hp.out
      go_wp2_with (at_mapUpdate; refine wpList_mapUpdate_own _ rfl _ _ _ 122 rfl 9 20 keyed9 Tryz.underlying122 R9 (w.heap.size + 1) nn _ rfl hmap hnm (.string ⟨#[109, 97, 120, 95, 98, 111, 111, 115, 116]⟩) (.iface 28 (.float .f64 t.num)) _ rfl rfl kk (.held (.iface 28 (.float .f64 t.num))) [] rfl ?_; intro w3 hn3 hg3)
      go_meet
      case rel => exact Hcut.out.put hnn Hes.out (k := ⟨#[109, 97, 120, 95, 98, 111, 111, 115, 116]⟩) hn3 hg3 (.num _) (by rw [Hstep.out]; rfl)
  case rest =>
  clear c3 kk hmap hnn hnm Hes Hstep Hcut nn es Hp lst

  -- boost
  have hstep := entsTo_succ (scoreEnts qs fs sets) (i := 6) (es := numEnt n_boost (lastOf sets n_boost)) rfl
  have Hstep := Lib.hid hstep; clear hstep
  have Hcut := Lib.hid hcut; clear hcut
  obtain ⟨c0, c1, c2, c3, c4, c5, c6, c7, c8, _, _⟩ := cells9' ((Hcut.out.bel.block B hlt).trans Hbx.out)
  clear c0 c1 c3 c4 c5 c6 c7 c8
  have kk := key_of [98, 111, 111, 115, 116] (by decide)
  obtain ⟨nn, es, hmap, hnn, hes⟩ := Hcut.out.map
  have hnm : nn < maxLen := by unfold maxLen; omega
  have Hes := Lib.hid hes; clear hes
  have hp := H2.out.keep (fun _ h => h) (fun b _ _ hlt => Hcut.out.bel.block b hlt)
  generalize lastOf sets n_boost = lst at hp Hstep
  have Hp := Lib.hid hp; clear hp
  go_upto_if 180 with fail
  go_cut [] from 176 to 188 (fun wr => ORel w (entsTo (scoreEnts qs fs sets) 7) 7 wr)
  case first =>
    as_aux_lemma =>
    rcases lst with _ | t
    · obtain rfl : p2 = none := Hp.out
      go_wp2_with fail
      go_meet
      case rel => exact Hcut.out.skip (by rw [Hstep.out]; simp [numEnt])
    · obtain ⟨b, rfl, _, _, cb⟩ := Hp.out
      go_wp2_with (at_mapUpdate; refine wpList_mapUpdate_own _ rfl _ _ _ 122 rfl 9 20 keyed9 Tryz.underlying122 R9 (w.heap.size + 1) nn _ rfl hmap hnm (.string ⟨#[98, 111, 111, 115, 116]⟩) (.iface 28 (.float .f64 t.num)) _ rfl rfl kk (.held (.iface 28 (.float .f64 t.num))) [] rfl ?_; intro w3 hn3 hg3)
      go_meet
      case rel => exact Hcut.out.put hnn Hes.out (k := ⟨#[98, 111, 111, 115, 116]⟩) hn3 hg3 (.num _) (by rw [Hstep.out]; rfl)
  case rest =>
  clear c2 kk hmap hnn hnm Hes Hstep Hcut nn es Hp lst

  -- min_score
  have hstep := entsTo_succ (scoreEnts qs fs sets) (i := 7) (es := numEnt n_min_score (lastOf sets n_min_score)) rfl
  have Hstep := Lib.hid hstep; clear hstep
  have Hcut := Lib.hid hcut; clear hcut
  obtain ⟨c0, c1, c2, c3, c4, c5, c6, c7, c8, _, _⟩ := cells9' ((Hcut.out.bel.block B hlt).trans Hbx.out)
  clear c0 c1 c2 c3 c4 c5 c6 c7
  have kk := key_of [109, 105, 110, 95, 115, 99, 111, 114, 101] (by decide)
  obtain ⟨nn, es, hmap, hnn, hes⟩ := Hcut.out.map
  have hnm : nn < maxLen := by unfold maxLen; omega
  have Hes := Lib.hid hes; clear hes
  have hp := H8.out.keep (fun _ h => h) (fun b _ _ hlt => Hcut.out.bel.block b hlt)
  generalize lastOf sets n_min_score = lst at hp Hstep
  have Hp := Lib.hid hp; clear hp
  go_upto_if 193 with fail
  go_cut [] from 189 to 201 (fun wr => ORel w (entsTo (scoreEnts qs fs sets) 8) 8 wr)
  case first =>
    as_aux_lemma =>
    rcases lst with _ | t
    · obtain rfl : p8 = none := Hp.out
      go_wp2_with fail
      go_meet
      case rel => exact Hcut.out.skip (by rw [Hstep.out]; simp [numEnt])
    · obtain ⟨b, rfl, _, _, cb⟩ := Hp.out
      go_wp2_with (at_mapUpdate; refine wpList_mapUpdate_own _ rfl _ _ _ 122 rfl 9 20 keyed9 Tryz.underlying122 R9 (w.heap.size + 1) nn _ rfl hmap hnm (.string ⟨#[109, 105, 110, 95, 115, 99, 111, 114, 101]⟩) (.iface 28 (.float .f64 t.num)) _ rfl rfl kk (.held (.iface 28 (.float .f64 t.num))) [] rfl ?_; intro w3 hn3 hg3)
      go_meet
      case rel => exact Hcut.out.put hnn Hes.out (k := ⟨#[109, 105, 110, 95, 115, 99, 111, 114, 101]⟩) hn3 hg3 (.num _) (by rw [Hstep.out]; rfl)
  case rest =>
  clear c8 kk hmap hnn hnm Hes Hstep Hcut nn es Hp lst

  go_wp2_with fail
  refine bodyPost_ret (v := .tuple #[.iface 122 (.map (some w.heap.size)), .nilIface]) (by simp [results, Tryz.results39, go_sem]) rfl ?_
  have he : entsTo (scoreEnts qs fs sets) 8 = (scoreEnts qs fs sets).flatMap id := rfl
  exact ⟨_, rfl, hcut.any (by rw [he]; exact (score_parts qs fs sets).nodup keysFS_nodup) (by rw [he]; have := (score_parts qs fs sets).length; have h8 : keysFS.length = 8 := rfl; omega), hcut.bel⟩
end Go.Proofs.YtbcnhcpgloncdaaGreatDoor
