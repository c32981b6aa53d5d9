/- 'FunctionScore': what the reference says of a function_score query. -/
import Derived.Test.YtbcnhcpgloncdaaGreatDoorQJy0
import Derived.Test.YtbcnhcpgloncdaaGreatDoorQJi
import Derived.Test.YtbcnhcpgloncdaaGreatDoorQIl
namespace Go.Proofs.YtbcnhcpgloncdaaGreatDoor
open Go Go.RowKit Go.BigFrame Go.Maps

theorem pair_add {wr w1 : World} {base : Nat} {T : Nat → Prop} {L : List SetM} {a2 : Option Addr} {cc2 : Nat} {vs : List (ByteArray × TV)} {g cap : Nat} {key : ByteArray} {u : TV} {t : Tr} {xs : List Value}
    (hvl : vs.length = L.length) (hreps : ∀ (i : Nat) (v : ByteArray × TV) (t : SetM), vs[i]? = some v → L[i]? = some t → PairR wr (fun b => T b ∧ (Value.slice a2 L.length cc2).ownBlock ≠ some b) v t)
    (hu : RepT wr (fun b => T b ∧ (Value.slice a2 L.length cc2).ownBlock ≠ some b) u t)
    (hown1 : w1.ownsRow base 81 7 (.slice (some ⟨g, 0, none⟩) (L.length + 1) cap) (L.length + 1) xs) (hxs : xs = vs.flatMap pairCells ++ pairCells (key, u))
    (hgrow : (wr.alloc (.cells (pairCells (key, u)).toArray 81)).grownBy w1 (Value.slice a2 L.length cc2).ownBlock) (hat : (Value.slice a2 L.length cc2).ownBlock = some g ∨ g = wr.heap.size + 1) :
    OwnL PairR pairCells 81 7 w1 T base (.slice (some ⟨g, 0, none⟩) (L.length + 1) cap) (L ++ [⟨key, t⟩]) := by
  have hbx : Below wr.heap.size wr (wr.alloc (.cells (pairCells (key, u)).toArray 81)) := (Below.refl _ _).alloc (Nat.le_refl _) _
  exact OwnL.one (u := (key, u)) pair_law hvl (fun i v t hv ht => pair_law.keep (hreps i v t hv ht) (Keeps.of_below _ hbx)) ⟨rfl, hu.keep (Keeps.of_below _ hbx)⟩ hown1 hgrow hat (by simp) rfl hxs
theorem pair_add' {wr w1 : World} {base : Nat} {T : Nat → Prop} {L : List SetM} {a2 : Option Addr} {cc2 : Nat} {vs : List (ByteArray × TV)} {g cap : Nat} {key : ByteArray} {u : TV} {t : Tr} {xs : List Value}
    (hvl : vs.length = L.length) (hreps : ∀ (i : Nat) (v : ByteArray × TV) (t : SetM), vs[i]? = some v → L[i]? = some t → PairR wr (fun b => T b ∧ (Value.slice a2 L.length cc2).ownBlock ≠ some b) v t)
    (hu : RepT wr (fun b => T b ∧ (Value.slice a2 L.length cc2).ownBlock ≠ some b) u t)
    (hown1 : w1.ownsRow base 81 7 (.slice (some ⟨g, 0, none⟩) (L.length + 1) cap) (L.length + 1) xs) (hxs : xs = vs.flatMap pairCells ++ pairCells (key, u))
    (hgrow : wr.grownBy w1 (Value.slice a2 L.length cc2).ownBlock) (hat : (Value.slice a2 L.length cc2).ownBlock = some g ∨ g = wr.heap.size) :
    OwnL PairR pairCells 81 7 w1 T base (.slice (some ⟨g, 0, none⟩) (L.length + 1) cap) (L ++ [⟨key, t⟩]) :=
  OwnL.one (u := (key, u)) pair_law hvl hreps ⟨rfl, hu⟩ hown1 hgrow hat (Nat.le_refl _) rfl hxs
theorem params_FS (sets : List SetM) (S : Nat → Prop) (a : Option Addr) (c : Nat) (w : World) (h : SetsAt w S a sets) (hS : ∀ b, S b → b < w.heap.size) (hl : sets.length ≤ 9223372036854775807) :
    Calls Tryz.prog 51 #[.string ⟨#[70, 117, 110, 99, 116, 105, 111, 110, 83, 99, 111, 114, 101]⟩, .slice a sets.length c] w fun e w' => ∃ kv, e = .returned kv ∧ OwnL PairR pairCells 81 7 w' S w.heap.size kv (paramsL rsFunctionScore sets) ∧ Below w.heap.size w w' :=
  params_any _ rsFunctionScore sets S a c w (fun _ => rows_any _ tbFunctionScore rsFunctionScore 60 _ table_FunctionScore rowsOf_FunctionScore (by decide +kernel) (by decide +kernel)) (by decide +kernel) h hS hl

set_option maxRecDepth 100000 in
set_option maxHeartbeats 40000000 in
theorem specFS_any (qs : List Tr) (fs : List ScoreM) (sets : List SetM) (S : Nat → Prop) (qa fa a : Option Addr) (qc fc c : Nat) (w : World) (hqs : TreesAt w S qa qs) (hfs : ScoresAt w S fa fs) (hsets : SetsAt w S a sets) (hS : ∀ b, S b → b < w.heap.size)
    (hql : qs.length ≤ 1) (hfl : fs.length ≤ 1048576) (hl : sets.length ≤ 1048576)
    (hsc : ∀ s ∈ fs, ∀ (wr : World) (v : SV), Below w.heap.size w wr → SetsAt wr S v.sa s.sets → TreesAt wr S v.fa s.filters → Calls Tryz.prog 50 #[.agg #[.int .i64 s.kind, .string s.field, .float .f64 s.a, .slice v.sa s.sets.length v.sc, .slice v.fa s.filters.length v.fc]] wr (TreeS wr S (scoreTr (SK.of s.kind) s))) :
    Calls Tryz.prog 12 #[.slice qa qs.length qc, .slice fa fs.length fc, .slice a sets.length c] w (TreeA w (besideT n_function_score (fsPairs qs fs sets))) := by
  obtain ⟨i0, hi, hz0, hz1, hz2⟩ := info_parts Tryz.info81
  obtain ⟨j0, hj, jz0, jz1, jz2⟩ := info_parts Tryz.info31
  have Hqs := Lib.hid hqs; clear hqs
  have Hfs := Lib.hid hfs; clear hfs
  have Hsets := Lib.hid hsets; clear hsets
  have HS := Lib.hid hS; clear hS
  have Hsc := Lib.hid hsc; clear hsc
  go_enter Tryz.func12, Tryz.ntmps12
  go_wp2_with fail
  refine (list_nil _).mono ?_
  rintro e w2 ⟨rfl, hb2⟩
  have hz2' : Zero6 w2 w.heap.size := Box6.below (heap_alloc_new w _) hb2
  have hs2 := hb2.size
  simp only [World.size_alloc] at hs2
  have Hz2 := Lib.hid hz2'; clear hz2'
  have Hb2 := Lib.hid (via ((Below.refl _ _).alloc (Nat.le_refl _) _) hb2); clear hb2
  go_wp2_with fail
  have hbx0 := heap_alloc_new w2 (.cells #[.int .i64 4, .string ⟨#[]⟩, .float .f64 0, .bool false, .slice none 0 0, .slice none 0 0] 31)
  have Hbx0 : Hid (Box6 _ w2.heap.size (.int .i64 4) (.string ⟨#[]⟩) (.float .f64 0) (.bool false) (.slice none 0 0) (.slice none 0 0)) := Lib.hid hbx0
  clear hbx0
  have Hz0 : Hid (Zero6 (w2.alloc (.cells #[.int .i64 4, .string ⟨#[]⟩, .float .f64 0, .bool false, .slice none 0 0, .slice none 0 0] 31)) w.heap.size) := Lib.hid Hz2.out.alloc
  have Hbel0 := Lib.hid (Hb2.out.alloc (by omega) (.cells #[.int .i64 4, .string ⟨#[]⟩, .float .f64 0, .bool false, .slice none 0 0, .slice none 0 0] 31))
  go_loopw [8] (fun i wr => ∃ (k : Nat) (kv : Value), k ≤ fs.length ∧ i = .int .i64 k ∧ Box6 wr w2.heap.size (.int .i64 4) (.string ⟨#[]⟩) (.float .f64 0) (.bool false) (.slice none 0 0) kv ∧
    OwnL (fun w S (v : TV) (t : Tr) => RepT w S v t) TV.cells 31 6 wr (fun b => S b ∨ w2.heap.size + 1 ≤ b) (w2.heap.size + 1) kv ((fs.take k).map (fun s => scoreTr (SK.of s.kind) s)) ∧ Zero6 wr w.heap.size ∧ Below w.heap.size w wr) (fun i _ => fs.length - (intOf i).toNat)
  case atStart => exact ⟨0, _, Nat.zero_le _, rfl, Hbx0.out, OwnL.nil _ _ _, Hz0.out, Hbel0.out⟩
  case round =>
    clear Hbx0 Hz0 Hbel0 Hz2 Hb2
    obtain ⟨k, kv, hk, rfl, hbox, hown, hz, hbel⟩ := hrel
    by_cases hlt : k < fs.length
    · obtain ⟨b', o, ⟨sa, sc, ga, gc⟩, hca, hSb, hlb, c0, c1, c2, c3, c4, hst, hft⟩ := (Hfs.out.keep (Keeps.of_below S hbel)).at (k := k) hlt
      subst hca
      simp only at c0 c1 c2 c3 c4 hst hft
      have hcall := fun wx (hb : Below wr.heap.size wr wx) => Hsc.out fs[k] (List.getElem_mem hlt) wx ⟨sa, sc, ga, gc⟩ (via hbel hb) (hst.keep (Keeps.of_below S hb)) (hft.keep (Keeps.of_below S hb))
      have Htake : Hid (fs.take (k + 1) = fs.take k ++ [fs[k]]) := Lib.hid (List.take_succ_eq_append_getElem hlt)
      generalize fs[k] = s at *
      simp only at hcall
      obtain ⟨TT, hTT⟩ : ∃ t, t = scoreTr (SK.of s.kind) s := ⟨_, rfl⟩
      rw [← hTT] at hcall
      have HTT := Lib.hid hTT; clear hTT
      have Hcall := Lib.hid hcall; clear hcall hst hft
      obtain ⟨L, hL⟩ : ∃ L, L = (fs.take k).map (fun s => scoreTr (SK.of s.kind) s) := ⟨_, rfl⟩
      rw [← hL] at hown
      have hlen : L.length ≤ k := by rw [hL, List.length_map, List.length_take]; omega
      have HL := Lib.hid hL; clear hL
      have hsz := hbel.size
      obtain ⟨a2, cc2, hform⟩ := hown.form
      subst hform
      obtain ⟨vs, hvl, hrow, hreps⟩ := hown
      have Hreps := Lib.hid hreps; clear hreps
      have Hvl := Lib.hid hvl; clear hvl
      obtain ⟨b0, b1, b2, b3', b4, b5, bf, bl⟩ := hbox.cells
      clear b0 b1 b2 b3' b4
      have hFl : w2.heap.size < wr.heap.size := (Array.getElem?_eq_some_iff.1 hbox).1
      have Hbox := Lib.hid hbox; clear hbox
      have Hz := Lib.hid hz; clear hz
      have Hbel := Lib.hid hbel; clear hbel
      have Hrow := Lib.hid hrow; clear hrow
      have hi1 : (0 : Int) ≤ (k : Int) := by omega
      have hi2 : (k : Int) < (fs.length : Int) := by omega
      go_upto_region 5 with fail
      go_region_law (first
        | (go_simp; go_at_call 50; (with_reducible refine (Hcall.out _ (by first | exact Below.refl _ _ | exact (Below.refl _ _).drew)).mono ?_); rintro e w5 ⟨⟨kind5, text5, num5, yes5, ka5, kn5, kc5, ca5, cn5, cc5⟩, rfl, hu5, hb5⟩; have hb05 := via (show Below wr.heap.size wr _ by first | exact Below.refl _ _ | exact (Below.refl _ _).drew) hb5; have hbox5 := Hbox.out.below hb05; obtain ⟨y0, y1, y2, y3, y4, y5, yf, yl⟩ := hbox5.cells; have hrow5 := ownsRow_below Hrow.out hb05; have hs5 := hb05.size)
        | (refine step_append_lies _ (by rfl) _ _ _ (by rfl) (w2.heap.size + 1) 31 j0 _ 6 88 Tryz.underlying22 hj jz0 jz1 jz2 rfl (by omega) (.slice a2 L.length cc2) L.length _ (by rfl) (hrow5.alloc _) ⟨w5.heap.size, 0, none⟩ 1 1 [.int .i64 kind5, .string text5, .float .f64 num5, .bool yes5, .slice ka5 kn5 kc5, .slice ca5 cn5 cc5] (by rfl) (by rfl) (World.news_of_block (cs := #[.int .i64 kind5, .string text5, .float .f64 num5, .bool yes5, .slice ka5 kn5 kc5, .slice ca5 cn5 cc5]) (t := 31) (fr := (0, 0)) (heap_alloc_new w5 _)) (by simp [Value.oneCell']) (by omega) (by unfold maxLen; omega) (by omega) (by simp; omega) (w5.heap.size + 1) (by simp) ?_; intro g cap w1 hown1 hgrow hat hlt1; have hbx1 : Box6 w1 w2.heap.size (.int .i64 4) (.string ⟨#[]⟩) (.float .f64 0) (.bool false) (.slice none 0 0) (.slice a2 L.length cc2) := Box6.grown (base := w2.heap.size + 1) hbox5.alloc hgrow (hrow5.alloc _).lt (by omega); obtain ⟨_, _, _, _, _, x5, xf, xl⟩ := hbx1.cells))
      all_goals (
        have hbx : Below w5.heap.size w5 (w5.alloc (.cells #[.int .i64 kind5, .string text5, .float .f64 num5, .bool yes5, .slice ka5 kn5 kc5, .slice ca5 cn5 cc5] 31)) := (Below.refl _ _).alloc (Nat.le_refl _) _
        have hnew : OwnL (fun w S (v : TV) (t : Tr) => RepT w S v t) TV.cells 31 6 w1 (fun b => S b ∨ w2.heap.size + 1 ≤ b) (w2.heap.size + 1) (.slice (some ⟨g, 0, none⟩) (L.length + 1) cap) (L ++ [TT]) :=
          OwnL.one (u := (⟨kind5, text5, num5, yes5, ka5, kn5, kc5, ca5, cn5, cc5⟩ : TV)) rep_law Hvl.out (fun i v t hv ht => ((Hreps.out i v t hv ht).keep (Keeps.of_below _ hb05)).keep (Keeps.of_below _ hbx))
            ((hu5.mono (S' := fun b => (S b ∨ w2.heap.size + 1 ≤ b) ∧ (Value.slice a2 L.length cc2).ownBlock ≠ some b) (fun b hb hSb => ⟨by rcases hSb with h | h; exact .inl h; exact .inr (by simp only [World.size_drew] at h; omega), fun e => by have h1 := Hrow.out.lt b e; rcases hSb with h | h; have := HS.out b h; omega; simp only [World.size_drew] at h; omega⟩)).keep (Keeps.of_below _ hbx)) hown1 hgrow hat (by simp) rfl rfl
        have hset := grownBy_setCell w1 ⟨w2.heap.size, 5, none⟩ (.slice (some ⟨g, 0, none⟩) (L.length + 1) cap)
        have hgB : (Value.slice (some ⟨g, 0, none⟩) (L.length + 1) cap).ownBlock ≠ some w2.heap.size := fun e => by
          have := (hnew.lt w2.heap.size e).1; omega
        have hnew2 := hnew.setCell rep_law ⟨w2.heap.size, 5, none⟩ (.slice (some ⟨g, 0, none⟩) (L.length + 1) cap) hgB (fun h => by rcases h with h | h; have h2 : w2.heap.size < w.heap.size := HS.out _ h; omega; have h2 : w2.heap.size + 1 ≤ w2.heap.size := h; omega)
        have hbel1 : Below w.heap.size w w1 := ((via Hbel.out hb05).alloc (by omega) _).grown hgrow (by first | omega | (simp; omega)) (fun k hk => by have := (hrow5.lt k hk).1; omega)
        have hbel2 := hbel1.setCell (p := ⟨w2.heap.size, 5, none⟩) (by simp; omega) (.slice (some ⟨g, 0, none⟩) (L.length + 1) cap)
        have hz1 : Zero6 w1 w.heap.size := Box6.grown (base := w2.heap.size + 1) (Hz.out.below hb05).alloc hgrow (hrow5.alloc _).lt (by omega)
        have hz2 := hz1.keep (hset.block w.heap.size (Array.getElem?_eq_some_iff.1 hz1).1 (by simp; omega))
        have Hnew := Lib.hid hnew2
        have Hbel1 := Lib.hid hbel2
        have Hbx1 := Lib.hid (hbx1.set5 (.slice (some ⟨g, 0, none⟩) (L.length + 1) cap))
        have Hz1 := Lib.hid hz2
        clear hnew hnew2 hbel1 hbel2 hz1 hz2 hset hgB hgrow hat hown1 hrow5 hbx1 hbox5 hu5
        go_wp2_with fail
        go_roundw
        case rel => exact ⟨k + 1, _, by omega, by simp, Hbx1.out, by rw [Htake.out, List.map_append, ← HL.out, List.map_cons, List.map_nil, ← HTT.out]; exact Hnew.out, Hz1.out, Hbel1.out⟩
        case measure => simp [intOf]; omega)
    · obtain rfl : k = fs.length := by omega
      rw [List.take_length] at hown
      obtain ⟨FL, hFL⟩ : ∃ l, l = fs.map (fun s => scoreTr (SK.of s.kind) s) := ⟨_, rfl⟩
      rw [← hFL] at hown
      have hFLl : FL.length ≤ 1048576 := by rw [hFL, List.length_map]; exact hfl
      have hres : fsPairs qs fs sets = (paramsL rsFunctionScore sets ++ [⟨n_functions, listT FL⟩]) ++ qryP qs := by rw [hFL]; rfl
      have Hres := Lib.hid hres; clear hres hFL
      obtain ⟨aL, cL, hform⟩ := hown.form
      subst hform
      have hrep := hown.list (by omega)
      obtain ⟨b0, b1, b2, b3, b4, b5, bf, bl⟩ := hbox.cells
      have hFl : w2.heap.size < wr.heap.size := (Array.getElem?_eq_some_iff.1 hbox).1
      have hsz := hbel.size
      have Hrep := Lib.hid hrep; clear hrep hown
      have Hbox := Lib.hid hbox; clear hbox
      have Hz := Lib.hid hz; clear hz
      have Hbel := Lib.hid hbel; clear hbel
      obtain ⟨PL, hPL⟩ : ∃ l, l = paramsL rsFunctionScore sets := ⟨_, rfl⟩
      have hPLl : PL.length ≤ 5 := by rw [hPL]; exact paramsL_length rsFunctionScore sets
      have h51 : ∀ wx, Below wr.heap.size wr wx → Calls Tryz.prog 51 #[.string ⟨#[70, 117, 110, 99, 116, 105, 111, 110, 83, 99, 111, 114, 101]⟩, .slice a sets.length c] wx fun e w' => ∃ aP cP, e = .returned (.slice aP PL.length cP) ∧ OwnL PairR pairCells 81 7 w' (fun b => b ≠ w.heap.size) (w.heap.size + 1) (.slice aP PL.length cP) PL ∧ (∀ b, (Value.slice aP PL.length cP).ownBlock = some b → wr.heap.size ≤ b) ∧ Below wx.heap.size wx w' := by
        intro wx hb
        have hbw := via Hbel.out hb
        have hbs := hb.size
        refine (params_FS sets S a c wx (Hsets.out.keep (Keeps.of_below S hbw)) (fun b h => Nat.lt_of_lt_of_le (HS.out b h) hbw.size) (by omega)).mono ?_
        rintro e w' ⟨kv, rfl, hown, hb'⟩
        obtain ⟨aP, cP, rfl⟩ := hown.form
        rw [← hPL] at hown ⊢
        exact ⟨aP, cP, rfl, hown.mono pair_law (fun b _ h => by have := HS.out b h; omega) (by omega), fun b h => by have := (hown.lt b h).1; omega, hb'⟩
      rw [← hPL] at Hres
      have H51 := Lib.hid h51; clear h51 hPL
      generalize FL.length = nL at *
      go_upto_region 6 with fail
      go_cut [9] from 27 to 32 (fun v wx => OwnL PairR pairCells 81 7 wx (fun b => b ≠ w.heap.size) (w.heap.size + 1) v (PL ++ [⟨n_functions, listT FL⟩]) ∧ Zero6 wx w.heap.size ∧ Below w.heap.size w wx)
      case first =>
        go_region_law (first
          | (go_simp; go_at_call 51; (with_reducible refine (H51.out _ (by first | exact Below.refl _ _ | exact (Below.refl _ _).drew)).mono ?_); rintro e w5 ⟨aP, cP, rfl, hown, hfar, hb5⟩; have hb05 := via (show Below wr.heap.size wr _ by first | exact Below.refl _ _ | exact (Below.refl _ _).drew) hb5; have hbox5 := Hbox.out.below hb05; obtain ⟨y0, y1, y2, y3, y4, y5, yf, yl⟩ := hbox5.cells; obtain ⟨vs, hvl, hrow5, hreps⟩ := hown; have hs5 := hb05.size)
          | (go_simp; go_at_call 51; (with_reducible refine (H51.out _ (by first | exact bel_drew (bel_alloc (Below.refl _ _)) | exact bel_alloc (Below.refl _ _))).mono ?_); rintro e w5 ⟨aP, cP, rfl, hown, hfar, hb5⟩; have hb05 := via (show Below wr.heap.size wr _ by first | exact bel_drew (bel_alloc (Below.refl _ _)) | exact bel_alloc (Below.refl _ _)) hb5; have hnw5 := (hb5.block wr.heap.size (by simp)).trans (show (World.drew (wr.alloc _)).heap[wr.heap.size]? = _ from heap_alloc_new wr _); obtain ⟨vs, hvl, hrow5, hreps⟩ := hown; have hs5 := hb5.size; (try simp only [World.size_alloc, World.size_drew] at hs5))
          | (refine step_append_lies _ (by rfl) _ _ _ (by rfl) (w.heap.size + 1) 81 i0 _ 7 104 Tryz.underlying83 hi hz0 hz1 hz2 rfl (by omega) (.slice aP PL.length cP) PL.length _ (by rfl) (hrow5.alloc _) ⟨w5.heap.size, 0, none⟩ 1 1 [.string ⟨#[102, 117, 110, 99, 116, 105, 111, 110, 115]⟩, .int .i64 4, .string ⟨#[]⟩, .float .f64 0, .bool false, .slice none 0 0, .slice aL nL cL] (by rfl) (by rfl) (World.news_of_block (cs := #[.string ⟨#[102, 117, 110, 99, 116, 105, 111, 110, 115]⟩, .int .i64 4, .string ⟨#[]⟩, .float .f64 0, .bool false, .slice none 0 0, .slice aL nL cL]) (t := 81) (fr := (0, 0)) (heap_alloc_new w5 _)) (by simp [Value.oneCell']) (by omega) (by unfold maxLen; omega) (by omega) (by simp; omega) (w5.heap.size + 1) (by simp) ?_; intro g cap w1 hown1 hgrow hat hlt1)
          | (refine step_append_lies _ (by rfl) _ _ _ (by rfl) (w.heap.size + 1) 81 i0 _ 7 104 Tryz.underlying83 hi hz0 hz1 hz2 rfl (by omega) (.slice aP PL.length cP) PL.length _ (by rfl) hrow5 ⟨wr.heap.size, 0, none⟩ 1 1 [.string ⟨#[102, 117, 110, 99, 116, 105, 111, 110, 115]⟩, .int .i64 4, .string ⟨#[]⟩, .float .f64 0, .bool false, .slice none 0 0, .slice aL nL cL] (by rfl) (by rfl) (World.news_of_block (cs := #[.string ⟨#[102, 117, 110, 99, 116, 105, 111, 110, 115]⟩, .int .i64 4, .string ⟨#[]⟩, .float .f64 0, .bool false, .slice none 0 0, .slice aL nL cL]) (t := 81) (fr := (0, 0)) hnw5) (by simp [Value.oneCell']) (by omega) (by unfold maxLen; omega) (by omega) (by first | omega | (simp; omega)) w5.heap.size (by first | exact Nat.le_refl _ | rfl | simp | omega) ?_; intro g cap w1 hown1 hgrow hat hlt1))
        all_goals (
          have hu5 : RepT w5 (fun b => b ≠ w.heap.size ∧ (Value.slice aP PL.length cP).ownBlock ≠ some b) ⟨4, ⟨#[]⟩, 0, false, none, 0, 0, aL, nL, cL⟩ (listT FL) := (Hrep.out.mono (S' := fun b => b ≠ w.heap.size ∧ (Value.slice aP PL.length cP).ownBlock ≠ some b) (fun b hb h => ⟨by rcases h with (h | h) | h; have := HS.out b h; omega; omega; omega, fun e => by have := hfar b e; omega⟩)).keep (Keeps.of_below _ hb05)
          have hnew : OwnL PairR pairCells 81 7 w1 (fun b => b ≠ w.heap.size) (w.heap.size + 1) (.slice (some ⟨g, 0, none⟩) (PL.length + 1) cap) (PL ++ [⟨n_functions, listT FL⟩]) ∧ Zero6 w1 w.heap.size ∧ Below w.heap.size w w1 := by
            first
              | exact ⟨pair_add (T := (fun b => b ≠ w.heap.size)) (u := ⟨4, ⟨#[]⟩, 0, false, none, 0, 0, aL, nL, cL⟩) (key := n_functions) (t := listT FL) hvl hreps hu5 hown1 rfl hgrow hat, Box6.grown (base := w.heap.size + 1) (Hz.out.below hb05).alloc hgrow (hrow5.alloc _).lt (by omega), ((via Hbel.out hb05).alloc (by omega) _).grown hgrow (by first | omega | (simp; omega)) (fun k hk => by have := (hrow5.lt k hk).1; omega)⟩
              | exact ⟨pair_add' (T := (fun b => b ≠ w.heap.size)) (u := ⟨4, ⟨#[]⟩, 0, false, none, 0, 0, aL, nL, cL⟩) (key := n_functions) (t := listT FL) hvl hreps hu5 hown1 rfl hgrow hat, Box6.grown (base := w.heap.size + 1) (Hz.out.below hb05) hgrow hrow5.lt (by omega), (via Hbel.out hb05).grown hgrow (by omega) (fun k hk => by have := (hrow5.lt k hk).1; omega)⟩
          have Hnew := Lib.hid hnew
          clear hnew hgrow hat hown1 hrow5 hu5 hreps hvl
          go_wp2_with fail
          go_meet
          case rel => exact Hnew.out)
      case rest =>
      clear b0 b1 b2 b3 b4 b5 bf bl Hrep Hbox Hz Hbel H51 hFl hsz
      obtain ⟨hown, hz, hbel⟩ := hcut
      obtain ⟨Q, hQ⟩ : ∃ l, l = PL ++ [⟨n_functions, listT FL⟩] := ⟨_, rfl⟩
      rw [← hQ] at hown Hres
      have hQl : Q.length ≤ 6 := by rw [hQ, List.length_append]; simp; omega
      clear hQ
      obtain ⟨a2, cc2, hform⟩ := hown.form
      subst hform
      have hsz := hbel.size
      have hzl : w.heap.size < wc.heap.size := (Array.getElem?_eq_some_iff.1 hz).1
      obtain ⟨nq, hnq⟩ : ∃ n, n = qs.length := ⟨_, rfl⟩
      have Hz := Lib.hid hz; clear hz
      have Hbel := Lib.hid hbel; clear hbel
      have Hnq := Lib.hid hnq
      rw [← hnq]
      rw [← hnq] at hql
      clear hnq
      go_upto_if 35 with fail
      go_cut [9] from 33 to 42 (fun v wx => OwnL PairR pairCells 81 7 wx (fun b => b ≠ w.heap.size) (w.heap.size + 1) v (Q ++ qryP qs) ∧ Zero6 wx w.heap.size ∧ Below w.heap.size w wx)
      case first =>
        cases hqq : qs with
        | nil =>
          have h0 : nq = 0 := by rw [Hnq.out, hqq]; rfl
          have Hq0 : Hid (qryP qs = []) := Lib.hid (by rw [hqq]; rfl)
          clear hqq
          subst h0
          have Hown := Lib.hid hown; clear hown
          go_wp2_with fail
          go_meet
          case rel => exact ⟨by rw [Hq0.out, List.append_nil]; exact Hown.out, Hz.out, Hbel.out⟩
        | cons t rest =>
          have h0 : nq = 1 := by have := Hnq.out; rw [hqq, List.length_cons] at this; omega
          obtain ⟨b', o', ⟨kind, text, num, yes, ka, kn, kc, ca, cn, cc⟩, hca, hSb, hlb, ⟨d0, d1, d2, d3, d4, d5⟩, hv⟩ := (Hqs.out.keep (Keeps.of_below S Hbel.out)).cells (k := 0) (by rw [hqq]; simp)
          have ht : qs[0]'(by rw [hqq]; simp) = t := by simp [hqq]
          rw [ht] at hv
          have Hq1 : Hid (qryP qs = [⟨n_query, t⟩]) := Lib.hid (by rw [hqq]; rfl)
          simp only [Nat.zero_mul, Nat.add_zero] at d0 d1 d2 d3 d4 d5
          clear hqq ht
          subst h0 hca
          obtain ⟨vs, hvl, hrow, hreps⟩ := hown
          have Hv : Hid (RepT wc (fun b => b ≠ w.heap.size ∧ (Value.slice a2 Q.length cc2).ownBlock ≠ some b) ⟨kind, text, num, yes, ka, kn, kc, ca, cn, cc⟩ t) := Lib.hid (hv.mono (fun b _ hb => ⟨by have := HS.out b hb; omega, fun e => by have := (hrow.lt b e).1; have := HS.out b hb; omega⟩))
          have Hreps := Lib.hid hreps; clear hreps
          have Hvl := Lib.hid hvl; clear hvl hv
          go_wp2_with (at_builtin; refine wpList_append_lies _ rfl _ _ _ rfl (w.heap.size + 1) 81 i0 _ 7 104 Tryz.underlying83 hi hz0 hz1 hz2 rfl (by omega) (.slice a2 Q.length cc2) Q.length _ rfl (hrow.alloc _) ⟨wc.heap.size, 0, none⟩ 1 1 [.string ⟨#[113, 117, 101, 114, 121]⟩, .int .i64 kind, .string text, .float .f64 num, .bool yes, .slice ka kn kc, .slice ca cn cc] rfl rfl (World.news_of_block (cs := #[.string ⟨#[113, 117, 101, 114, 121]⟩, .int .i64 kind, .string text, .float .f64 num, .bool yes, .slice ka kn kc, .slice ca cn cc]) (t := 81) (fr := (0, 0)) (heap_alloc_new wc _)) (by simp [Value.oneCell']) (by omega) (by unfold maxLen; omega) (by omega) (by simp; omega) (wc.heap.size + 1) (by simp) ?_; intro g cap w1 hown1 hgrow hat hlt1)
          have hnew := pair_add (T := (fun b => b ≠ w.heap.size)) (u := ⟨kind, text, num, yes, ka, kn, kc, ca, cn, cc⟩) (key := n_query) (t := t) Hvl.out Hreps.out Hv.out hown1 rfl hgrow hat
          have hbel1 : Below w.heap.size w w1 := (Hbel.out.alloc (by omega) _).grown hgrow (by first | omega | (simp; omega)) (fun k hk => by have := (hrow.lt k hk).1; omega)
          have hz1 : Zero6 w1 w.heap.size := Box6.grown (base := w.heap.size + 1) Hz.out.alloc hgrow (hrow.alloc _).lt (by omega)
          have Hnew := Lib.hid hnew
          have Hbel1 := Lib.hid hbel1
          have Hz1 := Lib.hid hz1
          clear hnew hbel1 hz1 hgrow hat hown1 hrow
          go_wp2_with fail
          go_meet
          case rel => exact ⟨by rw [Hq1.out]; exact Hnew.out, Hz1.out, Hbel1.out⟩
      case rest =>
      clear hown Hz Hbel hsz hzl
      obtain ⟨hown, hz, hbel⟩ := hcut
      obtain ⟨R, hR⟩ : ∃ l, l = Q ++ qryP qs := ⟨_, rfl⟩
      rw [← hR] at hown Hres
      have hRl : R.length ≤ 7 := by
        have : (qryP qs).length ≤ 1 := by cases qs <;> simp [qryP]
        rw [hR, List.length_append]; omega
      clear hR
      obtain ⟨a3, cc3, hform, hps⟩ := hown.sets'
      subst hform
      have hc := beside_any n_function_score _ _ a3 cc3 wc hps (fun b hb => hb.1) (by omega)
      generalize R.length = n at *
      have Hc := Lib.hid hc; clear hc hown hps
      have Hz := Lib.hid hz; clear hz
      have Hbel := Lib.hid hbel; clear hbel
      go_wp2_with (go_at_call 52; refine Hc.out.mono ?_; rintro e w5 ⟨⟨kind, text, num, yes, ka, kn, kc, ca, cn, cc⟩, rfl, hu, hb5⟩; obtain ⟨z0, z1, z2, z3, z4, z5, zf, zl⟩ := (Hz.out.below hb5).cells)
      have Hu := Lib.hid hu; clear hu
      have hs5 := hb5.size
      have hz5 := Hz.out.below hb5
      have hsz := Hbel.out.size
      have hzl := (Array.getElem?_eq_some_iff.1 Hz.out).1
      obtain ⟨p0, p1, p2, p3, p4, p5, _, _⟩ := (hz5.put6 (.int .i64 kind) (.string text) (.float .f64 num) (.bool yes) (.slice ka kn kc) (.slice ca cn cc)).cells
      refine bodyPost_ret (v := .agg #[.int .i64 kind, .string text, .float .f64 num, .bool yes, .slice ka kn kc, .slice ca cn cc]) (by simp [results, Tryz.results12, go_sem, p0, p1, p2, p3, p4, p5]) rfl ?_
      rw [Hres.out]
      refine ⟨⟨kind, text, num, yes, ka, kn, kc, ca, cn, cc⟩, rfl, ((Hu.out.mono (S' := fun b => b ≠ w.heap.size) (fun b _ hb => ?_)).put6 (fun h => h rfl) _ _ _ _ _ _).all, Below.put6 (via Hbel.out hb5) (Nat.le_refl _) _ _ _ _ _ _⟩
      rcases hb with ⟨_, h | h⟩ | h
      · exact h
      · omega
      · omega
end Go.Proofs.YtbcnhcpgloncdaaGreatDoor
