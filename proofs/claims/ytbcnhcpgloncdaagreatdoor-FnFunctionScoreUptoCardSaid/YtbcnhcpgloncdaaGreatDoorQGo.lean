/- 'mapOf': a map as a tree. -/
import Derived.Test.YtbcnhcpgloncdaaGreatDoorQGm
import Derived.Test.YtbcnhcpgloncdaaGreatDoorQShelf
import Derived.Maps.RangeWalk
import Derived.Sort.KeysCollected
import Derived.Sort.OwnSorted
namespace Go.Proofs.YtbcnhcpgloncdaaGreatDoor
open Go Go.RowKit Go.Maps Go.Sort

/-- How an element of a 'map[string]any' is read: as itself. -/
def R9 (v : Value) : Option (DataW Value × List MemPlace) := some (.held v, [])
theorem keyed9 : Keyed Tryz.prog 9 := string_keyed Tryz.underlying9

/-- 'slices.Sort' of texts that the call owns. -/
theorem sort_any (w : World) (base : Nat) (kv : Value) (ss : List (List UInt8)) (h : w.ownsRow base 9 1 kv ss.length (ss.map encStr)) (hl : ss.length < 4611686018427387904) :
    Calls Tryz.prog 170 #[kv] w fun e w' => e = .returned (.tuple #[]) ∧ w'.ownsRow base 9 1 kv ss.length ((ss.mergeSort leB).map encStr) ∧ w.grownBy w' kv.ownBlock := by
  rcases h.2 with ⟨hnil, h0⟩ | ⟨g, cap, cur, rfl, hbase, hb, h1, h2, h3, h4⟩
  · subst hnil
    have hs : ss = [] := List.length_eq_zero_iff.1 h0
    subst hs
    refine (Tryz.slices_Sort_string_none none 0 w).mono ?_
    rintro e w' ⟨rfl, rfl⟩
    exact ⟨rfl, by simpa using h, ⟨rfl, rfl, rfl, Nat.le_refl _, fun _ _ _ => rfl⟩⟩
  · have hH : Holds encStr w g 0 ss.toArray := holds_of_block hb (by simpa using h4)
    refine (Tryz.slices_Sort_string g 0 cap ss w hH (Array.getElem?_eq_some_iff.1 hb).1 hl).mono ?_
    rintro e w' ⟨rfl, nn, os, rfl⟩
    exact ⟨rfl, ownsRow_sorted (by simp) hbase hb h1 h2 h3, grownBy_sorted _⟩

theorem grownBy_setCell (W : World) (a : Addr) (v : Value) : W.grownBy (W.setCell a v) (some a.block) := ⟨rfl, rfl, rfl, by simp, fun i _ hne => heap_setCell_other W a i v (fun e => hne (by rw [e]))⟩
theorem grownBy_put6 (W : World) (b : Nat) (v0 v1 v2 v3 v4 v5 : Value) :
    W.grownBy ((((((W.setCell ⟨b, 0, none⟩ v0).setCell ⟨b, 1, none⟩ v1).setCell ⟨b, 2, none⟩ v2).setCell ⟨b, 3, none⟩ v3).setCell ⟨b, 4, none⟩ v4).setCell ⟨b, 5, none⟩ v5) (some b) :=
  (((((grownBy_setCell W ⟨b, 0, none⟩ v0).andThen (grownBy_setCell _ ⟨b, 1, none⟩ v1) (fun _ hj => .inr hj)).andThen (grownBy_setCell _ ⟨b, 2, none⟩ v2) (fun _ hj => .inr hj)).andThen (grownBy_setCell _ ⟨b, 3, none⟩ v3) (fun _ hj => .inr hj)).andThen (grownBy_setCell _ ⟨b, 4, none⟩ v4) (fun _ hj => .inr hj)).andThen (grownBy_setCell _ ⟨b, 5, none⟩ v5) (fun _ hj => .inr hj)

def mapT (ks : List ByteArray) (ts : List Tr) : Tr := .mk 5 ⟨#[]⟩ 0 false ks ts

set_option maxRecDepth 100000 in
set_option maxHeartbeats 4000000 in
theorem mapOf_any (b n : Nat) (D : DataW Value) (ks : List ByteArray) (ts : List Tr) (w : World) (hown : w.ownsMap Tryz.prog 9 R9 b n D) (hn : Maps.size D ≤ 4294967296) (hks : ks.map (fun k => k.data.toList) = (strKeys D).mergeSort leB) (hl : ts.length = ks.length)
    (hel : ∀ i (h1 : i < ks.length) (h2 : i < ts.length) v, D.atKey (.string ks[i].data.toList) (.held .nilIface) = .held v → ∀ wr, Below w.heap.size w wr → Calls Tryz.prog 110 #[v] wr (TreePost wr ts[i])) :
    Calls Tryz.prog 162 #[.map (some b)] w (TreePost w (mapT ks ts)) := by
  obtain ⟨i0, hi, hz0, hz1, hz2⟩ := info_parts Tryz.info31
  obtain ⟨j0, ji, jz0, jz1, jz2⟩ := info_parts Tryz.info9
  have hbl := hown.lt
  have Hel := Lib.hid hel; clear hel
  have Hks := Lib.hid hks; clear hks
  go_enter Tryz.func162, Tryz.ntmps162
  go_wp2_with (first
    | (at_range; refine wpList_range_own _ rfl _ 122 rfl 9 20 keyed9 Tryz.underlying122 _ b n _ rfl ((hown.alloc _).alloc _) ?_; intro w0 hrg0 hg0 hs0)
    | fail)
  go_frame
  have hr : ((w.alloc (.cells #[.int .i64 0, .string ⟨#[]⟩, .float .f64 0, .bool false, .slice none 0 0, .slice none 0 0] 31)).alloc (.cells #[.int .i64 5, .string ⟨#[]⟩, .float .f64 0, .bool false, .slice none 0 0, .slice none 0 0] 31)).heap.size = w.heap.size + 2 := by simp
  rw [hr] at hrg0 hs0 ⊢
  have hbx0 : Zero6 w0 w.heap.size := Box6.keep (Box6.alloc (heap_alloc_new w _)) (hg0.block _ (by simp; omega) (by simp))
  have hbx1 : Box6 w0 (w.heap.size + 1) (.int .i64 5) (.string ⟨#[]⟩) (.float .f64 0) (.bool false) (.slice none 0 0) (.slice none 0 0) := by
    have := heap_alloc_new (w.alloc (.cells #[.int .i64 0, .string ⟨#[]⟩, .float .f64 0, .bool false, .slice none 0 0, .slice none 0 0] 31)) (.cells #[.int .i64 5, .string ⟨#[]⟩, .float .f64 0, .bool false, .slice none 0 0, .slice none 0 0] 31)
    exact Box6.keep (w := (w.alloc (.cells #[.int .i64 0, .string ⟨#[]⟩, .float .f64 0, .bool false, .slice none 0 0, .slice none 0 0] 31)).alloc (.cells #[.int .i64 5, .string ⟨#[]⟩, .float .f64 0, .bool false, .slice none 0 0, .slice none 0 0] 31)) (by simpa [Box6] using this) (hg0.block _ (by simp) (by simp))
  have hbel0 : Below w.heap.size w w0 := (((Below.refl _ _).alloc (Nat.le_refl _) _).alloc (by simp) _).grown hg0 (by simp; omega) (fun k hk => by cases hk)
  clear hr hg0
  go_loopw [4] (fun _ wr => ∃ (left : Lit → Bool) (cnt : Nat) (ss : List (List UInt8)) (kv : Value), wr.ranges Tryz.prog 9 R9 b (w.heap.size + 2) n D left cnt ∧ ss.length + cnt ≤ Maps.size D ∧
      wr.ownsRow (w.heap.size + 3) 9 1 kv ss.length (ss.map encStr) ∧ Collected D left ss ∧ Zero6 wr w.heap.size ∧ Box6 wr (w.heap.size + 1) (.int .i64 5) (.string ⟨#[]⟩) (.float .f64 0) (.bool false) kv (.slice none 0 0) ∧ w.heap.size + 3 ≤ wr.heap.size ∧ Below w.heap.size w wr)
    (fun _ wr => wr.rangeLeft b (w.heap.size + 2))
  case atStart => exact ⟨_, _, [], .slice none 0 0, hrg0, by simp, ⟨by simp, .inl ⟨rfl, rfl⟩⟩, Collected.start D, hbx0, hbx1, by omega, hbel0⟩
  case round =>
    clear hrg0 hs0 hbx0 hbx1 hbel0
    obtain ⟨left, cnt, ss, kv, hrg, hcs, hrow, hC, hz, hbox, hsz, hbel⟩ := hrel
    go_wp2_with (first
      | (at_next; refine wpList_next_ranges _ rfl _ rfl 9 keyed9 R9 encStr (fun v => v) (fun key kl hk => by obtain ⟨x, hx, _⟩ := Maps.keyOf_str Tryz.underlying9 hk; exact ⟨x, hx⟩) (fun v y hv => ⟨v, rfl⟩) b (w.heap.size + 2) n _ _ _ rfl hrg ?_ ?_)
      | fail)
    · intro hc0 hl0
      have hperm := hC.perm hrg.owns keyed9 Tryz.underlying9 hl0
      have hsl : ss.length = Maps.size D := by
        obtain ⟨es, rfl, _⟩ := hown.keysOf
        rw [hperm.length_eq]; simp [strKeys, Maps.size_eq]
      have hkl := strKeys_le hown Tryz.underlying9
      have hkN : ss.mergeSort leB = ks.map (fun k => k.data.toList) := by rw [Hks.out]; exact mergeSort_of_perm hperm
      have hnl : ss.length = ks.length := by have := congrArg List.length hkN; simpa using this
      have hkle : ∀ x ∈ ks, x.size ≤ maxLen := fun x hx => by
        have h1 : x.data.toList ∈ ss.mergeSort leB := by rw [hkN]; exact List.mem_map.2 ⟨x, hx, rfl⟩
        have := hkl _ (hperm.mem_iff.1 ((List.mergeSort_perm ss leB).mem_iff.1 h1))
        simpa using this
      obtain ⟨ka, kc, rfl⟩ : ∃ ka kc, kv = .slice ka ks.length kc := by
        rw [hnl] at hrow
        rcases hrow.2 with ⟨e, h0⟩ | ⟨g, cap, cur, e, _⟩
        · exact ⟨none, 0, by rw [e, h0]⟩
        · exact ⟨_, _, e⟩
      obtain ⟨b0, b1, b2, b3, b4, b5, bf, bl⟩ := hbox.cells
      have hsrt := sort_any wr (w.heap.size + 3) (.slice ka ks.length kc) ss hrow (by omega)
      rw [hkN] at hsrt
      have Hrow := Lib.hid hrow; clear hrow
      have Hbox := Lib.hid hbox; clear hbox
      have Hz := Lib.hid hz; clear hz
      have Hbel := Lib.hid hbel; clear hbel
      clear hC hrg hkl hkN hperm
      have Hsrt := Lib.hid hsrt; clear hsrt
      have Hown := Lib.hid hown; clear hown
      have Hkle := Lib.hid hkle; clear hkle
      have hN : ks.length ≤ 4294967296 := by omega
      have Hnl := Lib.hid hnl; clear hnl hsl
      go_wp2_with (go_at_call 170; refine Hsrt.out.mono ?_; rintro e wS ⟨rfl, hrowS, hgS⟩; obtain ⟨x0, x1, x2, x3, x4, x5, xf, xl⟩ := (Hbox.out.grown (base := w.heap.size + 3) hgS Hrow.out.lt (by omega)).cells)
      have hboxS := Hbox.out.grown (base := w.heap.size + 3) hgS Hrow.out.lt (by omega)
      have hzS := Hz.out.grown (base := w.heap.size + 3) hgS Hrow.out.lt (by omega)
      have hbelS := Hbel.out.grown hgS Hbel.out.size (fun k hk => by have := (Hrow.out.lt k hk).1; omega)
      have hszS : w.heap.size + 3 ≤ wS.heap.size := Nat.le_trans hsz hgS.size
      rw [Hnl.out, List.map_map] at hrowS
      have hfe : (encStr ∘ fun k : ByteArray => k.data.toList) = Value.string := by funext k; simp [encStr]
      rw [hfe] at hrowS
      have HrowS := Lib.hid hrowS; clear hrowS hfe
      have HboxS := Lib.hid hboxS; clear hboxS
      have HzS := Lib.hid hzS; clear hzS
      have HbelS := Lib.hid hbelS; clear hbelS
      clear x0 x1 x2 x3 x4 x5 xf xl b0 b1 b2 b3 b4 b5 bf bl Hsrt
      clear Hbox Hz Hbel Hrow hgS hsz
      go_loopw [26, 6] (fun i _ wr => ∃ (k : Nat) (ca : Option Addr) (cn cc : Nat), k ≤ ks.length ∧ i = .int .i64 k ∧ KidsAt wr wS.heap.size (.slice ca cn cc) (ts.take k) ∧
        Box6 wr (w.heap.size + 1) (.int .i64 5) (.string ⟨#[]⟩) (.float .f64 0) (.bool false) (.slice ka ks.length kc) (.slice ca cn cc) ∧ wS.grownBy wr (some (w.heap.size + 1))) (fun i _ _ => ks.length - (intOf i).toNat)
      case atStart => exact ⟨0, none, 0, 0, Nat.zero_le _, rfl, KidsAt.nil _ _, HboxS.out, ⟨rfl, rfl, rfl, Nat.le_refl _, fun _ _ _ => rfl⟩⟩
      case round =>
        obtain ⟨k, ca, cn, cc, hk, rfl, hkids, hbox, hgw⟩ := hrel
        have hz := HzS.out.keep (hgw.block _ (by omega) (by simp))
        have hbel := HbelS.out.grown hgw HbelS.out.size (fun k hk => by cases hk; omega)
        have hsz : wS.heap.size ≤ wr.heap.size := hgw.size
        obtain ⟨b0, b1, b2, b3, b4, b5, bf, bl⟩ := hbox.cells
        by_cases hlt : k < ks.length
        · have hrow := HrowS.out.kept hgw (by
            rcases e : (Value.slice ka ks.length kc).ownBlock with _ | g
            · exact .inl rfl
            · refine .inr fun e' => ?_
              have := (HrowS.out.lt g e).1
              injection e' with e'
              omega)
          obtain ⟨g, cap, hform, hgb, hgl⟩ := hrow.form (by omega)
          obtain ⟨rfl, rfl⟩ : ka = some ⟨g, 0, none⟩ ∧ kc = cap := by simpa using hform
          have ckey := hrow.cellAt k (by omega)
          have hks0 : (ks.map Value.string)[k]? = some (.string ks[k]) := by simp [hlt]
          rw [hks0] at ckey
          have hlt2 : k < ts.length := by omega
          have hlook := ((Hown.out.kept (Below.grow hbel) (by simp)).drew).lookup (t := 122) (e := 20) keyed9 Tryz.underlying122 (z := .nilIface) (by kernel_rfl) (zd := .held .nilIface) (zp := []) rfl (key := .string ks[k]) (Go.WideMaps.keyOf_string_mk Tryz.underlying9 (Hkle.out _ (by simp)))
          obtain ⟨v, ps, hrun, hv⟩ := hlook
          have hat : D.atKey (.string ks[k].data.toList) (.held .nilIface) = .held v := by
            have := congrArg (Option.map Prod.fst) hv
            simpa [R9] using this.symm
          have hc := Hel.out k hlt hlt2 v hat
          have hk1 : (ts.take (k + 1)) = ts.take k ++ [ts[k]] := List.take_succ_eq_append_getElem hlt2
          have Hk1 := Lib.hid hk1; clear hk1
          have hkl : (ts.take k).length = k := by simp; omega
          have Hkl := Lib.hid hkl; clear hkl
          generalize ts[k] = t at *
          generalize ks[k] = key at *
          have Hc := Lib.hid hc; clear hc
          have Hbel := Lib.hid hbel; clear hbel
          obtain ⟨us, hul, hown1, hreps⟩ := hkids
          rw [Hkl.out] at hown1
          have Hreps := Lib.hid hreps; clear hreps
          have Hown1 := Lib.hid hown1; clear hown1
          have Hz := Lib.hid hz; clear hz
          have Hbox := Lib.hid hbox; clear hbox
          have Hgw := Lib.hid hgw; clear hgw
          have Hrow := Lib.hid hrow; clear hrow
          clear hv hat hform hks0
          have hi1 : (0 : Int) ≤ (k : Int) := by omega
          have hi2 : (k : Int) < (ks.length : Int) := by omega
          go_wp2_with fail
          go_region_law (first
            | (refine step_append_lies _ (by rfl) _ _ _ (by rfl) wS.heap.size 31 i0 _ 6 88 Tryz.underlying22 hi hz0 hz1 hz2 rfl (by omega) (.slice ca cn cc) k _ (by rfl) ((ownsRow_below Hown1.out hb').alloc _) ⟨w2.heap.size, 0, none⟩ 1 1 [.int .i64 kind, .string text, .float .f64 num, .bool yes, .slice ka' kn' kc', .slice ca' cn' cc'] (by rfl) (by rfl) (World.news_of_block (cs := #[.int .i64 kind, .string text, .float .f64 num, .bool yes, .slice ka' kn' kc', .slice ca' cn' cc']) (t := 31) (fr := (0, 0)) (heap_alloc_new w2 _)) (by simp [Value.oneCell']) (by omega) (by unfold maxLen; omega) (by omega) (by have := hb'.size; simp; omega) (w2.heap.size + 1) (by simp) ?_; intro g' cap' w3 hown3 hgrow hat hlt3; have hbox3 := Box6.grown ((Hbox.out.below hb').alloc) hgrow ((ownsRow_below Hown1.out hb').alloc _).lt (by omega); obtain ⟨_, _, _, _, _, y5, yf, yl⟩ := hbox3.cells)
            | (go_simp; go_at_call 110; refine (Hc.out _ Hbel.out.drew).mono ?_; rintro e w2 ⟨⟨kind, text, num, yes, ka', kn', kc', ca', cn', cc'⟩, rfl, hV, hb⟩; have hb' := Below.undrew hb; obtain ⟨_, _, _, _, _, x5, xf, xl⟩ := (Hbox.out.below hb').cells))
          all_goals (
            have hkids3 := kids_round (V := ⟨kind, text, num, yes, ka', kn', kc', ca', cn', cc'⟩) Hkl.out rfl hsz hul Hreps.out Hown1.out hb' hV _ hgrow hat hown3
            have hsz3 : w2.heap.size + 1 ≤ w3.heap.size := by have := hgrow.size; simpa using this
            have hgw3 : wS.grownBy (w3.setCell ⟨w.heap.size + 1, 5, none⟩ (.slice (some ⟨g', 0, none⟩) (k + 1) cap')) (some (w.heap.size + 1)) := by
              refine ((Hgw.out.andThen (row' := none) (Below.grow (hb'.trans (((Below.refl _ _).alloc (Nat.le_refl _) _).mono hb'.size))) (fun j hj => by cases hj)).andThen hgrow (fun j hj => .inl ((Hown1.out.lt j hj).1))).andThen (row' := some (w.heap.size + 1)) ⟨rfl, rfl, rfl, by simp, fun i _ hne => heap_setCell_other _ _ _ _ (fun e => hne (by rw [e]))⟩ (fun j hj => .inr (by rw [hj]))
            go_wp2_with fail
            go_roundw
            case rel => exact ⟨k + 1, _, _, _, by omega, by simp, by rw [Hk1.out]; exact hkids3.setCell (by simp; omega) _, hbox3.set5 _, hgw3⟩
            case measure => simp [intOf]; omega)
        · obtain rfl : k = ks.length := by omega
          obtain ⟨z0, z1, z2, z3, z4, z5, zf, zl⟩ := hz.cells
          have Hbel := Lib.hid hbel; clear hbel
          have Hkids := Lib.hid hkids; clear hkids
          have Hgw := Lib.hid hgw; clear hgw
          go_wp2_with fail
          obtain ⟨p0, p1, p2, p3, p4, p5, _, _⟩ := (hz.put6 (.int .i64 5) (.string ⟨#[]⟩) (.float .f64 0) (.bool false) (.slice ka ks.length kc) (.slice ca cn cc)).cells
          refine bodyPost_ret (v := .agg #[.int .i64 5, .string ⟨#[]⟩, .float .f64 0, .bool false, .slice ka ks.length kc, .slice ca cn cc]) (by simp [results, Tryz.results162, go_sem, p0, p1, p2, p3, p4, p5]) rfl ?_
          refine ⟨⟨5, ⟨#[]⟩, 0, false, ka, ks.length, kc, ca, cn, cc⟩, rfl, ?_, Below.put6 Hbel.out (Nat.le_refl _) _ _ _ _ _ _⟩
          have hk6 := Hkids.out.put6 (b := w.heap.size) (by omega) (.int .i64 5) (.string ⟨#[]⟩) (.float .f64 0) (.bool false) (.slice ka ks.length kc) (.slice ca cn cc)
          rw [List.take_of_length_le (by omega)] at hk6
          refine hk6.rep (by omega) _ (fun b hb => by omega) 5 ks ka kc ?_ (by omega)
          intro hn0
          have hrow := (HrowS.out.kept Hgw.out (by
            rcases e : (Value.slice ka ks.length kc).ownBlock with _ | g
            · exact .inl rfl
            · refine .inr fun e' => ?_
              have := (HrowS.out.lt g e).1
              injection e' with e'
              omega)).kept (grownBy_put6 wr w.heap.size (.int .i64 5) (.string ⟨#[]⟩) (.float .f64 0) (.bool false) (.slice ka ks.length kc) (.slice ca cn cc)) (by
            rcases e : (Value.slice ka ks.length kc).ownBlock with _ | g
            · exact .inl rfl
            · refine .inr fun e' => ?_
              have := (HrowS.out.lt g e).1
              injection e' with e'
              omega)
          obtain ⟨g, cap, hform, hgb, hgl⟩ := hrow.form hn0
          obtain ⟨rfl, rfl⟩ : ka = some ⟨g, 0, none⟩ ∧ kc = cap := by simpa using hform
          refine ⟨g, 0, rfl, by omega, fun i hi j u hu => ?_⟩
          have := hrow.cellAt i (by omega)
          rw [List.getElem?_singleton] at hu
          split at hu
          · rename_i hj
            cases hu
            subst hj
            rw [show 0 + i * 1 + 0 = i by omega, this]
            simp [hi]
          · cases hu
    · intro x c kl yd yp w2 cnt2 hkey hlk hv hat hrg2 hlt hg2 hs2 hen
      obtain ⟨x', ex, rfl, _⟩ := Maps.keyOf_str Tryz.underlying9 hkey
      obtain rfl : x = x' := encStr_inj ex
      have hrow2 := hrow.kept hg2 (Or.inr (row_ne_iter hrow hrg).symm)
      have hbox2 : Box6 w2 _ _ _ _ _ _ _ := hbox.keep (hg2.block _ (by omega) (by simp))
      have hz2 : Zero6 w2 _ := hz.keep (hg2.block _ (by omega) (by simp))
      have hbel2 := hbel.grown hg2 hbel.size (fun k hk => by cases hk; omega)
      have hsz2 : w.heap.size + 3 ≤ w2.heap.size := by omega
      clear hs2
      obtain ⟨b0, b1, b2, b3, b4, b5, bf, bl⟩ := hbox2.cells
      have Hbox2 := Lib.hid hbox2; clear hbox2
      have Hz2 := Lib.hid hz2; clear hz2
      have Hhat := Lib.hid hat; clear hat
      have Hhv := Lib.hid hv; clear hv
      have Hhkey := Lib.hid hkey; clear hkey
      have Hlk := Lib.hid hlk; clear hlk
      go_wp2_with (at_builtin; refine wpList_append_lies _ rfl _ _ _ rfl (w.heap.size + 3) 9 j0 _ 1 16 Tryz.underlying29 ji jz0 jz1 jz2 rfl (by omega) kv ss.length _ rfl (hrow2.alloc _) ⟨w2.heap.size, 0, none⟩ 1 1 [encStr x] rfl rfl (World.news_of_block (cs := #[encStr x]) (t := 9) (fr := (0, 0)) (heap_alloc_new w2 _)) (by simp [Value.oneCell', encStr]) (by omega) (by unfold maxLen; omega) (by omega) (by simp; omega) (w2.heap.size + 1) (by simp) ?_; intro g cap w3 hown3 hgrow hat3 hlt3; have hbox3 := Box6.grown (Hbox2.out.alloc) hgrow (hrow2.alloc _).lt (by omega); obtain ⟨y0, y1, y2, y3, y4, y5, yf, yl⟩ := hbox3.cells)
      have hrg3 := (hrg2.alloc _).kept hgrow (row_ne_low hrow2 (by omega)) (row_ne_iter hrow2 hrg2)
      have hz3 := Box6.grown (Hz2.out.alloc) hgrow (hrow2.alloc _).lt (by omega)
      have hgc : w3.grownBy (w3.setCell ⟨w.heap.size + 1, 4, none⟩ (.slice (some ⟨g, 0, none⟩) (ss.length + 1) cap)) (some (w.heap.size + 1)) := ⟨rfl, rfl, rfl, by simp, fun i _ hne => heap_setCell_other _ _ _ _ (fun e => hne (by rw [e]))⟩
      have hrg4 := hrg3.kept hgc (by simp; omega) (by simp)
      have hsz3 : w2.heap.size + 1 ≤ w3.heap.size := by have := hgrow.size; simpa using this
      have hbel3 := (hbel2.alloc hbel2.size _).grown hgrow (by simp; omega) (fun k hk => by have := (hrow2.lt k hk).1; omega)
      go_roundw
      case rel =>
        refine ⟨_, cnt2, ss ++ [x], .slice (some ⟨g, 0, none⟩) (ss.length + 1) cap, hrg4, by simp; omega, ?_, hC.step Hlk.out Hhat.out, hz3.keep (heap_setCell_other _ _ _ _ (by simp)), hbox3.set4 _, by simp; omega, hbel3.setCell (by simp) _⟩
        have := hown3.kept hgc (.inr (by have := (hown3.lt g rfl).1; simp [Value.ownBlock]; omega))
        simpa using this
      case measure => rw [hrg4.left_eq, hrg.left_eq]; exact hlt
end Go.Proofs.YtbcnhcpgloncdaaGreatDoor
