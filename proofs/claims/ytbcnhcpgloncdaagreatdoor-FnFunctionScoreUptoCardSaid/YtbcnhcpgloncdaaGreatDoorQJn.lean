/- 'noNulls' of a tree without nulls: the tree itself. -/
import Derived.Test.YtbcnhcpgloncdaaGreatDoorQJj
namespace Go.Proofs.YtbcnhcpgloncdaaGreatDoor
open Go Go.RowKit Go.BigFrame Go.Maps

/-- No map in it holds what is null. -/
inductive Clean : Tr → Prop
  | leaf (t : Tr) (h : t.kind ≠ 5) : Clean t
  | map (es : List (ByteArray × Tr)) (ha : Asc es) (hl : es.length ≤ 100000000) (h0 : ∀ p ∈ es, p.2.kind ≠ 0) (h : ∀ p ∈ es, Clean p.2) : Clean (mapE es)

/-- A key that is greater than all comes last. -/
theorem with_last {es : List (ByteArray × Tr)} {p : ByteArray × Tr} (h : Asc (es ++ [p])) : withE p.1 p.2 false es = es ++ [p] := by
  have hes : Asc es := by
    have := List.pairwise_append.1 h
    exact this.1
  have hw := asc_with (key := p.1) (kid := p.2) hes
  have hr := asc_rel (R := Eq) hw h (fun k => by
    have hlk : lookE (withE p.1 p.2 false es) k = lookE (es ++ [p]) k := by
      rw [lookE_with, lookE_append]
      by_cases hk : k = p.1
      · subst hk
        have hno : lookE es p.1 = none := lookE_none (fun q hq e => by
          have := (List.pairwise_append.1 h).2.2 q hq p (by simp)
          rw [e, strLt_irrefl] at this
          cases this)
        rw [if_pos rfl, hno]
        simp [lookE_cons]
      · rw [if_neg hk]
        have : lookE [p] k = none := by rw [lookE_cons, if_neg (fun e => hk e.symm)]; rfl
        rw [this]
        simp
    rw [hlk]
    cases lookE (es ++ [p]) k with
    | none => exact .none
    | some x => exact .some rfl)
  refine List.ext_getElem? (fun i => ?_)
  by_cases hi : i < (es ++ [p]).length
  · have hi' : i < (withE p.1 p.2 false es).length := by rw [hr.1]; exact hi
    rw [List.getElem?_eq_getElem hi, List.getElem?_eq_getElem hi']
    have := hr.2 i _ _ (List.getElem?_eq_getElem hi') (List.getElem?_eq_getElem hi)
    exact congrArg some (Prod.ext this.1 this.2)
  · have e1 : (es ++ [p])[i]? = none := List.getElem?_eq_none (by omega)
    have e2 : (withE p.1 p.2 false es)[i]? = none := List.getElem?_eq_none (by rw [hr.1]; omega)
    rw [e1, e2]
theorem asc_take {es : List (ByteArray × Tr)} (h : Asc es) (k : Nat) : Asc (es.take k) := List.Pairwise.sublist (List.take_sublist k es) h

set_option maxRecDepth 100000 in
set_option maxHeartbeats 8000000 in
theorem noNulls_any {t : Tr} (h : Clean t) : ∀ (v : TV) (S : Nat → Prop) (w : World), RepT w S v t → (∀ b, S b → b < w.heap.size) → Calls Tryz.prog 49 #[v.val] w (TreeS w S t) := by
  induction h with
  | leaf t h5 =>
    intro v S w hv hS
    have e1 := hv.eqs.1
    rw [← e1] at h5
    obtain ⟨kd, tx, nm, ys, ka, kn, kc, ca, cn, cc⟩ := v
    simp only at h5
    have hne : (kd != 5) = true := by rw [bne_iff_ne]; exact h5
    have Hv := Lib.hid hv; clear hv e1 h5
    have HnS : Hid (¬ S (w.heap.size + 1)) := Lib.hid (fun h => by have := hS _ h; omega)
    clear hS
    go_enter Tryz.func49, Tryz.ntmps49
    go_upto_region 1 with fail
    have hb0 : Below w.heap.size w ((w.alloc (.cells #[.int .i64 kd, .string tx, .float .f64 nm, .bool ys, .slice ka kn kc, .slice ca cn cc] 31)).alloc (.cells #[.int .i64 0, .string ⟨#[]⟩, .float .f64 0, .bool false, .slice none 0 0, .slice none 0 0] 31)) := ((Below.refl _ _).alloc (Nat.le_refl _) _).alloc (by simp) _
    have hz0 : Zero6 ((w.alloc (.cells #[.int .i64 kd, .string tx, .float .f64 nm, .bool ys, .slice ka kn kc, .slice ca cn cc] 31)).alloc (.cells #[.int .i64 0, .string ⟨#[]⟩, .float .f64 0, .bool false, .slice none 0 0, .slice none 0 0] 31)) (w.heap.size + 1) := by
      have := heap_alloc_new (w.alloc (.cells #[.int .i64 kd, .string tx, .float .f64 nm, .bool ys, .slice ka kn kc, .slice ca cn cc] 31)) (.cells #[.int .i64 0, .string ⟨#[]⟩, .float .f64 0, .bool false, .slice none 0 0, .slice none 0 0] 31)
      rw [World.size_alloc] at this
      exact this
    have hx0 : Box6 ((w.alloc (.cells #[.int .i64 kd, .string tx, .float .f64 nm, .bool ys, .slice ka kn kc, .slice ca cn cc] 31)).alloc (.cells #[.int .i64 0, .string ⟨#[]⟩, .float .f64 0, .bool false, .slice none 0 0, .slice none 0 0] 31)) w.heap.size (.int .i64 kd) (.string tx) (.float .f64 nm) (.bool ys) (.slice ka kn kc) (.slice ca cn cc) := Box6.alloc (heap_alloc_new w _)
    have hv0 := Hv.out.keep (Keeps.of_below _ hb0)
    generalize (w.alloc (.cells #[.int .i64 kd, .string tx, .float .f64 nm, .bool ys, .slice ka kn kc, .slice ca cn cc] 31)).alloc (.cells #[.int .i64 0, .string ⟨#[]⟩, .float .f64 0, .bool false, .slice none 0 0, .slice none 0 0] 31) = w0 at *
    obtain ⟨x0, x1, x2, x3, x4, x5, xf, xl⟩ := hx0.cells
    obtain ⟨z0, z1, z2, z3, z4, z5, zf, zl⟩ := hz0.cells
    have Hz0 := Lib.hid hz0; clear hz0
    have Hv0 := Lib.hid hv0; clear hv0 Hv hx0
    have Hb0 := Lib.hid hb0; clear hb0
    go_wp2_with fail
    obtain ⟨p0, p1, p2, p3, p4, p5, _, _⟩ := (Hz0.out.put6 (.int .i64 kd) (.string tx) (.float .f64 nm) (.bool ys) (.slice ka kn kc) (.slice ca cn cc)).cells
    refine bodyPost_ret (v := .agg #[.int .i64 kd, .string tx, .float .f64 nm, .bool ys, .slice ka kn kc, .slice ca cn cc]) (by simp [results, Tryz.results49, go_sem, p0, p1, p2, p3, p4, p5]) rfl ?_
    exact ⟨⟨kd, tx, nm, ys, ka, kn, kc, ca, cn, cc⟩, rfl, (Hv0.out.put6 HnS.out _ _ _ _ _ _).mono (fun b _ hb => .inl hb), Below.put6' Hb0.out (by omega) _ _ _ _ _ _⟩
  | map es ha hl h0 hc ih =>
    intro v S w hv hS
    obtain ⟨e1, e2, e3, e4, e5, e6⟩ := hv.eqs
    clear e2 e3 e4
    obtain ⟨kd, tx, nm, ys, ka, kn, kc, ca, cn, cc⟩ := v
    simp only at e1 e5 e6
    rw [mapE_keys, List.length_map] at e5
    rw [mapE_kids, List.length_map] at e6
    have e1' : kd = 5 := e1
    subst e1' e5 e6
    clear e1
    have Hv := Lib.hid hv; clear hv
    have hnS : ∀ b, w.heap.size ≤ b → ¬ S b := fun b hb h => by have := hS b h; omega
    have HnS := Lib.hid hnS; clear hnS
    have HS := Lib.hid hS; clear hS
    have Ha := Lib.hid ha; clear ha
    have Hih := Lib.hid ih; clear ih
    have H0 := Lib.hid h0; clear h0 hc
    go_enter Tryz.func49, Tryz.ntmps49
    go_upto_region 3 with fail
    have hb0 : Below w.heap.size w ((w.alloc (.cells #[.int .i64 5, .string tx, .float .f64 nm, .bool ys, .slice ka es.length kc, .slice ca es.length cc] 31)).alloc (.cells #[.int .i64 0, .string ⟨#[]⟩, .float .f64 0, .bool false, .slice none 0 0, .slice none 0 0] 31)) := ((Below.refl _ _).alloc (Nat.le_refl _) _).alloc (by simp) _
    have hz0 : Zero6 ((w.alloc (.cells #[.int .i64 5, .string tx, .float .f64 nm, .bool ys, .slice ka es.length kc, .slice ca es.length cc] 31)).alloc (.cells #[.int .i64 0, .string ⟨#[]⟩, .float .f64 0, .bool false, .slice none 0 0, .slice none 0 0] 31)) (w.heap.size + 1) := by
      have := heap_alloc_new (w.alloc (.cells #[.int .i64 5, .string tx, .float .f64 nm, .bool ys, .slice ka es.length kc, .slice ca es.length cc] 31)) (.cells #[.int .i64 0, .string ⟨#[]⟩, .float .f64 0, .bool false, .slice none 0 0, .slice none 0 0] 31)
      rw [World.size_alloc] at this
      exact this
    have hx0 : Box6 ((w.alloc (.cells #[.int .i64 5, .string tx, .float .f64 nm, .bool ys, .slice ka es.length kc, .slice ca es.length cc] 31)).alloc (.cells #[.int .i64 0, .string ⟨#[]⟩, .float .f64 0, .bool false, .slice none 0 0, .slice none 0 0] 31)) w.heap.size (.int .i64 5) (.string tx) (.float .f64 nm) (.bool ys) (.slice ka es.length kc) (.slice ca es.length cc) := Box6.alloc (heap_alloc_new w _)
    have hv0 := Hv.out.keep (Keeps.of_below _ hb0)
    have hs0 : ((w.alloc (.cells #[.int .i64 5, .string tx, .float .f64 nm, .bool ys, .slice ka es.length kc, .slice ca es.length cc] 31)).alloc (.cells #[.int .i64 0, .string ⟨#[]⟩, .float .f64 0, .bool false, .slice none 0 0, .slice none 0 0] 31)).heap.size = w.heap.size + 2 := by simp
    generalize (w.alloc (.cells #[.int .i64 5, .string tx, .float .f64 nm, .bool ys, .slice ka es.length kc, .slice ca es.length cc] 31)).alloc (.cells #[.int .i64 0, .string ⟨#[]⟩, .float .f64 0, .bool false, .slice none 0 0, .slice none 0 0] 31) = w0 at *
    have Hz0 := Lib.hid hz0; clear hz0
    have Hx0 := Lib.hid hx0; clear hx0
    have Hv0 := Lib.hid hv0; clear hv0 Hv
    have Hb0 := Lib.hid hb0; clear hb0
    go_upto_region 5 with (go_at_call 42; refine (map_made [] (fun _ => False) none 0 _ ⟨fun _ => default, SliceAt.nil, fun i s h => by simp at h⟩ (fun _ h => h.elim) (by simp)).mono ?_; rintro e w3 ⟨⟨ok, ot, on, oy, oka, okn, okc, oca, ocn, occ⟩, rfl, ho, hb3⟩)
    have hs3 := hb3.size
    rw [hs0] at hs3
    have hba : Below w3.heap.size w3 (w3.alloc (.cells #[.int .i64 ok, .string ot, .float .f64 on, .bool oy, .slice oka okn okc, .slice oca ocn occ] 31)) := (Below.refl _ _).alloc (Nat.le_refl _) _
    have Hz4 := Lib.hid ((Hz0.out.below hb3).below hba)
    have Hx4 := Lib.hid ((Hx0.out.below hb3).below hba)
    have Hv4 := Lib.hid ((Hv0.out.keep (Keeps.of_below _ hb3)).keep (Keeps.of_below _ hba))
    have Hb4 := Lib.hid (via (via Hb0.out hb3) hba)
    have hob4 : TBox (w3.alloc (.cells #[.int .i64 ok, .string ot, .float .f64 on, .bool oy, .slice oka okn okc, .slice oca ocn occ] 31)) (fun b => S b ∨ (w.heap.size ≤ b ∧ b ≠ w.heap.size + 1 ∧ b ≠ w3.heap.size)) w3.heap.size (mapE []) :=
      ⟨⟨ok, ot, on, oy, oka, okn, okc, oca, ocn, occ⟩, heap_alloc_new w3 _, (ho.mono (S' := fun b => S b ∨ (w.heap.size ≤ b ∧ b ≠ w.heap.size + 1 ∧ b ≠ w3.heap.size)) (fun b hb hS => by rcases hS with h | h; exact h.elim; exact .inr (by omega))).keep (Keeps.of_below _ hba)⟩
    have Hob4 := Lib.hid hob4; clear hob4 hba hb3 ho Hz0 Hx0 Hv0 Hb0
    go_loopw [4] (fun i wr => ∃ k : Nat, k ≤ es.length ∧ i = .int .i64 k ∧ Box6 wr w.heap.size (.int .i64 5) (.string tx) (.float .f64 nm) (.bool ys) (.slice ka es.length kc) (.slice ca es.length cc) ∧
      RepT wr S ⟨5, tx, nm, ys, ka, es.length, kc, ca, es.length, cc⟩ (mapE es) ∧ TBox wr (fun b => S b ∨ (w.heap.size ≤ b ∧ b ≠ w.heap.size + 1 ∧ b ≠ w3.heap.size)) w3.heap.size (mapE (es.take k)) ∧ Zero6 wr (w.heap.size + 1) ∧ Below w.heap.size w wr) (fun i _ => es.length - (intOf i).toNat)
    case atStart => exact ⟨0, Nat.zero_le _, rfl, Hx4.out, Hv4.out, by rw [List.take_zero]; exact Hob4.out, Hz4.out, Hb4.out⟩
    case round =>
      clear Hx4 Hv4 Hob4 Hz4 Hb4
      obtain ⟨k, hk, rfl, hxb, hx, hout, hz, hbel⟩ := hrel
      obtain ⟨x0, x1, x2, x3, x4, x5, xf, xl⟩ := hxb.cells
      clear x0 x1 x2 x3
      by_cases hlt : k < es.length
      · obtain ⟨bk, ok', hka, hSk, hlbk, ck⟩ := hx.key (k := k) (by rw [mapE_keys, List.length_map]; exact hlt)
        obtain ⟨bc, oc, v', hca, hSc, hlbc, ⟨d0, d1, d2, d3, d4, d5⟩, hrv⟩ := hx.kid (k := k) (by rw [mapE_kids, List.length_map]; exact hlt)
        simp only at hka hca
        subst hka
        subst hca
        have ek : (mapE es).keys[k]'(by rw [mapE_keys, List.length_map]; exact hlt) = es[k].1 := by simp [mapE_keys]
        have ed : (mapE es).kids[k]'(by rw [mapE_kids, List.length_map]; exact hlt) = es[k].2 := by simp [mapE_kids]
        rw [ek] at ck
        rw [ed] at hrv
        have Htake : Hid (es.take (k + 1) = es.take k ++ [es[k]]) := Lib.hid (List.take_succ_eq_append_getElem hlt)
        have hasc := asc_take Ha.out (k + 1)
        rw [Htake.out] at hasc
        have hwl := with_last hasc
        have h0k := H0.out es[k] (List.getElem_mem hlt)
        have hih := Hih.out es[k] (List.getElem_mem hlt)
        have hlen : (es.take k).length ≤ 100000000 := by rw [List.length_take]; omega
        generalize es[k] = p at *
        obtain ⟨kk, kt⟩ := p
        simp only at ck hrv hwl h0k hih
        have q1 := hrv.eqs.1
        obtain ⟨kd3, tx3, nm3, ys3, ka3, kn3, kc3, ca3, cn3, cc3⟩ := v'
        simp only at d0 d1 d2 d3 d4 d5 q1
        have hk0 : (kd3 != 0) = true := by rw [bne_iff_ne, q1]; exact h0k
        clear q1 h0k ek ed hSk hSc hasc
        have Hwl := Lib.hid hwl; clear hwl
        have Hlen := Lib.hid hlen; clear hlen
        have hol := hout.lt
        have hzl : w.heap.size + 1 < wr.heap.size := (Array.getElem?_eq_some_iff.1 hz).1
        have hsz := hbel.size
        obtain ⟨⟨vk, vt, vn, vy, vka, vkn, vkc, vca, vcn, vcc⟩, hbox, hvo⟩ := hout.box
        have hc49 : ∀ wx, Below wr.heap.size wr wx → Calls Tryz.prog 49 #[TV.val ⟨kd3, tx3, nm3, ys3, ka3, kn3, kc3, ca3, cn3, cc3⟩] wx fun e w' => ∃ v' : TV, e = .returned v'.val ∧ RepT w' (fun b => S b ∨ wr.heap.size ≤ b) v' kt ∧ Below wr.heap.size wr w' := by
          intro wx hbx
          have hsx := hbx.size
          refine (hih ⟨kd3, tx3, nm3, ys3, ka3, kn3, kc3, ca3, cn3, cc3⟩ S wx (hrv.keep (Keeps.of_below _ hbx)) (fun b hb => by have := HS.out b hb; omega)).mono ?_
          rintro e w' ⟨v', rfl, hv', hb'⟩
          exact ⟨v', rfl, hv'.mono (fun b _ hb => by rcases hb with h | h; exact .inl h; exact .inr (by omega)), via hbx hb'⟩
        have hc45 : ∀ (w4 : World) (u : TV), Below wr.heap.size wr w4 → RepT w4 (fun b => S b ∨ wr.heap.size ≤ b) u kt → ∀ wx, Below w4.heap.size w4 wx → Calls Tryz.prog 45 #[TV.val ⟨vk, vt, vn, vy, vka, vkn, vkc, vca, vcn, vcc⟩, .string kk, u.val] wx fun e w' => ∃ v' : TV, e = .returned v'.val ∧ RepT w' (fun b => S b ∨ (w.heap.size ≤ b ∧ b ≠ w.heap.size + 1 ∧ b ≠ w3.heap.size)) v' (mapE (es.take (k + 1))) ∧ Below w4.heap.size w4 w' := by
          intro w4 u hb4 hu wx hbx
          have hs4 := hb4.size
          have hsx := hbx.size
          have h1 := ((hvo.mono (S' := fun b => b < wx.heap.size ∧ (S b ∨ (w.heap.size ≤ b ∧ b ≠ w.heap.size + 1 ∧ b ≠ w3.heap.size))) (fun b hb h => ⟨by omega, h⟩)).keep (Keeps.of_below _ hb4)).keep (Keeps.of_below _ hbx)
          have h2 := (hu.mono (S' := fun b => b < wx.heap.size ∧ (S b ∨ (w.heap.size ≤ b ∧ b ≠ w.heap.size + 1 ∧ b ≠ w3.heap.size))) (fun b hb h => ⟨by omega, by rcases h with h | h; exact .inl h; exact .inr (by omega)⟩)).keep (Keeps.of_below _ hbx)
          refine (with_any _ _ kk _ _ _ wx h1 h2 (fun b hb => by omega) (by rw [mapE_keys, mapE_kids, List.length_map, List.length_map]) (by rw [mapE_kids, List.length_map]; have := Hlen.out; omega)).mono ?_
          rintro e w' ⟨v', rfl, hv', hb'⟩
          refine ⟨v', rfl, ?_, via hbx hb'⟩
          have e1 := prs_mapE (es.take k)
          unfold prs at e1
          rw [e1, Hwl.out, ← Htake.out] at hv'
          exact hv'.mono (fun b _ hb => by rcases hb with hb | hb; exact hb.2; exact .inr (by omega))
        have Hc49 := Lib.hid hc49; clear hc49
        have Hc45 := Lib.hid hc45; clear hc45 hih hrv hvo hout
        obtain ⟨o0, o1, o2, o3, o4, o5, of', ol'⟩ := hbox.cells
        simp only at o0 o1 o2 o3 o4 o5
        have Hbox := Lib.hid hbox; clear hbox
        have Hxb := Lib.hid hxb; clear hxb
        have Hx := Lib.hid hx; clear hx
        have Hz := Lib.hid hz; clear hz
        have Hbel := Lib.hid hbel; clear hbel
        have hi1 : (0 : Int) ≤ (k : Int) := by omega
        have hi2 : (k : Int) < (es.length : Int) := by omega
        go_upto_region 8 with fail
        go_region_law (first
          | (go_simp; go_at_call 49; refine (Hc49.out _ (by first | exact Below.refl _ _ | exact (Below.refl _ _).drew)).mono ?_; rintro e w4 ⟨⟨kd4, tx4, nm4, ys4, ka4, kn4, kc4, ca4, cn4, cc4⟩, rfl, hV4, hb4⟩; have hbox4 := Hbox.out.below hb4; obtain ⟨y0, y1, y2, y3, y4, y5, yf, yl⟩ := hbox4.cells; have hxb4 := Hxb.out.below hb4; obtain ⟨m0, m1, m2, m3, m4, m5, mf, ml⟩ := hxb4.cells; have ck4 := (hb4.cell (p := ⟨bk, ok' + k, none⟩) hlbk).trans ck)
          | (go_simp; go_at_call 45; refine (Hc45.out w4 _ hb4 hV4 _ (by first | exact Below.refl _ _ | exact (Below.refl _ _).drew)).mono ?_; rintro e w5 ⟨⟨kind2, text2, num2, yes2, ka2, kn2, kc2, ca2, cn2, cc2⟩, rfl, hV, hb5⟩; have hbox5 := hbox4.below hb5; obtain ⟨z0, z1, z2, z3, z4, z5, zf, zl⟩ := hbox5.cells))
        all_goals (
          have hbc := via hb4 hb5
          have hgp := grownBy_put6 w5 w3.heap.size (.int .i64 kind2) (.string text2) (.float .f64 num2) (.bool yes2) (.slice ka2 kn2 kc2) (.slice ca2 cn2 cc2)
          have hs4 := hb4.size
          have hs5 := hb5.size
          have Hbc := Lib.hid hbc
          have Hgp := Lib.hid hgp
          have HV := Lib.hid hV
          have Hb5x := Lib.hid hbox5
          clear hbc hgp hV hbox5 hbox4 hxb4 hV4 hb4 hb5
          go_wp2_with fail
          go_roundw
          case rel => exact ⟨k + 1, by omega, by simp, (Hxb.out.below Hbc.out).keep (Hgp.out.block w.heap.size (by omega) (by simp; omega)), (Hx.out.keep (Keeps.of_below _ Hbc.out)).put6 (HnS.out _ (by omega)) _ _ _ _ _ _, TBox.put (fun h => by rcases h with h | h; exact HnS.out _ (by omega) h; exact h.2.2 rfl) Hb5x.out ⟨kind2, text2, num2, yes2, ka2, kn2, kc2, ca2, cn2, cc2⟩ _ HV.out, (Hz.out.below Hbc.out).keep (Hgp.out.block (w.heap.size + 1) (by omega) (by simp; omega)), Below.put6' (via Hbel.out Hbc.out) (by omega) _ _ _ _ _ _⟩
          case measure => simp [intOf]; omega)
      · obtain rfl : k = es.length := by omega
        rw [List.take_length] at hout
        obtain ⟨⟨vk, vt, vn, vy, vka, vkn, vkc, vca, vcn, vcc⟩, hbox, hvo⟩ := hout.box
        obtain ⟨o0, o1, o2, o3, o4, o5, of', ol'⟩ := hbox.cells
        simp only at o0 o1 o2 o3 o4 o5
        obtain ⟨z0, z1, z2, z3, z4, z5, zf, zl⟩ := hz.cells
        have Hvo := Lib.hid hvo; clear hvo hout hbox
        have Hz := Lib.hid hz; clear hz
        have Hbel := Lib.hid hbel; clear hbel
        clear hxb hx
        go_wp2_with fail
        obtain ⟨p0, p1, p2, p3, p4, p5, _, _⟩ := (Hz.out.put6 (.int .i64 vk) (.string vt) (.float .f64 vn) (.bool vy) (.slice vka vkn vkc) (.slice vca vcn vcc)).cells
        refine bodyPost_ret (v := .agg #[.int .i64 vk, .string vt, .float .f64 vn, .bool vy, .slice vka vkn vkc, .slice vca vcn vcc]) (by simp [results, Tryz.results49, go_sem, p0, p1, p2, p3, p4, p5]) rfl ?_
        exact ⟨⟨vk, vt, vn, vy, vka, vkn, vkc, vca, vcn, vcc⟩, rfl, (Hvo.out.put6 (fun h => by rcases h with h | h; exact HnS.out _ (by omega) h; exact h.2.1 rfl) _ _ _ _ _ _).mono (fun b _ hb => by rcases hb with h | h; exact .inl h; exact .inr h.1), Below.put6' Hbel.out (by omega) _ _ _ _ _ _⟩
end Go.Proofs.YtbcnhcpgloncdaaGreatDoor
