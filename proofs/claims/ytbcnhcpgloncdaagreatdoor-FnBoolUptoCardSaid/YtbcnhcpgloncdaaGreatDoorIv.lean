/- 'ReadBool': a bool query, as it is read. -/
import Derived.Test.YtbcnhcpgloncdaaGreatDoorIo
import Derived.Test.YtbcnhcpgloncdaaGreatDoorIt
namespace Go.Proofs.YtbcnhcpgloncdaaGreatDoor
open Go Go.RowKit Go.BigFrame

theorem box_new {w w5 : World} {X : Nat} {R : Tr} {kd : Int} {tx : ByteArray} {nm : Nat} {ys : Bool} {ka ca : Option Addr} {kn kc cn cc : Nat} (hz : Zero6 w5 (w.heap.size + 1)) (hb : Below w.heap.size w w5) (hs : w.heap.size + 2 ≤ w5.heap.size)
    (hV : RepT w5 (fun b => b < w.heap.size ∨ X ≤ b) ⟨kd, tx, nm, ys, ka, kn, kc, ca, cn, cc⟩ R) (hX : w.heap.size + 2 ≤ X) :
    ∃ B, Value.pointer (some ⟨w5.heap.size, 0, none⟩) = .pointer (some ⟨B, 0, none⟩) ∧ w.heap.size + 2 ≤ B ∧ TBox (w5.alloc (.cells #[.int .i64 kd, .string tx, .float .f64 nm, .bool ys, .slice ka kn kc, .slice ca cn cc] 31)) (fun b => b ≠ w.heap.size + 1 ∧ b ≠ B) B R ∧
      Zero6 (w5.alloc (.cells #[.int .i64 kd, .string tx, .float .f64 nm, .bool ys, .slice ka kn kc, .slice ca cn cc] 31)) (w.heap.size + 1) ∧ Below w.heap.size w (w5.alloc (.cells #[.int .i64 kd, .string tx, .float .f64 nm, .bool ys, .slice ka kn kc, .slice ca cn cc] 31)) :=
  ⟨w5.heap.size, rfl, hs, ⟨⟨kd, tx, nm, ys, ka, kn, kc, ca, cn, cc⟩, heap_alloc_new w5 _, (hV.mono (S' := fun b => b ≠ w.heap.size + 1 ∧ b ≠ w5.heap.size) (fun b hb h => by omega)).keep (Keeps.of_below _ ((Below.refl _ _).alloc (Nat.le_refl _) _))⟩, hz.alloc, hb.alloc hb.size _⟩
theorem box_old {w w5 : World} {X B0 : Nat} {R : Tr} {kd : Int} {tx : ByteArray} {nm : Nat} {ys : Bool} {ka ca : Option Addr} {kn kc cn cc : Nat} (hz : Zero6 w5 (w.heap.size + 1)) (hb : Below w.heap.size w w5) (hr : Zero6 w5 B0) (hs : w.heap.size + 2 ≤ B0)
    (hV : RepT w5 (fun b => b < w.heap.size ∨ X ≤ b) ⟨kd, tx, nm, ys, ka, kn, kc, ca, cn, cc⟩ R) (hX : B0 < X) (hs5 : w.heap.size + 2 ≤ w5.heap.size) :
    ∃ B, Value.pointer (some ⟨B0, 0, none⟩) = .pointer (some ⟨B, 0, none⟩) ∧ w.heap.size + 2 ≤ B ∧ TBox ((((((w5.setCell ⟨B0, 0, none⟩ (.int .i64 kd)).setCell ⟨B0, 1, none⟩ (.string tx)).setCell ⟨B0, 2, none⟩ (.float .f64 nm)).setCell ⟨B0, 3, none⟩ (.bool ys)).setCell ⟨B0, 4, none⟩ (.slice ka kn kc)).setCell ⟨B0, 5, none⟩ (.slice ca cn cc)) (fun b => b ≠ w.heap.size + 1 ∧ b ≠ B) B R ∧
      Zero6 ((((((w5.setCell ⟨B0, 0, none⟩ (.int .i64 kd)).setCell ⟨B0, 1, none⟩ (.string tx)).setCell ⟨B0, 2, none⟩ (.float .f64 nm)).setCell ⟨B0, 3, none⟩ (.bool ys)).setCell ⟨B0, 4, none⟩ (.slice ka kn kc)).setCell ⟨B0, 5, none⟩ (.slice ca cn cc)) (w.heap.size + 1) ∧
      Below w.heap.size w ((((((w5.setCell ⟨B0, 0, none⟩ (.int .i64 kd)).setCell ⟨B0, 1, none⟩ (.string tx)).setCell ⟨B0, 2, none⟩ (.float .f64 nm)).setCell ⟨B0, 3, none⟩ (.bool ys)).setCell ⟨B0, 4, none⟩ (.slice ka kn kc)).setCell ⟨B0, 5, none⟩ (.slice ca cn cc)) :=
  ⟨B0, rfl, hs, TBox.put (by simp) hr ⟨kd, tx, nm, ys, ka, kn, kc, ca, cn, cc⟩ R (hV.mono (fun b hb h => by omega)), hz.keep ((grownBy_put6 w5 B0 _ _ _ _ _ _).block _ (by omega) (by simp; omega)), Below.put6' hb (by omega) _ _ _ _ _ _⟩

set_option maxRecDepth 100000 in
set_option maxHeartbeats 8000000 in
theorem readBool_any (x : Tr) (v : TV) (w : World) (hv : RepT w (fun _ => True) v (mapT [n_bool] [x])) (hx5 : x.kind = 5) (hxl : x.keys.length = x.kids.length) (hxn : x.kids.length ≤ 1000000)
    (hm : ∀ t, lookE (besideE placesB (prs x)) n_minimum_should_match = some t → t.kind ≠ 2) :
    Calls Tryz.prog 18 #[v.val] w (TreeA w (mapT [n_bool] [mapE (besideE placesB (prs x))])) := by
  have Hrb := Lib.hid (fun wx pb (hb : Below w.heap.size w wx) (hls : StrsAt wx (fun _ => True) (some ⟨pb, 0, none⟩) placesB) => readBeside_any n_bool x placesB v (some ⟨pb, 0, none⟩) 4 (fun b => b < w.heap.size) wx (hv.lts.keep (Keeps.of_below _ hb)) (fun b hb' => Nat.lt_of_lt_of_le hb' hb.size) hx5 hxl hxn hls (by decide))
  have Hm := Lib.hid hm; clear hm
  obtain ⟨kd, tx, nm, ys, ka, kn, kc, ca, cn, cc⟩ := v
  clear hv hx5 hxl hxn
  go_enter Tryz.func18, Tryz.ntmps18
  go_wp2_with fail
  have hb0 : Below w.heap.size w ((w.alloc (.cells #[.int .i64 kd, .string tx, .float .f64 nm, .bool ys, .slice ka kn kc, .slice ca cn cc] 31)).alloc (.cells #[.int .i64 0, .string ⟨#[]⟩, .float .f64 0, .bool false, .slice none 0 0, .slice none 0 0] 31)) := ((Below.refl _ _).alloc (Nat.le_refl _) _).alloc (by simp) _
  have hz0 : Zero6 ((w.alloc (.cells #[.int .i64 kd, .string tx, .float .f64 nm, .bool ys, .slice ka kn kc, .slice ca cn cc] 31)).alloc (.cells #[.int .i64 0, .string ⟨#[]⟩, .float .f64 0, .bool false, .slice none 0 0, .slice none 0 0] 31)) (w.heap.size + 1) := by
    have := heap_alloc_new (w.alloc (.cells #[.int .i64 kd, .string tx, .float .f64 nm, .bool ys, .slice ka kn kc, .slice ca cn cc] 31)) (.cells #[.int .i64 0, .string ⟨#[]⟩, .float .f64 0, .bool false, .slice none 0 0, .slice none 0 0] 31)
    rw [World.size_alloc] at this
    exact this
  have hbx0 : Box6 ((w.alloc (.cells #[.int .i64 kd, .string tx, .float .f64 nm, .bool ys, .slice ka kn kc, .slice ca cn cc] 31)).alloc (.cells #[.int .i64 0, .string ⟨#[]⟩, .float .f64 0, .bool false, .slice none 0 0, .slice none 0 0] 31)) w.heap.size (.int .i64 kd) (.string tx) (.float .f64 nm) (.bool ys) (.slice ka kn kc) (.slice ca cn cc) := Box6.alloc (heap_alloc_new w _)
  obtain ⟨R, hR⟩ : ∃ R, R = mapT [n_bool] [mapE (besideE placesB (prs x))] := ⟨_, rfl⟩
  simp only [← hR] at Hrb ⊢
  have HR := Lib.hid hR; clear hR
  have hs0 : ((w.alloc (.cells #[.int .i64 kd, .string tx, .float .f64 nm, .bool ys, .slice ka kn kc, .slice ca cn cc] 31)).alloc (.cells #[.int .i64 0, .string ⟨#[]⟩, .float .f64 0, .bool false, .slice none 0 0, .slice none 0 0] 31)).heap.size = w.heap.size + 2 := by simp
  generalize (w.alloc (.cells #[.int .i64 kd, .string tx, .float .f64 nm, .bool ys, .slice ka kn kc, .slice ca cn cc] 31)).alloc (.cells #[.int .i64 0, .string ⟨#[]⟩, .float .f64 0, .bool false, .slice none 0 0, .slice none 0 0] 31) = w0 at *
  have Hs0 := Lib.hid hs0; clear hs0
  obtain ⟨x0, x1, x2, x3, x4, x5, xf, xl⟩ := hbx0.cells
  have Hbx0 := Lib.hid hbx0; clear hbx0
  have Hz0 := Lib.hid hz0; clear hz0
  have Hb0 := Lib.hid hb0; clear hb0
  go_cut [3] from 8 to 10 (fun p wx => ∃ B, p = .pointer (some ⟨B, 0, none⟩) ∧ w.heap.size + 2 ≤ B ∧ TBox wx (fun b => b ≠ w.heap.size + 1 ∧ b ≠ B) B R ∧ Zero6 wx (w.heap.size + 1) ∧ Below w.heap.size w wx)
  case first =>
    go_region_law (first
      | (go_simp; go_at_call 92; refine (places_any _).mono ?_; rintro e w4 ⟨pb, rfl, hpl, hpb, hb4⟩; have hb04 := later_alloc_drew hb4; have hq := zero_after' hb4; have hst := strs_of_heap hpl; obtain ⟨v0, v1, v2, v3, v4, v5, vf, vl⟩ := (Hbx0.out.below hb04).cells)
      | (go_simp; go_at_call 92; refine (places_any _).mono ?_; rintro e w4 ⟨pb, rfl, hpl, hpb, hb4⟩; have hb04 := later_alloc hb4; have hq := zero_after hb4; have hst := strs_of_heap hpl; obtain ⟨v0, v1, v2, v3, v4, v5, vf, vl⟩ := (Hbx0.out.below hb04).cells)
      | (go_simp; go_at_call 92; refine (places_any _).mono ?_; rintro e w4 ⟨pb, rfl, hpl, hpb, hb4⟩; have hb04 := later_drew hb4; have hst := strs_of_heap hpl; obtain ⟨v0, v1, v2, v3, v4, v5, vf, vl⟩ := (Hbx0.out.below hb04).cells)
      | (go_simp; go_at_call 92; refine (places_any _).mono ?_; rintro e w4 ⟨pb, rfl, hpl, hpb, hb4⟩; have hb04 := later_same hb4; have hst := strs_of_heap hpl; obtain ⟨v0, v1, v2, v3, v4, v5, vf, vl⟩ := (Hbx0.out.below hb04).cells)
      | (go_simp; go_at_call 40; refine (Hrb.out _ pb (Below.alloc (via Hb0.out hb04) (via Hb0.out hb04).size _) (StrsAt.keep hst (Keeps.of_below _ ((Below.refl _ _).alloc (Nat.le_refl _) _)))).mono ?_; rintro e w5 ⟨⟨kd5, tx5, nm5, ys5, ka5, kn5, kc5, ca5, cn5, cc5⟩, rfl, hV, hb5⟩; have hr5 := zero_after hb5; have hb45 := later_alloc hb5; obtain ⟨y0, y1, y2, y3, y4, y5, yf, yl⟩ := hr5.cells)
      | (go_simp; go_at_call 40; refine (Hrb.out _ pb (via Hb0.out hb04) hst).mono ?_; rintro e w5 ⟨⟨kd5, tx5, nm5, ys5, ka5, kn5, kc5, ca5, cn5, cc5⟩, rfl, hV, hb5⟩; have hb45 := hb5; have hr5 := hq.below hb5; obtain ⟨y0, y1, y2, y3, y4, y5, yf, yl⟩ := hr5.cells)
      | (go_simp; go_at_call 40; refine (Hrb.out _ pb (via Hb0.out hb04) hst).mono ?_; rintro e w5 ⟨⟨kd5, tx5, nm5, ys5, ka5, kn5, kc5, ca5, cn5, cc5⟩, rfl, hV, hb5⟩; have hb45 := hb5))
    all_goals (
      have hz5 := (Hz0.out.below hb04).below hb45
      have hbel5 := via (via Hb0.out hb04) hb45
      have hs04 := hb04.size
      have hs4 := hb4.size
      try simp at hs4
      have hs45 := hb45.size
      have hs0 := Hs0.out
      simp only [World.size_alloc] at hV
      go_wp2_with fail
      go_meet
      case rel => first
        | (with_reducible refine box_new hz5 hbel5 ?_ hV ?_) <;> omega
        | (with_reducible refine box_old hz5 hbel5 hr5 ?_ hV ?_ ?_) <;> omega)
  case rest =>
  obtain ⟨B, rfl, hB, htb, hz, hbel⟩ := hcut
  obtain ⟨X', hX'⟩ : ∃ X', X' = mapE (besideE placesB (prs x)) := ⟨_, rfl⟩
  have hR5 : R.kind = 5 := by rw [HR.out]; rfl
  have hRl : R.keys.length = R.kids.length := by rw [HR.out]; rfl
  have hRx : lookE (prs R) n_bool = some X' := by rw [HR.out, hX']; simp [prs, mapT, Tr.keys, Tr.kids, lookE]
  have hX5 : X'.kind = 5 := by rw [hX']; rfl
  have hXl : X'.keys.length = X'.kids.length := by rw [hX', mapE_keys, mapE_kids, List.length_map, List.length_map]
  have hXm : ∀ t, lookE (prs X') n_minimum_should_match = some t → t.kind ≠ 2 := by rw [hX', prs_mapE]; exact Hm.out
  clear hX' Hrb x0 x1 x2 x3 x4 x5 xf xl Hbx0 Hz0 Hb0 Hs0
  have HXm := Lib.hid hXm; clear hXm
  have HX := Lib.hid (And.intro hX5 hXl); clear hX5 hXl
  obtain ⟨⟨vk, vt, vn, vy, vka, vkn, vkc, vca, vcn, vcc⟩, hbox, hv⟩ := htb.box
  obtain ⟨b0, b1, b2, b3, b4, b5, bf, bl⟩ := hbox.cells
  have h1 := at_any R _ n_bool _ wc hv hR5 hRl
  rw [hRx] at h1
  have H1 := Lib.hid h1; clear h1 hRx hR5 hRl
  have Hbox := Lib.hid hbox; clear hbox
  have Hv := Lib.hid hv; clear hv htb
  have Hz := Lib.hid hz; clear hz
  have Hbel := Lib.hid hbel; clear hbel
  go_upto_region 3 with (go_at_call 41; refine H1.out.mono ?_; rintro e w2 ⟨⟨xk, xt, xn, xy, xka, xkn, xkc, xca, xcn, xcc⟩, rfl, hx, hb2⟩)
  have hx3 := hx.keep (Keeps.of_below _ ((Below.refl _ _).alloc (Nat.le_refl _) (.cells #[.int .i64 xk, .string xt, .float .f64 xn, .bool xy, .slice xka xkn xkc, .slice xca xcn xcc] 31)))
  have h2 := at_any _ _ n_minimum_should_match _ _ hx3 HX.out.1 HX.out.2
  have hr : ∀ r, r = lookE (prs X') n_minimum_should_match → (r.getD Tr.zero).kind ≠ 2 := by
    intro r hr
    cases e : r with
    | none => simp [Tr.zero, Tr.kind]
    | some t => exact HXm.out t (by rw [← hr, e])
  have hr := hr _ rfl
  simp only [Option.getD_some] at h2
  generalize lookE (prs X') n_minimum_should_match = r at h2 hr
  have H2 := Lib.hid h2; clear h2 hx3 hx
  have hb3 : Below wc.heap.size wc (w2.alloc (.cells #[.int .i64 xk, .string xt, .float .f64 xn, .bool xy, .slice xka xkn xkc, .slice xca xcn xcc] 31)) := hb2.alloc hb2.size _
  have Hb3 := Lib.hid hb3; clear hb3
  have hsz2 := hb2.size
  clear hb2
  go_upto_region 4 with (go_at_call 41; refine H2.out.mono ?_; rintro e w4 ⟨⟨lk, lt, ln, ly, lka, lkn, lkc, lca, lcn, lcc⟩, rfl, hl, hb4⟩)
  obtain ⟨l1, _⟩ := hl.eqs
  simp only at l1
  rw [← l1] at hr
  have hk2 : (lk == 2) = false := by rw [beq_eq_false_iff_ne]; exact hr
  have hb5 : Below wc.heap.size wc (w4.alloc (.cells #[.int .i64 lk, .string lt, .float .f64 ln, .bool ly, .slice lka lkn lkc, .slice lca lcn lcc] 31)) := (Hb3.out.trans (hb4.mono (by simp; omega))).alloc (by have := hb4.size; simp at this; omega) _
  have hbox5 := Hbox.out.below hb5
  have hz5 := Hz.out.below hb5
  have hv5 := Hv.out.keep (Keeps.of_below _ hb5)
  obtain ⟨d0, d1, d2, d3, d4, d5, df, dl⟩ := hbox5.cells
  obtain ⟨z0, z1, z2, z3, z4, z5, zf, zl⟩ := hz5.cells
  have e0 : (w4.alloc (.cells #[.int .i64 lk, .string lt, .float .f64 ln, .bool ly, .slice lka lkn lkc, .slice lca lcn lcc] 31)).cell? ⟨w4.heap.size, 0, none⟩ = some (.int .i64 lk) := by simp
  have Hbel5 := Lib.hid (via Hbel.out hb5); clear hb5
  have Hz5 := Lib.hid hz5; clear hz5
  have Hv5 := Lib.hid hv5; clear hv5
  clear b0 b1 b2 b3 b4 b5 bf bl hbox5 hl l1 hr hb4
  generalize w4.alloc (.cells #[.int .i64 lk, .string lt, .float .f64 ln, .bool ly, .slice lka lkn lkc, .slice lca lcn lcc] 31) = w5 at *
  cases r.isSome
  all_goals (
    go_wp2_with fail
    obtain ⟨p0, p1, p2, p3, p4, p5, _, _⟩ := (Hz5.out.put6 (.int .i64 vk) (.string vt) (.float .f64 vn) (.bool vy) (.slice vka vkn vkc) (.slice vca vcn vcc)).cells
    refine bodyPost_ret (v := .agg #[.int .i64 vk, .string vt, .float .f64 vn, .bool vy, .slice vka vkn vkc, .slice vca vcn vcc]) (by simp [results, Tryz.results18, go_sem, p0, p1, p2, p3, p4, p5]) rfl ?_
    exact ⟨⟨vk, vt, vn, vy, vka, vkn, vkc, vca, vcn, vcc⟩, rfl, by rw [← HR.out]; exact (Hv5.out.put6 (fun h => h.1 rfl) _ _ _ _ _ _).all, Below.put6' Hbel5.out (by omega) _ _ _ _ _ _⟩)
end Go.Proofs.YtbcnhcpgloncdaaGreatDoor
