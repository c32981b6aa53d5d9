/- 'folded' of a map of leaves: its modifier has small letters. -/
import Derived.Test.YtbcnhcpgloncdaaGreatDoorQJn
namespace Go.Proofs.YtbcnhcpgloncdaaGreatDoor
open Go Go.RowKit Go.BigFrame Go.Maps

/-- What becomes of an entry. -/
def foldKid (k : ByteArray) (t : Tr) : Tr := if ((Lib.hasSuffix k.data.toList [111, 112, 101, 114, 97, 116, 111, 114] || decide (k = n_modifier)) && decide (t.kind = 1)) = true then textT (lowerB t.text) else t
def foldE (es : List (ByteArray × Tr)) : List (ByteArray × Tr) := es.map (fun p => (p.1, foldKid p.1 p.2))
theorem foldE_keys (es : List (ByteArray × Tr)) : (foldE es).map (·.1) = es.map (·.1) := by simp [foldE]
theorem asc_foldE {es : List (ByteArray × Tr)} (h : Asc es) : Asc (foldE es) := by
  unfold Asc foldE at *
  rw [List.pairwise_map]
  exact h
theorem foldE_snoc (es : List (ByteArray × Tr)) (p : ByteArray × Tr) : foldE (es ++ [p]) = foldE es ++ [(p.1, foldKid p.1 p.2)] := by simp [foldE]

set_option maxRecDepth 100000 in
theorem lower_any (s : ByteArray) (w : World) (hs : s.size ≤ 16777216) (ht : UTabs w) : Calls Tryz.prog 166 #[.string s] w fun e w' => e = .returned (.string (lowerB s)) ∧ Below w.heap.size w w' := by
  have Ht := Lib.hid ht; clear ht
  go_enter Tryz.func166, Tryz.ntmps166
  go_wp2_with (go_at_call 172; refine (Tryz.strings_ToLower_any s _ (by omega) Ht.out.1 Ht.out.2).mono ?_; rintro e w1 ⟨rfl, hb⟩)
  go_ret
  exact ⟨by simp [lowerB], hb⟩

set_option maxRecDepth 100000 in
set_option maxHeartbeats 8000000 in
theorem folded_leaf (t : Tr) (v : TV) (S : Nat → Prop) (w : World) (hv : RepT w S v t) (hS : ∀ b, S b → b < w.heap.size) (h5 : t.kind ≠ 5) : Calls Tryz.prog 112 #[v.val] w (TreeS w S t) := by
  have e1 := hv.eqs.1
  rw [← e1] at h5
  obtain ⟨kd, tx, nm, ys, ka, kn, kc, ca, cn, cc⟩ := v
  simp only at h5
  have hne : (kd != 5) = true := by rw [bne_iff_ne]; exact h5
  have Hv := Lib.hid hv; clear hv e1 h5
  have HnS : Hid (¬ S (w.heap.size + 1)) := Lib.hid (fun h => by have := hS _ h; omega)
  clear hS
  go_enter Tryz.func112, Tryz.ntmps112
  go_upto_region 1 with fail
  have hb0 : Below w.heap.size w ((w.alloc (.cells #[.int .i64 kd, .string tx, .float .f64 nm, .bool ys, .slice ka kn kc, .slice ca cn cc] 31)).alloc (.cells #[.int .i64 0, .string ⟨#[]⟩, .float .f64 0, .bool false, .slice none 0 0, .slice none 0 0] 31)) := ((Below.refl _ _).alloc (Nat.le_refl _) _).alloc (by simp) _
  have hz0 : Zero6 ((w.alloc (.cells #[.int .i64 kd, .string tx, .float .f64 nm, .bool ys, .slice ka kn kc, .slice ca cn cc] 31)).alloc (.cells #[.int .i64 0, .string ⟨#[]⟩, .float .f64 0, .bool false, .slice none 0 0, .slice none 0 0] 31)) (w.heap.size + 1) := by
    have := heap_alloc_new (w.alloc (.cells #[.int .i64 kd, .string tx, .float .f64 nm, .bool ys, .slice ka kn kc, .slice ca cn cc] 31)) (.cells #[.int .i64 0, .string ⟨#[]⟩, .float .f64 0, .bool false, .slice none 0 0, .slice none 0 0] 31)
    rw [World.size_alloc] at this
    exact this
  have hx0 : Box6 ((w.alloc (.cells #[.int .i64 kd, .string tx, .float .f64 nm, .bool ys, .slice ka kn kc, .slice ca cn cc] 31)).alloc (.cells #[.int .i64 0, .string ⟨#[]⟩, .float .f64 0, .bool false, .slice none 0 0, .slice none 0 0] 31)) w.heap.size (.int .i64 kd) (.string tx) (.float .f64 nm) (.bool ys) (.slice ka kn kc) (.slice ca cn cc) := Box6.alloc (heap_alloc_new w _)
  have hv0 := Hv.out.keep (Keeps.of_below _ hb0)
  generalize (w.alloc (.cells #[.int .i64 kd, .string tx, .float .f64 nm, .bool ys, .slice ka kn kc, .slice ca cn cc] 31)).alloc (.cells #[.int .i64 0, .string ⟨#[]⟩, .float .f64 0, .bool false, .slice none 0 0, .slice none 0 0] 31) = w0 at *
  obtain ⟨x0, x1, x2, x3, x4, x5, xf, xl⟩ := hx0.cells
  obtain ⟨z0, z1, z2, z3, z4, z5, zf, zl⟩ := hz0.cells
  have Hz0 := Lib.hid hz0; clear hz0
  have Hv0 := Lib.hid hv0; clear hv0 Hv hx0
  have Hb0 := Lib.hid hb0; clear hb0
  go_wp2_with fail
  obtain ⟨p0, p1, p2, p3, p4, p5, _, _⟩ := (Hz0.out.put6 (.int .i64 kd) (.string tx) (.float .f64 nm) (.bool ys) (.slice ka kn kc) (.slice ca cn cc)).cells
  refine bodyPost_ret (v := .agg #[.int .i64 kd, .string tx, .float .f64 nm, .bool ys, .slice ka kn kc, .slice ca cn cc]) (by simp [results, Tryz.results112, go_sem, p0, p1, p2, p3, p4, p5]) rfl ?_
  exact ⟨⟨kd, tx, nm, ys, ka, kn, kc, ca, cn, cc⟩, rfl, (Hv0.out.put6 HnS.out _ _ _ _ _ _).mono (fun b _ hb => .inl hb), Below.put6' Hb0.out (by omega) _ _ _ _ _ _⟩

set_option maxRecDepth 100000 in
set_option maxHeartbeats 8000000 in
theorem folded_any (es : List (ByteArray × Tr)) (ha : Asc es) (hl : es.length ≤ 100000000) (h5 : ∀ p ∈ es, p.2.kind ≠ 5) (hks : ∀ p ∈ es, p.1.size ≤ 9223372036854775807) (hts : ∀ p ∈ es, p.2.text.size ≤ 16777216) (v : TV) (S : Nat → Prop) (w : World) (hv : RepT w S v (mapE es)) (hS : ∀ b, S b → b < w.heap.size) (htab : ∀ wx, Below w.heap.size w wx → UTabs wx) :
    Calls Tryz.prog 112 #[v.val] w (TreeS w S (mapE (foldE es))) := by
  obtain ⟨e1, e2, e3, e4, e5, e6⟩ := hv.eqs
  clear e2 e3 e4
  obtain ⟨kd, tx, nm, ys, ka, kn, kc, ca, cn, cc⟩ := v
  simp only at e1 e5 e6
  rw [mapE_keys, List.length_map] at e5
  rw [mapE_kids, List.length_map] at e6
  have e1' : kd = 5 := e1
  subst e1' e5 e6
  clear e1
  have Hv := Lib.hid hv; clear hv
  have hnS : ∀ b, w.heap.size ≤ b → ¬ S b := fun b hb h => by have := hS b h; omega
  have HnS := Lib.hid hnS; clear hnS
  have HS := Lib.hid hS; clear hS
  have Ha := Lib.hid ha; clear ha
  have H5 := Lib.hid h5; clear h5
  have Hks := Lib.hid hks; clear hks
  have Hts := Lib.hid hts; clear hts
  have Htab := Lib.hid htab; clear htab
  go_enter Tryz.func112, Tryz.ntmps112
  go_upto_region 3 with fail
  have hb0 : Below w.heap.size w ((w.alloc (.cells #[.int .i64 5, .string tx, .float .f64 nm, .bool ys, .slice ka es.length kc, .slice ca es.length cc] 31)).alloc (.cells #[.int .i64 0, .string ⟨#[]⟩, .float .f64 0, .bool false, .slice none 0 0, .slice none 0 0] 31)) := ((Below.refl _ _).alloc (Nat.le_refl _) _).alloc (by simp) _
  have hz0 : Zero6 ((w.alloc (.cells #[.int .i64 5, .string tx, .float .f64 nm, .bool ys, .slice ka es.length kc, .slice ca es.length cc] 31)).alloc (.cells #[.int .i64 0, .string ⟨#[]⟩, .float .f64 0, .bool false, .slice none 0 0, .slice none 0 0] 31)) (w.heap.size + 1) := by
    have := heap_alloc_new (w.alloc (.cells #[.int .i64 5, .string tx, .float .f64 nm, .bool ys, .slice ka es.length kc, .slice ca es.length cc] 31)) (.cells #[.int .i64 0, .string ⟨#[]⟩, .float .f64 0, .bool false, .slice none 0 0, .slice none 0 0] 31)
    rw [World.size_alloc] at this
    exact this
  have hx0 : Box6 ((w.alloc (.cells #[.int .i64 5, .string tx, .float .f64 nm, .bool ys, .slice ka es.length kc, .slice ca es.length cc] 31)).alloc (.cells #[.int .i64 0, .string ⟨#[]⟩, .float .f64 0, .bool false, .slice none 0 0, .slice none 0 0] 31)) w.heap.size (.int .i64 5) (.string tx) (.float .f64 nm) (.bool ys) (.slice ka es.length kc) (.slice ca es.length cc) := Box6.alloc (heap_alloc_new w _)
  have hv0 := Hv.out.keep (Keeps.of_below _ hb0)
  have hs0 : ((w.alloc (.cells #[.int .i64 5, .string tx, .float .f64 nm, .bool ys, .slice ka es.length kc, .slice ca es.length cc] 31)).alloc (.cells #[.int .i64 0, .string ⟨#[]⟩, .float .f64 0, .bool false, .slice none 0 0, .slice none 0 0] 31)).heap.size = w.heap.size + 2 := by simp
  generalize (w.alloc (.cells #[.int .i64 5, .string tx, .float .f64 nm, .bool ys, .slice ka es.length kc, .slice ca es.length cc] 31)).alloc (.cells #[.int .i64 0, .string ⟨#[]⟩, .float .f64 0, .bool false, .slice none 0 0, .slice none 0 0] 31) = w0 at *
  have Hz0 := Lib.hid hz0; clear hz0
  have Hx0 := Lib.hid hx0; clear hx0
  have Hv0 := Lib.hid hv0; clear hv0 Hv
  have Hb0 := Lib.hid hb0; clear hb0
  go_upto_region 5 with (go_at_call 42; refine (map_made [] (fun _ => False) none 0 _ ⟨fun _ => default, SliceAt.nil, fun i s h => by simp at h⟩ (fun _ h => h.elim) (by simp)).mono ?_; rintro e w3 ⟨⟨ok, ot, on, oy, oka, okn, okc, oca, ocn, occ⟩, rfl, ho, hb3⟩)
  have hs3 := hb3.size
  rw [hs0] at hs3
  have hba : Below w3.heap.size w3 (w3.alloc (.cells #[.int .i64 ok, .string ot, .float .f64 on, .bool oy, .slice oka okn okc, .slice oca ocn occ] 31)) := (Below.refl _ _).alloc (Nat.le_refl _) _
  have Hz4 := Lib.hid ((Hz0.out.below hb3).below hba)
  have Hx4 := Lib.hid ((Hx0.out.below hb3).below hba)
  have Hv4 := Lib.hid ((Hv0.out.keep (Keeps.of_below _ hb3)).keep (Keeps.of_below _ hba))
  have Hb4 := Lib.hid (via (via Hb0.out hb3) hba)
  have hob4 : TBox (w3.alloc (.cells #[.int .i64 ok, .string ot, .float .f64 on, .bool oy, .slice oka okn okc, .slice oca ocn occ] 31)) (fun b => S b ∨ (w.heap.size ≤ b ∧ b ≠ w.heap.size + 1 ∧ b ≠ w3.heap.size)) w3.heap.size (mapE []) :=
    ⟨⟨ok, ot, on, oy, oka, okn, okc, oca, ocn, occ⟩, heap_alloc_new w3 _, (ho.mono (S' := fun b => S b ∨ (w.heap.size ≤ b ∧ b ≠ w.heap.size + 1 ∧ b ≠ w3.heap.size)) (fun b hb hS => by rcases hS with h | h; exact h.elim; exact .inr (by omega))).keep (Keeps.of_below _ hba)⟩
  have Hob4 := Lib.hid hob4; clear hob4 hba hb3 ho Hz0 Hx0 Hv0 Hb0
  go_loopw [4] (fun i wr => ∃ k : Nat, k ≤ es.length ∧ i = .int .i64 k ∧ Box6 wr w.heap.size (.int .i64 5) (.string tx) (.float .f64 nm) (.bool ys) (.slice ka es.length kc) (.slice ca es.length cc) ∧
    RepT wr S ⟨5, tx, nm, ys, ka, es.length, kc, ca, es.length, cc⟩ (mapE es) ∧ TBox wr (fun b => S b ∨ (w.heap.size ≤ b ∧ b ≠ w.heap.size + 1 ∧ b ≠ w3.heap.size)) w3.heap.size (mapE (foldE (es.take k))) ∧ Zero6 wr (w.heap.size + 1) ∧ Below w.heap.size w wr) (fun i _ => es.length - (intOf i).toNat)
  case atStart => exact ⟨0, Nat.zero_le _, rfl, Hx4.out, Hv4.out, by rw [List.take_zero]; exact Hob4.out, Hz4.out, Hb4.out⟩
  case round =>
    clear Hx4 Hv4 Hob4 Hz4 Hb4
    obtain ⟨k, hk, rfl, hxb, hx, hout, hz, hbel⟩ := hrel
    obtain ⟨x0, x1, x2, x3, x4, x5, xf, xl⟩ := hxb.cells
    clear x0 x1 x2 x3
    by_cases hlt : k < es.length
    · obtain ⟨bk, ok', hka, hSk, hlbk, ck⟩ := hx.key (k := k) (by rw [mapE_keys, List.length_map]; exact hlt)
      obtain ⟨bc, oc, v', hca, hSc, hlbc, ⟨d0, d1, d2, d3, d4, d5⟩, hrv⟩ := hx.kid (k := k) (by rw [mapE_kids, List.length_map]; exact hlt)
      simp only at hka hca
      subst hka
      subst hca
      have ek : (mapE es).keys[k]'(by rw [mapE_keys, List.length_map]; exact hlt) = es[k].1 := by simp [mapE_keys]
      have ed : (mapE es).kids[k]'(by rw [mapE_kids, List.length_map]; exact hlt) = es[k].2 := by simp [mapE_kids]
      rw [ek] at ck
      rw [ed] at hrv
      have Htake : Hid (es.take (k + 1) = es.take k ++ [es[k]]) := Lib.hid (List.take_succ_eq_append_getElem hlt)
      have hasc := asc_take Ha.out (k + 1)
      rw [Htake.out] at hasc
      have hwl := with_last (es := foldE (es.take k)) (p := (es[k].1, foldKid es[k].1 es[k].2)) (by have := asc_foldE hasc; rw [foldE_snoc] at this; exact this)
      have h5k := H5.out es[k] (List.getElem_mem hlt)
      have hksk := Hks.out es[k] (List.getElem_mem hlt)
      have htsk := Hts.out es[k] (List.getElem_mem hlt)
      have hlen : (es.take k).length ≤ 100000000 := by rw [List.length_take]; omega
      generalize es[k] = p at *
      obtain ⟨kk, kt⟩ := p
      simp only at ck hrv hwl h5k hksk htsk
      have q1 := hrv.eqs.1
      have q2 := hrv.eqs.2.1
      obtain ⟨kd3, tx3, nm3, ys3, ka3, kn3, kc3, ca3, cn3, cc3⟩ := v'
      simp only at d0 d1 d2 d3 d4 d5 q1 q2
      clear ek ed hSk hSc hasc
      have Hwl := Lib.hid hwl; clear hwl
      have Hlen := Lib.hid hlen; clear hlen
      have hol := hout.lt
      have hzl : w.heap.size + 1 < wr.heap.size := (Array.getElem?_eq_some_iff.1 hz).1
      have hsz := hbel.size
      have hfl := folded_leaf kt ⟨kd3, tx3, nm3, ys3, ka3, kn3, kc3, ca3, cn3, cc3⟩ S wr hrv (fun b hb => by have := HS.out b hb; omega) h5k
      have Hfl := Lib.hid hfl; clear hfl hrv h5k q1 q2
      have Hxb := Lib.hid hxb; clear hxb
      have Hx := Lib.hid hx; clear hx
      have Hout := Lib.hid hout; clear hout
      have Hz := Lib.hid hz; clear hz
      have Hbel := Lib.hid hbel; clear hbel
      have hi1 : (0 : Int) ≤ (k : Int) := by omega
      have hi2 : (k : Int) < (es.length : Int) := by omega
      go_upto_region 8 with (go_at_call 112; refine Hfl.out.mono ?_; rintro e w4 ⟨⟨kd4, tx4, nm4, ys4, ka4, kn4, kc4, ca4, cn4, cc4⟩, rfl, hr4, hb4⟩)
      have hal : Below w4.heap.size w4 (w4.alloc (.cells #[.int .i64 kd4, .string tx4, .float .f64 nm4, .bool ys4, .slice ka4 kn4 kc4, .slice ca4 cn4 cc4] 31)) := (Below.refl _ _).alloc (Nat.le_refl _) _
      have hkb : Box6 (w4.alloc (.cells #[.int .i64 kd4, .string tx4, .float .f64 nm4, .bool ys4, .slice ka4 kn4 kc4, .slice ca4 cn4 cc4] 31)) w4.heap.size (.int .i64 kd4) (.string tx4) (.float .f64 nm4) (.bool ys4) (.slice ka4 kn4 kc4) (.slice ca4 cn4 cc4) := heap_alloc_new w4 _
      have hb5 := via hb4 hal
      have hr5 := (hr4.mono (S' := fun b => S b ∨ (wr.heap.size ≤ b ∧ b ≠ w4.heap.size)) (fun b hb h => by rcases h with h | h; exact .inl h; exact .inr (by omega))).keep (Keeps.of_below _ hal)
      have hsz4 := hb4.size
      generalize w4.alloc (.cells #[.int .i64 kd4, .string tx4, .float .f64 nm4, .bool ys4, .slice ka4 kn4 kc4, .slice ca4 cn4 cc4] 31) = w5 at *
      have q1 := hr5.eqs.1
      have q2 := hr5.eqs.2.1
      simp only at q1 q2
      obtain ⟨y0, y1, y2, y3, y4, y5, yf, yl⟩ := hkb.cells
      have ck0 := ck
      have ck5 := (hb5.cell (p := ⟨bk, ok' + k, none⟩) hlbk).trans ck
      have hxb5 := Hxb.out.below hb5
      obtain ⟨m0, m1, m2, m3, m4, m5, mf, ml⟩ := hxb5.cells
      obtain ⟨sf, hsf⟩ : ∃ b, b = Lib.hasSuffix kk.data.toList [111, 112, 101, 114, 97, 116, 111, 114] := ⟨_, rfl⟩
      have hSuf : ∀ wx, Calls Tryz.prog 165 #[.string kk, .string ⟨#[111, 112, 101, 114, 97, 116, 111, 114]⟩] wx fun e w' => e = .returned (.bool sf) ∧ w' = wx := fun wx => by
        rw [hsf]; exact Tryz.strings_HasSuffix kk ⟨#[111, 112, 101, 114, 97, 116, 111, 114]⟩ wx hksk
      have HSuf := Lib.hid hSuf; clear hSuf
      have Hsf := Lib.hid hsf; clear hsf
      have Hr5 := Lib.hid hr5; clear hr5 hr4
      have Hkb := Lib.hid hkb; clear hkb hxb5
      have Hb5 := Lib.hid hb5; clear hb5 hb4 hal
      have Q1 := Lib.hid q1; clear q1
      have Q2 := Lib.hid q2; clear q2
      clear x4 x5 xf xl d0 d1 d2 d3 d4 d5 ck m0 m1 m2 m3
      obtain ⟨cd, hcd⟩ : ∃ b, b = ((sf || decide (kk = n_modifier)) && decide (kd4 = 1)) := ⟨_, rfl⟩
      have Hcd := Lib.hid hcd; clear hcd
      go_cut [42] from 24 to 42 (fun c wx => c = .bool cd ∧ w5 = wx)
      case first =>
        by_cases hm : kk = n_modifier
        · have hl' := lit_eq [109, 111, 100, 105, 102, 105, 101, 114] (show kk = ⟨[109, 111, 100, 105, 102, 105, 101, 114].toArray⟩ from hm)
          have Hm := Lib.hid hm; clear hm
          by_cases h1 : kd4 = 1
          · have h1' : (kd4 == 1) = true := by rw [h1]; rfl
            have H1 := Lib.hid h1; clear h1
            cases sf
            all_goals (
              go_wp2_with (go_at_call 165; refine (HSuf.out _).mono ?_; rintro e w' ⟨rfl, rfl⟩)
              go_meet
              case rel => exact ⟨by rw [Hcd.out]; simp [Hm.out, H1.out], rfl⟩)
          · have h1' : (kd4 == 1) = false := by rw [beq_eq_false_iff_ne]; exact h1
            have H1 := Lib.hid h1; clear h1
            cases sf
            all_goals (
              go_wp2_with (go_at_call 165; refine (HSuf.out _).mono ?_; rintro e w' ⟨rfl, rfl⟩)
              go_meet
              case rel => exact ⟨by rw [Hcd.out]; simp [Hm.out, H1.out], rfl⟩)
        · have hl' := lit_ne [109, 111, 100, 105, 102, 105, 101, 114] (show kk ≠ ⟨[109, 111, 100, 105, 102, 105, 101, 114].toArray⟩ from hm)
          have Hm := Lib.hid hm; clear hm
          by_cases h1 : kd4 = 1
          · have h1' : (kd4 == 1) = true := by rw [h1]; rfl
            have H1 := Lib.hid h1; clear h1
            cases sf
            all_goals (
              go_wp2_with (go_at_call 165; refine (HSuf.out _).mono ?_; rintro e w' ⟨rfl, rfl⟩)
              go_meet
              case rel => exact ⟨by rw [Hcd.out]; simp [Hm.out, H1.out], rfl⟩)
          · have h1' : (kd4 == 1) = false := by rw [beq_eq_false_iff_ne]; exact h1
            have H1 := Lib.hid h1; clear h1
            cases sf
            all_goals (
              go_wp2_with (go_at_call 165; refine (HSuf.out _).mono ?_; rintro e w' ⟨rfl, rfl⟩)
              go_meet
              case rel => exact ⟨by rw [Hcd.out]; simp [Hm.out, H1.out], rfl⟩)
      case rest =>
      obtain ⟨rfl, rfl⟩ := hcut
      have hfk : foldKid kk kt = if cd then textT (lowerB tx4) else kt := by
        unfold foldKid
        rw [Hcd.out, Q1.out, Q2.out, Hsf.out]
      have Hfk := Lib.hid hfk; clear hfk
      go_upto_if 42 with fail
      go_cut [] from 43 to 46 (fun wm => ∃ v : TV, Box6 wm w4.heap.size (.int .i64 v.kind) (.string v.text) (.float .f64 v.num) (.bool v.yes) (.slice v.ka v.kn v.kc) (.slice v.ca v.cn v.cc) ∧ RepT wm (fun b => S b ∨ (wr.heap.size ≤ b ∧ b ≠ w4.heap.size)) v (foldKid kk kt) ∧ Below wr.heap.size wr wm)
      case first =>
        cases cd with
        | false =>
          go_wp2_with fail
          go_meet
          case rel => exact ⟨⟨kd4, tx4, nm4, ys4, ka4, kn4, kc4, ca4, cn4, cc4⟩, Hkb.out, by rw [Hfk.out]; exact Hr5.out, Hb5.out⟩
        | true =>
          have hsz5 : tx4.size ≤ 16777216 := by rw [Q2.out]; exact htsk
          have Hsz5 := Lib.hid hsz5; clear hsz5
          go_wp2_with (first
            | (go_at_call 166; refine (lower_any tx4 _ Hsz5.out (Htab.out _ (via Hbel.out Hb5.out))).mono ?_; rintro e w6 ⟨rfl, hb6⟩)
            | (go_at_call 93; refine (text_any (lowerB tx4) _ (lower_small _ Hsz5.out)).mono ?_; rintro e w7 ⟨⟨kd7, tx7, nm7, ys7, ka7, kn7, kc7, ca7, cn7, cc7⟩, rfl, hV, hb7⟩; obtain ⟨z0, z1, z2, z3, z4, z5, zf, zl⟩ := ((Hkb.out.below hb6).below hb7).cells))
          go_meet
          case rel =>
            have hkb7 := (Hkb.out.below hb6).below hb7
            have hs6 := hb6.size
            have hs5 := Hb5.out.size
            have hl4 : w4.heap.size < w5.heap.size := (Array.getElem?_eq_some_iff.1 Hkb.out).1
            exact ⟨⟨kd7, tx7, nm7, ys7, ka7, kn7, kc7, ca7, cn7, cc7⟩, hkb7.put6 _ _ _ _ _ _, by rw [Hfk.out]; exact (hV.mono (S' := fun b => S b ∨ (wr.heap.size ≤ b ∧ b ≠ w4.heap.size)) (fun b _ h => by rcases h with h | h; exact h.elim; exact .inr (by omega))).put6 (fun h => by rcases h with h | h; exact HnS.out _ (by have := Hbel.out.size; omega) h; exact h.2 rfl) _ _ _ _ _ _, Below.put6' (via (via Hb5.out hb6) hb7) (by omega) _ _ _ _ _ _⟩
      case rest =>
      obtain ⟨⟨kd6, tx6, nm6, ys6, ka6, kn6, kc6, ca6, cn6, cc6⟩, hkb, hkr, hbm⟩ := hcut
      simp only at hkb
      have hsm := (Array.getElem?_eq_some_iff.1 hkb).1
      obtain ⟨y0', y1', y2', y3', y4', y5', yf', yl'⟩ := hkb.cells
      have hxb5 := Hxb.out.below hbm
      obtain ⟨m0, m1, m2, m3, m4', m5', mf', ml'⟩ := hxb5.cells
      clear m0 m1 m2 m3
      have ck6 := (hbm.cell (p := ⟨bk, ok' + k, none⟩) hlbk).trans ck0
      obtain ⟨⟨vk, vt, vn, vy, vka, vkn, vkc, vca, vcn, vcc⟩, hbox, hvo⟩ := (Hout.out.below hbm).box
      have hc : ∀ wx, Below wc.heap.size wc wx → Calls Tryz.prog 45 #[TV.val ⟨vk, vt, vn, vy, vka, vkn, vkc, vca, vcn, vcc⟩, .string kk, TV.val ⟨kd6, tx6, nm6, ys6, ka6, kn6, kc6, ca6, cn6, cc6⟩] wx fun e w' => ∃ v' : TV, e = .returned v'.val ∧ RepT w' (fun b => S b ∨ (w.heap.size ≤ b ∧ b ≠ w.heap.size + 1 ∧ b ≠ w3.heap.size)) v' (mapE (foldE (es.take (k + 1)))) ∧ Below wc.heap.size wc w' := by
        intro wx hbx
        have hsx := hbx.size
        have h1 := (hvo.mono (S' := fun b => b < wc.heap.size ∧ (S b ∨ (w.heap.size ≤ b ∧ b ≠ w.heap.size + 1 ∧ b ≠ w3.heap.size))) (fun b hb h => ⟨hb, h⟩)).keep (Keeps.of_below _ hbx)
        have h2 := (hkr.mono (S' := fun b => b < wc.heap.size ∧ (S b ∨ (w.heap.size ≤ b ∧ b ≠ w.heap.size + 1 ∧ b ≠ w3.heap.size))) (fun b hb h => ⟨hb, by rcases h with h | h; exact .inl h; exact .inr (by omega)⟩)).keep (Keeps.of_below _ hbx)
        refine (with_any _ _ kk _ _ _ wx h1 h2 (fun b hb => by omega) (by rw [mapE_keys, mapE_kids, List.length_map, List.length_map]) (by rw [mapE_kids, List.length_map]; have := Hlen.out; simpa [foldE] using (by omega))).mono ?_
        rintro e w' ⟨v', rfl, hv', hb'⟩
        refine ⟨v', rfl, ?_, via hbx hb'⟩
        have e1 := prs_mapE (foldE (es.take k))
        unfold prs at e1
        rw [e1, Hwl.out, show foldE (es.take k) ++ [(kk, foldKid kk kt)] = foldE (es.take k ++ [(kk, kt)]) from (foldE_snoc _ (kk, kt)).symm, ← Htake.out] at hv'
        exact hv'.mono (fun b _ hb => by rcases hb with hb | hb; exact hb.2; exact .inr (by omega))
      have Hc := Lib.hid hc; clear hc
      obtain ⟨o0, o1, o2, o3, o4, o5, of', ol'⟩ := hbox.cells
      simp only at o0 o1 o2 o3 o4 o5
      have Hbox := Lib.hid hbox; clear hbox hvo hkr hkb
      have Hbm := Lib.hid hbm; clear hbm hxb5
      clear y0 y1 y2 y3 y4 y5 yf yl m4 m5 mf ml ck5 htsk hksk
      go_wp2_with fail
      go_region_law (go_simp; go_at_call 45; refine (Hc.out _ (by first | exact Below.refl _ _ | exact (Below.refl _ _).drew)).mono ?_; rintro e w9 ⟨⟨kind2, text2, num2, yes2, ka2, kn2, kc2, ca2, cn2, cc2⟩, rfl, hV, hb9⟩; have hbox9 := Hbox.out.below hb9; obtain ⟨z0, z1, z2, z3, z4, z5, zf, zl⟩ := hbox9.cells)
      all_goals (
        have hbc := Hbm.out.trans (hb9.mono Hbm.out.size)
        have hgp := grownBy_put6 w9 w3.heap.size (.int .i64 kind2) (.string text2) (.float .f64 num2) (.bool yes2) (.slice ka2 kn2 kc2) (.slice ca2 cn2 cc2)
        have hs5 := hb9.size
        have hsm2 := Hbm.out.size
        have Hbc := Lib.hid hbc
        have Hgp := Lib.hid hgp
        have HV := Lib.hid hV
        have Hb9 := Lib.hid hbox9
        clear hbc hgp hV hbox9 hb9
        go_wp2_with fail
        go_roundw
        case rel => exact ⟨k + 1, by omega, by simp, (Hxb.out.below Hbc.out).keep (Hgp.out.block w.heap.size (by omega) (by simp; omega)), (Hx.out.keep (Keeps.of_below _ Hbc.out)).put6 (HnS.out _ (by omega)) _ _ _ _ _ _, TBox.put (fun h => by rcases h with h | h; exact HnS.out _ (by omega) h; exact h.2.2 rfl) Hb9.out ⟨kind2, text2, num2, yes2, ka2, kn2, kc2, ca2, cn2, cc2⟩ _ HV.out, (Hz.out.below Hbc.out).keep (Hgp.out.block (w.heap.size + 1) (by omega) (by simp; omega)), Below.put6' (via Hbel.out Hbc.out) (by omega) _ _ _ _ _ _⟩
        case measure => simp [intOf]; omega)
    · obtain rfl : k = es.length := by omega
      rw [List.take_length] at hout
      obtain ⟨⟨vk, vt, vn, vy, vka, vkn, vkc, vca, vcn, vcc⟩, hbox, hvo⟩ := hout.box
      obtain ⟨o0, o1, o2, o3, o4, o5, of', ol'⟩ := hbox.cells
      simp only at o0 o1 o2 o3 o4 o5
      obtain ⟨z0, z1, z2, z3, z4, z5, zf, zl⟩ := hz.cells
      have Hvo := Lib.hid hvo; clear hvo hout hbox
      have Hz := Lib.hid hz; clear hz
      have Hbel := Lib.hid hbel; clear hbel
      clear hxb hx
      go_wp2_with fail
      obtain ⟨p0, p1, p2, p3, p4, p5, _, _⟩ := (Hz.out.put6 (.int .i64 vk) (.string vt) (.float .f64 vn) (.bool vy) (.slice vka vkn vkc) (.slice vca vcn vcc)).cells
      refine bodyPost_ret (v := .agg #[.int .i64 vk, .string vt, .float .f64 vn, .bool vy, .slice vka vkn vkc, .slice vca vcn vcc]) (by simp [results, Tryz.results112, go_sem, p0, p1, p2, p3, p4, p5]) rfl ?_
      exact ⟨⟨vk, vt, vn, vy, vka, vkn, vkc, vca, vcn, vcc⟩, rfl, (Hvo.out.put6 (fun h => by rcases h with h | h; exact HnS.out _ (by omega) h; exact h.2.1 rfl) _ _ _ _ _ _).mono (fun b _ hb => by rcases hb with h | h; exact .inl h; exact .inr h.1), Below.put6' Hbel.out (by omega) _ _ _ _ _ _⟩
end Go.Proofs.YtbcnhcpgloncdaaGreatDoor
