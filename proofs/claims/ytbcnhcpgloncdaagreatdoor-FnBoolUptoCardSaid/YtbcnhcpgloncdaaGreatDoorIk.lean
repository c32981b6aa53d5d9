/- 'beside', 'pick', 'Params', 'Count': what each returns. -/
import Derived.Test.YtbcnhcpgloncdaaGreatDoorIi
import Derived.Test.YtbcnhcpgloncdaaGreatDoorIj
namespace Go.Proofs.YtbcnhcpgloncdaaGreatDoor
open Go Go.RowKit Go.BigFrame

theorem below_grow (w : World) (q : Nat) (os : Array Obj) : Below w.heap.size w (Sort.grow (w.drewN q) os) :=
  ⟨rfl, rfl, rfl, by simp [Sort.grow], fun i hi => by
    show ((w.drewN q).heap ++ os)[i]? = _
    rw [Array.getElem?_append_left (by show i < w.heap.size; omega)]
    rfl⟩

theorem sets_one (w : World) (k : ByteArray) (v : TV) (t : Tr) {S : Nat → Prop} (h : RepT w S v t) (hS : S w.heap.size) (e : TypeId) :
    SetsAt (w.alloc (.cells #[.string k, .int .i64 v.kind, .string v.text, .float .f64 v.num, .bool v.yes, .slice v.ka v.kn v.kc, .slice v.ca v.cn v.cc] e)) S (some ⟨w.heap.size, 0, none⟩) [⟨k, t⟩] := by
  have hb := (Below.refl w.heap.size w).alloc (Nat.le_refl _) (.cells #[.string k, .int .i64 v.kind, .string v.text, .float .f64 v.num, .bool v.yes, .slice v.ka v.kn v.kc, .slice v.ca v.cn v.cc] e)
  refine ⟨fun _ => v, ?_, ?_⟩
  · intro _
    refine ⟨w.heap.size, 0, rfl, hS, fun i hi j u hu => ?_⟩
    have h0 : i = 0 := by simpa using hi
    subst h0
    have := World.cell?_alloc_new w #[.string k, .int .i64 v.kind, .string v.text, .float .f64 v.num, .bool v.yes, .slice v.ka v.kn v.kc, .slice v.ca v.cn v.cc] e (0 + 0 * 7 + j)
    rw [this, ← hu]
    simp
  · intro i s hs
    have h0 : i = 0 := by have := (List.getElem?_eq_some_iff.1 hs).1; simpa using this
    subst h0
    simp at hs
    subst hs
    exact h.keep (Keeps.of_below S hb)
theorem mapL_one (k : ByteArray) (t : Tr) : mapE (mapL [⟨k, t⟩]) = mapT [k] [t] := rfl

/-- 'Map' of one pair, laid new. -/
theorem map_one (k : ByteArray) (v : TV) (t : Tr) (S : Nat → Prop) (w : World) (h : RepT w S v t) :
    Calls Tryz.prog 42 #[.slice (some ⟨w.heap.size, 0, none⟩) 1 1] (w.alloc (.cells #[.string k, .int .i64 v.kind, .string v.text, .float .f64 v.num, .bool v.yes, .slice v.ka v.kn v.kc, .slice v.ca v.cn v.cc] 81))
      fun e w' => ∃ v' : TV, e = .returned v'.val ∧ RepT w' (fun b => S b ∨ w.heap.size ≤ b) v' (mapT [k] [t]) ∧ Below w.heap.size w w' := by
  have hs := sets_one w k v t (S := fun b => b < w.heap.size + 1 ∧ (S b ∨ w.heap.size ≤ b)) (h.mono (fun b hb hS => ⟨by omega, .inl hS⟩)) ⟨by omega, .inr (Nat.le_refl _)⟩ 81
  refine (map_made [⟨k, t⟩] _ _ 1 _ hs (fun b hb => by simp; omega) (by simp)).mono ?_
  rintro e w' ⟨v', rfl, hv, hb⟩
  refine ⟨v', rfl, ?_, via ((Below.refl _ _).alloc (Nat.le_refl _) _) hb⟩
  rw [mapL_one] at hv
  exact hv.mono (fun b _ hb => by
    rcases hb with hb | hb
    · exact hb.2
    · simp at hb; exact .inr (by omega))

set_option maxRecDepth 100000 in
set_option maxHeartbeats 4000000 in
theorem beside_any (kind : ByteArray) (ps : List SetM) (S : Nat → Prop) (a : Option Addr) (c : Nat) (w : World) (h : SetsAt w S a ps) (hS : ∀ b, S b → b < w.heap.size) (hl : ps.length ≤ 1000000000) :
    Calls Tryz.prog 52 #[.string kind, .slice a ps.length c] w (TreeS w S (besideT kind ps)) := by
  have Hh := Lib.hid h; clear h
  have HS := Lib.hid hS; clear hS
  go_enter Tryz.func52, Tryz.ntmps52
  go_wp2_with fail
  have hb0 := (Below.refl w.heap.size w).alloc (Nat.le_refl _) (.cells #[.int .i64 0, .string ⟨#[]⟩, .float .f64 0, .bool false, .slice none 0 0, .slice none 0 0] 31)
  refine (map_made ps S a c _ (Hh.out.keep (Keeps.of_below _ hb0)) (fun b hb => by have := HS.out b hb; simp; omega) hl).mono ?_
  rintro e w2 ⟨v, rfl, hv, hb2⟩
  have hz2 : Zero6 w2 w.heap.size := Box6.below (heap_alloc_new w _) hb2
  have hs2 := hb2.size
  simp only [World.size_alloc] at hs2 hv
  have Hv := Lib.hid hv; clear hv
  have Hz2 := Lib.hid hz2; clear hz2
  have Hb2 := Lib.hid (via hb0 hb2); clear hb2 hb0
  obtain ⟨kd, tx, nm, ys, ka, kn, kc, ca, cn, cc⟩ := v
  go_wp2_with fail
  refine (map_one kind ⟨kd, tx, nm, ys, ka, kn, kc, ca, cn, cc⟩ _ _ w2 Hv.out).mono ?_
  rintro e w3 ⟨v3, rfl, hv3, hb3⟩
  have hz3 := Hz2.out.below hb3
  obtain ⟨z0, z1, z2, z3, z4, z5, zf, zl⟩ := hz3.cells
  have Hv3 := Lib.hid hv3; clear hv3
  have Hb3 := Lib.hid (via Hb2.out hb3); clear hb3
  have Hz3 := Lib.hid hz3; clear hz3
  obtain ⟨kd3, tx3, nm3, ys3, ka3, kn3, kc3, ca3, cn3, cc3⟩ := v3
  go_wp2_with fail
  obtain ⟨p0, p1, p2, p3, p4, p5, _, _⟩ := (Hz3.out.put6 (.int .i64 kd3) (.string tx3) (.float .f64 nm3) (.bool ys3) (.slice ka3 kn3 kc3) (.slice ca3 cn3 cc3)).cells
  refine bodyPost_ret (v := .agg #[.int .i64 kd3, .string tx3, .float .f64 nm3, .bool ys3, .slice ka3 kn3 kc3, .slice ca3 cn3 cc3]) (by simp [results, Tryz.results52, go_sem, p0, p1, p2, p3, p4, p5]) rfl ?_
  have h3 := Hv3.out.mono (S' := fun b => S b ∨ w.heap.size + 1 ≤ b) (fun b _ hb => by
    rcases hb with (hb | hb) | hb
    · exact .inl hb
    · exact .inr hb
    · exact .inr (by omega))
  exact ⟨⟨kd3, tx3, nm3, ys3, ka3, kn3, kc3, ca3, cn3, cc3⟩, rfl, (h3.put6 (fun h => by rcases h with h | h; have := HS.out _ h; omega; omega) _ _ _ _ _ _).mono (fun b _ hb => by rcases hb with hb | hb; exact .inl hb; exact .inr (by omega)), Below.put6 Hb3.out (Nat.le_refl _) _ _ _ _ _ _⟩

theorem Tryz.info81 : (Tryz.prog.info? 81).map (fun i => (i.zero, i.size, i.bytes)) = some (some (.agg #[.string ⟨#[]⟩, .int .i64 0, .string ⟨#[]⟩, .float .f64 0, .bool false, .slice none 0 0, .slice none 0 0]), 7, 104) := by kernel_rfl
theorem pickL_length (ps : List SetM) (wo : List ByteArray) : (pickL ps wo).length ≤ ps.length := List.length_filter_le _ _
theorem pickL_snoc (ps : List SetM) (s : SetM) (wo : List ByteArray) : pickL (ps ++ [s]) wo = pickL ps wo ++ (if memB s.name wo then [] else [s]) := by
  unfold pickL
  rw [List.filter_append]
  cases h : memB s.name wo <;> simp [h]

set_option maxRecDepth 100000 in
set_option maxHeartbeats 4000000 in
theorem pick_any (ps : List SetM) (wo : List ByteArray) (S : Nat → Prop) (a a' : Option Addr) (c c' : Nat) (w : World) (h : SetsAt w S a ps) (hS : ∀ b, S b → b < w.heap.size) (hl : ps.length ≤ 1000000) (h' : StrsAt w (fun _ => True) a' wo) (hl' : wo.length ≤ 1000000) :
    Calls Tryz.prog 95 #[.slice a ps.length c, .slice a' wo.length c'] w fun e w' => ∃ kv, e = .returned kv ∧ OwnL PairR pairCells 81 7 w' S w.heap.size kv (pickL ps wo) ∧ Below w.heap.size w w' := by
  obtain ⟨i0, hi, hz0, hz1, hz2⟩ := info_parts Tryz.info81
  have Hh := Lib.hid h; clear h
  have Hh' := Lib.hid h'; clear h'
  have HS := Lib.hid hS; clear hS
  go_enter Tryz.func95, Tryz.ntmps95
  go_wp2_with fail
  go_loopw [5, 6] (fun v i wr => ∃ k : Nat, k ≤ ps.length ∧ i = .int .i64 k ∧ OwnL PairR pairCells 81 7 wr S w.heap.size v (pickL (ps.take k) wo) ∧ Below w.heap.size w wr) (fun _ i _ => ps.length - (intOf i).toNat)
  case atStart => exact ⟨0, Nat.zero_le _, rfl, OwnL.made (World.ownsRow_made w #[] 0 (Nat.le_refl _) (by unfold maxLen; omega) rfl), (Below.refl _ _).alloc (Nat.le_refl _) _⟩
  case round =>
    obtain ⟨k, hk, rfl, hown, hbel⟩ := hrel
    by_cases hlt : k < ps.length
    · obtain ⟨b', o, u, hca, hSb, hlb, c0, c1, c2, c3, c4, c5, c6, hu⟩ := (Hh.out.keep (Keeps.of_below _ hbel)).cells (k := k) hlt
      subst hca
      have Htake : Hid (ps.take (k + 1) = ps.take k ++ [ps[k]]) := Lib.hid (List.take_succ_eq_append_getElem hlt)
      have hlen : (pickL (ps.take k) wo).length ≤ k := Nat.le_trans (pickL_length _ _) (by rw [List.length_take]; omega)
      have hHas := has_any wo ps[k].name _ a' c' wr (Hh'.out.keep (Keeps.of_below _ hbel)) (by omega)
      generalize ps[k] = s at *
      obtain ⟨kind, text, num, yes, ka, kn, kc, ca, cn, cc⟩ := u
      simp only at c1 c2 c3 c4 c5 c6
      have HHas := Lib.hid hHas; clear hHas
      have Hu := Lib.hid hu; clear hu
      obtain ⟨L, hL⟩ : ∃ L, L = pickL (ps.take k) wo := ⟨_, rfl⟩
      rw [← hL] at hown hlen
      have HL := Lib.hid hL; clear hL
      have hsz := hbel.size
      have Hbel := Lib.hid hbel; clear hbel
      obtain ⟨a2, cc2, hform⟩ := hown.form
      subst hform
      obtain ⟨vs, hvl, hrow, hreps⟩ := hown
      have Hreps := Lib.hid hreps; clear hreps
      have Hrow := Lib.hid hrow
      have Hvl := Lib.hid hvl; clear hvl
      have hi1 : (0 : Int) ≤ (k : Int) := by omega
      have hi2 : (k : Int) < (ps.length : Int) := by omega
      cases hm : memB s.name wo with
      | true =>
        rw [hm] at HHas
        have Hm := Lib.hid hm; clear hm hrow
        go_wp2_with (go_at_call 43; refine HHas.out.mono ?_; rintro e w' ⟨rfl, rfl⟩)
        go_roundw
        case rel => exact ⟨k + 1, by omega, by simp, by rw [Htake.out, pickL_snoc, Hm.out, ← HL.out]; simpa using ⟨vs, Hvl.out, Hrow.out, Hreps.out⟩, Hbel.out⟩
        case measure => simp [intOf]; omega
      | false =>
        rw [hm] at HHas
        have Hm := Lib.hid hm; clear hm
        go_wp2_with (first
          | (go_at_call 43; refine HHas.out.mono ?_; rintro e w' ⟨rfl, rfl⟩)
          | (at_builtin; refine wpList_append_lies _ rfl _ _ _ rfl w.heap.size 81 i0 _ 7 104 Tryz.underlying83 hi hz0 hz1 hz2 rfl (by omega) (.slice a2 L.length cc2) L.length _ rfl (hrow.alloc _) ⟨wr.heap.size, 0, none⟩ 1 1 [.string s.name, .int .i64 kind, .string text, .float .f64 num, .bool yes, .slice ka kn kc, .slice ca cn cc] rfl rfl (World.news_of_block (cs := #[.string s.name, .int .i64 kind, .string text, .float .f64 num, .bool yes, .slice ka kn kc, .slice ca cn cc]) (t := 81) (fr := (0, 0)) (heap_alloc_new wr _)) (by simp [Value.oneCell']) (by omega) (by unfold maxLen; omega) (by omega) (by simp; omega) (wr.heap.size + 1) (by simp) ?_; intro g cap w1 hown1 hgrow hat hlt1))
        have hbx : Below wr.heap.size wr (wr.alloc (.cells #[.string s.name, .int .i64 kind, .string text, .float .f64 num, .bool yes, .slice ka kn kc, .slice ca cn cc] 81)) := (Below.refl _ _).alloc (Nat.le_refl _) _
        have hpair : PairR wr S (s.name, ⟨kind, text, num, yes, ka, kn, kc, ca, cn, cc⟩) s := ⟨rfl, Hu.out⟩
        have hnew : OwnL PairR pairCells 81 7 w1 S w.heap.size (.slice (some ⟨g, 0, none⟩) (L.length + 1) cap) (L ++ [s]) :=
          OwnL.one (u := (s.name, ⟨kind, text, num, yes, ka, kn, kc, ca, cn, cc⟩)) pair_law Hvl.out (fun i v t hv ht => pair_law.keep (Hreps.out i v t hv ht) (Keeps.of_below _ hbx))
            (pair_law.keep (pair_law.mono hpair (fun b hb hSb => ⟨hSb, fun e => by have := (Hrow.out.lt b e).1; have := HS.out b hSb; omega⟩)) (Keeps.of_below _ hbx)) hown1 hgrow hat (by simp) rfl rfl
        have hbel1 : Below w.heap.size w w1 := (Hbel.out.alloc hsz _).grown hgrow (by simp; omega) (fun k hk => (Hrow.out.lt k hk).1)
        have Hnew := Lib.hid hnew
        have Hbel1 := Lib.hid hbel1
        clear hnew hbel1 hgrow hat hown1 hrow
        go_wp2_with fail
        go_roundw
        case rel => exact ⟨k + 1, by omega, by simp, by rw [Htake.out, pickL_snoc, Hm.out, ← HL.out]; exact Hnew.out, Hbel1.out⟩
        case measure => simp [intOf]; omega
    · obtain rfl : k = ps.length := by omega
      rw [List.take_length] at hown
      have Hown := Lib.hid hown; clear hown
      go_wp2_with fail
      refine bodyPost_ret (by simp [results, Tryz.results95, go_sem]; rfl) rfl ?_
      exact ⟨_, rfl, Hown.out, hbel⟩

set_option maxRecDepth 100000 in
set_option maxHeartbeats 4000000 in
theorem count_any (x n : Nat) (hn : n ≤ 1000000) (w : World) (hx : floatToIntVal .f64 x .i64 = some (n : Int)) (htab : Lib.TabIs Tryz.prog w "internal/strconv.uint64pow10" .u64 Lib.pow10Tab) :
    Calls Tryz.prog 97 #[.float .f64 x] w fun e w' => e = .returned (.string (itoaB x)) ∧ Below w.heap.size w w' := by
  have hcv := conv_int hx w
  have he : itoaB x = ⟨(Lib.itoa n).toArray⟩ := by unfold itoaB toI; rw [hx]; rfl
  have hc := Tryz.strconv_Itoa n (by omega) (by omega) w htab
  rw [he]
  have Hc := Lib.hid hc; clear hc he hx htab
  go_enter Tryz.func97, Tryz.ntmps97
  go_wp2_with fail
  refine Hc.out.mono ?_
  rintro e w2 ⟨rfl, k, os, rfl⟩
  have hb : Below w.heap.size w (Sort.grow (w.drewN k) os) := below_grow _ _ _
  have Hb := Lib.hid hb; clear hb
  go_wp2_with fail
  go_ret
  exact ⟨rfl, Hb.out⟩
end Go.Proofs.YtbcnhcpgloncdaaGreatDoor
