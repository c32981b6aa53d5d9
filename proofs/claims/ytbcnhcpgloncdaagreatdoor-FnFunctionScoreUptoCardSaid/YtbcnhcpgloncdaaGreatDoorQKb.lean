/- 'ReadFunctions': a function_score query, as it is read. -/
import Derived.Test.YtbcnhcpgloncdaaGreatDoorQKa
import Derived.Test.YtbcnhcpgloncdaaGreatDoorQJt
namespace Go.Proofs.YtbcnhcpgloncdaaGreatDoor
open Go Go.RowKit Go.BigFrame Go.Maps

/-- A tree in a box of its own, laid last. -/
theorem boxed {w2 : World} {Q : Nat → Prop} {v : TV} {t : Tr} (h : RepT w2 Q v t) : Box6 (w2.alloc (.cells #[.int .i64 v.kind, .string v.text, .float .f64 v.num, .bool v.yes, .slice v.ka v.kn v.kc, .slice v.ca v.cn v.cc] 31)) w2.heap.size (.int .i64 v.kind) (.string v.text) (.float .f64 v.num) (.bool v.yes) (.slice v.ka v.kn v.kc) (.slice v.ca v.cn v.cc) ∧
    RepT (w2.alloc (.cells #[.int .i64 v.kind, .string v.text, .float .f64 v.num, .bool v.yes, .slice v.ka v.kn v.kc, .slice v.ca v.cn v.cc] 31)) Q v t ∧ Below w2.heap.size w2 (w2.alloc (.cells #[.int .i64 v.kind, .string v.text, .float .f64 v.num, .bool v.yes, .slice v.ka v.kn v.kc, .slice v.ca v.cn v.cc] 31)) := by
  have hb := (Below.refl w2.heap.size w2).alloc (Nat.le_refl _) (.cells #[.int .i64 v.kind, .string v.text, .float .f64 v.num, .bool v.yes, .slice v.ka v.kn v.kc, .slice v.ca v.cn v.cc] 31)
  exact ⟨heap_alloc_new w2 _, h.keep (Keeps.of_below _ hb), hb⟩

set_option maxRecDepth 100000 in
set_option maxHeartbeats 40000000 in
theorem readFS_any (X : List (ByteArray × Tr)) (LL : Tr) (v : TV) (S : Nat → Prop) (w : World) (hv : RepT w S v (mapT [n_function_score] [mapE X])) (hS : ∀ b, S b → b < w.heap.size) (hXl : X.length ≤ 1000) (hE : lookE (besideE [n_functions] X) n_functions = some LL) (hLl : LL.kids.length ≤ 1048576)
    (hnm : ∀ p ∈ besideE [n_functions] X, memB p.1 namesS = false)
    (h49 : ∀ t ∈ LL.kids, ∀ (v : TV) (S' : Nat → Prop) (wr : World), RepT wr S' v t → (∀ b, S' b → b < wr.heap.size) → Calls Tryz.prog 49 #[v.val] wr (TreeS wr S' t))
    (h48 : ∀ t ∈ LL.kids, ∀ (v : TV) (S' : Nat → Prop) (wr : World), RepT wr S' v t → (∀ b, S' b → b < wr.heap.size) → Below w.heap.size w wr → Calls Tryz.prog 48 #[v.val] wr (TreeS wr S' (mapE (scoredE (prs t))))) :
    Calls Tryz.prog 11 #[v.val] w (TreeA w (mapT [n_function_score] [mapE (withE n_functions (listT (LL.kids.map (fun t => mapE (scoredE (prs t))))) false (besideE [n_functions] X))])) := by
  obtain ⟨j0, hj, jz0, jz1, jz2⟩ := info_parts Tryz.info31
  have h40 : ∀ wx pb, Below w.heap.size w wx → StrsAt wx (fun _ => True) (some ⟨pb, 0, none⟩) [n_functions] → Calls Tryz.prog 40 #[.string ⟨#[102, 117, 110, 99, 116, 105, 111, 110, 95, 115, 99, 111, 114, 101]⟩, v.val, .slice (some ⟨pb, 0, none⟩) 1 1] wx (TreeS wx S (mapT [n_function_score] [mapE (besideE [n_functions] X)])) := by
    intro wx pb hb hs
    have h := readBeside_any n_function_score (mapE X) [n_functions] v (some ⟨pb, 0, none⟩) 1 S wx (hv.keep (Keeps.of_below _ hb)) (fun b h => Nat.lt_of_lt_of_le (hS b h) hb.size) rfl (by rw [mapE_keys, mapE_kids, List.length_map, List.length_map]) (by rw [mapE_kids, List.length_map]; omega) hs (by decide)
    rw [prs_mapE] at h
    exact h
  have H40 := Lib.hid h40; clear h40
  obtain ⟨E, hEe⟩ : ∃ e, e = besideE [n_functions] X := ⟨_, rfl⟩
  have hEl : E.length ≤ 1000 := by rw [hEe]; exact Nat.le_trans (besideE_length _ _) hXl
  simp only [← hEe] at H40 hE hnm ⊢
  clear hEe hXl
  have hf41 : ∀ (v2 : TV) (Q : Nat → Prop) (wx : World), RepT wx Q v2 (mapT [n_function_score] [mapE E]) → Calls Tryz.prog 41 #[v2.val, .string ⟨#[102, 117, 110, 99, 116, 105, 111, 110, 95, 115, 99, 111, 114, 101]⟩] wx fun e w' => ∃ u : TV, e = .returned (.tuple #[u.val, .bool true]) ∧ RepT w' Q u (mapE E) ∧ Below wx.heap.size wx w' := by
    intro v2 Q wx h
    have := at_any (mapT [n_function_score] [mapE E]) v2 n_function_score Q wx h rfl rfl
    rw [show lookE (prs (mapT [n_function_score] [mapE E])) n_function_score = some (mapE E) by simp [prs, mapT, Tr.keys, Tr.kids, lookE]] at this
    exact this
  have hg41 : ∀ (v2 : TV) (Q : Nat → Prop) (wx : World), RepT wx Q v2 (mapE E) → Calls Tryz.prog 41 #[v2.val, .string ⟨#[102, 117, 110, 99, 116, 105, 111, 110, 115]⟩] wx fun e w' => ∃ u : TV, e = .returned (.tuple #[u.val, .bool true]) ∧ RepT w' Q u LL ∧ Below wx.heap.size wx w' := by
    intro v2 Q wx h
    have := at_any (mapE E) v2 n_functions Q wx h rfl (by rw [mapE_keys, mapE_kids, List.length_map, List.length_map])
    rw [prs_mapE, hE] at this
    exact this
  have Hf41 := Lib.hid hf41; clear hf41
  have Hg41 := Lib.hid hg41; clear hg41 hE
  have HS := Lib.hid hS; clear hS hv
  have Hnm := Lib.hid hnm; clear hnm
  have H49 := Lib.hid h49; clear h49
  have H48 := Lib.hid h48; clear h48
  obtain ⟨RES, hRES⟩ : ∃ t, t = mapT [n_function_score] [mapE (withE n_functions (listT (LL.kids.map (fun t => mapE (scoredE (prs t))))) false E)] := ⟨_, rfl⟩
  rw [← hRES]
  have HRES := Lib.hid hRES; clear hRES
  obtain ⟨kind, text, num, yes, ka, kn, kc, ca, cn, cc⟩ := v
  go_enter Tryz.func11, Tryz.ntmps11
  go_upto_region 1 with fail
  have hb0 : Below w.heap.size w ((w.alloc (.cells #[.int .i64 kind, .string text, .float .f64 num, .bool yes, .slice ka kn kc, .slice ca cn cc] 31)).alloc (.cells #[.int .i64 0, .string ⟨#[]⟩, .float .f64 0, .bool false, .slice none 0 0, .slice none 0 0] 31)) := ((Below.refl _ _).alloc (Nat.le_refl _) _).alloc (by simp) _
  have hz0 : Zero6 ((w.alloc (.cells #[.int .i64 kind, .string text, .float .f64 num, .bool yes, .slice ka kn kc, .slice ca cn cc] 31)).alloc (.cells #[.int .i64 0, .string ⟨#[]⟩, .float .f64 0, .bool false, .slice none 0 0, .slice none 0 0] 31)) (w.heap.size + 1) := by
    have := heap_alloc_new (w.alloc (.cells #[.int .i64 kind, .string text, .float .f64 num, .bool yes, .slice ka kn kc, .slice ca cn cc] 31)) (.cells #[.int .i64 0, .string ⟨#[]⟩, .float .f64 0, .bool false, .slice none 0 0, .slice none 0 0] 31)
    rw [World.size_alloc] at this
    exact this
  have hbx0 : Box6 ((w.alloc (.cells #[.int .i64 kind, .string text, .float .f64 num, .bool yes, .slice ka kn kc, .slice ca cn cc] 31)).alloc (.cells #[.int .i64 0, .string ⟨#[]⟩, .float .f64 0, .bool false, .slice none 0 0, .slice none 0 0] 31)) w.heap.size (.int .i64 kind) (.string text) (.float .f64 num) (.bool yes) (.slice ka kn kc) (.slice ca cn cc) := Box6.alloc (heap_alloc_new w _)
  have hs0 : ((w.alloc (.cells #[.int .i64 kind, .string text, .float .f64 num, .bool yes, .slice ka kn kc, .slice ca cn cc] 31)).alloc (.cells #[.int .i64 0, .string ⟨#[]⟩, .float .f64 0, .bool false, .slice none 0 0, .slice none 0 0] 31)).heap.size = w.heap.size + 2 := by simp
  generalize (w.alloc (.cells #[.int .i64 kind, .string text, .float .f64 num, .bool yes, .slice ka kn kc, .slice ca cn cc] 31)).alloc (.cells #[.int .i64 0, .string ⟨#[]⟩, .float .f64 0, .bool false, .slice none 0 0, .slice none 0 0] 31) = w0 at *
  obtain ⟨x0, x1, x2, x3, x4, x5, xf, xl⟩ := hbx0.cells
  clear hbx0
  have Hz0 := Lib.hid hz0; clear hz0
  have Hb0 := Lib.hid hb0; clear hb0
  go_wp2_with fail
  have hba : Below w0.heap.size w0 (w0.alloc (.cells #[.string ⟨#[102, 117, 110, 99, 116, 105, 111, 110, 115]⟩] 9)) := (Below.refl _ _).alloc (Nat.le_refl _) _
  have hst0 : StrsAt (w0.alloc (.cells #[.string ⟨#[102, 117, 110, 99, 116, 105, 111, 110, 115]⟩] 9)) (fun _ => True) (some ⟨w.heap.size + 2, 0, none⟩) [n_functions] := strs_at w0 _ n_functions hs0.symm
  refine (H40.out _ _ (via Hb0.out hba) hst0).mono ?_
  clear hst0
  rintro e w2 ⟨⟨kind2, text2, num2, yes2, ka2, kn2, kc2, ca2, cn2, cc2⟩, rfl, hv2, hb2⟩
  simp only [World.size_alloc] at hv2
  obtain ⟨-, hr2, hn2⟩ := boxed (hv2.mono (S' := (fun b => S b ∨ w.heap.size + 2 ≤ b)) (fun b _ h => by rcases h with h | h; exact .inl h; exact .inr (by omega)))
  have hbel3 := via (via (via Hb0.out hba) hb2) hn2
  have hz3 := ((Hz0.out.below hba).below hb2).below hn2
  simp only at hr2 hbel3 hz3
  have Hr2 := Lib.hid hr2; clear hr2 hv2
  have Hbel3 := Lib.hid hbel3; clear hbel3
  have Hz3 := Lib.hid hz3; clear hz3 hba hb2 hn2 x0 x1 x2 x3 x4 x5 xf xl
  go_wp2_with fail
  refine (Hf41.out ⟨kind2, text2, num2, yes2, ka2, kn2, kc2, ca2, cn2, cc2⟩ _ _ Hr2.out).mono ?_
  rintro e w4 ⟨⟨kind4, text4, num4, yes4, ka4, kn4, kc4, ca4, cn4, cc4⟩, rfl, hv4, hb4⟩
  obtain ⟨hbox4, hr4, hn4⟩ := boxed hv4
  have hbel5 := via (via Hbel3.out hb4) hn4
  have hz5 := (Hz3.out.below hb4).below hn4
  simp only at hbox4 hr4 hbel5 hz5
  have Hbox4 := Lib.hid hbox4; clear hbox4
  have Hr4 := Lib.hid hr4; clear hr4 hv4
  have Hbel5 := Lib.hid hbel5; clear hbel5
  have Hz5 := Lib.hid hz5; clear hz5 hb4 hn4 Hz3 Hbel3 Hr2
  go_wp2_with fail
  refine (Hg41.out ⟨kind4, text4, num4, yes4, ka4, kn4, kc4, ca4, cn4, cc4⟩ _ _ Hr4.out).mono ?_
  rintro e w6 ⟨⟨kind6, text6, num6, yes6, ka6, kn6, kc6, ca6, cn6, cc6⟩, rfl, hv6, hb6⟩
  obtain ⟨hbox6, hr6, hn6⟩ := boxed hv6
  have hbel7 := via (via Hbel5.out hb6) hn6
  have hz7 := (Hz5.out.below hb6).below hn6
  have hbox47 := (Hbox4.out.below hb6).below hn6
  have hr47 := (Hr4.out.keep (Keeps.of_below _ hb6)).keep (Keeps.of_below _ hn6)
  simp only at hbox6 hr6 hbel7 hz7 hbox47 hr47
  have Hbox6 := Lib.hid hbox6; clear hbox6
  have Hr6 := Lib.hid hr6; clear hr6 hv6
  have Hbel7 := Lib.hid hbel7; clear hbel7
  have Hz7 := Lib.hid hz7; clear hz7
  have Hbox47 := Lib.hid hbox47; clear hbox47
  have Hr47 := Lib.hid hr47; clear hr47 hb6 hn6 Hz5 Hbel5 Hr4 Hbox4
  go_wp2_with fail
  refine (map_made [] (fun _ => False) none 0 _ ⟨fun _ => default, SliceAt.nil, fun i s h => by simp at h⟩ (fun _ h => h.elim) (by simp)).mono ?_
  rintro e w8 ⟨⟨kind8, text8, num8, yes8, ka8, kn8, kc8, ca8, cn8, cc8⟩, rfl, hv8, hb8⟩
  have hkn8 : kn8 = 0 := hv8.eqs.2.2.2.2.1
  subst hkn8
  obtain ⟨hbox8, -, hn8⟩ := boxed hv8
  have hbel9 := via (via Hbel7.out hb8) hn8
  have hz9 := (Hz7.out.below hb8).below hn8
  have hbox49 := (Hbox47.out.below hb8).below hn8
  have hr49 := (Hr47.out.keep (Keeps.of_below _ hb8)).keep (Keeps.of_below _ hn8)
  have hbox69 := (Hbox6.out.below hb8).below hn8
  have hr69 := (Hr6.out.keep (Keeps.of_below _ hb8)).keep (Keeps.of_below _ hn8)
  simp only at hbox8 hbel9 hz9 hbox49 hr49 hbox69 hr69
  clear hv8 hb8 hn8 Hbel7 Hz7 Hbox47 Hr47 Hbox6 Hr6
  go_wp2_with fail
  generalize w8.alloc (.cells #[.int .i64 kind8, .string text8, .float .f64 num8, .bool yes8, .slice ka8 0 kc8, .slice ca8 cn8 cc8] 31) = w9 at *
  have Hbox8 := Lib.hid hbox8; clear hbox8
  have Hbel9 := Lib.hid hbel9; clear hbel9
  have Hz9 := Lib.hid hz9; clear hz9
  have Hbox49 := Lib.hid hbox49; clear hbox49
  have hkn4 : kn4 = E.length := by have := hr49.eqs.2.2.2.2.1; rw [mapE_keys, List.length_map] at this; exact this
  have Hkn4 := Lib.hid hkn4; clear hkn4
  have Hr49 := Lib.hid hr49; clear hr49
  have Hbox69 := Lib.hid hbox69; clear hbox69
  have hcn6 : cn6 = LL.kids.length := hr69.eqs.2.2.2.2.2
  have Hcn6 := Lib.hid hcn6; clear hcn6
  have Hr69 := Lib.hid hr69; clear hr69
  go_loopw [9] (fun i wr => ∃ k : Nat, k ≤ kn4 ∧ i = .int .i64 k ∧ Below w9.heap.size w9 wr) (fun i _ => kn4 - (intOf i).toNat)
  case atStart => exact ⟨0, Nat.zero_le _, rfl, Below.refl _ _⟩
  case round =>
    obtain ⟨k, hk, rfl, hbel⟩ := hrel
    have hbox4 := Hbox49.out.below hbel
    obtain ⟨y0, y1, y2, y3, y4, y5, yf, yl⟩ := hbox4.cells
    by_cases hlt : k < kn4
    · have hlt' : k < E.length := by rw [← Hkn4.out]; exact hlt
      obtain ⟨bk, ok', hka, hSk, hlbk, ck⟩ := (Hr49.out.keep (Keeps.of_below _ hbel)).key (k := k) (by rw [mapE_keys, List.length_map]; exact hlt')
      simp only at hka
      subst hka
      have ek : (mapE E).keys[k]'(by rw [mapE_keys, List.length_map]; exact hlt') = E[k].1 := by simp [mapE_keys]
      rw [ek] at ck
      have hno := Hnm.out E[k] (List.getElem_mem hlt')
      generalize E[k] = p at *
      obtain ⟨kk, kt⟩ := p
      simp only at ck hno
      have h43 : ∀ wx pb, StrsAt wx (fun _ => True) (some ⟨pb, 0, none⟩) namesS → Calls Tryz.prog 43 #[.slice (some ⟨pb, 0, none⟩) 6 6, .string kk] wx fun e w' => e = .returned (.bool false) ∧ wx = w' := by
        intro wx pb hs
        have h := has_any namesS kk _ (some ⟨pb, 0, none⟩) 6 wx hs (by decide)
        rw [hno] at h
        exact h
      have H43 := Lib.hid h43; clear h43 hno ek hSk
      have hlb4 : w4.heap.size < wr.heap.size := (Array.getElem?_eq_some_iff.1 hbox4).1
      have Hbox4 := Lib.hid hbox4; clear hbox4
      have Hbel := Lib.hid hbel; clear hbel
      have hi1 : (0 : Int) ≤ (k : Int) := by omega
      have hi2 : (k : Int) < (kn4 : Int) := by omega
      go_upto_region 10 with fail
      go_region_law (first
        | (go_simp; go_at_call 44; (with_reducible refine (scoreNames_any _).mono ?_); rintro e w5 ⟨pb, rfl, hpb, hpl, hb5⟩; have hb05 := via (show Below wr.heap.size wr _ by first | exact Below.refl _ _ | exact (Below.refl _ _).drew) hb5; obtain ⟨u0, u1, u2, u3, u4, u5, uf, ul⟩ := (Hbox4.out.below hb05).cells; have ck5 := (hb05.cell (p := ⟨bk, ok' + k, none⟩) hlbk).trans ck; have hst := strs_of_block hpb)
        | (go_simp; go_at_call 43; (with_reducible refine (H43.out _ _ hst).mono ?_); rintro e w' ⟨rfl, rfl⟩))
      all_goals (
        have Hb05 := Lib.hid hb05
        clear hb05 hb5 u0 u1 u2 u3 u4 u5 uf ul ck5 hst hpb
        go_wp2_with fail
        go_roundw
        case rel => first
          | exact ⟨k + 1, by omega, by simp, via Hbel.out Hb05.out⟩
          | ((repeat apply Exists.intro); exact ⟨⟨k + 1, by omega, (show Value.int .i64 ((k : Int) + 1) = Value.int .i64 ((k + 1 : Nat) : Int) by simp), via Hbel.out Hb05.out⟩, rfl⟩)
        case measure => simp [intOf]; omega)
    · obtain rfl : kn4 = k := by omega
      have hbox8 := Hbox8.out.below hbel
      obtain ⟨u0, u1, u2, u3, u4, u5, uf, ul⟩ := hbox8.cells
      have Hbox4 := Lib.hid hbox4; clear hbox4
      have Hbox8' := Lib.hid hbox8; clear hbox8
      have Hbel := Lib.hid hbel; clear hbel
      go_wp2_with fail
      go_loopw [10] (fun i wx => i = .int .i64 0 ∧ wr = wx) (fun _ _ => 0)
      case atStart => exact ⟨rfl, rfl⟩
      case round =>
        obtain ⟨rfl, rfl⟩ := hrel
        go_wp2_with fail
        refine (list_nil _).mono ?_
        rintro e w10 ⟨rfl, hb10⟩
        clear y0 y1 y2 y3 y4 y5 yf yl u0 u1 u2 u3 u4 u5 uf ul
        have hn11 : Below w10.heap.size w10 (w10.alloc (.cells #[.int .i64 4, .string ⟨#[]⟩, .float .f64 0, .bool false, .slice none 0 0, .slice none 0 0] 31)) := (Below.refl _ _).alloc (Nat.le_refl _) _
        have hbox11 := heap_alloc_new w10 (.cells #[.int .i64 4, .string ⟨#[]⟩, .float .f64 0, .bool false, .slice none 0 0, .slice none 0 0] 31)
        have hbelB := via (via Hbel.out hb10) hn11
        have hz11 := Hz9.out.below hbelB
        have hbel11 := via Hbel9.out hbelB
        have hbox411 := Hbox49.out.below hbelB
        have hbox611 := Hbox69.out.below hbelB
        have hs10 := hb10.size
        have hsr := Hbel.out.size
        have hr411 := (Hr49.out.mono (S' := fun b => b < w10.heap.size ∧ (fun b => S b ∨ w.heap.size + 2 ≤ b) b) (fun b hb h => ⟨by omega, h⟩)).keep (Keeps.of_below _ hbelB)
        have hr611 := (Hr69.out.mono (S' := fun b => b < w10.heap.size ∧ (fun b => S b ∨ w.heap.size + 2 ≤ b) b) (fun b hb h => ⟨by omega, h⟩)).keep (Keeps.of_below _ hbelB)
        have hw9 : w4.heap.size < w9.heap.size := (Array.getElem?_eq_some_iff.1 Hbox49.out).1
        have hw96 : w6.heap.size < w9.heap.size := (Array.getElem?_eq_some_iff.1 Hbox69.out).1
        have hw92 : w.heap.size + 2 ≤ w9.heap.size := (by have := (Array.getElem?_eq_some_iff.1 Hz9.out).1; omega)
        clear Hbox4 Hbox8' Hbox8 hb10 hn11 hbelB Hbel Hbel9 Hz9 Hbox49 Hbox69 Hr49 Hr69
        go_wp2_with fail
        have hbox11' : Box6 _ w10.heap.size (.int .i64 4) (.string ⟨#[]⟩) (.float .f64 0) (.bool false) (.slice none 0 0) (.slice none 0 0) := hbox11
        clear hbox11
        generalize w10.alloc (.cells #[.int .i64 4, .string ⟨#[]⟩, .float .f64 0, .bool false, .slice none 0 0, .slice none 0 0] 31) = w11 at *
        have hown0 : OwnL (fun w S (v : TV) (t : Tr) => RepT w S v t) TV.cells 31 6 w11 (fun b => (b < w10.heap.size ∧ (fun b => S b ∨ w.heap.size + 2 ≤ b) b) ∨ w10.heap.size + 1 ≤ b) (w10.heap.size + 1) (.slice none 0 0) [] := OwnL.nil _ _ _
        have Hown0 := Lib.hid hown0; clear hown0
        have Hbox11 := Lib.hid hbox11'; clear hbox11'
        have Hz11 := Lib.hid hz11; clear hz11
        have Hbel11 := Lib.hid hbel11; clear hbel11
        have Hbox411 := Lib.hid hbox411; clear hbox411
        have Hbox611 := Lib.hid hbox611; clear hbox611
        have Hr411 := Lib.hid hr411; clear hr411
        have Hr611 := Lib.hid hr611; clear hr611
        go_loopw [12] (fun i wr => ∃ (k : Nat) (kv : Value), k ≤ cn6 ∧ i = .int .i64 k ∧ Box6 wr w10.heap.size (.int .i64 4) (.string ⟨#[]⟩) (.float .f64 0) (.bool false) (.slice none 0 0) kv ∧
          OwnL (fun w S (v : TV) (t : Tr) => RepT w S v t) TV.cells 31 6 wr (fun b => (b < w10.heap.size ∧ (fun b => S b ∨ w.heap.size + 2 ≤ b) b) ∨ w10.heap.size + 1 ≤ b) (w10.heap.size + 1) kv ((LL.kids.take k).map (fun t => mapE (scoredE (prs t)))) ∧ Box6 wr w4.heap.size (.int .i64 kind4) (.string text4) (.float .f64 num4) (.bool yes4) (.slice ka4 kn4 kc4) (.slice ca4 cn4 cc4) ∧ Box6 wr w6.heap.size (.int .i64 kind6) (.string text6) (.float .f64 num6) (.bool yes6) (.slice ka6 kn6 kc6) (.slice ca6 cn6 cc6) ∧
          RepT wr (fun b => b < w10.heap.size ∧ (fun b => S b ∨ w.heap.size + 2 ≤ b) b) ⟨kind4, text4, num4, yes4, ka4, kn4, kc4, ca4, cn4, cc4⟩ (mapE E) ∧ RepT wr (fun b => b < w10.heap.size ∧ (fun b => S b ∨ w.heap.size + 2 ≤ b) b) ⟨kind6, text6, num6, yes6, ka6, kn6, kc6, ca6, cn6, cc6⟩ LL ∧ Zero6 wr (w.heap.size + 1) ∧ Below w.heap.size w wr) (fun i _ => cn6 - (intOf i).toNat)
        case atStart => exact ⟨0, _, Nat.zero_le _, rfl, Hbox11.out, Hown0.out, Hbox411.out, Hbox611.out, Hr411.out, Hr611.out, Hz11.out, Hbel11.out⟩
        case round =>
          clear Hbox11 Hown0 Hbox411 Hbox611 Hr411 Hr611 Hz11 Hbel11
          obtain ⟨k, kv, hk, rfl, hbox, hown, hbox4, hbox6, hr4, hr6, hz, hbel⟩ := hrel
          have hw10 : w10.heap.size < wr.heap.size := (Array.getElem?_eq_some_iff.1 hbox).1
          by_cases hlt : k < cn6
          · have hlt' : k < LL.kids.length := by rw [← Hcn6.out]; exact hlt
            obtain ⟨bc, oc, ⟨kind3, text3, num3, yes3, ka3, kn3, kc3, ca3, cn3, cc3⟩, hca, hSc, hlbc, ⟨d0, d1, d2, d3, d4, d5⟩, hrv⟩ := hr6.kid (k := k) hlt'
            simp only at hca d0 d1 d2 d3 d4 d5
            subst hca
            have h49k := H49.out LL.kids[k] (List.getElem_mem hlt')
            have h48k := H48.out LL.kids[k] (List.getElem_mem hlt')
            have Htake : Hid (LL.kids.take (k + 1) = LL.kids.take k ++ [LL.kids[k]]) := Lib.hid (List.take_succ_eq_append_getElem hlt')
            generalize LL.kids[k] = kt at *
            obtain ⟨T1, hT1⟩ : ∃ t, t = mapE (scoredE (prs kt)) := ⟨_, rfl⟩
            rw [← hT1] at h48k
            have HT1 := Lib.hid hT1; clear hT1
            have hc49 : ∀ wx, Below wr.heap.size wr wx → Calls Tryz.prog 49 #[TV.val ⟨kind3, text3, num3, yes3, ka3, kn3, kc3, ca3, cn3, cc3⟩] wx fun e w' => ∃ v : TV, e = .returned v.val ∧ RepT w' (fun b => b < w'.heap.size ∧ ((b < w10.heap.size ∧ (fun b => S b ∨ w.heap.size + 2 ≤ b) b) ∨ wr.heap.size ≤ b)) v kt ∧ Below wx.heap.size wx w' := by
              intro wx hb
              have hsx := hb.size
              refine (h49k _ (fun b => b < w10.heap.size ∧ (fun b => S b ∨ w.heap.size + 2 ≤ b) b) wx (hrv.keep (Keeps.of_below _ hb)) (fun b h => by have := h.1; omega)).mono ?_
              rintro e w' ⟨v', rfl, hv', hb'⟩
              exact ⟨v', rfl, hv'.mono (fun b hb h => ⟨hb, by rcases h with h | h; exact .inl h; exact .inr (by omega)⟩), hb'⟩
            have hc48 : ∀ w5 (u : TV), Below wr.heap.size wr w5 → RepT w5 (fun b => b < w5.heap.size ∧ ((b < w10.heap.size ∧ (fun b => S b ∨ w.heap.size + 2 ≤ b) b) ∨ wr.heap.size ≤ b)) u kt → Calls Tryz.prog 48 #[u.val] w5 fun e w' => ∃ v : TV, e = .returned v.val ∧ RepT w' (fun b => (b < w10.heap.size ∧ (fun b => S b ∨ w.heap.size + 2 ≤ b) b) ∨ wr.heap.size ≤ b) v T1 ∧ Below w5.heap.size w5 w' := by
              intro w5 u hb hu
              have hsx := hb.size
              refine (h48k u _ w5 hu (fun b h => h.1) (via hbel hb)).mono ?_
              rintro e w' ⟨v', rfl, hv', hb'⟩
              exact ⟨v', rfl, hv'.mono (fun b _ h => by rcases h with h | h; exact h.2; exact .inr (by omega)), hb'⟩
            have Hc49 := Lib.hid hc49; clear hc49
            have Hc48 := Lib.hid hc48; clear hc48 h49k h48k hrv hSc
            obtain ⟨L, hL⟩ : ∃ L, L = (LL.kids.take k).map (fun t => mapE (scoredE (prs t))) := ⟨_, rfl⟩
            rw [← hL] at hown
            have hlen : L.length ≤ k := by rw [hL, List.length_map, List.length_take]; omega
            have hcl : cn6 ≤ 1048576 := by rw [Hcn6.out]; exact hLl
            have HL := Lib.hid hL; clear hL
            have hsz := hbel.size
            obtain ⟨a2, cc2, hform⟩ := hown.form
            subst hform
            obtain ⟨vs, hvl, hrow, hreps⟩ := hown
            have Hreps := Lib.hid hreps; clear hreps
            have Hvl := Lib.hid hvl; clear hvl
            obtain ⟨o0, o1, o2, o3, o4, o5, of', ol'⟩ := hbox.cells
            clear o0 o1 o2 o3 o4
            obtain ⟨q0, q1, q2, q3, q4, q5, qf, ql⟩ := hbox6.cells
            clear q0 q1 q2 q3 q4
            have Hbox := Lib.hid hbox; clear hbox
            have Hbox4 := Lib.hid hbox4; clear hbox4
            have Hbox6 := Lib.hid hbox6; clear hbox6
            have Hr4 := Lib.hid hr4; clear hr4
            have Hr6 := Lib.hid hr6; clear hr6
            have Hz := Lib.hid hz; clear hz
            have Hbel := Lib.hid hbel; clear hbel
            have Hrow := Lib.hid hrow; clear hrow
            have hi1 : (0 : Int) ≤ (k : Int) := by omega
            have hi2 : (k : Int) < (cn6 : Int) := by omega
            go_upto_region 22 with fail
            go_region_law (first
              | (go_simp; go_at_call 49; (with_reducible refine (Hc49.out _ (by first | exact Below.refl _ _ | exact (Below.refl _ _).drew)).mono ?_); rintro e w5 ⟨⟨kind5, text5, num5, yes5, ka5, kn5, kc5, ca5, cn5, cc5⟩, rfl, hu5, hb5⟩; have hb05 := via (show Below wr.heap.size wr _ by first | exact Below.refl _ _ | exact (Below.refl _ _).drew) hb5; obtain ⟨y0, y1, y2, y3, y4, y5, yf, yl⟩ := (Hbox.out.below hb05).cells)
              | (go_simp; go_at_call 48; (with_reducible refine (Hc48.out _ _ hb05 hu5).mono ?_); rintro e w7 ⟨⟨kind7, text7, num7, yes7, ka7, kn7, kc7, ca7, cn7, cc7⟩, rfl, hu7, hb7⟩; have hb07 := via hb05 hb7; have hbox7 := Hbox.out.below hb07; obtain ⟨z0, z1, z2, z3, z4, z5, zf, zl⟩ := hbox7.cells; have hrow7 := ownsRow_below Hrow.out hb07; have hs7 := hb07.size)
              | (refine step_append_lies _ (by rfl) _ _ _ (by rfl) (w10.heap.size + 1) 31 j0 _ 6 88 Tryz.underlying22 hj jz0 jz1 jz2 rfl (by omega) (.slice a2 L.length cc2) L.length _ (by rfl) (hrow7.alloc _) ⟨w7.heap.size, 0, none⟩ 1 1 [.int .i64 kind7, .string text7, .float .f64 num7, .bool yes7, .slice ka7 kn7 kc7, .slice ca7 cn7 cc7] (by rfl) (by rfl) (World.news_of_block (cs := #[.int .i64 kind7, .string text7, .float .f64 num7, .bool yes7, .slice ka7 kn7 kc7, .slice ca7 cn7 cc7]) (t := 31) (fr := (0, 0)) (heap_alloc_new w7 _)) (by simp [Value.oneCell']) (by omega) (by unfold maxLen; omega) (by omega) (by simp; omega) (w7.heap.size + 1) (by simp) ?_; intro g cap w1 hown1 hgrow hat hlt1; have hbx1 : Box6 w1 w10.heap.size (.int .i64 4) (.string ⟨#[]⟩) (.float .f64 0) (.bool false) (.slice none 0 0) (.slice a2 L.length cc2) := Box6.grown (base := w10.heap.size + 1) hbox7.alloc hgrow (hrow7.alloc _).lt (by omega); obtain ⟨_, _, _, _, _, x5, xf, xl⟩ := hbx1.cells))
            all_goals (
              have hbx : Below w7.heap.size w7 (w7.alloc (.cells #[.int .i64 kind7, .string text7, .float .f64 num7, .bool yes7, .slice ka7 kn7 kc7, .slice ca7 cn7 cc7] 31)) := (Below.refl _ _).alloc (Nat.le_refl _) _
              have hnew : OwnL (fun w S (v : TV) (t : Tr) => RepT w S v t) TV.cells 31 6 w1 (fun b => (b < w10.heap.size ∧ (fun b => S b ∨ w.heap.size + 2 ≤ b) b) ∨ w10.heap.size + 1 ≤ b) (w10.heap.size + 1) (.slice (some ⟨g, 0, none⟩) (L.length + 1) cap) (L ++ [T1]) :=
                OwnL.one (u := (⟨kind7, text7, num7, yes7, ka7, kn7, kc7, ca7, cn7, cc7⟩ : TV)) rep_law Hvl.out (fun i v t hv ht => ((Hreps.out i v t hv ht).keep (Keeps.of_below _ hb07)).keep (Keeps.of_below _ hbx))
                  ((hu7.mono (S' := fun b => ((b < w10.heap.size ∧ (fun b => S b ∨ w.heap.size + 2 ≤ b) b) ∨ w10.heap.size + 1 ≤ b) ∧ (Value.slice a2 L.length cc2).ownBlock ≠ some b) (fun b hb h => ⟨by rcases h with h | h; exact .inl h; exact .inr (by omega), fun e => by have h1 := Hrow.out.lt b e; rcases h with h | h; have := h.1; omega; omega⟩)).keep (Keeps.of_below _ hbx)) hown1 hgrow hat (by simp) rfl rfl
              have hset := grownBy_setCell w1 ⟨w10.heap.size, 5, none⟩ (.slice (some ⟨g, 0, none⟩) (L.length + 1) cap)
              have hgB : (Value.slice (some ⟨g, 0, none⟩) (L.length + 1) cap).ownBlock ≠ some w10.heap.size := fun e => by
                have := (hnew.lt w10.heap.size e).1; omega
              have hnew2 := hnew.setCell rep_law ⟨w10.heap.size, 5, none⟩ (.slice (some ⟨g, 0, none⟩) (L.length + 1) cap) hgB (fun h => by rcases h with h | h; have h2 : w10.heap.size < w10.heap.size := h.1; omega; have h2 : w10.heap.size + 1 ≤ w10.heap.size := h; omega)
              have hbel1 : Below w.heap.size w w1 := ((via Hbel.out hb07).alloc (by omega) _).grown hgrow (by first | omega | (simp; omega)) (fun k hk => by have := (hrow7.lt k hk).1; omega)
              have hbel2 := hbel1.setCell (p := ⟨w10.heap.size, 5, none⟩) (by simp; omega) (.slice (some ⟨g, 0, none⟩) (L.length + 1) cap)
              have hg1 := hgrow.size
              rw [World.size_alloc] at hg1
              have hkeep : ∀ b, b < w10.heap.size → (w1.setCell ⟨w10.heap.size, 5, none⟩ (.slice (some ⟨g, 0, none⟩) (L.length + 1) cap)).heap[b]? = wr.heap[b]? := fun b hb =>
                (hset.block b (by omega) (by simp; omega)).trans ((hgrow.block b (by rw [World.size_alloc]; omega) (fun e => by have := (hrow7.lt b e.symm).1; omega)).trans ((heap_alloc_old _ _ (by omega)).trans (hb07.block b (by omega))))
              have Hnew := Lib.hid hnew2
              have Hbel1 := Lib.hid hbel2
              have Hbx1 := Lib.hid (hbx1.set5 (.slice (some ⟨g, 0, none⟩) (L.length + 1) cap))
              have Hkeep := Lib.hid hkeep
              clear hnew hnew2 hbel1 hbel2 hset hgB hgrow hat hown1 hrow7 hbx1 hbox7 hu7 hu5 hkeep hb7 hb5
              go_wp2_with fail
              go_roundw
              case rel => exact ⟨k + 1, _, by omega, by simp, Hbx1.out, by rw [Htake.out, List.map_append, ← HL.out, List.map_cons, List.map_nil, ← HT1.out]; exact Hnew.out, Box6.keep Hbox4.out (Hkeep.out _ (by omega)), Box6.keep Hbox6.out (Hkeep.out _ (by omega)), Hr4.out.keep (fun b h _ => Hkeep.out b h.1), Hr6.out.keep (fun b h _ => Hkeep.out b h.1), Hz.out.keep (Hkeep.out _ (by omega)), Hbel1.out⟩
              case measure => simp [intOf]; omega)
          · obtain rfl : cn6 = k := by omega
            have htk : LL.kids.take cn6 = LL.kids := List.take_of_length_le (by rw [← Hcn6.out]; exact Nat.le_refl _)
            rw [htk] at hown
            obtain ⟨FL, hFL⟩ : ∃ l, l = LL.kids.map (fun t => mapE (scoredE (prs t))) := ⟨_, rfl⟩
            rw [← hFL] at hown
            have hFLl : FL.length ≤ 1048576 := by rw [hFL, List.length_map]; exact hLl
            have hres : RES = mapT [n_function_score] [mapE (withE n_functions (listT FL) false E)] := by rw [HRES.out, hFL]
            have Hres := Lib.hid hres; clear hres hFL HRES htk
            obtain ⟨aL, cL, hform⟩ := hown.form
            subst hform
            have hrep := hown.list (by omega)
            obtain ⟨o0, o1, o2, o3, o4, o5, of', ol'⟩ := hbox.cells
            obtain ⟨q0, q1, q2, q3, q4, q5, qf, ql⟩ := hbox4.cells
            obtain ⟨r0, r1, r2, r3, r4, r5, rf, rl⟩ := hbox6.cells
            have hsz := hbel.size
            have h45 : Calls Tryz.prog 45 #[TV.val ⟨kind4, text4, num4, yes4, ka4, kn4, kc4, ca4, cn4, cc4⟩, .string ⟨#[102, 117, 110, 99, 116, 105, 111, 110, 115]⟩, TV.val ⟨4, ⟨#[]⟩, 0, false, none, 0, 0, aL, FL.length, cL⟩] wr fun e w' => ∃ v : TV, e = .returned v.val ∧ RepT w' (fun b => S b ∨ w.heap.size + 2 ≤ b) v (mapE (withE n_functions (listT FL) false E)) ∧ Below wr.heap.size wr w' := by
              have h1 := hr4.mono (S' := fun b => b < wr.heap.size ∧ (fun b => S b ∨ w.heap.size + 2 ≤ b) b) (fun b hb h => ⟨hb, h.2⟩)
              have h2 := hrep.mono (S' := fun b => b < wr.heap.size ∧ (fun b => S b ∨ w.heap.size + 2 ≤ b) b) (fun b hb h => ⟨hb, by rcases h with (h | h) | h; exact h.2; exact .inr (by omega); exact .inr (by omega)⟩)
              refine (with_any _ _ n_functions _ _ _ wr h1 h2 (fun b hb => hb.1) (by rw [mapE_keys, mapE_kids, List.length_map, List.length_map]) (by rw [mapE_kids, List.length_map]; omega)).mono ?_
              rintro e w' ⟨v', rfl, hv', hb'⟩
              have e1 := prs_mapE E
              unfold prs at e1
              rw [e1] at hv'
              exact ⟨v', rfl, hv'.mono (fun b _ h => by rcases h with h | h; exact h.2; exact .inr (by omega)), hb'⟩
            have H45 := Lib.hid h45; clear h45 hrep hr4 hr6 hown
            generalize FL.length = nL at *
            have Hz := Lib.hid hz; clear hz
            have Hbel := Lib.hid hbel; clear hbel hbox hbox4 hbox6
            go_wp2_with fail
            refine H45.out.mono ?_
            rintro e w5 ⟨⟨kind5, text5, num5, yes5, ka5, kn5, kc5, ca5, cn5, cc5⟩, rfl, hu5, hb5⟩
            have hm1 := map_one n_function_score ⟨kind5, text5, num5, yes5, ka5, kn5, kc5, ca5, cn5, cc5⟩ _ _ w5 hu5
            have Hm1 := Lib.hid hm1; clear hm1 hu5
            have hz5 := Hz.out.below hb5
            have hbel5 := via Hbel.out hb5
            have hs5 := hbel5.size
            have hzl := (Array.getElem?_eq_some_iff.1 hz5).1
            have Hz5 := Lib.hid hz5; clear hz5
            have Hbel5 := Lib.hid hbel5; clear hbel5 hb5 Hz Hbel o0 o1 o2 o3 o4 o5 of' ol' q0 q1 q2 q3 q4 q5 qf ql r0 r1 r2 r3 r4 r5 rf rl
            go_wp2_with (go_at_call 42; refine Hm1.out.mono ?_; rintro e w7 ⟨⟨kind7, text7, num7, yes7, ka7, kn7, kc7, ca7, cn7, cc7⟩, rfl, hV, hb7⟩; obtain ⟨z0, z1, z2, z3, z4, z5, zf, zl⟩ := (Hz5.out.below hb7).cells)
            have hz7 := Hz5.out.below hb7
            obtain ⟨p0, p1, p2, p3, p4, p5, _, _⟩ := (hz7.put6 (.int .i64 kind7) (.string text7) (.float .f64 num7) (.bool yes7) (.slice ka7 kn7 kc7) (.slice ca7 cn7 cc7)).cells
            refine bodyPost_ret (v := .agg #[.int .i64 kind7, .string text7, .float .f64 num7, .bool yes7, .slice ka7 kn7 kc7, .slice ca7 cn7 cc7]) (by simp [results, Tryz.results11, go_sem, p0, p1, p2, p3, p4, p5]) rfl ?_
            rw [Hres.out]
            exact ⟨⟨kind7, text7, num7, yes7, ka7, kn7, kc7, ca7, cn7, cc7⟩, rfl, ((hV.mono (S' := (fun b => S b ∨ w.heap.size + 2 ≤ b)) (fun b _ h => by rcases h with h | h; exact h; exact .inr (by omega))).put6 (fun h => by rcases h with h | h; have := HS.out _ h; omega; omega) _ _ _ _ _ _).all, Below.put6' (via Hbel5.out hb7) (by omega) _ _ _ _ _ _⟩
end Go.Proofs.YtbcnhcpgloncdaaGreatDoor
