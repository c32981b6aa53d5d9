/- The law 'FnBool' says yes of all settings, where they are not too many. -/
import Derived.Test.YtbcnhcpgloncdaaGreatDoorIv
import Derived.Test.YtbcnhcpgloncdaaGreatDoorIu
namespace Go.Proofs.YtbcnhcpgloncdaaGreatDoor
open Go Go.RowKit Go.BigFrame

theorem msmOf_small {sets : List SetM} {n r : Nat} (hr : r ≤ 9223372036854775807) (hok : ∀ s ∈ sets, OkT n r s.val) (h : ∀ s ∈ sets, fitBool s = true) : (msmOf sets).size ≤ 9223372036854775807 := by
  induction sets using snoc_ind with
  | h0 => decide
  | h1 l s ih =>
    have ih := ih (fun x hx => hok x (by simp [hx])) (fun x hx => h x (by simp [hx]))
    rw [msmOf_snoc]
    unfold msmStep
    split
    · exact Nat.le_trans (hok s (by simp)).text hr
    · split
      · rename_i hn
        obtain ⟨n, hn1, hn2⟩ := fitBool_whole h s (by simp) hn
        exact itoaB_small hn1 hn2
      · exact ih

set_option maxRecDepth 100000 in
set_option maxHeartbeats 8000000 in
theorem fnBool_any (sets : List SetM) (S : Nat → Prop) (a : Option Addr) (c : Nat) (w : World) (n r : Nat) (hsets : SetsAt w S a sets) (hn : n ≤ 1048576) (hr : r ≤ 9223372036854775807) (hok : ∀ s ∈ sets, OkT n r s.val) (hsum : (sets.map bulkS).sum ≤ 1048576)
    (htab : ∀ wx, Below w.heap.size w wx → Lib.TabIs Tryz.prog wx "internal/strconv.uint64pow10" .u64 Lib.pow10Tab) :
    Calls Tryz.prog 5 #[.slice a sets.length c] w fun e w' => e = .returned (.bool true) ∧ Below w.heap.size w w' := by
  have hl : sets.length ≤ 1048576 := Nat.le_trans (sets_bulk sets) hsum
  have hfits := fits_Bool sets S a c w hsets (by omega)
  cases hF : sets.all fitBool with
  | false =>
    rw [hF] at hfits
    have Hfits := Lib.hid hfits; clear hfits hF hsets hok hsum htab
    go_enter Tryz.func5, Tryz.ntmps5
    go_wp2_with (go_at_call 8; refine Hfits.out.mono ?_; rintro e w2 ⟨rfl, hb2⟩)
    go_ret
    exact ⟨rfl, hb2⟩
  | true =>
    rw [hF] at hfits
    have hfit : ∀ s ∈ sets, fitBool s = true := List.all_eq_true.1 hF
    have hbd : ∀ place, (clausesT place sets).length ≤ 1048576 := fun pl => Nat.le_trans (clauses_bulk pl sets) hsum
    have hsrc : ∀ wr h, BQ wr h sets → Calls Tryz.prog 91 #[.pointer (some ⟨h + 5, 0, none⟩)] wr fun e w' => ∃ v, e = .returned (.tuple #[v, .nilIface]) ∧ AnyAt w' (fun _ => True) v (boolT sets) ∧ Below wr.heap.size wr w' :=
      fun wr h hq => srcBool_any sets wr h hq n r (by omega) hr (fun pl hpl => clauses_ok hok hfit (places_kind pl hpl)) hbd (fun s hs => Nat.le_trans (hok s hs).text hr) (msmOf_small hr hok hfit)
    have himpl : ∀ wx, Below w.heap.size w wx → Calls Tryz.prog 17 #[.slice a sets.length c] wx (ToldPost wx (boolT sets)) := fun wx hb =>
      implBool_any sets (boolT sets) _ a c wx (hsets.lts.keep (Keeps.of_below _ hb)) (fun b hb' => Nat.lt_of_lt_of_le hb' hb.size) hl (fun s hs => fitBool_name (hfit s hs)) (fitBool_pos hfit) hbd (fun s hs => Nat.le_trans (kids_bulk hs) hsum) (fitBool_whole hfit)
        (fun wy hy => htab wy (via hb hy)) (fun wr hb' hq => hsrc wr _ hq)
    have hspec : ∀ wx, Below w.heap.size w wx → Calls Tryz.prog 19 #[.slice a sets.length c] wx (TreeA wx (besideT n_bool (specPairs sets))) := fun wx hb =>
      specBool_any sets _ a c wx (hsets.lts.keep (Keeps.of_below _ hb)) (fun b hb' => Nat.lt_of_lt_of_le hb' hb.size) hl (fitBool_pos hfit) hbd (fitBool_whole hfit) (fun wy hy => htab wy (via hb hy))
    have hread : ∀ wx (v : TV), RepT wx (fun _ => True) v (boolT sets) → Calls Tryz.prog 18 #[v.val] wx (TreeA wx (mapT [n_bool] [mapE (besideE placesB (mapTE (boolSrc sets 8)))])) := by
      intro wx v hv
      rw [boolT_eq] at hv
      have := readBool_any (mapE (mapTE (boolSrc sets 8))) v wx hv rfl (by rw [mapE_keys, mapE_kids, List.length_map, List.length_map]) (by rw [mapE_kids, List.length_map]; have := boolTE_length sets; omega) (by rw [prs_mapE]; exact msm_text sets)
      rw [prs_mapE] at this
      exact this
    have hsame := bool_same hfit
    generalize mapT [n_bool] [mapE (besideE placesB (mapTE (boolSrc sets 8)))] = T1 at hread hsame
    generalize besideT n_bool (specPairs sets) = T2 at hspec hsame
    generalize boolT sets = T0 at himpl hread
    have Hsame := Lib.hid (fun v v' S S' w => same_any hsame v v' S S' w); clear hsame
    have Hfits := Lib.hid hfits; clear hfits
    have Himpl := Lib.hid himpl; clear himpl
    have Hspec := Lib.hid hspec; clear hspec
    have Hread := Lib.hid hread; clear hread
    clear hsrc hbd hfit hF hsets hok hsum htab
    go_enter Tryz.func5, Tryz.ntmps5
    go_upto_region 5 with (go_at_call 8; refine Hfits.out.mono ?_; rintro e w2 ⟨rfl, hb2⟩)
    go_upto_region 6 with (go_at_call 17; refine (Himpl.out _ hb2).mono ?_; rintro e w3 ⟨⟨kd, tx, nm, ys, ka, kn, kc, ca, cn, cc⟩, rfl, hv, hb3⟩)
    have hba : Below w3.heap.size w3 (w3.alloc (.cells #[.int .i64 kd, .string tx, .float .f64 nm, .bool ys, .slice ka kn kc, .slice ca cn cc] 31)) := (Below.refl _ _).alloc (Nat.le_refl _) _
    have hv4 := hv.all.on hba
    have Hbel := Lib.hid (via (via hb2 hb3) hba)
    have Hv4 := Lib.hid hv4
    clear hv hv4 hba hb2 hb3
    go_wp2_with (first
      | (go_at_call 18; refine (Hread.out _ ⟨kd, tx, nm, ys, ka, kn, kc, ca, cn, cc⟩ Hv4.out).mono ?_; rintro e w5 ⟨⟨kd5, tx5, nm5, ys5, ka5, kn5, kc5, ca5, cn5, cc5⟩, rfl, hv5, hb5⟩)
      | (go_at_call 19; refine (Hspec.out _ (via Hbel.out hb5)).mono ?_; rintro e w6 ⟨⟨kd6, tx6, nm6, ys6, ka6, kn6, kc6, ca6, cn6, cc6⟩, rfl, hv6, hb6⟩)
      | (go_at_call 10; refine (Hsame.out ⟨kd5, tx5, nm5, ys5, ka5, kn5, kc5, ca5, cn5, cc5⟩ ⟨kd6, tx6, nm6, ys6, ka6, kn6, kc6, ca6, cn6, cc6⟩ _ _ _ (hv5.on hb6) hv6).mono ?_; rintro e w7 ⟨rfl, hb7⟩))
    go_ret
    exact ⟨rfl, via (via (via Hbel.out hb5) hb6) hb7⟩
end Go.Proofs.YtbcnhcpgloncdaaGreatDoor
