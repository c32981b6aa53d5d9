/- 'plain' of a map; of any proper tree; 'given.Source'. -/
import Derived.Test.YtbcnhcpgloncdaaGreatDoorIc
import Derived.Test.YtbcnhcpgloncdaaGreatDoorHh
namespace Go.Proofs.YtbcnhcpgloncdaaGreatDoor
open Go Go.RowKit Go.BigFrame Go.Maps

set_option maxRecDepth 100000 in
set_option maxHeartbeats 4000000 in
theorem plain_map (t : Tr) (nf : Tr → Tr) (v : TV) (S : Nat → Prop) (w : World) (hv : RepT w S v t) (hk : t.kind = 5) (hl : t.kids.length ≤ 4294967296) (hkl : t.keys.length = t.kids.length) (hnd : t.keys.Nodup) (hks : ∀ k ∈ t.keys, k.size ≤ maxLen)
    (hel : ∀ k ∈ t.kids, ∀ (v : TV) (wr : World), RepT wr S v k → Calls Tryz.prog 121 #[v.val] wr (PlainPost wr (nf k))) : Calls Tryz.prog 121 #[v.val] w (PlainPost w (mapTree (t.keys.zip (t.kids.map nf)))) := by
  obtain ⟨q1, q2, q3, q4, q5, q6⟩ := hv.eqs
  have Hv := Lib.hid hv; clear hv
  have Hel := Lib.hid hel; clear hel
  have Hkl := Lib.hid hkl
  have Hnd := Lib.hid hnd; clear hnd
  have Hks := Lib.hid hks; clear hks
  obtain ⟨kind, text, num, yes, ka, kn, kc, ca, cn, cc⟩ := v
  simp only at q1 q2 q3 q4 q5 q6
  rw [hk] at q1
  rw [hkl] at q5
  obtain ⟨N, hN⟩ : ∃ N, t.kids.length = N := ⟨_, rfl⟩
  rw [hN] at q5 q6 hl
  subst q1 q5 q6
  have HN := Lib.hid hN
  clear q2 q3 q4 hk hkl hN
  have hbox := heap_alloc_new w (.cells #[.int .i64 5, .string text, .float .f64 num, .bool yes, .slice ka cn kc, .slice ca cn cc] 31)
  have Hbox := Lib.hid hbox; clear hbox
  have hm0 := World.ownsMap_made (w.alloc (.cells #[.int .i64 5, .string text, .float .f64 num, .bool yes, .slice ka cn kc, .slice ca cn cc] 31)) Tryz.prog 9 R9
  have hz1 : (w.alloc (.cells #[.int .i64 5, .string text, .float .f64 num, .bool yes, .slice ka cn kc, .slice ca cn cc] 31)).heap.size = w.heap.size + 1 := by simp
  rw [hz1] at hm0
  have Hm0 := Lib.hid hm0; clear hm0
  go_enter Tryz.func121, Tryz.ntmps121
  go_wp2_with fail
  go_loopw [35] (fun i wr => ∃ (k n : Nat) (es : List (ByteArray × Value)), k ≤ cn ∧ n ≤ k ∧ i = .int .i64 k ∧ wr.ownsMap Tryz.prog 9 R9 (w.heap.size + 1) n (dput es) ∧ EntriesOK wr (fun b => w.heap.size + 2 ≤ b) es ((t.keys.zip (t.kids.map nf)).take k) ∧
      Below (w.heap.size + 1) (w.alloc (.cells #[.int .i64 5, .string text, .float .f64 num, .bool yes, .slice ka cn kc, .slice ca cn cc] 31)) wr ∧ w.heap.size + 2 ≤ wr.heap.size) (fun i _ => cn - (intOf i).toNat)
  case atStart =>
    exact ⟨0, 0, [], Nat.zero_le _, Nat.le_refl _, rfl, Hm0.out, by simpa using EntriesOK.nil _ _, (Below.refl _ _).alloc (by simp) _, by simp⟩
  case round =>
    obtain ⟨k, n, es, hk, hnk, rfl, hmap, hes, hbel, hsz⟩ := hrel
    have hbox1 := (hbel.block w.heap.size (by omega)).trans Hbox.out
    have b5 : wr.cell? ⟨w.heap.size, 5, none⟩ = some (.slice ca cn cc) := by simp [World.cell?, hbox1]
    have hw0 : Below w.heap.size w wr := ((Below.refl _ _).alloc (Nat.le_refl _) _).trans (hbel.mono (by omega))
    have Hes := Lib.hid hes; clear hes
    have Hmap := Lib.hid hmap; clear hmap
    by_cases hlt : k < cn
    · have hlt' : k < t.kids.length := by rw [HN.out]; exact hlt
      have hltk : k < t.keys.length := by rw [Hkl.out]; exact hlt'
      have hvr := Hv.out.keep (Keeps.of_below S hw0)
      obtain ⟨b, o, v', hca, hSb, hlb, ⟨e0, e1, e2, e3, e4, e5⟩, hrv⟩ := hvr.kid (k := k) hlt'
      obtain ⟨bk, ok, hka, _, hlbk, ck⟩ := hvr.key (k := k) hltk
      simp only at hca hka
      subst hca hka
      have hzip : Hid ((t.keys.zip (t.kids.map nf)).take (k + 1) = (t.keys.zip (t.kids.map nf)).take k ++ [(t.keys[k], nf t.kids[k])]) := Lib.hid (by
        rw [List.take_succ_eq_append_getElem (by simp; omega)]; simp)
      have hkey := Go.WideMaps.keyOf_string_mk (P := Tryz.prog) (k := 9) Tryz.underlying9 (Hks.out t.keys[k] (List.getElem_mem hltk))
      have hc := Hel.out t.kids[k] (List.getElem_mem hlt')
      generalize t.keys[k] = key at *
      generalize t.kids[k] = kid at *
      obtain ⟨kind', text', num', yes', ka', kn', kc', ca', cn', cc'⟩ := v'
      simp only at e0 e1 e2 e3 e4 e5
      have Hrv := Lib.hid hrv; clear hrv hvr
      have Hc := Lib.hid hc; clear hc
      have Hw0 := Lib.hid hw0; clear hw0
      have Hbel := Lib.hid hbel; clear hbel hbox1
      have hi1 : (0 : Int) ≤ (k : Int) := by omega
      have hi2 : (k : Int) < (cn : Int) := by omega
      have hnm : n < maxLen := by unfold maxLen; omega
      go_wp2_with fail
      refine (Hc.out ⟨kind', text', num', yes', ka', kn', kc', ca', cn', cc'⟩ _ Hrv.out).mono ?_
      rintro e w2 ⟨ty, x, rfl, hu, hb2⟩
      have hm2 := Hmap.out.kept (Below.grow hb2) (by simp)
      have hes2 := Hes.out.keep (Keeps.of_below _ hb2)
      have Hm2 := Lib.hid hm2; clear hm2
      have Hes2 := Lib.hid hes2; clear hes2
      have Hu := Lib.hid hu; clear hu
      have Hb2 := Lib.hid hb2; clear hb2
      go_wp2_with (at_mapUpdate; refine wpList_mapUpdate_own _ rfl _ _ _ 122 rfl 9 20 keyed9 Tryz.underlying122 R9 (w.heap.size + 1) n _ rfl Hm2.out hnm (.string key) (.iface ty x) _ rfl rfl hkey (.held (.iface ty x)) [] rfl ?_; intro w3 hm3 hg3)
      have hsz2 := Hb2.out.size
      have hg3s := hg3.size
      have hkeep3 : Keeps (fun b => w.heap.size + 2 ≤ b) w2 w3 := fun b hb1 hb3 => hg3.block b hb3 (by intro e; injection e with e; omega)
      have hm3' : w3.ownsMap Tryz.prog 9 R9 (w.heap.size + 1) (n + 1) (dput (es ++ [(key, .iface ty x)])) := by rw [dput_snoc]; exact hm3
      have hes3 : EntriesOK w3 (fun b => w.heap.size + 2 ≤ b) (es ++ [(key, .iface ty x)]) ((t.keys.zip (t.kids.map nf)).take (k + 1)) := by
        rw [hzip.out]
        refine (Hes2.out.keep hkeep3).snoc key ?_
        exact (Hu.out.mono (fun b _ hb => by omega)).keep hkeep3
      have hbel3 : Below (w.heap.size + 1) (w.alloc (.cells #[.int .i64 5, .string text, .float .f64 num, .bool yes, .slice (some ⟨bk, ok, none⟩) cn kc, .slice (some ⟨b, o, none⟩) cn cc] 31)) w3 := (Hbel.out.trans (Hb2.out.mono (by omega))).grown hg3 (by omega) (fun k hk => by injection hk; omega)
      have Hm3 := Lib.hid hm3'
      have Hes3 := Lib.hid hes3
      have Hbel3 := Lib.hid hbel3
      clear hm3 hm3' hes3 hbel3 hkeep3 hg3
      go_wp2_with fail
      go_roundw
      case rel => exact ⟨k + 1, n + 1, _, by omega, by omega, by simp, Hm3.out, Hes3.out, Hbel3.out, by omega⟩
      case measure => simp [intOf]; omega
    · obtain rfl : k = cn := by omega
      have Hw0 := Lib.hid hw0; clear hw0 hbel hbox1
      go_wp2_with fail
      go_ret
      refine ⟨122, .map (some (w.heap.size + 1)), by simp, ?_, Hw0.out⟩
      have hes := Hes.out
      have hlen : (t.keys.zip (t.kids.map nf)).length = k := by simp [Hkl.out, HN.out]
      rw [List.take_of_length_le (by omega)] at hes
      have hfst : (t.keys.zip (t.kids.map nf)).map (·.1) = t.keys := by
        rw [List.map_fst_zip]; simp [Hkl.out]
      have hel : es.length = k := by have := congrArg List.length hes.1; simpa [hlen, hfst, Hkl.out, HN.out] using this
      refine map_any (S := fun b => w.heap.size ≤ b) (by omega) Hmap.out (by omega) (by rw [hes.1, hfst]; exact Hnd.out) ⟨hes.1, fun i e t h1 h2 => (hes.2 i e t h1 h2).mono (fun b _ hb => by omega)⟩

theorem plain_any (d : Nat) : ∀ (t : Tr) (n r : Nat), n ≤ 4294967296 → r ≤ 9223372036854775807 → OkT n r t → properT d t = true → ∀ (v : TV) (S : Nat → Prop) (w : World), RepT w S v t → Calls Tryz.prog 121 #[v.val] w (PlainPost w (normT d t)) := by
  have hleaf : ∀ (t : Tr), scalarP t = true → t.kind = 1 ∨ t.kind = 2 ∨ t.kind = 3 := by
    intro t h
    unfold scalarP at h
    split at h
    · cases h
    · split at h
      · exact .inl (by assumption)
      · split at h
        · exact .inr (.inl (by assumption))
        · exact .inr (.inr (by simpa using h))
  induction d with
  | zero =>
    intro t n r _ _ _ hp v S w hv
    exact plain_leaf t v S w hv (hleaf t hp)
  | succ d ih =>
    intro t n r hn hr hok hp v S w hv
    have hsz := hok.size
    unfold normT
    by_cases h4 : t.kind = 4
    · rw [if_pos h4]
      obtain ⟨hkids, _, _⟩ := proper_kids hp (.inl h4)
      exact plain_list t (normT d) v S w hv h4 (by omega) (fun k hk v wr hr' => ih k n r hn hr (hok.kid hk) (hkids k hk) v S wr hr')
    · rw [if_neg h4]
      by_cases h5 : t.kind = 5
      · rw [if_pos h5]
        obtain ⟨hkids, _, hm⟩ := proper_kids hp (.inr h5)
        have hm := hm h5
        exact plain_map t (normT d) v S w hv h5 (by omega) hm.len hm.nodup (fun k hk => by have := (hok.key hk).2; unfold maxLen; omega) (fun k hk v wr hr' => ih k n r hn hr (hok.kid hk) (hkids k hk) v S wr hr')
      · rw [if_neg h5]
        have : scalarP t = true := by
          unfold properT at hp
          rwa [if_pos ⟨h4, h5⟩] at hp
        exact plain_leaf t v S w hv (hleaf t this)

/-- 'Source' of a given tree. -/
theorem given_any (t : Tr) (n r d : Nat) (hn : n ≤ 4294967296) (hr : r ≤ 9223372036854775807) (hok : OkT n r t) (hp : properT d t = true) (v : TV) (S : Nat → Prop) (w : World) (hv : RepT w S v t) :
    Calls Tryz.prog 277 #[v.val] w fun e w' => ∃ ty x, e = .returned (.tuple #[.iface ty x, .nilIface]) ∧ AnyAt w' (fun b => w.heap.size ≤ b) (.iface ty x) (normT d t) ∧ Below w.heap.size w w' := by
  obtain ⟨kind, text, num, yes, ka, kn, kc, ca, cn, cc⟩ := v
  have hb := (Below.refl w.heap.size w).alloc (Nat.le_refl _) (.cells #[.int .i64 kind, .string text, .float .f64 num, .bool yes, .slice ka kn kc, .slice ca cn cc] 59)
  have hc := plain_any d t n r hn hr hok hp _ S _ (hv.keep (Keeps.of_below S hb))
  have Hc := Lib.hid hc; clear hc hv hok hp
  have Hb := Lib.hid hb; clear hb
  go_enter Tryz.func277, Tryz.ntmps277
  go_wp2_with fail
  refine Hc.out.mono ?_
  rintro e w2 ⟨ty, x, rfl, hu, hb2⟩
  have Hu := Lib.hid hu; clear hu
  have Hb2 := Lib.hid hb2; clear hb2
  go_wp2_with fail
  refine bodyPost_ret (v := .tuple #[.iface ty x, .nilIface]) (by simp [results, Tryz.results277, go_sem]) rfl ?_
  exact ⟨ty, x, rfl, Hu.out.mono (fun b _ hb => by simp at hb; omega), via Hb.out Hb2.out⟩
end Go.Proofs.YtbcnhcpgloncdaaGreatDoor
