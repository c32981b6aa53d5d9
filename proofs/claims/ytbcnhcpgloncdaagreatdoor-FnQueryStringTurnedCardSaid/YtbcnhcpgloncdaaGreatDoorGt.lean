/- 'impl.QueryString': the settings are told to the builder, one behind the other. -/
import Derived.Test.YtbcnhcpgloncdaaGreatDoorGs1
namespace Go.Proofs.YtbcnhcpgloncdaaGreatDoor
open Go Go.RowKit Go.Maps

def namesQS : List ByteArray := [n_field, n_field_with_boost, n_allow_leading_wildcard, n_analyze_wildcard, n_analyzer, n_boost, n_default_field, n_default_operator, n_enable_position_increments, n_escape, n_fuzziness, n_fuzzy_max_expansions, n_fuzzy_prefix_length, n_fuzzy_rewrite, n_lenient, n_max_determinized_states, n_minimum_should_match, n_phrase_slop, n_quote_analyzer, n_quote_field_suffix, n_rewrite, n_tie_breaker, n_time_zone, n_type, n__name]

theorem no_field_before {sets : List SetM} (h : (sets.filter isField).length ≤ 1) {k : Nat} (hk : k < sets.length) (hf : isField sets[k] = true) : (sets.take k).filter isField = [] := by
  have hs : sets = sets.take k ++ sets[k] :: sets.drop (k + 1) := by rw [← List.drop_eq_getElem_cons hk]; simp
  rw [hs, List.filter_append, List.filter_cons, if_pos hf, List.length_append, List.length_cons] at h
  exact List.length_eq_zero_iff.1 (by omega)

set_option maxRecDepth 100000 in
set_option maxHeartbeats 40000000 in
theorem queryString_any (text : ByteArray) (sets : List SetM) (T : Tr) (S : Nat → Prop) (a : Option Addr) (c : Nat) (w : World) (hsets : SetsAt w S a sets) (hl : sets.length ≤ 9223372036854775807) (hfl : (sets.filter isField).length ≤ 1)
    (hwh : ∀ s ∈ sets, s.name ∈ wholes → ∃ n, floatToIntVal .f64 s.val.num .i64 = some n) (hnm : ∀ s ∈ sets, s.name ∈ namesQS)
    (hsrc : ∀ wr h, Below w.heap.size w wr → QState wr h fkQS 28 132 text sets → Calls Tryz.prog 79 #[.pointer (some ⟨h + 3, 0, none⟩)] wr fun e w' => ∃ v, e = .returned (.tuple #[v, .nilIface]) ∧ AnyAt w' (fun _ => True) v T ∧ Below wr.heap.size wr w') :
    Calls Tryz.prog 15 #[.string text, .slice a sets.length c] w (ToldPost w T) := by
  have Hsets := Lib.hid hsets; clear hsets
  have Hsrc := Lib.hid hsrc; clear hsrc
  have Hfl := Lib.hid hfl; clear hfl
  have Hwh := Lib.hid hwh; clear hwh
  have Hnm := Lib.hid hnm; clear hnm
  go_enter Tryz.func15, Tryz.ntmps15
  go_wp2_with (go_at_call 53; refine (new_qs _ w.heap.size (by simp) text).mono ?_; rintro e w1 ⟨rfl, hq1, hb1⟩)
  have hz1 : Zero6 w1 w.heap.size := Box6.keep (heap_alloc_new w _) (hb1.block _ (by simp))
  have hbel1 : Below w.heap.size w w1 := ((Below.refl _ _).alloc (Nat.le_refl _) _).trans (hb1.mono (by simp))
  go_loopw [13, 8] (fun i _ wr => ∃ k : Nat, k ≤ sets.length ∧ i = .int .i64 k ∧ QState wr w.heap.size fkQS 28 132 text (sets.take k) ∧ Zero6 wr w.heap.size ∧ Below w.heap.size w wr) (fun i _ _ => sets.length - (intOf i).toNat)
  case atStart => exact ⟨0, Nat.zero_le _, rfl, hq1, hz1, hbel1⟩
  case round =>
    clear hq1 hz1 hbel1 hb1
    obtain ⟨k, hk, rfl, hq, hz, hbel⟩ := hrel
    by_cases hlt : k < sets.length
    · obtain ⟨b', o, v, hca, hSb, hlb, c0, c1, c2, c3, c4, c5, c6, hv⟩ := (Hsets.out.keep (Keeps.of_below S hbel)).cells (k := k) hlt
      subst hca
      obtain ⟨e1, e2, e3, e4, e5, e6⟩ := hv.eqs
      obtain ⟨hts, _, _⟩ := hv.bounds
      rw [e2] at c2
      rw [e3] at c3
      rw [e4] at c4
      have hmem : sets[k] ∈ sets := by simp
      have hname := Hnm.out _ hmem
      have hw := Hwh.out _ hmem
      have hfb := no_field_before Hfl.out hlt
      have Htake : Hid (sets.take (k + 1) = sets.take k ++ [sets[k]]) := Lib.hid (List.take_succ_eq_append_getElem hlt)
      generalize sets[k] = s at *
      generalize sets.take k = done at *
      have hqb := hq.below ((Below.refl _ _).alloc (Nat.le_refl _) (.cells #[.string s.name, .int .i64 v.kind, .string s.val.text, .float .f64 s.val.num, .bool s.val.yes, .slice v.ka v.kn v.kc, .slice v.ca v.cn v.cc] 54))
      have hzl : w.heap.size < wr.heap.size := (Array.getElem?_eq_some_iff.1 hz).1
      have Hq := Lib.hid hqb; clear hqb hq
      have Hz := Lib.hid hz; clear hz
      have Hbel := Lib.hid hbel; clear hbel
      have Hw := Lib.hid hw; clear hw
      have Hfb := Lib.hid hfb; clear hfb
      clear hv e1 e2 e3 e4 e5 e6 hmem hlb hSb
      have hi1 : (0 : Int) ≤ (k : Int) := by omega
      have hi2 : (k : Int) < (sets.length : Int) := by omega
      simp only [namesQS, List.mem_cons, List.not_mem_nil, or_false] at hname
      rcases hname with hname | hname | hname | hname | hname | hname | hname | hname | hname | hname | hname | hname | hname | hname | hname | hname | hname | hname | hname | hname | hname | hname | hname | hname | hname
      · as_aux_lemma =>
        rw [show s.name = ⟨#[102, 105, 101, 108, 100]⟩ from hname] at c0
        have Hn : Hid (s.name = n_field) := Lib.hid hname
        have Hq' : Hid (QState (wr.alloc (.cells #[.string ⟨#[102, 105, 101, 108, 100]⟩, .int .i64 v.kind, .string s.val.text, .float .f64 s.val.num, .bool s.val.yes, .slice v.ka v.kn v.kc, .slice v.ca v.cn v.cc] 54)) w.heap.size fkQS 28 132 text done) := Lib.hid (by
          have := Hq.out
          rw [show s.name = ⟨#[102, 105, 101, 108, 100]⟩ from hname] at this
          exact this)
        clear hname Hq
        go_wp2_with (go_at_call 54; refine (set_field _ w.heap.size text done s Hn.out (Hfb.out (by simp [isField, show s.name = nField from Hn.out])) Hq'.out).mono ?_; rintro e w2 ⟨rfl, hq2, hb2⟩)
        have hz2 := Hz.out.keep ((hb2.block _ (by omega)).trans (heap_alloc_old _ _ hzl))
        have hbel2 := (Hbel.out.alloc Hbel.out.size _).trans (hb2.mono (by omega))
        go_roundw
        case rel => exact ⟨k + 1, by omega, by simp, by rw [Htake.out]; exact hq2, hz2, hbel2⟩
        case measure => simp [intOf]; omega
      · as_aux_lemma =>
        rw [show s.name = ⟨#[102, 105, 101, 108, 100, 95, 119, 105, 116, 104, 95, 98, 111, 111, 115, 116]⟩ from hname] at c0
        have Hn : Hid (s.name = n_field_with_boost) := Lib.hid hname
        have Hq' : Hid (QState (wr.alloc (.cells #[.string ⟨#[102, 105, 101, 108, 100, 95, 119, 105, 116, 104, 95, 98, 111, 111, 115, 116]⟩, .int .i64 v.kind, .string s.val.text, .float .f64 s.val.num, .bool s.val.yes, .slice v.ka v.kn v.kc, .slice v.ca v.cn v.cc] 54)) w.heap.size fkQS 28 132 text done) := Lib.hid (by
          have := Hq.out
          rw [show s.name = ⟨#[102, 105, 101, 108, 100, 95, 119, 105, 116, 104, 95, 98, 111, 111, 115, 116]⟩ from hname] at this
          exact this)
        clear hname Hq
        go_wp2_with (go_at_call 55; refine (set_field_with_boost _ w.heap.size text done s Hn.out (Hfb.out (by simp [isField, show s.name = nFieldBoost from Hn.out])) hts Hq'.out).mono ?_; rintro e w2 ⟨rfl, hq2, hb2⟩)
        have hz2 := Hz.out.keep ((hb2.block _ (by omega)).trans (heap_alloc_old _ _ hzl))
        have hbel2 := (Hbel.out.alloc Hbel.out.size _).trans (hb2.mono (by omega))
        go_roundw
        case rel => exact ⟨k + 1, by omega, by simp, by rw [Htake.out]; exact hq2, hz2, hbel2⟩
        case measure => simp [intOf]; omega
      · as_aux_lemma =>
        rw [show s.name = ⟨#[97, 108, 108, 111, 119, 95, 108, 101, 97, 100, 105, 110, 103, 95, 119, 105, 108, 100, 99, 97, 114, 100]⟩ from hname] at c0
        have Hn : Hid (s.name = n_allow_leading_wildcard) := Lib.hid hname
        have Hq' : Hid (QState (wr.alloc (.cells #[.string ⟨#[97, 108, 108, 111, 119, 95, 108, 101, 97, 100, 105, 110, 103, 95, 119, 105, 108, 100, 99, 97, 114, 100]⟩, .int .i64 v.kind, .string s.val.text, .float .f64 s.val.num, .bool s.val.yes, .slice v.ka v.kn v.kc, .slice v.ca v.cn v.cc] 54)) w.heap.size fkQS 28 132 text done) := Lib.hid (by
          have := Hq.out
          rw [show s.name = ⟨#[97, 108, 108, 111, 119, 95, 108, 101, 97, 100, 105, 110, 103, 95, 119, 105, 108, 100, 99, 97, 114, 100]⟩ from hname] at this
          exact this)
        clear hname Hq
        go_wp2_with (go_at_call 56; refine (set_allow_leading_wildcard _ w.heap.size text done s Hn.out Hq'.out).mono ?_; rintro e w2 ⟨rfl, hq2, hb2⟩)
        have hz2 := Hz.out.keep ((hb2.block _ (by omega)).trans (heap_alloc_old _ _ hzl))
        have hbel2 := (Hbel.out.alloc Hbel.out.size _).trans (hb2.mono (by omega))
        go_roundw
        case rel => exact ⟨k + 1, by omega, by simp, by rw [Htake.out]; exact hq2, hz2, hbel2⟩
        case measure => simp [intOf]; omega
      · as_aux_lemma =>
        rw [show s.name = ⟨#[97, 110, 97, 108, 121, 122, 101, 95, 119, 105, 108, 100, 99, 97, 114, 100]⟩ from hname] at c0
        have Hn : Hid (s.name = n_analyze_wildcard) := Lib.hid hname
        have Hq' : Hid (QState (wr.alloc (.cells #[.string ⟨#[97, 110, 97, 108, 121, 122, 101, 95, 119, 105, 108, 100, 99, 97, 114, 100]⟩, .int .i64 v.kind, .string s.val.text, .float .f64 s.val.num, .bool s.val.yes, .slice v.ka v.kn v.kc, .slice v.ca v.cn v.cc] 54)) w.heap.size fkQS 28 132 text done) := Lib.hid (by
          have := Hq.out
          rw [show s.name = ⟨#[97, 110, 97, 108, 121, 122, 101, 95, 119, 105, 108, 100, 99, 97, 114, 100]⟩ from hname] at this
          exact this)
        clear hname Hq
        go_wp2_with (go_at_call 57; refine (set_analyze_wildcard _ w.heap.size text done s Hn.out Hq'.out).mono ?_; rintro e w2 ⟨rfl, hq2, hb2⟩)
        have hz2 := Hz.out.keep ((hb2.block _ (by omega)).trans (heap_alloc_old _ _ hzl))
        have hbel2 := (Hbel.out.alloc Hbel.out.size _).trans (hb2.mono (by omega))
        go_roundw
        case rel => exact ⟨k + 1, by omega, by simp, by rw [Htake.out]; exact hq2, hz2, hbel2⟩
        case measure => simp [intOf]; omega
      · as_aux_lemma =>
        rw [show s.name = ⟨#[97, 110, 97, 108, 121, 122, 101, 114]⟩ from hname] at c0
        have Hn : Hid (s.name = n_analyzer) := Lib.hid hname
        have Hq' : Hid (QState (wr.alloc (.cells #[.string ⟨#[97, 110, 97, 108, 121, 122, 101, 114]⟩, .int .i64 v.kind, .string s.val.text, .float .f64 s.val.num, .bool s.val.yes, .slice v.ka v.kn v.kc, .slice v.ca v.cn v.cc] 54)) w.heap.size fkQS 28 132 text done) := Lib.hid (by
          have := Hq.out
          rw [show s.name = ⟨#[97, 110, 97, 108, 121, 122, 101, 114]⟩ from hname] at this
          exact this)
        clear hname Hq
        go_wp2_with (go_at_call 58; refine (set_analyzer _ w.heap.size text done s Hn.out Hq'.out).mono ?_; rintro e w2 ⟨rfl, hq2, hb2⟩)
        have hz2 := Hz.out.keep ((hb2.block _ (by omega)).trans (heap_alloc_old _ _ hzl))
        have hbel2 := (Hbel.out.alloc Hbel.out.size _).trans (hb2.mono (by omega))
        go_roundw
        case rel => exact ⟨k + 1, by omega, by simp, by rw [Htake.out]; exact hq2, hz2, hbel2⟩
        case measure => simp [intOf]; omega
      · as_aux_lemma =>
        rw [show s.name = ⟨#[98, 111, 111, 115, 116]⟩ from hname] at c0
        have Hn : Hid (s.name = n_boost) := Lib.hid hname
        have Hq' : Hid (QState (wr.alloc (.cells #[.string ⟨#[98, 111, 111, 115, 116]⟩, .int .i64 v.kind, .string s.val.text, .float .f64 s.val.num, .bool s.val.yes, .slice v.ka v.kn v.kc, .slice v.ca v.cn v.cc] 54)) w.heap.size fkQS 28 132 text done) := Lib.hid (by
          have := Hq.out
          rw [show s.name = ⟨#[98, 111, 111, 115, 116]⟩ from hname] at this
          exact this)
        clear hname Hq
        go_wp2_with (go_at_call 59; refine (set_boost _ w.heap.size text done s Hn.out Hq'.out).mono ?_; rintro e w2 ⟨rfl, hq2, hb2⟩)
        have hz2 := Hz.out.keep ((hb2.block _ (by omega)).trans (heap_alloc_old _ _ hzl))
        have hbel2 := (Hbel.out.alloc Hbel.out.size _).trans (hb2.mono (by omega))
        go_roundw
        case rel => exact ⟨k + 1, by omega, by simp, by rw [Htake.out]; exact hq2, hz2, hbel2⟩
        case measure => simp [intOf]; omega
      · as_aux_lemma =>
        rw [show s.name = ⟨#[100, 101, 102, 97, 117, 108, 116, 95, 102, 105, 101, 108, 100]⟩ from hname] at c0
        have Hn : Hid (s.name = n_default_field) := Lib.hid hname
        have Hq' : Hid (QState (wr.alloc (.cells #[.string ⟨#[100, 101, 102, 97, 117, 108, 116, 95, 102, 105, 101, 108, 100]⟩, .int .i64 v.kind, .string s.val.text, .float .f64 s.val.num, .bool s.val.yes, .slice v.ka v.kn v.kc, .slice v.ca v.cn v.cc] 54)) w.heap.size fkQS 28 132 text done) := Lib.hid (by
          have := Hq.out
          rw [show s.name = ⟨#[100, 101, 102, 97, 117, 108, 116, 95, 102, 105, 101, 108, 100]⟩ from hname] at this
          exact this)
        clear hname Hq
        go_wp2_with (go_at_call 60; refine (set_default_field _ w.heap.size text done s Hn.out Hq'.out).mono ?_; rintro e w2 ⟨rfl, hq2, hb2⟩)
        have hz2 := Hz.out.keep ((hb2.block _ (by omega)).trans (heap_alloc_old _ _ hzl))
        have hbel2 := (Hbel.out.alloc Hbel.out.size _).trans (hb2.mono (by omega))
        go_roundw
        case rel => exact ⟨k + 1, by omega, by simp, by rw [Htake.out]; exact hq2, hz2, hbel2⟩
        case measure => simp [intOf]; omega
      · as_aux_lemma =>
        rw [show s.name = ⟨#[100, 101, 102, 97, 117, 108, 116, 95, 111, 112, 101, 114, 97, 116, 111, 114]⟩ from hname] at c0
        have Hn : Hid (s.name = n_default_operator) := Lib.hid hname
        have Hq' : Hid (QState (wr.alloc (.cells #[.string ⟨#[100, 101, 102, 97, 117, 108, 116, 95, 111, 112, 101, 114, 97, 116, 111, 114]⟩, .int .i64 v.kind, .string s.val.text, .float .f64 s.val.num, .bool s.val.yes, .slice v.ka v.kn v.kc, .slice v.ca v.cn v.cc] 54)) w.heap.size fkQS 28 132 text done) := Lib.hid (by
          have := Hq.out
          rw [show s.name = ⟨#[100, 101, 102, 97, 117, 108, 116, 95, 111, 112, 101, 114, 97, 116, 111, 114]⟩ from hname] at this
          exact this)
        clear hname Hq
        go_wp2_with (go_at_call 61; refine (set_default_operator _ w.heap.size text done s Hn.out Hq'.out).mono ?_; rintro e w2 ⟨rfl, hq2, hb2⟩)
        have hz2 := Hz.out.keep ((hb2.block _ (by omega)).trans (heap_alloc_old _ _ hzl))
        have hbel2 := (Hbel.out.alloc Hbel.out.size _).trans (hb2.mono (by omega))
        go_roundw
        case rel => exact ⟨k + 1, by omega, by simp, by rw [Htake.out]; exact hq2, hz2, hbel2⟩
        case measure => simp [intOf]; omega
      · as_aux_lemma =>
        rw [show s.name = ⟨#[101, 110, 97, 98, 108, 101, 95, 112, 111, 115, 105, 116, 105, 111, 110, 95, 105, 110, 99, 114, 101, 109, 101, 110, 116, 115]⟩ from hname] at c0
        have Hn : Hid (s.name = n_enable_position_increments) := Lib.hid hname
        have Hq' : Hid (QState (wr.alloc (.cells #[.string ⟨#[101, 110, 97, 98, 108, 101, 95, 112, 111, 115, 105, 116, 105, 111, 110, 95, 105, 110, 99, 114, 101, 109, 101, 110, 116, 115]⟩, .int .i64 v.kind, .string s.val.text, .float .f64 s.val.num, .bool s.val.yes, .slice v.ka v.kn v.kc, .slice v.ca v.cn v.cc] 54)) w.heap.size fkQS 28 132 text done) := Lib.hid (by
          have := Hq.out
          rw [show s.name = ⟨#[101, 110, 97, 98, 108, 101, 95, 112, 111, 115, 105, 116, 105, 111, 110, 95, 105, 110, 99, 114, 101, 109, 101, 110, 116, 115]⟩ from hname] at this
          exact this)
        clear hname Hq
        go_wp2_with (go_at_call 62; refine (set_enable_position_increments _ w.heap.size text done s Hn.out Hq'.out).mono ?_; rintro e w2 ⟨rfl, hq2, hb2⟩)
        have hz2 := Hz.out.keep ((hb2.block _ (by omega)).trans (heap_alloc_old _ _ hzl))
        have hbel2 := (Hbel.out.alloc Hbel.out.size _).trans (hb2.mono (by omega))
        go_roundw
        case rel => exact ⟨k + 1, by omega, by simp, by rw [Htake.out]; exact hq2, hz2, hbel2⟩
        case measure => simp [intOf]; omega
      · as_aux_lemma =>
        rw [show s.name = ⟨#[101, 115, 99, 97, 112, 101]⟩ from hname] at c0
        have Hn : Hid (s.name = n_escape) := Lib.hid hname
        have Hq' : Hid (QState (wr.alloc (.cells #[.string ⟨#[101, 115, 99, 97, 112, 101]⟩, .int .i64 v.kind, .string s.val.text, .float .f64 s.val.num, .bool s.val.yes, .slice v.ka v.kn v.kc, .slice v.ca v.cn v.cc] 54)) w.heap.size fkQS 28 132 text done) := Lib.hid (by
          have := Hq.out
          rw [show s.name = ⟨#[101, 115, 99, 97, 112, 101]⟩ from hname] at this
          exact this)
        clear hname Hq
        go_wp2_with (go_at_call 63; refine (set_escape _ w.heap.size text done s Hn.out Hq'.out).mono ?_; rintro e w2 ⟨rfl, hq2, hb2⟩)
        have hz2 := Hz.out.keep ((hb2.block _ (by omega)).trans (heap_alloc_old _ _ hzl))
        have hbel2 := (Hbel.out.alloc Hbel.out.size _).trans (hb2.mono (by omega))
        go_roundw
        case rel => exact ⟨k + 1, by omega, by simp, by rw [Htake.out]; exact hq2, hz2, hbel2⟩
        case measure => simp [intOf]; omega
      · as_aux_lemma =>
        rw [show s.name = ⟨#[102, 117, 122, 122, 105, 110, 101, 115, 115]⟩ from hname] at c0
        have Hn : Hid (s.name = n_fuzziness) := Lib.hid hname
        have Hq' : Hid (QState (wr.alloc (.cells #[.string ⟨#[102, 117, 122, 122, 105, 110, 101, 115, 115]⟩, .int .i64 v.kind, .string s.val.text, .float .f64 s.val.num, .bool s.val.yes, .slice v.ka v.kn v.kc, .slice v.ca v.cn v.cc] 54)) w.heap.size fkQS 28 132 text done) := Lib.hid (by
          have := Hq.out
          rw [show s.name = ⟨#[102, 117, 122, 122, 105, 110, 101, 115, 115]⟩ from hname] at this
          exact this)
        clear hname Hq
        go_wp2_with (go_at_call 64; refine (set_fuzziness _ w.heap.size text done s Hn.out Hq'.out).mono ?_; rintro e w2 ⟨rfl, hq2, hb2⟩)
        have hz2 := Hz.out.keep ((hb2.block _ (by omega)).trans (heap_alloc_old _ _ hzl))
        have hbel2 := (Hbel.out.alloc Hbel.out.size _).trans (hb2.mono (by omega))
        go_roundw
        case rel => exact ⟨k + 1, by omega, by simp, by rw [Htake.out]; exact hq2, hz2, hbel2⟩
        case measure => simp [intOf]; omega
      · as_aux_lemma =>
        rw [show s.name = ⟨#[102, 117, 122, 122, 121, 95, 109, 97, 120, 95, 101, 120, 112, 97, 110, 115, 105, 111, 110, 115]⟩ from hname] at c0
        have Hn : Hid (s.name = n_fuzzy_max_expansions) := Lib.hid hname
        have Hq' : Hid (QState (wr.alloc (.cells #[.string ⟨#[102, 117, 122, 122, 121, 95, 109, 97, 120, 95, 101, 120, 112, 97, 110, 115, 105, 111, 110, 115]⟩, .int .i64 v.kind, .string s.val.text, .float .f64 s.val.num, .bool s.val.yes, .slice v.ka v.kn v.kc, .slice v.ca v.cn v.cc] 54)) w.heap.size fkQS 28 132 text done) := Lib.hid (by
          have := Hq.out
          rw [show s.name = ⟨#[102, 117, 122, 122, 121, 95, 109, 97, 120, 95, 101, 120, 112, 97, 110, 115, 105, 111, 110, 115]⟩ from hname] at this
          exact this)
        clear hname Hq
        obtain ⟨nn, hcv⟩ := Hw.out (by rw [Hn.out]; simp [wholes])
        have htoI : toI s.val.num = nn := by simp [toI, hcv]
        rw [← htoI] at hcv
        have hconv := conv_int hcv
        clear hcv htoI
        go_wp2_with (go_at_call 65; refine (set_fuzzy_max_expansions _ w.heap.size text done s Hn.out Hq'.out).mono ?_; rintro e w2 ⟨rfl, hq2, hb2⟩)
        have hz2 := Hz.out.keep ((hb2.block _ (by omega)).trans (heap_alloc_old _ _ hzl))
        have hbel2 := (Hbel.out.alloc Hbel.out.size _).trans (hb2.mono (by omega))
        go_roundw
        case rel => exact ⟨k + 1, by omega, by simp, by rw [Htake.out]; exact hq2, hz2, hbel2⟩
        case measure => simp [intOf]; omega
      · as_aux_lemma =>
        rw [show s.name = ⟨#[102, 117, 122, 122, 121, 95, 112, 114, 101, 102, 105, 120, 95, 108, 101, 110, 103, 116, 104]⟩ from hname] at c0
        have Hn : Hid (s.name = n_fuzzy_prefix_length) := Lib.hid hname
        have Hq' : Hid (QState (wr.alloc (.cells #[.string ⟨#[102, 117, 122, 122, 121, 95, 112, 114, 101, 102, 105, 120, 95, 108, 101, 110, 103, 116, 104]⟩, .int .i64 v.kind, .string s.val.text, .float .f64 s.val.num, .bool s.val.yes, .slice v.ka v.kn v.kc, .slice v.ca v.cn v.cc] 54)) w.heap.size fkQS 28 132 text done) := Lib.hid (by
          have := Hq.out
          rw [show s.name = ⟨#[102, 117, 122, 122, 121, 95, 112, 114, 101, 102, 105, 120, 95, 108, 101, 110, 103, 116, 104]⟩ from hname] at this
          exact this)
        clear hname Hq
        obtain ⟨nn, hcv⟩ := Hw.out (by rw [Hn.out]; simp [wholes])
        have htoI : toI s.val.num = nn := by simp [toI, hcv]
        rw [← htoI] at hcv
        have hconv := conv_int hcv
        clear hcv htoI
        go_wp2_with (go_at_call 66; refine (set_fuzzy_prefix_length _ w.heap.size text done s Hn.out Hq'.out).mono ?_; rintro e w2 ⟨rfl, hq2, hb2⟩)
        have hz2 := Hz.out.keep ((hb2.block _ (by omega)).trans (heap_alloc_old _ _ hzl))
        have hbel2 := (Hbel.out.alloc Hbel.out.size _).trans (hb2.mono (by omega))
        go_roundw
        case rel => exact ⟨k + 1, by omega, by simp, by rw [Htake.out]; exact hq2, hz2, hbel2⟩
        case measure => simp [intOf]; omega
      · as_aux_lemma =>
        rw [show s.name = ⟨#[102, 117, 122, 122, 121, 95, 114, 101, 119, 114, 105, 116, 101]⟩ from hname] at c0
        have Hn : Hid (s.name = n_fuzzy_rewrite) := Lib.hid hname
        have Hq' : Hid (QState (wr.alloc (.cells #[.string ⟨#[102, 117, 122, 122, 121, 95, 114, 101, 119, 114, 105, 116, 101]⟩, .int .i64 v.kind, .string s.val.text, .float .f64 s.val.num, .bool s.val.yes, .slice v.ka v.kn v.kc, .slice v.ca v.cn v.cc] 54)) w.heap.size fkQS 28 132 text done) := Lib.hid (by
          have := Hq.out
          rw [show s.name = ⟨#[102, 117, 122, 122, 121, 95, 114, 101, 119, 114, 105, 116, 101]⟩ from hname] at this
          exact this)
        clear hname Hq
        go_wp2_with (go_at_call 67; refine (set_fuzzy_rewrite _ w.heap.size text done s Hn.out Hq'.out).mono ?_; rintro e w2 ⟨rfl, hq2, hb2⟩)
        have hz2 := Hz.out.keep ((hb2.block _ (by omega)).trans (heap_alloc_old _ _ hzl))
        have hbel2 := (Hbel.out.alloc Hbel.out.size _).trans (hb2.mono (by omega))
        go_roundw
        case rel => exact ⟨k + 1, by omega, by simp, by rw [Htake.out]; exact hq2, hz2, hbel2⟩
        case measure => simp [intOf]; omega
      · as_aux_lemma =>
        rw [show s.name = ⟨#[108, 101, 110, 105, 101, 110, 116]⟩ from hname] at c0
        have Hn : Hid (s.name = n_lenient) := Lib.hid hname
        have Hq' : Hid (QState (wr.alloc (.cells #[.string ⟨#[108, 101, 110, 105, 101, 110, 116]⟩, .int .i64 v.kind, .string s.val.text, .float .f64 s.val.num, .bool s.val.yes, .slice v.ka v.kn v.kc, .slice v.ca v.cn v.cc] 54)) w.heap.size fkQS 28 132 text done) := Lib.hid (by
          have := Hq.out
          rw [show s.name = ⟨#[108, 101, 110, 105, 101, 110, 116]⟩ from hname] at this
          exact this)
        clear hname Hq
        go_wp2_with (go_at_call 68; refine (set_lenient _ w.heap.size text done s Hn.out Hq'.out).mono ?_; rintro e w2 ⟨rfl, hq2, hb2⟩)
        have hz2 := Hz.out.keep ((hb2.block _ (by omega)).trans (heap_alloc_old _ _ hzl))
        have hbel2 := (Hbel.out.alloc Hbel.out.size _).trans (hb2.mono (by omega))
        go_roundw
        case rel => exact ⟨k + 1, by omega, by simp, by rw [Htake.out]; exact hq2, hz2, hbel2⟩
        case measure => simp [intOf]; omega
      · as_aux_lemma =>
        rw [show s.name = ⟨#[109, 97, 120, 95, 100, 101, 116, 101, 114, 109, 105, 110, 105, 122, 101, 100, 95, 115, 116, 97, 116, 101, 115]⟩ from hname] at c0
        have Hn : Hid (s.name = n_max_determinized_states) := Lib.hid hname
        have Hq' : Hid (QState (wr.alloc (.cells #[.string ⟨#[109, 97, 120, 95, 100, 101, 116, 101, 114, 109, 105, 110, 105, 122, 101, 100, 95, 115, 116, 97, 116, 101, 115]⟩, .int .i64 v.kind, .string s.val.text, .float .f64 s.val.num, .bool s.val.yes, .slice v.ka v.kn v.kc, .slice v.ca v.cn v.cc] 54)) w.heap.size fkQS 28 132 text done) := Lib.hid (by
          have := Hq.out
          rw [show s.name = ⟨#[109, 97, 120, 95, 100, 101, 116, 101, 114, 109, 105, 110, 105, 122, 101, 100, 95, 115, 116, 97, 116, 101, 115]⟩ from hname] at this
          exact this)
        clear hname Hq
        obtain ⟨nn, hcv⟩ := Hw.out (by rw [Hn.out]; simp [wholes])
        have htoI : toI s.val.num = nn := by simp [toI, hcv]
        rw [← htoI] at hcv
        have hconv := conv_int hcv
        clear hcv htoI
        go_wp2_with (go_at_call 69; refine (set_max_determinized_states _ w.heap.size text done s Hn.out Hq'.out).mono ?_; rintro e w2 ⟨rfl, hq2, hb2⟩)
        have hz2 := Hz.out.keep ((hb2.block _ (by omega)).trans (heap_alloc_old _ _ hzl))
        have hbel2 := (Hbel.out.alloc Hbel.out.size _).trans (hb2.mono (by omega))
        go_roundw
        case rel => exact ⟨k + 1, by omega, by simp, by rw [Htake.out]; exact hq2, hz2, hbel2⟩
        case measure => simp [intOf]; omega
      · as_aux_lemma =>
        rw [show s.name = ⟨#[109, 105, 110, 105, 109, 117, 109, 95, 115, 104, 111, 117, 108, 100, 95, 109, 97, 116, 99, 104]⟩ from hname] at c0
        have Hn : Hid (s.name = n_minimum_should_match) := Lib.hid hname
        have Hq' : Hid (QState (wr.alloc (.cells #[.string ⟨#[109, 105, 110, 105, 109, 117, 109, 95, 115, 104, 111, 117, 108, 100, 95, 109, 97, 116, 99, 104]⟩, .int .i64 v.kind, .string s.val.text, .float .f64 s.val.num, .bool s.val.yes, .slice v.ka v.kn v.kc, .slice v.ca v.cn v.cc] 54)) w.heap.size fkQS 28 132 text done) := Lib.hid (by
          have := Hq.out
          rw [show s.name = ⟨#[109, 105, 110, 105, 109, 117, 109, 95, 115, 104, 111, 117, 108, 100, 95, 109, 97, 116, 99, 104]⟩ from hname] at this
          exact this)
        clear hname Hq
        go_wp2_with (go_at_call 70; refine (set_minimum_should_match _ w.heap.size text done s Hn.out Hq'.out).mono ?_; rintro e w2 ⟨rfl, hq2, hb2⟩)
        have hz2 := Hz.out.keep ((hb2.block _ (by omega)).trans (heap_alloc_old _ _ hzl))
        have hbel2 := (Hbel.out.alloc Hbel.out.size _).trans (hb2.mono (by omega))
        go_roundw
        case rel => exact ⟨k + 1, by omega, by simp, by rw [Htake.out]; exact hq2, hz2, hbel2⟩
        case measure => simp [intOf]; omega
      · as_aux_lemma =>
        rw [show s.name = ⟨#[112, 104, 114, 97, 115, 101, 95, 115, 108, 111, 112]⟩ from hname] at c0
        have Hn : Hid (s.name = n_phrase_slop) := Lib.hid hname
        have Hq' : Hid (QState (wr.alloc (.cells #[.string ⟨#[112, 104, 114, 97, 115, 101, 95, 115, 108, 111, 112]⟩, .int .i64 v.kind, .string s.val.text, .float .f64 s.val.num, .bool s.val.yes, .slice v.ka v.kn v.kc, .slice v.ca v.cn v.cc] 54)) w.heap.size fkQS 28 132 text done) := Lib.hid (by
          have := Hq.out
          rw [show s.name = ⟨#[112, 104, 114, 97, 115, 101, 95, 115, 108, 111, 112]⟩ from hname] at this
          exact this)
        clear hname Hq
        obtain ⟨nn, hcv⟩ := Hw.out (by rw [Hn.out]; simp [wholes])
        have htoI : toI s.val.num = nn := by simp [toI, hcv]
        rw [← htoI] at hcv
        have hconv := conv_int hcv
        clear hcv htoI
        go_wp2_with (go_at_call 71; refine (set_phrase_slop _ w.heap.size text done s Hn.out Hq'.out).mono ?_; rintro e w2 ⟨rfl, hq2, hb2⟩)
        have hz2 := Hz.out.keep ((hb2.block _ (by omega)).trans (heap_alloc_old _ _ hzl))
        have hbel2 := (Hbel.out.alloc Hbel.out.size _).trans (hb2.mono (by omega))
        go_roundw
        case rel => exact ⟨k + 1, by omega, by simp, by rw [Htake.out]; exact hq2, hz2, hbel2⟩
        case measure => simp [intOf]; omega
      · as_aux_lemma =>
        rw [show s.name = ⟨#[113, 117, 111, 116, 101, 95, 97, 110, 97, 108, 121, 122, 101, 114]⟩ from hname] at c0
        have Hn : Hid (s.name = n_quote_analyzer) := Lib.hid hname
        have Hq' : Hid (QState (wr.alloc (.cells #[.string ⟨#[113, 117, 111, 116, 101, 95, 97, 110, 97, 108, 121, 122, 101, 114]⟩, .int .i64 v.kind, .string s.val.text, .float .f64 s.val.num, .bool s.val.yes, .slice v.ka v.kn v.kc, .slice v.ca v.cn v.cc] 54)) w.heap.size fkQS 28 132 text done) := Lib.hid (by
          have := Hq.out
          rw [show s.name = ⟨#[113, 117, 111, 116, 101, 95, 97, 110, 97, 108, 121, 122, 101, 114]⟩ from hname] at this
          exact this)
        clear hname Hq
        go_wp2_with (go_at_call 72; refine (set_quote_analyzer _ w.heap.size text done s Hn.out Hq'.out).mono ?_; rintro e w2 ⟨rfl, hq2, hb2⟩)
        have hz2 := Hz.out.keep ((hb2.block _ (by omega)).trans (heap_alloc_old _ _ hzl))
        have hbel2 := (Hbel.out.alloc Hbel.out.size _).trans (hb2.mono (by omega))
        go_roundw
        case rel => exact ⟨k + 1, by omega, by simp, by rw [Htake.out]; exact hq2, hz2, hbel2⟩
        case measure => simp [intOf]; omega
      · as_aux_lemma =>
        rw [show s.name = ⟨#[113, 117, 111, 116, 101, 95, 102, 105, 101, 108, 100, 95, 115, 117, 102, 102, 105, 120]⟩ from hname] at c0
        have Hn : Hid (s.name = n_quote_field_suffix) := Lib.hid hname
        have Hq' : Hid (QState (wr.alloc (.cells #[.string ⟨#[113, 117, 111, 116, 101, 95, 102, 105, 101, 108, 100, 95, 115, 117, 102, 102, 105, 120]⟩, .int .i64 v.kind, .string s.val.text, .float .f64 s.val.num, .bool s.val.yes, .slice v.ka v.kn v.kc, .slice v.ca v.cn v.cc] 54)) w.heap.size fkQS 28 132 text done) := Lib.hid (by
          have := Hq.out
          rw [show s.name = ⟨#[113, 117, 111, 116, 101, 95, 102, 105, 101, 108, 100, 95, 115, 117, 102, 102, 105, 120]⟩ from hname] at this
          exact this)
        clear hname Hq
        go_wp2_with (go_at_call 73; refine (set_quote_field_suffix _ w.heap.size text done s Hn.out Hq'.out).mono ?_; rintro e w2 ⟨rfl, hq2, hb2⟩)
        have hz2 := Hz.out.keep ((hb2.block _ (by omega)).trans (heap_alloc_old _ _ hzl))
        have hbel2 := (Hbel.out.alloc Hbel.out.size _).trans (hb2.mono (by omega))
        go_roundw
        case rel => exact ⟨k + 1, by omega, by simp, by rw [Htake.out]; exact hq2, hz2, hbel2⟩
        case measure => simp [intOf]; omega
      · as_aux_lemma =>
        rw [show s.name = ⟨#[114, 101, 119, 114, 105, 116, 101]⟩ from hname] at c0
        have Hn : Hid (s.name = n_rewrite) := Lib.hid hname
        have Hq' : Hid (QState (wr.alloc (.cells #[.string ⟨#[114, 101, 119, 114, 105, 116, 101]⟩, .int .i64 v.kind, .string s.val.text, .float .f64 s.val.num, .bool s.val.yes, .slice v.ka v.kn v.kc, .slice v.ca v.cn v.cc] 54)) w.heap.size fkQS 28 132 text done) := Lib.hid (by
          have := Hq.out
          rw [show s.name = ⟨#[114, 101, 119, 114, 105, 116, 101]⟩ from hname] at this
          exact this)
        clear hname Hq
        go_wp2_with (go_at_call 74; refine (set_rewrite _ w.heap.size text done s Hn.out Hq'.out).mono ?_; rintro e w2 ⟨rfl, hq2, hb2⟩)
        have hz2 := Hz.out.keep ((hb2.block _ (by omega)).trans (heap_alloc_old _ _ hzl))
        have hbel2 := (Hbel.out.alloc Hbel.out.size _).trans (hb2.mono (by omega))
        go_roundw
        case rel => exact ⟨k + 1, by omega, by simp, by rw [Htake.out]; exact hq2, hz2, hbel2⟩
        case measure => simp [intOf]; omega
      · as_aux_lemma =>
        rw [show s.name = ⟨#[116, 105, 101, 95, 98, 114, 101, 97, 107, 101, 114]⟩ from hname] at c0
        have Hn : Hid (s.name = n_tie_breaker) := Lib.hid hname
        have Hq' : Hid (QState (wr.alloc (.cells #[.string ⟨#[116, 105, 101, 95, 98, 114, 101, 97, 107, 101, 114]⟩, .int .i64 v.kind, .string s.val.text, .float .f64 s.val.num, .bool s.val.yes, .slice v.ka v.kn v.kc, .slice v.ca v.cn v.cc] 54)) w.heap.size fkQS 28 132 text done) := Lib.hid (by
          have := Hq.out
          rw [show s.name = ⟨#[116, 105, 101, 95, 98, 114, 101, 97, 107, 101, 114]⟩ from hname] at this
          exact this)
        clear hname Hq
        go_wp2_with (go_at_call 75; refine (set_tie_breaker _ w.heap.size text done s Hn.out Hq'.out).mono ?_; rintro e w2 ⟨rfl, hq2, hb2⟩)
        have hz2 := Hz.out.keep ((hb2.block _ (by omega)).trans (heap_alloc_old _ _ hzl))
        have hbel2 := (Hbel.out.alloc Hbel.out.size _).trans (hb2.mono (by omega))
        go_roundw
        case rel => exact ⟨k + 1, by omega, by simp, by rw [Htake.out]; exact hq2, hz2, hbel2⟩
        case measure => simp [intOf]; omega
      · as_aux_lemma =>
        rw [show s.name = ⟨#[116, 105, 109, 101, 95, 122, 111, 110, 101]⟩ from hname] at c0
        have Hn : Hid (s.name = n_time_zone) := Lib.hid hname
        have Hq' : Hid (QState (wr.alloc (.cells #[.string ⟨#[116, 105, 109, 101, 95, 122, 111, 110, 101]⟩, .int .i64 v.kind, .string s.val.text, .float .f64 s.val.num, .bool s.val.yes, .slice v.ka v.kn v.kc, .slice v.ca v.cn v.cc] 54)) w.heap.size fkQS 28 132 text done) := Lib.hid (by
          have := Hq.out
          rw [show s.name = ⟨#[116, 105, 109, 101, 95, 122, 111, 110, 101]⟩ from hname] at this
          exact this)
        clear hname Hq
        go_wp2_with (go_at_call 76; refine (set_time_zone _ w.heap.size text done s Hn.out Hq'.out).mono ?_; rintro e w2 ⟨rfl, hq2, hb2⟩)
        have hz2 := Hz.out.keep ((hb2.block _ (by omega)).trans (heap_alloc_old _ _ hzl))
        have hbel2 := (Hbel.out.alloc Hbel.out.size _).trans (hb2.mono (by omega))
        go_roundw
        case rel => exact ⟨k + 1, by omega, by simp, by rw [Htake.out]; exact hq2, hz2, hbel2⟩
        case measure => simp [intOf]; omega
      · as_aux_lemma =>
        rw [show s.name = ⟨#[116, 121, 112, 101]⟩ from hname] at c0
        have Hn : Hid (s.name = n_type) := Lib.hid hname
        have Hq' : Hid (QState (wr.alloc (.cells #[.string ⟨#[116, 121, 112, 101]⟩, .int .i64 v.kind, .string s.val.text, .float .f64 s.val.num, .bool s.val.yes, .slice v.ka v.kn v.kc, .slice v.ca v.cn v.cc] 54)) w.heap.size fkQS 28 132 text done) := Lib.hid (by
          have := Hq.out
          rw [show s.name = ⟨#[116, 121, 112, 101]⟩ from hname] at this
          exact this)
        clear hname Hq
        go_wp2_with (go_at_call 77; refine (set_type _ w.heap.size text done s Hn.out Hq'.out).mono ?_; rintro e w2 ⟨rfl, hq2, hb2⟩)
        have hz2 := Hz.out.keep ((hb2.block _ (by omega)).trans (heap_alloc_old _ _ hzl))
        have hbel2 := (Hbel.out.alloc Hbel.out.size _).trans (hb2.mono (by omega))
        go_roundw
        case rel => exact ⟨k + 1, by omega, by simp, by rw [Htake.out]; exact hq2, hz2, hbel2⟩
        case measure => simp [intOf]; omega
      · as_aux_lemma =>
        rw [show s.name = ⟨#[95, 110, 97, 109, 101]⟩ from hname] at c0
        have Hn : Hid (s.name = n__name) := Lib.hid hname
        have Hq' : Hid (QState (wr.alloc (.cells #[.string ⟨#[95, 110, 97, 109, 101]⟩, .int .i64 v.kind, .string s.val.text, .float .f64 s.val.num, .bool s.val.yes, .slice v.ka v.kn v.kc, .slice v.ca v.cn v.cc] 54)) w.heap.size fkQS 28 132 text done) := Lib.hid (by
          have := Hq.out
          rw [show s.name = ⟨#[95, 110, 97, 109, 101]⟩ from hname] at this
          exact this)
        clear hname Hq
        go_wp2_with (go_at_call 78; refine (set__name _ w.heap.size text done s Hn.out Hq'.out).mono ?_; rintro e w2 ⟨rfl, hq2, hb2⟩)
        have hz2 := Hz.out.keep ((hb2.block _ (by omega)).trans (heap_alloc_old _ _ hzl))
        have hbel2 := (Hbel.out.alloc Hbel.out.size _).trans (hb2.mono (by omega))
        go_roundw
        case rel => exact ⟨k + 1, by omega, by simp, by rw [Htake.out]; exact hq2, hz2, hbel2⟩
        case measure => simp [intOf]; omega
    · obtain rfl : k = sets.length := by omega
      rw [List.take_length] at hq
      have hs := Hsrc.out wr w.heap.size hbel hq
      have Hs := Lib.hid hs; clear hs
      have Hz := Lib.hid hz; clear hz
      have Hbel := Lib.hid hbel; clear hbel
      clear hq
      go_wp2_with (first
        | (go_at_call 79; refine Hs.out.mono ?_; rintro e w2 ⟨v, rfl, hv, hb2⟩; have Hv := Lib.hid hv; clear hv)
        | (go_at_call 38; refine (told_any v T _ Hv.out).mono ?_; rintro e w3 ⟨⟨kind, text, num, yes, ka, kn, kc, ca, cn, cc⟩, rfl, hV, hb3⟩; obtain ⟨z0, z1, z2, z3, z4, z5, zf, zl⟩ := Box6.cells ((Hz.out.below hb2).below hb3)))
      have hz3 : Zero6 w3 w.heap.size := (Hz.out.below hb2).below hb3
      obtain ⟨p0, p1, p2, p3, p4, p5, _, _⟩ := (hz3.put6 (.int .i64 kind) (.string text) (.float .f64 num) (.bool yes) (.slice ka kn kc) (.slice ca cn cc)).cells
      refine bodyPost_ret (v := .tuple #[.agg #[.int .i64 kind, .string text, .float .f64 num, .bool yes, .slice ka kn kc, .slice ca cn cc], .bool true]) (by simp [results, Tryz.results15, go_sem, p0, p1, p2, p3, p4, p5]) rfl ?_
      have hlt2 : w.heap.size + 1 ≤ w2.heap.size := Nat.le_trans (Array.getElem?_eq_some_iff.1 Hz.out).1 hb2.size
      exact ⟨⟨kind, text, num, yes, ka, kn, kc, ca, cn, cc⟩, rfl, tree_put6 (hV.mono fun b _ hb => Nat.le_trans hlt2 hb) (Nat.le_refl _) _ _ _ _ _ _, Below.put6 (via (via Hbel.out hb2) hb3) (Nat.le_refl _) _ _ _ _ _ _⟩
end Go.Proofs.YtbcnhcpgloncdaaGreatDoor
