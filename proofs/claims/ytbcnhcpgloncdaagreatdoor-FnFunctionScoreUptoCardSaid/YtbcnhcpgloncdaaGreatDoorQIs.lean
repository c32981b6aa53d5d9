/- 'impl.Bool': the settings are told to the builder, one behind the other. -/
import Derived.Test.YtbcnhcpgloncdaaGreatDoorQIr
namespace Go.Proofs.YtbcnhcpgloncdaaGreatDoor
open Go Go.RowKit Go.BigFrame Go.Maps

def namesB : List ByteArray := [n_must, n_must_not, n_should, n_filter, n_adjust_pure_negative, n_boost, n_minimum_should_match, n_minimum_number_should_match, n__name]

set_option maxRecDepth 100000 in
set_option maxHeartbeats 40000000 in
theorem implBool_any (sets : List SetM) (T : Tr) (S : Nat → Prop) (a : Option Addr) (c : Nat) (w : World) (hsets : SetsAt w S a sets) (hS : ∀ b, S b → b < w.heap.size) (hl : sets.length ≤ 1048576)
    (hnm : ∀ s ∈ sets, s.name ∈ namesB) (hpos : ∀ place ∈ placesB, ∀ s ∈ sets, s.name = place → 0 < (clauseK s.val).length) (hbd : ∀ place, (clausesT place sets).length ≤ 1048576) (hkd : ∀ s ∈ sets, s.val.kids.length ≤ 1048576)
    (hwh : ∀ s ∈ sets, s.name = n_minimum_number_should_match → ∃ n : Nat, n ≤ 1000000 ∧ floatToIntVal .f64 s.val.num .i64 = some (n : Int))
    (htab : ∀ wx, Below w.heap.size w wx → Lib.TabIs Tryz.prog wx "internal/strconv.uint64pow10" .u64 Lib.pow10Tab)
    (hsrc : ∀ wr, Below w.heap.size w wr → BQ wr w.heap.size sets → Calls Tryz.prog 91 #[.pointer (some ⟨w.heap.size + 5, 0, none⟩)] wr fun e w' => ∃ v, e = .returned (.tuple #[v, .nilIface]) ∧ AnyAt w' (fun _ => True) v T ∧ Below wr.heap.size wr w') :
    Calls Tryz.prog 17 #[.slice a sets.length c] w (ToldPost w T) := by
  have Hsets := Lib.hid hsets; clear hsets
  have HS := Lib.hid hS; clear hS
  have Hsrc := Lib.hid hsrc; clear hsrc
  have Hnm := Lib.hid hnm; clear hnm
  have Hpos := Lib.hid hpos; clear hpos
  have Hbd := Lib.hid hbd; clear hbd
  have Hkd := Lib.hid hkd; clear hkd
  have Hwh := Lib.hid hwh; clear hwh
  have Htab := Lib.hid htab; clear htab
  go_enter Tryz.func17, Tryz.ntmps17
  go_wp2_with (go_at_call 80; refine (new_bool _ w.heap.size (by simp)).mono ?_; rintro e w1 ⟨rfl, hq1, hb1⟩)
  have hz1 : Zero6 w1 w.heap.size := Box6.keep (heap_alloc_new w _) (hb1.block _ (by simp))
  have hbel1 : Below w.heap.size w w1 := ((Below.refl _ _).alloc (Nat.le_refl _) _).trans (hb1.mono (by simp))
  go_loopw [10] (fun i wr => ∃ k : Nat, k ≤ sets.length ∧ i = .int .i64 k ∧ BQ wr w.heap.size (sets.take k) ∧ Zero6 wr w.heap.size ∧ Below w.heap.size w wr) (fun i _ => sets.length - (intOf i).toNat)
  case atStart => exact ⟨0, Nat.zero_le _, rfl, hq1, hz1, hbel1⟩
  case round =>
    clear hq1 hz1 hbel1 hb1
    obtain ⟨k, hk, rfl, hq, hz, hbel⟩ := hrel
    by_cases hlt : k < sets.length
    · obtain ⟨b', o, v, hca, hSb, hlb, c0, c1, c2, c3, c4, c5, c6, hv⟩ := (Hsets.out.keep (Keeps.of_below S hbel)).cells (k := k) hlt
      subst hca
      obtain ⟨e1, e2, e3, e4, e5, e6⟩ := hv.eqs
      obtain ⟨hts, _, _⟩ := hv.bounds
      rw [e2] at c2
      rw [e3] at c3
      rw [e4] at c4
      have hmem : sets[k] ∈ sets := by simp
      have hname := Hnm.out _ hmem
      have Hw := Lib.hid (Hwh.out _ hmem)
      have Hp := Lib.hid (fun pl hpl => Hpos.out pl hpl _ hmem)
      have Hkk := Lib.hid (Hkd.out _ hmem)
      have Htake : Hid (sets.take (k + 1) = sets.take k ++ [sets[k]]) := Lib.hid (List.take_succ_eq_append_getElem hlt)
      have Hlen : Hid (∀ pl, (clausesT pl (sets.take k ++ [sets[k]])).length ≤ 1048576) := Lib.hid (fun pl => by rw [← Htake.out]; exact Nat.le_trans (clauses_take pl sets (k + 1)) (Hbd.out pl))
      generalize sets[k] = s at *
      generalize sets.take k = done at *
      have hqb := hq.below ((Below.refl _ _).alloc (Nat.le_refl _) (.cells #[.string s.name, .int .i64 v.kind, .string s.val.text, .float .f64 s.val.num, .bool s.val.yes, .slice v.ka v.kn v.kc, .slice v.ca v.cn v.cc] 54))
      have hzl : w.heap.size < wr.heap.size := (Array.getElem?_eq_some_iff.1 hz).1
      have Hq := Lib.hid hqb; clear hqb hq
      have Hz := Lib.hid hz; clear hz
      have Hbel := Lib.hid hbel; clear hbel
      have Hv := Lib.hid hv
      have E2 := Lib.hid e2
      have E3 := Lib.hid e3
      have E4 := Lib.hid e4
      clear hv e1 e2 e3 e4 e5 e6 hmem hlb hSb
      have hi1 : (0 : Int) ≤ (k : Int) := by omega
      have hi2 : (k : Int) < (sets.length : Int) := by omega
      simp only [namesB, List.mem_cons, List.not_mem_nil, or_false] at hname
      rcases hname with hname | hname | hname | hname | hname | hname | hname | hname | hname
      · as_aux_lemma =>
        rw [show s.name = ⟨#[109, 117, 115, 116]⟩ from hname] at c0
        have Hn : Hid (s.name = n_must) := Lib.hid hname
        have Hq' : Hid (BQ (wr.alloc (.cells #[.string ⟨#[109, 117, 115, 116]⟩, .int .i64 v.kind, .string s.val.text, .float .f64 s.val.num, .bool s.val.yes, .slice v.ka v.kn v.kc, .slice v.ca v.cn v.cc] 54)) w.heap.size done) := Lib.hid (by
          have := Hq.out
          rw [show s.name = ⟨#[109, 117, 115, 116]⟩ from hname] at this
          exact this)
        clear hname Hq
        have hcl := implClauses_any s.val v S (wr.alloc (.cells #[.string ⟨#[109, 117, 115, 116]⟩, .int .i64 v.kind, .string s.val.text, .float .f64 s.val.num, .bool s.val.yes, .slice v.ka v.kn v.kc, .slice v.ca v.cn v.cc] 54)) (Hv.out.keep (Keeps.of_below S ((Below.refl _ _).alloc (Nat.le_refl _) _))) (fun b hb => by have := HS.out b hb; simp; omega) Hkk.out
        have hcl2 : Calls Tryz.prog 82 #[.agg #[.int .i64 v.kind, .string s.val.text, .float .f64 s.val.num, .bool s.val.yes, .slice v.ka v.kn v.kc, .slice v.ca v.cn v.cc]] (wr.alloc (.cells #[.string ⟨#[109, 117, 115, 116]⟩, .int .i64 v.kind, .string s.val.text, .float .f64 s.val.num, .bool s.val.yes, .slice v.ka v.kn v.kc, .slice v.ca v.cn v.cc] 54)) fun e w' => ∃ kv, e = .returned kv ∧ OwnL QueryR oneCell 114 1 w' S (wr.heap.size + 1) kv (clauseK s.val) ∧ Below (wr.heap.size + 1) (wr.alloc (.cells #[.string ⟨#[109, 117, 115, 116]⟩, .int .i64 v.kind, .string s.val.text, .float .f64 s.val.num, .bool s.val.yes, .slice v.ka v.kn v.kc, .slice v.ca v.cn v.cc] 54)) w' := by
          simp only [World.size_alloc, TV.val, E2.out, E3.out, E4.out] at hcl
          exact hcl
        have Hcl := Lib.hid hcl2; clear hcl hcl2
        go_wp2_with (first
          | (go_at_call 82; refine Hcl.out.mono ?_; rintro e w3 ⟨kv, rfl, hkv, hb3⟩)
          | (go_at_call 81; refine (setB_must w3 w.heap.size done s Hn.out (Hq'.out.below (by simpa using hb3)) (wr.heap.size + 1) kv (hkv.mono query_law (fun b _ hb => HS.out b hb) (Nat.le_refl _)) (Hp.out n_must (memB_iff.1 (by decide +kernel)) Hn.out) (Hlen.out _)).mono ?_; rintro e w2 ⟨rfl, hq2, hb2⟩))
        have hz2 := Hz.out.keep ((hb2.block _ (by omega)).trans ((hb3.block _ (by omega)).trans (heap_alloc_old _ _ hzl)))
        have hbel2 := ((Hbel.out.alloc Hbel.out.size _).trans (hb3.mono (by omega))).trans (hb2.mono (by omega))
        go_roundw
        case rel => exact ⟨k + 1, by omega, by simp, by rw [Htake.out]; exact hq2, hz2, hbel2⟩
        case measure => simp [intOf]; omega
      · as_aux_lemma =>
        rw [show s.name = ⟨#[109, 117, 115, 116, 95, 110, 111, 116]⟩ from hname] at c0
        have Hn : Hid (s.name = n_must_not) := Lib.hid hname
        have Hq' : Hid (BQ (wr.alloc (.cells #[.string ⟨#[109, 117, 115, 116, 95, 110, 111, 116]⟩, .int .i64 v.kind, .string s.val.text, .float .f64 s.val.num, .bool s.val.yes, .slice v.ka v.kn v.kc, .slice v.ca v.cn v.cc] 54)) w.heap.size done) := Lib.hid (by
          have := Hq.out
          rw [show s.name = ⟨#[109, 117, 115, 116, 95, 110, 111, 116]⟩ from hname] at this
          exact this)
        clear hname Hq
        have hcl := implClauses_any s.val v S (wr.alloc (.cells #[.string ⟨#[109, 117, 115, 116, 95, 110, 111, 116]⟩, .int .i64 v.kind, .string s.val.text, .float .f64 s.val.num, .bool s.val.yes, .slice v.ka v.kn v.kc, .slice v.ca v.cn v.cc] 54)) (Hv.out.keep (Keeps.of_below S ((Below.refl _ _).alloc (Nat.le_refl _) _))) (fun b hb => by have := HS.out b hb; simp; omega) Hkk.out
        have hcl2 : Calls Tryz.prog 82 #[.agg #[.int .i64 v.kind, .string s.val.text, .float .f64 s.val.num, .bool s.val.yes, .slice v.ka v.kn v.kc, .slice v.ca v.cn v.cc]] (wr.alloc (.cells #[.string ⟨#[109, 117, 115, 116, 95, 110, 111, 116]⟩, .int .i64 v.kind, .string s.val.text, .float .f64 s.val.num, .bool s.val.yes, .slice v.ka v.kn v.kc, .slice v.ca v.cn v.cc] 54)) fun e w' => ∃ kv, e = .returned kv ∧ OwnL QueryR oneCell 114 1 w' S (wr.heap.size + 1) kv (clauseK s.val) ∧ Below (wr.heap.size + 1) (wr.alloc (.cells #[.string ⟨#[109, 117, 115, 116, 95, 110, 111, 116]⟩, .int .i64 v.kind, .string s.val.text, .float .f64 s.val.num, .bool s.val.yes, .slice v.ka v.kn v.kc, .slice v.ca v.cn v.cc] 54)) w' := by
          simp only [World.size_alloc, TV.val, E2.out, E3.out, E4.out] at hcl
          exact hcl
        have Hcl := Lib.hid hcl2; clear hcl hcl2
        go_wp2_with (first
          | (go_at_call 82; refine Hcl.out.mono ?_; rintro e w3 ⟨kv, rfl, hkv, hb3⟩)
          | (go_at_call 83; refine (setB_must_not w3 w.heap.size done s Hn.out (Hq'.out.below (by simpa using hb3)) (wr.heap.size + 1) kv (hkv.mono query_law (fun b _ hb => HS.out b hb) (Nat.le_refl _)) (Hp.out n_must_not (memB_iff.1 (by decide +kernel)) Hn.out) (Hlen.out _)).mono ?_; rintro e w2 ⟨rfl, hq2, hb2⟩))
        have hz2 := Hz.out.keep ((hb2.block _ (by omega)).trans ((hb3.block _ (by omega)).trans (heap_alloc_old _ _ hzl)))
        have hbel2 := ((Hbel.out.alloc Hbel.out.size _).trans (hb3.mono (by omega))).trans (hb2.mono (by omega))
        go_roundw
        case rel => exact ⟨k + 1, by omega, by simp, by rw [Htake.out]; exact hq2, hz2, hbel2⟩
        case measure => simp [intOf]; omega
      · as_aux_lemma =>
        rw [show s.name = ⟨#[115, 104, 111, 117, 108, 100]⟩ from hname] at c0
        have Hn : Hid (s.name = n_should) := Lib.hid hname
        have Hq' : Hid (BQ (wr.alloc (.cells #[.string ⟨#[115, 104, 111, 117, 108, 100]⟩, .int .i64 v.kind, .string s.val.text, .float .f64 s.val.num, .bool s.val.yes, .slice v.ka v.kn v.kc, .slice v.ca v.cn v.cc] 54)) w.heap.size done) := Lib.hid (by
          have := Hq.out
          rw [show s.name = ⟨#[115, 104, 111, 117, 108, 100]⟩ from hname] at this
          exact this)
        clear hname Hq
        have hcl := implClauses_any s.val v S (wr.alloc (.cells #[.string ⟨#[115, 104, 111, 117, 108, 100]⟩, .int .i64 v.kind, .string s.val.text, .float .f64 s.val.num, .bool s.val.yes, .slice v.ka v.kn v.kc, .slice v.ca v.cn v.cc] 54)) (Hv.out.keep (Keeps.of_below S ((Below.refl _ _).alloc (Nat.le_refl _) _))) (fun b hb => by have := HS.out b hb; simp; omega) Hkk.out
        have hcl2 : Calls Tryz.prog 82 #[.agg #[.int .i64 v.kind, .string s.val.text, .float .f64 s.val.num, .bool s.val.yes, .slice v.ka v.kn v.kc, .slice v.ca v.cn v.cc]] (wr.alloc (.cells #[.string ⟨#[115, 104, 111, 117, 108, 100]⟩, .int .i64 v.kind, .string s.val.text, .float .f64 s.val.num, .bool s.val.yes, .slice v.ka v.kn v.kc, .slice v.ca v.cn v.cc] 54)) fun e w' => ∃ kv, e = .returned kv ∧ OwnL QueryR oneCell 114 1 w' S (wr.heap.size + 1) kv (clauseK s.val) ∧ Below (wr.heap.size + 1) (wr.alloc (.cells #[.string ⟨#[115, 104, 111, 117, 108, 100]⟩, .int .i64 v.kind, .string s.val.text, .float .f64 s.val.num, .bool s.val.yes, .slice v.ka v.kn v.kc, .slice v.ca v.cn v.cc] 54)) w' := by
          simp only [World.size_alloc, TV.val, E2.out, E3.out, E4.out] at hcl
          exact hcl
        have Hcl := Lib.hid hcl2; clear hcl hcl2
        go_wp2_with (first
          | (go_at_call 82; refine Hcl.out.mono ?_; rintro e w3 ⟨kv, rfl, hkv, hb3⟩)
          | (go_at_call 84; refine (setB_should w3 w.heap.size done s Hn.out (Hq'.out.below (by simpa using hb3)) (wr.heap.size + 1) kv (hkv.mono query_law (fun b _ hb => HS.out b hb) (Nat.le_refl _)) (Hp.out n_should (memB_iff.1 (by decide +kernel)) Hn.out) (Hlen.out _)).mono ?_; rintro e w2 ⟨rfl, hq2, hb2⟩))
        have hz2 := Hz.out.keep ((hb2.block _ (by omega)).trans ((hb3.block _ (by omega)).trans (heap_alloc_old _ _ hzl)))
        have hbel2 := ((Hbel.out.alloc Hbel.out.size _).trans (hb3.mono (by omega))).trans (hb2.mono (by omega))
        go_roundw
        case rel => exact ⟨k + 1, by omega, by simp, by rw [Htake.out]; exact hq2, hz2, hbel2⟩
        case measure => simp [intOf]; omega
      · as_aux_lemma =>
        rw [show s.name = ⟨#[102, 105, 108, 116, 101, 114]⟩ from hname] at c0
        have Hn : Hid (s.name = n_filter) := Lib.hid hname
        have Hq' : Hid (BQ (wr.alloc (.cells #[.string ⟨#[102, 105, 108, 116, 101, 114]⟩, .int .i64 v.kind, .string s.val.text, .float .f64 s.val.num, .bool s.val.yes, .slice v.ka v.kn v.kc, .slice v.ca v.cn v.cc] 54)) w.heap.size done) := Lib.hid (by
          have := Hq.out
          rw [show s.name = ⟨#[102, 105, 108, 116, 101, 114]⟩ from hname] at this
          exact this)
        clear hname Hq
        have hcl := implClauses_any s.val v S (wr.alloc (.cells #[.string ⟨#[102, 105, 108, 116, 101, 114]⟩, .int .i64 v.kind, .string s.val.text, .float .f64 s.val.num, .bool s.val.yes, .slice v.ka v.kn v.kc, .slice v.ca v.cn v.cc] 54)) (Hv.out.keep (Keeps.of_below S ((Below.refl _ _).alloc (Nat.le_refl _) _))) (fun b hb => by have := HS.out b hb; simp; omega) Hkk.out
        have hcl2 : Calls Tryz.prog 82 #[.agg #[.int .i64 v.kind, .string s.val.text, .float .f64 s.val.num, .bool s.val.yes, .slice v.ka v.kn v.kc, .slice v.ca v.cn v.cc]] (wr.alloc (.cells #[.string ⟨#[102, 105, 108, 116, 101, 114]⟩, .int .i64 v.kind, .string s.val.text, .float .f64 s.val.num, .bool s.val.yes, .slice v.ka v.kn v.kc, .slice v.ca v.cn v.cc] 54)) fun e w' => ∃ kv, e = .returned kv ∧ OwnL QueryR oneCell 114 1 w' S (wr.heap.size + 1) kv (clauseK s.val) ∧ Below (wr.heap.size + 1) (wr.alloc (.cells #[.string ⟨#[102, 105, 108, 116, 101, 114]⟩, .int .i64 v.kind, .string s.val.text, .float .f64 s.val.num, .bool s.val.yes, .slice v.ka v.kn v.kc, .slice v.ca v.cn v.cc] 54)) w' := by
          simp only [World.size_alloc, TV.val, E2.out, E3.out, E4.out] at hcl
          exact hcl
        have Hcl := Lib.hid hcl2; clear hcl hcl2
        go_wp2_with (first
          | (go_at_call 82; refine Hcl.out.mono ?_; rintro e w3 ⟨kv, rfl, hkv, hb3⟩)
          | (go_at_call 85; refine (setB_filter w3 w.heap.size done s Hn.out (Hq'.out.below (by simpa using hb3)) (wr.heap.size + 1) kv (hkv.mono query_law (fun b _ hb => HS.out b hb) (Nat.le_refl _)) (Hp.out n_filter (memB_iff.1 (by decide +kernel)) Hn.out) (Hlen.out _)).mono ?_; rintro e w2 ⟨rfl, hq2, hb2⟩))
        have hz2 := Hz.out.keep ((hb2.block _ (by omega)).trans ((hb3.block _ (by omega)).trans (heap_alloc_old _ _ hzl)))
        have hbel2 := ((Hbel.out.alloc Hbel.out.size _).trans (hb3.mono (by omega))).trans (hb2.mono (by omega))
        go_roundw
        case rel => exact ⟨k + 1, by omega, by simp, by rw [Htake.out]; exact hq2, hz2, hbel2⟩
        case measure => simp [intOf]; omega
      · as_aux_lemma =>
        rw [show s.name = ⟨#[97, 100, 106, 117, 115, 116, 95, 112, 117, 114, 101, 95, 110, 101, 103, 97, 116, 105, 118, 101]⟩ from hname] at c0
        have Hn : Hid (s.name = n_adjust_pure_negative) := Lib.hid hname
        have Hq' : Hid (BQ (wr.alloc (.cells #[.string ⟨#[97, 100, 106, 117, 115, 116, 95, 112, 117, 114, 101, 95, 110, 101, 103, 97, 116, 105, 118, 101]⟩, .int .i64 v.kind, .string s.val.text, .float .f64 s.val.num, .bool s.val.yes, .slice v.ka v.kn v.kc, .slice v.ca v.cn v.cc] 54)) w.heap.size done) := Lib.hid (by
          have := Hq.out
          rw [show s.name = ⟨#[97, 100, 106, 117, 115, 116, 95, 112, 117, 114, 101, 95, 110, 101, 103, 97, 116, 105, 118, 101]⟩ from hname] at this
          exact this)
        clear hname Hq
        go_wp2_with (go_at_call 86; refine (setB_apn _ w.heap.size done s Hn.out Hq'.out).mono ?_; rintro e w2 ⟨rfl, hq2, hb2⟩)
        have hz2 := Hz.out.keep ((hb2.block _ (by omega)).trans (heap_alloc_old _ _ hzl))
        have hbel2 := (Hbel.out.alloc Hbel.out.size _).trans (hb2.mono (by omega))
        go_roundw
        case rel => exact ⟨k + 1, by omega, by simp, by rw [Htake.out]; exact hq2, hz2, hbel2⟩
        case measure => simp [intOf]; omega
      · as_aux_lemma =>
        rw [show s.name = ⟨#[98, 111, 111, 115, 116]⟩ from hname] at c0
        have Hn : Hid (s.name = n_boost) := Lib.hid hname
        have Hq' : Hid (BQ (wr.alloc (.cells #[.string ⟨#[98, 111, 111, 115, 116]⟩, .int .i64 v.kind, .string s.val.text, .float .f64 s.val.num, .bool s.val.yes, .slice v.ka v.kn v.kc, .slice v.ca v.cn v.cc] 54)) w.heap.size done) := Lib.hid (by
          have := Hq.out
          rw [show s.name = ⟨#[98, 111, 111, 115, 116]⟩ from hname] at this
          exact this)
        clear hname Hq
        go_wp2_with (go_at_call 87; refine (setB_boost _ w.heap.size done s Hn.out Hq'.out).mono ?_; rintro e w2 ⟨rfl, hq2, hb2⟩)
        have hz2 := Hz.out.keep ((hb2.block _ (by omega)).trans (heap_alloc_old _ _ hzl))
        have hbel2 := (Hbel.out.alloc Hbel.out.size _).trans (hb2.mono (by omega))
        go_roundw
        case rel => exact ⟨k + 1, by omega, by simp, by rw [Htake.out]; exact hq2, hz2, hbel2⟩
        case measure => simp [intOf]; omega
      · as_aux_lemma =>
        rw [show s.name = ⟨#[109, 105, 110, 105, 109, 117, 109, 95, 115, 104, 111, 117, 108, 100, 95, 109, 97, 116, 99, 104]⟩ from hname] at c0
        have Hn : Hid (s.name = n_minimum_should_match) := Lib.hid hname
        have Hq' : Hid (BQ (wr.alloc (.cells #[.string ⟨#[109, 105, 110, 105, 109, 117, 109, 95, 115, 104, 111, 117, 108, 100, 95, 109, 97, 116, 99, 104]⟩, .int .i64 v.kind, .string s.val.text, .float .f64 s.val.num, .bool s.val.yes, .slice v.ka v.kn v.kc, .slice v.ca v.cn v.cc] 54)) w.heap.size done) := Lib.hid (by
          have := Hq.out
          rw [show s.name = ⟨#[109, 105, 110, 105, 109, 117, 109, 95, 115, 104, 111, 117, 108, 100, 95, 109, 97, 116, 99, 104]⟩ from hname] at this
          exact this)
        clear hname Hq
        go_wp2_with (go_at_call 88; refine (setB_msm _ w.heap.size done s Hn.out Hq'.out).mono ?_; rintro e w2 ⟨rfl, hq2, hb2⟩)
        have hz2 := Hz.out.keep ((hb2.block _ (by omega)).trans (heap_alloc_old _ _ hzl))
        have hbel2 := (Hbel.out.alloc Hbel.out.size _).trans (hb2.mono (by omega))
        go_roundw
        case rel => exact ⟨k + 1, by omega, by simp, by rw [Htake.out]; exact hq2, hz2, hbel2⟩
        case measure => simp [intOf]; omega
      · as_aux_lemma =>
        rw [show s.name = ⟨#[109, 105, 110, 105, 109, 117, 109, 95, 110, 117, 109, 98, 101, 114, 95, 115, 104, 111, 117, 108, 100, 95, 109, 97, 116, 99, 104]⟩ from hname] at c0
        have Hn : Hid (s.name = n_minimum_number_should_match) := Lib.hid hname
        have Hq' : Hid (BQ (wr.alloc (.cells #[.string ⟨#[109, 105, 110, 105, 109, 117, 109, 95, 110, 117, 109, 98, 101, 114, 95, 115, 104, 111, 117, 108, 100, 95, 109, 97, 116, 99, 104]⟩, .int .i64 v.kind, .string s.val.text, .float .f64 s.val.num, .bool s.val.yes, .slice v.ka v.kn v.kc, .slice v.ca v.cn v.cc] 54)) w.heap.size done) := Lib.hid (by
          have := Hq.out
          rw [show s.name = ⟨#[109, 105, 110, 105, 109, 117, 109, 95, 110, 117, 109, 98, 101, 114, 95, 115, 104, 111, 117, 108, 100, 95, 109, 97, 116, 99, 104]⟩ from hname] at this
          exact this)
        clear hname Hq
        obtain ⟨nn, hnn, hcv⟩ := Hw.out Hn.out
        have hcv' := fun wx => conv_int hcv wx
        have Hcv := Lib.hid hcv; clear hcv
        go_wp2_with (go_at_call 89; refine (setB_mnsm _ w.heap.size done s Hn.out Hq'.out nn hnn Hcv.out (Htab.out _ (Hbel.out.alloc Hbel.out.size _))).mono ?_; rintro e w2 ⟨rfl, hq2, hb2⟩)
        have hz2 := Hz.out.keep ((hb2.block _ (by omega)).trans (heap_alloc_old _ _ hzl))
        have hbel2 := (Hbel.out.alloc Hbel.out.size _).trans (hb2.mono (by omega))
        go_roundw
        case rel => exact ⟨k + 1, by omega, by simp, by rw [Htake.out]; exact hq2, hz2, hbel2⟩
        case measure => simp [intOf]; omega
      · as_aux_lemma =>
        rw [show s.name = ⟨#[95, 110, 97, 109, 101]⟩ from hname] at c0
        have Hn : Hid (s.name = n__name) := Lib.hid hname
        have Hq' : Hid (BQ (wr.alloc (.cells #[.string ⟨#[95, 110, 97, 109, 101]⟩, .int .i64 v.kind, .string s.val.text, .float .f64 s.val.num, .bool s.val.yes, .slice v.ka v.kn v.kc, .slice v.ca v.cn v.cc] 54)) w.heap.size done) := Lib.hid (by
          have := Hq.out
          rw [show s.name = ⟨#[95, 110, 97, 109, 101]⟩ from hname] at this
          exact this)
        clear hname Hq
        go_wp2_with (go_at_call 90; refine (setB_name _ w.heap.size done s Hn.out Hq'.out).mono ?_; rintro e w2 ⟨rfl, hq2, hb2⟩)
        have hz2 := Hz.out.keep ((hb2.block _ (by omega)).trans (heap_alloc_old _ _ hzl))
        have hbel2 := (Hbel.out.alloc Hbel.out.size _).trans (hb2.mono (by omega))
        go_roundw
        case rel => exact ⟨k + 1, by omega, by simp, by rw [Htake.out]; exact hq2, hz2, hbel2⟩
        case measure => simp [intOf]; omega
    · obtain rfl : k = sets.length := by omega
      rw [List.take_length] at hq
      have hs := Hsrc.out wr hbel hq
      have Hs := Lib.hid hs; clear hs
      have Hz := Lib.hid hz; clear hz
      have Hbel := Lib.hid hbel; clear hbel
      clear hq
      go_wp2_with (first
        | (go_at_call 91; refine Hs.out.mono ?_; rintro e w2 ⟨v, rfl, hv, hb2⟩; have Hv := Lib.hid hv; clear hv)
        | (go_at_call 38; refine (told_any v T _ Hv.out).mono ?_; rintro e w3 ⟨⟨kind, text, num, yes, ka, kn, kc, ca, cn, cc⟩, rfl, hV, hb3⟩; obtain ⟨z0, z1, z2, z3, z4, z5, zf, zl⟩ := Box6.cells ((Hz.out.below hb2).below hb3)))
      have hz3 : Zero6 w3 w.heap.size := (Hz.out.below hb2).below hb3
      obtain ⟨p0, p1, p2, p3, p4, p5, _, _⟩ := (hz3.put6 (.int .i64 kind) (.string text) (.float .f64 num) (.bool yes) (.slice ka kn kc) (.slice ca cn cc)).cells
      refine bodyPost_ret (v := .tuple #[.agg #[.int .i64 kind, .string text, .float .f64 num, .bool yes, .slice ka kn kc, .slice ca cn cc], .bool true]) (by simp [results, Tryz.results17, go_sem, p0, p1, p2, p3, p4, p5]) rfl ?_
      have hlt2 : w.heap.size + 1 ≤ w2.heap.size := Nat.le_trans (Array.getElem?_eq_some_iff.1 Hz.out).1 hb2.size
      exact ⟨⟨kind, text, num, yes, ka, kn, kc, ca, cn, cc⟩, rfl, tree_put6 (hV.mono fun b _ hb => Nat.le_trans hlt2 hb) (Nat.le_refl _) _ _ _ _ _ _, Below.put6 (via (via Hbel.out hb2) hb3) (Nat.le_refl _) _ _ _ _ _ _⟩
end Go.Proofs.YtbcnhcpgloncdaaGreatDoor
