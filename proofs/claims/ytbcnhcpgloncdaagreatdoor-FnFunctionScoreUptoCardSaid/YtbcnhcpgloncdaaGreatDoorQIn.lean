/- 'spec.Bool': what the reference says of a bool query. -/
import Derived.Test.YtbcnhcpgloncdaaGreatDoorQIl
namespace Go.Proofs.YtbcnhcpgloncdaaGreatDoor
open Go Go.RowKit Go.BigFrame

theorem params_Bool (sets : List SetM) (S : Nat → Prop) (a : Option Addr) (c : Nat) (w : World) (h : SetsAt w S a sets) (hS : ∀ b, S b → b < w.heap.size) (hl : sets.length ≤ 9223372036854775807) :
    Calls Tryz.prog 51 #[.string ⟨#[66, 111, 111, 108]⟩, .slice a sets.length c] w fun e w' => ∃ kv, e = .returned kv ∧ OwnL PairR pairCells 81 7 w' S w.heap.size kv (paramsL rsBool sets) ∧ Below w.heap.size w w' :=
  params_any _ rsBool sets S a c w (fun _ => rows_any _ tbBool rsBool 60 _ table_Bool rowsOf_Bool (by decide +kernel) (by decide +kernel)) (by decide +kernel) h hS hl

theorem nDigits_le (u : Nat) : Lib.nDigits u ≤ u + 1 := by
  induction u using Nat.strongRecOn with
  | ind u ih =>
    unfold Lib.nDigits
    split
    · omega
    · have := ih (u / 10) (by omega)
      omega
theorem itoaB_small {x n : Nat} (hn : n ≤ 1000000) (h : floatToIntVal .f64 x .i64 = some (n : Int)) : (itoaB x).size ≤ 9223372036854775807 := by
  have e : toI x = (n : Int) := by unfold toI; rw [h]; rfl
  have h1 : (Lib.itoa (n : Int)).length ≤ n + 1 := by
    unfold Lib.itoa
    rw [if_neg (by omega), Lib.decDigits_length]
    have := nDigits_le (n : Int).toNat
    omega
  unfold itoaB
  rw [e]
  simp only [ByteArray.size, List.size_toArray]
  omega
theorem OwnL.sets' {e : TypeId} {w : World} {S : Nat → Prop} {base : Nat} {kv : Value} {ps : List SetM} (h : OwnL PairR pairCells e 7 w S base kv ps) : ∃ a c, kv = .slice a ps.length c ∧ SetsAt w (fun b => b < w.heap.size ∧ (S b ∨ base ≤ b)) a ps := by
  obtain ⟨a, c, vs, h1, h2, h3⟩ := h.slice (S' := fun b => S b ∨ base ≤ b) (fun x => rfl) (fun _ hb => .inr hb) (ByteArray.empty, default)
  refine ⟨a, c, h1, SetsAt.mono (S := fun b => S b ∨ base ≤ b) ⟨fun i => (vs i).2, ?_, fun i s hs => (h3 i s hs).2.mono (fun _ _ hb => .inl hb.1)⟩ (fun b hb hS => ⟨hb, hS⟩)⟩
  intro hn
  obtain ⟨b, o, e1, e2, hr⟩ := h2 hn
  refine ⟨b, o, e1, e2, fun i hi j u hu => hr i hi j u ?_⟩
  have := (h3 i ps[i] (List.getElem?_eq_getElem hi)).1
  rw [← hu]
  simp only [pairCells, this]
  simp [hi]

/-- The two names that are told apart. -/
def msmNames : List ByteArray := [n_minimum_should_match, n_minimum_number_should_match]

set_option maxRecDepth 100000 in
set_option maxHeartbeats 4000000 in
theorem specBool_any (sets : List SetM) (S : Nat → Prop) (a : Option Addr) (c : Nat) (w : World) (h : SetsAt w S a sets) (hS : ∀ b, S b → b < w.heap.size) (hl : sets.length ≤ 1048576)
    (hpos : ∀ place ∈ placesB, ∀ s ∈ sets, s.name = place → 0 < (clauseK s.val).length) (hbd : ∀ place, (clausesT place sets).length ≤ 1048576)
    (hwh : ∀ s ∈ sets, s.name = n_minimum_number_should_match → ∃ n : Nat, n ≤ 1000000 ∧ floatToIntVal .f64 s.val.num .i64 = some (n : Int))
    (htab : ∀ wx, Below w.heap.size w wx → Lib.TabIs Tryz.prog wx "internal/strconv.uint64pow10" .u64 Lib.pow10Tab) :
    Calls Tryz.prog 19 #[.slice a sets.length c] w (TreeA w (besideT n_bool (specPairs sets))) := by
  obtain ⟨i0, hi, hz0, hz1, hz2⟩ := info_parts Tryz.info81
  have Hh := Lib.hid h; clear h
  have HS := Lib.hid hS; clear hS
  have Hpos := Lib.hid hpos; clear hpos
  have Hbd := Lib.hid hbd; clear hbd
  have Hwh := Lib.hid hwh; clear hwh
  have Htab := Lib.hid htab; clear htab
  go_enter Tryz.func19, Tryz.ntmps19
  go_wp2_with fail
  have hb0 : Below w.heap.size w (w.alloc (.cells #[.int .i64 0, .string ⟨#[]⟩, .float .f64 0, .bool false, .slice none 0 0, .slice none 0 0] 31)) := (Below.refl _ _).alloc (Nat.le_refl _) _
  refine (params_Bool sets S a c _ (Hh.out.keep (Keeps.of_below S hb0)) (fun b hb => by have := HS.out b hb; simp; omega) (by omega)).mono ?_
  rintro e w2 ⟨kv, rfl, hown, hb2⟩
  obtain ⟨a2, cc2, rfl, hps⟩ := hown.sets'
  simp only [World.size_alloc] at hps
  go_wp2_with fail
  have hps' := hps.keep (w' := w2.alloc (.cells (msmNames.map Value.string).toArray 9)) (Keeps.of_below _ ((Below.refl _ _).alloc (Nat.le_refl _) _))
  have hpl : (paramsL rsBool sets).length ≤ 9 := paramsL_length rsBool sets
  refine (pick_any (paramsL rsBool sets) msmNames _ a2 (some ⟨w2.heap.size, 0, none⟩) cc2 2 _ hps' (fun b hb => by simp; omega) (by omega) (strs_new w2 msmNames 9 trivial) (by decide)).mono ?_
  rintro e w3 ⟨kv, rfl, hown3, hb3⟩
  have hb3' := via (via hb0 hb2) (via ((Below.refl _ _).alloc (Nat.le_refl _) _) hb3)
  have hz3 : Zero6 w3 w.heap.size := Box6.below (Box6.below (heap_alloc_new w _) hb2) (via ((Below.refl _ _).alloc (Nat.le_refl _) _) hb3)
  have hlen3 : (pickL (paramsL rsBool sets) msmNames).length ≤ 9 := Nat.le_trans (pickL_length _ _) hpl
  have hown3' := hown3.mono (S' := fun b => b ≠ w.heap.size) (base' := w.heap.size + 1) pair_law (fun b _ hb => by rcases hb.2 with h | h; have := HS.out b h; omega; omega) (by have := hb2.size; simp at this ⊢; omega)
  have Hown3 := Lib.hid hown3'
  have Hb3 := Lib.hid hb3'
  have Hz3 := Lib.hid hz3
  clear hown3 hown3' hb3 hb3' hz3 hown hps hps' hb2 hb0 hpl
  go_wp2_with fail
  refine (places_any w3).mono ?_
  rintro e w4 ⟨pb, rfl, hpl, hpb, hb4⟩
  have hpb4 : pb < w4.heap.size := (Array.getElem?_eq_some_iff.1 hpl).1
  have Hpl := Lib.hid hpl; clear hpl
  have Hown4 := Lib.hid (Hown3.out.below pair_law hb4)
  have Hne4 : Hid (kv.ownBlock ≠ some pb) := Lib.hid (fun e => by have := (Hown3.out.lt pb e).2; omega)
  have Hz4 := Lib.hid (Hz3.out.below hb4)
  have Hb4 := Lib.hid (via Hb3.out hb4); clear hb4
  have hpl4 : placesB.length = 4 := rfl
  obtain ⟨P, hP⟩ : ∃ P, P = pickL (paramsL rsBool sets) msmNames := ⟨_, rfl⟩
  rw [← hP] at Hown4 hlen3
  have HP := Lib.hid hP
  clear hP Hown3 Hb3 Hz3
  go_wp2_with fail
  go_loopw [3, 14] (fun v i wr => ∃ k : Nat, k ≤ 4 ∧ i = .int .i64 k ∧ OwnL PairR pairCells 81 7 wr (fun b => b ≠ w.heap.size) (w.heap.size + 1) v (P ++ (placesB.take k).flatMap (placeP sets)) ∧ v.ownBlock ≠ some pb ∧
    wr.heap[pb]? = some (.cells (placesL.map Value.string).toArray 9 (0, 0)) ∧ Zero6 wr w.heap.size ∧ Below w.heap.size w wr) (fun _ i _ => 4 - (intOf i).toNat)
  case atStart => exact ⟨0, by omega, rfl, by simpa using Hown4.out, Hne4.out, Hpl.out, Hz4.out, Hb4.out⟩
  case round =>
    clear Hown4 Hne4 Hpl Hz4 Hb4
    obtain ⟨k, hk, rfl, hown, hne, hplc, hz, hbel⟩ := hrel
    by_cases hlt : k < 4
    · have hlt' : k < placesB.length := hlt
      have cpl : wr.cell? ⟨pb, k, none⟩ = some (.string placesB[k]) := by
        have e : (placesL.map Value.string).toArray[k]? = some (.string placesB[k]) := by
          have : placesL = placesB := rfl
          rw [this]; simp [hlt']
        simp [World.cell?, hplc, e]
      have hpbl : pb < wr.heap.size := (Array.getElem?_eq_some_iff.1 hplc).1
      have Htake : Hid (placesB.take (k + 1) = placesB.take k ++ [placesB[k]]) := Lib.hid (List.take_succ_eq_append_getElem hlt')
      have hc := clauses_any sets placesB[k] S a c wr (Hh.out.keep (Keeps.of_below S hbel)) (fun b hb => Nat.lt_of_lt_of_le (HS.out b hb) hbel.size) (by omega) (Hpos.out _ (List.getElem_mem hlt')) (Hbd.out _)
      generalize placesB[k] = pl at *
      obtain ⟨L, hL⟩ : ∃ L, L = P ++ (placesB.take k).flatMap (placeP sets) := ⟨_, rfl⟩
      rw [← hL] at hown
      have hll : L.length ≤ 100 := by
        rw [hL, List.length_append]
        have : ((placesB.take k).flatMap (placeP sets)).length ≤ (placesB.take k).length := by
          generalize placesB.take k = l
          induction l with
          | nil => simp
          | cons x l ih =>
            rw [List.flatMap_cons, List.length_append, List.length_cons]
            have : (placeP sets x).length ≤ 1 := by unfold placeP; split <;> simp
            omega
        have h2 : (placesB.take k).length ≤ 4 := by rw [List.length_take]; omega
        omega
      have HL := Lib.hid hL; clear hL
      have hsz := hbel.size
      have hzl : w.heap.size < wr.heap.size := (Array.getElem?_eq_some_iff.1 hz).1
      have Hbel := Lib.hid hbel; clear hbel
      have Hz := Lib.hid hz; clear hz
      have Hplc := Lib.hid hplc; clear hplc
      have Hne := Lib.hid hne; clear hne
      have Hc := Lib.hid hc; clear hc
      obtain ⟨a2, cc2, hform⟩ := hown.form
      subst hform
      have Hown := Lib.hid hown; clear hown
      have hi1 : (0 : Int) ≤ (k : Int) := by omega
      have hi2 : (k : Int) < (4 : Int) := by omega
      go_upto_region 6 with (go_at_call 96; refine Hc.out.mono ?_; rintro e w5 ⟨⟨kind, text, num, yes, ka, kn, kc, ca, cn, cc⟩, rfl, hu, hb5⟩)
      obtain ⟨_, _, _, _, _, e6⟩ := hu.eqs
      have Hcn : Hid (cn = (clausesT pl sets).length) := Lib.hid e6
      have hpp : ∀ b : Bool, b = decide (0 < cn) → placeP sets pl = if b = true then [⟨pl, listT (clausesT pl sets)⟩] else [] := by
        intro b hb
        unfold placeP
        rw [← Hcn.out, hb]
        simp
      have hb6 : Below wr.heap.size wr (w5.alloc (.cells #[.int .i64 kind, .string text, .float .f64 num, .bool yes, .slice ka kn kc, .slice ca cn cc] 31)) := hb5.alloc hb5.size _
      have hs5 := hb5.size
      have hbx : Box6 _ w5.heap.size (.int .i64 kind) (.string text) (.float .f64 num) (.bool yes) (.slice ka kn kc) (.slice ca cn cc) := heap_alloc_new w5 (.cells #[.int .i64 kind, .string text, .float .f64 num, .bool yes, .slice ka kn kc, .slice ca cn cc] 31)
      have hu6 := hu.keep (Keeps.of_below _ ((Below.refl _ _).alloc (Nat.le_refl _) (.cells #[.int .i64 kind, .string text, .float .f64 num, .bool yes, .slice ka kn kc, .slice ca cn cc] 31)))
      have hs6 : wr.heap.size + 1 ≤ (w5.alloc (.cells #[.int .i64 kind, .string text, .float .f64 num, .bool yes, .slice ka kn kc, .slice ca cn cc] 31)).heap.size := by simp; omega
      clear hu e6 hb5
      generalize w5.alloc (.cells #[.int .i64 kind, .string text, .float .f64 num, .bool yes, .slice ka kn kc, .slice ca cn cc] 31) = w6 at *
      obtain ⟨x0, x1, x2, x3, x4, x5, xf, xl⟩ := hbx.cells
      obtain ⟨vs, hvl, hrow6, hreps⟩ := Hown.out.below pair_law hb6
      have Hreps := Lib.hid hreps; clear hreps
      have Hvl := Lib.hid hvl; clear hvl
      have Hu6 := Lib.hid hu6; clear hu6 hbx
      have Hb6 := Lib.hid hb6; clear hb6
      by_cases h0 : 0 < cn
      · have Hpp := Lib.hid (hpp true (by simp [h0])); clear hpp
        go_wp2_with (at_builtin; refine wpList_append_lies _ rfl _ _ _ rfl (w.heap.size + 1) 81 i0 _ 7 104 Tryz.underlying83 hi hz0 hz1 hz2 rfl (by omega) (.slice a2 L.length cc2) L.length _ rfl (hrow6.alloc _) ⟨w6.heap.size, 0, none⟩ 1 1 [.string pl, .int .i64 kind, .string text, .float .f64 num, .bool yes, .slice ka kn kc, .slice ca cn cc] rfl rfl (World.news_of_block (cs := #[.string pl, .int .i64 kind, .string text, .float .f64 num, .bool yes, .slice ka kn kc, .slice ca cn cc]) (t := 81) (fr := (0, 0)) (heap_alloc_new w6 _)) (by simp [Value.oneCell']) (by omega) (by unfold maxLen; omega) (by omega) (by simp; omega) (w6.heap.size + 1) (by simp) ?_; intro g cap w1 hown1 hgrow hat hlt1)
        have hbx : Below w6.heap.size w6 (w6.alloc (.cells #[.string pl, .int .i64 kind, .string text, .float .f64 num, .bool yes, .slice ka kn kc, .slice ca cn cc] 81)) := (Below.refl _ _).alloc (Nat.le_refl _) _
        have hnew : OwnL PairR pairCells 81 7 w1 (fun b => b ≠ w.heap.size) (w.heap.size + 1) (.slice (some ⟨g, 0, none⟩) (L.length + 1) cap) (L ++ [⟨pl, listT (clausesT pl sets)⟩]) :=
          OwnL.one (u := (pl, ⟨kind, text, num, yes, ka, kn, kc, ca, cn, cc⟩)) pair_law Hvl.out (fun i v t hv ht => pair_law.keep (Hreps.out i v t hv ht) (Keeps.of_below _ hbx))
            ⟨rfl, (Hu6.out.mono (S' := fun b => b ≠ w.heap.size ∧ (Value.slice a2 L.length cc2).ownBlock ≠ some b) (fun b hb hSb => ⟨by rcases hSb with h | h; have := HS.out b h; omega; omega, fun e => by
              obtain ⟨h1, h2⟩ := Hown.out.lt b e
              rcases hSb with h | h
              · have := HS.out b h; omega
              · omega⟩)).keep (Keeps.of_below _ hbx)⟩ hown1 hgrow hat (by simp) rfl rfl
        have hbel1 : Below w.heap.size w w1 := ((via Hbel.out Hb6.out).alloc (by omega) _).grown hgrow (by simp; omega) (fun k hk => by have := (hrow6.lt k hk).1; omega)
        have hz1 : Zero6 w1 w.heap.size := Box6.grown (base := w.heap.size + 1) ((Hz.out.below Hb6.out).alloc) hgrow (hrow6.alloc _).lt (by omega)
        have hpl1 : w1.heap[pb]? = some (.cells (placesL.map Value.string).toArray 9 (0, 0)) := (hgrow.block pb (by simp; omega) (fun e => Hne.out (e.symm.trans rfl))).trans ((heap_alloc_old _ _ (by omega)).trans ((Hb6.out.block pb hpbl).trans Hplc.out))
        have Hne1 : Hid ((Value.slice (some ⟨g, 0, none⟩) (L.length + 1) cap).ownBlock ≠ some pb) := Lib.hid (fun e => by
          have e' : g = pb := by simpa [Value.ownBlock] using e
          rcases hat with h1 | h1
          · exact Hne.out (by rw [h1, e'])
          · omega)
        have Hnew := Lib.hid hnew
        have Hbel1 := Lib.hid hbel1
        have Hz1 := Lib.hid hz1
        have Hpl1 := Lib.hid hpl1
        clear hnew hbel1 hz1 hpl1 hgrow hat hown1 hrow6 hbx
        go_wp2_with fail
        go_roundw
        case rel => exact ⟨k + 1, by omega, by simp, by rw [Htake.out, List.flatMap_append, ← List.append_assoc, ← HL.out]; simpa [Hpp.out] using Hnew.out, Hne1.out, Hpl1.out, Hz1.out, Hbel1.out⟩
        case measure => simp [intOf]; omega
      · have Hpp := Lib.hid (hpp false (by simp [h0])); clear hpp
        have Hrow6 := Lib.hid hrow6; clear hrow6
        go_wp2_with fail
        go_roundw
        case rel => exact ⟨k + 1, by omega, by simp, by rw [Htake.out, List.flatMap_append, ← List.append_assoc, ← HL.out]; simpa [Hpp.out] using Hown.out.below pair_law Hb6.out, Hne.out, (Hb6.out.block pb hpbl).trans Hplc.out, Hz.out.below Hb6.out, via Hbel.out Hb6.out⟩
        case measure => simp [intOf]; omega
    · obtain rfl : k = 4 := by omega
      have htk : placesB.take 4 = placesB := rfl
      rw [htk] at hown
      have hlen4 : (P ++ placesB.flatMap (placeP sets)).length ≤ 100 := by
        rw [List.length_append]
        have : (placesB.flatMap (placeP sets)).length ≤ 4 := by
          have h1 : ∀ l : List ByteArray, (l.flatMap (placeP sets)).length ≤ l.length := by
            intro l
            induction l with
            | nil => simp
            | cons x l ih =>
              rw [List.flatMap_cons, List.length_append, List.length_cons]
              have : (placeP sets x).length ≤ 1 := by unfold placeP; split <;> simp
              omega
          exact h1 placesB
        omega
      clear hne hplc
      obtain ⟨Q, hQ⟩ : ∃ Q, Q = P ++ placesB.flatMap (placeP sets) := ⟨_, rfl⟩
      rw [← hQ] at hown hlen4
      have HQ := Lib.hid hQ; clear hQ
      have Hown := Lib.hid hown; clear hown
      have Hz := Lib.hid hz; clear hz
      have Hbel := Lib.hid hbel; clear hbel
      go_wp2_with fail
      rw [show ((4 : Nat) : Int) = (4 : Int) from rfl]
      go_loopw [3, 7] (fun v i wr => ∃ k : Nat, k ≤ sets.length ∧ i = .int .i64 k ∧ OwnL PairR pairCells 81 7 wr (fun b => b ≠ w.heap.size) (w.heap.size + 1) v (Q ++ (sets.take k).flatMap msmP1) ∧ Zero6 wr w.heap.size ∧ Below w.heap.size w wr) (fun _ i _ => sets.length - (intOf i).toNat)
      case atStart => exact ⟨0, Nat.zero_le _, rfl, by simpa using Hown.out, Hz.out, Hbel.out⟩
      case round =>
      clear Hown Hz Hbel
      obtain ⟨k, hk, rfl, hown, hz, hbel⟩ := hrel
      by_cases hlt : k < sets.length
      · obtain ⟨b', o, u, hca, hSb, hlb, c0, c1, c2, c3, c4, c5, c6, hu⟩ := (Hh.out.keep (Keeps.of_below _ hbel)).cells (k := k) hlt
        subst hca
        obtain ⟨_, _, e3, _, _, _⟩ := hu.eqs
        have Htake : Hid (sets.take (k + 1) = sets.take k ++ [sets[k]]) := Lib.hid (List.take_succ_eq_append_getElem hlt)
        have Hw := Lib.hid (Hwh.out sets[k] (List.getElem_mem hlt))
        generalize sets[k] = s at *
        obtain ⟨L, hL⟩ : ∃ L, L = Q ++ (sets.take k).flatMap msmP1 := ⟨_, rfl⟩
        rw [← hL] at hown
        have hll : L.length ≤ 100 + k := by
          rw [hL, List.length_append]
          have h1 : ∀ l : List SetM, (l.flatMap msmP1).length ≤ l.length := by
            intro l
            induction l with
            | nil => simp
            | cons x l ih =>
              rw [List.flatMap_cons, List.length_append, List.length_cons]
              have : (msmP1 x).length ≤ 1 := by unfold msmP1; split; simp; split <;> simp
              omega
          have := h1 (sets.take k)
          have h2 : (sets.take k).length ≤ k := by rw [List.length_take]; omega
          omega
        have HL := Lib.hid hL; clear hL
        have hsz := hbel.size
        have hzl : w.heap.size < wr.heap.size := (Array.getElem?_eq_some_iff.1 hz).1
        have Hbel := Lib.hid hbel; clear hbel
        have Hz := Lib.hid hz; clear hz
        obtain ⟨a2, cc2, hform⟩ := hown.form
        subst hform
        have Hown := Lib.hid hown; clear hown
        obtain ⟨vs, hvl, hrow, hreps⟩ := Hown.out
        have hi1 : (0 : Int) ≤ (k : Int) := by omega
        have hi2 : (k : Int) < (sets.length : Int) := by omega
        obtain ⟨kind, text, num, yes, ka, kn, kc, ca, cn, cc⟩ := u
        simp only at c1 c2 c3 c4 c5 c6 e3
        have Hu := Lib.hid hu; clear hu
        have Hvl := Lib.hid hvl; clear hvl
        by_cases hn : s.name = n_minimum_should_match
        · have Hmp : Hid (msmP1 s = [⟨n_minimum_should_match, s.val⟩]) := Lib.hid (by unfold msmP1; rw [if_pos hn])
          rw [show s.name = ⟨#[109, 105, 110, 105, 109, 117, 109, 95, 115, 104, 111, 117, 108, 100, 95, 109, 97, 116, 99, 104]⟩ from hn] at c0
          have Hreps := Lib.hid hreps; clear hreps hn e3
          go_wp2_with (at_builtin; refine wpList_append_lies _ rfl _ _ _ rfl (w.heap.size + 1) 81 i0 _ 7 104 Tryz.underlying83 hi hz0 hz1 hz2 rfl (by omega) (.slice a2 L.length cc2) L.length _ rfl (hrow.alloc _) ⟨wr.heap.size, 0, none⟩ 1 1 [.string ⟨#[109, 105, 110, 105, 109, 117, 109, 95, 115, 104, 111, 117, 108, 100, 95, 109, 97, 116, 99, 104]⟩, .int .i64 kind, .string text, .float .f64 num, .bool yes, .slice ka kn kc, .slice ca cn cc] rfl rfl (World.news_of_block (cs := #[.string ⟨#[109, 105, 110, 105, 109, 117, 109, 95, 115, 104, 111, 117, 108, 100, 95, 109, 97, 116, 99, 104]⟩, .int .i64 kind, .string text, .float .f64 num, .bool yes, .slice ka kn kc, .slice ca cn cc]) (t := 81) (fr := (0, 0)) (heap_alloc_new wr _)) (by simp [Value.oneCell']) (by omega) (by unfold maxLen; omega) (by omega) (by simp; omega) (wr.heap.size + 1) (by simp) ?_; intro g cap w1 hown1 hgrow hat hlt1)
          have hbx : Below wr.heap.size wr (wr.alloc (.cells #[.string ⟨#[109, 105, 110, 105, 109, 117, 109, 95, 115, 104, 111, 117, 108, 100, 95, 109, 97, 116, 99, 104]⟩, .int .i64 kind, .string text, .float .f64 num, .bool yes, .slice ka kn kc, .slice ca cn cc] 81)) := (Below.refl _ _).alloc (Nat.le_refl _) _
          have hnew : OwnL PairR pairCells 81 7 w1 (fun b => b ≠ w.heap.size) (w.heap.size + 1) (.slice (some ⟨g, 0, none⟩) (L.length + 1) cap) (L ++ [⟨n_minimum_should_match, s.val⟩]) :=
            OwnL.one (u := ((⟨#[109, 105, 110, 105, 109, 117, 109, 95, 115, 104, 111, 117, 108, 100, 95, 109, 97, 116, 99, 104]⟩ : ByteArray), (⟨kind, text, num, yes, ka, kn, kc, ca, cn, cc⟩ : TV))) pair_law Hvl.out (fun i v t hv ht => pair_law.keep (Hreps.out i v t hv ht) (Keeps.of_below _ hbx))
              ⟨rfl, (Hu.out.mono (S' := fun b => b ≠ w.heap.size ∧ (Value.slice a2 L.length cc2).ownBlock ≠ some b) (fun b hb hSb => ⟨by have := HS.out b hSb; omega, fun e => by have := (hrow.lt b e).1; have := HS.out b hSb; omega⟩)).keep (Keeps.of_below _ hbx)⟩ hown1 hgrow hat (by simp) rfl rfl
          have hbel1 : Below w.heap.size w w1 := ((Hbel.out).alloc (by omega) _).grown hgrow (by simp; omega) (fun k hk => by have := (hrow.lt k hk).1; omega)
          have hz1 : Zero6 w1 w.heap.size := Box6.grown (base := w.heap.size + 1) ((Hz.out).alloc) hgrow (hrow.alloc _).lt (by omega)
          have Hnew := Lib.hid hnew
          have Hbel1 := Lib.hid hbel1
          have Hz1 := Lib.hid hz1
          clear hnew hbel1 hz1 hgrow hat hown1 hrow hbx
          go_wp2_with fail
          go_roundw
          case rel => exact ⟨k + 1, by omega, by simp, by rw [Htake.out, List.flatMap_append, ← List.append_assoc, ← HL.out]; simpa [Hmp.out] using Hnew.out, Hz1.out, Hbel1.out⟩
          case measure => simp [intOf]; omega
        · by_cases hn2 : s.name = n_minimum_number_should_match
          · have Hmp : Hid (msmP1 s = [⟨n_minimum_should_match, textT (itoaB s.val.num)⟩]) := Lib.hid (by unfold msmP1; rw [if_neg hn, if_pos hn2])
            rw [show s.name = ⟨#[109, 105, 110, 105, 109, 117, 109, 95, 110, 117, 109, 98, 101, 114, 95, 115, 104, 111, 117, 108, 100, 95, 109, 97, 116, 99, 104]⟩ from hn2] at c0
            obtain ⟨nn, hnn, hcv⟩ := Hw.out hn2
            have hc := fun wx hb => count_any s.val.num nn hnn wx hcv (Htab.out wx hb)
            rw [e3] at c3
            have Hsm := Lib.hid (itoaB_small hnn hcv)
            have Hc := Lib.hid hc; clear hc hcv hn hn2 e3
            have hrow4 : ∀ w', Below wr.heap.size wr w' → w'.ownsRow (w.heap.size + 1) 81 7 (.slice a2 L.length cc2) L.length (vs.flatMap pairCells) := fun w' hb => ownsRow_below hrow hb
            have Hrow4 := Lib.hid hrow4; clear hrow4
            have Hreps0 := Lib.hid hreps; clear hreps
            go_wp2_with (go_at_call 97; refine (Hc.out _ Hbel.out).mono ?_; rintro e w4 ⟨rfl, hb4⟩)
            have hrow4 := Hrow4.out w4 hb4
            refine (text_any (itoaB s.val.num) w4 Hsm.out).mono ?_
            rintro e w5 ⟨⟨kind2, text2, num2, yes2, ka2, kn2, kc2, ca2, cn2, cc9⟩, rfl, hu5, hb5⟩
            have hrow5 := ownsRow_below hrow4 hb5
            have Hreps := Lib.hid (fun (i : Nat) (v : ByteArray × TV) (t : SetM) (hv : vs[i]? = some v) (ht : L[i]? = some t) => pair_law.keep (Hreps0.out i v t hv ht) (Keeps.of_below _ (via hb4 hb5)))
            have hs4 := hb4.size
            have hs5 := hb5.size
            have Hu5 := Lib.hid hu5; clear hu5
            have Hb5 := Lib.hid (via hb4 hb5); clear hb5 hb4 hrow4
            go_wp2_with (at_builtin; refine wpList_append_lies _ rfl _ _ _ rfl (w.heap.size + 1) 81 i0 _ 7 104 Tryz.underlying83 hi hz0 hz1 hz2 rfl (by omega) (.slice a2 L.length cc2) L.length _ rfl (hrow5.alloc _) ⟨w5.heap.size, 0, none⟩ 1 1 [.string ⟨#[109, 105, 110, 105, 109, 117, 109, 95, 115, 104, 111, 117, 108, 100, 95, 109, 97, 116, 99, 104]⟩, .int .i64 kind2, .string text2, .float .f64 num2, .bool yes2, .slice ka2 kn2 kc2, .slice ca2 cn2 cc9] rfl rfl (World.news_of_block (cs := #[.string ⟨#[109, 105, 110, 105, 109, 117, 109, 95, 115, 104, 111, 117, 108, 100, 95, 109, 97, 116, 99, 104]⟩, .int .i64 kind2, .string text2, .float .f64 num2, .bool yes2, .slice ka2 kn2 kc2, .slice ca2 cn2 cc9]) (t := 81) (fr := (0, 0)) (heap_alloc_new w5 _)) (by simp [Value.oneCell']) (by omega) (by unfold maxLen; omega) (by omega) (by simp; omega) (w5.heap.size + 1) (by simp) ?_; intro g cap w1 hown1 hgrow hat hlt1)
            have hbx : Below w5.heap.size w5 (w5.alloc (.cells #[.string ⟨#[109, 105, 110, 105, 109, 117, 109, 95, 115, 104, 111, 117, 108, 100, 95, 109, 97, 116, 99, 104]⟩, .int .i64 kind2, .string text2, .float .f64 num2, .bool yes2, .slice ka2 kn2 kc2, .slice ca2 cn2 cc9] 81)) := (Below.refl _ _).alloc (Nat.le_refl _) _
            have hnew : OwnL PairR pairCells 81 7 w1 (fun b => b ≠ w.heap.size) (w.heap.size + 1) (.slice (some ⟨g, 0, none⟩) (L.length + 1) cap) (L ++ [⟨n_minimum_should_match, textT (itoaB s.val.num)⟩]) :=
              OwnL.one (u := ((⟨#[109, 105, 110, 105, 109, 117, 109, 95, 115, 104, 111, 117, 108, 100, 95, 109, 97, 116, 99, 104]⟩ : ByteArray), (⟨kind2, text2, num2, yes2, ka2, kn2, kc2, ca2, cn2, cc9⟩ : TV))) pair_law Hvl.out (fun i v t hv ht => pair_law.keep (Hreps.out i v t hv ht) (Keeps.of_below _ hbx))
                ⟨rfl, (Hu5.out.mono (S' := fun b => b ≠ w.heap.size ∧ (Value.slice a2 L.length cc2).ownBlock ≠ some b) (fun b hb hSb => ⟨by rcases hSb with h | h; exact h.elim; omega, fun e => by have := (hrow.lt b e).2; rcases hSb with h | h; exact h.elim; omega⟩)).keep (Keeps.of_below _ hbx)⟩ hown1 hgrow hat (by simp) rfl rfl
            have hbel1 : Below w.heap.size w w1 := ((via Hbel.out Hb5.out).alloc (by omega) _).grown hgrow (by simp; omega) (fun k hk => by have := (hrow5.lt k hk).1; omega)
            have hz1 : Zero6 w1 w.heap.size := Box6.grown (base := w.heap.size + 1) ((Hz.out.below Hb5.out).alloc) hgrow (hrow5.alloc _).lt (by omega)
            have Hnew := Lib.hid hnew
            have Hbel1 := Lib.hid hbel1
            have Hz1 := Lib.hid hz1
            clear hnew hbel1 hz1 hgrow hat hown1 hrow5 hrow hbx
            go_wp2_with fail
            go_roundw
            case rel => exact ⟨k + 1, by omega, by simp, by rw [Htake.out, List.flatMap_append, ← List.append_assoc, ← HL.out]; simpa [Hmp.out] using Hnew.out, Hz1.out, Hbel1.out⟩
            case measure => simp [intOf]; omega
          · have Hmp : Hid (msmP1 s = []) := Lib.hid (by unfold msmP1; rw [if_neg hn, if_neg hn2])
            have hn' := lit_ne [109, 105, 110, 105, 109, 117, 109, 95, 115, 104, 111, 117, 108, 100, 95, 109, 97, 116, 99, 104] hn
            have hn2' := lit_ne [109, 105, 110, 105, 109, 117, 109, 95, 110, 117, 109, 98, 101, 114, 95, 115, 104, 111, 117, 108, 100, 95, 109, 97, 116, 99, 104] hn2
            clear hn hn2 hreps hrow e3
            go_wp2_with fail
            go_roundw
            case rel => exact ⟨k + 1, by omega, by simp, by rw [Htake.out, List.flatMap_append, ← List.append_assoc, ← HL.out]; simpa [Hmp.out] using Hown.out, Hz.out, Hbel.out⟩
            case measure => simp [intOf]; omega
      · obtain rfl : k = sets.length := by omega
        rw [List.take_length] at hown
        have e1 : besideT n_bool (Q ++ sets.flatMap msmP1) = besideT n_bool (specPairs sets) := by rw [HQ.out, HP.out]; rfl
        have hlen5 : (Q ++ sets.flatMap msmP1).length ≤ 1000000000 := by
          have h1 : ∀ l : List SetM, (l.flatMap msmP1).length ≤ l.length := by
            intro l
            induction l with
            | nil => simp
            | cons x l ih =>
              rw [List.flatMap_cons, List.length_append, List.length_cons]
              have : (msmP1 x).length ≤ 1 := by unfold msmP1; split; simp; split <;> simp
              omega
          have := h1 sets
          rw [List.length_append]; omega
        obtain ⟨a2, cc2, hform, hps⟩ := hown.sets'
        subst hform
        have hc := beside_any n_bool _ _ a2 cc2 wr hps (fun b hb => hb.1) hlen5
        rw [e1] at hc
        generalize (Q ++ sets.flatMap msmP1).length = n at *
        have Hc := Lib.hid hc; clear hc hown hps e1
        have Hz := Lib.hid hz; clear hz
        have Hbel := Lib.hid hbel; clear hbel
        go_wp2_with (go_at_call 52; refine Hc.out.mono ?_; rintro e w5 ⟨⟨kind, text, num, yes, ka, kn, kc, ca, cn, cc⟩, rfl, hu, hb5⟩; obtain ⟨z0, z1, z2, z3, z4, z5, zf, zl⟩ := (Hz.out.below hb5).cells)
        have Hu := Lib.hid hu; clear hu
        have hs5 := hb5.size
        have hz5 := Hz.out.below hb5
        have hsz := Hbel.out.size
        have hzl := (Array.getElem?_eq_some_iff.1 Hz.out).1
        obtain ⟨p0, p1, p2, p3, p4, p5, _, _⟩ := (hz5.put6 (.int .i64 kind) (.string text) (.float .f64 num) (.bool yes) (.slice ka kn kc) (.slice ca cn cc)).cells
        refine bodyPost_ret (v := .agg #[.int .i64 kind, .string text, .float .f64 num, .bool yes, .slice ka kn kc, .slice ca cn cc]) (by simp [results, Tryz.results19, go_sem, p0, p1, p2, p3, p4, p5]) rfl ?_
        refine ⟨⟨kind, text, num, yes, ka, kn, kc, ca, cn, cc⟩, rfl, ((Hu.out.mono (S' := fun b => b ≠ w.heap.size) (fun b _ hb => ?_)).put6 (fun h => h rfl) _ _ _ _ _ _).all, Below.put6 (via Hbel.out hb5) (Nat.le_refl _) _ _ _ _ _ _⟩
        rcases hb with ⟨_, h | h⟩ | h
        · exact h
        · omega
        · omega
end Go.Proofs.YtbcnhcpgloncdaaGreatDoor
