/- 'Params': the settings of a builder that are one value. -/
import Derived.Test.YtbcnhcpgloncdaaGreatDoorQIi
namespace Go.Proofs.YtbcnhcpgloncdaaGreatDoor
open Go Go.RowKit Go.BigFrame

theorem paramsL_snoc (rs : List (ByteArray × ByteArray)) (r : ByteArray × ByteArray) (sets : List SetM) : paramsL (rs ++ [r]) sets = paramsL rs sets ++ paramOf sets r := by simp [paramsL]
theorem paramOf_length (sets : List SetM) (r : ByteArray × ByteArray) : (paramOf sets r).length ≤ 1 := by
  unfold paramOf
  split
  · split <;> simp
  · simp
theorem paramsL_length (rs : List (ByteArray × ByteArray)) (sets : List SetM) : (paramsL rs sets).length ≤ rs.length := by
  induction rs with
  | nil => simp [paramsL]
  | cons r rs ih =>
    have := paramOf_length sets r
    unfold paramsL at *
    rw [List.flatMap_cons, List.length_append, List.length_cons]
    omega

set_option maxRecDepth 100000 in
set_option maxHeartbeats 4000000 in
theorem params_any (b : ByteArray) (rs : List (ByteArray × ByteArray)) (sets : List SetM) (S : Nat → Prop) (a : Option Addr) (c : Nat) (w : World) (hrows : ∀ w, Calls Tryz.prog 103 #[.string b] w (RowsPost w rs)) (hrl : rs.length ≤ 1000)
    (h : SetsAt w S a sets) (hS : ∀ b, S b → b < w.heap.size) (hl : sets.length ≤ 9223372036854775807) :
    Calls Tryz.prog 51 #[.string b, .slice a sets.length c] w fun e w' => ∃ kv, e = .returned kv ∧ OwnL PairR pairCells 81 7 w' S w.heap.size kv (paramsL rs sets) ∧ Below w.heap.size w w' := by
  obtain ⟨i0, hi, hz0, hz1, hz2⟩ := info_parts Tryz.info81
  have Hh := Lib.hid h; clear h
  have HS := Lib.hid hS; clear hS
  have Hrows := Lib.hid hrows; clear hrows
  go_enter Tryz.func51, Tryz.ntmps51
  go_wp2_with fail
  refine (Hrows.out _).mono ?_
  rintro e w2 ⟨g2, cap2, rfl, hrow2, hb2⟩
  have hg2 : w.heap.size + 1 ≤ g2 ∧ g2 < w2.heap.size := by
    have := hrow2.lt g2 rfl
    simpa using this
  have hb2' : Below w.heap.size w w2 := via ((Below.refl _ _).alloc (Nat.le_refl _) _) hb2
  have hown0 : OwnL PairR pairCells 81 7 w2 S w.heap.size (.slice (some ⟨w.heap.size, 0, none⟩) 0 0) ([] : List SetM) :=
    OwnL.made (ownsRow_below (World.ownsRow_made (base := w.heap.size) (e := 81) (size := 7) w #[] 0 (Nat.le_refl _) (by unfold maxLen; omega) rfl) hb2)
  have Hrow2 := Lib.hid hrow2; clear hrow2
  have Hb2 := Lib.hid hb2'; clear hb2 hb2'
  have Hown0 := Lib.hid hown0; clear hown0
  go_wp2_with fail
  go_loopw [5, 7] (fun v i wr => ∃ k : Nat, k ≤ rs.length ∧ i = .int .i64 k ∧ OwnL PairR pairCells 81 7 wr S w.heap.size v (paramsL (rs.take k) sets) ∧ v.ownBlock ≠ some g2 ∧
    wr.ownsRow (w.alloc (.cells #[] 81)).heap.size 111 2 (.slice (some ⟨g2, 0, none⟩) rs.length cap2) rs.length (rowCells rs) ∧ g2 < wr.heap.size ∧ Below w.heap.size w wr) (fun _ i _ => rs.length - (intOf i).toNat)
  case atStart => exact ⟨0, Nat.zero_le _, rfl, Hown0.out, by simp [Value.ownBlock]; omega, Hrow2.out, hg2.2, Hb2.out⟩
  case round =>
    obtain ⟨k, hk, rfl, hown, hne, hrow, hgl, hbel⟩ := hrel
    by_cases hlt : k < rs.length
    · obtain ⟨q1, q2⟩ := rowCells_get hlt
      have c1 := (hrow.cellAt (k * 2) (by omega)).trans q1
      have c2 := (hrow.cellAt (k * 2 + 1) (by omega)).trans q2
      clear q1 q2
      have hc := last_any sets rs[k].1 S a c wr (Hh.out.keep (Keeps.of_below _ hbel)) hl
      have Htake : Hid (rs.take (k + 1) = rs.take k ++ [rs[k]]) := Lib.hid (List.take_succ_eq_append_getElem hlt)
      have hlen : (paramsL (rs.take k) sets).length ≤ k := Nat.le_trans (paramsL_length _ _) (by rw [List.length_take]; omega)
      have Hpo : Hid (paramOf sets rs[k] = match lastOf sets rs[k].1 with | some v => if memB rs[k].2 valueKinds then [⟨rs[k].1, v⟩] else [] | none => []) := Lib.hid rfl
      generalize rs[k] = r0 at *
      obtain ⟨rn, rk⟩ := r0
      obtain ⟨L, hL⟩ : ∃ L, L = paramsL (rs.take k) sets := ⟨_, rfl⟩
      rw [← hL] at hown hlen
      have HL := Lib.hid hL; clear hL
      simp only at c1 c2 hc Hpo
      obtain ⟨r, hr⟩ : ∃ r, r = lastOf sets rn := ⟨_, rfl⟩
      rw [← hr] at hc Hpo
      have Hr := Lib.hid hr; clear hr
      have Hc := Lib.hid hc; clear hc
      have hsz := hbel.size
      have Hbel := Lib.hid hbel; clear hbel
      have Hrow := Lib.hid hrow; clear hrow
      have Hne := Lib.hid hne; clear hne
      obtain ⟨a2, cc2, hform⟩ := hown.form
      subst hform
      have Hown := Lib.hid hown; clear hown
      have hi1 : (0 : Int) ≤ (k : Int) := by omega
      have hi2 : (k : Int) < (rs.length : Int) := by omega
      go_upto_region 7 with (go_at_call 99; refine Hc.out.mono ?_; rintro e w3 ⟨⟨kind, text, num, yes, ka, kn, kc, ca, cn, cc⟩, rfl, hu, hb3⟩)
      have hb4 : Below wr.heap.size wr (w3.alloc (.cells #[.int .i64 kind, .string text, .float .f64 num, .bool yes, .slice ka kn kc, .slice ca cn cc] 31)) := hb3.alloc hb3.size _
      have hs3 := hb3.size
      have c1' := (hb3.cell (p := ⟨g2, k * 2, none⟩) hgl).trans c1
      have c2' := (hb3.cell (p := ⟨g2, k * 2 + 1, none⟩) hgl).trans c2
      have hbx := heap_alloc_new w3 (.cells #[.int .i64 kind, .string text, .float .f64 num, .bool yes, .slice ka kn kc, .slice ca cn cc] 31)
      have Hbx : Hid (Box6 _ w3.heap.size (.int .i64 kind) (.string text) (.float .f64 num) (.bool yes) (.slice ka kn kc) (.slice ca cn cc)) := Lib.hid hbx
      clear hbx c1 c2
      have hg3 : g2 < w3.heap.size := by omega
      have hn3 : g2 ≠ w3.heap.size := by omega
      cases hr : r with
      | none =>
        subst hr
        have Hb4 := Lib.hid hb4; clear hb4 hb3
        simp only [Option.isSome_none]
        go_wp2_with fail
        go_roundw
        case rel => exact ⟨k + 1, by omega, by simp, by rw [Htake.out, paramsL_snoc, Hpo.out, ← HL.out, List.append_nil]; exact Hown.out.below pair_law Hb4.out, Hne.out, ownsRow_below Hrow.out Hb4.out, by simp; omega, via Hbel.out Hb4.out⟩
        case measure => simp [intOf]; omega
      | some t =>
        subst hr
        simp only [Option.isSome_some, Option.getD_some] at hu ⊢
        have hHas := has_any valueKinds rk (fun _ => True) (some ⟨w3.heap.size + 1, 0, none⟩) 5 _ (by
          have := strs_new (w3.alloc (.cells #[.int .i64 kind, .string text, .float .f64 num, .bool yes, .slice ka kn kc, .slice ca cn cc] 31)) valueKinds 9 (S := fun _ => True) trivial
          rw [World.size_alloc] at this
          exact this) (by decide)
        have HHas := Lib.hid hHas; clear hHas
        have hu4 := hu.keep (Keeps.of_below S hb4)
        have Hu := Lib.hid hu4; clear hu4 hu
        have Hb4 := Lib.hid hb4; clear hb4 hb3
        cases hm : memB rk valueKinds with
        | false =>
          rw [hm] at HHas Hpo
          clear hm
          go_wp2_with (go_at_call 43; refine HHas.out.mono ?_; rintro e w' ⟨rfl, rfl⟩)
          go_roundw
          case rel =>
            have hb5 : Below wr.heap.size wr ((w3.alloc (.cells #[.int .i64 kind, .string text, .float .f64 num, .bool yes, .slice ka kn kc, .slice ca cn cc] 31)).alloc (.cells (valueKinds.map Value.string).toArray 9)) := Hb4.out.alloc Hb4.out.size _
            exact ⟨k + 1, by omega, by simp, by rw [Htake.out, paramsL_snoc, Hpo.out, ← HL.out]; simpa using Hown.out.below pair_law hb5, Hne.out, ownsRow_below Hrow.out hb5, by simp; omega, via Hbel.out hb5⟩
          case measure => simp [intOf]; omega
        | true =>
          rw [hm] at HHas Hpo
          clear hm
          go_upto_region 8 with (go_at_call 43; refine HHas.out.mono ?_; rintro e w' ⟨rfl, rfl⟩)
          have hb5 : Below wr.heap.size wr ((w3.alloc (.cells #[.int .i64 kind, .string text, .float .f64 num, .bool yes, .slice ka kn kc, .slice ca cn cc] 31)).alloc (.cells (valueKinds.map Value.string).toArray 9)) := Hb4.out.alloc Hb4.out.size _
          have hb54 : Below (w3.heap.size + 1) (w3.alloc (.cells #[.int .i64 kind, .string text, .float .f64 num, .bool yes, .slice ka kn kc, .slice ca cn cc] 31)) ((w3.alloc (.cells #[.int .i64 kind, .string text, .float .f64 num, .bool yes, .slice ka kn kc, .slice ca cn cc] 31)).alloc (.cells (valueKinds.map Value.string).toArray 9)) := (Below.refl _ _).alloc (by simp) _
          have hbx5 := Hbx.out.keep (hb54.block w3.heap.size (by omega))
          have hu5 := Hu.out.keep (Keeps.of_below S (hb54.mono (by simp)))
          have c15 : ((w3.alloc (.cells #[.int .i64 kind, .string text, .float .f64 num, .bool yes, .slice ka kn kc, .slice ca cn cc] 31)).alloc (.cells (valueKinds.map Value.string).toArray 9)).cell? ⟨g2, k * 2, none⟩ = some (.string rn) := (hb54.cell (p := ⟨g2, k * 2, none⟩) (by simp; omega)).trans ((World.cell?_alloc_lt _ _ ⟨g2, k * 2, none⟩ hg3).trans c1')
          have hs5 : w3.heap.size + 2 ≤ ((w3.alloc (.cells #[.int .i64 kind, .string text, .float .f64 num, .bool yes, .slice ka kn kc, .slice ca cn cc] 31)).alloc (.cells (valueKinds.map Value.string).toArray 9)).heap.size := by simp
          clear hb54 HHas c1' c2'
          generalize (w3.alloc (.cells #[.int .i64 kind, .string text, .float .f64 num, .bool yes, .slice ka kn kc, .slice ca cn cc] 31)).alloc (.cells (valueKinds.map Value.string).toArray 9) = w5 at *
          obtain ⟨x0, x1, x2, x3, x4, x5, xf, xl⟩ := hbx5.cells
          obtain ⟨vs, hvl, hrow5, hreps⟩ := Hown.out.below pair_law hb5
          have Hreps := Lib.hid hreps; clear hreps
          have Hvl := Lib.hid hvl; clear hvl
          have Hu5 := Lib.hid hu5; clear hu5 Hu
          have Hb5 := Lib.hid hb5; clear hb5 Hb4 hbx5
          go_region_law (refine step_append_lies _ (by rfl) _ _ _ (by rfl) w.heap.size 81 i0 _ 7 104 Tryz.underlying83 hi hz0 hz1 hz2 rfl (by omega) (.slice a2 L.length cc2) L.length _ (by rfl) ((hrow5.alloc _).drew) ⟨w5.heap.size, 0, none⟩ 1 1 [.string rn, .int .i64 kind, .string text, .float .f64 num, .bool yes, .slice ka kn kc, .slice ca cn cc] (by rfl) (by rfl) (World.news_of_block (cs := #[.string rn, .int .i64 kind, .string text, .float .f64 num, .bool yes, .slice ka kn kc, .slice ca cn cc]) (t := 81) (fr := (0, 0)) (heap_alloc_new w5 _)) (by simp [Value.oneCell']) (by omega) (by unfold maxLen; omega) (by omega) (by simp; omega) (w5.heap.size + 1) (by simp) ?_; intro g cap w1 hown1 hgrow hat hlt1; replace hgrow : (w5.alloc (.cells #[.string rn, .int .i64 kind, .string text, .float .f64 num, .bool yes, .slice ka kn kc, .slice ca cn cc] 81)).grownBy w1 (Value.ownBlock (.slice a2 L.length cc2)) := ⟨hgrow.os, hgrow.tape, hgrow.output, hgrow.size, hgrow.block⟩)
          all_goals (
            have hbx : Below w5.heap.size w5 (w5.alloc (.cells #[.string rn, .int .i64 kind, .string text, .float .f64 num, .bool yes, .slice ka kn kc, .slice ca cn cc] 81)) := (Below.refl _ _).alloc (Nat.le_refl _) _
            have hnew : OwnL PairR pairCells 81 7 w1 S w.heap.size (.slice (some ⟨g, 0, none⟩) (L.length + 1) cap) (L ++ [⟨rn, t⟩]) :=
              OwnL.one (u := (rn, ⟨kind, text, num, yes, ka, kn, kc, ca, cn, cc⟩)) pair_law Hvl.out (fun i v t hv ht => pair_law.keep (Hreps.out i v t hv ht) (Keeps.of_below _ hbx))
                ⟨rfl, (Hu5.out.mono (S' := fun b => S b ∧ (Value.slice a2 L.length cc2).ownBlock ≠ some b) (fun b hb hSb => ⟨hSb, fun e => by have := (hrow5.lt b e).1; have := HS.out b hSb; omega⟩)).keep (Keeps.of_below _ hbx)⟩ hown1 hgrow hat (by simp) rfl rfl
            have hbel1 : Below w.heap.size w w1 := ((via Hbel.out Hb5.out).alloc (by omega) _).grown hgrow (by simp; omega) (fun k hk => (hrow5.lt k hk).1)
            have hrow1 := (ownsRow_below (ownsRow_below Hrow.out Hb5.out) hbx).kept hgrow (.inr (fun e => Hne.out (e.symm.trans rfl)))
            have hg1 := hgrow.size
            have Hne1 : Hid ((Value.slice (some ⟨g, 0, none⟩) (L.length + 1) cap).ownBlock ≠ some g2) := Lib.hid (fun e => by
              have e' : g = g2 := by simpa [Value.ownBlock] using e
              rcases hat with h1 | h1
              · exact Hne.out (by rw [h1, e'])
              · omega)
            have Hnew := Lib.hid hnew
            have Hbel1 := Lib.hid hbel1
            have Hrow1 := Lib.hid hrow1
            clear hnew hbel1 hrow1 hgrow hat hown1 hrow5 hbx
            simp only [World.size_alloc] at hg1
            go_wp2_with fail
            go_roundw
            case rel => exact ⟨k + 1, by omega, by simp, by rw [Htake.out, paramsL_snoc, Hpo.out, ← HL.out]; exact Hnew.out, Hne1.out, Hrow1.out, by omega, Hbel1.out⟩
            case measure => simp [intOf]; omega)
    · obtain rfl : k = rs.length := by omega
      rw [List.take_length] at hown
      have Hown := Lib.hid hown; clear hown
      go_wp2_with fail
      refine bodyPost_ret (by simp [results, Tryz.results51, go_sem]; rfl) rfl ?_
      exact ⟨_, rfl, Hown.out, hbel⟩
end Go.Proofs.YtbcnhcpgloncdaaGreatDoor
/- 'clausesOf': the clauses of a place. -/
namespace Go.Proofs.YtbcnhcpgloncdaaGreatDoor
open Go Go.RowKit Go.BigFrame

/-- The cells of a row, to be appended. -/
theorem row_news {α : Type} {w : World} {b o n sz : Nat} (f : α → List Value) (hf : ∀ x, (f x).length = sz) (hsz : 0 < sz) (vs : Nat → α) (h : RowAt w b o sz n (fun i => f (vs i))) (j : Nat) (u : Value)
    (hu : (((List.range n).map vs).flatMap f)[j]? = some u) : w.cell? ((⟨b, o, none⟩ : Addr).add j) = some u := by
  have hl := flat_length f sz hf ((List.range n).map vs)
  have hj := (List.getElem?_eq_some_iff.1 hu).1
  rw [hl, List.length_map, List.length_range] at hj
  have hi : j / sz < n := (Nat.div_lt_iff_lt_mul hsz).2 hj
  have hm := Nat.mod_lt j hsz
  have he : j / sz * sz + j % sz = j := by rw [Nat.mul_comm]; exact Nat.div_add_mod j sz
  have := flat_get f sz hf ((List.range n).map vs) (j / sz) (j % sz) (by simpa using hi) hm
  rw [he, hu] at this
  have h2 := h (j / sz) hi (j % sz) u (by simpa using this.symm)
  rw [WideShapes.add_plain, ← h2, Nat.add_assoc, he]
theorem tv_one (x : TV) (u : Value) (h : u ∈ x.cells) : u.oneCell' = true := by
  simp only [TV.cells, List.mem_cons, List.not_mem_nil, or_false] at h
  rcases h with rfl | rfl | rfl | rfl | rfl | rfl <;> rfl
/-- An owned row of trees, as a list. -/
theorem OwnL.list {w : World} {S : Nat → Prop} {base cn cc : Nat} {ca : Option Addr} {ts : List Tr} (h : OwnL (fun w S (v : TV) (t : Tr) => RepT w S v t) TV.cells 31 6 w S base (.slice ca cn cc) ts) (hl : ts.length ≤ 9223372036854775807) :
    RepT w (fun b => S b ∨ base ≤ b) ⟨4, ⟨#[]⟩, 0, false, none, 0, 0, ca, cn, cc⟩ (listT ts) := by
  obtain ⟨a, c, vs, h1, h2, h3⟩ := h.slice (S' := fun b => S b ∨ base ≤ b) (fun x => rfl) (fun b hb => .inr hb) default
  cases h1
  exact .mk _ _ vs ⟨by simp only [listT, Tr.text]; decide, by simp [listT, Tr.keys], hl⟩ rfl rfl rfl rfl rfl SliceAt.nil rfl h2 (fun i t ht => (h3 i t ht).mono (fun b _ hb => .inl hb.1))
theorem clauses_take (place : ByteArray) (sets : List SetM) (k : Nat) : (clausesT place (sets.take k)).length ≤ (clausesT place sets).length := by
  have h : clausesT place sets = clausesT place (sets.take k) ++ clausesT place (sets.drop k) := by
    unfold clausesT
    rw [← List.flatMap_append, List.take_append_drop]
  rw [h, List.length_append]; omega

set_option maxRecDepth 100000 in
theorem list_nil (w : World) : Calls Tryz.prog 47 #[.slice none 0 0] w fun e w' => e = .returned (.agg #[.int .i64 4, .string ⟨#[]⟩, .float .f64 0, .bool false, .slice none 0 0, .slice none 0 0]) ∧ Below w.heap.size w w' := by
  go_enter Tryz.func47, Tryz.ntmps47
  go_wp2_with fail
  refine bodyPost_ret (v := .agg #[.int .i64 4, .string ⟨#[]⟩, .float .f64 0, .bool false, .slice none 0 0, .slice none 0 0]) (by simp [results, Tryz.results47, go_sem]) rfl ?_
  exact ⟨rfl, (Below.refl _ _).alloc (Nat.le_refl _) _⟩

set_option maxRecDepth 100000 in
set_option maxHeartbeats 4000000 in
theorem clauses_any (sets : List SetM) (place : ByteArray) (S : Nat → Prop) (a : Option Addr) (c : Nat) (w : World) (h : SetsAt w S a sets) (hS : ∀ b, S b → b < w.heap.size) (hl : sets.length ≤ 9223372036854775807)
    (hpos : ∀ s ∈ sets, s.name = place → 0 < (clauseK s.val).length) (hbd : (clausesT place sets).length ≤ 1048576) :
    Calls Tryz.prog 96 #[.slice a sets.length c, .string place] w (TreeS w S (listT (clausesT place sets))) := by
  obtain ⟨i0, hi, hz0, hz1, hz2⟩ := info_parts Tryz.info31
  have Hh := Lib.hid h; clear h
  have HS := Lib.hid hS; clear hS
  have Hpos := Lib.hid hpos; clear hpos
  have Hbd := Lib.hid hbd; clear hbd
  go_enter Tryz.func96, Tryz.ntmps96
  go_wp2_with fail
  refine (list_nil _).mono ?_
  rintro e w2 ⟨rfl, hb2⟩
  have hz2 : Zero6 w2 w.heap.size := Box6.below (heap_alloc_new w _) hb2
  have hs2 := hb2.size
  simp only [World.size_alloc] at hs2
  have Hz2 := Lib.hid hz2; clear hz2
  have Hb2 := Lib.hid (via ((Below.refl _ _).alloc (Nat.le_refl _) _) hb2); clear hb2
  go_wp2_with fail
  have hbx0 := heap_alloc_new w2 (.cells #[.int .i64 4, .string ⟨#[]⟩, .float .f64 0, .bool false, .slice none 0 0, .slice none 0 0] 31)
  have Hbx0 : Hid (Box6 _ w2.heap.size (.int .i64 4) (.string ⟨#[]⟩) (.float .f64 0) (.bool false) (.slice none 0 0) (.slice none 0 0)) := Lib.hid hbx0
  clear hbx0
  have Hz0 : Hid (Zero6 (w2.alloc (.cells #[.int .i64 4, .string ⟨#[]⟩, .float .f64 0, .bool false, .slice none 0 0, .slice none 0 0] 31)) w.heap.size) := Lib.hid Hz2.out.alloc
  have Hbel0 := Lib.hid (Hb2.out.alloc (by omega) (.cells #[.int .i64 4, .string ⟨#[]⟩, .float .f64 0, .bool false, .slice none 0 0, .slice none 0 0] 31))
  go_loopw [6] (fun i wr => ∃ (k : Nat) (kv : Value), k ≤ sets.length ∧ i = .int .i64 k ∧ Box6 wr w2.heap.size (.int .i64 4) (.string ⟨#[]⟩) (.float .f64 0) (.bool false) (.slice none 0 0) kv ∧
    OwnL (fun w S (v : TV) (t : Tr) => RepT w S v t) TV.cells 31 6 wr S (w2.heap.size + 1) kv (clausesT place (sets.take k)) ∧ Zero6 wr w.heap.size ∧ Below w.heap.size w wr) (fun i _ => sets.length - (intOf i).toNat)
  case atStart => exact ⟨0, _, Nat.zero_le _, rfl, Hbx0.out, OwnL.nil _ _ _, Hz0.out, Hbel0.out⟩
  case round =>
    clear Hbx0 Hz0 Hbel0 Hz2 Hb2
    obtain ⟨k, kv, hk, rfl, hbox, hown, hz, hbel⟩ := hrel
    by_cases hlt : k < sets.length
    · obtain ⟨b', o, u, hca, hSb, hlb, c0, c1, c2, c3, c4, c5, c6, hu⟩ := (Hh.out.keep (Keeps.of_below _ hbel)).cells (k := k) hlt
      subst hca
      obtain ⟨e1, _, _, _, _, e6⟩ := hu.eqs
      have Htake : Hid (sets.take (k + 1) = sets.take k ++ [sets[k]]) := Lib.hid (List.take_succ_eq_append_getElem hlt)
      have hlen1 := clauses_take place sets (k + 1)
      rw [Htake.out, clausesT_snoc, List.length_append] at hlen1
      have hbd := Hbd.out
      have Hpk := Lib.hid (Hpos.out sets[k] (List.getElem_mem hlt))
      generalize sets[k] = s at *
      obtain ⟨L, hL⟩ : ∃ L, L = clausesT place (sets.take k) := ⟨_, rfl⟩
      rw [← hL] at hown hlen1
      have HL := Lib.hid hL; clear hL
      have hsz := hbel.size
      obtain ⟨a2, cc2, hform⟩ := hown.form
      subst hform
      obtain ⟨vs, hvl, hrow, hreps⟩ := hown
      have Hreps := Lib.hid hreps; clear hreps
      have Hvl := Lib.hid hvl; clear hvl
      obtain ⟨b0, b1, b2, b3', b4, b5, bf, bl⟩ := hbox.cells
      clear b0 b1 b2 b3' b4
      have Hbox := Lib.hid hbox; clear hbox
      have Hz := Lib.hid hz; clear hz
      have Hbel := Lib.hid hbel; clear hbel
      have hi1 : (0 : Int) ≤ (k : Int) := by omega
      have hi2 : (k : Int) < (sets.length : Int) := by omega
      by_cases hn : s.name = place
      · rw [if_pos hn] at hlen1
        have Hp := Lib.hid (Hpk.out hn); clear Hpk
        have hn' := bs_eq hn
        have Hn := Lib.hid hn; clear hn
        by_cases hk4 : u.kind = 4
        · have Hck : Hid (clauseK s.val = s.val.kids) := Lib.hid (by unfold clauseK; rw [if_pos (by rw [← e1]; exact hk4)])
          rw [Hck.out] at hlen1
          have hpos := Hp.out
          rw [Hck.out] at hpos
          obtain ⟨vs3, hs3, hv3⟩ := hu.trees
          obtain ⟨b3, o3, hca3, hS3, hr3⟩ := hs3 hpos
          have Hcl := Lib.hid e6
          have Hv3 := Lib.hid hv3; clear hv3 hs3
          rw [← e6] at hr3 hlen1 hpos
          have Hcn := Lib.hid hpos
          obtain ⟨kind, text, num, yes, ka, kn, kc, ca, cn, cc⟩ := u
          simp only at c1 c2 c3 c4 c5 c6 hk4 hca3 hr3 hlen1 hpos Hcn Hcl
          subst hk4
          subst hca3
          clear e1 e6 hu hpos
          go_upto_region 7 with fail
          go_region_law (refine step_append_lies _ (by rfl) _ _ _ (by rfl) (w2.heap.size + 1) 31 i0 _ 6 88 Tryz.underlying22 hi hz0 hz1 hz2 rfl (by omega) (.slice a2 L.length cc2) L.length _ (by rfl) (hrow.drew) ⟨b3, o3, none⟩ cn cc (((List.range cn).map vs3).flatMap TV.cells) (by rfl) (by rw [flat_length TV.cells 6 (fun _ => rfl), List.length_map, List.length_range]) (row_news TV.cells (fun _ => rfl) (by omega) vs3 hr3) (by intro u hu; obtain ⟨x, _, hx⟩ := List.mem_flatMap.1 hu; exact tv_one x u hx) Hcn.out (by unfold maxLen; omega) (by omega) (by simp; omega) wr.heap.size (by simp) ?_; intro g cap w1 hown1 hgrow hat hlt1; replace hgrow : (wr).grownBy w1 (Value.ownBlock (.slice a2 L.length cc2)) := ⟨hgrow.os, hgrow.tape, hgrow.output, hgrow.size, hgrow.block⟩; have hbx1 : Box6 w1 w2.heap.size (.int .i64 4) (.string ⟨#[]⟩) (.float .f64 0) (.bool false) (.slice none 0 0) (.slice a2 L.length cc2) := Box6.grown (base := w2.heap.size + 1) Hbox.out hgrow hrow.lt (by omega); obtain ⟨_, _, _, _, _, y5, yf, yl⟩ := hbx1.cells)
          all_goals (
            have hnew : OwnL (fun w S (v : TV) (t : Tr) => RepT w S v t) TV.cells 31 6 w1 S (w2.heap.size + 1) (.slice (some ⟨g, 0, none⟩) (L.length + cn) cap) (L ++ s.val.kids) :=
              OwnL.more (us := (List.range cn).map vs3) rep_law Hvl.out Hreps.out (by rw [List.length_map, List.length_range, Hcl.out]) (fun i v t hv ht => by
                obtain ⟨h1, h2⟩ := List.getElem?_eq_some_iff.1 hv
                have h3 := Hv3.out i t ht
                rw [List.getElem_map, List.getElem_range] at h2
                rw [← h2]
                exact h3.mono (fun b hb hSb => ⟨hSb, fun e => by have := (hrow.lt b e).1; have := HS.out b hSb; omega⟩)) hown1 hgrow hat (Nat.le_refl _) (by rw [Hcl.out]) rfl
            have hset := grownBy_setCell w1 ⟨w2.heap.size, 5, none⟩ (.slice (some ⟨g, 0, none⟩) (L.length + cn) cap)
            have hgB : (Value.slice (some ⟨g, 0, none⟩) (L.length + cn) cap).ownBlock ≠ some w2.heap.size := fun e => by
              have := (hnew.lt w2.heap.size e).1; omega
            have hnew2 := hnew.setCell rep_law ⟨w2.heap.size, 5, none⟩ (.slice (some ⟨g, 0, none⟩) (L.length + cn) cap) hgB (fun h => by have h2 : w2.heap.size < w.heap.size := HS.out _ h; omega)
            have hbel1 : Below w.heap.size w w1 := (Hbel.out).grown hgrow (by first | omega | (simp; omega)) (fun k hk => by have := (hrow.lt k hk).1; omega)
            have hbel2 := hbel1.setCell (p := ⟨w2.heap.size, 5, none⟩) (by simp; omega) (.slice (some ⟨g, 0, none⟩) (L.length + cn) cap)
            have hz1 : Zero6 w1 w.heap.size := Box6.grown (base := w2.heap.size + 1) Hz.out hgrow hrow.lt (by omega)
            have hz2 := hz1.keep (hset.block w.heap.size (Array.getElem?_eq_some_iff.1 hz1).1 (by simp; omega))
            have Hnew := Lib.hid hnew2
            have Hbel1 := Lib.hid hbel2
            have Hbx1 := Lib.hid (hbx1.set5 (.slice (some ⟨g, 0, none⟩) (L.length + cn) cap))
            have Hz1 := Lib.hid hz2
            clear hnew hnew2 hbel1 hbel2 hz1 hz2 hset hgB hgrow hat hown1 hrow hbx1
            go_wp2_with fail
            go_roundw
            case rel => exact ⟨k + 1, _, by omega, by simp, Hbx1.out, by rw [Htake.out, clausesT_snoc, if_pos Hn.out, ← HL.out, Hck.out]; exact Hnew.out, Hz1.out, Hbel1.out⟩
            case measure => simp [intOf]; omega)
        · have Hck : Hid (clauseK s.val = [s.val]) := Lib.hid (by unfold clauseK; rw [if_neg (by rw [← e1]; exact hk4)])
          rw [Hck.out, List.length_singleton] at hlen1
          obtain ⟨kind, text, num, yes, ka, kn, kc, ca, cn, cc⟩ := u
          simp only at c1 c2 c3 c4 c5 c6 hk4
          have hk4' : (kind == 4) = false := by rw [beq_eq_false_iff_ne]; exact hk4
          have Hu := Lib.hid hu; clear hu e1 e6 hk4
          go_upto_region 8 with fail
          go_region_law (refine step_append_lies _ (by rfl) _ _ _ (by rfl) (w2.heap.size + 1) 31 i0 _ 6 88 Tryz.underlying22 hi hz0 hz1 hz2 rfl (by omega) (.slice a2 L.length cc2) L.length _ (by rfl) ((hrow.alloc _).drew) ⟨wr.heap.size, 0, none⟩ 1 1 [.int .i64 kind, .string text, .float .f64 num, .bool yes, .slice ka kn kc, .slice ca cn cc] (by rfl) (by rfl) (World.news_of_block (cs := #[.int .i64 kind, .string text, .float .f64 num, .bool yes, .slice ka kn kc, .slice ca cn cc]) (t := 31) (fr := (0, 0)) (heap_alloc_new wr _)) (by simp [Value.oneCell']) (by omega) (by unfold maxLen; omega) (by omega) (by simp; omega) (wr.heap.size + 1) (by simp) ?_; intro g cap w1 hown1 hgrow hat hlt1; replace hgrow : (wr.alloc (.cells #[.int .i64 kind, .string text, .float .f64 num, .bool yes, .slice ka kn kc, .slice ca cn cc] 31)).grownBy w1 (Value.ownBlock (.slice a2 L.length cc2)) := ⟨hgrow.os, hgrow.tape, hgrow.output, hgrow.size, hgrow.block⟩; have hbx1 : Box6 w1 w2.heap.size (.int .i64 4) (.string ⟨#[]⟩) (.float .f64 0) (.bool false) (.slice none 0 0) (.slice a2 L.length cc2) := Box6.grown (base := w2.heap.size + 1) Hbox.out.alloc hgrow (hrow.alloc _).lt (by omega); obtain ⟨_, _, _, _, _, y5, yf, yl⟩ := hbx1.cells)
          all_goals (
            have hbx : Below wr.heap.size wr (wr.alloc (.cells #[.int .i64 kind, .string text, .float .f64 num, .bool yes, .slice ka kn kc, .slice ca cn cc] 31)) := (Below.refl _ _).alloc (Nat.le_refl _) _
            have hnew : OwnL (fun w S (v : TV) (t : Tr) => RepT w S v t) TV.cells 31 6 w1 S (w2.heap.size + 1) (.slice (some ⟨g, 0, none⟩) (L.length + 1) cap) (L ++ [s.val]) :=
              OwnL.one (u := (⟨kind, text, num, yes, ka, kn, kc, ca, cn, cc⟩ : TV)) rep_law Hvl.out (fun i v t hv ht => (Hreps.out i v t hv ht).keep (Keeps.of_below _ hbx))
                ((Hu.out.mono (S' := fun b => S b ∧ (Value.slice a2 L.length cc2).ownBlock ≠ some b) (fun b hb hSb => ⟨hSb, fun e => by have := (hrow.lt b e).1; have := HS.out b hSb; omega⟩)).keep (Keeps.of_below _ hbx)) hown1 hgrow hat (by simp) rfl rfl
            have hset := grownBy_setCell w1 ⟨w2.heap.size, 5, none⟩ (.slice (some ⟨g, 0, none⟩) (L.length + 1) cap)
            have hgB : (Value.slice (some ⟨g, 0, none⟩) (L.length + 1) cap).ownBlock ≠ some w2.heap.size := fun e => by
              have := (hnew.lt w2.heap.size e).1; omega
            have hnew2 := hnew.setCell rep_law ⟨w2.heap.size, 5, none⟩ (.slice (some ⟨g, 0, none⟩) (L.length + 1) cap) hgB (fun h => by have h2 : w2.heap.size < w.heap.size := HS.out _ h; omega)
            have hbel1 : Below w.heap.size w w1 := (Hbel.out.alloc hsz _).grown hgrow (by first | omega | (simp; omega)) (fun k hk => by have := (hrow.lt k hk).1; omega)
            have hbel2 := hbel1.setCell (p := ⟨w2.heap.size, 5, none⟩) (by simp; omega) (.slice (some ⟨g, 0, none⟩) (L.length + 1) cap)
            have hz1 : Zero6 w1 w.heap.size := Box6.grown (base := w2.heap.size + 1) Hz.out.alloc hgrow (hrow.alloc _).lt (by omega)
            have hz2 := hz1.keep (hset.block w.heap.size (Array.getElem?_eq_some_iff.1 hz1).1 (by simp; omega))
            have Hnew := Lib.hid hnew2
            have Hbel1 := Lib.hid hbel2
            have Hbx1 := Lib.hid (hbx1.set5 (.slice (some ⟨g, 0, none⟩) (L.length + 1) cap))
            have Hz1 := Lib.hid hz2
            clear hnew hnew2 hbel1 hbel2 hz1 hz2 hset hgB hgrow hat hown1 hrow hbx1
            go_wp2_with fail
            go_roundw
            case rel => exact ⟨k + 1, _, by omega, by simp, Hbx1.out, by rw [Htake.out, clausesT_snoc, if_pos Hn.out, ← HL.out, Hck.out]; exact Hnew.out, Hz1.out, Hbel1.out⟩
            case measure => simp [intOf]; omega)
      · have hn' := bs_ne hn
        have Hn := Lib.hid hn; clear hn
        have Hrow := Lib.hid hrow; clear hrow
        go_wp2_with fail
        go_roundw
        case rel => exact ⟨k + 1, _, by omega, by simp, Hbox.out, by rw [Htake.out, clausesT_snoc, if_neg Hn.out, List.append_nil, ← HL.out]; exact ⟨vs, Hvl.out, Hrow.out, Hreps.out⟩, Hz.out, Hbel.out⟩
        case measure => simp [intOf]; omega
    · obtain rfl : k = sets.length := by omega
      rw [List.take_length] at hown
      obtain ⟨a2, cc2, hform⟩ := hown.form
      subst hform
      have hbd := Hbd.out
      have hrep := hown.list (by omega)
      obtain ⟨b0, b1, b2, b3, b4, b5, bf, bl⟩ := hbox.cells
      obtain ⟨z0, z1, z2, z3, z4, z5, zf, zl⟩ := hz.cells
      generalize (clausesT place sets).length = n at *
      have Hrep := Lib.hid hrep; clear hrep hown
      have Hz := Lib.hid hz; clear hz
      have Hbel := Lib.hid hbel; clear hbel hbox
      go_wp2_with fail
      obtain ⟨p0, p1, p2, p3, p4, p5, _, _⟩ := (Hz.out.put6 (.int .i64 4) (.string ⟨#[]⟩) (.float .f64 0) (.bool false) (.slice none 0 0) (.slice a2 n cc2)).cells
      refine bodyPost_ret (v := .agg #[.int .i64 4, .string ⟨#[]⟩, .float .f64 0, .bool false, .slice none 0 0, .slice a2 n cc2]) (by simp [results, Tryz.results96, go_sem, p0, p1, p2, p3, p4, p5]) rfl ?_
      exact ⟨⟨4, ⟨#[]⟩, 0, false, none, 0, 0, a2, n, cc2⟩, rfl, (Hrep.out.put6 (fun h => by rcases h with h | h; have := HS.out _ h; omega; omega) _ _ _ _ _ _).mono (fun b _ hb => by rcases hb with hb | hb; exact .inl hb; exact .inr (by omega)), Below.put6 Hbel.out (Nat.le_refl _) _ _ _ _ _ _⟩
end Go.Proofs.YtbcnhcpgloncdaaGreatDoor
