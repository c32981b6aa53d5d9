/- 'Params': the settings of a builder that are one value. -/
import Derived.Test.YtbcnhcpgloncdaaGreatDoorIk
namespace Go.Proofs.YtbcnhcpgloncdaaGreatDoor
open Go Go.RowKit Go.BigFrame

theorem paramsL_snoc (rs : List (ByteArray × ByteArray)) (r : ByteArray × ByteArray) (sets : List SetM) : paramsL (rs ++ [r]) sets = paramsL rs sets ++ paramOf sets r := by simp [paramsL]
theorem paramOf_length (sets : List SetM) (r : ByteArray × ByteArray) : (paramOf sets r).length ≤ 1 := by
  unfold paramOf
  split
  · split <;> simp
  · simp
theorem paramsL_length (rs : List (ByteArray × ByteArray)) (sets : List SetM) : (paramsL rs sets).length ≤ rs.length := by
  induction rs with
  | nil => simp [paramsL]
  | cons r rs ih =>
    have := paramOf_length sets r
    unfold paramsL at *
    rw [List.flatMap_cons, List.length_append, List.length_cons]
    omega

set_option maxRecDepth 100000 in
set_option maxHeartbeats 4000000 in
theorem params_any (b : ByteArray) (rs : List (ByteArray × ByteArray)) (sets : List SetM) (S : Nat → Prop) (a : Option Addr) (c : Nat) (w : World) (hrows : ∀ w, Calls Tryz.prog 103 #[.string b] w (RowsPost w rs)) (hrl : rs.length ≤ 1000)
    (h : SetsAt w S a sets) (hS : ∀ b, S b → b < w.heap.size) (hl : sets.length ≤ 9223372036854775807) :
    Calls Tryz.prog 51 #[.string b, .slice a sets.length c] w fun e w' => ∃ kv, e = .returned kv ∧ OwnL PairR pairCells 81 7 w' S w.heap.size kv (paramsL rs sets) ∧ Below w.heap.size w w' := by
  obtain ⟨i0, hi, hz0, hz1, hz2⟩ := info_parts Tryz.info81
  have Hh := Lib.hid h; clear h
  have HS := Lib.hid hS; clear hS
  have Hrows := Lib.hid hrows; clear hrows
  go_enter Tryz.func51, Tryz.ntmps51
  go_wp2_with fail
  refine (Hrows.out _).mono ?_
  rintro e w2 ⟨g2, cap2, rfl, hrow2, hb2⟩
  have hg2 : w.heap.size + 1 ≤ g2 ∧ g2 < w2.heap.size := by
    have := hrow2.lt g2 rfl
    simpa using this
  have hb2' : Below w.heap.size w w2 := via ((Below.refl _ _).alloc (Nat.le_refl _) _) hb2
  have hown0 : OwnL PairR pairCells 81 7 w2 S w.heap.size (.slice (some ⟨w.heap.size, 0, none⟩) 0 0) ([] : List SetM) :=
    OwnL.made (ownsRow_below (World.ownsRow_made (base := w.heap.size) (e := 81) (size := 7) w #[] 0 (Nat.le_refl _) (by unfold maxLen; omega) rfl) hb2)
  have Hrow2 := Lib.hid hrow2; clear hrow2
  have Hb2 := Lib.hid hb2'; clear hb2 hb2'
  have Hown0 := Lib.hid hown0; clear hown0
  go_wp2_with fail
  go_loopw [5, 7] (fun v i wr => ∃ k : Nat, k ≤ rs.length ∧ i = .int .i64 k ∧ OwnL PairR pairCells 81 7 wr S w.heap.size v (paramsL (rs.take k) sets) ∧ v.ownBlock ≠ some g2 ∧
    wr.ownsRow (w.alloc (.cells #[] 81)).heap.size 111 2 (.slice (some ⟨g2, 0, none⟩) rs.length cap2) rs.length (rowCells rs) ∧ g2 < wr.heap.size ∧ Below w.heap.size w wr) (fun _ i _ => rs.length - (intOf i).toNat)
  case atStart => exact ⟨0, Nat.zero_le _, rfl, Hown0.out, by simp [Value.ownBlock]; omega, Hrow2.out, hg2.2, Hb2.out⟩
  case round =>
    obtain ⟨k, hk, rfl, hown, hne, hrow, hgl, hbel⟩ := hrel
    by_cases hlt : k < rs.length
    · obtain ⟨q1, q2⟩ := rowCells_get hlt
      have c1 := (hrow.cellAt (k * 2) (by omega)).trans q1
      have c2 := (hrow.cellAt (k * 2 + 1) (by omega)).trans q2
      clear q1 q2
      have hc := last_any sets rs[k].1 S a c wr (Hh.out.keep (Keeps.of_below _ hbel)) hl
      have Htake : Hid (rs.take (k + 1) = rs.take k ++ [rs[k]]) := Lib.hid (List.take_succ_eq_append_getElem hlt)
      have hlen : (paramsL (rs.take k) sets).length ≤ k := Nat.le_trans (paramsL_length _ _) (by rw [List.length_take]; omega)
      have Hpo : Hid (paramOf sets rs[k] = match lastOf sets rs[k].1 with | some v => if memB rs[k].2 valueKinds then [⟨rs[k].1, v⟩] else [] | none => []) := Lib.hid rfl
      generalize rs[k] = r0 at *
      obtain ⟨rn, rk⟩ := r0
      obtain ⟨L, hL⟩ : ∃ L, L = paramsL (rs.take k) sets := ⟨_, rfl⟩
      rw [← hL] at hown hlen
      have HL := Lib.hid hL; clear hL
      simp only at c1 c2 hc Hpo
      obtain ⟨r, hr⟩ : ∃ r, r = lastOf sets rn := ⟨_, rfl⟩
      rw [← hr] at hc Hpo
      have Hr := Lib.hid hr; clear hr
      have Hc := Lib.hid hc; clear hc
      have hsz := hbel.size
      have Hbel := Lib.hid hbel; clear hbel
      have Hrow := Lib.hid hrow; clear hrow
      have Hne := Lib.hid hne; clear hne
      obtain ⟨a2, cc2, hform⟩ := hown.form
      subst hform
      have Hown := Lib.hid hown; clear hown
      have hi1 : (0 : Int) ≤ (k : Int) := by omega
      have hi2 : (k : Int) < (rs.length : Int) := by omega
      go_upto_region 7 with (go_at_call 99; refine Hc.out.mono ?_; rintro e w3 ⟨⟨kind, text, num, yes, ka, kn, kc, ca, cn, cc⟩, rfl, hu, hb3⟩)
      have hb4 : Below wr.heap.size wr (w3.alloc (.cells #[.int .i64 kind, .string text, .float .f64 num, .bool yes, .slice ka kn kc, .slice ca cn cc] 31)) := hb3.alloc hb3.size _
      have hs3 := hb3.size
      have c1' := (hb3.cell (p := ⟨g2, k * 2, none⟩) hgl).trans c1
      have c2' := (hb3.cell (p := ⟨g2, k * 2 + 1, none⟩) hgl).trans c2
      have hbx := heap_alloc_new w3 (.cells #[.int .i64 kind, .string text, .float .f64 num, .bool yes, .slice ka kn kc, .slice ca cn cc] 31)
      have Hbx : Hid (Box6 _ w3.heap.size (.int .i64 kind) (.string text) (.float .f64 num) (.bool yes) (.slice ka kn kc) (.slice ca cn cc)) := Lib.hid hbx
      clear hbx c1 c2
      have hg3 : g2 < w3.heap.size := by omega
      have hn3 : g2 ≠ w3.heap.size := by omega
      cases hr : r with
      | none =>
        subst hr
        have Hb4 := Lib.hid hb4; clear hb4 hb3
        simp only [Option.isSome_none]
        go_wp2_with fail
        go_roundw
        case rel => exact ⟨k + 1, by omega, by simp, by rw [Htake.out, paramsL_snoc, Hpo.out, ← HL.out, List.append_nil]; exact Hown.out.below pair_law Hb4.out, Hne.out, ownsRow_below Hrow.out Hb4.out, by simp; omega, via Hbel.out Hb4.out⟩
        case measure => simp [intOf]; omega
      | some t =>
        subst hr
        simp only [Option.isSome_some, Option.getD_some] at hu ⊢
        have hHas := has_any valueKinds rk (fun _ => True) (some ⟨w3.heap.size + 1, 0, none⟩) 5 _ (by
          have := strs_new (w3.alloc (.cells #[.int .i64 kind, .string text, .float .f64 num, .bool yes, .slice ka kn kc, .slice ca cn cc] 31)) valueKinds 9 (S := fun _ => True) trivial
          rw [World.size_alloc] at this
          exact this) (by decide)
        have HHas := Lib.hid hHas; clear hHas
        have hu4 := hu.keep (Keeps.of_below S hb4)
        have Hu := Lib.hid hu4; clear hu4 hu
        have Hb4 := Lib.hid hb4; clear hb4 hb3
        cases hm : memB rk valueKinds with
        | false =>
          rw [hm] at HHas Hpo
          clear hm
          go_wp2_with (go_at_call 43; refine HHas.out.mono ?_; rintro e w' ⟨rfl, rfl⟩)
          go_roundw
          case rel =>
            have hb5 : Below wr.heap.size wr ((w3.alloc (.cells #[.int .i64 kind, .string text, .float .f64 num, .bool yes, .slice ka kn kc, .slice ca cn cc] 31)).alloc (.cells (valueKinds.map Value.string).toArray 9)) := Hb4.out.alloc Hb4.out.size _
            exact ⟨k + 1, by omega, by simp, by rw [Htake.out, paramsL_snoc, Hpo.out, ← HL.out]; simpa using Hown.out.below pair_law hb5, Hne.out, ownsRow_below Hrow.out hb5, by simp; omega, via Hbel.out hb5⟩
          case measure => simp [intOf]; omega
        | true =>
          rw [hm] at HHas Hpo
          clear hm
          go_upto_region 8 with (go_at_call 43; refine HHas.out.mono ?_; rintro e w' ⟨rfl, rfl⟩)
          have hb5 : Below wr.heap.size wr ((w3.alloc (.cells #[.int .i64 kind, .string text, .float .f64 num, .bool yes, .slice ka kn kc, .slice ca cn cc] 31)).alloc (.cells (valueKinds.map Value.string).toArray 9)) := Hb4.out.alloc Hb4.out.size _
          have hb54 : Below (w3.heap.size + 1) (w3.alloc (.cells #[.int .i64 kind, .string text, .float .f64 num, .bool yes, .slice ka kn kc, .slice ca cn cc] 31)) ((w3.alloc (.cells #[.int .i64 kind, .string text, .float .f64 num, .bool yes, .slice ka kn kc, .slice ca cn cc] 31)).alloc (.cells (valueKinds.map Value.string).toArray 9)) := (Below.refl _ _).alloc (by simp) _
          have hbx5 := Hbx.out.keep (hb54.block w3.heap.size (by omega))
          have hu5 := Hu.out.keep (Keeps.of_below S (hb54.mono (by simp)))
          have c15 : ((w3.alloc (.cells #[.int .i64 kind, .string text, .float .f64 num, .bool yes, .slice ka kn kc, .slice ca cn cc] 31)).alloc (.cells (valueKinds.map Value.string).toArray 9)).cell? ⟨g2, k * 2, none⟩ = some (.string rn) := (hb54.cell (p := ⟨g2, k * 2, none⟩) (by simp; omega)).trans ((World.cell?_alloc_lt _ _ ⟨g2, k * 2, none⟩ hg3).trans c1')
          have hs5 : w3.heap.size + 2 ≤ ((w3.alloc (.cells #[.int .i64 kind, .string text, .float .f64 num, .bool yes, .slice ka kn kc, .slice ca cn cc] 31)).alloc (.cells (valueKinds.map Value.string).toArray 9)).heap.size := by simp
          clear hb54 HHas c1' c2'
          generalize (w3.alloc (.cells #[.int .i64 kind, .string text, .float .f64 num, .bool yes, .slice ka kn kc, .slice ca cn cc] 31)).alloc (.cells (valueKinds.map Value.string).toArray 9) = w5 at *
          obtain ⟨x0, x1, x2, x3, x4, x5, xf, xl⟩ := hbx5.cells
          obtain ⟨vs, hvl, hrow5, hreps⟩ := Hown.out.below pair_law hb5
          have Hreps := Lib.hid hreps; clear hreps
          have Hvl := Lib.hid hvl; clear hvl
          have Hu5 := Lib.hid hu5; clear hu5 Hu
          have Hb5 := Lib.hid hb5; clear hb5 Hb4 hbx5
          go_region_law (refine step_append_lies _ (by rfl) _ _ _ (by rfl) w.heap.size 81 i0 _ 7 104 Tryz.underlying83 hi hz0 hz1 hz2 rfl (by omega) (.slice a2 L.length cc2) L.length _ (by rfl) ((hrow5.alloc _).drew) ⟨w5.heap.size, 0, none⟩ 1 1 [.string rn, .int .i64 kind, .string text, .float .f64 num, .bool yes, .slice ka kn kc, .slice ca cn cc] (by rfl) (by rfl) (World.news_of_block (cs := #[.string rn, .int .i64 kind, .string text, .float .f64 num, .bool yes, .slice ka kn kc, .slice ca cn cc]) (t := 81) (fr := (0, 0)) (heap_alloc_new w5 _)) (by simp [Value.oneCell']) (by omega) (by unfold maxLen; omega) (by omega) (by simp; omega) (w5.heap.size + 1) (by simp) ?_; intro g cap w1 hown1 hgrow hat hlt1; replace hgrow : (w5.alloc (.cells #[.string rn, .int .i64 kind, .string text, .float .f64 num, .bool yes, .slice ka kn kc, .slice ca cn cc] 81)).grownBy w1 (Value.ownBlock (.slice a2 L.length cc2)) := ⟨hgrow.os, hgrow.tape, hgrow.output, hgrow.size, hgrow.block⟩)
          all_goals (
            have hbx : Below w5.heap.size w5 (w5.alloc (.cells #[.string rn, .int .i64 kind, .string text, .float .f64 num, .bool yes, .slice ka kn kc, .slice ca cn cc] 81)) := (Below.refl _ _).alloc (Nat.le_refl _) _
            have hnew : OwnL PairR pairCells 81 7 w1 S w.heap.size (.slice (some ⟨g, 0, none⟩) (L.length + 1) cap) (L ++ [⟨rn, t⟩]) :=
              OwnL.one (u := (rn, ⟨kind, text, num, yes, ka, kn, kc, ca, cn, cc⟩)) pair_law Hvl.out (fun i v t hv ht => pair_law.keep (Hreps.out i v t hv ht) (Keeps.of_below _ hbx))
                ⟨rfl, (Hu5.out.mono (S' := fun b => S b ∧ (Value.slice a2 L.length cc2).ownBlock ≠ some b) (fun b hb hSb => ⟨hSb, fun e => by have := (hrow5.lt b e).1; have := HS.out b hSb; omega⟩)).keep (Keeps.of_below _ hbx)⟩ hown1 hgrow hat (by simp) rfl rfl
            have hbel1 : Below w.heap.size w w1 := ((via Hbel.out Hb5.out).alloc (by omega) _).grown hgrow (by simp; omega) (fun k hk => (hrow5.lt k hk).1)
            have hrow1 := (ownsRow_below (ownsRow_below Hrow.out Hb5.out) hbx).kept hgrow (.inr (fun e => Hne.out (e.symm.trans rfl)))
            have hg1 := hgrow.size
            have Hne1 : Hid ((Value.slice (some ⟨g, 0, none⟩) (L.length + 1) cap).ownBlock ≠ some g2) := Lib.hid (fun e => by
              have e' : g = g2 := by simpa [Value.ownBlock] using e
              rcases hat with h1 | h1
              · exact Hne.out (by rw [h1, e'])
              · omega)
            have Hnew := Lib.hid hnew
            have Hbel1 := Lib.hid hbel1
            have Hrow1 := Lib.hid hrow1
            clear hnew hbel1 hrow1 hgrow hat hown1 hrow5 hbx
            simp only [World.size_alloc] at hg1
            go_wp2_with fail
            go_roundw
            case rel => exact ⟨k + 1, by omega, by simp, by rw [Htake.out, paramsL_snoc, Hpo.out, ← HL.out]; exact Hnew.out, Hne1.out, Hrow1.out, by omega, Hbel1.out⟩
            case measure => simp [intOf]; omega)
    · obtain rfl : k = rs.length := by omega
      rw [List.take_length] at hown
      have Hown := Lib.hid hown; clear hown
      go_wp2_with fail
      refine bodyPost_ret (by simp [results, Tryz.results51, go_sem]; rfl) rfl ?_
      exact ⟨_, rfl, Hown.out, hbel⟩
end Go.Proofs.YtbcnhcpgloncdaaGreatDoor
