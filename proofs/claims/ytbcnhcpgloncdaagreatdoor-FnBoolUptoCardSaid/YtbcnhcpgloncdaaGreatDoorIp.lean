/- 'given', 'clauses', and the builder of a bool query: its state. -/
import Derived.Test.YtbcnhcpgloncdaaGreatDoorIm
namespace Go.Proofs.YtbcnhcpgloncdaaGreatDoor
open Go Go.RowKit Go.BigFrame Go.Maps

theorem Tryz.info114 : (Tryz.prog.info? 114).map (fun i => (i.zero, i.size, i.bytes)) = some (some .nilIface, 1, 16) := by kernel_rfl
abbrev oneCell (v : Value) : List Value := [v]
theorem flat_one (vs : List Value) : vs.flatMap oneCell = vs := by
  induction vs with
  | nil => rfl
  | cons v vs ih => rw [List.flatMap_cons, ih]; rfl

set_option maxRecDepth 100000 in
set_option maxHeartbeats 4000000 in
theorem givens_any (ts : List Tr) (S : Nat → Prop) (a : Option Addr) (c : Nat) (w : World) (h : TreesAt w S a ts) (hS : ∀ b, S b → b < w.heap.size) (hl : ts.length ≤ 1048576) :
    Calls Tryz.prog 115 #[.slice a ts.length c] w fun e w' => ∃ kv, e = .returned kv ∧ OwnL QueryR oneCell 114 1 w' S w.heap.size kv ts ∧ Below w.heap.size w w' := by
  obtain ⟨i0, hi, hz0, hz1, hz2⟩ := info_parts Tryz.info114
  have Hh := Lib.hid h; clear h
  have HS := Lib.hid hS; clear hS
  go_enter Tryz.func115, Tryz.ntmps115
  go_wp2_with fail
  go_loopw [3, 9] (fun v i wr => ∃ k : Nat, k ≤ ts.length ∧ i = .int .i64 k ∧ OwnL QueryR oneCell 114 1 wr S w.heap.size v (ts.take k) ∧ Below w.heap.size w wr) (fun _ i _ => ts.length - (intOf i).toNat)
  case atStart => exact ⟨0, Nat.zero_le _, rfl, OwnL.made (World.ownsRow_made w #[] 0 (Nat.le_refl _) (by unfold maxLen; omega) rfl), (Below.refl _ _).alloc (Nat.le_refl _) _⟩
  case round =>
    obtain ⟨k, hk, rfl, hown, hbel⟩ := hrel
    by_cases hlt : k < ts.length
    · obtain ⟨b, o, u, hca, hSb, hlb, ⟨c0, c1, c2, c3, c4, c5⟩, hu⟩ := (Hh.out.keep (Keeps.of_below S hbel)).cells (k := k) hlt
      subst hca
      have Htake : Hid (ts.take (k + 1) = ts.take k ++ [ts[k]]) := Lib.hid (List.take_succ_eq_append_getElem hlt)
      have hlen : (ts.take k).length ≤ k := by rw [List.length_take]; omega
      generalize ts[k] = t at *
      obtain ⟨L, hL⟩ : ∃ L, L = ts.take k := ⟨_, rfl⟩
      rw [← hL] at hown hlen
      have HL := Lib.hid hL; clear hL
      have hsz := hbel.size
      have Hbel := Lib.hid hbel; clear hbel
      obtain ⟨a2, cc2, hform⟩ := hown.form
      subst hform
      obtain ⟨vs, hvl, hrow, hreps⟩ := hown
      have Hreps := Lib.hid hreps; clear hreps
      have Hvl := Lib.hid hvl; clear hvl
      have Hu := Lib.hid hu; clear hu
      obtain ⟨kind, text, num, yes, ka, kn, kc, ca3, cn, cc⟩ := u
      simp only at c0 c1 c2 c3 c4 c5
      have hi1 : (0 : Int) ≤ (k : Int) := by omega
      have hi2 : (k : Int) < (ts.length : Int) := by omega
      go_wp2_with (at_builtin; refine wpList_append_lies _ rfl _ _ _ rfl w.heap.size 114 i0 _ 1 16 Tryz.underlying95 hi hz0 hz1 hz2 rfl (by omega) (.slice a2 L.length cc2) L.length _ rfl ((hrow.alloc _).alloc _) ⟨wr.heap.size + 1, 0, none⟩ 1 1 [.iface 59 (.agg #[.int .i64 kind, .string text, .float .f64 num, .bool yes, .slice ka kn kc, .slice ca3 cn cc])] rfl rfl (World.news_of_block (cs := #[.iface 59 (.agg #[.int .i64 kind, .string text, .float .f64 num, .bool yes, .slice ka kn kc, .slice ca3 cn cc])]) (t := 114) (fr := (0, 0)) (by have := heap_alloc_new (wr.alloc (.cells #[.int .i64 kind, .string text, .float .f64 num, .bool yes, .slice ka kn kc, .slice ca3 cn cc] 31)) (.cells #[.iface 59 (.agg #[.int .i64 kind, .string text, .float .f64 num, .bool yes, .slice ka kn kc, .slice ca3 cn cc])] 114); rw [World.size_alloc] at this; exact this)) (by simp [Value.oneCell']) (by omega) (by unfold maxLen; omega) (by omega) (by simp; omega) (wr.heap.size + 2) (by simp) ?_; intro g cap w1 hown1 hgrow hat hlt1)
      have hbx : Below wr.heap.size wr ((wr.alloc (.cells #[.int .i64 kind, .string text, .float .f64 num, .bool yes, .slice ka kn kc, .slice ca3 cn cc] 31)).alloc (.cells #[.iface 59 (.agg #[.int .i64 kind, .string text, .float .f64 num, .bool yes, .slice ka kn kc, .slice ca3 cn cc])] 114)) := ((Below.refl _ _).alloc (Nat.le_refl _) _).alloc (by simp) _
      have hnew : OwnL QueryR oneCell 114 1 w1 S w.heap.size (.slice (some ⟨g, 0, none⟩) (L.length + 1) cap) (L ++ [t]) :=
        OwnL.one (u := (.iface 59 (.agg #[.int .i64 kind, .string text, .float .f64 num, .bool yes, .slice ka kn kc, .slice ca3 cn cc]) : Value)) query_law Hvl.out (fun i v t hv ht => query_law.keep (Hreps.out i v t hv ht) (Keeps.of_below _ hbx))
          ⟨⟨kind, text, num, yes, ka, kn, kc, ca3, cn, cc⟩, rfl, (Hu.out.mono (S' := fun b => S b ∧ (Value.slice a2 L.length cc2).ownBlock ≠ some b) (fun b hb hSb => ⟨hSb, fun e => by have := (hrow.lt b e).1; have := HS.out b hSb; omega⟩)).keep (Keeps.of_below _ hbx)⟩ hown1 hgrow hat (by simp) rfl rfl
      have hbel1 : Below w.heap.size w w1 := ((Hbel.out.alloc hsz _).alloc (by simp; omega) _).grown hgrow (by simp; omega) (fun k hk => (hrow.lt k hk).1)
      have Hnew := Lib.hid hnew
      have Hbel1 := Lib.hid hbel1
      clear hnew hbel1 hgrow hat hown1 hrow hbx
      go_wp2_with fail
      go_roundw
      case rel => exact ⟨k + 1, by omega, by simp, by rw [Htake.out, ← HL.out]; exact Hnew.out, Hbel1.out⟩
      case measure => simp [intOf]; omega
    · obtain rfl : k = ts.length := by omega
      rw [List.take_length] at hown
      have Hown := Lib.hid hown; clear hown
      go_wp2_with fail
      refine bodyPost_ret (by simp [results, Tryz.results115, go_sem]; rfl) rfl ?_
      exact ⟨_, rfl, Hown.out, hbel⟩

set_option maxRecDepth 100000 in
set_option maxHeartbeats 4000000 in
theorem implClauses_any (t : Tr) (v : TV) (S : Nat → Prop) (w : World) (hv : RepT w S v t) (hS : ∀ b, S b → b < w.heap.size) (hl : t.kids.length ≤ 1048576) :
    Calls Tryz.prog 82 #[v.val] w fun e w' => ∃ kv, e = .returned kv ∧ OwnL QueryR oneCell 114 1 w' S w.heap.size kv (clauseK t) ∧ Below w.heap.size w w' := by
  obtain ⟨q1, q2, q3, q4, q5, q6⟩ := hv.eqs
  clear q2 q3 q4 q5
  have Hv := Lib.hid hv; clear hv
  have HS := Lib.hid hS; clear hS
  obtain ⟨kind, text, num, yes, ka, kn, kc, ca, cn, cc⟩ := v
  simp only at q1 q6
  by_cases h4 : kind = 4
  · subst h4
    have Hck : Hid (clauseK t = t.kids) := Lib.hid (by unfold clauseK; rw [if_pos q1.symm])
    subst q6
    clear q1
    go_enter Tryz.func82, Tryz.ntmps82
    go_wp2_with fail
    have hb0 := (Below.refl w.heap.size w).alloc (Nat.le_refl _) (.cells #[.int .i64 4, .string text, .float .f64 num, .bool yes, .slice ka kn kc, .slice ca t.kids.length cc] 31)
    have hts := Hv.out.trees.keep (Keeps.of_below S hb0)
    refine (givens_any t.kids S ca cc _ hts (fun b hb => by have := HS.out b hb; simp; omega) hl).mono ?_
    rintro e w2 ⟨kv, rfl, hown, hb2⟩
    have Hown := Lib.hid hown; clear hown
    have Hb2 := Lib.hid (via hb0 hb2); clear hb2
    go_wp2_with fail
    refine bodyPost_ret (by simp [results, Tryz.results82, go_sem]; rfl) rfl ?_
    exact ⟨_, rfl, by rw [Hck.out]; exact Hown.out.mono query_law (fun _ _ h => h) (by simp), Hb2.out⟩
  · have Hck : Hid (clauseK t = [t]) := Lib.hid (by unfold clauseK; rw [if_neg (fun e => h4 (q1.trans e))])
    have h4' : (kind == 4) = false := by rw [beq_eq_false_iff_ne]; exact h4
    clear q1 q6 h4
    go_enter Tryz.func82, Tryz.ntmps82
    go_wp2_with fail
    refine bodyPost_ret (v := .slice (some ⟨w.heap.size + 1, 0, none⟩) 1 1) (by simp [results, Tryz.results82, go_sem]) rfl ?_
    have hbx : Below w.heap.size w ((w.alloc (.cells #[.int .i64 kind, .string text, .float .f64 num, .bool yes, .slice ka kn kc, .slice ca cn cc] 31)).alloc (.cells #[.iface 59 (.agg #[.int .i64 kind, .string text, .float .f64 num, .bool yes, .slice ka kn kc, .slice ca cn cc])] 114)) := ((Below.refl _ _).alloc (Nat.le_refl _) _).alloc (by simp) _
    refine ⟨_, rfl, ?_, hbx⟩
    rw [Hck.out]
    have hh := heap_alloc_new (w.alloc (.cells #[.int .i64 kind, .string text, .float .f64 num, .bool yes, .slice ka kn kc, .slice ca cn cc] 31)) (.cells #[.iface 59 (.agg #[.int .i64 kind, .string text, .float .f64 num, .bool yes, .slice ka kn kc, .slice ca cn cc])] 114)
    rw [World.size_alloc] at hh
    have hrow : ((w.alloc (.cells #[.int .i64 kind, .string text, .float .f64 num, .bool yes, .slice ka kn kc, .slice ca cn cc] 31)).alloc (.cells #[.iface 59 (.agg #[.int .i64 kind, .string text, .float .f64 num, .bool yes, .slice ka kn kc, .slice ca cn cc])] 114)).ownsRow w.heap.size 114 1 (.slice (some ⟨w.heap.size + 1, 0, none⟩) 1 1) 1 [.iface 59 (.agg #[.int .i64 kind, .string text, .float .f64 num, .bool yes, .slice ka kn kc, .slice ca cn cc])] :=
      ⟨rfl, .inr ⟨w.heap.size + 1, 1, _, rfl, by omega, hh, by omega, by unfold maxLen; omega, rfl, rfl⟩⟩
    refine ⟨[.iface 59 (.agg #[.int .i64 kind, .string text, .float .f64 num, .bool yes, .slice ka kn kc, .slice ca cn cc])], rfl, hrow, fun i v' t' hv' ht' => ?_⟩
    have h0 : i = 0 := by have := (List.getElem?_eq_some_iff.1 hv').1; simpa using this
    subst h0
    simp at hv' ht'
    subst hv' ht'
    exact ⟨⟨kind, text, num, yes, ka, kn, kc, ca, cn, cc⟩, rfl, (Hv.out.mono (S' := fun b => S b ∧ (Value.slice (some ⟨w.heap.size + 1, 0, none⟩) 1 1).ownBlock ≠ some b) (fun b hb hSb => ⟨hSb, by simp [Value.ownBlock]; omega⟩)).keep (Keeps.of_below _ hbx)⟩
end Go.Proofs.YtbcnhcpgloncdaaGreatDoor
