/- 'At', 'within', 'List', 'Text', 'Map', 'Places': what each returns. -/
import Derived.Test.YtbcnhcpgloncdaaGreatDoorIg
import Derived.Test.YtbcnhcpgloncdaaGreatDoorIh
namespace Go.Proofs.YtbcnhcpgloncdaaGreatDoor
open Go Go.RowKit Go.BigFrame

def AtPost (w : World) (S : Nat → Prop) (r : Option Tr) (e : Ending) (w' : World) : Prop :=
  ∃ v : TV, e = .returned (.tuple #[v.val, .bool r.isSome]) ∧ RepT w' S v (r.getD Tr.zero) ∧ Below w.heap.size w w'

/-- The pairs of a map. -/
def prs (t : Tr) : List (ByteArray × Tr) := t.keys.zip t.kids

theorem lookE_at {es : List (ByteArray × Tr)} {k : Nat} {key : ByteArray} (hk : k < es.length) (hno : (es.take k).all (fun p => !decide (p.1 = key)) = true) (he : es[k].1 = key) : lookE es key = some es[k].2 := by
  have h0 : es = es.take k ++ es[k] :: es.drop (k + 1) := by rw [← List.drop_eq_getElem_cons hk]; simp
  have h1 : lookE (es.take k) key = none := lookE_none (fun p hp => by have := List.all_eq_true.1 hno p hp; simpa using this)
  have h2 := lookE_append (es.take k) (es[k] :: es.drop (k + 1)) key
  rw [← h0, h1, lookE_cons, if_pos he] at h2
  simpa using h2

set_option maxRecDepth 100000 in
set_option maxHeartbeats 2000000 in
theorem at_any (t : Tr) (v : TV) (key : ByteArray) (S : Nat → Prop) (w : World) (hv : RepT w S v t) (hk5 : t.kind = 5) (hl : t.keys.length = t.kids.length) :
    Calls Tryz.prog 41 #[v.val, .string key] w (AtPost w S (lookE (prs t) key)) := by
  obtain ⟨q1, q2, q3, q4, q5, q6⟩ := hv.eqs
  obtain ⟨_, B2, B3⟩ := hv.bounds
  have hb := (Below.refl w.heap.size w).alloc (Nat.le_refl _) (.cells #[.int .i64 v.kind, .string v.text, .float .f64 v.num, .bool v.yes, .slice v.ka v.kn v.kc, .slice v.ca v.cn v.cc] 31)
  rw [q1, hk5] at hb
  have Hv := Lib.hid hv; clear hv
  have Hb := Lib.hid hb; clear hb
  obtain ⟨kind, text, num, yes, ka, kn, kc, ca, cn, cc⟩ := v
  simp only at q1 q5 q6
  rw [hk5] at q1
  subst q1
  have hkc : kn = cn := by omega
  subst hkc
  have Hl := Lib.hid hl
  have Q5 := Lib.hid q5
  have Q6 := Lib.hid q6
  rw [← q5] at B2
  clear q2 q3 q4 q5 q6 hl hk5 B3
  go_enter Tryz.func41, Tryz.ntmps41
  go_wp2_with fail
  have hx5 := heap_alloc_new w (.cells #[.int .i64 5, .string text, .float .f64 num, .bool yes, .slice ka kn kc, .slice ca kn cc] 31)
  have hzero := heap_alloc_new (w.alloc (.cells #[.int .i64 5, .string text, .float .f64 num, .bool yes, .slice ka kn kc, .slice ca kn cc] 31)) (.cells #[.int .i64 0, .string ⟨#[]⟩, .float .f64 0, .bool false, .slice none 0 0, .slice none 0 0] 31)
  go_loop [6] (fun i => ∃ k : Nat, k ≤ kn ∧ i = .int .i64 k ∧ ((prs t).take k).all (fun p => !decide (p.1 = key)) = true) (fun i => kn - (intOf i).toNat)
  case atStart => exact ⟨0, Nat.zero_le _, rfl, by simp⟩
  case round =>
    obtain ⟨k, hk, rfl, hno⟩ := hrel
    have Hno := Lib.hid hno; clear hno
    have Hx5 := Lib.hid hx5; clear hx5
    have Hz := Lib.hid hzero; clear hzero
    by_cases hlt : k < kn
    · obtain ⟨bk, ok, hka, _, hlbk, ck⟩ := Hv.out.key (k := k) (by rw [← Q5.out]; exact hlt)
      obtain ⟨bc, oc, v', hca, _, hlbc, ⟨d0, d1, d2, d3, d4, d5⟩, hrv⟩ := Hv.out.kid (k := k) (by rw [← Q6.out]; exact hlt)
      simp only at hka hca
      subst hka
      subst hca
      have hpl : k < (prs t).length := by unfold prs; rw [List.length_zip, ← Q5.out, ← Q6.out]; omega
      have hpk : (prs t)[k] = (t.keys[k]'(by rw [← Q5.out]; exact hlt), t.kids[k]'(by rw [← Q6.out]; exact hlt)) := by simp [prs]
      have Hat : Hid ((t.keys[k]'(by rw [← Q5.out]; exact hlt)) = key → lookE (prs t) key = some (t.kids[k]'(by rw [← Q6.out]; exact hlt))) := Lib.hid (fun he => by
        have := lookE_at hpl Hno.out (by rw [hpk]; exact he)
        rw [this, hpk])
      have Hnx : Hid ((t.keys[k]'(by rw [← Q5.out]; exact hlt)) ≠ key → ((prs t).take (k + 1)).all (fun p => !decide (p.1 = key)) = true) := Lib.hid (fun he => by
        rw [List.take_succ_eq_append_getElem hpl, List.all_append, Hno.out, hpk]; simp [he])
      clear hpk
      generalize (t.keys[k]'(by rw [← Q5.out]; exact hlt)) = kk at *
      generalize (t.kids[k]'(by rw [← Q6.out]; exact hlt)) = kt at *
      obtain ⟨kd, tx, nm, ys, ka3, kn3, kc3, ca3, cn3, cc3⟩ := v'
      simp only at d0 d1 d2 d3 d4 d5
      have Hrv := Lib.hid hrv; clear hrv
      have hi1 : (0 : Int) ≤ (k : Int) := by omega
      have hi2 : (k : Int) < (kn : Int) := by omega
      by_cases he : kk = key
      · have Hat' := Lib.hid (Hat.out he); clear Hat Hnx
        have he' := bs_eq he
        have He := Lib.hid he; clear he
        go_wp2_with fail
        refine bodyPost_ret (v := .tuple #[.agg #[.int .i64 kd, .string tx, .float .f64 nm, .bool ys, .slice ka3 kn3 kc3, .slice ca3 cn3 cc3], .bool true]) (by simp [results, Tryz.results41, go_sem]) rfl ?_
        refine ⟨⟨kd, tx, nm, ys, ka3, kn3, kc3, ca3, cn3, cc3⟩, ?_, ?_, Hb.out.alloc (by simp) _⟩
        · rw [Hat'.out]; rfl
        · rw [Hat'.out]; exact Hrv.out.keep (Keeps.of_below S (Hb.out.alloc (by simp) _))
      · have Hnx' := Lib.hid (Hnx.out he); clear Hat Hnx
        have he' := bs_ne he
        have He := Lib.hid he; clear he
        go_wp2_with fail
        go_round
        case rel => exact ⟨k + 1, by omega, by go_num, Hnx'.out⟩
        case measure => simp [intOf]; omega
    · obtain rfl : k = kn := by omega
      have hnone : lookE (prs t) key = none := lookE_none (fun p hp => by
        have := List.all_eq_true.1 Hno.out p (by rw [List.take_of_length_le (by unfold prs; rw [List.length_zip, ← Q5.out, ← Q6.out]; omega)]; exact hp)
        simpa using this)
      have Hnone := Lib.hid hnone; clear hnone
      go_wp2_with fail
      refine bodyPost_ret (v := .tuple #[.agg #[.int .i64 0, .string ⟨#[]⟩, .float .f64 0, .bool false, .slice none 0 0, .slice none 0 0], .bool false]) (by simp [results, Tryz.results41, go_sem]) rfl ?_
      refine ⟨⟨0, ⟨#[]⟩, 0, false, none, 0, 0, none, 0, 0⟩, ?_, ?_, Hb.out.alloc (by simp) _⟩
      · rw [Hnone.out]; rfl
      · rw [Hnone.out]; exact RepT.zero _ _

def YesPost (w : World) (S : Nat → Prop) (t : Tr) (e : Ending) (w' : World) : Prop := ∃ v : TV, e = .returned (.tuple #[v.val, .bool true]) ∧ RepT w' S v t ∧ Below w.heap.size w w'

set_option maxRecDepth 100000 in
set_option maxHeartbeats 2000000 in
theorem within_any (t x : Tr) (v : TV) (key : ByteArray) (w : World) (S : Nat → Prop) (hS : ∀ b, S b → b < w.heap.size) (hv : RepT w S v t) (hk5 : t.kind = 5) (hl : t.keys.length = 1) (hl2 : t.kids.length = 1) (hx : lookE (prs t) key = some x) (hx5 : x.kind = 5) :
    Calls Tryz.prog 111 #[.string key, v.val] w (YesPost w S x) := by
  have hc := fun w hv => at_any t v key S w hv hk5 (by omega)
  have HS := Lib.hid hS; clear hS
  rw [hx] at hc
  obtain ⟨q1, q2, q3, q4, q5, q6⟩ := hv.eqs
  have Hc := Lib.hid hc; clear hc hx
  have Hv := Lib.hid hv; clear hv
  obtain ⟨kind, text, num, yes, ka, kn, kc, ca, cn, cc⟩ := v
  simp only at q1 q5 q6
  rw [hk5] at q1
  rw [hl] at q5
  rw [hl2] at q6
  subst q1 q5 q6
  clear q2 q3 q4 hl hl2 hk5
  have Hx5 := Lib.hid hx5; clear hx5
  go_enter Tryz.func111, Tryz.ntmps111
  go_wp2_with fail
  have hb0 := ((Below.refl w.heap.size w).alloc (Nat.le_refl _) (.cells #[.int .i64 5, .string text, .float .f64 num, .bool yes, .slice ka 1 kc, .slice ca 1 cc] 31)).alloc (by simp) (.cells #[.int .i64 0, .string ⟨#[]⟩, .float .f64 0, .bool false, .slice none 0 0, .slice none 0 0] 31)
  have hbx : Box6 ((w.alloc (.cells #[.int .i64 5, .string text, .float .f64 num, .bool yes, .slice ka 1 kc, .slice ca 1 cc] 31)).alloc (.cells #[.int .i64 0, .string ⟨#[]⟩, .float .f64 0, .bool false, .slice none 0 0, .slice none 0 0] 31)) w.heap.size (.int .i64 5) (.string text) (.float .f64 num) (.bool yes) (.slice ka 1 kc) (.slice ca 1 cc) := Box6.alloc (heap_alloc_new w _)
  have hz0 : Zero6 ((w.alloc (.cells #[.int .i64 5, .string text, .float .f64 num, .bool yes, .slice ka 1 kc, .slice ca 1 cc] 31)).alloc (.cells #[.int .i64 0, .string ⟨#[]⟩, .float .f64 0, .bool false, .slice none 0 0, .slice none 0 0] 31)) (w.heap.size + 1) := by
    have := heap_alloc_new (w.alloc (.cells #[.int .i64 5, .string text, .float .f64 num, .bool yes, .slice ka 1 kc, .slice ca 1 cc] 31)) (.cells #[.int .i64 0, .string ⟨#[]⟩, .float .f64 0, .bool false, .slice none 0 0, .slice none 0 0] 31)
    rw [World.size_alloc] at this
    exact this
  refine (Hc.out _ (Hv.out.keep (Keeps.of_below S hb0))).mono ?_
  rintro e w2 ⟨v', rfl, hv', hb2⟩
  have hz2 := hz0.below hb2
  obtain ⟨z0, z1, z2, z3, z4, z5, zf, zl⟩ := hz2.cells
  have Hz2 := Lib.hid hz2; clear hz2 hz0
  obtain ⟨x1, x2, x3, x4, x5, x6⟩ := hv'.eqs
  obtain ⟨kd, tx, nm, ys, ka3, kn3, kc3, ca3, cn3, cc3⟩ := v'
  simp only [Option.getD_some] at x1
  rw [Hx5.out] at x1
  subst x1
  have hsz := hb2.size
  obtain ⟨c0, c1, c2, c3, c4, c5, cf, cl⟩ := (hbx.below hb2).cells
  have Hv' := Lib.hid hv'; clear hv'
  have Hb2 := Lib.hid (via hb0 hb2); clear hb2
  have Hbx := Lib.hid hbx; clear hbx
  clear x2 x3 x4 x5 x6
  simp only [World.size_alloc] at hsz
  have hW : Below w.heap.size w ((((((((w2.setCell ⟨w.heap.size + 1, 0, none⟩ (.int .i64 5)).setCell ⟨w.heap.size + 1, 1, none⟩ (.string tx)).setCell ⟨w.heap.size + 1, 2, none⟩ (.float .f64 nm)).setCell ⟨w.heap.size + 1, 3, none⟩ (.bool ys)).setCell ⟨w.heap.size + 1, 4, none⟩ (.slice ka3 kn3 kc3)).setCell ⟨w.heap.size + 1, 5, none⟩ (.slice ca3 cn3 cc3)).alloc (.cells #[.int .i64 5, .string tx, .float .f64 nm, .bool ys, .slice ka3 kn3 kc3, .slice ca3 cn3 cc3] 31)).drew) :=
    ((Below.put6 Hb2.out (b := w.heap.size + 1) (by omega) _ _ _ _ _ _).alloc (by simp; omega) _).drew
  have hrep : RepT ((((((((w2.setCell ⟨w.heap.size + 1, 0, none⟩ (.int .i64 5)).setCell ⟨w.heap.size + 1, 1, none⟩ (.string tx)).setCell ⟨w.heap.size + 1, 2, none⟩ (.float .f64 nm)).setCell ⟨w.heap.size + 1, 3, none⟩ (.bool ys)).setCell ⟨w.heap.size + 1, 4, none⟩ (.slice ka3 kn3 kc3)).setCell ⟨w.heap.size + 1, 5, none⟩ (.slice ca3 cn3 cc3)).alloc (.cells #[.int .i64 5, .string tx, .float .f64 nm, .bool ys, .slice ka3 kn3 kc3, .slice ca3 cn3 cc3] 31)).drew) S ⟨5, tx, nm, ys, ka3, kn3, kc3, ca3, cn3, cc3⟩ x := by
    have h1 := Hv'.out.keep (w' := ((((((w2.setCell ⟨w.heap.size + 1, 0, none⟩ (.int .i64 5)).setCell ⟨w.heap.size + 1, 1, none⟩ (.string tx)).setCell ⟨w.heap.size + 1, 2, none⟩ (.float .f64 nm)).setCell ⟨w.heap.size + 1, 3, none⟩ (.bool ys)).setCell ⟨w.heap.size + 1, 4, none⟩ (.slice ka3 kn3 kc3)).setCell ⟨w.heap.size + 1, 5, none⟩ (.slice ca3 cn3 cc3))) (fun b hb hlt => (grownBy_put6 w2 (w.heap.size + 1) _ _ _ _ _ _).block b hlt (fun e => by injection e with e; have := HS.out b hb; omega))
    exact h1.keep (Keeps.of_below S (((Below.refl _ _).alloc (Nat.le_refl _) _).drew))
  have Hrep := Lib.hid hrep; clear hrep
  have Hbel := Lib.hid hW; clear hW
  go_wp2_with fail
  go_region_law (fail)
  all_goals (
    go_wp2_with fail
    obtain ⟨p0, p1, p2, p3, p4, p5, _, _⟩ := ((Hz2.out.put6 (.int .i64 5) (.string tx) (.float .f64 nm) (.bool ys) (.slice ka3 kn3 kc3) (.slice ca3 cn3 cc3)).alloc (o := .cells #[.int .i64 5, .string tx, .float .f64 nm, .bool ys, .slice ka3 kn3 kc3, .slice ca3 cn3 cc3] 31)).cells
    refine bodyPost_ret (v := .tuple #[.agg #[.int .i64 5, .string tx, .float .f64 nm, .bool ys, .slice ka3 kn3 kc3, .slice ca3 cn3 cc3], .bool true]) (by simp [results, Tryz.results111, go_sem, p0, p1, p2, p3, p4, p5]; done) rfl ?_
    exact ⟨⟨5, tx, nm, ys, ka3, kn3, kc3, ca3, cn3, cc3⟩, rfl, Hrep.out, Hbel.out⟩)

set_option maxRecDepth 100000 in
set_option maxHeartbeats 2000000 in
theorem list_any (ts : List Tr) (S : Nat → Prop) (a : Option Addr) (c : Nat) (w : World) (h : TreesAt w S a ts) (hl : ts.length ≤ 9223372036854775807) :
    Calls Tryz.prog 47 #[.slice a ts.length c] w (TreeS w S (listT ts)) := by
  have Hh := Lib.hid h; clear h
  go_enter Tryz.func47, Tryz.ntmps47
  go_wp2_with fail
  refine bodyPost_ret (v := .agg #[.int .i64 4, .string ⟨#[]⟩, .float .f64 0, .bool false, .slice none 0 0, .slice a ts.length c]) (by simp [results, Tryz.results47, go_sem]) rfl ?_
  have hb := (Below.refl w.heap.size w).alloc (Nat.le_refl _) (.cells #[.int .i64 4, .string ⟨#[]⟩, .float .f64 0, .bool false, .slice none 0 0, .slice a ts.length c] 31)
  obtain ⟨vs, h1, h2⟩ := TreesAt.keep Hh.out (Keeps.of_below _ hb)
  exact ⟨⟨4, ⟨#[]⟩, 0, false, none, 0, 0, a, ts.length, c⟩, rfl, RepT.mono (S := S) (S' := fun b => S b ∨ w.heap.size ≤ b) (.mk _ _ vs ⟨by simp only [listT, Tr.text]; decide, by simp [listT, Tr.keys], hl⟩ rfl rfl rfl rfl rfl SliceAt.nil rfl h1 h2) (fun b _ hb => .inl hb), hb⟩

set_option maxRecDepth 100000 in
set_option maxHeartbeats 2000000 in
theorem text_any (s : ByteArray) (w : World) (hs : s.size ≤ 9223372036854775807) : Calls Tryz.prog 93 #[.string s] w (TreeS w (fun _ => False) (textT s)) := by
  go_enter Tryz.func93, Tryz.ntmps93
  go_wp2_with fail
  refine bodyPost_ret (v := .agg #[.int .i64 1, .string s, .float .f64 0, .bool false, .slice none 0 0, .slice none 0 0]) (by simp [results, Tryz.results93, go_sem]) rfl ?_
  exact ⟨⟨1, s, 0, false, none, 0, 0, none, 0, 0⟩, rfl, leaf 1 s 0 false hs _ _, (Below.refl _ _).alloc (Nat.le_refl _) _⟩

set_option maxRecDepth 100000 in
set_option maxHeartbeats 2000000 in
theorem number_any (x : Nat) (w : World) : Calls Tryz.prog 113 #[.float .f64 x] w (TreeS w (fun _ => False) (numT x)) := by
  go_enter Tryz.func113, Tryz.ntmps113
  go_wp2_with fail
  refine bodyPost_ret (v := .agg #[.int .i64 2, .string ⟨#[]⟩, .float .f64 x, .bool false, .slice none 0 0, .slice none 0 0]) (by simp [results, Tryz.results113, go_sem]) rfl ?_
  exact ⟨⟨2, ⟨#[]⟩, x, false, none, 0, 0, none, 0, 0⟩, rfl, leaf 2 ⟨#[]⟩ x false (by decide) _ _, (Below.refl _ _).alloc (Nat.le_refl _) _⟩

def placesL : List ByteArray := [⟨#[109, 117, 115, 116]⟩, ⟨#[109, 117, 115, 116, 95, 110, 111, 116]⟩, ⟨#[115, 104, 111, 117, 108, 100]⟩, ⟨#[102, 105, 108, 116, 101, 114]⟩]
set_option maxRecDepth 100000 in
set_option maxHeartbeats 2000000 in
theorem places_any (w : World) : Calls Tryz.prog 92 #[] w fun e w' => ∃ b, e = .returned (.slice (some ⟨b, 0, none⟩) 4 4) ∧ w'.heap[b]? = some (.cells (placesL.map Value.string).toArray 9 (0, 0)) ∧ w.heap.size ≤ b ∧ Below w.heap.size w w' := by
  go_enter Tryz.func92, Tryz.ntmps92
  go_wp2_with fail
  go_ret
  exact ⟨w.heap.size, rfl, heap_alloc_new w _, Nat.le_refl _, (Below.refl _ _).alloc (Nat.le_refl _) _⟩
theorem rep_map0 (w : World) (S : Nat → Prop) : RepT w S ⟨5, ⟨#[]⟩, 0, false, none, 0, 0, none, 0, 0⟩ (mapE []) :=
  .mk _ _ (fun _ => default) ⟨by decide, by decide, by decide⟩ rfl rfl rfl rfl rfl SliceAt.nil rfl SliceAt.nil (fun i k h => by simp [mapE_kids] at h)
/-- A tree in a box; its lists lie in T. -/
structure TBox (w : World) (T : Nat → Prop) (B : Nat) (t : Tr) : Prop where
  box : ∃ v : TV, Box6 w B (.int .i64 v.kind) (.string v.text) (.float .f64 v.num) (.bool v.yes) (.slice v.ka v.kn v.kc) (.slice v.ca v.cn v.cc) ∧ RepT w T v t
theorem TBox.lt {w : World} {T : Nat → Prop} {B : Nat} {t : Tr} (h : TBox w T B t) : B < w.heap.size := by
  obtain ⟨v, h1, _⟩ := h.box
  exact (Array.getElem?_eq_some_iff.1 h1).1
theorem TBox.below {w w' : World} {T : Nat → Prop} {B : Nat} {t : Tr} (h : TBox w T B t) (hb : Below w.heap.size w w') : TBox w' T B t := by
  obtain ⟨v, h1, h2⟩ := h.box
  exact ⟨v, h1.below hb, h2.keep (Keeps.of_below _ hb)⟩
theorem Below.put6' {B : Nat} {w W : World} {b : Nat} (h : Below B w W) (hb : B ≤ b) (v0 v1 v2 v3 v4 v5 : Value) :
    Below B w ((((((W.setCell ⟨b, 0, none⟩ v0).setCell ⟨b, 1, none⟩ v1).setCell ⟨b, 2, none⟩ v2).setCell ⟨b, 3, none⟩ v3).setCell ⟨b, 4, none⟩ v4).setCell ⟨b, 5, none⟩ v5) :=
  (((((h.setCell (p := ⟨b, 0, none⟩) hb _).setCell (p := ⟨b, 1, none⟩) hb _).setCell (p := ⟨b, 2, none⟩) hb _).setCell (p := ⟨b, 3, none⟩) hb _).setCell (p := ⟨b, 4, none⟩) hb _).setCell (p := ⟨b, 5, none⟩) hb _
theorem RepT.put6 {w : World} {S : Nat → Prop} {v : TV} {t : Tr} (h : RepT w S v t) {B : Nat} (hB : ¬ S B) (v0 v1 v2 v3 v4 v5 : Value) :
    RepT ((((((w.setCell ⟨B, 0, none⟩ v0).setCell ⟨B, 1, none⟩ v1).setCell ⟨B, 2, none⟩ v2).setCell ⟨B, 3, none⟩ v3).setCell ⟨B, 4, none⟩ v4).setCell ⟨B, 5, none⟩ v5) S v t :=
  h.keep (fun b hb hlt => (grownBy_put6 w B _ _ _ _ _ _).block b hlt (fun e => by injection e with e; exact hB (by rw [← e]; exact hb)))
/-- Another tree is stored into the box. -/
theorem TBox.put {w : World} {T : Nat → Prop} {B : Nat} (hB : ¬ T B) {c0 c1 c2 c3 c4 c5 : Value} (hb : Box6 w B c0 c1 c2 c3 c4 c5) (v : TV) (t : Tr) (h : RepT w T v t) :
    TBox ((((((w.setCell ⟨B, 0, none⟩ (.int .i64 v.kind)).setCell ⟨B, 1, none⟩ (.string v.text)).setCell ⟨B, 2, none⟩ (.float .f64 v.num)).setCell ⟨B, 3, none⟩ (.bool v.yes)).setCell ⟨B, 4, none⟩ (.slice v.ka v.kn v.kc)).setCell ⟨B, 5, none⟩ (.slice v.ca v.cn v.cc)) T B t :=
  ⟨v, hb.put6 _ _ _ _ _ _, h.put6 hB _ _ _ _ _ _⟩
/-- .. into another box. -/
theorem TBox.far {w : World} {T : Nat → Prop} {B B' : Nat} {t : Tr} (h : TBox w T B t) (hB : ¬ T B') (hne : B ≠ B') (v0 v1 v2 v3 v4 v5 : Value) :
    TBox ((((((w.setCell ⟨B', 0, none⟩ v0).setCell ⟨B', 1, none⟩ v1).setCell ⟨B', 2, none⟩ v2).setCell ⟨B', 3, none⟩ v3).setCell ⟨B', 4, none⟩ v4).setCell ⟨B', 5, none⟩ v5) T B t := by
  obtain ⟨v, h1, h2⟩ := h.box
  exact ⟨v, h1.keep ((grownBy_put6 w B' _ _ _ _ _ _).block B h.lt (fun e => by injection e with e; exact hne e)), h2.put6 hB _ _ _ _ _ _⟩

theorem SetsAt.on {w w' : World} {a : Option Addr} {sets : List SetM} (h : SetsAt w (fun _ => True) a sets) (hb : Below w.heap.size w w') : SetsAt w' (fun _ => True) a sets := h.keep (Keeps.of_below _ hb)
theorem SetsAt.lts {w : World} {S : Nat → Prop} {a : Option Addr} {sets : List SetM} (h : SetsAt w S a sets) : SetsAt w (fun b => b < w.heap.size) a sets := h.mono (fun _ hb _ => hb)

theorem prs_mapE (es : List (ByteArray × Tr)) : prs (mapE es) = es := by
  unfold prs
  rw [mapE_keys, mapE_kids, List.zip_map', List.map_id']

set_option maxRecDepth 100000 in
set_option maxHeartbeats 4000000 in
theorem map_made (ps : List SetM) (S : Nat → Prop) (a : Option Addr) (c : Nat) (w : World) (h : SetsAt w S a ps) (hS : ∀ b, S b → b < w.heap.size) (hl : ps.length ≤ 1000000000) :
    Calls Tryz.prog 42 #[.slice a ps.length c] w (TreeS w S (mapE (mapL ps))) := by
  have Hh := Lib.hid h; clear h
  have HS := Lib.hid hS; clear hS
  go_enter Tryz.func42, Tryz.ntmps42
  go_wp2_with fail
  go_loopw [4] (fun i wr => ∃ k : Nat, k ≤ ps.length ∧ i = .int .i64 k ∧ TBox wr (fun b => S b ∨ w.heap.size + 2 ≤ b) (w.heap.size + 1) (mapE (mapL (ps.take k))) ∧ Zero6 wr w.heap.size ∧ Below w.heap.size w wr) (fun i _ => ps.length - (intOf i).toNat)
  case atStart =>
    refine ⟨0, Nat.zero_le _, rfl, ?_, Box6.alloc (heap_alloc_new w _), ((Below.refl _ _).alloc (Nat.le_refl _) _).alloc (by simp) _⟩
    have hbx := heap_alloc_new (w.alloc (.cells #[.int .i64 0, .string ⟨#[]⟩, .float .f64 0, .bool false, .slice none 0 0, .slice none 0 0] 31)) (.cells #[.int .i64 5, .string ⟨#[]⟩, .float .f64 0, .bool false, .slice none 0 0, .slice none 0 0] 31)
    rw [World.size_alloc] at hbx
    exact ⟨⟨5, ⟨#[]⟩, 0, false, none, 0, 0, none, 0, 0⟩, hbx, by rw [List.take_zero]; exact rep_map0 _ _⟩
  case round =>
    obtain ⟨k, hk, rfl, hbx, hz, hbel⟩ := hrel
    obtain ⟨v, hbox, hv⟩ := hbx.box
    by_cases hlt : k < ps.length
    · obtain ⟨b', o, u, hca, hSb, hlb, c0, c1, c2, c3, c4, c5, c6, hu⟩ := (Hh.out.keep (Keeps.of_below _ hbel)).cells (k := k) hlt
      subst hca
      have Htake : Hid (ps.take (k + 1) = ps.take k ++ [ps[k]]) := Lib.hid (List.take_succ_eq_append_getElem hlt)
      have Hlen : Hid ((mapL (ps.take k)).length ≤ k) := Lib.hid (Nat.le_trans (mapL_length _) (by rw [List.length_take]; omega))
      have hc : ∀ wx, Below wr.heap.size wr wx → Calls Tryz.prog 45 #[v.val, .string ps[k].name, u.val] wx fun e w' => ∃ v' : TV, e = .returned v'.val ∧ RepT w' (fun b => S b ∨ w.heap.size + 2 ≤ b) v' (mapE (mapL (ps.take (k + 1)))) ∧ Below wr.heap.size wr w' := by
        intro wx hbx
        have hsz := hbel.size
        have hsx := hbx.size
        have hB := (Array.getElem?_eq_some_iff.1 hbox).1
        have h1 := (hv.mono (S' := fun b => b < wr.heap.size ∧ (S b ∨ w.heap.size + 2 ≤ b)) (fun b hb h => ⟨hb, h⟩)).keep (Keeps.of_below _ hbx)
        have h2 := (hu.mono (S' := fun b => b < wr.heap.size ∧ (S b ∨ w.heap.size + 2 ≤ b)) (fun b hb h => ⟨hb, .inl h⟩)).keep (Keeps.of_below _ hbx)
        refine (with_any _ _ ps[k].name _ v u wx h1 h2 (fun b hb => by omega) (by rw [mapE_keys, mapE_kids, List.length_map, List.length_map]) (by rw [mapE_kids, List.length_map]; have := Hlen.out; omega)).mono ?_
        rintro e w' ⟨v', rfl, hv', hb'⟩
        refine ⟨v', rfl, ?_, via hbx hb'⟩
        rw [Htake.out, mapL_snoc]
        have e1 := prs_mapE (mapL (ps.take k))
        unfold prs at e1
        rw [e1] at hv'
        exact hv'.mono (fun b _ hb => by rcases hb with hb | hb; exact hb.2; exact .inr (by omega))
      have Hc := Lib.hid hc; clear hc
      generalize ps[k] = s at *
      obtain ⟨kind, text, num, yes, ka, kn, kc, ca, cn, cc⟩ := v
      obtain ⟨kind', text', num', yes', ka', kn', kc', ca', cn', cc'⟩ := u
      simp only at c1 c2 c3 c4 c5 c6
      obtain ⟨b0, b1, b2, b3, b4, b5, bf, bl⟩ := hbox.cells
      simp only at b0 b1 b2 b3 b4 b5
      have Hbox := Lib.hid hbox; clear hbox
      have Hz := Lib.hid hz; clear hz
      have Hbel := Lib.hid hbel; clear hbel
      clear hbx hv hu Htake
      have hi1 : (0 : Int) ≤ (k : Int) := by omega
      have hi2 : (k : Int) < (ps.length : Int) := by omega
      go_wp2_with fail
      go_region_law (go_simp; go_at_call 45; refine (Hc.out _ (by first | exact Below.refl _ _ | exact (Below.refl _ _).drew)).mono ?_; rintro e w2 ⟨⟨kind2, text2, num2, yes2, ka2, kn2, kc2, ca2, cn2, cc2⟩, rfl, hV, hb2⟩; have hbox2 := Hbox.out.below hb2; obtain ⟨z0, z1, z2, z3, z4, z5, zf, zl⟩ := hbox2.cells)
      all_goals (
        go_wp2_with fail
        go_roundw
        case rel => exact ⟨k + 1, by omega, by simp, TBox.put (fun h => by rcases h with h | h; have := HS.out _ h; omega; omega) hbox2 ⟨kind2, text2, num2, yes2, ka2, kn2, kc2, ca2, cn2, cc2⟩ _ hV, (Hz.out.below hb2).keep ((grownBy_put6 _ _ _ _ _ _ _ _).block _ (by have := Hbel.out.size; have := hb2.size; omega) (by simp)), Below.put6' (via Hbel.out hb2) (by omega) _ _ _ _ _ _⟩
        case measure => simp [intOf]; omega)
    · obtain rfl : k = ps.length := by omega
      obtain ⟨kind, text, num, yes, ka, kn, kc, ca, cn, cc⟩ := v
      obtain ⟨b0, b1, b2, b3, b4, b5, bf, bl⟩ := hbox.cells
      obtain ⟨z0, z1, z2, z3, z4, z5, zf, zl⟩ := hz.cells
      simp only at b0 b1 b2 b3 b4 b5
      rw [List.take_length] at hv
      have Hz := Lib.hid hz; clear hz
      have Hv := Lib.hid hv; clear hv
      have Hbel := Lib.hid hbel; clear hbel
      clear hbx hbox
      go_wp2_with fail
      obtain ⟨p0, p1, p2, p3, p4, p5, _, _⟩ := (Hz.out.put6 (.int .i64 kind) (.string text) (.float .f64 num) (.bool yes) (.slice ka kn kc) (.slice ca cn cc)).cells
      refine bodyPost_ret (v := .agg #[.int .i64 kind, .string text, .float .f64 num, .bool yes, .slice ka kn kc, .slice ca cn cc]) (by simp [results, Tryz.results42, go_sem, p0, p1, p2, p3, p4, p5]) rfl ?_
      exact ⟨⟨kind, text, num, yes, ka, kn, kc, ca, cn, cc⟩, rfl, (Hv.out.put6 (fun h => by rcases h with h | h; have := HS.out _ h; omega; omega) _ _ _ _ _ _).mono (fun b _ hb => by rcases hb with hb | hb; exact .inl hb; exact .inr (by omega)), Below.put6 Hbel.out (Nat.le_refl _) _ _ _ _ _ _⟩
end Go.Proofs.YtbcnhcpgloncdaaGreatDoor
