/- 'treeOf': what a builder gives, as a tree; 'told'. -/
import Derived.Test.YtbcnhcpgloncdaaGreatDoorQGo
namespace Go.Proofs.YtbcnhcpgloncdaaGreatDoor
open Go Go.RowKit Go.Maps Go.Sort

theorem tree_put6 {w w2 : World} {v : TV} {t : Tr} {b : Nat} (hV : RepT w2 (fun c => b + 1 ≤ c) v t) (hb : w.heap.size ≤ b) (v0 v1 v2 v3 v4 v5 : Value) :
    RepT ((((((w2.setCell ⟨b, 0, none⟩ v0).setCell ⟨b, 1, none⟩ v1).setCell ⟨b, 2, none⟩ v2).setCell ⟨b, 3, none⟩ v3).setCell ⟨b, 4, none⟩ v4).setCell ⟨b, 5, none⟩ v5) (fun c => w.heap.size ≤ c) v t := by
  refine (hV.keep fun c hc hlt => (grownBy_put6 w2 b v0 v1 v2 v3 v4 v5).block c hlt fun e => ?_).mono fun c _ hc => by omega
  injection e with e
  omega

/-- A tree that a callee has made, laid into the result's own block. -/
theorem TreePost.lift {w w1 w2 : World} {v : TV} {t : Tr} (h1 : Below w.heap.size w w1) (hV : RepT w2 (fun b => w1.heap.size ≤ b) v t) (hb : Below w1.heap.size w1 w2) : RepT w2 (fun b => w.heap.size ≤ b) v t ∧ Below w.heap.size w w2 :=
  ⟨hV.mono fun _ _ h => Nat.le_trans h1.size h, h1.trans (hb.mono h1.size)⟩

set_option maxRecDepth 100000 in
set_option maxHeartbeats 4000000 in
theorem treeOf_29 (x : Value) (t : Tr) (w : World) (h : ∀ w1, Below w.heap.size w w1 → Calls Tryz.prog 158 #[x] w1 (TreePost w1 t)) : Calls Tryz.prog 110 #[.iface 29 x] w (TreePost w t) := by
  have Hc := Lib.hid h; clear h
  go_enter Tryz.func110, Tryz.ntmps110
  go_wp2_with (go_at_call 158; refine (Hc.out _ ((Below.refl _ _).alloc (Nat.le_refl _) _)).mono ?_; rintro e w2 ⟨⟨kind, text, num, yes, ka, kn, kc, ca, cn, cc⟩, rfl, hV, hb⟩; obtain ⟨z0, z1, z2, z3, z4, z5, zf, zl⟩ := Box6.cells (Box6.below (c0 := .int .i64 0) (c1 := .string ⟨#[]⟩) (c2 := .float .f64 0) (c3 := .bool false) (c4 := .slice none 0 0) (c5 := .slice none 0 0) (heap_alloc_new w _) hb))
  have hz : Zero6 w2 w.heap.size := Box6.below (heap_alloc_new w _) hb
  obtain ⟨p0, p1, p2, p3, p4, p5, _, _⟩ := (hz.put6 (.int .i64 kind) (.string text) (.float .f64 num) (.bool yes) (.slice ka kn kc) (.slice ca cn cc)).cells
  refine bodyPost_ret (v := .agg #[.int .i64 kind, .string text, .float .f64 num, .bool yes, .slice ka kn kc, .slice ca cn cc]) (by simp [results, Tryz.results110, go_sem, p0, p1, p2, p3, p4, p5]) rfl ?_
  refine ⟨⟨kind, text, num, yes, ka, kn, kc, ca, cn, cc⟩, rfl, tree_put6 (by simpa using hV) (Nat.le_refl _) _ _ _ _ _ _, Below.put6 (((Below.refl _ _).alloc (Nat.le_refl _) _).trans (hb.mono (by simp))) (Nat.le_refl _) _ _ _ _ _ _⟩

set_option maxRecDepth 100000 in
set_option maxHeartbeats 4000000 in
theorem treeOf_115 (x : Value) (t : Tr) (w : World) (h : ∀ w1, Below w.heap.size w w1 → Calls Tryz.prog 157 #[x] w1 (TreePost w1 t)) : Calls Tryz.prog 110 #[.iface 115 x] w (TreePost w t) := by
  have Hc := Lib.hid h; clear h
  go_enter Tryz.func110, Tryz.ntmps110
  go_wp2_with (go_at_call 157; refine (Hc.out _ ((Below.refl _ _).alloc (Nat.le_refl _) _)).mono ?_; rintro e w2 ⟨⟨kind, text, num, yes, ka, kn, kc, ca, cn, cc⟩, rfl, hV, hb⟩; obtain ⟨z0, z1, z2, z3, z4, z5, zf, zl⟩ := Box6.cells (Box6.below (c0 := .int .i64 0) (c1 := .string ⟨#[]⟩) (c2 := .float .f64 0) (c3 := .bool false) (c4 := .slice none 0 0) (c5 := .slice none 0 0) (heap_alloc_new w _) hb))
  have hz : Zero6 w2 w.heap.size := Box6.below (heap_alloc_new w _) hb
  obtain ⟨p0, p1, p2, p3, p4, p5, _, _⟩ := (hz.put6 (.int .i64 kind) (.string text) (.float .f64 num) (.bool yes) (.slice ka kn kc) (.slice ca cn cc)).cells
  refine bodyPost_ret (v := .agg #[.int .i64 kind, .string text, .float .f64 num, .bool yes, .slice ka kn kc, .slice ca cn cc]) (by simp [results, Tryz.results110, go_sem, p0, p1, p2, p3, p4, p5]) rfl ?_
  refine ⟨⟨kind, text, num, yes, ka, kn, kc, ca, cn, cc⟩, rfl, tree_put6 (by simpa using hV) (Nat.le_refl _) _ _ _ _ _ _, Below.put6 (((Below.refl _ _).alloc (Nat.le_refl _) _).trans (hb.mono (by simp))) (Nat.le_refl _) _ _ _ _ _ _⟩

set_option maxRecDepth 100000 in
set_option maxHeartbeats 4000000 in
theorem at_float (b o x : Nat) (w : World) (hc : w.cell? ⟨b, o, none⟩ = some (.float .f64 x)) : Calls Tryz.prog 157 #[.pointer (some ⟨b, o, none⟩)] w (TreePost w (numT x)) := by
  have hlt := World.block_lt_of_cell? w _ hc
  simp only at hlt
  go_enter Tryz.func157, Tryz.ntmps157
  go_wp2_with (go_at_call 110; refine (treeOf_num x _).mono ?_; rintro e w2 ⟨rfl, hb⟩; obtain ⟨z0, z1, z2, z3, z4, z5, zf, zl⟩ := Box6.cells (Box6.below (c0 := .int .i64 0) (c1 := .string ⟨#[]⟩) (c2 := .float .f64 0) (c3 := .bool false) (c4 := .slice none 0 0) (c5 := .slice none 0 0) (heap_alloc_new w _) hb))
  have hz : Zero6 w2 w.heap.size := Box6.below (heap_alloc_new w _) hb
  obtain ⟨p0, p1, p2, p3, p4, p5, _, _⟩ := (hz.put6 (.int .i64 2) (.string ⟨#[]⟩) (.float .f64 x) (.bool false) (.slice none 0 0) (.slice none 0 0)).cells
  refine bodyPost_ret (v := .agg #[.int .i64 2, .string ⟨#[]⟩, .float .f64 x, .bool false, .slice none 0 0, .slice none 0 0]) (by simp [results, Tryz.results157, go_sem, p0, p1, p2, p3, p4, p5]) rfl ?_
  exact ⟨⟨2, ⟨#[]⟩, x, false, none, 0, 0, none, 0, 0⟩, rfl, leaf 2 ⟨#[]⟩ x false (by decide) _ _, Below.put6 (((Below.refl _ _).alloc (Nat.le_refl _) _).trans (hb.mono (by simp))) (Nat.le_refl _) _ _ _ _ _ _⟩

set_option maxRecDepth 100000 in
set_option maxHeartbeats 4000000 in
theorem treeOf_123 (x : Value) (t : Tr) (w : World) (h : ∀ w1, Below w.heap.size w w1 → Calls Tryz.prog 160 #[x] w1 (TreePost w1 t)) : Calls Tryz.prog 110 #[.iface 123 x] w (TreePost w t) := by
  have Hc := Lib.hid h; clear h
  go_enter Tryz.func110, Tryz.ntmps110
  go_wp2_with (go_at_call 160; refine (Hc.out _ ((Below.refl _ _).alloc (Nat.le_refl _) _)).mono ?_; rintro e w2 ⟨⟨kind, text, num, yes, ka, kn, kc, ca, cn, cc⟩, rfl, hV, hb⟩; obtain ⟨z0, z1, z2, z3, z4, z5, zf, zl⟩ := Box6.cells (Box6.below (c0 := .int .i64 0) (c1 := .string ⟨#[]⟩) (c2 := .float .f64 0) (c3 := .bool false) (c4 := .slice none 0 0) (c5 := .slice none 0 0) (heap_alloc_new w _) hb))
  have hz : Zero6 w2 w.heap.size := Box6.below (heap_alloc_new w _) hb
  obtain ⟨p0, p1, p2, p3, p4, p5, _, _⟩ := (hz.put6 (.int .i64 kind) (.string text) (.float .f64 num) (.bool yes) (.slice ka kn kc) (.slice ca cn cc)).cells
  refine bodyPost_ret (v := .agg #[.int .i64 kind, .string text, .float .f64 num, .bool yes, .slice ka kn kc, .slice ca cn cc]) (by simp [results, Tryz.results110, go_sem, p0, p1, p2, p3, p4, p5]) rfl ?_
  refine ⟨⟨kind, text, num, yes, ka, kn, kc, ca, cn, cc⟩, rfl, tree_put6 (by simpa using hV) (Nat.le_refl _) _ _ _ _ _ _, Below.put6 (((Below.refl _ _).alloc (Nat.le_refl _) _).trans (hb.mono (by simp))) (Nat.le_refl _) _ _ _ _ _ _⟩

set_option maxRecDepth 100000 in
set_option maxHeartbeats 4000000 in
theorem treeOf_122 (x : Value) (t : Tr) (w : World) (h : ∀ w1, Below w.heap.size w w1 → Calls Tryz.prog 162 #[x] w1 (TreePost w1 t)) : Calls Tryz.prog 110 #[.iface 122 x] w (TreePost w t) := by
  have Hc := Lib.hid h; clear h
  go_enter Tryz.func110, Tryz.ntmps110
  go_wp2_with (go_at_call 162; refine (Hc.out _ ((Below.refl _ _).alloc (Nat.le_refl _) _)).mono ?_; rintro e w2 ⟨⟨kind, text, num, yes, ka, kn, kc, ca, cn, cc⟩, rfl, hV, hb⟩; obtain ⟨z0, z1, z2, z3, z4, z5, zf, zl⟩ := Box6.cells (Box6.below (c0 := .int .i64 0) (c1 := .string ⟨#[]⟩) (c2 := .float .f64 0) (c3 := .bool false) (c4 := .slice none 0 0) (c5 := .slice none 0 0) (heap_alloc_new w _) hb))
  have hz : Zero6 w2 w.heap.size := Box6.below (heap_alloc_new w _) hb
  obtain ⟨p0, p1, p2, p3, p4, p5, _, _⟩ := (hz.put6 (.int .i64 kind) (.string text) (.float .f64 num) (.bool yes) (.slice ka kn kc) (.slice ca cn cc)).cells
  refine bodyPost_ret (v := .agg #[.int .i64 kind, .string text, .float .f64 num, .bool yes, .slice ka kn kc, .slice ca cn cc]) (by simp [results, Tryz.results110, go_sem, p0, p1, p2, p3, p4, p5]) rfl ?_
  refine ⟨⟨kind, text, num, yes, ka, kn, kc, ca, cn, cc⟩, rfl, tree_put6 (by simpa using hV) (Nat.le_refl _) _ _ _ _ _ _, Below.put6 (((Below.refl _ _).alloc (Nat.le_refl _) _).trans (hb.mono (by simp))) (Nat.le_refl _) _ _ _ _ _ _⟩

def listTexts (ss : List ByteArray) : Tr := listT (ss.map textT)

/-- What a value that a builder gives stands for. -/
inductive AnyAt (w : World) (S : Nat → Prop) : Value → Tr → Prop
  | nil : AnyAt w S .nilIface Tr.zero
  | str (s : ByteArray) (h : s.size ≤ 9223372036854775807) : AnyAt w S (.iface 9 (.string s)) (textT s)
  | yes (b : Bool) : AnyAt w S (.iface 4 (.bool b)) (yesT b)
  | int (n : Int) : AnyAt w S (.iface 3 (.int .i64 n)) (numT (floatOfInt .f64 n))
  | num (x : Nat) : AnyAt w S (.iface 28 (.float .f64 x)) (numT x)
  | long (n : Int) : AnyAt w S (.iface 2 (.int .i64 n)) (numT (floatOfInt .f64 n))
  | ptr (b o x : Nat) (hS : S b) (hc : w.cell? ⟨b, o, none⟩ = some (.float .f64 x)) : AnyAt w S (.iface 115 (.pointer (some ⟨b, o, none⟩))) (numT x)
  | strs (a : Option Addr) (c : Nat) (ss : List ByteArray) (hs : StrsAt w S a ss) (hl : ss.length ≤ 4294967296) (hz : ∀ s ∈ ss, s.size ≤ 9223372036854775807) : AnyAt w S (.iface 29 (.slice a ss.length c)) (listTexts ss)
  | anys (a : Option Addr) (c : Nat) (vs : Nat → Value) (ts : List Tr) (hs : SliceAt w S a 1 ts.length (fun i => [vs i])) (hl : ts.length ≤ 4294967296) (hel : ∀ (i : Nat) (t : Tr), ts[i]? = some t → AnyAt w S (vs i) t) : AnyAt w S (.iface 123 (.slice a ts.length c)) (listT ts)
  | map (b n : Nat) (D : DataW Value) (ks : List ByteArray) (ts : List Tr) (hS : S b) (hown : w.ownsMap Tryz.prog 9 R9 b n D) (hn : Maps.size D ≤ 4294967296) (hks : ks.map (fun k => k.data.toList) = (strKeys D).mergeSort leB)
      (hl : ts.length = ks.length) (hel : ∀ (i : Nat) (k : ByteArray) (t : Tr) (v : Value), ks[i]? = some k → ts[i]? = some t → D.atKey (.string k.data.toList) (.held .nilIface) = .held v → AnyAt w S v t) : AnyAt w S (.iface 122 (.map (some b))) (mapT ks ts)

theorem AnyAt.keep {w w' : World} {S : Nat → Prop} {v : Value} {t : Tr} (h : AnyAt w S v t) (hk : Keeps S w w') : AnyAt w' S v t := by
  induction h with
  | nil => exact .nil
  | str s h => exact .str s h
  | yes b => exact .yes b
  | int n => exact .int n
  | num x => exact .num x
  | long n => exact .long n
  | ptr b o x hS hc => exact .ptr b o x hS ((World.cell?_of_block (w := w) (a := ⟨b, o, none⟩) (hk b hS (World.block_lt_of_cell? w _ hc))).trans hc)
  | strs a c ss hs hl hz => exact .strs a c ss (hs.keep hk) hl hz
  | anys a c vs ts hs hl hel ih => exact .anys a c vs ts (hs.keep (fun _ => by simp) hk) hl ih
  | map b n D ks ts hS hown hn hks hl hel ih =>
    refine .map b n D ks ts hS ?_ hn hks hl ih
    have hlt := hown.lt
    obtain ⟨es, clock, hb, F, hs, hD⟩ := hown
    exact ⟨es, clock, (hk b hS hlt).trans hb, F, hs, hD⟩

theorem AnyAt.mono {w : World} {S S' : Nat → Prop} {v : Value} {t : Tr} (h : AnyAt w S v t) (hS : ∀ b, b < w.heap.size → S b → S' b) : AnyAt w S' v t := by
  induction h with
  | nil => exact .nil
  | str s h => exact .str s h
  | yes b => exact .yes b
  | int n => exact .int n
  | num x => exact .num x
  | long n => exact .long n
  | ptr b o x hSb hc => exact .ptr b o x (hS b (World.block_lt_of_cell? w _ hc) hSb) hc
  | strs a c ss hs hl hz => exact .strs a c ss (hs.mono hS) hl hz
  | anys a c vs ts hs hl hel ih => exact .anys a c vs ts (hs.mono (fun _ => by simp) hS) hl ih
  | map b n D ks ts hSb hown hn hks hl hel ih => exact .map b n D ks ts (hS b hown.lt hSb) hown hn hks hl ih

theorem treeOf_any {w0 : World} {v : Value} {t : Tr} (h : AnyAt w0 (fun _ => True) v t) : ∀ w, Below w0.heap.size w0 w → Calls Tryz.prog 110 #[v] w (TreePost w t) := by
  induction h with
  | nil => exact fun w _ => (treeOf_nil w).mono fun e w' ⟨he, hb⟩ => ⟨_, he, RepT.zero _ _, hb⟩
  | str s h => exact fun w _ => (treeOf_str s w).mono fun e w' ⟨he, hb⟩ => ⟨_, he, leaf 1 s 0 false h _ _, hb⟩
  | yes b => exact fun w _ => (treeOf_yes b w).mono fun e w' ⟨he, hb⟩ => ⟨_, he, leaf 3 ⟨#[]⟩ 0 b (by decide) _ _, hb⟩
  | int n => exact fun w _ => (treeOf_int n w).mono fun e w' ⟨he, hb⟩ => ⟨_, he, leaf 2 ⟨#[]⟩ _ false (by decide) _ _, hb⟩
  | num x => exact fun w _ => (treeOf_num x w).mono fun e w' ⟨he, hb⟩ => ⟨_, he, leaf 2 ⟨#[]⟩ x false (by decide) _ _, hb⟩
  | long n => exact fun w _ => (treeOf_long n w).mono fun e w' ⟨he, hb⟩ => ⟨_, he, leaf 2 ⟨#[]⟩ _ false (by decide) _ _, hb⟩
  | ptr b o x hS hc => exact fun w hw => treeOf_115 _ _ w fun w1 hw1 => at_float b o x w1 (((hw.trans (hw1.mono hw.size)).cell (p := ⟨b, o, none⟩) (World.block_lt_of_cell? w0 _ hc)).trans hc)
  | strs a c ss hs hl hz =>
    intro w hw
    refine treeOf_29 _ _ w fun w1 hw1 => ?_
    have hs1 := hs.keep (Keeps.of_below _ (hw.trans (hw1.mono hw.size)))
    have := listOf_str (fun i => .string (ss.getD i ByteArray.empty)) (ss.map textT) (fun _ => True) a c w1 (by simpa [StrsAt] using hs1) (by simpa using hl) (fun i hi wr _ => by
      have hi' : i < ss.length := by simpa using hi
      refine (treeOf_str _ wr).mono fun e w' ⟨he, hb⟩ => ⟨_, he, ?_, hb⟩
      have h2 : ss.getD i ByteArray.empty = ss[i] := by simp [hi']
      rw [h2, List.getElem_map]
      exact leaf 1 _ 0 false (hz _ (by simp)) _ _)
    simpa [listTexts] using this
  | anys a c vs ts hs hl hel ih =>
    intro w hw
    refine treeOf_123 _ _ w fun w1 hw1 => ?_
    have hw2 := hw.trans (hw1.mono hw.size)
    exact listOf_any vs ts (fun _ => True) a c w1 (hs.keep (fun _ => by simp) (Keeps.of_below _ hw2)) hl (fun i hi wr hwr => ih i _ (List.getElem?_eq_getElem hi) wr (hw2.trans (hwr.mono hw2.size)))
  | map b n D ks ts hS hown hn hks hl hel ih =>
    intro w hw
    refine treeOf_122 _ _ w fun w1 hw1 => ?_
    have hw2 := hw.trans (hw1.mono hw.size)
    exact mapOf_any b n D ks ts w1 (hown.kept (Below.grow hw2) (by simp)) hn hks hl (fun i h1 h2 v hv wr hwr => ih i _ _ v (List.getElem?_eq_getElem h1) (List.getElem?_eq_getElem h2) hv wr (hw2.trans (hwr.mono hw2.size)))

/-- A tree and yes. -/
def ToldPost (w : World) (t : Tr) (e : Ending) (w' : World) : Prop := ∃ v : TV, e = .returned (.tuple #[v.val, .bool true]) ∧ RepT w' (fun b => w.heap.size ≤ b) v t ∧ Below w.heap.size w w'

set_option maxRecDepth 100000 in
set_option maxHeartbeats 4000000 in
theorem told_any (v : Value) (t : Tr) (w : World) (h : AnyAt w (fun _ => True) v t) : Calls Tryz.prog 38 #[v, .nilIface] w (ToldPost w t) := by
  have Hc := Lib.hid (treeOf_any h); clear h
  go_enter Tryz.func38, Tryz.ntmps38
  go_wp2_with (go_at_call 110; refine (Hc.out _ ((Below.refl _ _).alloc (Nat.le_refl _) _)).mono ?_; rintro e w2 ⟨⟨kind, text, num, yes, ka, kn, kc, ca, cn, cc⟩, rfl, hV, hb⟩; obtain ⟨z0, z1, z2, z3, z4, z5, zf, zl⟩ := Box6.cells (Box6.below (c0 := .int .i64 0) (c1 := .string ⟨#[]⟩) (c2 := .float .f64 0) (c3 := .bool false) (c4 := .slice none 0 0) (c5 := .slice none 0 0) (heap_alloc_new w _) hb))
  have hz : Zero6 w2 w.heap.size := Box6.below (heap_alloc_new w _) hb
  obtain ⟨p0, p1, p2, p3, p4, p5, _, _⟩ := (hz.put6 (.int .i64 kind) (.string text) (.float .f64 num) (.bool yes) (.slice ka kn kc) (.slice ca cn cc)).cells
  refine bodyPost_ret (v := .tuple #[.agg #[.int .i64 kind, .string text, .float .f64 num, .bool yes, .slice ka kn kc, .slice ca cn cc], .bool true]) (by simp [results, Tryz.results38, go_sem, p0, p1, p2, p3, p4, p5]) rfl ?_
  refine ⟨⟨kind, text, num, yes, ka, kn, kc, ca, cn, cc⟩, rfl, tree_put6 (by simpa using hV) (Nat.le_refl _) _ _ _ _ _ _, Below.put6 (((Below.refl _ _).alloc (Nat.le_refl _) _).trans (hb.mono (by simp))) (Nat.le_refl _) _ _ _ _ _ _⟩
end Go.Proofs.YtbcnhcpgloncdaaGreatDoor
/- Maps that are written entry by entry, and the trees that they are. -/
namespace Go.Proofs.YtbcnhcpgloncdaaGreatDoor
open Go Go.RowKit Go.Maps

theorem snoc_ind {α : Type} {P : List α → Prop} (h0 : P []) (h1 : ∀ l a, P l → P (l ++ [a])) (l : List α) : P l := by
  rw [← List.reverse_reverse l]
  induction l.reverse with
  | nil => exact h0
  | cons a r ih => rw [List.reverse_cons]; exact h1 _ _ ih

/-- What a map of texts reads as, that was told these entries. -/
def dput (es : List (ByteArray × Value)) : DataW Value := es.foldl (fun D e => D.put (.string e.1.data.toList) (.held e.2)) (.map [])
theorem dput_snoc (es : List (ByteArray × Value)) (e : ByteArray × Value) : dput (es ++ [e]) = (dput es).put (.string e.1.data.toList) (.held e.2) := by simp [dput]

theorem bytes_ext {a b : ByteArray} (h : a.data.toList = b.data.toList) : a = b := WideShapes.bytes_inj h
theorem lit_ne_of {a b : ByteArray} (h : a ≠ b) : (Lit.string a.data.toList) ≠ Lit.string b.data.toList := fun e => h (bytes_ext (by injection e))

theorem isKey (l : List UInt8) : WideAt.IsKeyLit (.string l) := by simp [WideAt.IsKeyLit]
theorem tidy_dput (es : List (ByteArray × Value)) : Tidy (dput es) := by
  induction es using snoc_ind with
  | h0 => exact tidy_empty
  | h1 es e ih => rw [dput_snoc]; exact ih.put (isKey _) _

theorem has_dput (es : List (ByteArray × Value)) (x : ByteArray) : has (dput es) (.string x.data.toList) = true ↔ x ∈ es.map (·.1) := by
  induction es using snoc_ind with
  | h0 => simp [dput, has]
  | h1 es e ih =>
    rw [dput_snoc]
    by_cases he : x = e.1
    · subst he
      rw [has_put_same (tidy_dput es).isMap (isKey _)]
      simp
    · rw [has_put_other (lit_ne_of he), ih]
      simp [he]

theorem size_dput {es : List (ByteArray × Value)} (h : (es.map (·.1)).Nodup) : Maps.size (dput es) = es.length := by
  induction es using snoc_ind with
  | h0 => rfl
  | h1 es e ih =>
    rw [List.map_append, List.nodup_append] at h
    have hn : has (dput es) (.string e.1.data.toList) = false := by
      rw [Bool.eq_false_iff]
      intro h'
      exact h.2.2 _ ((has_dput es e.1).1 h') _ (by simp) rfl
    rw [dput_snoc, size_put (tidy_dput es), hn, ih h.1]
    simp

theorem atKey_dput {es : List (ByteArray × Value)} (h : (es.map (·.1)).Nodup) {k : ByteArray} {v : Value} (hm : (k, v) ∈ es) (z : DataW Value) : (dput es).atKey (.string k.data.toList) z = .held v := by
  induction es using snoc_ind with
  | h0 => simp at hm
  | h1 es e ih =>
    rw [List.map_append, List.nodup_append] at h
    rw [dput_snoc]
    rcases List.mem_append.1 hm with hm' | hm'
    · have hne : k ≠ e.1 := h.2.2 _ (List.mem_map.2 ⟨_, hm', rfl⟩) _ (by simp)
      rw [atKey_put_other (lit_ne_of hne)]
      exact ih h.1 hm'
    · have : (k, v) = e := by simpa using hm'
      subst this
      exact atKey_put_same (tidy_dput es).isMap (isKey _) _ _

theorem nodup_bytes {l : List ByteArray} (h : l.Nodup) : (l.map (fun k => k.data.toList)).Nodup := by
  refine List.pairwise_map.2 (h.imp fun {a b} hne e => hne (bytes_ext e))

theorem strKeys_dput {w : World} {b n : Nat} {es : List (ByteArray × Value)} (hown : w.ownsMap Tryz.prog 9 R9 b n (dput es)) (h : (es.map (·.1)).Nodup) : (es.map (fun e => e.1.data.toList)).Perm (strKeys (dput es)) := by
  obtain ⟨l, hD, hpw, _⟩ := hown.entries keyed9
  obtain ⟨l', hD', hko⟩ := hown.keysOf
  obtain rfl : l = l' := by rw [hD] at hD'; simpa using hD'
  rw [hD]
  refine perm_strKeys hpw (fun p hp => by obtain ⟨v, hv⟩ := hko p hp; obtain ⟨x, _, hx, _⟩ := Maps.keyOf_str Tryz.underlying9 hv; exact ⟨x, hx⟩) ?_ ?_
  · have := nodup_bytes h
    rwa [List.map_map] at this
  · intro x
    have hx := has_dput es ⟨x.toArray⟩
    rw [hD] at hx
    rw [show (Lit.string x) = Lit.string (ByteArray.mk x.toArray).data.toList by simp, hx]
    simp only [List.mem_map]
    constructor
    · rintro ⟨e, he, rfl⟩; exact ⟨e, he, by simp⟩
    · rintro ⟨e, he, h1⟩; exact ⟨e, he, by rw [h1]⟩

/-- A map as a tree: its keys ascend. -/
def lookT (ts : List (ByteArray × Tr)) (k : ByteArray) : Tr := ((ts.find? (fun p => decide (p.1 = k))).map (·.2)).getD Tr.zero
def sortKeys (l : List ByteArray) : List ByteArray := ((l.map (fun k => k.data.toList)).mergeSort leB).map (fun x => ⟨x.toArray⟩)
def mapTree (ts : List (ByteArray × Tr)) : Tr := mapT (sortKeys (ts.map (·.1))) ((sortKeys (ts.map (·.1))).map (lookT ts))

theorem mem_sortKeys {l : List ByteArray} {k : ByteArray} : k ∈ sortKeys l ↔ k ∈ l := by
  unfold sortKeys
  rw [List.mem_map]
  constructor
  · rintro ⟨x, hx, rfl⟩
    obtain ⟨y, hy, rfl⟩ := List.mem_map.1 ((List.mergeSort_perm _ leB).mem_iff.1 hx)
    simpa using hy
  · intro hk
    exact ⟨k.data.toList, (List.mergeSort_perm _ leB).mem_iff.2 (List.mem_map.2 ⟨k, hk, rfl⟩), by simp⟩

theorem lookT_mem {ts : List (ByteArray × Tr)} (h : (ts.map (·.1)).Nodup) {k : ByteArray} {t : Tr} (hm : (k, t) ∈ ts) : lookT ts k = t := by
  induction ts with
  | nil => simp at hm
  | cons p ts ih =>
    rw [List.map_cons, List.nodup_cons] at h
    unfold lookT
    rw [List.find?_cons]
    by_cases hp : p.1 = k
    · rcases List.mem_cons.1 hm with rfl | hm'
      · simp
      · exact absurd (List.mem_map.2 ⟨_, hm', rfl⟩) (by rw [← hp]; exact h.1)
    · rcases List.mem_cons.1 hm with rfl | hm'
      · exact absurd rfl hp
      · simp only [hp, decide_false]
        exact ih h.2 hm'

/-- The entries that have been told, each with the tree that it stands for. -/
def EntriesOK (w : World) (S : Nat → Prop) (es : List (ByteArray × Value)) (ts : List (ByteArray × Tr)) : Prop :=
  es.map (·.1) = ts.map (·.1) ∧ ∀ (i : Nat) (e : ByteArray × Value) (t : ByteArray × Tr), es[i]? = some e → ts[i]? = some t → AnyAt w S e.2 t.2

theorem EntriesOK.nil (w : World) (S : Nat → Prop) : EntriesOK w S [] [] := ⟨rfl, fun i e t h => by simp at h⟩
theorem EntriesOK.keep {w w' : World} {S : Nat → Prop} {es : List (ByteArray × Value)} {ts : List (ByteArray × Tr)} (h : EntriesOK w S es ts) (hk : Keeps S w w') : EntriesOK w' S es ts := ⟨h.1, fun i e t h1 h2 => (h.2 i e t h1 h2).keep hk⟩
theorem EntriesOK.snoc {w : World} {S : Nat → Prop} {es : List (ByteArray × Value)} {ts : List (ByteArray × Tr)} (h : EntriesOK w S es ts) (k : ByteArray) {v : Value} {t : Tr} (hv : AnyAt w S v t) : EntriesOK w S (es ++ [(k, v)]) (ts ++ [(k, t)]) := by
  have hl : es.length = ts.length := by have := congrArg List.length h.1; simpa using this
  refine ⟨by simp [h.1], fun i e u h1 h2 => ?_⟩
  by_cases hi : i < es.length
  · rw [List.getElem?_append_left hi] at h1
    rw [List.getElem?_append_left (by omega)] at h2
    exact h.2 i e u h1 h2
  · rw [List.getElem?_append_right (by omega)] at h1
    rw [List.getElem?_append_right (by omega)] at h2
    have h0 : i - es.length = 0 := by
      have := (List.getElem?_eq_some_iff.1 h1).1
      simp at this
      omega
    rw [h0] at h1
    rw [show i - ts.length = 0 by omega] at h2
    simp at h1 h2
    subst h1
    subst h2
    exact hv

/-- A map that was told these entries stands for the tree of them. -/
theorem map_any {w : World} {S : Nat → Prop} {b n : Nat} {es : List (ByteArray × Value)} {ts : List (ByteArray × Tr)} (hS : S b) (hown : w.ownsMap Tryz.prog 9 R9 b n (dput es)) (hl : es.length ≤ 4294967296) (hd : (es.map (·.1)).Nodup) (h : EntriesOK w S es ts) :
    AnyAt w S (.iface 122 (.map (some b))) (mapTree ts) := by
  have hp := strKeys_dput hown hd
  have hd' : (ts.map (·.1)).Nodup := by rw [← h.1]; exact hd
  refine .map b n (dput es) _ _ hS hown (by rw [size_dput hd]; exact hl) ?_ (by simp) ?_
  · have he : ts.map (·.1) = es.map (·.1) := h.1.symm
    rw [he]
    unfold sortKeys
    rw [List.map_map, List.map_map]
    have hid : ((fun k : ByteArray => k.data.toList) ∘ fun x : List UInt8 => (⟨x.toArray⟩ : ByteArray)) = id := by funext x; simp
    rw [hid, List.map_id]
    exact mergeSort_of_perm hp
  · intro i k t v hk ht hv
    rw [List.getElem?_map, hk] at ht
    simp only [Option.map_some, Option.some.injEq] at ht
    have hmem : k ∈ ts.map (·.1) := mem_sortKeys.1 (List.mem_of_getElem? hk)
    obtain ⟨p, hp, rfl⟩ := List.mem_map.1 hmem
    obtain ⟨j, hj, hpj⟩ := List.mem_iff_getElem.1 hp
    have hlen : es.length = ts.length := by have := congrArg List.length h.1; simpa using this
    have hkey : (es[j]'(by omega)).1 = p.1 := by
      have h1 : (es.map (·.1))[j]? = (ts.map (·.1))[j]? := by rw [h.1]
      simp [hj, hlen, hpj] at h1
      exact h1
    have hat := atKey_dput hd (k := p.1) (v := (es[j]'(by omega)).2) (by rw [← hkey]; exact List.getElem_mem (l := es) (by omega)) (.held .nilIface)
    rw [hv] at hat
    injection hat with hat
    rw [hat, ← ht, lookT_mem hd' (k := p.1) (t := p.2) hp, ← hpj]
    exact h.2 j _ _ (List.getElem?_eq_getElem (by omega)) (List.getElem?_eq_getElem hj)
end Go.Proofs.YtbcnhcpgloncdaaGreatDoor
