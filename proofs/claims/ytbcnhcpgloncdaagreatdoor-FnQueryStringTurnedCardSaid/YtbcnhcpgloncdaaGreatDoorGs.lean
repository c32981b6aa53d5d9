/- A new query_string query; its fields. -/
import Derived.Test.YtbcnhcpgloncdaaGreatDoorGr
namespace Go.Proofs.YtbcnhcpgloncdaaGreatDoor
open Go Go.RowKit Go.Maps

theorem below_alloc1 (w : World) (o : Obj) : Below w.heap.size w (w.alloc o) := (Below.refl _ _).alloc (Nat.le_refl _) _

def FK.isList : FK → Bool
  | .list => true | .boosts => true | _ => false

theorem FieldOK.other' {w w' : World} {h : Nat} {text : ByteArray} {done : List SetM} {k : FK} {u : Value} (hf : FieldOK w h text done k u) (s : SetM) (hl : k.isList = false) (hn : k.by s.name = false) (hk : Keeps (fun b => h + 4 ≤ b) w w') : FieldOK w' h text (done ++ [s]) k u := by
  cases k with
  | qs => exact hf
  | text nm =>
    have hne : s.name ≠ nm := fun e => by simp [FK.by, e] at hn
    simpa [FieldOK, lastOf_snoc, hne] using hf
  | yes nm =>
    have hne : s.name ≠ nm := fun e => by simp [FK.by, e] at hn
    simp only [FieldOK, lastOf_snoc, if_neg hne]
    exact PtrOK.keep hf hk
  | whole nm =>
    have hne : s.name ≠ nm := fun e => by simp [FK.by, e] at hn
    simp only [FieldOK, lastOf_snoc, if_neg hne]
    exact PtrOK.keep hf hk
  | num nm =>
    have hne : s.name ≠ nm := fun e => by simp [FK.by, e] at hn
    simp only [FieldOK, lastOf_snoc, if_neg hne]
    exact PtrOK.keep hf hk
  | noText => exact hf
  | noPtr => exact hf
  | list => simp [FK.isList] at hl
  | boosts => simp [FK.isList] at hl

theorem QState.stepField {w W : World} {h : Nat} {text : ByteArray} {done : List SetM} (hq : QState w h fkQS 28 132 text done) (s : SetM) (v : Value) (hk : Keeps (fun b => h + 4 ≤ b) w W)
    (hW : ∀ cs, w.heap[h + 3]? = some (.cells cs 132 (0, 0)) → W.heap[h + 3]? = some (.cells (cs.setIfInBounds 17 v) 132 (0, 0)))
    (hothers : ∀ i, i < 28 → i ≠ 17 → i ≠ 18 → (fkQS i).by s.name = false) (hj : FieldOK W h text (done ++ [s]) .list v) (hb : FieldOK W h text (done ++ [s]) .boosts (.map (some (h + 2)))) : QState W h fkQS 28 132 text (done ++ [s]) := by
  obtain ⟨cs, hc, hl, hf⟩ := hq
  refine ⟨cs.set 17 v, ?_, by simpa using hl, fun i u hu => ?_⟩
  · rw [hW _ hc]
    simp
  · rw [List.getElem?_set] at hu
    split at hu
    · rename_i he
      subst he
      split at hu
      · cases hu; exact hj
      · cases hu
    · rename_i he
      have hi : i < 28 := by
        have := (List.getElem?_eq_some_iff.1 hu).1
        omega
      by_cases h18 : i = 18
      · subst h18
        have h0 := hf 18 u hu
        have : u = .map (some (h + 2)) := h0.1
        rw [this]
        exact hb
      · have hle : ∀ i, i < 28 → i ≠ 17 → i ≠ 18 → (fkQS i).isList = false := by decide
        exact (hf i u hu).other' s (hle i hi (fun e => he e.symm) h18) (hothers i hi (fun e => he e.symm) h18) hk

@[go_sem] theorem make29 (w : World) : (Instr.makeSlice 29 (.int .i64 0) (.int .i64 0)).run Tryz.prog w = .ok (.slice (some ⟨w.heap.size, 0, none⟩) 0 0) (w.alloc (.cells #[] 9)) := by kernel_rfl

@[go_sem] theorem make128 (w : World) : (Instr.makeMap 128 none).run Tryz.prog w = .ok (.map (some w.heap.size)) (w.alloc (.map #[] 0)) := by kernel_rfl
@[go_sem] theorem make122 (w : World) : (Instr.makeMap 122 none).run Tryz.prog w = .ok (.map (some w.heap.size)) (w.alloc (.map #[] 0)) := by kernel_rfl

def initV (h : Nat) (text : ByteArray) : FK → Value
  | .qs => .string text
  | .text _ => .string ⟨#[]⟩
  | .yes _ => .pointer none
  | .whole _ => .pointer none
  | .num _ => .pointer none
  | .noText => .string ⟨#[]⟩
  | .noPtr => .pointer none
  | .list => .slice (some ⟨h + 1, 0, none⟩) 0 0
  | .boosts => .map (some (h + 2))

set_option maxRecDepth 100000 in
set_option maxHeartbeats 1000000 in
theorem new_qs (w : World) (h : Nat) (hh : w.heap.size = h + 1) (text : ByteArray) : Calls Tryz.prog 53 #[.string text] w (SetPost w h text []) := by
  have Hh := Lib.hid hh; clear hh
  go_enter Tryz.func53, Tryz.ntmps53
  go_wp2
  go_ret
  have hs1 : (w.alloc (.cells #[] 9)).heap.size = h + 2 := by simp [Hh.out]
  have hs2 : ((w.alloc (.cells #[] 9)).alloc (.map #[] 0)).heap.size = h + 3 := by simp [Hh.out]
  refine ⟨by simp [Hh.out], ⟨(List.range 28).map (fun j => initV h text (fkQS j)), ?_, by simp, ?_⟩, ((((Below.refl _ _).alloc (by rw [Hh.out]; omega) _).alloc (by rw [hs1]; omega) _).alloc (by rw [hs2]; omega) _)⟩
  · rw [← hs2, heap_alloc_new]
    simp [Hh.out, fkQS, initV, List.range, List.range.loop]
  · intro j u hu
    have hj : j < 28 := by have := (List.getElem?_eq_some_iff.1 hu).1; simpa using this
    have hu' : initV h text (fkQS j) = u := by simpa [hj] using hu
    subst hu'
    cases fkQS j with
    | qs => rfl
    | text nm => rfl
    | yes nm => rfl
    | whole nm => rfl
    | num nm => rfl
    | noText => rfl
    | noPtr => rfl
    | list =>
      refine ⟨?_, by simp [initV, Value.ownBlock], by simp [initV, Value.ownBlock], fun _ => rfl⟩
      have := World.ownsRow_made (base := h + 1) (e := 9) (size := 1) w #[] 0 (by rw [Hh.out]; omega) (by unfold maxLen; omega) rfl
      have hsz := Hh.out
      rw [hsz] at this
      exact (this.alloc _).alloc _
    | boosts =>
      refine ⟨rfl, 0, .map [], ?_, by simp, rfl⟩
      have := World.ownsMap_made (w.alloc (.cells #[] 9)) Tryz.prog 9 R9
      rw [hs1] at this
      exact this.alloc _

theorem othersField (nm : ByteArray) (h : (List.range 28).all (fun i => decide (i = 17) || decide (i = 18) || !(fkQS i).by nm) = true) {s : SetM} (hs : s.name = nm) : ∀ i, i < 28 → i ≠ 17 → i ≠ 18 → (fkQS i).by s.name = false := by
  intro i hlt h17 h18
  have := List.all_eq_true.1 h i (List.mem_range.2 hlt)
  rw [hs]
  simpa [h17, h18] using this

set_option maxRecDepth 100000 in
set_option maxHeartbeats 1000000 in
theorem set_field (w : World) (h : Nat) (text : ByteArray) (done : List SetM) (s : SetM) (hs : s.name = nField) (hd : done.filter isField = []) (hq : QState w h fkQS 28 132 text done) :
    Calls Tryz.prog 54 #[.pointer (some ⟨h + 3, 0, none⟩), .string s.val.text] w (SetPost w h text (done ++ [s])) := by
  obtain ⟨i0, hi, hz0, hz1, hz2⟩ := info_parts Tryz.info9
  obtain ⟨u, hc, hf17⟩ := hq.cell (j := 17) (by decide)
  have hfr := hq.frozen
  have hlt := hq.lt
  have hu := hf17.2.2.2 hd
  subst hu
  have hown : w.ownsRow (h + 1) 9 1 (.slice (some ⟨h + 1, 0, none⟩) 0 0) 0 [] := by simpa [hd] using hf17.1
  have Hq := Lib.hid hq; clear hq hf17
  have Hs := Lib.hid hs; clear hs
  have Hd := Lib.hid hd; clear hd
  go_enter Tryz.func54, Tryz.ntmps54
  go_wp2_with (at_builtin; refine wpList_append_lies _ rfl _ _ _ rfl (h + 1) 9 i0 _ 1 16 Tryz.underlying29 hi hz0 hz1 hz2 rfl (by omega) (.slice (some ⟨h + 1, 0, none⟩) 0 0) 0 _ rfl (hown.alloc _) ⟨w.heap.size, 0, none⟩ 1 1 [.string s.val.text] rfl rfl (World.news_of_block (cs := #[.string s.val.text]) (t := 9) (fr := (0, 0)) (heap_alloc_new w _)) (by simp [Value.oneCell']) (by omega) (by unfold maxLen; omega) (by omega) (by simp; omega) (w.heap.size + 1) (by simp) ?_; intro g cap w1 hown1 hgrow hat hlt1; have hk3 : w1.heap[h + 3]? = w.heap[h + 3]? := (hgrow.block (h + 3) (by simp; omega) (by simp [Value.ownBlock])).trans (heap_alloc_old _ _ hlt); have hc1 := (World.cell?_of_block (a := ⟨h + 3, 17, none⟩) hk3).trans hc; have hf1 := (World.frozen?_of_block (a := ⟨h + 3, 17, none⟩) hk3).trans (hfr 17))
  go_ret
  have hfs : (done ++ [s]).filter isField = [s] := by
    rw [List.filter_append, Hd.out]; simp [isField, Hs.out]
  have hgc := grownBy_setCell w1 ⟨h + 3, 17, none⟩ (.slice (some ⟨g, 0, none⟩) 1 cap)
  have hg2 : g ≠ h + 2 ∧ g ≠ h + 3 := by
    rcases hat with e | e
    · have e' : h + 1 = g := by simpa [Value.ownBlock] using e
      omega
    · omega
  refine ⟨by simp, Hq.out.stepField s (.slice (some ⟨g, 0, none⟩) 1 cap) ?_ ?_ (othersField nField (by decide +kernel) Hs.out) ?_ ?_, ?_⟩
  · intro b hb hlt
    refine (hgc.block b (Nat.lt_of_lt_of_le hlt (by have := hgrow.size; simp at this; omega)) (by simp; omega)).trans ((hgrow.block b (by simp; omega) (by simp [Value.ownBlock]; omega)).trans (heap_alloc_old _ _ hlt))
  · intro cs hcs
    exact heap_setCell_same w1 (h + 3) 17 cs 132 _ (hk3.trans hcs)
  · have := hown1.kept hgc (.inr (by simp [Value.ownBlock]; omega))
    simp only [FieldOK, hfs]
    exact ⟨by simpa using this, by simp [Value.ownBlock]; omega, by simp [Value.ownBlock]; omega, fun e => by cases e⟩
  · obtain ⟨u, hc18, hf18⟩ := Hq.out.cell (j := 18) (by decide)
    obtain ⟨_, n, D, h2, h3, h4⟩ := hf18
    rw [Hd.out] at h3 h4
    refine ⟨rfl, n, D, ((h2.alloc _).kept hgrow (by simp [Value.ownBlock])).kept hgc (by simp), by rw [hfs]; simp at h3; simp [h3], ?_⟩
    rw [hfs]
    have hne : s.name ≠ nFieldBoost := by rw [Hs.out]; decide
    simp only [BoostD] at h4 ⊢
    rw [if_neg hne]
    exact h4
  · have h1 : Below (h + 1) w (w.alloc (.cells #[.string s.val.text] 9)) := (below_alloc1 w _).mono (by omega)
    exact (h1.grown hgrow (by simp; omega) (fun k hk => by simp [Value.ownBlock] at hk; omega)).setCell (by simp) _

set_option maxRecDepth 100000 in
set_option maxHeartbeats 1000000 in
theorem set_field_with_boost (w : World) (h : Nat) (text : ByteArray) (done : List SetM) (s : SetM) (hs : s.name = nFieldBoost) (hd : done.filter isField = []) (hsz : s.val.text.size ≤ maxLen) (hq : QState w h fkQS 28 132 text done) :
    Calls Tryz.prog 55 #[.pointer (some ⟨h + 3, 0, none⟩), .string s.val.text, .float .f64 s.val.num] w (SetPost w h text (done ++ [s])) := by
  obtain ⟨i0, hi, hz0, hz1, hz2⟩ := info_parts Tryz.info9
  obtain ⟨u, hc, hf17⟩ := hq.cell (j := 17) (by decide)
  obtain ⟨u', hc', hf18⟩ := hq.cell (j := 18) (by decide)
  obtain ⟨hu', n, D, hm, hn, hD⟩ := hf18
  subst hu'
  rw [hd] at hn hD
  have hD0 : D = .map [] := hD
  subst hD0
  have hfr := hq.frozen
  have hlt := hq.lt
  have hu := hf17.2.2.2 hd
  subst hu
  have hown : w.ownsRow (h + 1) 9 1 (.slice (some ⟨h + 1, 0, none⟩) 0 0) 0 [] := by simpa [hd] using hf17.1
  have Hq := Lib.hid hq; clear hq hf17 hD
  have Hs := Lib.hid hs; clear hs
  have Hd := Lib.hid hd; clear hd
  have hn1 : n < maxLen := by simp at hn; unfold maxLen; omega
  have hkey := Go.WideMaps.keyOf_string_mk (P := Tryz.prog) (k := 9) Tryz.underlying9 hsz
  go_enter Tryz.func55, Tryz.ntmps55
  go_wp2_with (first
    | (at_builtin; refine wpList_append_lies _ rfl _ _ _ rfl (h + 1) 9 i0 _ 1 16 Tryz.underlying29 hi hz0 hz1 hz2 rfl (by omega) (.slice (some ⟨h + 1, 0, none⟩) 0 0) 0 _ rfl ((hown.alloc _).alloc _) ⟨w.heap.size + 1, 0, none⟩ 1 1 [.string s.val.text] rfl rfl (World.news_of_block (cs := #[.string s.val.text]) (t := 9) (fr := (0, 0)) (by have := heap_alloc_new (w.alloc (.cells #[.float .f64 s.val.num] 28)) (.cells #[.string s.val.text] 9); simpa using this)) (by simp [Value.oneCell']) (by omega) (by unfold maxLen; omega) (by omega) (by simp; omega) (w.heap.size + 2) (by simp) ?_; intro g cap w1 hown1 hgrow hat hlt1; have hk3 : w1.heap[h + 3]? = w.heap[h + 3]? := (hgrow.block (h + 3) (by simp; omega) (by simp [Value.ownBlock])).trans ((heap_alloc_old _ _ (by simp; omega)).trans (heap_alloc_old _ _ hlt)); have hc1 := (World.cell?_of_block (a := ⟨h + 3, 17, none⟩) hk3).trans hc; have hc1' := (World.cell?_of_block (a := ⟨h + 3, 18, none⟩) hk3).trans hc'; have hf1 := (World.frozen?_of_block (a := ⟨h + 3, 17, none⟩) hk3).trans (hfr 17); have hm1 := (((hm.alloc (.cells #[.float .f64 s.val.num] 28)).alloc (.cells #[.string s.val.text] 9)).kept hgrow (by simp [Value.ownBlock])).kept (grownBy_setCell w1 ⟨h + 3, 17, none⟩ (.slice (some ⟨g, 0, none⟩) 1 cap)) (by simp))
    | (at_mapUpdate; refine wpList_mapUpdate_own _ rfl _ _ _ 128 rfl 9 115 keyed9 Tryz.underlying128 R9 (h + 2) n _ rfl hm1 hn1 (.string s.val.text) (.pointer (some ⟨w.heap.size, 0, none⟩)) _ rfl rfl hkey (.held (.pointer (some ⟨w.heap.size, 0, none⟩))) [] rfl ?_; intro w2 hm2 hgrow2))
  go_ret
  have hfs : (done ++ [s]).filter isField = [s] := by
    rw [List.filter_append, Hd.out]; simp [isField, Hs.out]
  have hgc := grownBy_setCell w1 ⟨h + 3, 17, none⟩ (.slice (some ⟨g, 0, none⟩) 1 cap)
  have hg2 : g ≠ h + 2 ∧ g ≠ h + 3 := by
    rcases hat with e | e
    · have e' : h + 1 = g := by simpa [Value.ownBlock] using e
      omega
    · omega
  have hsz1 : w.heap.size + 2 ≤ w1.heap.size := by have := hgrow.size; simpa using this
  have hblk : ∀ b, h + 4 ≤ b → b < w.heap.size + 1 → w2.heap[b]? = (w.alloc (.cells #[.float .f64 s.val.num] 28)).heap[b]? := fun b hb hlt =>
    (hgrow2.block b (by simp; omega) (by simp; omega)).trans ((hgc.block b (by omega) (by simp; omega)).trans ((hgrow.block b (by simp; omega) (by simp [Value.ownBlock]; omega)).trans (heap_alloc_old _ _ (by simpa using hlt))))
  refine ⟨by simp, Hq.out.stepField s (.slice (some ⟨g, 0, none⟩) 1 cap) ?_ ?_ (othersField nFieldBoost (by decide +kernel) Hs.out) ?_ ?_, ?_⟩
  · intro b hb hlt
    exact (hblk b hb (by omega)).trans (heap_alloc_old _ _ hlt)
  · intro cs hcs
    exact (hgrow2.block (h + 3) (by simp; omega) (by simp)).trans (heap_setCell_same w1 (h + 3) 17 cs 132 _ (hk3.trans hcs))
  · have := (hown1.kept hgc (.inr (by simp [Value.ownBlock]; omega))).kept hgrow2 (.inr (by simp [Value.ownBlock]; omega))
    simp only [FieldOK, hfs]
    exact ⟨by simpa using this, by simp [Value.ownBlock]; omega, by simp [Value.ownBlock]; omega, fun e => by cases e⟩
  · refine ⟨rfl, n + 1, _, hm2, by rw [hfs]; simp at hn; simp [hn], ?_⟩
    rw [hfs]
    simp only [BoostD]
    rw [if_pos Hs.out]
    refine ⟨w.heap.size, rfl, by omega, ?_⟩
    exact (World.cell?_of_block (a := ⟨w.heap.size, 0, none⟩) (hblk w.heap.size (by omega) (by omega))).trans (World.cell?_alloc_new w _ 28 0)
  · have h1 : Below (h + 1) w ((w.alloc (.cells #[.float .f64 s.val.num] 28)).alloc (.cells #[.string s.val.text] 9)) := ((below_alloc1 w _).mono (by omega)).alloc (by simp; omega) _
    exact ((h1.grown hgrow (by simp; omega) (fun k hk => by simp [Value.ownBlock] at hk; omega)).setCell (by simp) _).grown hgrow2 (by simp; omega) (fun k hk => by simp at hk; omega)
end Go.Proofs.YtbcnhcpgloncdaaGreatDoor
