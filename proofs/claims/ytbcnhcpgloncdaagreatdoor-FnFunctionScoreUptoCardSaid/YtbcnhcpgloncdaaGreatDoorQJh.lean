/- A score function is added to the builder, with its filter or without. -/
import Derived.Test.YtbcnhcpgloncdaaGreatDoorQJg
namespace Go.Proofs.YtbcnhcpgloncdaaGreatDoor
open Go Go.RowKit Go.BigFrame Go.Maps

/-- What lies ready for an append of one filter and one function. -/
theorem FRows.born {w1 w : World} {h : Nat} {X : List Nat} {Z : Nat → Prop} {fv sv : Value} {fs ss : List ScoreM} (hr : FRows w1 h X Z fv sv fs ss) (hb : Below w1.heap.size w1 w) (hh : h ≤ w1.heap.size) : FRows w h X (fun b => Z b ∨ (w1.heap.size ≤ b ∧ b < w.heap.size)) fv sv fs ss := by
  refine (hr.below hb).more (fun b hz => .inl hz) (fun b hbb => ?_)
  rcases hbb with h1 | ⟨h1, h2⟩
  · exact .inl h1
  · exact .inr ⟨by omega, h2, fun hx => by have := (hr.off _ hx).2.1; omega, fun e => by have := (hr.own6.lt _ e).2; omega, fun e => by have := (hr.own7.lt _ e).2; omega⟩

set_option maxRecDepth 100000 in
set_option maxHeartbeats 4000000 in
theorem addFn (w1 w : World) (h B : Nat) (qs : List Tr) (fs : List ScoreM) (done : List SetM) (s : ScoreM) (hfil : FilR w1 (fun b => b < h) .nilIface s) (hq : FQ w1 h B qs fs done) (hb : Below w1.heap.size w1 w) (ty : TypeId) (x : Value) (hf : FunW w (fun b => w1.heap.size ≤ b) (.iface ty x) s) (hlen : fs.length + 1 ≤ 1048576) :
    Calls Tryz.prog 32 #[.pointer (some ⟨B, 0, none⟩), .iface ty x] w (SetQ w h B qs (fs ++ [s]) done) := by
  obtain ⟨i0, hi, hz0, hz1, hz2⟩ := info_parts Tryz.info114
  obtain ⟨i1, hi1, hy0, hy1, hy2⟩ := info_parts Tryz.info61
  have hl := hq.lt
  have hsz := hb.size
  obtain ⟨X, Z, qv, fv, sv, p2, p3, p8, hX, hbx0, hr0, hqr0, h20, h30, h80⟩ := hq
  have hk0 : ∀ b ∈ X, b ≠ B → b < w1.heap.size → w.heap[b]? = w1.heap[b]? := fun b _ _ hlt => hb.block b hlt
  have hbx := (hb.block _ hl.2).trans hbx0
  have hr := hr0.born hb (by omega)
  have hqr := hqr0.keep (Keeps.of_below _ hb)
  have hfl := fil_law.keep hfil (Keeps.of_below _ hb)
  have h2 := h20.keep (fun _ h => h) hk0
  have h3 := h30.keep (fun _ h => h) hk0
  have h8 := h80.keep (fun _ h => h) hk0
  have hf' := fun_law.mono (S' := fun b => Z b ∨ (w1.heap.size ≤ b ∧ b < w.heap.size)) hf (fun b hb hw => .inr ⟨hw, hb⟩)
  generalize (fun b => Z b ∨ (w1.heap.size ≤ b ∧ b < w.heap.size)) = Z' at hr hf'
  clear hbx0 hr0 hqr0 h20 h30 h80 hk0 hf hfil
  have hzl : h ≤ w.heap.size := by omega
  obtain ⟨c0, c1, c2, c3, c4, c5, c6, c7, c8, cf, cl⟩ := cells9' hbx
  have hoffB := (hr.off B hX).2.2
  have hown := hr.own6
  have hown7 := hr.own7
  have hlt7 := hown7.lt
  obtain ⟨a6, k6, hform⟩ := hown.form
  subst hform
  obtain ⟨a7, k7, hform⟩ := hown7.form
  subst hform
  obtain ⟨vs, hvl, hrow, hreps⟩ := hown
  have Hreps := Lib.hid hreps; clear hreps
  have Hvl := Lib.hid hvl; clear hvl
  obtain ⟨us, hul, hrow7, hreps7⟩ := hown7
  have Hreps7 := Lib.hid hreps7; clear hreps7
  have Hul := Lib.hid hul; clear hul
  have hne1 : B ≠ w.heap.size := by omega
  have Hfl := Lib.hid hfl
  have Hf := Lib.hid hf'
  have H2 := Lib.hid h2
  have H3 := Lib.hid h3
  have H8 := Lib.hid h8
  have Hr := Lib.hid hr
  have Hqr := Lib.hid hqr
  have Hbx := Lib.hid hbx
  have HX := Lib.hid hX
  clear h2 h3 h8 hr hqr hbx hX hf' hfl
  go_enter Tryz.func32, Tryz.ntmps32
  go_upto_region 2 with (at_builtin; refine wpList_append_lies _ rfl _ _ _ rfl h 114 i0 _ 1 16 Tryz.underlying95 hi hz0 hz1 hz2 rfl (by omega) (.slice a6 fs.length k6) fs.length _ rfl (hrow.alloc _) ⟨w.heap.size, 0, none⟩ 1 1 [.nilIface] rfl rfl (World.news_of_block (cs := #[.nilIface]) (t := 114) (fr := (0, 0)) (heap_alloc_new w _)) (by simp [Value.oneCell']) (by omega) (by unfold maxLen; omega) (by omega) (by simp; omega) (w.heap.size + 1) (by simp) ?_; intro g cap w2 hown1 hgrow hat hlt1; have hk := (hgrow.block B (by simp; omega) (fun e => hoffB.1 e.symm)).trans (heap_alloc_old w _ cl); have d6 := (World.cell?_of_block (a := ⟨B, 6, none⟩) hk).trans c6; have d6f := (World.frozen?_of_block (a := ⟨B, 6, none⟩) hk).trans (cf 6))
  have d7 := (World.cell?_of_block (a := ⟨B, 7, none⟩) hk).trans c7
  have df := fun o => (World.frozen?_of_block (a := ⟨B, o, none⟩) hk).trans (cf o)
  have hs2 := hgrow.size
  simp only [World.size_alloc] at hs2
  obtain ⟨V6, hV6⟩ : ∃ V6, V6 = Value.slice (some ⟨g, 0, none⟩) (fs.length + 1) cap := ⟨_, rfl⟩
  have hra := Hr.out.below (w' := w.alloc (.cells #[.nilIface] 114)) ((Below.refl _ _).alloc (Nat.le_refl _) _)
  have hba : Below w.heap.size w (w.alloc (.cells #[.nilIface] 114)) := (Below.refl _ _).alloc (Nat.le_refl _) _
  have hnew : OwnL FilR oneCell 114 1 w2 (fun b => b < h) h (.slice (some ⟨g, 0, none⟩) (fs.length + 1) cap) (fs ++ [s]) :=
    OwnL.one (u := .nilIface) fil_law Hvl.out (fun i v t hv ht => fil_law.keep (Hreps.out i v t hv ht) (Keeps.of_below _ hba)) (fil_law.keep (fil_law.mono Hfl.out (fun b hb hlt => ⟨hlt, fun e => by have := (hrow.lt b e).1; omega⟩)) (Keeps.of_below _ hba)) hown1 hgrow hat (by simp) rfl rfl
  have hr2 := hra.put6 hgrow hat (by simp) hnew rfl
  have hr3 := hr2.set ⟨B, 6, none⟩ (.slice (some ⟨g, 0, none⟩) (fs.length + 1) cap) HX.out
  have hb3 : (w2.setCell ⟨B, 6, none⟩ (.slice (some ⟨g, 0, none⟩) (fs.length + 1) cap)).heap[B]? = some (.cells #[qv, .nilIface, .pointer p2, .pointer p3, .string (textLast done n_score_mode), .string (textLast done n_boost_mode), .slice (some ⟨g, 0, none⟩) (fs.length + 1) cap, .slice a7 fs.length k7, .pointer p8] 117 (0, 0)) := set9' (hk.trans Hbx.out) 6 _
  have hbel3 : Below h w (w2.setCell ⟨B, 6, none⟩ (.slice (some ⟨g, 0, none⟩) (fs.length + 1) cap)) := (((Below.refl h w).alloc (by omega) _).grown hgrow (by simp; omega) (fun k hk => (hrow.lt k hk).1)).setCell hl.1 _
  have hkX : ∀ b ∈ X, b ≠ B → b < w.heap.size → (w2.setCell ⟨B, 6, none⟩ (.slice (some ⟨g, 0, none⟩) (fs.length + 1) cap)).heap[b]? = w.heap[b]? := fun b hb hne hlt =>
    (heap_setCell_other _ _ _ _ (by simpa using hne)).trans ((hgrow.block b (by simp; omega) (fun e => (Hr.out.off b hb).2.2.1 e.symm)).trans (heap_alloc_old _ _ hlt))
  have hf3 := fun_law.rekeep (w' := w2.setCell ⟨B, 6, none⟩ (.slice (some ⟨g, 0, none⟩) (fs.length + 1) cap)) (S' := fun b => Z' b ∧ (Value.slice a7 fs.length k7).ownBlock ≠ some b) Hf.out (fun b hlt hz => by
    obtain ⟨z1, z2, z3, z4, z5⟩ := Hr.out.zs b hz
    exact ⟨(heap_setCell_other _ _ _ _ (fun e => z3 (by rw [show b = B from e]; exact HX.out))).trans ((hgrow.block b (by simp; omega) (fun e => z4 e.symm)).trans (heap_alloc_old _ _ hlt)), hz, z5⟩)
  have hs3 : w.heap.size ≤ (w2.setCell ⟨B, 6, none⟩ (.slice (some ⟨g, 0, none⟩) (fs.length + 1) cap)).heap.size := by simp; omega
  have hfv : (Value.slice (some ⟨g, 0, none⟩) (fs.length + 1) cap).ownBlock = some g := rfl
  clear hnew hr2 hra hown1 hgrow hat hrow hk Hreps Hvl Hfl d6 d6f hrow7 Hreps7 Hul hoffB c0 c1 c2 c3 c4 c5 c6 c7 c8 cf
  generalize w2.setCell ⟨B, 6, none⟩ (.slice (some ⟨g, 0, none⟩) (fs.length + 1) cap) = w3 at *
  obtain ⟨c0, c1, c2, c3, c4, c5, c6, c7, c8, cf, cl3⟩ := cells9' hb3
  have hoffB := (hr3.off B HX.out).2.2
  obtain ⟨us, hul, hrow7, hreps7⟩ := hr3.own7
  have Hreps7 := Lib.hid hreps7; clear hreps7
  have Hul := Lib.hid hul; clear hul
  have Hr3 := Lib.hid hr3
  have Hb3 := Lib.hid hb3
  have Hbel3 := Lib.hid hbel3
  have HkX := Lib.hid hkX
  have Hf3 := Lib.hid hf3
  clear hr3 hb3 hbel3 hkX hf3 hba
  go_upto_region 3 with (at_builtin; refine wpList_append_lies _ rfl _ _ _ rfl h 61 i1 _ 1 16 Tryz.underlying112 hi1 hy0 hy1 hy2 rfl (by omega) (.slice a7 fs.length k7) fs.length _ rfl (hrow7.alloc _) ⟨w3.heap.size, 0, none⟩ 1 1 [.iface ty x] rfl rfl (World.news_of_block (cs := #[.iface ty x]) (t := 61) (fr := (0, 0)) (heap_alloc_new w3 _)) (by simp [Value.oneCell']) (by omega) (by unfold maxLen; omega) (by omega) (by simp; omega) (w3.heap.size + 1) (by simp) ?_; intro g7 cap7 w4 hown1 hgrow hat hlt1; have hk := (hgrow.block B (by simp; omega) (fun e => hoffB.2 e.symm)).trans (heap_alloc_old w3 _ cl3); have d7 := (World.cell?_of_block (a := ⟨B, 7, none⟩) hk).trans c7; have d7f := (World.frozen?_of_block (a := ⟨B, 7, none⟩) hk).trans (cf 7))
  have hs4 := hgrow.size
  simp only [World.size_alloc] at hs4
  have hba : Below w3.heap.size w3 (w3.alloc (.cells #[.iface ty x] 61)) := (Below.refl _ _).alloc (Nat.le_refl _) _
  have hra := Hr3.out.below hba
  have hnew : OwnL FunW oneCell 61 1 w4 Z' h (.slice (some ⟨g7, 0, none⟩) (fs.length + 1) cap7) (fs ++ [s]) :=
    OwnL.one (u := .iface ty x) fun_law Hul.out (fun i v t hv ht => fun_law.keep (Hreps7.out i v t hv ht) (Keeps.of_below _ hba)) (fun_law.keep Hf3.out (Keeps.of_below _ hba)) hown1 hgrow hat (by simp) rfl rfl
  have hr4 := (hra.put7 hgrow hat (by simp) hnew rfl).set ⟨B, 7, none⟩ (.slice (some ⟨g7, 0, none⟩) (fs.length + 1) cap7) HX.out
  have hb4 : (w4.setCell ⟨B, 7, none⟩ (.slice (some ⟨g7, 0, none⟩) (fs.length + 1) cap7)).heap[B]? = some (.cells #[qv, .nilIface, .pointer p2, .pointer p3, .string (textLast done n_score_mode), .string (textLast done n_boost_mode), .slice (some ⟨g, 0, none⟩) (fs.length + 1) cap, .slice (some ⟨g7, 0, none⟩) (fs.length + 1) cap7, .pointer p8] 117 (0, 0)) := set9' (hk.trans Hb3.out) 7 _
  have hbel4 : Below h w (w4.setCell ⟨B, 7, none⟩ (.slice (some ⟨g7, 0, none⟩) (fs.length + 1) cap7)) := ((Hbel3.out.alloc (by omega) _).grown hgrow (by simp; omega) (fun k hk => (hrow7.lt k hk).1)).setCell hl.1 _
  have hkX4 : ∀ b ∈ X, b ≠ B → b < w.heap.size → (w4.setCell ⟨B, 7, none⟩ (.slice (some ⟨g7, 0, none⟩) (fs.length + 1) cap7)).heap[b]? = w.heap[b]? := fun b hb hne hlt =>
    (heap_setCell_other _ _ _ _ (by simpa using hne)).trans ((hgrow.block b (by simp; omega) (fun e => (Hr3.out.off b hb).2.2.2 e.symm)).trans ((heap_alloc_old _ _ (by omega)).trans (HkX.out b hb hne hlt)))
  have hfq : FQ (w4.setCell ⟨B, 7, none⟩ (.slice (some ⟨g7, 0, none⟩) (fs.length + 1) cap7)) h B qs (fs ++ [s]) done :=
    ⟨X, Z', qv, _, _, p2, p3, p8, HX.out, hb4, hr4, Hqr.out.keep (fun b hb hlt => hbel4.block b hb), H2.out.keep (fun _ h => h) hkX4, H3.out.keep (fun _ h => h) hkX4, H8.out.keep (fun _ h => h) hkX4⟩
  have Hfq := Lib.hid hfq
  have Hbel4 := Lib.hid hbel4
  clear hr4 hb4 hkX4 hfq hbel4 hnew hra
  go_wp2_with fail
  go_ret
  exact ⟨by simp, Hfq.out, Hbel4.out⟩

set_option maxRecDepth 100000 in
set_option maxHeartbeats 4000000 in
theorem addFil (w1 w : World) (h B : Nat) (qs : List Tr) (fs : List ScoreM) (done : List SetM) (s : ScoreM) (fx : Value) (hfil : FilR w1 (fun b => b < h) (.iface 59 fx) s) (hq : FQ w1 h B qs fs done) (hb : Below w1.heap.size w1 w) (ty : TypeId) (x : Value) (hf : FunW w (fun b => w1.heap.size ≤ b) (.iface ty x) s) (hlen : fs.length + 1 ≤ 1048576) :
    Calls Tryz.prog 31 #[.pointer (some ⟨B, 0, none⟩), .iface 59 fx, .iface ty x] w (SetQ w h B qs (fs ++ [s]) done) := by
  obtain ⟨i0, hi, hz0, hz1, hz2⟩ := info_parts Tryz.info114
  obtain ⟨i1, hi1, hy0, hy1, hy2⟩ := info_parts Tryz.info61
  have hl := hq.lt
  have hsz := hb.size
  obtain ⟨X, Z, qv, fv, sv, p2, p3, p8, hX, hbx0, hr0, hqr0, h20, h30, h80⟩ := hq
  have hk0 : ∀ b ∈ X, b ≠ B → b < w1.heap.size → w.heap[b]? = w1.heap[b]? := fun b _ _ hlt => hb.block b hlt
  have hbx := (hb.block _ hl.2).trans hbx0
  have hr := hr0.born hb (by omega)
  have hqr := hqr0.keep (Keeps.of_below _ hb)
  have hfl := fil_law.keep hfil (Keeps.of_below _ hb)
  have h2 := h20.keep (fun _ h => h) hk0
  have h3 := h30.keep (fun _ h => h) hk0
  have h8 := h80.keep (fun _ h => h) hk0
  have hf' := fun_law.mono (S' := fun b => Z b ∨ (w1.heap.size ≤ b ∧ b < w.heap.size)) hf (fun b hb hw => .inr ⟨hw, hb⟩)
  generalize (fun b => Z b ∨ (w1.heap.size ≤ b ∧ b < w.heap.size)) = Z' at hr hf'
  clear hbx0 hr0 hqr0 h20 h30 h80 hk0 hf hfil
  have hzl : h ≤ w.heap.size := by omega
  obtain ⟨c0, c1, c2, c3, c4, c5, c6, c7, c8, cf, cl⟩ := cells9' hbx
  have hoffB := (hr.off B hX).2.2
  have hown := hr.own6
  have hown7 := hr.own7
  have hlt7 := hown7.lt
  obtain ⟨a6, k6, hform⟩ := hown.form
  subst hform
  obtain ⟨a7, k7, hform⟩ := hown7.form
  subst hform
  obtain ⟨vs, hvl, hrow, hreps⟩ := hown
  have Hreps := Lib.hid hreps; clear hreps
  have Hvl := Lib.hid hvl; clear hvl
  obtain ⟨us, hul, hrow7, hreps7⟩ := hown7
  have Hreps7 := Lib.hid hreps7; clear hreps7
  have Hul := Lib.hid hul; clear hul
  have hne1 : B ≠ w.heap.size := by omega
  have Hfl := Lib.hid hfl
  have Hf := Lib.hid hf'
  have H2 := Lib.hid h2
  have H3 := Lib.hid h3
  have H8 := Lib.hid h8
  have Hr := Lib.hid hr
  have Hqr := Lib.hid hqr
  have Hbx := Lib.hid hbx
  have HX := Lib.hid hX
  clear h2 h3 h8 hr hqr hbx hX hf' hfl
  go_enter Tryz.func31, Tryz.ntmps31
  go_upto_region 2 with (at_builtin; refine wpList_append_lies _ rfl _ _ _ rfl h 114 i0 _ 1 16 Tryz.underlying95 hi hz0 hz1 hz2 rfl (by omega) (.slice a6 fs.length k6) fs.length _ rfl (hrow.alloc _) ⟨w.heap.size, 0, none⟩ 1 1 [.iface 59 fx] rfl rfl (World.news_of_block (cs := #[.iface 59 fx]) (t := 114) (fr := (0, 0)) (heap_alloc_new w _)) (by simp [Value.oneCell']) (by omega) (by unfold maxLen; omega) (by omega) (by simp; omega) (w.heap.size + 1) (by simp) ?_; intro g cap w2 hown1 hgrow hat hlt1; have hk := (hgrow.block B (by simp; omega) (fun e => hoffB.1 e.symm)).trans (heap_alloc_old w _ cl); have d6 := (World.cell?_of_block (a := ⟨B, 6, none⟩) hk).trans c6; have d6f := (World.frozen?_of_block (a := ⟨B, 6, none⟩) hk).trans (cf 6))
  have d7 := (World.cell?_of_block (a := ⟨B, 7, none⟩) hk).trans c7
  have df := fun o => (World.frozen?_of_block (a := ⟨B, o, none⟩) hk).trans (cf o)
  have hs2 := hgrow.size
  simp only [World.size_alloc] at hs2
  obtain ⟨V6, hV6⟩ : ∃ V6, V6 = Value.slice (some ⟨g, 0, none⟩) (fs.length + 1) cap := ⟨_, rfl⟩
  have hra := Hr.out.below (w' := w.alloc (.cells #[.iface 59 fx] 114)) ((Below.refl _ _).alloc (Nat.le_refl _) _)
  have hba : Below w.heap.size w (w.alloc (.cells #[.iface 59 fx] 114)) := (Below.refl _ _).alloc (Nat.le_refl _) _
  have hnew : OwnL FilR oneCell 114 1 w2 (fun b => b < h) h (.slice (some ⟨g, 0, none⟩) (fs.length + 1) cap) (fs ++ [s]) :=
    OwnL.one (u := .iface 59 fx) fil_law Hvl.out (fun i v t hv ht => fil_law.keep (Hreps.out i v t hv ht) (Keeps.of_below _ hba)) (fil_law.keep (fil_law.mono Hfl.out (fun b hb hlt => ⟨hlt, fun e => by have := (hrow.lt b e).1; omega⟩)) (Keeps.of_below _ hba)) hown1 hgrow hat (by simp) rfl rfl
  have hr2 := hra.put6 hgrow hat (by simp) hnew rfl
  have hr3 := hr2.set ⟨B, 6, none⟩ (.slice (some ⟨g, 0, none⟩) (fs.length + 1) cap) HX.out
  have hb3 : (w2.setCell ⟨B, 6, none⟩ (.slice (some ⟨g, 0, none⟩) (fs.length + 1) cap)).heap[B]? = some (.cells #[qv, .nilIface, .pointer p2, .pointer p3, .string (textLast done n_score_mode), .string (textLast done n_boost_mode), .slice (some ⟨g, 0, none⟩) (fs.length + 1) cap, .slice a7 fs.length k7, .pointer p8] 117 (0, 0)) := set9' (hk.trans Hbx.out) 6 _
  have hbel3 : Below h w (w2.setCell ⟨B, 6, none⟩ (.slice (some ⟨g, 0, none⟩) (fs.length + 1) cap)) := (((Below.refl h w).alloc (by omega) _).grown hgrow (by simp; omega) (fun k hk => (hrow.lt k hk).1)).setCell hl.1 _
  have hkX : ∀ b ∈ X, b ≠ B → b < w.heap.size → (w2.setCell ⟨B, 6, none⟩ (.slice (some ⟨g, 0, none⟩) (fs.length + 1) cap)).heap[b]? = w.heap[b]? := fun b hb hne hlt =>
    (heap_setCell_other _ _ _ _ (by simpa using hne)).trans ((hgrow.block b (by simp; omega) (fun e => (Hr.out.off b hb).2.2.1 e.symm)).trans (heap_alloc_old _ _ hlt))
  have hf3 := fun_law.rekeep (w' := w2.setCell ⟨B, 6, none⟩ (.slice (some ⟨g, 0, none⟩) (fs.length + 1) cap)) (S' := fun b => Z' b ∧ (Value.slice a7 fs.length k7).ownBlock ≠ some b) Hf.out (fun b hlt hz => by
    obtain ⟨z1, z2, z3, z4, z5⟩ := Hr.out.zs b hz
    exact ⟨(heap_setCell_other _ _ _ _ (fun e => z3 (by rw [show b = B from e]; exact HX.out))).trans ((hgrow.block b (by simp; omega) (fun e => z4 e.symm)).trans (heap_alloc_old _ _ hlt)), hz, z5⟩)
  have hs3 : w.heap.size ≤ (w2.setCell ⟨B, 6, none⟩ (.slice (some ⟨g, 0, none⟩) (fs.length + 1) cap)).heap.size := by simp; omega
  have hfv : (Value.slice (some ⟨g, 0, none⟩) (fs.length + 1) cap).ownBlock = some g := rfl
  clear hnew hr2 hra hown1 hgrow hat hrow hk Hreps Hvl Hfl d6 d6f hrow7 Hreps7 Hul hoffB c0 c1 c2 c3 c4 c5 c6 c7 c8 cf
  generalize w2.setCell ⟨B, 6, none⟩ (.slice (some ⟨g, 0, none⟩) (fs.length + 1) cap) = w3 at *
  obtain ⟨c0, c1, c2, c3, c4, c5, c6, c7, c8, cf, cl3⟩ := cells9' hb3
  have hoffB := (hr3.off B HX.out).2.2
  obtain ⟨us, hul, hrow7, hreps7⟩ := hr3.own7
  have Hreps7 := Lib.hid hreps7; clear hreps7
  have Hul := Lib.hid hul; clear hul
  have Hr3 := Lib.hid hr3
  have Hb3 := Lib.hid hb3
  have Hbel3 := Lib.hid hbel3
  have HkX := Lib.hid hkX
  have Hf3 := Lib.hid hf3
  clear hr3 hb3 hbel3 hkX hf3 hba
  go_upto_region 3 with (at_builtin; refine wpList_append_lies _ rfl _ _ _ rfl h 61 i1 _ 1 16 Tryz.underlying112 hi1 hy0 hy1 hy2 rfl (by omega) (.slice a7 fs.length k7) fs.length _ rfl (hrow7.alloc _) ⟨w3.heap.size, 0, none⟩ 1 1 [.iface ty x] rfl rfl (World.news_of_block (cs := #[.iface ty x]) (t := 61) (fr := (0, 0)) (heap_alloc_new w3 _)) (by simp [Value.oneCell']) (by omega) (by unfold maxLen; omega) (by omega) (by simp; omega) (w3.heap.size + 1) (by simp) ?_; intro g7 cap7 w4 hown1 hgrow hat hlt1; have hk := (hgrow.block B (by simp; omega) (fun e => hoffB.2 e.symm)).trans (heap_alloc_old w3 _ cl3); have d7 := (World.cell?_of_block (a := ⟨B, 7, none⟩) hk).trans c7; have d7f := (World.frozen?_of_block (a := ⟨B, 7, none⟩) hk).trans (cf 7))
  have hs4 := hgrow.size
  simp only [World.size_alloc] at hs4
  have hba : Below w3.heap.size w3 (w3.alloc (.cells #[.iface ty x] 61)) := (Below.refl _ _).alloc (Nat.le_refl _) _
  have hra := Hr3.out.below hba
  have hnew : OwnL FunW oneCell 61 1 w4 Z' h (.slice (some ⟨g7, 0, none⟩) (fs.length + 1) cap7) (fs ++ [s]) :=
    OwnL.one (u := .iface ty x) fun_law Hul.out (fun i v t hv ht => fun_law.keep (Hreps7.out i v t hv ht) (Keeps.of_below _ hba)) (fun_law.keep Hf3.out (Keeps.of_below _ hba)) hown1 hgrow hat (by simp) rfl rfl
  have hr4 := (hra.put7 hgrow hat (by simp) hnew rfl).set ⟨B, 7, none⟩ (.slice (some ⟨g7, 0, none⟩) (fs.length + 1) cap7) HX.out
  have hb4 : (w4.setCell ⟨B, 7, none⟩ (.slice (some ⟨g7, 0, none⟩) (fs.length + 1) cap7)).heap[B]? = some (.cells #[qv, .nilIface, .pointer p2, .pointer p3, .string (textLast done n_score_mode), .string (textLast done n_boost_mode), .slice (some ⟨g, 0, none⟩) (fs.length + 1) cap, .slice (some ⟨g7, 0, none⟩) (fs.length + 1) cap7, .pointer p8] 117 (0, 0)) := set9' (hk.trans Hb3.out) 7 _
  have hbel4 : Below h w (w4.setCell ⟨B, 7, none⟩ (.slice (some ⟨g7, 0, none⟩) (fs.length + 1) cap7)) := ((Hbel3.out.alloc (by omega) _).grown hgrow (by simp; omega) (fun k hk => (hrow7.lt k hk).1)).setCell hl.1 _
  have hkX4 : ∀ b ∈ X, b ≠ B → b < w.heap.size → (w4.setCell ⟨B, 7, none⟩ (.slice (some ⟨g7, 0, none⟩) (fs.length + 1) cap7)).heap[b]? = w.heap[b]? := fun b hb hne hlt =>
    (heap_setCell_other _ _ _ _ (by simpa using hne)).trans ((hgrow.block b (by simp; omega) (fun e => (Hr3.out.off b hb).2.2.2 e.symm)).trans ((heap_alloc_old _ _ (by omega)).trans (HkX.out b hb hne hlt)))
  have hfq : FQ (w4.setCell ⟨B, 7, none⟩ (.slice (some ⟨g7, 0, none⟩) (fs.length + 1) cap7)) h B qs (fs ++ [s]) done :=
    ⟨X, Z', qv, _, _, p2, p3, p8, HX.out, hb4, hr4, Hqr.out.keep (fun b hb hlt => hbel4.block b hb), H2.out.keep (fun _ h => h) hkX4, H3.out.keep (fun _ h => h) hkX4, H8.out.keep (fun _ h => h) hkX4⟩
  have Hfq := Lib.hid hfq
  have Hbel4 := Lib.hid hbel4
  clear hr4 hb4 hkX4 hfq hbel4 hnew hra
  go_wp2_with fail
  go_ret
  exact ⟨by simp, Hfq.out, Hbel4.out⟩
end Go.Proofs.YtbcnhcpgloncdaaGreatDoor
