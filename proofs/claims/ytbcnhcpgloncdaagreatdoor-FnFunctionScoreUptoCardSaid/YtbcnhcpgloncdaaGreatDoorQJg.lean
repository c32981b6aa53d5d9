/- The builder of a function_score query: its state, and its setters. -/
import Derived.Test.YtbcnhcpgloncdaaGreatDoorQJf
import Derived.Test.YtbcnhcpgloncdaaGreatDoorQIp
namespace Go.Proofs.YtbcnhcpgloncdaaGreatDoor
open Go Go.RowKit Go.BigFrame Go.Maps

theorem Tryz.info61 : (Tryz.prog.info? 61).map (fun i => (i.zero, i.size, i.bytes)) = some (some .nilIface, 1, 16) := by kernel_rfl
def n_score_mode : ByteArray := ⟨#[115, 99, 111, 114, 101, 95, 109, 111, 100, 101]⟩
def n_boost_mode : ByteArray := ⟨#[98, 111, 111, 115, 116, 95, 109, 111, 100, 101]⟩
def n_max_boost : ByteArray := ⟨#[109, 97, 120, 95, 98, 111, 111, 115, 116]⟩
def n_min_score : ByteArray := ⟨#[109, 105, 110, 95, 115, 99, 111, 114, 101]⟩

theorem GSt.law (B : Nat) : ∀ {w w' : World} {S : Nat → Prop} {ks : List GK} {ty : TypeId} {done : List SetM}, GSt w S B ks ty done → Keeps S w w' → GSt w' S B ks ty done := fun h hk => h.keep hk
/-- A score function, in the builder's row. -/
def FunW (w : World) (S : Nat → Prop) (v : Value) (s : ScoreM) : Prop := ∃ k : SK, s.kind = k.num ∧ FunR k w S v s
theorem fun_law : RepLaw FunW :=
  ⟨fun ⟨k, h0, B, h1, h2⟩ hk => ⟨k, h0, B, h1, h2.keep hk⟩, fun ⟨k, h0, B, h1, h2⟩ hS => ⟨k, h0, B, h1, h2.mono hS⟩⟩
/-- What it is for: nothing, or a query. -/
def FilR (w : World) (S : Nat → Prop) (v : Value) (s : ScoreM) : Prop := match s.filters with | [] => v = .nilIface | t :: _ => QueryR w S v t
theorem fil_law : RepLaw FilR := by
  constructor
  · intro w w' S v s h hk
    unfold FilR at *
    split
    · rename_i e; rw [e] at h; exact h
    · rename_i t r e; rw [e] at h; exact query_law.keep h hk
  · intro w S S' v s h hS
    unfold FilR at *
    split
    · rename_i e; rw [e] at h; exact h
    · rename_i t r e; rw [e] at h; exact query_law.mono h hS

/-- The two rows of the builder, in memory of their own; X: its other blocks; Z: those of its score functions. -/
structure FRows (w : World) (h : Nat) (X : List Nat) (Z : Nat → Prop) (fv sv : Value) (fs ss : List ScoreM) : Prop where
  own6 : OwnL FilR oneCell 114 1 w (fun b => b < h) h fv fs
  own7 : OwnL FunW oneCell 61 1 w Z h sv ss
  far : ∀ b, fv.ownBlock = some b → sv.ownBlock ≠ some b
  zs : ∀ b, Z b → h ≤ b ∧ b < w.heap.size ∧ b ∉ X ∧ fv.ownBlock ≠ some b ∧ sv.ownBlock ≠ some b
  off : ∀ k ∈ X, h ≤ k ∧ k < w.heap.size ∧ fv.ownBlock ≠ some k ∧ sv.ownBlock ≠ some k

theorem FRows.set {w : World} {h : Nat} {X : List Nat} {Z : Nat → Prop} {fv sv : Value} {fs ss : List ScoreM} (r : FRows w h X Z fv sv fs ss) (a : Addr) (u : Value) (ha : a.block ∈ X) : FRows (w.setCell a u) h X Z fv sv fs ss := by
  obtain ⟨o1, o2, o3, o4⟩ := r.off _ ha
  exact ⟨r.own6.setCell fil_law a u o3 (by omega), r.own7.setCell fun_law a u o4 (fun hz => (r.zs _ hz).2.2.1 ha), r.far, fun b hb => by have := r.zs b hb; simpa using this, fun k hk => by have := r.off k hk; simpa using this⟩
theorem FRows.below {w w' : World} {h : Nat} {X : List Nat} {Z : Nat → Prop} {fv sv : Value} {fs ss : List ScoreM} (r : FRows w h X Z fv sv fs ss) (hb : Below w.heap.size w w') : FRows w' h X Z fv sv fs ss := by
  have hz := hb.size
  exact ⟨r.own6.below fil_law hb, r.own7.below fun_law hb, r.far, fun b hb => by obtain ⟨h1, h2, h3⟩ := r.zs b hb; exact ⟨h1, by omega, h3⟩, fun k hk => by obtain ⟨h1, h2, h3⟩ := r.off k hk; exact ⟨h1, by omega, h3⟩⟩
theorem FRows.join {w : World} {h : Nat} {X : List Nat} {Z : Nat → Prop} {fv sv : Value} {fs ss : List ScoreM} (r : FRows w h X Z fv sv fs ss) (hh : h ≤ w.heap.size) (o : Obj) : FRows (w.alloc o) h (w.heap.size :: X) Z fv sv fs ss := by
  have r' := r.below (w' := w.alloc o) ((Below.refl _ _).alloc (Nat.le_refl _) _)
  have l6 := r.own6.lt
  have l7 := r.own7.lt
  refine ⟨r'.own6, r'.own7, r'.far, fun b hb => ?_, fun k hk => ?_⟩
  · obtain ⟨h1, h2, h3, h4⟩ := r.zs b hb
    obtain ⟨g1, g2, g3, g4⟩ := r'.zs b hb
    exact ⟨g1, g2, by simp only [List.mem_cons, not_or]; exact ⟨by omega, h3⟩, g4⟩
  · rcases List.mem_cons.1 hk with rfl | hk
    · exact ⟨hh, by simp, fun e => by have := (l6 _ e).2; omega, fun e => by have := (l7 _ e).2; omega⟩
    · exact r'.off k hk
theorem FRows.put6 {wx w1 : World} {h g H : Nat} {X : List Nat} {Z : Nat → Prop} {fv fv' sv : Value} {fs fs' ss : List ScoreM} (r : FRows wx h X Z fv sv fs ss) (hg : wx.grownBy w1 fv.ownBlock) (hat : fv.ownBlock = some g ∨ g = H) (hH : wx.heap.size ≤ H)
    (hnew : OwnL FilR oneCell 114 1 w1 (fun b => b < h) h fv' fs') (hnv : fv'.ownBlock = some g) : FRows w1 h X Z fv' sv fs' ss := by
  have hz := hg.size
  have l7 := r.own7.lt
  have hne : ∀ b, b < wx.heap.size → fv.ownBlock ≠ some b → fv'.ownBlock ≠ some b := by
    intro b hb h1 e
    rw [hnv] at e
    cases e
    rcases hat with h2 | h2
    · exact h1 h2
    · omega
  refine ⟨hnew, r.own7.kept fun_law hg ?_ (fun k hk hzk => (r.zs k hzk).2.2.2.1 hk), fun b hb e => ?_, fun b hb => ?_, fun k hk => ?_⟩
  · cases e : sv.ownBlock with
    | none => exact .inl rfl
    | some b => exact .inr (fun e' => r.far b e'.symm e)
  · have hlt := (l7 b e).2
    by_cases hf : fv.ownBlock = some b
    · exact r.far b hf e
    · exact hne b hlt hf hb
  · obtain ⟨h1, h2, h3, h4, h5⟩ := r.zs b hb
    exact ⟨h1, by omega, h3, hne b h2 h4, h5⟩
  · obtain ⟨h1, h2, h3, h4⟩ := r.off k hk
    exact ⟨h1, by omega, hne k h2 h3, h4⟩
theorem FRows.put7 {wx w1 : World} {h g H : Nat} {X : List Nat} {Z : Nat → Prop} {fv sv sv' : Value} {fs ss ss' : List ScoreM} (r : FRows wx h X Z fv sv fs ss) (hg : wx.grownBy w1 sv.ownBlock) (hat : sv.ownBlock = some g ∨ g = H) (hH : wx.heap.size ≤ H)
    (hnew : OwnL FunW oneCell 61 1 w1 Z h sv' ss') (hnv : sv'.ownBlock = some g) : FRows w1 h X Z fv sv' fs ss' := by
  have hz := hg.size
  have l6 := r.own6.lt
  have l7 := r.own7.lt
  have hne : ∀ b, b < wx.heap.size → sv.ownBlock ≠ some b → sv'.ownBlock ≠ some b := by
    intro b hb h1 e
    rw [hnv] at e
    cases e
    rcases hat with h2 | h2
    · exact h1 h2
    · omega
  refine ⟨r.own6.kept fil_law hg ?_ (fun k hk hlt => by have := (l7 k hk).1; omega), hnew, fun b hb => ?_, fun b hb => ?_, fun k hk => ?_⟩
  · cases e : fv.ownBlock with
    | none => exact .inl rfl
    | some b => exact .inr (fun e' => r.far b e e'.symm)
  · exact hne b (l6 b hb).2 (r.far b hb)
  · obtain ⟨h1, h2, h3, h4, h5⟩ := r.zs b hb
    exact ⟨h1, by omega, h3, h4, hne b h2 h5⟩
  · obtain ⟨h1, h2, h3, h4⟩ := r.off k hk
    exact ⟨h1, by omega, h3, hne k h2 h4⟩
/-- More blocks belong to the score functions. -/
theorem FRows.more {w : World} {h : Nat} {X : List Nat} {Z Z' : Nat → Prop} {fv sv : Value} {fs ss : List ScoreM} (r : FRows w h X Z fv sv fs ss) (hZ : ∀ b, Z b → Z' b) (hn : ∀ b, Z' b → Z b ∨ (h ≤ b ∧ b < w.heap.size ∧ b ∉ X ∧ fv.ownBlock ≠ some b ∧ sv.ownBlock ≠ some b)) : FRows w h X Z' fv sv fs ss :=
  ⟨r.own6, r.own7.mono fun_law (fun b _ hb => hZ b hb) (Nat.le_refl _), r.far, fun b hb => by rcases hn b hb with h1 | h1; exact r.zs b h1; exact h1, r.off⟩

/-- A pointer to a cell of the builder's own. -/
def PtrB (w : World) (B : Nat) (X : List Nat) (o : Option Tr) (p : Option Addr) : Prop :=
  match o with
  | none => p = none
  | some t => ∃ b, p = some ⟨b, 0, none⟩ ∧ b ∈ X ∧ b ≠ B ∧ w.cell? ⟨b, 0, none⟩ = some (.float .f64 t.num)
theorem PtrB.keep {w w' : World} {B : Nat} {X X' : List Nat} {o : Option Tr} {p : Option Addr} (hp : PtrB w B X o p) (hX : ∀ k ∈ X, k ∈ X') (hk : ∀ b ∈ X, b ≠ B → b < w.heap.size → w'.heap[b]? = w.heap[b]?) : PtrB w' B X' o p := by
  cases o with
  | none => exact hp
  | some t =>
    obtain ⟨b, h1, h2, h3, h4⟩ := hp
    exact ⟨b, h1, hX b h2, h3, (World.cell?_of_block (w := w) (a := ⟨b, 0, none⟩) (hk b h2 h3 (World.block_lt_of_cell? w _ h4))).trans h4⟩
/-- The query, if there is one. -/
def QryR (w : World) (S : Nat → Prop) (v : Value) : List Tr → Prop | [] => v = .nilIface | t :: _ => QueryR w S v t
theorem QryR.keep {w w' : World} {S : Nat → Prop} {v : Value} {qs : List Tr} (h : QryR w S v qs) (hk : Keeps S w w') : QryR w' S v qs := by
  cases qs with
  | nil => exact h
  | cons t r => exact query_law.keep h hk

/-- The builder. -/
def FQ (w : World) (h B : Nat) (qs : List Tr) (fs : List ScoreM) (done : List SetM) : Prop :=
  ∃ (X : List Nat) (Z : Nat → Prop) (qv fv sv : Value) (p2 p3 p8 : Option Addr), B ∈ X ∧ w.heap[B]? = some (.cells #[qv, .nilIface, .pointer p2, .pointer p3, .string (textLast done n_score_mode), .string (textLast done n_boost_mode), fv, sv, .pointer p8] 117 (0, 0)) ∧
    FRows w h X Z fv sv fs fs ∧ QryR w (fun b => b < h) qv qs ∧ PtrB w B X (lastOf done n_boost) p2 ∧ PtrB w B X (lastOf done n_max_boost) p3 ∧ PtrB w B X (lastOf done n_min_score) p8
theorem FQ.lt {w : World} {h B : Nat} {qs : List Tr} {fs : List ScoreM} {done : List SetM} (q : FQ w h B qs fs done) : h ≤ B ∧ B < w.heap.size := by
  obtain ⟨X, Z, qv, fv, sv, p2, p3, p8, h1, h2, h3, h4, h5, h6, h7⟩ := q
  obtain ⟨o1, o2, _⟩ := h3.off B h1
  exact ⟨o1, o2⟩
theorem FQ.below {w w' : World} {h B : Nat} {qs : List Tr} {fs : List ScoreM} {done : List SetM} (q : FQ w h B qs fs done) (hb : Below w.heap.size w w') : FQ w' h B qs fs done := by
  obtain ⟨X, Z, qv, fv, sv, p2, p3, p8, h1, h2, h3, h4, h5, h6, h7⟩ := q
  have hk : ∀ b ∈ X, b ≠ B → b < w.heap.size → w'.heap[b]? = w.heap[b]? := fun b _ _ hlt => hb.block b hlt
  exact ⟨X, Z, qv, fv, sv, p2, p3, p8, h1, (hb.block _ (h3.off _ h1).2.1).trans h2, h3.below hb, h4.keep (Keeps.of_below _ hb), h5.keep (fun _ h => h) hk, h6.keep (fun _ h => h) hk, h7.keep (fun _ h => h) hk⟩
/-- A setter has told the setting. -/
def SetQ (w : World) (h B : Nat) (qs : List Tr) (fs : List ScoreM) (done : List SetM) (e : Ending) (w' : World) : Prop := e = .returned (.pointer (some ⟨B, 0, none⟩)) ∧ FQ w' h B qs fs done ∧ Below h w w'

theorem cells9' {w : World} {b : Nat} {ty : TypeId} {c0 c1 c2 c3 c4 c5 c6 c7 c8 : Value} (h : w.heap[b]? = some (.cells #[c0, c1, c2, c3, c4, c5, c6, c7, c8] ty (0, 0))) :
    w.cell? ⟨b, 0, none⟩ = some c0 ∧ w.cell? ⟨b, 1, none⟩ = some c1 ∧ w.cell? ⟨b, 2, none⟩ = some c2 ∧ w.cell? ⟨b, 3, none⟩ = some c3 ∧ w.cell? ⟨b, 4, none⟩ = some c4 ∧ w.cell? ⟨b, 5, none⟩ = some c5 ∧ w.cell? ⟨b, 6, none⟩ = some c6 ∧ w.cell? ⟨b, 7, none⟩ = some c7 ∧ w.cell? ⟨b, 8, none⟩ = some c8 ∧ (∀ o, w.frozen? ⟨b, o, none⟩ = false) ∧ b < w.heap.size := by
  refine ⟨?_, ?_, ?_, ?_, ?_, ?_, ?_, ?_, ?_, fun o => ?_, (Array.getElem?_eq_some_iff.1 h).1⟩ <;> simp [World.cell?, World.frozen?, h]
theorem set9' {w : World} {b : Nat} {ty : TypeId} {cs : Array Value} (h : w.heap[b]? = some (.cells cs ty (0, 0))) (j : Nat) (v : Value) : (w.setCell ⟨b, j, none⟩ v).heap[b]? = some (.cells (cs.setIfInBounds j v) ty (0, 0)) := heap_setCell_same w b j cs ty v h

theorem new_fq_state (w : World) (a b : Nat) (hz : (a = w.heap.size ∧ b = w.heap.size + 1) ∨ (b = w.heap.size ∧ a = w.heap.size + 1)) (W : World) (hW : W.heap[a]? = some (.cells #[] 114 (0, 0)) ∧ W.heap[b]? = some (.cells #[] 61 (0, 0)) ∧ W.heap.size = w.heap.size + 2) :
    FQ (W.alloc (.cells #[.nilIface, .nilIface, .pointer none, .pointer none, .string ⟨#[]⟩, .string ⟨#[]⟩, .slice (some ⟨a, 0, none⟩) 0 0, .slice (some ⟨b, 0, none⟩) 0 0, .pointer none] 117)) w.heap.size (w.heap.size + 2) [] [] [] := by
  obtain ⟨h1, h2, h3⟩ := hW
  have hnew := heap_alloc_new W (.cells #[.nilIface, .nilIface, .pointer none, .pointer none, .string ⟨#[]⟩, .string ⟨#[]⟩, .slice (some ⟨a, 0, none⟩) 0 0, .slice (some ⟨b, 0, none⟩) 0 0, .pointer none] 117)
  rw [h3] at hnew
  refine ⟨[w.heap.size + 2], fun _ => False, _, _, _, none, none, none, by simp, hnew, ⟨?_, ?_, ?_, fun b hb => hb.elim, ?_⟩, rfl, rfl, rfl, rfl⟩
  · exact OwnL.made ⟨rfl, .inr ⟨a, 0, #[], rfl, by omega, (heap_alloc_old _ _ (by omega)).trans h1, Nat.le_refl _, by unfold maxLen; omega, rfl, rfl⟩⟩
  · exact OwnL.made ⟨rfl, .inr ⟨b, 0, #[], rfl, by omega, (heap_alloc_old _ _ (by omega)).trans h2, Nat.le_refl _, by unfold maxLen; omega, rfl, rfl⟩⟩
  · intro x hx e
    have e1 : a = x := by simpa [Value.ownBlock] using hx
    have e2 : b = x := by simpa [Value.ownBlock] using e
    omega
  · intro k hk
    have : k = w.heap.size + 2 := by simpa using hk
    subst this
    refine ⟨by omega, by simp [h3], fun e => ?_, fun e => ?_⟩
    · have : a = w.heap.size + 2 := by simpa [Value.ownBlock] using e
      omega
    · have : b = w.heap.size + 2 := by simpa [Value.ownBlock] using e
      omega
@[go_sem] theorem make112 (w : World) : (Instr.makeSlice 112 (.int .i64 0) (.int .i64 0)).run Tryz.prog w = .ok (.slice (some ⟨w.heap.size, 0, none⟩) 0 0) (w.alloc (.cells #[] 61)) := by kernel_rfl
set_option maxRecDepth 100000 in
set_option maxHeartbeats 8000000 in
theorem new_fq (w : World) : Calls Tryz.prog 28 #[] w (SetQ w w.heap.size (w.heap.size + 2) [] [] []) := by
  go_enter Tryz.func28, Tryz.ntmps28
  go_wp2_with fail
  go_region_law (fail)
  all_goals (
    go_wp2_with fail
    refine bodyPost_ret (v := .pointer (some ⟨w.heap.size + 2, 0, none⟩)) (by simp [results, Tryz.results28, go_sem]) rfl ?_
    have ha := heap_alloc_new w (.cells #[] 114)
    have hb := heap_alloc_new w (.cells #[] 61)
    have hab := heap_alloc_new (w.alloc (.cells #[] 114)) (.cells #[] 61)
    have hba := heap_alloc_new (w.alloc (.cells #[] 61)) (.cells #[] 114)
    rw [World.size_alloc] at hab hba
    refine ⟨rfl, FQ.below ?_ (Below.refl _ _).drew, ((((Below.refl _ _).alloc (Nat.le_refl _) _).alloc (by simp) _).alloc (by simp; omega) _).drew⟩
    first
      | exact new_fq_state w _ _ (.inl ⟨rfl, rfl⟩) _ ⟨(heap_alloc_old _ _ (by simp)).trans ha, hab, by simp⟩
      | exact new_fq_state w _ _ (.inr ⟨rfl, rfl⟩) _ ⟨hba, (heap_alloc_old _ _ (by simp)).trans hb, by simp⟩)

set_option maxRecDepth 100000 in
set_option maxHeartbeats 4000000 in
theorem setQ_boost (w : World) (h B : Nat) (qs : List Tr) (fs : List ScoreM) (done : List SetM) (s : SetM) (hs : s.name = n_boost) (hq : FQ w h B qs fs done) : Calls Tryz.prog 33 #[.pointer (some ⟨B, 0, none⟩), .float .f64 s.val.num] w (SetQ w h B qs fs (done ++ [s])) := by
  have hl := hq.lt
  obtain ⟨X, Z, qv, fv, sv, p2, p3, p8, hX, hbx, hr, hqr, h2, h3, h8⟩ := hq
  obtain ⟨c0, c1, c2, c3, c4, c5, c6, c7, c8, cf, cl⟩ := cells9' hbx
  have hne := Nat.ne_of_lt cl
  have Hs := Lib.hid hs
  have H2 := Lib.hid h2
  have H3 := Lib.hid h3
  have H8 := Lib.hid h8
  have Hr := Lib.hid hr
  have Hqr := Lib.hid hqr
  have Hbx := Lib.hid hbx
  have HX := Lib.hid hX
  clear hs h2 h3 h8 hr hqr hbx hX
  go_enter Tryz.func33, Tryz.ntmps33
  go_wp2
  go_ret
  have hr1 := (Hr.out.set ⟨B, 2, none⟩ (.pointer (some ⟨w.heap.size, 0, none⟩)) HX.out).join (by simp; omega) (.cells #[.float .f64 s.val.num] 28)
  have hr2 : FRows ((w.setCell ⟨B, 2, none⟩ (.pointer (some ⟨w.heap.size, 0, none⟩))).alloc (.cells #[.float .f64 s.val.num] 28)) h (w.heap.size :: X) Z fv sv fs fs := by simpa using hr1
  have hkeepX : ∀ b ∈ X, b ≠ B → b < w.heap.size → ((w.setCell ⟨B, 2, none⟩ (.pointer (some ⟨w.heap.size, 0, none⟩))).alloc (.cells #[.float .f64 s.val.num] 28)).heap[b]? = w.heap[b]? := fun b _ hne hlt =>
    (heap_alloc_old _ _ (by simpa using hlt)).trans (heap_setCell_other _ _ _ _ (by simpa using hne))
  have hkq : Keeps (fun b => b < h) w ((w.setCell ⟨B, 2, none⟩ (.pointer (some ⟨w.heap.size, 0, none⟩))).alloc (.cells #[.float .f64 s.val.num] 28)) := fun b hb hlt => (heap_alloc_old _ _ (by simpa using hlt)).trans (heap_setCell_other _ _ _ _ (by simp; omega))
  refine ⟨by simp, ⟨w.heap.size :: X, Z, qv, fv, sv, (some ⟨w.heap.size, 0, none⟩), p3, p8, by simp [HX.out], ?_, hr2, Hqr.out.keep hkq, by rw [lastOf_snoc, if_pos Hs.out]; exact ⟨w.heap.size, rfl, by simp, by omega, ptr_new _ _ _ _ _⟩, by rw [lastOf_other (by rw [Hs.out]; decide)]; exact H3.out.keep (fun _ h => by simp [h]) hkeepX, by rw [lastOf_other (by rw [Hs.out]; decide)]; exact H8.out.keep (fun _ h => by simp [h]) hkeepX⟩, ((Below.refl _ _).setCell (by simp; omega) _).alloc (by simp; omega) _⟩
  rw [heap_alloc_old _ _ (by simpa using cl), set9' Hbx.out, textLast_other (by rw [Hs.out]; decide), textLast_other (by rw [Hs.out]; decide)]; rfl

set_option maxRecDepth 100000 in
set_option maxHeartbeats 4000000 in
theorem setQ_max_boost (w : World) (h B : Nat) (qs : List Tr) (fs : List ScoreM) (done : List SetM) (s : SetM) (hs : s.name = n_max_boost) (hq : FQ w h B qs fs done) : Calls Tryz.prog 35 #[.pointer (some ⟨B, 0, none⟩), .float .f64 s.val.num] w (SetQ w h B qs fs (done ++ [s])) := by
  have hl := hq.lt
  obtain ⟨X, Z, qv, fv, sv, p2, p3, p8, hX, hbx, hr, hqr, h2, h3, h8⟩ := hq
  obtain ⟨c0, c1, c2, c3, c4, c5, c6, c7, c8, cf, cl⟩ := cells9' hbx
  have hne := Nat.ne_of_lt cl
  have Hs := Lib.hid hs
  have H2 := Lib.hid h2
  have H3 := Lib.hid h3
  have H8 := Lib.hid h8
  have Hr := Lib.hid hr
  have Hqr := Lib.hid hqr
  have Hbx := Lib.hid hbx
  have HX := Lib.hid hX
  clear hs h2 h3 h8 hr hqr hbx hX
  go_enter Tryz.func35, Tryz.ntmps35
  go_wp2
  go_ret
  have hr1 := (Hr.out.set ⟨B, 3, none⟩ (.pointer (some ⟨w.heap.size, 0, none⟩)) HX.out).join (by simp; omega) (.cells #[.float .f64 s.val.num] 28)
  have hr2 : FRows ((w.setCell ⟨B, 3, none⟩ (.pointer (some ⟨w.heap.size, 0, none⟩))).alloc (.cells #[.float .f64 s.val.num] 28)) h (w.heap.size :: X) Z fv sv fs fs := by simpa using hr1
  have hkeepX : ∀ b ∈ X, b ≠ B → b < w.heap.size → ((w.setCell ⟨B, 3, none⟩ (.pointer (some ⟨w.heap.size, 0, none⟩))).alloc (.cells #[.float .f64 s.val.num] 28)).heap[b]? = w.heap[b]? := fun b _ hne hlt =>
    (heap_alloc_old _ _ (by simpa using hlt)).trans (heap_setCell_other _ _ _ _ (by simpa using hne))
  have hkq : Keeps (fun b => b < h) w ((w.setCell ⟨B, 3, none⟩ (.pointer (some ⟨w.heap.size, 0, none⟩))).alloc (.cells #[.float .f64 s.val.num] 28)) := fun b hb hlt => (heap_alloc_old _ _ (by simpa using hlt)).trans (heap_setCell_other _ _ _ _ (by simp; omega))
  refine ⟨by simp, ⟨w.heap.size :: X, Z, qv, fv, sv, p2, (some ⟨w.heap.size, 0, none⟩), p8, by simp [HX.out], ?_, hr2, Hqr.out.keep hkq, by rw [lastOf_other (by rw [Hs.out]; decide)]; exact H2.out.keep (fun _ h => by simp [h]) hkeepX, by rw [lastOf_snoc, if_pos Hs.out]; exact ⟨w.heap.size, rfl, by simp, by omega, ptr_new _ _ _ _ _⟩, by rw [lastOf_other (by rw [Hs.out]; decide)]; exact H8.out.keep (fun _ h => by simp [h]) hkeepX⟩, ((Below.refl _ _).setCell (by simp; omega) _).alloc (by simp; omega) _⟩
  rw [heap_alloc_old _ _ (by simpa using cl), set9' Hbx.out, textLast_other (by rw [Hs.out]; decide), textLast_other (by rw [Hs.out]; decide)]; rfl

set_option maxRecDepth 100000 in
set_option maxHeartbeats 4000000 in
theorem setQ_min_score (w : World) (h B : Nat) (qs : List Tr) (fs : List ScoreM) (done : List SetM) (s : SetM) (hs : s.name = n_min_score) (hq : FQ w h B qs fs done) : Calls Tryz.prog 36 #[.pointer (some ⟨B, 0, none⟩), .float .f64 s.val.num] w (SetQ w h B qs fs (done ++ [s])) := by
  have hl := hq.lt
  obtain ⟨X, Z, qv, fv, sv, p2, p3, p8, hX, hbx, hr, hqr, h2, h3, h8⟩ := hq
  obtain ⟨c0, c1, c2, c3, c4, c5, c6, c7, c8, cf, cl⟩ := cells9' hbx
  have hne := Nat.ne_of_lt cl
  have Hs := Lib.hid hs
  have H2 := Lib.hid h2
  have H3 := Lib.hid h3
  have H8 := Lib.hid h8
  have Hr := Lib.hid hr
  have Hqr := Lib.hid hqr
  have Hbx := Lib.hid hbx
  have HX := Lib.hid hX
  clear hs h2 h3 h8 hr hqr hbx hX
  go_enter Tryz.func36, Tryz.ntmps36
  go_wp2
  go_ret
  have hr1 := (Hr.out.set ⟨B, 8, none⟩ (.pointer (some ⟨w.heap.size, 0, none⟩)) HX.out).join (by simp; omega) (.cells #[.float .f64 s.val.num] 28)
  have hr2 : FRows ((w.setCell ⟨B, 8, none⟩ (.pointer (some ⟨w.heap.size, 0, none⟩))).alloc (.cells #[.float .f64 s.val.num] 28)) h (w.heap.size :: X) Z fv sv fs fs := by simpa using hr1
  have hkeepX : ∀ b ∈ X, b ≠ B → b < w.heap.size → ((w.setCell ⟨B, 8, none⟩ (.pointer (some ⟨w.heap.size, 0, none⟩))).alloc (.cells #[.float .f64 s.val.num] 28)).heap[b]? = w.heap[b]? := fun b _ hne hlt =>
    (heap_alloc_old _ _ (by simpa using hlt)).trans (heap_setCell_other _ _ _ _ (by simpa using hne))
  have hkq : Keeps (fun b => b < h) w ((w.setCell ⟨B, 8, none⟩ (.pointer (some ⟨w.heap.size, 0, none⟩))).alloc (.cells #[.float .f64 s.val.num] 28)) := fun b hb hlt => (heap_alloc_old _ _ (by simpa using hlt)).trans (heap_setCell_other _ _ _ _ (by simp; omega))
  refine ⟨by simp, ⟨w.heap.size :: X, Z, qv, fv, sv, p2, p3, (some ⟨w.heap.size, 0, none⟩), by simp [HX.out], ?_, hr2, Hqr.out.keep hkq, by rw [lastOf_other (by rw [Hs.out]; decide)]; exact H2.out.keep (fun _ h => by simp [h]) hkeepX, by rw [lastOf_other (by rw [Hs.out]; decide)]; exact H3.out.keep (fun _ h => by simp [h]) hkeepX, by rw [lastOf_snoc, if_pos Hs.out]; exact ⟨w.heap.size, rfl, by simp, by omega, ptr_new _ _ _ _ _⟩⟩, ((Below.refl _ _).setCell (by simp; omega) _).alloc (by simp; omega) _⟩
  rw [heap_alloc_old _ _ (by simpa using cl), set9' Hbx.out, textLast_other (by rw [Hs.out]; decide), textLast_other (by rw [Hs.out]; decide)]; rfl

set_option maxRecDepth 100000 in
set_option maxHeartbeats 4000000 in
theorem setQ_boost_mode (w : World) (h B : Nat) (qs : List Tr) (fs : List ScoreM) (done : List SetM) (s : SetM) (hs : s.name = n_boost_mode) (hq : FQ w h B qs fs done) : Calls Tryz.prog 34 #[.pointer (some ⟨B, 0, none⟩), .string s.val.text] w (SetQ w h B qs fs (done ++ [s])) := by
  have hl := hq.lt
  obtain ⟨X, Z, qv, fv, sv, p2, p3, p8, hX, hbx, hr, hqr, h2, h3, h8⟩ := hq
  obtain ⟨c0, c1, c2, c3, c4, c5, c6, c7, c8, cf, cl⟩ := cells9' hbx
  have hne := Nat.ne_of_lt cl
  have Hs := Lib.hid hs
  have H2 := Lib.hid h2
  have H3 := Lib.hid h3
  have H8 := Lib.hid h8
  have Hr := Lib.hid hr
  have Hqr := Lib.hid hqr
  have Hbx := Lib.hid hbx
  have HX := Lib.hid hX
  clear hs h2 h3 h8 hr hqr hbx hX
  go_enter Tryz.func34, Tryz.ntmps34
  go_wp2
  go_ret
  have hr1 := Hr.out.set ⟨B, 5, none⟩ (.string s.val.text) HX.out
  have hkeepX : ∀ b ∈ X, b ≠ B → b < w.heap.size → (w.setCell ⟨B, 5, none⟩ (.string s.val.text)).heap[b]? = w.heap[b]? := fun b _ hne _ => heap_setCell_other _ _ _ _ (by simpa using hne)
  have hkq : Keeps (fun b => b < h) w (w.setCell ⟨B, 5, none⟩ (.string s.val.text)) := fun b hb _ => heap_setCell_other _ _ _ _ (by simp; omega)
  refine ⟨by simp, ⟨X, Z, qv, fv, sv, p2, p3, p8, HX.out, ?_, hr1, Hqr.out.keep hkq, by rw [lastOf_other (by rw [Hs.out]; decide)]; exact H2.out.keep (fun _ h => h) hkeepX, by rw [lastOf_other (by rw [Hs.out]; decide)]; exact H3.out.keep (fun _ h => h) hkeepX, by rw [lastOf_other (by rw [Hs.out]; decide)]; exact H8.out.keep (fun _ h => h) hkeepX⟩, (Below.refl _ _).setCell (by simp; omega) _⟩
  rw [set9' Hbx.out, textLast_other (nm := n_score_mode) (by rw [Hs.out]; decide), textLast_this (nm := n_boost_mode) Hs.out]; rfl

set_option maxRecDepth 100000 in
set_option maxHeartbeats 4000000 in
theorem setQ_score_mode (w : World) (h B : Nat) (qs : List Tr) (fs : List ScoreM) (done : List SetM) (s : SetM) (hs : s.name = n_score_mode) (hq : FQ w h B qs fs done) : Calls Tryz.prog 37 #[.pointer (some ⟨B, 0, none⟩), .string s.val.text] w (SetQ w h B qs fs (done ++ [s])) := by
  have hl := hq.lt
  obtain ⟨X, Z, qv, fv, sv, p2, p3, p8, hX, hbx, hr, hqr, h2, h3, h8⟩ := hq
  obtain ⟨c0, c1, c2, c3, c4, c5, c6, c7, c8, cf, cl⟩ := cells9' hbx
  have hne := Nat.ne_of_lt cl
  have Hs := Lib.hid hs
  have H2 := Lib.hid h2
  have H3 := Lib.hid h3
  have H8 := Lib.hid h8
  have Hr := Lib.hid hr
  have Hqr := Lib.hid hqr
  have Hbx := Lib.hid hbx
  have HX := Lib.hid hX
  clear hs h2 h3 h8 hr hqr hbx hX
  go_enter Tryz.func37, Tryz.ntmps37
  go_wp2
  go_ret
  have hr1 := Hr.out.set ⟨B, 4, none⟩ (.string s.val.text) HX.out
  have hkeepX : ∀ b ∈ X, b ≠ B → b < w.heap.size → (w.setCell ⟨B, 4, none⟩ (.string s.val.text)).heap[b]? = w.heap[b]? := fun b _ hne _ => heap_setCell_other _ _ _ _ (by simpa using hne)
  have hkq : Keeps (fun b => b < h) w (w.setCell ⟨B, 4, none⟩ (.string s.val.text)) := fun b hb _ => heap_setCell_other _ _ _ _ (by simp; omega)
  refine ⟨by simp, ⟨X, Z, qv, fv, sv, p2, p3, p8, HX.out, ?_, hr1, Hqr.out.keep hkq, by rw [lastOf_other (by rw [Hs.out]; decide)]; exact H2.out.keep (fun _ h => h) hkeepX, by rw [lastOf_other (by rw [Hs.out]; decide)]; exact H3.out.keep (fun _ h => h) hkeepX, by rw [lastOf_other (by rw [Hs.out]; decide)]; exact H8.out.keep (fun _ h => h) hkeepX⟩, (Below.refl _ _).setCell (by simp; omega) _⟩
  rw [set9' Hbx.out, textLast_this (nm := n_score_mode) Hs.out, textLast_other (nm := n_boost_mode) (by rw [Hs.out]; decide)]; rfl

set_option maxRecDepth 100000 in
set_option maxHeartbeats 4000000 in
theorem setQ_query (w : World) (h B : Nat) (fs : List ScoreM) (t : Tr) (x : Value) (hs : QueryR w (fun b => b < h) (.iface 59 x) t) (hq : FQ w h B [] fs []) : Calls Tryz.prog 29 #[.pointer (some ⟨B, 0, none⟩), .iface 59 x] w (SetQ w h B [t] fs []) := by
  have hl := hq.lt
  obtain ⟨X, Z, qv, fv, sv, p2, p3, p8, hX, hbx, hr, hqr, h2, h3, h8⟩ := hq
  obtain ⟨c0, c1, c2, c3, c4, c5, c6, c7, c8, cf, cl⟩ := cells9' hbx
  have hne := Nat.ne_of_lt cl
  have Hs := Lib.hid hs
  have H2 := Lib.hid h2
  have H3 := Lib.hid h3
  have H8 := Lib.hid h8
  have Hr := Lib.hid hr
  have Hqr := Lib.hid hqr
  have Hbx := Lib.hid hbx
  have HX := Lib.hid hX
  clear hs h2 h3 h8 hr hqr hbx hX
  clear Hqr
  go_enter Tryz.func29, Tryz.ntmps29
  go_wp2
  go_ret
  have hr1 := Hr.out.set ⟨B, 0, none⟩ (.iface 59 x) HX.out
  have hkeepX : ∀ b ∈ X, b ≠ B → b < w.heap.size → (w.setCell ⟨B, 0, none⟩ (.iface 59 x)).heap[b]? = w.heap[b]? := fun b _ hne _ => heap_setCell_other _ _ _ _ (by simpa using hne)
  have hkq : Keeps (fun b => b < h) w (w.setCell ⟨B, 0, none⟩ (.iface 59 x)) := fun b hb _ => heap_setCell_other _ _ _ _ (by simp; omega)
  refine ⟨by simp, ⟨X, Z, _, fv, sv, p2, p3, p8, HX.out, ?_, hr1, query_law.keep Hs.out hkq, H2.out.keep (fun _ h => h) hkeepX, H3.out.keep (fun _ h => h) hkeepX, H8.out.keep (fun _ h => h) hkeepX⟩, (Below.refl _ _).setCell (by simp; omega) _⟩
  rw [set9' Hbx.out]; rfl
end Go.Proofs.YtbcnhcpgloncdaaGreatDoor
