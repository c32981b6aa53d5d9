/- Slices that a call makes element by element: what they hold, and how they stay. -/
import Derived.Test.YtbcnhcpgloncdaaGreatDoorIf
namespace Go.Proofs.YtbcnhcpgloncdaaGreatDoor
open Go Go.RowKit

/-- How an element stands for data in a world: it stays where its blocks stay. -/
structure RepLaw {α β : Type} (R : World → (Nat → Prop) → α → β → Prop) : Prop where
  keep : ∀ {w w' : World} {S : Nat → Prop} {v : α} {t : β}, R w S v t → Keeps S w w' → R w' S v t
  mono : ∀ {w : World} {S S' : Nat → Prop} {v : α} {t : β}, R w S v t → (∀ b, b < w.heap.size → S b → S' b) → R w S' v t

theorem RepLaw.rekeep {α β : Type} {R : World → (Nat → Prop) → α → β → Prop} (hR : RepLaw R) {w w' : World} {S S' : Nat → Prop} {v : α} {t : β} (h : R w S v t) (hk : ∀ b, b < w.heap.size → S b → w'.heap[b]? = w.heap[b]? ∧ S' b) : R w' S' v t := by
  have h1 := hR.mono (S' := fun b => b < w.heap.size ∧ S b) h (fun b hb hs => ⟨hb, hs⟩)
  have h2 := hR.keep (w' := w') h1 (fun b hb hlt => (hk b hlt hb.2).1)
  exact hR.mono h2 (fun b _ hb => (hk b hb.1 hb.2).2)

/-- An owned slice of 'ts'. -/
def OwnL {α β : Type} (R : World → (Nat → Prop) → α → β → Prop) (cells : α → List Value) (e : TypeId) (sz : Nat) (w : World) (S : Nat → Prop) (base : Nat) (kv : Value) (ts : List β) : Prop :=
  ∃ vs : List α, vs.length = ts.length ∧ w.ownsRow base e sz kv ts.length (vs.flatMap cells) ∧ ∀ (i : Nat) (v : α) (t : β), vs[i]? = some v → ts[i]? = some t → R w (fun b => S b ∧ kv.ownBlock ≠ some b) v t

section
variable {α β : Type} {R : World → (Nat → Prop) → α → β → Prop} {cells : α → List Value} {e : TypeId} {sz : Nat} {w : World} {S : Nat → Prop} {base : Nat} {kv : Value} {ts : List β}

theorem OwnL.nil (w : World) (S : Nat → Prop) (base : Nat) : OwnL R cells e sz w S base (.slice none 0 0) [] :=
  ⟨[], rfl, ⟨by simp, .inl ⟨rfl, rfl⟩⟩, fun i v t h => by simp at h⟩
theorem OwnL.made {cap : Nat} {g : Nat} (h : w.ownsRow base e sz (.slice (some ⟨g, 0, none⟩) 0 cap) 0 []) : OwnL R cells e sz w S base (.slice (some ⟨g, 0, none⟩) 0 cap) [] :=
  ⟨[], rfl, by simpa using h, fun i v t h => by simp at h⟩
theorem OwnL.form (h : OwnL R cells e sz w S base kv ts) : ∃ a c, kv = .slice a ts.length c := by
  obtain ⟨vs, h1, h2, h3⟩ := h
  rcases h2.2 with ⟨e1, h0⟩ | ⟨g, cap, cur, e1, _⟩
  · exact ⟨none, 0, by rw [e1, h0]⟩
  · exact ⟨_, _, e1⟩
theorem OwnL.lt (h : OwnL R cells e sz w S base kv ts) : ∀ k, kv.ownBlock = some k → base ≤ k ∧ k < w.heap.size := by
  obtain ⟨vs, h1, h2, h3⟩ := h
  exact h2.lt
theorem OwnL.kept {w' : World} {row : Option Nat} (hR : RepLaw R) (h : OwnL R cells e sz w S base kv ts) (hg : w.grownBy w' row) (h1 : kv.ownBlock = none ∨ kv.ownBlock ≠ row) (h2 : ∀ k, row = some k → ¬ S k) : OwnL R cells e sz w' S base kv ts := by
  obtain ⟨vs, hvl, hown, hreps⟩ := h
  refine ⟨vs, hvl, hown.kept hg h1, fun i v t hv ht => hR.keep (hreps i v t hv ht) (fun b hb hlt => hg.block b hlt (fun e => h2 b e.symm hb.1))⟩
theorem OwnL.below {w' : World} (hR : RepLaw R) (h : OwnL R cells e sz w S base kv ts) (hb : Below w.heap.size w w') : OwnL R cells e sz w' S base kv ts :=
  h.kept hR (Below.grow hb) (by cases e : kv.ownBlock <;> simp) (fun k hk => by cases hk)
theorem OwnL.setCell (hR : RepLaw R) (h : OwnL R cells e sz w S base kv ts) (a : Addr) (u : Value) (h1 : kv.ownBlock ≠ some a.block) (h2 : ¬ S a.block) : OwnL R cells e sz (w.setCell a u) S base kv ts :=
  h.kept hR (grownBy_setCell w a u) (.inr h1) (fun k hk => by cases hk; exact h2)
theorem OwnL.mono {S' : Nat → Prop} {base' : Nat} (hR : RepLaw R) (h : OwnL R cells e sz w S base kv ts) (hS : ∀ b, b < w.heap.size → S b → S' b) (hb : base' ≤ base) : OwnL R cells e sz w S' base' kv ts := by
  obtain ⟨vs, hvl, hown, hreps⟩ := h
  refine ⟨vs, hvl, ⟨hown.1, ?_⟩, fun i v t hv ht => hR.mono (hreps i v t hv ht) (fun b hlt hb => ⟨hS b hlt hb.1, hb.2⟩)⟩
  rcases hown.2 with h0 | ⟨g, cap, cur, e1, h1, hr⟩
  · exact .inl h0
  · exact .inr ⟨g, cap, cur, e1, by omega, hr⟩

/-- Behind an append of 'nts', at a world wx at which all lie. -/
theorem OwnL.more {wx w1 : World} {vs us : List α} {nts : List β} {g cap H N : Nat} {xs : List Value} (hR : RepLaw R) (hvl : vs.length = ts.length)
    (hreps : ∀ (i : Nat) (v : α) (t : β), vs[i]? = some v → ts[i]? = some t → R wx (fun b => S b ∧ kv.ownBlock ≠ some b) v t) (hul : us.length = nts.length)
    (hnew : ∀ (i : Nat) (v : α) (t : β), us[i]? = some v → nts[i]? = some t → R wx (fun b => S b ∧ kv.ownBlock ≠ some b) v t)
    (hown : w1.ownsRow base e sz (.slice (some ⟨g, 0, none⟩) N cap) N xs) (hg : wx.grownBy w1 kv.ownBlock) (hat : kv.ownBlock = some g ∨ g = H) (hH : wx.heap.size ≤ H) (hN : N = ts.length + nts.length) (hxs : xs = vs.flatMap cells ++ us.flatMap cells) :
    OwnL R cells e sz w1 S base (.slice (some ⟨g, 0, none⟩) N cap) (ts ++ nts) := by
  subst hN hxs
  have hre : ∀ {v : α} {t : β}, R wx (fun b => S b ∧ kv.ownBlock ≠ some b) v t → R w1 (fun b => S b ∧ (Value.slice (some ⟨g, 0, none⟩) (ts.length + nts.length) cap).ownBlock ≠ some b) v t := by
    intro v t h
    refine hR.rekeep h (fun b hlt hb => ⟨hg.block b hlt (fun e => hb.2 e.symm), hb.1, fun e => ?_⟩)
    have e' : g = b := by simpa [Value.ownBlock] using e
    rcases hat with h1 | h1
    · exact hb.2 (by rw [h1, e'])
    · omega
  refine ⟨vs ++ us, by simp [hvl, hul], by simpa using hown, fun i v t hv ht => ?_⟩
  by_cases hi : i < vs.length
  · rw [List.getElem?_append_left hi] at hv
    rw [List.getElem?_append_left (by omega)] at ht
    exact hre (hreps i v t hv ht)
  · rw [List.getElem?_append_right (by omega)] at hv
    rw [List.getElem?_append_right (by omega)] at ht
    rw [hvl] at hv
    exact hre (hnew _ v t hv ht)
theorem OwnL.one {wx w1 : World} {vs : List α} {u : α} {nt : β} {g cap H N : Nat} {xs : List Value} (hR : RepLaw R) (hvl : vs.length = ts.length)
    (hreps : ∀ (i : Nat) (v : α) (t : β), vs[i]? = some v → ts[i]? = some t → R wx (fun b => S b ∧ kv.ownBlock ≠ some b) v t)
    (hnew : R wx (fun b => S b ∧ kv.ownBlock ≠ some b) u nt)
    (hown : w1.ownsRow base e sz (.slice (some ⟨g, 0, none⟩) N cap) N xs) (hg : wx.grownBy w1 kv.ownBlock) (hat : kv.ownBlock = some g ∨ g = H) (hH : wx.heap.size ≤ H) (hN : N = ts.length + 1) (hxs : xs = vs.flatMap cells ++ cells u) :
    OwnL R cells e sz w1 S base (.slice (some ⟨g, 0, none⟩) N cap) (ts ++ [nt]) :=
  OwnL.more (us := [u]) hR hvl hreps rfl (fun i v t hv ht => by
    have hi : i = 0 := by have := (List.getElem?_eq_some_iff.1 hv).1; simpa using this
    subst hi
    simp at hv ht
    subst hv ht
    exact hnew) hown hg hat hH hN (by simpa using hxs)

/-- What its cells are. -/
theorem OwnL.slice (h : OwnL R cells e sz w S base kv ts) (hc : ∀ x, (cells x).length = sz) {S' : Nat → Prop} (hS : ∀ b, base ≤ b → S' b) (d : α) : ∃ (a : Option Addr) (c : Nat) (vs : Nat → α), kv = .slice a ts.length c ∧ SliceAt w S' a sz ts.length (fun i => cells (vs i)) ∧
    ∀ (i : Nat) (t : β), ts[i]? = some t → R w (fun b => S b ∧ kv.ownBlock ≠ some b) (vs i) t := by
  obtain ⟨vs, hvl, hown, hreps⟩ := h
  have hrep : ∀ (i : Nat) (t : β), ts[i]? = some t → R w (fun b => S b ∧ kv.ownBlock ≠ some b) (vs.getD i d) t := by
    intro i t ht
    have hi : i < vs.length := by rw [hvl]; exact (List.getElem?_eq_some_iff.1 ht).1
    have := hreps i vs[i] t (by simp) ht
    simpa [hi] using this
  rcases hown.2 with ⟨e1, h0⟩ | ⟨g, cap, cur, e1, hb, _⟩
  · refine ⟨none, 0, fun i => vs.getD i d, by rw [e1, h0], by rw [h0]; exact SliceAt.nil, hrep⟩
  · subst e1
    refine ⟨some ⟨g, 0, none⟩, cap, fun i => vs.getD i d, rfl, fun _ => ⟨g, 0, rfl, hS g hb, row_of_own cells hc vs hvl hown _ ?_⟩, hrep⟩
    intro i hi
    simp [hi]
end

theorem rep_law : RepLaw (fun w S (v : TV) (t : Tr) => RepT w S v t) := ⟨fun h hk => h.keep hk, fun h hS => h.mono hS⟩
theorem any_law : RepLaw AnyAt := ⟨fun h hk => h.keep hk, fun h hS => h.mono hS⟩

/-- A pair of a key and a tree. -/
def PairR (w : World) (S : Nat → Prop) (p : ByteArray × TV) (s : SetM) : Prop := p.1 = s.name ∧ RepT w S p.2 s.val
theorem pair_law : RepLaw PairR := ⟨fun h hk => ⟨h.1, h.2.keep hk⟩, fun h hS => ⟨h.1, h.2.mono hS⟩⟩
abbrev pairCells (p : ByteArray × TV) : List Value := .string p.1 :: p.2.cells

/-- A query that is a tree. -/
def QueryR (w : World) (S : Nat → Prop) (v : Value) (t : Tr) : Prop := ∃ u : TV, v = .iface 59 u.val ∧ RepT w S u t
theorem query_law : RepLaw QueryR := ⟨fun ⟨u, h1, h2⟩ hk => ⟨u, h1, h2.keep hk⟩, fun ⟨u, h1, h2⟩ hS => ⟨u, h1, h2.mono hS⟩⟩

theorem OwnL.sets {e : TypeId} {w : World} {S : Nat → Prop} {base : Nat} {kv : Value} {ps : List SetM} (h : OwnL PairR pairCells e 7 w S base kv ps) : ∃ a c, kv = .slice a ps.length c ∧ SetsAt w (fun _ => True) a ps := by
  obtain ⟨a, c, vs, h1, h2, h3⟩ := h.slice (S' := fun _ => True) (fun x => rfl) (fun _ _ => trivial) (ByteArray.empty, default)
  refine ⟨a, c, h1, fun i => (vs i).2, ?_, fun i s hs => (h3 i s hs).2.mono (fun _ _ _ => trivial)⟩
  intro hn
  obtain ⟨b, o, e1, e2, hr⟩ := h2 hn
  refine ⟨b, o, e1, e2, fun i hi j u hu => hr i hi j u ?_⟩
  have := (h3 i ps[i] (List.getElem?_eq_getElem hi)).1
  rw [← hu]
  simp only [pairCells, this]
  simp [hi]
theorem OwnL.trees {e : TypeId} {w : World} {S : Nat → Prop} {base : Nat} {kv : Value} {ts : List Tr} (h : OwnL (fun w S (v : TV) (t : Tr) => RepT w S v t) TV.cells e 6 w S base kv ts) : ∃ a c, kv = .slice a ts.length c ∧ TreesAt w (fun _ => True) a ts := by
  obtain ⟨a, c, vs, h1, h2, h3⟩ := h.slice (S' := fun _ => True) (fun x => rfl) (fun _ _ => trivial) default
  exact ⟨a, c, h1, vs, h2, fun i t ht => (h3 i t ht).mono (fun _ _ _ => trivial)⟩

/-- A tree comes back. -/
def TreeA (w : World) (t : Tr) (e : Ending) (w' : World) : Prop := ∃ v : TV, e = .returned v.val ∧ RepT w' (fun _ => True) v t ∧ Below w.heap.size w w'
theorem RepT.all {w : World} {S : Nat → Prop} {v : TV} {t : Tr} (h : RepT w S v t) : RepT w (fun _ => True) v t := h.mono (fun _ _ _ => trivial)
theorem RepT.on {w w' : World} {v : TV} {t : Tr} (h : RepT w (fun _ => True) v t) (hb : Below w.heap.size w w') : RepT w' (fun _ => True) v t := h.keep (Keeps.of_below _ hb)
theorem RepT.lts {w : World} {S : Nat → Prop} {v : TV} {t : Tr} (h : RepT w S v t) : RepT w (fun b => b < w.heap.size) v t := h.mono (fun _ hb _ => hb)
end Go.Proofs.YtbcnhcpgloncdaaGreatDoor
