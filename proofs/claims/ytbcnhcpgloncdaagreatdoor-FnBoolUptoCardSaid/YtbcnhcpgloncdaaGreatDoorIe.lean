/- 'With': a map with a tree for a key. -/
import Derived.Test.YtbcnhcpgloncdaaGreatDoorId
import Derived.Deep.CutRange
namespace Go.Proofs.YtbcnhcpgloncdaaGreatDoor
open Go Go.RowKit Go.BigFrame

/-- A tree comes back; what it leads to is in S, or new. -/
def TreeS (w : World) (S : Nat → Prop) (t : Tr) (e : Ending) (w' : World) : Prop := ∃ v : TV, e = .returned v.val ∧ RepT w' (fun b => S b ∨ w.heap.size ≤ b) v t ∧ Below w.heap.size w w'

/-- A map that is being made: in a box at block B, its rows from B + 1 on; its kids lie in w0. -/
structure MapS (w0 : World) (S : Nat → Prop) (B : Nat) (wr : World) (ks : List ByteArray) (ts : List Tr) (kv cv : Value) : Prop where
  box : Box6 wr B (.int .i64 5) (.string ⟨#[]⟩) (.float .f64 0) (.bool false) kv cv
  keys : wr.ownsRow (B + 1) 9 1 kv ks.length (ks.map Value.string)
  kids : ∃ vs : List TV, vs.length = ts.length ∧ wr.ownsRow (B + 1) 31 6 cv ts.length (vs.flatMap TV.cells) ∧ ∀ (i : Nat) (v : TV) (t : Tr), vs[i]? = some v → ts[i]? = some t → RepT w0 S v t
  far : ∀ b, kv.ownBlock = some b → cv.ownBlock ≠ some b
  bel : Below B w0 wr
  size : B + 1 ≤ wr.heap.size

theorem own_box_ne {w : World} {base e sz n : Nat} {v : Value} {xs : List Value} {B : Nat} (h : w.ownsRow base e sz v n xs) (hB : B < base) : v.ownBlock ≠ some B := by
  intro e'
  have := (h.lt B e').1
  omega

theorem MapS.addKey {w0 wr X w1 : World} {S : Nat → Prop} {B g cap : Nat} {ks : List ByteArray} {ts : List Tr} {kv cv : Value} {k : ByteArray} (h : MapS w0 S B wr ks ts kv cv) (hX : Below wr.heap.size wr X) (hXs : X.heap.size = wr.heap.size + 1)
    (hown : w1.ownsRow (B + 1) 9 1 (.slice (some ⟨g, 0, none⟩) (ks.length + 1) cap) (ks.length + 1) (ks.map Value.string ++ [.string k])) (hg : X.grownBy w1 kv.ownBlock) (hat : kv.ownBlock = some g ∨ g = wr.heap.size + 1) :
    MapS w0 S B (w1.setCell ⟨B, 4, none⟩ (.slice (some ⟨g, 0, none⟩) (ks.length + 1) cap)) (ks ++ [k]) ts (.slice (some ⟨g, 0, none⟩) (ks.length + 1) cap) cv := by
  obtain ⟨vs, hvl, hkids, hreps⟩ := h.kids
  have hsz := h.size
  have hg1 := hg.size
  have hgB : g ≠ B := by
    rcases hat with e | e
    · have := (h.keys.lt g e).1; omega
    · omega
  have hset : w1.grownBy (w1.setCell ⟨B, 4, none⟩ (.slice (some ⟨g, 0, none⟩) (ks.length + 1) cap)) (some B) := grownBy_setCell w1 ⟨B, 4, none⟩ _
  have hbox1 : Box6 w1 B (.int .i64 5) (.string ⟨#[]⟩) (.float .f64 0) (.bool false) kv cv :=
    Box6.keep (Box6.keep h.box (hX.block B (by omega))) (hg.block B (by omega) (by intro e; exact own_box_ne h.keys (by omega) e.symm))
  have hcne : cv.ownBlock = none ∨ cv.ownBlock ≠ kv.ownBlock := by
    cases e : cv.ownBlock with
    | none => exact .inl rfl
    | some b => exact .inr (fun e' => h.far b e'.symm e)
  have hkids1 : w1.ownsRow (B + 1) 31 6 cv ts.length (vs.flatMap TV.cells) := by
    have h1 := ownsRow_below hkids hX
    rcases hcne with e | e
    · exact h1.kept hg (.inl e)
    · exact h1.kept hg (.inr e)
  refine ⟨hbox1.set4 _, ?_, ⟨vs, hvl, hkids1.kept hset (.inr (own_box_ne hkids (by omega))), hreps⟩, ?_, ?_, ?_⟩
  · have := hown.kept hset (.inr (by simpa [Value.ownBlock] using hgB))
    simpa using this
  · intro b hb e
    have e' : g = b := by simpa [Value.ownBlock] using hb
    subst e'
    rcases hat with e2 | e2
    · exact h.far g e2 e
    · have := (hkids.lt g e).2; omega
  · have h1 : Below B w0 X := h.bel.trans (hX.mono (by omega))
    exact (h1.grown hg (by omega) (fun k hk => by have := (h.keys.lt k hk).1; omega)).setCell (by simp) _
  · simp; omega

theorem MapS.addKid {w0 wr X w1 : World} {S : Nat → Prop} {B g cap : Nat} {ks : List ByteArray} {ts : List Tr} {kv cv : Value} {v : TV} {t : Tr} {cs : List Value} (hcs : cs = v.cells) (h : MapS w0 S B wr ks ts kv cv) (hX : Below wr.heap.size wr X) (hXs : X.heap.size = wr.heap.size + 1)
    (hr : RepT w0 S v t) (hown : ∀ vs : List TV, vs.length = ts.length → wr.ownsRow (B + 1) 31 6 cv ts.length (vs.flatMap TV.cells) → w1.ownsRow (B + 1) 31 6 (.slice (some ⟨g, 0, none⟩) (ts.length + 1) cap) (ts.length + 1) (vs.flatMap TV.cells ++ cs)) (hg : X.grownBy w1 cv.ownBlock) (hat : cv.ownBlock = some g ∨ g = wr.heap.size + 1) :
    MapS w0 S B (w1.setCell ⟨B, 5, none⟩ (.slice (some ⟨g, 0, none⟩) (ts.length + 1) cap)) ks (ts ++ [t]) kv (.slice (some ⟨g, 0, none⟩) (ts.length + 1) cap) := by
  subst hcs
  obtain ⟨vs, hvl, hkids, hreps⟩ := h.kids
  have hsz := h.size
  have hg1 := hg.size
  have hgB : g ≠ B := by
    rcases hat with e | e
    · have := (hkids.lt g e).1; omega
    · omega
  have hset : w1.grownBy (w1.setCell ⟨B, 5, none⟩ (.slice (some ⟨g, 0, none⟩) (ts.length + 1) cap)) (some B) := grownBy_setCell w1 ⟨B, 5, none⟩ _
  have hbox1 : Box6 w1 B (.int .i64 5) (.string ⟨#[]⟩) (.float .f64 0) (.bool false) kv cv :=
    Box6.keep (Box6.keep h.box (hX.block B (by omega))) (hg.block B (by omega) (by intro e; exact own_box_ne hkids (by omega) e.symm))
  have hcne : kv.ownBlock = none ∨ kv.ownBlock ≠ cv.ownBlock := by
    cases e : kv.ownBlock with
    | none => exact .inl rfl
    | some b => exact .inr (fun e' => h.far b e e'.symm)
  have hkeys1 : w1.ownsRow (B + 1) 9 1 kv ks.length (ks.map Value.string) := by
    have h1 := ownsRow_below h.keys hX
    rcases hcne with e | e
    · exact h1.kept hg (.inl e)
    · exact h1.kept hg (.inr e)
  refine ⟨hbox1.set5 _, hkeys1.kept hset (.inr (own_box_ne h.keys (by omega))), ⟨vs ++ [v], by simp [hvl], ?_, ?_⟩, ?_, ?_, ?_⟩
  · have := (hown vs hvl hkids).kept hset (.inr (by simpa [Value.ownBlock] using hgB))
    simpa using this
  · intro i u t' hu ht
    by_cases hi : i < vs.length
    · rw [List.getElem?_append_left hi] at hu
      rw [List.getElem?_append_left (by omega)] at ht
      exact hreps i u t' hu ht
    · have hi' : i = vs.length := by
        have := (List.getElem?_eq_some_iff.1 hu).1
        simp at this; omega
      subst hi'
      rw [List.getElem?_append_right (Nat.le_refl _), Nat.sub_self] at hu
      rw [List.getElem?_append_right (by omega), hvl, Nat.sub_self] at ht
      obtain rfl : v = u := by simpa using hu
      obtain rfl : t = t' := by simpa using ht
      exact hr
  · intro b hb e
    have e' : g = b := by simpa [Value.ownBlock] using e
    subst e'
    rcases hat with e2 | e2
    · exact h.far g hb e2
    · have := (h.keys.lt g hb).2; omega
  · have h1 : Below B w0 X := h.bel.trans (hX.mono (by omega))
    exact (h1.grown hg (by omega) (fun k hk => by have := (hkids.lt k hk).1; omega)).setCell (by simp) _
  · simp; omega

def mapE (es : List (ByteArray × Tr)) : Tr := mapT (es.map (·.1)) (es.map (·.2))

/-- The map that is made, as a tree. -/
theorem MapS.rep {w0 wr : World} {S : Nat → Prop} {B : Nat} {ks : List ByteArray} {ts : List Tr} {ka ca : Option Addr} {kn kc cn cc : Nat} (h : MapS w0 S B wr ks ts (.slice ka kn kc) (.slice ca cn cc)) (hS : ∀ b, S b → b < B) (hkl : ks.length ≤ 9223372036854775807) (htl : ts.length ≤ 9223372036854775807)
    (H : Nat) (hH : H ≤ B + 1) : RepT wr (fun b => S b ∨ H ≤ b) ⟨5, ⟨#[]⟩, 0, false, ka, kn, kc, ca, cn, cc⟩ (mapT ks ts) := by
  obtain ⟨vs, hvl, hkids, hreps⟩ := h.kids
  have hkn : kn = ks.length := by
    rcases h.keys.2 with ⟨e, h0⟩ | ⟨g, cap, cur, e, _⟩
    · cases e; exact h0.symm
    · cases e; rfl
  have hcn : cn = ts.length := by
    rcases hkids.2 with ⟨e, h0⟩ | ⟨g, cap, cur, e, _⟩
    · cases e; exact h0.symm
    · cases e; rfl
  have hkeep : Keeps S w0 wr := fun b hb _ => h.bel.block b (hS b hb)
  refine .mk _ _ (fun i => vs.getD i default) ⟨by simp only [mapT, Tr.text]; decide, hkl, htl⟩ rfl rfl rfl rfl hkn ?_ hcn ?_ ?_
  · intro h0
    simp only [mapT, Tr.keys] at h0
    rcases h.keys.2 with ⟨e, h1⟩ | ⟨g, cap, cur, e, hb, hh, _, _, _, htk⟩
    · omega
    · cases e
      refine ⟨g, 0, rfl, .inr (by omega), fun i hi j u hu => ?_⟩
      simp only [mapT, Tr.keys] at hi hu
      have hj : j = 0 := by
        have := (List.getElem?_eq_some_iff.1 hu).1
        simpa using this
      subst hj
      have hc : cur.toList[i]? = some u := by
        have := congrArg (fun l => l[i]?) htk
        simp only [Nat.mul_one] at this
        rw [List.getElem?_take_of_lt hi] at this
        rw [this, ← hu]
        simp [hi]
      have hc' : cur[i]? = some u := by simpa using hc
      simp [World.cell?, hh, hc']
  · intro h0
    simp only [mapT, Tr.kids] at h0
    rcases hkids.2 with ⟨e, h1⟩ | ⟨g, cap, cur, e, hb, _⟩
    · omega
    · cases e
      refine ⟨g, 0, rfl, .inr (by omega), row_of_own TV.cells (fun x => by simp) vs hvl hkids _ ?_⟩
      intro i hi
      simp [hi]
  · intro i k hk
    simp only [mapT, Tr.kids] at hk
    have hi : i < vs.length := by rw [hvl]; exact (List.getElem?_eq_some_iff.1 hk).1
    have := ((hreps i vs[i] k (by simp) hk).keep hkeep).mono (S' := fun b => S b ∨ H ≤ b) (fun b _ hb => .inl hb)
    simpa [hi] using this
end Go.Proofs.YtbcnhcpgloncdaaGreatDoor
