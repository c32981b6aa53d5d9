/- Builders of score functions: their fields, told by settings. -/
import Derived.Test.YtbcnhcpgloncdaaGreatDoorQIi
namespace Go.Proofs.YtbcnhcpgloncdaaGreatDoor
open Go Go.RowKit Go.BigFrame Go.Maps

/-- The value that a single tree stands for. -/
def leafTy (t : Tr) : TypeId := if t.kind = 1 then 9 else if t.kind = 2 then 28 else 4
def leafX (t : Tr) : Value := if t.kind = 1 then .string t.text else if t.kind = 2 then .float .f64 t.num else .bool t.yes
theorem plain_val (t : Tr) (v : TV) (S : Nat → Prop) (w : World) (hv : RepT w S v t) (hk : t.kind = 1 ∨ t.kind = 2 ∨ t.kind = 3) : Calls Tryz.prog 121 #[v.val] w fun e w' => e = .returned (.iface (leafTy t) (leafX t)) ∧ Below w.heap.size w w' := by
  obtain ⟨q1, q2, q3, q4, q5, q6⟩ := hv.eqs
  obtain ⟨kind, text, num, yes, ka, kn, kc, ca, cn, cc⟩ := v
  simp only at q1 q2 q3 q4 q5 q6
  have hL : leafTy t = if kind = 1 then 9 else if kind = 2 then 28 else 4 := by unfold leafTy; rw [q1]
  have hX : leafX t = if kind = 1 then .string text else if kind = 2 then .float .f64 num else .bool yes := by unfold leafX; rw [q1, q2, q3, q4]
  rw [← q1] at hk
  clear q1 q2 q3 q4 q5 q6 hv
  have HL := Lib.hid hL; clear hL
  have HX := Lib.hid hX; clear hX
  rcases hk with rfl | rfl | rfl
  · go_enter Tryz.func121, Tryz.ntmps121
    go_wp2_with fail
    go_ret
    exact ⟨by rw [HL.out, HX.out]; simp, (Below.refl _ _).alloc (Nat.le_refl _) _⟩
  · go_enter Tryz.func121, Tryz.ntmps121
    go_wp2_with fail
    go_ret
    exact ⟨by rw [HL.out, HX.out]; simp, (Below.refl _ _).alloc (Nat.le_refl _) _⟩
  · go_enter Tryz.func121, Tryz.ntmps121
    go_wp2_with fail
    go_ret
    exact ⟨by rw [HL.out, HX.out]; simp, (Below.refl _ _).alloc (Nat.le_refl _) _⟩
theorem leaf_any {t : Tr} (hs : scalarT t = true) (hz : t.text.size ≤ 9223372036854775807) (w : World) (S : Nat → Prop) : AnyAt w S (.iface (leafTy t) (leafX t)) (leafT t) := by
  unfold leafTy leafX leafT
  by_cases h1 : t.kind = 1
  · simp only [h1, if_true]; exact .str _ hz
  · simp only [h1, if_false]
    by_cases h2 : t.kind = 2
    · simp only [h2, if_true]; exact .num _
    · simp only [h2, if_false]
      have h3 : t.kind = 3 := by
        unfold scalarT at hs
        split at hs
        · cases hs
        · simpa [h1, h2] using hs
      simp only [h3, if_true]
      exact .yes _

/-- The kinds of a score function's fields. -/
inductive GK where
  | fixed (s : ByteArray) | flt (x : Nat) | text (nm : ByteArray) | num (nm : ByteArray) | any (nm : ByteArray) | seed (nm : ByteArray)

/-- What a field holds, once the settings 'done' have been told. -/
def GOK (w : World) (S : Nat → Prop) (done : List SetM) (k : GK) (u : Value) : Prop :=
  match k with
  | .fixed s => u = .string s
  | .flt x => u = .float .f64 x
  | .text nm => u = .string (textLast done nm)
  | .num nm => match lastOf done nm with | none => u = .pointer none | some t => ∃ b, u = .pointer (some ⟨b, 0, none⟩) ∧ S b ∧ w.cell? ⟨b, 0, none⟩ = some (.float .f64 t.num)
  | .any nm => match lastOf done nm with | none => u = .nilIface | some t => u = .iface (leafTy t) (leafX t)
  | .seed nm => match lastOf done nm with | none => u = .nilIface | some t => u = .iface 2 (.int .i64 (toI t.num))
/-- Is the field told by this setting? -/
def GK.by (k : GK) (nm : ByteArray) : Bool :=
  match k with
  | .text n => decide (n = nm) | .num n => decide (n = nm) | .any n => decide (n = nm) | .seed n => decide (n = nm)
  | _ => false
theorem GOK.keep {w w' : World} {S : Nat → Prop} {done : List SetM} {k : GK} {u : Value} (h : GOK w S done k u) (hk : Keeps S w w') : GOK w' S done k u := by
  cases k with
  | num nm =>
    unfold GOK at *
    simp only at *
    split
    · rename_i e; rw [e] at h; exact h
    · rename_i t e
      rw [e] at h
      obtain ⟨b, h1, h2, h3⟩ := h
      exact ⟨b, h1, h2, (World.cell?_of_block (w := w) (a := ⟨b, 0, none⟩) (hk b h2 (World.block_lt_of_cell? w _ h3))).trans h3⟩
  | _ => exact h
theorem GOK.mono {w : World} {S S' : Nat → Prop} {done : List SetM} {k : GK} {u : Value} (h : GOK w S done k u) (hS : ∀ b, b < w.heap.size → S b → S' b) : GOK w S' done k u := by
  cases k with
  | num nm =>
    unfold GOK at *
    simp only at *
    split
    · rename_i e; rw [e] at h; exact h
    · rename_i t e
      rw [e] at h
      obtain ⟨b, h1, h2, h3⟩ := h
      exact ⟨b, h1, hS b (World.block_lt_of_cell? w _ h3) h2, h3⟩
  | _ => exact h
theorem GOK.other {w : World} {S : Nat → Prop} {done : List SetM} {k : GK} {u : Value} (h : GOK w S done k u) (s : SetM) (hn : k.by s.name = false) : GOK w S (done ++ [s]) k u := by
  have hne : ∀ nm, decide (nm = s.name) = false → lastOf (done ++ [s]) nm = lastOf done nm := fun nm hh => by
    rw [lastOf_snoc, if_neg (fun e => by simp [e] at hh)]
  cases k with
  | fixed s => exact h
  | flt x => exact h
  | text nm => simp only [GOK, textLast, hne nm hn] at *; exact h
  | num nm => simp only [GOK, hne nm hn] at *; exact h
  | any nm => simp only [GOK, hne nm hn] at *; exact h
  | seed nm => simp only [GOK, hne nm hn] at *; exact h

/-- A builder in block B; what it leads to lies in S. -/
def GSt (w : World) (S : Nat → Prop) (B : Nat) (ks : List GK) (ty : TypeId) (done : List SetM) : Prop :=
  S B ∧ ∃ cs : List Value, w.heap[B]? = some (.cells cs.toArray ty (0, 0)) ∧ cs.length = ks.length ∧ ∀ (j : Nat) (k : GK) (u : Value), ks[j]? = some k → cs[j]? = some u → GOK w (fun b => S b ∧ b ≠ B) done k u
theorem GSt.lt {w : World} {S : Nat → Prop} {B : Nat} {ks : List GK} {ty : TypeId} {done : List SetM} (h : GSt w S B ks ty done) : B < w.heap.size := by
  obtain ⟨_, cs, h1, _⟩ := h
  exact (Array.getElem?_eq_some_iff.1 h1).1
theorem GSt.keep {w w' : World} {S : Nat → Prop} {B : Nat} {ks : List GK} {ty : TypeId} {done : List SetM} (h : GSt w S B ks ty done) (hk : Keeps S w w') : GSt w' S B ks ty done := by
  have hlt := h.lt
  obtain ⟨hS, cs, h1, h2, h3⟩ := h
  exact ⟨hS, cs, (hk B hS hlt).trans h1, h2, fun j k u hj hu => (h3 j k u hj hu).keep (fun b hb hl => hk b hb.1 hl)⟩
theorem GSt.mono {w : World} {S S' : Nat → Prop} {B : Nat} {ks : List GK} {ty : TypeId} {done : List SetM} (h : GSt w S B ks ty done) (hS : ∀ b, b < w.heap.size → S b → S' b) : GSt w S' B ks ty done := by
  have hlt := h.lt
  obtain ⟨hSB, cs, h1, h2, h3⟩ := h
  exact ⟨hS B hlt hSB, cs, h1, h2, fun j k u hj hu => (h3 j k u hj hu).mono (fun b hl hb => ⟨hS b hl hb.1, hb.2⟩)⟩
theorem GSt.cell {w : World} {S : Nat → Prop} {B : Nat} {ks : List GK} {ty : TypeId} {done : List SetM} (h : GSt w S B ks ty done) (j : Nat) (k : GK) (hk : ks[j]? = some k) :
    ∃ u, w.cell? ⟨B, j, none⟩ = some u ∧ GOK w (fun b => S b ∧ b ≠ B) done k u := by
  obtain ⟨_, cs, h1, h2, h3⟩ := h
  have hj : j < cs.length := by rw [h2]; exact (List.getElem?_eq_some_iff.1 hk).1
  exact ⟨cs[j], by simp [World.cell?, h1, hj], h3 j k _ hk (List.getElem?_eq_getElem hj)⟩
theorem GSt.frozen {w : World} {S : Nat → Prop} {B : Nat} {ks : List GK} {ty : TypeId} {done : List SetM} (h : GSt w S B ks ty done) (o : Nat) : w.frozen? ⟨B, o, none⟩ = false := by
  obtain ⟨_, cs, h1, h2, h3⟩ := h
  simp [World.frozen?, h1]
/-- A setter's store. -/
theorem GSt.step {w W : World} {S : Nat → Prop} {B : Nat} {ks : List GK} {ty : TypeId} {done : List SetM} (h : GSt w S B ks ty done) (s : SetM) (j : Nat) (v : Value) (hg : w.grownBy W (some B))
    (hW : ∀ cs, w.heap[B]? = some (.cells cs ty (0, 0)) → W.heap[B]? = some (.cells (cs.setIfInBounds j v) ty (0, 0)))
    (hothers : ∀ (i : Nat) (k : GK), i ≠ j → ks[i]? = some k → k.by s.name = false) (hj : ∀ k, ks[j]? = some k → GOK W (fun b => S b ∧ b ≠ B) (done ++ [s]) k v) : GSt W S B ks ty (done ++ [s]) := by
  obtain ⟨hS, cs, h1, h2, h3⟩ := h
  refine ⟨hS, cs.set j v, ?_, by simpa using h2, fun i k u hk hu => ?_⟩
  · rw [hW _ h1]; simp
  · rw [List.getElem?_set] at hu
    split at hu
    · rename_i he
      subst he
      split at hu
      · cases hu; exact hj k hk
      · cases hu
    · rename_i he
      exact ((h3 i k u hk hu).keep (fun b hb hl => hg.block b hl (fun e => hb.2 (by injection e)))).other s (hothers i k (fun e => he e.symm) hk)
theorem GSt.put {w : World} {S : Nat → Prop} {B : Nat} {ks : List GK} {ty : TypeId} {done : List SetM} (h : GSt w S B ks ty done) (s : SetM) (j : Nat) (v : Value)
    (hothers : ∀ (i : Nat) (k : GK), i ≠ j → ks[i]? = some k → k.by s.name = false) (hj : ∀ k, ks[j]? = some k → GOK (w.setCell ⟨B, j, none⟩ v) (fun b => S b ∧ b ≠ B) (done ++ [s]) k v) : GSt (w.setCell ⟨B, j, none⟩ v) S B ks ty (done ++ [s]) :=
  h.step s j v (grownBy_setCell w ⟨B, j, none⟩ v) (fun cs hc => heap_setCell_same w B j cs ty v hc) hothers hj
theorem GSt.putNew {w : World} {S : Nat → Prop} {B : Nat} {ks : List GK} {ty : TypeId} {done : List SetM} (h : GSt w S B ks ty done) (s : SetM) (j : Nat) (v : Value) (o : Obj)
    (hothers : ∀ (i : Nat) (k : GK), i ≠ j → ks[i]? = some k → k.by s.name = false) (hj : ∀ k, ks[j]? = some k → GOK ((w.setCell ⟨B, j, none⟩ v).alloc o) (fun b => S b ∧ b ≠ B) (done ++ [s]) k v) : GSt ((w.setCell ⟨B, j, none⟩ v).alloc o) S B ks ty (done ++ [s]) :=
  h.step s j v ((grownBy_setCell w ⟨B, j, none⟩ v).andThen (World.grownBy_alloc _ o none) (fun _ hj => by cases hj))
    (fun cs hc => (heap_alloc_old _ _ (by simpa using h.lt)).trans (heap_setCell_same w B j cs ty v hc)) hothers hj
/-- A setter has told the setting. -/
def SetG (w : World) (base B : Nat) (ks : List GK) (ty : TypeId) (done : List SetM) (e : Ending) (w' : World) : Prop := e = .returned (.pointer (some ⟨B, 0, none⟩)) ∧ GSt w' (fun b => base ≤ b) B ks ty done ∧ Below base w w'
/-- No other field is told by the setting. -/
def othersB (ks : List GK) (j : Nat) (nm : ByteArray) : Bool := (List.range ks.length).all fun i => decide (i = j) || !((ks[i]?.map fun k => k.by nm).getD false)
theorem others_of {ks : List GK} {j : Nat} {nm : ByteArray} (h : othersB ks j nm = true) {s : SetM} (hs : s.name = nm) : ∀ (i : Nat) (k : GK), i ≠ j → ks[i]? = some k → k.by s.name = false := by
  intro i k hi hk
  have := List.all_eq_true.1 h i (List.mem_range.2 (List.getElem?_eq_some_iff.1 hk).1)
  rw [hk] at this
  rw [hs]
  simpa [hi] using this
end Go.Proofs.YtbcnhcpgloncdaaGreatDoor
