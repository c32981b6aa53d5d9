/- 'impl.QueryString': the builder's state, as a function of the settings that have been told. -/
import Derived.Test.YtbcnhcpgloncdaaGreatDoorGp
import Derived.Test.YtbcnhcpgloncdaaGreatDoorGl
namespace Go.Proofs.YtbcnhcpgloncdaaGreatDoor
open Go Go.RowKit Go.Maps

/-- The kinds of a builder's fields, each with the setting that it is told by. -/
inductive FK where
  | qs | text (nm : ByteArray) | yes (nm : ByteArray) | whole (nm : ByteArray) | num (nm : ByteArray) | noText | noPtr | list | boosts

def fkQS : Nat → FK
  | 0 => .qs
  | 1 => .text ⟨#[100, 101, 102, 97, 117, 108, 116, 95, 102, 105, 101, 108, 100]⟩
  | 2 => .text ⟨#[100, 101, 102, 97, 117, 108, 116, 95, 111, 112, 101, 114, 97, 116, 111, 114]⟩
  | 3 => .text ⟨#[97, 110, 97, 108, 121, 122, 101, 114]⟩
  | 4 => .text ⟨#[113, 117, 111, 116, 101, 95, 97, 110, 97, 108, 121, 122, 101, 114]⟩
  | 5 => .text ⟨#[113, 117, 111, 116, 101, 95, 102, 105, 101, 108, 100, 95, 115, 117, 102, 102, 105, 120]⟩
  | 6 => .yes ⟨#[97, 108, 108, 111, 119, 95, 108, 101, 97, 100, 105, 110, 103, 95, 119, 105, 108, 100, 99, 97, 114, 100]⟩
  | 7 => .noPtr
  | 8 => .yes ⟨#[101, 110, 97, 98, 108, 101, 95, 112, 111, 115, 105, 116, 105, 111, 110, 95, 105, 110, 99, 114, 101, 109, 101, 110, 116, 115]⟩
  | 9 => .yes ⟨#[97, 110, 97, 108, 121, 122, 101, 95, 119, 105, 108, 100, 99, 97, 114, 100]⟩
  | 10 => .noText
  | 11 => .num ⟨#[98, 111, 111, 115, 116]⟩
  | 12 => .text ⟨#[102, 117, 122, 122, 105, 110, 101, 115, 115]⟩
  | 13 => .whole ⟨#[102, 117, 122, 122, 121, 95, 112, 114, 101, 102, 105, 120, 95, 108, 101, 110, 103, 116, 104]⟩
  | 14 => .whole ⟨#[102, 117, 122, 122, 121, 95, 109, 97, 120, 95, 101, 120, 112, 97, 110, 115, 105, 111, 110, 115]⟩
  | 15 => .text ⟨#[102, 117, 122, 122, 121, 95, 114, 101, 119, 114, 105, 116, 101]⟩
  | 16 => .whole ⟨#[112, 104, 114, 97, 115, 101, 95, 115, 108, 111, 112]⟩
  | 17 => .list
  | 18 => .boosts
  | 19 => .num ⟨#[116, 105, 101, 95, 98, 114, 101, 97, 107, 101, 114]⟩
  | 20 => .text ⟨#[114, 101, 119, 114, 105, 116, 101]⟩
  | 21 => .text ⟨#[109, 105, 110, 105, 109, 117, 109, 95, 115, 104, 111, 117, 108, 100, 95, 109, 97, 116, 99, 104]⟩
  | 22 => .yes ⟨#[108, 101, 110, 105, 101, 110, 116]⟩
  | 23 => .text ⟨#[95, 110, 97, 109, 101]⟩
  | 24 => .text ⟨#[116, 105, 109, 101, 95, 122, 111, 110, 101]⟩
  | 25 => .whole ⟨#[109, 97, 120, 95, 100, 101, 116, 101, 114, 109, 105, 110, 105, 122, 101, 100, 95, 115, 116, 97, 116, 101, 115]⟩
  | 26 => .yes ⟨#[101, 115, 99, 97, 112, 101]⟩
  | 27 => .text ⟨#[116, 121, 112, 101]⟩
  | _ => .noText

/-- The whole number that a number is. -/
def toI (x : Nat) : Int := (floatToIntVal .f64 x .i64).getD 0

/-- A field that is a pointer: nil, or to a cell of its own. -/
def PtrOK (w : World) (lo : Nat) (f : Tr → Value) (o : Option Tr) (u : Value) : Prop :=
  match o with
  | none => u = .pointer none
  | some t => ∃ p, u = .pointer (some ⟨p, 0, none⟩) ∧ lo ≤ p ∧ w.cell? ⟨p, 0, none⟩ = some (f t)

theorem PtrOK.keep {w w' : World} {lo : Nat} {f : Tr → Value} {o : Option Tr} {u : Value} (h : PtrOK w lo f o u) (hk : Keeps (fun b => lo ≤ b) w w') : PtrOK w' lo f o u := by
  cases o with
  | none => exact h
  | some t =>
    obtain ⟨p, h1, h2, h3⟩ := h
    have hlt := World.block_lt_of_cell? w _ h3
    exact ⟨p, h1, h2, (World.cell?_of_block (w := w) (a := ⟨p, 0, none⟩) (hk p h2 hlt)).trans h3⟩

/-- The map of boosts. -/
def BoostD (w : World) (lo : Nat) (fs : List SetM) (D : DataW Value) : Prop :=
  match fs with
  | [s] => if s.name = nFieldBoost then ∃ p, D = (DataW.map []).put (.string s.val.text.data.toList) (.held (.pointer (some ⟨p, 0, none⟩))) ∧ lo ≤ p ∧ w.cell? ⟨p, 0, none⟩ = some (.float .f64 s.val.num) else D = .map []
  | _ => D = .map []

theorem BoostD.keep {w w' : World} {lo : Nat} {fs : List SetM} {D : DataW Value} (h : BoostD w lo fs D) (hk : Keeps (fun b => lo ≤ b) w w') : BoostD w' lo fs D := by
  unfold BoostD at *
  split
  · rename_i s
    simp only at h
    split
    · rename_i hn
      rw [if_pos hn] at h
      obtain ⟨p, h1, h2, h3⟩ := h
      have hlt := World.block_lt_of_cell? w _ h3
      exact ⟨p, h1, h2, (World.cell?_of_block (w := w) (a := ⟨p, 0, none⟩) (hk p h2 hlt)).trans h3⟩
    · rename_i hn
      rw [if_neg hn] at h
      exact h
  · rename_i hne
    split at h
    · exact absurd rfl (hne _)
    · exact h

/-- What field j holds, once the settings 'done' have been told. -/
def FieldOK (w : World) (h : Nat) (text : ByteArray) (done : List SetM) (k : FK) (u : Value) : Prop :=
  match k with
  | .qs => u = .string text
  | .text nm => u = .string (((lastOf done nm).map Tr.text).getD ⟨#[]⟩)
  | .yes nm => PtrOK w (h + 4) (fun t => .bool t.yes) (lastOf done nm) u
  | .whole nm => PtrOK w (h + 4) (fun t => .int .i64 (toI t.num)) (lastOf done nm) u
  | .num nm => PtrOK w (h + 4) (fun t => .float .f64 t.num) (lastOf done nm) u
  | .noText => u = .string ⟨#[]⟩
  | .noPtr => u = .pointer none
  | .list => w.ownsRow (h + 1) 9 1 u (done.filter isField).length ((done.filter isField).map fun s => .string s.val.text) ∧ u.ownBlock ≠ some (h + 2) ∧ u.ownBlock ≠ some (h + 3) ∧ (done.filter isField = [] → u = .slice (some ⟨h + 1, 0, none⟩) 0 0)
  | .boosts => u = .map (some (h + 2)) ∧ ∃ n D, w.ownsMap Tryz.prog 9 R9 (h + 2) n D ∧ n ≤ (done.filter isField).length ∧ BoostD w (h + 4) (done.filter isField) D

/-- Is the kind told by this setting? -/
def FK.by (k : FK) (nm : ByteArray) : Bool :=
  match k with
  | .text n => decide (n = nm) | .yes n => decide (n = nm) | .whole n => decide (n = nm) | .num n => decide (n = nm)
  | .list => decide (nm = nField) || decide (nm = nFieldBoost)
  | .boosts => decide (nm = nField) || decide (nm = nFieldBoost)
  | _ => false

theorem lastOf_snoc (done : List SetM) (s : SetM) (nm : ByteArray) : lastOf (done ++ [s]) nm = if s.name = nm then some s.val else lastOf done nm := by
  unfold lastOf
  simp only [List.reverse_append, List.reverse_cons, List.reverse_nil, List.nil_append, List.singleton_append, List.find?_cons]
  by_cases h : s.name = nm <;> simp [h]

/-- A field that the setting does not tell stays what it is, as long as no block but the builder's own turns. -/
theorem FieldOK.other {w w' : World} {h : Nat} {text : ByteArray} {done : List SetM} {k : FK} {u : Value} (hf : FieldOK w h text done k u) (s : SetM) (hn : k.by s.name = false) (hg : w.grownBy w' (some (h + 3))) : FieldOK w' h text (done ++ [s]) k u := by
  have hk : Keeps (fun b => h + 4 ≤ b) w w' := fun b hb hlt => hg.block b hlt (fun e => by injection e with e; omega)
  cases k with
  | qs => exact hf
  | text nm =>
    have hne : s.name ≠ nm := fun e => by simp [FK.by, e] at hn
    simpa [FieldOK, lastOf_snoc, hne] using hf
  | yes nm =>
    have hne : s.name ≠ nm := fun e => by simp [FK.by, e] at hn
    simp only [FieldOK, lastOf_snoc, if_neg hne]
    exact PtrOK.keep hf hk
  | whole nm =>
    have hne : s.name ≠ nm := fun e => by simp [FK.by, e] at hn
    simp only [FieldOK, lastOf_snoc, if_neg hne]
    exact PtrOK.keep hf hk
  | num nm =>
    have hne : s.name ≠ nm := fun e => by simp [FK.by, e] at hn
    simp only [FieldOK, lastOf_snoc, if_neg hne]
    exact PtrOK.keep hf hk
  | noText => exact hf
  | noPtr => exact hf
  | list =>
    have hne : isField s = false := by simpa [FK.by, isField] using hn
    obtain ⟨h1, h2, h3, h4⟩ := hf
    simp only [FieldOK, List.filter_append, List.filter_cons, hne, List.filter_nil, Bool.false_eq_true, if_false, List.append_nil]
    exact ⟨h1.kept hg (by rcases e : u.ownBlock with _ | g; exact .inl rfl; exact .inr (fun e' => h3 (by rw [e, e']))), h2, h3, h4⟩
  | boosts =>
    have hne : isField s = false := by simpa [FK.by, isField] using hn
    obtain ⟨h1, n, D, h2, h3, h4⟩ := hf
    simp only [FieldOK, List.filter_append, List.filter_cons, hne, List.filter_nil, Bool.false_eq_true, if_false, List.append_nil]
    exact ⟨h1, n, D, h2.kept hg (by simp), h3, h4.keep hk⟩

/-- The builder. -/
def QState (w : World) (h : Nat) (fk : Nat → FK) (N : Nat) (ty : TypeId) (text : ByteArray) (done : List SetM) : Prop :=
  ∃ cs : List Value, w.heap[h + 3]? = some (.cells cs.toArray ty (0, 0)) ∧ cs.length = N ∧ ∀ (j : Nat) (u : Value), cs[j]? = some u → FieldOK w h text done (fk j) u

theorem QState.cell {w : World} {h : Nat} {fk : Nat → FK} {N : Nat} {ty : TypeId} {text : ByteArray} {done : List SetM} (hq : QState w h fk N ty text done) {j : Nat} (hj : j < N) :
    ∃ u, w.cell? ⟨h + 3, j, none⟩ = some u ∧ FieldOK w h text done (fk j) u := by
  obtain ⟨cs, hc, hl, hf⟩ := hq
  have hj' : j < cs.length := by omega
  refine ⟨cs[j], ?_, hf j _ (List.getElem?_eq_getElem hj')⟩
  simp [World.cell?, hc, hj']
theorem QState.frozen {w : World} {h : Nat} {fk : Nat → FK} {N : Nat} {ty : TypeId} {text : ByteArray} {done : List SetM} (hq : QState w h fk N ty text done) (o : Nat) : w.frozen? ⟨h + 3, o, none⟩ = false := by
  obtain ⟨cs, hc, hl, hf⟩ := hq
  simp [World.frozen?, hc]
theorem QState.lt {w : World} {h : Nat} {fk : Nat → FK} {N : Nat} {ty : TypeId} {text : ByteArray} {done : List SetM} (hq : QState w h fk N ty text done) : h + 3 < w.heap.size := by
  obtain ⟨cs, hc, hl, hf⟩ := hq
  exact (Array.getElem?_eq_some_iff.1 hc).1

/-- A setter's store. -/
theorem QState.step {w W : World} {h : Nat} {fk : Nat → FK} {N : Nat} {ty : TypeId} {text : ByteArray} {done : List SetM} (hq : QState w h fk N ty text done) (s : SetM) (j : Nat) (v : Value) (hg : w.grownBy W (some (h + 3)))
    (hW : ∀ cs, w.heap[h + 3]? = some (.cells cs ty (0, 0)) → W.heap[h + 3]? = some (.cells (cs.setIfInBounds j v) ty (0, 0)))
    (hothers : ∀ i, i ≠ j → i < N → (fk i).by s.name = false) (hj : FieldOK W h text (done ++ [s]) (fk j) v) : QState W h fk N ty text (done ++ [s]) := by
  obtain ⟨cs, hc, hl, hf⟩ := hq
  refine ⟨cs.set j v, ?_, by simpa using hl, fun i u hu => ?_⟩
  · rw [hW _ hc]
    simp
  · rw [List.getElem?_set] at hu
    split at hu
    · rename_i he
      subst he
      split at hu
      · cases hu; exact hj
      · cases hu
    · rename_i he
      have hi : i < N := by
        have := (List.getElem?_eq_some_iff.1 hu).1
        omega
      exact (hf i u hu).other s (hothers i (fun e => he e.symm) hi) hg

/-- .. of a text: at once; of a pointer: a block of its own is made. -/
theorem QState.put {w : World} {h : Nat} {fk : Nat → FK} {N : Nat} {ty : TypeId} {text : ByteArray} {done : List SetM} (hq : QState w h fk N ty text done) (s : SetM) (j : Nat) (v : Value)
    (hothers : ∀ i, i ≠ j → i < N → (fk i).by s.name = false) (hj : FieldOK (w.setCell ⟨h + 3, j, none⟩ v) h text (done ++ [s]) (fk j) v) : QState (w.setCell ⟨h + 3, j, none⟩ v) h fk N ty text (done ++ [s]) :=
  hq.step s j v (grownBy_setCell w ⟨h + 3, j, none⟩ v) (fun cs hc => heap_setCell_same w (h + 3) j cs ty v hc) hothers hj
theorem QState.putNew {w : World} {h : Nat} {fk : Nat → FK} {N : Nat} {ty : TypeId} {text : ByteArray} {done : List SetM} (hq : QState w h fk N ty text done) (s : SetM) (j : Nat) (v : Value) (o : Obj)
    (hothers : ∀ i, i ≠ j → i < N → (fk i).by s.name = false) (hj : FieldOK ((w.setCell ⟨h + 3, j, none⟩ v).alloc o) h text (done ++ [s]) (fk j) v) : QState ((w.setCell ⟨h + 3, j, none⟩ v).alloc o) h fk N ty text (done ++ [s]) :=
  hq.step s j v ((grownBy_setCell w ⟨h + 3, j, none⟩ v).andThen (World.grownBy_alloc _ o none) (fun _ hj => by cases hj))
    (fun cs hc => (heap_alloc_old _ _ (by simpa using hq.lt)).trans (heap_setCell_same w (h + 3) j cs ty v hc)) hothers hj
theorem ptr_new (w : World) (a : Addr) (u x : Value) (e : TypeId) : ((w.setCell a u).alloc (.cells #[x] e)).cell? ⟨w.heap.size, 0, none⟩ = some x := by
  have := World.cell?_alloc_new (w.setCell a u) #[x] e 0
  simpa using this
end Go.Proofs.YtbcnhcpgloncdaaGreatDoor
