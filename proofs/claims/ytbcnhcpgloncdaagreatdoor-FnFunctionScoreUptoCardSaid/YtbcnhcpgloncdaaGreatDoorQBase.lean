/- Plain words for the proofs of this seat: trees as plain data, how they lie in a world, and how they stay. -/
import Derived.WalkKit
import Derived.WalkLawsBesides
import Derived.WalkSpells
import Derived.Lib.Hide
import Derived.Deep.AppendLies
import Derived.WideLaws
namespace Go.Proofs.YtbcnhcpgloncdaaGreatDoor
open Go Go.RowKit

@[go_sem] theorem run_store_float {P : Program} (w : World) (a : Addr) (m : Mode) (k : FloatKind) (n : Nat) : (store a (.float k n) m).run P w = stored P w a (.float k n) m := run_store P w a _ m rfl

theorem bs_eq {x y : ByteArray} (h : x = y) : (x.toList == y.toList) = true := by rw [h]; simp
theorem bs_ne {x y : ByteArray} (h : x ≠ y) : (x.toList == y.toList) = false := by
  rw [beq_eq_false_iff_ne, ByteArray.toList_eq, ByteArray.toList_eq]
  exact fun e => h (WideShapes.bytes_inj e)
theorem bs_dec (x y : ByteArray) : (x.toList == y.toList) = decide (x = y) := by
  by_cases h : x = y
  · rw [bs_eq h]; simp [h]
  · rw [bs_ne h]; simp [h]

theorem bs_isEmpty (s : ByteArray) : s.toList.isEmpty = decide (s = ⟨#[]⟩) := by
  rw [Bool.eq_iff_iff]
  simp only [List.isEmpty_iff, decide_eq_true_eq]
  constructor
  · intro h; exact WideShapes.bytes_inj (by rw [← ByteArray.toList_eq, h])
  · rintro rfl; rw [ByteArray.toList_eq]
theorem lit_eq {s : ByteArray} (l : List UInt8) (h : s = ⟨l.toArray⟩) : (s.toList == l) = true := by rw [h, ByteArray.toList_eq]; simp
theorem lit_ne {s : ByteArray} (l : List UInt8) (h : s ≠ ⟨l.toArray⟩) : (s.toList == l) = false := by
  rw [beq_eq_false_iff_ne, ByteArray.toList_eq]
  exact fun e => h (WideShapes.bytes_inj (by rw [e]))
theorem int_beq (a b : Int) : (a == b) = decide (a = b) := by rw [Bool.eq_iff_iff]; simp
/-- 'Below', taken on from a later world. -/
theorem via {w W w' : World} (h : Below w.heap.size w W) (hb : Below W.heap.size W w') : Below w.heap.size w w' := h.trans (hb.mono h.size)

/-- Is a text on a list? -/
def memB (s : ByteArray) (ss : List ByteArray) : Bool := ss.any fun x => decide (x = s)
theorem memB_iff {s : ByteArray} {ss : List ByteArray} : memB s ss = true ↔ s ∈ ss := by
  simp [memB]
theorem memB_false {s : ByteArray} {ss : List ByteArray} : memB s ss = false ↔ s ∉ ss := by
  rw [← memB_iff]; simp
theorem memB_take_succ {s : ByteArray} {ss : List ByteArray} {k : Nat} (h : k < ss.length) : memB s (ss.take (k + 1)) = (memB s (ss.take k) || decide (ss[k] = s)) := by
  rw [List.take_succ_eq_append_getElem h]
  simp only [memB, List.any_append, List.any_cons, List.any_nil, Bool.or_false]

/-- A tree as plain data. -/
inductive Tr where
  | mk (kind : Int) (text : ByteArray) (num : Nat) (yes : Bool) (keys : List ByteArray) (kids : List Tr)

namespace Tr
def kind : Tr → Int | mk k _ _ _ _ _ => k
def text : Tr → ByteArray | mk _ s _ _ _ _ => s
def num : Tr → Nat | mk _ _ n _ _ _ => n
def yes : Tr → Bool | mk _ _ _ y _ _ => y
def keys : Tr → List ByteArray | mk _ _ _ _ k _ => k
def kids : Tr → List Tr | mk _ _ _ _ _ c => c
def zero : Tr := mk 0 ⟨#[]⟩ 0 false [] []

theorem sizeOf_kid {t k : Tr} (h : k ∈ t.kids) : SizeOf.sizeOf k < SizeOf.sizeOf t := by
  cases t with
  | mk a b c d e f =>
    have := List.sizeOf_lt_of_mem h
    simp only [kids] at this
    simp only [mk.sizeOf_spec]
    omega

/-- Induction on the kids. -/
theorem ind {P : Tr → Prop} (h : ∀ t : Tr, (∀ k ∈ t.kids, P k) → P t) (t : Tr) : P t :=
  h t fun k _hk => ind h k
termination_by SizeOf.sizeOf t
decreasing_by exact sizeOf_kid _hk
end Tr

/-- A tree's six cells. -/
structure TV where
  kind : Int
  text : ByteArray
  num : Nat
  yes : Bool
  ka : Option Addr
  kn : Nat
  kc : Nat
  ca : Option Addr
  cn : Nat
  cc : Nat
  deriving Inhabited

abbrev TV.cells (v : TV) : List Value := [.int .i64 v.kind, .string v.text, .float .f64 v.num, .bool v.yes, .slice v.ka v.kn v.kc, .slice v.ca v.cn v.cc]
abbrev TV.val (v : TV) : Value := .agg #[.int .i64 v.kind, .string v.text, .float .f64 v.num, .bool v.yes, .slice v.ka v.kn v.kc, .slice v.ca v.cn v.cc]

/-- Cells of n elements of sz cells each lie from o on in block b. -/
def RowAt (w : World) (b o sz n : Nat) (cs : Nat → List Value) : Prop :=
  ∀ i, i < n → ∀ j u, (cs i)[j]? = some u → w.cell? ⟨b, o + i * sz + j, none⟩ = some u

/-- A slice of n elements: where there is one, its cells lie in a block of S. -/
def SliceAt (w : World) (S : Nat → Prop) (a : Option Addr) (sz n : Nat) (cs : Nat → List Value) : Prop :=
  0 < n → ∃ b o, a = some ⟨b, o, none⟩ ∧ S b ∧ RowAt w b o sz n cs

/-- What is in S and was there is as it was. -/
def Keeps (S : Nat → Prop) (w w' : World) : Prop := ∀ b, S b → b < w.heap.size → w'.heap[b]? = w.heap[b]?

theorem RowAt.lt {w : World} {b o sz n : Nat} {cs : Nat → List Value} (h : RowAt w b o sz n cs) (hn : 0 < n) (hc : (cs 0) ≠ []) : b < w.heap.size := by
  cases e : cs 0 with
  | nil => exact absurd e hc
  | cons u r => exact World.block_lt_of_cell? w _ (h 0 hn 0 u (by simp [e]))

theorem RowAt.keep {w w' : World} {b o sz n : Nat} {cs : Nat → List Value} (h : RowAt w b o sz n cs) (hk : w'.heap[b]? = w.heap[b]?) : RowAt w' b o sz n cs :=
  fun i hi j u hu => (World.cell?_of_block (w := w) (a := ⟨b, o + i * sz + j, none⟩) hk).trans (h i hi j u hu)

theorem SliceAt.keep {w w' : World} {S : Nat → Prop} {a : Option Addr} {sz n : Nat} {cs : Nat → List Value} (h : SliceAt w S a sz n cs) (hc : 0 < n → cs 0 ≠ []) (hk : Keeps S w w') : SliceAt w' S a sz n cs := by
  intro hn
  obtain ⟨b, o, rfl, hS, hr⟩ := h hn
  exact ⟨b, o, rfl, hS, hr.keep (hk b hS (hr.lt hn (hc hn)))⟩

theorem SliceAt.mono {w : World} {S S' : Nat → Prop} {a : Option Addr} {sz n : Nat} {cs : Nat → List Value} (h : SliceAt w S a sz n cs) (hc : 0 < n → cs 0 ≠ []) (hS : ∀ b, b < w.heap.size → S b → S' b) : SliceAt w S' a sz n cs := by
  intro hn
  obtain ⟨b, o, rfl, hb, hr⟩ := h hn
  exact ⟨b, o, rfl, hS b (hr.lt hn (hc hn)) hb, hr⟩

theorem SliceAt.nil {w : World} {S : Nat → Prop} {a : Option Addr} {sz : Nat} {cs : Nat → List Value} : SliceAt w S a sz 0 cs := fun h => absurd h (by omega)

/-- A slice of texts. -/
def StrsAt (w : World) (S : Nat → Prop) (a : Option Addr) (ss : List ByteArray) : Prop := SliceAt w S a 1 ss.length (fun i => [.string (ss.getD i ByteArray.empty)])

theorem StrsAt.keep {w w' : World} {S : Nat → Prop} {a : Option Addr} {ss : List ByteArray} (h : StrsAt w S a ss) (hk : Keeps S w w') : StrsAt w' S a ss := SliceAt.keep h (fun _ => by simp) hk
theorem StrsAt.mono {w : World} {S S' : Nat → Prop} {a : Option Addr} {ss : List ByteArray} (h : StrsAt w S a ss) (hS : ∀ b, b < w.heap.size → S b → S' b) : StrsAt w S' a ss := SliceAt.mono h (fun _ => by simp) hS
theorem StrsAt.cell {w : World} {S : Nat → Prop} {a : Option Addr} {ss : List ByteArray} (h : StrsAt w S a ss) {k : Nat} (hk : k < ss.length) : ∃ b o, a = some ⟨b, o, none⟩ ∧ S b ∧ b < w.heap.size ∧ w.cell? ⟨b, o + k, none⟩ = some (.string ss[k]) := by
  obtain ⟨b, o, e, hS, hr⟩ := h (by omega)
  have hc := hr k hk 0 (.string (ss.getD k ByteArray.empty)) (by simp)
  refine ⟨b, o, e, hS, World.block_lt_of_cell? w _ hc, ?_⟩
  simpa [hk] using hc

/-- A new block that holds texts alone. -/
theorem strs_new (w : World) (ss : List ByteArray) (e : TypeId) {S : Nat → Prop} (hS : S w.heap.size) : StrsAt (w.alloc (.cells (ss.map Value.string).toArray e)) S (some ⟨w.heap.size, 0, none⟩) ss := by
  intro _
  refine ⟨_, _, rfl, hS, fun i hi j u hu => ?_⟩
  rw [List.getElem?_singleton] at hu
  split at hu
  · rename_i hj
    cases hu; subst hj
    rw [show 0 + i * 1 + 0 = i by omega, World.cell?_alloc_new]
    simp [hi]
  · cases hu

/-- What a tree's text and lists keep to. -/
def Tr.fitsIn (t : Tr) : Prop := t.text.size ≤ 9223372036854775807 ∧ t.keys.length ≤ 9223372036854775807 ∧ t.kids.length ≤ 9223372036854775807

/-- HOW A TREE LIES IN A WORLD: through blocks of S. -/
inductive RepT (w : World) (S : Nat → Prop) : TV → Tr → Prop
  | mk (v : TV) (t : Tr) (vs : Nat → TV) (h0 : t.fitsIn) (h1 : v.kind = t.kind) (h2 : v.text = t.text) (h3 : v.num = t.num) (h4 : v.yes = t.yes)
      (hkn : v.kn = t.keys.length) (hks : StrsAt w S v.ka t.keys) (hcn : v.cn = t.kids.length) (hcs : SliceAt w S v.ca 6 t.kids.length (fun i => (vs i).cells))
      (hr : ∀ i k, t.kids[i]? = some k → RepT w S (vs i) k) : RepT w S v t

theorem RepT.keep {w w' : World} {S : Nat → Prop} {v : TV} {t : Tr} (h : RepT w S v t) (hk : Keeps S w w') : RepT w' S v t := by
  induction h with
  | mk v t vs h0 h1 h2 h3 h4 hkn hks hcn hcs hr ih => exact .mk v t vs h0 h1 h2 h3 h4 hkn (hks.keep hk) hcn (hcs.keep (fun _ => by simp) hk) ih

theorem RepT.mono {w : World} {S S' : Nat → Prop} {v : TV} {t : Tr} (h : RepT w S v t) (hS : ∀ b, b < w.heap.size → S b → S' b) : RepT w S' v t := by
  induction h with
  | mk v t vs h0 h1 h2 h3 h4 hkn hks hcn hcs hr ih => exact .mk v t vs h0 h1 h2 h3 h4 hkn (hks.mono hS) hcn (hcs.mono (fun _ => by simp) hS) ih

theorem RepT.zero (w : World) (S : Nat → Prop) : RepT w S ⟨0, ⟨#[]⟩, 0, false, none, 0, 0, none, 0, 0⟩ Tr.zero :=
  .mk _ _ (fun _ => default) ⟨by decide, by decide, by decide⟩ rfl rfl rfl rfl rfl SliceAt.nil rfl SliceAt.nil (fun i k h => by simp [Tr.zero, Tr.kids] at h)

/-- What the six cells of a tree at an address say. -/
def CellsT (w : World) (b o : Nat) (v : TV) : Prop :=
  w.cell? ⟨b, o, none⟩ = some (.int .i64 v.kind) ∧ w.cell? ⟨b, o + 1, none⟩ = some (.string v.text) ∧ w.cell? ⟨b, o + 2, none⟩ = some (.float .f64 v.num) ∧
    w.cell? ⟨b, o + 3, none⟩ = some (.bool v.yes) ∧ w.cell? ⟨b, o + 4, none⟩ = some (.slice v.ka v.kn v.kc) ∧ w.cell? ⟨b, o + 5, none⟩ = some (.slice v.ca v.cn v.cc)

theorem CellsT.keep {w w' : World} {b o : Nat} {v : TV} (h : CellsT w b o v) (hk : ∀ o, w'.cell? ⟨b, o, none⟩ = w.cell? ⟨b, o, none⟩) : CellsT w' b o v := by
  obtain ⟨h0, h1, h2, h3, h4, h5⟩ := h
  exact ⟨(hk _).trans h0, (hk _).trans h1, (hk _).trans h2, (hk _).trans h3, (hk _).trans h4, (hk _).trans h5⟩

theorem RepT.eqs {w : World} {S : Nat → Prop} {v : TV} {t : Tr} (h : RepT w S v t) : v.kind = t.kind ∧ v.text = t.text ∧ v.num = t.num ∧ v.yes = t.yes ∧ v.kn = t.keys.length ∧ v.cn = t.kids.length := by
  cases h with
  | mk _ _ vs h0 h1 h2 h3 h4 hkn hks hcn hcs hr => exact ⟨h1, h2, h3, h4, hkn, hcn⟩

theorem RepT.bounds {w : World} {S : Nat → Prop} {v : TV} {t : Tr} (h : RepT w S v t) : t.text.size ≤ 9223372036854775807 ∧ t.keys.length ≤ 9223372036854775807 ∧ t.kids.length ≤ 9223372036854775807 := by
  cases h with
  | mk _ _ vs h0 h1 h2 h3 h4 hkn hks hcn hcs hr => exact h0

/-- What lies at kid k. -/
theorem RepT.kid {w : World} {S : Nat → Prop} {v : TV} {t : Tr} (h : RepT w S v t) {k : Nat} (hk : k < t.kids.length) :
    ∃ b o v', v.ca = some ⟨b, o, none⟩ ∧ S b ∧ b < w.heap.size ∧ CellsT w b (o + k * 6) v' ∧ RepT w S v' t.kids[k] := by
  cases h with
  | mk _ _ vs h0 h1 h2 h3 h4 hkn hks hcn hcs hr =>
    obtain ⟨b, o, e, hS, hrow⟩ := hcs (by omega)
    have c0 := hrow k hk 0 _ rfl
    exact ⟨b, o, vs k, e, hS, World.block_lt_of_cell? w _ c0, ⟨c0, hrow k hk 1 _ rfl, hrow k hk 2 _ rfl, hrow k hk 3 _ rfl, hrow k hk 4 _ rfl, hrow k hk 5 _ rfl⟩, hr k _ (by simp [hk])⟩

/-- What lies at key k. -/
theorem RepT.key {w : World} {S : Nat → Prop} {v : TV} {t : Tr} (h : RepT w S v t) {k : Nat} (hk : k < t.keys.length) :
    ∃ b o, v.ka = some ⟨b, o, none⟩ ∧ S b ∧ b < w.heap.size ∧ w.cell? ⟨b, o + k, none⟩ = some (.string t.keys[k]) := by
  cases h with
  | mk _ _ vs h0 h1 h2 h3 h4 hkn hks hcn hcs hr => exact hks.cell hk

/-- A setting as plain data. -/
structure SetM where
  name : ByteArray
  val : Tr
def SetM.zero : SetM := ⟨ByteArray.empty, Tr.zero⟩

/-- A slice of settings: each of seven cells. -/
def SetsAt (w : World) (S : Nat → Prop) (a : Option Addr) (sets : List SetM) : Prop :=
  ∃ vs : Nat → TV, SliceAt w S a 7 sets.length (fun i => .string (sets.getD i SetM.zero).name :: (vs i).cells) ∧ ∀ i s, sets[i]? = some s → RepT w S (vs i) s.val

theorem SetsAt.keep {w w' : World} {S : Nat → Prop} {a : Option Addr} {sets : List SetM} (h : SetsAt w S a sets) (hk : Keeps S w w') : SetsAt w' S a sets := by
  obtain ⟨vs, h1, h2⟩ := h
  exact ⟨vs, h1.keep (fun _ => by simp) hk, fun i s hs => (h2 i s hs).keep hk⟩
theorem SetsAt.mono {w : World} {S S' : Nat → Prop} {a : Option Addr} {sets : List SetM} (h : SetsAt w S a sets) (hS : ∀ b, b < w.heap.size → S b → S' b) : SetsAt w S' a sets := by
  obtain ⟨vs, h1, h2⟩ := h
  exact ⟨vs, h1.mono (fun _ => by simp) hS, fun i s hs => (h2 i s hs).mono hS⟩

/-- What lies at setting k. -/
theorem SetsAt.cells {w : World} {S : Nat → Prop} {a : Option Addr} {sets : List SetM} (h : SetsAt w S a sets) {k : Nat} (hk : k < sets.length) :
    ∃ b o v, a = some ⟨b, o, none⟩ ∧ S b ∧ b < w.heap.size ∧ w.cell? ⟨b, o + k * 7, none⟩ = some (.string sets[k].name) ∧
      w.cell? ⟨b, o + k * 7 + 1, none⟩ = some (.int .i64 v.kind) ∧ w.cell? ⟨b, o + k * 7 + 2, none⟩ = some (.string v.text) ∧ w.cell? ⟨b, o + k * 7 + 3, none⟩ = some (.float .f64 v.num) ∧
      w.cell? ⟨b, o + k * 7 + 4, none⟩ = some (.bool v.yes) ∧ w.cell? ⟨b, o + k * 7 + 5, none⟩ = some (.slice v.ka v.kn v.kc) ∧ w.cell? ⟨b, o + k * 7 + 6, none⟩ = some (.slice v.ca v.cn v.cc) ∧ RepT w S v sets[k].val := by
  obtain ⟨vs, h1, h2⟩ := h
  obtain ⟨b, o, e, hS, hr⟩ := h1 (by omega)
  have e0 : (sets.getD k SetM.zero) = sets[k] := by simp [hk]
  have c0 := hr k hk 0 _ rfl
  refine ⟨b, o, vs k, e, hS, World.block_lt_of_cell? w _ c0, ?_, hr k hk 1 _ rfl, hr k hk 2 _ rfl, hr k hk 3 _ rfl, hr k hk 4 _ rfl, hr k hk 5 _ rfl, hr k hk 6 _ rfl, h2 k _ (by simp [hk])⟩
  rw [← e0]; exact c0

theorem Keeps.of_below {w w' : World} (S : Nat → Prop) (h : Below w.heap.size w w') : Keeps S w w' := fun b _ hb => h.block b hb
theorem Keeps.of_below_lt {w w' : World} {B : Nat} (h : Below B w w') : Keeps (fun b => b < B) w w' := fun b hb _ => h.block b hb

/-- After a contract that ends in 'Below': the old cells and marks read as before. -/
theorem bcell {W w1 : World} (hb : Below W.heap.size W w1) : (∀ b o, b < W.heap.size → w1.cell? ⟨b, o, none⟩ = W.cell? ⟨b, o, none⟩) ∧ (∀ b o, b < W.heap.size → w1.frozen? ⟨b, o, none⟩ = W.frozen? ⟨b, o, none⟩) :=
  ⟨fun b o h => hb.cell (p := ⟨b, o, none⟩) h, fun b o h => hb.frozen (p := ⟨b, o, none⟩) h⟩

end Go.Proofs.YtbcnhcpgloncdaaGreatDoor
