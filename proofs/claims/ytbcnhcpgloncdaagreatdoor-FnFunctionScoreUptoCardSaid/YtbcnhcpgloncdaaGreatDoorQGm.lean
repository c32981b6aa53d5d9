/- 'treeOf': which kind of value it is given. -/
import Derived.Test.YtbcnhcpgloncdaaGreatDoorQGj
import Derived.Deep.RegionLaw
namespace Go.Proofs.YtbcnhcpgloncdaaGreatDoor
open Go Go.RowKit

@[go_sem] theorem as9_9 (v : Value) (w : World) : (Instr.typeAssert (.iface 9 v) 20 9 true).run Tryz.prog w = .ok (.tuple #[v, .bool true]) w := by kernel_rfl
@[go_sem] theorem as4_9 (v : Value) (w : World) : (Instr.typeAssert (.iface 4 v) 20 9 true).run Tryz.prog w = .ok (.tuple #[.string ⟨#[]⟩, .bool false]) w := by kernel_rfl
@[go_sem] theorem as4_4 (v : Value) (w : World) : (Instr.typeAssert (.iface 4 v) 20 4 true).run Tryz.prog w = .ok (.tuple #[v, .bool true]) w := by kernel_rfl
@[go_sem] theorem as3_9 (v : Value) (w : World) : (Instr.typeAssert (.iface 3 v) 20 9 true).run Tryz.prog w = .ok (.tuple #[.string ⟨#[]⟩, .bool false]) w := by kernel_rfl
@[go_sem] theorem as3_4 (v : Value) (w : World) : (Instr.typeAssert (.iface 3 v) 20 4 true).run Tryz.prog w = .ok (.tuple #[.bool false, .bool false]) w := by kernel_rfl
@[go_sem] theorem as3_3 (v : Value) (w : World) : (Instr.typeAssert (.iface 3 v) 20 3 true).run Tryz.prog w = .ok (.tuple #[v, .bool true]) w := by kernel_rfl
@[go_sem] theorem as2_9 (v : Value) (w : World) : (Instr.typeAssert (.iface 2 v) 20 9 true).run Tryz.prog w = .ok (.tuple #[.string ⟨#[]⟩, .bool false]) w := by kernel_rfl
@[go_sem] theorem as2_4 (v : Value) (w : World) : (Instr.typeAssert (.iface 2 v) 20 4 true).run Tryz.prog w = .ok (.tuple #[.bool false, .bool false]) w := by kernel_rfl
@[go_sem] theorem as2_3 (v : Value) (w : World) : (Instr.typeAssert (.iface 2 v) 20 3 true).run Tryz.prog w = .ok (.tuple #[.int .i64 0, .bool false]) w := by kernel_rfl
@[go_sem] theorem as2_2 (v : Value) (w : World) : (Instr.typeAssert (.iface 2 v) 20 2 true).run Tryz.prog w = .ok (.tuple #[v, .bool true]) w := by kernel_rfl
@[go_sem] theorem as28_9 (v : Value) (w : World) : (Instr.typeAssert (.iface 28 v) 20 9 true).run Tryz.prog w = .ok (.tuple #[.string ⟨#[]⟩, .bool false]) w := by kernel_rfl
@[go_sem] theorem as28_4 (v : Value) (w : World) : (Instr.typeAssert (.iface 28 v) 20 4 true).run Tryz.prog w = .ok (.tuple #[.bool false, .bool false]) w := by kernel_rfl
@[go_sem] theorem as28_3 (v : Value) (w : World) : (Instr.typeAssert (.iface 28 v) 20 3 true).run Tryz.prog w = .ok (.tuple #[.int .i64 0, .bool false]) w := by kernel_rfl
@[go_sem] theorem as28_2 (v : Value) (w : World) : (Instr.typeAssert (.iface 28 v) 20 2 true).run Tryz.prog w = .ok (.tuple #[.int .i64 0, .bool false]) w := by kernel_rfl
@[go_sem] theorem as28_28 (v : Value) (w : World) : (Instr.typeAssert (.iface 28 v) 20 28 true).run Tryz.prog w = .ok (.tuple #[v, .bool true]) w := by kernel_rfl
@[go_sem] theorem as115_9 (v : Value) (w : World) : (Instr.typeAssert (.iface 115 v) 20 9 true).run Tryz.prog w = .ok (.tuple #[.string ⟨#[]⟩, .bool false]) w := by kernel_rfl
@[go_sem] theorem as115_4 (v : Value) (w : World) : (Instr.typeAssert (.iface 115 v) 20 4 true).run Tryz.prog w = .ok (.tuple #[.bool false, .bool false]) w := by kernel_rfl
@[go_sem] theorem as115_3 (v : Value) (w : World) : (Instr.typeAssert (.iface 115 v) 20 3 true).run Tryz.prog w = .ok (.tuple #[.int .i64 0, .bool false]) w := by kernel_rfl
@[go_sem] theorem as115_2 (v : Value) (w : World) : (Instr.typeAssert (.iface 115 v) 20 2 true).run Tryz.prog w = .ok (.tuple #[.int .i64 0, .bool false]) w := by kernel_rfl
@[go_sem] theorem as115_28 (v : Value) (w : World) : (Instr.typeAssert (.iface 115 v) 20 28 true).run Tryz.prog w = .ok (.tuple #[.float .f64 0, .bool false]) w := by kernel_rfl
@[go_sem] theorem as115_166 (v : Value) (w : World) : (Instr.typeAssert (.iface 115 v) 20 166 true).run Tryz.prog w = .ok (.tuple #[.pointer none, .bool false]) w := by kernel_rfl
@[go_sem] theorem as115_129 (v : Value) (w : World) : (Instr.typeAssert (.iface 115 v) 20 129 true).run Tryz.prog w = .ok (.tuple #[.pointer none, .bool false]) w := by kernel_rfl
@[go_sem] theorem as115_130 (v : Value) (w : World) : (Instr.typeAssert (.iface 115 v) 20 130 true).run Tryz.prog w = .ok (.tuple #[.pointer none, .bool false]) w := by kernel_rfl
@[go_sem] theorem as115_170 (v : Value) (w : World) : (Instr.typeAssert (.iface 115 v) 20 170 true).run Tryz.prog w = .ok (.tuple #[.pointer none, .bool false]) w := by kernel_rfl
@[go_sem] theorem as115_115 (v : Value) (w : World) : (Instr.typeAssert (.iface 115 v) 20 115 true).run Tryz.prog w = .ok (.tuple #[v, .bool true]) w := by kernel_rfl
@[go_sem] theorem as29_9 (v : Value) (w : World) : (Instr.typeAssert (.iface 29 v) 20 9 true).run Tryz.prog w = .ok (.tuple #[.string ⟨#[]⟩, .bool false]) w := by kernel_rfl
@[go_sem] theorem as29_4 (v : Value) (w : World) : (Instr.typeAssert (.iface 29 v) 20 4 true).run Tryz.prog w = .ok (.tuple #[.bool false, .bool false]) w := by kernel_rfl
@[go_sem] theorem as29_3 (v : Value) (w : World) : (Instr.typeAssert (.iface 29 v) 20 3 true).run Tryz.prog w = .ok (.tuple #[.int .i64 0, .bool false]) w := by kernel_rfl
@[go_sem] theorem as29_2 (v : Value) (w : World) : (Instr.typeAssert (.iface 29 v) 20 2 true).run Tryz.prog w = .ok (.tuple #[.int .i64 0, .bool false]) w := by kernel_rfl
@[go_sem] theorem as29_28 (v : Value) (w : World) : (Instr.typeAssert (.iface 29 v) 20 28 true).run Tryz.prog w = .ok (.tuple #[.float .f64 0, .bool false]) w := by kernel_rfl
@[go_sem] theorem as29_166 (v : Value) (w : World) : (Instr.typeAssert (.iface 29 v) 20 166 true).run Tryz.prog w = .ok (.tuple #[.pointer none, .bool false]) w := by kernel_rfl
@[go_sem] theorem as29_129 (v : Value) (w : World) : (Instr.typeAssert (.iface 29 v) 20 129 true).run Tryz.prog w = .ok (.tuple #[.pointer none, .bool false]) w := by kernel_rfl
@[go_sem] theorem as29_130 (v : Value) (w : World) : (Instr.typeAssert (.iface 29 v) 20 130 true).run Tryz.prog w = .ok (.tuple #[.pointer none, .bool false]) w := by kernel_rfl
@[go_sem] theorem as29_170 (v : Value) (w : World) : (Instr.typeAssert (.iface 29 v) 20 170 true).run Tryz.prog w = .ok (.tuple #[.pointer none, .bool false]) w := by kernel_rfl
@[go_sem] theorem as29_115 (v : Value) (w : World) : (Instr.typeAssert (.iface 29 v) 20 115 true).run Tryz.prog w = .ok (.tuple #[.pointer none, .bool false]) w := by kernel_rfl
@[go_sem] theorem as29_29 (v : Value) (w : World) : (Instr.typeAssert (.iface 29 v) 20 29 true).run Tryz.prog w = .ok (.tuple #[v, .bool true]) w := by kernel_rfl
@[go_sem] theorem as123_9 (v : Value) (w : World) : (Instr.typeAssert (.iface 123 v) 20 9 true).run Tryz.prog w = .ok (.tuple #[.string ⟨#[]⟩, .bool false]) w := by kernel_rfl
@[go_sem] theorem as123_4 (v : Value) (w : World) : (Instr.typeAssert (.iface 123 v) 20 4 true).run Tryz.prog w = .ok (.tuple #[.bool false, .bool false]) w := by kernel_rfl
@[go_sem] theorem as123_3 (v : Value) (w : World) : (Instr.typeAssert (.iface 123 v) 20 3 true).run Tryz.prog w = .ok (.tuple #[.int .i64 0, .bool false]) w := by kernel_rfl
@[go_sem] theorem as123_2 (v : Value) (w : World) : (Instr.typeAssert (.iface 123 v) 20 2 true).run Tryz.prog w = .ok (.tuple #[.int .i64 0, .bool false]) w := by kernel_rfl
@[go_sem] theorem as123_28 (v : Value) (w : World) : (Instr.typeAssert (.iface 123 v) 20 28 true).run Tryz.prog w = .ok (.tuple #[.float .f64 0, .bool false]) w := by kernel_rfl
@[go_sem] theorem as123_166 (v : Value) (w : World) : (Instr.typeAssert (.iface 123 v) 20 166 true).run Tryz.prog w = .ok (.tuple #[.pointer none, .bool false]) w := by kernel_rfl
@[go_sem] theorem as123_129 (v : Value) (w : World) : (Instr.typeAssert (.iface 123 v) 20 129 true).run Tryz.prog w = .ok (.tuple #[.pointer none, .bool false]) w := by kernel_rfl
@[go_sem] theorem as123_130 (v : Value) (w : World) : (Instr.typeAssert (.iface 123 v) 20 130 true).run Tryz.prog w = .ok (.tuple #[.pointer none, .bool false]) w := by kernel_rfl
@[go_sem] theorem as123_170 (v : Value) (w : World) : (Instr.typeAssert (.iface 123 v) 20 170 true).run Tryz.prog w = .ok (.tuple #[.pointer none, .bool false]) w := by kernel_rfl
@[go_sem] theorem as123_115 (v : Value) (w : World) : (Instr.typeAssert (.iface 123 v) 20 115 true).run Tryz.prog w = .ok (.tuple #[.pointer none, .bool false]) w := by kernel_rfl
@[go_sem] theorem as123_29 (v : Value) (w : World) : (Instr.typeAssert (.iface 123 v) 20 29 true).run Tryz.prog w = .ok (.tuple #[.slice none 0 0, .bool false]) w := by kernel_rfl
@[go_sem] theorem as123_174 (v : Value) (w : World) : (Instr.typeAssert (.iface 123 v) 20 174 true).run Tryz.prog w = .ok (.tuple #[.slice none 0 0, .bool false]) w := by kernel_rfl
@[go_sem] theorem as123_123 (v : Value) (w : World) : (Instr.typeAssert (.iface 123 v) 20 123 true).run Tryz.prog w = .ok (.tuple #[v, .bool true]) w := by kernel_rfl
@[go_sem] theorem as122_9 (v : Value) (w : World) : (Instr.typeAssert (.iface 122 v) 20 9 true).run Tryz.prog w = .ok (.tuple #[.string ⟨#[]⟩, .bool false]) w := by kernel_rfl
@[go_sem] theorem as122_4 (v : Value) (w : World) : (Instr.typeAssert (.iface 122 v) 20 4 true).run Tryz.prog w = .ok (.tuple #[.bool false, .bool false]) w := by kernel_rfl
@[go_sem] theorem as122_3 (v : Value) (w : World) : (Instr.typeAssert (.iface 122 v) 20 3 true).run Tryz.prog w = .ok (.tuple #[.int .i64 0, .bool false]) w := by kernel_rfl
@[go_sem] theorem as122_2 (v : Value) (w : World) : (Instr.typeAssert (.iface 122 v) 20 2 true).run Tryz.prog w = .ok (.tuple #[.int .i64 0, .bool false]) w := by kernel_rfl
@[go_sem] theorem as122_28 (v : Value) (w : World) : (Instr.typeAssert (.iface 122 v) 20 28 true).run Tryz.prog w = .ok (.tuple #[.float .f64 0, .bool false]) w := by kernel_rfl
@[go_sem] theorem as122_166 (v : Value) (w : World) : (Instr.typeAssert (.iface 122 v) 20 166 true).run Tryz.prog w = .ok (.tuple #[.pointer none, .bool false]) w := by kernel_rfl
@[go_sem] theorem as122_129 (v : Value) (w : World) : (Instr.typeAssert (.iface 122 v) 20 129 true).run Tryz.prog w = .ok (.tuple #[.pointer none, .bool false]) w := by kernel_rfl
@[go_sem] theorem as122_130 (v : Value) (w : World) : (Instr.typeAssert (.iface 122 v) 20 130 true).run Tryz.prog w = .ok (.tuple #[.pointer none, .bool false]) w := by kernel_rfl
@[go_sem] theorem as122_170 (v : Value) (w : World) : (Instr.typeAssert (.iface 122 v) 20 170 true).run Tryz.prog w = .ok (.tuple #[.pointer none, .bool false]) w := by kernel_rfl
@[go_sem] theorem as122_115 (v : Value) (w : World) : (Instr.typeAssert (.iface 122 v) 20 115 true).run Tryz.prog w = .ok (.tuple #[.pointer none, .bool false]) w := by kernel_rfl
@[go_sem] theorem as122_29 (v : Value) (w : World) : (Instr.typeAssert (.iface 122 v) 20 29 true).run Tryz.prog w = .ok (.tuple #[.slice none 0 0, .bool false]) w := by kernel_rfl
@[go_sem] theorem as122_174 (v : Value) (w : World) : (Instr.typeAssert (.iface 122 v) 20 174 true).run Tryz.prog w = .ok (.tuple #[.slice none 0 0, .bool false]) w := by kernel_rfl
@[go_sem] theorem as122_123 (v : Value) (w : World) : (Instr.typeAssert (.iface 122 v) 20 123 true).run Tryz.prog w = .ok (.tuple #[.slice none 0 0, .bool false]) w := by kernel_rfl
@[go_sem] theorem as122_177 (v : Value) (w : World) : (Instr.typeAssert (.iface 122 v) 20 177 true).run Tryz.prog w = .ok (.tuple #[.slice none 0 0, .bool false]) w := by kernel_rfl
@[go_sem] theorem as122_122 (v : Value) (w : World) : (Instr.typeAssert (.iface 122 v) 20 122 true).run Tryz.prog w = .ok (.tuple #[v, .bool true]) w := by kernel_rfl

def textT (s : ByteArray) : Tr := .mk 1 s 0 false [] []
def numT (x : Nat) : Tr := .mk 2 ⟨#[]⟩ x false [] []
def yesT (b : Bool) : Tr := .mk 3 ⟨#[]⟩ 0 b [] []
theorem leaf (kind : Int) (s : ByteArray) (x : Nat) (y : Bool) (h : s.size ≤ 9223372036854775807) (w : World) (S : Nat → Prop) : RepT w S ⟨kind, s, x, y, none, 0, 0, none, 0, 0⟩ (.mk kind s x y [] []) :=
  .mk _ _ (fun _ => default) ⟨h, by simp [Tr.keys], by simp [Tr.kids]⟩ rfl rfl rfl rfl rfl SliceAt.nil rfl SliceAt.nil (fun i k h => by simp [Tr.kids] at h)

set_option maxRecDepth 100000 in
set_option maxHeartbeats 2000000 in
theorem treeOf_nil (w : World) : Calls Tryz.prog 110 #[.nilIface] w fun e w' => e = .returned (TV.val ⟨0, ⟨#[]⟩, 0, false, none, 0, 0, none, 0, 0⟩) ∧ Below w.heap.size w w' := by
  go_enter Tryz.func110, Tryz.ntmps110
  go_wp2_with fail
  exact bodyPost_ret (v := _) (by simp [results, Tryz.results110, go_sem]) rfl ⟨rfl, (Below.refl _ _).alloc (Nat.le_refl _) _⟩

set_option maxRecDepth 100000 in
set_option maxHeartbeats 2000000 in
theorem treeOf_str (s : ByteArray) (w : World) : Calls Tryz.prog 110 #[.iface 9 (.string s)] w fun e w' => e = .returned (TV.val ⟨1, s, 0, false, none, 0, 0, none, 0, 0⟩) ∧ Below w.heap.size w w' := by
  go_enter Tryz.func110, Tryz.ntmps110
  go_wp2_with fail
  exact bodyPost_ret (v := _) (by simp [results, Tryz.results110, go_sem]) rfl ⟨rfl, (Below.refl _ _).alloc (Nat.le_refl _) _⟩

set_option maxRecDepth 100000 in
set_option maxHeartbeats 2000000 in
theorem treeOf_yes (b : Bool) (w : World) : Calls Tryz.prog 110 #[.iface 4 (.bool b)] w fun e w' => e = .returned (TV.val ⟨3, ⟨#[]⟩, 0, b, none, 0, 0, none, 0, 0⟩) ∧ Below w.heap.size w w' := by
  go_enter Tryz.func110, Tryz.ntmps110
  go_wp2_with fail
  exact bodyPost_ret (v := _) (by simp [results, Tryz.results110, go_sem]) rfl ⟨rfl, (Below.refl _ _).alloc (Nat.le_refl _) _⟩

set_option maxRecDepth 100000 in
set_option maxHeartbeats 2000000 in
theorem treeOf_int (n : Int) (w : World) : Calls Tryz.prog 110 #[.iface 3 (.int .i64 n)] w fun e w' => e = .returned (TV.val ⟨2, ⟨#[]⟩, floatOfInt .f64 n, false, none, 0, 0, none, 0, 0⟩) ∧ Below w.heap.size w w' := by
  go_enter Tryz.func110, Tryz.ntmps110
  go_wp2_with fail
  exact bodyPost_ret (v := _) (by simp [results, Tryz.results110, go_sem]) rfl ⟨rfl, (Below.refl _ _).alloc (Nat.le_refl _) _⟩

set_option maxRecDepth 100000 in
set_option maxHeartbeats 2000000 in
theorem treeOf_num (x : Nat) (w : World) : Calls Tryz.prog 110 #[.iface 28 (.float .f64 x)] w fun e w' => e = .returned (TV.val ⟨2, ⟨#[]⟩, x, false, none, 0, 0, none, 0, 0⟩) ∧ Below w.heap.size w w' := by
  go_enter Tryz.func110, Tryz.ntmps110
  go_wp2_with fail
  exact bodyPost_ret (v := _) (by simp [results, Tryz.results110, go_sem]) rfl ⟨rfl, (Below.refl _ _).alloc (Nat.le_refl _) _⟩
set_option maxRecDepth 100000 in
set_option maxHeartbeats 2000000 in
theorem treeOf_long (n : Int) (w : World) : Calls Tryz.prog 110 #[.iface 2 (.int .i64 n)] w fun e w' => e = .returned (TV.val ⟨2, ⟨#[]⟩, floatOfInt .f64 n, false, none, 0, 0, none, 0, 0⟩) ∧ Below w.heap.size w w' := by
  go_enter Tryz.func110, Tryz.ntmps110
  go_wp2_with fail
  exact bodyPost_ret (v := _) (by simp [results, Tryz.results110, go_sem]) rfl ⟨rfl, (Below.refl _ _).alloc (Nat.le_refl _) _⟩
end Go.Proofs.YtbcnhcpgloncdaaGreatDoor
/- 'listOf': a list as a tree. -/
namespace Go.Proofs.YtbcnhcpgloncdaaGreatDoor
open Go Go.RowKit

theorem Tryz.info31 : (Tryz.prog.info? 31).map (fun i => (i.zero, i.size, i.bytes)) = some (some (.agg #[.int .i64 0, .string ⟨#[]⟩, .float .f64 0, .bool false, .slice none 0 0, .slice none 0 0]), 6, 88) := by kernel_rfl

/-- A tree comes back, in new memory. -/
def TreePost (w : World) (t : Tr) (e : Ending) (w' : World) : Prop := ∃ v : TV, e = .returned v.val ∧ RepT w' (fun b => w.heap.size ≤ b) v t ∧ Below w.heap.size w w'

def listT (ts : List Tr) : Tr := .mk 4 ⟨#[]⟩ 0 false [] ts

theorem Below.grow {w w' : World} (h : Below w.heap.size w w') : w.grownBy w' none := ⟨h.os, h.tape, h.output, h.size, fun i hi _ => h.block i hi⟩

/-- The kids that are done, and the row that holds them. -/
def KidsAt (wr : World) (base : Nat) (kv : Value) (ts : List Tr) : Prop :=
  ∃ vs : List TV, vs.length = ts.length ∧ wr.ownsRow base 31 6 kv ts.length (vs.flatMap TV.cells) ∧ ∀ i (h1 : i < vs.length) (h2 : i < ts.length), RepT wr (fun b => base ≤ b ∧ kv.ownBlock ≠ some b) vs[i] ts[i]

theorem KidsAt.nil (wr : World) (base : Nat) : KidsAt wr base (.slice none 0 0) [] := ⟨[], rfl, ⟨by simp, .inl ⟨rfl, rfl⟩⟩, fun i h1 => by simp at h1⟩

theorem KidsAt.kept {wr w' : World} {base : Nat} {kv : Value} {ts : List Tr} (h : KidsAt wr base kv ts) {row : Option Nat} (hg : wr.grownBy w' row) (hrow : ∀ k, row = some k → k < base) : KidsAt w' base kv ts := by
  obtain ⟨vs, h1, h2, h3⟩ := h
  refine ⟨vs, h1, h2.kept hg ?_, fun i a b => (h3 i a b).keep ?_⟩
  · rcases h2.2 with ⟨rfl, _⟩ | ⟨g, cap, cur, rfl, hb, _⟩
    · exact .inl rfl
    · refine .inr fun e => ?_
      have := hrow g (by rw [← e]; rfl)
      omega
  · intro b hb hlt
    refine hg.block b hlt fun e => ?_
    have := hrow b e.symm
    omega

theorem kids_snoc {wx w3 : World} {base g cap H : Nat} {kv : Value} {vs : List TV} {ts : List Tr} {V : TV} {t : Tr} (hvl : vs.length = ts.length)
    (hreps : ∀ i (h1 : i < vs.length) (h2 : i < ts.length), RepT wx (fun b => base ≤ b ∧ kv.ownBlock ≠ some b) vs[i] ts[i]) (hV : RepT wx (fun b => base ≤ b ∧ kv.ownBlock ≠ some b) V t)
    (hg : wx.grownBy w3 kv.ownBlock) (hat : kv.ownBlock = some g ∨ g = H) (hH : wx.heap.size ≤ H)
    (hown : w3.ownsRow base 31 6 (.slice (some ⟨g, 0, none⟩) (ts.length + 1) cap) (ts.length + 1) (vs.flatMap TV.cells ++ V.cells)) :
    KidsAt w3 base (.slice (some ⟨g, 0, none⟩) (ts.length + 1) cap) (ts ++ [t]) := by
  have go : ∀ {v : TV} {u : Tr}, RepT wx (fun b => base ≤ b ∧ kv.ownBlock ≠ some b) v u → RepT w3 (fun b => base ≤ b ∧ (Value.slice (some ⟨g, 0, none⟩) (ts.length + 1) cap).ownBlock ≠ some b) v u := by
    intro v u h
    have h1 : RepT wx (fun b => base ≤ b ∧ kv.ownBlock ≠ some b ∧ b < wx.heap.size) v u := h.mono fun b hb ⟨x, y⟩ => ⟨x, y, hb⟩
    have h2 := h1.keep (w' := w3) fun b ⟨_, y, _⟩ hlt => hg.block b hlt fun e => y e.symm
    refine h2.mono fun b _ ⟨x, y, z⟩ => ⟨x, fun e => ?_⟩
    have e' : g = b := by simpa [Value.ownBlock] using e
    rcases hat with h | h
    · exact y (by rw [h, e'])
    · omega
  refine ⟨vs ++ [V], by simp [hvl], ?_, fun i h1 h2 => ?_⟩
  · simpa using hown
  · by_cases hi : i < vs.length
    · rw [List.getElem_append_left hi, List.getElem_append_left (by omega)]
      simpa using go (hreps i hi (by omega))
    · obtain rfl : i = vs.length := by simp at h1; omega
      rw [List.getElem_append_right (by omega), List.getElem_append_right (by omega)]
      simpa [hvl] using go hV

/-- A round: the callee has made the new kid (in w2), a block was laid to be appended from, append has run (to w3). -/
theorem kids_round {wr w2 w3 : World} {base g cap k : Nat} {kv : Value} {vs : List TV} {ts : List Tr} {V : TV} {t : Tr} {cs : List Value} (hk : ts.length = k) (hcs : cs = V.cells) (hbase : base ≤ wr.heap.size) (hvl : vs.length = ts.length)
    (hreps : ∀ i (h1 : i < vs.length) (h2 : i < ts.length), RepT wr (fun b => base ≤ b ∧ kv.ownBlock ≠ some b) vs[i] ts[i]) (hown : wr.ownsRow base 31 6 kv k (vs.flatMap TV.cells)) (hb : Below wr.heap.size wr w2)
    (hV : RepT w2 (fun b => wr.drew.heap.size ≤ b) V t) (o : Obj) (hg : (w2.alloc o).grownBy w3 kv.ownBlock) (hat : kv.ownBlock = some g ∨ g = w2.heap.size + 1)
    (hown3 : w3.ownsRow base 31 6 (.slice (some ⟨g, 0, none⟩) (k + 1) cap) (k + 1) (vs.flatMap TV.cells ++ cs)) :
    KidsAt w3 base (.slice (some ⟨g, 0, none⟩) (k + 1) cap) (ts ++ [t]) := by
  subst hk
  subst hcs
  have hal : Below w2.heap.size w2 (w2.alloc o) := (Below.refl _ _).alloc (Nat.le_refl _) _
  refine kids_snoc (wx := w2.alloc o) hvl (fun i h1 h2 => (hreps i h1 h2).keep (Keeps.of_below _ (hb.trans (hal.mono hb.size)))) ?_ hg hat (by simp) hown3
  refine (hV.keep (Keeps.of_below _ hal)).mono fun b _ h => ⟨Nat.le_trans hbase h, fun e => ?_⟩
  have := (hown.lt b e).2
  have h' : wr.heap.size ≤ b := h
  omega

/-- The tree whose kids are done. -/
theorem KidsAt.rep {w : World} {base : Nat} {ts : List Tr} {ca : Option Addr} {cn cc : Nat} (h : KidsAt w base (.slice ca cn cc) ts) (hlen : ts.length ≤ 9223372036854775807) (S : Nat → Prop) (hS : ∀ b, base ≤ b → S b)
    (kind : Int) (keys : List ByteArray) (ka : Option Addr) (kc : Nat) (hk : StrsAt w S ka keys) (hkl : keys.length ≤ 9223372036854775807) : RepT w S ⟨kind, ⟨#[]⟩, 0, false, ka, keys.length, kc, ca, cn, cc⟩ (.mk kind ⟨#[]⟩ 0 false keys ts) := by
  obtain ⟨vs, h1, h2, h3⟩ := h
  have hcn : cn = ts.length := by
    rcases h2.2 with ⟨e, h0⟩ | ⟨g, cap, cur, e, _⟩
    · cases e; exact h0.symm
    · cases e; rfl
  refine .mk _ _ (fun i => vs.getD i default) ⟨by simp only [Tr.text]; decide, hkl, hlen⟩ rfl rfl rfl rfl rfl hk hcn ?_ ?_
  · intro hn
    simp only [Tr.kids] at hn
    rcases h2.2 with ⟨e, h0⟩ | ⟨g, cap, cur, e, hb, _⟩
    · omega
    · cases e
      refine ⟨g, 0, rfl, hS g hb, row_of_own TV.cells (fun x => by simp) vs h1 h2 _ ?_⟩
      intro i hi
      simp [hi]
  · intro i k hk
    simp only [Tr.kids] at hk
    obtain ⟨hi, rfl⟩ := List.getElem?_eq_some_iff.1 hk
    have := (h3 i (by omega) hi).mono (S' := S) (fun b _ hb => hS b hb.1)
    simpa [show i < vs.length by omega] using this

/-- A block of a tree's six cells, known whole. -/
def Box6 (w : World) (b : Nat) (c0 c1 c2 c3 c4 c5 : Value) : Prop := w.heap[b]? = some (.cells #[c0, c1, c2, c3, c4, c5] 31 (0, 0))
theorem Box6.cells {w : World} {b : Nat} {c0 c1 c2 c3 c4 c5 : Value} (h : Box6 w b c0 c1 c2 c3 c4 c5) :
    w.cell? ⟨b, 0, none⟩ = some c0 ∧ w.cell? ⟨b, 1, none⟩ = some c1 ∧ w.cell? ⟨b, 2, none⟩ = some c2 ∧ w.cell? ⟨b, 3, none⟩ = some c3 ∧ w.cell? ⟨b, 4, none⟩ = some c4 ∧ w.cell? ⟨b, 5, none⟩ = some c5 ∧ (∀ o, w.frozen? ⟨b, o, none⟩ = false) ∧ b < w.heap.size := by
  unfold Box6 at h
  refine ⟨?_, ?_, ?_, ?_, ?_, ?_, fun o => ?_, (Array.getElem?_eq_some_iff.1 h).1⟩ <;> simp [World.cell?, World.frozen?, h]
theorem Box6.keep {w w' : World} {b : Nat} {c0 c1 c2 c3 c4 c5 : Value} (h : Box6 w b c0 c1 c2 c3 c4 c5) (hk : w'.heap[b]? = w.heap[b]?) : Box6 w' b c0 c1 c2 c3 c4 c5 := hk.trans h
theorem Box6.below {w w' : World} {b : Nat} {c0 c1 c2 c3 c4 c5 : Value} (h : Box6 w b c0 c1 c2 c3 c4 c5) (hb : Below w.heap.size w w') : Box6 w' b c0 c1 c2 c3 c4 c5 :=
  h.keep (hb.block b (Array.getElem?_eq_some_iff.1 h).1)
theorem Box6.set4 {w : World} {b : Nat} {c0 c1 c2 c3 c4 c5 : Value} (h : Box6 w b c0 c1 c2 c3 c4 c5) (v : Value) : Box6 (w.setCell ⟨b, 4, none⟩ v) b c0 c1 c2 c3 v c5 := by
  unfold Box6 at *
  rw [heap_setCell_same w b 4 _ 31 v h]; rfl
theorem Box6.set5 {w : World} {b : Nat} {c0 c1 c2 c3 c4 c5 : Value} (h : Box6 w b c0 c1 c2 c3 c4 c5) (v : Value) : Box6 (w.setCell ⟨b, 5, none⟩ v) b c0 c1 c2 c3 c4 v := by
  unfold Box6 at *
  rw [heap_setCell_same w b 5 _ 31 v h]; rfl

theorem KidsAt.setCell {wr : World} {base : Nat} {kv : Value} {ts : List Tr} (h : KidsAt wr base kv ts) {a : Addr} (ha : a.block < base) (u : Value) : KidsAt (wr.setCell a u) base kv ts :=
  h.kept (row := some a.block) ⟨rfl, rfl, rfl, by simp, fun i _ hne => heap_setCell_other wr a i u (fun e => hne (by rw [e]))⟩ (fun k hk => by cases hk; exact ha)

theorem ownsRow_below {w w' : World} {base : Nat} {e : TypeId} {size : Nat} {v : Value} {n : Nat} {xs : List Value} (h : w.ownsRow base e size v n xs) (hb : Below w.heap.size w w') : w'.ownsRow base e size v n xs :=
  h.kept (Below.grow hb) (by cases e : v.ownBlock <;> simp)

theorem Box6.grown {w w' : World} {b base : Nat} {kv : Value} {c0 c1 c2 c3 c4 c5 : Value} (h : Box6 w b c0 c1 c2 c3 c4 c5) (hg : w.grownBy w' kv.ownBlock) (hlt : ∀ k, kv.ownBlock = some k → base ≤ k ∧ k < w.heap.size) (hb : b < base) : Box6 w' b c0 c1 c2 c3 c4 c5 :=
  h.keep (hg.block b (Array.getElem?_eq_some_iff.1 h).1 (fun e => by have := (hlt b e.symm).1; omega))

theorem Box6.alloc {w : World} {b : Nat} {c0 c1 c2 c3 c4 c5 : Value} (h : Box6 w b c0 c1 c2 c3 c4 c5) {o : Obj} : Box6 (w.alloc o) b c0 c1 c2 c3 c4 c5 :=
  h.keep (heap_alloc_old _ _ (Array.getElem?_eq_some_iff.1 h).1)

theorem Below.undrew {w w2 : World} (h : Below w.drew.heap.size w.drew w2) : Below w.heap.size w w2 := ⟨h.os, h.tape, h.output, h.size, h.block⟩

theorem Box6.put6 {w : World} {b : Nat} {c0 c1 c2 c3 c4 c5 : Value} (h : Box6 w b c0 c1 c2 c3 c4 c5) (v0 v1 v2 v3 v4 v5 : Value) :
    Box6 ((((((w.setCell ⟨b, 0, none⟩ v0).setCell ⟨b, 1, none⟩ v1).setCell ⟨b, 2, none⟩ v2).setCell ⟨b, 3, none⟩ v3).setCell ⟨b, 4, none⟩ v4).setCell ⟨b, 5, none⟩ v5) b v0 v1 v2 v3 v4 v5 := by
  unfold Box6 at *
  have h0 := heap_setCell_same w b 0 _ 31 v0 h
  have h1 := heap_setCell_same _ b 1 _ 31 v1 h0
  have h2 := heap_setCell_same _ b 2 _ 31 v2 h1
  have h3 := heap_setCell_same _ b 3 _ 31 v3 h2
  have h4 := heap_setCell_same _ b 4 _ 31 v4 h3
  have h5 := heap_setCell_same _ b 5 _ 31 v5 h4
  rw [h5]; rfl
theorem Below.put6 {w W : World} {b : Nat} (h : Below w.heap.size w W) (hb : w.heap.size ≤ b) (v0 v1 v2 v3 v4 v5 : Value) :
    Below w.heap.size w ((((((W.setCell ⟨b, 0, none⟩ v0).setCell ⟨b, 1, none⟩ v1).setCell ⟨b, 2, none⟩ v2).setCell ⟨b, 3, none⟩ v3).setCell ⟨b, 4, none⟩ v4).setCell ⟨b, 5, none⟩ v5) :=
  (((((h.setCell (p := ⟨b, 0, none⟩) hb _).setCell (p := ⟨b, 1, none⟩) hb _).setCell (p := ⟨b, 2, none⟩) hb _).setCell (p := ⟨b, 3, none⟩) hb _).setCell (p := ⟨b, 4, none⟩) hb _).setCell (p := ⟨b, 5, none⟩) hb _
theorem KidsAt.put6 {W : World} {base b : Nat} {kv : Value} {ts : List Tr} (h : KidsAt W base kv ts) (hb : b < base) (v0 v1 v2 v3 v4 v5 : Value) :
    KidsAt ((((((W.setCell ⟨b, 0, none⟩ v0).setCell ⟨b, 1, none⟩ v1).setCell ⟨b, 2, none⟩ v2).setCell ⟨b, 3, none⟩ v3).setCell ⟨b, 4, none⟩ v4).setCell ⟨b, 5, none⟩ v5) base kv ts :=
  (((((h.setCell (a := ⟨b, 0, none⟩) hb _).setCell (a := ⟨b, 1, none⟩) hb _).setCell (a := ⟨b, 2, none⟩) hb _).setCell (a := ⟨b, 3, none⟩) hb _).setCell (a := ⟨b, 4, none⟩) hb _).setCell (a := ⟨b, 5, none⟩) hb _

abbrev Zero6 (w : World) (b : Nat) : Prop := Box6 w b (.int .i64 0) (.string ⟨#[]⟩) (.float .f64 0) (.bool false) (.slice none 0 0) (.slice none 0 0)

set_option maxRecDepth 100000 in
set_option maxHeartbeats 4000000 in
theorem listOf_any (vs : Nat → Value) (ts : List Tr) (S : Nat → Prop) (a : Option Addr) (c : Nat) (w : World) (hs : SliceAt w S a 1 ts.length (fun i => [vs i])) (hl : ts.length ≤ 4294967296)
    (hel : ∀ i (hi : i < ts.length) wr, Below w.heap.size w wr → Calls Tryz.prog 110 #[vs i] wr (TreePost wr ts[i])) :
    Calls Tryz.prog 160 #[.slice a ts.length c] w (TreePost w (listT ts)) := by
  obtain ⟨i0, hi, hz0, hz1, hz2⟩ := info_parts Tryz.info31
  have Hs := Lib.hid hs; clear hs
  have Hel := Lib.hid hel; clear hel
  go_enter Tryz.func160, Tryz.ntmps160
  go_wp2_with fail
  go_loopw [9, 5] (fun i _ wr => ∃ (k : Nat) (ca : Option Addr) (cn cc : Nat), k ≤ ts.length ∧ i = .int .i64 k ∧ KidsAt wr (w.heap.size + 2) (.slice ca cn cc) (ts.take k) ∧
      Zero6 wr w.heap.size ∧ Box6 wr (w.heap.size + 1) (.int .i64 4) (.string ⟨#[]⟩) (.float .f64 0) (.bool false) (.slice none 0 0) (.slice ca cn cc) ∧ w.heap.size + 2 ≤ wr.heap.size ∧ Below w.heap.size w wr) (fun i _ _ => ts.length - (intOf i).toNat)
  case atStart =>
    refine ⟨0, none, 0, 0, Nat.zero_le _, rfl, KidsAt.nil _ _, ?_, ?_, by simp, ((Below.refl _ _).alloc (Nat.le_refl _) _).alloc (by simp) _⟩
    · exact (heap_alloc_old _ _ (by simp)).trans (heap_alloc_new w _)
    · have := heap_alloc_new (w.alloc (.cells #[.int .i64 0, .string ⟨#[]⟩, .float .f64 0, .bool false, .slice none 0 0, .slice none 0 0] 31)) (.cells #[.int .i64 4, .string ⟨#[]⟩, .float .f64 0, .bool false, .slice none 0 0, .slice none 0 0] 31)
      simpa [Box6] using this
  case round =>
    obtain ⟨k, ca, cn, cc, hk, rfl, hkids, hz, hbox, hsz, hbel⟩ := hrel
    by_cases hlt : k < ts.length
    · obtain ⟨b', o, hca, hS, hrow⟩ := Hs.out (by omega)
      subst hca
      have c0 := (hbel.cell (p := ⟨b', o + k * 1 + 0, none⟩) (World.block_lt_of_cell? w _ (hrow k hlt 0 _ rfl))).trans (hrow k hlt 0 _ rfl)
      simp only [Nat.mul_one, Nat.add_zero] at c0
      have hc := Hel.out k hlt
      have hk1 : (ts.take (k + 1)) = ts.take k ++ [ts[k]] := List.take_succ_eq_append_getElem hlt
      have Hk1 := Lib.hid hk1; clear hk1
      have hkl : (ts.take k).length = k := by simp; omega
      have Hkl := Lib.hid hkl; clear hkl
      generalize ts[k] = t at *
      have Hc := Lib.hid hc; clear hc
      have Hbel := Lib.hid hbel; clear hbel
      have Hkids := Lib.hid hkids; clear hkids
      have Hz := Lib.hid hz; clear hz
      obtain ⟨b0, b1, b2, b3, b4, b5, bf, bl⟩ := hbox.cells
      have Hbox := Lib.hid hbox; clear hbox
      have hi1 : (0 : Int) ≤ (k : Int) := by omega
      have hi2 : (k : Int) < (ts.length : Int) := by omega
      obtain ⟨us, hul, hown, hreps⟩ := Hkids.out
      rw [Hkl.out] at hown
      have Hreps := Lib.hid hreps; clear hreps
      have Hown := Lib.hid hown; clear hown
      go_wp2_with fail
      go_region_law (first
        | (refine step_append_lies _ (by rfl) _ _ _ (by rfl) (w.heap.size + 2) 31 i0 _ 6 88 Tryz.underlying22 hi hz0 hz1 hz2 rfl (by omega) (.slice ca cn cc) k _ (by rfl) ((ownsRow_below Hown.out hb').alloc _) ⟨w2.heap.size, 0, none⟩ 1 1 [.int .i64 kind, .string text, .float .f64 num, .bool yes, .slice ka' kn' kc', .slice ca' cn' cc'] (by rfl) (by rfl) (World.news_of_block (cs := #[.int .i64 kind, .string text, .float .f64 num, .bool yes, .slice ka' kn' kc', .slice ca' cn' cc']) (t := 31) (fr := (0, 0)) (heap_alloc_new w2 _)) (by simp [Value.oneCell']) (by omega) (by unfold maxLen; omega) (by omega) (by have := hb'.size; simp; omega) (w2.heap.size + 1) (by simp) ?_; intro g cap w3 hown3 hgrow hat hlt3; have hbox3 := Box6.grown ((Hbox.out.below hb').alloc) hgrow ((ownsRow_below Hown.out hb').alloc _).lt (by omega); obtain ⟨_, _, _, _, _, y5, yf, yl⟩ := hbox3.cells)
        | (go_simp; go_at_call 110; refine (Hc.out _ Hbel.out.drew).mono ?_; rintro e w2 ⟨⟨kind, text, num, yes, ka', kn', kc', ca', cn', cc'⟩, rfl, hV, hb⟩; have hb' := Below.undrew hb; obtain ⟨_, _, _, _, _, x5, xf, xl⟩ := (Hbox.out.below hb').cells))
      all_goals (
        have hkids3 := kids_round (V := ⟨kind, text, num, yes, ka', kn', kc', ca', cn', cc'⟩) Hkl.out rfl hsz hul Hreps.out Hown.out hb' hV _ hgrow hat hown3
        have hbel3 := ((Hbel.out.trans (hb'.mono Hbel.out.size)).alloc (Nat.le_trans Hbel.out.size hb'.size) _).grown hgrow (by have := hb'.size; simp; omega) (fun k hk => by have := (Hown.out.lt k hk).1; omega)
        have hz3 := Box6.grown ((Hz.out.below hb').alloc) hgrow ((ownsRow_below Hown.out hb').alloc _).lt (by omega)
        have hsz3 : w2.heap.size + 1 ≤ w3.heap.size := by have := hgrow.size; simpa using this
        go_wp2_with fail
        go_roundw
        case rel => exact ⟨k + 1, _, _, _, by omega, by simp, by rw [Hk1.out]; exact hkids3.setCell (by simp) _, hz3.keep (heap_setCell_other _ _ _ _ (by simp)), hbox3.set5 _, by have := hb'.size; simp; omega, hbel3.setCell (by simp) _⟩
        case measure => simp [intOf]; omega)
    · obtain rfl : k = ts.length := by omega
      obtain ⟨b0, b1, b2, b3, b4, b5, bf, bl⟩ := hbox.cells
      obtain ⟨z0, z1, z2, z3, z4, z5, zf, zl⟩ := hz.cells
      have Hbel := Lib.hid hbel; clear hbel
      have Hkids := Lib.hid hkids; clear hkids
      go_wp2_with fail
      obtain ⟨p0, p1, p2, p3, p4, p5, _, _⟩ := (hz.put6 (.int .i64 4) (.string ⟨#[]⟩) (.float .f64 0) (.bool false) (.slice none 0 0) (.slice ca cn cc)).cells
      refine bodyPost_ret (v := .agg #[.int .i64 4, .string ⟨#[]⟩, .float .f64 0, .bool false, .slice none 0 0, .slice ca cn cc]) (by simp [results, Tryz.results160, go_sem, p0, p1, p2, p3, p4, p5]) rfl ?_
      refine ⟨⟨4, ⟨#[]⟩, 0, false, none, 0, 0, ca, cn, cc⟩, rfl, ?_, Below.put6 Hbel.out (Nat.le_refl _) _ _ _ _ _ _⟩
      have hk6 := Hkids.out.put6 (b := w.heap.size) (by omega) (.int .i64 4) (.string ⟨#[]⟩) (.float .f64 0) (.bool false) (.slice none 0 0) (.slice ca cn cc)
      rw [List.take_length] at hk6
      exact hk6.rep (by omega) _ (fun b hb => by omega) 4 [] none 0 SliceAt.nil (by simp)

set_option maxRecDepth 100000 in
set_option maxHeartbeats 4000000 in
theorem listOf_str (vs : Nat → Value) (ts : List Tr) (S : Nat → Prop) (a : Option Addr) (c : Nat) (w : World) (hs : SliceAt w S a 1 ts.length (fun i => [vs i])) (hl : ts.length ≤ 4294967296)
    (hel : ∀ i (hi : i < ts.length) wr, Below w.heap.size w wr → Calls Tryz.prog 110 #[.iface 9 (vs i)] wr (TreePost wr ts[i])) :
    Calls Tryz.prog 158 #[.slice a ts.length c] w (TreePost w (listT ts)) := by
  obtain ⟨i0, hi, hz0, hz1, hz2⟩ := info_parts Tryz.info31
  have Hs := Lib.hid hs; clear hs
  have Hel := Lib.hid hel; clear hel
  go_enter Tryz.func158, Tryz.ntmps158
  go_wp2_with fail
  go_loopw [9, 5] (fun i _ wr => ∃ (k : Nat) (ca : Option Addr) (cn cc : Nat), k ≤ ts.length ∧ i = .int .i64 k ∧ KidsAt wr (w.heap.size + 2) (.slice ca cn cc) (ts.take k) ∧
      Zero6 wr w.heap.size ∧ Box6 wr (w.heap.size + 1) (.int .i64 4) (.string ⟨#[]⟩) (.float .f64 0) (.bool false) (.slice none 0 0) (.slice ca cn cc) ∧ w.heap.size + 2 ≤ wr.heap.size ∧ Below w.heap.size w wr) (fun i _ _ => ts.length - (intOf i).toNat)
  case atStart =>
    refine ⟨0, none, 0, 0, Nat.zero_le _, rfl, KidsAt.nil _ _, ?_, ?_, by simp, ((Below.refl _ _).alloc (Nat.le_refl _) _).alloc (by simp) _⟩
    · exact (heap_alloc_old _ _ (by simp)).trans (heap_alloc_new w _)
    · have := heap_alloc_new (w.alloc (.cells #[.int .i64 0, .string ⟨#[]⟩, .float .f64 0, .bool false, .slice none 0 0, .slice none 0 0] 31)) (.cells #[.int .i64 4, .string ⟨#[]⟩, .float .f64 0, .bool false, .slice none 0 0, .slice none 0 0] 31)
      simpa [Box6] using this
  case round =>
    obtain ⟨k, ca, cn, cc, hk, rfl, hkids, hz, hbox, hsz, hbel⟩ := hrel
    by_cases hlt : k < ts.length
    · obtain ⟨b', o, hca, hS, hrow⟩ := Hs.out (by omega)
      subst hca
      have c0 := (hbel.cell (p := ⟨b', o + k * 1 + 0, none⟩) (World.block_lt_of_cell? w _ (hrow k hlt 0 _ rfl))).trans (hrow k hlt 0 _ rfl)
      simp only [Nat.mul_one, Nat.add_zero] at c0
      have hc := Hel.out k hlt
      have hk1 : (ts.take (k + 1)) = ts.take k ++ [ts[k]] := List.take_succ_eq_append_getElem hlt
      have Hk1 := Lib.hid hk1; clear hk1
      have hkl : (ts.take k).length = k := by simp; omega
      have Hkl := Lib.hid hkl; clear hkl
      generalize ts[k] = t at *
      have Hc := Lib.hid hc; clear hc
      have Hbel := Lib.hid hbel; clear hbel
      have Hkids := Lib.hid hkids; clear hkids
      have Hz := Lib.hid hz; clear hz
      obtain ⟨b0, b1, b2, b3, b4, b5, bf, bl⟩ := hbox.cells
      have Hbox := Lib.hid hbox; clear hbox
      have hi1 : (0 : Int) ≤ (k : Int) := by omega
      have hi2 : (k : Int) < (ts.length : Int) := by omega
      obtain ⟨us, hul, hown, hreps⟩ := Hkids.out
      rw [Hkl.out] at hown
      have Hreps := Lib.hid hreps; clear hreps
      have Hown := Lib.hid hown; clear hown
      go_wp2_with fail
      go_region_law (first
        | (refine step_append_lies _ (by rfl) _ _ _ (by rfl) (w.heap.size + 2) 31 i0 _ 6 88 Tryz.underlying22 hi hz0 hz1 hz2 rfl (by omega) (.slice ca cn cc) k _ (by rfl) ((ownsRow_below Hown.out hb').alloc _) ⟨w2.heap.size, 0, none⟩ 1 1 [.int .i64 kind, .string text, .float .f64 num, .bool yes, .slice ka' kn' kc', .slice ca' cn' cc'] (by rfl) (by rfl) (World.news_of_block (cs := #[.int .i64 kind, .string text, .float .f64 num, .bool yes, .slice ka' kn' kc', .slice ca' cn' cc']) (t := 31) (fr := (0, 0)) (heap_alloc_new w2 _)) (by simp [Value.oneCell']) (by omega) (by unfold maxLen; omega) (by omega) (by have := hb'.size; simp; omega) (w2.heap.size + 1) (by simp) ?_; intro g cap w3 hown3 hgrow hat hlt3; have hbox3 := Box6.grown ((Hbox.out.below hb').alloc) hgrow ((ownsRow_below Hown.out hb').alloc _).lt (by omega); obtain ⟨_, _, _, _, _, y5, yf, yl⟩ := hbox3.cells)
        | (go_simp; go_at_call 110; refine (Hc.out _ Hbel.out.drew).mono ?_; rintro e w2 ⟨⟨kind, text, num, yes, ka', kn', kc', ca', cn', cc'⟩, rfl, hV, hb⟩; have hb' := Below.undrew hb; obtain ⟨_, _, _, _, _, x5, xf, xl⟩ := (Hbox.out.below hb').cells))
      all_goals (
        have hkids3 := kids_round (V := ⟨kind, text, num, yes, ka', kn', kc', ca', cn', cc'⟩) Hkl.out rfl hsz hul Hreps.out Hown.out hb' hV _ hgrow hat hown3
        have hbel3 := ((Hbel.out.trans (hb'.mono Hbel.out.size)).alloc (Nat.le_trans Hbel.out.size hb'.size) _).grown hgrow (by have := hb'.size; simp; omega) (fun k hk => by have := (Hown.out.lt k hk).1; omega)
        have hz3 := Box6.grown ((Hz.out.below hb').alloc) hgrow ((ownsRow_below Hown.out hb').alloc _).lt (by omega)
        have hsz3 : w2.heap.size + 1 ≤ w3.heap.size := by have := hgrow.size; simpa using this
        go_wp2_with fail
        go_roundw
        case rel => exact ⟨k + 1, _, _, _, by omega, by simp, by rw [Hk1.out]; exact hkids3.setCell (by simp) _, hz3.keep (heap_setCell_other _ _ _ _ (by simp)), hbox3.set5 _, by have := hb'.size; simp; omega, hbel3.setCell (by simp) _⟩
        case measure => simp [intOf]; omega)
    · obtain rfl : k = ts.length := by omega
      obtain ⟨b0, b1, b2, b3, b4, b5, bf, bl⟩ := hbox.cells
      obtain ⟨z0, z1, z2, z3, z4, z5, zf, zl⟩ := hz.cells
      have Hbel := Lib.hid hbel; clear hbel
      have Hkids := Lib.hid hkids; clear hkids
      go_wp2_with fail
      obtain ⟨p0, p1, p2, p3, p4, p5, _, _⟩ := (hz.put6 (.int .i64 4) (.string ⟨#[]⟩) (.float .f64 0) (.bool false) (.slice none 0 0) (.slice ca cn cc)).cells
      refine bodyPost_ret (v := .agg #[.int .i64 4, .string ⟨#[]⟩, .float .f64 0, .bool false, .slice none 0 0, .slice ca cn cc]) (by simp [results, Tryz.results158, go_sem, p0, p1, p2, p3, p4, p5]) rfl ?_
      refine ⟨⟨4, ⟨#[]⟩, 0, false, none, 0, 0, ca, cn, cc⟩, rfl, ?_, Below.put6 Hbel.out (Nat.le_refl _) _ _ _ _ _ _⟩
      have hk6 := Hkids.out.put6 (b := w.heap.size) (by omega) (.int .i64 4) (.string ⟨#[]⟩) (.float .f64 0) (.bool false) (.slice none 0 0) (.slice ca cn cc)
      rw [List.take_length] at hk6
      exact hk6.rep (by omega) _ (fun b hb => by omega) 4 [] none 0 SliceAt.nil (by simp)
end Go.Proofs.YtbcnhcpgloncdaaGreatDoor
