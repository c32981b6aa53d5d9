/- 'treeOf': which kind of value it is given. -/
import Derived.Test.YtbcnhcpgloncdaaGreatDoorGl
namespace Go.Proofs.YtbcnhcpgloncdaaGreatDoor
open Go Go.RowKit

@[go_sem] theorem as9_9 (v : Value) (w : World) : (Instr.typeAssert (.iface 9 v) 20 9 true).run Tryz.prog w = .ok (.tuple #[v, .bool true]) w := by kernel_rfl
@[go_sem] theorem as4_9 (v : Value) (w : World) : (Instr.typeAssert (.iface 4 v) 20 9 true).run Tryz.prog w = .ok (.tuple #[.string ⟨#[]⟩, .bool false]) w := by kernel_rfl
@[go_sem] theorem as4_4 (v : Value) (w : World) : (Instr.typeAssert (.iface 4 v) 20 4 true).run Tryz.prog w = .ok (.tuple #[v, .bool true]) w := by kernel_rfl
@[go_sem] theorem as3_9 (v : Value) (w : World) : (Instr.typeAssert (.iface 3 v) 20 9 true).run Tryz.prog w = .ok (.tuple #[.string ⟨#[]⟩, .bool false]) w := by kernel_rfl
@[go_sem] theorem as3_4 (v : Value) (w : World) : (Instr.typeAssert (.iface 3 v) 20 4 true).run Tryz.prog w = .ok (.tuple #[.bool false, .bool false]) w := by kernel_rfl
@[go_sem] theorem as3_3 (v : Value) (w : World) : (Instr.typeAssert (.iface 3 v) 20 3 true).run Tryz.prog w = .ok (.tuple #[v, .bool true]) w := by kernel_rfl
@[go_sem] theorem as2_9 (v : Value) (w : World) : (Instr.typeAssert (.iface 2 v) 20 9 true).run Tryz.prog w = .ok (.tuple #[.string ⟨#[]⟩, .bool false]) w := by kernel_rfl
@[go_sem] theorem as2_4 (v : Value) (w : World) : (Instr.typeAssert (.iface 2 v) 20 4 true).run Tryz.prog w = .ok (.tuple #[.bool false, .bool false]) w := by kernel_rfl
@[go_sem] theorem as2_3 (v : Value) (w : World) : (Instr.typeAssert (.iface 2 v) 20 3 true).run Tryz.prog w = .ok (.tuple #[.int .i64 0, .bool false]) w := by kernel_rfl
@[go_sem] theorem as2_2 (v : Value) (w : World) : (Instr.typeAssert (.iface 2 v) 20 2 true).run Tryz.prog w = .ok (.tuple #[v, .bool true]) w := by kernel_rfl
@[go_sem] theorem as28_9 (v : Value) (w : World) : (Instr.typeAssert (.iface 28 v) 20 9 true).run Tryz.prog w = .ok (.tuple #[.string ⟨#[]⟩, .bool false]) w := by kernel_rfl
@[go_sem] theorem as28_4 (v : Value) (w : World) : (Instr.typeAssert (.iface 28 v) 20 4 true).run Tryz.prog w = .ok (.tuple #[.bool false, .bool false]) w := by kernel_rfl
@[go_sem] theorem as28_3 (v : Value) (w : World) : (Instr.typeAssert (.iface 28 v) 20 3 true).run Tryz.prog w = .ok (.tuple #[.int .i64 0, .bool false]) w := by kernel_rfl
@[go_sem] theorem as28_2 (v : Value) (w : World) : (Instr.typeAssert (.iface 28 v) 20 2 true).run Tryz.prog w = .ok (.tuple #[.int .i64 0, .bool false]) w := by kernel_rfl
@[go_sem] theorem as28_28 (v : Value) (w : World) : (Instr.typeAssert (.iface 28 v) 20 28 true).run Tryz.prog w = .ok (.tuple #[v, .bool true]) w := by kernel_rfl
@[go_sem] theorem as115_9 (v : Value) (w : World) : (Instr.typeAssert (.iface 115 v) 20 9 true).run Tryz.prog w = .ok (.tuple #[.string ⟨#[]⟩, .bool false]) w := by kernel_rfl
@[go_sem] theorem as115_4 (v : Value) (w : World) : (Instr.typeAssert (.iface 115 v) 20 4 true).run Tryz.prog w = .ok (.tuple #[.bool false, .bool false]) w := by kernel_rfl
@[go_sem] theorem as115_3 (v : Value) (w : World) : (Instr.typeAssert (.iface 115 v) 20 3 true).run Tryz.prog w = .ok (.tuple #[.int .i64 0, .bool false]) w := by kernel_rfl
@[go_sem] theorem as115_2 (v : Value) (w : World) : (Instr.typeAssert (.iface 115 v) 20 2 true).run Tryz.prog w = .ok (.tuple #[.int .i64 0, .bool false]) w := by kernel_rfl
@[go_sem] theorem as115_28 (v : Value) (w : World) : (Instr.typeAssert (.iface 115 v) 20 28 true).run Tryz.prog w = .ok (.tuple #[.float .f64 0, .bool false]) w := by kernel_rfl
@[go_sem] theorem as115_166 (v : Value) (w : World) : (Instr.typeAssert (.iface 115 v) 20 166 true).run Tryz.prog w = .ok (.tuple #[.pointer none, .bool false]) w := by kernel_rfl
@[go_sem] theorem as115_129 (v : Value) (w : World) : (Instr.typeAssert (.iface 115 v) 20 129 true).run Tryz.prog w = .ok (.tuple #[.pointer none, .bool false]) w := by kernel_rfl
@[go_sem] theorem as115_130 (v : Value) (w : World) : (Instr.typeAssert (.iface 115 v) 20 130 true).run Tryz.prog w = .ok (.tuple #[.pointer none, .bool false]) w := by kernel_rfl
@[go_sem] theorem as115_170 (v : Value) (w : World) : (Instr.typeAssert (.iface 115 v) 20 170 true).run Tryz.prog w = .ok (.tuple #[.pointer none, .bool false]) w := by kernel_rfl
@[go_sem] theorem as115_115 (v : Value) (w : World) : (Instr.typeAssert (.iface 115 v) 20 115 true).run Tryz.prog w = .ok (.tuple #[v, .bool true]) w := by kernel_rfl
@[go_sem] theorem as29_9 (v : Value) (w : World) : (Instr.typeAssert (.iface 29 v) 20 9 true).run Tryz.prog w = .ok (.tuple #[.string ⟨#[]⟩, .bool false]) w := by kernel_rfl
@[go_sem] theorem as29_4 (v : Value) (w : World) : (Instr.typeAssert (.iface 29 v) 20 4 true).run Tryz.prog w = .ok (.tuple #[.bool false, .bool false]) w := by kernel_rfl
@[go_sem] theorem as29_3 (v : Value) (w : World) : (Instr.typeAssert (.iface 29 v) 20 3 true).run Tryz.prog w = .ok (.tuple #[.int .i64 0, .bool false]) w := by kernel_rfl
@[go_sem] theorem as29_2 (v : Value) (w : World) : (Instr.typeAssert (.iface 29 v) 20 2 true).run Tryz.prog w = .ok (.tuple #[.int .i64 0, .bool false]) w := by kernel_rfl
@[go_sem] theorem as29_28 (v : Value) (w : World) : (Instr.typeAssert (.iface 29 v) 20 28 true).run Tryz.prog w = .ok (.tuple #[.float .f64 0, .bool false]) w := by kernel_rfl
@[go_sem] theorem as29_166 (v : Value) (w : World) : (Instr.typeAssert (.iface 29 v) 20 166 true).run Tryz.prog w = .ok (.tuple #[.pointer none, .bool false]) w := by kernel_rfl
@[go_sem] theorem as29_129 (v : Value) (w : World) : (Instr.typeAssert (.iface 29 v) 20 129 true).run Tryz.prog w = .ok (.tuple #[.pointer none, .bool false]) w := by kernel_rfl
@[go_sem] theorem as29_130 (v : Value) (w : World) : (Instr.typeAssert (.iface 29 v) 20 130 true).run Tryz.prog w = .ok (.tuple #[.pointer none, .bool false]) w := by kernel_rfl
@[go_sem] theorem as29_170 (v : Value) (w : World) : (Instr.typeAssert (.iface 29 v) 20 170 true).run Tryz.prog w = .ok (.tuple #[.pointer none, .bool false]) w := by kernel_rfl
@[go_sem] theorem as29_115 (v : Value) (w : World) : (Instr.typeAssert (.iface 29 v) 20 115 true).run Tryz.prog w = .ok (.tuple #[.pointer none, .bool false]) w := by kernel_rfl
@[go_sem] theorem as29_29 (v : Value) (w : World) : (Instr.typeAssert (.iface 29 v) 20 29 true).run Tryz.prog w = .ok (.tuple #[v, .bool true]) w := by kernel_rfl
@[go_sem] theorem as123_9 (v : Value) (w : World) : (Instr.typeAssert (.iface 123 v) 20 9 true).run Tryz.prog w = .ok (.tuple #[.string ⟨#[]⟩, .bool false]) w := by kernel_rfl
@[go_sem] theorem as123_4 (v : Value) (w : World) : (Instr.typeAssert (.iface 123 v) 20 4 true).run Tryz.prog w = .ok (.tuple #[.bool false, .bool false]) w := by kernel_rfl
@[go_sem] theorem as123_3 (v : Value) (w : World) : (Instr.typeAssert (.iface 123 v) 20 3 true).run Tryz.prog w = .ok (.tuple #[.int .i64 0, .bool false]) w := by kernel_rfl
@[go_sem] theorem as123_2 (v : Value) (w : World) : (Instr.typeAssert (.iface 123 v) 20 2 true).run Tryz.prog w = .ok (.tuple #[.int .i64 0, .bool false]) w := by kernel_rfl
@[go_sem] theorem as123_28 (v : Value) (w : World) : (Instr.typeAssert (.iface 123 v) 20 28 true).run Tryz.prog w = .ok (.tuple #[.float .f64 0, .bool false]) w := by kernel_rfl
@[go_sem] theorem as123_166 (v : Value) (w : World) : (Instr.typeAssert (.iface 123 v) 20 166 true).run Tryz.prog w = .ok (.tuple #[.pointer none, .bool false]) w := by kernel_rfl
@[go_sem] theorem as123_129 (v : Value) (w : World) : (Instr.typeAssert (.iface 123 v) 20 129 true).run Tryz.prog w = .ok (.tuple #[.pointer none, .bool false]) w := by kernel_rfl
@[go_sem] theorem as123_130 (v : Value) (w : World) : (Instr.typeAssert (.iface 123 v) 20 130 true).run Tryz.prog w = .ok (.tuple #[.pointer none, .bool false]) w := by kernel_rfl
@[go_sem] theorem as123_170 (v : Value) (w : World) : (Instr.typeAssert (.iface 123 v) 20 170 true).run Tryz.prog w = .ok (.tuple #[.pointer none, .bool false]) w := by kernel_rfl
@[go_sem] theorem as123_115 (v : Value) (w : World) : (Instr.typeAssert (.iface 123 v) 20 115 true).run Tryz.prog w = .ok (.tuple #[.pointer none, .bool false]) w := by kernel_rfl
@[go_sem] theorem as123_29 (v : Value) (w : World) : (Instr.typeAssert (.iface 123 v) 20 29 true).run Tryz.prog w = .ok (.tuple #[.slice none 0 0, .bool false]) w := by kernel_rfl
@[go_sem] theorem as123_174 (v : Value) (w : World) : (Instr.typeAssert (.iface 123 v) 20 174 true).run Tryz.prog w = .ok (.tuple #[.slice none 0 0, .bool false]) w := by kernel_rfl
@[go_sem] theorem as123_123 (v : Value) (w : World) : (Instr.typeAssert (.iface 123 v) 20 123 true).run Tryz.prog w = .ok (.tuple #[v, .bool true]) w := by kernel_rfl
@[go_sem] theorem as122_9 (v : Value) (w : World) : (Instr.typeAssert (.iface 122 v) 20 9 true).run Tryz.prog w = .ok (.tuple #[.string ⟨#[]⟩, .bool false]) w := by kernel_rfl
@[go_sem] theorem as122_4 (v : Value) (w : World) : (Instr.typeAssert (.iface 122 v) 20 4 true).run Tryz.prog w = .ok (.tuple #[.bool false, .bool false]) w := by kernel_rfl
@[go_sem] theorem as122_3 (v : Value) (w : World) : (Instr.typeAssert (.iface 122 v) 20 3 true).run Tryz.prog w = .ok (.tuple #[.int .i64 0, .bool false]) w := by kernel_rfl
@[go_sem] theorem as122_2 (v : Value) (w : World) : (Instr.typeAssert (.iface 122 v) 20 2 true).run Tryz.prog w = .ok (.tuple #[.int .i64 0, .bool false]) w := by kernel_rfl
@[go_sem] theorem as122_28 (v : Value) (w : World) : (Instr.typeAssert (.iface 122 v) 20 28 true).run Tryz.prog w = .ok (.tuple #[.float .f64 0, .bool false]) w := by kernel_rfl
@[go_sem] theorem as122_166 (v : Value) (w : World) : (Instr.typeAssert (.iface 122 v) 20 166 true).run Tryz.prog w = .ok (.tuple #[.pointer none, .bool false]) w := by kernel_rfl
@[go_sem] theorem as122_129 (v : Value) (w : World) : (Instr.typeAssert (.iface 122 v) 20 129 true).run Tryz.prog w = .ok (.tuple #[.pointer none, .bool false]) w := by kernel_rfl
@[go_sem] theorem as122_130 (v : Value) (w : World) : (Instr.typeAssert (.iface 122 v) 20 130 true).run Tryz.prog w = .ok (.tuple #[.pointer none, .bool false]) w := by kernel_rfl
@[go_sem] theorem as122_170 (v : Value) (w : World) : (Instr.typeAssert (.iface 122 v) 20 170 true).run Tryz.prog w = .ok (.tuple #[.pointer none, .bool false]) w := by kernel_rfl
@[go_sem] theorem as122_115 (v : Value) (w : World) : (Instr.typeAssert (.iface 122 v) 20 115 true).run Tryz.prog w = .ok (.tuple #[.pointer none, .bool false]) w := by kernel_rfl
@[go_sem] theorem as122_29 (v : Value) (w : World) : (Instr.typeAssert (.iface 122 v) 20 29 true).run Tryz.prog w = .ok (.tuple #[.slice none 0 0, .bool false]) w := by kernel_rfl
@[go_sem] theorem as122_174 (v : Value) (w : World) : (Instr.typeAssert (.iface 122 v) 20 174 true).run Tryz.prog w = .ok (.tuple #[.slice none 0 0, .bool false]) w := by kernel_rfl
@[go_sem] theorem as122_123 (v : Value) (w : World) : (Instr.typeAssert (.iface 122 v) 20 123 true).run Tryz.prog w = .ok (.tuple #[.slice none 0 0, .bool false]) w := by kernel_rfl
@[go_sem] theorem as122_177 (v : Value) (w : World) : (Instr.typeAssert (.iface 122 v) 20 177 true).run Tryz.prog w = .ok (.tuple #[.slice none 0 0, .bool false]) w := by kernel_rfl
@[go_sem] theorem as122_122 (v : Value) (w : World) : (Instr.typeAssert (.iface 122 v) 20 122 true).run Tryz.prog w = .ok (.tuple #[v, .bool true]) w := by kernel_rfl

def textT (s : ByteArray) : Tr := .mk 1 s 0 false [] []
def numT (x : Nat) : Tr := .mk 2 ⟨#[]⟩ x false [] []
def yesT (b : Bool) : Tr := .mk 3 ⟨#[]⟩ 0 b [] []
theorem leaf (kind : Int) (s : ByteArray) (x : Nat) (y : Bool) (h : s.size ≤ 9223372036854775807) (w : World) (S : Nat → Prop) : RepT w S ⟨kind, s, x, y, none, 0, 0, none, 0, 0⟩ (.mk kind s x y [] []) :=
  .mk _ _ (fun _ => default) ⟨h, by simp [Tr.keys], by simp [Tr.kids]⟩ rfl rfl rfl rfl rfl SliceAt.nil rfl SliceAt.nil (fun i k h => by simp [Tr.kids] at h)

set_option maxRecDepth 100000 in
set_option maxHeartbeats 2000000 in
theorem treeOf_nil (w : World) : Calls Tryz.prog 110 #[.nilIface] w fun e w' => e = .returned (TV.val ⟨0, ⟨#[]⟩, 0, false, none, 0, 0, none, 0, 0⟩) ∧ Below w.heap.size w w' := by
  go_enter Tryz.func110, Tryz.ntmps110
  go_wp2_with fail
  exact bodyPost_ret (v := _) (by simp [results, Tryz.results110, go_sem]) rfl ⟨rfl, (Below.refl _ _).alloc (Nat.le_refl _) _⟩

set_option maxRecDepth 100000 in
set_option maxHeartbeats 2000000 in
theorem treeOf_str (s : ByteArray) (w : World) : Calls Tryz.prog 110 #[.iface 9 (.string s)] w fun e w' => e = .returned (TV.val ⟨1, s, 0, false, none, 0, 0, none, 0, 0⟩) ∧ Below w.heap.size w w' := by
  go_enter Tryz.func110, Tryz.ntmps110
  go_wp2_with fail
  exact bodyPost_ret (v := _) (by simp [results, Tryz.results110, go_sem]) rfl ⟨rfl, (Below.refl _ _).alloc (Nat.le_refl _) _⟩

set_option maxRecDepth 100000 in
set_option maxHeartbeats 2000000 in
theorem treeOf_yes (b : Bool) (w : World) : Calls Tryz.prog 110 #[.iface 4 (.bool b)] w fun e w' => e = .returned (TV.val ⟨3, ⟨#[]⟩, 0, b, none, 0, 0, none, 0, 0⟩) ∧ Below w.heap.size w w' := by
  go_enter Tryz.func110, Tryz.ntmps110
  go_wp2_with fail
  exact bodyPost_ret (v := _) (by simp [results, Tryz.results110, go_sem]) rfl ⟨rfl, (Below.refl _ _).alloc (Nat.le_refl _) _⟩

set_option maxRecDepth 100000 in
set_option maxHeartbeats 2000000 in
theorem treeOf_int (n : Int) (w : World) : Calls Tryz.prog 110 #[.iface 3 (.int .i64 n)] w fun e w' => e = .returned (TV.val ⟨2, ⟨#[]⟩, floatOfInt .f64 n, false, none, 0, 0, none, 0, 0⟩) ∧ Below w.heap.size w w' := by
  go_enter Tryz.func110, Tryz.ntmps110
  go_wp2_with fail
  exact bodyPost_ret (v := _) (by simp [results, Tryz.results110, go_sem]) rfl ⟨rfl, (Below.refl _ _).alloc (Nat.le_refl _) _⟩

set_option maxRecDepth 100000 in
set_option maxHeartbeats 2000000 in
theorem treeOf_num (x : Nat) (w : World) : Calls Tryz.prog 110 #[.iface 28 (.float .f64 x)] w fun e w' => e = .returned (TV.val ⟨2, ⟨#[]⟩, x, false, none, 0, 0, none, 0, 0⟩) ∧ Below w.heap.size w w' := by
  go_enter Tryz.func110, Tryz.ntmps110
  go_wp2_with fail
  exact bodyPost_ret (v := _) (by simp [results, Tryz.results110, go_sem]) rfl ⟨rfl, (Below.refl _ _).alloc (Nat.le_refl _) _⟩
set_option maxRecDepth 100000 in
set_option maxHeartbeats 2000000 in
theorem treeOf_long (n : Int) (w : World) : Calls Tryz.prog 110 #[.iface 2 (.int .i64 n)] w fun e w' => e = .returned (TV.val ⟨2, ⟨#[]⟩, floatOfInt .f64 n, false, none, 0, 0, none, 0, 0⟩) ∧ Below w.heap.size w w' := by
  go_enter Tryz.func110, Tryz.ntmps110
  go_wp2_with fail
  exact bodyPost_ret (v := _) (by simp [results, Tryz.results110, go_sem]) rfl ⟨rfl, (Below.refl _ _).alloc (Nat.le_refl _) _⟩
end Go.Proofs.YtbcnhcpgloncdaaGreatDoor
