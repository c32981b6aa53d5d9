/- FormatFloat's parts: 'fmtEFG' at 'f'. -/
import Derived.Test.YtbcnhcpgloncdaaGreatDoorGy
namespace Go.Proofs.YtbcnhcpgloncdaaGreatDoor
open Go Go.RowKit Go.BigFrame Go.Sort Go.Lib

theorem Tryz.info5 : (Tryz.prog.info? 5).map (fun i => (i.zero, i.size, i.bytes)) = some (some (.int .u8 0), 1, 1) := by kernel_rfl

/-- The bytes that have been appended, N of them; the digits lie in another block. -/
structure DS (w0 : World) (B b n : Nat) (f : Nat → UInt8) (L : List UInt8) (N : Nat) (v : Value) (wr : World) : Prop where
  own : wr.ownsRow B 5 1 v N (L.map encB)
  ne : v.ownBlock ≠ some b
  cells : ∀ t, t < n → wr.cell? ⟨b, t, none⟩ = some (encB (f t))
  lt : b < wr.heap.size
  bel : Below B w0 wr
  base : B ≤ wr.heap.size

theorem DS.form {w0 : World} {B b n : Nat} {f : Nat → UInt8} {L : List UInt8} {N : Nat} {v : Value} {wr : World} (h : DS w0 B b n f L N v wr) : ∃ a c, v = .slice a N c := by
  rcases h.own.2 with ⟨e, h0⟩ | ⟨g, cap, cur, e, _⟩
  · exact ⟨none, 0, by rw [e, h0]⟩
  · exact ⟨_, _, e⟩

theorem DS.add {w0 : World} {B b n : Nat} {f : Nat → UInt8} {L : List UInt8} {N : Nat} {v : Value} {wr w1 : World} (h : DS w0 B b n f L N v wr) {o : Obj} {g cap : Nat} {x : UInt8}
    (hown : w1.ownsRow B 5 1 (.slice (some ⟨g, 0, none⟩) (N + 1) cap) (N + 1) (L.map encB ++ [encB x])) (hg : (wr.alloc o).grownBy w1 v.ownBlock) (hat : v.ownBlock = some g ∨ g = wr.heap.size + 1) :
    DS w0 B b n f (L ++ [x]) (N + 1) (.slice (some ⟨g, 0, none⟩) (N + 1) cap) w1 := by
  have hlt := h.lt
  have hb : w1.heap[b]? = wr.heap[b]? := (hg.block b (by simp; omega) (fun e => h.ne e.symm)).trans (heap_alloc_old _ _ hlt)
  have hsz : wr.heap.size + 1 ≤ w1.heap.size := by have := hg.size; simpa using this
  refine ⟨by simpa using hown, ?_, fun t ht => (World.cell?_of_block (a := ⟨b, t, none⟩) hb).trans (h.cells t ht), by omega, (h.bel.alloc h.base _).grown hg (by have := h.base; simp; omega) (fun k hk => (h.own.lt k hk).1), by have := h.base; omega⟩
  intro e
  have e' : g = b := by simpa [Value.ownBlock] using e
  rcases hat with h1 | h1
  · exact h.ne (by rw [h1, e'])
  · omega
end Go.Proofs.YtbcnhcpgloncdaaGreatDoor
