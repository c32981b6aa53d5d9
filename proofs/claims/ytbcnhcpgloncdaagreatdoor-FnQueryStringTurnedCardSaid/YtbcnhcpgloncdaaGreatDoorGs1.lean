/- A builder stays what it is while new memory is made. -/
import Derived.Test.YtbcnhcpgloncdaaGreatDoorGs
namespace Go.Proofs.YtbcnhcpgloncdaaGreatDoor
open Go Go.RowKit Go.Maps

theorem FieldOK.keep {w w' : World} {h : Nat} {text : ByteArray} {done : List SetM} {k : FK} {u : Value} (hf : FieldOK w h text done k u) (hb : Below w.heap.size w w') : FieldOK w' h text done k u := by
  have hk : Keeps (fun b => h + 4 ≤ b) w w' := Keeps.of_below _ hb
  cases k with
  | qs => exact hf
  | text nm => exact hf
  | yes nm => exact PtrOK.keep hf hk
  | whole nm => exact PtrOK.keep hf hk
  | num nm => exact PtrOK.keep hf hk
  | noText => exact hf
  | noPtr => exact hf
  | list => exact ⟨ownsRow_below hf.1 hb, hf.2⟩
  | boosts =>
    obtain ⟨h1, n, D, h2, h3, h4⟩ := hf
    exact ⟨h1, n, D, h2.kept (Below.grow hb) (by simp), h3, h4.keep hk⟩
theorem QState.below {w w' : World} {h : Nat} {fk : Nat → FK} {N : Nat} {ty : TypeId} {text : ByteArray} {done : List SetM} (hq : QState w h fk N ty text done) (hb : Below w.heap.size w w') : QState w' h fk N ty text done := by
  have hlt := hq.lt
  obtain ⟨cs, hc, hl, hf⟩ := hq
  exact ⟨cs, (hb.block _ hlt).trans hc, hl, fun j u hu => (hf j u hu).keep hb⟩

end Go.Proofs.YtbcnhcpgloncdaaGreatDoor
