/- Drawn regions whose operations read old cells alone and whose callees leave the old cells as they were: one walk serves every order. -/
import Derived.Test.YtbcnhcpgloncdaaGreatDoorQBase
import Derived.BigQuiet
namespace Go.Proofs.YtbcnhcpgloncdaaGreatDoor
open Go Go.RowKit

/-- A world that has what 'w' has, as it was. -/
structure Later (w : World) where
  to : World
  ok : Below w.heap.size w to

instance {w : World} : Nonempty (Later w) := ⟨⟨w, Below.refl _ _⟩⟩

theorem wp_region_later {P : Program} {w : World} {id : Nat} {Q : Exit → Act → World → Prop} {a : Act} {l : List Oper} (hm : P.follows .mixedOrders = true) (hB : Region.lexB .any l.toArray = true)
    (h : wpQuiet P l.toArray (fun w' => ∃ n : Later w, w' = n.to) (fun a' => ∀ w', (∃ n : Later w, w' = n.to) → Q .normal a' w') l a) : (Code.region id l.toArray true).wp P Q a w :=
  wp_region_quiet (C := fun w' => ∃ n : Later w, w' = n.to) hm hB ⟨⟨w.drew, (Below.refl _ _).drew⟩, rfl⟩ (by simpa using h)

theorem Calls.later_of {P : Program} {f : FuncId} {args : Array Value} {w : World} {n : Later w} {v : Value}
    (h : Calls P f args n.to fun e w' => e = .returned v ∧ Below n.to.heap.size n.to w') : Calls P f args n.to fun e w'' => e = .returned v ∧ ∃ m : Later w, w'' = m.to :=
  h.mono fun _ _ ⟨he, hm⟩ => ⟨he, ⟨_, via n.ok hm⟩, rfl⟩
theorem Calls.later_of_same {P : Program} {f : FuncId} {args : Array Value} {w : World} {n : Later w} {v : Value}
    (h : Calls P f args n.to fun e w' => e = .returned v ∧ w' = n.to) : Calls P f args n.to fun e w'' => e = .returned v ∧ ∃ m : Later w, w'' = m.to :=
  h.mono fun _ _ ⟨he, hm⟩ => ⟨he, n, hm⟩
theorem Calls.later_of_same' {P : Program} {f : FuncId} {args : Array Value} {w : World} {n : Later w} {v : Value}
    (h : Calls P f args n.to fun e w' => e = .returned v ∧ n.to = w') : Calls P f args n.to fun e w'' => e = .returned v ∧ ∃ m : Later w, w'' = m.to :=
  h.mono fun _ _ ⟨he, hm⟩ => ⟨he, n, hm.symm⟩

theorem Later.cell {w : World} {b o : Nat} {u : Value} (h : w.cell? ⟨b, o, none⟩ = some u) (n : Later w) : n.to.cell? ⟨b, o, none⟩ = some u :=
  ((bcell n.ok).1 b o (World.block_lt_of_cell? w _ h)).trans h
theorem Later.keeps {w : World} (n : Later w) (S : Nat → Prop) : Keeps S w n.to := Keeps.of_below S n.ok
end Go.Proofs.YtbcnhcpgloncdaaGreatDoor
