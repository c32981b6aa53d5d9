/- A world for the witness of a row that lists the tables of unicode; what the listed variables hold. -/
import Derived.Test.YtbcnhcpgloncdaaGreatDoorRows
import Derived.Test.YtbcnhcpgloncdaaGreatDoorQShelf
import Derived.Test.YtbcnhcpgloncdaaGreatDoorQJe
import Derived.ProofKit
import Derived.OpenShut
import Derived.Deep.DeepHandedRow
import Derived.Deep.DeepWitnessRowRef
import Derived.Lib.LaidCaseMet
namespace Go.Proofs.YtbcnhcpgloncdaaGreatDoor
open Go Go.RowKit Go.Shelf

theorem Tryz.own : ownKnob Tryz.prog.godebug = none := by kernel_rfl
theorem Tryz.laidOut : laidOutB Tryz.prog = true := by kernel_rfl

/-- The order of three listed variables makes no odds. -/
theorem laid_swap {P : Program} {w : World} {a b c : String × DataW Unit} (h : laidMet P [a, b, c] w) : laidMet P [a, c, b] w := by
  obtain ⟨ps, hlv, hnd, hpl⟩ := h
  obtain ⟨g1, t1, c1, f1, p1, q1, a1, a2, a3, a4, ⟨g2, t2, c2, f2, p2, q2, b1, b2, b3, b4, ⟨g3, t3, c3, f3, p3, q3, d1, d2, d3, d4, hq3, rfl⟩, rfl⟩, rfl⟩ := hlv
  have hperm : (MemPlace.row ⟨g1, 0, none⟩ c1.size ++ p1 ++ (MemPlace.row ⟨g3, 0, none⟩ c3.size ++ p3 ++ (MemPlace.row ⟨g2, 0, none⟩ c2.size ++ p2 ++ q3))).Perm (MemPlace.row ⟨g1, 0, none⟩ c1.size ++ p1 ++ (MemPlace.row ⟨g2, 0, none⟩ c2.size ++ p2 ++ (MemPlace.row ⟨g3, 0, none⟩ c3.size ++ p3 ++ q3))) :=
    List.Perm.append_left _ (List.perm_append_comm_assoc _ _ _)
  exact ⟨_, ⟨g1, t1, c1, f1, p1, _, a1, a2, a3, a4, ⟨g3, t3, c3, f3, p3, _, d1, d2, d3, d4, ⟨g2, t2, c2, f2, p2, _, b1, b2, b3, b4, hq3, rfl⟩, rfl⟩, rfl⟩, hperm.nodup_iff.2 hnd, fun x off hp => hpl x off (hperm.mem_iff.1 hp)⟩

def setBlock (cs : Array Value) : Obj → Obj
  | .cells _ t fr => .cells cs t fr
  | o => o
noncomputable abbrev caseAt (os : Os) : Nat := (World.settled Tryz.prog os).heap.size
/-- The settled world, the three tables laid. -/
noncomputable def caseWorld (os : Os) : World :=
  let w := World.holding Tryz.prog os ⟨#[.cells Lib.caseCells5 (Tryz.lays159_ren.t 208) (0, 0)], #[], []⟩
  { w with heap := ((w.heap.modify 2 (setBlock #[.slice (some ⟨caseAt os, 0, none⟩) 336 336])).modify 6 (setBlock (Lib.firstTab.map fun z => Value.int .u8 z).toArray)).modify 7 (setBlock ((List.range 16).flatMap fun i => [Value.int .u8 (Lib.accLo i), Value.int .u8 (Lib.accHi i)]).toArray) }

theorem e_first : Go.Pinned.utf8First = Lib.firstData := by kernel_rfl
theorem e_case : Go.Pinned.caseRanges = Lib.caseData := by kernel_rfl
theorem e_accept : (Rows.laid_unicode_utf8_acceptRanges : DataW Unit) = Lib.acceptData := by kernel_rfl
theorem caseX : CaseExtra Tryz.prog Tryz.lays159_ren := ⟨by kernel_rfl, by kernel_rfl, by kernel_rfl, by kernel_rfl, by kernel_rfl, by kernel_rfl⟩
set_option maxRecDepth 100000 in
theorem case_met (os : Os) (args : Array Value) : laidMet Tryz.prog Rows.fnFunctionScoreUptoRow.laid ((caseWorld os).forCall (fun _ _ => 0) ⟨#[], args, []⟩).memory := by
  have h : laidMet Tryz.prog ([("unicode/utf8.acceptRanges", Lib.acceptData), ("unicode/utf8.first", Lib.firstData)] ++ [("unicode.CaseRanges", Lib.caseData)]) ((caseWorld os).forCall (fun _ _ => 0) ⟨#[], args, []⟩).memory :=
    laidMet_with_case (ρ := Tryz.lays159_ren) { Tryz.lays159 with } Tryz.lays159.t206 caseX 10 (by kernel_rfl) (by kernel_rfl) (by kernel_rfl) ((World.settled Tryz.prog default).heap.size) (Tryz.lays159_ren.t 208) (of_decide_eq_true (by kernel_rfl)) (by kernel_rfl) (by kernel_rfl) (by kernel_rfl)
  have h2 := laid_swap h
  rw [← e_first, ← e_case, ← e_accept] at h2
  exact h2
theorem utabs_of_laid {W : World} (h : laidMetH Tryz.prog Rows.fnFunctionScoreUptoRow.laid W) : UTabs W := by
  have h' : laidMet Tryz.prog Rows.fnFunctionScoreUptoRow.laid W := h
  have r1 := Lib.laidMet.reads h' (.head _)
  have r2 := Lib.laidMet.reads h' (.tail _ (.head _))
  have r3 := Lib.laidMet.reads h' (.tail _ (.tail _ (.head _)))
  have r1' : Lib.VarReads Tryz.prog W "unicode/utf8.acceptRanges" Lib.acceptData := by rw [← e_accept]; exact r1
  have r2' : Lib.VarReads Tryz.prog W "unicode.CaseRanges" Lib.caseData := by rw [← e_case]; exact r2
  have r3' : Lib.VarReads Tryz.prog W "unicode/utf8.first" Lib.firstData := by rw [← e_first]; exact r3
  exact ⟨caseVar_of_reads (ρ := Tryz.lays159_ren) { Tryz.lays159 with } Tryz.lays159.t206 caseX r2', utf8Tabs_of_reads (ρ := Tryz.lays159_ren) { Tryz.lays159 with } ⟨by kernel_rfl, by kernel_rfl, by kernel_rfl, by kernel_rfl, by kernel_rfl, by kernel_rfl, by kernel_rfl⟩ r3' r1'⟩
theorem utabs_below {W w' : World} (h : UTabs W) (hb : Below W.heap.size W w') : UTabs w' := ⟨Lib.CaseVar_below h.1 hb, Utf8Tabs_below h.2 hb⟩
end Go.Proofs.YtbcnhcpgloncdaaGreatDoor
