/- A world for the witness of a row that lists the tables of strconv. -/
import Derived.Test.YtbcnhcpgloncdaaGreatDoorRows
import Derived.Test.YtbcnhcpgloncdaaGreatDoorGl
import Derived.ProofKit
import Derived.Deep.Slices
import Derived.OpenShut
import Derived.Deep.DeepHandedRow
import Derived.Deep.DeepWitnessRowRef
import Derived.Lib.LaidTab
namespace Go.Proofs.YtbcnhcpgloncdaaGreatDoor
open Go Go.RowKit

theorem Tryz.own : ownKnob Tryz.prog.godebug = none := by kernel_rfl
theorem Tryz.laidOut : laidOutB Tryz.prog = true := by kernel_rfl

/-- What lies in a block of a table. -/
def litCells : DataW Unit → List Value
  | .agg parts => parts.map fun d => match d with | .lit (.int k n) => .int k n | _ => undef
  | _ => []
def setBlock (cs : Array Value) : Obj → Obj
  | .cells _ t fr => .cells cs t fr
  | o => o
def powOf (x : Nat × Nat) : List Value := [.int .u64 (x.1 : Int), .int .u64 (x.2 : Int)]
def powCells : Array Value := (Go.Pinned.pow10Rows.flatMap powOf).toArray
def cheatCells : Array Value := (Go.Pinned.cheatRows.flatMap fun x => [.int .i64 (x.1 : Int), .string ⟨x.2.toArray⟩]).toArray
noncomputable abbrev cheatAt (os : Os) : Nat := (World.settled Tryz.prog os).heap.size

/-- The settled world, the tables laid. -/
noncomputable def floatWorld (os : Os) : World :=
  let w := World.holding Tryz.prog os ⟨#[.cells cheatCells 290 (0, 0)], #[], []⟩
  { w with heap := (((((w.heap.modify 0 (setBlock #[.bool true])).modify 1 (setBlock (litCells Rows.laid_internal_strconv_uint64pow10).toArray)).modify 3 (setBlock powCells)).modify 4
      (setBlock #[.slice (some ⟨cheatAt os, 0, none⟩) Go.Pinned.cheatRows.length Go.Pinned.cheatRows.length])).modify 8 (setBlock (litCells Rows.laid_math_bits_deBruijn32tab).toArray)).modify 9 (setBlock (litCells Rows.laid_math_bits_deBruijn64tab).toArray) }
noncomputable abbrev FW (os : Os) (args : Array Value) : World := ((floatWorld os).forCall (fun _ _ => 0) ⟨#[], args, []⟩).memory

noncomputable abbrev trodU (w : World) (t : TypeId) (cs : List Value) : Option (DataW Unit × List MemPlace) := DataW.trod (fun _ => ()) Tryz.prog w 0 (fun _ => true) false 8 t cs

set_option maxRecDepth 100000
theorem v8 (os : Os) (args : Array Value) : (FW os args).heap[8]? = some (.cells (litCells Rows.laid_math_bits_deBruijn32tab).toArray 219 (0, 0)) := by kernel_rfl
theorem v9 (os : Os) (args : Array Value) : (FW os args).heap[9]? = some (.cells (litCells Rows.laid_math_bits_deBruijn64tab).toArray 302 (0, 0)) := by kernel_rfl
theorem v0 (os : Os) (args : Array Value) : (FW os args).heap[0]? = some (.cells #[.bool true] 4 (0, 0)) := by kernel_rfl
theorem v1 (os : Os) (args : Array Value) : (FW os args).heap[1]? = some (.cells (litCells Rows.laid_internal_strconv_uint64pow10).toArray 264 (0, 0)) := by kernel_rfl
theorem v4 (os : Os) (args : Array Value) : (FW os args).heap[4]? = some (.cells #[.slice (some ⟨cheatAt os, 0, none⟩) Go.Pinned.cheatRows.length Go.Pinned.cheatRows.length] 291 (0, 0)) := by kernel_rfl
theorem vN (os : Os) (args : Array Value) : (FW os args).heap[cheatAt os]? = some (.cells cheatCells 290 (0, 0)) := by kernel_rfl
theorem v3 (os : Os) (args : Array Value) : (FW os args).heap[3]? = some (.cells powCells 284 (0, 0)) := by kernel_rfl

/-- A variable's cells, out of its block. -/
theorem var_of {os : Os} {args : Array Value} {name : String} {g : Nat} {cs : Array Value} {t : TypeId} (hg : Tryz.prog.globalNamed name = some g) (h : (FW os args).heap[g]? = some (.cells cs t (0, 0))) : (FW os args).var? Tryz.prog name = some cs := by
  unfold World.var?
  rw [hg]
  simp only [Option.bind_some]
  rw [h]

theorem mapM_range {β : Type} (f : Nat → Option β) (g : Nat → β) : ∀ n, (∀ i, i < n → f i = some (g i)) → (List.range n).mapM f = some ((List.range n).map g) := by
  intro n h
  have : ∀ l : List Nat, (∀ i ∈ l, f i = some (g i)) → l.mapM f = some (l.map g) := by
    intro l
    induction l with
    | nil => intro _; rfl
    | cons a l ih =>
      intro hl
      rw [List.mapM_cons, hl a (by simp), ih (fun i hi => hl i (by simp [hi]))]
      rfl
  exact this _ (fun i hi => h i (List.mem_range.1 hi))

/-- An array whose elements lie one behind the other, each read. -/
theorem trod_flat {α : Type} [Inhabited α] {w : World} {t e : TypeId} {n fuel : Nat} (xs : List α) (g : α → List Value) (f : α → DataW Unit) (c : Nat) (ht : Tryz.prog.underlying t = some (.array n e)) (hce : Tryz.prog.cellsOf e = c) (hct : Tryz.prog.cellsOf t = n * c) 
    (hn : xs.length = n) (hg : ∀ x, (g x).length = c) (hx : ∀ x ∈ xs, DataW.trod (fun _ => ()) Tryz.prog w 0 (fun _ => true) false fuel e (g x) = some (f x, [])) :
    DataW.trod (fun _ => ()) Tryz.prog w 0 (fun _ => true) false (fuel + 1) t (xs.flatMap g) = some (.agg (xs.map f), []) := by
  have hlen : (xs.flatMap g).length = Tryz.prog.cellsOf t := by rw [flat_length g c hg, hct, hn]
  have hel : ∀ i, i < n → DataW.trod (fun _ => ()) Tryz.prog w 0 (fun _ => true) false fuel e (((xs.flatMap g).drop (i * Tryz.prog.cellsOf e)).take (Tryz.prog.cellsOf e)) = some (f (xs.getD i default), []) := by
    intro i hi
    have hi' : i < xs.length := by omega
    have e1 : ((xs.flatMap g).drop (i * Tryz.prog.cellsOf e)).take (Tryz.prog.cellsOf e) = g xs[i] := by
      rw [hce]
      apply List.ext_getElem?
      intro j
      by_cases hj : j < c
      · rw [List.getElem?_take_of_lt hj, List.getElem?_drop, flat_get g c hg xs i j hi' hj]
      · rw [List.getElem?_take_eq_none (by omega), List.getElem?_eq_none (by rw [hg]; omega)]
    rw [e1, hx _ (List.getElem_mem hi')]
    simp [List.getD, hi']
  unfold DataW.trod
  rw [ht]
  simp only [hlen, if_true]
  rw [mapM_range _ _ n hel]
  simp only [Option.map_some, List.map_map]
  congr 2
  · congr 1
    rw [Deep.map_by_index xs default f, hn]
    rfl
  · rw [List.flatMap_map]
    simp

theorem t8 (os : Os) (args : Array Value) : DataW.trod (fun _ => ()) Tryz.prog (FW os args) 0 (fun _ => true) false 8 219 (litCells Rows.laid_math_bits_deBruijn32tab) = some (Rows.laid_math_bits_deBruijn32tab, []) := by kernel_rfl
theorem t9 (os : Os) (args : Array Value) : DataW.trod (fun _ => ()) Tryz.prog (FW os args) 0 (fun _ => true) false 8 302 (litCells Rows.laid_math_bits_deBruijn64tab) = some (Rows.laid_math_bits_deBruijn64tab, []) := by kernel_rfl
theorem t0 (os : Os) (args : Array Value) : DataW.trod (fun _ => ()) Tryz.prog (FW os args) 0 (fun _ => true) false 8 4 [.bool true] = some (Rows.laid_internal_strconv_optimize, []) := by kernel_rfl
theorem t1 (os : Os) (args : Array Value) : DataW.trod (fun _ => ()) Tryz.prog (FW os args) 0 (fun _ => true) false 8 264 (litCells Rows.laid_internal_strconv_uint64pow10) = some (Rows.laid_internal_strconv_uint64pow10, []) := by kernel_rfl
theorem t4 (os : Os) (args : Array Value) : DataW.trod (fun _ => ()) Tryz.prog (FW os args) 0 (fun _ => true) false 8 291 [.slice (some ⟨cheatAt os, 0, none⟩) Go.Pinned.cheatRows.length Go.Pinned.cheatRows.length] = some (Rows.laid_internal_strconv_leftcheats, MemPlace.row ⟨cheatAt os, 0, none⟩ (Go.Pinned.cheatRows.length * 2)) := by kernel_rfl
theorem c284 : Tryz.prog.cellsOf 284 = 696 * 2 := by kernel_rfl
theorem c283' : Tryz.prog.cellsOf 283 = 2 := by kernel_rfl
theorem pow_wf : Go.Pinned.pow10Rows.all (fun x => decide (x.1 < 18446744073709551616) && decide (x.2 < 18446744073709551616)) = true := by decide +kernel
theorem pow_len : Go.Pinned.pow10Rows.length = 696 := by decide +kernel
theorem pow_one (w : World) (x : Nat × Nat) (h0 : x.1 < 18446744073709551616) (h1 : x.2 < 18446744073709551616) : DataW.trod (fun _ => ()) Tryz.prog w 0 (fun _ => true) false 7 283 (powOf x) = some (.agg [.lit (.int .u64 (x.1 : Int)), .lit (.int .u64 (x.2 : Int))], []) := by
  obtain ⟨a, b⟩ := x
  have hm : IntKind.u64.min = 0 := by decide
  have hM : IntKind.u64.max = 18446744073709551615 := by decide
  have u0 : (Lit.int .u64 (a : Int)).wf = true := by
    simp only [Lit.wf, hm, hM, Bool.and_eq_true, decide_eq_true_eq]
    simp only at h0
    omega
  have u1 : (Lit.int .u64 (b : Int)).wf = true := by
    simp only [Lit.wf, hm, hM, Bool.and_eq_true, decide_eq_true_eq]
    simp only at h1
    omega
  have c1 : Tryz.prog.cellsOf 212 = 1 := by kernel_rfl
  refine ChangeShapes.trod_struct2_mk (n := 6) (y0 := (.lit (.int .u64 (a : Int)), [])) (y1 := (.lit (.int .u64 (b : Int)), [])) Tryz.underlying283 (by rw [c283']; rfl) ?_ ?_
  · show DataW.trod _ _ _ _ _ _ 6 212 ((List.drop 0 (powOf (a, b))).take (Tryz.prog.cellsOf 212)) = _
    rw [c1]
    exact ChangeShapes.trod_int_mk 5 Tryz.underlying212 u0
  · show DataW.trod _ _ _ _ _ _ 6 212 ((List.drop 1 (powOf (a, b))).take (Tryz.prog.cellsOf 212)) = _
    rw [c1]
    exact ChangeShapes.trod_int_mk 5 Tryz.underlying212 u1
theorem t3 (os : Os) (args : Array Value) : DataW.trod (fun _ => ()) Tryz.prog (FW os args) 0 (fun _ => true) false 8 284 (Go.Pinned.pow10Rows.flatMap powOf) = some (Rows.laid_internal_strconv_pow10Tab, []) := by
  refine trod_flat (fuel := 7) Go.Pinned.pow10Rows powOf (fun x => .agg [.lit (.int .u64 (x.1 : Int)), .lit (.int .u64 (x.2 : Int))]) 2 Tryz.underlying284 c283' c284 pow_len (fun _ => rfl) ?_
  intro x hx
  have := List.all_eq_true.1 pow_wf x hx
  simp only [Bool.and_eq_true, decide_eq_true_eq] at this
  exact pow_one _ x this.1 this.2

theorem row_nodup (b n : Nat) : (MemPlace.row ⟨b, 0, none⟩ n).Nodup := by
  unfold MemPlace.row
  rw [List.nodup_iff_pairwise_ne, List.pairwise_map]
  refine List.Pairwise.imp ?_ (List.nodup_iff_pairwise_ne.1 List.nodup_range)
  intro i j hij e
  injection e with _ e
  omega
theorem row_block {b n : Nat} {p : MemPlace} (h : p ∈ MemPlace.row ⟨b, 0, none⟩ n) : p.block = b ∧ ∃ i, i < n ∧ p = .cell b i := by
  unfold MemPlace.row at h
  obtain ⟨i, hi, rfl⟩ := List.mem_map.1 h
  exact ⟨rfl, i, List.mem_range.1 hi, by simp⟩
theorem rows_nodup {b n : Nat} {l : List MemPlace} (hl : l.Nodup) (hb : ∀ p ∈ l, p.block ≠ b) : (MemPlace.row ⟨b, 0, none⟩ n ++ l).Nodup := by
  rw [List.nodup_append]
  refine ⟨row_nodup b n, hl, fun p hp q hq e => ?_⟩
  subst e
  exact hb p hq (row_block hp).1

def notIface : Value → Bool | .iface _ _ => false | _ => true
theorem place_ok {w : World} {b o : Nat} {cs : Array Value} {t : TypeId} (h : w.heap[b]? = some (.cells cs t (0, 0))) (hc : cs.toList.all notIface = true) :
    (∃ c t, w.heap[b]? = some (.cells c t (0, 0))) ∧ ∀ u v, w.cell? ⟨b, o, none⟩ = some (.iface u v) → Value.okWide Tryz.prog w .any 0 u v := by
  refine ⟨⟨_, _, h⟩, fun u v hu => ?_⟩
  exfalso
  have e : w.cell? ⟨b, o, none⟩ = cs[o]? := by simp [World.cell?, h]
  rw [e] at hu
  have hm : Value.iface u v ∈ cs.toList := by
    rw [← Array.getElem?_toList] at hu
    exact List.mem_of_getElem? hu
  have := List.all_eq_true.1 hc _ hm
  cases this

theorem cheat_num (os : Os) : 10 ≤ cheatAt os := Nat.le_of_ble_eq_true (by kernel_rfl)
theorem gl8 : Tryz.prog.globalNamed "math/bits.deBruijn32tab" = some 8 := by kernel_rfl
theorem gl9 : Tryz.prog.globalNamed "math/bits.deBruijn64tab" = some 9 := by kernel_rfl
theorem gl0 : Tryz.prog.globalNamed "internal/strconv.optimize" = some 0 := by kernel_rfl
theorem gl1 : Tryz.prog.globalNamed "internal/strconv.uint64pow10" = some 1 := by kernel_rfl
theorem gl4 : Tryz.prog.globalNamed "internal/strconv.leftcheats" = some 4 := by kernel_rfl
theorem gl3 : Tryz.prog.globalNamed "internal/strconv.pow10Tab" = some 3 := by kernel_rfl
theorem gt8 : (Tryz.prog.globals[8]?).map (·.type) = some 219 := by kernel_rfl
theorem gt9 : (Tryz.prog.globals[9]?).map (·.type) = some 302 := by kernel_rfl
theorem gt0 : (Tryz.prog.globals[0]?).map (·.type) = some 4 := by kernel_rfl
theorem gt1 : (Tryz.prog.globals[1]?).map (·.type) = some 264 := by kernel_rfl
theorem gt4 : (Tryz.prog.globals[4]?).map (·.type) = some 291 := by kernel_rfl
theorem gt3 : (Tryz.prog.globals[3]?).map (·.type) = some 284 := by kernel_rfl

/-- What is listed, and through which places it is read. -/
theorem float_vars (os : Os) (args : Array Value) : DataW.LaidVars Tryz.prog (FW os args) Rows.fnQueryStringTurnedRow.laid
    (MemPlace.row ⟨8, 0, none⟩ (litCells Rows.laid_math_bits_deBruijn32tab).toArray.size ++ [] ++ (MemPlace.row ⟨9, 0, none⟩ (litCells Rows.laid_math_bits_deBruijn64tab).toArray.size ++ [] ++ (MemPlace.row ⟨0, 0, none⟩ (#[Value.bool true]).size ++ [] ++ (MemPlace.row ⟨1, 0, none⟩ (litCells Rows.laid_internal_strconv_uint64pow10).toArray.size ++ [] ++
      (MemPlace.row ⟨4, 0, none⟩ (#[Value.slice (some ⟨cheatAt os, 0, none⟩) Go.Pinned.cheatRows.length Go.Pinned.cheatRows.length]).size ++ MemPlace.row ⟨cheatAt os, 0, none⟩ (Go.Pinned.cheatRows.length * 2) ++ (MemPlace.row ⟨3, 0, none⟩ powCells.size ++ [] ++ [])))))) :=
  ⟨8, 219, _, 8, _, _, gl8, gt8, var_of gl8 (v8 os args), t8 os args, ⟨9, 302, _, 8, _, _, gl9, gt9, var_of gl9 (v9 os args), t9 os args, ⟨0, 4, _, 8, _, _, gl0, gt0, var_of gl0 (v0 os args), t0 os args, ⟨1, 264, _, 8, _, _, gl1, gt1, var_of gl1 (v1 os args), t1 os args,
    ⟨4, 291, _, 8, _, _, gl4, gt4, var_of gl4 (v4 os args), t4 os args, ⟨3, 284, _, 8, _, _, gl3, gt3, var_of gl3 (v3 os args), t3 os args, rfl, rfl⟩, rfl⟩, rfl⟩, rfl⟩, rfl⟩, rfl⟩

theorem float_met (os : Os) (args : Array Value) : laidMet Tryz.prog Rows.fnQueryStringTurnedRow.laid (FW os args) := by
  have hN := cheat_num os
  have hv := float_vars os args
  generalize hc : (litCells Rows.laid_math_bits_deBruijn32tab).toArray.size = n8 at *
  generalize (litCells Rows.laid_math_bits_deBruijn64tab).toArray.size = n9 at *
  generalize (litCells Rows.laid_internal_strconv_uint64pow10).toArray.size = n1 at *
  generalize Go.Pinned.cheatRows.length * 2 = nN at *
  generalize powCells.size = n3 at *
  generalize (#[Value.bool true]).size = n0 at *
  generalize (#[Value.slice (some ⟨cheatAt os, 0, none⟩) Go.Pinned.cheatRows.length Go.Pinned.cheatRows.length]).size = n4 at *
  have bN := vN os args
  generalize cheatAt os = N at *
  simp only [List.append_nil] at hv
  refine ⟨_, hv, ?_, ?_⟩
  · refine rows_nodup (rows_nodup (rows_nodup (rows_nodup ?_ ?_) ?_) ?_) ?_
    · rw [List.append_assoc]
      refine rows_nodup (rows_nodup (row_nodup _ _) ?_) ?_
      · intro p hp
        rw [(row_block hp).1]; omega
      · intro p hp
        simp only [List.mem_append] at hp
        rcases hp with hp | hp <;> rw [(row_block hp).1] <;> omega
    · intro p hp
      simp only [List.mem_append] at hp
      rcases hp with (hp | hp) | hp <;> rw [(row_block hp).1] <;> omega
    · intro p hp
      simp only [List.mem_append] at hp
      rcases hp with hp | (hp | hp) | hp <;> rw [(row_block hp).1] <;> omega
    · intro p hp
      simp only [List.mem_append] at hp
      rcases hp with hp | hp | (hp | hp) | hp <;> rw [(row_block hp).1] <;> omega
    · intro p hp
      simp only [List.mem_append] at hp
      rcases hp with hp | hp | hp | (hp | hp) | hp <;> rw [(row_block hp).1] <;> omega
  · intro b off hp
    simp only [List.mem_append] at hp
    rcases hp with hp | hp | hp | hp | (hp | hp) | hp
    · obtain ⟨h1, _⟩ := row_block hp
      obtain rfl : b = 8 := h1
      exact place_ok (v8 os args) (by kernel_rfl)
    · obtain ⟨h1, _⟩ := row_block hp
      obtain rfl : b = 9 := h1
      exact place_ok (v9 os args) (by kernel_rfl)
    · obtain ⟨h1, _⟩ := row_block hp
      obtain rfl : b = 0 := h1
      exact place_ok (v0 os args) (by kernel_rfl)
    · obtain ⟨h1, _⟩ := row_block hp
      obtain rfl : b = 1 := h1
      exact place_ok (v1 os args) (by kernel_rfl)
    · obtain ⟨h1, _⟩ := row_block hp
      obtain rfl : b = 4 := h1
      exact place_ok (v4 os args) (by kernel_rfl)
    · obtain ⟨h1, _⟩ := row_block hp
      obtain rfl : b = N := h1
      exact place_ok bN (by kernel_rfl)
    · obtain ⟨h1, _⟩ := row_block hp
      obtain rfl : b = 3 := h1
      exact place_ok (v3 os args) (by kernel_rfl)

noncomputable abbrev FW0 (os : Os) (args : Array Value) : World := (floatWorld os).forCall (fun _ _ => 0) ⟨#[], args, []⟩
theorem types284 : Tryz.prog.cellTypes Tryz.prog.depth 284 = some (List.replicate 1392 212) := by kernel_rfl
theorem powCells_size : powCells.size = 1392 := by
  unfold powCells
  rw [List.size_toArray, flat_length powOf 2 (fun _ => rfl), pow_len]
theorem pow_mem {v : Value} (h : v ∈ powCells.toList) : ∃ n : Nat, n < 18446744073709551616 ∧ v = .int .u64 (n : Int) := by
  unfold powCells at h
  obtain ⟨x, hx, hv⟩ := List.mem_flatMap.1 h
  have := List.all_eq_true.1 pow_wf x hx
  simp only [Bool.and_eq_true, decide_eq_true_eq] at this
  simp only [powOf, List.mem_cons, List.not_mem_nil, or_false] at hv
  rcases hv with rfl | rfl
  · exact ⟨_, this.1, rfl⟩
  · exact ⟨_, this.2, rfl⟩
theorem pow_cell (w : World) (n : Nat) (h : n < 18446744073709551616) : Cell.okRefB Tryz.prog w 212 (.int .u64 (n : Int)) = true := by
  have hm : IntKind.u64.min = 0 := by decide
  have hM : IntKind.u64.max = 18446744073709551615 := by decide
  unfold Cell.okRefB
  rw [Tryz.underlying212]
  simp only [Cell.okB, Tryz.underlying212, hm, hM]
  simp
  omega
theorem pow_row (w : World) : Row.okRefB Tryz.prog w 284 powCells = true := by
  unfold Row.okRefB
  rw [types284]
  simp only [List.length_replicate, powCells_size]
  rw [Bool.and_eq_true]
  refine ⟨by decide, ?_⟩
  rw [List.all_eq_true]
  intro i hi
  have hi' : i < 1392 := List.mem_range.1 hi
  obtain ⟨v, e1⟩ : ∃ v, powCells[i]? = some v := ⟨_, Array.getElem?_eq_getElem (by rw [powCells_size]; exact hi')⟩
  have e2 : (List.replicate 1392 212)[i % 1392]? = some 212 := by rw [List.getElem?_replicate]; simp; omega
  obtain ⟨n, hn, rfl⟩ := pow_mem (v := v) (by rw [← Array.getElem?_toList] at e1; exact List.mem_of_getElem? e1)
  rw [e1, e2]
  exact pow_cell w n hn
def zero284 : Array Value := Array.replicate 1392 (.int .u64 0)
theorem zero284_at : (((begin Tryz.prog (fun _ _ => 0) default).world.heap[3]?).bind Obj.row?) = some (zero284, 284) := by kernel_rfl
theorem heap3 (os : Os) (args : Array Value) : (FW0 os args).heap[3]? = some (.cells powCells 284 (0, 0)) := by kernel_rfl
theorem float_shaped (os : Os) (args : Array Value) : (FW0 os args).variablesRefB Tryz.prog = true := by
  unfold World.variablesRefB
  rw [List.all_eq_true]
  intro g hg
  have hg' : g < 10 := by
    have := List.mem_range.1 hg
    exact Nat.lt_of_lt_of_eq this (by kernel_rfl)
  by_cases h3 : g = 3
  · subst h3
    simp only [zero284_at, heap3, powCells_size, pow_row, Bool.or_true, Bool.and_true]
    simp [zero284]
  · clear hg
    match g, hg', h3 with
    | 0, _, _ => (show _ = true; kernel_rfl)
    | 1, _, _ => (show _ = true; kernel_rfl)
    | 2, _, _ => (show _ = true; kernel_rfl)
    | 3, _, h => exact absurd rfl h
    | 4, _, _ => (show _ = true; kernel_rfl)
    | 5, _, _ => (show _ = true; kernel_rfl)
    | 6, _, _ => (show _ = true; kernel_rfl)
    | 7, _, _ => (show _ = true; kernel_rfl)
    | 8, _, _ => (show _ = true; kernel_rfl)
    | 9, _, _ => (show _ = true; kernel_rfl)
end Go.Proofs.YtbcnhcpgloncdaaGreatDoor
