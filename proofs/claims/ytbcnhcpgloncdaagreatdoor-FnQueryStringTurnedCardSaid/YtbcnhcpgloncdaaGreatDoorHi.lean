/- The listed variables: what their cells hold. -/
import Derived.Test.YtbcnhcpgloncdaaGreatDoorHh
import Derived.Test.YtbcnhcpgloncdaaGreatDoorGx
import Derived.Lib.LaidTab
import Derived.OpenShut
namespace Go.Proofs.YtbcnhcpgloncdaaGreatDoor
open Go Go.RowKit Go.Deep

theorem gOpt : Tryz.prog.globalNamed "internal/strconv.optimize" = some 0 := by kernel_rfl
theorem gPow : Tryz.prog.globalNamed "internal/strconv.pow10Tab" = some 3 := by kernel_rfl
theorem tOpt : (Tryz.prog.globals[0]?).map (·.type) = some 4 := by kernel_rfl
theorem tTens : (Tryz.prog.globals[1]?).map (·.type) = some 264 := by kernel_rfl
theorem tPow : (Tryz.prog.globals[3]?).map (·.type) = some 284 := by kernel_rfl
theorem Tryz.c264 : Tryz.prog.cellsOf 264 = 20 := by kernel_rfl
theorem Tryz.c212 : Tryz.prog.cellsOf 212 = 1 := by kernel_rfl
theorem Tryz.c283 : Tryz.prog.cellsOf 283 = 2 := by kernel_rfl
theorem two_of {α : Type} (l : List α) (h : l.length = 2) : ∃ a b, l = [a, b] := by
  match l, h with
  | [a, b], _ => exact ⟨a, b, rfl⟩
theorem row354 : Go.Pinned.pow10Rows[354]? = some (17592186044416000000, 0) := by decide +kernel
theorem row355 : Go.Pinned.pow10Rows[355]? = some (10995116277760000000, 0) := by decide +kernel

set_option maxRecDepth 100000 in
/-- An entry of the powers of ten. -/
theorem pow_entry {W : World} {enc : TypeId × Value → Unit} {fuel : Nat} {cs : List Value} {p : List MemPlace} (h : DataW.trod enc Tryz.prog W 0 (fun _ => true) false fuel 284 cs = some (Go.Pinned.pow10Tab, p)) (i : Nat) (a b : Nat)
    (hr : Go.Pinned.pow10Rows[i]? = some (a, b)) (hi : i < 696) : cs[i * 2]? = some (.int .u64 a) ∧ cs[i * 2 + 1]? = some (.int .u64 b) := by
  obtain ⟨xs, m, rfl, hx, hl, hlen, hf⟩ := DataW.trod_array Tryz.underlying284 h
  have hf := hf i hi
  rw [List.getElem?_eq_getElem (by omega), Tryz.c283] at hf
  have hx1 : xs.map (·.1) = Go.Pinned.pow10Rows.map fun x => .agg [.lit (.int .u64 (x.1 : Int)), .lit (.int .u64 (x.2 : Int))] := by
    have := congrArg Prod.fst hx
    unfold Go.Pinned.pow10Tab at this
    injection this with this
    exact this.symm
  have hx2 : xs[i].1 = .agg [.lit (.int .u64 (a : Int)), .lit (.int .u64 (b : Int))] := by
    have := congrArg (·[i]?) hx1
    simp only [List.getElem?_map, hr, Option.map_some] at this
    rw [List.getElem?_eq_getElem (by omega)] at this
    simpa using this
  obtain ⟨ys, m', _, hy, hyl, hylen, hg⟩ := DataW.trod_struct Tryz.underlying283 hf
  have hy1 : ys.map (·.1) = [.lit (.int .u64 (a : Int)), .lit (.int .u64 (b : Int))] := by
    have := congrArg Prod.fst hy
    rw [hx2] at this
    injection this with this
    exact this.symm
  rw [Tryz.c283] at hyl
  have hcs : ∀ j, j < 2 → ((cs.drop (i * 2)).take 2)[j]? = cs[i * 2 + j]? := by
    intro j hj
    rw [List.getElem?_take_of_lt hj, List.getElem?_drop]
  generalize (cs.drop (i * 2)).take 2 = es at *
  obtain ⟨y0, y1, rfl⟩ := two_of ys hylen
  obtain ⟨v0, v1, rfl⟩ := two_of es hyl
  · have g0 : DataW.trod enc Tryz.prog W 0 (fun _ => true) false m' 212 ((List.drop 0 [v0, v1]).take (Tryz.prog.cellsOf 212)) = some y0 := hg 0 _ rfl
    have g1 : DataW.trod enc Tryz.prog W 0 (fun _ => true) false m' 212 ((List.drop 1 [v0, v1]).take (Tryz.prog.cellsOf 212)) = some y1 := hg 1 _ rfl
    clear hg
    simp only [Tryz.c212, List.drop_zero, List.drop_succ_cons, List.take_succ_cons, List.take_zero] at g0 g1
    obtain ⟨n0, e0, rfl, _⟩ := DataW.trod_int Tryz.underlying212 g0
    obtain ⟨n1, e1, rfl, _⟩ := DataW.trod_int Tryz.underlying212 g1
    injection e0 with e0; injection e1 with e1
    subst e0 e1
    simp only [List.map_cons, List.map_nil, List.cons.injEq, DataW.lit.injEq, Lit.int.injEq, true_and, and_true] at hy1
    obtain ⟨rfl, rfl⟩ := hy1
    exact ⟨by rw [← Nat.add_zero (i * 2), ← hcs 0 (by decide)]; rfl, by rw [← hcs 1 (by decide)]; rfl⟩

set_option maxRecDepth 100000 in
theorem ftabs_of_laid {W : World} (h : laidMetH Tryz.prog Rows.fnQueryStringTurnedRow.laid W) : FTabs W := by
  have h' : laidMet Tryz.prog Rows.fnQueryStringTurnedRow.laid W := h
  obtain ⟨ps, hlv, _⟩ := h'
  obtain ⟨_, _, _, _, _, _, _, _, _, _, ⟨_, _, _, _, _, _, _, _, _, _, ⟨g2, t2, c2, f2, p2, _, hg2, ht2, hv2, hd2, ⟨g3, t3, c3, f3, p3, _, hg3, ht3, hv3, hd3, ⟨_, _, _, _, _, _, _, _, _, _, ⟨g5, t5, c5, f5, p5, _, hg5, ht5, hv5, hd5, _⟩, _⟩, _⟩, _⟩, _⟩, _⟩ := hlv
  obtain rfl := Option.some.inj (gOpt.symm.trans hg2)
  obtain rfl := Option.some.inj (tOpt.symm.trans ht2)
  obtain rfl := Option.some.inj (gTens.symm.trans hg3)
  obtain rfl := Option.some.inj (tTens.symm.trans ht3)
  obtain rfl := Option.some.inj (gPow.symm.trans hg5)
  obtain rfl := Option.some.inj (tPow.symm.trans ht5)
  have o2 := World.var?_cell gOpt hv2 0
  have o5 := fun i => World.var?_cell gPow hv5 i
  have k2 : c2.toList = [.bool true] := by
    obtain ⟨b, e, hx⟩ := DataW.trod_bool Tryz.underlying4 hd2
    rw [e]
    simp only [Rows.laid_internal_strconv_optimize, Prod.mk.injEq, DataW.lit.injEq, Lit.bool.injEq] at hx
    rw [hx.1]
  have k3 : Lib.TabIs Tryz.prog W "internal/strconv.uint64pow10" .u64 Lib.pow10Tab := by
    have := Lib.cells_of_tab (zs := Lib.pow10Tab) Tryz.underlying264 Tryz.underlying212 Tryz.c212 Tryz.c264 hd3
    unfold Lib.TabIs
    rw [hv3, ← this]
  obtain ⟨e0, e1⟩ := pow_entry hd5 354 _ _ row354 (by decide)
  obtain ⟨e2, e3⟩ := pow_entry hd5 355 _ _ row355 (by decide)
  have q := fun i => (o5 i).trans (Array.getElem?_toList (xs := c5) (i := i)).symm
  have h708 := (q 708).trans e0
  refine ⟨?_, h708, (q 709).trans e1, (q 710).trans e2, (q 711).trans e3, k3, World.block_lt_of_cell? W _ h708⟩
  rw [o2, ← Array.getElem?_toList, k2]
  rfl
end Go.Proofs.YtbcnhcpgloncdaaGreatDoor
