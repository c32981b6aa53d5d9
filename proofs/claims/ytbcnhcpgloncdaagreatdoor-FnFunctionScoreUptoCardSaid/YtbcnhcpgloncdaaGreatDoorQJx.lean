/- What the arguments of the law of function_score queries are: slices of trees and of score functions. -/
import Derived.Test.YtbcnhcpgloncdaaGreatDoorQJi
import Derived.Test.YtbcnhcpgloncdaaGreatDoorQHh
namespace Go.Proofs.YtbcnhcpgloncdaaGreatDoor
open Go Go.RowKit Go.Deep

theorem Tryz.c46 : Tryz.prog.cellsOf 46 = 5 := by kernel_rfl

section
variable {H : Type} {enc : TypeId × Value → H} {w : World}

/-- A slice of trees. -/
theorem open_trees {fuel : Nat} {cs : List Value} {x : DataW H × List MemPlace} (h : DataW.trod enc Tryz.prog w 0 (fun _ => true) true fuel 22 cs = some x) :
    ∃ (a : Option Addr) (ts : List Tr) (cap : Nat), cs = [.slice a ts.length cap] ∧ ts.length ≤ cap ∧ cap ≤ maxLen ∧ TreesAt w (fun _ => True) a ts ∧ ts.length + 1 ≤ Rows.uptoBulk x.1 ∧ ∀ r, (∀ m ∈ x.1.weights Tryz.prog 22, m ≤ r) → ∀ t ∈ ts, OkT (Rows.uptoBulk x.1) r t := by
  obtain ⟨ca, cn, cc, n, C, D, hn, rfl, hcl, hcm, hD, hcn, hsum, hrow⟩ := open_row Tryz.underlying22 (by rw [Tryz.c31]; omega) h
  have hkid : ∀ i, i < cn → ∃ p : TV × Tr, C i = p.1.cells ∧ RepT w (fun _ => True) p.1 p.2 ∧ ∀ r, (∀ m ∈ (D i).weights Tryz.prog 31, m ≤ r) → OkT (Rows.uptoBulk (D i)) r p.2 := by
    intro i hi
    obtain ⟨b, o, _, _, hr⟩ := hrow (by omega)
    obtain ⟨_, _, ps, h2⟩ := hr i hi
    obtain ⟨v, t, h3, h4, h5⟩ := open_tree n _ _ h2
    exact ⟨(v, t), h3, h4, h5⟩
  haveI : Inhabited (TV × Tr) := ⟨(default, Tr.zero)⟩
  obtain ⟨f, hf⟩ := choose_lt hkid
  refine ⟨ca, (List.range cn).map fun i => (f i).2, cc, by simp, by simpa using hcl, hcm, ⟨fun i => (f i).1, ?_, ?_⟩, by simpa using hcn, ?_⟩
  · intro h0
    obtain ⟨b, o, rfl, _, hr⟩ := hrow (by simpa using h0)
    refine ⟨b, o, rfl, trivial, fun i hi j u hu => ?_⟩
    have hi' : i < cn := by simpa using hi
    obtain ⟨_, h1, _⟩ := hr i hi'
    rw [Tryz.c31] at h1
    refine h1 j u ?_
    rw [(hf i hi').1]
    exact hu
  · intro i k hk
    have hi : i < cn := by
      obtain ⟨h, _⟩ := List.getElem?_eq_some_iff.1 hk
      simpa using h
    have : (f i).2 = k := by simpa [hi] using hk
    rw [← this]
    exact (hf i hi).2.1
  · intro r hr t ht
    obtain ⟨i, hi, rfl⟩ := List.mem_map.1 ht
    have hi' := List.mem_range.1 hi
    obtain ⟨h7, h8⟩ := hD i hi'
    exact ((hf i hi').2.2 r (fun m hm => hr m (h8 m hm))).more (by omega)

/-- What score functions are no larger than. -/
def ScoresOK (n r : Nat) (ss : List ScoreM) : Prop := ∀ s ∈ ss, s.field.size + 1 ≤ n ∧ s.sets.length + 1 ≤ n ∧ s.filters.length + 1 ≤ n ∧ SetsOK n r s.sets ∧ ∀ t ∈ s.filters, OkT n r t
theorem SetsOK.more {n m r : Nat} (h : n ≤ m) {sets : List SetM} (hs : SetsOK n r sets) : SetsOK m r sets := fun s hs' => ⟨by have := (hs s hs').1; omega, (hs s hs').2.1, (hs s hs').2.2.more h⟩
theorem sets_len {sets : List SetM} {n : Nat} (h : (sets.map bulkS).sum + 1 ≤ n) : sets.length + 1 ≤ n := by
  have : ∀ l : List SetM, l.length ≤ (l.map bulkS).sum := by
    intro l
    induction l with
    | nil => simp
    | cons s l ih => simp only [List.length_cons, List.map_cons, List.sum_cons]; have : 1 ≤ bulkS s := (by unfold bulkS; omega); omega
  have := this sets
  omega

set_option maxRecDepth 100000 in
theorem open_scores {fuel : Nat} {cs : List Value} {x : DataW H × List MemPlace} (h : DataW.trod enc Tryz.prog w 0 (fun _ => true) true fuel 23 cs = some x) :
    ∃ (a : Option Addr) (ss : List ScoreM) (cap : Nat), cs = [.slice a ss.length cap] ∧ ss.length ≤ cap ∧ cap ≤ maxLen ∧ ScoresAt w (fun _ => True) a ss ∧ ss.length + 1 ≤ Rows.uptoBulk x.1 ∧ ∀ r, (∀ m ∈ x.1.weights Tryz.prog 23, m ≤ r) → ScoresOK (Rows.uptoBulk x.1) r ss := by
  obtain ⟨a, len, cap, n, C, D, hn, rfl, hl, hm, hD, hlen, hsum, hrow⟩ := open_row Tryz.underlying23 (by rw [Tryz.c46]; omega) h
  have each : ∀ i, i < len → ∃ p : SV × ScoreM, C i = p.2.cells p.1 ∧ SetsAt w (fun _ => True) p.1.sa p.2.sets ∧ TreesAt w (fun _ => True) p.1.fa p.2.filters ∧
      ∀ r, (∀ m ∈ (D i).weights Tryz.prog 46, m ≤ r) → p.2.field.size + 1 ≤ Rows.uptoBulk (D i) ∧ p.2.sets.length + 1 ≤ Rows.uptoBulk (D i) ∧ p.2.filters.length + 1 ≤ Rows.uptoBulk (D i) ∧ SetsOK (Rows.uptoBulk (D i)) r p.2.sets ∧ ∀ t ∈ p.2.filters, OkT (Rows.uptoBulk (D i)) r t := by
    intro i hi
    obtain ⟨b, o, _, _, hr⟩ := hrow (by omega)
    obtain ⟨_, _, ps, h2⟩ := hr i hi
    obtain ⟨xs, m, rfl, hx, hl, hlen, hf⟩ := DataW.trod_struct Tryz.underlying46 h2
    rw [Tryz.c46] at hl
    generalize C i = cs at *
    match xs, hlen, cs, hl with
    | [y0, y1, y2, y3, y4], _, [v0, v1, v2, v3, v4], _ =>
      have g0 : DataW.trod enc Tryz.prog w 0 (fun _ => true) true m 3 ((List.drop 0 [v0, v1, v2, v3, v4]).take (Tryz.prog.cellsOf 3)) = some y0 := hf 0 _ rfl
      have g1 : DataW.trod enc Tryz.prog w 0 (fun _ => true) true m 9 ((List.drop 1 [v0, v1, v2, v3, v4]).take (Tryz.prog.cellsOf 9)) = some y1 := hf 1 _ rfl
      have g2 : DataW.trod enc Tryz.prog w 0 (fun _ => true) true m 28 ((List.drop 2 [v0, v1, v2, v3, v4]).take (Tryz.prog.cellsOf 28)) = some y2 := hf 2 _ rfl
      have g3 : DataW.trod enc Tryz.prog w 0 (fun _ => true) true m 24 ((List.drop 3 [v0, v1, v2, v3, v4]).take (Tryz.prog.cellsOf 24)) = some y3 := hf 3 _ rfl
      have g4 : DataW.trod enc Tryz.prog w 0 (fun _ => true) true m 22 ((List.drop 4 [v0, v1, v2, v3, v4]).take (Tryz.prog.cellsOf 22)) = some y4 := hf 4 _ rfl
      clear hf
      simp only [Tryz.c3, Tryz.c9, Tryz.c28, Tryz.c24, Tryz.c22, List.drop_zero, List.drop_succ_cons, List.take_succ_cons, List.take_zero] at g0 g1 g2 g3 g4
      obtain ⟨kind, e0, rfl, _⟩ := DataW.trod_int Tryz.underlying3 g0
      obtain ⟨field, e1, rfl, hfl⟩ := DataW.trod_string Tryz.underlying9 g1
      obtain ⟨num, e2, rfl, _⟩ := trod_float g2
      obtain ⟨sa, sets, sc, e3, _, _, hsets, hsok, hssum⟩ := open_sets g3
      obtain ⟨fa, fts, fc, e4, _, _, hfts, hftl, hftok⟩ := open_trees g4
      injection e0 with e0; injection e1 with e1; injection e2 with e2; injection e3 with e3; injection e4 with e4
      subst e0 e1 e2 e3 e4
      injection hx with hx _
      rw [hx]
      have hB : Rows.uptoBulk (DataW.agg (List.map (fun x => x.fst) [(DataW.lit (.int .i64 kind), []), (.lit (.string field.data.toList), []), (.lit (.float .f64 num), []), y3, y4])) = 1 + (field.data.toList.length + 1 + (1 + (Rows.uptoBulk y3.1 + Rows.uptoBulk y4.1))) + 1 := by
        simp [Rows.uptoBulk, Rows.uptoBulkAll]
      have hts : field.data.toList.length = field.size := by simp
      have hsl := sets_len hssum
      refine ⟨(⟨sa, sc, fa, fc⟩, ⟨kind, field, num, sets, fts⟩), rfl, hsets, hfts, fun r hr => ?_⟩
      rw [hB]
      have hW : ∀ m, (m ∈ y3.1.weights Tryz.prog 24 ∨ m ∈ y4.1.weights Tryz.prog 22) → m ≤ r := by
        intro m hm
        refine hr m ?_
        simp only [DataW.weights, Tryz.underlying46, DataW.weightsEach, List.map_cons, List.map_nil]
        simp only [List.mem_append, List.mem_cons, List.not_mem_nil, or_false, false_or]
        rcases hm with h | h
        · exact .inr (.inl h)
        · exact .inr (.inr h)
      refine ⟨by simp only; omega, by simp only; omega, by simp only; omega, (hsok r (fun m hm => hW m (.inl hm))).more (by omega), fun t ht => (hftok r (fun m hm => hW m (.inr hm)) t ht).more (by omega)⟩
  haveI : Inhabited (SV × ScoreM) := ⟨(default, ScoreM.zero)⟩
  obtain ⟨f, hf⟩ := choose_lt each
  refine ⟨a, (List.range len).map fun i => (f i).2, cap, by simp, by simpa using hl, hm, ⟨fun i => (f i).1, ?_, ?_⟩, by simpa using hlen, ?_⟩
  · intro h0
    obtain ⟨b, o, rfl, _, hr⟩ := hrow (by simpa using h0)
    refine ⟨b, o, rfl, trivial, fun i hi j u hu => ?_⟩
    have hi' : i < len := by simpa using hi
    obtain ⟨_, h1, _⟩ := hr i hi'
    rw [Tryz.c46] at h1
    refine h1 j u ?_
    rw [(hf i hi').1, ← hu]
    simp [hi']
  · intro i s hs
    have hi : i < len := by
      obtain ⟨h, _⟩ := List.getElem?_eq_some_iff.1 hs
      simpa using h
    have : (f i).2 = s := by simpa [hi] using hs
    rw [← this]
    exact ⟨(hf i hi).2.1, (hf i hi).2.2.1⟩
  · intro r hr s hs
    obtain ⟨i, hi, rfl⟩ := List.mem_map.1 hs
    have hi' := List.mem_range.1 hi
    obtain ⟨h7, h8⟩ := hD i hi'
    obtain ⟨h1, h2, h3, h4, h5⟩ := (hf i hi').2.2.2 r (fun m hm => hr m (h8 m hm))
    exact ⟨by omega, by omega, by omega, h4.more (by omega), fun t ht => (h5 t ht).more (by omega)⟩
end
end Go.Proofs.YtbcnhcpgloncdaaGreatDoor
