/- What the arguments that can be read as data are: trees, and slices of settings. -/
import Derived.Test.YtbcnhcpgloncdaaGreatDoorRows
import Derived.Test.YtbcnhcpgloncdaaGreatDoorQBase
import Derived.Deep.Strs
import Derived.Laws.Cover2
namespace Go.Proofs.YtbcnhcpgloncdaaGreatDoor
open Go Go.RowKit Go.Deep

/-! What the bulk bounds. -/
theorem bulk_pos {H : Type} (d : DataW H) : 1 ≤ Rows.uptoBulk d := by
  cases d with
  | lit l => cases l <;> simp [Rows.uptoBulk]
  | nil => simp [Rows.uptoBulk]
  | ptr d => simp [Rows.uptoBulk]
  | slice elems spare => simp [Rows.uptoBulk]
  | agg parts => simp [Rows.uptoBulk]
  | iface t d => simp [Rows.uptoBulk]
  | map entries => simp [Rows.uptoBulk]
  | held h => simp [Rows.uptoBulk]
theorem bulk_part {H : Type} {d : DataW H} {l : List (DataW H)} (h : d ∈ l) : Rows.uptoBulk d ≤ Rows.uptoBulkAll l := by
  induction l with
  | nil => cases h
  | cons x r ih =>
    simp only [Rows.uptoBulkAll]
    cases List.mem_cons.1 h with
    | inl e => subst e; omega
    | inr e => have := ih e; omega
theorem bulk_length {H : Type} (l : List (DataW H)) : l.length ≤ Rows.uptoBulkAll l := by
  induction l with
  | nil => simp [Rows.uptoBulkAll]
  | cons x r ih => have := bulk_pos x; simp only [Rows.uptoBulkAll, List.length_cons]; omega

theorem sum_bulk {H : Type} (elems : List (DataW H × List MemPlace)) : ∀ f : Nat → Nat, (∀ i, i < elems.length → f i ≤ Rows.uptoBulk (elems.getD i (.nil, [])).1) → ((List.range elems.length).map f).sum ≤ Rows.uptoBulkAll (elems.map (·.1)) := by
  induction elems with
  | nil => intro f _; simp
  | cons y l ih =>
    intro f hf
    rw [List.length_cons, List.range_succ_eq_map, List.map_cons, List.sum_cons, List.map_map, List.map_cons]
    simp only [Rows.uptoBulkAll]
    have h0 := hf 0 (by simp)
    have h1 := ih (fun i => f (i + 1)) (fun i hi => by have := hf (i + 1) (by simpa using hi); simpa using this)
    simp only [List.getD_cons_zero] at h0
    have e : (f ∘ Nat.succ) = fun i => f (i + 1) := rfl
    rw [e]
    omega

/-- A tree whose parts are no larger than n, its texts no longer than r. -/
inductive OkT (n r : Nat) : Tr → Prop
  | mk (t : Tr) (h1 : t.text.size + t.keys.length + t.kids.length + 1 ≤ n) (h2 : t.text.size ≤ r) (h3 : t.num < 18446744073709551616) (h4 : ∀ k ∈ t.keys, k.size + 1 ≤ n ∧ k.size ≤ r) (h5 : ∀ k ∈ t.kids, OkT n r k) : OkT n r t
theorem OkT.more {n m r : Nat} (h : n ≤ m) {t : Tr} (ht : OkT n r t) : OkT m r t := by
  induction ht with
  | mk t h1 h2 h3 h4 _ ih => exact .mk t (by omega) h2 h3 (fun k hk => ⟨by have := (h4 k hk).1; omega, (h4 k hk).2⟩) ih
theorem OkT.size {n r : Nat} {t : Tr} (h : OkT n r t) : t.text.size + t.keys.length + t.kids.length + 1 ≤ n := by cases h; assumption
theorem OkT.text {n r : Nat} {t : Tr} (h : OkT n r t) : t.text.size ≤ r := by cases h; assumption
theorem OkT.num {n r : Nat} {t : Tr} (h : OkT n r t) : t.num < 18446744073709551616 := by cases h; assumption
theorem OkT.kid {n r : Nat} {t k : Tr} (h : OkT n r t) (hk : k ∈ t.kids) : OkT n r k := by cases h with | mk _ h1 h2 h3 h4 h5 => exact h5 k hk
theorem OkT.key {n r : Nat} {t : Tr} {k : ByteArray} (h : OkT n r t) (hk : k ∈ t.keys) : k.size + 1 ≤ n ∧ k.size ≤ r := by cases h with | mk _ h1 h2 h3 h4 h5 => exact h4 k hk

theorem Tryz.c3 : Tryz.prog.cellsOf 3 = 1 := by kernel_rfl
theorem Tryz.c9 : Tryz.prog.cellsOf 9 = 1 := by kernel_rfl
theorem Tryz.c28 : Tryz.prog.cellsOf 28 = 1 := by kernel_rfl
theorem Tryz.c4 : Tryz.prog.cellsOf 4 = 1 := by kernel_rfl
theorem Tryz.c29 : Tryz.prog.cellsOf 29 = 1 := by kernel_rfl
theorem Tryz.c22 : Tryz.prog.cellsOf 22 = 1 := by kernel_rfl
theorem Tryz.c31 : Tryz.prog.cellsOf 31 = 6 := by kernel_rfl
theorem Tryz.c54 : Tryz.prog.cellsOf 54 = 7 := by kernel_rfl
theorem Tryz.c24 : Tryz.prog.cellsOf 24 = 1 := by kernel_rfl

section
variable {H : Type} {enc : TypeId × Value → H} {w : World}

theorem weights_all {P : Program} {e : TypeId} {d : DataW H} {l : List (DataW H)} (h : d ∈ l) : ∀ m ∈ d.weights P e, m ∈ DataW.weightsAll P e l := by
  induction l with
  | nil => cases h
  | cons x r ih =>
    intro m hm
    simp only [DataW.weightsAll, List.mem_append]
    rcases List.mem_cons.1 h with rfl | h
    · exact .inl hm
    · exact .inr (ih h m hm)

theorem top_of (l : List Nat) : ∃ r, ∀ m ∈ l, m ≤ r := by
  induction l with
  | nil => exact ⟨0, fun m hm => by cases hm⟩
  | cons a l ih =>
    obtain ⟨r, hr⟩ := ih
    refine ⟨a + r, fun m hm => ?_⟩
    rcases List.mem_cons.1 hm with rfl | hm
    · omega
    · have := hr m hm; omega

/-- The places of a slice. -/
theorem open_row {t e : TypeId} {fuel : Nat} {cs : List Value} {x : DataW H × List MemPlace} (ht : Tryz.prog.underlying t = some (.slice e)) (hpos : 0 < Tryz.prog.cellsOf e) (h : DataW.trod enc Tryz.prog w 0 (fun _ => true) true fuel t cs = some x) :
    ∃ (a : Option Addr) (len cap n : Nat) (C : Nat → List Value) (D : Nat → DataW H), n < fuel ∧ cs = [.slice a len cap] ∧ len ≤ cap ∧ cap ≤ maxLen ∧ (∀ i, i < len → Rows.uptoBulk (D i) + 1 ≤ Rows.uptoBulk x.1 ∧ ∀ m ∈ (D i).weights Tryz.prog e, m ∈ x.1.weights Tryz.prog t) ∧ len + 1 ≤ Rows.uptoBulk x.1 ∧
      (∀ f : Nat → Nat, (∀ i, i < len → f i ≤ Rows.uptoBulk (D i)) → ((List.range len).map f).sum + 1 ≤ Rows.uptoBulk x.1) ∧
      (0 < len → ∃ b o, a = some ⟨b, o, none⟩ ∧ b < w.heap.size ∧ ∀ i, i < len → (C i).length = Tryz.prog.cellsOf e ∧ (∀ j u, (C i)[j]? = some u → w.cell? ⟨b, o + i * Tryz.prog.cellsOf e + j, none⟩ = some u) ∧ ∃ ps, DataW.trod enc Tryz.prog w 0 (fun _ => true) true n e (C i) = some (D i, ps)) := by
  rcases DataW.trod_slice ht h with ⟨rfl, rfl⟩ | ⟨a, len, cap, elems, rest, n, hn, rfl, rfl, hb, hl, hm, hlen, hel, hsp, hns⟩
  · exact ⟨none, 0, 0, 0, fun _ => [], fun _ => .nil, by cases fuel with | zero => simp [DataW.trod] at h | succ n => omega, rfl, by omega, by unfold maxLen; omega, fun i hi => by omega, by simp [Rows.uptoBulk], fun f _ => by simp [Rows.uptoBulk], fun hi => by omega⟩
  have hcell : ∀ i, i < len → ∃ cs', w.cells? 0 (a.add (i * Tryz.prog.cellsOf e)) (Tryz.prog.cellsOf e) = some cs' ∧ ∃ ps, DataW.trod enc Tryz.prog w 0 (fun _ => true) true n e cs' = some ((elems.getD i (.nil, [])).1, ps) := by
    intro i hi
    have key := hel i hi
    rw [List.getElem?_eq_getElem (by omega)] at key
    obtain ⟨cs', h1, h2⟩ := Option.bind_eq_some_iff.1 key
    refine ⟨cs', h1, (elems.getD i (.nil, [])).2, ?_⟩
    rw [h2]
    simp [List.getD, List.getElem?_eq_getElem (show i < elems.length by omega)]
  obtain ⟨C, hC⟩ := choose_lt hcell
  have hsum : Rows.uptoBulkAll (elems.map (·.1)) + 1 ≤ Rows.uptoBulk (DataW.slice (elems.map (·.1)) (rest.map (·.1))) := by
    simp only [Rows.uptoBulk]; omega
  have hmem : ∀ i, i < len → (elems.getD i (.nil, [])).1 ∈ elems.map (·.1) := by
    intro i hi
    rw [List.mem_map]
    exact ⟨elems.getD i (.nil, []), by simp [List.getD, List.getElem?_eq_getElem (show i < elems.length by omega)], rfl⟩
  have hall : ∀ f : Nat → Nat, (∀ i, i < len → f i ≤ Rows.uptoBulk (elems.getD i (.nil, [])).1) → ((List.range len).map f).sum ≤ Rows.uptoBulkAll (elems.map (·.1)) := by
    intro f hf
    rw [← hlen]
    exact sum_bulk elems f (fun i hi => hf i (by omega))
  refine ⟨some a, len, cap, n, C, fun i => (elems.getD i (.nil, [])).1, by omega, rfl, hl, hm, fun i hi => ?_, ?_, fun f hf => ?_, fun hi => ?_⟩
  · refine ⟨Nat.le_trans (Nat.succ_le_succ (bulk_part (hmem i hi))) hsum, fun m hm => ?_⟩
    simp only [DataW.weights, ht]
    exact List.mem_cons_of_mem _ (List.mem_append_left _ (weights_all (hmem i hi) m hm))
  · have := bulk_length (elems.map (·.1)); rw [List.length_map, hlen] at this; exact Nat.le_trans (Nat.succ_le_succ this) hsum
  · exact Nat.le_trans (Nat.succ_le_succ (hall f hf)) hsum
  · obtain ⟨h1, ps, h2⟩ := hC 0 hi
    obtain ⟨_, hl0, hc0⟩ := World.cells?_some h1
    obtain ⟨b, o, spot⟩ := a
    have h3 := hc0 0 hpos
    rw [List.getElem?_eq_getElem (by omega)] at h3
    have hspot : spot = none := by simpa [Addr.add] using World.cell?_spot h3
    subst hspot
    have hlt := World.block_lt_of_cell? w _ h3
    refine ⟨b, o, rfl, by simpa [Addr.add] using hlt, fun i hi => ?_⟩
    obtain ⟨h1, ps, h2⟩ := hC i hi
    obtain ⟨_, hl1, hc1⟩ := World.cells?_some h1
    refine ⟨hl1, fun j u hu => ?_, ps, h2⟩
    have hj : j < Tryz.prog.cellsOf e := by
      have := List.getElem?_eq_some_iff.1 hu
      obtain ⟨h, _⟩ := this; omega
    have := hc1 j hj
    rw [add_add, WideShapes.add_plain] at this
    rw [hu] at this
    rw [← this]
    simp [Nat.add_assoc]

/-- A slice of texts. -/
theorem open_texts {fuel : Nat} {cs : List Value} {x : DataW H × List MemPlace} (h : DataW.trod enc Tryz.prog w 0 (fun _ => true) true fuel 29 cs = some x) :
    ∃ (a : Option Addr) (ss : List ByteArray) (cap : Nat), cs = [.slice a ss.length cap] ∧ ss.length ≤ cap ∧ cap ≤ maxLen ∧ StrsAt w (fun _ => True) a ss ∧ ss.length + 1 ≤ Rows.uptoBulk x.1 ∧ ∀ s ∈ ss, s.size + 1 ≤ Rows.uptoBulk x.1 ∧ s.size ∈ x.1.weights Tryz.prog 29 := by
  obtain ⟨a, len, cap, n, C, D, hn, rfl, hl, hm, hD, hlen, _, hrow⟩ := open_row Tryz.underlying29 (by rw [Tryz.c9]; omega) h
  by_cases h0 : 0 < len
  · obtain ⟨b, o, rfl, hb, hi⟩ := hrow h0
    have each : ∀ i, i < len → ∃ s : ByteArray, C i = [.string s] ∧ s.size + 1 ≤ Rows.uptoBulk x.1 ∧ s.size ∈ x.1.weights Tryz.prog 29 := by
      intro i hil
      obtain ⟨_, _, ps, h2⟩ := hi i hil
      obtain ⟨s, h3, h4, h5⟩ := DataW.trod_string Tryz.underlying9 h2
      have h6 : D i = .lit (.string s.data.toList) := by injection h4
      obtain ⟨h7, h8⟩ := hD i hil
      rw [h6] at h7 h8
      simp only [Rows.uptoBulk] at h7
      have : s.data.toList.length = s.size := by simp
      refine ⟨s, h3, by omega, h8 _ ?_⟩
      simp only [DataW.weights, this]
      simp
    obtain ⟨f, hf⟩ := choose_lt each
    refine ⟨some ⟨b, o, none⟩, (List.range len).map f, cap, by simp, by simpa using hl, hm, ?_, by simpa using hlen, ?_⟩
    · intro _
      refine ⟨b, o, rfl, trivial, fun i hil j u hu => ?_⟩
      have hil' : i < len := by simpa using hil
      obtain ⟨_, h1, _⟩ := hi i hil'
      rw [Tryz.c9] at h1
      refine h1 j u ?_
      rw [(hf i hil').1]
      simpa [hil'] using hu
    · intro s hs
      obtain ⟨i, hil, rfl⟩ := List.mem_map.1 hs
      exact (hf i (List.mem_range.1 hil)).2
  · obtain rfl : len = 0 := by omega
    exact ⟨a, [], cap, rfl, by simp, hm, SliceAt.nil, hlen, fun s hs => by cases hs⟩

set_option maxRecDepth 100000 in
theorem trod_float {fuel : Nat} {cs : List Value} {x : DataW H × List MemPlace} (h : DataW.trod enc Tryz.prog w 0 (fun _ => true) true fuel 28 cs = some x) : ∃ b, cs = [.float .f64 b] ∧ x = (.lit (.float .f64 b), []) ∧ b < 18446744073709551616 := by
  cases fuel with
  | zero => simp [DataW.trod] at h
  | succ n =>
    unfold DataW.trod at h
    rw [Tryz.underlying28] at h
    split at h <;> simp_all
    rename_i k _ b hk
    subst hk
    simpa [Lit.wf] using h.1.2

set_option maxRecDepth 100000 in
/-- A tree. -/
theorem open_tree : ∀ (fuel : Nat) (cs : List Value) (x : DataW H × List MemPlace), DataW.trod enc Tryz.prog w 0 (fun _ => true) true fuel 31 cs = some x →
    ∃ (v : TV) (t : Tr), cs = v.cells ∧ RepT w (fun _ => True) v t ∧ ∀ r, (∀ m ∈ x.1.weights Tryz.prog 31, m ≤ r) → OkT (Rows.uptoBulk x.1) r t := by
  intro fuel
  induction fuel using Nat.strongRecOn with
  | _ fuel ih =>
    intro cs x h
    obtain ⟨xs, m, rfl, rfl, hl, hlen, hf⟩ := DataW.trod_struct Tryz.underlying31 h
    rw [Tryz.c31] at hl
    match xs, hlen, cs, hl with
    | [y0, y1, y2, y3, y4, y5], _, [v0, v1, v2, v3, v4, v5], _ =>
      have g0 : DataW.trod enc Tryz.prog w 0 (fun _ => true) true m 3 ((List.drop 0 [v0, v1, v2, v3, v4, v5]).take (Tryz.prog.cellsOf 3)) = some y0 := hf 0 _ rfl
      have g1 : DataW.trod enc Tryz.prog w 0 (fun _ => true) true m 9 ((List.drop 1 [v0, v1, v2, v3, v4, v5]).take (Tryz.prog.cellsOf 9)) = some y1 := hf 1 _ rfl
      have g2 : DataW.trod enc Tryz.prog w 0 (fun _ => true) true m 28 ((List.drop 2 [v0, v1, v2, v3, v4, v5]).take (Tryz.prog.cellsOf 28)) = some y2 := hf 2 _ rfl
      have g3 : DataW.trod enc Tryz.prog w 0 (fun _ => true) true m 4 ((List.drop 3 [v0, v1, v2, v3, v4, v5]).take (Tryz.prog.cellsOf 4)) = some y3 := hf 3 _ rfl
      have g4 : DataW.trod enc Tryz.prog w 0 (fun _ => true) true m 29 ((List.drop 4 [v0, v1, v2, v3, v4, v5]).take (Tryz.prog.cellsOf 29)) = some y4 := hf 4 _ rfl
      have g5 : DataW.trod enc Tryz.prog w 0 (fun _ => true) true m 22 ((List.drop 5 [v0, v1, v2, v3, v4, v5]).take (Tryz.prog.cellsOf 22)) = some y5 := hf 5 _ rfl
      clear hf
      simp only [Tryz.c3, Tryz.c9, Tryz.c28, Tryz.c4, Tryz.c29, Tryz.c22, List.drop_zero, List.drop_succ_cons, List.take_succ_cons, List.take_zero] at g0 g1 g2 g3 g4 g5
      obtain ⟨kind, e0, rfl, _⟩ := DataW.trod_int Tryz.underlying3 g0
      obtain ⟨text, e1, rfl, ht1⟩ := DataW.trod_string Tryz.underlying9 g1
      obtain ⟨num, e2, rfl, hnum⟩ := trod_float g2
      obtain ⟨yes, e3, rfl⟩ := DataW.trod_bool Tryz.underlying4 g3
      obtain ⟨ka, keys, kc, e4, _, _, hkeys, hkl, hks⟩ := open_texts g4
      obtain ⟨ca, cn, cc, n, C, D, hn, e5, hcl, hcm, hD, hcn, hsum, hrow⟩ := open_row Tryz.underlying22 (by rw [Tryz.c31]; omega) g5
      injection e0 with e0; injection e1 with e1; injection e2 with e2; injection e3 with e3; injection e4 with e4; injection e5 with e5
      subst e0 e1 e2 e3 e4 e5
      have hB : Rows.uptoBulk (DataW.agg (List.map (fun x => x.fst) [(DataW.lit (.int .i64 kind), []), (.lit (.string text.data.toList), []), (.lit (.float .f64 num), []), (.lit (.bool yes), []), y4, y5])) = 1 + (text.data.toList.length + 1 + (1 + (1 + (Rows.uptoBulk y4.1 + Rows.uptoBulk y5.1)))) + 1 := by
        simp [Rows.uptoBulk, Rows.uptoBulkAll]
      have hts : text.data.toList.length = text.size := by simp
      have hkid : ∀ i, i < cn → ∃ p : TV × Tr, C i = p.1.cells ∧ RepT w (fun _ => True) p.1 p.2 ∧ ∀ r, (∀ m ∈ (D i).weights Tryz.prog 31, m ≤ r) → OkT (Rows.uptoBulk (D i)) r p.2 := by
        intro i hi
        obtain ⟨b, o, _, _, hr⟩ := hrow (by omega)
        obtain ⟨_, _, ps, h2⟩ := hr i hi
        obtain ⟨v, t, h3, h4, h5⟩ := ih n (by omega) _ _ h2
        exact ⟨(v, t), h3, h4, h5⟩
      haveI : Inhabited (TV × Tr) := ⟨(default, Tr.zero)⟩
      obtain ⟨f, hf⟩ := choose_lt hkid
      refine ⟨⟨kind, text, num, yes, ka, keys.length, kc, ca, cn, cc⟩, .mk kind text num yes keys ((List.range cn).map fun i => (f i).2), rfl, ?_, ?_⟩
      · refine .mk _ _ (fun i => (f i).1) ⟨?_, ?_, ?_⟩ rfl rfl rfl rfl rfl hkeys (by simp [Tr.kids]) ?_ ?_
        · unfold maxLen at ht1; simp only [Tr.text]; omega
        · simp only [Tr.keys]; unfold maxLen at *; omega
        · simp only [Tr.kids, List.length_map, List.length_range]; unfold maxLen at *; omega
        · simp only [Tr.kids, List.length_map, List.length_range]
          intro h0
          obtain ⟨b, o, rfl, _, hr⟩ := hrow h0
          refine ⟨b, o, rfl, trivial, fun i hi j u hu => ?_⟩
          obtain ⟨_, h1, _⟩ := hr i hi
          rw [Tryz.c31] at h1
          refine h1 j u ?_
          rw [(hf i hi).1]
          exact hu
        · intro i k hk
          have hi : i < cn := by
            obtain ⟨h, _⟩ := List.getElem?_eq_some_iff.1 hk
            simpa [Tr.kids] using h
          have : (f i).2 = k := by simpa [Tr.kids, hi] using hk
          rw [← this]
          exact (hf i hi).2.1
      · intro r hr
        rw [hB]
        have hW : ∀ m, (m = text.size ∨ m ∈ y4.1.weights Tryz.prog 29 ∨ m ∈ y5.1.weights Tryz.prog 22) → m ≤ r := by
          intro m hm
          refine hr m ?_
          simp only [DataW.weights, Tryz.underlying31, DataW.weightsEach, List.map_cons, List.map_nil, hts]
          simp only [List.mem_append, List.mem_cons, List.not_mem_nil, or_false, false_or]
          exact hm
        refine .mk _ ?_ (hW _ (.inl rfl)) hnum (fun k hk => ⟨by have := (hks k hk).1; omega, hW _ (.inr (.inl (hks k hk).2))⟩) ?_
        · simp only [Tr.text, Tr.keys, Tr.kids, List.length_map, List.length_range]
          omega
        · intro k hk
          obtain ⟨i, hi, rfl⟩ := List.mem_map.1 hk
          obtain ⟨h7, h8⟩ := hD i (List.mem_range.1 hi)
          exact ((hf i (List.mem_range.1 hi)).2.2 r (fun m hm => hW m (.inr (.inr (h8 m hm))))).more (by omega)


/-- Settings. -/
def SetsOK (n r : Nat) (sets : List SetM) : Prop := ∀ s ∈ sets, s.name.size + 1 ≤ n ∧ s.name.size ≤ r ∧ OkT n r s.val
def bulkS (s : SetM) : Nat := s.val.text.size + s.val.keys.length + s.val.kids.length + 2

set_option maxRecDepth 100000 in
theorem open_sets {fuel : Nat} {cs : List Value} {x : DataW H × List MemPlace} (h : DataW.trod enc Tryz.prog w 0 (fun _ => true) true fuel 24 cs = some x) :
    ∃ (a : Option Addr) (sets : List SetM) (cap : Nat), cs = [.slice a sets.length cap] ∧ sets.length ≤ cap ∧ cap ≤ maxLen ∧ SetsAt w (fun _ => True) a sets ∧ (∀ r, (∀ m ∈ x.1.weights Tryz.prog 24, m ≤ r) → SetsOK (Rows.uptoBulk x.1) r sets) ∧ (sets.map bulkS).sum + 1 ≤ Rows.uptoBulk x.1 := by
  obtain ⟨a, len, cap, n, C, D, hn, rfl, hl, hm, hD, hlen, hsum, hrow⟩ := open_row Tryz.underlying24 (by rw [Tryz.c54]; omega) h
  have each : ∀ i, i < len → ∃ p : TV × SetM, C i = .string p.2.name :: p.1.cells ∧ RepT w (fun _ => True) p.1 p.2.val ∧ p.2.name.size + 1 ≤ Rows.uptoBulk (D i) ∧ (∀ r, (∀ m ∈ (D i).weights Tryz.prog 54, m ≤ r) → p.2.name.size ≤ r ∧ OkT (Rows.uptoBulk (D i)) r p.2.val) ∧ bulkS p.2 ≤ Rows.uptoBulk (D i) := by
    intro i hi
    obtain ⟨b, o, _, _, hr⟩ := hrow (by omega)
    obtain ⟨_, _, ps, h2⟩ := hr i hi
    obtain ⟨xs, m, rfl, hx, hl, hlen, hf⟩ := DataW.trod_struct Tryz.underlying54 h2
    rw [Tryz.c54] at hl
    generalize C i = cs at *
    match xs, hlen, cs, hl with
    | [y0, y1], _, [u, v0, v1, v2, v3, v4, v5], _ =>
      have g0 : DataW.trod enc Tryz.prog w 0 (fun _ => true) true m 9 ((List.drop 0 [u, v0, v1, v2, v3, v4, v5]).take (Tryz.prog.cellsOf 9)) = some y0 := hf 0 _ rfl
      have g1 : DataW.trod enc Tryz.prog w 0 (fun _ => true) true m 31 ((List.drop 1 [u, v0, v1, v2, v3, v4, v5]).take (Tryz.prog.cellsOf 31)) = some y1 := hf 1 _ rfl
      clear hf
      simp only [Tryz.c9, Tryz.c31, List.drop_zero, List.drop_succ_cons, List.take_succ_cons, List.take_zero] at g0 g1
      obtain ⟨nm, e0, rfl, hnm⟩ := DataW.trod_string Tryz.underlying9 g0
      obtain ⟨v, t, hc, hv, ht⟩ := open_tree _ _ _ g1
      injection e0 with e0
      subst e0
      injection hx with hx _
      rw [hx]
      have hB : Rows.uptoBulk (DataW.agg (List.map (fun x => x.fst) [(DataW.lit (.string nm.data.toList), []), y1])) = nm.data.toList.length + 1 + Rows.uptoBulk y1.1 + 1 := by
        simp [Rows.uptoBulk, Rows.uptoBulkAll]
      have hts : nm.data.toList.length = nm.size := by simp
      obtain ⟨r0, hr0⟩ := top_of (y1.1.weights Tryz.prog 31)
      have hsz := (ht r0 hr0).size
      refine ⟨(v, ⟨nm, t⟩), by rw [hc], hv, ?_, fun r hr => ?_, ?_⟩
      · rw [hB]; simp only; omega
      · have hW : ∀ m, (m = nm.size ∨ m ∈ y1.1.weights Tryz.prog 31) → m ≤ r := by
          intro m hm
          refine hr m ?_
          simp only [DataW.weights, Tryz.underlying54, DataW.weightsEach, List.map_cons, List.map_nil, hts]
          simp only [List.mem_append, List.mem_cons, List.not_mem_nil, or_false]
          exact hm
        refine ⟨hW _ (.inl rfl), (ht r (fun m hm => hW m (.inr hm))).more ?_⟩
        rw [hB]; omega
      · rw [hB]; simp only [bulkS]; omega
  haveI : Inhabited (TV × SetM) := ⟨(default, SetM.zero)⟩
  obtain ⟨f, hf⟩ := choose_lt each
  have hsum' := hsum (fun i => bulkS (f i).2) (fun i hi => (hf i hi).2.2.2.2)
  refine ⟨a, (List.range len).map fun i => (f i).2, cap, by simp, by simpa using hl, hm, ⟨fun i => (f i).1, ?_, ?_⟩, ?_, ?_⟩
  · intro h0
    obtain ⟨b, o, rfl, _, hr⟩ := hrow (by simpa using h0)
    refine ⟨b, o, rfl, trivial, fun i hi j u hu => ?_⟩
    have hi' : i < len := by simpa using hi
    obtain ⟨_, h1, _⟩ := hr i hi'
    rw [Tryz.c54] at h1
    refine h1 j u ?_
    rw [(hf i hi').1, ← hu]
    simp [hi']
  · intro i s hs
    have hi : i < len := by
      obtain ⟨h, _⟩ := List.getElem?_eq_some_iff.1 hs
      simpa using h
    have : (f i).2 = s := by simpa [hi] using hs
    rw [← this]
    exact (hf i hi).2.1
  · intro r hr s hs
    obtain ⟨i, hi, rfl⟩ := List.mem_map.1 hs
    have hi' := List.mem_range.1 hi
    obtain ⟨_, _, h1, h2, _⟩ := hf i hi'
    obtain ⟨h7, h8⟩ := hD i hi'
    obtain ⟨h3, h4⟩ := h2 r (fun m hm => hr m (h8 m hm))
    exact ⟨by omega, h3, h4.more (by omega)⟩
  · rw [List.map_map]
    exact hsum'
end
end Go.Proofs.YtbcnhcpgloncdaaGreatDoor
