/- Rows of elements of several cells; 'Back'. -/
import Derived.Test.YtbcnhcpgloncdaaGreatDoorGk
namespace Go.Proofs.YtbcnhcpgloncdaaGreatDoor
open Go Go.RowKit
open Go.BigFrame

theorem Tryz.info54 : (Tryz.prog.info? 54).map (fun i => (i.zero, i.size, i.bytes)) = some (some (.agg #[.string ⟨#[]⟩, .int .i64 0, .string ⟨#[]⟩, .float .f64 0, .bool false, .slice none 0 0, .slice none 0 0]), 7, 104) := by kernel_rfl

/-- Elements of 'sz' cells each, one behind the other. -/
theorem flat_get {α : Type} (f : α → List Value) (sz : Nat) (hf : ∀ x, (f x).length = sz) : ∀ (l : List α) (i j : Nat) (hi : i < l.length), j < sz → (l.flatMap f)[i * sz + j]? = (f l[i])[j]?
  | x :: l, 0, j, _, hj => by
    simp only [List.flatMap_cons, Nat.zero_mul, Nat.zero_add, List.getElem_cons_zero]
    rw [List.getElem?_append_left (by rw [hf]; exact hj)]
  | x :: l, i + 1, j, hi, hj => by
    simp only [List.flatMap_cons, List.getElem_cons_succ]
    rw [List.getElem?_append_right (by rw [hf, Nat.add_mul]; omega), hf, Nat.add_mul, Nat.one_mul, show i * sz + sz + j - sz = i * sz + j by omega]
    exact flat_get f sz hf l i j (by simpa using hi) hj
theorem flat_length {α : Type} (f : α → List Value) (sz : Nat) (hf : ∀ x, (f x).length = sz) (l : List α) : (l.flatMap f).length = l.length * sz := by
  induction l with
  | nil => simp
  | cons x l ih => simp only [List.flatMap_cons, List.length_append, hf, ih, List.length_cons, Nat.add_mul, Nat.one_mul]; omega

/-- What an owned row of such elements says of the cells. -/
theorem row_of_own {α : Type} {w : World} {base : Nat} {e : TypeId} {sz g n cap : Nat} (f : α → List Value) (hf : ∀ x, (f x).length = sz) (l : List α) (hl : l.length = n)
    (h : w.ownsRow base e sz (.slice (some ⟨g, 0, none⟩) n cap) n (l.flatMap f)) (cs : Nat → List Value) (hcs : ∀ i (hi : i < l.length), cs i = f l[i]) : RowAt w g 0 sz n cs := by
  intro i hi j u hu
  subst hl
  rw [hcs i hi] at hu
  have hj : j < sz := by
    rcases Nat.lt_or_ge j sz with h1 | h1
    · exact h1
    · rw [List.getElem?_eq_none (by rw [hf]; exact h1)] at hu; cases hu
  have hk : i * sz + j < l.length * sz := by
    have : (i + 1) * sz ≤ l.length * sz := Nat.mul_le_mul_right sz hi
    rw [Nat.add_mul, Nat.one_mul] at this
    omega
  have := h.cellAt (i * sz + j) hk
  rw [flat_get f sz hf l i j hi hj, hu] at this
  simpa using this

set_option maxRecDepth 100000 in
set_option maxHeartbeats 2000000 in
theorem back_any (sets : List SetM) (S : Nat → Prop) (a : Option Addr) (c : Nat) (w : World) (hr : SetsAt w S a sets) (hl : sets.length ≤ 1048576) :
    Calls Tryz.prog 16 #[.slice a sets.length c] w fun e w' => (∃ g cap, e = .returned (.slice (some ⟨g, 0, none⟩) sets.length cap) ∧ SetsAt w' (fun _ => True) (some ⟨g, 0, none⟩) sets.reverse) ∧ Below w.heap.size w w' := by
  obtain ⟨i0, hi, hz0, hz1, hz2⟩ := info_parts Tryz.info54
  obtain ⟨vs, h1, h2⟩ := hr
  have H1 := Lib.hid h1; clear h1
  have H2 := Lib.hid h2; clear h2
  obtain ⟨f, hf⟩ : ∃ f : Nat → List Value, f = fun i => .string (sets.getD i SetM.zero).name :: (vs i).cells := ⟨_, rfl⟩
  have Hf := Lib.hid hf; clear hf
  go_enter Tryz.func16, Tryz.ntmps16
  go_wp2_with fail
  go_loopw [3, 4] (fun v i wr => ∃ (k g cap : Nat), k ≤ sets.length ∧ i = .int .i64 ((k : Int) - 1) ∧ v = .slice (some ⟨g, 0, none⟩) (sets.length - k) cap ∧
      wr.ownsRow w.heap.size 54 7 (.slice (some ⟨g, 0, none⟩) (sets.length - k) cap) (sets.length - k) (((List.range sets.length).drop k).reverse.flatMap f) ∧ Below w.heap.size w wr) (fun _ i _ => (intOf i + 1).toNat)
  case atStart => exact ⟨sets.length, w.heap.size, 0, Nat.le_refl _, rfl, by simp, by rw [List.drop_of_length_le (by simp)]; simpa using World.ownsRow_made (base := w.heap.size) (e := 54) (size := 7) w #[] 0 (Nat.le_refl _) (by unfold maxLen; omega) rfl, (Below.refl _ _).alloc (Nat.le_refl _) _⟩
  case round =>
    obtain ⟨k, g, cap, hk, rfl, rfl, hown, hbel⟩ := hrel
    rcases k with _ | k
    · have Hown := Lib.hid hown; clear hown
      go_wp2_with fail
      go_ret
      refine ⟨⟨g, cap, by simp, fun i => vs (sets.length - 1 - i), ?_, ?_⟩, hbel⟩
      · intro hn
        refine ⟨g, 0, rfl, trivial, ?_⟩
        have := Hown.out
        simp only [Nat.sub_zero, List.drop_zero] at this
        rw [List.length_reverse]
        refine row_of_own f (fun x => by rw [Hf.out]; simp) (List.range sets.length).reverse (by simp) this _ ?_
        intro i hi
        have hi' : i < sets.length := by simpa using hi
        rw [Hf.out]
        simp only [List.getElem_reverse, List.length_range, List.getElem_range]
        simp only [List.getD_eq_getElem?_getD]
        rw [List.getElem?_reverse hi']
      · intro i s hs
        have hi : i < sets.length := by
          have := List.getElem?_eq_some_iff.1 hs
          obtain ⟨h, _⟩ := this
          simpa using h
        rw [List.getElem?_reverse hi] at hs
        exact ((H2.out _ _ hs).keep (Keeps.of_below S hbel)).mono (fun _ _ _ => trivial)
    · obtain ⟨b', o, hca, hS, hrow⟩ := H1.out (by omega)
      subst hca
      have hc := fun j u hj => hrow k (by omega) j u hj
      have e0 : (sets.getD k SetM.zero) = sets[k] := by simp [show k < sets.length by omega]
      simp only [e0] at hc
      have q0 := hc 0 _ rfl
      have hlb := World.block_lt_of_cell? w _ q0
      simp only at hlb
      have hcw := fun o u (h : w.cell? ⟨b', o, none⟩ = some u) => (hbel.cell (p := ⟨b', o, none⟩) hlb).trans h
      have c0 := hcw _ _ (hc 0 _ rfl)
      rw [Nat.add_zero] at c0
      have c1 := hcw _ _ (hc 1 _ rfl)
      have c2 := hcw _ _ (hc 2 _ rfl)
      have c3 := hcw _ _ (hc 3 _ rfl)
      have c4 := hcw _ _ (hc 4 _ rfl)
      have c5 := hcw _ _ (hc 5 _ rfl)
      have c6 := hcw _ _ (hc 6 _ rfl)
      have Hfk : Hid (f k = .string sets[k].name :: (vs k).cells) := Lib.hid (by rw [Hf.out]; simp [show k < sets.length by omega])
      have Hd : Hid (((List.range sets.length).drop k).reverse.flatMap f = ((List.range sets.length).drop (k + 1)).reverse.flatMap f ++ f k) := Lib.hid (by
        rw [List.drop_eq_getElem_cons (by simp; omega)]; simp)
      clear hc hcw q0 hrow e0
      generalize sets[k].name = nm at *
      generalize vs k = v at *
      obtain ⟨kind, text, num, yes, ka, kn, kc, ca, cn, cc⟩ := v
      simp only at c1 c2 c3 c4 c5 c6
      have hi1 : (0 : Int) ≤ (k : Int) := by omega
      have hi2 : (k : Int) < (sets.length : Int) := by omega
      have hsz : w.heap.size ≤ wr.heap.size := hbel.size
      have hsub : sets.length - (k + 1) + 1 = sets.length - k := by omega
      go_wp2_with (at_builtin; refine wpList_append_lies _ rfl _ _ _ rfl w.heap.size 54 i0 _ 7 104 Tryz.underlying24 hi hz0 hz1 hz2 rfl (by omega) (.slice (some ⟨g, 0, none⟩) (sets.length - (k + 1)) cap) (sets.length - (k + 1)) _ rfl (hown.alloc _) ⟨wr.heap.size, 0, none⟩ 1 1 [.string nm, .int .i64 kind, .string text, .float .f64 num, .bool yes, .slice ka kn kc, .slice ca cn cc] rfl rfl (World.news_of_block (cs := #[.string nm, .int .i64 kind, .string text, .float .f64 num, .bool yes, .slice ka kn kc, .slice ca cn cc]) (t := 54) (fr := (0, 0)) (heap_alloc_new wr _)) (by simp [Value.oneCell']) (by omega) (by unfold maxLen; omega) (by omega) (by simp; omega) (wr.heap.size + 1) (by simp) ?_; intro gg cc2 w1 hown1 hgrow hat hlt1)
      have hbel1 : Below w.heap.size w w1 := (hbel.alloc hsz _).grown hgrow (by simp; omega) (fun k hk => (hown.lt k hk).1)
      rw [hsub] at hown1
      go_roundw
      case rel => exact ⟨k, gg, cc2, by omega, by simp, rfl, by rw [Hd.out, Hfk.out]; exact hown1, hbel1⟩
      case measure => simp [intOf]
end Go.Proofs.YtbcnhcpgloncdaaGreatDoor
