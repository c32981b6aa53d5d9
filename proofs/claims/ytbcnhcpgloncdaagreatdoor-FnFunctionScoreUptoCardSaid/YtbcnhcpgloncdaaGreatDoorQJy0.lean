/- What 'score' keeps while it walks: its argument in a box, its result, the pairs. -/
import Derived.Test.YtbcnhcpgloncdaaGreatDoorQJt
import Derived.Test.YtbcnhcpgloncdaaGreatDoorQIo
namespace Go.Proofs.YtbcnhcpgloncdaaGreatDoor
open Go Go.RowKit Go.BigFrame Go.Maps

/-- The argument's box at w.heap.size, the result's (untouched) behind it. -/
structure ScSt (w : World) (o : Obj) (wr : World) : Prop where
  box : wr.heap[w.heap.size]? = some o
  zero : Zero6 wr (w.heap.size + 1)
  bel : Below w.heap.size w wr
theorem ScSt.lt {w wr : World} {o : Obj} (h : ScSt w o wr) : w.heap.size + 2 ≤ wr.heap.size := by
  have := (Array.getElem?_eq_some_iff.1 h.zero).1
  omega
theorem ScSt.below {w wr w' : World} {o : Obj} (h : ScSt w o wr) (hb : Below wr.heap.size wr w') : ScSt w o w' := by
  have hl := h.lt
  exact ⟨(hb.block _ (by omega)).trans h.box, h.zero.below hb, via h.bel hb⟩
theorem ScSt.grown {w wr w1 : World} {o : Obj} {row : Option Nat} (h : ScSt w o wr) (hg : wr.grownBy w1 row) (hr : ∀ k, row = some k → w.heap.size + 2 ≤ k) : ScSt w o w1 := by
  have hl := h.lt
  refine ⟨(hg.block _ (by omega) (fun e => by have := hr _ e.symm; omega)).trans h.box, h.zero.keep (hg.block _ (by omega) (fun e => by have := hr _ e.symm; omega)), h.bel.grown hg h.bel.size (fun k hk => by have := hr k hk; omega)⟩
theorem cells5 {w : World} {b : Nat} {v0 v1 v2 v3 v4 : Value} {e : TypeId} (h : w.heap[b]? = some (.cells #[v0, v1, v2, v3, v4] e (0, 0))) :
    w.cell? ⟨b, 0, none⟩ = some v0 ∧ w.cell? ⟨b, 1, none⟩ = some v1 ∧ w.cell? ⟨b, 2, none⟩ = some v2 ∧ w.cell? ⟨b, 3, none⟩ = some v3 ∧ w.cell? ⟨b, 4, none⟩ = some v4 := by
  refine ⟨?_, ?_, ?_, ?_, ?_⟩ <;> simp [World.cell?, h]

/-- A pair is appended. -/
theorem pairs_put {w wr w1 : World} {o : Obj} {base : Nat} {T : Nat → Prop} {L : List SetM} {a2 : Option Addr} {cc2 : Nat} {vs : List (ByteArray × TV)} {g cap : Nat} {key : ByteArray} {u : TV} {t : Tr} {xs : List Value} (st : ScSt w o wr) (hbase : w.heap.size + 2 ≤ base)
    (hvl : vs.length = L.length) (hrow : wr.ownsRow base 81 7 (.slice a2 L.length cc2) L.length (vs.flatMap pairCells))
    (hreps : ∀ (i : Nat) (v : ByteArray × TV) (t : SetM), vs[i]? = some v → L[i]? = some t → PairR wr (fun b => T b ∧ (Value.slice a2 L.length cc2).ownBlock ≠ some b) v t)
    (hu : RepT wr (fun b => T b ∧ (Value.slice a2 L.length cc2).ownBlock ≠ some b) u t)
    (hown1 : w1.ownsRow base 81 7 (.slice (some ⟨g, 0, none⟩) (L.length + 1) cap) (L.length + 1) xs) (hxs : xs = vs.flatMap pairCells ++ pairCells (key, u))
    (hgrow : (wr.alloc (.cells (pairCells (key, u)).toArray 81)).grownBy w1 (Value.slice a2 L.length cc2).ownBlock) (hat : (Value.slice a2 L.length cc2).ownBlock = some g ∨ g = wr.heap.size + 1) :
    OwnL PairR pairCells 81 7 w1 T base (.slice (some ⟨g, 0, none⟩) (L.length + 1) cap) (L ++ [⟨key, t⟩]) ∧ ScSt w o w1 ∧ w1.heap.size ≥ wr.heap.size := by
  have hbx : Below wr.heap.size wr (wr.alloc (.cells (pairCells (key, u)).toArray 81)) := (Below.refl _ _).alloc (Nat.le_refl _) _
  refine ⟨OwnL.one (u := (key, u)) pair_law hvl (fun i v t hv ht => pair_law.keep (hreps i v t hv ht) (Keeps.of_below _ hbx)) ⟨rfl, hu.keep (Keeps.of_below _ hbx)⟩ hown1 hgrow hat (by simp) rfl hxs, (st.below hbx).grown hgrow (fun k hk => by have := (hrow.lt k hk).1; omega), ?_⟩
  have := hgrow.size
  rw [World.size_alloc] at this
  omega
/-- 'Map' of pairs of one's own. -/
theorem made_of {w1 : World} {T : Nat → Prop} {base : Nat} {v : Value} {Q : List SetM} (hP : OwnL PairR pairCells 81 7 w1 T base v Q) (hn : Q.length ≤ 1000000) : Calls Tryz.prog 42 #[v] w1 (TreeS w1 (fun b => b < w1.heap.size ∧ (T b ∨ base ≤ b)) (mapE (mapL Q))) := by
  obtain ⟨a, c, rfl, hps⟩ := hP.sets'
  exact map_made Q _ _ _ w1 hps (fun b hb => hb.1) (by omega)
/-- The end: the tree is stored into the result's box. -/
theorem score_end {w w1 w4 : World} {o : Obj} {S : Nat → Prop} {B X : Nat} {v : TV} {t : Tr} (hS : ∀ b, S b → b < w.heap.size) (st : ScSt w o w4) (hv : RepT w4 (fun b => (b < w1.heap.size ∧ ((S b ∨ X ≤ b) ∨ B ≤ b)) ∨ w1.heap.size ≤ b) v t) (h : w.heap.size + 2 ≤ X ∧ w.heap.size + 2 ≤ B ∧ w.heap.size + 2 ≤ w1.heap.size) :
    TreeS w S t (.returned v.val) ((((((w4.setCell ⟨w.heap.size + 1, 0, none⟩ (.int .i64 v.kind)).setCell ⟨w.heap.size + 1, 1, none⟩ (.string v.text)).setCell ⟨w.heap.size + 1, 2, none⟩ (.float .f64 v.num)).setCell ⟨w.heap.size + 1, 3, none⟩ (.bool v.yes)).setCell ⟨w.heap.size + 1, 4, none⟩ (.slice v.ka v.kn v.kc)).setCell ⟨w.heap.size + 1, 5, none⟩ (.slice v.ca v.cn v.cc)) := by
  obtain ⟨h1, h2, h3⟩ := h
  have h4 : RepT w4 (fun b => S b ∨ w.heap.size + 2 ≤ b) v t := hv.mono (fun b _ hb => by
    rcases hb with ⟨_, (h | h) | h⟩ | h
    · exact .inl h
    · exact .inr (by omega)
    · exact .inr (by omega)
    · exact .inr (by omega))
  exact ⟨v, rfl, (h4.put6 (fun h => by rcases h with h | h; have := hS _ h; omega; omega) _ _ _ _ _ _).mono (fun b _ hb => by rcases hb with hb | hb; exact .inl hb; exact .inr (by omega)), Below.put6' st.bel (by omega) _ _ _ _ _ _⟩
theorem bel_alloc {w W : World} {o : Obj} (h : Below w.heap.size w W) : Below w.heap.size w (W.alloc o) := h.alloc h.size _
theorem bel_drew {w W : World} (h : Below w.heap.size w W) : Below w.heap.size w W.drew := h.drew
theorem strs_drew {W : World} {S : Nat → Prop} {a : Option Addr} {ss : List ByteArray} (h : StrsAt W S a ss) : StrsAt W.drew S a ss := h.keep (Keeps.of_below _ (Below.refl _ _).drew)
theorem strs_alloc {W : World} {S : Nat → Prop} {a : Option Addr} {ss : List ByteArray} {o : Obj} (h : StrsAt W S a ss) : StrsAt (W.alloc o) S a ss := h.keep (Keeps.of_below _ ((Below.refl _ _).alloc (Nat.le_refl _) _))
/-- A list stays while another, further on, grows. -/
theorem far_kept {wr w1 : World} {S : Nat → Prop} {X base : Nat} {v v6 : Value} {Q : List SetM} {o : Obj} (hP : OwnL PairR pairCells 81 7 wr S base v Q) (hv : ∀ b, v.ownBlock = some b → b < X) (h6 : ∀ b, v6.ownBlock = some b → X ≤ b) (hS : ∀ b, S b → b < X) (hg : (wr.alloc o).grownBy w1 v6.ownBlock) :
    OwnL PairR pairCells 81 7 w1 S base v Q := by
  refine (hP.below pair_law ((Below.refl _ _).alloc (Nat.le_refl _) o)).kept pair_law hg ?_ (fun k hk hSk => ?_)
  · cases e : v.ownBlock with
    | none => exact .inl rfl
    | some b => exact .inr (fun e' => by have h1 := hv b e; have h2 := h6 b e'.symm; omega)
  · have h1 := hS k hSk; have h2 := h6 k hk; omega
abbrev Z31 : Obj := .cells #[.int .i64 0, .string ⟨#[]⟩, .float .f64 0, .bool false, .slice none 0 0, .slice none 0 0] 31
theorem zero_new (V : World) : Zero6 (V.alloc (.cells #[.int .i64 0, .string ⟨#[]⟩, .float .f64 0, .bool false, .slice none 0 0, .slice none 0 0] 31)) V.heap.size := heap_alloc_new V _
theorem zero_alloc {W : World} {B : Nat} {o : Obj} (h : Zero6 W B) : Zero6 (W.alloc o) B := h.alloc
theorem zero_drew {W : World} {B : Nat} (h : Zero6 W B) : Zero6 W.drew B := h
theorem zbel {W w' : World} {B : Nat} (h : Zero6 W B) (hb : Below W.heap.size W w') : Zero6 w' B := h.below hb
theorem strs_at (W : World) (pb : Nat) (nm : ByteArray) (h : pb = W.heap.size) : StrsAt (W.alloc (.cells #[.string nm] 9)) (fun _ => True) (some ⟨pb, 0, none⟩) [nm] := by
  subst h
  exact strs_new W [nm] 9 trivial
/-- A pair laid new, and a box ahead of it or behind it. -/
theorem sets_p {w : World} {Q : Nat → Prop} {key : ByteArray} {v : TV} {t : Tr} (h : RepT w Q v t) : SetsAt (w.alloc (.cells #[.string key, .int .i64 v.kind, .string v.text, .float .f64 v.num, .bool v.yes, .slice v.ka v.kn v.kc, .slice v.ca v.cn v.cc] 81)) (fun b => (b < w.heap.size ∧ Q b) ∨ b = w.heap.size) (some ⟨w.heap.size, 0, none⟩) [⟨key, t⟩] :=
  sets_one w key v t (h.mono (fun _ hb hQ => .inl ⟨hb, hQ⟩)) (.inr rfl) 81
theorem sets_zp {w : World} {Q : Nat → Prop} {key : ByteArray} {v : TV} {t : Tr} {o : Obj} (h : RepT w Q v t) : SetsAt ((w.alloc (.cells #[.string key, .int .i64 v.kind, .string v.text, .float .f64 v.num, .bool v.yes, .slice v.ka v.kn v.kc, .slice v.ca v.cn v.cc] 81)).alloc o) (fun b => (b < w.heap.size ∧ Q b) ∨ b = w.heap.size) (some ⟨w.heap.size, 0, none⟩) [⟨key, t⟩] :=
  (sets_p h).keep (Keeps.of_below _ ((Below.refl _ _).alloc (Nat.le_refl _) _))
theorem sets_pz {w : World} {Q : Nat → Prop} {key : ByteArray} {v : TV} {t : Tr} {o : Obj} (h : RepT w Q v t) : SetsAt ((w.alloc o).alloc (.cells #[.string key, .int .i64 v.kind, .string v.text, .float .f64 v.num, .bool v.yes, .slice v.ka v.kn v.kc, .slice v.ca v.cn v.cc] 81)) (fun b => (b < w.heap.size ∧ Q b) ∨ b = w.heap.size + 1) (some ⟨w.heap.size + 1, 0, none⟩) [⟨key, t⟩] := by
  have h1 := (h.mono (S' := fun b => (b < w.heap.size ∧ Q b) ∨ b = w.heap.size + 1) (fun b hb hQ => .inl ⟨hb, hQ⟩)).keep (Keeps.of_below _ ((Below.refl _ _).alloc (Nat.le_refl _) o))
  have h2 := sets_one (w.alloc o) key v t h1 (.inr (by simp)) 81
  rw [World.size_alloc] at h2
  exact h2
/-- The decay's box. -/
theorem d_new {w wc w8 : World} {o : Obj} {S Q : Nat → Prop} {X base : Nat} {v3 : Value} {L : List SetM} {kd : Int} {tx : ByteArray} {nm : Nat} {ys : Bool} {ka ca : Option Addr} {kn kc cn cc : Nat} {t : Tr} (hP : OwnL PairR pairCells 81 7 wc S base v3 L) (st : ScSt w o wc) (hb : Below wc.heap.size wc w8)
    (hv : RepT w8 Q ⟨kd, tx, nm, ys, ka, kn, kc, ca, cn, cc⟩ t) (hQ : ∀ b, b < w8.heap.size → Q b → S b ∨ X ≤ b) (hX : X ≤ w8.heap.size) :
    ∃ B, Value.pointer (some ⟨w8.heap.size, 0, none⟩) = .pointer (some ⟨B, 0, none⟩) ∧ X ≤ B ∧ TBox (w8.alloc (.cells #[.int .i64 kd, .string tx, .float .f64 nm, .bool ys, .slice ka kn kc, .slice ca cn cc] 31)) (fun b => (S b ∨ X ≤ b) ∧ b ≠ B) B t ∧
      OwnL PairR pairCells 81 7 (w8.alloc (.cells #[.int .i64 kd, .string tx, .float .f64 nm, .bool ys, .slice ka kn kc, .slice ca cn cc] 31)) S base v3 L ∧ ScSt w o (w8.alloc (.cells #[.int .i64 kd, .string tx, .float .f64 nm, .bool ys, .slice ka kn kc, .slice ca cn cc] 31)) := by
  have hn : Below w8.heap.size w8 (w8.alloc (.cells #[.int .i64 kd, .string tx, .float .f64 nm, .bool ys, .slice ka kn kc, .slice ca cn cc] 31)) := (Below.refl _ _).alloc (Nat.le_refl _) _
  exact ⟨w8.heap.size, rfl, hX, ⟨⟨kd, tx, nm, ys, ka, kn, kc, ca, cn, cc⟩, heap_alloc_new w8 _, (hv.mono (fun b hb h => ⟨hQ b hb h, by omega⟩)).keep (Keeps.of_below _ hn)⟩, (hP.below pair_law hb).below pair_law hn, (st.below hb).below hn⟩
theorem d_put {w w8 : World} {o : Obj} {S Q : Nat → Prop} {X base B : Nat} {v3 : Value} {L : List SetM} {v : TV} {t : Tr} {c0 c1 c2 c3 c4 c5 : Value} (hP : OwnL PairR pairCells 81 7 w8 S base v3 L) (st : ScSt w o w8)
    (hv : RepT w8 Q v t) (hz : Box6 w8 B c0 c1 c2 c3 c4 c5) (hQ : ∀ b, b < w8.heap.size → Q b → (S b ∨ X ≤ b) ∧ b ≠ B) (hX : w.heap.size + 2 ≤ X ∧ X ≤ B) (hS : ∀ b, S b → b < X) (h3 : ∀ b, v3.ownBlock = some b → b < X) :
    TBox ((((((w8.setCell ⟨B, 0, none⟩ (.int .i64 v.kind)).setCell ⟨B, 1, none⟩ (.string v.text)).setCell ⟨B, 2, none⟩ (.float .f64 v.num)).setCell ⟨B, 3, none⟩ (.bool v.yes)).setCell ⟨B, 4, none⟩ (.slice v.ka v.kn v.kc)).setCell ⟨B, 5, none⟩ (.slice v.ca v.cn v.cc)) (fun b => (S b ∨ X ≤ b) ∧ b ≠ B) B t ∧
      OwnL PairR pairCells 81 7 ((((((w8.setCell ⟨B, 0, none⟩ (.int .i64 v.kind)).setCell ⟨B, 1, none⟩ (.string v.text)).setCell ⟨B, 2, none⟩ (.float .f64 v.num)).setCell ⟨B, 3, none⟩ (.bool v.yes)).setCell ⟨B, 4, none⟩ (.slice v.ka v.kn v.kc)).setCell ⟨B, 5, none⟩ (.slice v.ca v.cn v.cc)) S base v3 L ∧
      ScSt w o ((((((w8.setCell ⟨B, 0, none⟩ (.int .i64 v.kind)).setCell ⟨B, 1, none⟩ (.string v.text)).setCell ⟨B, 2, none⟩ (.float .f64 v.num)).setCell ⟨B, 3, none⟩ (.bool v.yes)).setCell ⟨B, 4, none⟩ (.slice v.ka v.kn v.kc)).setCell ⟨B, 5, none⟩ (.slice v.ca v.cn v.cc)) := by
  have hg := grownBy_put6 w8 B (.int .i64 v.kind) (.string v.text) (.float .f64 v.num) (.bool v.yes) (.slice v.ka v.kn v.kc) (.slice v.ca v.cn v.cc)
  refine ⟨TBox.put (fun h => h.2 rfl) hz v t (hv.mono hQ), hP.kept pair_law hg ?_ (fun k hk hSk => ?_), st.grown hg (fun k hk => ?_)⟩
  · cases e : v3.ownBlock with
    | none => exact .inl rfl
    | some b => exact .inr (fun e' => by injection e' with e'; have := h3 b e; omega)
  · injection hk with hk; have := hS k hSk; omega
  · injection hk with hk; omega
theorem d_old {w wc w8 : World} {o : Obj} {S Q : Nat → Prop} {X base B0 : Nat} {v3 : Value} {L : List SetM} {kd : Int} {tx : ByteArray} {nm : Nat} {ys : Bool} {ka ca : Option Addr} {kn kc cn cc : Nat} {t : Tr} (hP : OwnL PairR pairCells 81 7 wc S base v3 L) (st : ScSt w o wc) (hb : Below wc.heap.size wc w8)
    (hv : RepT w8 Q ⟨kd, tx, nm, ys, ka, kn, kc, ca, cn, cc⟩ t) (hz : Zero6 w8 B0) (hQ : ∀ b, b < w8.heap.size → Q b → (S b ∨ X ≤ b) ∧ b ≠ B0) (hX : w.heap.size + 2 ≤ X ∧ X ≤ B0) (hS : ∀ b, S b → b < X) (h3 : ∀ b, v3.ownBlock = some b → b < X) :
    ∃ B, Value.pointer (some ⟨B0, 0, none⟩) = .pointer (some ⟨B, 0, none⟩) ∧ X ≤ B ∧ TBox ((((((w8.setCell ⟨B0, 0, none⟩ (.int .i64 kd)).setCell ⟨B0, 1, none⟩ (.string tx)).setCell ⟨B0, 2, none⟩ (.float .f64 nm)).setCell ⟨B0, 3, none⟩ (.bool ys)).setCell ⟨B0, 4, none⟩ (.slice ka kn kc)).setCell ⟨B0, 5, none⟩ (.slice ca cn cc)) (fun b => (S b ∨ X ≤ b) ∧ b ≠ B) B t ∧
      OwnL PairR pairCells 81 7 ((((((w8.setCell ⟨B0, 0, none⟩ (.int .i64 kd)).setCell ⟨B0, 1, none⟩ (.string tx)).setCell ⟨B0, 2, none⟩ (.float .f64 nm)).setCell ⟨B0, 3, none⟩ (.bool ys)).setCell ⟨B0, 4, none⟩ (.slice ka kn kc)).setCell ⟨B0, 5, none⟩ (.slice ca cn cc)) S base v3 L ∧
      ScSt w o ((((((w8.setCell ⟨B0, 0, none⟩ (.int .i64 kd)).setCell ⟨B0, 1, none⟩ (.string tx)).setCell ⟨B0, 2, none⟩ (.float .f64 nm)).setCell ⟨B0, 3, none⟩ (.bool ys)).setCell ⟨B0, 4, none⟩ (.slice ka kn kc)).setCell ⟨B0, 5, none⟩ (.slice ca cn cc)) :=
  ⟨B0, rfl, hX.2, d_put (v := ⟨kd, tx, nm, ys, ka, kn, kc, ca, cn, cc⟩) (hP.below pair_law hb) (st.below hb) hv hz hQ hX hS h3⟩
def mvP (fd : ByteArray) (t : Tr) : Option Tr → List (ByteArray × Tr) | none => mapL [⟨fd, t⟩] | some m => withE n_multi_value_mode m false (mapL [⟨fd, t⟩])
theorem decayP_eq (k : SK) (s : ScoreM) : decayP k s = mvP s.field (mapE (mapL (pickL (ownP k s) [n_multi_value_mode]))) (lastOf s.sets n_multi_value_mode) := by
  unfold decayP mvP
  cases lastOf s.sets n_multi_value_mode <;> rfl
/-- What one list holds stays when another one grows. -/
theorem OwnL.stay {w1 w2 : World} {T : Nat → Prop} {base : Nat} {v : Value} {Q : List SetM} {row : Option Nat} (hP : OwnL PairR pairCells 81 7 w1 T base v Q) (hg : w1.grownBy w2 row) (h1 : v.ownBlock = none ∨ v.ownBlock ≠ row) (h2 : ∀ k, row = some k → ¬ T k) : OwnL PairR pairCells 81 7 w2 T base v Q := hP.kept pair_law hg h1 h2

theorem table_ne {k : SK} (hk : k ≠ .weight) : ∀ w, Calls Tryz.prog 103 #[.string k.table] w (RowsPost w (rsOf k)) := by
  cases k with
  | weight => exact absurd rfl hk
  | exponential => exact fun _ => rows_any _ tbDecay rsDecay 60 _ table_Decay rowsOf_Decay (by decide +kernel) (by decide +kernel)
  | gauss => exact fun _ => rows_any _ tbDecay rsDecay 60 _ table_Decay rowsOf_Decay (by decide +kernel) (by decide +kernel)
  | linear => exact fun _ => rows_any _ tbDecay rsDecay 60 _ table_Decay rowsOf_Decay (by decide +kernel) (by decide +kernel)
  | factor => exact fun _ => rows_any _ tbFactor rsFactor 60 _ table_Factor rowsOf_Factor (by decide +kernel) (by decide +kernel)
  | random => exact fun _ => rows_any _ tbRandom rsRandom 60 _ table_Random rowsOf_Random (by decide +kernel) (by decide +kernel)
theorem rsOf_length (k : SK) : (rsOf k).length ≤ 6 := by cases k <;> decide
theorem params_of {k : SK} (hk : k ≠ .weight) (sets : List SetM) (S : Nat → Prop) (a : Option Addr) (c : Nat) (w : World) (h : SetsAt w S a sets) (hS : ∀ b, S b → b < w.heap.size) (hl : sets.length ≤ 9223372036854775807) :
    Calls Tryz.prog 51 #[.string k.table, .slice a sets.length c] w fun e w' => ∃ kv, e = .returned kv ∧ OwnL PairR pairCells 81 7 w' S w.heap.size kv (paramsL (rsOf k) sets) ∧ Below w.heap.size w w' :=
  params_any _ (rsOf k) sets S a c w (table_ne hk) (by have := rsOf_length k; omega) h hS hl
theorem ownP_length (k : SK) (s : ScoreM) : (ownP k s).length ≤ 6 := Nat.le_trans (pickL_length _ _) (Nat.le_trans (paramsL_length _ _) (rsOf_length k))
end Go.Proofs.YtbcnhcpgloncdaaGreatDoor
