/- The builder of a bool query: its state. -/
import Derived.Test.YtbcnhcpgloncdaaGreatDoorIp
namespace Go.Proofs.YtbcnhcpgloncdaaGreatDoor
open Go Go.RowKit Go.BigFrame Go.Maps

/-- Rows of queries, each in memory of its own, apart from the blocks of X. -/
structure BRows (w : World) (h : Nat) (X : List Nat) (vs : List Value) (tss : List (List Tr)) : Prop where
  own : ∀ (i : Nat) (v : Value) (ts : List Tr), vs[i]? = some v → tss[i]? = some ts → OwnL QueryR oneCell 114 1 w (fun b => b < h) (h + 1) v ts
  len : vs.length = tss.length
  far : ∀ (i j : Nat) (v u : Value), i ≠ j → vs[i]? = some v → vs[j]? = some u → ∀ b, v.ownBlock = some b → u.ownBlock ≠ some b
  off : ∀ k ∈ X, k < w.heap.size ∧ ∀ (i : Nat) (v : Value), vs[i]? = some v → v.ownBlock ≠ some k

theorem BRows.at {w : World} {h : Nat} {X : List Nat} {vs : List Value} {tss : List (List Tr)} (r : BRows w h X vs tss) {i : Nat} {v : Value} (hv : vs[i]? = some v) : ∃ ts, tss[i]? = some ts := by
  have hi := (List.getElem?_eq_some_iff.1 hv).1
  have := r.len
  exact ⟨tss[i]'(by omega), List.getElem?_eq_getElem (by omega)⟩
theorem BRows.kept {w w' : World} {h k : Nat} {X : List Nat} {vs : List Value} {tss : List (List Tr)} (r : BRows w h X vs tss) (hg : w.grownBy w' (some k)) (hk : h ≤ k) (hX : k ∈ X) : BRows w' h X vs tss :=
  ⟨fun i v ts hv ht => (r.own i v ts hv ht).kept query_law hg (.inr ((r.off k hX).2 i v hv)) (fun j hj => by cases hj; omega), r.len, r.far, fun j hj => ⟨Nat.lt_of_lt_of_le (r.off j hj).1 hg.size, (r.off j hj).2⟩⟩
theorem BRows.below {w w' : World} {h : Nat} {X : List Nat} {vs : List Value} {tss : List (List Tr)} (r : BRows w h X vs tss) (hb : Below w.heap.size w w') : BRows w' h X vs tss :=
  ⟨fun i v ts hv ht => (r.own i v ts hv ht).below query_law hb, r.len, r.far, fun j hj => ⟨Nat.lt_of_lt_of_le (r.off j hj).1 hb.size, (r.off j hj).2⟩⟩
/-- A new block joins the builder's. -/
theorem BRows.join {w : World} {h : Nat} {X : List Nat} {vs : List Value} {tss : List (List Tr)} (r : BRows w h X vs tss) (o : Obj) : BRows (w.alloc o) h (w.heap.size :: X) vs tss := by
  have r' := r.below (w' := w.alloc o) ((Below.refl _ _).alloc (Nat.le_refl _) _)
  refine ⟨r'.own, r'.len, r'.far, fun j hj => ?_⟩
  rcases List.mem_cons.1 hj with rfl | hj
  · refine ⟨by simp, fun i v hv e => ?_⟩
    obtain ⟨ts, ht⟩ := r.at hv
    have := ((r.own i v ts hv ht).lt _ e).2
    omega
  · exact r'.off j hj
/-- A row has been appended to. -/
theorem BRows.put {wx w1 : World} {h g H i : Nat} {X : List Nat} {vs : List Value} {tss : List (List Tr)} (r : BRows wx h X vs tss) {v nv : Value} {nts : List Tr} (hv : vs[i]? = some v) (hg : wx.grownBy w1 v.ownBlock) (hat : v.ownBlock = some g ∨ g = H) (hH : wx.heap.size ≤ H)
    (hnew : OwnL QueryR oneCell 114 1 w1 (fun b => b < h) (h + 1) nv nts) (hnv : nv.ownBlock = some g) : BRows w1 h X (vs.set i nv) (tss.set i nts) := by
  have hi := (List.getElem?_eq_some_iff.1 hv).1
  obtain ⟨ts, ht⟩ := r.at hv
  have hvl := (r.own i v ts hv ht).lt
  have hget : ∀ {j : Nat} {u : Value}, (vs.set i nv)[j]? = some u → (j = i ∧ u = nv) ∨ (j ≠ i ∧ vs[j]? = some u) := by
    intro j u hu
    by_cases e : i = j
    · subst e
      rw [List.getElem?_set_self hi] at hu
      cases hu
      exact .inl ⟨rfl, rfl⟩
    · rw [List.getElem?_set_ne e] at hu
      exact .inr ⟨fun e' => e e'.symm, hu⟩
  have hgne : ∀ {j : Nat} {u : Value}, j ≠ i → vs[j]? = some u → u.ownBlock ≠ some g := by
    intro j u hj hu e
    rcases hat with h1 | h1
    · exact r.far i j v u (fun e => hj e.symm) hv hu g h1 e
    · obtain ⟨ts', ht'⟩ := r.at hu
      have := ((r.own j u ts' hu ht').lt g e).2
      omega
  refine ⟨fun j u us hu hus => ?_, by simp [r.len], fun j l u y hjl hu hy b hb => ?_, fun k hk => ⟨Nat.lt_of_lt_of_le (r.off k hk).1 hg.size, fun j u hu e => ?_⟩⟩
  · rcases hget hu with ⟨rfl, rfl⟩ | ⟨hj, hu⟩
    · rw [List.getElem?_set_self (by rw [← r.len]; exact hi)] at hus
      cases hus
      exact hnew
    · rw [List.getElem?_set_ne (fun e => hj e.symm)] at hus
      refine (r.own j u us hu hus).kept query_law hg ?_ (fun k hk => by have := (hvl k hk).1; omega)
      cases e : u.ownBlock with
      | none => exact .inl rfl
      | some b => exact .inr (fun e' => r.far j i u v hj hu hv b e e'.symm)
  · rcases hget hu with ⟨rfl, rfl⟩ | ⟨hj, hu⟩
    · rcases hget hy with ⟨rfl, rfl⟩ | ⟨hl, hy⟩
      · exact absurd rfl hjl
      · rw [hnv] at hb
        cases hb
        exact hgne hl hy
    · rcases hget hy with ⟨hl, hy2⟩ | ⟨hl, hy⟩
      · rw [hy2, hnv]
        intro e
        cases e
        exact hgne hj (by assumption) hb
      · exact r.far j l u y hjl hu hy b hb
  · rcases hget hu with ⟨rfl, rfl⟩ | ⟨hj, hu⟩
    · rw [hnv] at e
      cases e
      rcases hat with h1 | h1
      · exact (r.off _ hk).2 _ v hv h1
      · have := (r.off _ hk).1; omega
    · exact (r.off k hk).2 j u hu e

/-- A pointer to a cell of the builder's own. -/
def PtrX (w : World) (h : Nat) (X : List Nat) (f : Tr → Value) (o : Option Tr) (p : Option Addr) : Prop :=
  match o with
  | none => p = none
  | some t => ∃ b, p = some ⟨b, 0, none⟩ ∧ b ∈ X ∧ b ≠ h + 5 ∧ w.cell? ⟨b, 0, none⟩ = some (f t)
theorem PtrX.keep {w w' : World} {h : Nat} {X X' : List Nat} {f : Tr → Value} {o : Option Tr} {p : Option Addr} (hp : PtrX w h X f o p) (hX : ∀ k ∈ X, k ∈ X') (hk : ∀ b ∈ X, b ≠ h + 5 → b < w.heap.size → w'.heap[b]? = w.heap[b]?) : PtrX w' h X' f o p := by
  cases o with
  | none => exact hp
  | some t =>
    obtain ⟨b, h1, h2, h3, h4⟩ := hp
    exact ⟨b, h1, hX b h2, h3, (World.cell?_of_block (w := w) (a := ⟨b, 0, none⟩) (hk b h2 h3 (World.block_lt_of_cell? w _ h4))).trans h4⟩

/-- The builder, once 'done' has been told. -/
def BQ (w : World) (h : Nat) (done : List SetM) : Prop :=
  ∃ (X : List Nat) (m n f s : Value) (pb pa : Option Addr), h + 5 ∈ X ∧ w.heap[h + 5]? = some (.cells #[.nilIface, m, n, f, s, .pointer pb, .string (msmOf done), .pointer pa, .string (textLast done n__name)] 136 (0, 0)) ∧
    BRows w h X [m, n, f, s] [clausesT n_must done, clausesT n_must_not done, clausesT n_filter done, clausesT n_should done] ∧
    PtrX w h X (fun t => .float .f64 t.num) (lastOf done n_boost) pb ∧ PtrX w h X (fun t => .bool t.yes) (lastOf done n_adjust_pure_negative) pa
theorem BQ.below {w w' : World} {h : Nat} {done : List SetM} (q : BQ w h done) (hb : Below w.heap.size w w') : BQ w' h done := by
  obtain ⟨X, m, n, f, s, pb, pa, h1, h2, h3, h4, h5⟩ := q
  exact ⟨X, m, n, f, s, pb, pa, h1, (hb.block _ (h3.off _ h1).1).trans h2, h3.below hb, h4.keep (fun _ h => h) (fun b _ _ hlt => hb.block b hlt), h5.keep (fun _ h => h) (fun b _ _ hlt => hb.block b hlt)⟩
/-- A setter has told the setting. -/
def SetB (w : World) (h : Nat) (done : List SetM) (e : Ending) (w' : World) : Prop := e = .returned (.pointer (some ⟨h + 5, 0, none⟩)) ∧ BQ w' h done ∧ Below (h + 1) w w'

theorem textLast_other {done : List SetM} {s : SetM} {nm : ByteArray} (h : s.name ≠ nm) : textLast (done ++ [s]) nm = textLast done nm := by unfold textLast; rw [lastOf_snoc, if_neg h]
theorem textLast_this {done : List SetM} {s : SetM} {nm : ByteArray} (h : s.name = nm) : textLast (done ++ [s]) nm = s.val.text := by unfold textLast; rw [lastOf_snoc, if_pos h]; rfl
theorem lastOf_other {done : List SetM} {s : SetM} {nm : ByteArray} (h : s.name ≠ nm) : lastOf (done ++ [s]) nm = lastOf done nm := by rw [lastOf_snoc, if_neg h]
theorem clausesT_other {done : List SetM} {s : SetM} {nm : ByteArray} (h : s.name ≠ nm) : clausesT nm (done ++ [s]) = clausesT nm done := by rw [clausesT_snoc, if_neg h, List.append_nil]
theorem msm_other {done : List SetM} {s : SetM} (h1 : s.name ≠ n_minimum_should_match) (h2 : s.name ≠ n_minimum_number_should_match) : msmOf (done ++ [s]) = msmOf done := by rw [msmOf_snoc]; unfold msmStep; rw [if_neg h1, if_neg h2]
end Go.Proofs.YtbcnhcpgloncdaaGreatDoor
