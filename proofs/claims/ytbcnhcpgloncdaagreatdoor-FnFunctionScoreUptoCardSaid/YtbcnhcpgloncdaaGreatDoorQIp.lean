/- 'given', 'clauses', and the builder of a bool query: its state. -/
import Derived.Test.YtbcnhcpgloncdaaGreatDoorQIl
namespace Go.Proofs.YtbcnhcpgloncdaaGreatDoor
open Go Go.RowKit Go.BigFrame Go.Maps

theorem Tryz.info114 : (Tryz.prog.info? 114).map (fun i => (i.zero, i.size, i.bytes)) = some (some .nilIface, 1, 16) := by kernel_rfl
abbrev oneCell (v : Value) : List Value := [v]
theorem flat_one (vs : List Value) : vs.flatMap oneCell = vs := by
  induction vs with
  | nil => rfl
  | cons v vs ih => rw [List.flatMap_cons, ih]; rfl

set_option maxRecDepth 100000 in
set_option maxHeartbeats 4000000 in
theorem givens_any (ts : List Tr) (S : Nat → Prop) (a : Option Addr) (c : Nat) (w : World) (h : TreesAt w S a ts) (hS : ∀ b, S b → b < w.heap.size) (hl : ts.length ≤ 1048576) :
    Calls Tryz.prog 115 #[.slice a ts.length c] w fun e w' => ∃ kv, e = .returned kv ∧ OwnL QueryR oneCell 114 1 w' S w.heap.size kv ts ∧ Below w.heap.size w w' := by
  obtain ⟨i0, hi, hz0, hz1, hz2⟩ := info_parts Tryz.info114
  have Hh := Lib.hid h; clear h
  have HS := Lib.hid hS; clear hS
  go_enter Tryz.func115, Tryz.ntmps115
  go_wp2_with fail
  go_loopw [3, 9] (fun v i wr => ∃ k : Nat, k ≤ ts.length ∧ i = .int .i64 k ∧ OwnL QueryR oneCell 114 1 wr S w.heap.size v (ts.take k) ∧ Below w.heap.size w wr) (fun _ i _ => ts.length - (intOf i).toNat)
  case atStart => exact ⟨0, Nat.zero_le _, rfl, OwnL.made (World.ownsRow_made w #[] 0 (Nat.le_refl _) (by unfold maxLen; omega) rfl), (Below.refl _ _).alloc (Nat.le_refl _) _⟩
  case round =>
    obtain ⟨k, hk, rfl, hown, hbel⟩ := hrel
    by_cases hlt : k < ts.length
    · obtain ⟨b, o, u, hca, hSb, hlb, ⟨c0, c1, c2, c3, c4, c5⟩, hu⟩ := (Hh.out.keep (Keeps.of_below S hbel)).cells (k := k) hlt
      subst hca
      have Htake : Hid (ts.take (k + 1) = ts.take k ++ [ts[k]]) := Lib.hid (List.take_succ_eq_append_getElem hlt)
      have hlen : (ts.take k).length ≤ k := by rw [List.length_take]; omega
      generalize ts[k] = t at *
      obtain ⟨L, hL⟩ : ∃ L, L = ts.take k := ⟨_, rfl⟩
      rw [← hL] at hown hlen
      have HL := Lib.hid hL; clear hL
      have hsz := hbel.size
      have Hbel := Lib.hid hbel; clear hbel
      obtain ⟨a2, cc2, hform⟩ := hown.form
      subst hform
      obtain ⟨vs, hvl, hrow, hreps⟩ := hown
      have Hreps := Lib.hid hreps; clear hreps
      have Hvl := Lib.hid hvl; clear hvl
      have Hu := Lib.hid hu; clear hu
      obtain ⟨kind, text, num, yes, ka, kn, kc, ca3, cn, cc⟩ := u
      simp only at c0 c1 c2 c3 c4 c5
      have hi1 : (0 : Int) ≤ (k : Int) := by omega
      have hi2 : (k : Int) < (ts.length : Int) := by omega
      go_wp2_with (at_builtin; refine wpList_append_lies _ rfl _ _ _ rfl w.heap.size 114 i0 _ 1 16 Tryz.underlying95 hi hz0 hz1 hz2 rfl (by omega) (.slice a2 L.length cc2) L.length _ rfl ((hrow.alloc _).alloc _) ⟨wr.heap.size + 1, 0, none⟩ 1 1 [.iface 59 (.agg #[.int .i64 kind, .string text, .float .f64 num, .bool yes, .slice ka kn kc, .slice ca3 cn cc])] rfl rfl (World.news_of_block (cs := #[.iface 59 (.agg #[.int .i64 kind, .string text, .float .f64 num, .bool yes, .slice ka kn kc, .slice ca3 cn cc])]) (t := 114) (fr := (0, 0)) (by have := heap_alloc_new (wr.alloc (.cells #[.int .i64 kind, .string text, .float .f64 num, .bool yes, .slice ka kn kc, .slice ca3 cn cc] 31)) (.cells #[.iface 59 (.agg #[.int .i64 kind, .string text, .float .f64 num, .bool yes, .slice ka kn kc, .slice ca3 cn cc])] 114); rw [World.size_alloc] at this; exact this)) (by simp [Value.oneCell']) (by omega) (by unfold maxLen; omega) (by omega) (by simp; omega) (wr.heap.size + 2) (by simp) ?_; intro g cap w1 hown1 hgrow hat hlt1)
      have hbx : Below wr.heap.size wr ((wr.alloc (.cells #[.int .i64 kind, .string text, .float .f64 num, .bool yes, .slice ka kn kc, .slice ca3 cn cc] 31)).alloc (.cells #[.iface 59 (.agg #[.int .i64 kind, .string text, .float .f64 num, .bool yes, .slice ka kn kc, .slice ca3 cn cc])] 114)) := ((Below.refl _ _).alloc (Nat.le_refl _) _).alloc (by simp) _
      have hnew : OwnL QueryR oneCell 114 1 w1 S w.heap.size (.slice (some ⟨g, 0, none⟩) (L.length + 1) cap) (L ++ [t]) :=
        OwnL.one (u := (.iface 59 (.agg #[.int .i64 kind, .string text, .float .f64 num, .bool yes, .slice ka kn kc, .slice ca3 cn cc]) : Value)) query_law Hvl.out (fun i v t hv ht => query_law.keep (Hreps.out i v t hv ht) (Keeps.of_below _ hbx))
          ⟨⟨kind, text, num, yes, ka, kn, kc, ca3, cn, cc⟩, rfl, (Hu.out.mono (S' := fun b => S b ∧ (Value.slice a2 L.length cc2).ownBlock ≠ some b) (fun b hb hSb => ⟨hSb, fun e => by have := (hrow.lt b e).1; have := HS.out b hSb; omega⟩)).keep (Keeps.of_below _ hbx)⟩ hown1 hgrow hat (by simp) rfl rfl
      have hbel1 : Below w.heap.size w w1 := ((Hbel.out.alloc hsz _).alloc (by simp; omega) _).grown hgrow (by simp; omega) (fun k hk => (hrow.lt k hk).1)
      have Hnew := Lib.hid hnew
      have Hbel1 := Lib.hid hbel1
      clear hnew hbel1 hgrow hat hown1 hrow hbx
      go_wp2_with fail
      go_roundw
      case rel => exact ⟨k + 1, by omega, by simp, by rw [Htake.out, ← HL.out]; exact Hnew.out, Hbel1.out⟩
      case measure => simp [intOf]; omega
    · obtain rfl : k = ts.length := by omega
      rw [List.take_length] at hown
      have Hown := Lib.hid hown; clear hown
      go_wp2_with fail
      refine bodyPost_ret (by simp [results, Tryz.results115, go_sem]; rfl) rfl ?_
      exact ⟨_, rfl, Hown.out, hbel⟩

set_option maxRecDepth 100000 in
set_option maxHeartbeats 4000000 in
theorem implClauses_any (t : Tr) (v : TV) (S : Nat → Prop) (w : World) (hv : RepT w S v t) (hS : ∀ b, S b → b < w.heap.size) (hl : t.kids.length ≤ 1048576) :
    Calls Tryz.prog 82 #[v.val] w fun e w' => ∃ kv, e = .returned kv ∧ OwnL QueryR oneCell 114 1 w' S w.heap.size kv (clauseK t) ∧ Below w.heap.size w w' := by
  obtain ⟨q1, q2, q3, q4, q5, q6⟩ := hv.eqs
  clear q2 q3 q4 q5
  have Hv := Lib.hid hv; clear hv
  have HS := Lib.hid hS; clear hS
  obtain ⟨kind, text, num, yes, ka, kn, kc, ca, cn, cc⟩ := v
  simp only at q1 q6
  by_cases h4 : kind = 4
  · subst h4
    have Hck : Hid (clauseK t = t.kids) := Lib.hid (by unfold clauseK; rw [if_pos q1.symm])
    subst q6
    clear q1
    go_enter Tryz.func82, Tryz.ntmps82
    go_wp2_with fail
    have hb0 := (Below.refl w.heap.size w).alloc (Nat.le_refl _) (.cells #[.int .i64 4, .string text, .float .f64 num, .bool yes, .slice ka kn kc, .slice ca t.kids.length cc] 31)
    have hts := Hv.out.trees.keep (Keeps.of_below S hb0)
    refine (givens_any t.kids S ca cc _ hts (fun b hb => by have := HS.out b hb; simp; omega) hl).mono ?_
    rintro e w2 ⟨kv, rfl, hown, hb2⟩
    have Hown := Lib.hid hown; clear hown
    have Hb2 := Lib.hid (via hb0 hb2); clear hb2
    go_wp2_with fail
    refine bodyPost_ret (by simp [results, Tryz.results82, go_sem]; rfl) rfl ?_
    exact ⟨_, rfl, by rw [Hck.out]; exact Hown.out.mono query_law (fun _ _ h => h) (by simp), Hb2.out⟩
  · have Hck : Hid (clauseK t = [t]) := Lib.hid (by unfold clauseK; rw [if_neg (fun e => h4 (q1.trans e))])
    have h4' : (kind == 4) = false := by rw [beq_eq_false_iff_ne]; exact h4
    clear q1 q6 h4
    go_enter Tryz.func82, Tryz.ntmps82
    go_wp2_with fail
    refine bodyPost_ret (v := .slice (some ⟨w.heap.size + 1, 0, none⟩) 1 1) (by simp [results, Tryz.results82, go_sem]) rfl ?_
    have hbx : Below w.heap.size w ((w.alloc (.cells #[.int .i64 kind, .string text, .float .f64 num, .bool yes, .slice ka kn kc, .slice ca cn cc] 31)).alloc (.cells #[.iface 59 (.agg #[.int .i64 kind, .string text, .float .f64 num, .bool yes, .slice ka kn kc, .slice ca cn cc])] 114)) := ((Below.refl _ _).alloc (Nat.le_refl _) _).alloc (by simp) _
    refine ⟨_, rfl, ?_, hbx⟩
    rw [Hck.out]
    have hh := heap_alloc_new (w.alloc (.cells #[.int .i64 kind, .string text, .float .f64 num, .bool yes, .slice ka kn kc, .slice ca cn cc] 31)) (.cells #[.iface 59 (.agg #[.int .i64 kind, .string text, .float .f64 num, .bool yes, .slice ka kn kc, .slice ca cn cc])] 114)
    rw [World.size_alloc] at hh
    have hrow : ((w.alloc (.cells #[.int .i64 kind, .string text, .float .f64 num, .bool yes, .slice ka kn kc, .slice ca cn cc] 31)).alloc (.cells #[.iface 59 (.agg #[.int .i64 kind, .string text, .float .f64 num, .bool yes, .slice ka kn kc, .slice ca cn cc])] 114)).ownsRow w.heap.size 114 1 (.slice (some ⟨w.heap.size + 1, 0, none⟩) 1 1) 1 [.iface 59 (.agg #[.int .i64 kind, .string text, .float .f64 num, .bool yes, .slice ka kn kc, .slice ca cn cc])] :=
      ⟨rfl, .inr ⟨w.heap.size + 1, 1, _, rfl, by omega, hh, by omega, by unfold maxLen; omega, rfl, rfl⟩⟩
    refine ⟨[.iface 59 (.agg #[.int .i64 kind, .string text, .float .f64 num, .bool yes, .slice ka kn kc, .slice ca cn cc])], rfl, hrow, fun i v' t' hv' ht' => ?_⟩
    have h0 : i = 0 := by have := (List.getElem?_eq_some_iff.1 hv').1; simpa using this
    subst h0
    simp at hv' ht'
    subst hv' ht'
    exact ⟨⟨kind, text, num, yes, ka, kn, kc, ca, cn, cc⟩, rfl, (Hv.out.mono (S' := fun b => S b ∧ (Value.slice (some ⟨w.heap.size + 1, 0, none⟩) 1 1).ownBlock ≠ some b) (fun b hb hSb => ⟨hSb, by simp [Value.ownBlock]; omega⟩)).keep (Keeps.of_below _ hbx)⟩
end Go.Proofs.YtbcnhcpgloncdaaGreatDoor
/- The builder of a bool query: its state. -/
namespace Go.Proofs.YtbcnhcpgloncdaaGreatDoor
open Go Go.RowKit Go.BigFrame Go.Maps

/-- Rows of queries, each in memory of its own, apart from the blocks of X. -/
structure BRows (w : World) (h : Nat) (X : List Nat) (vs : List Value) (tss : List (List Tr)) : Prop where
  own : ∀ (i : Nat) (v : Value) (ts : List Tr), vs[i]? = some v → tss[i]? = some ts → OwnL QueryR oneCell 114 1 w (fun b => b < h) (h + 1) v ts
  len : vs.length = tss.length
  far : ∀ (i j : Nat) (v u : Value), i ≠ j → vs[i]? = some v → vs[j]? = some u → ∀ b, v.ownBlock = some b → u.ownBlock ≠ some b
  off : ∀ k ∈ X, k < w.heap.size ∧ ∀ (i : Nat) (v : Value), vs[i]? = some v → v.ownBlock ≠ some k

theorem BRows.at {w : World} {h : Nat} {X : List Nat} {vs : List Value} {tss : List (List Tr)} (r : BRows w h X vs tss) {i : Nat} {v : Value} (hv : vs[i]? = some v) : ∃ ts, tss[i]? = some ts := by
  have hi := (List.getElem?_eq_some_iff.1 hv).1
  have := r.len
  exact ⟨tss[i]'(by omega), List.getElem?_eq_getElem (by omega)⟩
theorem BRows.kept {w w' : World} {h k : Nat} {X : List Nat} {vs : List Value} {tss : List (List Tr)} (r : BRows w h X vs tss) (hg : w.grownBy w' (some k)) (hk : h ≤ k) (hX : k ∈ X) : BRows w' h X vs tss :=
  ⟨fun i v ts hv ht => (r.own i v ts hv ht).kept query_law hg (.inr ((r.off k hX).2 i v hv)) (fun j hj => by cases hj; omega), r.len, r.far, fun j hj => ⟨Nat.lt_of_lt_of_le (r.off j hj).1 hg.size, (r.off j hj).2⟩⟩
theorem BRows.below {w w' : World} {h : Nat} {X : List Nat} {vs : List Value} {tss : List (List Tr)} (r : BRows w h X vs tss) (hb : Below w.heap.size w w') : BRows w' h X vs tss :=
  ⟨fun i v ts hv ht => (r.own i v ts hv ht).below query_law hb, r.len, r.far, fun j hj => ⟨Nat.lt_of_lt_of_le (r.off j hj).1 hb.size, (r.off j hj).2⟩⟩
/-- A new block joins the builder's. -/
theorem BRows.join {w : World} {h : Nat} {X : List Nat} {vs : List Value} {tss : List (List Tr)} (r : BRows w h X vs tss) (o : Obj) : BRows (w.alloc o) h (w.heap.size :: X) vs tss := by
  have r' := r.below (w' := w.alloc o) ((Below.refl _ _).alloc (Nat.le_refl _) _)
  refine ⟨r'.own, r'.len, r'.far, fun j hj => ?_⟩
  rcases List.mem_cons.1 hj with rfl | hj
  · refine ⟨by simp, fun i v hv e => ?_⟩
    obtain ⟨ts, ht⟩ := r.at hv
    have := ((r.own i v ts hv ht).lt _ e).2
    omega
  · exact r'.off j hj
/-- A row has been appended to. -/
theorem BRows.put {wx w1 : World} {h g H i : Nat} {X : List Nat} {vs : List Value} {tss : List (List Tr)} (r : BRows wx h X vs tss) {v nv : Value} {nts : List Tr} (hv : vs[i]? = some v) (hg : wx.grownBy w1 v.ownBlock) (hat : v.ownBlock = some g ∨ g = H) (hH : wx.heap.size ≤ H)
    (hnew : OwnL QueryR oneCell 114 1 w1 (fun b => b < h) (h + 1) nv nts) (hnv : nv.ownBlock = some g) : BRows w1 h X (vs.set i nv) (tss.set i nts) := by
  have hi := (List.getElem?_eq_some_iff.1 hv).1
  obtain ⟨ts, ht⟩ := r.at hv
  have hvl := (r.own i v ts hv ht).lt
  have hget : ∀ {j : Nat} {u : Value}, (vs.set i nv)[j]? = some u → (j = i ∧ u = nv) ∨ (j ≠ i ∧ vs[j]? = some u) := by
    intro j u hu
    by_cases e : i = j
    · subst e
      rw [List.getElem?_set_self hi] at hu
      cases hu
      exact .inl ⟨rfl, rfl⟩
    · rw [List.getElem?_set_ne e] at hu
      exact .inr ⟨fun e' => e e'.symm, hu⟩
  have hgne : ∀ {j : Nat} {u : Value}, j ≠ i → vs[j]? = some u → u.ownBlock ≠ some g := by
    intro j u hj hu e
    rcases hat with h1 | h1
    · exact r.far i j v u (fun e => hj e.symm) hv hu g h1 e
    · obtain ⟨ts', ht'⟩ := r.at hu
      have := ((r.own j u ts' hu ht').lt g e).2
      omega
  refine ⟨fun j u us hu hus => ?_, by simp [r.len], fun j l u y hjl hu hy b hb => ?_, fun k hk => ⟨Nat.lt_of_lt_of_le (r.off k hk).1 hg.size, fun j u hu e => ?_⟩⟩
  · rcases hget hu with ⟨rfl, rfl⟩ | ⟨hj, hu⟩
    · rw [List.getElem?_set_self (by rw [← r.len]; exact hi)] at hus
      cases hus
      exact hnew
    · rw [List.getElem?_set_ne (fun e => hj e.symm)] at hus
      refine (r.own j u us hu hus).kept query_law hg ?_ (fun k hk => by have := (hvl k hk).1; omega)
      cases e : u.ownBlock with
      | none => exact .inl rfl
      | some b => exact .inr (fun e' => r.far j i u v hj hu hv b e e'.symm)
  · rcases hget hu with ⟨rfl, rfl⟩ | ⟨hj, hu⟩
    · rcases hget hy with ⟨rfl, rfl⟩ | ⟨hl, hy⟩
      · exact absurd rfl hjl
      · rw [hnv] at hb
        cases hb
        exact hgne hl hy
    · rcases hget hy with ⟨hl, hy2⟩ | ⟨hl, hy⟩
      · rw [hy2, hnv]
        intro e
        cases e
        exact hgne hj (by assumption) hb
      · exact r.far j l u y hjl hu hy b hb
  · rcases hget hu with ⟨rfl, rfl⟩ | ⟨hj, hu⟩
    · rw [hnv] at e
      cases e
      rcases hat with h1 | h1
      · exact (r.off _ hk).2 _ v hv h1
      · have := (r.off _ hk).1; omega
    · exact (r.off k hk).2 j u hu e

/-- A pointer to a cell of the builder's own. -/
def PtrX (w : World) (h : Nat) (X : List Nat) (f : Tr → Value) (o : Option Tr) (p : Option Addr) : Prop :=
  match o with
  | none => p = none
  | some t => ∃ b, p = some ⟨b, 0, none⟩ ∧ b ∈ X ∧ b ≠ h + 5 ∧ w.cell? ⟨b, 0, none⟩ = some (f t)
theorem PtrX.keep {w w' : World} {h : Nat} {X X' : List Nat} {f : Tr → Value} {o : Option Tr} {p : Option Addr} (hp : PtrX w h X f o p) (hX : ∀ k ∈ X, k ∈ X') (hk : ∀ b ∈ X, b ≠ h + 5 → b < w.heap.size → w'.heap[b]? = w.heap[b]?) : PtrX w' h X' f o p := by
  cases o with
  | none => exact hp
  | some t =>
    obtain ⟨b, h1, h2, h3, h4⟩ := hp
    exact ⟨b, h1, hX b h2, h3, (World.cell?_of_block (w := w) (a := ⟨b, 0, none⟩) (hk b h2 h3 (World.block_lt_of_cell? w _ h4))).trans h4⟩

/-- The builder, once 'done' has been told. -/
def BQ (w : World) (h : Nat) (done : List SetM) : Prop :=
  ∃ (X : List Nat) (m n f s : Value) (pb pa : Option Addr), h + 5 ∈ X ∧ w.heap[h + 5]? = some (.cells #[.nilIface, m, n, f, s, .pointer pb, .string (msmOf done), .pointer pa, .string (textLast done n__name)] 136 (0, 0)) ∧
    BRows w h X [m, n, f, s] [clausesT n_must done, clausesT n_must_not done, clausesT n_filter done, clausesT n_should done] ∧
    PtrX w h X (fun t => .float .f64 t.num) (lastOf done n_boost) pb ∧ PtrX w h X (fun t => .bool t.yes) (lastOf done n_adjust_pure_negative) pa
theorem BQ.below {w w' : World} {h : Nat} {done : List SetM} (q : BQ w h done) (hb : Below w.heap.size w w') : BQ w' h done := by
  obtain ⟨X, m, n, f, s, pb, pa, h1, h2, h3, h4, h5⟩ := q
  exact ⟨X, m, n, f, s, pb, pa, h1, (hb.block _ (h3.off _ h1).1).trans h2, h3.below hb, h4.keep (fun _ h => h) (fun b _ _ hlt => hb.block b hlt), h5.keep (fun _ h => h) (fun b _ _ hlt => hb.block b hlt)⟩
/-- A setter has told the setting. -/
def SetB (w : World) (h : Nat) (done : List SetM) (e : Ending) (w' : World) : Prop := e = .returned (.pointer (some ⟨h + 5, 0, none⟩)) ∧ BQ w' h done ∧ Below (h + 1) w w'

theorem textLast_other {done : List SetM} {s : SetM} {nm : ByteArray} (h : s.name ≠ nm) : textLast (done ++ [s]) nm = textLast done nm := by unfold textLast; rw [lastOf_snoc, if_neg h]
theorem textLast_this {done : List SetM} {s : SetM} {nm : ByteArray} (h : s.name = nm) : textLast (done ++ [s]) nm = s.val.text := by unfold textLast; rw [lastOf_snoc, if_pos h]; rfl
theorem lastOf_other {done : List SetM} {s : SetM} {nm : ByteArray} (h : s.name ≠ nm) : lastOf (done ++ [s]) nm = lastOf done nm := by rw [lastOf_snoc, if_neg h]
theorem clausesT_other {done : List SetM} {s : SetM} {nm : ByteArray} (h : s.name ≠ nm) : clausesT nm (done ++ [s]) = clausesT nm done := by rw [clausesT_snoc, if_neg h, List.append_nil]
theorem msm_other {done : List SetM} {s : SetM} (h1 : s.name ≠ n_minimum_should_match) (h2 : s.name ≠ n_minimum_number_should_match) : msmOf (done ++ [s]) = msmOf done := by rw [msmOf_snoc]; unfold msmStep; rw [if_neg h1, if_neg h2]
end Go.Proofs.YtbcnhcpgloncdaaGreatDoor
