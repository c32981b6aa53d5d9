/- What 'Source' of a function_score query gives: in plain data; and the maps under way. -/
import Derived.Test.YtbcnhcpgloncdaaGreatDoorQJi
import Derived.Test.YtbcnhcpgloncdaaGreatDoorQIu
namespace Go.Proofs.YtbcnhcpgloncdaaGreatDoor
open Go Go.RowKit Go.BigFrame Go.Maps

def n_filter' : ByteArray := ⟨#[102, 105, 108, 116, 101, 114]⟩
def n_query : ByteArray := ⟨#[113, 117, 101, 114, 121]⟩
def n_functions : ByteArray := ⟨#[102, 117, 110, 99, 116, 105, 111, 110, 115]⟩
def n_function_score : ByteArray := ⟨#[102, 117, 110, 99, 116, 105, 111, 110, 95, 115, 99, 111, 114, 101]⟩

def weightEnt : Option Nat → List (ByteArray × Tr) | none => [] | some x => [(n_weight, numT x)]
def oneEnt (key : ByteArray) : List Tr → List (ByteArray × Tr) | [] => [] | t :: _ => [(key, normT 100 t)]
def preW (k : SK) (s : ScoreM) : List (ByteArray × Tr) := match k with | .weight => [] | _ => weightEnt (weightOf k s)
/-- One function, as told. -/
def itemEnts (k : SK) (s : ScoreM) : List (ByteArray × Tr) := oneEnt n_filter' s.filters ++ preW k s ++ [(k.key, srcT k s)]
def SK.of (n : Int) : SK := if n = 0 then .weight else if n = 1 then .exponential else if n = 2 then .gauss else if n = 3 then .linear else if n = 4 then .factor else .random
theorem SK.of_num (k : SK) : SK.of k.num = k := by cases k <;> rfl
def funT (s : ScoreM) : Tr := mapTree (itemEnts (SK.of s.kind) s)
def funsEnt (fs : List ScoreM) : List (ByteArray × Tr) := match fs with | [] => [] | _ => [(n_functions, listT (fs.map funT))]
def scoreEnts (qs : List Tr) (fs : List ScoreM) (sets : List SetM) : List (List (ByteArray × Tr)) :=
  [oneEnt n_query qs, [], funsEnt fs, textEnt n_score_mode (textLast sets n_score_mode), textEnt n_boost_mode (textLast sets n_boost_mode), numEnt n_max_boost (lastOf sets n_max_boost), numEnt n_boost (lastOf sets n_boost), numEnt n_min_score (lastOf sets n_min_score)]
theorem oneEnt_keys (k : ByteArray) (ts : List Tr) : ((oneEnt k ts).map (·.1)).Sublist [k] := by cases ts <;> simp [oneEnt]
theorem funsEnt_keys (fs : List ScoreM) : ((funsEnt fs).map (·.1)).Sublist [n_functions] := by cases fs <;> simp [funsEnt]
theorem weightEnt_keys (o : Option Nat) : ((weightEnt o).map (·.1)).Sublist [n_weight] := by cases o <;> simp [weightEnt]
def keysFS : List ByteArray := [n_query, n_filter', n_functions, n_score_mode, n_boost_mode, n_max_boost, n_boost, n_min_score]
theorem score_parts (qs : List Tr) (fs : List ScoreM) (sets : List SetM) : PartsK (scoreEnts qs fs sets) keysFS :=
  .cons (oneEnt_keys _ _) (.cons (by simp) (.cons (funsEnt_keys _) (.cons (textEnt_keys _ _) (.cons (textEnt_keys _ _) (.cons (numEnt_keys _ _) (.cons (numEnt_keys _ _) (.cons (numEnt_keys _ _) .nil)))))))
theorem keysFS_nodup : keysFS.Nodup := by decide +kernel
def scoreT (qs : List Tr) (fs : List ScoreM) (sets : List SetM) : Tr := mapTree [(n_function_score, mapTree (entsTo (scoreEnts qs fs sets) 8))]

theorem item_nodup (k : SK) (s : ScoreM) : ((itemEnts k s).map (·.1)).Nodup := by
  have h1 := oneEnt_keys n_filter' s.filters
  have h2 := weightEnt_keys (weightOf k s)
  unfold itemEnts preW
  rw [List.map_append, List.map_append]
  have hs : ∀ a b : List ByteArray, a.Sublist [n_filter'] → b.Sublist [n_weight] → k.key ≠ n_weight → (a ++ b ++ [k.key]).Nodup := by
    intro a b ha hb hk
    have : (a ++ b ++ [k.key]).Sublist ([n_filter'] ++ [n_weight] ++ [k.key]) := (ha.append hb).append (List.Sublist.refl _)
    refine this.nodup ?_
    cases k <;> first | exact absurd rfl hk | decide +kernel
  cases k with
  | weight =>
    simp only [List.map_nil, List.append_nil]
    have : ((oneEnt n_filter' s.filters).map (·.1) ++ [SK.weight.key]).Sublist ([n_filter'] ++ [SK.weight.key]) := h1.append (List.Sublist.refl _)
    exact this.nodup (by decide +kernel)
  | _ => exact hs _ _ h1 h2 (by decide +kernel)
theorem item_length (k : SK) (s : ScoreM) : (itemEnts k s).length ≤ 3 := by
  have h1 := (oneEnt_keys n_filter' s.filters).length_le
  have h2 := (weightEnt_keys (weightOf k s)).length_le
  simp only [List.length_map, List.length_cons, List.length_nil] at h1 h2
  unfold itemEnts preW
  rw [List.length_append, List.length_append]
  cases k <;> simp <;> omega

/-- A second value at a key takes the first's place. -/
theorem filter_insert {P : (Lit × DataW Value) → Bool} {x : Lit × DataW Value} (hx : P x = false) : ∀ l : List (Lit × DataW Value), (∀ y ∈ l, P y = true) → (DataW.insert x l).filter P = l := by
  intro l
  induction l with
  | nil => intro _; simp [DataW.insert, hx]
  | cons y l ih =>
    intro h
    have hy := h y (by simp)
    have hl := ih (fun z hz => h z (by simp [hz]))
    have hf : l.filter P = l := List.filter_eq_self.2 (fun z hz => h z (by simp [hz]))
    unfold DataW.insert
    split
    · simp [hx, hy, hf]
    · simp [hy, hl]
theorem put_twice (D : DataW Value) (k : List UInt8) (a b : DataW Value) : (D.put (.string k) a).put (.string k) b = D.put (.string k) b := by
  cases D with
  | map es =>
    simp only [DataW.put]
    rw [filter_insert (x := (Lit.string k, a))]
    · simp [WideAt.sameKey_self (isKey k)]
    · intro y hy
      exact (List.mem_filter.1 hy).2
  | _ => rfl
end Go.Proofs.YtbcnhcpgloncdaaGreatDoor
/- The maps of a function_score query, under way; 'Source' of a function of any kind. -/
namespace Go.Proofs.YtbcnhcpgloncdaaGreatDoor
open Go Go.RowKit Go.BigFrame Go.Maps

/-- All but the two maps of the query's own. -/
def S2 (w0 : World) (b : Nat) : Prop := b ≠ w0.heap.size ∧ b ≠ w0.heap.size + 1
structure ORel (w0 : World) (ts : List (ByteArray × Tr)) (i : Nat) (wr : World) : Prop where
  sz : w0.heap.size + 2 ≤ wr.heap.size
  map : ∃ n es, wr.ownsMap Tryz.prog 9 R9 (w0.heap.size + 1) n (dput es) ∧ n ≤ i ∧ EntriesOK wr (S2 w0) es ts
  outer : ∃ n, wr.ownsMap Tryz.prog 9 R9 w0.heap.size n (dput [(n_function_score, .iface 122 (.map (some (w0.heap.size + 1))))])
  bel : Below w0.heap.size w0 wr
theorem ORel.skip {w0 wr : World} {ts ts' : List (ByteArray × Tr)} {i : Nat} (r : ORel w0 ts i wr) (h : ts' = ts) : ORel w0 ts' (i + 1) wr := by
  subst h
  obtain ⟨n, es, h1, h2, h3⟩ := r.map
  exact ⟨r.sz, ⟨n, es, h1, by omega, h3⟩, r.outer, r.bel⟩
theorem ORel.put {w0 wr w1 : World} {i n : Nat} {ts : List (ByteArray × Tr)} (r : ORel w0 ts i wr) {es : List (ByteArray × Value)} {k : ByteArray} {v : Value} {t : Tr} (hn : n ≤ i) (hes : EntriesOK wr (S2 w0) es ts)
    (hown : w1.ownsMap Tryz.prog 9 R9 (w0.heap.size + 1) (n + 1) ((dput es).put (.string k.data.toList) (.held v))) (hg : wr.grownBy w1 (some (w0.heap.size + 1))) (hv : AnyAt wr (S2 w0) v t) {ts' : List (ByteArray × Tr)} (hts : ts' = ts ++ [(k, t)]) :
    ORel w0 ts' (i + 1) w1 := by
  subst hts
  have hk : Keeps (S2 w0) wr w1 := fun b hb hlt => hg.block b hlt (fun e => by injection e with e; exact hb.2 e)
  exact ⟨Nat.le_trans r.sz hg.size, ⟨n + 1, es ++ [(k, v)], by rw [dput_snoc]; exact hown, by omega, (hes.snoc k hv).keep hk⟩, (let ⟨n0, h0⟩ := r.outer; ⟨n0, h0.kept hg (by simp)⟩), r.bel.grown hg r.bel.size (fun k hk => by injection hk with hk; omega)⟩
theorem ORel.below {w0 wr w' : World} {ts : List (ByteArray × Tr)} {i : Nat} (r : ORel w0 ts i wr) (hb : Below wr.heap.size wr w') : ORel w0 ts i w' := by
  obtain ⟨n, es, h1, h2, h3⟩ := r.map
  obtain ⟨n0, h0⟩ := r.outer
  exact ⟨Nat.le_trans r.sz hb.size, ⟨n, es, h1.kept (Below.grow hb) (by simp), h2, h3.keep (Keeps.of_below _ hb)⟩, ⟨n0, h0.kept (Below.grow hb) (by simp)⟩, via r.bel hb⟩
theorem ORel.any {w0 wr : World} {ts : List (ByteArray × Tr)} {i : Nat} (r : ORel w0 ts i wr) (hd : (ts.map (·.1)).Nodup) (hl : ts.length ≤ 4294967296) : AnyAt wr (fun _ => True) (.iface 122 (.map (some w0.heap.size))) (mapTree [(n_function_score, mapTree ts)]) := by
  obtain ⟨n, es, h1, h2, h3⟩ := r.map
  obtain ⟨n0, h0⟩ := r.outer
  have hin : AnyAt wr (fun _ => True) (.iface 122 (.map (some (w0.heap.size + 1)))) (mapTree ts) := by
    refine map_any trivial h1 ?_ (by rw [h3.1]; exact hd) ⟨h3.1, fun i e t a b => (h3.2 i e t a b).mono (fun _ _ _ => trivial)⟩
    have := congrArg List.length h3.1
    simp only [List.length_map] at this
    omega
  exact map_any trivial h0 (by simp) (by simp) ((EntriesOK.nil _ _).snoc n_function_score hin)

/-- One function's map: made at the world wl. -/
structure IRel (wl : World) (S : Nat → Prop) (ts : List (ByteArray × Tr)) (i : Nat) (wx : World) : Prop where
  map : ∃ n es, wx.ownsMap Tryz.prog 9 R9 wl.heap.size n (dput es) ∧ n ≤ i ∧ EntriesOK wx (fun b => S b ∧ b ≠ wl.heap.size) es ts
  bel : Below wl.heap.size wl wx
theorem IRel.start (wl : World) (S : Nat → Prop) : IRel wl S [] 0 (wl.alloc (.map #[] 0)) := ⟨⟨0, [], World.ownsMap_made wl Tryz.prog 9 R9, Nat.le_refl _, EntriesOK.nil _ _⟩, (Below.refl _ _).alloc (Nat.le_refl _) _⟩
theorem IRel.lt {wl wx : World} {S : Nat → Prop} {ts : List (ByteArray × Tr)} {i : Nat} (r : IRel wl S ts i wx) : wl.heap.size < wx.heap.size := by
  obtain ⟨n, es, h1, _⟩ := r.map
  exact h1.lt
theorem IRel.skip {wl wx : World} {S : Nat → Prop} {ts ts' : List (ByteArray × Tr)} {i : Nat} (r : IRel wl S ts i wx) (h : ts' = ts) : IRel wl S ts' (i + 1) wx := by
  subst h
  obtain ⟨n, es, h1, h2, h3⟩ := r.map
  exact ⟨⟨n, es, h1, by omega, h3⟩, r.bel⟩
theorem IRel.put {wl wx w1 : World} {S : Nat → Prop} {i n : Nat} {ts : List (ByteArray × Tr)} (r : IRel wl S ts i wx) {es : List (ByteArray × Value)} {k : ByteArray} {v : Value} {t : Tr} (hn : n ≤ i) (hes : EntriesOK wx (fun b => S b ∧ b ≠ wl.heap.size) es ts)
    (hown : w1.ownsMap Tryz.prog 9 R9 wl.heap.size (n + 1) ((dput es).put (.string k.data.toList) (.held v))) (hg : wx.grownBy w1 (some wl.heap.size)) (hv : AnyAt wx (fun b => S b ∧ b ≠ wl.heap.size) v t) {ts' : List (ByteArray × Tr)} (hts : ts' = ts ++ [(k, t)]) :
    IRel wl S ts' (i + 1) w1 := by
  subst hts
  have hk : Keeps (fun b => S b ∧ b ≠ wl.heap.size) wx w1 := fun b hb hlt => hg.block b hlt (fun e => by injection e with e; exact hb.2 e)
  exact ⟨⟨n + 1, es ++ [(k, v)], by rw [dput_snoc]; exact hown, by omega, (hes.snoc k hv).keep hk⟩, r.bel.grown hg r.bel.size (fun k hk => by injection hk with hk; omega)⟩
/-- A second value at the last key. -/
theorem IRel.over {wl wx w1 : World} {S : Nat → Prop} {i n : Nat} {ts : List (ByteArray × Tr)} {k : ByteArray} {t0 : Tr} (r : IRel wl S (ts ++ [(k, t0)]) i wx) {es : List (ByteArray × Value)} {v : Value} {t : Tr} (hn : n ≤ i) (hes : EntriesOK wx (fun b => S b ∧ b ≠ wl.heap.size) es (ts ++ [(k, t0)]))
    (hown : w1.ownsMap Tryz.prog 9 R9 wl.heap.size (n + 1) ((dput es).put (.string k.data.toList) (.held v))) (hg : wx.grownBy w1 (some wl.heap.size)) (hv : AnyAt wx (fun b => S b ∧ b ≠ wl.heap.size) v t) : IRel wl S (ts ++ [(k, t)]) (i + 1) w1 := by
  have hk : Keeps (fun b => S b ∧ b ≠ wl.heap.size) wx w1 := fun b hb hlt => hg.block b hlt (fun e => by injection e with e; exact hb.2 e)
  have hlen := congrArg List.length hes.1
  simp only [List.length_map, List.length_append, List.length_cons, List.length_nil] at hlen
  have hne : es ≠ [] := by intro e; rw [e] at hlen; simp at hlen
  have hsp := List.dropLast_concat_getLast hne
  obtain ⟨e0, he0⟩ : ∃ e0, e0 = es.dropLast := ⟨_, rfl⟩
  obtain ⟨e1, he1⟩ : ∃ e1, e1 = es.getLast hne := ⟨_, rfl⟩
  rw [← he0, ← he1] at hsp
  subst hsp
  have hk1 : e0.map (·.1) = ts.map (·.1) ∧ e1.1 = k := by
    have := hes.1
    rw [List.map_append, List.map_append] at this
    obtain ⟨h1, h2⟩ := List.append_inj' this (by simp)
    exact ⟨h1, by simpa using h2⟩
  have hes0 : EntriesOK wx (fun b => S b ∧ b ≠ wl.heap.size) e0 ts := ⟨hk1.1, fun j e u hj hu => by
    have hj' := (List.getElem?_eq_some_iff.1 hj).1
    have hu' := (List.getElem?_eq_some_iff.1 hu).1
    exact hes.2 j e u (by rw [List.getElem?_append_left hj']; exact hj) (by rw [List.getElem?_append_left hu']; exact hu)⟩
  rw [dput_snoc, hk1.2, put_twice] at hown
  exact ⟨⟨n + 1, e0 ++ [(k, v)], by rw [dput_snoc]; exact hown, by omega, (hes0.snoc k hv).keep hk⟩, r.bel.grown hg r.bel.size (fun k hk => by injection hk with hk; omega)⟩
theorem IRel.below {wl wx w' : World} {S : Nat → Prop} {ts : List (ByteArray × Tr)} {i : Nat} (r : IRel wl S ts i wx) (hb : Below wx.heap.size wx w') : IRel wl S ts i w' := by
  obtain ⟨n, es, h1, h2, h3⟩ := r.map
  exact ⟨⟨n, es, h1.kept (Below.grow hb) (by simp), h2, h3.keep (Keeps.of_below _ hb)⟩, via r.bel hb⟩
theorem IRel.any {wl wx : World} {S : Nat → Prop} {ts : List (ByteArray × Tr)} {i : Nat} (r : IRel wl S ts i wx) (hS : S wl.heap.size) (hd : (ts.map (·.1)).Nodup) (hl : ts.length ≤ 4294967296) : AnyAt wx S (.iface 122 (.map (some wl.heap.size))) (mapTree ts) := by
  obtain ⟨n, es, h1, h2, h3⟩ := r.map
  refine map_any hS h1 ?_ (by rw [h3.1]; exact hd) ⟨h3.1, fun i e t a b => (h3.2 i e t a b).mono (fun _ _ h => h.1)⟩
  have := congrArg List.length h3.1
  simp only [List.length_map] at this
  omega

/-- What 'Source' of a function asks. -/
def SrcOK (k : SK) (s : ScoreM) : Prop := s.field.size ≤ 9223372036854775807 ∧ (∀ x ∈ s.sets, x.val.text.size ≤ 9223372036854775807) ∧ match k with
  | .weight => True
  | .random => True
  | .factor => (textLast s.sets n_modifier).size ≤ 1048576
  | _ => s.field ≠ n_multi_value_mode ∧ (∀ x ∈ s.sets, x.name ∈ [n_origin, n_scale, n_offset] → scalarT x.val = true) ∧ (lastOf s.sets n_scale).isSome = true ∧ ∀ t, lastOf s.sets n_decay = some t → (FloatKind.f64.format.order t.num 0 == some .gt) = true
theorem src_any (k : SK) (s : ScoreM) (B : Nat) (S : Nat → Prop) (w : World) (hq : GSt w S B (k.ks s.field s.a) k.sty s.sets) (hok : SrcOK k s) (htab : ∀ wx, Below w.heap.size w wx → UTabs wx) : Calls Tryz.prog k.gs #[.pointer (some ⟨B, 0, none⟩)] w (SrcPost w (srcT k s)) := by
  obtain ⟨h1, h2, h3⟩ := hok
  cases k with
  | weight => exact srcWeight s.a s.sets B S w hq
  | exponential => exact srcExp s.field s.sets B S w hq h1 h3.1 h2 h3.2.1 h3.2.2.1 h3.2.2.2
  | gauss => exact srcGauss s.field s.sets B S w hq h1 h3.1 h2 h3.2.1 h3.2.2.1 h3.2.2.2
  | linear => exact srcLinear s.field s.sets B S w hq h1 h3.1 h2 h3.2.1 h3.2.2.1 h3.2.2.2
  | factor => exact srcFactor s.field s.sets B S w hq h1 h3 htab
  | random => exact srcRandom s.field s.sets B S w hq h1
/-- A row's cells. -/
theorem own_cells {α β : Type} {R : World → (Nat → Prop) → α → β → Prop} {e : TypeId} {w : World} {S : Nat → Prop} {base : Nat} {kv : Value} {ts : List β} {cells : α → List Value} (hR : RepLaw R) (f : α → Value) (hf : ∀ x, cells x = [f x]) (h : OwnL R cells e 1 w S base kv ts) (hpos : 0 < ts.length) (d : α) :
    ∃ g c, kv = .slice (some ⟨g, 0, none⟩) ts.length c ∧ g < w.heap.size ∧ ∀ k (hk : k < ts.length), ∃ u : α, w.cell? ⟨g, k, none⟩ = some (f u) ∧ R w S u ts[k] := by
  obtain ⟨a, c, vs, e1, hs, hr⟩ := h.slice (fun x => by rw [hf]; rfl) (S' := fun _ => True) (fun _ _ => trivial) d
  obtain ⟨vs2, _, h2, _⟩ := h
  obtain ⟨g, cap, e2, _⟩ := h2.form hpos
  rw [e1] at e2
  injection e2 with e3 e4 e5
  subst e3
  obtain ⟨b, o, e6, _, hrow⟩ := hs hpos
  injection e6 with e6
  injection e6 with e7 e8 e9
  subst e7 e8
  have hc : ∀ k, k < ts.length → w.cell? ⟨g, k, none⟩ = some (f (vs k)) := by
    intro k hk
    have := hrow k hk 0 (f (vs k)) (by simp [hf])
    simpa using this
  exact ⟨g, c, e1, World.block_lt_of_cell? w _ (hc 0 hpos), fun k hk => ⟨vs k, hc k hk, hR.mono (hr k _ (List.getElem?_eq_getElem hk)) (fun b _ hb => hb.1)⟩⟩
end Go.Proofs.YtbcnhcpgloncdaaGreatDoor
/- Small functions of the reference for score functions: their names, their tables, what decays. -/
namespace Go.Proofs.YtbcnhcpgloncdaaGreatDoor
open Go Go.RowKit Go.BigFrame Go.Maps

def namesS : List ByteArray := [⟨#[101, 120, 112]⟩, ⟨#[103, 97, 117, 115, 115]⟩, ⟨#[108, 105, 110, 101, 97, 114]⟩, ⟨#[102, 105, 101, 108, 100, 95, 118, 97, 108, 117, 101, 95, 102, 97, 99, 116, 111, 114]⟩, ⟨#[114, 97, 110, 100, 111, 109, 95, 115, 99, 111, 114, 101]⟩, ⟨#[119, 101, 105, 103, 104, 116]⟩]
theorem strs_of_block {w : World} {pb : Nat} {ss : List ByteArray} (h : w.heap[pb]? = some (.cells (ss.map Value.string).toArray 9 (0, 0))) : StrsAt w (fun _ => True) (some ⟨pb, 0, none⟩) ss := by
  intro _
  refine ⟨pb, 0, rfl, trivial, fun i hi j u hu => ?_⟩
  rw [List.getElem?_singleton] at hu
  split at hu
  · rename_i hj
    cases hu; subst hj
    rw [show 0 + i * 1 + 0 = i by omega]
    simp [World.cell?, h, hi]
  · cases hu
set_option maxRecDepth 100000 in
set_option maxHeartbeats 2000000 in
theorem scoreNames_any (w : World) : Calls Tryz.prog 44 #[] w fun e w' => ∃ b, e = .returned (.slice (some ⟨b, 0, none⟩) 6 6) ∧ w'.heap[b]? = some (.cells (namesS.map Value.string).toArray 9 (0, 0)) ∧ w.heap.size ≤ b ∧ Below w.heap.size w w' := by
  go_enter Tryz.func44, Tryz.ntmps44
  go_wp2_with fail
  go_ret
  exact ⟨w.heap.size, rfl, heap_alloc_new w _, Nat.le_refl _, (Below.refl _ _).alloc (Nat.le_refl _) _⟩

def SK.table : SK → ByteArray | .weight => ⟨#[]⟩ | .exponential => ⟨#[68, 101, 99, 97, 121]⟩ | .gauss => ⟨#[68, 101, 99, 97, 121]⟩ | .linear => ⟨#[68, 101, 99, 97, 121]⟩ | .factor => ⟨#[70, 97, 99, 116, 111, 114]⟩ | .random => ⟨#[82, 97, 110, 100, 111, 109]⟩
set_option maxRecDepth 100000 in
set_option maxHeartbeats 2000000 in
theorem scoreTable_any (k : SK) (w : World) : Calls Tryz.prog 22 #[.int .i64 k.num] w fun e w' => e = .returned (.string k.table) ∧ w = w' := by
  cases k
  all_goals (
    simp only [SK.num, SK.table]
    go_enter Tryz.func22, Tryz.ntmps22
    go_wp2_with fail
    go_ret
    exact ⟨by simp, rfl⟩)

/-- A decay is greater than 0 and less than 1. -/
def decT (s : SetM) : Bool := !(decide (s.name = n_decay) && ((FloatKind.f64.format.order s.val.num 0 == some .lt || FloatKind.f64.format.order s.val.num 0 == some .eq) || (FloatKind.f64.format.order s.val.num 4607182418800017408 == some .gt || FloatKind.f64.format.order s.val.num 4607182418800017408 == some .eq)))
theorem all_take {sets : List SetM} {P : SetM → Bool} {k : Nat} (hk : k < sets.length) : (sets.take (k + 1)).all P = ((sets.take k).all P && P sets[k]) := by
  rw [List.take_succ_eq_append_getElem hk, List.all_append]; simp
theorem all_false {sets : List SetM} {P : SetM → Bool} {k : Nat} (hk : k < sets.length) (h : P sets[k] = false) : sets.all P = false := by
  rw [List.all_eq_false]
  exact ⟨sets[k], List.getElem_mem hk, by simp [h]⟩
set_option maxRecDepth 100000 in
set_option maxHeartbeats 4000000 in
theorem decays_any (sets : List SetM) (S : Nat → Prop) (a : Option Addr) (c : Nat) (w : World) (hr : SetsAt w S a sets) (hl : sets.length ≤ 9223372036854775807) :
    Calls Tryz.prog 25 #[.slice a sets.length c] w fun e w' => e = .returned (.bool (sets.all decT)) ∧ w = w' := by
  have Hr := Lib.hid hr; clear hr
  go_enter Tryz.func25, Tryz.ntmps25
  go_wp2_with fail
  go_loopw [3] (fun i wr => ∃ k : Nat, k ≤ sets.length ∧ i = .int .i64 (k : Int) ∧ (sets.take k).all decT = true ∧ w = wr) (fun i _ => sets.length - (intOf i).toNat)
  case atStart => exact ⟨0, Nat.zero_le _, rfl, by simp, rfl⟩
  case round =>
    obtain ⟨k, hk, rfl, hal, rfl⟩ := hrel
    have Hal := Lib.hid hal; clear hal
    by_cases hlt : k < sets.length
    · obtain ⟨b, o, v, hca, hS, hlb, c0, c1, c2, c3, c4, c5, c6, hv⟩ := Hr.out.cells (k := k) (by omega)
      subst hca
      have e3 := hv.eqs.2.2.1
      rw [e3] at c3
      have Hno : Hid (decT sets[k] = false → sets.all decT = false) := Lib.hid (all_false hlt)
      have Hyes : Hid (decT sets[k] = true → (sets.take (k + 1)).all decT = true) := Lib.hid (fun h => by rw [all_take hlt, Hal.out, h]; rfl)
      clear hv e3 hS
      generalize sets[k] = s at *
      have hi1 : (0 : Int) ≤ (k : Int) := by omega
      have hi2 : (k : Int) < (sets.length : Int) := by omega
      by_cases hn : s.name = n_decay
      · have hn' := lit_eq [100, 101, 99, 97, 121] (show s.name = ⟨[100, 101, 99, 97, 121].toArray⟩ from hn)
        have Hn := Lib.hid hn; clear hn
        have Hd : Hid (decT s = !((FloatKind.f64.format.order s.val.num 0 == some .lt || FloatKind.f64.format.order s.val.num 0 == some .eq) || (FloatKind.f64.format.order s.val.num 4607182418800017408 == some .gt || FloatKind.f64.format.order s.val.num 4607182418800017408 == some .eq))) := Lib.hid (by unfold decT; simp [Hn.out])
        cases h1 : (FloatKind.f64.format.order s.val.num 0 == some .lt) <;> cases h2 : (FloatKind.f64.format.order s.val.num 0 == some .eq) <;> cases h3 : (FloatKind.f64.format.order s.val.num 4607182418800017408 == some .gt) <;> cases h4 : (FloatKind.f64.format.order s.val.num 4607182418800017408 == some .eq)
        all_goals (
          rw [h1, h2, h3, h4] at Hd
          first
            | (have Hy := Lib.hid (Hyes.out (by rw [Hd.out]; rfl)); clear Hyes Hno Hd
               go_wp2_with fail
               go_roundw
               case rel => exact ⟨k + 1, by omega, by simp, Hy.out, by simp⟩
               case measure => simp [intOf]; omega)
            | (have Hy := Lib.hid (Hno.out (by rw [Hd.out]; rfl)); clear Hyes Hno Hd
               go_wp2_with fail
               go_ret
               exact ⟨by simp [Hy.out], rfl⟩))
      · have hn' := lit_ne [100, 101, 99, 97, 121] (show s.name ≠ ⟨[100, 101, 99, 97, 121].toArray⟩ from hn)
        have Hy := Lib.hid (Hyes.out (by unfold decT; simp [hn])); clear Hyes Hno
        have Hn := Lib.hid hn; clear hn
        go_wp2_with fail
        go_roundw
        case rel => exact ⟨k + 1, by omega, by simp, Hy.out, by simp⟩
        case measure => simp [intOf]; omega
    · obtain rfl : k = sets.length := by omega
      rw [List.take_length] at Hal
      go_wp2_with fail
      go_ret
      exact ⟨by simp [Hal.out], rfl⟩
end Go.Proofs.YtbcnhcpgloncdaaGreatDoor
