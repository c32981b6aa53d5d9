/- Words of the proofs of this seat that need no builder: fit of a tree, trees that are the same as themselves, maps under way. -/
import Derived.Test.YtbcnhcpgloncdaaGreatDoorGh
import Derived.Test.YtbcnhcpgloncdaaGreatDoorGj
import Derived.Test.YtbcnhcpgloncdaaGreatDoorGu
namespace Go.Proofs.YtbcnhcpgloncdaaGreatDoor
open Go Go.RowKit Go.Maps

@[go_sem] theorem make122 (w : World) : (Instr.makeMap 122 none).run Tryz.prog w = .ok (.map (some w.heap.size)) (w.alloc (.map #[] 0)) := by kernel_rfl
@[go_sem] theorem make95 (w : World) : (Instr.makeSlice 95 (.int .i64 0) (.int .i64 0)).run Tryz.prog w = .ok (.slice (some ⟨w.heap.size, 0, none⟩) 0 0) (w.alloc (.cells #[] 114)) := by kernel_rfl
def scalarT (t : Tr) : Bool :=
  if 0 < t.keys.length ∨ 0 < t.kids.length then false else if t.kind = 1 then !(decide (t.text = ⟨#[]⟩)) else if t.kind = 2 then fin t.num else decide (t.kind = 3)
theorem RepT.scalar {w : World} {S : Nat → Prop} {v : TV} {t : Tr} (h : RepT w S v t) : scalarV v = scalarT t := by
  obtain ⟨h1, h2, h3, h4, h5, h6⟩ := h.eqs
  unfold scalarV scalarT
  rw [h1, h2, h3, h5, h6]
def kT : ByteArray := ⟨#[116]⟩
def kN : ByteArray := ⟨#[110]⟩
def kB : ByteArray := ⟨#[98]⟩
def kV : ByteArray := ⟨#[118]⟩
def kW : ByteArray := ⟨#[119]⟩
def kF : ByteArray := ⟨#[102]⟩
def kQ : ByteArray := ⟨#[113]⟩
/-- Is a tree of a kind (of one of those that are not queries)? -/
def fitK (kd : ByteArray) (t : Tr) : Bool :=
  if kd = kT then decide (t.kind = 1) && scalarT t
  else if kd = kN then decide (t.kind = 2) && scalarT t
  else if kd = kB then decide (t.kind = 3) && scalarT t
  else if kd = kV then scalarT t
  else if kd = kW then decide (t.kind = 2) && scalarT t && fitW t.num
  else if kd = kF then decide (t.kind = 1) && scalarT t && fieldB t.text && fitF t.num
  else false
theorem fitK_any (kd : ByteArray) (hk : kd ∈ [kT, kN, kB, kV, kW, kF, ⟨#[]⟩]) (t : Tr) (v : TV) (S : Nat → Prop) (w : World) (h : RepT w S v t) :
    Calls Tryz.prog 26 #[.string kd, v.val] w fun e w' => e = .returned (.bool (fitK kd t)) ∧ Below w.heap.size w w' := by
  obtain ⟨h1, h2, h3, h4, h5, h6⟩ := h.eqs
  have hs := h.scalar
  have hb := h.bounds.1
  simp only [List.mem_cons, List.not_mem_nil, or_false] at hk
  rcases hk with rfl | rfl | rfl | rfl | rfl | rfl | rfl
  · have := fit_t v w
    rw [hs, h1] at this
    exact this
  · have := fit_n v w
    rw [hs, h1] at this
    exact this
  · have := fit_b v w
    rw [hs, h1] at this
    exact this
  · have := fit_v v w
    rw [hs] at this
    exact this
  · have := fit_w v w
    rw [hs, h1, h3] at this
    exact this
  · have := fit_f v w (by rw [h2]; exact hb)
    rw [hs, h1, h2, h3] at this
    exact this
  · exact fit_none v w
theorem kindOf_mem (rs : List (ByteArray × ByteArray)) (ks : List ByteArray) (h : rs.all (fun r => memB r.2 ks) = true) (h0 : (⟨#[]⟩ : ByteArray) ∈ ks) (name : ByteArray) : kindOf rs name ∈ ks := by
  unfold kindOf
  cases e : rs.find? (fun r => decide (r.1 = name)) with
  | none => simpa using h0
  | some r =>
    have := List.all_eq_true.1 h r (List.mem_of_find?_eq_some e)
    rw [memB_iff] at this
    simpa using this
theorem kindOf_name {rs : List (ByteArray × ByteArray)} {name : ByteArray} (h : kindOf rs name ≠ ⟨#[]⟩) : ∃ r ∈ rs, r.1 = name ∧ kindOf rs name = r.2 := by
  unfold kindOf at *
  cases e : rs.find? (fun r => decide (r.1 = name)) with
  | none => rw [e] at h; exact absurd rfl h
  | some r =>
    refine ⟨r, List.mem_of_find?_eq_some e, ?_, rfl⟩
    have := List.find?_some e
    simpa using this
/-- Trees that are the same as themselves. -/
inductive GoodT : Tr → Prop
  | mk (t : Tr) (h6 : t.kind ≠ 6) (h2 : t.kind = 2 → feq t.num t.num = true) (hr : ∀ k ∈ t.kids, GoodT k) : GoodT t
theorem GoodT.same {t : Tr} (h : GoodT t) : SameT t t := by
  induction h with
  | mk t h6 h2 hr ih =>
    refine .mk t t rfl rfl rfl (fun _ => rfl) h2 (fun _ => rfl) h6 ?_
    intro i a b ha hb
    obtain rfl : a = b := Option.some.inj (ha.symm.trans hb)
    exact ih a (List.mem_of_getElem? ha)
theorem good_text (s : ByteArray) : GoodT (textT s) := .mk _ (by simp [textT, Tr.kind]) (by simp [textT, Tr.kind]) (by simp [textT, Tr.kids])
theorem good_yes (b : Bool) : GoodT (yesT b) := .mk _ (by simp [yesT, Tr.kind]) (by simp [yesT, Tr.kind]) (by simp [yesT, Tr.kids])
theorem good_num {x : Nat} (h : feq x x = true) : GoodT (numT x) := .mk _ (by simp [numT, Tr.kind]) (fun _ => h) (by simp [numT, Tr.kids])
theorem good_list {ts : List Tr} (h : ∀ t ∈ ts, GoodT t) : GoodT (listT ts) := .mk _ (by simp [listT, Tr.kind]) (by simp [listT, Tr.kind]) (by simpa [listT, Tr.kids] using h)
theorem good_map {ts : List (ByteArray × Tr)} (h : ∀ p ∈ ts, GoodT p.2) : GoodT (mapTree ts) := by
  refine .mk _ (by simp [mapTree, mapT, Tr.kind]) (by simp [mapTree, mapT, Tr.kind]) ?_
  intro k hk
  have hk' : k ∈ (sortKeys (ts.map (·.1))).map (lookT ts) := by simpa [mapTree, mapT, Tr.kids] using hk
  obtain ⟨key, hkey, rfl⟩ := List.mem_map.1 hk'
  rw [mem_sortKeys, List.mem_map] at hkey
  obtain ⟨p, hp, rfl⟩ := hkey
  unfold lookT
  cases e : ts.find? (fun q => decide (q.1 = p.1)) with
  | none =>
    exfalso
    rw [List.find?_eq_none] at e
    exact e p hp (by simp)
  | some q => simpa using h q (List.mem_of_find?_eq_some e)
theorem feq_self_of {x : Nat} (h : ∀ s f, Ieee.double.read x ≠ .nan s f) : feq x x = true := by
  have e : FloatKind.f64.format = Ieee.double := rfl
  unfold feq Ieee.Format.order
  rw [e]
  cases hx : Ieee.double.read x with
  | number s m i => simp [Ieee.Datum.order]
  | infinity s => cases s <;> rfl
  | nan s f => exact absurd hx (h s f)
theorem feq_fin {x : Nat} (h : fin x = true) : feq x x = true := by
  refine feq_self_of fun s f e => ?_
  unfold fin at h
  rw [e] at h
  cases h
theorem feq_left {x y : Nat} (h : feq x y = true) : feq x x = true := by
  refine feq_self_of fun s f e => ?_
  have e' : FloatKind.f64.format = Ieee.double := rfl
  unfold feq Ieee.Format.order at h
  rw [e', e] at h
  simp [Ieee.Datum.order] at h
theorem fitK_none (t : Tr) : fitK ⟨#[]⟩ t = false := by unfold fitK; rfl
theorem whole_fit {t : Tr} (h : fitK kW t = true) : fitW t.num = true := by
  have e : fitK kW t = (decide (t.kind = 2) && scalarT t && fitW t.num) := rfl
  rw [e, Bool.and_eq_true] at h
  exact h.2
theorem num_fit {t : Tr} (h : fitK kN t = true) : fin t.num = true := by
  have e : fitK kN t = (decide (t.kind = 2) && scalarT t) := rfl
  rw [e, Bool.and_eq_true] at h
  obtain ⟨h1, h2⟩ := h
  have h1' : t.kind = 2 := by simpa using h1
  unfold scalarT at h2
  rw [h1'] at h2
  split at h2
  · cases h2
  · exact h2
theorem lastOf_of {sets : List SetM} {nm : ByteArray} {t : Tr} (h : lastOf sets nm = some t) : ∃ s ∈ sets, s.name = nm ∧ s.val = t := by
  unfold lastOf at h
  rw [Option.map_eq_some_iff] at h
  obtain ⟨s, hs, rfl⟩ := h
  have h1 := List.find?_some hs
  have h2 := List.mem_of_find?_eq_some hs
  simp at h1 h2
  exact ⟨s, h2, h1, rfl⟩
/-- The whole number that a number is. -/
def toI (x : Nat) : Int := (floatToIntVal .f64 x .i64).getD 0
theorem lastOf_snoc (done : List SetM) (s : SetM) (nm : ByteArray) : lastOf (done ++ [s]) nm = if s.name = nm then some s.val else lastOf done nm := by
  unfold lastOf
  simp only [List.reverse_append, List.reverse_cons, List.reverse_nil, List.nil_append, List.singleton_append, List.find?_cons]
  by_cases h : s.name = nm <;> simp [h]
theorem ptr_new (w : World) (a : Addr) (u x : Value) (e : TypeId) : ((w.setCell a u).alloc (.cells #[x] e)).cell? ⟨w.heap.size, 0, none⟩ = some x := by
  have := World.cell?_alloc_new (w.setCell a u) #[x] e 0
  simpa using this
/-- A pointer, with what it leads to. -/
def PtrTo (w : World) (lo : Nat) (f : Tr → Value) (o : Option Tr) (p : Option Addr) : Prop :=
  match o with
  | none => p = none
  | some t => ∃ b, p = some ⟨b, 0, none⟩ ∧ lo ≤ b ∧ w.cell? ⟨b, 0, none⟩ = some (f t)
/-- Under way: the entries 'ts' have been told, of i pieces. -/
structure SrcRel (w0 : World) (name : ByteArray) (ts : List (ByteArray × Tr)) (i : Nat) (wr : World) : Prop where
  sz : w0.heap.size + 2 ≤ wr.heap.size
  map : ∃ n es, wr.ownsMap Tryz.prog 9 R9 (w0.heap.size + 1) n (dput es) ∧ n ≤ i ∧ EntriesOK wr (fun b => w0.heap.size + 2 ≤ b) es ts
  outer : ∃ n, wr.ownsMap Tryz.prog 9 R9 w0.heap.size n (dput [(name, .iface 122 (.map (some (w0.heap.size + 1))))])
  bel : Below w0.heap.size w0 wr
theorem SrcRel.skip {w0 wr : World} {name : ByteArray} {ts ts' : List (ByteArray × Tr)} {i : Nat} (r : SrcRel w0 name ts i wr) (h : ts' = ts) : SrcRel w0 name ts' (i + 1) wr := by
  subst h
  obtain ⟨n, es, h1, h2, h3⟩ := r.map
  exact ⟨r.sz, ⟨n, es, h1, by omega, h3⟩, r.outer, r.bel⟩
theorem SrcRel.put {w0 wr w1 : World} {name : ByteArray} {i n : Nat} {ts : List (ByteArray × Tr)} (r : SrcRel w0 name ts i wr) {es : List (ByteArray × Value)} {k : ByteArray} {v : Value} {t : Tr} (hn : n ≤ i) (hes : EntriesOK wr (fun b => w0.heap.size + 2 ≤ b) es ts)
    (hown : w1.ownsMap Tryz.prog 9 R9 (w0.heap.size + 1) (n + 1) ((dput es).put (.string k.data.toList) (.held v))) (hg : wr.grownBy w1 (some (w0.heap.size + 1))) (hv : AnyAt wr (fun b => w0.heap.size + 2 ≤ b) v t) {ts' : List (ByteArray × Tr)} (hts : ts' = ts ++ [(k, t)]) :
    SrcRel w0 name ts' (i + 1) w1 := by
  subst hts
  have hk : Keeps (fun b => w0.heap.size + 2 ≤ b) wr w1 := fun b hb hlt => hg.block b hlt (fun e => by injection e with e; omega)
  exact ⟨Nat.le_trans r.sz hg.size, ⟨n + 1, es ++ [(k, v)], by rw [dput_snoc]; exact hown, by omega, (hes.snoc k hv).keep hk⟩, (let ⟨n0, h0⟩ := r.outer; ⟨n0, h0.kept hg (by simp)⟩), r.bel.grown hg r.bel.size (fun k hk => by injection hk with hk; omega)⟩
theorem SrcRel.below {w0 wr w' : World} {name : ByteArray} {ts : List (ByteArray × Tr)} {i : Nat} (r : SrcRel w0 name ts i wr) (hb : Below wr.heap.size wr w') : SrcRel w0 name ts i w' := by
  obtain ⟨n, es, h1, h2, h3⟩ := r.map
  obtain ⟨n0, h0⟩ := r.outer
  exact ⟨Nat.le_trans r.sz hb.size, ⟨n, es, h1.kept (Below.grow hb) (by simp), h2, h3.keep (Keeps.of_below _ hb)⟩, ⟨n0, h0.kept (Below.grow hb) (by simp)⟩, via r.bel hb⟩
/-- At the end: what is handed back. -/
theorem SrcRel.any {w0 wr : World} {name : ByteArray} {ts : List (ByteArray × Tr)} {i : Nat} (r : SrcRel w0 name ts i wr) (hd : (ts.map (·.1)).Nodup) (hl : ts.length ≤ 4294967296) : AnyAt wr (fun _ => True) (.iface 122 (.map (some w0.heap.size))) (mapTree [(name, mapTree ts)]) := by
  obtain ⟨n, es, h1, h2, h3⟩ := r.map
  obtain ⟨n0, h0⟩ := r.outer
  have hin : AnyAt wr (fun _ => True) (.iface 122 (.map (some (w0.heap.size + 1)))) (mapTree ts) := by
    refine map_any trivial h1 ?_ (by rw [h3.1]; exact hd) ⟨h3.1, fun i e t a b => (h3.2 i e t a b).mono (fun _ _ _ => trivial)⟩
    have := congrArg List.length h3.1
    simp only [List.length_map] at this
    omega
  exact map_any trivial h0 (by simp) (by simp) ((EntriesOK.nil _ _).snoc name hin)
theorem key_of (l : List UInt8) (h : l.length ≤ 1000) : keyOf Tryz.prog 9 (.string ⟨l.toArray⟩) = some (.string l) := by
  have := Go.WideMaps.keyOf_string_mk (P := Tryz.prog) (k := 9) Tryz.underlying9 (s := ⟨l.toArray⟩) (by
    have h1 : (ByteArray.mk l.toArray).size = l.length := by simp [ByteArray.size]
    rw [h1]; unfold maxLen; omega)
  simpa using this
def n_boost : ByteArray := ⟨#[98, 111, 111, 115, 116]⟩
def n_minimum_should_match : ByteArray := ⟨#[109, 105, 110, 105, 109, 117, 109, 95, 115, 104, 111, 117, 108, 100, 95, 109, 97, 116, 99, 104]⟩
def n__name : ByteArray := ⟨#[95, 110, 97, 109, 101]⟩
end Go.Proofs.YtbcnhcpgloncdaaGreatDoor
