/- 'fit' of a tree; settings no two of which have the same name; what a query_string query gives, the settings turned. -/
import Derived.Test.YtbcnhcpgloncdaaGreatDoorHe
import Derived.Test.YtbcnhcpgloncdaaGreatDoorGh
import Derived.Test.YtbcnhcpgloncdaaGreatDoorGj
import Derived.Test.YtbcnhcpgloncdaaGreatDoorGt
import Derived.Test.YtbcnhcpgloncdaaGreatDoorGv
namespace Go.Proofs.YtbcnhcpgloncdaaGreatDoor
open Go Go.RowKit

def scalarT (t : Tr) : Bool :=
  if 0 < t.keys.length ∨ 0 < t.kids.length then false else if t.kind = 1 then !(decide (t.text = ⟨#[]⟩)) else if t.kind = 2 then fin t.num else decide (t.kind = 3)
theorem RepT.scalar {w : World} {S : Nat → Prop} {v : TV} {t : Tr} (h : RepT w S v t) : scalarV v = scalarT t := by
  obtain ⟨h1, h2, h3, h4, h5, h6⟩ := h.eqs
  unfold scalarV scalarT
  rw [h1, h2, h3, h5, h6]

def kT : ByteArray := ⟨#[116]⟩
def kN : ByteArray := ⟨#[110]⟩
def kB : ByteArray := ⟨#[98]⟩
def kV : ByteArray := ⟨#[118]⟩
def kW : ByteArray := ⟨#[119]⟩
def kF : ByteArray := ⟨#[102]⟩
def kQ : ByteArray := ⟨#[113]⟩
/-- Is a tree of a kind (of one of those that are not queries)? -/
def fitK (kd : ByteArray) (t : Tr) : Bool :=
  if kd = kT then decide (t.kind = 1) && scalarT t
  else if kd = kN then decide (t.kind = 2) && scalarT t
  else if kd = kB then decide (t.kind = 3) && scalarT t
  else if kd = kV then scalarT t
  else if kd = kW then decide (t.kind = 2) && scalarT t && fitW t.num
  else if kd = kF then decide (t.kind = 1) && scalarT t && fieldB t.text && fitF t.num
  else false

theorem fitK_any (kd : ByteArray) (hk : kd ∈ [kT, kN, kB, kV, kW, kF, ⟨#[]⟩]) (t : Tr) (v : TV) (S : Nat → Prop) (w : World) (h : RepT w S v t) :
    Calls Tryz.prog 26 #[.string kd, v.val] w fun e w' => e = .returned (.bool (fitK kd t)) ∧ Below w.heap.size w w' := by
  obtain ⟨h1, h2, h3, h4, h5, h6⟩ := h.eqs
  have hs := h.scalar
  have hb := h.bounds.1
  simp only [List.mem_cons, List.not_mem_nil, or_false] at hk
  rcases hk with rfl | rfl | rfl | rfl | rfl | rfl | rfl
  · have := fit_t v w
    rw [hs, h1] at this
    exact this
  · have := fit_n v w
    rw [hs, h1] at this
    exact this
  · have := fit_b v w
    rw [hs, h1] at this
    exact this
  · have := fit_v v w
    rw [hs] at this
    exact this
  · have := fit_w v w
    rw [hs, h1, h3] at this
    exact this
  · have := fit_f v w (by rw [h2]; exact hb)
    rw [hs, h1, h2, h3] at this
    exact this
  · exact fit_none v w

theorem kindOf_mem (rs : List (ByteArray × ByteArray)) (ks : List ByteArray) (h : rs.all (fun r => memB r.2 ks) = true) (h0 : (⟨#[]⟩ : ByteArray) ∈ ks) (name : ByteArray) : kindOf rs name ∈ ks := by
  unfold kindOf
  cases e : rs.find? (fun r => decide (r.1 = name)) with
  | none => simpa using h0
  | some r =>
    have := List.all_eq_true.1 h r (List.mem_of_find?_eq_some e)
    rw [memB_iff] at this
    simpa using this
theorem kindOf_name {rs : List (ByteArray × ByteArray)} {name : ByteArray} (h : kindOf rs name ≠ ⟨#[]⟩) : ∃ r ∈ rs, r.1 = name ∧ kindOf rs name = r.2 := by
  unfold kindOf at *
  cases e : rs.find? (fun r => decide (r.1 = name)) with
  | none => rw [e] at h; exact absurd rfl h
  | some r =>
    refine ⟨r, List.mem_of_find?_eq_some e, ?_, rfl⟩
    have := List.find?_some e
    simpa using this

/-- No two settings with the same name. -/
theorem distinct_nodup {sets : List SetM} (h : distinctB sets = true) : (sets.map (·.name)).Nodup := by
  unfold distinctB at h
  rw [List.all_eq_true] at h
  rw [List.nodup_iff_pairwise_ne, List.pairwise_iff_getElem]
  intro i j hi hj hij
  rw [List.length_map] at hi hj
  have hj' := h j (List.mem_range.2 hj)
  rw [List.getElem_map, List.getElem_map]
  intro he
  have e0 : sets.getD j SetM.zero = sets[j] := by simp [hj]
  rw [e0] at hj'
  have hn : (lastOf (sets.take j) sets[j].name) = none := by simpa using hj'
  unfold lastOf at hn
  rw [Option.map_eq_none_iff, List.find?_eq_none] at hn
  have := hn sets[i] (by rw [List.mem_reverse, List.mem_take_iff_getElem]; exact ⟨i, by omega, rfl⟩)
  simp [he] at this

theorem lastOf_mem {sets : List SetM} (h : (sets.map (·.name)).Nodup) (nm : ByteArray) (t : Tr) : lastOf sets nm = some t ↔ ∃ s ∈ sets, s.name = nm ∧ s.val = t := by
  induction sets with
  | nil => simp [lastOf]
  | cons a l ih =>
    rw [List.map_cons, List.nodup_cons] at h
    have hstep : lastOf (a :: l) nm = (lastOf l nm).or (if a.name = nm then some a.val else none) := by
      unfold lastOf
      rw [List.reverse_cons, List.find?_append]
      by_cases ha : a.name = nm <;> cases l.reverse.find? (fun s => decide (s.name = nm)) <;> simp [ha]
    rw [hstep]
    have ih' := ih h.2
    by_cases ha : a.name = nm
    · have hno : lastOf l nm = none := by
        cases e : lastOf l nm with
        | none => rfl
        | some u =>
          exfalso
          have ih2 := ih h.2
          unfold lastOf at e
          rw [Option.map_eq_some_iff] at e
          obtain ⟨s, hs, _⟩ := e
          have h1 := List.find?_some hs
          have h2 := List.mem_of_find?_eq_some hs
          simp at h1 h2
          exact h.1 (List.mem_map.2 ⟨s, h2, by rw [h1, ha]⟩)
      rw [hno, if_pos ha]
      constructor
      · intro e
        exact ⟨a, by simp, ha, by simpa using e⟩
      · rintro ⟨s, hs, hn, rfl⟩
        rcases List.mem_cons.1 hs with rfl | hs
        · simp
        · exact absurd (List.mem_map.2 ⟨s, hs, by rw [hn, ha]⟩) h.1
    · rw [if_neg ha, Option.or_none, ih']
      constructor
      · rintro ⟨s, hs, hn⟩; exact ⟨s, by simp [hs], hn⟩
      · rintro ⟨s, hs, hn, ht⟩
        rcases List.mem_cons.1 hs with rfl | hs
        · exact absurd hn ha
        · exact ⟨s, hs, hn, ht⟩

theorem lastOf_turned {sets : List SetM} (h : (sets.map (·.name)).Nodup) (nm : ByteArray) : lastOf sets.reverse nm = lastOf sets nm := by
  have h' : (sets.reverse.map (·.name)).Nodup := by rw [List.map_reverse]; exact (List.reverse_perm _).nodup_iff.2 h
  apply Option.ext
  intro t
  rw [lastOf_mem h', lastOf_mem h]
  simp

theorem filter_turned {α : Type} (p : α → Bool) (l : List α) (h : (l.filter p).length ≤ 1) : l.reverse.filter p = l.filter p := by
  rw [List.filter_reverse]
  match e : l.filter p, h with
  | [], _ => rfl
  | [a], _ => rfl

theorem treeQS_turned (ff : Nat → ByteArray) (text : ByteArray) {sets : List SetM} (h : (sets.map (·.name)).Nodup) (hf : (sets.filter isField).length ≤ 1) : treeQS ff text sets.reverse = treeQS ff text sets := by
  have e : ∀ key k, entT ff text sets.reverse key k = entT ff text sets key k := by
    intro key k
    cases k <;> simp only [entT, lastOf_turned h, filter_turned isField sets hf]
  unfold treeQS srcQS
  simp only [e]

/-- A list in which nothing stands twice, all of it in another, is no longer. -/
theorem nodup_short {α : Type} [DecidableEq α] : ∀ (l m : List α), l.Nodup → (∀ x ∈ l, x ∈ m) → l.length ≤ m.length
  | [], _, _, _ => by simp
  | a :: l, m, h, hs => by
    rw [List.nodup_cons] at h
    have ha : a ∈ m := hs a (by simp)
    have h1 := nodup_short l (m.erase a) h.2 (fun x hx => (List.mem_erase_of_ne (fun e => h.1 (by rw [← e]; exact hx))).2 (hs x (by simp [hx])))
    rw [List.length_erase_of_mem ha] at h1
    have : 0 < m.length := List.length_pos_of_mem ha
    rw [List.length_cons]; omega

/-- Trees that are the same as themselves. -/
inductive GoodT : Tr → Prop
  | mk (t : Tr) (h6 : t.kind ≠ 6) (h2 : t.kind = 2 → feq t.num t.num = true) (hr : ∀ k ∈ t.kids, GoodT k) : GoodT t
theorem GoodT.same {t : Tr} (h : GoodT t) : SameT t t := by
  induction h with
  | mk t h6 h2 hr ih =>
    refine .mk t t rfl rfl rfl (fun _ => rfl) h2 (fun _ => rfl) h6 ?_
    intro i a b ha hb
    obtain rfl : a = b := Option.some.inj (ha.symm.trans hb)
    exact ih a (List.mem_of_getElem? ha)

theorem good_text (s : ByteArray) : GoodT (textT s) := .mk _ (by simp [textT, Tr.kind]) (by simp [textT, Tr.kind]) (by simp [textT, Tr.kids])
theorem good_yes (b : Bool) : GoodT (yesT b) := .mk _ (by simp [yesT, Tr.kind]) (by simp [yesT, Tr.kind]) (by simp [yesT, Tr.kids])
theorem good_num {x : Nat} (h : feq x x = true) : GoodT (numT x) := .mk _ (by simp [numT, Tr.kind]) (fun _ => h) (by simp [numT, Tr.kids])
theorem good_list {ts : List Tr} (h : ∀ t ∈ ts, GoodT t) : GoodT (listT ts) := .mk _ (by simp [listT, Tr.kind]) (by simp [listT, Tr.kind]) (by simpa [listT, Tr.kids] using h)
theorem good_map {ts : List (ByteArray × Tr)} (h : ∀ p ∈ ts, GoodT p.2) : GoodT (mapTree ts) := by
  refine .mk _ (by simp [mapTree, mapT, Tr.kind]) (by simp [mapTree, mapT, Tr.kind]) ?_
  intro k hk
  have hk' : k ∈ (sortKeys (ts.map (·.1))).map (lookT ts) := by simpa [mapTree, mapT, Tr.kids] using hk
  obtain ⟨key, hkey, rfl⟩ := List.mem_map.1 hk'
  rw [mem_sortKeys, List.mem_map] at hkey
  obtain ⟨p, hp, rfl⟩ := hkey
  unfold lookT
  cases e : ts.find? (fun q => decide (q.1 = p.1)) with
  | none =>
    exfalso
    rw [List.find?_eq_none] at e
    exact e p hp (by simp)
  | some q => simpa using h q (List.mem_of_find?_eq_some e)

theorem feq_self_of {x : Nat} (h : ∀ s f, Ieee.double.read x ≠ .nan s f) : feq x x = true := by
  have e : FloatKind.f64.format = Ieee.double := rfl
  unfold feq Ieee.Format.order
  rw [e]
  cases hx : Ieee.double.read x with
  | number s m i => simp [Ieee.Datum.order]
  | infinity s => cases s <;> rfl
  | nan s f => exact absurd hx (h s f)
theorem feq_fin {x : Nat} (h : fin x = true) : feq x x = true := by
  refine feq_self_of fun s f e => ?_
  unfold fin at h
  rw [e] at h
  cases h
theorem feq_left {x y : Nat} (h : feq x y = true) : feq x x = true := by
  refine feq_self_of fun s f e => ?_
  have e' : FloatKind.f64.format = Ieee.double := rfl
  unfold feq Ieee.Format.order at h
  rw [e', e] at h
  simp [Ieee.Datum.order] at h
end Go.Proofs.YtbcnhcpgloncdaaGreatDoor
