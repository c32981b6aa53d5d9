/- Maps that are written entry by entry, and the trees that they are. -/
import Derived.Test.YtbcnhcpgloncdaaGreatDoorGp
namespace Go.Proofs.YtbcnhcpgloncdaaGreatDoor
open Go Go.RowKit Go.Maps

theorem snoc_ind {α : Type} {P : List α → Prop} (h0 : P []) (h1 : ∀ l a, P l → P (l ++ [a])) (l : List α) : P l := by
  rw [← List.reverse_reverse l]
  induction l.reverse with
  | nil => exact h0
  | cons a r ih => rw [List.reverse_cons]; exact h1 _ _ ih

/-- What a map of texts reads as, that was told these entries. -/
def dput (es : List (ByteArray × Value)) : DataW Value := es.foldl (fun D e => D.put (.string e.1.data.toList) (.held e.2)) (.map [])
theorem dput_snoc (es : List (ByteArray × Value)) (e : ByteArray × Value) : dput (es ++ [e]) = (dput es).put (.string e.1.data.toList) (.held e.2) := by simp [dput]

theorem bytes_ext {a b : ByteArray} (h : a.data.toList = b.data.toList) : a = b := WideShapes.bytes_inj h
theorem lit_ne_of {a b : ByteArray} (h : a ≠ b) : (Lit.string a.data.toList) ≠ Lit.string b.data.toList := fun e => h (bytes_ext (by injection e))

theorem isKey (l : List UInt8) : WideAt.IsKeyLit (.string l) := by simp [WideAt.IsKeyLit]
theorem tidy_dput (es : List (ByteArray × Value)) : Tidy (dput es) := by
  induction es using snoc_ind with
  | h0 => exact tidy_empty
  | h1 es e ih => rw [dput_snoc]; exact ih.put (isKey _) _

theorem has_dput (es : List (ByteArray × Value)) (x : ByteArray) : has (dput es) (.string x.data.toList) = true ↔ x ∈ es.map (·.1) := by
  induction es using snoc_ind with
  | h0 => simp [dput, has]
  | h1 es e ih =>
    rw [dput_snoc]
    by_cases he : x = e.1
    · subst he
      rw [has_put_same (tidy_dput es).isMap (isKey _)]
      simp
    · rw [has_put_other (lit_ne_of he), ih]
      simp [he]

theorem size_dput {es : List (ByteArray × Value)} (h : (es.map (·.1)).Nodup) : Maps.size (dput es) = es.length := by
  induction es using snoc_ind with
  | h0 => rfl
  | h1 es e ih =>
    rw [List.map_append, List.nodup_append] at h
    have hn : has (dput es) (.string e.1.data.toList) = false := by
      rw [Bool.eq_false_iff]
      intro h'
      exact h.2.2 _ ((has_dput es e.1).1 h') _ (by simp) rfl
    rw [dput_snoc, size_put (tidy_dput es), hn, ih h.1]
    simp

theorem atKey_dput {es : List (ByteArray × Value)} (h : (es.map (·.1)).Nodup) {k : ByteArray} {v : Value} (hm : (k, v) ∈ es) (z : DataW Value) : (dput es).atKey (.string k.data.toList) z = .held v := by
  induction es using snoc_ind with
  | h0 => simp at hm
  | h1 es e ih =>
    rw [List.map_append, List.nodup_append] at h
    rw [dput_snoc]
    rcases List.mem_append.1 hm with hm' | hm'
    · have hne : k ≠ e.1 := h.2.2 _ (List.mem_map.2 ⟨_, hm', rfl⟩) _ (by simp)
      rw [atKey_put_other (lit_ne_of hne)]
      exact ih h.1 hm'
    · have : (k, v) = e := by simpa using hm'
      subst this
      exact atKey_put_same (tidy_dput es).isMap (isKey _) _ _

theorem nodup_bytes {l : List ByteArray} (h : l.Nodup) : (l.map (fun k => k.data.toList)).Nodup := by
  refine List.pairwise_map.2 (h.imp fun {a b} hne e => hne (bytes_ext e))

theorem strKeys_dput {w : World} {b n : Nat} {es : List (ByteArray × Value)} (hown : w.ownsMap Tryz.prog 9 R9 b n (dput es)) (h : (es.map (·.1)).Nodup) : (es.map (fun e => e.1.data.toList)).Perm (strKeys (dput es)) := by
  obtain ⟨l, hD, hpw, _⟩ := hown.entries keyed9
  obtain ⟨l', hD', hko⟩ := hown.keysOf
  obtain rfl : l = l' := by rw [hD] at hD'; simpa using hD'
  rw [hD]
  refine perm_strKeys hpw (fun p hp => by obtain ⟨v, hv⟩ := hko p hp; obtain ⟨x, _, hx, _⟩ := Maps.keyOf_str Tryz.underlying9 hv; exact ⟨x, hx⟩) ?_ ?_
  · have := nodup_bytes h
    rwa [List.map_map] at this
  · intro x
    have hx := has_dput es ⟨x.toArray⟩
    rw [hD] at hx
    rw [show (Lit.string x) = Lit.string (ByteArray.mk x.toArray).data.toList by simp, hx]
    simp only [List.mem_map]
    constructor
    · rintro ⟨e, he, rfl⟩; exact ⟨e, he, by simp⟩
    · rintro ⟨e, he, h1⟩; exact ⟨e, he, by rw [h1]⟩

/-- A map as a tree: its keys ascend. -/
def lookT (ts : List (ByteArray × Tr)) (k : ByteArray) : Tr := ((ts.find? (fun p => decide (p.1 = k))).map (·.2)).getD Tr.zero
def sortKeys (l : List ByteArray) : List ByteArray := ((l.map (fun k => k.data.toList)).mergeSort leB).map (fun x => ⟨x.toArray⟩)
def mapTree (ts : List (ByteArray × Tr)) : Tr := mapT (sortKeys (ts.map (·.1))) ((sortKeys (ts.map (·.1))).map (lookT ts))

theorem mem_sortKeys {l : List ByteArray} {k : ByteArray} : k ∈ sortKeys l ↔ k ∈ l := by
  unfold sortKeys
  rw [List.mem_map]
  constructor
  · rintro ⟨x, hx, rfl⟩
    obtain ⟨y, hy, rfl⟩ := List.mem_map.1 ((List.mergeSort_perm _ leB).mem_iff.1 hx)
    simpa using hy
  · intro hk
    exact ⟨k.data.toList, (List.mergeSort_perm _ leB).mem_iff.2 (List.mem_map.2 ⟨k, hk, rfl⟩), by simp⟩

theorem lookT_mem {ts : List (ByteArray × Tr)} (h : (ts.map (·.1)).Nodup) {k : ByteArray} {t : Tr} (hm : (k, t) ∈ ts) : lookT ts k = t := by
  induction ts with
  | nil => simp at hm
  | cons p ts ih =>
    rw [List.map_cons, List.nodup_cons] at h
    unfold lookT
    rw [List.find?_cons]
    by_cases hp : p.1 = k
    · rcases List.mem_cons.1 hm with rfl | hm'
      · simp
      · exact absurd (List.mem_map.2 ⟨_, hm', rfl⟩) (by rw [← hp]; exact h.1)
    · rcases List.mem_cons.1 hm with rfl | hm'
      · exact absurd rfl hp
      · simp only [hp, decide_false]
        exact ih h.2 hm'

/-- The entries that have been told, each with the tree that it stands for. -/
def EntriesOK (w : World) (S : Nat → Prop) (es : List (ByteArray × Value)) (ts : List (ByteArray × Tr)) : Prop :=
  es.map (·.1) = ts.map (·.1) ∧ ∀ (i : Nat) (e : ByteArray × Value) (t : ByteArray × Tr), es[i]? = some e → ts[i]? = some t → AnyAt w S e.2 t.2

theorem EntriesOK.nil (w : World) (S : Nat → Prop) : EntriesOK w S [] [] := ⟨rfl, fun i e t h => by simp at h⟩
theorem EntriesOK.keep {w w' : World} {S : Nat → Prop} {es : List (ByteArray × Value)} {ts : List (ByteArray × Tr)} (h : EntriesOK w S es ts) (hk : Keeps S w w') : EntriesOK w' S es ts := ⟨h.1, fun i e t h1 h2 => (h.2 i e t h1 h2).keep hk⟩
theorem EntriesOK.snoc {w : World} {S : Nat → Prop} {es : List (ByteArray × Value)} {ts : List (ByteArray × Tr)} (h : EntriesOK w S es ts) (k : ByteArray) {v : Value} {t : Tr} (hv : AnyAt w S v t) : EntriesOK w S (es ++ [(k, v)]) (ts ++ [(k, t)]) := by
  have hl : es.length = ts.length := by have := congrArg List.length h.1; simpa using this
  refine ⟨by simp [h.1], fun i e u h1 h2 => ?_⟩
  by_cases hi : i < es.length
  · rw [List.getElem?_append_left hi] at h1
    rw [List.getElem?_append_left (by omega)] at h2
    exact h.2 i e u h1 h2
  · rw [List.getElem?_append_right (by omega)] at h1
    rw [List.getElem?_append_right (by omega)] at h2
    have h0 : i - es.length = 0 := by
      have := (List.getElem?_eq_some_iff.1 h1).1
      simp at this
      omega
    rw [h0] at h1
    rw [show i - ts.length = 0 by omega] at h2
    simp at h1 h2
    subst h1
    subst h2
    exact hv

/-- A map that was told these entries stands for the tree of them. -/
theorem map_any {w : World} {S : Nat → Prop} {b n : Nat} {es : List (ByteArray × Value)} {ts : List (ByteArray × Tr)} (hS : S b) (hown : w.ownsMap Tryz.prog 9 R9 b n (dput es)) (hl : es.length ≤ 4294967296) (hd : (es.map (·.1)).Nodup) (h : EntriesOK w S es ts) :
    AnyAt w S (.iface 122 (.map (some b))) (mapTree ts) := by
  have hp := strKeys_dput hown hd
  have hd' : (ts.map (·.1)).Nodup := by rw [← h.1]; exact hd
  refine .map b n (dput es) _ _ hS hown (by rw [size_dput hd]; exact hl) ?_ (by simp) ?_
  · have he : ts.map (·.1) = es.map (·.1) := h.1.symm
    rw [he]
    unfold sortKeys
    rw [List.map_map, List.map_map]
    have hid : ((fun k : ByteArray => k.data.toList) ∘ fun x : List UInt8 => (⟨x.toArray⟩ : ByteArray)) = id := by funext x; simp
    rw [hid, List.map_id]
    exact mergeSort_of_perm hp
  · intro i k t v hk ht hv
    rw [List.getElem?_map, hk] at ht
    simp only [Option.map_some, Option.some.injEq] at ht
    have hmem : k ∈ ts.map (·.1) := mem_sortKeys.1 (List.mem_of_getElem? hk)
    obtain ⟨p, hp, rfl⟩ := List.mem_map.1 hmem
    obtain ⟨j, hj, hpj⟩ := List.mem_iff_getElem.1 hp
    have hlen : es.length = ts.length := by have := congrArg List.length h.1; simpa using this
    have hkey : (es[j]'(by omega)).1 = p.1 := by
      have h1 : (es.map (·.1))[j]? = (ts.map (·.1))[j]? := by rw [h.1]
      simp [hj, hlen, hpj] at h1
      exact h1
    have hat := atKey_dput hd (k := p.1) (v := (es[j]'(by omega)).2) (by rw [← hkey]; exact List.getElem_mem (l := es) (by omega)) (.held .nilIface)
    rw [hv] at hat
    injection hat with hat
    rw [hat, ← ht, lookT_mem hd' (k := p.1) (t := p.2) hp, ← hpj]
    exact h.2 j _ _ (List.getElem?_eq_getElem (by omega)) (List.getElem?_eq_getElem hj)
end Go.Proofs.YtbcnhcpgloncdaaGreatDoor
