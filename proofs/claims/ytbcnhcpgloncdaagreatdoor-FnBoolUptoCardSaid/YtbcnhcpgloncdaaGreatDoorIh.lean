/- Pairs whose keys ascend: what a map that is made pair by pair has under each key. -/
import Derived.Test.YtbcnhcpgloncdaaGreatDoorIf
namespace Go.Proofs.YtbcnhcpgloncdaaGreatDoor
open Go Go.RowKit Go.Maps Go.Sort

theorem listT_kids (ts : List Tr) : (listT ts).kids = ts := rfl
theorem mapE_keys (es : List (ByteArray × Tr)) : (mapE es).keys = es.map (·.1) := rfl
theorem mapE_kids (es : List (ByteArray × Tr)) : (mapE es).kids = es.map (·.2) := rfl
def Asc (es : List (ByteArray × Tr)) : Prop := es.Pairwise (fun a b => strLt a.1 b.1 = true)
def lookE (es : List (ByteArray × Tr)) (k : ByteArray) : Option Tr := (es.find? (fun p => decide (p.1 = k))).map (·.2)

theorem lookE_nil (k : ByteArray) : lookE [] k = none := rfl
theorem lookE_cons (p : ByteArray × Tr) (es : List (ByteArray × Tr)) (k : ByteArray) : lookE (p :: es) k = if p.1 = k then some p.2 else lookE es k := by
  unfold lookE
  rw [List.find?_cons]
  by_cases h : p.1 = k <;> simp [h]
theorem lookE_none {es : List (ByteArray × Tr)} {k : ByteArray} (h : ∀ p ∈ es, p.1 ≠ k) : lookE es k = none := by
  induction es with
  | nil => rfl
  | cons p es ih => rw [lookE_cons, if_neg (h p (by simp)), ih (fun q hq => h q (by simp [hq]))]
theorem lookE_mem {es : List (ByteArray × Tr)} {k : ByteArray} {t : Tr} (h : lookE es k = some t) : (k, t) ∈ es := by
  induction es with
  | nil => cases h
  | cons p es ih =>
    rw [lookE_cons] at h
    split at h
    · rename_i e
      obtain ⟨a, b⟩ := p
      simp only at e h
      cases h; subst e; simp
    · exact List.mem_cons_of_mem _ (ih h)

theorem strLt_tri (a b : ByteArray) : strLt a b = true ∨ a = b ∨ strLt b a = true := by
  unfold strLt
  rw [bytesLess_eq, bytesLess_eq]
  simp only [decide_eq_true_eq]
  by_cases h1 : a.toList < b.toList
  · exact .inl h1
  by_cases h2 : b.toList < a.toList
  · exact .inr (.inr h2)
  refine .inr (.inl (WideShapes.bytes_inj ?_))
  rw [← ByteArray.toList_eq, ← ByteArray.toList_eq]
  exact List.le_antisymm (List.not_lt.1 h2) (List.not_lt.1 h1)

/-- Two lists whose keys ascend are alike where they say alike under each key. -/
theorem asc_rel {R : Tr → Tr → Prop} : ∀ {es fs : List (ByteArray × Tr)}, Asc es → Asc fs → (∀ k, Option.Rel R (lookE es k) (lookE fs k)) → es.length = fs.length ∧ ∀ (i : Nat) (a b : ByteArray × Tr), es[i]? = some a → fs[i]? = some b → a.1 = b.1 ∧ R a.2 b.2
  | [], [], _, _, _ => ⟨rfl, fun i a b h => by simp at h⟩
  | [], b :: fs, _, _, h => by
    have := h b.1
    rw [lookE_cons, if_pos rfl, lookE_nil] at this
    cases this
  | a :: es, [], _, _, h => by
    have := h a.1
    rw [lookE_cons, if_pos rfl, lookE_nil] at this
    cases this
  | a :: es, b :: fs, ha, hb, h => by
    have ha' := List.pairwise_cons.1 ha
    have hb' := List.pairwise_cons.1 hb
    have hlt : ∀ {x y : ByteArray}, strLt x y = true → x ≠ y := fun h e => by rw [e, strLt_irrefl] at h; cases h
    rcases strLt_tri a.1 b.1 with hl | he | hl
    · exfalso
      have := h a.1
      rw [lookE_cons, if_pos rfl, lookE_none (fun p hp => by
        rcases List.mem_cons.1 hp with rfl | hp
        · exact (hlt hl).symm
        · exact (hlt (strLt_trans hl (hb'.1 p hp))).symm)] at this
      cases this
    · have h0 := h a.1
      rw [lookE_cons, if_pos rfl, lookE_cons, if_pos he.symm] at h0
      have h0' : R a.2 b.2 := by cases h0; assumption
      have hr := asc_rel (R := R) ha'.2 hb'.2 (fun k => by
        have hk := h k
        rw [lookE_cons, lookE_cons] at hk
        by_cases e : a.1 = k
        · rw [lookE_none (fun p hp => by rw [← e]; exact (hlt (ha'.1 p hp)).symm), lookE_none (fun p hp => by rw [← e, he]; exact (hlt (hb'.1 p hp)).symm)]
          exact Option.Rel.none
        · rwa [if_neg e, if_neg (by rw [← he]; exact e)] at hk)
      refine ⟨by simp [hr.1], fun i x y hx hy => ?_⟩
      cases i with
      | zero =>
        simp at hx hy
        subst hx hy
        exact ⟨he, h0'⟩
      | succ i => exact hr.2 i x y (by simpa using hx) (by simpa using hy)
    · exfalso
      have := h b.1
      rw [lookE_cons, lookE_cons, if_pos rfl, if_neg (hlt hl).symm, lookE_none (fun p hp => (hlt (strLt_trans hl (ha'.1 p hp))).symm)] at this
      cases this

/-- Two maps are the same where what they have under each key is. -/
theorem same_mapE {es fs : List (ByteArray × Tr)} (he : Asc es) (hf : Asc fs) (h : ∀ k, Option.Rel SameT (lookE es k) (lookE fs k)) : SameT (mapE es) (mapE fs) := by
  obtain ⟨hl, hp⟩ := asc_rel he hf h
  refine .mk _ _ rfl ?_ (by simp [mapE, mapT, Tr.kids, hl]) (fun h => by simp [mapE, mapT, Tr.kind] at h) (fun h => by simp [mapE, mapT, Tr.kind] at h) (fun h => by simp [mapE, mapT, Tr.kind] at h) (by simp [mapE, mapT, Tr.kind]) ?_
  · simp only [mapE, mapT, Tr.keys]
    apply List.ext_getElem (by simp [hl])
    intro i h1 h2
    simp only [List.length_map] at h1 h2
    simp only [List.getElem_map]
    exact (hp i _ _ (List.getElem?_eq_getElem h1) (List.getElem?_eq_getElem h2)).1
  · intro i a b ha hb
    simp only [mapE, mapT, Tr.kids] at ha hb
    have h1 : i < es.length := by have := (List.getElem?_eq_some_iff.1 ha).1; simpa using this
    have h2 : i < fs.length := by omega
    simp only [List.getElem?_map, List.getElem?_eq_getElem h1, List.getElem?_eq_getElem h2, Option.map_some, Option.some.injEq] at ha hb
    subst ha hb
    exact (hp i _ _ (List.getElem?_eq_getElem h1) (List.getElem?_eq_getElem h2)).2

/-- 'With', done. -/
theorem withE_true (key : ByteArray) (kid : Tr) (es : List (ByteArray × Tr)) : withE key kid true es = es.filter (fun p => !(decide (p.1 = key))) := by
  induction es with
  | nil => rfl
  | cons p r ih =>
    simp only [withE, Bool.not_true, Bool.false_and, Bool.true_or, ih]
    by_cases h : p.1 = key <;> simp [h]
theorem lookE_with (key : ByteArray) (kid : Tr) (es : List (ByteArray × Tr)) (k : ByteArray) : lookE (withE key kid false es) k = if k = key then some kid else lookE es k := by
  have hf : ∀ l : List (ByteArray × Tr), k ≠ key → lookE (l.filter (fun p => !(decide (p.1 = key)))) k = lookE l k := by
    intro l hk
    induction l with
    | nil => rfl
    | cons p r ih =>
      by_cases h : p.1 = key
      · rw [List.filter_cons, if_neg (by simp [h]), ih, lookE_cons, if_neg (by rw [h]; exact fun e => hk e.symm)]
      · rw [List.filter_cons, if_pos (by simp [h]), lookE_cons, lookE_cons, ih]
  induction es with
  | nil =>
    simp only [withE, Bool.false_eq_true, if_false, lookE_cons, lookE_nil]
    by_cases h : k = key
    · subst h; simp
    · rw [if_neg h, if_neg (fun e => h e.symm)]
  | cons p r ih =>
    simp only [withE, Bool.not_false, Bool.true_and, Bool.false_or]
    cases hlt : strLt p.1 key with
    | true =>
      have hne : p.1 ≠ key := fun e => by rw [e, strLt_irrefl] at hlt; cases hlt
      simp only [Bool.not_true, Bool.false_eq_true, if_false, List.nil_append, if_neg hne, List.singleton_append]
      rw [lookE_cons, ih, lookE_cons]
      by_cases hk : k = key
      · rw [if_pos hk, if_neg (by rw [hk]; exact hne)]
        simp [hk]
      · rw [if_neg hk, if_neg hk]
    | false =>
      simp only [Bool.not_false, if_true, List.cons_append]
      rw [lookE_cons]
      by_cases hk : k = key
      · rw [if_pos hk.symm, if_pos hk]
      · rw [if_neg (fun e => hk e.symm), if_neg hk, withE_true]
        by_cases hp : p.1 = key
        · rw [if_pos hp, List.nil_append, List.nil_append, hf _ hk, lookE_cons, if_neg (by rw [hp]; exact fun e => hk e.symm)]
        · rw [if_neg hp, List.nil_append, List.singleton_append, lookE_cons, lookE_cons, hf _ hk]
theorem mem_with {key : ByteArray} {kid : Tr} {es : List (ByteArray × Tr)} {q : ByteArray × Tr} (h : q ∈ withE key kid false es) : q = (key, kid) ∨ q ∈ es := by
  induction es with
  | nil => simp [withE] at h; exact .inl h
  | cons p r ih =>
    simp only [withE, Bool.not_false, Bool.true_and, Bool.false_or] at h
    cases hlt : strLt p.1 key with
    | true =>
      rw [hlt] at h
      simp only [Bool.not_true, Bool.false_eq_true, if_false, List.nil_append, List.mem_append] at h
      rcases h with h | h
      · split at h
        · cases h
        · right; simp at h; simp [h]
      · rcases ih h with h | h
        · exact .inl h
        · right; simp [h]
    | false =>
      rw [hlt] at h
      simp only [Bool.not_false, if_true, List.mem_append, withE_true] at h
      rcases h with (h | h) | h
      · left; simpa using h
      · split at h
        · cases h
        · right; simp at h; simp [h]
      · right; simp only [List.mem_filter] at h; simp [h.1]
theorem with_length (key : ByteArray) (kid : Tr) (es : List (ByteArray × Tr)) : (withE key kid false es).length ≤ es.length + 1 := by
  induction es with
  | nil => simp [withE]
  | cons p r ih =>
    simp only [withE, Bool.not_false, Bool.true_and, Bool.false_or]
    cases hlt : strLt p.1 key with
    | true =>
      simp only [Bool.not_true, Bool.false_eq_true, if_false, List.nil_append, List.length_append, List.length_cons]
      split <;> simp <;> omega
    | false =>
      simp only [Bool.not_false, if_true, List.length_append, withE_true, List.length_cons, List.length_nil]
      have := List.length_filter_le (fun p : ByteArray × Tr => !(decide (p.1 = key))) r
      split <;> simp <;> omega
theorem asc_with {key : ByteArray} {kid : Tr} {es : List (ByteArray × Tr)} (h : Asc es) : Asc (withE key kid false es) := by
  induction es with
  | nil => simp [withE, Asc]
  | cons p r ih =>
    have h' := List.pairwise_cons.1 h
    simp only [withE, Bool.not_false, Bool.true_and, Bool.false_or]
    cases hlt : strLt p.1 key with
    | true =>
      have hne : p.1 ≠ key := fun e => by rw [e, strLt_irrefl] at hlt; cases hlt
      simp only [Bool.not_true, Bool.false_eq_true, if_false, List.nil_append, if_neg hne, List.singleton_append]
      refine List.pairwise_cons.2 ⟨fun q hq => ?_, ih h'.2⟩
      rcases mem_with hq with rfl | hq
      · exact hlt
      · exact h'.1 q hq
    | false =>
      simp only [Bool.not_false, if_true, List.cons_append, withE_true]
      have hle : ∀ {x : ByteArray}, x ≠ key → (x = p.1 ∨ strLt p.1 x = true) → strLt key x = true := by
        intro x hx hp
        rcases strLt_tri key p.1 with h1 | h1 | h1
        · rcases hp with rfl | hp
          · exact h1
          · exact strLt_trans h1 hp
        · rcases hp with rfl | hp
          · exact absurd h1.symm hx
          · rw [h1]; exact hp
        · rw [hlt] at h1; cases h1
      refine List.pairwise_cons.2 ⟨fun q hq => ?_, ?_⟩
      · rcases List.mem_append.1 hq with hq | hq
        · split at hq
          · cases hq
          · rename_i hne
            obtain rfl : q = p := by simpa using hq
            exact hle hne (.inl rfl)
        · rw [List.mem_filter] at hq
          exact hle (by simpa using hq.2) (.inr (h'.1 q hq.1))
      · have hs : ((if p.1 = key then [] else [p]) ++ r.filter (fun p => !(decide (p.1 = key)))).Sublist (p :: r) := by
          have : (if p.1 = key then ([] : List (ByteArray × Tr)) else [p]).Sublist [p] := by split <;> simp
          exact this.append List.filter_sublist
        exact h.sublist hs

/-- A map that is made pair by pair. -/
def mapL (ps : List SetM) : List (ByteArray × Tr) := ps.foldl (fun es s => withE s.name s.val false es) []
theorem mapL_snoc (ps : List SetM) (s : SetM) : mapL (ps ++ [s]) = withE s.name s.val false (mapL ps) := by simp [mapL]
theorem lookE_mapL (ps : List SetM) (k : ByteArray) : lookE (mapL ps) k = lastOf ps k := by
  induction ps using snoc_ind with
  | h0 => rfl
  | h1 l a ih => 
    rw [mapL_snoc, lookE_with, lastOf_snoc, ih]
    by_cases h : a.name = k
    · rw [if_pos h, if_pos h.symm]
    · rw [if_neg h, if_neg (fun e => h e.symm)]
theorem asc_mapL (ps : List SetM) : Asc (mapL ps) := by
  induction ps using snoc_ind with
  | h0 => exact List.Pairwise.nil
  | h1 l a ih => rw [mapL_snoc]; exact asc_with ih
theorem mapL_length (ps : List SetM) : (mapL ps).length ≤ ps.length := by
  induction ps using snoc_ind with
  | h0 => simp [mapL]
  | h1 l a ih => rw [mapL_snoc]; have := with_length a.name a.val (mapL l); simp; omega

/-- A map of Go's as a tree: its keys ascend. -/
def mapTE (ts : List (ByteArray × Tr)) : List (ByteArray × Tr) := (sortKeys (ts.map (·.1))).map (fun k => (k, lookT ts k))
theorem mapTree_eq (ts : List (ByteArray × Tr)) : mapTree ts = mapE (mapTE ts) := by
  unfold mapTree mapE mapTE
  rw [List.map_map, List.map_map]
  congr 1
  · have : ((fun p : ByteArray × Tr => p.1) ∘ fun k => (k, lookT ts k)) = id := by funext k; rfl
    rw [this, List.map_id]
theorem asc_mapTE {ts : List (ByteArray × Tr)} (h : (ts.map (·.1)).Nodup) : Asc (mapTE ts) := by
  unfold Asc mapTE
  rw [List.pairwise_map]
  unfold sortKeys
  rw [List.pairwise_map]
  have hs := List.pairwise_mergeSort (le := leB) (fun a b c h1 h2 => by
      simp only [leB, decide_eq_true_eq] at *; exact List.le_trans h1 h2) (fun a b => by
      simp only [leB, Bool.or_eq_true, decide_eq_true_eq]; exact List.le_total a b) ((ts.map (·.1)).map (fun k => k.data.toList))
  have hn : (((ts.map (·.1)).map (fun k => k.data.toList)).mergeSort leB).Nodup := (List.mergeSort_perm _ leB).nodup_iff.2 (nodup_bytes h)
  have := hs.and hn
  refine this.imp ?_
  intro a b hab
  obtain ⟨h1, h2⟩ := hab
  unfold strLt
  rw [bytesLess_eq]
  simp only [leB, decide_eq_true_eq] at h1 ⊢
  rw [ByteArray.toList_eq, ByteArray.toList_eq]
  simp only 
  by_cases hlt : a < b
  · exact hlt
  · exact absurd (List.le_antisymm h1 (List.not_lt.1 hlt)) h2
theorem lookE_mapTE {ts : List (ByteArray × Tr)} (h : (ts.map (·.1)).Nodup) (k : ByteArray) : lookE (mapTE ts) k = lookE ts k := by
  by_cases hk : k ∈ ts.map (·.1)
  · obtain ⟨p, hp, rfl⟩ := List.mem_map.1 hk
    have h1 : lookE ts p.1 = some p.2 := by
      have := lookT_mem h (k := p.1) (t := p.2) hp
      unfold lookT at this
      unfold lookE
      cases e : ts.find? (fun q => decide (q.1 = p.1)) with
      | none =>
        rw [List.find?_eq_none] at e
        have := e p hp
        simp at this
      | some q => rw [e] at this; simpa using this
    rw [h1]
    have hm : p.1 ∈ sortKeys (ts.map (·.1)) := mem_sortKeys.2 hk
    unfold mapTE
    generalize sortKeys (ts.map (·.1)) = l at hm
    induction l with
    | nil => cases hm
    | cons x l ih =>
      rw [List.map_cons, lookE_cons]
      by_cases hx : x = p.1
      · rw [if_pos hx]
        simp only
        rw [hx, lookT_mem h (k := p.1) (t := p.2) hp]
      · rw [if_neg hx]
        exact ih (by rcases List.mem_cons.1 hm with e | e; exact absurd e.symm hx; exact e)
  · rw [lookE_none (es := ts) (fun p hp e => hk (List.mem_map.2 ⟨p, hp, e⟩)), lookE_none]
    intro p hp e
    unfold mapTE at hp
    obtain ⟨x, hx, rfl⟩ := List.mem_map.1 hp
    rw [mem_sortKeys] at hx
    exact hk (by rw [← e]; exact hx)
theorem lookE_flat_none {α : Type} (f : α → List (ByteArray × Tr)) (l : List α) (k : ByteArray) (h : ∀ a ∈ l, lookE (f a) k = none) : lookE (l.flatMap f) k = none := by
  induction l with
  | nil => rfl
  | cons a l ih =>
    rw [List.flatMap_cons]
    have h1 := h a (by simp)
    have h2 := ih (fun b hb => h b (by simp [hb]))
    unfold lookE at *
    rw [List.find?_append]
    simp only [Option.map_eq_none_iff] at h1 h2 ⊢
    rw [h1, h2]; rfl
theorem lookE_append (es fs : List (ByteArray × Tr)) (k : ByteArray) : lookE (es ++ fs) k = (lookE es k).or (lookE fs k) := by
  unfold lookE
  rw [List.find?_append]
  cases es.find? (fun p => decide (p.1 = k)) <;> simp

/-- A tree, as it comes back, is the same as it was. -/
theorem leaf_same {t : Tr} (h : scalarP t = true) : SameT (leafT t) t := by
  unfold scalarP at h
  split at h
  · cases h
  · rename_i hn
    have hk : t.keys = [] := List.length_eq_zero_iff.1 (by omega)
    have hc : t.kids = [] := List.length_eq_zero_iff.1 (by omega)
    unfold leafT
    by_cases h1 : t.kind = 1
    · rw [if_pos h1]
      refine .mk _ _ (by rw [h1]; rfl) (by rw [hk]; rfl) (by rw [hc]; rfl) (fun _ => rfl) (fun h => by simp [textT, Tr.kind] at h) (fun h => by simp [textT, Tr.kind] at h) (by simp [textT, Tr.kind]) (fun i a b ha => by simp [textT, Tr.kids] at ha)
    · rw [if_neg h1]
      rw [if_neg h1] at h
      by_cases h2 : t.kind = 2
      · rw [if_pos h2]
        rw [if_pos h2] at h
        exact .mk _ _ (by rw [h2]; rfl) (by rw [hk]; rfl) (by rw [hc]; rfl) (fun h => by simp [numT, Tr.kind] at h) (fun _ => feq_fin h) (fun h => by simp [numT, Tr.kind] at h) (by simp [numT, Tr.kind]) (fun i a b ha => by simp [numT, Tr.kids] at ha)
      · rw [if_neg h2]
        rw [if_neg h2] at h
        have h3 : t.kind = 3 := by simpa using h
        rw [if_pos h3]
        exact .mk _ _ (by rw [h3]; rfl) (by rw [hk]; rfl) (by rw [hc]; rfl) (fun h => by simp [yesT, Tr.kind] at h) (fun h => by simp [yesT, Tr.kind] at h) (fun _ => rfl) (by simp [yesT, Tr.kind]) (fun i a b ha => by simp [yesT, Tr.kids] at ha)
theorem lookE_zip {ks : List ByteArray} {ts : List Tr} (hl : ks.length = ts.length) (hn : ks.Nodup) {i : Nat} (h1 : i < ks.length) (h2 : i < ts.length) : lookE (ks.zip ts) ks[i] = some ts[i] := by
  induction ks generalizing ts i with
  | nil => simp at h1
  | cons k ks ih =>
    cases ts with
    | nil => simp at hl
    | cons t ts =>
      rw [List.nodup_cons] at hn
      rw [List.zip_cons_cons, lookE_cons]
      cases i with
      | zero => simp
      | succ i =>
        simp only [List.getElem_cons_succ]
        simp only [List.length_cons] at h1 h2 hl
        rw [if_neg (fun e => hn.1 (by rw [e]; exact List.getElem_mem _)), ih (by omega) hn.2 (by omega) (by omega)]
theorem lookE_zip_map (ks : List ByteArray) (ts : List Tr) (f : Tr → Tr) (k : ByteArray) : lookE (ks.zip (ts.map f)) k = (lookE (ks.zip ts) k).map f := by
  induction ks generalizing ts with
  | nil => simp [lookE]
  | cons x ks ih =>
    cases ts with
    | nil => simp [lookE]
    | cons t ts =>
      rw [List.map_cons, List.zip_cons_cons, List.zip_cons_cons, lookE_cons, lookE_cons, ih]
      split <;> simp
theorem norm_same (d : Nat) : ∀ {t : Tr}, properT d t = true → SameT (normT d t) t := by
  induction d with
  | zero => intro t h; exact leaf_same h
  | succ d ih =>
    intro t h
    unfold normT
    by_cases h4 : t.kind = 4
    · rw [if_pos h4]
      obtain ⟨hkids, hk, _⟩ := proper_kids h (.inl h4)
      refine .mk _ _ (by rw [h4]; rfl) (by rw [hk h4]; rfl) (by simp [listT, Tr.kids]) (fun h => by simp [listT, Tr.kind] at h) (fun h => by simp [listT, Tr.kind] at h) (fun h => by simp [listT, Tr.kind] at h) (by simp [listT, Tr.kind]) ?_
      intro i a b ha hb
      rw [listT_kids, List.getElem?_map, hb, Option.map_some, Option.some.injEq] at ha
      subst ha
      exact ih (hkids b (List.mem_of_getElem? hb))
    · rw [if_neg h4]
      by_cases h5 : t.kind = 5
      · rw [if_pos h5]
        obtain ⟨hkids, _, hm⟩ := proper_kids h (.inr h5)
        have hm := hm h5
        have hz : (t.keys.zip (t.kids.map (normT d))).map (·.1) = t.keys := by rw [List.map_fst_zip]; simp [hm.len]
        rw [mapTree_eq]
        have hnd : ((t.keys.zip (t.kids.map (normT d))).map (·.1)).Nodup := by rw [hz]; exact hm.nodup
        have hAz : Asc (t.keys.zip t.kids) := by
          have h2 : (t.keys.zip t.kids).map (·.1) = t.keys := by rw [List.map_fst_zip]; simp [hm.len]
          unfold Asc
          rw [← List.pairwise_map (f := fun p : ByteArray × Tr => p.1) (R := fun a b => strLt a b = true), h2]
          exact hm.asc
        have hs : SameT (mapE (mapTE (t.keys.zip (t.kids.map (normT d))))) (mapE (t.keys.zip t.kids)) := by
          refine same_mapE (asc_mapTE hnd) hAz (fun k => ?_)
          rw [lookE_mapTE hnd, lookE_zip_map]
          cases e : lookE (t.keys.zip t.kids) k with
          | none => exact .none
          | some u => exact .some (ih (hkids u (List.of_mem_zip (lookE_mem e)).2))
        cases hs with
        | mk _ _ a1 a2 a3 a4 a5 a6 a7 a8 =>
          have e1 : (mapE (t.keys.zip t.kids)).keys = t.keys := by rw [mapE_keys]; rw [List.map_fst_zip]; simp [hm.len]
          have e2 : (mapE (t.keys.zip t.kids)).kids = t.kids := by rw [mapE_kids]; rw [List.map_snd_zip]; simp [hm.len]
          rw [e1] at a2
          rw [e2] at a3 a8
          exact .mk _ _ (by rw [h5]; rfl) a2 a3 (fun h => by simp [mapE, mapT, Tr.kind] at h) (fun h => by simp [mapE, mapT, Tr.kind] at h) (fun h => by simp [mapE, mapT, Tr.kind] at h) a7 a8
      · rw [if_neg h5]
        refine leaf_same ?_
        unfold properT at h
        rwa [if_pos ⟨h4, h5⟩] at h
end Go.Proofs.YtbcnhcpgloncdaaGreatDoor
