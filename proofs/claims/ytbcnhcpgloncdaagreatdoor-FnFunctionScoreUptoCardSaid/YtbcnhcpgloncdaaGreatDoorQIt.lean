/- What settings that fit a bool query are: bounds and names, in plain data. -/
import Derived.Test.YtbcnhcpgloncdaaGreatDoorQIs
namespace Go.Proofs.YtbcnhcpgloncdaaGreatDoor
open Go Go.RowKit Go.Maps

theorem fitBool_name {s : SetM} (h : fitBool s = true) : s.name ∈ namesB := by
  have hne : kindOf rsBool s.name ≠ ⟨#[]⟩ := by
    intro e
    have := fitBool_kind h e
    rw [fitQ_ne (by decide), fitK_none] at this
    cases this
  obtain ⟨r, hr, hn, _⟩ := kindOf_name hne
  rw [← hn]
  have hmap : rsBool.map (·.1) = namesB := rfl
  rw [← hmap]
  exact List.mem_map.2 ⟨r, hr, rfl⟩
theorem places_kind : ∀ pl ∈ placesB, kindOf rsBool pl = kQ := by
  intro pl hpl
  simp only [placesB, List.mem_cons, List.not_mem_nil, or_false] at hpl
  rcases hpl with rfl | rfl | rfl | rfl <;> decide +kernel
theorem fitBool_pos {sets : List SetM} (h : ∀ s ∈ sets, fitBool s = true) : ∀ place ∈ placesB, ∀ s ∈ sets, s.name = place → 0 < (clauseK s.val).length :=
  fun pl hpl s hs hn => clauseK_pos (h s hs) (by rw [hn]; exact places_kind pl hpl)
theorem fitBool_whole {sets : List SetM} (h : ∀ s ∈ sets, fitBool s = true) : ∀ s ∈ sets, s.name = n_minimum_number_should_match → ∃ n : Nat, n ≤ 1000000 ∧ floatToIntVal .f64 s.val.num .i64 = some (n : Int) := by
  intro s hs hn
  have hf := fitBool_kind (kd := kW) (h s hs) (by rw [hn]; decide +kernel)
  rw [fitQ_ne (by decide)] at hf
  have hw := whole_fit hf
  unfold fitW at hw
  rw [Bool.and_eq_true, Bool.and_eq_true] at hw
  exact fitW_int hw.1.1 hw.1.2

theorem clauseK_bulk (s : SetM) : (clauseK s.val).length ≤ bulkS s := by
  unfold clauseK bulkS
  split
  · omega
  · simp
theorem clauses_bulk (place : ByteArray) (sets : List SetM) : (clausesT place sets).length ≤ (sets.map bulkS).sum := by
  induction sets with
  | nil => simp [clausesT]
  | cons s sets ih =>
    have e : clausesT place (s :: sets) = (if s.name = place then clauseK s.val else []) ++ clausesT place sets := by simp [clausesT]
    rw [e, List.length_append, List.map_cons, List.sum_cons]
    have := clauseK_bulk s
    split
    · omega
    · simp; omega
theorem sets_bulk (sets : List SetM) : sets.length ≤ (sets.map bulkS).sum := by
  induction sets with
  | nil => simp
  | cons s sets ih =>
    rw [List.map_cons, List.sum_cons, List.length_cons]
    have : 2 ≤ bulkS s := by unfold bulkS; omega
    omega
theorem kids_bulk {sets : List SetM} {s : SetM} (hs : s ∈ sets) : s.val.kids.length ≤ (sets.map bulkS).sum := by
  induction sets with
  | nil => cases hs
  | cons x sets ih =>
    rw [List.map_cons, List.sum_cons]
    rcases List.mem_cons.1 hs with rfl | hs
    · have : s.val.kids.length ≤ bulkS s := by unfold bulkS; omega
      omega
    · have := ih hs; omega
/-- The clauses are as small as what tells them, and proper. -/
theorem clauses_ok {n r : Nat} {sets : List SetM} (hok : ∀ s ∈ sets, OkT n r s.val) (h : ∀ s ∈ sets, fitBool s = true) {pl : ByteArray} (hp : kindOf rsBool pl = kQ) : ∀ t ∈ clausesT pl sets, OkT n r t ∧ properT 100 t = true := by
  intro t ht
  refine ⟨?_, ?_⟩
  · unfold clausesT at ht
    obtain ⟨s, hs, ht⟩ := List.mem_flatMap.1 ht
    split at ht
    · unfold clauseK at ht
      split at ht
      · exact (hok s hs).kid ht
      · obtain rfl : t = s.val := by simpa using ht
        exact hok s hs
    · cases ht
  · have := clauses_query h hp t ht
    unfold queryT at this
    rw [Bool.and_eq_true] at this
    exact this.2

theorem prs_mapE' (es : List (ByteArray × Tr)) : prs (mapE es) = es := by
  unfold prs mapE mapT Tr.keys Tr.kids
  simp only
  induction es with
  | nil => rfl
  | cons p es ih => simp [ih]
theorem sort_one (k : ByteArray) : sortKeys [k] = [k] := by simp [sortKeys]
theorem boolT_eq (sets : List SetM) : boolT sets = mapT [n_bool] [mapE (mapTE (boolSrc sets 8))] := by
  unfold boolT
  rw [mapTree_eq (boolSrc sets 8)]
  unfold mapTree
  simp only [List.map_cons, List.map_nil, sort_one]
  unfold lookT
  simp
theorem boolTE_length (sets : List SetM) : (mapTE (boolSrc sets 8)).length ≤ 8 := by
  have := boolSrc_length sets
  unfold mapTE sortKeys
  simp only [List.length_map, List.length_mergeSort]
  exact this
/-- How many should match is a text. -/
theorem msm_text (sets : List SetM) : ∀ t, lookE (besideE placesB (mapTE (boolSrc sets 8))) n_minimum_should_match = some t → t.kind ≠ 2 := by
  intro t ht
  have hnd : ((mapTE (boolSrc sets 8)).map (·.1)).Nodup := by
    have := asc_mapTE (boolSrc_nodup sets)
    unfold Asc at this
    rw [← List.pairwise_map (f := fun p : ByteArray × Tr => p.1) (R := fun a b => strLt a b = true)] at this
    rw [List.nodup_iff_pairwise_ne]
    exact this.imp (fun {a b} hab e => by rw [e, strLt_irrefl] at hab; cases hab)
  rw [lookE_besideE placesB hnd, lookE_mapTE (boolSrc_nodup sets), boolSrc_8, (boolEnts_parts sets).at keysB_nodup 5 _ _ rfl rfl] at ht
  unfold textEnt at ht
  split at ht
  · simp [lookE_nil] at ht
  · simp only [lookE_cons, if_true, Option.bind_some] at ht
    rw [beside_other (by decide +kernel) (by simp [textT, Tr.kind])] at ht
    cases ht
    simp [textT, Tr.kind]
end Go.Proofs.YtbcnhcpgloncdaaGreatDoor
