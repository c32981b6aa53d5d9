/- What the reference says of a score function, in plain data. -/
import Derived.Test.YtbcnhcpgloncdaaGreatDoorQJp
import Derived.Test.YtbcnhcpgloncdaaGreatDoorQJj
namespace Go.Proofs.YtbcnhcpgloncdaaGreatDoor
open Go Go.RowKit Go.Maps

def rsOf : SK → List (ByteArray × ByteArray) | .weight => [] | .factor => rsFactor | .random => rsRandom | _ => rsDecay
def ownP (k : SK) (s : ScoreM) : List SetM := pickL (paramsL (rsOf k) s.sets) [n_weight]
def filP : List Tr → List SetM | [] => [] | t :: _ => [⟨n_filter', t⟩]
def wtO : Option Tr → List SetM | none => [] | some t => [⟨n_weight, t⟩]
def wtP : SK → Option Tr → List SetM | .weight, _ => [] | _, o => wtO o
def qryP : List Tr → List SetM | [] => [] | t :: _ => [⟨n_query, t⟩]
def preP (k : SK) (s : ScoreM) : List SetM := filP s.filters ++ wtP k (lastOf s.sets n_weight)
def fieldP (s : ScoreM) : List SetM := if s.field = ⟨#[]⟩ then [] else [⟨n_field, textT s.field⟩]
def decayP (k : SK) (s : ScoreM) : List (ByteArray × Tr) :=
  match lastOf s.sets n_multi_value_mode with
  | none => mapL [⟨s.field, mapE (mapL (pickL (ownP k s) [n_multi_value_mode]))⟩]
  | some m => withE n_multi_value_mode m false (mapL [⟨s.field, mapE (mapL (pickL (ownP k s) [n_multi_value_mode]))⟩])
def keyP (k : SK) (s : ScoreM) : Tr :=
  match k with
  | .weight => numT s.a
  | .factor => mapE (foldE (mapL (ownP k s ++ [⟨n_field, textT s.field⟩])))
  | .random => mapE (mapL (ownP k s ++ fieldP s))
  | _ => mapE (decayP k s)
/-- 'score' of a function. -/
def scoreTr (k : SK) (s : ScoreM) : Tr := mapE (mapL (preP k s ++ [⟨k.key, keyP k s⟩]))
/-- 'FunctionScore'. -/
def fsPairs (qs : List Tr) (fs : List ScoreM) (sets : List SetM) : List SetM :=
  paramsL rsFunctionScore sets ++ [⟨n_functions, listT (fs.map fun s => scoreTr (SK.of s.kind) s)⟩] ++ qryP qs
end Go.Proofs.YtbcnhcpgloncdaaGreatDoor
/- A function_score query: what the builder gives and what the reference says are the same, in plain data. -/
namespace Go.Proofs.YtbcnhcpgloncdaaGreatDoor
open Go Go.RowKit Go.BigFrame Go.Maps

/-- A setting fits the table. -/
def fitR (rs : List (ByteArray × ByteArray)) (s : SetM) : Bool := fitK (kindOf rs s.name) s.val
/-- A score function is as told. -/
def tailB (k : SK) (s : ScoreM) : Bool :=
  match k with
  | .weight => fin s.a
  | .random => s.sets.all (fitR rsRandom) && ((lastOf s.sets n_seed).isSome == !decide (s.field = ⟨#[]⟩)) && (decide (s.field = ⟨#[]⟩) || fieldB s.field)
  | .factor => s.sets.all (fitR rsFactor) && fieldB s.field
  | _ => s.sets.all (fitR rsDecay) && fieldB s.field && (lastOf s.sets n_origin).isSome && (lastOf s.sets n_scale).isSome && s.sets.all decT
def scoreFitB (k : SK) (s : ScoreM) : Bool := decide (s.filters.length ≤ 1) && s.filters.all queryT && tailB k s
theorem fitR_kind {rs : List (ByteArray × ByteArray)} {sets : List SetM} (h : ∀ s ∈ sets, fitR rs s = true) {nm kd : ByteArray} (hk : kindOf rs nm = kd) {t : Tr} (ht : lastOf sets nm = some t) : fitK kd t = true := by
  obtain ⟨s, hs, hn, rfl⟩ := lastOf_of ht
  have := h s hs
  unfold fitR at this
  rw [hn, hk] at this
  exact this
theorem fit_v_scalar {t : Tr} (h : fitK kV t = true) : scalarT t = true := h
theorem fit_n_parts {t : Tr} (h : fitK kN t = true) : t.kind = 2 ∧ scalarT t = true := by
  have e : fitK kN t = (decide (t.kind = 2) && scalarT t) := rfl
  rw [e, Bool.and_eq_true] at h
  exact ⟨by simpa using h.1, h.2⟩
theorem fit_t_parts {t : Tr} (h : fitK kT t = true) : t.kind = 1 ∧ scalarT t = true := by
  have e : fitK kT t = (decide (t.kind = 1) && scalarT t) := rfl
  rw [e, Bool.and_eq_true] at h
  exact ⟨by simpa using h.1, h.2⟩
theorem fit_w_parts {t : Tr} (h : fitK kW t = true) : t.kind = 2 ∧ scalarT t = true ∧ fitW t.num = true := by
  have e : fitK kW t = (decide (t.kind = 2) && scalarT t && fitW t.num) := rfl
  rw [e, Bool.and_eq_true, Bool.and_eq_true] at h
  exact ⟨by simpa using h.1.1, h.1.2, h.2⟩

/-! One entry. -/
section
variable {rs : List (ByteArray × ByteArray)} {sets : List SetM} {nm : ByteArray}
theorem rel_num (h : ∀ s ∈ sets, fitR rs s = true) (hk : kindOf rs nm = kN) : Option.Rel SameT (lookE (numEnt nm (lastOf sets nm)) nm) (lastOf sets nm) := by
  cases e : lastOf sets nm with
  | none => simp only [numEnt, lookE_nil]; exact .none
  | some t =>
    simp only [numEnt, lookE_cons, if_true]
    exact .some (num_same (fitR_kind h hk e))
theorem rel_any (h : ∀ s ∈ sets, fitR rs s = true) (hk : kindOf rs nm = kV) : Option.Rel SameT (lookE (anyEnt nm (lastOf sets nm)) nm) (lastOf sets nm) := by
  cases e : lastOf sets nm with
  | none => simp only [anyEnt, lookE_nil]; exact .none
  | some t =>
    simp only [anyEnt, lookE_cons, if_true]
    exact .some (leaf_same (t := t) (fit_v_scalar (fitR_kind h hk e)))
theorem rel_text (h : ∀ s ∈ sets, fitR rs s = true) (hk : kindOf rs nm = kT) : Option.Rel SameT (lookE (textEnt nm (textLast sets nm)) nm) (lastOf sets nm) := by
  unfold textLast
  cases e : lastOf sets nm with
  | none => simp only [Option.map_none, Option.getD_none, textEnt, if_true, lookE_nil]; exact .none
  | some t =>
    obtain ⟨h1, h2⟩ := text_same (fitR_kind h hk e)
    simp only [Option.map_some, Option.getD_some, textEnt]
    rw [if_neg h2]
    simp only [lookE_cons, if_true]
    exact .some h1
theorem scalar_keys {t : Tr} (h : scalarT t = true) : t.keys = [] ∧ t.kids = [] := by
  unfold scalarT at h
  split at h
  · cases h
  · rename_i hn
    exact ⟨List.eq_nil_of_length_eq_zero (by omega), List.eq_nil_of_length_eq_zero (by omega)⟩
theorem seed_same {t : Tr} (h : fitK kW t = true) : SameT (numT (floatOfInt .f64 (toI t.num))) t := by
  obtain ⟨h2, hs, hw⟩ := fit_w_parts h
  obtain ⟨e1, e2⟩ := scalar_keys hs
  unfold fitW at hw
  rw [Bool.and_eq_true] at hw
  have hr := hw.2
  unfold roundB at hr
  have hf : feq (floatOfInt .f64 (toI t.num)) t.num = true := by
    unfold toI
    cases e : floatToIntVal .f64 t.num .i64 with
    | none => rw [e] at hr; cases hr
    | some n => rw [e] at hr; exact hr
  refine .mk _ _ (by rw [h2]; rfl) (by rw [e1]; rfl) (by rw [e2]; rfl) (fun h => by simp [numT, Tr.kind] at h) (fun _ => hf) (fun h => by simp [numT, Tr.kind] at h) (by simp [numT, Tr.kind]) (fun i a b ha => by simp [numT, Tr.kids] at ha)
theorem rel_seed (h : ∀ s ∈ sets, fitR rs s = true) (hk : kindOf rs nm = kW) : Option.Rel SameT (lookE (seedEnt nm (lastOf sets nm)) nm) (lastOf sets nm) := by
  cases e : lastOf sets nm with
  | none => simp only [seedEnt, lookE_nil]; exact .none
  | some t =>
    simp only [seedEnt, lookE_cons, if_true]
    exact .some (seed_same (fitR_kind h hk e))
end

theorem parts_cases {ess : List (List (ByteArray × Tr))} {ks : List ByteArray} (h : PartsK ess ks) (hn : ks.Nodup) (k : ByteArray) : (k ∉ ks ∧ lookE (ess.flatMap id) k = none) ∨ ∃ (i : Nat) (es : List (ByteArray × Tr)), ess[i]? = some es ∧ ks[i]? = some k ∧ lookE (ess.flatMap id) k = lookE es k := by
  by_cases hk : k ∈ ks
  · right
    obtain ⟨i, hi, rfl⟩ := List.getElem_of_mem hk
    have hl : ess.length = ks.length := by
      clear hn hk hi
      induction h with
      | nil => rfl
      | cons _ _ ih => simp [ih]
    have h1 : ess[i]? = some (ess[i]'(by omega)) := List.getElem?_eq_getElem (by omega)
    have h2 : ks[i]? = some ks[i] := List.getElem?_eq_getElem hi
    exact ⟨i, _, h1, h2, h.at hn i _ _ h1 h2⟩
  · exact .inl ⟨hk, h.none hk⟩

theorem lookE_foldE (es : List (ByteArray × Tr)) (k : ByteArray) : lookE (foldE es) k = (lookE es k).map (foldKid k) := by
  induction es with
  | nil => rfl
  | cons p es ih =>
    have e : foldE (p :: es) = (p.1, foldKid p.1 p.2) :: foldE es := rfl
    rw [e, lookE_cons, lookE_cons, ih]
    by_cases hp : p.1 = k
    · subst hp; simp
    · rw [if_neg hp, if_neg hp]
theorem lookE_scoredE (es : List (ByteArray × Tr)) (k : ByteArray) : lookE (scoredE es) k = if k = n_fvf then (lookE es n_fvf).map (fun f => mapE (foldE (prs f))) else lookE es k := by
  unfold scoredE
  cases e : lookE es n_fvf with
  | none =>
    by_cases hk : k = n_fvf
    · subst hk; simp [e]
    · rw [if_neg hk]
  | some f =>
    simp only [lookE_with]
    by_cases hk : k = n_fvf
    · subst hk; simp
    · rw [if_neg hk, if_neg hk]
theorem asc_scoredE {es : List (ByteArray × Tr)} (h : Asc es) : Asc (scoredE es) := by
  unfold scoredE
  split
  · exact asc_with h
  · exact h
theorem prs_mapTree (ts : List (ByteArray × Tr)) : prs (mapTree ts) = mapTE ts := by rw [mapTree_eq, prs_mapE]

/-! The parts. -/
theorem params_gone {rs : List (ByteArray × ByteArray)} (sets : List SetM) (ks : List ByteArray) (hm : rs.map (·.1) = ks) {k : ByteArray} (h : k ∉ ks) : lastOf (paramsL rs sets) k = none := lastOf_params_none sets (by rw [hm]; exact h)
theorem rsDecay_keys : rsDecay.map (·.1) = [n_origin, n_scale, n_offset, n_decay, n_multi_value_mode, n_weight] := rfl
theorem rsFactor_keys : rsFactor.map (·.1) = [n_factor, n_missing, n_modifier, n_weight] := rfl
theorem rsRandom_keys : rsRandom.map (·.1) = [n_seed, n_weight] := rfl
theorem rsFS_keys : rsFunctionScore.map (·.1) = [n_boost, n_boost_mode, n_max_boost, n_min_score, n_score_mode] := rfl

theorem inner_same {sets : List SetM} (h : ∀ s ∈ sets, fitR rsDecay s = true) : SameT (mapTree (entsTo (decayEnts sets) 4)) (mapE (mapL (pickL (pickL (paramsL rsDecay sets) [n_weight]) [n_multi_value_mode]))) := by
  have hp := decay_parts sets
  have hkn : [n_origin, n_scale, n_decay, n_offset].Nodup := by decide +kernel
  have hnd : ((entsTo (decayEnts sets) 4).map (·.1)).Nodup := hp.nodup hkn
  have hrn : (rsDecay.map (·.1)).Nodup := by decide +kernel
  rw [mapTree_eq]
  refine same_mapE (asc_mapTE hnd) (asc_mapL _) (fun k => ?_)
  rw [lookE_mapTE hnd, lookE_mapL, lastOf_pick, lastOf_pick]
  have e : entsTo (decayEnts sets) 4 = (decayEnts sets).flatMap id := rfl
  rw [e]
  have param : ∀ nm kd, memB nm [n_multi_value_mode] = false → memB nm [n_weight] = false → (nm, kd) ∈ rsDecay → memB kd valueKinds = true →
      (if memB nm [n_multi_value_mode] = true then none else if memB nm [n_weight] = true then none else lastOf (paramsL rsDecay sets) nm) = lastOf sets nm := by
    intro nm kd h1 h2 h3 h4
    rw [h1, h2, lastOf_params sets hrn h3, h4]
    simp
  rcases parts_cases hp hkn k with ⟨hk, e0⟩ | ⟨i, es, h1, h2, e0⟩
  · rw [e0]
    by_cases hm : memB k [n_multi_value_mode] = true
    · rw [if_pos hm]; exact .none
    · by_cases hw : memB k [n_weight] = true
      · rw [if_neg hm, if_pos hw]; exact .none
      · rw [if_neg hm, if_neg hw, params_gone sets _ rsDecay_keys]
        · exact .none
        · rw [memB_iff] at hm hw
          simp only [List.mem_cons, List.not_mem_nil, or_false, not_or] at *
          exact ⟨hk.1, hk.2.1, hk.2.2.2, hk.2.2.1, hm, hw⟩
  · rw [e0]
    match i, h1, h2 with
    | 0, h1, h2 =>
      obtain rfl := Option.some.inj h1
      obtain rfl := Option.some.inj h2
      rw [param n_origin kV (by decide +kernel) (by decide +kernel) (List.mem_of_getElem? (i := 0) rfl) (by decide +kernel)]
      exact rel_any h (by decide +kernel)
    | 1, h1, h2 =>
      obtain rfl := Option.some.inj h1
      obtain rfl := Option.some.inj h2
      rw [param n_scale kV (by decide +kernel) (by decide +kernel) (List.mem_of_getElem? (i := 1) rfl) (by decide +kernel)]
      exact rel_any h (by decide +kernel)
    | 2, h1, h2 =>
      obtain rfl := Option.some.inj h1
      obtain rfl := Option.some.inj h2
      rw [param n_decay kN (by decide +kernel) (by decide +kernel) (List.mem_of_getElem? (i := 3) rfl) (by decide +kernel)]
      exact rel_num h (by decide +kernel)
    | 3, h1, h2 =>
      obtain rfl := Option.some.inj h1
      obtain rfl := Option.some.inj h2
      rw [param n_offset kV (by decide +kernel) (by decide +kernel) (List.mem_of_getElem? (i := 2) rfl) (by decide +kernel)]
      exact rel_any h (by decide +kernel)
    | i + 4, h1, h2 => simp [decayEnts] at h1

theorem decay_same {k : SK} {s : ScoreM} (hk : rsOf k = rsDecay) (h : ∀ x ∈ s.sets, fitR rsDecay x = true) (hf : s.field ≠ n_multi_value_mode) : SameT (decayT s.field s.sets) (mapE (decayP k s)) := by
  have ht := textEnt_keys n_multi_value_mode (textLast s.sets n_multi_value_mode)
  have hnd : (((s.field, mapTree (entsTo (decayEnts s.sets) 4)) :: textEnt n_multi_value_mode (textLast s.sets n_multi_value_mode)).map (·.1)).Nodup := by
    rw [List.map_cons]
    have : (s.field :: (textEnt n_multi_value_mode (textLast s.sets n_multi_value_mode)).map (·.1)).Sublist [s.field, n_multi_value_mode] := List.Sublist.cons_cons _ ht
    exact this.nodup (by simp [hf])
  unfold decayT
  rw [mapTree_eq]
  have hasc : Asc (decayP k s) := by
    unfold decayP
    split
    · exact asc_mapL _
    · exact asc_with (asc_mapL _)
  refine same_mapE (asc_mapTE hnd) hasc (fun key => ?_)
  rw [lookE_mapTE hnd, lookE_cons]
  have hin := inner_same h
  have hr := rel_text (rs := rsDecay) (nm := n_multi_value_mode) h (by decide +kernel)
  have e2 : ownP k s = pickL (paramsL rsDecay s.sets) [n_weight] := by unfold ownP; rw [hk]
  rw [← e2] at hin
  have hl : lookE (decayP k s) key = if key = n_multi_value_mode then lastOf s.sets n_multi_value_mode else if s.field = key then some (mapE (mapL (pickL (ownP k s) [n_multi_value_mode]))) else none := by
    unfold decayP
    cases e : lastOf s.sets n_multi_value_mode with
    | none =>
      simp only [lookE_mapL, lastOf_one]
      by_cases hm : key = n_multi_value_mode
      · rw [if_pos hm, if_neg (by rw [hm]; exact hf)]
      · rw [if_neg hm]
    | some m =>
      simp only [lookE_with, lookE_mapL, lastOf_one]
  rw [hl]
  by_cases hm : key = n_multi_value_mode
  · subst hm
    rw [if_neg hf, if_pos rfl]
    exact hr
  · rw [if_neg hm]
    by_cases hfk : s.field = key
    · rw [if_pos hfk, if_pos hfk]
      exact .some hin
    · rw [if_neg hfk, if_neg hfk, lookE_ent ht (fun e => hm e.symm)]
      exact .none

theorem random_same {s : ScoreM} (h : ∀ x ∈ s.sets, fitR rsRandom x = true) : SameT (randomT s.field s.sets) (mapE (mapL (ownP .random s ++ fieldP s))) := by
  have hp := random_parts s.field s.sets
  have hkn : [n_field, n_seed].Nodup := by decide +kernel
  have hnd : ((entsTo (randomEnts s.field s.sets) 2).map (·.1)).Nodup := hp.nodup hkn
  have hrn : (rsRandom.map (·.1)).Nodup := by decide +kernel
  unfold randomT
  rw [mapTree_eq]
  refine same_mapE (asc_mapTE hnd) (asc_mapL _) (fun k => ?_)
  rw [lookE_mapTE hnd, lookE_mapL, lastOf_append]
  have e : entsTo (randomEnts s.field s.sets) 2 = (randomEnts s.field s.sets).flatMap id := rfl
  have eo : ownP .random s = pickL (paramsL rsRandom s.sets) [n_weight] := rfl
  rw [e, eo, lastOf_pick]
  have hfn : ∀ key, n_field ≠ key → lastOf (fieldP s) key = none := by
    intro key hne
    unfold fieldP
    split
    · rfl
    · rw [lastOf_one, if_neg hne]
  rcases parts_cases hp hkn k with ⟨hk, e0⟩ | ⟨i, es, h1, h2, e0⟩
  · rw [e0]
    simp only [List.mem_cons, List.not_mem_nil, or_false, not_or] at hk
    rw [hfn k (fun e => hk.1 e.symm)]
    by_cases hw : memB k [n_weight] = true
    · rw [if_pos hw]; exact .none
    · rw [if_neg hw, params_gone s.sets _ rsRandom_keys]
      · exact .none
      · rw [memB_iff] at hw
        simp only [List.mem_cons, List.not_mem_nil, or_false, not_or] at *
        exact ⟨hk.2, hw⟩
  · rw [e0]
    match i, h1, h2 with
    | 0, h1, h2 =>
      obtain rfl := Option.some.inj h1
      obtain rfl := Option.some.inj h2
      rw [show memB n_field [n_weight] = false by decide +kernel, params_gone s.sets _ rsRandom_keys (memB_false.1 (by decide +kernel))]
      unfold fieldP textEnt
      by_cases hz : s.field = ⟨#[]⟩
      · rw [if_pos hz, if_pos hz]; exact .none
      · rw [if_neg hz, if_neg hz]
        simp only [lookE_cons, lastOf_one, if_true, Bool.false_eq_true, if_false, Option.or_none]
        exact .some (good_text _).same
    | 1, h1, h2 =>
      obtain rfl := Option.some.inj h1
      obtain rfl := Option.some.inj h2
      rw [show memB n_seed [n_weight] = false by decide +kernel, hfn n_seed (by decide +kernel), lastOf_params s.sets hrn (k := n_seed) (kd := kW) (List.mem_of_getElem? (i := 0) rfl), show memB kW valueKinds = true by decide +kernel]
      simp only [Bool.false_eq_true, if_false, if_true, Option.none_or]
      exact rel_seed h (by decide +kernel)
    | i + 2, h1, h2 => simp [randomEnts] at h1

theorem fold_low (t : Tr) (h : t.kind = 1) : foldKid n_modifier t = textT (lowerB t.text) := by
  unfold foldKid
  rw [if_pos]
  simp [h]
theorem fold_num {k : ByteArray} {t : Tr} (h : t.kind = 2) : foldKid k t = t := by
  unfold foldKid
  rw [if_neg]
  simp [h]
theorem fold_field (t : Tr) : foldKid n_field t = t := by
  unfold foldKid
  rw [if_neg]
  have h1 : Lib.hasSuffix n_field.data.toList [111, 112, 101, 114, 97, 116, 111, 114] = false := by decide +kernel
  have h2 : ¬ n_field = n_modifier := by decide +kernel
  simp [h1, h2]

theorem factor_same {s : ScoreM} (h : ∀ x ∈ s.sets, fitR rsFactor x = true) (hz : s.field ≠ ⟨#[]⟩) : SameT (mapE (foldE (prs (factorT s.field s.sets)))) (mapE (foldE (mapL (ownP .factor s ++ [⟨n_field, textT s.field⟩])))) := by
  have hp := factor_parts s.field s.sets
  have hkn : [n_field, n_factor, n_missing, n_modifier].Nodup := by decide +kernel
  have hnd : ((entsTo (factorEnts s.field s.sets) 4).map (·.1)).Nodup := hp.nodup hkn
  have hrn : (rsFactor.map (·.1)).Nodup := by decide +kernel
  unfold factorT
  rw [prs_mapTree]
  refine same_mapE (asc_foldE (asc_mapTE hnd)) (asc_foldE (asc_mapL _)) (fun k => ?_)
  rw [lookE_foldE, lookE_foldE, lookE_mapTE hnd, lookE_mapL, lastOf_append, lastOf_one]
  have e : entsTo (factorEnts s.field s.sets) 4 = (factorEnts s.field s.sets).flatMap id := rfl
  have eo : ownP .factor s = pickL (paramsL rsFactor s.sets) [n_weight] := rfl
  rw [e, eo, lastOf_pick]
  have param : ∀ nm kd, n_field ≠ nm → memB nm [n_weight] = false → (nm, kd) ∈ rsFactor → memB kd valueKinds = true →
      ((if n_field = nm then some (textT s.field) else none).or (if memB nm [n_weight] = true then none else lastOf (paramsL rsFactor s.sets) nm)) = lastOf s.sets nm := by
    intro nm kd h1 h2 h3 h4
    rw [if_neg h1, h2, lastOf_params s.sets hrn h3, h4]
    simp
  have num : ∀ nm, kindOf rsFactor nm = kN → Option.Rel SameT ((lookE (numEnt nm (lastOf s.sets nm)) nm).map (foldKid nm)) ((lastOf s.sets nm).map (foldKid nm)) := by
    intro nm hk
    cases e : lastOf s.sets nm with
    | none => simp only [numEnt, lookE_nil]; exact .none
    | some t =>
      have hf := fitR_kind h hk e
      simp only [numEnt, lookE_cons, if_true, Option.map_some]
      rw [fold_num (show (numT t.num).kind = 2 from rfl), fold_num (fit_n_parts hf).1]
      exact .some (num_same hf)
  rcases parts_cases hp hkn k with ⟨hk, e0⟩ | ⟨i, es, h1, h2, e0⟩
  · rw [e0]
    simp only [List.mem_cons, List.not_mem_nil, or_false, not_or] at hk
    rw [if_neg (fun e => hk.1 e.symm)]
    by_cases hw : memB k [n_weight] = true
    · rw [if_pos hw]; exact .none
    · rw [if_neg hw, params_gone s.sets _ rsFactor_keys]
      · exact .none
      · rw [memB_iff] at hw
        simp only [List.mem_cons, List.not_mem_nil, or_false, not_or] at *
        exact ⟨hk.2.1, hk.2.2.1, hk.2.2.2, hw⟩
  · rw [e0]
    match i, h1, h2 with
    | 0, h1, h2 =>
      obtain rfl := Option.some.inj h1
      obtain rfl := Option.some.inj h2
      unfold textEnt
      rw [if_neg hz]
      simp only [lookE_cons, if_true, Option.some_or, Option.map_some]
      rw [fold_field]
      exact .some (good_text _).same
    | 1, h1, h2 =>
      obtain rfl := Option.some.inj h1
      obtain rfl := Option.some.inj h2
      rw [param n_factor kN (by decide +kernel) (by decide +kernel) (List.mem_of_getElem? (i := 0) rfl) (by decide +kernel)]
      exact num _ (by decide +kernel)
    | 2, h1, h2 =>
      obtain rfl := Option.some.inj h1
      obtain rfl := Option.some.inj h2
      rw [param n_missing kN (by decide +kernel) (by decide +kernel) (List.mem_of_getElem? (i := 1) rfl) (by decide +kernel)]
      exact num _ (by decide +kernel)
    | 3, h1, h2 =>
      obtain rfl := Option.some.inj h1
      obtain rfl := Option.some.inj h2
      rw [param n_modifier kT (by decide +kernel) (by decide +kernel) (List.mem_of_getElem? (i := 2) rfl) (by decide +kernel)]
      unfold textLast
      cases e : lastOf s.sets n_modifier with
      | none => simp only [Option.map_none, Option.getD_none, lowEnt, if_true, lookE_nil]; exact .none
      | some t =>
        have hf := fitR_kind (nm := n_modifier) h (kd := kT) (by decide +kernel) e
        obtain ⟨h1, h2⟩ := text_same hf
        simp only [Option.map_some, Option.getD_some, lowEnt]
        rw [if_neg h2]
        simp only [lookE_cons, if_true, Option.map_some]
        rw [fold_low _ (show (textT (lowerB t.text)).kind = 1 from rfl), fold_low _ (fit_t_parts hf).1, show (textT (lowerB t.text)).text = lowerB t.text from rfl, lowerB_idem]
        exact .some (good_text _).same
    | i + 4, h1, h2 => simp [factorEnts] at h1
end Go.Proofs.YtbcnhcpgloncdaaGreatDoor
/- A function_score query, read again, is what the reference says. -/
namespace Go.Proofs.YtbcnhcpgloncdaaGreatDoor
open Go Go.RowKit Go.BigFrame Go.Maps

theorem field_nonempty {s : ByteArray} (h : fieldB s = true) : s ≠ ⟨#[]⟩ := by
  intro e
  subst e
  unfold fieldB at h
  rw [if_pos (by decide)] at h
  cases h
theorem field_not7 {s : ByteArray} (h : fieldB s = true) {x : ByteArray} (hx : memB x names7 = true) : s ≠ x := by
  intro e
  subst e
  unfold fieldB at h
  split at h
  · cases h
  · split at h
    · cases h
    · split at h
      · cases h
      · rw [hx] at h; cases h

/-- What a score function that fits has. -/
theorem fit_weight {s : ScoreM} (h : tailB .weight s = true) : fin s.a = true := h
theorem fit_random {s : ScoreM} (h : tailB .random s = true) : (∀ x ∈ s.sets, fitR rsRandom x = true) := by
  unfold tailB at h
  simp only [Bool.and_eq_true] at h
  exact List.all_eq_true.1 h.1.1
theorem fit_factor {s : ScoreM} (h : tailB .factor s = true) : (∀ x ∈ s.sets, fitR rsFactor x = true) ∧ fieldB s.field = true := by
  unfold tailB at h
  simp only [Bool.and_eq_true] at h
  exact ⟨List.all_eq_true.1 h.1, h.2⟩
theorem fit_decay {k : SK} {s : ScoreM} (hk : rsOf k = rsDecay) (h : tailB k s = true) : (∀ x ∈ s.sets, fitR rsDecay x = true) ∧ fieldB s.field = true ∧ (lastOf s.sets n_origin).isSome = true ∧ (lastOf s.sets n_scale).isSome = true ∧ s.sets.all decT = true := by
  have h' : (s.sets.all (fitR rsDecay) && fieldB s.field && (lastOf s.sets n_origin).isSome && (lastOf s.sets n_scale).isSome && s.sets.all decT) = true := by
    cases k with
    | weight => exact absurd (congrArg List.length hk) (by decide)
    | factor => exact absurd (congrArg List.length hk) (by decide)
    | random => exact absurd (congrArg List.length hk) (by decide)
    | exponential => exact h
    | gauss => exact h
    | linear => exact h
  simp only [Bool.and_eq_true] at h'
  exact ⟨List.all_eq_true.1 h'.1.1.1.1, h'.1.1.1.2, h'.1.1.2, h'.1.2, h'.2⟩
theorem fit_sets {k : SK} {s : ScoreM} (hk : k ≠ .weight) (h : tailB k s = true) : ∀ x ∈ s.sets, fitR (rsOf k) x = true := by
  cases k with
  | weight => exact absurd rfl hk
  | factor => exact (fit_factor h).1
  | random => exact fit_random h
  | exponential => exact (fit_decay rfl h).1
  | gauss => exact (fit_decay rfl h).1
  | linear => exact (fit_decay rfl h).1

theorem num_self {x : Nat} (h : fin x = true) : SameT (numT x) (numT x) := (good_num (feq_fin h)).same

/-- What stands under the function's own name. -/
theorem val_same (k : SK) (s : ScoreM) (h : tailB k s = true) : SameT (if k.key = n_fvf then mapE (foldE (prs (srcT k s))) else srcT k s) (keyP k s) := by
  cases k with
  | weight =>
    rw [if_neg (by decide +kernel)]
    exact num_self (fit_weight h)
  | factor =>
    rw [if_pos (by decide +kernel)]
    obtain ⟨h1, h2⟩ := fit_factor h
    exact factor_same h1 (field_nonempty h2)
  | random =>
    rw [if_neg (by decide +kernel)]
    exact random_same (fit_random h)
  | exponential =>
    rw [if_neg (by decide +kernel)]
    obtain ⟨h1, h2, _⟩ := fit_decay rfl h
    exact decay_same rfl h1 (field_not7 h2 (by decide +kernel))
  | gauss =>
    rw [if_neg (by decide +kernel)]
    obtain ⟨h1, h2, _⟩ := fit_decay rfl h
    exact decay_same rfl h1 (field_not7 h2 (by decide +kernel))
  | linear =>
    rw [if_neg (by decide +kernel)]
    obtain ⟨h1, h2, _⟩ := fit_decay rfl h
    exact decay_same rfl h1 (field_not7 h2 (by decide +kernel))
theorem key_filter (k : SK) : k.key ≠ n_filter' := by cases k <;> decide +kernel
theorem key_weight {k : SK} (hk : k ≠ .weight) : k.key ≠ n_weight := by
  cases k with
  | weight => exact absurd rfl hk
  | _ => decide +kernel
theorem weight_kind {k : SK} (hk : k ≠ .weight) : kindOf (rsOf k) n_weight = kN := by
  cases k with
  | weight => exact absurd rfl hk
  | _ => decide +kernel

/-- What stands ahead of it. -/
theorem pre_rel (k : SK) (s : ScoreM) (h : scoreFitB k s = true) {key : ByteArray} (hkey : k.key ≠ key) : Option.Rel SameT (lookE (oneEnt n_filter' s.filters ++ preW k s) key) (lastOf (preP k s) key) := by
  unfold scoreFitB at h
  rw [Bool.and_eq_true, Bool.and_eq_true] at h
  obtain ⟨⟨hfl, hfq⟩, ht⟩ := h
  have hw : Option.Rel SameT (lookE (preW k s) key) (lastOf (wtP k (lastOf s.sets n_weight)) key) := by
    have hgen : ∀ o : Option Tr, (∀ t, o = some t → SameT (numT t.num) t) → Option.Rel SameT (lookE (weightEnt (o.map Tr.num)) key) (lastOf (wtO o) key) := by
      intro o ho
      cases o with
      | none => simp only [Option.map_none, weightEnt, wtO, lookE_nil, lastOf_nil]; exact .none
      | some t =>
        simp only [Option.map_some, weightEnt, wtO, lookE_cons, lookE_nil, lastOf_one]
        by_cases hk : n_weight = key
        · rw [if_pos hk, if_pos hk]; exact .some (ho t rfl)
        · rw [if_neg hk, if_neg hk]; exact .none
    by_cases hk : k = .weight
    · subst hk
      exact .none
    · have ho : ∀ t, lastOf s.sets n_weight = some t → SameT (numT t.num) t := fun t ht' => num_same (fitR_kind (fit_sets hk ht) (weight_kind hk) ht')
      have := hgen _ ho
      cases k with
      | weight => exact absurd rfl hk
      | _ => exact this
  have hf : Option.Rel SameT (lookE (oneEnt n_filter' s.filters) key) (lastOf (filP s.filters) key) := by
    cases e : s.filters with
    | nil => exact .none
    | cons t rest =>
      simp only [oneEnt, filP, lookE_cons, lookE_nil, lastOf_one]
      by_cases hk : n_filter' = key
      · rw [if_pos hk, if_pos hk]
        have hq := List.all_eq_true.1 hfq t (by rw [e]; simp)
        unfold queryT at hq
        rw [Bool.and_eq_true] at hq
        exact .some (norm_same 100 hq.2)
      · rw [if_neg hk, if_neg hk]; exact .none
  unfold preP
  rw [lookE_append, lastOf_append]
  by_cases hk : n_weight = key
  · have h1 : lookE (oneEnt n_filter' s.filters) key = none := lookE_ent (oneEnt_keys _ _) (by rw [← hk]; decide +kernel)
    rw [h1] at hf ⊢
    have h2 : lastOf (filP s.filters) key = none := by
      generalize lastOf (filP s.filters) key = o at hf
      cases hf; rfl
    rw [h2, Option.none_or, Option.or_none]
    exact hw
  · have h1 : lookE (preW k s) key = none := by
      have : ∀ o, lookE (weightEnt o) key = none := fun o => lookE_ent (weightEnt_keys o) hk
      unfold preW
      cases k with
      | weight => rfl
      | _ => exact this _
    rw [h1] at hw ⊢
    have h2 : lastOf (wtP k (lastOf s.sets n_weight)) key = none := by
      generalize lastOf (wtP k (lastOf s.sets n_weight)) key = o at hw
      cases hw; rfl
    rw [h2, Option.none_or, Option.or_none]
    exact hf

theorem item_same (k : SK) (s : ScoreM) (h : scoreFitB k s = true) : SameT (mapE (scoredE (prs (mapTree (itemEnts k s))))) (scoreTr k s) := by
  have hnd := item_nodup k s
  have ht : tailB k s = true := by
    unfold scoreFitB at h
    rw [Bool.and_eq_true] at h
    exact h.2
  unfold scoreTr
  rw [prs_mapTree]
  refine same_mapE (asc_scoredE (asc_mapTE hnd)) (asc_mapL _) (fun key => ?_)
  rw [lookE_scoredE, lookE_mapTE hnd, lookE_mapTE hnd, lookE_mapL, lastOf_append, lastOf_one]
  have hl : ∀ x, lookE (itemEnts k s) x = if k.key = x then some (srcT k s) else lookE (oneEnt n_filter' s.filters ++ preW k s) x := by
    intro x
    unfold itemEnts
    rw [lookE_append, lookE_cons, lookE_nil]
    by_cases hx : k.key = x
    · rw [if_pos hx, if_pos hx]
      have h1 : lookE (oneEnt n_filter' s.filters) x = none := lookE_ent (oneEnt_keys _ _) (by rw [← hx]; exact fun e => key_filter k e.symm)
      have h2 : lookE (preW k s) x = none := by
        by_cases hk : k = .weight
        · subst hk; rfl
        · have : ∀ o, lookE (weightEnt o) x = none := fun o => lookE_ent (weightEnt_keys o) (by rw [← hx]; exact fun e => key_weight hk e.symm)
          unfold preW
          cases k with
          | weight => rfl
          | _ => exact this _
      rw [lookE_append, h1, h2]
      rfl
    · rw [if_neg hx, if_neg hx, Option.or_none]
  have hv := val_same k s ht
  by_cases hx : k.key = key
  · rw [if_pos hx, Option.some_or, hl, hl, if_pos hx]
    by_cases hf : key = n_fvf
    · rw [if_pos hf]
      rw [if_pos (hx.trans hf), Option.map_some]
      rw [if_pos (hx.trans hf)] at hv
      exact .some hv
    · rw [if_neg hf]
      rw [if_neg (fun e => hf (hx.symm.trans e))] at hv
      exact .some hv
  · rw [if_neg hx, Option.none_or, hl key, if_neg hx]
    have hp := pre_rel k s h hx
    by_cases hf : key = n_fvf
    · rw [if_pos hf]
      subst hf
      rw [hl, if_neg hx]
      have h1 : lookE (oneEnt n_filter' s.filters ++ preW k s) n_fvf = none := by
        have hw : lookE (preW k s) n_fvf = none := by
          have : ∀ o, lookE (weightEnt o) n_fvf = none := fun o => lookE_ent (weightEnt_keys o) (by decide +kernel)
          unfold preW
          cases k with
          | weight => rfl
          | _ => exact this _
        rw [lookE_append, lookE_ent (oneEnt_keys _ _) (by decide +kernel), hw]
        rfl
      rw [h1] at hp ⊢
      exact hp
    · rw [if_neg hf]
      exact hp

theorem lists_same {α : Type} (l : List α) (f g : α → Tr) (h : ∀ x ∈ l, SameT (f x) (g x)) : SameT (listT (l.map f)) (listT (l.map g)) := by
  refine .mk _ _ rfl rfl (by simp [listT, Tr.kids]) (fun h => by simp [listT, Tr.kind] at h) (fun h => by simp [listT, Tr.kind] at h) (fun h => by simp [listT, Tr.kind] at h) (by simp [listT, Tr.kind]) ?_
  intro i a b ha hb
  simp only [listT, Tr.kids] at ha hb
  rw [List.getElem?_map] at ha hb
  cases e : l[i]? with
  | none => rw [e] at ha; cases ha
  | some x =>
    rw [e] at ha hb
    simp only [Option.map_some, Option.some.injEq] at ha hb
    subst ha hb
    exact h x (List.mem_of_getElem? e)

/-- 'ReadFunctions' of what the builder gives. -/
def fsE (qs : List Tr) (fs : List ScoreM) (sets : List SetM) : List (ByteArray × Tr) := besideE [n_functions] (mapTE (entsTo (scoreEnts qs fs sets) 8))
def fsOut (fs : List ScoreM) : Tr := listT ((fs.map funT).map fun t => mapE (scoredE (prs t)))
def fsRead (qs : List Tr) (fs : List ScoreM) (sets : List SetM) : Tr := mapT [n_function_score] [mapE (withE n_functions (fsOut fs) false (fsE qs fs sets))]

theorem nodup_mapTE {ts : List (ByteArray × Tr)} (h : (ts.map (·.1)).Nodup) : ((mapTE ts).map (·.1)).Nodup := by
  have := asc_mapTE h
  unfold Asc at this
  rw [← List.pairwise_map (f := fun p : ByteArray × Tr => p.1) (R := fun a b => strLt a b = true)] at this
  rw [List.nodup_iff_pairwise_ne]
  exact this.imp (fun {a b} hab e => by rw [e, strLt_irrefl] at hab; cases hab)
theorem score_nodup (qs : List Tr) (fs : List ScoreM) (sets : List SetM) : ((entsTo (scoreEnts qs fs sets) 8).map (·.1)).Nodup := (score_parts qs fs sets).nodup keysFS_nodup
theorem lookE_fsE (qs : List Tr) (fs : List ScoreM) (sets : List SetM) (k : ByteArray) : lookE (fsE qs fs sets) k = (lookE ((scoreEnts qs fs sets).flatMap id) k).bind (besideKid [n_functions] k) := by
  unfold fsE
  rw [lookE_besideE _ (nodup_mapTE (score_nodup qs fs sets)), lookE_mapTE (score_nodup qs fs sets)]
  rfl
theorem beside_one {k : ByteArray} (hk : memB k [n_functions] = false) {t : Tr} (h0 : t.kind ≠ 0) : besideKid [n_functions] k t = some t := by
  unfold besideKid
  rw [hk]
  simp [h0]

theorem fs_same {qs : List Tr} {fs : List ScoreM} {sets : List SetM} (hq : ∀ t ∈ qs, queryT t = true) (hfs : ∀ s ∈ fs, scoreFitB (SK.of s.kind) s = true) (hsets : ∀ s ∈ sets, fitR rsFunctionScore s = true) :
    SameT (fsRead qs fs sets) (besideT n_function_score (fsPairs qs fs sets)) := by
  have hrn : (rsFunctionScore.map (·.1)).Nodup := by decide +kernel
  unfold fsRead besideT
  refine .mk _ _ rfl rfl rfl (fun h => by simp [mapT, Tr.kind] at h) (fun h => by simp [mapT, Tr.kind] at h) (fun h => by simp [mapT, Tr.kind] at h) (by simp [mapT, Tr.kind]) ?_
  intro i a b ha hb
  have hi : i = 0 := by
    have := (List.getElem?_eq_some_iff.1 ha).1
    simpa [mapT, Tr.kids] using this
  subst hi
  simp [mapT, Tr.kids] at ha hb
  subst ha hb
  refine same_mapE (asc_with (asc_besideE _ _)) (asc_mapL _) (fun k => ?_)
  have hasc : lookE (withE n_functions (fsOut fs) false (fsE qs fs sets)) k = if k = n_functions then some (fsOut fs) else lookE (fsE qs fs sets) k := lookE_with _ _ _ _
  rw [hasc, lookE_mapL]
  unfold fsPairs
  have hqp : lastOf (qryP qs) k = if n_query = k then qs.head? else none := by
    cases qs with
    | nil => simp [qryP, lastOf_nil]
    | cons t r => simp only [qryP, lastOf_one, List.head?_cons]
  have hfn : lastOf [(⟨n_functions, listT (fs.map fun s => scoreTr (SK.of s.kind) s)⟩ : SetM)] k = if n_functions = k then some (listT (fs.map fun s => scoreTr (SK.of s.kind) s)) else none := lastOf_one _ _
  rw [lastOf_append, lastOf_append, hfn, hqp]
  by_cases hkf : k = n_functions
  · subst hkf
    rw [if_pos rfl, if_neg (by decide +kernel), if_pos rfl, Option.none_or, Option.some_or]
    refine .some ?_
    unfold fsOut
    rw [List.map_map]
    refine lists_same fs _ _ (fun s hs => ?_)
    exact item_same (SK.of s.kind) s (hfs s hs)
  · rw [if_neg hkf, if_neg (show ¬ n_functions = k from fun e => hkf e.symm), Option.none_or, lookE_fsE]
    have hm : memB k [n_functions] = false := memB_false.2 (by simpa using hkf)
    have num : ∀ nm, nm ≠ n_functions → n_query ≠ nm → (nm, kN) ∈ rsFunctionScore → kindOf rsFunctionScore nm = kN → Option.Rel SameT ((lookE (numEnt nm (lastOf sets nm)) nm).bind (besideKid [n_functions] nm)) ((if n_query = nm then qs.head? else none).or (lastOf (paramsL rsFunctionScore sets) nm)) := by
      intro nm h1 h2 h3 h4
      rw [if_neg h2, Option.none_or, lastOf_params sets hrn h3, show memB kN valueKinds = true by decide +kernel]
      simp only [if_true]
      have hr := rel_num hsets h4
      cases e : lastOf sets nm with
      | none => simp only [numEnt, lookE_nil]; exact .none
      | some t =>
        rw [e] at hr
        simp only [numEnt, lookE_cons, if_true, Option.bind_some] at hr ⊢
        rw [beside_one (memB_false.2 (by simpa using h1)) (by simp [numT, Tr.kind])]
        exact hr
    have text : ∀ nm, nm ≠ n_functions → n_query ≠ nm → (nm, kT) ∈ rsFunctionScore → kindOf rsFunctionScore nm = kT → Option.Rel SameT ((lookE (textEnt nm (textLast sets nm)) nm).bind (besideKid [n_functions] nm)) ((if n_query = nm then qs.head? else none).or (lastOf (paramsL rsFunctionScore sets) nm)) := by
      intro nm h1 h2 h3 h4
      rw [if_neg h2, Option.none_or, lastOf_params sets hrn h3, show memB kT valueKinds = true by decide +kernel]
      simp only [if_true]
      have hr := rel_text hsets h4
      unfold textLast at hr ⊢
      cases e : lastOf sets nm with
      | none => simp only [Option.map_none, Option.getD_none, textEnt, if_true, lookE_nil]; exact .none
      | some t =>
        obtain ⟨h5, h6⟩ := text_same (fitR_kind hsets h4 e)
        simp only [Option.map_some, Option.getD_some, textEnt]
        rw [if_neg h6]
        simp only [lookE_cons, if_true, Option.bind_some]
        rw [beside_one (memB_false.2 (by simpa using h1)) (by simp [textT, Tr.kind])]
        exact .some h5
    rcases parts_cases (score_parts qs fs sets) keysFS_nodup k with ⟨hk, e0⟩ | ⟨i, es, h1, h2, e0⟩
    · rw [e0]
      simp only [keysFS, List.mem_cons, List.not_mem_nil, or_false, not_or] at hk
      obtain ⟨a1, a2, a3, a4, a5, a6, a7, a8⟩ := hk
      rw [if_neg (fun e => a1 e.symm), Option.none_or, params_gone sets _ rsFS_keys]
      · exact .none
      · simp only [List.mem_cons, List.not_mem_nil, or_false, not_or]
        exact ⟨a7, a5, a6, a8, a4⟩
    · rw [e0]
      match i, h1, h2 with
      | 0, h1, h2 =>
        obtain rfl := Option.some.inj h1
        obtain rfl := Option.some.inj h2
        rw [if_pos rfl, params_gone sets _ rsFS_keys (memB_false.1 (by decide +kernel)), Option.or_none]
        cases e : qs with
        | nil => exact .none
        | cons t r =>
          simp only [oneEnt, lookE_cons, if_true, Option.bind_some, List.head?_cons]
          have hqt := hq t (by rw [e]; simp)
          unfold queryT at hqt
          rw [Bool.and_eq_true] at hqt
          rw [beside_one (by decide +kernel) (by rw [norm_kind hqt.2]; exact proper_kind hqt.2)]
          exact .some (norm_same 100 hqt.2)
      | 1, h1, h2 =>
        obtain rfl := Option.some.inj h1
        obtain rfl := Option.some.inj h2
        rw [if_neg (by decide +kernel), params_gone sets _ rsFS_keys (memB_false.1 (by decide +kernel))]
        exact .none
      | 2, h1, h2 => exact absurd (Option.some.inj h2).symm hkf
      | 3, h1, h2 =>
        obtain rfl := Option.some.inj h1
        obtain rfl := Option.some.inj h2
        exact text _ (by decide +kernel) (by decide +kernel) (List.mem_of_getElem? (i := 4) rfl) (by decide +kernel)
      | 4, h1, h2 =>
        obtain rfl := Option.some.inj h1
        obtain rfl := Option.some.inj h2
        exact text _ (by decide +kernel) (by decide +kernel) (List.mem_of_getElem? (i := 1) rfl) (by decide +kernel)
      | 5, h1, h2 =>
        obtain rfl := Option.some.inj h1
        obtain rfl := Option.some.inj h2
        exact num _ (by decide +kernel) (by decide +kernel) (List.mem_of_getElem? (i := 2) rfl) (by decide +kernel)
      | 6, h1, h2 =>
        obtain rfl := Option.some.inj h1
        obtain rfl := Option.some.inj h2
        exact num _ (by decide +kernel) (by decide +kernel) (List.mem_of_getElem? (i := 0) rfl) (by decide +kernel)
      | 7, h1, h2 =>
        obtain rfl := Option.some.inj h1
        obtain rfl := Option.some.inj h2
        exact num _ (by decide +kernel) (by decide +kernel) (List.mem_of_getElem? (i := 3) rfl) (by decide +kernel)
      | i + 8, h1, h2 => simp [scoreEnts] at h1
end Go.Proofs.YtbcnhcpgloncdaaGreatDoor
/- What score functions that fit are: that they can be told, and what their 'Source' asks. -/
namespace Go.Proofs.YtbcnhcpgloncdaaGreatDoor
open Go Go.RowKit Go.BigFrame Go.Maps

theorem order_fin {x : Nat} (h : fin x = true) : (FloatKind.f64.format.order x 0 == some .lt) = true ∨ (FloatKind.f64.format.order x 0 == some .eq) = true ∨ (FloatKind.f64.format.order x 0 == some .gt) = true := by
  have e : FloatKind.f64.format = Ieee.double := rfl
  unfold fin at h
  unfold Ieee.Format.order
  rw [e]
  split at h
  · rename_i s m i he
    rw [he, show Ieee.double.read 0 = .number false 0 (-1074) by decide]
    simp only [Ieee.Datum.order]
    generalize (compare (Ieee.signed s m (i - min i (-1074)).toNat) (Ieee.signed false 0 (-1074 - min i (-1074)).toNat)) = c
    cases c
    · exact .inl rfl
    · exact .inr (.inl rfl)
    · exact .inr (.inr rfl)
  · cases h
theorem scalar_leaf {t : Tr} (h : scalarT t = true) : isLeaf t := by
  unfold scalarT at h
  unfold isLeaf
  split at h
  · cases h
  · split at h
    · rename_i h1; exact .inl h1
    · split at h
      · rename_i h2; exact .inr (.inl h2)
      · exact .inr (.inr (by simpa using h))
theorem scalar_fin {t : Tr} (h : scalarT t = true) (h2 : t.kind = 2) : fin t.num = true := by
  unfold scalarT at h
  split at h
  · cases h
  · simpa [h2] using h
theorem fitR_name {rs : List (ByteArray × ByteArray)} {s : SetM} (h : fitR rs s = true) : s.name ∈ rs.map (·.1) := by
  have hne : kindOf rs s.name ≠ ⟨#[]⟩ := by
    intro e
    unfold fitR at h
    rw [e] at h
    have : fitK ⟨#[]⟩ s.val = false := rfl
    rw [this] at h
    cases h
  obtain ⟨r, hr, h1, _⟩ := kindOf_name hne
  exact List.mem_map.2 ⟨r, hr, h1⟩
theorem fitR_at {rs : List (ByteArray × ByteArray)} {s : SetM} (h : fitR rs s = true) {nm kd : ByteArray} (hn : s.name = nm) (hk : kindOf rs nm = kd) : fitK kd s.val = true := by
  unfold fitR at h
  rw [hn, hk] at h
  exact h
theorem decay_leaf {s : SetM} (h : fitR rsDecay s = true) (hn : s.name = n_origin ∨ s.name = n_scale ∨ s.name = n_offset) : scalarT s.val = true := by
  rcases hn with e | e | e
  · exact fit_v_scalar (fitR_at h e (by decide +kernel))
  · exact fit_v_scalar (fitR_at h e (by decide +kernel))
  · exact fit_v_scalar (fitR_at h e (by decide +kernel))

theorem decay_ok {k : SK} {s : ScoreM} (hk : rsOf k = rsDecay) (h : tailB k s = true) : (∀ x ∈ s.sets, x.name ∈ namesDecay) ∧ ∀ x ∈ s.sets, x.name = n_origin ∨ x.name = n_scale ∨ x.name = n_offset → isLeaf x.val := by
  obtain ⟨h1, _⟩ := fit_decay hk h
  exact ⟨fun x hx => fitR_name (h1 x hx), fun x hx hn => scalar_leaf (decay_leaf (h1 x hx) hn)⟩
theorem kind_ok {k : SK} {s : ScoreM} (h : tailB k s = true) : k.ok s.sets := by
  cases k with
  | weight => exact trivial
  | factor => exact fun x hx => fitR_name ((fit_factor h).1 x hx)
  | random =>
    refine ⟨fun x hx => fitR_name (fit_random h x hx), fun x hx hn => ?_⟩
    have := (fit_w_parts (fitR_at (fit_random h x hx) hn (kd := kW) (by decide +kernel))).2.2
    unfold fitW at this
    rw [Bool.and_eq_true, Bool.and_eq_true] at this
    exact fitW_int this.1.1 this.1.2
  | exponential => exact decay_ok rfl h
  | gauss => exact decay_ok rfl h
  | linear => exact decay_ok rfl h
theorem good_of_fit {k : SK} {s : ScoreM} (hk : s.kind = k.num) (h : scoreFitB k s = true) (hl : s.sets.length ≤ 1048576) : s.good := by
  unfold scoreFitB at h
  rw [Bool.and_eq_true, Bool.and_eq_true] at h
  exact ⟨k, hk, kind_ok h.2, hl, by simpa using h.1.1⟩

theorem decay_src {k : SK} {s : ScoreM} (hk : rsOf k = rsDecay) (h : tailB k s = true) : s.field ≠ n_multi_value_mode ∧ (∀ x ∈ s.sets, x.name ∈ [n_origin, n_scale, n_offset] → scalarT x.val = true) ∧ (lastOf s.sets n_scale).isSome = true ∧ ∀ t, lastOf s.sets n_decay = some t → (FloatKind.f64.format.order t.num 0 == some .gt) = true := by
  obtain ⟨h1, h2, _, h4, h5⟩ := fit_decay hk h
  refine ⟨field_not7 h2 (by decide +kernel), fun x hx hn => decay_leaf (h1 x hx) (by simpa using hn), h4, fun t ht => ?_⟩
  have hf := fit_n_parts (fitR_kind (kd := kN) h1 (by decide +kernel) ht)
  obtain ⟨x, hx, hn, rfl⟩ := lastOf_of ht
  have hd := List.all_eq_true.1 h5 x hx
  unfold decT at hd
  rw [hn] at hd
  simp only [decide_true, Bool.true_and, Bool.not_eq_true', Bool.or_eq_false_iff] at hd
  rcases order_fin (scalar_fin hf.2 hf.1) with e | e | e
  · rw [e] at hd; exact absurd hd.1.1 (by simp)
  · rw [e] at hd; exact absurd hd.1.2 (by simp)
  · exact e
theorem src_of_fit {k : SK} {s : ScoreM} (h : scoreFitB k s = true) (hf : s.field.size ≤ 9223372036854775807) (ht : ∀ x ∈ s.sets, x.val.text.size ≤ 1048576) : SrcOK k s := by
  have ht' : tailB k s = true := by
    unfold scoreFitB at h
    rw [Bool.and_eq_true] at h
    exact h.2
  refine ⟨hf, fun x hx => Nat.le_trans (ht x hx) (by omega), ?_⟩
  cases k with
  | weight => exact trivial
  | random => exact trivial
  | factor =>
    show (textLast s.sets n_modifier).size ≤ 1048576
    unfold textLast
    cases e : lastOf s.sets n_modifier with
    | none => decide
    | some t =>
      obtain ⟨x, hx, _, rfl⟩ := lastOf_of e
      exact ht x hx
  | exponential => exact decay_src rfl ht'
  | gauss => exact decay_src rfl ht'
  | linear => exact decay_src rfl ht'

/-- What 'scored' asks of the factor's map. -/
theorem factor_read {k : SK} {s : ScoreM} (hf : s.field.size ≤ 1048576) (ht : ∀ x ∈ s.sets, x.val.text.size ≤ 1048576) {f : Tr} (h : lookE (mapTE (itemEnts k s)) n_fvf = some f) :
    f = mapE (prs f) ∧ Asc (prs f) ∧ (prs f).length ≤ 100000000 ∧ (∀ p ∈ prs f, p.2.kind ≠ 5) ∧ (∀ p ∈ prs f, p.1.size ≤ 9223372036854775807) ∧ ∀ p ∈ prs f, p.2.text.size ≤ 16777216 := by
  have hm := lookE_mem h
  have hm := mem_mapTE (item_nodup k s) hm
  unfold itemEnts at hm
  have hk : k = .factor ∧ f = factorT s.field s.sets := by
    rcases List.mem_append.1 hm with hm | hm
    · exfalso
      rcases List.mem_append.1 hm with hm | hm
      · have := (oneEnt_keys n_filter' s.filters).subset (List.mem_map.2 ⟨_, hm, rfl⟩)
        simp only [List.mem_singleton] at this
        exact absurd this (by decide +kernel)
      · have hw : ∀ o : Option Nat, (n_fvf, f) ∈ weightEnt o → False := by
          intro o ho
          have := (weightEnt_keys o).subset (List.mem_map.2 ⟨_, ho, rfl⟩)
          simp only [List.mem_singleton] at this
          exact absurd this (by decide +kernel)
        unfold preW at hm
        cases k with
        | weight => cases hm
        | _ => exact hw _ hm
    · simp only [List.mem_singleton, Prod.mk.injEq] at hm
      obtain ⟨h1, h2⟩ := hm
      cases k with
      | factor => exact ⟨rfl, h2⟩
      | _ => exact absurd h1 (by decide +kernel)
  obtain ⟨rfl, rfl⟩ := hk
  have hp := factor_parts s.field s.sets
  have hkn : [n_field, n_factor, n_missing, n_modifier].Nodup := by decide +kernel
  have hnd : ((entsTo (factorEnts s.field s.sets) 4).map (·.1)).Nodup := hp.nodup hkn
  have hlen : (entsTo (factorEnts s.field s.sets) 4).length ≤ 4 := hp.length
  have hkeys : ∀ p ∈ entsTo (factorEnts s.field s.sets) 4, p.1 ∈ [n_field, n_factor, n_missing, n_modifier] := fun p hp' => hp.keys.subset (List.mem_map.2 ⟨p, hp', rfl⟩)
  have hm4 : (textLast s.sets n_modifier).size ≤ 1048576 := by
    unfold textLast
    cases e : lastOf s.sets n_modifier with
    | none => decide
    | some t =>
      obtain ⟨x, hx, _, rfl⟩ := lastOf_of e
      exact ht x hx
  have hleaf : ∀ p ∈ entsTo (factorEnts s.field s.sets) 4, p.2.kind ≠ 5 ∧ p.2.text.size ≤ 16777216 := by
    intro p hp'
    have htx : ∀ key z, z.size ≤ 1048576 → p ∈ textEnt key z → p.2.kind ≠ 5 ∧ p.2.text.size ≤ 16777216 := by
      intro key z hz h
      unfold textEnt at h
      split at h
      · cases h
      · simp only [List.mem_singleton] at h; subst h
        exact ⟨by simp [textT, Tr.kind], by simp only [textT, Tr.text]; omega⟩
    have hnm : ∀ key o, p ∈ numEnt key o → p.2.kind ≠ 5 ∧ p.2.text.size ≤ 16777216 := by
      intro key o h
      cases o with
      | none => cases h
      | some t => simp only [numEnt, List.mem_singleton] at h; subst h; exact ⟨by simp [numT, Tr.kind], by simp only [numT, Tr.text]; decide⟩
    have hlo : ∀ key z, z.size ≤ 1048576 → p ∈ lowEnt key z → p.2.kind ≠ 5 ∧ p.2.text.size ≤ 16777216 := by
      intro key z hz h
      unfold lowEnt at h
      split at h
      · cases h
      · simp only [List.mem_singleton] at h; subst h
        have := lowerB_size z
        exact ⟨by simp [textT, Tr.kind], by simp only [textT, Tr.text]; omega⟩
    unfold entsTo factorEnts at hp'
    simp only [List.take_succ_cons, List.take_zero, List.flatMap_cons, List.flatMap_nil, id, List.append_nil, List.mem_append] at hp'
    rcases hp' with h | h | h | h
    · exact htx _ _ hf h
    · exact hnm _ _ h
    · exact hnm _ _ h
    · exact hlo _ _ hm4 h
  unfold factorT
  rw [prs_mapTree]
  refine ⟨mapTree_eq _, asc_mapTE hnd, by rw [mapTE_length]; omega, fun p hp' => (hleaf p (mem_mapTE hnd hp')).1, fun p hp' => ?_, fun p hp' => (hleaf p (mem_mapTE hnd hp')).2⟩
  have := hkeys p (mem_mapTE hnd hp')
  simp only [List.mem_cons, List.not_mem_nil, or_false] at this
  rcases this with e | e | e | e <;> rw [e] <;> decide
end Go.Proofs.YtbcnhcpgloncdaaGreatDoor
