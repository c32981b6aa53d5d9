/- A bool query: what the builder gives and what the reference says are the same, in plain data. -/
import Derived.Test.YtbcnhcpgloncdaaGreatDoorQIf
namespace Go.Proofs.YtbcnhcpgloncdaaGreatDoor
open Go Go.RowKit Go.Maps Go.Sort

def n_bool : ByteArray := ⟨#[98, 111, 111, 108]⟩
def n_must : ByteArray := ⟨#[109, 117, 115, 116]⟩
def n_must_not : ByteArray := ⟨#[109, 117, 115, 116, 95, 110, 111, 116]⟩
def n_should : ByteArray := ⟨#[115, 104, 111, 117, 108, 100]⟩
def n_filter : ByteArray := ⟨#[102, 105, 108, 116, 101, 114]⟩
def n_adjust_pure_negative : ByteArray := ⟨#[97, 100, 106, 117, 115, 116, 95, 112, 117, 114, 101, 95, 110, 101, 103, 97, 116, 105, 118, 101]⟩
def n_minimum_number_should_match : ByteArray := ⟨#[109, 105, 110, 105, 109, 117, 109, 95, 110, 117, 109, 98, 101, 114, 95, 115, 104, 111, 117, 108, 100, 95, 109, 97, 116, 99, 104]⟩
def placesB : List ByteArray := [n_must, n_must_not, n_should, n_filter]

/-- What is under a name, read as a list where it is one, left out where it is nothing. -/
def besideKid (lists : List ByteArray) (k : ByteArray) (t : Tr) : Option Tr :=
  let u := if memB k lists && !(decide (t.kind = 4)) && !(decide (t.kind = 0)) then listT [t] else t
  if u.kind = 0 ∨ (memB k lists = true ∧ u.kids.length = 0) then none else some u
def besideE (lists : List ByteArray) (X : List (ByteArray × Tr)) : List (ByteArray × Tr) :=
  X.foldl (fun out p => match besideKid lists p.1 p.2 with | some u => withE p.1 u false out | none => out) []

theorem asc_beside_go (lists : List ByteArray) (X out : List (ByteArray × Tr)) (h : Asc out) : Asc (X.foldl (fun out p => match besideKid lists p.1 p.2 with | some u => withE p.1 u false out | none => out) out) := by
  induction X generalizing out with
  | nil => exact h
  | cons p X ih =>
    rw [List.foldl_cons]
    apply ih
    split
    · exact asc_with h
    · exact h
theorem asc_besideE (lists : List ByteArray) (X : List (ByteArray × Tr)) : Asc (besideE lists X) := asc_beside_go lists X [] List.Pairwise.nil
theorem lookE_beside_go (lists : List ByteArray) (X out : List (ByteArray × Tr)) (hn : (X.map (·.1)).Nodup) (k : ByteArray) :
    lookE (X.foldl (fun out p => match besideKid lists p.1 p.2 with | some u => withE p.1 u false out | none => out) out) k = ((lookE X k).bind (besideKid lists k)).or (lookE out k) := by
  induction X generalizing out with
  | nil => simp [lookE_nil]
  | cons p X ih =>
    rw [List.map_cons, List.nodup_cons] at hn
    rw [List.foldl_cons, ih _ hn.2, lookE_cons]
    by_cases hp : p.1 = k
    · have hx : lookE X k = none := lookE_none (fun q hq e => hn.1 (by rw [hp, ← e]; exact List.mem_map.2 ⟨q, hq, rfl⟩))
      rw [hx, if_pos hp]
      subst hp
      cases hb : besideKid lists p.1 p.2 with
      | none => simp [hb]
      | some u => simp [hb, lookE_with]
    · rw [if_neg hp]
      have : lookE (match besideKid lists p.1 p.2 with | some u => withE p.1 u false out | none => out) k = lookE out k := by
        cases hb : besideKid lists p.1 p.2 with
        | none => rfl
        | some u => simp only [lookE_with]; rw [if_neg (fun e => hp e.symm)]
      rw [this]
theorem lookE_besideE (lists : List ByteArray) {X : List (ByteArray × Tr)} (hn : (X.map (·.1)).Nodup) (k : ByteArray) : lookE (besideE lists X) k = (lookE X k).bind (besideKid lists k) := by
  have := lookE_beside_go lists X [] hn k
  simpa [lookE_nil, besideE] using this

/-- The clauses of a place. -/
def clauseK (t : Tr) : List Tr := if t.kind = 4 then t.kids else [t]
def clausesT (place : ByteArray) (sets : List SetM) : List Tr := sets.flatMap fun s => if s.name = place then clauseK s.val else []
theorem clausesT_snoc (place : ByteArray) (l : List SetM) (s : SetM) : clausesT place (l ++ [s]) = clausesT place l ++ (if s.name = place then clauseK s.val else []) := by simp [clausesT]

def itoaB (x : Nat) : ByteArray := ⟨(Lib.itoa (toI x)).toArray⟩
/-- How many should match, as is set at last. -/
def msmStep (m : ByteArray) (s : SetM) : ByteArray := if s.name = n_minimum_should_match then s.val.text else if s.name = n_minimum_number_should_match then itoaB s.val.num else m
def msmOf (sets : List SetM) : ByteArray := sets.foldl msmStep ⟨#[]⟩
theorem msmOf_snoc (l : List SetM) (s : SetM) : msmOf (l ++ [s]) = msmStep (msmOf l) s := by simp [msmOf]

/-- What the builder writes. -/
def placeEnt (nf : Tr → Tr) (place : ByteArray) : List Tr → List (ByteArray × Tr)
  | [] => []
  | [t] => [(place, nf t)]
  | t :: u :: r => [(place, listT ((t :: u :: r).map nf))]
def numEnt (key : ByteArray) : Option Tr → List (ByteArray × Tr) | none => [] | some t => [(key, numT t.num)]
def yesEnt (key : ByteArray) : Option Tr → List (ByteArray × Tr) | none => [] | some t => [(key, yesT t.yes)]
def textEnt (key : ByteArray) (s : ByteArray) : List (ByteArray × Tr) := if s = ⟨#[]⟩ then [] else [(key, textT s)]
def textLast (sets : List SetM) (nm : ByteArray) : ByteArray := ((lastOf sets nm).map Tr.text).getD ⟨#[]⟩

def boolEnts (sets : List SetM) : List (List (ByteArray × Tr)) :=
  [placeEnt (normT 100) n_must (clausesT n_must sets), placeEnt (normT 100) n_must_not (clausesT n_must_not sets), placeEnt (normT 100) n_filter (clausesT n_filter sets), placeEnt (normT 100) n_should (clausesT n_should sets),
    numEnt n_boost (lastOf sets n_boost), textEnt n_minimum_should_match (msmOf sets), yesEnt n_adjust_pure_negative (lastOf sets n_adjust_pure_negative), textEnt n__name (textLast sets n__name)]
def keysB : List ByteArray := [n_must, n_must_not, n_filter, n_should, n_boost, n_minimum_should_match, n_adjust_pure_negative, n__name]
def boolSrc (sets : List SetM) (i : Nat) : List (ByteArray × Tr) := ((boolEnts sets).take i).flatMap id
def boolT (sets : List SetM) : Tr := mapTree [(n_bool, mapTree (boolSrc sets 8))]

theorem placeEnt_keys (nf : Tr → Tr) (place : ByteArray) (ts : List Tr) : ((placeEnt nf place ts).map (·.1)).Sublist [place] := by
  match ts with
  | [] => simp [placeEnt]
  | [t] => simp [placeEnt]
  | t :: u :: r => simp [placeEnt]
theorem numEnt_keys (k : ByteArray) (o : Option Tr) : ((numEnt k o).map (·.1)).Sublist [k] := by cases o <;> simp [numEnt]
theorem yesEnt_keys (k : ByteArray) (o : Option Tr) : ((yesEnt k o).map (·.1)).Sublist [k] := by cases o <;> simp [yesEnt]
theorem textEnt_keys (k s : ByteArray) : ((textEnt k s).map (·.1)).Sublist [k] := by unfold textEnt; split <;> simp
theorem lookE_ent {es : List (ByteArray × Tr)} {key : ByteArray} (h : (es.map (·.1)).Sublist [key]) {k : ByteArray} (hk : key ≠ k) : lookE es k = none :=
  lookE_none (fun p hp e => hk (by
    have h1 := h.subset (List.mem_map.2 ⟨p, hp, rfl⟩)
    have h2 : p.1 = key := by simpa using h1
    rw [← e, h2]))

/-- Parts, each of one key. -/
inductive PartsK : List (List (ByteArray × Tr)) → List ByteArray → Prop
  | nil : PartsK [] []
  | cons {es : List (ByteArray × Tr)} {k : ByteArray} {ess : List (List (ByteArray × Tr))} {ks : List ByteArray} (h : (es.map (·.1)).Sublist [k]) (r : PartsK ess ks) : PartsK (es :: ess) (k :: ks)
theorem PartsK.keys {ess : List (List (ByteArray × Tr))} {ks : List ByteArray} (h : PartsK ess ks) : ((ess.flatMap id).map (·.1)).Sublist ks := by
  induction h with
  | nil => simp
  | cons h r ih => rw [List.flatMap_cons, List.map_append]; exact h.append ih
theorem PartsK.none {ess : List (List (ByteArray × Tr))} {ks : List ByteArray} (h : PartsK ess ks) {k : ByteArray} (hk : k ∉ ks) : lookE (ess.flatMap id) k = none :=
  lookE_none (fun p hp e => hk (by rw [← e]; exact h.keys.subset (List.mem_map.2 ⟨p, hp, rfl⟩)))
theorem PartsK.at {ess : List (List (ByteArray × Tr))} {ks : List ByteArray} (h : PartsK ess ks) (hn : ks.Nodup) (i : Nat) (es : List (ByteArray × Tr)) (k : ByteArray) (h1 : ess[i]? = some es) (h2 : ks[i]? = some k) : lookE (ess.flatMap id) k = lookE es k := by
  induction h generalizing i with
  | nil => simp at h1
  | cons h r ih =>
    rw [List.nodup_cons] at hn
    rw [List.flatMap_cons, lookE_append]
    cases i with
    | zero =>
      simp at h1 h2
      subst h1 h2
      rw [r.none hn.1]
      simp
    | succ i =>
      simp at h1 h2
      have hk := List.mem_of_getElem? h2
      have e0 := lookE_ent h (k := k) (fun e => hn.1 (by rw [e]; exact hk))
      rw [id_eq, e0, ih hn.2 i h1 h2]
      simp
theorem boolEnts_parts (sets : List SetM) : PartsK (boolEnts sets) keysB :=
  .cons (placeEnt_keys _ _ _) (.cons (placeEnt_keys _ _ _) (.cons (placeEnt_keys _ _ _) (.cons (placeEnt_keys _ _ _) (.cons (numEnt_keys _ _) (.cons (textEnt_keys _ _) (.cons (yesEnt_keys _ _) (.cons (textEnt_keys _ _) .nil)))))))
theorem keysB_nodup : keysB.Nodup := by decide +kernel
theorem boolSrc_8 (sets : List SetM) : boolSrc sets 8 = (boolEnts sets).flatMap id := rfl
theorem boolSrc_nodup (sets : List SetM) : ((boolSrc sets 8).map (·.1)).Nodup := (boolEnts_parts sets).keys.nodup keysB_nodup
theorem boolSrc_length (sets : List SetM) : (boolSrc sets 8).length ≤ 8 := by
  have := (boolEnts_parts sets).keys.length_le
  rw [List.length_map] at this
  exact this
theorem boolSrc_succ (sets : List SetM) {i : Nat} {es : List (ByteArray × Tr)} (h : (boolEnts sets)[i]? = some es) : boolSrc sets (i + 1) = boolSrc sets i ++ es := by
  unfold boolSrc
  obtain ⟨hi, he⟩ := List.getElem?_eq_some_iff.1 h
  rw [List.take_succ_eq_append_getElem hi, List.flatMap_append, he]
  simp

/-- What the reference says: the settings that are one value, as they are set at last. -/
def valueKinds : List ByteArray := [kT, kN, kW, kB, kV]
def paramOf (sets : List SetM) (r : ByteArray × ByteArray) : List SetM := match lastOf sets r.1 with | some v => if memB r.2 valueKinds then [⟨r.1, v⟩] else [] | none => []
def paramsL (rs : List (ByteArray × ByteArray)) (sets : List SetM) : List SetM := rs.flatMap (paramOf sets)
def pickL (ps : List SetM) (wo : List ByteArray) : List SetM := ps.filter fun p => !memB p.name wo
def placeP (sets : List SetM) (pl : ByteArray) : List SetM := if 0 < (clausesT pl sets).length then [⟨pl, listT (clausesT pl sets)⟩] else []
def msmP1 (s : SetM) : List SetM := if s.name = n_minimum_should_match then [⟨n_minimum_should_match, s.val⟩] else if s.name = n_minimum_number_should_match then [⟨n_minimum_should_match, textT (itoaB s.val.num)⟩] else []
def specPairs (sets : List SetM) : List SetM := pickL (paramsL rsBool sets) [n_minimum_should_match, n_minimum_number_should_match] ++ placesB.flatMap (placeP sets) ++ sets.flatMap msmP1
def besideT (kind : ByteArray) (ps : List SetM) : Tr := mapT [kind] [mapE (mapL ps)]

theorem lastOf_append (a b : List SetM) (k : ByteArray) : lastOf (a ++ b) k = (lastOf b k).or (lastOf a k) := by
  unfold lastOf
  rw [List.reverse_append, List.find?_append]
  cases b.reverse.find? (fun s => decide (s.name = k)) <;> simp
theorem lastOf_nil (k : ByteArray) : lastOf [] k = none := rfl
theorem lastOf_one (s : SetM) (k : ByteArray) : lastOf [s] k = if s.name = k then some s.val else none := by
  have := lastOf_snoc [] s k
  simpa [lastOf_nil] using this
theorem lastOf_pick (ps : List SetM) (wo : List ByteArray) (k : ByteArray) : lastOf (pickL ps wo) k = if memB k wo then none else lastOf ps k := by
  induction ps using snoc_ind with
  | h0 => simp [pickL, lastOf_nil]
  | h1 l a ih =>
    unfold pickL at *
    rw [List.filter_append, lastOf_append, ih, lastOf_snoc]
    by_cases ha : a.name = k
    · subst ha
      cases hm : memB a.name wo <;> simp [hm, lastOf_nil, lastOf_one]
    · rw [if_neg ha]
      have : lastOf ([a].filter fun p => !memB p.name wo) k = none := by
        cases hm : memB a.name wo <;> simp [hm, lastOf_nil, lastOf_one, ha]
      rw [this]; simp
theorem paramOf_ne (sets : List SetM) (r : ByteArray × ByteArray) {k : ByteArray} (h : r.1 ≠ k) : lastOf (paramOf sets r) k = none := by
  unfold paramOf
  split
  · split
    · rw [lastOf_one, if_neg h]
    · rfl
  · rfl
theorem lastOf_params_none {rs : List (ByteArray × ByteArray)} (sets : List SetM) {k : ByteArray} (h : k ∉ rs.map (·.1)) : lastOf (paramsL rs sets) k = none := by
  induction rs with
  | nil => rfl
  | cons r rs ih =>
    rw [List.map_cons, List.mem_cons] at h
    unfold paramsL at *
    rw [List.flatMap_cons, lastOf_append, ih (fun hm => h (.inr hm)), paramOf_ne sets r (fun e => h (.inl e.symm))]
    rfl
theorem lastOf_params {rs : List (ByteArray × ByteArray)} (sets : List SetM) (hn : (rs.map (·.1)).Nodup) {k kd : ByteArray} (h : (k, kd) ∈ rs) : lastOf (paramsL rs sets) k = if memB kd valueKinds then lastOf sets k else none := by
  induction rs with
  | nil => cases h
  | cons r rs ih =>
    rw [List.map_cons, List.nodup_cons] at hn
    have e : paramsL (r :: rs) sets = paramOf sets r ++ paramsL rs sets := by unfold paramsL; rw [List.flatMap_cons]
    rw [e, lastOf_append]
    rcases List.mem_cons.1 h with h | h
    · subst h
      rw [lastOf_params_none sets hn.1]
      unfold paramOf
      simp only [Option.none_or]
      cases lastOf sets k with
      | none => simp [lastOf_nil]
      | some v => cases memB kd valueKinds <;> simp [lastOf_nil, lastOf_one]
    · rw [ih hn.2 h, paramOf_ne sets r (fun e => hn.1 (List.mem_map.2 ⟨_, h, e.symm⟩))]
      simp
theorem lastOf_places (sets : List SetM) {pls : List ByteArray} (hn : pls.Nodup) (k : ByteArray) : lastOf (pls.flatMap (placeP sets)) k = if memB k pls = true ∧ 0 < (clausesT k sets).length then some (listT (clausesT k sets)) else none := by
  induction pls with
  | nil => simp [lastOf_nil, memB]
  | cons p pls ih =>
    rw [List.nodup_cons] at hn
    rw [List.flatMap_cons, lastOf_append, ih hn.2]
    have hc : memB k (p :: pls) = (decide (p = k) || memB k pls) := by simp [memB]
    rw [hc]
    by_cases hp : p = k
    · subst hp
      have h0 : memB p pls = false := memB_false.2 hn.1
      rw [h0]
      unfold placeP
      by_cases h0 : 0 < (clausesT p sets).length
      · rw [if_pos h0, lastOf_one]; simp [h0]
      · rw [if_neg h0, lastOf_nil]; simp [h0]
    · have : lastOf (placeP sets p) k = none := by
        unfold placeP
        split
        · rw [lastOf_one, if_neg hp]
        · rfl
      rw [this]
      simp [hp]
theorem lastOf_msm_ne (sets : List SetM) {k : ByteArray} (h : n_minimum_should_match ≠ k) : lastOf (sets.flatMap msmP1) k = none := by
  induction sets with
  | nil => rfl
  | cons s sets ih =>
    rw [List.flatMap_cons, lastOf_append, ih]
    unfold msmP1
    split
    · rw [lastOf_one, if_neg h]; rfl
    · split
      · rw [lastOf_one, if_neg h]; rfl
      · rfl

/-- What settings that fit are. -/
theorem fitBool_kind {s : SetM} {kd : ByteArray} (h : fitBool s = true) (hk : kindOf rsBool s.name = kd) : fitQ kd s.val = true := by
  unfold fitBool at h
  rwa [hk] at h
theorem fitQ_ne {kd : ByteArray} (hk : kd ≠ kQ) (t : Tr) : fitQ kd t = fitK kd t := by unfold fitQ; rw [if_neg hk]
theorem scalarT_P (t : Tr) : scalarT t = scalarP t := rfl
theorem num_same {t : Tr} (h : fitK kN t = true) : SameT (numT t.num) t := by
  have e : fitK kN t = (decide (t.kind = 2) && scalarT t) := rfl
  rw [e, Bool.and_eq_true] at h
  have hk : t.kind = 2 := by simpa using h.1
  have := leaf_same (t := t) (by rw [← scalarT_P]; exact h.2)
  rwa [show leafT t = numT t.num by unfold leafT; rw [hk]; rfl] at this
theorem yes_same {t : Tr} (h : fitK kB t = true) : SameT (yesT t.yes) t := by
  have e : fitK kB t = (decide (t.kind = 3) && scalarT t) := rfl
  rw [e, Bool.and_eq_true] at h
  have hk : t.kind = 3 := by simpa using h.1
  have := leaf_same (t := t) (by rw [← scalarT_P]; exact h.2)
  rwa [show leafT t = yesT t.yes by unfold leafT; rw [hk]; rfl] at this
theorem text_same {t : Tr} (h : fitK kT t = true) : SameT (textT t.text) t ∧ t.text ≠ ⟨#[]⟩ := by
  have e : fitK kT t = (decide (t.kind = 1) && scalarT t) := rfl
  rw [e, Bool.and_eq_true] at h
  have hk : t.kind = 1 := by simpa using h.1
  have := leaf_same (t := t) (by rw [← scalarT_P]; exact h.2)
  rw [show leafT t = textT t.text by unfold leafT; rw [hk]; rfl] at this
  refine ⟨this, fun e => ?_⟩
  have h2 := h.2
  unfold scalarT at h2
  rw [hk, e] at h2
  split at h2 <;> simp at h2

theorem itoa_ne (n : Int) : Lib.itoa n ≠ [] := by
  intro e
  unfold Lib.itoa at e
  split at e
  · cases e
  · have h1 := congrArg List.length e
    rw [Lib.decDigits_length] at h1
    have h2 : 1 ≤ Lib.nDigits n.toNat := by
      unfold Lib.nDigits
      split <;> omega
    simp at h1
    omega
theorem itoaB_ne (x : Nat) : itoaB x ≠ ⟨#[]⟩ := fun e => itoa_ne (toI x) (by
  have := congrArg (fun b : ByteArray => b.data.toList) e
  simpa [itoaB] using this)

theorem msm_same {sets : List SetM} (h : ∀ s ∈ sets, fitBool s = true) : (lastOf (sets.flatMap msmP1) n_minimum_should_match = none ∧ msmOf sets = ⟨#[]⟩) ∨ (∃ t, lastOf (sets.flatMap msmP1) n_minimum_should_match = some t ∧ SameT (textT (msmOf sets)) t ∧ msmOf sets ≠ ⟨#[]⟩) := by
  induction sets using snoc_ind with
  | h0 => exact .inl ⟨rfl, rfl⟩
  | h1 l s ih =>
    have ih := ih (fun s hs => h s (by simp [hs]))
    have hs := h s (by simp)
    rw [List.flatMap_append, lastOf_append, msmOf_snoc]
    have e1 : [s].flatMap msmP1 = msmP1 s := by simp
    rw [e1]
    unfold msmStep
    have e2 : msmP1 s = if s.name = n_minimum_should_match then [⟨n_minimum_should_match, s.val⟩] else if s.name = n_minimum_number_should_match then [⟨n_minimum_should_match, textT (itoaB s.val.num)⟩] else [] := rfl
    rw [e2]
    by_cases h1 : s.name = n_minimum_should_match
    · have hf := fitBool_kind (kd := kT) hs (by rw [h1]; decide +kernel)
      rw [fitQ_ne (by decide)] at hf
      obtain ⟨hsm, hne⟩ := text_same hf
      rw [if_pos h1, if_pos h1, lastOf_one, if_pos rfl]
      exact .inr ⟨_, rfl, hsm, hne⟩
    · rw [if_neg h1, if_neg h1]
      by_cases h2 : s.name = n_minimum_number_should_match
      · rw [if_pos h2, if_pos h2, lastOf_one, if_pos rfl]
        exact .inr ⟨_, rfl, (good_text _).same, itoaB_ne _⟩
      · rw [if_neg h2, if_neg h2, lastOf_nil]
        simpa using ih

theorem clauses_query {sets : List SetM} (h : ∀ s ∈ sets, fitBool s = true) {pl : ByteArray} (hp : kindOf rsBool pl = kQ) : ∀ t ∈ clausesT pl sets, queryT t = true := by
  intro t ht
  unfold clausesT at ht
  obtain ⟨s, hs, ht⟩ := List.mem_flatMap.1 ht
  split at ht
  · rename_i he
    have hf := fitBool_kind (kd := kQ) (h s hs) (by rw [he]; exact hp)
    have hq : queryishT s.val = true := by
      unfold fitQ at hf
      rwa [if_pos rfl] at hf
    unfold queryishT at hq
    rw [Bool.or_eq_true, Bool.and_eq_true] at hq
    unfold clauseK at ht
    split at ht
    · rename_i h4
      rcases hq with hq | hq
      · unfold queryT at hq
        rw [Bool.and_eq_true, h4] at hq
        simp at hq
      · have h2 := hq.2
        unfold queriesT at h2
        rw [Bool.and_eq_true, List.all_eq_true] at h2
        exact h2.1 t ht
    · rename_i h4
      obtain rfl : t = s.val := by simpa using ht
      rcases hq with hq | hq
      · exact hq
      · exact absurd (by simpa using hq.1) h4
  · cases ht
/-- What is told by a setting is never nothing. -/
theorem clauseK_pos {s : SetM} (h : fitBool s = true) (hp : kindOf rsBool s.name = kQ) : 0 < (clauseK s.val).length := by
  have hf := fitBool_kind (kd := kQ) h hp
  have hq : queryishT s.val = true := by
    unfold fitQ at hf
    rwa [if_pos rfl] at hf
  unfold queryishT at hq
  rw [Bool.or_eq_true, Bool.and_eq_true] at hq
  unfold clauseK
  split
  · rename_i h4
    rcases hq with hq | hq
    · unfold queryT at hq
      rw [Bool.and_eq_true, h4] at hq
      simp at hq
    · have h2 := hq.2
      unfold queriesT at h2
      rw [Bool.and_eq_true] at h2
      simpa using h2.2
  · simp

theorem list_same {ts : List Tr} (f : Tr → Tr) (h : ∀ t ∈ ts, SameT (f t) t) : SameT (listT (ts.map f)) (listT ts) := by
  refine .mk _ _ rfl rfl (by simp [listT, Tr.kids]) (fun h => by simp [listT, Tr.kind] at h) (fun h => by simp [listT, Tr.kind] at h) (fun h => by simp [listT, Tr.kind] at h) (by simp [listT, Tr.kind]) ?_
  intro i a b ha hb
  simp only [listT, Tr.kids] at ha hb
  rw [List.getElem?_map, hb] at ha
  simp only [Option.map_some, Option.some.injEq] at ha
  subst ha
  exact h b (List.mem_of_getElem? hb)

theorem place_rel {sets : List SetM} (h : ∀ s ∈ sets, fitBool s = true) {pl : ByteArray} (hp : kindOf rsBool pl = kQ) (hm : memB pl placesB = true) :
    Option.Rel SameT ((lookE (placeEnt (normT 100) pl (clausesT pl sets)) pl).bind (besideKid placesB pl)) (if 0 < (clausesT pl sets).length then some (listT (clausesT pl sets)) else none) := by
  have hq := clauses_query h hp
  have hsame : ∀ t ∈ clausesT pl sets, SameT (normT 100 t) t := fun t ht => by
    have := hq t ht
    unfold queryT at this
    rw [Bool.and_eq_true] at this
    exact norm_same 100 this.2
  have hkind : ∀ t ∈ clausesT pl sets, (normT 100 t).kind = 5 := fun t ht => by
    have := hq t ht
    unfold queryT at this
    rw [Bool.and_eq_true] at this
    cases hsame t ht with
    | mk _ _ a1 => rw [a1]; simpa using this.1
  generalize clausesT pl sets = ts at *
  match ts, hsame, hkind with
  | [], _, _ => simp only [placeEnt, lookE_nil]; exact .none
  | [t], hsame, hkind =>
    have hk := hkind t (by simp)
    simp only [placeEnt, lookE_cons, if_true, Option.bind_some, List.length_singleton, Nat.zero_lt_one]
    unfold besideKid
    rw [hm, hk]
    simp only [listT, Tr.kind, Tr.kids]
    exact .some (list_same (ts := [t]) (normT 100) (fun u hu => hsame u hu))
  | t :: u :: r, hsame, _ =>
    simp only [placeEnt, lookE_cons, if_true, Option.bind_some]
    have hb : ∀ l : List Tr, l ≠ [] → besideKid placesB pl (listT l) = some (listT l) := by
      intro l hl
      unfold besideKid
      rw [hm]
      have e : (listT l).kind = 4 := rfl
      have e2 : (listT l).kids.length ≠ 0 := by rw [listT_kids]; simpa using hl
      simp [e, e2]
    rw [hb _ (by simp), if_pos (by simp)]
    exact .some (list_same _ hsame)

theorem beside_other {k : ByteArray} (hk : memB k placesB = false) {t : Tr} (h0 : t.kind ≠ 0) : besideKid placesB k t = some t := by
  unfold besideKid
  rw [hk]
  simp [h0]

theorem rel_of_same {t u : Tr} (h : SameT t u) : Option.Rel SameT (some t) (some u) := .some h

/-- THE PLAIN LAW: under each name both say the same. -/
theorem bool_rel {sets : List SetM} (h : ∀ s ∈ sets, fitBool s = true) (k : ByteArray) : Option.Rel SameT (lookE (besideE placesB (mapTE (boolSrc sets 8))) k) (lookE (mapL (specPairs sets)) k) := by
  have hnd : ((mapTE (boolSrc sets 8)).map (·.1)).Nodup := by
    have := asc_mapTE (boolSrc_nodup sets)
    unfold Asc at this
    rw [← List.pairwise_map (f := fun p : ByteArray × Tr => p.1) (R := fun a b => strLt a b = true)] at this
    rw [List.nodup_iff_pairwise_ne]
    exact this.imp (fun {a b} hab e => by rw [e, strLt_irrefl] at hab; cases hab)
  rw [lookE_besideE placesB hnd, lookE_mapTE (boolSrc_nodup sets), lookE_mapL]
  have hpn : placesB.Nodup := by decide +kernel
  have hrn : (rsBool.map (·.1)).Nodup := by decide +kernel
  unfold specPairs
  rw [lastOf_append, lastOf_append, lastOf_pick, lastOf_places sets hpn]
  rw [boolSrc_8]
  have hP := boolEnts_parts sets
  by_cases hk : k ∈ keysB
  · simp only [keysB, List.mem_cons, List.not_mem_nil, or_false] at hk
    have place : ∀ (i : Nat) (pl : ByteArray), (boolEnts sets)[i]? = some (placeEnt (normT 100) pl (clausesT pl sets)) → keysB[i]? = some pl → kindOf rsBool pl = kQ → memB pl placesB = true → (pl, kQ) ∈ rsBool → n_minimum_should_match ≠ pl →
        Option.Rel SameT ((lookE ((boolEnts sets).flatMap id) pl).bind (besideKid placesB pl)) ((lastOf (sets.flatMap msmP1) pl).or ((if memB pl placesB = true ∧ 0 < (clausesT pl sets).length then some (listT (clausesT pl sets)) else none).or (if memB pl [n_minimum_should_match, n_minimum_number_should_match] then none else lastOf (paramsL rsBool sets) pl))) := by
      intro i pl h1 h2 h3 h4 h5 h6
      rw [hP.at keysB_nodup i _ _ h1 h2, lastOf_msm_ne sets h6, lastOf_params sets hrn h5]
      have := place_rel h h3 h4
      have hkq : memB kQ valueKinds = false := by decide +kernel
      rw [hkq]
      simp only [h4, true_and, Option.none_or, Bool.false_eq_true, if_false, ite_self, Option.or_none]
      exact this
    rcases hk with rfl | rfl | rfl | rfl | rfl | rfl | rfl | rfl
    · exact place 0 _ rfl rfl (by decide +kernel) (by decide +kernel) (List.mem_of_getElem? (i := 0) rfl) (by decide +kernel)
    · exact place 1 _ rfl rfl (by decide +kernel) (by decide +kernel) (List.mem_of_getElem? (i := 1) rfl) (by decide +kernel)
    · exact place 2 _ rfl rfl (by decide +kernel) (by decide +kernel) (List.mem_of_getElem? (i := 3) rfl) (by decide +kernel)
    · exact place 3 _ rfl rfl (by decide +kernel) (by decide +kernel) (List.mem_of_getElem? (i := 2) rfl) (by decide +kernel)
    · rw [hP.at keysB_nodup 4 _ _ rfl rfl, lastOf_msm_ne sets (by decide +kernel), lastOf_params sets hrn (k := n_boost) (kd := kN) (List.mem_of_getElem? (i := 5) rfl), if_neg (show ¬ (memB n_boost placesB = true ∧ _) from fun hh => absurd hh.1 (by decide +kernel)), show memB n_boost [n_minimum_should_match, n_minimum_number_should_match] = false by decide +kernel, show memB kN valueKinds = true by decide +kernel]
      simp only [Option.none_or, Bool.false_eq_true, if_false, if_true]
      cases e : lastOf sets n_boost with
      | none => simp only [numEnt, lookE_nil]; exact .none
      | some t =>
        obtain ⟨s, hs, hn, rfl⟩ := lastOf_of e
        have hf := fitBool_kind (kd := kN) (h s hs) (by rw [hn]; decide +kernel)
        rw [fitQ_ne (by decide)] at hf
        simp only [numEnt, lookE_cons, if_true, Option.bind_some]
        rw [beside_other (by decide +kernel) (by simp [numT, Tr.kind])]
        exact .some (num_same hf)
    · rw [hP.at keysB_nodup 5 _ _ rfl rfl, if_neg (show ¬ (memB n_minimum_should_match placesB = true ∧ _) from fun hh => absurd hh.1 (by decide +kernel)), show memB n_minimum_should_match [n_minimum_should_match, n_minimum_number_should_match] = true by decide +kernel]
      simp only [if_true, Option.or_none]
      rcases msm_same h with ⟨h1, h2⟩ | ⟨t, h1, h2, h3⟩
      · rw [h1, h2]
        simp only [textEnt, if_true, lookE_nil]
        exact .none
      · rw [h1]
        unfold textEnt
        rw [if_neg h3]
        simp only [lookE_cons, if_true, Option.bind_some]
        rw [beside_other (by decide +kernel) (by simp [textT, Tr.kind])]
        exact .some h2
    · rw [hP.at keysB_nodup 6 _ _ rfl rfl, lastOf_msm_ne sets (by decide +kernel), lastOf_params sets hrn (k := n_adjust_pure_negative) (kd := kB) (List.mem_of_getElem? (i := 4) rfl), if_neg (show ¬ (memB n_adjust_pure_negative placesB = true ∧ _) from fun hh => absurd hh.1 (by decide +kernel)), show memB n_adjust_pure_negative [n_minimum_should_match, n_minimum_number_should_match] = false by decide +kernel, show memB kB valueKinds = true by decide +kernel]
      simp only [Option.none_or, Bool.false_eq_true, if_false, if_true]
      cases e : lastOf sets n_adjust_pure_negative with
      | none => simp only [yesEnt, lookE_nil]; exact .none
      | some t =>
        obtain ⟨s, hs, hn, rfl⟩ := lastOf_of e
        have hf := fitBool_kind (kd := kB) (h s hs) (by rw [hn]; decide +kernel)
        rw [fitQ_ne (by decide)] at hf
        simp only [yesEnt, lookE_cons, if_true, Option.bind_some]
        rw [beside_other (by decide +kernel) (by simp [yesT, Tr.kind])]
        exact .some (yes_same hf)
    · rw [hP.at keysB_nodup 7 _ _ rfl rfl, lastOf_msm_ne sets (by decide +kernel), lastOf_params sets hrn (k := n__name) (kd := kT) (List.mem_of_getElem? (i := 8) rfl), if_neg (show ¬ (memB n__name placesB = true ∧ _) from fun hh => absurd hh.1 (by decide +kernel)), show memB n__name [n_minimum_should_match, n_minimum_number_should_match] = false by decide +kernel, show memB kT valueKinds = true by decide +kernel]
      simp only [Option.none_or, Bool.false_eq_true, if_false, if_true]
      unfold textLast
      cases e : lastOf sets n__name with
      | none => simp only [Option.map_none, Option.getD_none, textEnt, if_true, lookE_nil]; exact .none
      | some t =>
        obtain ⟨s, hs, hn, rfl⟩ := lastOf_of e
        have hf := fitBool_kind (kd := kT) (h s hs) (by rw [hn]; decide +kernel)
        rw [fitQ_ne (by decide)] at hf
        obtain ⟨h1, h2⟩ := text_same hf
        simp only [Option.map_some, Option.getD_some, textEnt]
        rw [if_neg h2]
        simp only [lookE_cons, if_true, Option.bind_some]
        rw [beside_other (by decide +kernel) (by simp [textT, Tr.kind])]
        exact .some h1
  · rw [hP.none hk]
    simp only [keysB, List.mem_cons, List.not_mem_nil, or_false, not_or] at hk
    obtain ⟨a1, a2, a3, a4, a5, a6, a7, a8⟩ := hk
    rw [lastOf_msm_ne sets (fun e => a6 e.symm), if_neg (show ¬ (memB k placesB = true ∧ _) from fun hh => by
      have := memB_iff.1 hh.1
      simp only [placesB, List.mem_cons, List.not_mem_nil, or_false] at this
      rcases this with e | e | e | e
      · exact a1 e
      · exact a2 e
      · exact a4 e
      · exact a3 e)]
    have : (if memB k [n_minimum_should_match, n_minimum_number_should_match] then none else lastOf (paramsL rsBool sets) k) = none := by
      by_cases hm : memB k [n_minimum_should_match, n_minimum_number_should_match] = true
      · rw [if_pos hm]
      · rw [if_neg hm]
        refine lastOf_params_none sets (fun hh => ?_)
        have hmap : rsBool.map (·.1) = [n_must, n_must_not, n_should, n_filter, n_adjust_pure_negative, n_boost, n_minimum_should_match, n_minimum_number_should_match, n__name] := rfl
        rw [hmap] at hh
        simp only [List.mem_cons, List.not_mem_nil, or_false] at hh
        rcases hh with e | e | e | e | e | e | e | e | e
        · exact a1 e
        · exact a2 e
        · exact a4 e
        · exact a3 e
        · exact a7 e
        · exact a5 e
        · exact a6 e
        · exact hm (memB_iff.2 (by simp [e]))
        · exact a8 e
    rw [this]
    exact .none

theorem bool_same {sets : List SetM} (h : ∀ s ∈ sets, fitBool s = true) : SameT (mapT [n_bool] [mapE (besideE placesB (mapTE (boolSrc sets 8)))]) (besideT n_bool (specPairs sets)) := by
  refine .mk _ _ rfl rfl rfl (fun h => by simp [mapT, Tr.kind] at h) (fun h => by simp [mapT, Tr.kind] at h) (fun h => by simp [mapT, Tr.kind] at h) (by simp [mapT, Tr.kind]) ?_
  intro i a b ha hb
  have hi : i = 0 := by
    have := (List.getElem?_eq_some_iff.1 ha).1
    simpa [mapT, Tr.kids] using this
  subst hi
  simp [mapT, besideT, Tr.kids] at ha hb
  subst ha hb
  exact same_mapE (asc_besideE _ _) (asc_mapL _) (bool_rel h)
end Go.Proofs.YtbcnhcpgloncdaaGreatDoor
/- 'At', 'within', 'List', 'Text', 'Map', 'Places': what each returns. -/
namespace Go.Proofs.YtbcnhcpgloncdaaGreatDoor
open Go Go.RowKit Go.BigFrame

def AtPost (w : World) (S : Nat → Prop) (r : Option Tr) (e : Ending) (w' : World) : Prop :=
  ∃ v : TV, e = .returned (.tuple #[v.val, .bool r.isSome]) ∧ RepT w' S v (r.getD Tr.zero) ∧ Below w.heap.size w w'

/-- The pairs of a map. -/
def prs (t : Tr) : List (ByteArray × Tr) := t.keys.zip t.kids

theorem lookE_at {es : List (ByteArray × Tr)} {k : Nat} {key : ByteArray} (hk : k < es.length) (hno : (es.take k).all (fun p => !decide (p.1 = key)) = true) (he : es[k].1 = key) : lookE es key = some es[k].2 := by
  have h0 : es = es.take k ++ es[k] :: es.drop (k + 1) := by rw [← List.drop_eq_getElem_cons hk]; simp
  have h1 : lookE (es.take k) key = none := lookE_none (fun p hp => by have := List.all_eq_true.1 hno p hp; simpa using this)
  have h2 := lookE_append (es.take k) (es[k] :: es.drop (k + 1)) key
  rw [← h0, h1, lookE_cons, if_pos he] at h2
  simpa using h2

set_option maxRecDepth 100000 in
set_option maxHeartbeats 2000000 in
theorem at_any (t : Tr) (v : TV) (key : ByteArray) (S : Nat → Prop) (w : World) (hv : RepT w S v t) (hk5 : t.kind = 5) (hl : t.keys.length = t.kids.length) :
    Calls Tryz.prog 41 #[v.val, .string key] w (AtPost w S (lookE (prs t) key)) := by
  obtain ⟨q1, q2, q3, q4, q5, q6⟩ := hv.eqs
  obtain ⟨_, B2, B3⟩ := hv.bounds
  have hb := (Below.refl w.heap.size w).alloc (Nat.le_refl _) (.cells #[.int .i64 v.kind, .string v.text, .float .f64 v.num, .bool v.yes, .slice v.ka v.kn v.kc, .slice v.ca v.cn v.cc] 31)
  rw [q1, hk5] at hb
  have Hv := Lib.hid hv; clear hv
  have Hb := Lib.hid hb; clear hb
  obtain ⟨kind, text, num, yes, ka, kn, kc, ca, cn, cc⟩ := v
  simp only at q1 q5 q6
  rw [hk5] at q1
  subst q1
  have hkc : kn = cn := by omega
  subst hkc
  have Hl := Lib.hid hl
  have Q5 := Lib.hid q5
  have Q6 := Lib.hid q6
  rw [← q5] at B2
  clear q2 q3 q4 q5 q6 hl hk5 B3
  go_enter Tryz.func41, Tryz.ntmps41
  go_wp2_with fail
  have hx5 := heap_alloc_new w (.cells #[.int .i64 5, .string text, .float .f64 num, .bool yes, .slice ka kn kc, .slice ca kn cc] 31)
  have hzero := heap_alloc_new (w.alloc (.cells #[.int .i64 5, .string text, .float .f64 num, .bool yes, .slice ka kn kc, .slice ca kn cc] 31)) (.cells #[.int .i64 0, .string ⟨#[]⟩, .float .f64 0, .bool false, .slice none 0 0, .slice none 0 0] 31)
  go_loop [6] (fun i => ∃ k : Nat, k ≤ kn ∧ i = .int .i64 k ∧ ((prs t).take k).all (fun p => !decide (p.1 = key)) = true) (fun i => kn - (intOf i).toNat)
  case atStart => exact ⟨0, Nat.zero_le _, rfl, by simp⟩
  case round =>
    obtain ⟨k, hk, rfl, hno⟩ := hrel
    have Hno := Lib.hid hno; clear hno
    have Hx5 := Lib.hid hx5; clear hx5
    have Hz := Lib.hid hzero; clear hzero
    by_cases hlt : k < kn
    · obtain ⟨bk, ok, hka, _, hlbk, ck⟩ := Hv.out.key (k := k) (by rw [← Q5.out]; exact hlt)
      obtain ⟨bc, oc, v', hca, _, hlbc, ⟨d0, d1, d2, d3, d4, d5⟩, hrv⟩ := Hv.out.kid (k := k) (by rw [← Q6.out]; exact hlt)
      simp only at hka hca
      subst hka
      subst hca
      have hpl : k < (prs t).length := by unfold prs; rw [List.length_zip, ← Q5.out, ← Q6.out]; omega
      have hpk : (prs t)[k] = (t.keys[k]'(by rw [← Q5.out]; exact hlt), t.kids[k]'(by rw [← Q6.out]; exact hlt)) := by simp [prs]
      have Hat : Hid ((t.keys[k]'(by rw [← Q5.out]; exact hlt)) = key → lookE (prs t) key = some (t.kids[k]'(by rw [← Q6.out]; exact hlt))) := Lib.hid (fun he => by
        have := lookE_at hpl Hno.out (by rw [hpk]; exact he)
        rw [this, hpk])
      have Hnx : Hid ((t.keys[k]'(by rw [← Q5.out]; exact hlt)) ≠ key → ((prs t).take (k + 1)).all (fun p => !decide (p.1 = key)) = true) := Lib.hid (fun he => by
        rw [List.take_succ_eq_append_getElem hpl, List.all_append, Hno.out, hpk]; simp [he])
      clear hpk
      generalize (t.keys[k]'(by rw [← Q5.out]; exact hlt)) = kk at *
      generalize (t.kids[k]'(by rw [← Q6.out]; exact hlt)) = kt at *
      obtain ⟨kd, tx, nm, ys, ka3, kn3, kc3, ca3, cn3, cc3⟩ := v'
      simp only at d0 d1 d2 d3 d4 d5
      have Hrv := Lib.hid hrv; clear hrv
      have hi1 : (0 : Int) ≤ (k : Int) := by omega
      have hi2 : (k : Int) < (kn : Int) := by omega
      by_cases he : kk = key
      · have Hat' := Lib.hid (Hat.out he); clear Hat Hnx
        have he' := bs_eq he
        have He := Lib.hid he; clear he
        go_wp2_with fail
        refine bodyPost_ret (v := .tuple #[.agg #[.int .i64 kd, .string tx, .float .f64 nm, .bool ys, .slice ka3 kn3 kc3, .slice ca3 cn3 cc3], .bool true]) (by simp [results, Tryz.results41, go_sem]) rfl ?_
        refine ⟨⟨kd, tx, nm, ys, ka3, kn3, kc3, ca3, cn3, cc3⟩, ?_, ?_, Hb.out.alloc (by simp) _⟩
        · rw [Hat'.out]; rfl
        · rw [Hat'.out]; exact Hrv.out.keep (Keeps.of_below S (Hb.out.alloc (by simp) _))
      · have Hnx' := Lib.hid (Hnx.out he); clear Hat Hnx
        have he' := bs_ne he
        have He := Lib.hid he; clear he
        go_wp2_with fail
        go_round
        case rel => exact ⟨k + 1, by omega, by go_num, Hnx'.out⟩
        case measure => simp [intOf]; omega
    · obtain rfl : k = kn := by omega
      have hnone : lookE (prs t) key = none := lookE_none (fun p hp => by
        have := List.all_eq_true.1 Hno.out p (by rw [List.take_of_length_le (by unfold prs; rw [List.length_zip, ← Q5.out, ← Q6.out]; omega)]; exact hp)
        simpa using this)
      have Hnone := Lib.hid hnone; clear hnone
      go_wp2_with fail
      refine bodyPost_ret (v := .tuple #[.agg #[.int .i64 0, .string ⟨#[]⟩, .float .f64 0, .bool false, .slice none 0 0, .slice none 0 0], .bool false]) (by simp [results, Tryz.results41, go_sem]) rfl ?_
      refine ⟨⟨0, ⟨#[]⟩, 0, false, none, 0, 0, none, 0, 0⟩, ?_, ?_, Hb.out.alloc (by simp) _⟩
      · rw [Hnone.out]; rfl
      · rw [Hnone.out]; exact RepT.zero _ _

def YesPost (w : World) (S : Nat → Prop) (t : Tr) (e : Ending) (w' : World) : Prop := ∃ v : TV, e = .returned (.tuple #[v.val, .bool true]) ∧ RepT w' S v t ∧ Below w.heap.size w w'

set_option maxRecDepth 100000 in
set_option maxHeartbeats 2000000 in
theorem within_any (t x : Tr) (v : TV) (key : ByteArray) (w : World) (S : Nat → Prop) (hS : ∀ b, S b → b < w.heap.size) (hv : RepT w S v t) (hk5 : t.kind = 5) (hl : t.keys.length = 1) (hl2 : t.kids.length = 1) (hx : lookE (prs t) key = some x) (hx5 : x.kind = 5) :
    Calls Tryz.prog 111 #[.string key, v.val] w (YesPost w S x) := by
  have hc := fun w hv => at_any t v key S w hv hk5 (by omega)
  have HS := Lib.hid hS; clear hS
  rw [hx] at hc
  obtain ⟨q1, q2, q3, q4, q5, q6⟩ := hv.eqs
  have Hc := Lib.hid hc; clear hc hx
  have Hv := Lib.hid hv; clear hv
  obtain ⟨kind, text, num, yes, ka, kn, kc, ca, cn, cc⟩ := v
  simp only at q1 q5 q6
  rw [hk5] at q1
  rw [hl] at q5
  rw [hl2] at q6
  subst q1 q5 q6
  clear q2 q3 q4 hl hl2 hk5
  have Hx5 := Lib.hid hx5; clear hx5
  go_enter Tryz.func111, Tryz.ntmps111
  go_wp2_with fail
  have hb0 := ((Below.refl w.heap.size w).alloc (Nat.le_refl _) (.cells #[.int .i64 5, .string text, .float .f64 num, .bool yes, .slice ka 1 kc, .slice ca 1 cc] 31)).alloc (by simp) (.cells #[.int .i64 0, .string ⟨#[]⟩, .float .f64 0, .bool false, .slice none 0 0, .slice none 0 0] 31)
  have hbx : Box6 ((w.alloc (.cells #[.int .i64 5, .string text, .float .f64 num, .bool yes, .slice ka 1 kc, .slice ca 1 cc] 31)).alloc (.cells #[.int .i64 0, .string ⟨#[]⟩, .float .f64 0, .bool false, .slice none 0 0, .slice none 0 0] 31)) w.heap.size (.int .i64 5) (.string text) (.float .f64 num) (.bool yes) (.slice ka 1 kc) (.slice ca 1 cc) := Box6.alloc (heap_alloc_new w _)
  have hz0 : Zero6 ((w.alloc (.cells #[.int .i64 5, .string text, .float .f64 num, .bool yes, .slice ka 1 kc, .slice ca 1 cc] 31)).alloc (.cells #[.int .i64 0, .string ⟨#[]⟩, .float .f64 0, .bool false, .slice none 0 0, .slice none 0 0] 31)) (w.heap.size + 1) := by
    have := heap_alloc_new (w.alloc (.cells #[.int .i64 5, .string text, .float .f64 num, .bool yes, .slice ka 1 kc, .slice ca 1 cc] 31)) (.cells #[.int .i64 0, .string ⟨#[]⟩, .float .f64 0, .bool false, .slice none 0 0, .slice none 0 0] 31)
    rw [World.size_alloc] at this
    exact this
  refine (Hc.out _ (Hv.out.keep (Keeps.of_below S hb0))).mono ?_
  rintro e w2 ⟨v', rfl, hv', hb2⟩
  have hz2 := hz0.below hb2
  obtain ⟨z0, z1, z2, z3, z4, z5, zf, zl⟩ := hz2.cells
  have Hz2 := Lib.hid hz2; clear hz2 hz0
  obtain ⟨x1, x2, x3, x4, x5, x6⟩ := hv'.eqs
  obtain ⟨kd, tx, nm, ys, ka3, kn3, kc3, ca3, cn3, cc3⟩ := v'
  simp only [Option.getD_some] at x1
  rw [Hx5.out] at x1
  subst x1
  have hsz := hb2.size
  obtain ⟨c0, c1, c2, c3, c4, c5, cf, cl⟩ := (hbx.below hb2).cells
  have Hv' := Lib.hid hv'; clear hv'
  have Hb2 := Lib.hid (via hb0 hb2); clear hb2
  have Hbx := Lib.hid hbx; clear hbx
  clear x2 x3 x4 x5 x6
  simp only [World.size_alloc] at hsz
  have hW : Below w.heap.size w ((((((((w2.setCell ⟨w.heap.size + 1, 0, none⟩ (.int .i64 5)).setCell ⟨w.heap.size + 1, 1, none⟩ (.string tx)).setCell ⟨w.heap.size + 1, 2, none⟩ (.float .f64 nm)).setCell ⟨w.heap.size + 1, 3, none⟩ (.bool ys)).setCell ⟨w.heap.size + 1, 4, none⟩ (.slice ka3 kn3 kc3)).setCell ⟨w.heap.size + 1, 5, none⟩ (.slice ca3 cn3 cc3)).alloc (.cells #[.int .i64 5, .string tx, .float .f64 nm, .bool ys, .slice ka3 kn3 kc3, .slice ca3 cn3 cc3] 31)).drew) :=
    ((Below.put6 Hb2.out (b := w.heap.size + 1) (by omega) _ _ _ _ _ _).alloc (by simp; omega) _).drew
  have hrep : RepT ((((((((w2.setCell ⟨w.heap.size + 1, 0, none⟩ (.int .i64 5)).setCell ⟨w.heap.size + 1, 1, none⟩ (.string tx)).setCell ⟨w.heap.size + 1, 2, none⟩ (.float .f64 nm)).setCell ⟨w.heap.size + 1, 3, none⟩ (.bool ys)).setCell ⟨w.heap.size + 1, 4, none⟩ (.slice ka3 kn3 kc3)).setCell ⟨w.heap.size + 1, 5, none⟩ (.slice ca3 cn3 cc3)).alloc (.cells #[.int .i64 5, .string tx, .float .f64 nm, .bool ys, .slice ka3 kn3 kc3, .slice ca3 cn3 cc3] 31)).drew) S ⟨5, tx, nm, ys, ka3, kn3, kc3, ca3, cn3, cc3⟩ x := by
    have h1 := Hv'.out.keep (w' := ((((((w2.setCell ⟨w.heap.size + 1, 0, none⟩ (.int .i64 5)).setCell ⟨w.heap.size + 1, 1, none⟩ (.string tx)).setCell ⟨w.heap.size + 1, 2, none⟩ (.float .f64 nm)).setCell ⟨w.heap.size + 1, 3, none⟩ (.bool ys)).setCell ⟨w.heap.size + 1, 4, none⟩ (.slice ka3 kn3 kc3)).setCell ⟨w.heap.size + 1, 5, none⟩ (.slice ca3 cn3 cc3))) (fun b hb hlt => (grownBy_put6 w2 (w.heap.size + 1) _ _ _ _ _ _).block b hlt (fun e => by injection e with e; have := HS.out b hb; omega))
    exact h1.keep (Keeps.of_below S (((Below.refl _ _).alloc (Nat.le_refl _) _).drew))
  have Hrep := Lib.hid hrep; clear hrep
  have Hbel := Lib.hid hW; clear hW
  go_wp2_with fail
  go_region_law (fail)
  all_goals (
    go_wp2_with fail
    obtain ⟨p0, p1, p2, p3, p4, p5, _, _⟩ := ((Hz2.out.put6 (.int .i64 5) (.string tx) (.float .f64 nm) (.bool ys) (.slice ka3 kn3 kc3) (.slice ca3 cn3 cc3)).alloc (o := .cells #[.int .i64 5, .string tx, .float .f64 nm, .bool ys, .slice ka3 kn3 kc3, .slice ca3 cn3 cc3] 31)).cells
    refine bodyPost_ret (v := .tuple #[.agg #[.int .i64 5, .string tx, .float .f64 nm, .bool ys, .slice ka3 kn3 kc3, .slice ca3 cn3 cc3], .bool true]) (by simp [results, Tryz.results111, go_sem, p0, p1, p2, p3, p4, p5]; done) rfl ?_
    exact ⟨⟨5, tx, nm, ys, ka3, kn3, kc3, ca3, cn3, cc3⟩, rfl, Hrep.out, Hbel.out⟩)

set_option maxRecDepth 100000 in
set_option maxHeartbeats 2000000 in
theorem list_any (ts : List Tr) (S : Nat → Prop) (a : Option Addr) (c : Nat) (w : World) (h : TreesAt w S a ts) (hl : ts.length ≤ 9223372036854775807) :
    Calls Tryz.prog 47 #[.slice a ts.length c] w (TreeS w S (listT ts)) := by
  have Hh := Lib.hid h; clear h
  go_enter Tryz.func47, Tryz.ntmps47
  go_wp2_with fail
  refine bodyPost_ret (v := .agg #[.int .i64 4, .string ⟨#[]⟩, .float .f64 0, .bool false, .slice none 0 0, .slice a ts.length c]) (by simp [results, Tryz.results47, go_sem]) rfl ?_
  have hb := (Below.refl w.heap.size w).alloc (Nat.le_refl _) (.cells #[.int .i64 4, .string ⟨#[]⟩, .float .f64 0, .bool false, .slice none 0 0, .slice a ts.length c] 31)
  obtain ⟨vs, h1, h2⟩ := TreesAt.keep Hh.out (Keeps.of_below _ hb)
  exact ⟨⟨4, ⟨#[]⟩, 0, false, none, 0, 0, a, ts.length, c⟩, rfl, RepT.mono (S := S) (S' := fun b => S b ∨ w.heap.size ≤ b) (.mk _ _ vs ⟨by simp only [listT, Tr.text]; decide, by simp [listT, Tr.keys], hl⟩ rfl rfl rfl rfl rfl SliceAt.nil rfl h1 h2) (fun b _ hb => .inl hb), hb⟩

set_option maxRecDepth 100000 in
set_option maxHeartbeats 2000000 in
theorem text_any (s : ByteArray) (w : World) (hs : s.size ≤ 9223372036854775807) : Calls Tryz.prog 93 #[.string s] w (TreeS w (fun _ => False) (textT s)) := by
  go_enter Tryz.func93, Tryz.ntmps93
  go_wp2_with fail
  refine bodyPost_ret (v := .agg #[.int .i64 1, .string s, .float .f64 0, .bool false, .slice none 0 0, .slice none 0 0]) (by simp [results, Tryz.results93, go_sem]) rfl ?_
  exact ⟨⟨1, s, 0, false, none, 0, 0, none, 0, 0⟩, rfl, leaf 1 s 0 false hs _ _, (Below.refl _ _).alloc (Nat.le_refl _) _⟩

set_option maxRecDepth 100000 in
set_option maxHeartbeats 2000000 in
theorem number_any (x : Nat) (w : World) : Calls Tryz.prog 113 #[.float .f64 x] w (TreeS w (fun _ => False) (numT x)) := by
  go_enter Tryz.func113, Tryz.ntmps113
  go_wp2_with fail
  refine bodyPost_ret (v := .agg #[.int .i64 2, .string ⟨#[]⟩, .float .f64 x, .bool false, .slice none 0 0, .slice none 0 0]) (by simp [results, Tryz.results113, go_sem]) rfl ?_
  exact ⟨⟨2, ⟨#[]⟩, x, false, none, 0, 0, none, 0, 0⟩, rfl, leaf 2 ⟨#[]⟩ x false (by decide) _ _, (Below.refl _ _).alloc (Nat.le_refl _) _⟩

def placesL : List ByteArray := [⟨#[109, 117, 115, 116]⟩, ⟨#[109, 117, 115, 116, 95, 110, 111, 116]⟩, ⟨#[115, 104, 111, 117, 108, 100]⟩, ⟨#[102, 105, 108, 116, 101, 114]⟩]
set_option maxRecDepth 100000 in
set_option maxHeartbeats 2000000 in
theorem places_any (w : World) : Calls Tryz.prog 92 #[] w fun e w' => ∃ b, e = .returned (.slice (some ⟨b, 0, none⟩) 4 4) ∧ w'.heap[b]? = some (.cells (placesL.map Value.string).toArray 9 (0, 0)) ∧ w.heap.size ≤ b ∧ Below w.heap.size w w' := by
  go_enter Tryz.func92, Tryz.ntmps92
  go_wp2_with fail
  go_ret
  exact ⟨w.heap.size, rfl, heap_alloc_new w _, Nat.le_refl _, (Below.refl _ _).alloc (Nat.le_refl _) _⟩
theorem rep_map0 (w : World) (S : Nat → Prop) : RepT w S ⟨5, ⟨#[]⟩, 0, false, none, 0, 0, none, 0, 0⟩ (mapE []) :=
  .mk _ _ (fun _ => default) ⟨by decide, by decide, by decide⟩ rfl rfl rfl rfl rfl SliceAt.nil rfl SliceAt.nil (fun i k h => by simp [mapE_kids] at h)
/-- A tree in a box; its lists lie in T. -/
structure TBox (w : World) (T : Nat → Prop) (B : Nat) (t : Tr) : Prop where
  box : ∃ v : TV, Box6 w B (.int .i64 v.kind) (.string v.text) (.float .f64 v.num) (.bool v.yes) (.slice v.ka v.kn v.kc) (.slice v.ca v.cn v.cc) ∧ RepT w T v t
theorem TBox.lt {w : World} {T : Nat → Prop} {B : Nat} {t : Tr} (h : TBox w T B t) : B < w.heap.size := by
  obtain ⟨v, h1, _⟩ := h.box
  exact (Array.getElem?_eq_some_iff.1 h1).1
theorem TBox.below {w w' : World} {T : Nat → Prop} {B : Nat} {t : Tr} (h : TBox w T B t) (hb : Below w.heap.size w w') : TBox w' T B t := by
  obtain ⟨v, h1, h2⟩ := h.box
  exact ⟨v, h1.below hb, h2.keep (Keeps.of_below _ hb)⟩
theorem Below.put6' {B : Nat} {w W : World} {b : Nat} (h : Below B w W) (hb : B ≤ b) (v0 v1 v2 v3 v4 v5 : Value) :
    Below B w ((((((W.setCell ⟨b, 0, none⟩ v0).setCell ⟨b, 1, none⟩ v1).setCell ⟨b, 2, none⟩ v2).setCell ⟨b, 3, none⟩ v3).setCell ⟨b, 4, none⟩ v4).setCell ⟨b, 5, none⟩ v5) :=
  (((((h.setCell (p := ⟨b, 0, none⟩) hb _).setCell (p := ⟨b, 1, none⟩) hb _).setCell (p := ⟨b, 2, none⟩) hb _).setCell (p := ⟨b, 3, none⟩) hb _).setCell (p := ⟨b, 4, none⟩) hb _).setCell (p := ⟨b, 5, none⟩) hb _
theorem RepT.put6 {w : World} {S : Nat → Prop} {v : TV} {t : Tr} (h : RepT w S v t) {B : Nat} (hB : ¬ S B) (v0 v1 v2 v3 v4 v5 : Value) :
    RepT ((((((w.setCell ⟨B, 0, none⟩ v0).setCell ⟨B, 1, none⟩ v1).setCell ⟨B, 2, none⟩ v2).setCell ⟨B, 3, none⟩ v3).setCell ⟨B, 4, none⟩ v4).setCell ⟨B, 5, none⟩ v5) S v t :=
  h.keep (fun b hb hlt => (grownBy_put6 w B _ _ _ _ _ _).block b hlt (fun e => by injection e with e; exact hB (by rw [← e]; exact hb)))
/-- Another tree is stored into the box. -/
theorem TBox.put {w : World} {T : Nat → Prop} {B : Nat} (hB : ¬ T B) {c0 c1 c2 c3 c4 c5 : Value} (hb : Box6 w B c0 c1 c2 c3 c4 c5) (v : TV) (t : Tr) (h : RepT w T v t) :
    TBox ((((((w.setCell ⟨B, 0, none⟩ (.int .i64 v.kind)).setCell ⟨B, 1, none⟩ (.string v.text)).setCell ⟨B, 2, none⟩ (.float .f64 v.num)).setCell ⟨B, 3, none⟩ (.bool v.yes)).setCell ⟨B, 4, none⟩ (.slice v.ka v.kn v.kc)).setCell ⟨B, 5, none⟩ (.slice v.ca v.cn v.cc)) T B t :=
  ⟨v, hb.put6 _ _ _ _ _ _, h.put6 hB _ _ _ _ _ _⟩
/-- .. into another box. -/
theorem TBox.far {w : World} {T : Nat → Prop} {B B' : Nat} {t : Tr} (h : TBox w T B t) (hB : ¬ T B') (hne : B ≠ B') (v0 v1 v2 v3 v4 v5 : Value) :
    TBox ((((((w.setCell ⟨B', 0, none⟩ v0).setCell ⟨B', 1, none⟩ v1).setCell ⟨B', 2, none⟩ v2).setCell ⟨B', 3, none⟩ v3).setCell ⟨B', 4, none⟩ v4).setCell ⟨B', 5, none⟩ v5) T B t := by
  obtain ⟨v, h1, h2⟩ := h.box
  exact ⟨v, h1.keep ((grownBy_put6 w B' _ _ _ _ _ _).block B h.lt (fun e => by injection e with e; exact hne e)), h2.put6 hB _ _ _ _ _ _⟩

theorem SetsAt.on {w w' : World} {a : Option Addr} {sets : List SetM} (h : SetsAt w (fun _ => True) a sets) (hb : Below w.heap.size w w') : SetsAt w' (fun _ => True) a sets := h.keep (Keeps.of_below _ hb)
theorem SetsAt.lts {w : World} {S : Nat → Prop} {a : Option Addr} {sets : List SetM} (h : SetsAt w S a sets) : SetsAt w (fun b => b < w.heap.size) a sets := h.mono (fun _ hb _ => hb)

theorem prs_mapE (es : List (ByteArray × Tr)) : prs (mapE es) = es := by
  unfold prs
  rw [mapE_keys, mapE_kids, List.zip_map', List.map_id']

set_option maxRecDepth 100000 in
set_option maxHeartbeats 4000000 in
theorem map_made (ps : List SetM) (S : Nat → Prop) (a : Option Addr) (c : Nat) (w : World) (h : SetsAt w S a ps) (hS : ∀ b, S b → b < w.heap.size) (hl : ps.length ≤ 1000000000) :
    Calls Tryz.prog 42 #[.slice a ps.length c] w (TreeS w S (mapE (mapL ps))) := by
  have Hh := Lib.hid h; clear h
  have HS := Lib.hid hS; clear hS
  go_enter Tryz.func42, Tryz.ntmps42
  go_wp2_with fail
  go_loopw [4] (fun i wr => ∃ k : Nat, k ≤ ps.length ∧ i = .int .i64 k ∧ TBox wr (fun b => S b ∨ w.heap.size + 2 ≤ b) (w.heap.size + 1) (mapE (mapL (ps.take k))) ∧ Zero6 wr w.heap.size ∧ Below w.heap.size w wr) (fun i _ => ps.length - (intOf i).toNat)
  case atStart =>
    refine ⟨0, Nat.zero_le _, rfl, ?_, Box6.alloc (heap_alloc_new w _), ((Below.refl _ _).alloc (Nat.le_refl _) _).alloc (by simp) _⟩
    have hbx := heap_alloc_new (w.alloc (.cells #[.int .i64 0, .string ⟨#[]⟩, .float .f64 0, .bool false, .slice none 0 0, .slice none 0 0] 31)) (.cells #[.int .i64 5, .string ⟨#[]⟩, .float .f64 0, .bool false, .slice none 0 0, .slice none 0 0] 31)
    rw [World.size_alloc] at hbx
    exact ⟨⟨5, ⟨#[]⟩, 0, false, none, 0, 0, none, 0, 0⟩, hbx, by rw [List.take_zero]; exact rep_map0 _ _⟩
  case round =>
    obtain ⟨k, hk, rfl, hbx, hz, hbel⟩ := hrel
    obtain ⟨v, hbox, hv⟩ := hbx.box
    by_cases hlt : k < ps.length
    · obtain ⟨b', o, u, hca, hSb, hlb, c0, c1, c2, c3, c4, c5, c6, hu⟩ := (Hh.out.keep (Keeps.of_below _ hbel)).cells (k := k) hlt
      subst hca
      have Htake : Hid (ps.take (k + 1) = ps.take k ++ [ps[k]]) := Lib.hid (List.take_succ_eq_append_getElem hlt)
      have Hlen : Hid ((mapL (ps.take k)).length ≤ k) := Lib.hid (Nat.le_trans (mapL_length _) (by rw [List.length_take]; omega))
      have hc : ∀ wx, Below wr.heap.size wr wx → Calls Tryz.prog 45 #[v.val, .string ps[k].name, u.val] wx fun e w' => ∃ v' : TV, e = .returned v'.val ∧ RepT w' (fun b => S b ∨ w.heap.size + 2 ≤ b) v' (mapE (mapL (ps.take (k + 1)))) ∧ Below wr.heap.size wr w' := by
        intro wx hbx
        have hsz := hbel.size
        have hsx := hbx.size
        have hB := (Array.getElem?_eq_some_iff.1 hbox).1
        have h1 := (hv.mono (S' := fun b => b < wr.heap.size ∧ (S b ∨ w.heap.size + 2 ≤ b)) (fun b hb h => ⟨hb, h⟩)).keep (Keeps.of_below _ hbx)
        have h2 := (hu.mono (S' := fun b => b < wr.heap.size ∧ (S b ∨ w.heap.size + 2 ≤ b)) (fun b hb h => ⟨hb, .inl h⟩)).keep (Keeps.of_below _ hbx)
        refine (with_any _ _ ps[k].name _ v u wx h1 h2 (fun b hb => by omega) (by rw [mapE_keys, mapE_kids, List.length_map, List.length_map]) (by rw [mapE_kids, List.length_map]; have := Hlen.out; omega)).mono ?_
        rintro e w' ⟨v', rfl, hv', hb'⟩
        refine ⟨v', rfl, ?_, via hbx hb'⟩
        rw [Htake.out, mapL_snoc]
        have e1 := prs_mapE (mapL (ps.take k))
        unfold prs at e1
        rw [e1] at hv'
        exact hv'.mono (fun b _ hb => by rcases hb with hb | hb; exact hb.2; exact .inr (by omega))
      have Hc := Lib.hid hc; clear hc
      generalize ps[k] = s at *
      obtain ⟨kind, text, num, yes, ka, kn, kc, ca, cn, cc⟩ := v
      obtain ⟨kind', text', num', yes', ka', kn', kc', ca', cn', cc'⟩ := u
      simp only at c1 c2 c3 c4 c5 c6
      obtain ⟨b0, b1, b2, b3, b4, b5, bf, bl⟩ := hbox.cells
      simp only at b0 b1 b2 b3 b4 b5
      have Hbox := Lib.hid hbox; clear hbox
      have Hz := Lib.hid hz; clear hz
      have Hbel := Lib.hid hbel; clear hbel
      clear hbx hv hu Htake
      have hi1 : (0 : Int) ≤ (k : Int) := by omega
      have hi2 : (k : Int) < (ps.length : Int) := by omega
      go_wp2_with fail
      go_region_law (go_simp; go_at_call 45; refine (Hc.out _ (by first | exact Below.refl _ _ | exact (Below.refl _ _).drew)).mono ?_; rintro e w2 ⟨⟨kind2, text2, num2, yes2, ka2, kn2, kc2, ca2, cn2, cc2⟩, rfl, hV, hb2⟩; have hbox2 := Hbox.out.below hb2; obtain ⟨z0, z1, z2, z3, z4, z5, zf, zl⟩ := hbox2.cells)
      all_goals (
        go_wp2_with fail
        go_roundw
        case rel => exact ⟨k + 1, by omega, by simp, TBox.put (fun h => by rcases h with h | h; have := HS.out _ h; omega; omega) hbox2 ⟨kind2, text2, num2, yes2, ka2, kn2, kc2, ca2, cn2, cc2⟩ _ hV, (Hz.out.below hb2).keep ((grownBy_put6 _ _ _ _ _ _ _ _).block _ (by have := Hbel.out.size; have := hb2.size; omega) (by simp)), Below.put6' (via Hbel.out hb2) (by omega) _ _ _ _ _ _⟩
        case measure => simp [intOf]; omega)
    · obtain rfl : k = ps.length := by omega
      obtain ⟨kind, text, num, yes, ka, kn, kc, ca, cn, cc⟩ := v
      obtain ⟨b0, b1, b2, b3, b4, b5, bf, bl⟩ := hbox.cells
      obtain ⟨z0, z1, z2, z3, z4, z5, zf, zl⟩ := hz.cells
      simp only at b0 b1 b2 b3 b4 b5
      rw [List.take_length] at hv
      have Hz := Lib.hid hz; clear hz
      have Hv := Lib.hid hv; clear hv
      have Hbel := Lib.hid hbel; clear hbel
      clear hbx hbox
      go_wp2_with fail
      obtain ⟨p0, p1, p2, p3, p4, p5, _, _⟩ := (Hz.out.put6 (.int .i64 kind) (.string text) (.float .f64 num) (.bool yes) (.slice ka kn kc) (.slice ca cn cc)).cells
      refine bodyPost_ret (v := .agg #[.int .i64 kind, .string text, .float .f64 num, .bool yes, .slice ka kn kc, .slice ca cn cc]) (by simp [results, Tryz.results42, go_sem, p0, p1, p2, p3, p4, p5]) rfl ?_
      exact ⟨⟨kind, text, num, yes, ka, kn, kc, ca, cn, cc⟩, rfl, (Hv.out.put6 (fun h => by rcases h with h | h; have := HS.out _ h; omega; omega) _ _ _ _ _ _).mono (fun b _ hb => by rcases hb with hb | hb; exact .inl hb; exact .inr (by omega)), Below.put6 Hbel.out (Nat.le_refl _) _ _ _ _ _ _⟩
end Go.Proofs.YtbcnhcpgloncdaaGreatDoor
/- 'beside', 'pick', 'Params', 'Count': what each returns. -/
namespace Go.Proofs.YtbcnhcpgloncdaaGreatDoor
open Go Go.RowKit Go.BigFrame

theorem below_grow (w : World) (q : Nat) (os : Array Obj) : Below w.heap.size w (Sort.grow (w.drewN q) os) :=
  ⟨rfl, rfl, rfl, by simp [Sort.grow], fun i hi => by
    show ((w.drewN q).heap ++ os)[i]? = _
    rw [Array.getElem?_append_left (by show i < w.heap.size; omega)]
    rfl⟩

theorem sets_one (w : World) (k : ByteArray) (v : TV) (t : Tr) {S : Nat → Prop} (h : RepT w S v t) (hS : S w.heap.size) (e : TypeId) :
    SetsAt (w.alloc (.cells #[.string k, .int .i64 v.kind, .string v.text, .float .f64 v.num, .bool v.yes, .slice v.ka v.kn v.kc, .slice v.ca v.cn v.cc] e)) S (some ⟨w.heap.size, 0, none⟩) [⟨k, t⟩] := by
  have hb := (Below.refl w.heap.size w).alloc (Nat.le_refl _) (.cells #[.string k, .int .i64 v.kind, .string v.text, .float .f64 v.num, .bool v.yes, .slice v.ka v.kn v.kc, .slice v.ca v.cn v.cc] e)
  refine ⟨fun _ => v, ?_, ?_⟩
  · intro _
    refine ⟨w.heap.size, 0, rfl, hS, fun i hi j u hu => ?_⟩
    have h0 : i = 0 := by simpa using hi
    subst h0
    have := World.cell?_alloc_new w #[.string k, .int .i64 v.kind, .string v.text, .float .f64 v.num, .bool v.yes, .slice v.ka v.kn v.kc, .slice v.ca v.cn v.cc] e (0 + 0 * 7 + j)
    rw [this, ← hu]
    simp
  · intro i s hs
    have h0 : i = 0 := by have := (List.getElem?_eq_some_iff.1 hs).1; simpa using this
    subst h0
    simp at hs
    subst hs
    exact h.keep (Keeps.of_below S hb)
theorem mapL_one (k : ByteArray) (t : Tr) : mapE (mapL [⟨k, t⟩]) = mapT [k] [t] := rfl

/-- 'Map' of one pair, laid new. -/
theorem map_one (k : ByteArray) (v : TV) (t : Tr) (S : Nat → Prop) (w : World) (h : RepT w S v t) :
    Calls Tryz.prog 42 #[.slice (some ⟨w.heap.size, 0, none⟩) 1 1] (w.alloc (.cells #[.string k, .int .i64 v.kind, .string v.text, .float .f64 v.num, .bool v.yes, .slice v.ka v.kn v.kc, .slice v.ca v.cn v.cc] 81))
      fun e w' => ∃ v' : TV, e = .returned v'.val ∧ RepT w' (fun b => S b ∨ w.heap.size ≤ b) v' (mapT [k] [t]) ∧ Below w.heap.size w w' := by
  have hs := sets_one w k v t (S := fun b => b < w.heap.size + 1 ∧ (S b ∨ w.heap.size ≤ b)) (h.mono (fun b hb hS => ⟨by omega, .inl hS⟩)) ⟨by omega, .inr (Nat.le_refl _)⟩ 81
  refine (map_made [⟨k, t⟩] _ _ 1 _ hs (fun b hb => by simp; omega) (by simp)).mono ?_
  rintro e w' ⟨v', rfl, hv, hb⟩
  refine ⟨v', rfl, ?_, via ((Below.refl _ _).alloc (Nat.le_refl _) _) hb⟩
  rw [mapL_one] at hv
  exact hv.mono (fun b _ hb => by
    rcases hb with hb | hb
    · exact hb.2
    · simp at hb; exact .inr (by omega))

set_option maxRecDepth 100000 in
set_option maxHeartbeats 4000000 in
theorem beside_any (kind : ByteArray) (ps : List SetM) (S : Nat → Prop) (a : Option Addr) (c : Nat) (w : World) (h : SetsAt w S a ps) (hS : ∀ b, S b → b < w.heap.size) (hl : ps.length ≤ 1000000000) :
    Calls Tryz.prog 52 #[.string kind, .slice a ps.length c] w (TreeS w S (besideT kind ps)) := by
  have Hh := Lib.hid h; clear h
  have HS := Lib.hid hS; clear hS
  go_enter Tryz.func52, Tryz.ntmps52
  go_wp2_with fail
  have hb0 := (Below.refl w.heap.size w).alloc (Nat.le_refl _) (.cells #[.int .i64 0, .string ⟨#[]⟩, .float .f64 0, .bool false, .slice none 0 0, .slice none 0 0] 31)
  refine (map_made ps S a c _ (Hh.out.keep (Keeps.of_below _ hb0)) (fun b hb => by have := HS.out b hb; simp; omega) hl).mono ?_
  rintro e w2 ⟨v, rfl, hv, hb2⟩
  have hz2 : Zero6 w2 w.heap.size := Box6.below (heap_alloc_new w _) hb2
  have hs2 := hb2.size
  simp only [World.size_alloc] at hs2 hv
  have Hv := Lib.hid hv; clear hv
  have Hz2 := Lib.hid hz2; clear hz2
  have Hb2 := Lib.hid (via hb0 hb2); clear hb2 hb0
  obtain ⟨kd, tx, nm, ys, ka, kn, kc, ca, cn, cc⟩ := v
  go_wp2_with fail
  refine (map_one kind ⟨kd, tx, nm, ys, ka, kn, kc, ca, cn, cc⟩ _ _ w2 Hv.out).mono ?_
  rintro e w3 ⟨v3, rfl, hv3, hb3⟩
  have hz3 := Hz2.out.below hb3
  obtain ⟨z0, z1, z2, z3, z4, z5, zf, zl⟩ := hz3.cells
  have Hv3 := Lib.hid hv3; clear hv3
  have Hb3 := Lib.hid (via Hb2.out hb3); clear hb3
  have Hz3 := Lib.hid hz3; clear hz3
  obtain ⟨kd3, tx3, nm3, ys3, ka3, kn3, kc3, ca3, cn3, cc3⟩ := v3
  go_wp2_with fail
  obtain ⟨p0, p1, p2, p3, p4, p5, _, _⟩ := (Hz3.out.put6 (.int .i64 kd3) (.string tx3) (.float .f64 nm3) (.bool ys3) (.slice ka3 kn3 kc3) (.slice ca3 cn3 cc3)).cells
  refine bodyPost_ret (v := .agg #[.int .i64 kd3, .string tx3, .float .f64 nm3, .bool ys3, .slice ka3 kn3 kc3, .slice ca3 cn3 cc3]) (by simp [results, Tryz.results52, go_sem, p0, p1, p2, p3, p4, p5]) rfl ?_
  have h3 := Hv3.out.mono (S' := fun b => S b ∨ w.heap.size + 1 ≤ b) (fun b _ hb => by
    rcases hb with (hb | hb) | hb
    · exact .inl hb
    · exact .inr hb
    · exact .inr (by omega))
  exact ⟨⟨kd3, tx3, nm3, ys3, ka3, kn3, kc3, ca3, cn3, cc3⟩, rfl, (h3.put6 (fun h => by rcases h with h | h; have := HS.out _ h; omega; omega) _ _ _ _ _ _).mono (fun b _ hb => by rcases hb with hb | hb; exact .inl hb; exact .inr (by omega)), Below.put6 Hb3.out (Nat.le_refl _) _ _ _ _ _ _⟩

theorem Tryz.info81 : (Tryz.prog.info? 81).map (fun i => (i.zero, i.size, i.bytes)) = some (some (.agg #[.string ⟨#[]⟩, .int .i64 0, .string ⟨#[]⟩, .float .f64 0, .bool false, .slice none 0 0, .slice none 0 0]), 7, 104) := by kernel_rfl
theorem pickL_length (ps : List SetM) (wo : List ByteArray) : (pickL ps wo).length ≤ ps.length := List.length_filter_le _ _
theorem pickL_snoc (ps : List SetM) (s : SetM) (wo : List ByteArray) : pickL (ps ++ [s]) wo = pickL ps wo ++ (if memB s.name wo then [] else [s]) := by
  unfold pickL
  rw [List.filter_append]
  cases h : memB s.name wo <;> simp [h]

set_option maxRecDepth 100000 in
set_option maxHeartbeats 4000000 in
theorem pick_any (ps : List SetM) (wo : List ByteArray) (S : Nat → Prop) (a a' : Option Addr) (c c' : Nat) (w : World) (h : SetsAt w S a ps) (hS : ∀ b, S b → b < w.heap.size) (hl : ps.length ≤ 1000000) (h' : StrsAt w (fun _ => True) a' wo) (hl' : wo.length ≤ 1000000) :
    Calls Tryz.prog 95 #[.slice a ps.length c, .slice a' wo.length c'] w fun e w' => ∃ kv, e = .returned kv ∧ OwnL PairR pairCells 81 7 w' S w.heap.size kv (pickL ps wo) ∧ Below w.heap.size w w' := by
  obtain ⟨i0, hi, hz0, hz1, hz2⟩ := info_parts Tryz.info81
  have Hh := Lib.hid h; clear h
  have Hh' := Lib.hid h'; clear h'
  have HS := Lib.hid hS; clear hS
  go_enter Tryz.func95, Tryz.ntmps95
  go_wp2_with fail
  go_loopw [5, 6] (fun v i wr => ∃ k : Nat, k ≤ ps.length ∧ i = .int .i64 k ∧ OwnL PairR pairCells 81 7 wr S w.heap.size v (pickL (ps.take k) wo) ∧ Below w.heap.size w wr) (fun _ i _ => ps.length - (intOf i).toNat)
  case atStart => exact ⟨0, Nat.zero_le _, rfl, OwnL.made (World.ownsRow_made w #[] 0 (Nat.le_refl _) (by unfold maxLen; omega) rfl), (Below.refl _ _).alloc (Nat.le_refl _) _⟩
  case round =>
    obtain ⟨k, hk, rfl, hown, hbel⟩ := hrel
    by_cases hlt : k < ps.length
    · obtain ⟨b', o, u, hca, hSb, hlb, c0, c1, c2, c3, c4, c5, c6, hu⟩ := (Hh.out.keep (Keeps.of_below _ hbel)).cells (k := k) hlt
      subst hca
      have Htake : Hid (ps.take (k + 1) = ps.take k ++ [ps[k]]) := Lib.hid (List.take_succ_eq_append_getElem hlt)
      have hlen : (pickL (ps.take k) wo).length ≤ k := Nat.le_trans (pickL_length _ _) (by rw [List.length_take]; omega)
      have hHas := has_any wo ps[k].name _ a' c' wr (Hh'.out.keep (Keeps.of_below _ hbel)) (by omega)
      generalize ps[k] = s at *
      obtain ⟨kind, text, num, yes, ka, kn, kc, ca, cn, cc⟩ := u
      simp only at c1 c2 c3 c4 c5 c6
      have HHas := Lib.hid hHas; clear hHas
      have Hu := Lib.hid hu; clear hu
      obtain ⟨L, hL⟩ : ∃ L, L = pickL (ps.take k) wo := ⟨_, rfl⟩
      rw [← hL] at hown hlen
      have HL := Lib.hid hL; clear hL
      have hsz := hbel.size
      have Hbel := Lib.hid hbel; clear hbel
      obtain ⟨a2, cc2, hform⟩ := hown.form
      subst hform
      obtain ⟨vs, hvl, hrow, hreps⟩ := hown
      have Hreps := Lib.hid hreps; clear hreps
      have Hrow := Lib.hid hrow
      have Hvl := Lib.hid hvl; clear hvl
      have hi1 : (0 : Int) ≤ (k : Int) := by omega
      have hi2 : (k : Int) < (ps.length : Int) := by omega
      cases hm : memB s.name wo with
      | true =>
        rw [hm] at HHas
        have Hm := Lib.hid hm; clear hm hrow
        go_wp2_with (go_at_call 43; refine HHas.out.mono ?_; rintro e w' ⟨rfl, rfl⟩)
        go_roundw
        case rel => exact ⟨k + 1, by omega, by simp, by rw [Htake.out, pickL_snoc, Hm.out, ← HL.out]; simpa using ⟨vs, Hvl.out, Hrow.out, Hreps.out⟩, Hbel.out⟩
        case measure => simp [intOf]; omega
      | false =>
        rw [hm] at HHas
        have Hm := Lib.hid hm; clear hm
        go_wp2_with (first
          | (go_at_call 43; refine HHas.out.mono ?_; rintro e w' ⟨rfl, rfl⟩)
          | (at_builtin; refine wpList_append_lies _ rfl _ _ _ rfl w.heap.size 81 i0 _ 7 104 Tryz.underlying83 hi hz0 hz1 hz2 rfl (by omega) (.slice a2 L.length cc2) L.length _ rfl (hrow.alloc _) ⟨wr.heap.size, 0, none⟩ 1 1 [.string s.name, .int .i64 kind, .string text, .float .f64 num, .bool yes, .slice ka kn kc, .slice ca cn cc] rfl rfl (World.news_of_block (cs := #[.string s.name, .int .i64 kind, .string text, .float .f64 num, .bool yes, .slice ka kn kc, .slice ca cn cc]) (t := 81) (fr := (0, 0)) (heap_alloc_new wr _)) (by simp [Value.oneCell']) (by omega) (by unfold maxLen; omega) (by omega) (by simp; omega) (wr.heap.size + 1) (by simp) ?_; intro g cap w1 hown1 hgrow hat hlt1))
        have hbx : Below wr.heap.size wr (wr.alloc (.cells #[.string s.name, .int .i64 kind, .string text, .float .f64 num, .bool yes, .slice ka kn kc, .slice ca cn cc] 81)) := (Below.refl _ _).alloc (Nat.le_refl _) _
        have hpair : PairR wr S (s.name, ⟨kind, text, num, yes, ka, kn, kc, ca, cn, cc⟩) s := ⟨rfl, Hu.out⟩
        have hnew : OwnL PairR pairCells 81 7 w1 S w.heap.size (.slice (some ⟨g, 0, none⟩) (L.length + 1) cap) (L ++ [s]) :=
          OwnL.one (u := (s.name, ⟨kind, text, num, yes, ka, kn, kc, ca, cn, cc⟩)) pair_law Hvl.out (fun i v t hv ht => pair_law.keep (Hreps.out i v t hv ht) (Keeps.of_below _ hbx))
            (pair_law.keep (pair_law.mono hpair (fun b hb hSb => ⟨hSb, fun e => by have := (Hrow.out.lt b e).1; have := HS.out b hSb; omega⟩)) (Keeps.of_below _ hbx)) hown1 hgrow hat (by simp) rfl rfl
        have hbel1 : Below w.heap.size w w1 := (Hbel.out.alloc hsz _).grown hgrow (by simp; omega) (fun k hk => (Hrow.out.lt k hk).1)
        have Hnew := Lib.hid hnew
        have Hbel1 := Lib.hid hbel1
        clear hnew hbel1 hgrow hat hown1 hrow
        go_wp2_with fail
        go_roundw
        case rel => exact ⟨k + 1, by omega, by simp, by rw [Htake.out, pickL_snoc, Hm.out, ← HL.out]; exact Hnew.out, Hbel1.out⟩
        case measure => simp [intOf]; omega
    · obtain rfl : k = ps.length := by omega
      rw [List.take_length] at hown
      have Hown := Lib.hid hown; clear hown
      go_wp2_with fail
      refine bodyPost_ret (by simp [results, Tryz.results95, go_sem]; rfl) rfl ?_
      exact ⟨_, rfl, Hown.out, hbel⟩

set_option maxRecDepth 100000 in
set_option maxHeartbeats 4000000 in
theorem count_any (x n : Nat) (hn : n ≤ 1000000) (w : World) (hx : floatToIntVal .f64 x .i64 = some (n : Int)) (htab : Lib.TabIs Tryz.prog w "internal/strconv.uint64pow10" .u64 Lib.pow10Tab) :
    Calls Tryz.prog 97 #[.float .f64 x] w fun e w' => e = .returned (.string (itoaB x)) ∧ Below w.heap.size w w' := by
  have hcv := conv_int hx w
  have he : itoaB x = ⟨(Lib.itoa n).toArray⟩ := by unfold itoaB toI; rw [hx]; rfl
  have hc := Tryz.strconv_Itoa n (by omega) (by omega) w htab
  rw [he]
  have Hc := Lib.hid hc; clear hc he hx htab
  go_enter Tryz.func97, Tryz.ntmps97
  go_wp2_with fail
  refine Hc.out.mono ?_
  rintro e w2 ⟨rfl, k, os, rfl⟩
  have hb : Below w.heap.size w (Sort.grow (w.drewN k) os) := below_grow _ _ _
  have Hb := Lib.hid hb; clear hb
  go_wp2_with fail
  go_ret
  exact ⟨rfl, Hb.out⟩
end Go.Proofs.YtbcnhcpgloncdaaGreatDoor
