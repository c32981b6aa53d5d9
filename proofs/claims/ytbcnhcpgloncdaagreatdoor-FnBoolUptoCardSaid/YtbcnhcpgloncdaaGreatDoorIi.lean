/- A bool query: what the builder gives and what the reference says are the same, in plain data. -/
import Derived.Test.YtbcnhcpgloncdaaGreatDoorIh
namespace Go.Proofs.YtbcnhcpgloncdaaGreatDoor
open Go Go.RowKit Go.Maps Go.Sort

def n_bool : ByteArray := ⟨#[98, 111, 111, 108]⟩
def n_must : ByteArray := ⟨#[109, 117, 115, 116]⟩
def n_must_not : ByteArray := ⟨#[109, 117, 115, 116, 95, 110, 111, 116]⟩
def n_should : ByteArray := ⟨#[115, 104, 111, 117, 108, 100]⟩
def n_filter : ByteArray := ⟨#[102, 105, 108, 116, 101, 114]⟩
def n_adjust_pure_negative : ByteArray := ⟨#[97, 100, 106, 117, 115, 116, 95, 112, 117, 114, 101, 95, 110, 101, 103, 97, 116, 105, 118, 101]⟩
def n_minimum_number_should_match : ByteArray := ⟨#[109, 105, 110, 105, 109, 117, 109, 95, 110, 117, 109, 98, 101, 114, 95, 115, 104, 111, 117, 108, 100, 95, 109, 97, 116, 99, 104]⟩
def placesB : List ByteArray := [n_must, n_must_not, n_should, n_filter]

/-- What is under a name, read as a list where it is one, left out where it is nothing. -/
def besideKid (lists : List ByteArray) (k : ByteArray) (t : Tr) : Option Tr :=
  let u := if memB k lists && !(decide (t.kind = 4)) && !(decide (t.kind = 0)) then listT [t] else t
  if u.kind = 0 ∨ (memB k lists = true ∧ u.kids.length = 0) then none else some u
def besideE (lists : List ByteArray) (X : List (ByteArray × Tr)) : List (ByteArray × Tr) :=
  X.foldl (fun out p => match besideKid lists p.1 p.2 with | some u => withE p.1 u false out | none => out) []

theorem asc_beside_go (lists : List ByteArray) (X out : List (ByteArray × Tr)) (h : Asc out) : Asc (X.foldl (fun out p => match besideKid lists p.1 p.2 with | some u => withE p.1 u false out | none => out) out) := by
  induction X generalizing out with
  | nil => exact h
  | cons p X ih =>
    rw [List.foldl_cons]
    apply ih
    split
    · exact asc_with h
    · exact h
theorem asc_besideE (lists : List ByteArray) (X : List (ByteArray × Tr)) : Asc (besideE lists X) := asc_beside_go lists X [] List.Pairwise.nil
theorem lookE_beside_go (lists : List ByteArray) (X out : List (ByteArray × Tr)) (hn : (X.map (·.1)).Nodup) (k : ByteArray) :
    lookE (X.foldl (fun out p => match besideKid lists p.1 p.2 with | some u => withE p.1 u false out | none => out) out) k = ((lookE X k).bind (besideKid lists k)).or (lookE out k) := by
  induction X generalizing out with
  | nil => simp [lookE_nil]
  | cons p X ih =>
    rw [List.map_cons, List.nodup_cons] at hn
    rw [List.foldl_cons, ih _ hn.2, lookE_cons]
    by_cases hp : p.1 = k
    · have hx : lookE X k = none := lookE_none (fun q hq e => hn.1 (by rw [hp, ← e]; exact List.mem_map.2 ⟨q, hq, rfl⟩))
      rw [hx, if_pos hp]
      subst hp
      cases hb : besideKid lists p.1 p.2 with
      | none => simp [hb]
      | some u => simp [hb, lookE_with]
    · rw [if_neg hp]
      have : lookE (match besideKid lists p.1 p.2 with | some u => withE p.1 u false out | none => out) k = lookE out k := by
        cases hb : besideKid lists p.1 p.2 with
        | none => rfl
        | some u => simp only [lookE_with]; rw [if_neg (fun e => hp e.symm)]
      rw [this]
theorem lookE_besideE (lists : List ByteArray) {X : List (ByteArray × Tr)} (hn : (X.map (·.1)).Nodup) (k : ByteArray) : lookE (besideE lists X) k = (lookE X k).bind (besideKid lists k) := by
  have := lookE_beside_go lists X [] hn k
  simpa [lookE_nil, besideE] using this

/-- The clauses of a place. -/
def clauseK (t : Tr) : List Tr := if t.kind = 4 then t.kids else [t]
def clausesT (place : ByteArray) (sets : List SetM) : List Tr := sets.flatMap fun s => if s.name = place then clauseK s.val else []
theorem clausesT_snoc (place : ByteArray) (l : List SetM) (s : SetM) : clausesT place (l ++ [s]) = clausesT place l ++ (if s.name = place then clauseK s.val else []) := by simp [clausesT]

def itoaB (x : Nat) : ByteArray := ⟨(Lib.itoa (toI x)).toArray⟩
/-- How many should match, as is set at last. -/
def msmStep (m : ByteArray) (s : SetM) : ByteArray := if s.name = n_minimum_should_match then s.val.text else if s.name = n_minimum_number_should_match then itoaB s.val.num else m
def msmOf (sets : List SetM) : ByteArray := sets.foldl msmStep ⟨#[]⟩
theorem msmOf_snoc (l : List SetM) (s : SetM) : msmOf (l ++ [s]) = msmStep (msmOf l) s := by simp [msmOf]

/-- What the builder writes. -/
def placeEnt (nf : Tr → Tr) (place : ByteArray) : List Tr → List (ByteArray × Tr)
  | [] => []
  | [t] => [(place, nf t)]
  | t :: u :: r => [(place, listT ((t :: u :: r).map nf))]
def numEnt (key : ByteArray) : Option Tr → List (ByteArray × Tr) | none => [] | some t => [(key, numT t.num)]
def yesEnt (key : ByteArray) : Option Tr → List (ByteArray × Tr) | none => [] | some t => [(key, yesT t.yes)]
def textEnt (key : ByteArray) (s : ByteArray) : List (ByteArray × Tr) := if s = ⟨#[]⟩ then [] else [(key, textT s)]
def textLast (sets : List SetM) (nm : ByteArray) : ByteArray := ((lastOf sets nm).map Tr.text).getD ⟨#[]⟩

def boolEnts (sets : List SetM) : List (List (ByteArray × Tr)) :=
  [placeEnt (normT 100) n_must (clausesT n_must sets), placeEnt (normT 100) n_must_not (clausesT n_must_not sets), placeEnt (normT 100) n_filter (clausesT n_filter sets), placeEnt (normT 100) n_should (clausesT n_should sets),
    numEnt n_boost (lastOf sets n_boost), textEnt n_minimum_should_match (msmOf sets), yesEnt n_adjust_pure_negative (lastOf sets n_adjust_pure_negative), textEnt n__name (textLast sets n__name)]
def keysB : List ByteArray := [n_must, n_must_not, n_filter, n_should, n_boost, n_minimum_should_match, n_adjust_pure_negative, n__name]
def boolSrc (sets : List SetM) (i : Nat) : List (ByteArray × Tr) := ((boolEnts sets).take i).flatMap id
def boolT (sets : List SetM) : Tr := mapTree [(n_bool, mapTree (boolSrc sets 8))]

theorem placeEnt_keys (nf : Tr → Tr) (place : ByteArray) (ts : List Tr) : ((placeEnt nf place ts).map (·.1)).Sublist [place] := by
  match ts with
  | [] => simp [placeEnt]
  | [t] => simp [placeEnt]
  | t :: u :: r => simp [placeEnt]
theorem numEnt_keys (k : ByteArray) (o : Option Tr) : ((numEnt k o).map (·.1)).Sublist [k] := by cases o <;> simp [numEnt]
theorem yesEnt_keys (k : ByteArray) (o : Option Tr) : ((yesEnt k o).map (·.1)).Sublist [k] := by cases o <;> simp [yesEnt]
theorem textEnt_keys (k s : ByteArray) : ((textEnt k s).map (·.1)).Sublist [k] := by unfold textEnt; split <;> simp
theorem lookE_ent {es : List (ByteArray × Tr)} {key : ByteArray} (h : (es.map (·.1)).Sublist [key]) {k : ByteArray} (hk : key ≠ k) : lookE es k = none :=
  lookE_none (fun p hp e => hk (by
    have h1 := h.subset (List.mem_map.2 ⟨p, hp, rfl⟩)
    have h2 : p.1 = key := by simpa using h1
    rw [← e, h2]))

/-- Parts, each of one key. -/
inductive PartsK : List (List (ByteArray × Tr)) → List ByteArray → Prop
  | nil : PartsK [] []
  | cons {es : List (ByteArray × Tr)} {k : ByteArray} {ess : List (List (ByteArray × Tr))} {ks : List ByteArray} (h : (es.map (·.1)).Sublist [k]) (r : PartsK ess ks) : PartsK (es :: ess) (k :: ks)
theorem PartsK.keys {ess : List (List (ByteArray × Tr))} {ks : List ByteArray} (h : PartsK ess ks) : ((ess.flatMap id).map (·.1)).Sublist ks := by
  induction h with
  | nil => simp
  | cons h r ih => rw [List.flatMap_cons, List.map_append]; exact h.append ih
theorem PartsK.none {ess : List (List (ByteArray × Tr))} {ks : List ByteArray} (h : PartsK ess ks) {k : ByteArray} (hk : k ∉ ks) : lookE (ess.flatMap id) k = none :=
  lookE_none (fun p hp e => hk (by rw [← e]; exact h.keys.subset (List.mem_map.2 ⟨p, hp, rfl⟩)))
theorem PartsK.at {ess : List (List (ByteArray × Tr))} {ks : List ByteArray} (h : PartsK ess ks) (hn : ks.Nodup) (i : Nat) (es : List (ByteArray × Tr)) (k : ByteArray) (h1 : ess[i]? = some es) (h2 : ks[i]? = some k) : lookE (ess.flatMap id) k = lookE es k := by
  induction h generalizing i with
  | nil => simp at h1
  | cons h r ih =>
    rw [List.nodup_cons] at hn
    rw [List.flatMap_cons, lookE_append]
    cases i with
    | zero =>
      simp at h1 h2
      subst h1 h2
      rw [r.none hn.1]
      simp
    | succ i =>
      simp at h1 h2
      have hk := List.mem_of_getElem? h2
      have e0 := lookE_ent h (k := k) (fun e => hn.1 (by rw [e]; exact hk))
      rw [id_eq, e0, ih hn.2 i h1 h2]
      simp
theorem boolEnts_parts (sets : List SetM) : PartsK (boolEnts sets) keysB :=
  .cons (placeEnt_keys _ _ _) (.cons (placeEnt_keys _ _ _) (.cons (placeEnt_keys _ _ _) (.cons (placeEnt_keys _ _ _) (.cons (numEnt_keys _ _) (.cons (textEnt_keys _ _) (.cons (yesEnt_keys _ _) (.cons (textEnt_keys _ _) .nil)))))))
theorem keysB_nodup : keysB.Nodup := by decide +kernel
theorem boolSrc_8 (sets : List SetM) : boolSrc sets 8 = (boolEnts sets).flatMap id := rfl
theorem boolSrc_nodup (sets : List SetM) : ((boolSrc sets 8).map (·.1)).Nodup := (boolEnts_parts sets).keys.nodup keysB_nodup
theorem boolSrc_length (sets : List SetM) : (boolSrc sets 8).length ≤ 8 := by
  have := (boolEnts_parts sets).keys.length_le
  rw [List.length_map] at this
  exact this
theorem boolSrc_succ (sets : List SetM) {i : Nat} {es : List (ByteArray × Tr)} (h : (boolEnts sets)[i]? = some es) : boolSrc sets (i + 1) = boolSrc sets i ++ es := by
  unfold boolSrc
  obtain ⟨hi, he⟩ := List.getElem?_eq_some_iff.1 h
  rw [List.take_succ_eq_append_getElem hi, List.flatMap_append, he]
  simp

/-- What the reference says: the settings that are one value, as they are set at last. -/
def valueKinds : List ByteArray := [kT, kN, kW, kB, kV]
def paramOf (sets : List SetM) (r : ByteArray × ByteArray) : List SetM := match lastOf sets r.1 with | some v => if memB r.2 valueKinds then [⟨r.1, v⟩] else [] | none => []
def paramsL (rs : List (ByteArray × ByteArray)) (sets : List SetM) : List SetM := rs.flatMap (paramOf sets)
def pickL (ps : List SetM) (wo : List ByteArray) : List SetM := ps.filter fun p => !memB p.name wo
def placeP (sets : List SetM) (pl : ByteArray) : List SetM := if 0 < (clausesT pl sets).length then [⟨pl, listT (clausesT pl sets)⟩] else []
def msmP1 (s : SetM) : List SetM := if s.name = n_minimum_should_match then [⟨n_minimum_should_match, s.val⟩] else if s.name = n_minimum_number_should_match then [⟨n_minimum_should_match, textT (itoaB s.val.num)⟩] else []
def specPairs (sets : List SetM) : List SetM := pickL (paramsL rsBool sets) [n_minimum_should_match, n_minimum_number_should_match] ++ placesB.flatMap (placeP sets) ++ sets.flatMap msmP1
def besideT (kind : ByteArray) (ps : List SetM) : Tr := mapT [kind] [mapE (mapL ps)]

theorem lastOf_append (a b : List SetM) (k : ByteArray) : lastOf (a ++ b) k = (lastOf b k).or (lastOf a k) := by
  unfold lastOf
  rw [List.reverse_append, List.find?_append]
  cases b.reverse.find? (fun s => decide (s.name = k)) <;> simp
theorem lastOf_nil (k : ByteArray) : lastOf [] k = none := rfl
theorem lastOf_one (s : SetM) (k : ByteArray) : lastOf [s] k = if s.name = k then some s.val else none := by
  have := lastOf_snoc [] s k
  simpa [lastOf_nil] using this
theorem lastOf_pick (ps : List SetM) (wo : List ByteArray) (k : ByteArray) : lastOf (pickL ps wo) k = if memB k wo then none else lastOf ps k := by
  induction ps using snoc_ind with
  | h0 => simp [pickL, lastOf_nil]
  | h1 l a ih =>
    unfold pickL at *
    rw [List.filter_append, lastOf_append, ih, lastOf_snoc]
    by_cases ha : a.name = k
    · subst ha
      cases hm : memB a.name wo <;> simp [hm, lastOf_nil, lastOf_one]
    · rw [if_neg ha]
      have : lastOf ([a].filter fun p => !memB p.name wo) k = none := by
        cases hm : memB a.name wo <;> simp [hm, lastOf_nil, lastOf_one, ha]
      rw [this]; simp
theorem paramOf_ne (sets : List SetM) (r : ByteArray × ByteArray) {k : ByteArray} (h : r.1 ≠ k) : lastOf (paramOf sets r) k = none := by
  unfold paramOf
  split
  · split
    · rw [lastOf_one, if_neg h]
    · rfl
  · rfl
theorem lastOf_params_none {rs : List (ByteArray × ByteArray)} (sets : List SetM) {k : ByteArray} (h : k ∉ rs.map (·.1)) : lastOf (paramsL rs sets) k = none := by
  induction rs with
  | nil => rfl
  | cons r rs ih =>
    rw [List.map_cons, List.mem_cons] at h
    unfold paramsL at *
    rw [List.flatMap_cons, lastOf_append, ih (fun hm => h (.inr hm)), paramOf_ne sets r (fun e => h (.inl e.symm))]
    rfl
theorem lastOf_params {rs : List (ByteArray × ByteArray)} (sets : List SetM) (hn : (rs.map (·.1)).Nodup) {k kd : ByteArray} (h : (k, kd) ∈ rs) : lastOf (paramsL rs sets) k = if memB kd valueKinds then lastOf sets k else none := by
  induction rs with
  | nil => cases h
  | cons r rs ih =>
    rw [List.map_cons, List.nodup_cons] at hn
    have e : paramsL (r :: rs) sets = paramOf sets r ++ paramsL rs sets := by unfold paramsL; rw [List.flatMap_cons]
    rw [e, lastOf_append]
    rcases List.mem_cons.1 h with h | h
    · subst h
      rw [lastOf_params_none sets hn.1]
      unfold paramOf
      simp only [Option.none_or]
      cases lastOf sets k with
      | none => simp [lastOf_nil]
      | some v => cases memB kd valueKinds <;> simp [lastOf_nil, lastOf_one]
    · rw [ih hn.2 h, paramOf_ne sets r (fun e => hn.1 (List.mem_map.2 ⟨_, h, e.symm⟩))]
      simp
theorem lastOf_places (sets : List SetM) {pls : List ByteArray} (hn : pls.Nodup) (k : ByteArray) : lastOf (pls.flatMap (placeP sets)) k = if memB k pls = true ∧ 0 < (clausesT k sets).length then some (listT (clausesT k sets)) else none := by
  induction pls with
  | nil => simp [lastOf_nil, memB]
  | cons p pls ih =>
    rw [List.nodup_cons] at hn
    rw [List.flatMap_cons, lastOf_append, ih hn.2]
    have hc : memB k (p :: pls) = (decide (p = k) || memB k pls) := by simp [memB]
    rw [hc]
    by_cases hp : p = k
    · subst hp
      have h0 : memB p pls = false := memB_false.2 hn.1
      rw [h0]
      unfold placeP
      by_cases h0 : 0 < (clausesT p sets).length
      · rw [if_pos h0, lastOf_one]; simp [h0]
      · rw [if_neg h0, lastOf_nil]; simp [h0]
    · have : lastOf (placeP sets p) k = none := by
        unfold placeP
        split
        · rw [lastOf_one, if_neg hp]
        · rfl
      rw [this]
      simp [hp]
theorem lastOf_msm_ne (sets : List SetM) {k : ByteArray} (h : n_minimum_should_match ≠ k) : lastOf (sets.flatMap msmP1) k = none := by
  induction sets with
  | nil => rfl
  | cons s sets ih =>
    rw [List.flatMap_cons, lastOf_append, ih]
    unfold msmP1
    split
    · rw [lastOf_one, if_neg h]; rfl
    · split
      · rw [lastOf_one, if_neg h]; rfl
      · rfl

/-- What settings that fit are. -/
theorem fitBool_kind {s : SetM} {kd : ByteArray} (h : fitBool s = true) (hk : kindOf rsBool s.name = kd) : fitQ kd s.val = true := by
  unfold fitBool at h
  rwa [hk] at h
theorem fitQ_ne {kd : ByteArray} (hk : kd ≠ kQ) (t : Tr) : fitQ kd t = fitK kd t := by unfold fitQ; rw [if_neg hk]
theorem scalarT_P (t : Tr) : scalarT t = scalarP t := rfl
theorem num_same {t : Tr} (h : fitK kN t = true) : SameT (numT t.num) t := by
  have e : fitK kN t = (decide (t.kind = 2) && scalarT t) := rfl
  rw [e, Bool.and_eq_true] at h
  have hk : t.kind = 2 := by simpa using h.1
  have := leaf_same (t := t) (by rw [← scalarT_P]; exact h.2)
  rwa [show leafT t = numT t.num by unfold leafT; rw [hk]; rfl] at this
theorem yes_same {t : Tr} (h : fitK kB t = true) : SameT (yesT t.yes) t := by
  have e : fitK kB t = (decide (t.kind = 3) && scalarT t) := rfl
  rw [e, Bool.and_eq_true] at h
  have hk : t.kind = 3 := by simpa using h.1
  have := leaf_same (t := t) (by rw [← scalarT_P]; exact h.2)
  rwa [show leafT t = yesT t.yes by unfold leafT; rw [hk]; rfl] at this
theorem text_same {t : Tr} (h : fitK kT t = true) : SameT (textT t.text) t ∧ t.text ≠ ⟨#[]⟩ := by
  have e : fitK kT t = (decide (t.kind = 1) && scalarT t) := rfl
  rw [e, Bool.and_eq_true] at h
  have hk : t.kind = 1 := by simpa using h.1
  have := leaf_same (t := t) (by rw [← scalarT_P]; exact h.2)
  rw [show leafT t = textT t.text by unfold leafT; rw [hk]; rfl] at this
  refine ⟨this, fun e => ?_⟩
  have h2 := h.2
  unfold scalarT at h2
  rw [hk, e] at h2
  split at h2 <;> simp at h2

theorem itoa_ne (n : Int) : Lib.itoa n ≠ [] := by
  intro e
  unfold Lib.itoa at e
  split at e
  · cases e
  · have h1 := congrArg List.length e
    rw [Lib.decDigits_length] at h1
    have h2 : 1 ≤ Lib.nDigits n.toNat := by
      unfold Lib.nDigits
      split <;> omega
    simp at h1
    omega
theorem itoaB_ne (x : Nat) : itoaB x ≠ ⟨#[]⟩ := fun e => itoa_ne (toI x) (by
  have := congrArg (fun b : ByteArray => b.data.toList) e
  simpa [itoaB] using this)

theorem msm_same {sets : List SetM} (h : ∀ s ∈ sets, fitBool s = true) : (lastOf (sets.flatMap msmP1) n_minimum_should_match = none ∧ msmOf sets = ⟨#[]⟩) ∨ (∃ t, lastOf (sets.flatMap msmP1) n_minimum_should_match = some t ∧ SameT (textT (msmOf sets)) t ∧ msmOf sets ≠ ⟨#[]⟩) := by
  induction sets using snoc_ind with
  | h0 => exact .inl ⟨rfl, rfl⟩
  | h1 l s ih =>
    have ih := ih (fun s hs => h s (by simp [hs]))
    have hs := h s (by simp)
    rw [List.flatMap_append, lastOf_append, msmOf_snoc]
    have e1 : [s].flatMap msmP1 = msmP1 s := by simp
    rw [e1]
    unfold msmStep
    have e2 : msmP1 s = if s.name = n_minimum_should_match then [⟨n_minimum_should_match, s.val⟩] else if s.name = n_minimum_number_should_match then [⟨n_minimum_should_match, textT (itoaB s.val.num)⟩] else [] := rfl
    rw [e2]
    by_cases h1 : s.name = n_minimum_should_match
    · have hf := fitBool_kind (kd := kT) hs (by rw [h1]; decide +kernel)
      rw [fitQ_ne (by decide)] at hf
      obtain ⟨hsm, hne⟩ := text_same hf
      rw [if_pos h1, if_pos h1, lastOf_one, if_pos rfl]
      exact .inr ⟨_, rfl, hsm, hne⟩
    · rw [if_neg h1, if_neg h1]
      by_cases h2 : s.name = n_minimum_number_should_match
      · rw [if_pos h2, if_pos h2, lastOf_one, if_pos rfl]
        exact .inr ⟨_, rfl, (good_text _).same, itoaB_ne _⟩
      · rw [if_neg h2, if_neg h2, lastOf_nil]
        simpa using ih

theorem clauses_query {sets : List SetM} (h : ∀ s ∈ sets, fitBool s = true) {pl : ByteArray} (hp : kindOf rsBool pl = kQ) : ∀ t ∈ clausesT pl sets, queryT t = true := by
  intro t ht
  unfold clausesT at ht
  obtain ⟨s, hs, ht⟩ := List.mem_flatMap.1 ht
  split at ht
  · rename_i he
    have hf := fitBool_kind (kd := kQ) (h s hs) (by rw [he]; exact hp)
    have hq : queryishT s.val = true := by
      unfold fitQ at hf
      rwa [if_pos rfl] at hf
    unfold queryishT at hq
    rw [Bool.or_eq_true, Bool.and_eq_true] at hq
    unfold clauseK at ht
    split at ht
    · rename_i h4
      rcases hq with hq | hq
      · unfold queryT at hq
        rw [Bool.and_eq_true, h4] at hq
        simp at hq
      · have h2 := hq.2
        unfold queriesT at h2
        rw [Bool.and_eq_true, List.all_eq_true] at h2
        exact h2.1 t ht
    · rename_i h4
      obtain rfl : t = s.val := by simpa using ht
      rcases hq with hq | hq
      · exact hq
      · exact absurd (by simpa using hq.1) h4
  · cases ht
/-- What is told by a setting is never nothing. -/
theorem clauseK_pos {s : SetM} (h : fitBool s = true) (hp : kindOf rsBool s.name = kQ) : 0 < (clauseK s.val).length := by
  have hf := fitBool_kind (kd := kQ) h hp
  have hq : queryishT s.val = true := by
    unfold fitQ at hf
    rwa [if_pos rfl] at hf
  unfold queryishT at hq
  rw [Bool.or_eq_true, Bool.and_eq_true] at hq
  unfold clauseK
  split
  · rename_i h4
    rcases hq with hq | hq
    · unfold queryT at hq
      rw [Bool.and_eq_true, h4] at hq
      simp at hq
    · have h2 := hq.2
      unfold queriesT at h2
      rw [Bool.and_eq_true] at h2
      simpa using h2.2
  · simp

theorem list_same {ts : List Tr} (f : Tr → Tr) (h : ∀ t ∈ ts, SameT (f t) t) : SameT (listT (ts.map f)) (listT ts) := by
  refine .mk _ _ rfl rfl (by simp [listT, Tr.kids]) (fun h => by simp [listT, Tr.kind] at h) (fun h => by simp [listT, Tr.kind] at h) (fun h => by simp [listT, Tr.kind] at h) (by simp [listT, Tr.kind]) ?_
  intro i a b ha hb
  simp only [listT, Tr.kids] at ha hb
  rw [List.getElem?_map, hb] at ha
  simp only [Option.map_some, Option.some.injEq] at ha
  subst ha
  exact h b (List.mem_of_getElem? hb)

theorem place_rel {sets : List SetM} (h : ∀ s ∈ sets, fitBool s = true) {pl : ByteArray} (hp : kindOf rsBool pl = kQ) (hm : memB pl placesB = true) :
    Option.Rel SameT ((lookE (placeEnt (normT 100) pl (clausesT pl sets)) pl).bind (besideKid placesB pl)) (if 0 < (clausesT pl sets).length then some (listT (clausesT pl sets)) else none) := by
  have hq := clauses_query h hp
  have hsame : ∀ t ∈ clausesT pl sets, SameT (normT 100 t) t := fun t ht => by
    have := hq t ht
    unfold queryT at this
    rw [Bool.and_eq_true] at this
    exact norm_same 100 this.2
  have hkind : ∀ t ∈ clausesT pl sets, (normT 100 t).kind = 5 := fun t ht => by
    have := hq t ht
    unfold queryT at this
    rw [Bool.and_eq_true] at this
    cases hsame t ht with
    | mk _ _ a1 => rw [a1]; simpa using this.1
  generalize clausesT pl sets = ts at *
  match ts, hsame, hkind with
  | [], _, _ => simp only [placeEnt, lookE_nil]; exact .none
  | [t], hsame, hkind =>
    have hk := hkind t (by simp)
    simp only [placeEnt, lookE_cons, if_true, Option.bind_some, List.length_singleton, Nat.zero_lt_one]
    unfold besideKid
    rw [hm, hk]
    simp only [listT, Tr.kind, Tr.kids]
    exact .some (list_same (ts := [t]) (normT 100) (fun u hu => hsame u hu))
  | t :: u :: r, hsame, _ =>
    simp only [placeEnt, lookE_cons, if_true, Option.bind_some]
    have hb : ∀ l : List Tr, l ≠ [] → besideKid placesB pl (listT l) = some (listT l) := by
      intro l hl
      unfold besideKid
      rw [hm]
      have e : (listT l).kind = 4 := rfl
      have e2 : (listT l).kids.length ≠ 0 := by rw [listT_kids]; simpa using hl
      simp [e, e2]
    rw [hb _ (by simp), if_pos (by simp)]
    exact .some (list_same _ hsame)

theorem beside_other {k : ByteArray} (hk : memB k placesB = false) {t : Tr} (h0 : t.kind ≠ 0) : besideKid placesB k t = some t := by
  unfold besideKid
  rw [hk]
  simp [h0]

theorem rel_of_same {t u : Tr} (h : SameT t u) : Option.Rel SameT (some t) (some u) := .some h

/-- THE PLAIN LAW: under each name both say the same. -/
theorem bool_rel {sets : List SetM} (h : ∀ s ∈ sets, fitBool s = true) (k : ByteArray) : Option.Rel SameT (lookE (besideE placesB (mapTE (boolSrc sets 8))) k) (lookE (mapL (specPairs sets)) k) := by
  have hnd : ((mapTE (boolSrc sets 8)).map (·.1)).Nodup := by
    have := asc_mapTE (boolSrc_nodup sets)
    unfold Asc at this
    rw [← List.pairwise_map (f := fun p : ByteArray × Tr => p.1) (R := fun a b => strLt a b = true)] at this
    rw [List.nodup_iff_pairwise_ne]
    exact this.imp (fun {a b} hab e => by rw [e, strLt_irrefl] at hab; cases hab)
  rw [lookE_besideE placesB hnd, lookE_mapTE (boolSrc_nodup sets), lookE_mapL]
  have hpn : placesB.Nodup := by decide +kernel
  have hrn : (rsBool.map (·.1)).Nodup := by decide +kernel
  unfold specPairs
  rw [lastOf_append, lastOf_append, lastOf_pick, lastOf_places sets hpn]
  rw [boolSrc_8]
  have hP := boolEnts_parts sets
  by_cases hk : k ∈ keysB
  · simp only [keysB, List.mem_cons, List.not_mem_nil, or_false] at hk
    have place : ∀ (i : Nat) (pl : ByteArray), (boolEnts sets)[i]? = some (placeEnt (normT 100) pl (clausesT pl sets)) → keysB[i]? = some pl → kindOf rsBool pl = kQ → memB pl placesB = true → (pl, kQ) ∈ rsBool → n_minimum_should_match ≠ pl →
        Option.Rel SameT ((lookE ((boolEnts sets).flatMap id) pl).bind (besideKid placesB pl)) ((lastOf (sets.flatMap msmP1) pl).or ((if memB pl placesB = true ∧ 0 < (clausesT pl sets).length then some (listT (clausesT pl sets)) else none).or (if memB pl [n_minimum_should_match, n_minimum_number_should_match] then none else lastOf (paramsL rsBool sets) pl))) := by
      intro i pl h1 h2 h3 h4 h5 h6
      rw [hP.at keysB_nodup i _ _ h1 h2, lastOf_msm_ne sets h6, lastOf_params sets hrn h5]
      have := place_rel h h3 h4
      have hkq : memB kQ valueKinds = false := by decide +kernel
      rw [hkq]
      simp only [h4, true_and, Option.none_or, Bool.false_eq_true, if_false, ite_self, Option.or_none]
      exact this
    rcases hk with rfl | rfl | rfl | rfl | rfl | rfl | rfl | rfl
    · exact place 0 _ rfl rfl (by decide +kernel) (by decide +kernel) (List.mem_of_getElem? (i := 0) rfl) (by decide +kernel)
    · exact place 1 _ rfl rfl (by decide +kernel) (by decide +kernel) (List.mem_of_getElem? (i := 1) rfl) (by decide +kernel)
    · exact place 2 _ rfl rfl (by decide +kernel) (by decide +kernel) (List.mem_of_getElem? (i := 3) rfl) (by decide +kernel)
    · exact place 3 _ rfl rfl (by decide +kernel) (by decide +kernel) (List.mem_of_getElem? (i := 2) rfl) (by decide +kernel)
    · rw [hP.at keysB_nodup 4 _ _ rfl rfl, lastOf_msm_ne sets (by decide +kernel), lastOf_params sets hrn (k := n_boost) (kd := kN) (List.mem_of_getElem? (i := 5) rfl), if_neg (show ¬ (memB n_boost placesB = true ∧ _) from fun hh => absurd hh.1 (by decide +kernel)), show memB n_boost [n_minimum_should_match, n_minimum_number_should_match] = false by decide +kernel, show memB kN valueKinds = true by decide +kernel]
      simp only [Option.none_or, Bool.false_eq_true, if_false, if_true]
      cases e : lastOf sets n_boost with
      | none => simp only [numEnt, lookE_nil]; exact .none
      | some t =>
        obtain ⟨s, hs, hn, rfl⟩ := lastOf_of e
        have hf := fitBool_kind (kd := kN) (h s hs) (by rw [hn]; decide +kernel)
        rw [fitQ_ne (by decide)] at hf
        simp only [numEnt, lookE_cons, if_true, Option.bind_some]
        rw [beside_other (by decide +kernel) (by simp [numT, Tr.kind])]
        exact .some (num_same hf)
    · rw [hP.at keysB_nodup 5 _ _ rfl rfl, if_neg (show ¬ (memB n_minimum_should_match placesB = true ∧ _) from fun hh => absurd hh.1 (by decide +kernel)), show memB n_minimum_should_match [n_minimum_should_match, n_minimum_number_should_match] = true by decide +kernel]
      simp only [if_true, Option.or_none]
      rcases msm_same h with ⟨h1, h2⟩ | ⟨t, h1, h2, h3⟩
      · rw [h1, h2]
        simp only [textEnt, if_true, lookE_nil]
        exact .none
      · rw [h1]
        unfold textEnt
        rw [if_neg h3]
        simp only [lookE_cons, if_true, Option.bind_some]
        rw [beside_other (by decide +kernel) (by simp [textT, Tr.kind])]
        exact .some h2
    · rw [hP.at keysB_nodup 6 _ _ rfl rfl, lastOf_msm_ne sets (by decide +kernel), lastOf_params sets hrn (k := n_adjust_pure_negative) (kd := kB) (List.mem_of_getElem? (i := 4) rfl), if_neg (show ¬ (memB n_adjust_pure_negative placesB = true ∧ _) from fun hh => absurd hh.1 (by decide +kernel)), show memB n_adjust_pure_negative [n_minimum_should_match, n_minimum_number_should_match] = false by decide +kernel, show memB kB valueKinds = true by decide +kernel]
      simp only [Option.none_or, Bool.false_eq_true, if_false, if_true]
      cases e : lastOf sets n_adjust_pure_negative with
      | none => simp only [yesEnt, lookE_nil]; exact .none
      | some t =>
        obtain ⟨s, hs, hn, rfl⟩ := lastOf_of e
        have hf := fitBool_kind (kd := kB) (h s hs) (by rw [hn]; decide +kernel)
        rw [fitQ_ne (by decide)] at hf
        simp only [yesEnt, lookE_cons, if_true, Option.bind_some]
        rw [beside_other (by decide +kernel) (by simp [yesT, Tr.kind])]
        exact .some (yes_same hf)
    · rw [hP.at keysB_nodup 7 _ _ rfl rfl, lastOf_msm_ne sets (by decide +kernel), lastOf_params sets hrn (k := n__name) (kd := kT) (List.mem_of_getElem? (i := 8) rfl), if_neg (show ¬ (memB n__name placesB = true ∧ _) from fun hh => absurd hh.1 (by decide +kernel)), show memB n__name [n_minimum_should_match, n_minimum_number_should_match] = false by decide +kernel, show memB kT valueKinds = true by decide +kernel]
      simp only [Option.none_or, Bool.false_eq_true, if_false, if_true]
      unfold textLast
      cases e : lastOf sets n__name with
      | none => simp only [Option.map_none, Option.getD_none, textEnt, if_true, lookE_nil]; exact .none
      | some t =>
        obtain ⟨s, hs, hn, rfl⟩ := lastOf_of e
        have hf := fitBool_kind (kd := kT) (h s hs) (by rw [hn]; decide +kernel)
        rw [fitQ_ne (by decide)] at hf
        obtain ⟨h1, h2⟩ := text_same hf
        simp only [Option.map_some, Option.getD_some, textEnt]
        rw [if_neg h2]
        simp only [lookE_cons, if_true, Option.bind_some]
        rw [beside_other (by decide +kernel) (by simp [textT, Tr.kind])]
        exact .some h1
  · rw [hP.none hk]
    simp only [keysB, List.mem_cons, List.not_mem_nil, or_false, not_or] at hk
    obtain ⟨a1, a2, a3, a4, a5, a6, a7, a8⟩ := hk
    rw [lastOf_msm_ne sets (fun e => a6 e.symm), if_neg (show ¬ (memB k placesB = true ∧ _) from fun hh => by
      have := memB_iff.1 hh.1
      simp only [placesB, List.mem_cons, List.not_mem_nil, or_false] at this
      rcases this with e | e | e | e
      · exact a1 e
      · exact a2 e
      · exact a4 e
      · exact a3 e)]
    have : (if memB k [n_minimum_should_match, n_minimum_number_should_match] then none else lastOf (paramsL rsBool sets) k) = none := by
      by_cases hm : memB k [n_minimum_should_match, n_minimum_number_should_match] = true
      · rw [if_pos hm]
      · rw [if_neg hm]
        refine lastOf_params_none sets (fun hh => ?_)
        have hmap : rsBool.map (·.1) = [n_must, n_must_not, n_should, n_filter, n_adjust_pure_negative, n_boost, n_minimum_should_match, n_minimum_number_should_match, n__name] := rfl
        rw [hmap] at hh
        simp only [List.mem_cons, List.not_mem_nil, or_false] at hh
        rcases hh with e | e | e | e | e | e | e | e | e
        · exact a1 e
        · exact a2 e
        · exact a4 e
        · exact a3 e
        · exact a7 e
        · exact a5 e
        · exact a6 e
        · exact hm (memB_iff.2 (by simp [e]))
        · exact a8 e
    rw [this]
    exact .none

theorem bool_same {sets : List SetM} (h : ∀ s ∈ sets, fitBool s = true) : SameT (mapT [n_bool] [mapE (besideE placesB (mapTE (boolSrc sets 8)))]) (besideT n_bool (specPairs sets)) := by
  refine .mk _ _ rfl rfl rfl (fun h => by simp [mapT, Tr.kind] at h) (fun h => by simp [mapT, Tr.kind] at h) (fun h => by simp [mapT, Tr.kind] at h) (by simp [mapT, Tr.kind]) ?_
  intro i a b ha hb
  have hi : i = 0 := by
    have := (List.getElem?_eq_some_iff.1 ha).1
    simpa [mapT, Tr.kids] using this
  subst hi
  simp [mapT, besideT, Tr.kids] at ha hb
  subst ha hb
  exact same_mapE (asc_besideE _ _) (asc_mapL _) (bool_rel h)
end Go.Proofs.YtbcnhcpgloncdaaGreatDoor
