/- 'Source' of each score function: which entries its map has. -/
import Derived.Test.YtbcnhcpgloncdaaGreatDoorQJd
import Derived.Test.YtbcnhcpgloncdaaGreatDoorQJl
namespace Go.Proofs.YtbcnhcpgloncdaaGreatDoor
open Go Go.RowKit Go.BigFrame Go.Maps

theorem neq_nil (w : World) : (binOp .neq 20 .nilIface .nilIface).run Tryz.prog w = .ok (.bool false) w := by kernel_rfl
theorem neq_some (ty : TypeId) (x : Value) (w : World) : (binOp .neq 20 (.iface ty x) .nilIface).run Tryz.prog w = .ok (.bool true) w := by kernel_rfl
theorem guard_nil (n : Nat) (w : World) : (eqGuard .neq 20 (.tmp n) (.const .nilIface) .nilIface .nilIface).run Tryz.prog w = .ok () w := by kernel_rfl
theorem guard_some (n : Nat) (ty : TypeId) (x : Value) (w : World) : (eqGuard .neq 20 (.tmp n) (.const .nilIface) (.iface ty x) .nilIface).run Tryz.prog w = .ok () w := by kernel_rfl
theorem any_guard {w : World} {S : Nat → Prop} {sets : List SetM} {nm : ByteArray} {u : Value} (h : GOK w S sets (.any nm) u) (n : Nat) (w' : World) : (eqGuard .neq 20 (.tmp n) (.const .nilIface) u .nilIface).run Tryz.prog w' = .ok () w' := by
  simp only [GOK] at h
  cases e : lastOf sets nm with
  | none => rw [e] at h; simp only at h; rw [h]; exact guard_nil n w'
  | some t => rw [e] at h; simp only at h; rw [h]; exact guard_some n _ _ w'
theorem seed_guard {w : World} {S : Nat → Prop} {sets : List SetM} {nm : ByteArray} {u : Value} (h : GOK w S sets (.seed nm) u) (n : Nat) (w' : World) : (eqGuard .neq 20 (.tmp n) (.const .nilIface) u .nilIface).run Tryz.prog w' = .ok () w' := by
  simp only [GOK] at h
  cases e : lastOf sets nm with
  | none => rw [e] at h; simp only at h; rw [h]; exact guard_nil n w'
  | some t => rw [e] at h; simp only at h; rw [h]; exact guard_some n _ _ w'
theorem any_neq {w : World} {S : Nat → Prop} {sets : List SetM} {nm : ByteArray} {u : Value} (h : GOK w S sets (.any nm) u) (w' : World) : (binOp .neq 20 u .nilIface).run Tryz.prog w' = .ok (.bool (lastOf sets nm).isSome) w' := by
  simp only [GOK] at h
  cases e : lastOf sets nm with
  | none => rw [e] at h; simp only at h; rw [h]; exact neq_nil w'
  | some t => rw [e] at h; simp only at h; rw [h]; exact neq_some _ _ w'
theorem seed_neq {w : World} {S : Nat → Prop} {sets : List SetM} {nm : ByteArray} {u : Value} (h : GOK w S sets (.seed nm) u) (w' : World) : (binOp .neq 20 u .nilIface).run Tryz.prog w' = .ok (.bool (lastOf sets nm).isSome) w' := by
  simp only [GOK] at h
  cases e : lastOf sets nm with
  | none => rw [e] at h; simp only at h; rw [h]; exact neq_nil w'
  | some t => rw [e] at h; simp only at h; rw [h]; exact neq_some _ _ w'
theorem num_form {w : World} {S : Nat → Prop} {sets : List SetM} {nm : ByteArray} {u : Value} (h : GOK w S sets (.num nm) u) : ∃ p, u = .pointer p ∧ (match lastOf sets nm with | none => p = none | some t => ∃ b, p = some ⟨b, 0, none⟩ ∧ S b ∧ w.cell? ⟨b, 0, none⟩ = some (.float .f64 t.num)) := by
  simp only [GOK] at h
  cases e : lastOf sets nm with
  | none => rw [e] at h; exact ⟨none, h, rfl⟩
  | some t =>
    rw [e] at h
    obtain ⟨b, h1, h2⟩ := h
    exact ⟨some ⟨b, 0, none⟩, h1, b, rfl, h2⟩

def n_field : ByteArray := ⟨#[102, 105, 101, 108, 100]⟩
/-- Under way: a map of its own, in block b. -/
structure MRel (w0 : World) (b : Nat) (ts : List (ByteArray × Tr)) (i : Nat) (wr : World) : Prop where
  map : ∃ n es, wr.ownsMap Tryz.prog 9 R9 b n (dput es) ∧ n ≤ i ∧ EntriesOK wr (fun _ => False) es ts
  bel : Below w0.heap.size w0 wr
  le : w0.heap.size ≤ b
theorem MRel.skip {w0 wr : World} {b i : Nat} {ts ts' : List (ByteArray × Tr)} (r : MRel w0 b ts i wr) (h : ts' = ts) : MRel w0 b ts' (i + 1) wr := by
  subst h
  obtain ⟨n, es, h1, h2, h3⟩ := r.map
  exact ⟨⟨n, es, h1, by omega, h3⟩, r.bel, r.le⟩
theorem MRel.put {w0 wr w1 : World} {b i n : Nat} {ts ts' : List (ByteArray × Tr)} (r : MRel w0 b ts i wr) {es : List (ByteArray × Value)} {k : ByteArray} {v : Value} {t : Tr} (hn : n ≤ i) (hes : EntriesOK wr (fun _ => False) es ts)
    (hown : w1.ownsMap Tryz.prog 9 R9 b (n + 1) ((dput es).put (.string k.data.toList) (.held v))) (hg : wr.grownBy w1 (some b)) (hv : ∀ w S, AnyAt w S v t) (hts : ts' = ts ++ [(k, t)]) : MRel w0 b ts' (i + 1) w1 := by
  subst hts
  have hle := r.le
  exact ⟨⟨n + 1, es ++ [(k, v)], by rw [dput_snoc]; exact hown, by omega, (hes.keep (fun b hb _ => hb.elim)).snoc k (hv _ _)⟩, r.bel.grown hg r.bel.size (fun k hk => by injection hk with hk; omega), hle⟩
theorem MRel.below {w0 wr w' : World} {b i : Nat} {ts : List (ByteArray × Tr)} (r : MRel w0 b ts i wr) (hb : Below wr.heap.size wr w') : MRel w0 b ts i w' := by
  obtain ⟨n, es, h1, h2, h3⟩ := r.map
  exact ⟨⟨n, es, h1.kept (Below.grow hb) (by simp), h2, h3.keep (Keeps.of_below _ hb)⟩, via r.bel hb, r.le⟩
theorem MRel.any {w0 wr : World} {b i : Nat} {ts : List (ByteArray × Tr)} (r : MRel w0 b ts i wr) (S : Nat → Prop) (hS : S b) (hd : (ts.map (·.1)).Nodup) (hl : ts.length ≤ 4294967296) : AnyAt wr S (.iface 122 (.map (some b))) (mapTree ts) := by
  obtain ⟨n, es, h1, h2, h3⟩ := r.map
  refine map_any hS h1 ?_ (by rw [h3.1]; exact hd) ⟨h3.1, fun i e t a b => (h3.2 i e t a b).mono (fun _ _ h => h.elim)⟩
  have := congrArg List.length h3.1
  simp only [List.length_map] at this
  omega

/-- Entries. -/
def anyEnt (key : ByteArray) : Option Tr → List (ByteArray × Tr) | none => [] | some t => [(key, leafT t)]
def seedEnt (key : ByteArray) : Option Tr → List (ByteArray × Tr) | none => [] | some t => [(key, numT (floatOfInt .f64 (toI t.num)))]
def lowEnt (key s : ByteArray) : List (ByteArray × Tr) := if s = ⟨#[]⟩ then [] else [(key, textT (lowerB s))]
theorem anyEnt_keys (k : ByteArray) (o : Option Tr) : ((anyEnt k o).map (·.1)).Sublist [k] := by cases o <;> simp [anyEnt]
theorem seedEnt_keys (k : ByteArray) (o : Option Tr) : ((seedEnt k o).map (·.1)).Sublist [k] := by cases o <;> simp [seedEnt]
theorem lowEnt_keys (k s : ByteArray) : ((lowEnt k s).map (·.1)).Sublist [k] := by unfold lowEnt; split <;> simp

def decayEnts (sets : List SetM) : List (List (ByteArray × Tr)) := [anyEnt n_origin (lastOf sets n_origin), anyEnt n_scale (lastOf sets n_scale), numEnt n_decay (lastOf sets n_decay), anyEnt n_offset (lastOf sets n_offset)]
def factorEnts (fd : ByteArray) (sets : List SetM) : List (List (ByteArray × Tr)) := [textEnt n_field fd, numEnt n_factor (lastOf sets n_factor), numEnt n_missing (lastOf sets n_missing), lowEnt n_modifier (textLast sets n_modifier)]
def randomEnts (fd : ByteArray) (sets : List SetM) : List (List (ByteArray × Tr)) := [textEnt n_field fd, seedEnt n_seed (lastOf sets n_seed)]
def entsTo (ess : List (List (ByteArray × Tr))) (i : Nat) : List (ByteArray × Tr) := (ess.take i).flatMap id
theorem entsTo_succ (ess : List (List (ByteArray × Tr))) {i : Nat} {es : List (ByteArray × Tr)} (h : ess[i]? = some es) : entsTo ess (i + 1) = entsTo ess i ++ es := by
  unfold entsTo
  obtain ⟨hi, he⟩ := List.getElem?_eq_some_iff.1 h
  rw [List.take_succ_eq_append_getElem hi, List.flatMap_append, he]
  simp
theorem decay_parts (sets : List SetM) : PartsK (decayEnts sets) [n_origin, n_scale, n_decay, n_offset] := .cons (anyEnt_keys _ _) (.cons (anyEnt_keys _ _) (.cons (numEnt_keys _ _) (.cons (anyEnt_keys _ _) .nil)))
theorem factor_parts (fd : ByteArray) (sets : List SetM) : PartsK (factorEnts fd sets) [n_field, n_factor, n_missing, n_modifier] := .cons (textEnt_keys _ _) (.cons (numEnt_keys _ _) (.cons (numEnt_keys _ _) (.cons (lowEnt_keys _ _) .nil)))
theorem random_parts (fd : ByteArray) (sets : List SetM) : PartsK (randomEnts fd sets) [n_field, n_seed] := .cons (textEnt_keys _ _) (.cons (seedEnt_keys _ _) .nil)
theorem PartsK.nodup {ess : List (List (ByteArray × Tr))} {ks : List ByteArray} (h : PartsK ess ks) (hn : ks.Nodup) : ((ess.flatMap id).map (·.1)).Nodup := h.keys.nodup hn
theorem PartsK.length {ess : List (List (ByteArray × Tr))} {ks : List ByteArray} (h : PartsK ess ks) : (ess.flatMap id).length ≤ ks.length := by
  have := h.keys.length_le
  rw [List.length_map] at this
  exact this
def decayT (fd : ByteArray) (sets : List SetM) : Tr := mapTree ((fd, mapTree (entsTo (decayEnts sets) 4)) :: textEnt n_multi_value_mode (textLast sets n_multi_value_mode))
def factorT (fd : ByteArray) (sets : List SetM) : Tr := mapTree (entsTo (factorEnts fd sets) 4)
def randomT (fd : ByteArray) (sets : List SetM) : Tr := mapTree (entsTo (randomEnts fd sets) 2)
def srcT (k : SK) (s : ScoreM) : Tr := match k with | .weight => numT s.a | .factor => factorT s.field s.sets | .random => randomT s.field s.sets | _ => decayT s.field s.sets

/-- A single value, read again. -/
theorem leaf_last {sets : List SetM} {nm : ByteArray} {t : Tr} (hsc : ∀ s ∈ sets, s.name = nm → scalarT s.val = true) (hsm : ∀ s ∈ sets, s.val.text.size ≤ 9223372036854775807) (h : lastOf sets nm = some t) (w : World) (S : Nat → Prop) : AnyAt w S (.iface (leafTy t) (leafX t)) (leafT t) := by
  obtain ⟨s, hs, hn, rfl⟩ := lastOf_of h
  exact leaf_any (hsc s hs hn) (hsm s hs) w S
theorem text_small63 {sets : List SetM} (h : ∀ s ∈ sets, s.val.text.size ≤ 9223372036854775807) (nm : ByteArray) : (textLast sets nm).size ≤ 9223372036854775807 := by
  unfold textLast
  cases e : lastOf sets nm with
  | none => decide
  | some t =>
    obtain ⟨s, hs, _, rfl⟩ := lastOf_of e
    exact h s hs
/-- What comes of a score function's 'Source'. -/
def SrcPost (w : World) (T : Tr) (e : Ending) (w' : World) : Prop := ∃ v, e = .returned (.tuple #[v, .nilIface]) ∧ AnyAt w' (fun b => w.heap.size ≤ b) v T ∧ Below w.heap.size w w'

set_option maxRecDepth 100000 in
set_option maxHeartbeats 100000000 in
theorem srcRandom (fd : ByteArray) (sets : List SetM) (B : Nat) (S : Nat → Prop) (w : World) (hq : GSt w S B (ksRandom fd) 193 sets) (hfs : fd.size ≤ 9223372036854775807) : Calls Tryz.prog 296 #[.pointer (some ⟨B, 0, none⟩)] w (SrcPost w (randomT fd sets)) := by
  have hlt := hq.lt
  have Hq := Lib.hid hq; clear hq
  have Hfs := Lib.hid hfs; clear hfs
  have hm0 := World.ownsMap_made w Tryz.prog 9 R9
  go_enter Tryz.func296, Tryz.ntmps296
  go_upto_region 2 with fail
  have hcut : MRel w w.heap.size (entsTo (randomEnts fd sets) 0) 0 (w.alloc (.map #[] 0)) := ⟨⟨0, [], hm0, Nat.le_refl _, by simpa [entsTo] using EntriesOK.nil _ _⟩, (Below.refl _ _).alloc (Nat.le_refl _) _, Nat.le_refl _⟩
  clear hm0
  -- field
  have hstep := entsTo_succ (randomEnts fd sets) (i := 0) (es := textEnt n_field fd) rfl
  have Hstep := Lib.hid hstep; clear hstep
  have Hcut := Lib.hid hcut; clear hcut
  obtain ⟨u, cq, hu⟩ := (Hq.out.keep (Keeps.of_below _ Hcut.out.bel)).cell 0 _ rfl
  have kk := key_of [102, 105, 101, 108, 100] (by decide)
  obtain ⟨nn, es, hmap, hnn, hes⟩ := Hcut.out.map
  have hnm : nn < maxLen := by unfold maxLen; omega
  have Hes := Lib.hid hes; clear hes
  have hu' : u = .string (fd) := hu
  subst hu'
  clear hu
  have hsz : (fd).size ≤ 9223372036854775807 := Hfs.out
  go_upto_if 10 with fail
  go_cut [] from 6 to 16 (fun wr => MRel w w.heap.size (entsTo (randomEnts fd sets) 1) 1 wr)
  case first =>
    as_aux_lemma =>
    by_cases hs0 : fd = ⟨#[]⟩
    · have hemp : fd.toList.isEmpty = true := by rw [bs_isEmpty]; simp [hs0]
      have Hs0 := Lib.hid hs0; clear hs0
      simp only [hemp, Bool.not_true]
      go_wp2_with fail
      go_meet
      case rel => exact Hcut.out.skip (by rw [Hstep.out, textEnt, if_pos Hs0.out]; simp)
    · have hemp : fd.toList.isEmpty = false := by rw [bs_isEmpty]; simp [hs0]
      have Hs0 := Lib.hid hs0; clear hs0
      simp only [hemp, Bool.not_false]
      go_wp2_with (at_mapUpdate; refine wpList_mapUpdate_own _ rfl _ _ _ 122 rfl 9 20 keyed9 Tryz.underlying122 R9 w.heap.size nn _ rfl hmap hnm (.string ⟨#[102, 105, 101, 108, 100]⟩) (.iface 9 (.string fd)) _ rfl rfl kk (.held (.iface 9 (.string fd))) [] rfl ?_; intro w3 hn3 hg3)
      go_meet
      case rel => exact Hcut.out.put hnn Hes.out (k := ⟨#[102, 105, 101, 108, 100]⟩) hn3 hg3 (fun _ _ => .str _ hsz) (by rw [Hstep.out, textEnt, if_neg Hs0.out]; rfl)
  case rest =>
  clear cq kk hmap hnn hnm Hes Hstep Hcut nn es hsz
  -- seed
  have hstep := entsTo_succ (randomEnts fd sets) (i := 1) (es := seedEnt n_seed (lastOf sets n_seed)) rfl
  have Hstep := Lib.hid hstep; clear hstep
  have Hcut := Lib.hid hcut; clear hcut
  obtain ⟨u, cq, hu⟩ := (Hq.out.keep (Keeps.of_below _ Hcut.out.bel)).cell 1 _ rfl
  have kk := key_of [115, 101, 101, 100] (by decide)
  obtain ⟨nn, es, hmap, hnn, hes⟩ := Hcut.out.map
  have hnm : nn < maxLen := by unfold maxLen; omega
  have Hes := Lib.hid hes; clear hes
  have hneq := seed_neq hu
  have hgd := seed_guard hu
  simp only [GOK] at hu
  generalize lastOf sets n_seed = lst at hu hneq Hstep
  have Hu := Lib.hid hu; clear hu
  go_upto_if 21 with fail
  go_cut [] from 17 to 26 (fun wr => MRel w w.heap.size (entsTo (randomEnts fd sets) 2) 2 wr)
  case first =>
    as_aux_lemma =>
    rcases lst with _ | t
    · obtain rfl : u = .nilIface := Hu.out
      go_wp2_with fail
      go_meet
      case rel => exact Hcut.out.skip (by rw [Hstep.out]; simp [seedEnt])
    · obtain rfl : u = .iface 2 (.int .i64 (toI t.num)) := Hu.out
      go_wp2_with (at_mapUpdate; refine wpList_mapUpdate_own _ rfl _ _ _ 122 rfl 9 20 keyed9 Tryz.underlying122 R9 w.heap.size nn _ rfl hmap hnm (.string ⟨#[115, 101, 101, 100]⟩) (.iface 2 (.int .i64 (toI t.num))) _ rfl rfl kk (.held (.iface 2 (.int .i64 (toI t.num)))) [] rfl ?_; intro w3 hn3 hg3)
      go_meet
      case rel => exact Hcut.out.put hnn Hes.out (k := ⟨#[115, 101, 101, 100]⟩) hn3 hg3 (fun _ _ => .long _) (by rw [Hstep.out]; rfl)
  case rest =>
  clear cq kk hmap hnn hnm Hes Hstep Hcut nn es Hu lst u hneq hgd
  go_wp2_with fail
  refine bodyPost_ret (v := .tuple #[.iface 122 (.map (some w.heap.size)), .nilIface]) (by simp [results, Tryz.results296, go_sem]) rfl ?_
  exact ⟨_, rfl, hcut.any _ (Nat.le_refl _) ((random_parts fd sets).nodup (by decide +kernel)) (by have := (random_parts fd sets).length; simp only [List.length_cons, List.length_nil] at this; exact Nat.le_trans this (by decide)), hcut.bel⟩

set_option maxRecDepth 100000 in
set_option maxHeartbeats 1000000 in
theorem srcWeight (x : Nat) (sets : List SetM) (B : Nat) (S : Nat → Prop) (w : World) (hq : GSt w S B (ksWeight x) 165 sets) : Calls Tryz.prog 280 #[.pointer (some ⟨B, 0, none⟩)] w (SrcPost w (numT x)) := by
  have hlt := hq.lt
  obtain ⟨u, hc, hu⟩ := hq.cell 0 _ rfl
  have hu' : u = .float .f64 x := hu
  subst hu'
  clear hq hu
  go_enter Tryz.func280, Tryz.ntmps280
  go_wp2
  refine bodyPost_ret (v := .tuple #[.iface 28 (.float .f64 x), .nilIface]) (by simp [results, Tryz.results280, go_sem]) rfl ?_
  exact ⟨_, rfl, .num _, Below.refl _ _⟩

/-- The tables of unicode that are read. -/
def UTabs (w : World) : Prop := Lib.CaseVar 2 Lib.caseA w ∧ Lib.Utf8Tabs 6 7 w
set_option maxRecDepth 100000 in
set_option maxHeartbeats 100000000 in
theorem srcFactor (fd : ByteArray) (sets : List SetM) (B : Nat) (S : Nat → Prop) (w : World) (hq : GSt w S B (ksFactor fd) 191 sets) (hfs : fd.size ≤ 9223372036854775807) (hlo : (textLast sets n_modifier).size ≤ 1048576) (htab : ∀ wx, Below w.heap.size w wx → UTabs wx) : Calls Tryz.prog 293 #[.pointer (some ⟨B, 0, none⟩)] w (SrcPost w (factorT fd sets)) := by
  have hlt := hq.lt
  have Hq := Lib.hid hq; clear hq
  have Hfs := Lib.hid hfs; clear hfs
  have Hlo := Lib.hid hlo; clear hlo
  have Htab := Lib.hid htab; clear htab
  have hm0 := World.ownsMap_made w Tryz.prog 9 R9
  go_enter Tryz.func293, Tryz.ntmps293
  go_upto_region 2 with fail
  have hcut : MRel w w.heap.size (entsTo (factorEnts fd sets) 0) 0 (w.alloc (.map #[] 0)) := ⟨⟨0, [], hm0, Nat.le_refl _, by simpa [entsTo] using EntriesOK.nil _ _⟩, (Below.refl _ _).alloc (Nat.le_refl _) _, Nat.le_refl _⟩
  clear hm0
  -- field
  have hstep := entsTo_succ (factorEnts fd sets) (i := 0) (es := textEnt n_field fd) rfl
  have Hstep := Lib.hid hstep; clear hstep
  have Hcut := Lib.hid hcut; clear hcut
  obtain ⟨u, cq, hu⟩ := (Hq.out.keep (Keeps.of_below _ Hcut.out.bel)).cell 0 _ rfl
  have kk := key_of [102, 105, 101, 108, 100] (by decide)
  obtain ⟨nn, es, hmap, hnn, hes⟩ := Hcut.out.map
  have hnm : nn < maxLen := by unfold maxLen; omega
  have Hes := Lib.hid hes; clear hes
  have hu' : u = .string (fd) := hu
  subst hu'
  clear hu
  have hsz : (fd).size ≤ 9223372036854775807 := Hfs.out
  go_upto_if 10 with fail
  go_cut [] from 6 to 16 (fun wr => MRel w w.heap.size (entsTo (factorEnts fd sets) 1) 1 wr)
  case first =>
    as_aux_lemma =>
    by_cases hs0 : fd = ⟨#[]⟩
    · have hemp : fd.toList.isEmpty = true := by rw [bs_isEmpty]; simp [hs0]
      have Hs0 := Lib.hid hs0; clear hs0
      simp only [hemp, Bool.not_true]
      go_wp2_with fail
      go_meet
      case rel => exact Hcut.out.skip (by rw [Hstep.out, textEnt, if_pos Hs0.out]; simp)
    · have hemp : fd.toList.isEmpty = false := by rw [bs_isEmpty]; simp [hs0]
      have Hs0 := Lib.hid hs0; clear hs0
      simp only [hemp, Bool.not_false]
      go_wp2_with (at_mapUpdate; refine wpList_mapUpdate_own _ rfl _ _ _ 122 rfl 9 20 keyed9 Tryz.underlying122 R9 w.heap.size nn _ rfl hmap hnm (.string ⟨#[102, 105, 101, 108, 100]⟩) (.iface 9 (.string fd)) _ rfl rfl kk (.held (.iface 9 (.string fd))) [] rfl ?_; intro w3 hn3 hg3)
      go_meet
      case rel => exact Hcut.out.put hnn Hes.out (k := ⟨#[102, 105, 101, 108, 100]⟩) hn3 hg3 (fun _ _ => .str _ hsz) (by rw [Hstep.out, textEnt, if_neg Hs0.out]; rfl)
  case rest =>
  clear cq kk hmap hnn hnm Hes Hstep Hcut nn es hsz
  -- factor
  have hstep := entsTo_succ (factorEnts fd sets) (i := 1) (es := numEnt n_factor (lastOf sets n_factor)) rfl
  have Hstep := Lib.hid hstep; clear hstep
  have Hcut := Lib.hid hcut; clear hcut
  obtain ⟨u, cq, hu⟩ := (Hq.out.keep (Keeps.of_below _ Hcut.out.bel)).cell 1 _ rfl
  have kk := key_of [102, 97, 99, 116, 111, 114] (by decide)
  obtain ⟨nn, es, hmap, hnn, hes⟩ := Hcut.out.map
  have hnm : nn < maxLen := by unfold maxLen; omega
  have Hes := Lib.hid hes; clear hes
  obtain ⟨p, rfl, hp⟩ := num_form hu
  clear hu
  generalize lastOf sets n_factor = lst at hp Hstep
  have Hu := Lib.hid hp; clear hp
  go_upto_if 21 with fail
  go_cut [] from 17 to 29 (fun wr => MRel w w.heap.size (entsTo (factorEnts fd sets) 2) 2 wr)
  case first =>
    as_aux_lemma =>
    rcases lst with _ | t
    · obtain rfl : p = none := Hu.out
      go_wp2_with fail
      go_meet
      case rel => exact Hcut.out.skip (by rw [Hstep.out]; simp [numEnt])
    · obtain ⟨b, rfl, _, cb⟩ := Hu.out
      go_wp2_with (at_mapUpdate; refine wpList_mapUpdate_own _ rfl _ _ _ 122 rfl 9 20 keyed9 Tryz.underlying122 R9 w.heap.size nn _ rfl hmap hnm (.string ⟨#[102, 97, 99, 116, 111, 114]⟩) (.iface 28 (.float .f64 t.num)) _ rfl rfl kk (.held (.iface 28 (.float .f64 t.num))) [] rfl ?_; intro w3 hn3 hg3)
      go_meet
      case rel => exact Hcut.out.put hnn Hes.out (k := ⟨#[102, 97, 99, 116, 111, 114]⟩) hn3 hg3 (fun _ _ => .num _) (by rw [Hstep.out]; rfl)
  case rest =>
  clear cq kk hmap hnn hnm Hes Hstep Hcut nn es Hu lst p
  -- missing
  have hstep := entsTo_succ (factorEnts fd sets) (i := 2) (es := numEnt n_missing (lastOf sets n_missing)) rfl
  have Hstep := Lib.hid hstep; clear hstep
  have Hcut := Lib.hid hcut; clear hcut
  obtain ⟨u, cq, hu⟩ := (Hq.out.keep (Keeps.of_below _ Hcut.out.bel)).cell 2 _ rfl
  have kk := key_of [109, 105, 115, 115, 105, 110, 103] (by decide)
  obtain ⟨nn, es, hmap, hnn, hes⟩ := Hcut.out.map
  have hnm : nn < maxLen := by unfold maxLen; omega
  have Hes := Lib.hid hes; clear hes
  obtain ⟨p, rfl, hp⟩ := num_form hu
  clear hu
  generalize lastOf sets n_missing = lst at hp Hstep
  have Hu := Lib.hid hp; clear hp
  go_upto_if 34 with fail
  go_cut [] from 30 to 42 (fun wr => MRel w w.heap.size (entsTo (factorEnts fd sets) 3) 3 wr)
  case first =>
    as_aux_lemma =>
    rcases lst with _ | t
    · obtain rfl : p = none := Hu.out
      go_wp2_with fail
      go_meet
      case rel => exact Hcut.out.skip (by rw [Hstep.out]; simp [numEnt])
    · obtain ⟨b, rfl, _, cb⟩ := Hu.out
      go_wp2_with (at_mapUpdate; refine wpList_mapUpdate_own _ rfl _ _ _ 122 rfl 9 20 keyed9 Tryz.underlying122 R9 w.heap.size nn _ rfl hmap hnm (.string ⟨#[109, 105, 115, 115, 105, 110, 103]⟩) (.iface 28 (.float .f64 t.num)) _ rfl rfl kk (.held (.iface 28 (.float .f64 t.num))) [] rfl ?_; intro w3 hn3 hg3)
      go_meet
      case rel => exact Hcut.out.put hnn Hes.out (k := ⟨#[109, 105, 115, 115, 105, 110, 103]⟩) hn3 hg3 (fun _ _ => .num _) (by rw [Hstep.out]; rfl)
  case rest =>
  clear cq kk hmap hnn hnm Hes Hstep Hcut nn es Hu lst p
  -- modifier
  have hstep := entsTo_succ (factorEnts fd sets) (i := 3) (es := lowEnt n_modifier (textLast sets n_modifier)) rfl
  have Hstep := Lib.hid hstep; clear hstep
  have Hcut := Lib.hid hcut; clear hcut
  obtain ⟨u, cq, hu⟩ := (Hq.out.keep (Keeps.of_below _ Hcut.out.bel)).cell 4 _ rfl
  have kk := key_of [109, 111, 100, 105, 102, 105, 101, 114] (by decide)
  obtain ⟨nn, es, hmap, hnn, hes⟩ := Hcut.out.map
  have hnm : nn < maxLen := by unfold maxLen; omega
  have Hes := Lib.hid hes; clear hes
  have hu' : u = .string (textLast sets n_modifier) := hu
  subst hu'
  clear hu
  have hsz : (textLast sets n_modifier).size ≤ 1048576 := Hlo.out
  generalize textLast sets n_modifier = str at hsz cq Hstep
  go_upto_if 47 with fail
  go_cut [] from 43 to 54 (fun wr => MRel w w.heap.size (entsTo (factorEnts fd sets) 4) 4 wr)
  case first =>
    as_aux_lemma =>
    by_cases hs0 : str = ⟨#[]⟩
    · have hemp : str.toList.isEmpty = true := by rw [bs_isEmpty]; simp [hs0]
      have Hs0 := Lib.hid hs0; clear hs0
      simp only [hemp, Bool.not_true]
      go_wp2_with fail
      go_meet
      case rel => exact Hcut.out.skip (by rw [Hstep.out, lowEnt, if_pos Hs0.out]; simp)
    · have hemp : str.toList.isEmpty = false := by rw [bs_isEmpty]; simp [hs0]
      have Hs0 := Lib.hid hs0; clear hs0
      simp only [hemp, Bool.not_false]
      go_wp2_with (first
        | (go_at_call 172; refine (Tryz.strings_ToLower_any str _ (by omega) (Htab.out _ Hcut.out.bel).1 (Htab.out _ Hcut.out.bel).2).mono ?_; rintro e w4 ⟨rfl, hb4⟩; have hmap4 := hmap.kept (Below.grow hb4) (by simp))
        | (at_mapUpdate; refine wpList_mapUpdate_own _ rfl _ _ _ 122 rfl 9 20 keyed9 Tryz.underlying122 R9 w.heap.size nn _ rfl hmap4 hnm (.string ⟨#[109, 111, 100, 105, 102, 105, 101, 114]⟩) (.iface 9 (.string (lowerB str))) _ rfl rfl kk (.held (.iface 9 (.string (lowerB str)))) [] rfl ?_; intro w3 hn3 hg3))
      go_meet
      case rel => exact (Hcut.out.below hb4).put hnn (Hes.out.keep (Keeps.of_below _ hb4)) (k := ⟨#[109, 111, 100, 105, 102, 105, 101, 114]⟩) hn3 hg3 (fun _ _ => .str _ (lower_small str (Nat.le_trans hsz (by decide)))) (by rw [Hstep.out, lowEnt, if_neg Hs0.out]; rfl)
  case rest =>
  clear cq kk hmap hnn hnm Hes Hstep Hcut nn es hsz str
  go_wp2_with fail
  refine bodyPost_ret (v := .tuple #[.iface 122 (.map (some w.heap.size)), .nilIface]) (by simp [results, Tryz.results293, go_sem]) rfl ?_
  exact ⟨_, rfl, hcut.any _ (Nat.le_refl _) ((factor_parts fd sets).nodup (by decide +kernel)) (by have := (factor_parts fd sets).length; simp only [List.length_cons, List.length_nil] at this; exact Nat.le_trans this (by decide)), hcut.bel⟩
end Go.Proofs.YtbcnhcpgloncdaaGreatDoor
