/- 'plain', 'plains': a tree as the plain value that a caller has. -/
import Derived.Test.YtbcnhcpgloncdaaGreatDoorQIa
import Derived.Test.YtbcnhcpgloncdaaGreatDoorQGp
import Derived.Test.YtbcnhcpgloncdaaGreatDoorQHh
import Derived.Deep.CutRange
namespace Go.Proofs.YtbcnhcpgloncdaaGreatDoor
open Go Go.RowKit Go.BigFrame Go.Maps

theorem Tryz.info20 : (Tryz.prog.info? 20).map (fun i => (i.zero, i.size, i.bytes)) = some (some .nilIface, 1, 16) := by kernel_rfl

theorem AnyAt.one {w : World} {S : Nat → Prop} {v : Value} {t : Tr} (h : AnyAt w S v t) : v.oneCell' = true ∧ v.cells = #[v] := by
  cases h <;> exact ⟨rfl, rfl⟩

/-- The values that are done, and the row that holds them. -/
def ValsAt (wr : World) (base : Nat) (kv : Value) (ts : List Tr) : Prop :=
  ∃ vs : List Value, vs.length = ts.length ∧ wr.ownsRow base 20 1 kv ts.length vs ∧ ∀ (i : Nat) (v : Value) (t : Tr), vs[i]? = some v → ts[i]? = some t → AnyAt wr (fun b => base ≤ b ∧ kv.ownBlock ≠ some b) v t
theorem vals_round {wr w2 w3 : World} {base g cap k : Nat} {kv : Value} {vs : List Value} {ts : List Tr} {u : Value} {t : Tr} (hk : ts.length = k) (hbase : base ≤ wr.heap.size) (hvl : vs.length = ts.length)
    (hreps : ∀ (i : Nat) (v : Value) (t : Tr), vs[i]? = some v → ts[i]? = some t → AnyAt wr (fun b => base ≤ b ∧ kv.ownBlock ≠ some b) v t) (hown : wr.ownsRow base 20 1 kv k vs) (hb : Below wr.heap.size wr w2)
    (hV : AnyAt w2 (fun b => wr.heap.size ≤ b) u t) (o : Obj) (hg : (w2.alloc o).grownBy w3 kv.ownBlock) (hat : kv.ownBlock = some g ∨ g = w2.heap.size + 1)
    (hown3 : w3.ownsRow base 20 1 (.slice (some ⟨g, 0, none⟩) (k + 1) cap) (k + 1) (vs ++ [u])) :
    ValsAt w3 base (.slice (some ⟨g, 0, none⟩) (k + 1) cap) (ts ++ [t]) := by
  subst hk
  have hz := hb.size
  have hal : Below w2.heap.size w2 (w2.alloc o) := (Below.refl _ _).alloc (Nat.le_refl _) _
  have hlt := fun b e => hown.lt b e
  have hkeep : Keeps (fun b => b < w2.heap.size ∧ kv.ownBlock ≠ some b) w2 w3 := by
    intro b hb' hlt
    exact (hg.block b (by simp; omega) (fun e => hb'.2 e.symm)).trans (heap_alloc_old _ _ hlt)
  refine ⟨vs ++ [u], by simp [hvl], by simpa using hown3, ?_⟩
  have hne : ∀ b, b < w2.heap.size → kv.ownBlock ≠ some b → (Value.slice (some ⟨g, 0, none⟩) (ts.length + 1) cap).ownBlock ≠ some b := by
    intro b hb1 hb2 e
    have e' : g = b := by simpa [Value.ownBlock] using e
    rcases hat with h1 | h1
    · exact hb2 (by rw [h1, e'])
    · omega
  intro i v t' hv ht
  by_cases hi : i < vs.length
  · rw [List.getElem?_append_left hi] at hv
    rw [List.getElem?_append_left (by omega)] at ht
    have h1 := (hreps i v t' hv ht).keep (Keeps.of_below _ hb)
    have hold : ∀ b, b < wr.heap.size → (base ≤ b ∧ kv.ownBlock ≠ some b) → True := fun _ _ _ => trivial
    have h2 := (hreps i v t' hv ht).mono (S' := fun b => base ≤ b ∧ b < wr.heap.size ∧ kv.ownBlock ≠ some b) (fun b hb1 hb2 => ⟨hb2.1, hb1, hb2.2⟩)
    have h3 := h2.keep (Keeps.of_below _ hb)
    have h4 := h3.keep (w' := w3) (fun b hb1 hb2 => hkeep b ⟨hb2, hb1.2.2⟩ hb2)
    exact h4.mono (fun b _ hb1 => ⟨hb1.1, hne b (by omega) hb1.2.2⟩)
  · have hi' : i = vs.length := by
      have := (List.getElem?_eq_some_iff.1 hv).1
      simp at this; omega
    subst hi'
    rw [List.getElem?_append_right (Nat.le_refl _), Nat.sub_self] at hv
    rw [List.getElem?_append_right (by omega), hvl, Nat.sub_self] at ht
    obtain rfl : u = v := by simpa using hv
    obtain rfl : t = t' := by simpa using ht
    have hk : ∀ b, wr.heap.size ≤ b → kv.ownBlock ≠ some b := fun b hb1 e => by have := (hlt b e).2; omega
    have h2 := hV.mono (S' := fun b => wr.heap.size ≤ b ∧ b < w2.heap.size) (fun b hb1 hb2 => ⟨hb2, hb1⟩)
    have h3 := h2.keep (w' := w3) (fun b hb1 hb2 => hkeep b ⟨hb2, hk b hb1.1⟩ hb2)
    exact h3.mono (fun b _ hb1 => ⟨by omega, hne b hb1.2 (hk b hb1.1)⟩)

/-- As an 'any': a list. -/
theorem ValsAt.any {w : World} {base : Nat} {a : Option Addr} {n c : Nat} {ts : List Tr} (h : ValsAt w base (.slice a n c) ts) (hl : ts.length ≤ 4294967296) : AnyAt w (fun b => base ≤ b) (.iface 123 (.slice a ts.length c)) (listT ts) := by
  obtain ⟨vs, hvl, hown, hreps⟩ := h
  refine .anys a c (fun i => vs.getD i .nilIface) ts ?_ hl ?_
  · intro h0
    rcases hown.2 with ⟨e, h1⟩ | ⟨g, cap, cur, e, hb, hh, _, _, _, htk⟩
    · omega
    · injection e with e1 e2 e3
      subst e1 e2 e3
      refine ⟨g, 0, rfl, hb, fun i hi j u hu => ?_⟩
      have hj : j = 0 := by
        have := (List.getElem?_eq_some_iff.1 hu).1
        simpa using this
      subst hj
      have hu' : vs[i]? = some u := by
        have : vs.getD i .nilIface = u := by simpa using hu
        rw [← this]
        simp [show i < vs.length by omega]
      have hc : cur.toList[i]? = some u := by
        have := congrArg (·[i]?) htk
        simp only [Nat.mul_one] at this
        rw [List.getElem?_take_of_lt hi] at this
        rw [this, hu']
      have hc' : cur[i]? = some u := by simpa using hc
      simp [World.cell?, hh, hc']
  · intro i t ht
    have hi : i < vs.length := by rw [hvl]; exact (List.getElem?_eq_some_iff.1 ht).1
    have := hreps i vs[i] t (by simp) ht
    have e : vs.getD i .nilIface = vs[i] := by simp [hi]
    rw [e]
    exact this.mono (fun b _ hb => hb.1)

def PlainPost (w : World) (t : Tr) (e : Ending) (w' : World) : Prop := ∃ ty x, e = .returned (.iface ty x) ∧ AnyAt w' (fun b => w.heap.size ≤ b) (.iface ty x) t ∧ Below w.heap.size w w'
def PlainsPost (w : World) (ts : List Tr) (e : Ending) (w' : World) : Prop := ∃ a c, e = .returned (.slice a ts.length c) ∧ ValsAt w' w.heap.size (.slice a ts.length c) ts ∧ Below w.heap.size w w'

set_option maxRecDepth 100000 in
set_option maxHeartbeats 4000000 in
theorem plains_any (ts : List Tr) (nf : Tr → Tr) (S : Nat → Prop) (a : Option Addr) (c : Nat) (w : World) (hts : TreesAt w S a ts) (hl : ts.length ≤ 4294967296)
    (hel : ∀ i (hi : i < ts.length) (v : TV) wr, RepT wr S v ts[i] → Calls Tryz.prog 121 #[v.val] wr (PlainPost wr (nf ts[i]))) :
    Calls Tryz.prog 169 #[.slice a ts.length c] w (PlainsPost w (ts.map nf)) := by
  obtain ⟨i0, hi, hz0, hz1, hz2⟩ := info_parts Tryz.info20
  have Hts := Lib.hid hts; clear hts
  have Hel := Lib.hid hel; clear hel
  go_enter Tryz.func169, Tryz.ntmps169
  go_wp2_with fail
  go_loopw [3, 9] (fun v i wr => ∃ (k g cap : Nat), k ≤ ts.length ∧ i = .int .i64 k ∧ v = .slice (some ⟨g, 0, none⟩) k cap ∧ ValsAt wr w.heap.size (.slice (some ⟨g, 0, none⟩) k cap) ((ts.take k).map nf) ∧ Below w.heap.size w wr) (fun _ i _ => ts.length - (intOf i).toNat)
  case atStart => exact ⟨0, _, _, Nat.zero_le _, rfl, rfl, ⟨[], by simp, World.ownsRow_made w _ _ (Nat.le_refl _) (by unfold maxLen; omega) rfl, fun i v t h => by simp at h⟩, (Below.refl _ _).alloc (Nat.le_refl _) _⟩
  case round =>
    obtain ⟨k, g, cap, hk, rfl, rfl, hvals, hbel⟩ := hrel
    have hbase := hbel.size
    by_cases hlt : k < ts.length
    · obtain ⟨b, o, v', hca, hSb, hlb, ⟨c0, c1, c2, c3, c4, c5⟩, hv⟩ := (Hts.out.keep (Keeps.of_below S hbel)).cells (k := k) hlt
      subst hca
      have hc := Hel.out k hlt
      have hk1 : Hid ((ts.take (k + 1)).map nf = (ts.take k).map nf ++ [nf ts[k]]) := Lib.hid (by rw [List.take_succ_eq_append_getElem hlt, List.map_append]; rfl)
      have hkl : Hid (((ts.take k).map nf).length = k) := Lib.hid (by rw [List.length_map, List.length_take]; omega)
      generalize ts[k] = t at *
      obtain ⟨vs, hvl, hown, hreps⟩ := hvals
      rw [hkl.out] at hown hvl
      have hvl' : vs.length = ((ts.take k).map nf).length := by rw [hkl.out]; exact hvl
      have Hvl := Lib.hid hvl'; clear hvl' hvl
      obtain ⟨kind, text, num, yes, ka, kn, kc, ca, cn, cc⟩ := v'
      simp only at c0 c1 c2 c3 c4 c5
      have Hreps := Lib.hid hreps; clear hreps
      have Hown := Lib.hid hown; clear hown
      have Hc := Lib.hid hc; clear hc
      have Hv := Lib.hid hv; clear hv
      have Hbel := Lib.hid hbel; clear hbel
      have hi1 : (0 : Int) ≤ (k : Int) := by omega
      have hi2 : (k : Int) < (ts.length : Int) := by omega
      go_wp2_with fail
      have hb1 : Below wr.heap.size wr (wr.alloc (.cells #[.int .i64 kind, .string text, .float .f64 num, .bool yes, .slice ka kn kc, .slice ca cn cc] 31)) := (Below.refl _ _).alloc (Nat.le_refl _) _
      refine (Hc.out ⟨kind, text, num, yes, ka, kn, kc, ca, cn, cc⟩ _ (Hv.out.keep (Keeps.of_below S hb1))).mono ?_
      rintro e w2 ⟨ty, x, rfl, hu, hb2⟩
      have hb3 := via hb1 hb2
      have hown2 := ownsRow_below Hown.out hb3
      have hu' := hu.mono (S' := fun b => wr.heap.size ≤ b) (fun b _ h => by simp at h; omega)
      have Hu := Lib.hid hu'; clear hu'
      have Hb3 := Lib.hid hb3; clear hb3
      clear hu hb1 hb2
      have hsz : wr.heap.size ≤ w2.heap.size := Hb3.out.size
      go_wp2_with (at_builtin; refine wpList_append_lies _ rfl _ _ _ rfl w.heap.size 20 i0 _ 1 16 Tryz.underlying123 hi hz0 hz1 hz2 rfl (by omega) (.slice (some ⟨g, 0, none⟩) k cap) k vs rfl (hown2.alloc _) ⟨w2.heap.size, 0, none⟩ 1 1 [.iface ty x] rfl rfl (World.news_of_block (cs := #[.iface ty x]) (t := 20) (fr := (0, 0)) (heap_alloc_new w2 _)) (by simp [Value.oneCell']) (by omega) (by unfold maxLen; omega) (by omega) (by simp; omega) (w2.heap.size + 1) (by simp) ?_; intro gg cap' w3 hown3 hgrow hat hlt3)
      have hv3 := vals_round hkl.out hbase Hvl.out Hreps.out Hown.out Hb3.out Hu.out _ hgrow hat hown3
      have hbel3 := ((via Hbel.out Hb3.out).alloc (by omega) _).grown hgrow (by simp; omega) (fun k hk => (Hown.out.lt k hk).1)
      have Hv3 := Lib.hid hv3
      have Hbel3 := Lib.hid hbel3
      clear hv3 hbel3 hgrow hat hown3 hown2
      go_wp2_with fail
      go_roundw
      case rel => exact ⟨k + 1, gg, cap', by omega, by simp, rfl, by rw [hk1.out]; exact Hv3.out, Hbel3.out⟩
      case measure => simp [intOf]; omega
    · obtain rfl : k = ts.length := by omega
      have Hvals := Lib.hid hvals; clear hvals
      have Hbel := Lib.hid hbel; clear hbel
      go_wp2_with fail
      refine bodyPost_ret (v := .slice (some ⟨g, 0, none⟩) ts.length cap) (by simp [results, Tryz.results169, go_sem]) rfl ?_
      have hv := Hvals.out
      rw [List.take_length] at hv
      exact ⟨some ⟨g, 0, none⟩, cap, by simp, by simpa using hv, Hbel.out⟩

/-- A tree as it comes back: so deep at most. -/
def leafT (t : Tr) : Tr := if t.kind = 1 then textT t.text else if t.kind = 2 then numT t.num else if t.kind = 3 then yesT t.yes else Tr.zero
def normT : Nat → Tr → Tr
  | 0, t => leafT t
  | d + 1, t => if t.kind = 4 then listT (t.kids.map (normT d)) else if t.kind = 5 then mapTree (t.keys.zip (t.kids.map (normT d))) else leafT t

theorem strLt_trans {a b c : ByteArray} (h1 : strLt a b = true) (h2 : strLt b c = true) : strLt a c = true := by
  unfold strLt at *
  rw [bytesLess_eq] at *
  simp only [decide_eq_true_eq] at *
  exact List.lt_trans h1 h2
theorem strLt_irrefl (a : ByteArray) : strLt a a = false := by
  unfold strLt
  rw [bytesLess_eq]
  simp only [decide_eq_false_iff_not]
  exact List.lt_irrefl _
theorem ascends {l : List ByteArray} (h : ∀ k, 0 < k → k < l.length → strLt (l.getD (k - 1) ⟨#[]⟩) (l.getD k ⟨#[]⟩) = true) : l.Pairwise (fun a b => strLt a b = true) := by
  rw [List.pairwise_iff_getElem]
  intro i j hi hj hij
  induction j with
  | zero => omega
  | succ j ih =>
    have h1 := h (j + 1) (by omega) hj
    have e0 : l.getD (j + 1 - 1) ⟨#[]⟩ = l[j] := by simp [show j < l.length by omega]
    have e1 : l.getD (j + 1) ⟨#[]⟩ = l[j + 1] := by simp [hj]
    rw [e0, e1] at h1
    by_cases h2 : i = j
    · subst h2; exact h1
    · exact strLt_trans (ih (by omega) (by omega)) h1

structure MapOK (d : Nat) (t : Tr) : Prop where
  len : t.keys.length = t.kids.length
  asc : t.keys.Pairwise (fun a b => strLt a b = true)
  kids : ∀ k ∈ t.kids, properT d k = true
theorem proper_kids {d : Nat} {t : Tr} (h : properT (d + 1) t = true) (hk : t.kind = 4 ∨ t.kind = 5) : (∀ k ∈ t.kids, properT d k = true) ∧ (t.kind = 4 → t.keys = []) ∧ (t.kind = 5 → MapOK d t) := by
  unfold properT at h
  rw [if_neg (by omega)] at h
  split at h
  · cases h
  · rename_i hno
    rw [List.all_eq_true] at h
    have hkids : ∀ k ∈ t.kids, properT d k = true := by
      intro k hk
      obtain ⟨i, hi, rfl⟩ := List.mem_iff_getElem.1 hk
      have := h i (List.mem_range.2 hi)
      unfold kidOK at this
      rw [Bool.and_eq_true] at this
      have e : t.kids.getD i Tr.zero = t.kids[i] := by simp [hi]
      rw [e] at this
      exact this.1
    refine ⟨hkids, fun h4 => List.length_eq_zero_iff.1 (by omega), fun h5 => ⟨by omega, ascends fun k h0 hk => ?_, hkids⟩⟩
    have := h k (List.mem_range.2 (by omega))
    unfold kidOK at this
    rw [Bool.and_eq_true] at this
    have h2 := this.2
    rw [h5] at h2
    simpa [show k ≠ 0 by omega] using h2
theorem MapOK.nodup {d : Nat} {t : Tr} (h : MapOK d t) : t.keys.Nodup := by
  rw [List.nodup_iff_pairwise_ne]
  refine h.asc.imp fun {a b} hab e => ?_
  rw [e, strLt_irrefl] at hab
  cases hab

theorem plain_leaf (t : Tr) (v : TV) (S : Nat → Prop) (w : World) (hv : RepT w S v t) (hk : t.kind = 1 ∨ t.kind = 2 ∨ t.kind = 3) : Calls Tryz.prog 121 #[v.val] w (PlainPost w (leafT t)) := by
  obtain ⟨q1, q2, q3, q4, q5, q6⟩ := hv.eqs
  have hb := hv.bounds.1
  obtain ⟨kind, text, num, yes, ka, kn, kc, ca, cn, cc⟩ := v
  simp only at q1 q2 q3 q4 q5 q6
  have hL : leafT t = if kind = 1 then textT text else if kind = 2 then numT num else if kind = 3 then yesT yes else Tr.zero := by unfold leafT; rw [q1, q2, q3, q4]
  rw [← q1] at hk
  rw [← q2] at hb
  clear q1 q2 q3 q4 q5 q6 hv
  have HL := Lib.hid hL; clear hL
  rcases hk with rfl | rfl | rfl
  · go_enter Tryz.func121, Tryz.ntmps121
    go_wp2_with fail
    go_ret
    exact ⟨9, .string text, by simp, by rw [HL.out]; exact .str _ hb, (Below.refl _ _).alloc (Nat.le_refl _) _⟩
  · go_enter Tryz.func121, Tryz.ntmps121
    go_wp2_with fail
    go_ret
    exact ⟨28, .float .f64 num, by simp, by rw [HL.out]; exact .num _, (Below.refl _ _).alloc (Nat.le_refl _) _⟩
  · go_enter Tryz.func121, Tryz.ntmps121
    go_wp2_with fail
    go_ret
    exact ⟨4, .bool yes, by simp, by rw [HL.out]; exact .yes _, (Below.refl _ _).alloc (Nat.le_refl _) _⟩

theorem plain_list (t : Tr) (nf : Tr → Tr) (v : TV) (S : Nat → Prop) (w : World) (hv : RepT w S v t) (hk : t.kind = 4) (hl : t.kids.length ≤ 4294967296)
    (hel : ∀ k ∈ t.kids, ∀ (v : TV) (wr : World), RepT wr S v k → Calls Tryz.prog 121 #[v.val] wr (PlainPost wr (nf k))) : Calls Tryz.prog 121 #[v.val] w (PlainPost w (listT (t.kids.map nf))) := by
  obtain ⟨q1, q2, q3, q4, q5, q6⟩ := hv.eqs
  obtain ⟨kind, text, num, yes, ka, kn, kc, ca, cn, cc⟩ := v
  simp only at q1 q2 q3 q4 q5 q6
  rw [hk] at q1
  subst q1 q6
  clear q2 q3 q4 q5
  have hb := (Below.refl w.heap.size w).alloc (Nat.le_refl _) (.cells #[.int .i64 4, .string text, .float .f64 num, .bool yes, .slice ka kn kc, .slice ca t.kids.length cc] 31)
  have hc := plains_any t.kids nf S ca cc _ (hv.trees.keep (Keeps.of_below S hb)) hl (fun i hi v wr hr => hel _ (List.getElem_mem hi) v wr hr)
  have Hc := Lib.hid hc; clear hc hv hel hk
  have Hb := Lib.hid hb; clear hb
  go_enter Tryz.func121, Tryz.ntmps121
  go_wp2_with fail
  refine Hc.out.mono ?_
  rintro e w2 ⟨a', c', rfl, hvals, hb2⟩
  have Hvals := Lib.hid hvals; clear hvals
  have Hb2 := Lib.hid hb2; clear hb2
  go_wp2_with fail
  go_ret
  refine ⟨123, .slice a' (t.kids.map nf).length c', by simp, ?_, via Hb.out Hb2.out⟩
  exact (Hvals.out.any (by simpa using hl)).mono (fun b _ hb => by simp at hb; omega)
end Go.Proofs.YtbcnhcpgloncdaaGreatDoor
/- 'plain' of a map; of any proper tree; 'given.Source'. -/
namespace Go.Proofs.YtbcnhcpgloncdaaGreatDoor
open Go Go.RowKit Go.BigFrame Go.Maps

set_option maxRecDepth 100000 in
set_option maxHeartbeats 4000000 in
theorem plain_map (t : Tr) (nf : Tr → Tr) (v : TV) (S : Nat → Prop) (w : World) (hv : RepT w S v t) (hk : t.kind = 5) (hl : t.kids.length ≤ 4294967296) (hkl : t.keys.length = t.kids.length) (hnd : t.keys.Nodup) (hks : ∀ k ∈ t.keys, k.size ≤ maxLen)
    (hel : ∀ k ∈ t.kids, ∀ (v : TV) (wr : World), RepT wr S v k → Calls Tryz.prog 121 #[v.val] wr (PlainPost wr (nf k))) : Calls Tryz.prog 121 #[v.val] w (PlainPost w (mapTree (t.keys.zip (t.kids.map nf)))) := by
  obtain ⟨q1, q2, q3, q4, q5, q6⟩ := hv.eqs
  have Hv := Lib.hid hv; clear hv
  have Hel := Lib.hid hel; clear hel
  have Hkl := Lib.hid hkl
  have Hnd := Lib.hid hnd; clear hnd
  have Hks := Lib.hid hks; clear hks
  obtain ⟨kind, text, num, yes, ka, kn, kc, ca, cn, cc⟩ := v
  simp only at q1 q2 q3 q4 q5 q6
  rw [hk] at q1
  rw [hkl] at q5
  obtain ⟨N, hN⟩ : ∃ N, t.kids.length = N := ⟨_, rfl⟩
  rw [hN] at q5 q6 hl
  subst q1 q5 q6
  have HN := Lib.hid hN
  clear q2 q3 q4 hk hkl hN
  have hbox := heap_alloc_new w (.cells #[.int .i64 5, .string text, .float .f64 num, .bool yes, .slice ka cn kc, .slice ca cn cc] 31)
  have Hbox := Lib.hid hbox; clear hbox
  have hm0 := World.ownsMap_made (w.alloc (.cells #[.int .i64 5, .string text, .float .f64 num, .bool yes, .slice ka cn kc, .slice ca cn cc] 31)) Tryz.prog 9 R9
  have hz1 : (w.alloc (.cells #[.int .i64 5, .string text, .float .f64 num, .bool yes, .slice ka cn kc, .slice ca cn cc] 31)).heap.size = w.heap.size + 1 := by simp
  rw [hz1] at hm0
  have Hm0 := Lib.hid hm0; clear hm0
  go_enter Tryz.func121, Tryz.ntmps121
  go_wp2_with fail
  go_loopw [35] (fun i wr => ∃ (k n : Nat) (es : List (ByteArray × Value)), k ≤ cn ∧ n ≤ k ∧ i = .int .i64 k ∧ wr.ownsMap Tryz.prog 9 R9 (w.heap.size + 1) n (dput es) ∧ EntriesOK wr (fun b => w.heap.size + 2 ≤ b) es ((t.keys.zip (t.kids.map nf)).take k) ∧
      Below (w.heap.size + 1) (w.alloc (.cells #[.int .i64 5, .string text, .float .f64 num, .bool yes, .slice ka cn kc, .slice ca cn cc] 31)) wr ∧ w.heap.size + 2 ≤ wr.heap.size) (fun i _ => cn - (intOf i).toNat)
  case atStart =>
    exact ⟨0, 0, [], Nat.zero_le _, Nat.le_refl _, rfl, Hm0.out, by simpa using EntriesOK.nil _ _, (Below.refl _ _).alloc (by simp) _, by simp⟩
  case round =>
    obtain ⟨k, n, es, hk, hnk, rfl, hmap, hes, hbel, hsz⟩ := hrel
    have hbox1 := (hbel.block w.heap.size (by omega)).trans Hbox.out
    have b5 : wr.cell? ⟨w.heap.size, 5, none⟩ = some (.slice ca cn cc) := by simp [World.cell?, hbox1]
    have hw0 : Below w.heap.size w wr := ((Below.refl _ _).alloc (Nat.le_refl _) _).trans (hbel.mono (by omega))
    have Hes := Lib.hid hes; clear hes
    have Hmap := Lib.hid hmap; clear hmap
    by_cases hlt : k < cn
    · have hlt' : k < t.kids.length := by rw [HN.out]; exact hlt
      have hltk : k < t.keys.length := by rw [Hkl.out]; exact hlt'
      have hvr := Hv.out.keep (Keeps.of_below S hw0)
      obtain ⟨b, o, v', hca, hSb, hlb, ⟨e0, e1, e2, e3, e4, e5⟩, hrv⟩ := hvr.kid (k := k) hlt'
      obtain ⟨bk, ok, hka, _, hlbk, ck⟩ := hvr.key (k := k) hltk
      simp only at hca hka
      subst hca hka
      have hzip : Hid ((t.keys.zip (t.kids.map nf)).take (k + 1) = (t.keys.zip (t.kids.map nf)).take k ++ [(t.keys[k], nf t.kids[k])]) := Lib.hid (by
        rw [List.take_succ_eq_append_getElem (by simp; omega)]; simp)
      have hkey := Go.WideMaps.keyOf_string_mk (P := Tryz.prog) (k := 9) Tryz.underlying9 (Hks.out t.keys[k] (List.getElem_mem hltk))
      have hc := Hel.out t.kids[k] (List.getElem_mem hlt')
      generalize t.keys[k] = key at *
      generalize t.kids[k] = kid at *
      obtain ⟨kind', text', num', yes', ka', kn', kc', ca', cn', cc'⟩ := v'
      simp only at e0 e1 e2 e3 e4 e5
      have Hrv := Lib.hid hrv; clear hrv hvr
      have Hc := Lib.hid hc; clear hc
      have Hw0 := Lib.hid hw0; clear hw0
      have Hbel := Lib.hid hbel; clear hbel hbox1
      have hi1 : (0 : Int) ≤ (k : Int) := by omega
      have hi2 : (k : Int) < (cn : Int) := by omega
      have hnm : n < maxLen := by unfold maxLen; omega
      go_wp2_with fail
      refine (Hc.out ⟨kind', text', num', yes', ka', kn', kc', ca', cn', cc'⟩ _ Hrv.out).mono ?_
      rintro e w2 ⟨ty, x, rfl, hu, hb2⟩
      have hm2 := Hmap.out.kept (Below.grow hb2) (by simp)
      have hes2 := Hes.out.keep (Keeps.of_below _ hb2)
      have Hm2 := Lib.hid hm2; clear hm2
      have Hes2 := Lib.hid hes2; clear hes2
      have Hu := Lib.hid hu; clear hu
      have Hb2 := Lib.hid hb2; clear hb2
      go_wp2_with (at_mapUpdate; refine wpList_mapUpdate_own _ rfl _ _ _ 122 rfl 9 20 keyed9 Tryz.underlying122 R9 (w.heap.size + 1) n _ rfl Hm2.out hnm (.string key) (.iface ty x) _ rfl rfl hkey (.held (.iface ty x)) [] rfl ?_; intro w3 hm3 hg3)
      have hsz2 := Hb2.out.size
      have hg3s := hg3.size
      have hkeep3 : Keeps (fun b => w.heap.size + 2 ≤ b) w2 w3 := fun b hb1 hb3 => hg3.block b hb3 (by intro e; injection e with e; omega)
      have hm3' : w3.ownsMap Tryz.prog 9 R9 (w.heap.size + 1) (n + 1) (dput (es ++ [(key, .iface ty x)])) := by rw [dput_snoc]; exact hm3
      have hes3 : EntriesOK w3 (fun b => w.heap.size + 2 ≤ b) (es ++ [(key, .iface ty x)]) ((t.keys.zip (t.kids.map nf)).take (k + 1)) := by
        rw [hzip.out]
        refine (Hes2.out.keep hkeep3).snoc key ?_
        exact (Hu.out.mono (fun b _ hb => by omega)).keep hkeep3
      have hbel3 : Below (w.heap.size + 1) (w.alloc (.cells #[.int .i64 5, .string text, .float .f64 num, .bool yes, .slice (some ⟨bk, ok, none⟩) cn kc, .slice (some ⟨b, o, none⟩) cn cc] 31)) w3 := (Hbel.out.trans (Hb2.out.mono (by omega))).grown hg3 (by omega) (fun k hk => by injection hk; omega)
      have Hm3 := Lib.hid hm3'
      have Hes3 := Lib.hid hes3
      have Hbel3 := Lib.hid hbel3
      clear hm3 hm3' hes3 hbel3 hkeep3 hg3
      go_wp2_with fail
      go_roundw
      case rel => exact ⟨k + 1, n + 1, _, by omega, by omega, by simp, Hm3.out, Hes3.out, Hbel3.out, by omega⟩
      case measure => simp [intOf]; omega
    · obtain rfl : k = cn := by omega
      have Hw0 := Lib.hid hw0; clear hw0 hbel hbox1
      go_wp2_with fail
      go_ret
      refine ⟨122, .map (some (w.heap.size + 1)), by simp, ?_, Hw0.out⟩
      have hes := Hes.out
      have hlen : (t.keys.zip (t.kids.map nf)).length = k := by simp [Hkl.out, HN.out]
      rw [List.take_of_length_le (by omega)] at hes
      have hfst : (t.keys.zip (t.kids.map nf)).map (·.1) = t.keys := by
        rw [List.map_fst_zip]; simp [Hkl.out]
      have hel : es.length = k := by have := congrArg List.length hes.1; simpa [hlen, hfst, Hkl.out, HN.out] using this
      refine map_any (S := fun b => w.heap.size ≤ b) (by omega) Hmap.out (by omega) (by rw [hes.1, hfst]; exact Hnd.out) ⟨hes.1, fun i e t h1 h2 => (hes.2 i e t h1 h2).mono (fun b _ hb => by omega)⟩

theorem plain_any (d : Nat) : ∀ (t : Tr) (n r : Nat), n ≤ 4294967296 → r ≤ 9223372036854775807 → OkT n r t → properT d t = true → ∀ (v : TV) (S : Nat → Prop) (w : World), RepT w S v t → Calls Tryz.prog 121 #[v.val] w (PlainPost w (normT d t)) := by
  have hleaf : ∀ (t : Tr), scalarP t = true → t.kind = 1 ∨ t.kind = 2 ∨ t.kind = 3 := by
    intro t h
    unfold scalarP at h
    split at h
    · cases h
    · split at h
      · exact .inl (by assumption)
      · split at h
        · exact .inr (.inl (by assumption))
        · exact .inr (.inr (by simpa using h))
  induction d with
  | zero =>
    intro t n r _ _ _ hp v S w hv
    exact plain_leaf t v S w hv (hleaf t hp)
  | succ d ih =>
    intro t n r hn hr hok hp v S w hv
    have hsz := hok.size
    unfold normT
    by_cases h4 : t.kind = 4
    · rw [if_pos h4]
      obtain ⟨hkids, _, _⟩ := proper_kids hp (.inl h4)
      exact plain_list t (normT d) v S w hv h4 (by omega) (fun k hk v wr hr' => ih k n r hn hr (hok.kid hk) (hkids k hk) v S wr hr')
    · rw [if_neg h4]
      by_cases h5 : t.kind = 5
      · rw [if_pos h5]
        obtain ⟨hkids, _, hm⟩ := proper_kids hp (.inr h5)
        have hm := hm h5
        exact plain_map t (normT d) v S w hv h5 (by omega) hm.len hm.nodup (fun k hk => by have := (hok.key hk).2; unfold maxLen; omega) (fun k hk v wr hr' => ih k n r hn hr (hok.kid hk) (hkids k hk) v S wr hr')
      · rw [if_neg h5]
        have : scalarP t = true := by
          unfold properT at hp
          rwa [if_pos ⟨h4, h5⟩] at hp
        exact plain_leaf t v S w hv (hleaf t this)

/-- 'Source' of a given tree. -/
theorem given_any (t : Tr) (n r d : Nat) (hn : n ≤ 4294967296) (hr : r ≤ 9223372036854775807) (hok : OkT n r t) (hp : properT d t = true) (v : TV) (S : Nat → Prop) (w : World) (hv : RepT w S v t) :
    Calls Tryz.prog 277 #[v.val] w fun e w' => ∃ ty x, e = .returned (.tuple #[.iface ty x, .nilIface]) ∧ AnyAt w' (fun b => w.heap.size ≤ b) (.iface ty x) (normT d t) ∧ Below w.heap.size w w' := by
  obtain ⟨kind, text, num, yes, ka, kn, kc, ca, cn, cc⟩ := v
  have hb := (Below.refl w.heap.size w).alloc (Nat.le_refl _) (.cells #[.int .i64 kind, .string text, .float .f64 num, .bool yes, .slice ka kn kc, .slice ca cn cc] 59)
  have hc := plain_any d t n r hn hr hok hp _ S _ (hv.keep (Keeps.of_below S hb))
  have Hc := Lib.hid hc; clear hc hv hok hp
  have Hb := Lib.hid hb; clear hb
  go_enter Tryz.func277, Tryz.ntmps277
  go_wp2_with fail
  refine Hc.out.mono ?_
  rintro e w2 ⟨ty, x, rfl, hu, hb2⟩
  have Hu := Lib.hid hu; clear hu
  have Hb2 := Lib.hid hb2; clear hb2
  go_wp2_with fail
  refine bodyPost_ret (v := .tuple #[.iface ty x, .nilIface]) (by simp [results, Tryz.results277, go_sem]) rfl ?_
  exact ⟨ty, x, rfl, Hu.out.mono (fun b _ hb => by simp at hb; omega), via Hb.out Hb2.out⟩
end Go.Proofs.YtbcnhcpgloncdaaGreatDoor
/- 'With': a map with a tree for a key. -/
namespace Go.Proofs.YtbcnhcpgloncdaaGreatDoor
open Go Go.RowKit Go.BigFrame

/-- A tree comes back; what it leads to is in S, or new. -/
def TreeS (w : World) (S : Nat → Prop) (t : Tr) (e : Ending) (w' : World) : Prop := ∃ v : TV, e = .returned v.val ∧ RepT w' (fun b => S b ∨ w.heap.size ≤ b) v t ∧ Below w.heap.size w w'

/-- A map that is being made: in a box at block B, its rows from B + 1 on; its kids lie in w0. -/
structure MapS (w0 : World) (S : Nat → Prop) (B : Nat) (wr : World) (ks : List ByteArray) (ts : List Tr) (kv cv : Value) : Prop where
  box : Box6 wr B (.int .i64 5) (.string ⟨#[]⟩) (.float .f64 0) (.bool false) kv cv
  keys : wr.ownsRow (B + 1) 9 1 kv ks.length (ks.map Value.string)
  kids : ∃ vs : List TV, vs.length = ts.length ∧ wr.ownsRow (B + 1) 31 6 cv ts.length (vs.flatMap TV.cells) ∧ ∀ (i : Nat) (v : TV) (t : Tr), vs[i]? = some v → ts[i]? = some t → RepT w0 S v t
  far : ∀ b, kv.ownBlock = some b → cv.ownBlock ≠ some b
  bel : Below B w0 wr
  size : B + 1 ≤ wr.heap.size

theorem own_box_ne {w : World} {base e sz n : Nat} {v : Value} {xs : List Value} {B : Nat} (h : w.ownsRow base e sz v n xs) (hB : B < base) : v.ownBlock ≠ some B := by
  intro e'
  have := (h.lt B e').1
  omega

theorem MapS.addKey {w0 wr X w1 : World} {S : Nat → Prop} {B g cap : Nat} {ks : List ByteArray} {ts : List Tr} {kv cv : Value} {k : ByteArray} (h : MapS w0 S B wr ks ts kv cv) (hX : Below wr.heap.size wr X) (hXs : X.heap.size = wr.heap.size + 1)
    (hown : w1.ownsRow (B + 1) 9 1 (.slice (some ⟨g, 0, none⟩) (ks.length + 1) cap) (ks.length + 1) (ks.map Value.string ++ [.string k])) (hg : X.grownBy w1 kv.ownBlock) (hat : kv.ownBlock = some g ∨ g = wr.heap.size + 1) :
    MapS w0 S B (w1.setCell ⟨B, 4, none⟩ (.slice (some ⟨g, 0, none⟩) (ks.length + 1) cap)) (ks ++ [k]) ts (.slice (some ⟨g, 0, none⟩) (ks.length + 1) cap) cv := by
  obtain ⟨vs, hvl, hkids, hreps⟩ := h.kids
  have hsz := h.size
  have hg1 := hg.size
  have hgB : g ≠ B := by
    rcases hat with e | e
    · have := (h.keys.lt g e).1; omega
    · omega
  have hset : w1.grownBy (w1.setCell ⟨B, 4, none⟩ (.slice (some ⟨g, 0, none⟩) (ks.length + 1) cap)) (some B) := grownBy_setCell w1 ⟨B, 4, none⟩ _
  have hbox1 : Box6 w1 B (.int .i64 5) (.string ⟨#[]⟩) (.float .f64 0) (.bool false) kv cv :=
    Box6.keep (Box6.keep h.box (hX.block B (by omega))) (hg.block B (by omega) (by intro e; exact own_box_ne h.keys (by omega) e.symm))
  have hcne : cv.ownBlock = none ∨ cv.ownBlock ≠ kv.ownBlock := by
    cases e : cv.ownBlock with
    | none => exact .inl rfl
    | some b => exact .inr (fun e' => h.far b e'.symm e)
  have hkids1 : w1.ownsRow (B + 1) 31 6 cv ts.length (vs.flatMap TV.cells) := by
    have h1 := ownsRow_below hkids hX
    rcases hcne with e | e
    · exact h1.kept hg (.inl e)
    · exact h1.kept hg (.inr e)
  refine ⟨hbox1.set4 _, ?_, ⟨vs, hvl, hkids1.kept hset (.inr (own_box_ne hkids (by omega))), hreps⟩, ?_, ?_, ?_⟩
  · have := hown.kept hset (.inr (by simpa [Value.ownBlock] using hgB))
    simpa using this
  · intro b hb e
    have e' : g = b := by simpa [Value.ownBlock] using hb
    subst e'
    rcases hat with e2 | e2
    · exact h.far g e2 e
    · have := (hkids.lt g e).2; omega
  · have h1 : Below B w0 X := h.bel.trans (hX.mono (by omega))
    exact (h1.grown hg (by omega) (fun k hk => by have := (h.keys.lt k hk).1; omega)).setCell (by simp) _
  · simp; omega

theorem MapS.addKid {w0 wr X w1 : World} {S : Nat → Prop} {B g cap : Nat} {ks : List ByteArray} {ts : List Tr} {kv cv : Value} {v : TV} {t : Tr} {cs : List Value} (hcs : cs = v.cells) (h : MapS w0 S B wr ks ts kv cv) (hX : Below wr.heap.size wr X) (hXs : X.heap.size = wr.heap.size + 1)
    (hr : RepT w0 S v t) (hown : ∀ vs : List TV, vs.length = ts.length → wr.ownsRow (B + 1) 31 6 cv ts.length (vs.flatMap TV.cells) → w1.ownsRow (B + 1) 31 6 (.slice (some ⟨g, 0, none⟩) (ts.length + 1) cap) (ts.length + 1) (vs.flatMap TV.cells ++ cs)) (hg : X.grownBy w1 cv.ownBlock) (hat : cv.ownBlock = some g ∨ g = wr.heap.size + 1) :
    MapS w0 S B (w1.setCell ⟨B, 5, none⟩ (.slice (some ⟨g, 0, none⟩) (ts.length + 1) cap)) ks (ts ++ [t]) kv (.slice (some ⟨g, 0, none⟩) (ts.length + 1) cap) := by
  subst hcs
  obtain ⟨vs, hvl, hkids, hreps⟩ := h.kids
  have hsz := h.size
  have hg1 := hg.size
  have hgB : g ≠ B := by
    rcases hat with e | e
    · have := (hkids.lt g e).1; omega
    · omega
  have hset : w1.grownBy (w1.setCell ⟨B, 5, none⟩ (.slice (some ⟨g, 0, none⟩) (ts.length + 1) cap)) (some B) := grownBy_setCell w1 ⟨B, 5, none⟩ _
  have hbox1 : Box6 w1 B (.int .i64 5) (.string ⟨#[]⟩) (.float .f64 0) (.bool false) kv cv :=
    Box6.keep (Box6.keep h.box (hX.block B (by omega))) (hg.block B (by omega) (by intro e; exact own_box_ne hkids (by omega) e.symm))
  have hcne : kv.ownBlock = none ∨ kv.ownBlock ≠ cv.ownBlock := by
    cases e : kv.ownBlock with
    | none => exact .inl rfl
    | some b => exact .inr (fun e' => h.far b e e'.symm)
  have hkeys1 : w1.ownsRow (B + 1) 9 1 kv ks.length (ks.map Value.string) := by
    have h1 := ownsRow_below h.keys hX
    rcases hcne with e | e
    · exact h1.kept hg (.inl e)
    · exact h1.kept hg (.inr e)
  refine ⟨hbox1.set5 _, hkeys1.kept hset (.inr (own_box_ne h.keys (by omega))), ⟨vs ++ [v], by simp [hvl], ?_, ?_⟩, ?_, ?_, ?_⟩
  · have := (hown vs hvl hkids).kept hset (.inr (by simpa [Value.ownBlock] using hgB))
    simpa using this
  · intro i u t' hu ht
    by_cases hi : i < vs.length
    · rw [List.getElem?_append_left hi] at hu
      rw [List.getElem?_append_left (by omega)] at ht
      exact hreps i u t' hu ht
    · have hi' : i = vs.length := by
        have := (List.getElem?_eq_some_iff.1 hu).1
        simp at this; omega
      subst hi'
      rw [List.getElem?_append_right (Nat.le_refl _), Nat.sub_self] at hu
      rw [List.getElem?_append_right (by omega), hvl, Nat.sub_self] at ht
      obtain rfl : v = u := by simpa using hu
      obtain rfl : t = t' := by simpa using ht
      exact hr
  · intro b hb e
    have e' : g = b := by simpa [Value.ownBlock] using e
    subst e'
    rcases hat with e2 | e2
    · exact h.far g hb e2
    · have := (h.keys.lt g hb).2; omega
  · have h1 : Below B w0 X := h.bel.trans (hX.mono (by omega))
    exact (h1.grown hg (by omega) (fun k hk => by have := (hkids.lt k hk).1; omega)).setCell (by simp) _
  · simp; omega

def mapE (es : List (ByteArray × Tr)) : Tr := mapT (es.map (·.1)) (es.map (·.2))

/-- The map that is made, as a tree. -/
theorem MapS.rep {w0 wr : World} {S : Nat → Prop} {B : Nat} {ks : List ByteArray} {ts : List Tr} {ka ca : Option Addr} {kn kc cn cc : Nat} (h : MapS w0 S B wr ks ts (.slice ka kn kc) (.slice ca cn cc)) (hS : ∀ b, S b → b < B) (hkl : ks.length ≤ 9223372036854775807) (htl : ts.length ≤ 9223372036854775807)
    (H : Nat) (hH : H ≤ B + 1) : RepT wr (fun b => S b ∨ H ≤ b) ⟨5, ⟨#[]⟩, 0, false, ka, kn, kc, ca, cn, cc⟩ (mapT ks ts) := by
  obtain ⟨vs, hvl, hkids, hreps⟩ := h.kids
  have hkn : kn = ks.length := by
    rcases h.keys.2 with ⟨e, h0⟩ | ⟨g, cap, cur, e, _⟩
    · cases e; exact h0.symm
    · cases e; rfl
  have hcn : cn = ts.length := by
    rcases hkids.2 with ⟨e, h0⟩ | ⟨g, cap, cur, e, _⟩
    · cases e; exact h0.symm
    · cases e; rfl
  have hkeep : Keeps S w0 wr := fun b hb _ => h.bel.block b (hS b hb)
  refine .mk _ _ (fun i => vs.getD i default) ⟨by simp only [mapT, Tr.text]; decide, hkl, htl⟩ rfl rfl rfl rfl hkn ?_ hcn ?_ ?_
  · intro h0
    simp only [mapT, Tr.keys] at h0
    rcases h.keys.2 with ⟨e, h1⟩ | ⟨g, cap, cur, e, hb, hh, _, _, _, htk⟩
    · omega
    · cases e
      refine ⟨g, 0, rfl, .inr (by omega), fun i hi j u hu => ?_⟩
      simp only [mapT, Tr.keys] at hi hu
      have hj : j = 0 := by
        have := (List.getElem?_eq_some_iff.1 hu).1
        simpa using this
      subst hj
      have hc : cur.toList[i]? = some u := by
        have := congrArg (fun l => l[i]?) htk
        simp only [Nat.mul_one] at this
        rw [List.getElem?_take_of_lt hi] at this
        rw [this, ← hu]
        simp [hi]
      have hc' : cur[i]? = some u := by simpa using hc
      simp [World.cell?, hh, hc']
  · intro h0
    simp only [mapT, Tr.kids] at h0
    rcases hkids.2 with ⟨e, h1⟩ | ⟨g, cap, cur, e, hb, _⟩
    · omega
    · cases e
      refine ⟨g, 0, rfl, .inr (by omega), row_of_own TV.cells (fun x => by simp) vs hvl hkids _ ?_⟩
      intro i hi
      simp [hi]
  · intro i k hk
    simp only [mapT, Tr.kids] at hk
    have hi : i < vs.length := by rw [hvl]; exact (List.getElem?_eq_some_iff.1 hk).1
    have := ((hreps i vs[i] k (by simp) hk).keep hkeep).mono (S' := fun b => S b ∨ H ≤ b) (fun b _ hb => .inl hb)
    simpa [hi] using this
end Go.Proofs.YtbcnhcpgloncdaaGreatDoor
