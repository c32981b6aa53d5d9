/- 'plain', 'plains': a tree as the plain value that a caller has. -/
import Derived.Test.YtbcnhcpgloncdaaGreatDoorIb
import Derived.Test.YtbcnhcpgloncdaaGreatDoorGu
namespace Go.Proofs.YtbcnhcpgloncdaaGreatDoor
open Go Go.RowKit Go.BigFrame Go.Maps

theorem Tryz.info20 : (Tryz.prog.info? 20).map (fun i => (i.zero, i.size, i.bytes)) = some (some .nilIface, 1, 16) := by kernel_rfl

theorem AnyAt.one {w : World} {S : Nat → Prop} {v : Value} {t : Tr} (h : AnyAt w S v t) : v.oneCell' = true ∧ v.cells = #[v] := by
  cases h <;> exact ⟨rfl, rfl⟩

/-- The values that are done, and the row that holds them. -/
def ValsAt (wr : World) (base : Nat) (kv : Value) (ts : List Tr) : Prop :=
  ∃ vs : List Value, vs.length = ts.length ∧ wr.ownsRow base 20 1 kv ts.length vs ∧ ∀ (i : Nat) (v : Value) (t : Tr), vs[i]? = some v → ts[i]? = some t → AnyAt wr (fun b => base ≤ b ∧ kv.ownBlock ≠ some b) v t
theorem vals_round {wr w2 w3 : World} {base g cap k : Nat} {kv : Value} {vs : List Value} {ts : List Tr} {u : Value} {t : Tr} (hk : ts.length = k) (hbase : base ≤ wr.heap.size) (hvl : vs.length = ts.length)
    (hreps : ∀ (i : Nat) (v : Value) (t : Tr), vs[i]? = some v → ts[i]? = some t → AnyAt wr (fun b => base ≤ b ∧ kv.ownBlock ≠ some b) v t) (hown : wr.ownsRow base 20 1 kv k vs) (hb : Below wr.heap.size wr w2)
    (hV : AnyAt w2 (fun b => wr.heap.size ≤ b) u t) (o : Obj) (hg : (w2.alloc o).grownBy w3 kv.ownBlock) (hat : kv.ownBlock = some g ∨ g = w2.heap.size + 1)
    (hown3 : w3.ownsRow base 20 1 (.slice (some ⟨g, 0, none⟩) (k + 1) cap) (k + 1) (vs ++ [u])) :
    ValsAt w3 base (.slice (some ⟨g, 0, none⟩) (k + 1) cap) (ts ++ [t]) := by
  subst hk
  have hz := hb.size
  have hal : Below w2.heap.size w2 (w2.alloc o) := (Below.refl _ _).alloc (Nat.le_refl _) _
  have hlt := fun b e => hown.lt b e
  have hkeep : Keeps (fun b => b < w2.heap.size ∧ kv.ownBlock ≠ some b) w2 w3 := by
    intro b hb' hlt
    exact (hg.block b (by simp; omega) (fun e => hb'.2 e.symm)).trans (heap_alloc_old _ _ hlt)
  refine ⟨vs ++ [u], by simp [hvl], by simpa using hown3, ?_⟩
  have hne : ∀ b, b < w2.heap.size → kv.ownBlock ≠ some b → (Value.slice (some ⟨g, 0, none⟩) (ts.length + 1) cap).ownBlock ≠ some b := by
    intro b hb1 hb2 e
    have e' : g = b := by simpa [Value.ownBlock] using e
    rcases hat with h1 | h1
    · exact hb2 (by rw [h1, e'])
    · omega
  intro i v t' hv ht
  by_cases hi : i < vs.length
  · rw [List.getElem?_append_left hi] at hv
    rw [List.getElem?_append_left (by omega)] at ht
    have h1 := (hreps i v t' hv ht).keep (Keeps.of_below _ hb)
    have hold : ∀ b, b < wr.heap.size → (base ≤ b ∧ kv.ownBlock ≠ some b) → True := fun _ _ _ => trivial
    have h2 := (hreps i v t' hv ht).mono (S' := fun b => base ≤ b ∧ b < wr.heap.size ∧ kv.ownBlock ≠ some b) (fun b hb1 hb2 => ⟨hb2.1, hb1, hb2.2⟩)
    have h3 := h2.keep (Keeps.of_below _ hb)
    have h4 := h3.keep (w' := w3) (fun b hb1 hb2 => hkeep b ⟨hb2, hb1.2.2⟩ hb2)
    exact h4.mono (fun b _ hb1 => ⟨hb1.1, hne b (by omega) hb1.2.2⟩)
  · have hi' : i = vs.length := by
      have := (List.getElem?_eq_some_iff.1 hv).1
      simp at this; omega
    subst hi'
    rw [List.getElem?_append_right (Nat.le_refl _), Nat.sub_self] at hv
    rw [List.getElem?_append_right (by omega), hvl, Nat.sub_self] at ht
    obtain rfl : u = v := by simpa using hv
    obtain rfl : t = t' := by simpa using ht
    have hk : ∀ b, wr.heap.size ≤ b → kv.ownBlock ≠ some b := fun b hb1 e => by have := (hlt b e).2; omega
    have h2 := hV.mono (S' := fun b => wr.heap.size ≤ b ∧ b < w2.heap.size) (fun b hb1 hb2 => ⟨hb2, hb1⟩)
    have h3 := h2.keep (w' := w3) (fun b hb1 hb2 => hkeep b ⟨hb2, hk b hb1.1⟩ hb2)
    exact h3.mono (fun b _ hb1 => ⟨by omega, hne b hb1.2 (hk b hb1.1)⟩)

/-- As an 'any': a list. -/
theorem ValsAt.any {w : World} {base : Nat} {a : Option Addr} {n c : Nat} {ts : List Tr} (h : ValsAt w base (.slice a n c) ts) (hl : ts.length ≤ 4294967296) : AnyAt w (fun b => base ≤ b) (.iface 123 (.slice a ts.length c)) (listT ts) := by
  obtain ⟨vs, hvl, hown, hreps⟩ := h
  refine .anys a c (fun i => vs.getD i .nilIface) ts ?_ hl ?_
  · intro h0
    rcases hown.2 with ⟨e, h1⟩ | ⟨g, cap, cur, e, hb, hh, _, _, _, htk⟩
    · omega
    · injection e with e1 e2 e3
      subst e1 e2 e3
      refine ⟨g, 0, rfl, hb, fun i hi j u hu => ?_⟩
      have hj : j = 0 := by
        have := (List.getElem?_eq_some_iff.1 hu).1
        simpa using this
      subst hj
      have hu' : vs[i]? = some u := by
        have : vs.getD i .nilIface = u := by simpa using hu
        rw [← this]
        simp [show i < vs.length by omega]
      have hc : cur.toList[i]? = some u := by
        have := congrArg (·[i]?) htk
        simp only [Nat.mul_one] at this
        rw [List.getElem?_take_of_lt hi] at this
        rw [this, hu']
      have hc' : cur[i]? = some u := by simpa using hc
      simp [World.cell?, hh, hc']
  · intro i t ht
    have hi : i < vs.length := by rw [hvl]; exact (List.getElem?_eq_some_iff.1 ht).1
    have := hreps i vs[i] t (by simp) ht
    have e : vs.getD i .nilIface = vs[i] := by simp [hi]
    rw [e]
    exact this.mono (fun b _ hb => hb.1)

def PlainPost (w : World) (t : Tr) (e : Ending) (w' : World) : Prop := ∃ ty x, e = .returned (.iface ty x) ∧ AnyAt w' (fun b => w.heap.size ≤ b) (.iface ty x) t ∧ Below w.heap.size w w'
def PlainsPost (w : World) (ts : List Tr) (e : Ending) (w' : World) : Prop := ∃ a c, e = .returned (.slice a ts.length c) ∧ ValsAt w' w.heap.size (.slice a ts.length c) ts ∧ Below w.heap.size w w'

set_option maxRecDepth 100000 in
set_option maxHeartbeats 4000000 in
theorem plains_any (ts : List Tr) (nf : Tr → Tr) (S : Nat → Prop) (a : Option Addr) (c : Nat) (w : World) (hts : TreesAt w S a ts) (hl : ts.length ≤ 4294967296)
    (hel : ∀ i (hi : i < ts.length) (v : TV) wr, RepT wr S v ts[i] → Calls Tryz.prog 121 #[v.val] wr (PlainPost wr (nf ts[i]))) :
    Calls Tryz.prog 169 #[.slice a ts.length c] w (PlainsPost w (ts.map nf)) := by
  obtain ⟨i0, hi, hz0, hz1, hz2⟩ := info_parts Tryz.info20
  have Hts := Lib.hid hts; clear hts
  have Hel := Lib.hid hel; clear hel
  go_enter Tryz.func169, Tryz.ntmps169
  go_wp2_with fail
  go_loopw [3, 9] (fun v i wr => ∃ (k g cap : Nat), k ≤ ts.length ∧ i = .int .i64 k ∧ v = .slice (some ⟨g, 0, none⟩) k cap ∧ ValsAt wr w.heap.size (.slice (some ⟨g, 0, none⟩) k cap) ((ts.take k).map nf) ∧ Below w.heap.size w wr) (fun _ i _ => ts.length - (intOf i).toNat)
  case atStart => exact ⟨0, _, _, Nat.zero_le _, rfl, rfl, ⟨[], by simp, World.ownsRow_made w _ _ (Nat.le_refl _) (by unfold maxLen; omega) rfl, fun i v t h => by simp at h⟩, (Below.refl _ _).alloc (Nat.le_refl _) _⟩
  case round =>
    obtain ⟨k, g, cap, hk, rfl, rfl, hvals, hbel⟩ := hrel
    have hbase := hbel.size
    by_cases hlt : k < ts.length
    · obtain ⟨b, o, v', hca, hSb, hlb, ⟨c0, c1, c2, c3, c4, c5⟩, hv⟩ := (Hts.out.keep (Keeps.of_below S hbel)).cells (k := k) hlt
      subst hca
      have hc := Hel.out k hlt
      have hk1 : Hid ((ts.take (k + 1)).map nf = (ts.take k).map nf ++ [nf ts[k]]) := Lib.hid (by rw [List.take_succ_eq_append_getElem hlt, List.map_append]; rfl)
      have hkl : Hid (((ts.take k).map nf).length = k) := Lib.hid (by rw [List.length_map, List.length_take]; omega)
      generalize ts[k] = t at *
      obtain ⟨vs, hvl, hown, hreps⟩ := hvals
      rw [hkl.out] at hown hvl
      have hvl' : vs.length = ((ts.take k).map nf).length := by rw [hkl.out]; exact hvl
      have Hvl := Lib.hid hvl'; clear hvl' hvl
      obtain ⟨kind, text, num, yes, ka, kn, kc, ca, cn, cc⟩ := v'
      simp only at c0 c1 c2 c3 c4 c5
      have Hreps := Lib.hid hreps; clear hreps
      have Hown := Lib.hid hown; clear hown
      have Hc := Lib.hid hc; clear hc
      have Hv := Lib.hid hv; clear hv
      have Hbel := Lib.hid hbel; clear hbel
      have hi1 : (0 : Int) ≤ (k : Int) := by omega
      have hi2 : (k : Int) < (ts.length : Int) := by omega
      go_wp2_with fail
      have hb1 : Below wr.heap.size wr (wr.alloc (.cells #[.int .i64 kind, .string text, .float .f64 num, .bool yes, .slice ka kn kc, .slice ca cn cc] 31)) := (Below.refl _ _).alloc (Nat.le_refl _) _
      refine (Hc.out ⟨kind, text, num, yes, ka, kn, kc, ca, cn, cc⟩ _ (Hv.out.keep (Keeps.of_below S hb1))).mono ?_
      rintro e w2 ⟨ty, x, rfl, hu, hb2⟩
      have hb3 := via hb1 hb2
      have hown2 := ownsRow_below Hown.out hb3
      have hu' := hu.mono (S' := fun b => wr.heap.size ≤ b) (fun b _ h => by simp at h; omega)
      have Hu := Lib.hid hu'; clear hu'
      have Hb3 := Lib.hid hb3; clear hb3
      clear hu hb1 hb2
      have hsz : wr.heap.size ≤ w2.heap.size := Hb3.out.size
      go_wp2_with (at_builtin; refine wpList_append_lies _ rfl _ _ _ rfl w.heap.size 20 i0 _ 1 16 Tryz.underlying123 hi hz0 hz1 hz2 rfl (by omega) (.slice (some ⟨g, 0, none⟩) k cap) k vs rfl (hown2.alloc _) ⟨w2.heap.size, 0, none⟩ 1 1 [.iface ty x] rfl rfl (World.news_of_block (cs := #[.iface ty x]) (t := 20) (fr := (0, 0)) (heap_alloc_new w2 _)) (by simp [Value.oneCell']) (by omega) (by unfold maxLen; omega) (by omega) (by simp; omega) (w2.heap.size + 1) (by simp) ?_; intro gg cap' w3 hown3 hgrow hat hlt3)
      have hv3 := vals_round hkl.out hbase Hvl.out Hreps.out Hown.out Hb3.out Hu.out _ hgrow hat hown3
      have hbel3 := ((via Hbel.out Hb3.out).alloc (by omega) _).grown hgrow (by simp; omega) (fun k hk => (Hown.out.lt k hk).1)
      have Hv3 := Lib.hid hv3
      have Hbel3 := Lib.hid hbel3
      clear hv3 hbel3 hgrow hat hown3 hown2
      go_wp2_with fail
      go_roundw
      case rel => exact ⟨k + 1, gg, cap', by omega, by simp, rfl, by rw [hk1.out]; exact Hv3.out, Hbel3.out⟩
      case measure => simp [intOf]; omega
    · obtain rfl : k = ts.length := by omega
      have Hvals := Lib.hid hvals; clear hvals
      have Hbel := Lib.hid hbel; clear hbel
      go_wp2_with fail
      refine bodyPost_ret (v := .slice (some ⟨g, 0, none⟩) ts.length cap) (by simp [results, Tryz.results169, go_sem]) rfl ?_
      have hv := Hvals.out
      rw [List.take_length] at hv
      exact ⟨some ⟨g, 0, none⟩, cap, by simp, by simpa using hv, Hbel.out⟩

/-- A tree as it comes back: so deep at most. -/
def leafT (t : Tr) : Tr := if t.kind = 1 then textT t.text else if t.kind = 2 then numT t.num else if t.kind = 3 then yesT t.yes else Tr.zero
def normT : Nat → Tr → Tr
  | 0, t => leafT t
  | d + 1, t => if t.kind = 4 then listT (t.kids.map (normT d)) else if t.kind = 5 then mapTree (t.keys.zip (t.kids.map (normT d))) else leafT t

theorem strLt_trans {a b c : ByteArray} (h1 : strLt a b = true) (h2 : strLt b c = true) : strLt a c = true := by
  unfold strLt at *
  rw [bytesLess_eq] at *
  simp only [decide_eq_true_eq] at *
  exact List.lt_trans h1 h2
theorem strLt_irrefl (a : ByteArray) : strLt a a = false := by
  unfold strLt
  rw [bytesLess_eq]
  simp only [decide_eq_false_iff_not]
  exact List.lt_irrefl _
theorem ascends {l : List ByteArray} (h : ∀ k, 0 < k → k < l.length → strLt (l.getD (k - 1) ⟨#[]⟩) (l.getD k ⟨#[]⟩) = true) : l.Pairwise (fun a b => strLt a b = true) := by
  rw [List.pairwise_iff_getElem]
  intro i j hi hj hij
  induction j with
  | zero => omega
  | succ j ih =>
    have h1 := h (j + 1) (by omega) hj
    have e0 : l.getD (j + 1 - 1) ⟨#[]⟩ = l[j] := by simp [show j < l.length by omega]
    have e1 : l.getD (j + 1) ⟨#[]⟩ = l[j + 1] := by simp [hj]
    rw [e0, e1] at h1
    by_cases h2 : i = j
    · subst h2; exact h1
    · exact strLt_trans (ih (by omega) (by omega)) h1

structure MapOK (d : Nat) (t : Tr) : Prop where
  len : t.keys.length = t.kids.length
  asc : t.keys.Pairwise (fun a b => strLt a b = true)
  kids : ∀ k ∈ t.kids, properT d k = true
theorem proper_kids {d : Nat} {t : Tr} (h : properT (d + 1) t = true) (hk : t.kind = 4 ∨ t.kind = 5) : (∀ k ∈ t.kids, properT d k = true) ∧ (t.kind = 4 → t.keys = []) ∧ (t.kind = 5 → MapOK d t) := by
  unfold properT at h
  rw [if_neg (by omega)] at h
  split at h
  · cases h
  · rename_i hno
    rw [List.all_eq_true] at h
    have hkids : ∀ k ∈ t.kids, properT d k = true := by
      intro k hk
      obtain ⟨i, hi, rfl⟩ := List.mem_iff_getElem.1 hk
      have := h i (List.mem_range.2 hi)
      unfold kidOK at this
      rw [Bool.and_eq_true] at this
      have e : t.kids.getD i Tr.zero = t.kids[i] := by simp [hi]
      rw [e] at this
      exact this.1
    refine ⟨hkids, fun h4 => List.length_eq_zero_iff.1 (by omega), fun h5 => ⟨by omega, ascends fun k h0 hk => ?_, hkids⟩⟩
    have := h k (List.mem_range.2 (by omega))
    unfold kidOK at this
    rw [Bool.and_eq_true] at this
    have h2 := this.2
    rw [h5] at h2
    simpa [show k ≠ 0 by omega] using h2
theorem MapOK.nodup {d : Nat} {t : Tr} (h : MapOK d t) : t.keys.Nodup := by
  rw [List.nodup_iff_pairwise_ne]
  refine h.asc.imp fun {a b} hab e => ?_
  rw [e, strLt_irrefl] at hab
  cases hab

theorem plain_leaf (t : Tr) (v : TV) (S : Nat → Prop) (w : World) (hv : RepT w S v t) (hk : t.kind = 1 ∨ t.kind = 2 ∨ t.kind = 3) : Calls Tryz.prog 121 #[v.val] w (PlainPost w (leafT t)) := by
  obtain ⟨q1, q2, q3, q4, q5, q6⟩ := hv.eqs
  have hb := hv.bounds.1
  obtain ⟨kind, text, num, yes, ka, kn, kc, ca, cn, cc⟩ := v
  simp only at q1 q2 q3 q4 q5 q6
  have hL : leafT t = if kind = 1 then textT text else if kind = 2 then numT num else if kind = 3 then yesT yes else Tr.zero := by unfold leafT; rw [q1, q2, q3, q4]
  rw [← q1] at hk
  rw [← q2] at hb
  clear q1 q2 q3 q4 q5 q6 hv
  have HL := Lib.hid hL; clear hL
  rcases hk with rfl | rfl | rfl
  · go_enter Tryz.func121, Tryz.ntmps121
    go_wp2_with fail
    go_ret
    exact ⟨9, .string text, by simp, by rw [HL.out]; exact .str _ hb, (Below.refl _ _).alloc (Nat.le_refl _) _⟩
  · go_enter Tryz.func121, Tryz.ntmps121
    go_wp2_with fail
    go_ret
    exact ⟨28, .float .f64 num, by simp, by rw [HL.out]; exact .num _, (Below.refl _ _).alloc (Nat.le_refl _) _⟩
  · go_enter Tryz.func121, Tryz.ntmps121
    go_wp2_with fail
    go_ret
    exact ⟨4, .bool yes, by simp, by rw [HL.out]; exact .yes _, (Below.refl _ _).alloc (Nat.le_refl _) _⟩

theorem plain_list (t : Tr) (nf : Tr → Tr) (v : TV) (S : Nat → Prop) (w : World) (hv : RepT w S v t) (hk : t.kind = 4) (hl : t.kids.length ≤ 4294967296)
    (hel : ∀ k ∈ t.kids, ∀ (v : TV) (wr : World), RepT wr S v k → Calls Tryz.prog 121 #[v.val] wr (PlainPost wr (nf k))) : Calls Tryz.prog 121 #[v.val] w (PlainPost w (listT (t.kids.map nf))) := by
  obtain ⟨q1, q2, q3, q4, q5, q6⟩ := hv.eqs
  obtain ⟨kind, text, num, yes, ka, kn, kc, ca, cn, cc⟩ := v
  simp only at q1 q2 q3 q4 q5 q6
  rw [hk] at q1
  subst q1 q6
  clear q2 q3 q4 q5
  have hb := (Below.refl w.heap.size w).alloc (Nat.le_refl _) (.cells #[.int .i64 4, .string text, .float .f64 num, .bool yes, .slice ka kn kc, .slice ca t.kids.length cc] 31)
  have hc := plains_any t.kids nf S ca cc _ (hv.trees.keep (Keeps.of_below S hb)) hl (fun i hi v wr hr => hel _ (List.getElem_mem hi) v wr hr)
  have Hc := Lib.hid hc; clear hc hv hel hk
  have Hb := Lib.hid hb; clear hb
  go_enter Tryz.func121, Tryz.ntmps121
  go_wp2_with fail
  refine Hc.out.mono ?_
  rintro e w2 ⟨a', c', rfl, hvals, hb2⟩
  have Hvals := Lib.hid hvals; clear hvals
  have Hb2 := Lib.hid hb2; clear hb2
  go_wp2_with fail
  go_ret
  refine ⟨123, .slice a' (t.kids.map nf).length c', by simp, ?_, via Hb.out Hb2.out⟩
  exact (Hvals.out.any (by simpa using hl)).mono (fun b _ hb => by simp at hb; omega)
end Go.Proofs.YtbcnhcpgloncdaaGreatDoor
