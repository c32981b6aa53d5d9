/- 'Query', 'Queries'; 'fit' of queries. -/
import Derived.Test.YtbcnhcpgloncdaaGreatDoorIa
import Derived.Test.YtbcnhcpgloncdaaGreatDoorHf0
namespace Go.Proofs.YtbcnhcpgloncdaaGreatDoor
open Go Go.RowKit Go.BigFrame

def queryT (t : Tr) : Bool := decide (t.kind = 5) && properT 100 t

/-- A slice of trees. -/
def TreesAt (w : World) (S : Nat → Prop) (a : Option Addr) (ts : List Tr) : Prop :=
  ∃ vs : Nat → TV, SliceAt w S a 6 ts.length (fun i => (vs i).cells) ∧ ∀ i k, ts[i]? = some k → RepT w S (vs i) k
theorem TreesAt.keep {w w' : World} {S : Nat → Prop} {a : Option Addr} {ts : List Tr} (h : TreesAt w S a ts) (hk : Keeps S w w') : TreesAt w' S a ts := by
  obtain ⟨vs, h1, h2⟩ := h
  exact ⟨vs, h1.keep (fun _ => by simp) hk, fun i s hs => (h2 i s hs).keep hk⟩
theorem TreesAt.cells {w : World} {S : Nat → Prop} {a : Option Addr} {ts : List Tr} (h : TreesAt w S a ts) {k : Nat} (hk : k < ts.length) :
    ∃ b o v, a = some ⟨b, o, none⟩ ∧ S b ∧ b < w.heap.size ∧ CellsT w b (o + k * 6) v ∧ RepT w S v ts[k] := by
  obtain ⟨vs, h1, h2⟩ := h
  obtain ⟨b, o, e, hS, hr⟩ := h1 (by omega)
  have c0 := hr k hk 0 _ rfl
  exact ⟨b, o, vs k, e, hS, World.block_lt_of_cell? w _ c0, ⟨c0, hr k hk 1 _ rfl, hr k hk 2 _ rfl, hr k hk 3 _ rfl, hr k hk 4 _ rfl, hr k hk 5 _ rfl⟩, h2 k _ (by simp [hk])⟩
theorem RepT.trees {w : World} {S : Nat → Prop} {v : TV} {t : Tr} (h : RepT w S v t) : TreesAt w S v.ca t.kids := by
  cases h with
  | mk _ _ vs h0 h1 h2 h3 h4 hkn hks hcn hcs hr => exact ⟨vs, hcs, hr⟩

set_option maxRecDepth 100000 in
theorem query_any (t : Tr) (v : TV) (S : Nat → Prop) (w : World) (hv : RepT w S v t) :
    Calls Tryz.prog 20 #[v.val] w fun e w' => e = .returned (.bool (queryT t)) ∧ Below w.heap.size w w' := by
  have h1 := hv.eqs.1
  obtain ⟨kind, text, num, yes, ka, kn, kc, ca, cn, cc⟩ := v
  simp only at h1
  have hb := (Below.refl w.heap.size w).alloc (Nat.le_refl _) (.cells #[.int .i64 kind, .string text, .float .f64 num, .bool yes, .slice ka kn kc, .slice ca cn cc] 31)
  have hp := proper_any 100 t _ S _ (by omega) (hv.keep (Keeps.of_below S hb))
  have Hp := Lib.hid hp; clear hp hv
  by_cases hk : kind = 5
  · have hq : queryT t = properT 100 t := by unfold queryT; rw [← h1, hk]; rfl
    rw [hq]
    subst hk
    clear hq h1
    generalize properT 100 t = r at *
    go_enter Tryz.func20, Tryz.ntmps20
    go_wp2_with fail
    refine Hp.out.mono ?_
    rintro e w' ⟨rfl, hb'⟩
    go_wp2_with fail
    go_ret
    exact ⟨by simp, via hb hb'⟩
  · have hq : queryT t = false := by unfold queryT; rw [← h1]; simp [hk]
    rw [hq]
    have hk' : (kind == 5) = false := by rw [beq_eq_false_iff_ne]; exact hk
    clear hq h1 Hp hk
    go_enter Tryz.func20, Tryz.ntmps20
    go_wp2_with fail
    go_ret
    exact ⟨by simp, hb⟩

def queriesT (ts : List Tr) : Bool := ts.all queryT && decide (0 < ts.length)
set_option maxRecDepth 100000 in
set_option maxHeartbeats 2000000 in
theorem queries_any (ts : List Tr) (S : Nat → Prop) (a : Option Addr) (c : Nat) (w : World) (hts : TreesAt w S a ts) (hl : ts.length ≤ 9223372036854775807) :
    Calls Tryz.prog 6 #[.slice a ts.length c] w fun e w' => e = .returned (.bool (queriesT ts)) ∧ Below w.heap.size w w' := by
  have Hts := Lib.hid hts; clear hts
  go_enter Tryz.func6, Tryz.ntmps6
  go_wp2_with fail
  go_loopw [3] (fun i wr => ∃ k : Nat, k ≤ ts.length ∧ i = .int .i64 k ∧ (ts.take k).all queryT = true ∧ Below w.heap.size w wr) (fun i _ => ts.length - (intOf i).toNat)
  case atStart => exact ⟨0, Nat.zero_le _, rfl, by simp, Below.refl _ _⟩
  case round =>
    obtain ⟨k, hk, rfl, hall, hbel⟩ := hrel
    have Hall := Lib.hid hall; clear hall
    by_cases hlt : k < ts.length
    · obtain ⟨b, o, v, hca, hSb, hlb, ⟨c0, c1, c2, c3, c4, c5⟩, hv⟩ := (Hts.out.keep (Keeps.of_below S hbel)).cells (k := k) hlt
      subst hca
      have hq := query_any ts[k] v S wr hv
      have Htake : Hid ((ts.take (k + 1)).all queryT = queryT ts[k]) := Lib.hid (by rw [List.take_succ_eq_append_getElem hlt, List.all_append, Hall.out]; simp)
      have Hno : Hid (queryT ts[k] = false → queriesT ts = false) := Lib.hid (fun h => by
        unfold queriesT
        rw [Bool.and_eq_false_iff, List.all_eq_false]
        exact .inl ⟨ts[k], by simp, by simp [h]⟩)
      generalize ts[k] = t at *
      obtain ⟨kind, text, num, yes, ka, kn, kc, ca, cn, cc⟩ := v
      simp only at c0 c1 c2 c3 c4 c5
      clear hv
      have hi1 : (0 : Int) ≤ (k : Int) := by omega
      have hi2 : (k : Int) < (ts.length : Int) := by omega
      have Hbel := Lib.hid hbel; clear hbel
      cases hqt : queryT t with
      | false =>
        rw [hqt] at hq
        have Hq := Lib.hid hq; clear hq
        have Hno' := Lib.hid (Hno.out hqt); clear Hno Htake hqt
        go_wp2_with fail
        refine Hq.out.mono ?_
        rintro e w' ⟨rfl, hb⟩
        go_wp2_with fail
        go_ret
        exact ⟨by rw [Hno'.out]; simp, via Hbel.out hb⟩
      | true =>
        rw [hqt] at hq
        have Hq := Lib.hid hq; clear hq
        have Htake' := Lib.hid (Htake.out.trans hqt); clear Hno Htake hqt
        go_wp2_with fail
        refine Hq.out.mono ?_
        rintro e w' ⟨rfl, hb⟩
        go_wp2_with fail
        go_roundw
        case rel => exact ⟨k + 1, by omega, by simp, Htake'.out, via Hbel.out hb⟩
        case measure => simp [intOf]; omega
    · obtain rfl : k = ts.length := by omega
      have Hbel := Lib.hid hbel; clear hbel
      go_wp2_with fail
      go_ret
      refine ⟨?_, Hbel.out⟩
      have := Hall.out
      rw [List.take_length] at this
      unfold queriesT
      rw [this]; simp

/-- Is a tree one query, or a list of them? -/
def queryishT (t : Tr) : Bool := queryT t || (decide (t.kind = 4) && queriesT t.kids)
set_option maxRecDepth 100000 in
set_option maxHeartbeats 2000000 in
theorem fit_q (t : Tr) (v : TV) (S : Nat → Prop) (w : World) (hv : RepT w S v t) : Calls Tryz.prog 26 #[.string ⟨#[113]⟩, v.val] w fun e w' => e = .returned (.bool (queryishT t)) ∧ Below w.heap.size w w' := by
  obtain ⟨h1, h2, h3, h4, h5, h6⟩ := hv.eqs
  clear h2 h3 h4 h5
  have hbd := hv.bounds.2.2
  obtain ⟨kind, text, num, yes, ka, kn, kc, ca, cn, cc⟩ := v
  simp only at h1 h6
  have hb := (Below.refl w.heap.size w).alloc (Nat.le_refl _) (.cells #[.int .i64 kind, .string text, .float .f64 num, .bool yes, .slice ka kn kc, .slice ca cn cc] 31)
  have hbox := heap_alloc_new w (.cells #[.int .i64 kind, .string text, .float .f64 num, .bool yes, .slice ka kn kc, .slice ca cn cc] 31)
  have hq := query_any t _ S _ (hv.keep (Keeps.of_below S hb))
  have hqs := fun w' (hb' : Below (w.alloc (.cells #[.int .i64 kind, .string text, .float .f64 num, .bool yes, .slice ka kn kc, .slice ca cn cc] 31)).heap.size (w.alloc (.cells #[.int .i64 kind, .string text, .float .f64 num, .bool yes, .slice ka kn kc, .slice ca cn cc] 31)) w') =>
    queries_any t.kids S ca cc w' ((hv.trees.keep (Keeps.of_below S hb)).keep (Keeps.of_below S hb')) hbd
  rw [← h6] at hqs
  have Hqs := Lib.hid hqs; clear hqs hv
  have hk4 : queryT t = true → kind = 5 := by
    intro h
    unfold queryT at h
    rw [Bool.and_eq_true] at h
    rw [h1]; simpa using h.1
  have Hb := Lib.hid hb; clear hb
  have Hbox := Lib.hid hbox; clear hbox
  cases hqt : queryT t with
  | true =>
    have hr : queryishT t = true := by unfold queryishT; rw [hqt]; rfl
    rw [hqt] at hq
    rw [hr]
    have Hq := Lib.hid hq; clear hq hr hk4 hqt h1 h6
    go_enter Tryz.func26, Tryz.ntmps26
    go_wp2_with fail
    refine Hq.out.mono ?_
    rintro e w' ⟨rfl, hb'⟩
    go_wp2_with fail
    go_ret
    exact ⟨by simp, via Hb.out hb'⟩
  | false =>
    rw [hqt] at hq
    have Hq := Lib.hid hq; clear hq hk4
    by_cases hk : kind = 4
    · have hr : queryishT t = queriesT t.kids := by unfold queryishT; rw [hqt, ← h1, hk]; rfl
      rw [hr]
      subst hk
      clear hr hqt h1 h6
      generalize queriesT t.kids = r at *
      go_enter Tryz.func26, Tryz.ntmps26
      go_wp2_with fail
      refine Hq.out.mono ?_
      rintro e w' ⟨rfl, hb'⟩
      have hx := (hb'.block w.heap.size (by simp)).trans Hbox.out
      have b0 : w'.cell? ⟨w.heap.size, 0, none⟩ = some (.int .i64 4) := by simp [World.cell?, hx]
      have b5 : w'.cell? ⟨w.heap.size, 5, none⟩ = some (.slice ca cn cc) := by simp [World.cell?, hx]
      have hc := Hqs.out w' hb'
      have Hc := Lib.hid hc; clear hc hx Hqs
      have Hb' := Lib.hid hb'; clear hb'
      go_wp2_with fail
      refine Hc.out.mono ?_
      rintro e w2 ⟨rfl, hb2⟩
      go_wp2_with fail
      go_ret
      exact ⟨by simp, via (via Hb.out Hb'.out) hb2⟩
    · have hr : queryishT t = false := by unfold queryishT; rw [hqt, ← h1]; simp [hk]
      rw [hr]
      have hk' : (kind == 4) = false := by rw [beq_eq_false_iff_ne]; exact hk
      clear hr hqt h1 h6 hk Hqs
      go_enter Tryz.func26, Tryz.ntmps26
      go_wp2_with fail
      refine Hq.out.mono ?_
      rintro e w' ⟨rfl, hb'⟩
      have hx := (hb'.block w.heap.size (by simp)).trans Hbox.out
      have b0 : w'.cell? ⟨w.heap.size, 0, none⟩ = some (.int .i64 kind) := by simp [World.cell?, hx]
      have Hb' := Lib.hid hb'; clear hb' hx
      go_wp2_with fail
      go_ret
      exact ⟨by simp, via Hb.out Hb'.out⟩

/-- Is a tree of a kind? -/
def fitQ (kd : ByteArray) (t : Tr) : Bool := if kd = kQ then queryishT t else fitK kd t
theorem fitQ_any (kd : ByteArray) (hk : kd ∈ [kQ, kT, kN, kB, kV, kW, kF, ⟨#[]⟩]) (t : Tr) (v : TV) (S : Nat → Prop) (w : World) (h : RepT w S v t) :
    Calls Tryz.prog 26 #[.string kd, v.val] w fun e w' => e = .returned (.bool (fitQ kd t)) ∧ Below w.heap.size w w' := by
  unfold fitQ
  by_cases hq : kd = kQ
  · rw [if_pos hq, hq]
    exact fit_q t v S w h
  · rw [if_neg hq]
    exact fitK_any kd (by simpa [hq] using hk) t v S w h

def fitBool (s : SetM) : Bool := fitQ (kindOf rsBool s.name) s.val
theorem kinds_Bool (name : ByteArray) : kindOf rsBool name ∈ [kQ, kT, kN, kB, kV, kW, kF, ⟨#[]⟩] := kindOf_mem _ _ (by decide +kernel) (by simp) _
theorem fits_Bool (sets : List SetM) (S : Nat → Prop) (a : Option Addr) (c : Nat) (w : World) (hsets : SetsAt w S a sets) (hl : sets.length ≤ 9223372036854775807) :
    Calls Tryz.prog 8 #[.string ⟨#[66, 111, 111, 108]⟩, .slice a sets.length c] w fun e w' => e = .returned (.bool (sets.all fitBool)) ∧ Below w.heap.size w w' :=
  fits_any _ rsBool fitBool sets S a c w hsets hl kindIn_Bool (fun s _ v S w h => fitQ_any _ (kinds_Bool s.name) s.val v S w h)
end Go.Proofs.YtbcnhcpgloncdaaGreatDoor
