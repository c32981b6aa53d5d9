/- 'Same' says yes of trees that are the same. -/
import Derived.Test.YtbcnhcpgloncdaaGreatDoorGi
namespace Go.Proofs.YtbcnhcpgloncdaaGreatDoor
open Go Go.RowKit
open Go.BigFrame

/-- Two trees that are the same, up to the two zeros. -/
inductive SameT : Tr → Tr → Prop
  | mk (t u : Tr) (hk : t.kind = u.kind) (hn : t.keys = u.keys) (hl : t.kids.length = u.kids.length) (h1 : t.kind = 1 → t.text = u.text) (h2 : t.kind = 2 → feq t.num u.num = true)
      (h3 : t.kind = 3 → t.yes = u.yes) (h6 : t.kind ≠ 6) (hr : ∀ (i : Nat) (a b : Tr), t.kids[i]? = some a → u.kids[i]? = some b → SameT a b) : SameT t u

/-- Two boxes laid on a world: what each holds, and what was there. -/
theorem two_boxes {w wr : World} (c1 c2 : Array Value) (e1 e2 : TypeId) (hb : Below (w.heap.size + 2) ((w.alloc (.cells c1 e1)).alloc (.cells c2 e2)) wr) :
    (∀ j, wr.cell? ⟨w.heap.size, j, none⟩ = c1[j]?) ∧ (∀ j, wr.cell? ⟨w.heap.size + 1, j, none⟩ = c2[j]?) ∧ (∀ b o u, w.cell? ⟨b, o, none⟩ = some u → wr.cell? ⟨b, o, none⟩ = some u) ∧ w.heap.size + 2 ≤ wr.heap.size ∧ Below w.heap.size w wr := by
  have hs : (w.alloc (.cells c1 e1)).heap.size = w.heap.size + 1 := by simp
  refine ⟨fun j => ?_, fun j => ?_, fun b o u h => ?_, ?_, ?_⟩
  · rw [hb.cell (p := ⟨w.heap.size, j, none⟩) (by simp), World.cell?_alloc_lt _ _ ⟨w.heap.size, j, none⟩ (by simp), World.cell?_alloc_new]
  · rw [hb.cell (p := ⟨w.heap.size + 1, j, none⟩) (by simp), ← hs, World.cell?_alloc_new]
  · have hl := World.block_lt_of_cell? w _ h
    simp only at hl
    rw [hb.cell (p := ⟨b, o, none⟩) (by simp; omega), World.cell?_alloc_lt _ _ ⟨b, o, none⟩ (by simp; omega), World.cell?_alloc_lt _ _ ⟨b, o, none⟩ hl, h]
  · have := hb.size; simpa using this
  · exact (((Below.refl _ _).alloc (Nat.le_refl _) _).alloc (by simp) _).trans (hb.mono (by omega))

set_option maxRecDepth 100000 in
set_option maxHeartbeats 4000000 in
theorem same_any {t u : Tr} (h : SameT t u) : ∀ (v v' : TV) (S S' : Nat → Prop) (w : World), RepT w S v t → RepT w S' v' u →
    Calls Tryz.prog 10 #[v.val, v'.val] w fun e w' => e = .returned (.bool true) ∧ Below w.heap.size w w' := by
  induction h with
  | mk t u hk hn hl h1 h2 h3 h6 hr ih =>
  intro v v' S S' w hv hv'
  have Ih := Lib.hid ih; clear ih hr
  obtain ⟨p1, p2, p3, p4, p5, p6⟩ := hv.eqs
  obtain ⟨q1, q2, q3, q4, q5, q6⟩ := hv'.eqs
  by_cases c1 : t.kind = 1
  · have ht := h1 c1
    clear h1 h2 h3 h6 hv hv'
    obtain ⟨kind, text, num, yes, ka, kn, kc, ca, cn, cc⟩ := v
    obtain ⟨kind', text', num', yes', ka', kn', kc', ca', cn', cc'⟩ := v'
    simp only at p1 p2 p3 p4 p5 p6 q1 q2 q3 q4 q5 q6
    obtain rfl : kind = 1 := by omega
    obtain rfl : kind' = 1 := by omega
    obtain rfl : text = text' := by rw [p2, q2, ht]
    obtain rfl : kn = kn' := by rw [p5, q5, hn]
    obtain rfl : cn = cn' := by omega
    clear p1 p2 p3 p4 p5 p6 q1 q2 q3 q4 q5 q6 hk hn hl c1 ht Ih
    go_enter Tryz.func10, Tryz.ntmps10
    go_wp2_with fail
    go_ret
    exact ⟨by simp, ((Below.refl _ _).alloc (Nat.le_refl _) _).alloc (by simp) _⟩
  by_cases c2 : t.kind = 2
  · have ht := h2 c2
    clear h1 h2 h3 h6 hv hv' c1
    obtain ⟨kind, text, num, yes, ka, kn, kc, ca, cn, cc⟩ := v
    obtain ⟨kind', text', num', yes', ka', kn', kc', ca', cn', cc'⟩ := v'
    simp only at p1 p2 p3 p4 p5 p6 q1 q2 q3 q4 q5 q6
    obtain rfl : kind = 2 := by omega
    obtain rfl : kind' = 2 := by omega
    rw [← p3, ← q3] at ht
    obtain rfl : kn = kn' := by rw [p5, q5, hn]
    obtain rfl : cn = cn' := by omega
    clear p1 p2 p3 p4 p5 p6 q1 q2 q3 q4 q5 q6 hk hn hl c2 Ih
    unfold feq at ht
    go_enter Tryz.func10, Tryz.ntmps10
    go_wp2_with fail
    go_ret
    exact ⟨by simp, ((Below.refl _ _).alloc (Nat.le_refl _) _).alloc (by simp) _⟩
  by_cases c3 : t.kind = 3
  · have ht := h3 c3
    clear h1 h2 h3 h6 hv hv' c1 c2
    obtain ⟨kind, text, num, yes, ka, kn, kc, ca, cn, cc⟩ := v
    obtain ⟨kind', text', num', yes', ka', kn', kc', ca', cn', cc'⟩ := v'
    simp only at p1 p2 p3 p4 p5 p6 q1 q2 q3 q4 q5 q6
    obtain rfl : kind = 3 := by omega
    obtain rfl : kind' = 3 := by omega
    obtain rfl : yes = yes' := by rw [p4, q4, ht]
    obtain rfl : kn = kn' := by rw [p5, q5, hn]
    obtain rfl : cn = cn' := by omega
    clear p1 p2 p3 p4 p5 p6 q1 q2 q3 q4 q5 q6 hk hn hl c3 Ih
    go_enter Tryz.func10, Tryz.ntmps10
    go_wp2_with fail
    go_ret
    exact ⟨by simp, ((Below.refl _ _).alloc (Nat.le_refl _) _).alloc (by simp) _⟩
  clear h1 h2 h3
  have Hv := Lib.hid hv; clear hv
  have Hv' := Lib.hid hv'; clear hv'
  obtain ⟨_, B2, B3⟩ := Hv.out.bounds
  have Hn := Lib.hid hn
  have Hl := Lib.hid hl
  rw [← p5] at B2
  rw [← p6] at B3
  rw [← p1] at c1 c2 c3 h6
  obtain ⟨kind, text, num, yes, ka, kn, kc, ca, cn, cc⟩ := v
  obtain ⟨kind', text', num', yes', ka', kn', kc', ca', cn', cc'⟩ := v'
  simp only at p1 p2 p3 p4 p5 p6 q1 q2 q3 q4 q5 q6 B2 B3 c1 c2 c3 h6
  obtain rfl : kind = kind' := by omega
  obtain rfl : kn = kn' := by rw [p5, q5, hn]
  obtain rfl : cn = cn' := by omega
  have P5 := Lib.hid p5
  have P6 := Lib.hid p6
  have Q5 := Lib.hid q5
  have Q6 := Lib.hid q6
  clear p1 p2 p3 p4 p5 p6 q1 q2 q3 q4 q5 q6 hk hn hl
  have d1 : (kind == 1) = false := by simpa using c1
  have d2 : (kind == 2) = false := by simpa using c2
  have d3 : (kind == 3) = false := by simpa using c3
  have d6 : (kind == 6) = false := by simpa using h6
  clear c1 c2 c3 h6
  go_enter Tryz.func10, Tryz.ntmps10
  go_wp2_with fail
  go_loopw [5] (fun i wr => ∃ k : Nat, k ≤ kn ∧ i = .int .i64 k ∧ Below (w.heap.size + 2) ((w.alloc (.cells #[.int .i64 kind, .string text, .float .f64 num, .bool yes, .slice ka kn kc, .slice ca cn cc] 31)).alloc (.cells #[.int .i64 kind, .string text', .float .f64 num', .bool yes', .slice ka' kn kc', .slice ca' cn cc'] 31)) wr) (fun i _ => kn - (intOf i).toNat)
  case atStart => exact ⟨0, Nat.zero_le _, rfl, Below.refl _ _⟩
  case round =>
    obtain ⟨k, hk, rfl, hbel⟩ := hrel
    obtain ⟨x1, x2, x3, x4, x5⟩ := two_boxes _ _ _ _ hbel
    have a4 := x1 4
    have a5 := x1 5
    have a4' := x2 4
    have a5' := x2 5
    simp only [List.getElem?_toArray, List.getElem?_cons_succ, List.getElem?_cons_zero] at a4 a5 a4' a5'
    by_cases hlt : k < kn
    · obtain ⟨b, o, hca, _, _, y⟩ := Hv.out.key (k := k) (by rw [← P5.out]; exact hlt)
      obtain ⟨b', o', hca', _, _, y'⟩ := Hv'.out.key (k := k) (by rw [← Hn.out, ← P5.out]; exact hlt)
      simp only at hca hca'
      subst hca
      subst hca'
      have hkey : u.keys[k]'(by rw [← Hn.out, ← P5.out]; exact hlt) = t.keys[k]'(by rw [← P5.out]; exact hlt) := by
        have := Hn.out
        simp [this]
      rw [hkey] at y'
      clear hkey
      generalize t.keys[k]'(by rw [← P5.out]; exact hlt) = key at *
      have z := fun n : Later wr => n.cell (x3 _ _ _ y)
      have z' := fun n : Later wr => n.cell (x3 _ _ _ y')
      have l4 := fun n : Later wr => n.cell a4
      have l4' := fun n : Later wr => n.cell a4'
      clear x1 x2 x3 y y' a5 a5'
      have hi1 : (0 : Int) ≤ (k : Int) := by omega
      have hi2 : (k : Int) < (kn : Int) := by omega
      have Hbel := Lib.hid hbel; clear hbel
      go_wp2_with fail
      refine wp_region_later (by kernel_rfl) (by kernel_rfl) ?_
      repeat (go_big_quiet_step (fail))
      refine wpQuiet_nil ?_
      intro _ hw'
      obtain ⟨nq, rfl⟩ := hw'
      go_wp2_with fail
      go_roundw
      case rel => exact ⟨k + 1, by omega, by simp, Hbel.out.trans (nq.ok.mono x4)⟩
      case measure => simp [intOf]; omega
    · obtain rfl : k = kn := by omega
      clear x1 x2 x3
      have Hbel := Lib.hid hbel; clear hbel
      go_wp2_with fail
      go_loopw [6] (fun i wr => ∃ q : Nat, q ≤ cn ∧ i = .int .i64 q ∧ Below (w.heap.size + 2) ((w.alloc (.cells #[.int .i64 kind, .string text, .float .f64 num, .bool yes, .slice ka k kc, .slice ca cn cc] 31)).alloc (.cells #[.int .i64 kind, .string text', .float .f64 num', .bool yes', .slice ka' k kc', .slice ca' cn cc'] 31)) wr) (fun i _ => cn - (intOf i).toNat)
      case atStart => exact ⟨0, Nat.zero_le _, rfl, Hbel.out⟩
      case round =>
        clear a4 a4' a5 a5' x4 x5 Hbel
        obtain ⟨m, hm, rfl, hbel⟩ := hrel
        obtain ⟨x1, x2, x3, x4, x5⟩ := two_boxes _ _ _ _ hbel
        have a5 := x1 5
        have a5' := x2 5
        simp only [List.getElem?_toArray, List.getElem?_cons_succ, List.getElem?_cons_zero] at a5 a5'
        by_cases hlt2 : m < cn
        · obtain ⟨b, o, V, hca, _, _, ⟨y0, y1, y2, y3, y4, y5⟩, hV⟩ := Hv.out.kid (k := m) (by rw [← P6.out]; exact hlt2)
          obtain ⟨b', o', V', hca', _, _, ⟨z0, z1, z2, z3, z4, z5⟩, hV'⟩ := Hv'.out.kid (k := m) (by rw [← Q6.out]; exact hlt2)
          simp only at hca hca'
          subst hca
          subst hca'
          have hc := Ih.out m _ _ (List.getElem?_eq_getElem (by rw [← P6.out]; exact hlt2)) (List.getElem?_eq_getElem (by rw [← Q6.out]; exact hlt2))
          generalize t.kids[m]'(by rw [← P6.out]; exact hlt2) = kid at *
          generalize u.kids[m]'(by rw [← Q6.out]; exact hlt2) = kid' at *
          have Hc := Lib.hid hc; clear hc
          have HV := Lib.hid hV; clear hV
          have HV' := Lib.hid hV'; clear hV'
          have l0 := fun n : Later wr => n.cell (x3 _ _ _ y0)
          have l1 := fun n : Later wr => n.cell (x3 _ _ _ y1)
          have l2 := fun n : Later wr => n.cell (x3 _ _ _ y2)
          have l3 := fun n : Later wr => n.cell (x3 _ _ _ y3)
          have l4 := fun n : Later wr => n.cell (x3 _ _ _ y4)
          have l5 := fun n : Later wr => n.cell (x3 _ _ _ y5)
          have l0' := fun n : Later wr => n.cell (x3 _ _ _ z0)
          have l1' := fun n : Later wr => n.cell (x3 _ _ _ z1)
          have l2' := fun n : Later wr => n.cell (x3 _ _ _ z2)
          have l3' := fun n : Later wr => n.cell (x3 _ _ _ z3)
          have l4' := fun n : Later wr => n.cell (x3 _ _ _ z4)
          have l5' := fun n : Later wr => n.cell (x3 _ _ _ z5)
          have l6 := fun n : Later wr => n.cell a5
          have l6' := fun n : Later wr => n.cell a5'
          clear x1 x2 x3 y0 y1 y2 y3 y4 y5 z0 z1 z2 z3 z4 z5
          have hi1 : (0 : Int) ≤ (m : Int) := by omega
          have hi2 : (m : Int) < (cn : Int) := by omega
          have Hbel := Lib.hid hbel; clear hbel
          have X5 := Lib.hid x5; clear x5
          go_wp2_with fail
          refine wp_region_later (by kernel_rfl) (by kernel_rfl) ?_
          repeat (go_big_quiet_step ((go_at_call 10; exact Calls.later_of (Hc.out V V' S S' _ (HV.out.keep (Keeps.of_below S (X5.out.trans ((Later.ok _).mono (by omega))))) (HV'.out.keep (Keeps.of_below S' (X5.out.trans ((Later.ok _).mono (by omega)))))))))
          refine wpQuiet_nil ?_
          intro _ hw'
          obtain ⟨nq, rfl⟩ := hw'
          go_wp2_with fail
          go_roundw
          case rel => exact ⟨m + 1, by omega, by simp, Hbel.out.trans (nq.ok.mono x4)⟩
          case measure => simp [intOf]; omega
        · obtain rfl : m = cn := by omega
          clear x1 x2 x3
          have X5 := Lib.hid x5; clear x5 hbel
          go_wp2_with fail
          go_ret
          exact ⟨by simp, X5.out⟩
end Go.Proofs.YtbcnhcpgloncdaaGreatDoor
