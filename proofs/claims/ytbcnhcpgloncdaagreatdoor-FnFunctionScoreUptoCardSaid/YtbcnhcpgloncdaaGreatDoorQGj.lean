/- 'Same' says yes of trees that are the same. -/
import Derived.Test.YtbcnhcpgloncdaaGreatDoorQGh
namespace Go.Proofs.YtbcnhcpgloncdaaGreatDoor
open Go Go.RowKit
open Go.BigFrame

/-- Two trees that are the same, up to the two zeros. -/
inductive SameT : Tr → Tr → Prop
  | mk (t u : Tr) (hk : t.kind = u.kind) (hn : t.keys = u.keys) (hl : t.kids.length = u.kids.length) (h1 : t.kind = 1 → t.text = u.text) (h2 : t.kind = 2 → feq t.num u.num = true)
      (h3 : t.kind = 3 → t.yes = u.yes) (h6 : t.kind ≠ 6) (hr : ∀ (i : Nat) (a b : Tr), t.kids[i]? = some a → u.kids[i]? = some b → SameT a b) : SameT t u

/-- Two boxes laid on a world: what each holds, and what was there. -/
theorem two_boxes {w wr : World} (c1 c2 : Array Value) (e1 e2 : TypeId) (hb : Below (w.heap.size + 2) ((w.alloc (.cells c1 e1)).alloc (.cells c2 e2)) wr) :
    (∀ j, wr.cell? ⟨w.heap.size, j, none⟩ = c1[j]?) ∧ (∀ j, wr.cell? ⟨w.heap.size + 1, j, none⟩ = c2[j]?) ∧ (∀ b o u, w.cell? ⟨b, o, none⟩ = some u → wr.cell? ⟨b, o, none⟩ = some u) ∧ w.heap.size + 2 ≤ wr.heap.size ∧ Below w.heap.size w wr := by
  have hs : (w.alloc (.cells c1 e1)).heap.size = w.heap.size + 1 := by simp
  refine ⟨fun j => ?_, fun j => ?_, fun b o u h => ?_, ?_, ?_⟩
  · rw [hb.cell (p := ⟨w.heap.size, j, none⟩) (by simp), World.cell?_alloc_lt _ _ ⟨w.heap.size, j, none⟩ (by simp), World.cell?_alloc_new]
  · rw [hb.cell (p := ⟨w.heap.size + 1, j, none⟩) (by simp), ← hs, World.cell?_alloc_new]
  · have hl := World.block_lt_of_cell? w _ h
    simp only at hl
    rw [hb.cell (p := ⟨b, o, none⟩) (by simp; omega), World.cell?_alloc_lt _ _ ⟨b, o, none⟩ (by simp; omega), World.cell?_alloc_lt _ _ ⟨b, o, none⟩ hl, h]
  · have := hb.size; simpa using this
  · exact (((Below.refl _ _).alloc (Nat.le_refl _) _).alloc (by simp) _).trans (hb.mono (by omega))

set_option maxRecDepth 100000 in
set_option maxHeartbeats 4000000 in
theorem same_any {t u : Tr} (h : SameT t u) : ∀ (v v' : TV) (S S' : Nat → Prop) (w : World), RepT w S v t → RepT w S' v' u →
    Calls Tryz.prog 10 #[v.val, v'.val] w fun e w' => e = .returned (.bool true) ∧ Below w.heap.size w w' := by
  induction h with
  | mk t u hk hn hl h1 h2 h3 h6 hr ih =>
  intro v v' S S' w hv hv'
  have Ih := Lib.hid ih; clear ih hr
  obtain ⟨p1, p2, p3, p4, p5, p6⟩ := hv.eqs
  obtain ⟨q1, q2, q3, q4, q5, q6⟩ := hv'.eqs
  by_cases c1 : t.kind = 1
  · have ht := h1 c1
    clear h1 h2 h3 h6 hv hv'
    obtain ⟨kind, text, num, yes, ka, kn, kc, ca, cn, cc⟩ := v
    obtain ⟨kind', text', num', yes', ka', kn', kc', ca', cn', cc'⟩ := v'
    simp only at p1 p2 p3 p4 p5 p6 q1 q2 q3 q4 q5 q6
    obtain rfl : kind = 1 := by omega
    obtain rfl : kind' = 1 := by omega
    obtain rfl : text = text' := by rw [p2, q2, ht]
    obtain rfl : kn = kn' := by rw [p5, q5, hn]
    obtain rfl : cn = cn' := by omega
    clear p1 p2 p3 p4 p5 p6 q1 q2 q3 q4 q5 q6 hk hn hl c1 ht Ih
    go_enter Tryz.func10, Tryz.ntmps10
    go_wp2_with fail
    go_ret
    exact ⟨by simp, ((Below.refl _ _).alloc (Nat.le_refl _) _).alloc (by simp) _⟩
  by_cases c2 : t.kind = 2
  · have ht := h2 c2
    clear h1 h2 h3 h6 hv hv' c1
    obtain ⟨kind, text, num, yes, ka, kn, kc, ca, cn, cc⟩ := v
    obtain ⟨kind', text', num', yes', ka', kn', kc', ca', cn', cc'⟩ := v'
    simp only at p1 p2 p3 p4 p5 p6 q1 q2 q3 q4 q5 q6
    obtain rfl : kind = 2 := by omega
    obtain rfl : kind' = 2 := by omega
    rw [← p3, ← q3] at ht
    obtain rfl : kn = kn' := by rw [p5, q5, hn]
    obtain rfl : cn = cn' := by omega
    clear p1 p2 p3 p4 p5 p6 q1 q2 q3 q4 q5 q6 hk hn hl c2 Ih
    unfold feq at ht
    go_enter Tryz.func10, Tryz.ntmps10
    go_wp2_with fail
    go_ret
    exact ⟨by simp, ((Below.refl _ _).alloc (Nat.le_refl _) _).alloc (by simp) _⟩
  by_cases c3 : t.kind = 3
  · have ht := h3 c3
    clear h1 h2 h3 h6 hv hv' c1 c2
    obtain ⟨kind, text, num, yes, ka, kn, kc, ca, cn, cc⟩ := v
    obtain ⟨kind', text', num', yes', ka', kn', kc', ca', cn', cc'⟩ := v'
    simp only at p1 p2 p3 p4 p5 p6 q1 q2 q3 q4 q5 q6
    obtain rfl : kind = 3 := by omega
    obtain rfl : kind' = 3 := by omega
    obtain rfl : yes = yes' := by rw [p4, q4, ht]
    obtain rfl : kn = kn' := by rw [p5, q5, hn]
    obtain rfl : cn = cn' := by omega
    clear p1 p2 p3 p4 p5 p6 q1 q2 q3 q4 q5 q6 hk hn hl c3 Ih
    go_enter Tryz.func10, Tryz.ntmps10
    go_wp2_with fail
    go_ret
    exact ⟨by simp, ((Below.refl _ _).alloc (Nat.le_refl _) _).alloc (by simp) _⟩
  clear h1 h2 h3
  have Hv := Lib.hid hv; clear hv
  have Hv' := Lib.hid hv'; clear hv'
  obtain ⟨_, B2, B3⟩ := Hv.out.bounds
  have Hn := Lib.hid hn
  have Hl := Lib.hid hl
  rw [← p5] at B2
  rw [← p6] at B3
  rw [← p1] at c1 c2 c3 h6
  obtain ⟨kind, text, num, yes, ka, kn, kc, ca, cn, cc⟩ := v
  obtain ⟨kind', text', num', yes', ka', kn', kc', ca', cn', cc'⟩ := v'
  simp only at p1 p2 p3 p4 p5 p6 q1 q2 q3 q4 q5 q6 B2 B3 c1 c2 c3 h6
  obtain rfl : kind = kind' := by omega
  obtain rfl : kn = kn' := by rw [p5, q5, hn]
  obtain rfl : cn = cn' := by omega
  have P5 := Lib.hid p5
  have P6 := Lib.hid p6
  have Q5 := Lib.hid q5
  have Q6 := Lib.hid q6
  clear p1 p2 p3 p4 p5 p6 q1 q2 q3 q4 q5 q6 hk hn hl
  have d1 : (kind == 1) = false := by simpa using c1
  have d2 : (kind == 2) = false := by simpa using c2
  have d3 : (kind == 3) = false := by simpa using c3
  have d6 : (kind == 6) = false := by simpa using h6
  clear c1 c2 c3 h6
  go_enter Tryz.func10, Tryz.ntmps10
  go_wp2_with fail
  go_loopw [5] (fun i wr => ∃ k : Nat, k ≤ kn ∧ i = .int .i64 k ∧ Below (w.heap.size + 2) ((w.alloc (.cells #[.int .i64 kind, .string text, .float .f64 num, .bool yes, .slice ka kn kc, .slice ca cn cc] 31)).alloc (.cells #[.int .i64 kind, .string text', .float .f64 num', .bool yes', .slice ka' kn kc', .slice ca' cn cc'] 31)) wr) (fun i _ => kn - (intOf i).toNat)
  case atStart => exact ⟨0, Nat.zero_le _, rfl, Below.refl _ _⟩
  case round =>
    obtain ⟨k, hk, rfl, hbel⟩ := hrel
    obtain ⟨x1, x2, x3, x4, x5⟩ := two_boxes _ _ _ _ hbel
    have a4 := x1 4
    have a5 := x1 5
    have a4' := x2 4
    have a5' := x2 5
    simp only [List.getElem?_toArray, List.getElem?_cons_succ, List.getElem?_cons_zero] at a4 a5 a4' a5'
    by_cases hlt : k < kn
    · obtain ⟨b, o, hca, _, _, y⟩ := Hv.out.key (k := k) (by rw [← P5.out]; exact hlt)
      obtain ⟨b', o', hca', _, _, y'⟩ := Hv'.out.key (k := k) (by rw [← Hn.out, ← P5.out]; exact hlt)
      simp only at hca hca'
      subst hca
      subst hca'
      have hkey : u.keys[k]'(by rw [← Hn.out, ← P5.out]; exact hlt) = t.keys[k]'(by rw [← P5.out]; exact hlt) := by
        have := Hn.out
        simp [this]
      rw [hkey] at y'
      clear hkey
      generalize t.keys[k]'(by rw [← P5.out]; exact hlt) = key at *
      have z := fun n : Later wr => n.cell (x3 _ _ _ y)
      have z' := fun n : Later wr => n.cell (x3 _ _ _ y')
      have l4 := fun n : Later wr => n.cell a4
      have l4' := fun n : Later wr => n.cell a4'
      clear x1 x2 x3 y y' a5 a5'
      have hi1 : (0 : Int) ≤ (k : Int) := by omega
      have hi2 : (k : Int) < (kn : Int) := by omega
      have Hbel := Lib.hid hbel; clear hbel
      go_wp2_with fail
      refine wp_region_later (by kernel_rfl) (by kernel_rfl) ?_
      repeat (go_big_quiet_step (fail))
      refine wpQuiet_nil ?_
      intro _ hw'
      obtain ⟨nq, rfl⟩ := hw'
      go_wp2_with fail
      go_roundw
      case rel => exact ⟨k + 1, by omega, by simp, Hbel.out.trans (nq.ok.mono x4)⟩
      case measure => simp [intOf]; omega
    · obtain rfl : k = kn := by omega
      clear x1 x2 x3
      have Hbel := Lib.hid hbel; clear hbel
      go_wp2_with fail
      go_loopw [6] (fun i wr => ∃ q : Nat, q ≤ cn ∧ i = .int .i64 q ∧ Below (w.heap.size + 2) ((w.alloc (.cells #[.int .i64 kind, .string text, .float .f64 num, .bool yes, .slice ka k kc, .slice ca cn cc] 31)).alloc (.cells #[.int .i64 kind, .string text', .float .f64 num', .bool yes', .slice ka' k kc', .slice ca' cn cc'] 31)) wr) (fun i _ => cn - (intOf i).toNat)
      case atStart => exact ⟨0, Nat.zero_le _, rfl, Hbel.out⟩
      case round =>
        clear a4 a4' a5 a5' x4 x5 Hbel
        obtain ⟨m, hm, rfl, hbel⟩ := hrel
        obtain ⟨x1, x2, x3, x4, x5⟩ := two_boxes _ _ _ _ hbel
        have a5 := x1 5
        have a5' := x2 5
        simp only [List.getElem?_toArray, List.getElem?_cons_succ, List.getElem?_cons_zero] at a5 a5'
        by_cases hlt2 : m < cn
        · obtain ⟨b, o, V, hca, _, _, ⟨y0, y1, y2, y3, y4, y5⟩, hV⟩ := Hv.out.kid (k := m) (by rw [← P6.out]; exact hlt2)
          obtain ⟨b', o', V', hca', _, _, ⟨z0, z1, z2, z3, z4, z5⟩, hV'⟩ := Hv'.out.kid (k := m) (by rw [← Q6.out]; exact hlt2)
          simp only at hca hca'
          subst hca
          subst hca'
          have hc := Ih.out m _ _ (List.getElem?_eq_getElem (by rw [← P6.out]; exact hlt2)) (List.getElem?_eq_getElem (by rw [← Q6.out]; exact hlt2))
          generalize t.kids[m]'(by rw [← P6.out]; exact hlt2) = kid at *
          generalize u.kids[m]'(by rw [← Q6.out]; exact hlt2) = kid' at *
          have Hc := Lib.hid hc; clear hc
          have HV := Lib.hid hV; clear hV
          have HV' := Lib.hid hV'; clear hV'
          have l0 := fun n : Later wr => n.cell (x3 _ _ _ y0)
          have l1 := fun n : Later wr => n.cell (x3 _ _ _ y1)
          have l2 := fun n : Later wr => n.cell (x3 _ _ _ y2)
          have l3 := fun n : Later wr => n.cell (x3 _ _ _ y3)
          have l4 := fun n : Later wr => n.cell (x3 _ _ _ y4)
          have l5 := fun n : Later wr => n.cell (x3 _ _ _ y5)
          have l0' := fun n : Later wr => n.cell (x3 _ _ _ z0)
          have l1' := fun n : Later wr => n.cell (x3 _ _ _ z1)
          have l2' := fun n : Later wr => n.cell (x3 _ _ _ z2)
          have l3' := fun n : Later wr => n.cell (x3 _ _ _ z3)
          have l4' := fun n : Later wr => n.cell (x3 _ _ _ z4)
          have l5' := fun n : Later wr => n.cell (x3 _ _ _ z5)
          have l6 := fun n : Later wr => n.cell a5
          have l6' := fun n : Later wr => n.cell a5'
          clear x1 x2 x3 y0 y1 y2 y3 y4 y5 z0 z1 z2 z3 z4 z5
          have hi1 : (0 : Int) ≤ (m : Int) := by omega
          have hi2 : (m : Int) < (cn : Int) := by omega
          have Hbel := Lib.hid hbel; clear hbel
          have X5 := Lib.hid x5; clear x5
          go_wp2_with fail
          refine wp_region_later (by kernel_rfl) (by kernel_rfl) ?_
          repeat (go_big_quiet_step ((go_at_call 10; exact Calls.later_of (Hc.out V V' S S' _ (HV.out.keep (Keeps.of_below S (X5.out.trans ((Later.ok _).mono (by omega))))) (HV'.out.keep (Keeps.of_below S' (X5.out.trans ((Later.ok _).mono (by omega)))))))))
          refine wpQuiet_nil ?_
          intro _ hw'
          obtain ⟨nq, rfl⟩ := hw'
          go_wp2_with fail
          go_roundw
          case rel => exact ⟨m + 1, by omega, by simp, Hbel.out.trans (nq.ok.mono x4)⟩
          case measure => simp [intOf]; omega
        · obtain rfl : m = cn := by omega
          clear x1 x2 x3
          have X5 := Lib.hid x5; clear x5 hbel
          go_wp2_with fail
          go_ret
          exact ⟨by simp, X5.out⟩
end Go.Proofs.YtbcnhcpgloncdaaGreatDoor
/- 'FieldNames': how many there are; 'Back'. -/
namespace Go.Proofs.YtbcnhcpgloncdaaGreatDoor
open Go Go.RowKit
open Go.BigFrame

theorem Tryz.info9 : (Tryz.prog.info? 9).map (fun i => (i.zero, i.size, i.bytes)) = some (some (.string ⟨#[]⟩), 1, 16) := by kernel_rfl

def nField : ByteArray := ⟨#[102, 105, 101, 108, 100]⟩
def nFieldBoost : ByteArray := ⟨#[102, 105, 101, 108, 100, 95, 119, 105, 116, 104, 95, 98, 111, 111, 115, 116]⟩
def isField (s : SetM) : Bool := decide (s.name = nField) || decide (s.name = nFieldBoost)

set_option maxRecDepth 100000 in
set_option maxHeartbeats 2000000 in
theorem fieldNames_any (sets : List SetM) (S : Nat → Prop) (a : Option Addr) (c : Nat) (w : World) (hr : SetsAt w S a sets) (hl : sets.length ≤ 1048576) :
    Calls Tryz.prog 14 #[.slice none 0 0, .slice a sets.length c] w fun e w' => (∃ a' c', e = .returned (.slice a' (sets.filter isField).length c')) ∧ Below w.heap.size w w' := by
  obtain ⟨i0, hi, hz0, hz1, hz2⟩ := info_parts Tryz.info9
  have Hr := Lib.hid hr; clear hr
  go_enter Tryz.func14, Tryz.ntmps14
  go_wp2_with fail
  go_loopw [5, 6] (fun v i wr => ∃ (k n : Nat) (g cap : Nat) (xs : List Value), k ≤ sets.length ∧ n ≤ k ∧ n = ((sets.take k).filter isField).length ∧ i = .int .i64 k ∧ v = .slice (some ⟨g, 0, none⟩) n cap ∧
      wr.ownsRow w.heap.size 9 1 (.slice (some ⟨g, 0, none⟩) n cap) n xs ∧ Below w.heap.size w wr) (fun _ i _ => sets.length - (intOf i).toNat)
  case atStart => exact ⟨0, 0, _, 0, [], Nat.zero_le _, Nat.zero_le _, by simp, rfl, rfl, World.ownsRow_made w _ _ (Nat.le_refl _) (by unfold maxLen; omega) rfl, (Below.refl _ _).alloc (Nat.le_refl _) _⟩
  case round =>
    obtain ⟨k, n, g, cap, xs, hk, hnk, hn, rfl, rfl, hown, hbel⟩ := hrel
    have Hn := Lib.hid hn; clear hn
    by_cases hlt : k < sets.length
    · obtain ⟨b', o, v, hca, hSb, hlb, c0, c1, c2, c3, c4, c5, c6, hv⟩ := (Hr.out.keep (Keeps.of_below S hbel)).cells (k := k) hlt
      subst hca
      have Htake : Hid ((sets.take (k+1)).filter isField = (sets.take k).filter isField ++ [sets[k]].filter isField) := Lib.hid (by rw [List.take_succ_eq_append_getElem hlt, List.filter_append])
      generalize hset : sets[k] = s at *
      have Hset := Lib.hid hset; clear hset hv
      have hi1 : (0 : Int) ≤ (k : Int) := by omega
      have hi2 : (k : Int) < (sets.length : Int) := by omega
      have hsz : w.heap.size ≤ wr.heap.size := hbel.size
      by_cases h1 : s.name = nField
      · have h1' := lit_eq [102, 105, 101, 108, 100] h1
        have H1 := Lib.hid h1; clear h1
        go_wp2_with (at_builtin; refine wpList_append_lies _ rfl _ _ _ rfl w.heap.size 9 i0 _ 1 16 Tryz.underlying29 hi hz0 hz1 hz2 rfl (by omega) (.slice (some ⟨g, 0, none⟩) n cap) n xs rfl (hown.alloc _) ⟨wr.heap.size, 0, none⟩ 1 1 [.string v.text] rfl rfl (World.news_of_block (cs := #[.string v.text]) (t := 9) (fr := (0, 0)) (heap_alloc_new wr _)) (by simp [Value.oneCell']) (by omega) (by unfold maxLen; omega) (by omega) (by simp; omega) (wr.heap.size + 1) (by simp) ?_; intro gg cc w1 hown1 hgrow hat hlt1)
        have hbel1 : Below w.heap.size w w1 := (hbel.alloc hsz _).grown hgrow (by simp; omega) (fun k hk => (hown.lt k hk).1)
        go_roundw
        case rel => exact ⟨k + 1, n + 1, gg, cc, _, by omega, by omega, by rw [Htake.out]; simp [isField, H1.out, ← Hn.out], by simp, rfl, hown1, hbel1⟩
        case measure => simp [intOf]; omega
      · by_cases h2 : s.name = nFieldBoost
        · have h1' := lit_ne [102, 105, 101, 108, 100] h1
          have h2' := lit_eq [102, 105, 101, 108, 100, 95, 119, 105, 116, 104, 95, 98, 111, 111, 115, 116] h2
          have H1 := Lib.hid h2; clear h1 h2
          go_wp2_with (at_builtin; refine wpList_append_lies _ rfl _ _ _ rfl w.heap.size 9 i0 _ 1 16 Tryz.underlying29 hi hz0 hz1 hz2 rfl (by omega) (.slice (some ⟨g, 0, none⟩) n cap) n xs rfl (hown.alloc _) ⟨wr.heap.size, 0, none⟩ 1 1 [.string v.text] rfl rfl (World.news_of_block (cs := #[.string v.text]) (t := 9) (fr := (0, 0)) (heap_alloc_new wr _)) (by simp [Value.oneCell']) (by omega) (by unfold maxLen; omega) (by omega) (by simp; omega) (wr.heap.size + 1) (by simp) ?_; intro gg cc w1 hown1 hgrow hat hlt1)
          have hbel1 : Below w.heap.size w w1 := (hbel.alloc hsz _).grown hgrow (by simp; omega) (fun k hk => (hown.lt k hk).1)
          go_roundw
          case rel => exact ⟨k + 1, n + 1, gg, cc, _, by omega, by omega, by rw [Htake.out]; simp [isField, H1.out, ← Hn.out], by simp, rfl, hown1, hbel1⟩
          case measure => simp [intOf]; omega
        · have h1' := lit_ne [102, 105, 101, 108, 100] h1
          have h2' := lit_ne [102, 105, 101, 108, 100, 95, 119, 105, 116, 104, 95, 98, 111, 111, 115, 116] h2
          have H1 := Lib.hid h1; clear h1
          have H2 := Lib.hid h2; clear h2
          go_wp2_with fail
          go_roundw
          case rel => exact ⟨k + 1, n, g, cap, _, by omega, by omega, by rw [Htake.out]; simp [isField, H1.out, H2.out, ← Hn.out], by simp, rfl, hown, hbel⟩
          case measure => simp [intOf]; omega
    · obtain rfl : k = sets.length := by omega
      go_wp2_with fail
      go_ret
      refine ⟨⟨some ⟨g, 0, none⟩, cap, ?_⟩, hbel⟩
      have := Hn.out
      rw [List.take_length] at this
      rw [this]; simp
end Go.Proofs.YtbcnhcpgloncdaaGreatDoor
/- Rows of elements of several cells; 'Back'. -/
namespace Go.Proofs.YtbcnhcpgloncdaaGreatDoor
open Go Go.RowKit
open Go.BigFrame

theorem Tryz.info54 : (Tryz.prog.info? 54).map (fun i => (i.zero, i.size, i.bytes)) = some (some (.agg #[.string ⟨#[]⟩, .int .i64 0, .string ⟨#[]⟩, .float .f64 0, .bool false, .slice none 0 0, .slice none 0 0]), 7, 104) := by kernel_rfl

/-- Elements of 'sz' cells each, one behind the other. -/
theorem flat_get {α : Type} (f : α → List Value) (sz : Nat) (hf : ∀ x, (f x).length = sz) : ∀ (l : List α) (i j : Nat) (hi : i < l.length), j < sz → (l.flatMap f)[i * sz + j]? = (f l[i])[j]?
  | x :: l, 0, j, _, hj => by
    simp only [List.flatMap_cons, Nat.zero_mul, Nat.zero_add, List.getElem_cons_zero]
    rw [List.getElem?_append_left (by rw [hf]; exact hj)]
  | x :: l, i + 1, j, hi, hj => by
    simp only [List.flatMap_cons, List.getElem_cons_succ]
    rw [List.getElem?_append_right (by rw [hf, Nat.add_mul]; omega), hf, Nat.add_mul, Nat.one_mul, show i * sz + sz + j - sz = i * sz + j by omega]
    exact flat_get f sz hf l i j (by simpa using hi) hj
theorem flat_length {α : Type} (f : α → List Value) (sz : Nat) (hf : ∀ x, (f x).length = sz) (l : List α) : (l.flatMap f).length = l.length * sz := by
  induction l with
  | nil => simp
  | cons x l ih => simp only [List.flatMap_cons, List.length_append, hf, ih, List.length_cons, Nat.add_mul, Nat.one_mul]; omega

/-- What an owned row of such elements says of the cells. -/
theorem row_of_own {α : Type} {w : World} {base : Nat} {e : TypeId} {sz g n cap : Nat} (f : α → List Value) (hf : ∀ x, (f x).length = sz) (l : List α) (hl : l.length = n)
    (h : w.ownsRow base e sz (.slice (some ⟨g, 0, none⟩) n cap) n (l.flatMap f)) (cs : Nat → List Value) (hcs : ∀ i (hi : i < l.length), cs i = f l[i]) : RowAt w g 0 sz n cs := by
  intro i hi j u hu
  subst hl
  rw [hcs i hi] at hu
  have hj : j < sz := by
    rcases Nat.lt_or_ge j sz with h1 | h1
    · exact h1
    · rw [List.getElem?_eq_none (by rw [hf]; exact h1)] at hu; cases hu
  have hk : i * sz + j < l.length * sz := by
    have : (i + 1) * sz ≤ l.length * sz := Nat.mul_le_mul_right sz hi
    rw [Nat.add_mul, Nat.one_mul] at this
    omega
  have := h.cellAt (i * sz + j) hk
  rw [flat_get f sz hf l i j hi hj, hu] at this
  simpa using this

set_option maxRecDepth 100000 in
set_option maxHeartbeats 2000000 in
theorem back_any (sets : List SetM) (S : Nat → Prop) (a : Option Addr) (c : Nat) (w : World) (hr : SetsAt w S a sets) (hl : sets.length ≤ 1048576) :
    Calls Tryz.prog 16 #[.slice a sets.length c] w fun e w' => (∃ g cap, e = .returned (.slice (some ⟨g, 0, none⟩) sets.length cap) ∧ SetsAt w' (fun _ => True) (some ⟨g, 0, none⟩) sets.reverse) ∧ Below w.heap.size w w' := by
  obtain ⟨i0, hi, hz0, hz1, hz2⟩ := info_parts Tryz.info54
  obtain ⟨vs, h1, h2⟩ := hr
  have H1 := Lib.hid h1; clear h1
  have H2 := Lib.hid h2; clear h2
  obtain ⟨f, hf⟩ : ∃ f : Nat → List Value, f = fun i => .string (sets.getD i SetM.zero).name :: (vs i).cells := ⟨_, rfl⟩
  have Hf := Lib.hid hf; clear hf
  go_enter Tryz.func16, Tryz.ntmps16
  go_wp2_with fail
  go_loopw [3, 4] (fun v i wr => ∃ (k g cap : Nat), k ≤ sets.length ∧ i = .int .i64 ((k : Int) - 1) ∧ v = .slice (some ⟨g, 0, none⟩) (sets.length - k) cap ∧
      wr.ownsRow w.heap.size 54 7 (.slice (some ⟨g, 0, none⟩) (sets.length - k) cap) (sets.length - k) (((List.range sets.length).drop k).reverse.flatMap f) ∧ Below w.heap.size w wr) (fun _ i _ => (intOf i + 1).toNat)
  case atStart => exact ⟨sets.length, w.heap.size, 0, Nat.le_refl _, rfl, by simp, by rw [List.drop_of_length_le (by simp)]; simpa using World.ownsRow_made (base := w.heap.size) (e := 54) (size := 7) w #[] 0 (Nat.le_refl _) (by unfold maxLen; omega) rfl, (Below.refl _ _).alloc (Nat.le_refl _) _⟩
  case round =>
    obtain ⟨k, g, cap, hk, rfl, rfl, hown, hbel⟩ := hrel
    rcases k with _ | k
    · have Hown := Lib.hid hown; clear hown
      go_wp2_with fail
      go_ret
      refine ⟨⟨g, cap, by simp, fun i => vs (sets.length - 1 - i), ?_, ?_⟩, hbel⟩
      · intro hn
        refine ⟨g, 0, rfl, trivial, ?_⟩
        have := Hown.out
        simp only [Nat.sub_zero, List.drop_zero] at this
        rw [List.length_reverse]
        refine row_of_own f (fun x => by rw [Hf.out]; simp) (List.range sets.length).reverse (by simp) this _ ?_
        intro i hi
        have hi' : i < sets.length := by simpa using hi
        rw [Hf.out]
        simp only [List.getElem_reverse, List.length_range, List.getElem_range]
        simp only [List.getD_eq_getElem?_getD]
        rw [List.getElem?_reverse hi']
      · intro i s hs
        have hi : i < sets.length := by
          have := List.getElem?_eq_some_iff.1 hs
          obtain ⟨h, _⟩ := this
          simpa using h
        rw [List.getElem?_reverse hi] at hs
        exact ((H2.out _ _ hs).keep (Keeps.of_below S hbel)).mono (fun _ _ _ => trivial)
    · obtain ⟨b', o, hca, hS, hrow⟩ := H1.out (by omega)
      subst hca
      have hc := fun j u hj => hrow k (by omega) j u hj
      have e0 : (sets.getD k SetM.zero) = sets[k] := by simp [show k < sets.length by omega]
      simp only [e0] at hc
      have q0 := hc 0 _ rfl
      have hlb := World.block_lt_of_cell? w _ q0
      simp only at hlb
      have hcw := fun o u (h : w.cell? ⟨b', o, none⟩ = some u) => (hbel.cell (p := ⟨b', o, none⟩) hlb).trans h
      have c0 := hcw _ _ (hc 0 _ rfl)
      rw [Nat.add_zero] at c0
      have c1 := hcw _ _ (hc 1 _ rfl)
      have c2 := hcw _ _ (hc 2 _ rfl)
      have c3 := hcw _ _ (hc 3 _ rfl)
      have c4 := hcw _ _ (hc 4 _ rfl)
      have c5 := hcw _ _ (hc 5 _ rfl)
      have c6 := hcw _ _ (hc 6 _ rfl)
      have Hfk : Hid (f k = .string sets[k].name :: (vs k).cells) := Lib.hid (by rw [Hf.out]; simp [show k < sets.length by omega])
      have Hd : Hid (((List.range sets.length).drop k).reverse.flatMap f = ((List.range sets.length).drop (k + 1)).reverse.flatMap f ++ f k) := Lib.hid (by
        rw [List.drop_eq_getElem_cons (by simp; omega)]; simp)
      clear hc hcw q0 hrow e0
      generalize sets[k].name = nm at *
      generalize vs k = v at *
      obtain ⟨kind, text, num, yes, ka, kn, kc, ca, cn, cc⟩ := v
      simp only at c1 c2 c3 c4 c5 c6
      have hi1 : (0 : Int) ≤ (k : Int) := by omega
      have hi2 : (k : Int) < (sets.length : Int) := by omega
      have hsz : w.heap.size ≤ wr.heap.size := hbel.size
      have hsub : sets.length - (k + 1) + 1 = sets.length - k := by omega
      go_wp2_with (at_builtin; refine wpList_append_lies _ rfl _ _ _ rfl w.heap.size 54 i0 _ 7 104 Tryz.underlying24 hi hz0 hz1 hz2 rfl (by omega) (.slice (some ⟨g, 0, none⟩) (sets.length - (k + 1)) cap) (sets.length - (k + 1)) _ rfl (hown.alloc _) ⟨wr.heap.size, 0, none⟩ 1 1 [.string nm, .int .i64 kind, .string text, .float .f64 num, .bool yes, .slice ka kn kc, .slice ca cn cc] rfl rfl (World.news_of_block (cs := #[.string nm, .int .i64 kind, .string text, .float .f64 num, .bool yes, .slice ka kn kc, .slice ca cn cc]) (t := 54) (fr := (0, 0)) (heap_alloc_new wr _)) (by simp [Value.oneCell']) (by omega) (by unfold maxLen; omega) (by omega) (by simp; omega) (wr.heap.size + 1) (by simp) ?_; intro gg cc2 w1 hown1 hgrow hat hlt1)
      have hbel1 : Below w.heap.size w w1 := (hbel.alloc hsz _).grown hgrow (by simp; omega) (fun k hk => (hown.lt k hk).1)
      rw [hsub] at hown1
      go_roundw
      case rel => exact ⟨k, gg, cc2, by omega, by simp, rfl, by rw [Hd.out, Hfk.out]; exact hown1, hbel1⟩
      case measure => simp [intOf]
end Go.Proofs.YtbcnhcpgloncdaaGreatDoor
