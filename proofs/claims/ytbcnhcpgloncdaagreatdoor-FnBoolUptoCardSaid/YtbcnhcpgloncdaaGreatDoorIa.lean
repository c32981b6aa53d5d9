/- 'proper': which trees are proper. -/
import Derived.Test.YtbcnhcpgloncdaaGreatDoorGe
import Derived.Test.YtbcnhcpgloncdaaGreatDoorGa0
namespace Go.Proofs.YtbcnhcpgloncdaaGreatDoor
open Go Go.RowKit Go.BigFrame

def scalarP (t : Tr) : Bool :=
  if 0 < t.keys.length ∨ 0 < t.kids.length then false else if t.kind = 1 then !(decide (t.text = ⟨#[]⟩)) else if t.kind = 2 then fin t.num else decide (t.kind = 3)
theorem RepT.scalarP {w : World} {S : Nat → Prop} {v : TV} {t : Tr} (h : RepT w S v t) : scalarV v = scalarP t := by
  obtain ⟨h1, h2, h3, h4, h5, h6⟩ := h.eqs
  unfold scalarV YtbcnhcpgloncdaaGreatDoor.scalarP
  rw [h1, h2, h3, h5, h6]

def strLt (a b : ByteArray) : Bool := Op.bytesLess a.toList b.toList

/-- Is kid k as told: proper itself, its key behind the one before? -/
def kidOK (pr : Tr → Bool) (t : Tr) (k : Nat) : Bool := pr (t.kids.getD k Tr.zero) && (decide (k = 0) || !(decide (t.kind = 5)) || strLt (t.keys.getD (k - 1) ⟨#[]⟩) (t.keys.getD k ⟨#[]⟩))
/-- Is a tree proper, so deep at most? -/
def properT : Nat → Tr → Bool
  | 0, t => scalarP t
  | d + 1, t =>
    if t.kind ≠ 4 ∧ t.kind ≠ 5 then scalarP t
    else if (t.kind = 5 ∧ t.keys.length ≠ t.kids.length) ∨ (t.kind = 4 ∧ t.keys.length ≠ 0) then false
    else (List.range t.kids.length).all (kidOK (properT d) t)

theorem kids_all_no {F : Nat → Bool} {N k : Nat} (hk : k < N) (h : F k = false) : (List.range N).all F = false := by
  rw [List.all_eq_false]
  exact ⟨k, List.mem_range.2 hk, by simp [h]⟩
theorem kids_all_succ {F : Nat → Bool} {k : Nat} (h0 : (List.range k).all F = true) (h : F k = true) : (List.range (k + 1)).all F = true := by
  rw [List.range_succ, List.all_append, h0]; simp [h]

theorem proper_zero (t : Tr) (v : TV) (S : Nat → Prop) (w : World) (hv : RepT w S v t) : Calls Tryz.prog 98 #[v.val, .int .i64 0] w fun e w' => e = .returned (.bool (properT 0 t)) ∧ Below w.heap.size w w' := by
  have hp : properT 0 t = scalarV v := by rw [hv.scalarP]; rfl
  rw [hp]
  clear hp hv
  obtain ⟨kind, text, num, yes, ka, kn, kc, ca, cn, cc⟩ := v
  cases hsv : scalarV ⟨kind, text, num, yes, ka, kn, kc, ca, cn, cc⟩ with
  | false =>
    have hcall := fun w => scalar_any ⟨kind, text, num, yes, ka, kn, kc, ca, cn, cc⟩ w
    rw [hsv] at hcall
    have Hcall := Lib.hid hcall; clear hcall hsv
    go_enter Tryz.func98, Tryz.ntmps98
    go_wp2_with (go_at_call 101; refine (Hcall.out _).mono ?_; rintro e w' ⟨rfl, hb⟩)
    go_ret
    exact ⟨by simp, via ((Below.refl _ _).alloc (Nat.le_refl _) _) hb⟩
  | true =>
    have hk : kind = 1 ∨ kind = 2 ∨ kind = 3 := by
      unfold scalarV at hsv
      split at hsv
      · cases hsv
      · split at hsv
        · exact .inl (by assumption)
        · split at hsv
          · exact .inr (.inl (by assumption))
          · exact .inr (.inr (by simpa using hsv))
    have h4 : (kind != 4) = true := by rw [bne_iff_ne]; omega
    have h5 : (kind != 5) = true := by rw [bne_iff_ne]; omega
    clear hk
    have hcall := fun w => scalar_any ⟨kind, text, num, yes, ka, kn, kc, ca, cn, cc⟩ w
    rw [hsv] at hcall
    have Hcall := Lib.hid hcall; clear hcall hsv
    go_enter Tryz.func98, Tryz.ntmps98
    go_wp2_with fail
    refine (Hcall.out _).mono ?_
    rintro e w1 ⟨rfl, hb⟩
    have hcl := bcell hb
    obtain ⟨hc, hf⟩ := hcl
    have hz : w.heap.size + 1 ≤ w1.heap.size := by have := hb.size; simp at this; omega
    go_wp2_with fail
    refine (Hcall.out _).mono ?_
    rintro e w2 ⟨rfl, hb2⟩
    go_wp2_with fail
    go_ret
    exact ⟨by simp, via (via ((Below.refl _ _).alloc (Nat.le_refl _) _) hb) hb2⟩

theorem proper_leaf (d : Nat) (hd : d ≤ 1000) (t : Tr) (v : TV) (S : Nat → Prop) (w : World) (hv : RepT w S v t) (hk : v.kind ≠ 4 ∧ v.kind ≠ 5) :
    Calls Tryz.prog 98 #[v.val, .int .i64 ((d : Int) + 1)] w fun e w' => e = .returned (.bool (properT (d + 1) t)) ∧ Below w.heap.size w w' := by
  obtain ⟨q1, q2, q3, q4, q5, q6⟩ := hv.eqs
  have hp : properT (d + 1) t = scalarV v := by
    rw [hv.scalarP]; unfold properT; rw [if_pos (by rw [← q1]; exact hk)]
  rw [hp]; clear hp q1 q2 q3 q4 q5 q6 hv
  obtain ⟨hk4, hk5⟩ := hk
  obtain ⟨kind, text, num, yes, ka, kn, kc, ca, cn, cc⟩ := v
  have h4 : (kind != 4) = true := by rw [bne_iff_ne]; exact hk4
  have h5 : (kind != 5) = true := by rw [bne_iff_ne]; exact hk5
  clear hk4 hk5
  have hcall := fun w => scalar_any ⟨kind, text, num, yes, ka, kn, kc, ca, cn, cc⟩ w
  have Hcall := Lib.hid hcall; clear hcall
  generalize scalarV ⟨kind, text, num, yes, ka, kn, kc, ca, cn, cc⟩ = bb at *
  have hd0 : (((d : Int) + 1) == 0) = false := by rw [beq_eq_false_iff_ne]; omega
  go_enter Tryz.func98, Tryz.ntmps98
  go_wp2_with (go_at_call 101; refine (Hcall.out _).mono ?_; rintro e w' ⟨rfl, hb⟩)
  go_ret
  exact ⟨by simp, via ((Below.refl _ _).alloc (Nat.le_refl _) _) hb⟩

theorem proper_bad (d : Nat) (hd : d ≤ 1000) (t : Tr) (v : TV) (S : Nat → Prop) (w : World) (hv : RepT w S v t) (hbad : (v.kind = 5 ∧ v.kn ≠ v.cn) ∨ (v.kind = 4 ∧ v.kn ≠ 0)) :
    Calls Tryz.prog 98 #[v.val, .int .i64 ((d : Int) + 1)] w fun e w' => e = .returned (.bool (properT (d + 1) t)) ∧ Below w.heap.size w w' := by
  obtain ⟨q1, q2, q3, q4, q5, q6⟩ := hv.eqs
  have hp : properT (d + 1) t = false := by
    unfold properT; rw [if_neg (by rw [← q1]; omega), if_pos (by rw [← q1, ← q5, ← q6]; exact hbad)]
  have hd0 : (((d : Int) + 1) == 0) = false := by rw [beq_eq_false_iff_ne]; omega
  rw [hp]; clear hp q1 q2 q3 q4 q5 q6 hv
  obtain ⟨kind, text, num, yes, ka, kn, kc, ca, cn, cc⟩ := v
  simp only at hbad
  rcases hbad with ⟨rfl, hne⟩ | ⟨rfl, hne⟩
  · have h1 : ((kn : Int) != (cn : Int)) = true := by rw [bne_iff_ne]; omega
    clear hne
    go_enter Tryz.func98, Tryz.ntmps98
    go_wp2_with fail
    go_ret
    exact ⟨by simp, (Below.refl _ _).alloc (Nat.le_refl _) _⟩
  · have h1 : ((kn : Int) != 0) = true := by rw [bne_iff_ne]; omega
    clear hne
    go_enter Tryz.func98, Tryz.ntmps98
    go_wp2_with fail
    go_ret
    exact ⟨by simp, (Below.refl _ _).alloc (Nat.le_refl _) _⟩

set_option maxRecDepth 100000 in
set_option maxHeartbeats 4000000 in
theorem proper_list (d : Nat) (hd : d ≤ 1000) (t : Tr) (v : TV) (S : Nat → Prop) (w : World) (hv : RepT w S v t) (hk : t.kind = 4) (hn : t.keys.length = 0)
    (ih : ∀ (t : Tr) (v : TV) (w : World), RepT w S v t → Calls Tryz.prog 98 #[v.val, .int .i64 d] w fun e w' => e = .returned (.bool (properT d t)) ∧ Below w.heap.size w w') :
    Calls Tryz.prog 98 #[v.val, .int .i64 ((d : Int) + 1)] w fun e w' => e = .returned (.bool (properT (d + 1) t)) ∧ Below w.heap.size w w' := by
  obtain ⟨q1, q2, q3, q4, q5, q6⟩ := hv.eqs
  have hbd := hv.bounds.2.2
  have hp : properT (d + 1) t = (List.range t.kids.length).all (kidOK (properT d) t) := by
    rw [properT, if_neg (by rw [hk]; omega), if_neg (by rw [hk]; omega)]
  rw [hp]
  have hko : ∀ k, kidOK (properT d) t k = (properT d (t.kids.getD k Tr.zero) && (decide (k = 0) || true)) := by
    intro k; unfold kidOK; rw [hk]; simp
  generalize kidOK (properT d) t = F at *
  have Ih := Lib.hid ih; clear ih hp
  have Hko := Lib.hid hko; clear hko
  have Hv := Lib.hid hv; clear hv
  have hd0 : (((d : Int) + 1) == 0) = false := by rw [beq_eq_false_iff_ne]; omega
  have hd1 : (d : Int) + 1 - 1 = (d : Int) := by omega
  obtain ⟨kind, text, num, yes, ka, kn, kc, ca, cn, cc⟩ := v
  simp only at q1 q5 q6
  rw [hk] at q1
  rw [hn] at q5
  subst q1 q5 q6
  clear q2 q3 q4 hk hn
  obtain ⟨N, hN⟩ : ∃ N, t.kids.length = N := ⟨_, rfl⟩
  rw [hN] at hbd ⊢
  rw [hN] at Hv
  have hHN := Lib.hid hN; clear hN
  have hbox := heap_alloc_new w (.cells #[.int .i64 4, .string text, .float .f64 num, .bool yes, .slice ka 0 kc, .slice ca N cc] 31)
  have Hbox := Lib.hid hbox; clear hbox
  go_enter Tryz.func98, Tryz.ntmps98
  go_wp2_with fail
  go_loopw [5] (fun i wr => ∃ k : Nat, k ≤ N ∧ i = .int .i64 k ∧ (List.range k).all F = true ∧ Below (w.heap.size + 1) (w.alloc (Obj.cells #[Value.int IntKind.i64 4, Value.string text, Value.float FloatKind.f64 num, Value.bool yes, Value.slice ka 0 kc, Value.slice ca N cc] 31)) wr) (fun i _ => N - (intOf i).toNat)
  case atStart => exact ⟨0, Nat.zero_le _, rfl, by simp, Below.refl _ _⟩
  case round =>
    obtain ⟨k, hk, rfl, hall, hbel⟩ := hrel
    have Hall := Lib.hid hall; clear hall
    have hb1 : (w.alloc (Obj.cells #[Value.int IntKind.i64 4, Value.string text, Value.float FloatKind.f64 num, Value.bool yes, Value.slice ka 0 kc, Value.slice ca N cc] 31)).heap.size = w.heap.size + 1 := by simp
    have hbox1 := (hbel.block w.heap.size (by omega)).trans Hbox.out
    have b0 : wr.cell? ⟨w.heap.size, 0, none⟩ = some (.int .i64 4) := by simp [World.cell?, hbox1]
    have b4 : wr.cell? ⟨w.heap.size, 4, none⟩ = some (.slice ka 0 kc) := by simp [World.cell?, hbox1]
    have b5 : wr.cell? ⟨w.heap.size, 5, none⟩ = some (.slice ca N cc) := by simp [World.cell?, hbox1]
    have hw0 : Below w.heap.size w wr := ((Below.refl _ _).alloc (Nat.le_refl _) _).trans (hbel.mono (by omega))
    by_cases hlt : k < N
    · have hlt' : k < t.kids.length := by rw [hHN.out]; exact hlt
      have hvr := Hv.out.keep (Keeps.of_below S hw0)
      obtain ⟨b, o, v', hca, hSb, hlb, hct, hrv⟩ := hvr.kid (k := k) hlt'
      simp only at hca
      subst hca
      have hgd : t.kids.getD k Tr.zero = t.kids[k] := by simp [hlt']
      have hFk := Hko.out k
      rw [hgd] at hFk
      generalize t.kids[k] = kid at *
      have HFk := Lib.hid hFk; clear hFk hgd
      obtain ⟨e0, e1, e2, e3, e4, e5⟩ := hct
      obtain ⟨kind', text', num', yes', ka', kn', kc', ca', cn', cc'⟩ := v'
      simp only at e0 e1 e2 e3 e4 e5
      have Hrv := Lib.hid hrv; clear hrv
      have l0 := fun n : Later wr => n.cell b0
      have l4 := fun n : Later wr => n.cell b4
      have l5 := fun n : Later wr => n.cell b5
      have m0 := fun n : Later wr => n.cell e0
      have m1 := fun n : Later wr => n.cell e1
      have m2 := fun n : Later wr => n.cell e2
      have m3 := fun n : Later wr => n.cell e3
      have m4 := fun n : Later wr => n.cell e4
      have m5 := fun n : Later wr => n.cell e5
      clear e0 e1 e2 e3 e4 e5 hbox1
      have hi1 : (0 : Int) ≤ (k : Int) := by omega
      have hi2 : (k : Int) < (N : Int) := by omega
      have Hbel := Lib.hid hbel; clear hbel
      have Hw0 := Lib.hid hw0; clear hw0
      cases hpk : properT d kid with
      | false =>
        have Hno : Hid ((List.range N).all F = false) := Lib.hid (kids_all_no hlt (by rw [HFk.out, hpk]; rfl))
        have hcall := fun w hw => Ih.out kid ⟨kind', text', num', yes', ka', kn', kc', ca', cn', cc'⟩ w hw
        rw [hpk] at hcall
        have Hcall := Lib.hid hcall; clear hcall hpk
        have Hvr := Lib.hid hvr; clear hvr
        go_wp2_with fail
        refine wp_region_later (by kernel_rfl) (by kernel_rfl) ?_
        repeat (go_big_quiet_step ((go_at_call 98; exact Calls.later_of (Hcall.out _ (Hrv.out.keep (Later.keeps _ _))))))
        refine wpQuiet_nil ?_
        intro _ hw'
        obtain ⟨nq, rfl⟩ := hw'
        go_wp2_with fail
        go_ret
        exact ⟨by rw [Hno.out]; simp, via Hw0.out nq.ok⟩
      | true =>
        have hcall := fun w hw => Ih.out kid ⟨kind', text', num', yes', ka', kn', kc', ca', cn', cc'⟩ w hw
        rw [hpk] at hcall
        have Hcall := Lib.hid hcall; clear hcall
        by_cases hk0 : k = 0
        · have Hyes : Hid ((List.range (k + 1)).all F = true) := Lib.hid (kids_all_succ Hall.out (by rw [HFk.out, hpk, hk0]; simp))
          have hg : ¬ (0 : Int) < (k : Int) := by omega
          have hg2 : ¬ 0 < k := by omega
          clear hpk hk0
          have Hvr := Lib.hid hvr; clear hvr
          go_wp2_with fail
          refine wp_region_later (by kernel_rfl) (by kernel_rfl) ?_
          repeat (go_big_quiet_step ((go_at_call 98; exact Calls.later_of (Hcall.out _ (Hrv.out.keep (Later.keeps _ _))))))
          refine wpQuiet_nil ?_
          intro _ hw'
          obtain ⟨nq, rfl⟩ := hw'
          go_wp2_with fail
          go_roundw
          case rel => exact ⟨k + 1, by omega, by simp, Hyes.out, Hbel.out.trans (nq.ok.mono (by have := Hbel.out.size; omega))⟩
          case measure => simp [intOf]; omega
        · have hg : (0 : Int) < (k : Int) := by omega
          have hg2 : 0 < k := by omega
          have Hyes : Hid ((List.range (k + 1)).all F = true) := Lib.hid (kids_all_succ Hall.out (by rw [HFk.out, hpk]; simp))
          clear hpk hk0
          have Hvr := Lib.hid hvr; clear hvr
          go_wp2_with fail
          refine wp_region_later (by kernel_rfl) (by kernel_rfl) ?_
          repeat (go_big_quiet_step ((go_at_call 98; exact Calls.later_of (Hcall.out _ (Hrv.out.keep (Later.keeps _ _))))))
          refine wpQuiet_nil ?_
          intro _ hw'
          obtain ⟨nq, rfl⟩ := hw'
          go_wp2_with fail
          go_roundw
          case rel => exact ⟨k + 1, by omega, by simp, Hyes.out, Hbel.out.trans (nq.ok.mono (by have := Hbel.out.size; omega))⟩
          case measure => simp [intOf]; omega
    · have Hw0 := Lib.hid hw0; clear hw0
      go_wp2_with fail
      go_ret
      obtain rfl : k = N := by omega
      exact ⟨by rw [Hall.out]; simp, Hw0.out⟩

set_option maxRecDepth 100000 in
set_option maxHeartbeats 4000000 in
theorem proper_map (d : Nat) (hd : d ≤ 1000) (t : Tr) (v : TV) (S : Nat → Prop) (w : World) (hv : RepT w S v t) (hk : t.kind = 5) (hn : t.keys.length = t.kids.length)
    (ih : ∀ (t : Tr) (v : TV) (w : World), RepT w S v t → Calls Tryz.prog 98 #[v.val, .int .i64 d] w fun e w' => e = .returned (.bool (properT d t)) ∧ Below w.heap.size w w') :
    Calls Tryz.prog 98 #[v.val, .int .i64 ((d : Int) + 1)] w fun e w' => e = .returned (.bool (properT (d + 1) t)) ∧ Below w.heap.size w w' := by
  obtain ⟨q1, q2, q3, q4, q5, q6⟩ := hv.eqs
  have hbd := hv.bounds.2.2
  have hp : properT (d + 1) t = (List.range t.kids.length).all (kidOK (properT d) t) := by
    rw [properT, if_neg (by rw [hk]; omega), if_neg (by rw [hk]; omega)]
  rw [hp]
  have hko : ∀ k, kidOK (properT d) t k = (properT d (t.kids.getD k Tr.zero) && (decide (k = 0) || strLt (t.keys.getD (k - 1) ⟨#[]⟩) (t.keys.getD k ⟨#[]⟩))) := by
    intro k; unfold kidOK; rw [hk]; simp
  generalize kidOK (properT d) t = F at *
  have Ih := Lib.hid ih; clear ih hp
  have Hko := Lib.hid hko; clear hko
  have Hv := Lib.hid hv; clear hv
  have Hn := Lib.hid hn
  have hd0 : (((d : Int) + 1) == 0) = false := by rw [beq_eq_false_iff_ne]; omega
  have hd1 : (d : Int) + 1 - 1 = (d : Int) := by omega
  obtain ⟨kind, text, num, yes, ka, kn, kc, ca, cn, cc⟩ := v
  simp only at q1 q5 q6
  rw [hk] at q1
  rw [hn] at q5
  subst q1 q5 q6
  clear q2 q3 q4 hk hn
  obtain ⟨N, hN⟩ : ∃ N, t.kids.length = N := ⟨_, rfl⟩
  rw [hN] at hbd ⊢
  rw [hN] at Hv
  have hHN := Lib.hid hN; clear hN
  have hbox := heap_alloc_new w (.cells #[.int .i64 5, .string text, .float .f64 num, .bool yes, .slice ka N kc, .slice ca N cc] 31)
  have Hbox := Lib.hid hbox; clear hbox
  go_enter Tryz.func98, Tryz.ntmps98
  go_wp2_with fail
  go_loopw [5] (fun i wr => ∃ k : Nat, k ≤ N ∧ i = .int .i64 k ∧ (List.range k).all F = true ∧ Below (w.heap.size + 1) (w.alloc (Obj.cells #[Value.int IntKind.i64 5, Value.string text, Value.float FloatKind.f64 num, Value.bool yes, Value.slice ka N kc, Value.slice ca N cc] 31)) wr) (fun i _ => N - (intOf i).toNat)
  case atStart => exact ⟨0, Nat.zero_le _, rfl, by simp, Below.refl _ _⟩
  case round =>
    obtain ⟨k, hk, rfl, hall, hbel⟩ := hrel
    have Hall := Lib.hid hall; clear hall
    have hb1 : (w.alloc (Obj.cells #[Value.int IntKind.i64 5, Value.string text, Value.float FloatKind.f64 num, Value.bool yes, Value.slice ka N kc, Value.slice ca N cc] 31)).heap.size = w.heap.size + 1 := by simp
    have hbox1 := (hbel.block w.heap.size (by omega)).trans Hbox.out
    have b0 : wr.cell? ⟨w.heap.size, 0, none⟩ = some (.int .i64 5) := by simp [World.cell?, hbox1]
    have b4 : wr.cell? ⟨w.heap.size, 4, none⟩ = some (.slice ka N kc) := by simp [World.cell?, hbox1]
    have b5 : wr.cell? ⟨w.heap.size, 5, none⟩ = some (.slice ca N cc) := by simp [World.cell?, hbox1]
    have hw0 : Below w.heap.size w wr := ((Below.refl _ _).alloc (Nat.le_refl _) _).trans (hbel.mono (by omega))
    by_cases hlt : k < N
    · have hlt' : k < t.kids.length := by rw [hHN.out]; exact hlt
      have hvr := Hv.out.keep (Keeps.of_below S hw0)
      obtain ⟨b, o, v', hca, hSb, hlb, hct, hrv⟩ := hvr.kid (k := k) hlt'
      simp only at hca
      subst hca
      have hgd : t.kids.getD k Tr.zero = t.kids[k] := by simp [hlt']
      have hFk := Hko.out k
      rw [hgd] at hFk
      generalize t.kids[k] = kid at *
      have HFk := Lib.hid hFk; clear hFk hgd
      obtain ⟨e0, e1, e2, e3, e4, e5⟩ := hct
      obtain ⟨kind', text', num', yes', ka', kn', kc', ca', cn', cc'⟩ := v'
      simp only at e0 e1 e2 e3 e4 e5
      have Hrv := Lib.hid hrv; clear hrv
      have l0 := fun n : Later wr => n.cell b0
      have l4 := fun n : Later wr => n.cell b4
      have l5 := fun n : Later wr => n.cell b5
      have m0 := fun n : Later wr => n.cell e0
      have m1 := fun n : Later wr => n.cell e1
      have m2 := fun n : Later wr => n.cell e2
      have m3 := fun n : Later wr => n.cell e3
      have m4 := fun n : Later wr => n.cell e4
      have m5 := fun n : Later wr => n.cell e5
      clear e0 e1 e2 e3 e4 e5 hbox1
      have hi1 : (0 : Int) ≤ (k : Int) := by omega
      have hi2 : (k : Int) < (N : Int) := by omega
      have Hbel := Lib.hid hbel; clear hbel
      have Hw0 := Lib.hid hw0; clear hw0
      cases hpk : properT d kid with
      | false =>
        have Hno : Hid ((List.range N).all F = false) := Lib.hid (kids_all_no hlt (by rw [HFk.out, hpk]; rfl))
        have hcall := fun w hw => Ih.out kid ⟨kind', text', num', yes', ka', kn', kc', ca', cn', cc'⟩ w hw
        rw [hpk] at hcall
        have Hcall := Lib.hid hcall; clear hcall hpk
        have Hvr := Lib.hid hvr; clear hvr
        go_wp2_with fail
        refine wp_region_later (by kernel_rfl) (by kernel_rfl) ?_
        repeat (go_big_quiet_step ((go_at_call 98; exact Calls.later_of (Hcall.out _ (Hrv.out.keep (Later.keeps _ _))))))
        refine wpQuiet_nil ?_
        intro _ hw'
        obtain ⟨nq, rfl⟩ := hw'
        go_wp2_with fail
        go_ret
        exact ⟨by rw [Hno.out]; simp, via Hw0.out nq.ok⟩
      | true =>
        have hcall := fun w hw => Ih.out kid ⟨kind', text', num', yes', ka', kn', kc', ca', cn', cc'⟩ w hw
        rw [hpk] at hcall
        have Hcall := Lib.hid hcall; clear hcall
        by_cases hk0 : k = 0
        · have Hyes : Hid ((List.range (k + 1)).all F = true) := Lib.hid (kids_all_succ Hall.out (by rw [HFk.out, hpk, hk0]; simp))
          have hg : ¬ (0 : Int) < (k : Int) := by omega
          have hg2 : ¬ 0 < k := by omega
          clear hpk hk0
          have Hvr := Lib.hid hvr; clear hvr
          go_wp2_with fail
          refine wp_region_later (by kernel_rfl) (by kernel_rfl) ?_
          repeat (go_big_quiet_step ((go_at_call 98; exact Calls.later_of (Hcall.out _ (Hrv.out.keep (Later.keeps _ _))))))
          refine wpQuiet_nil ?_
          intro _ hw'
          obtain ⟨nq, rfl⟩ := hw'
          go_wp2_with fail
          go_roundw
          case rel => exact ⟨k + 1, by omega, by simp, Hyes.out, Hbel.out.trans (nq.ok.mono (by have := Hbel.out.size; omega))⟩
          case measure => simp [intOf]; omega
        · have hg : (0 : Int) < (k : Int) := by omega
          have hg2 : 0 < k := by omega
          obtain ⟨bk, ok, hka, _, hlbk, ck0⟩ := hvr.key (k := k - 1) (by rw [Hn.out, hHN.out]; omega)
          obtain ⟨bk', ok', hka', _, hlbk', ck1⟩ := hvr.key (k := k) (by rw [Hn.out]; exact hlt')
          simp only at hka hka'
          rw [hka] at hka'
          injection hka' with hka'
          injection hka' with hbk hok
          subst hbk hok hka
          have hg0 : t.keys.getD (k - 1) ⟨#[]⟩ = t.keys[k - 1]'(by rw [Hn.out, hHN.out]; omega) := by
            rw [List.getD_eq_getElem?_getD, List.getElem?_eq_getElem (by rw [Hn.out, hHN.out]; omega)]; rfl
          have hg1 : t.keys.getD k ⟨#[]⟩ = t.keys[k]'(by rw [Hn.out]; exact hlt') := by
            rw [List.getD_eq_getElem?_getD, List.getElem?_eq_getElem (by rw [Hn.out]; exact hlt')]; rfl
          have hF := HFk.out
          rw [hpk, hg0, hg1] at hF
          simp only [hk0, decide_false, Bool.false_or, Bool.true_and] at hF
          generalize t.keys[k - 1]'(by rw [Hn.out, hHN.out]; omega) = s0 at *
          generalize t.keys[k]'(by rw [Hn.out]; exact hlt') = s1 at *
          have n0 := fun n : Later wr => n.cell ck0
          have n1 := fun n : Later wr => n.cell ck1
          have hj1 : (0 : Int) ≤ (k : Int) - 1 := by omega
          have hj2 : (k : Int) - 1 < (N : Int) := by omega
          have hj3 : ((k : Int) - 1).toNat = k - 1 := by omega
          have hj4 : k - 1 < N := by omega
          clear ck0 ck1 hpk hk0 hg0 hg1
          have Hvr := Lib.hid hvr; clear hvr
          cases hs : strLt s0 s1 with
          | false =>
            rw [hs] at hF
            have Hno : Hid ((List.range N).all F = false) := Lib.hid (kids_all_no hlt hF)
            have hs' : Op.bytesLess s0.toList s1.toList = false := hs
            clear hs hF
            go_wp2_with fail
            refine wp_region_later (by kernel_rfl) (by kernel_rfl) ?_
            repeat (go_big_quiet_step ((go_at_call 98; exact Calls.later_of (Hcall.out _ (Hrv.out.keep (Later.keeps _ _))))))
            refine wpQuiet_nil ?_
            intro _ hw'
            obtain ⟨nq, rfl⟩ := hw'
            go_wp2_with fail
            go_ret
            exact ⟨by rw [Hno.out]; simp, via Hw0.out nq.ok⟩
          | true =>
            rw [hs] at hF
            have Hyes : Hid ((List.range (k + 1)).all F = true) := Lib.hid (kids_all_succ Hall.out hF)
            have hs' : Op.bytesLess s0.toList s1.toList = true := hs
            clear hs hF
            go_wp2_with fail
            refine wp_region_later (by kernel_rfl) (by kernel_rfl) ?_
            repeat (go_big_quiet_step ((go_at_call 98; exact Calls.later_of (Hcall.out _ (Hrv.out.keep (Later.keeps _ _))))))
            refine wpQuiet_nil ?_
            intro _ hw'
            obtain ⟨nq, rfl⟩ := hw'
            go_wp2_with fail
            go_roundw
            case rel => exact ⟨k + 1, by omega, by simp, Hyes.out, Hbel.out.trans (nq.ok.mono (by have := Hbel.out.size; omega))⟩
            case measure => simp [intOf]; omega
    · have Hw0 := Lib.hid hw0; clear hw0
      go_wp2_with fail
      go_ret
      obtain rfl : k = N := by omega
      exact ⟨by rw [Hall.out]; simp, Hw0.out⟩

theorem proper_any (d : Nat) : ∀ (t : Tr) (v : TV) (S : Nat → Prop) (w : World), d ≤ 1000 → RepT w S v t →
    Calls Tryz.prog 98 #[v.val, .int .i64 d] w fun e w' => e = .returned (.bool (properT d t)) ∧ Below w.heap.size w w' := by
  induction d with
  | zero => exact fun t v S w _ hv => proper_zero t v S w hv
  | succ d ih =>
    intro t v S w hd hv
    obtain ⟨q1, q2, q3, q4, q5, q6⟩ := hv.eqs
    rw [show ((d + 1 : Nat) : Int) = (d : Int) + 1 by omega]
    by_cases hk : v.kind ≠ 4 ∧ v.kind ≠ 5
    · exact proper_leaf d (by omega) t v S w hv hk
    · by_cases hbad : (v.kind = 5 ∧ v.kn ≠ v.cn) ∨ (v.kind = 4 ∧ v.kn ≠ 0)
      · exact proper_bad d (by omega) t v S w hv hbad
      · by_cases h4 : v.kind = 4
        · exact proper_list d (by omega) t v S w hv (by rw [← q1]; exact h4) (by rw [← q5]; omega) (fun t v w hv => ih t v S w (by omega) hv)
        · exact proper_map d (by omega) t v S w hv (by rw [← q1]; omega) (by rw [← q5, ← q6]; omega) (fun t v w hv => ih t v S w (by omega) hv)
end Go.Proofs.YtbcnhcpgloncdaaGreatDoor
