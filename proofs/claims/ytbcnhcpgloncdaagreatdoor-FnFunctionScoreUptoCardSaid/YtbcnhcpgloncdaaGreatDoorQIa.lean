/- 'proper': which trees are proper. -/
import Derived.Test.YtbcnhcpgloncdaaGreatDoorQGd
import Derived.Test.YtbcnhcpgloncdaaGreatDoorQGa0
import Derived.Test.YtbcnhcpgloncdaaGreatDoorQGh
import Derived.Test.YtbcnhcpgloncdaaGreatDoorQGj
import Derived.Test.YtbcnhcpgloncdaaGreatDoorQGp
namespace Go.Proofs.YtbcnhcpgloncdaaGreatDoor
open Go Go.RowKit Go.BigFrame

def scalarP (t : Tr) : Bool :=
  if 0 < t.keys.length ∨ 0 < t.kids.length then false else if t.kind = 1 then !(decide (t.text = ⟨#[]⟩)) else if t.kind = 2 then fin t.num else decide (t.kind = 3)
theorem RepT.scalarP {w : World} {S : Nat → Prop} {v : TV} {t : Tr} (h : RepT w S v t) : scalarV v = scalarP t := by
  obtain ⟨h1, h2, h3, h4, h5, h6⟩ := h.eqs
  unfold scalarV YtbcnhcpgloncdaaGreatDoor.scalarP
  rw [h1, h2, h3, h5, h6]

def strLt (a b : ByteArray) : Bool := Op.bytesLess a.toList b.toList

/-- Is kid k as told: proper itself, its key behind the one before? -/
def kidOK (pr : Tr → Bool) (t : Tr) (k : Nat) : Bool := pr (t.kids.getD k Tr.zero) && (decide (k = 0) || !(decide (t.kind = 5)) || strLt (t.keys.getD (k - 1) ⟨#[]⟩) (t.keys.getD k ⟨#[]⟩))
/-- Is a tree proper, so deep at most? -/
def properT : Nat → Tr → Bool
  | 0, t => scalarP t
  | d + 1, t =>
    if t.kind ≠ 4 ∧ t.kind ≠ 5 then scalarP t
    else if (t.kind = 5 ∧ t.keys.length ≠ t.kids.length) ∨ (t.kind = 4 ∧ t.keys.length ≠ 0) then false
    else (List.range t.kids.length).all (kidOK (properT d) t)

theorem kids_all_no {F : Nat → Bool} {N k : Nat} (hk : k < N) (h : F k = false) : (List.range N).all F = false := by
  rw [List.all_eq_false]
  exact ⟨k, List.mem_range.2 hk, by simp [h]⟩
theorem kids_all_succ {F : Nat → Bool} {k : Nat} (h0 : (List.range k).all F = true) (h : F k = true) : (List.range (k + 1)).all F = true := by
  rw [List.range_succ, List.all_append, h0]; simp [h]

theorem proper_zero (t : Tr) (v : TV) (S : Nat → Prop) (w : World) (hv : RepT w S v t) : Calls Tryz.prog 98 #[v.val, .int .i64 0] w fun e w' => e = .returned (.bool (properT 0 t)) ∧ Below w.heap.size w w' := by
  have hp : properT 0 t = scalarV v := by rw [hv.scalarP]; rfl
  rw [hp]
  clear hp hv
  obtain ⟨kind, text, num, yes, ka, kn, kc, ca, cn, cc⟩ := v
  cases hsv : scalarV ⟨kind, text, num, yes, ka, kn, kc, ca, cn, cc⟩ with
  | false =>
    have hcall := fun w => scalar_any ⟨kind, text, num, yes, ka, kn, kc, ca, cn, cc⟩ w
    rw [hsv] at hcall
    have Hcall := Lib.hid hcall; clear hcall hsv
    go_enter Tryz.func98, Tryz.ntmps98
    go_wp2_with (go_at_call 101; refine (Hcall.out _).mono ?_; rintro e w' ⟨rfl, hb⟩)
    go_ret
    exact ⟨by simp, via ((Below.refl _ _).alloc (Nat.le_refl _) _) hb⟩
  | true =>
    have hk : kind = 1 ∨ kind = 2 ∨ kind = 3 := by
      unfold scalarV at hsv
      split at hsv
      · cases hsv
      · split at hsv
        · exact .inl (by assumption)
        · split at hsv
          · exact .inr (.inl (by assumption))
          · exact .inr (.inr (by simpa using hsv))
    have h4 : (kind != 4) = true := by rw [bne_iff_ne]; omega
    have h5 : (kind != 5) = true := by rw [bne_iff_ne]; omega
    clear hk
    have hcall := fun w => scalar_any ⟨kind, text, num, yes, ka, kn, kc, ca, cn, cc⟩ w
    rw [hsv] at hcall
    have Hcall := Lib.hid hcall; clear hcall hsv
    go_enter Tryz.func98, Tryz.ntmps98
    go_wp2_with fail
    refine (Hcall.out _).mono ?_
    rintro e w1 ⟨rfl, hb⟩
    have hcl := bcell hb
    obtain ⟨hc, hf⟩ := hcl
    have hz : w.heap.size + 1 ≤ w1.heap.size := by have := hb.size; simp at this; omega
    go_wp2_with fail
    refine (Hcall.out _).mono ?_
    rintro e w2 ⟨rfl, hb2⟩
    go_wp2_with fail
    go_ret
    exact ⟨by simp, via (via ((Below.refl _ _).alloc (Nat.le_refl _) _) hb) hb2⟩

theorem proper_leaf (d : Nat) (hd : d ≤ 1000) (t : Tr) (v : TV) (S : Nat → Prop) (w : World) (hv : RepT w S v t) (hk : v.kind ≠ 4 ∧ v.kind ≠ 5) :
    Calls Tryz.prog 98 #[v.val, .int .i64 ((d : Int) + 1)] w fun e w' => e = .returned (.bool (properT (d + 1) t)) ∧ Below w.heap.size w w' := by
  obtain ⟨q1, q2, q3, q4, q5, q6⟩ := hv.eqs
  have hp : properT (d + 1) t = scalarV v := by
    rw [hv.scalarP]; unfold properT; rw [if_pos (by rw [← q1]; exact hk)]
  rw [hp]; clear hp q1 q2 q3 q4 q5 q6 hv
  obtain ⟨hk4, hk5⟩ := hk
  obtain ⟨kind, text, num, yes, ka, kn, kc, ca, cn, cc⟩ := v
  have h4 : (kind != 4) = true := by rw [bne_iff_ne]; exact hk4
  have h5 : (kind != 5) = true := by rw [bne_iff_ne]; exact hk5
  clear hk4 hk5
  have hcall := fun w => scalar_any ⟨kind, text, num, yes, ka, kn, kc, ca, cn, cc⟩ w
  have Hcall := Lib.hid hcall; clear hcall
  generalize scalarV ⟨kind, text, num, yes, ka, kn, kc, ca, cn, cc⟩ = bb at *
  have hd0 : (((d : Int) + 1) == 0) = false := by rw [beq_eq_false_iff_ne]; omega
  go_enter Tryz.func98, Tryz.ntmps98
  go_wp2_with (go_at_call 101; refine (Hcall.out _).mono ?_; rintro e w' ⟨rfl, hb⟩)
  go_ret
  exact ⟨by simp, via ((Below.refl _ _).alloc (Nat.le_refl _) _) hb⟩

theorem proper_bad (d : Nat) (hd : d ≤ 1000) (t : Tr) (v : TV) (S : Nat → Prop) (w : World) (hv : RepT w S v t) (hbad : (v.kind = 5 ∧ v.kn ≠ v.cn) ∨ (v.kind = 4 ∧ v.kn ≠ 0)) :
    Calls Tryz.prog 98 #[v.val, .int .i64 ((d : Int) + 1)] w fun e w' => e = .returned (.bool (properT (d + 1) t)) ∧ Below w.heap.size w w' := by
  obtain ⟨q1, q2, q3, q4, q5, q6⟩ := hv.eqs
  have hp : properT (d + 1) t = false := by
    unfold properT; rw [if_neg (by rw [← q1]; omega), if_pos (by rw [← q1, ← q5, ← q6]; exact hbad)]
  have hd0 : (((d : Int) + 1) == 0) = false := by rw [beq_eq_false_iff_ne]; omega
  rw [hp]; clear hp q1 q2 q3 q4 q5 q6 hv
  obtain ⟨kind, text, num, yes, ka, kn, kc, ca, cn, cc⟩ := v
  simp only at hbad
  rcases hbad with ⟨rfl, hne⟩ | ⟨rfl, hne⟩
  · have h1 : ((kn : Int) != (cn : Int)) = true := by rw [bne_iff_ne]; omega
    clear hne
    go_enter Tryz.func98, Tryz.ntmps98
    go_wp2_with fail
    go_ret
    exact ⟨by simp, (Below.refl _ _).alloc (Nat.le_refl _) _⟩
  · have h1 : ((kn : Int) != 0) = true := by rw [bne_iff_ne]; omega
    clear hne
    go_enter Tryz.func98, Tryz.ntmps98
    go_wp2_with fail
    go_ret
    exact ⟨by simp, (Below.refl _ _).alloc (Nat.le_refl _) _⟩

set_option maxRecDepth 100000 in
set_option maxHeartbeats 4000000 in
theorem proper_list (d : Nat) (hd : d ≤ 1000) (t : Tr) (v : TV) (S : Nat → Prop) (w : World) (hv : RepT w S v t) (hk : t.kind = 4) (hn : t.keys.length = 0)
    (ih : ∀ (t : Tr) (v : TV) (w : World), RepT w S v t → Calls Tryz.prog 98 #[v.val, .int .i64 d] w fun e w' => e = .returned (.bool (properT d t)) ∧ Below w.heap.size w w') :
    Calls Tryz.prog 98 #[v.val, .int .i64 ((d : Int) + 1)] w fun e w' => e = .returned (.bool (properT (d + 1) t)) ∧ Below w.heap.size w w' := by
  obtain ⟨q1, q2, q3, q4, q5, q6⟩ := hv.eqs
  have hbd := hv.bounds.2.2
  have hp : properT (d + 1) t = (List.range t.kids.length).all (kidOK (properT d) t) := by
    rw [properT, if_neg (by rw [hk]; omega), if_neg (by rw [hk]; omega)]
  rw [hp]
  have hko : ∀ k, kidOK (properT d) t k = (properT d (t.kids.getD k Tr.zero) && (decide (k = 0) || true)) := by
    intro k; unfold kidOK; rw [hk]; simp
  generalize kidOK (properT d) t = F at *
  have Ih := Lib.hid ih; clear ih hp
  have Hko := Lib.hid hko; clear hko
  have Hv := Lib.hid hv; clear hv
  have hd0 : (((d : Int) + 1) == 0) = false := by rw [beq_eq_false_iff_ne]; omega
  have hd1 : (d : Int) + 1 - 1 = (d : Int) := by omega
  obtain ⟨kind, text, num, yes, ka, kn, kc, ca, cn, cc⟩ := v
  simp only at q1 q5 q6
  rw [hk] at q1
  rw [hn] at q5
  subst q1 q5 q6
  clear q2 q3 q4 hk hn
  obtain ⟨N, hN⟩ : ∃ N, t.kids.length = N := ⟨_, rfl⟩
  rw [hN] at hbd ⊢
  rw [hN] at Hv
  have hHN := Lib.hid hN; clear hN
  have hbox := heap_alloc_new w (.cells #[.int .i64 4, .string text, .float .f64 num, .bool yes, .slice ka 0 kc, .slice ca N cc] 31)
  have Hbox := Lib.hid hbox; clear hbox
  go_enter Tryz.func98, Tryz.ntmps98
  go_wp2_with fail
  go_loopw [5] (fun i wr => ∃ k : Nat, k ≤ N ∧ i = .int .i64 k ∧ (List.range k).all F = true ∧ Below (w.heap.size + 1) (w.alloc (Obj.cells #[Value.int IntKind.i64 4, Value.string text, Value.float FloatKind.f64 num, Value.bool yes, Value.slice ka 0 kc, Value.slice ca N cc] 31)) wr) (fun i _ => N - (intOf i).toNat)
  case atStart => exact ⟨0, Nat.zero_le _, rfl, by simp, Below.refl _ _⟩
  case round =>
    obtain ⟨k, hk, rfl, hall, hbel⟩ := hrel
    have Hall := Lib.hid hall; clear hall
    have hb1 : (w.alloc (Obj.cells #[Value.int IntKind.i64 4, Value.string text, Value.float FloatKind.f64 num, Value.bool yes, Value.slice ka 0 kc, Value.slice ca N cc] 31)).heap.size = w.heap.size + 1 := by simp
    have hbox1 := (hbel.block w.heap.size (by omega)).trans Hbox.out
    have b0 : wr.cell? ⟨w.heap.size, 0, none⟩ = some (.int .i64 4) := by simp [World.cell?, hbox1]
    have b4 : wr.cell? ⟨w.heap.size, 4, none⟩ = some (.slice ka 0 kc) := by simp [World.cell?, hbox1]
    have b5 : wr.cell? ⟨w.heap.size, 5, none⟩ = some (.slice ca N cc) := by simp [World.cell?, hbox1]
    have hw0 : Below w.heap.size w wr := ((Below.refl _ _).alloc (Nat.le_refl _) _).trans (hbel.mono (by omega))
    by_cases hlt : k < N
    · have hlt' : k < t.kids.length := by rw [hHN.out]; exact hlt
      have hvr := Hv.out.keep (Keeps.of_below S hw0)
      obtain ⟨b, o, v', hca, hSb, hlb, hct, hrv⟩ := hvr.kid (k := k) hlt'
      simp only at hca
      subst hca
      have hgd : t.kids.getD k Tr.zero = t.kids[k] := by simp [hlt']
      have hFk := Hko.out k
      rw [hgd] at hFk
      generalize t.kids[k] = kid at *
      have HFk := Lib.hid hFk; clear hFk hgd
      obtain ⟨e0, e1, e2, e3, e4, e5⟩ := hct
      obtain ⟨kind', text', num', yes', ka', kn', kc', ca', cn', cc'⟩ := v'
      simp only at e0 e1 e2 e3 e4 e5
      have Hrv := Lib.hid hrv; clear hrv
      have l0 := fun n : Later wr => n.cell b0
      have l4 := fun n : Later wr => n.cell b4
      have l5 := fun n : Later wr => n.cell b5
      have m0 := fun n : Later wr => n.cell e0
      have m1 := fun n : Later wr => n.cell e1
      have m2 := fun n : Later wr => n.cell e2
      have m3 := fun n : Later wr => n.cell e3
      have m4 := fun n : Later wr => n.cell e4
      have m5 := fun n : Later wr => n.cell e5
      clear e0 e1 e2 e3 e4 e5 hbox1
      have hi1 : (0 : Int) ≤ (k : Int) := by omega
      have hi2 : (k : Int) < (N : Int) := by omega
      have Hbel := Lib.hid hbel; clear hbel
      have Hw0 := Lib.hid hw0; clear hw0
      cases hpk : properT d kid with
      | false =>
        have Hno : Hid ((List.range N).all F = false) := Lib.hid (kids_all_no hlt (by rw [HFk.out, hpk]; rfl))
        have hcall := fun w hw => Ih.out kid ⟨kind', text', num', yes', ka', kn', kc', ca', cn', cc'⟩ w hw
        rw [hpk] at hcall
        have Hcall := Lib.hid hcall; clear hcall hpk
        have Hvr := Lib.hid hvr; clear hvr
        go_wp2_with fail
        refine wp_region_later (by kernel_rfl) (by kernel_rfl) ?_
        repeat (go_big_quiet_step ((go_at_call 98; exact Calls.later_of (Hcall.out _ (Hrv.out.keep (Later.keeps _ _))))))
        refine wpQuiet_nil ?_
        intro _ hw'
        obtain ⟨nq, rfl⟩ := hw'
        go_wp2_with fail
        go_ret
        exact ⟨by rw [Hno.out]; simp, via Hw0.out nq.ok⟩
      | true =>
        have hcall := fun w hw => Ih.out kid ⟨kind', text', num', yes', ka', kn', kc', ca', cn', cc'⟩ w hw
        rw [hpk] at hcall
        have Hcall := Lib.hid hcall; clear hcall
        by_cases hk0 : k = 0
        · have Hyes : Hid ((List.range (k + 1)).all F = true) := Lib.hid (kids_all_succ Hall.out (by rw [HFk.out, hpk, hk0]; simp))
          have hg : ¬ (0 : Int) < (k : Int) := by omega
          have hg2 : ¬ 0 < k := by omega
          clear hpk hk0
          have Hvr := Lib.hid hvr; clear hvr
          go_wp2_with fail
          refine wp_region_later (by kernel_rfl) (by kernel_rfl) ?_
          repeat (go_big_quiet_step ((go_at_call 98; exact Calls.later_of (Hcall.out _ (Hrv.out.keep (Later.keeps _ _))))))
          refine wpQuiet_nil ?_
          intro _ hw'
          obtain ⟨nq, rfl⟩ := hw'
          go_wp2_with fail
          go_roundw
          case rel => exact ⟨k + 1, by omega, by simp, Hyes.out, Hbel.out.trans (nq.ok.mono (by have := Hbel.out.size; omega))⟩
          case measure => simp [intOf]; omega
        · have hg : (0 : Int) < (k : Int) := by omega
          have hg2 : 0 < k := by omega
          have Hyes : Hid ((List.range (k + 1)).all F = true) := Lib.hid (kids_all_succ Hall.out (by rw [HFk.out, hpk]; simp))
          clear hpk hk0
          have Hvr := Lib.hid hvr; clear hvr
          go_wp2_with fail
          refine wp_region_later (by kernel_rfl) (by kernel_rfl) ?_
          repeat (go_big_quiet_step ((go_at_call 98; exact Calls.later_of (Hcall.out _ (Hrv.out.keep (Later.keeps _ _))))))
          refine wpQuiet_nil ?_
          intro _ hw'
          obtain ⟨nq, rfl⟩ := hw'
          go_wp2_with fail
          go_roundw
          case rel => exact ⟨k + 1, by omega, by simp, Hyes.out, Hbel.out.trans (nq.ok.mono (by have := Hbel.out.size; omega))⟩
          case measure => simp [intOf]; omega
    · have Hw0 := Lib.hid hw0; clear hw0
      go_wp2_with fail
      go_ret
      obtain rfl : k = N := by omega
      exact ⟨by rw [Hall.out]; simp, Hw0.out⟩

set_option maxRecDepth 100000 in
set_option maxHeartbeats 4000000 in
theorem proper_map (d : Nat) (hd : d ≤ 1000) (t : Tr) (v : TV) (S : Nat → Prop) (w : World) (hv : RepT w S v t) (hk : t.kind = 5) (hn : t.keys.length = t.kids.length)
    (ih : ∀ (t : Tr) (v : TV) (w : World), RepT w S v t → Calls Tryz.prog 98 #[v.val, .int .i64 d] w fun e w' => e = .returned (.bool (properT d t)) ∧ Below w.heap.size w w') :
    Calls Tryz.prog 98 #[v.val, .int .i64 ((d : Int) + 1)] w fun e w' => e = .returned (.bool (properT (d + 1) t)) ∧ Below w.heap.size w w' := by
  obtain ⟨q1, q2, q3, q4, q5, q6⟩ := hv.eqs
  have hbd := hv.bounds.2.2
  have hp : properT (d + 1) t = (List.range t.kids.length).all (kidOK (properT d) t) := by
    rw [properT, if_neg (by rw [hk]; omega), if_neg (by rw [hk]; omega)]
  rw [hp]
  have hko : ∀ k, kidOK (properT d) t k = (properT d (t.kids.getD k Tr.zero) && (decide (k = 0) || strLt (t.keys.getD (k - 1) ⟨#[]⟩) (t.keys.getD k ⟨#[]⟩))) := by
    intro k; unfold kidOK; rw [hk]; simp
  generalize kidOK (properT d) t = F at *
  have Ih := Lib.hid ih; clear ih hp
  have Hko := Lib.hid hko; clear hko
  have Hv := Lib.hid hv; clear hv
  have Hn := Lib.hid hn
  have hd0 : (((d : Int) + 1) == 0) = false := by rw [beq_eq_false_iff_ne]; omega
  have hd1 : (d : Int) + 1 - 1 = (d : Int) := by omega
  obtain ⟨kind, text, num, yes, ka, kn, kc, ca, cn, cc⟩ := v
  simp only at q1 q5 q6
  rw [hk] at q1
  rw [hn] at q5
  subst q1 q5 q6
  clear q2 q3 q4 hk hn
  obtain ⟨N, hN⟩ : ∃ N, t.kids.length = N := ⟨_, rfl⟩
  rw [hN] at hbd ⊢
  rw [hN] at Hv
  have hHN := Lib.hid hN; clear hN
  have hbox := heap_alloc_new w (.cells #[.int .i64 5, .string text, .float .f64 num, .bool yes, .slice ka N kc, .slice ca N cc] 31)
  have Hbox := Lib.hid hbox; clear hbox
  go_enter Tryz.func98, Tryz.ntmps98
  go_wp2_with fail
  go_loopw [5] (fun i wr => ∃ k : Nat, k ≤ N ∧ i = .int .i64 k ∧ (List.range k).all F = true ∧ Below (w.heap.size + 1) (w.alloc (Obj.cells #[Value.int IntKind.i64 5, Value.string text, Value.float FloatKind.f64 num, Value.bool yes, Value.slice ka N kc, Value.slice ca N cc] 31)) wr) (fun i _ => N - (intOf i).toNat)
  case atStart => exact ⟨0, Nat.zero_le _, rfl, by simp, Below.refl _ _⟩
  case round =>
    obtain ⟨k, hk, rfl, hall, hbel⟩ := hrel
    have Hall := Lib.hid hall; clear hall
    have hb1 : (w.alloc (Obj.cells #[Value.int IntKind.i64 5, Value.string text, Value.float FloatKind.f64 num, Value.bool yes, Value.slice ka N kc, Value.slice ca N cc] 31)).heap.size = w.heap.size + 1 := by simp
    have hbox1 := (hbel.block w.heap.size (by omega)).trans Hbox.out
    have b0 : wr.cell? ⟨w.heap.size, 0, none⟩ = some (.int .i64 5) := by simp [World.cell?, hbox1]
    have b4 : wr.cell? ⟨w.heap.size, 4, none⟩ = some (.slice ka N kc) := by simp [World.cell?, hbox1]
    have b5 : wr.cell? ⟨w.heap.size, 5, none⟩ = some (.slice ca N cc) := by simp [World.cell?, hbox1]
    have hw0 : Below w.heap.size w wr := ((Below.refl _ _).alloc (Nat.le_refl _) _).trans (hbel.mono (by omega))
    by_cases hlt : k < N
    · have hlt' : k < t.kids.length := by rw [hHN.out]; exact hlt
      have hvr := Hv.out.keep (Keeps.of_below S hw0)
      obtain ⟨b, o, v', hca, hSb, hlb, hct, hrv⟩ := hvr.kid (k := k) hlt'
      simp only at hca
      subst hca
      have hgd : t.kids.getD k Tr.zero = t.kids[k] := by simp [hlt']
      have hFk := Hko.out k
      rw [hgd] at hFk
      generalize t.kids[k] = kid at *
      have HFk := Lib.hid hFk; clear hFk hgd
      obtain ⟨e0, e1, e2, e3, e4, e5⟩ := hct
      obtain ⟨kind', text', num', yes', ka', kn', kc', ca', cn', cc'⟩ := v'
      simp only at e0 e1 e2 e3 e4 e5
      have Hrv := Lib.hid hrv; clear hrv
      have l0 := fun n : Later wr => n.cell b0
      have l4 := fun n : Later wr => n.cell b4
      have l5 := fun n : Later wr => n.cell b5
      have m0 := fun n : Later wr => n.cell e0
      have m1 := fun n : Later wr => n.cell e1
      have m2 := fun n : Later wr => n.cell e2
      have m3 := fun n : Later wr => n.cell e3
      have m4 := fun n : Later wr => n.cell e4
      have m5 := fun n : Later wr => n.cell e5
      clear e0 e1 e2 e3 e4 e5 hbox1
      have hi1 : (0 : Int) ≤ (k : Int) := by omega
      have hi2 : (k : Int) < (N : Int) := by omega
      have Hbel := Lib.hid hbel; clear hbel
      have Hw0 := Lib.hid hw0; clear hw0
      cases hpk : properT d kid with
      | false =>
        have Hno : Hid ((List.range N).all F = false) := Lib.hid (kids_all_no hlt (by rw [HFk.out, hpk]; rfl))
        have hcall := fun w hw => Ih.out kid ⟨kind', text', num', yes', ka', kn', kc', ca', cn', cc'⟩ w hw
        rw [hpk] at hcall
        have Hcall := Lib.hid hcall; clear hcall hpk
        have Hvr := Lib.hid hvr; clear hvr
        go_wp2_with fail
        refine wp_region_later (by kernel_rfl) (by kernel_rfl) ?_
        repeat (go_big_quiet_step ((go_at_call 98; exact Calls.later_of (Hcall.out _ (Hrv.out.keep (Later.keeps _ _))))))
        refine wpQuiet_nil ?_
        intro _ hw'
        obtain ⟨nq, rfl⟩ := hw'
        go_wp2_with fail
        go_ret
        exact ⟨by rw [Hno.out]; simp, via Hw0.out nq.ok⟩
      | true =>
        have hcall := fun w hw => Ih.out kid ⟨kind', text', num', yes', ka', kn', kc', ca', cn', cc'⟩ w hw
        rw [hpk] at hcall
        have Hcall := Lib.hid hcall; clear hcall
        by_cases hk0 : k = 0
        · have Hyes : Hid ((List.range (k + 1)).all F = true) := Lib.hid (kids_all_succ Hall.out (by rw [HFk.out, hpk, hk0]; simp))
          have hg : ¬ (0 : Int) < (k : Int) := by omega
          have hg2 : ¬ 0 < k := by omega
          clear hpk hk0
          have Hvr := Lib.hid hvr; clear hvr
          go_wp2_with fail
          refine wp_region_later (by kernel_rfl) (by kernel_rfl) ?_
          repeat (go_big_quiet_step ((go_at_call 98; exact Calls.later_of (Hcall.out _ (Hrv.out.keep (Later.keeps _ _))))))
          refine wpQuiet_nil ?_
          intro _ hw'
          obtain ⟨nq, rfl⟩ := hw'
          go_wp2_with fail
          go_roundw
          case rel => exact ⟨k + 1, by omega, by simp, Hyes.out, Hbel.out.trans (nq.ok.mono (by have := Hbel.out.size; omega))⟩
          case measure => simp [intOf]; omega
        · have hg : (0 : Int) < (k : Int) := by omega
          have hg2 : 0 < k := by omega
          obtain ⟨bk, ok, hka, _, hlbk, ck0⟩ := hvr.key (k := k - 1) (by rw [Hn.out, hHN.out]; omega)
          obtain ⟨bk', ok', hka', _, hlbk', ck1⟩ := hvr.key (k := k) (by rw [Hn.out]; exact hlt')
          simp only at hka hka'
          rw [hka] at hka'
          injection hka' with hka'
          injection hka' with hbk hok
          subst hbk hok hka
          have hg0 : t.keys.getD (k - 1) ⟨#[]⟩ = t.keys[k - 1]'(by rw [Hn.out, hHN.out]; omega) := by
            rw [List.getD_eq_getElem?_getD, List.getElem?_eq_getElem (by rw [Hn.out, hHN.out]; omega)]; rfl
          have hg1 : t.keys.getD k ⟨#[]⟩ = t.keys[k]'(by rw [Hn.out]; exact hlt') := by
            rw [List.getD_eq_getElem?_getD, List.getElem?_eq_getElem (by rw [Hn.out]; exact hlt')]; rfl
          have hF := HFk.out
          rw [hpk, hg0, hg1] at hF
          simp only [hk0, decide_false, Bool.false_or, Bool.true_and] at hF
          generalize t.keys[k - 1]'(by rw [Hn.out, hHN.out]; omega) = s0 at *
          generalize t.keys[k]'(by rw [Hn.out]; exact hlt') = s1 at *
          have n0 := fun n : Later wr => n.cell ck0
          have n1 := fun n : Later wr => n.cell ck1
          have hj1 : (0 : Int) ≤ (k : Int) - 1 := by omega
          have hj2 : (k : Int) - 1 < (N : Int) := by omega
          have hj3 : ((k : Int) - 1).toNat = k - 1 := by omega
          have hj4 : k - 1 < N := by omega
          clear ck0 ck1 hpk hk0 hg0 hg1
          have Hvr := Lib.hid hvr; clear hvr
          cases hs : strLt s0 s1 with
          | false =>
            rw [hs] at hF
            have Hno : Hid ((List.range N).all F = false) := Lib.hid (kids_all_no hlt hF)
            have hs' : Op.bytesLess s0.toList s1.toList = false := hs
            clear hs hF
            go_wp2_with fail
            refine wp_region_later (by kernel_rfl) (by kernel_rfl) ?_
            repeat (go_big_quiet_step ((go_at_call 98; exact Calls.later_of (Hcall.out _ (Hrv.out.keep (Later.keeps _ _))))))
            refine wpQuiet_nil ?_
            intro _ hw'
            obtain ⟨nq, rfl⟩ := hw'
            go_wp2_with fail
            go_ret
            exact ⟨by rw [Hno.out]; simp, via Hw0.out nq.ok⟩
          | true =>
            rw [hs] at hF
            have Hyes : Hid ((List.range (k + 1)).all F = true) := Lib.hid (kids_all_succ Hall.out hF)
            have hs' : Op.bytesLess s0.toList s1.toList = true := hs
            clear hs hF
            go_wp2_with fail
            refine wp_region_later (by kernel_rfl) (by kernel_rfl) ?_
            repeat (go_big_quiet_step ((go_at_call 98; exact Calls.later_of (Hcall.out _ (Hrv.out.keep (Later.keeps _ _))))))
            refine wpQuiet_nil ?_
            intro _ hw'
            obtain ⟨nq, rfl⟩ := hw'
            go_wp2_with fail
            go_roundw
            case rel => exact ⟨k + 1, by omega, by simp, Hyes.out, Hbel.out.trans (nq.ok.mono (by have := Hbel.out.size; omega))⟩
            case measure => simp [intOf]; omega
    · have Hw0 := Lib.hid hw0; clear hw0
      go_wp2_with fail
      go_ret
      obtain rfl : k = N := by omega
      exact ⟨by rw [Hall.out]; simp, Hw0.out⟩

theorem proper_any (d : Nat) : ∀ (t : Tr) (v : TV) (S : Nat → Prop) (w : World), d ≤ 1000 → RepT w S v t →
    Calls Tryz.prog 98 #[v.val, .int .i64 d] w fun e w' => e = .returned (.bool (properT d t)) ∧ Below w.heap.size w w' := by
  induction d with
  | zero => exact fun t v S w _ hv => proper_zero t v S w hv
  | succ d ih =>
    intro t v S w hd hv
    obtain ⟨q1, q2, q3, q4, q5, q6⟩ := hv.eqs
    rw [show ((d + 1 : Nat) : Int) = (d : Int) + 1 by omega]
    by_cases hk : v.kind ≠ 4 ∧ v.kind ≠ 5
    · exact proper_leaf d (by omega) t v S w hv hk
    · by_cases hbad : (v.kind = 5 ∧ v.kn ≠ v.cn) ∨ (v.kind = 4 ∧ v.kn ≠ 0)
      · exact proper_bad d (by omega) t v S w hv hbad
      · by_cases h4 : v.kind = 4
        · exact proper_list d (by omega) t v S w hv (by rw [← q1]; exact h4) (by rw [← q5]; omega) (fun t v w hv => ih t v S w (by omega) hv)
        · exact proper_map d (by omega) t v S w hv (by rw [← q1]; omega) (by rw [← q5, ← q6]; omega) (fun t v w hv => ih t v S w (by omega) hv)
end Go.Proofs.YtbcnhcpgloncdaaGreatDoor
/- Words of the proofs of this seat that need no builder: fit of a tree, trees that are the same as themselves, maps under way. -/
namespace Go.Proofs.YtbcnhcpgloncdaaGreatDoor
open Go Go.RowKit Go.Maps

@[go_sem] theorem make122 (w : World) : (Instr.makeMap 122 none).run Tryz.prog w = .ok (.map (some w.heap.size)) (w.alloc (.map #[] 0)) := by kernel_rfl
@[go_sem] theorem make95 (w : World) : (Instr.makeSlice 95 (.int .i64 0) (.int .i64 0)).run Tryz.prog w = .ok (.slice (some ⟨w.heap.size, 0, none⟩) 0 0) (w.alloc (.cells #[] 114)) := by kernel_rfl
def scalarT (t : Tr) : Bool :=
  if 0 < t.keys.length ∨ 0 < t.kids.length then false else if t.kind = 1 then !(decide (t.text = ⟨#[]⟩)) else if t.kind = 2 then fin t.num else decide (t.kind = 3)
theorem RepT.scalar {w : World} {S : Nat → Prop} {v : TV} {t : Tr} (h : RepT w S v t) : scalarV v = scalarT t := by
  obtain ⟨h1, h2, h3, h4, h5, h6⟩ := h.eqs
  unfold scalarV scalarT
  rw [h1, h2, h3, h5, h6]
def kT : ByteArray := ⟨#[116]⟩
def kN : ByteArray := ⟨#[110]⟩
def kB : ByteArray := ⟨#[98]⟩
def kV : ByteArray := ⟨#[118]⟩
def kW : ByteArray := ⟨#[119]⟩
def kF : ByteArray := ⟨#[102]⟩
def kQ : ByteArray := ⟨#[113]⟩
/-- Is a tree of a kind (of one of those that are not queries)? -/
def fitK (kd : ByteArray) (t : Tr) : Bool :=
  if kd = kT then decide (t.kind = 1) && scalarT t
  else if kd = kN then decide (t.kind = 2) && scalarT t
  else if kd = kB then decide (t.kind = 3) && scalarT t
  else if kd = kV then scalarT t
  else if kd = kW then decide (t.kind = 2) && scalarT t && fitW t.num
  else if kd = kF then decide (t.kind = 1) && scalarT t && fieldB t.text && fitF t.num
  else false
theorem fitK_any (kd : ByteArray) (hk : kd ∈ [kT, kN, kB, kV, kW, kF, ⟨#[]⟩]) (t : Tr) (v : TV) (S : Nat → Prop) (w : World) (h : RepT w S v t) :
    Calls Tryz.prog 26 #[.string kd, v.val] w fun e w' => e = .returned (.bool (fitK kd t)) ∧ Below w.heap.size w w' := by
  obtain ⟨h1, h2, h3, h4, h5, h6⟩ := h.eqs
  have hs := h.scalar
  have hb := h.bounds.1
  simp only [List.mem_cons, List.not_mem_nil, or_false] at hk
  rcases hk with rfl | rfl | rfl | rfl | rfl | rfl | rfl
  · have := fit_t v w
    rw [hs, h1] at this
    exact this
  · have := fit_n v w
    rw [hs, h1] at this
    exact this
  · have := fit_b v w
    rw [hs, h1] at this
    exact this
  · have := fit_v v w
    rw [hs] at this
    exact this
  · have := fit_w v w
    rw [hs, h1, h3] at this
    exact this
  · have := fit_f v w (by rw [h2]; exact hb)
    rw [hs, h1, h2, h3] at this
    exact this
  · exact fit_none v w
theorem kindOf_mem (rs : List (ByteArray × ByteArray)) (ks : List ByteArray) (h : rs.all (fun r => memB r.2 ks) = true) (h0 : (⟨#[]⟩ : ByteArray) ∈ ks) (name : ByteArray) : kindOf rs name ∈ ks := by
  unfold kindOf
  cases e : rs.find? (fun r => decide (r.1 = name)) with
  | none => simpa using h0
  | some r =>
    have := List.all_eq_true.1 h r (List.mem_of_find?_eq_some e)
    rw [memB_iff] at this
    simpa using this
theorem kindOf_name {rs : List (ByteArray × ByteArray)} {name : ByteArray} (h : kindOf rs name ≠ ⟨#[]⟩) : ∃ r ∈ rs, r.1 = name ∧ kindOf rs name = r.2 := by
  unfold kindOf at *
  cases e : rs.find? (fun r => decide (r.1 = name)) with
  | none => rw [e] at h; exact absurd rfl h
  | some r =>
    refine ⟨r, List.mem_of_find?_eq_some e, ?_, rfl⟩
    have := List.find?_some e
    simpa using this
/-- Trees that are the same as themselves. -/
inductive GoodT : Tr → Prop
  | mk (t : Tr) (h6 : t.kind ≠ 6) (h2 : t.kind = 2 → feq t.num t.num = true) (hr : ∀ k ∈ t.kids, GoodT k) : GoodT t
theorem GoodT.same {t : Tr} (h : GoodT t) : SameT t t := by
  induction h with
  | mk t h6 h2 hr ih =>
    refine .mk t t rfl rfl rfl (fun _ => rfl) h2 (fun _ => rfl) h6 ?_
    intro i a b ha hb
    obtain rfl : a = b := Option.some.inj (ha.symm.trans hb)
    exact ih a (List.mem_of_getElem? ha)
theorem good_text (s : ByteArray) : GoodT (textT s) := .mk _ (by simp [textT, Tr.kind]) (by simp [textT, Tr.kind]) (by simp [textT, Tr.kids])
theorem good_yes (b : Bool) : GoodT (yesT b) := .mk _ (by simp [yesT, Tr.kind]) (by simp [yesT, Tr.kind]) (by simp [yesT, Tr.kids])
theorem good_num {x : Nat} (h : feq x x = true) : GoodT (numT x) := .mk _ (by simp [numT, Tr.kind]) (fun _ => h) (by simp [numT, Tr.kids])
theorem good_list {ts : List Tr} (h : ∀ t ∈ ts, GoodT t) : GoodT (listT ts) := .mk _ (by simp [listT, Tr.kind]) (by simp [listT, Tr.kind]) (by simpa [listT, Tr.kids] using h)
theorem good_map {ts : List (ByteArray × Tr)} (h : ∀ p ∈ ts, GoodT p.2) : GoodT (mapTree ts) := by
  refine .mk _ (by simp [mapTree, mapT, Tr.kind]) (by simp [mapTree, mapT, Tr.kind]) ?_
  intro k hk
  have hk' : k ∈ (sortKeys (ts.map (·.1))).map (lookT ts) := by simpa [mapTree, mapT, Tr.kids] using hk
  obtain ⟨key, hkey, rfl⟩ := List.mem_map.1 hk'
  rw [mem_sortKeys, List.mem_map] at hkey
  obtain ⟨p, hp, rfl⟩ := hkey
  unfold lookT
  cases e : ts.find? (fun q => decide (q.1 = p.1)) with
  | none =>
    exfalso
    rw [List.find?_eq_none] at e
    exact e p hp (by simp)
  | some q => simpa using h q (List.mem_of_find?_eq_some e)
theorem feq_self_of {x : Nat} (h : ∀ s f, Ieee.double.read x ≠ .nan s f) : feq x x = true := by
  have e : FloatKind.f64.format = Ieee.double := rfl
  unfold feq Ieee.Format.order
  rw [e]
  cases hx : Ieee.double.read x with
  | number s m i => simp [Ieee.Datum.order]
  | infinity s => cases s <;> rfl
  | nan s f => exact absurd hx (h s f)
theorem feq_fin {x : Nat} (h : fin x = true) : feq x x = true := by
  refine feq_self_of fun s f e => ?_
  unfold fin at h
  rw [e] at h
  cases h
theorem feq_left {x y : Nat} (h : feq x y = true) : feq x x = true := by
  refine feq_self_of fun s f e => ?_
  have e' : FloatKind.f64.format = Ieee.double := rfl
  unfold feq Ieee.Format.order at h
  rw [e', e] at h
  simp [Ieee.Datum.order] at h
theorem fitK_none (t : Tr) : fitK ⟨#[]⟩ t = false := by unfold fitK; rfl
theorem whole_fit {t : Tr} (h : fitK kW t = true) : fitW t.num = true := by
  have e : fitK kW t = (decide (t.kind = 2) && scalarT t && fitW t.num) := rfl
  rw [e, Bool.and_eq_true] at h
  exact h.2
theorem num_fit {t : Tr} (h : fitK kN t = true) : fin t.num = true := by
  have e : fitK kN t = (decide (t.kind = 2) && scalarT t) := rfl
  rw [e, Bool.and_eq_true] at h
  obtain ⟨h1, h2⟩ := h
  have h1' : t.kind = 2 := by simpa using h1
  unfold scalarT at h2
  rw [h1'] at h2
  split at h2
  · cases h2
  · exact h2
theorem lastOf_of {sets : List SetM} {nm : ByteArray} {t : Tr} (h : lastOf sets nm = some t) : ∃ s ∈ sets, s.name = nm ∧ s.val = t := by
  unfold lastOf at h
  rw [Option.map_eq_some_iff] at h
  obtain ⟨s, hs, rfl⟩ := h
  have h1 := List.find?_some hs
  have h2 := List.mem_of_find?_eq_some hs
  simp at h1 h2
  exact ⟨s, h2, h1, rfl⟩
/-- The whole number that a number is. -/
def toI (x : Nat) : Int := (floatToIntVal .f64 x .i64).getD 0
theorem lastOf_snoc (done : List SetM) (s : SetM) (nm : ByteArray) : lastOf (done ++ [s]) nm = if s.name = nm then some s.val else lastOf done nm := by
  unfold lastOf
  simp only [List.reverse_append, List.reverse_cons, List.reverse_nil, List.nil_append, List.singleton_append, List.find?_cons]
  by_cases h : s.name = nm <;> simp [h]
theorem ptr_new (w : World) (a : Addr) (u x : Value) (e : TypeId) : ((w.setCell a u).alloc (.cells #[x] e)).cell? ⟨w.heap.size, 0, none⟩ = some x := by
  have := World.cell?_alloc_new (w.setCell a u) #[x] e 0
  simpa using this
/-- A pointer, with what it leads to. -/
def PtrTo (w : World) (lo : Nat) (f : Tr → Value) (o : Option Tr) (p : Option Addr) : Prop :=
  match o with
  | none => p = none
  | some t => ∃ b, p = some ⟨b, 0, none⟩ ∧ lo ≤ b ∧ w.cell? ⟨b, 0, none⟩ = some (f t)
/-- Under way: the entries 'ts' have been told, of i pieces. -/
structure SrcRel (w0 : World) (name : ByteArray) (ts : List (ByteArray × Tr)) (i : Nat) (wr : World) : Prop where
  sz : w0.heap.size + 2 ≤ wr.heap.size
  map : ∃ n es, wr.ownsMap Tryz.prog 9 R9 (w0.heap.size + 1) n (dput es) ∧ n ≤ i ∧ EntriesOK wr (fun b => w0.heap.size + 2 ≤ b) es ts
  outer : ∃ n, wr.ownsMap Tryz.prog 9 R9 w0.heap.size n (dput [(name, .iface 122 (.map (some (w0.heap.size + 1))))])
  bel : Below w0.heap.size w0 wr
theorem SrcRel.skip {w0 wr : World} {name : ByteArray} {ts ts' : List (ByteArray × Tr)} {i : Nat} (r : SrcRel w0 name ts i wr) (h : ts' = ts) : SrcRel w0 name ts' (i + 1) wr := by
  subst h
  obtain ⟨n, es, h1, h2, h3⟩ := r.map
  exact ⟨r.sz, ⟨n, es, h1, by omega, h3⟩, r.outer, r.bel⟩
theorem SrcRel.put {w0 wr w1 : World} {name : ByteArray} {i n : Nat} {ts : List (ByteArray × Tr)} (r : SrcRel w0 name ts i wr) {es : List (ByteArray × Value)} {k : ByteArray} {v : Value} {t : Tr} (hn : n ≤ i) (hes : EntriesOK wr (fun b => w0.heap.size + 2 ≤ b) es ts)
    (hown : w1.ownsMap Tryz.prog 9 R9 (w0.heap.size + 1) (n + 1) ((dput es).put (.string k.data.toList) (.held v))) (hg : wr.grownBy w1 (some (w0.heap.size + 1))) (hv : AnyAt wr (fun b => w0.heap.size + 2 ≤ b) v t) {ts' : List (ByteArray × Tr)} (hts : ts' = ts ++ [(k, t)]) :
    SrcRel w0 name ts' (i + 1) w1 := by
  subst hts
  have hk : Keeps (fun b => w0.heap.size + 2 ≤ b) wr w1 := fun b hb hlt => hg.block b hlt (fun e => by injection e with e; omega)
  exact ⟨Nat.le_trans r.sz hg.size, ⟨n + 1, es ++ [(k, v)], by rw [dput_snoc]; exact hown, by omega, (hes.snoc k hv).keep hk⟩, (let ⟨n0, h0⟩ := r.outer; ⟨n0, h0.kept hg (by simp)⟩), r.bel.grown hg r.bel.size (fun k hk => by injection hk with hk; omega)⟩
theorem SrcRel.below {w0 wr w' : World} {name : ByteArray} {ts : List (ByteArray × Tr)} {i : Nat} (r : SrcRel w0 name ts i wr) (hb : Below wr.heap.size wr w') : SrcRel w0 name ts i w' := by
  obtain ⟨n, es, h1, h2, h3⟩ := r.map
  obtain ⟨n0, h0⟩ := r.outer
  exact ⟨Nat.le_trans r.sz hb.size, ⟨n, es, h1.kept (Below.grow hb) (by simp), h2, h3.keep (Keeps.of_below _ hb)⟩, ⟨n0, h0.kept (Below.grow hb) (by simp)⟩, via r.bel hb⟩
/-- At the end: what is handed back. -/
theorem SrcRel.any {w0 wr : World} {name : ByteArray} {ts : List (ByteArray × Tr)} {i : Nat} (r : SrcRel w0 name ts i wr) (hd : (ts.map (·.1)).Nodup) (hl : ts.length ≤ 4294967296) : AnyAt wr (fun _ => True) (.iface 122 (.map (some w0.heap.size))) (mapTree [(name, mapTree ts)]) := by
  obtain ⟨n, es, h1, h2, h3⟩ := r.map
  obtain ⟨n0, h0⟩ := r.outer
  have hin : AnyAt wr (fun _ => True) (.iface 122 (.map (some (w0.heap.size + 1)))) (mapTree ts) := by
    refine map_any trivial h1 ?_ (by rw [h3.1]; exact hd) ⟨h3.1, fun i e t a b => (h3.2 i e t a b).mono (fun _ _ _ => trivial)⟩
    have := congrArg List.length h3.1
    simp only [List.length_map] at this
    omega
  exact map_any trivial h0 (by simp) (by simp) ((EntriesOK.nil _ _).snoc name hin)
theorem key_of (l : List UInt8) (h : l.length ≤ 1000) : keyOf Tryz.prog 9 (.string ⟨l.toArray⟩) = some (.string l) := by
  have := Go.WideMaps.keyOf_string_mk (P := Tryz.prog) (k := 9) Tryz.underlying9 (s := ⟨l.toArray⟩) (by
    have h1 : (ByteArray.mk l.toArray).size = l.length := by simp [ByteArray.size]
    rw [h1]; unfold maxLen; omega)
  simpa using this
def n_boost : ByteArray := ⟨#[98, 111, 111, 115, 116]⟩
def n_minimum_should_match : ByteArray := ⟨#[109, 105, 110, 105, 109, 117, 109, 95, 115, 104, 111, 117, 108, 100, 95, 109, 97, 116, 99, 104]⟩
def n__name : ByteArray := ⟨#[95, 110, 97, 109, 101]⟩
end Go.Proofs.YtbcnhcpgloncdaaGreatDoor
/- 'Query', 'Queries'; 'fit' of queries. -/
namespace Go.Proofs.YtbcnhcpgloncdaaGreatDoor
open Go Go.RowKit Go.BigFrame

def queryT (t : Tr) : Bool := decide (t.kind = 5) && properT 100 t

/-- A slice of trees. -/
def TreesAt (w : World) (S : Nat → Prop) (a : Option Addr) (ts : List Tr) : Prop :=
  ∃ vs : Nat → TV, SliceAt w S a 6 ts.length (fun i => (vs i).cells) ∧ ∀ i k, ts[i]? = some k → RepT w S (vs i) k
theorem TreesAt.keep {w w' : World} {S : Nat → Prop} {a : Option Addr} {ts : List Tr} (h : TreesAt w S a ts) (hk : Keeps S w w') : TreesAt w' S a ts := by
  obtain ⟨vs, h1, h2⟩ := h
  exact ⟨vs, h1.keep (fun _ => by simp) hk, fun i s hs => (h2 i s hs).keep hk⟩
theorem TreesAt.cells {w : World} {S : Nat → Prop} {a : Option Addr} {ts : List Tr} (h : TreesAt w S a ts) {k : Nat} (hk : k < ts.length) :
    ∃ b o v, a = some ⟨b, o, none⟩ ∧ S b ∧ b < w.heap.size ∧ CellsT w b (o + k * 6) v ∧ RepT w S v ts[k] := by
  obtain ⟨vs, h1, h2⟩ := h
  obtain ⟨b, o, e, hS, hr⟩ := h1 (by omega)
  have c0 := hr k hk 0 _ rfl
  exact ⟨b, o, vs k, e, hS, World.block_lt_of_cell? w _ c0, ⟨c0, hr k hk 1 _ rfl, hr k hk 2 _ rfl, hr k hk 3 _ rfl, hr k hk 4 _ rfl, hr k hk 5 _ rfl⟩, h2 k _ (by simp [hk])⟩
theorem RepT.trees {w : World} {S : Nat → Prop} {v : TV} {t : Tr} (h : RepT w S v t) : TreesAt w S v.ca t.kids := by
  cases h with
  | mk _ _ vs h0 h1 h2 h3 h4 hkn hks hcn hcs hr => exact ⟨vs, hcs, hr⟩

set_option maxRecDepth 100000 in
theorem query_any (t : Tr) (v : TV) (S : Nat → Prop) (w : World) (hv : RepT w S v t) :
    Calls Tryz.prog 20 #[v.val] w fun e w' => e = .returned (.bool (queryT t)) ∧ Below w.heap.size w w' := by
  have h1 := hv.eqs.1
  obtain ⟨kind, text, num, yes, ka, kn, kc, ca, cn, cc⟩ := v
  simp only at h1
  have hb := (Below.refl w.heap.size w).alloc (Nat.le_refl _) (.cells #[.int .i64 kind, .string text, .float .f64 num, .bool yes, .slice ka kn kc, .slice ca cn cc] 31)
  have hp := proper_any 100 t _ S _ (by omega) (hv.keep (Keeps.of_below S hb))
  have Hp := Lib.hid hp; clear hp hv
  by_cases hk : kind = 5
  · have hq : queryT t = properT 100 t := by unfold queryT; rw [← h1, hk]; rfl
    rw [hq]
    subst hk
    clear hq h1
    generalize properT 100 t = r at *
    go_enter Tryz.func20, Tryz.ntmps20
    go_wp2_with fail
    refine Hp.out.mono ?_
    rintro e w' ⟨rfl, hb'⟩
    go_wp2_with fail
    go_ret
    exact ⟨by simp, via hb hb'⟩
  · have hq : queryT t = false := by unfold queryT; rw [← h1]; simp [hk]
    rw [hq]
    have hk' : (kind == 5) = false := by rw [beq_eq_false_iff_ne]; exact hk
    clear hq h1 Hp hk
    go_enter Tryz.func20, Tryz.ntmps20
    go_wp2_with fail
    go_ret
    exact ⟨by simp, hb⟩

def queriesT (ts : List Tr) : Bool := ts.all queryT && decide (0 < ts.length)
set_option maxRecDepth 100000 in
set_option maxHeartbeats 2000000 in
theorem queries_any (ts : List Tr) (S : Nat → Prop) (a : Option Addr) (c : Nat) (w : World) (hts : TreesAt w S a ts) (hl : ts.length ≤ 9223372036854775807) :
    Calls Tryz.prog 6 #[.slice a ts.length c] w fun e w' => e = .returned (.bool (queriesT ts)) ∧ Below w.heap.size w w' := by
  have Hts := Lib.hid hts; clear hts
  go_enter Tryz.func6, Tryz.ntmps6
  go_wp2_with fail
  go_loopw [3] (fun i wr => ∃ k : Nat, k ≤ ts.length ∧ i = .int .i64 k ∧ (ts.take k).all queryT = true ∧ Below w.heap.size w wr) (fun i _ => ts.length - (intOf i).toNat)
  case atStart => exact ⟨0, Nat.zero_le _, rfl, by simp, Below.refl _ _⟩
  case round =>
    obtain ⟨k, hk, rfl, hall, hbel⟩ := hrel
    have Hall := Lib.hid hall; clear hall
    by_cases hlt : k < ts.length
    · obtain ⟨b, o, v, hca, hSb, hlb, ⟨c0, c1, c2, c3, c4, c5⟩, hv⟩ := (Hts.out.keep (Keeps.of_below S hbel)).cells (k := k) hlt
      subst hca
      have hq := query_any ts[k] v S wr hv
      have Htake : Hid ((ts.take (k + 1)).all queryT = queryT ts[k]) := Lib.hid (by rw [List.take_succ_eq_append_getElem hlt, List.all_append, Hall.out]; simp)
      have Hno : Hid (queryT ts[k] = false → queriesT ts = false) := Lib.hid (fun h => by
        unfold queriesT
        rw [Bool.and_eq_false_iff, List.all_eq_false]
        exact .inl ⟨ts[k], by simp, by simp [h]⟩)
      generalize ts[k] = t at *
      obtain ⟨kind, text, num, yes, ka, kn, kc, ca, cn, cc⟩ := v
      simp only at c0 c1 c2 c3 c4 c5
      clear hv
      have hi1 : (0 : Int) ≤ (k : Int) := by omega
      have hi2 : (k : Int) < (ts.length : Int) := by omega
      have Hbel := Lib.hid hbel; clear hbel
      cases hqt : queryT t with
      | false =>
        rw [hqt] at hq
        have Hq := Lib.hid hq; clear hq
        have Hno' := Lib.hid (Hno.out hqt); clear Hno Htake hqt
        go_wp2_with fail
        refine Hq.out.mono ?_
        rintro e w' ⟨rfl, hb⟩
        go_wp2_with fail
        go_ret
        exact ⟨by rw [Hno'.out]; simp, via Hbel.out hb⟩
      | true =>
        rw [hqt] at hq
        have Hq := Lib.hid hq; clear hq
        have Htake' := Lib.hid (Htake.out.trans hqt); clear Hno Htake hqt
        go_wp2_with fail
        refine Hq.out.mono ?_
        rintro e w' ⟨rfl, hb⟩
        go_wp2_with fail
        go_roundw
        case rel => exact ⟨k + 1, by omega, by simp, Htake'.out, via Hbel.out hb⟩
        case measure => simp [intOf]; omega
    · obtain rfl : k = ts.length := by omega
      have Hbel := Lib.hid hbel; clear hbel
      go_wp2_with fail
      go_ret
      refine ⟨?_, Hbel.out⟩
      have := Hall.out
      rw [List.take_length] at this
      unfold queriesT
      rw [this]; simp

/-- Is a tree one query, or a list of them? -/
def queryishT (t : Tr) : Bool := queryT t || (decide (t.kind = 4) && queriesT t.kids)
set_option maxRecDepth 100000 in
set_option maxHeartbeats 2000000 in
theorem fit_q (t : Tr) (v : TV) (S : Nat → Prop) (w : World) (hv : RepT w S v t) : Calls Tryz.prog 26 #[.string ⟨#[113]⟩, v.val] w fun e w' => e = .returned (.bool (queryishT t)) ∧ Below w.heap.size w w' := by
  obtain ⟨h1, h2, h3, h4, h5, h6⟩ := hv.eqs
  clear h2 h3 h4 h5
  have hbd := hv.bounds.2.2
  obtain ⟨kind, text, num, yes, ka, kn, kc, ca, cn, cc⟩ := v
  simp only at h1 h6
  have hb := (Below.refl w.heap.size w).alloc (Nat.le_refl _) (.cells #[.int .i64 kind, .string text, .float .f64 num, .bool yes, .slice ka kn kc, .slice ca cn cc] 31)
  have hbox := heap_alloc_new w (.cells #[.int .i64 kind, .string text, .float .f64 num, .bool yes, .slice ka kn kc, .slice ca cn cc] 31)
  have hq := query_any t _ S _ (hv.keep (Keeps.of_below S hb))
  have hqs := fun w' (hb' : Below (w.alloc (.cells #[.int .i64 kind, .string text, .float .f64 num, .bool yes, .slice ka kn kc, .slice ca cn cc] 31)).heap.size (w.alloc (.cells #[.int .i64 kind, .string text, .float .f64 num, .bool yes, .slice ka kn kc, .slice ca cn cc] 31)) w') =>
    queries_any t.kids S ca cc w' ((hv.trees.keep (Keeps.of_below S hb)).keep (Keeps.of_below S hb')) hbd
  rw [← h6] at hqs
  have Hqs := Lib.hid hqs; clear hqs hv
  have hk4 : queryT t = true → kind = 5 := by
    intro h
    unfold queryT at h
    rw [Bool.and_eq_true] at h
    rw [h1]; simpa using h.1
  have Hb := Lib.hid hb; clear hb
  have Hbox := Lib.hid hbox; clear hbox
  cases hqt : queryT t with
  | true =>
    have hr : queryishT t = true := by unfold queryishT; rw [hqt]; rfl
    rw [hqt] at hq
    rw [hr]
    have Hq := Lib.hid hq; clear hq hr hk4 hqt h1 h6
    go_enter Tryz.func26, Tryz.ntmps26
    go_wp2_with fail
    refine Hq.out.mono ?_
    rintro e w' ⟨rfl, hb'⟩
    go_wp2_with fail
    go_ret
    exact ⟨by simp, via Hb.out hb'⟩
  | false =>
    rw [hqt] at hq
    have Hq := Lib.hid hq; clear hq hk4
    by_cases hk : kind = 4
    · have hr : queryishT t = queriesT t.kids := by unfold queryishT; rw [hqt, ← h1, hk]; rfl
      rw [hr]
      subst hk
      clear hr hqt h1 h6
      generalize queriesT t.kids = r at *
      go_enter Tryz.func26, Tryz.ntmps26
      go_wp2_with fail
      refine Hq.out.mono ?_
      rintro e w' ⟨rfl, hb'⟩
      have hx := (hb'.block w.heap.size (by simp)).trans Hbox.out
      have b0 : w'.cell? ⟨w.heap.size, 0, none⟩ = some (.int .i64 4) := by simp [World.cell?, hx]
      have b5 : w'.cell? ⟨w.heap.size, 5, none⟩ = some (.slice ca cn cc) := by simp [World.cell?, hx]
      have hc := Hqs.out w' hb'
      have Hc := Lib.hid hc; clear hc hx Hqs
      have Hb' := Lib.hid hb'; clear hb'
      go_wp2_with fail
      refine Hc.out.mono ?_
      rintro e w2 ⟨rfl, hb2⟩
      go_wp2_with fail
      go_ret
      exact ⟨by simp, via (via Hb.out Hb'.out) hb2⟩
    · have hr : queryishT t = false := by unfold queryishT; rw [hqt, ← h1]; simp [hk]
      rw [hr]
      have hk' : (kind == 4) = false := by rw [beq_eq_false_iff_ne]; exact hk
      clear hr hqt h1 h6 hk Hqs
      go_enter Tryz.func26, Tryz.ntmps26
      go_wp2_with fail
      refine Hq.out.mono ?_
      rintro e w' ⟨rfl, hb'⟩
      have hx := (hb'.block w.heap.size (by simp)).trans Hbox.out
      have b0 : w'.cell? ⟨w.heap.size, 0, none⟩ = some (.int .i64 kind) := by simp [World.cell?, hx]
      have Hb' := Lib.hid hb'; clear hb' hx
      go_wp2_with fail
      go_ret
      exact ⟨by simp, via Hb.out Hb'.out⟩

/-- Is a tree of a kind? -/
def fitQ (kd : ByteArray) (t : Tr) : Bool := if kd = kQ then queryishT t else fitK kd t
theorem fitQ_any (kd : ByteArray) (hk : kd ∈ [kQ, kT, kN, kB, kV, kW, kF, ⟨#[]⟩]) (t : Tr) (v : TV) (S : Nat → Prop) (w : World) (h : RepT w S v t) :
    Calls Tryz.prog 26 #[.string kd, v.val] w fun e w' => e = .returned (.bool (fitQ kd t)) ∧ Below w.heap.size w w' := by
  unfold fitQ
  by_cases hq : kd = kQ
  · rw [if_pos hq, hq]
    exact fit_q t v S w h
  · rw [if_neg hq]
    exact fitK_any kd (by simpa [hq] using hk) t v S w h

def fitBool (s : SetM) : Bool := fitQ (kindOf rsBool s.name) s.val
theorem kinds_Bool (name : ByteArray) : kindOf rsBool name ∈ [kQ, kT, kN, kB, kV, kW, kF, ⟨#[]⟩] := kindOf_mem _ _ (by decide +kernel) (by simp) _
theorem fits_Bool (sets : List SetM) (S : Nat → Prop) (a : Option Addr) (c : Nat) (w : World) (hsets : SetsAt w S a sets) (hl : sets.length ≤ 9223372036854775807) :
    Calls Tryz.prog 8 #[.string ⟨#[66, 111, 111, 108]⟩, .slice a sets.length c] w fun e w' => e = .returned (.bool (sets.all fitBool)) ∧ Below w.heap.size w w' :=
  fits_any _ rsBool fitBool sets S a c w hsets hl kindIn_Bool (fun s _ v S w h => fitQ_any _ (kinds_Bool s.name) s.val v S w h)
end Go.Proofs.YtbcnhcpgloncdaaGreatDoor
