/- 'ScoresFit': whether score functions are as told. -/
import Derived.Test.YtbcnhcpgloncdaaGreatDoorQKa
import Derived.Test.YtbcnhcpgloncdaaGreatDoorQJt
namespace Go.Proofs.YtbcnhcpgloncdaaGreatDoor
open Go Go.RowKit Go.BigFrame Go.Maps

def badB (s : ScoreM) : Bool := decide (s.kind < 0) || decide (5 < s.kind) || decide (1 < s.filters.length) || !(s.filters.all queryT)
def scoreP (s : ScoreM) : Bool := !badB s && tailB (SK.of s.kind) s
theorem scoreP_fit {s : ScoreM} (h : scoreP s = true) : (∃ k : SK, s.kind = k.num) ∧ scoreFitB (SK.of s.kind) s = true := by
  unfold scoreP badB at h
  rw [Bool.and_eq_true] at h
  obtain ⟨h1, h2⟩ := h
  simp only [Bool.not_eq_true', Bool.or_eq_false_iff, decide_eq_false_iff_not, Bool.not_eq_false'] at h1
  obtain ⟨⟨⟨a1, a2⟩, a3⟩, a4⟩ := h1
  refine ⟨?_, ?_⟩
  · have : s.kind = 0 ∨ s.kind = 1 ∨ s.kind = 2 ∨ s.kind = 3 ∨ s.kind = 4 ∨ s.kind = 5 := by omega
    rcases this with e | e | e | e | e | e
    · exact ⟨.weight, e⟩
    · exact ⟨.exponential, e⟩
    · exact ⟨.gauss, e⟩
    · exact ⟨.linear, e⟩
    · exact ⟨.factor, e⟩
    · exact ⟨.random, e⟩
  · unfold scoreFitB
    rw [a4, h2]
    simp; omega
theorem fitsR_any {k : SK} (hk : k ≠ .weight) (sets : List SetM) (S : Nat → Prop) (a : Option Addr) (c : Nat) (w : World) (hsets : SetsAt w S a sets) (hl : sets.length ≤ 9223372036854775807) :
    Calls Tryz.prog 8 #[.string k.table, .slice a sets.length c] w fun e w' => e = .returned (.bool (sets.all (fitR (rsOf k)))) ∧ Below w.heap.size w w' := by
  have hkin : ∀ name w, Calls Tryz.prog 27 #[.string k.table, .string name] w fun e w' => e = .returned (.string (kindOf (rsOf k) name)) ∧ Below w.heap.size w w' := by
    intro name w
    cases k with
    | weight => exact absurd rfl hk
    | exponential => exact kindIn_Decay name w
    | gauss => exact kindIn_Decay name w
    | linear => exact kindIn_Decay name w
    | factor => exact kindIn_Factor name w
    | random => exact kindIn_Random name w
  have hmem : ∀ name, kindOf (rsOf k) name ∈ [kT, kN, kB, kV, kW, kF, ⟨#[]⟩] := by
    intro name
    cases k with
    | weight => exact absurd rfl hk
    | exponential => exact kindOf_mem rsDecay _ (by decide +kernel) (by simp) name
    | gauss => exact kindOf_mem rsDecay _ (by decide +kernel) (by simp) name
    | linear => exact kindOf_mem rsDecay _ (by decide +kernel) (by simp) name
    | factor => exact kindOf_mem rsFactor _ (by decide +kernel) (by simp) name
    | random => exact kindOf_mem rsRandom _ (by decide +kernel) (by simp) name
  exact fits_any _ (rsOf k) (fitR (rsOf k)) sets S a c w hsets hl hkin (fun s _ v S w h => fitK_any (kindOf (rsOf k) s.name) (hmem s.name) s.val v S w h)
theorem tail_nofit {k : SK} {s : ScoreM} (hk : k ≠ .weight) (h : s.sets.all (fitR (rsOf k)) = false) : tailB k s = false := by
  cases k with
  | weight => exact absurd rfl hk
  | _ => unfold tailB; first | (rw [show s.sets.all (fitR rsDecay) = false from h]; rfl) | (rw [show s.sets.all (fitR rsFactor) = false from h]; rfl) | (rw [show s.sets.all (fitR rsRandom) = false from h]; rfl)
theorem allP_take {fs : List ScoreM} {k : Nat} (hk : k < fs.length) (h : (fs.take k).all scoreP = true) (hs : scoreP fs[k] = true) : (fs.take (k + 1)).all scoreP = true := by
  rw [List.take_succ_eq_append_getElem hk, List.all_append, h]; simp [hs]
theorem allP_no {fs : List ScoreM} {k : Nat} (hk : k < fs.length) (hs : scoreP fs[k] = false) : fs.all scoreP = false := by
  rw [List.all_eq_false]
  exact ⟨fs[k], List.getElem_mem hk, by simp [hs]⟩

set_option maxRecDepth 100000 in
set_option maxHeartbeats 40000000 in
theorem scoresFit_any (fs : List ScoreM) (S : Nat → Prop) (fa : Option Addr) (fc : Nat) (w : World) (hfs : ScoresAt w S fa fs) (hl : fs.length ≤ 1048576) (hsm : ∀ s ∈ fs, s.sets.length ≤ 1048576 ∧ s.filters.length ≤ 1048576 ∧ s.field.size ≤ 1048576) :
    Calls Tryz.prog 7 #[.slice fa fs.length fc] w fun e w' => e = .returned (.bool (fs.all scoreP)) ∧ Below w.heap.size w w' := by
  have Hfs := Lib.hid hfs; clear hfs
  have Hsm := Lib.hid hsm; clear hsm
  go_enter Tryz.func7, Tryz.ntmps7
  go_wp2_with fail
  go_loopw [3] (fun i wr => ∃ k : Nat, k ≤ fs.length ∧ i = .int .i64 k ∧ (fs.take k).all scoreP = true ∧ Below w.heap.size w wr) (fun i _ => fs.length - (intOf i).toNat)
  case atStart => exact ⟨0, Nat.zero_le _, rfl, by simp, Below.refl _ _⟩
  case round =>
    obtain ⟨k, hk, rfl, hal, hbel⟩ := hrel
    by_cases hlt : k < fs.length
    · obtain ⟨b', o, ⟨sa, sc, ga, gc⟩, hca, hSb, hlb, c0, c1, c2, c3, c4, hst, hft⟩ := (Hfs.out.keep (Keeps.of_below S hbel)).at (k := k) hlt
      subst hca
      simp only at c0 c1 c2 c3 c4 hst hft
      have HY : Hid (scoreP fs[k] = true → (fs.take (k + 1)).all scoreP = true) := Lib.hid (allP_take hlt hal)
      have HN : Hid (scoreP fs[k] = false → fs.all scoreP = false) := Lib.hid (allP_no hlt)
      obtain ⟨hsl, hgl, hfd⟩ := Hsm.out fs[k] (List.getElem_mem hlt)
      clear hal
      generalize fs[k] = s at *
      obtain ⟨nf, hnf⟩ : ∃ n, n = s.filters.length := ⟨_, rfl⟩
      rw [← hnf] at c4 hgl
      have Hnf := Lib.hid hnf; clear hnf
      have Hst := Lib.hid hst; clear hst
      have Hft := Lib.hid hft; clear hft
      have Hbel := Lib.hid hbel; clear hbel hSb
      have hi1 : (0 : Int) ≤ (k : Int) := by omega
      have hi2 : (k : Int) < (fs.length : Int) := by omega
      obtain ⟨bad, hbad⟩ : ∃ b, b = badB s := ⟨_, rfl⟩
      have hPs : scoreP s = (!bad && tailB (SK.of s.kind) s) := by unfold scoreP; rw [hbad]
      have HPs := Lib.hid hPs; clear hPs
      go_upto_region 5 with fail
      have hb4 : Below wr.heap.size wr (wr.alloc (.cells #[.int .i64 s.kind, .string s.field, .float .f64 s.a, .slice sa s.sets.length sc, .slice ga nf gc] 46)) := (Below.refl _ _).alloc (Nat.le_refl _) _
      have hbx : (wr.alloc (.cells #[.int .i64 s.kind, .string s.field, .float .f64 s.a, .slice sa s.sets.length sc, .slice ga nf gc] 46)).heap[wr.heap.size]? = some (.cells #[.int .i64 s.kind, .string s.field, .float .f64 s.a, .slice sa s.sets.length sc, .slice ga nf gc] 46) := heap_alloc_new wr _
      have hs4 : (wr.alloc (.cells #[.int .i64 s.kind, .string s.field, .float .f64 s.a, .slice sa s.sets.length sc, .slice ga nf gc] 46)).heap.size = wr.heap.size + 1 := by simp
      clear c0 c1 c2 c3 c4
      generalize wr.alloc (.cells #[.int .i64 s.kind, .string s.field, .float .f64 s.a, .slice sa s.sets.length sc, .slice ga nf gc] 46) = w4 at *
      have hlw : wr.heap.size < w4.heap.size := by omega
      clear hs4
      obtain ⟨b0, b1, b2, b3, b4⟩ := cells5 hbx
      have Hb4 := Lib.hid hb4; clear hb4
      have Hbx := Lib.hid hbx; clear hbx
      go_cut [42] from 15 to 41 (fun c wx => c = .bool bad ∧ Below wr.heap.size wr wx ∧ wx.heap[wr.heap.size]? = some (.cells #[.int .i64 s.kind, .string s.field, .float .f64 s.a, .slice sa s.sets.length sc, .slice ga nf gc] 46))
      case first =>
        have HB : Hid (bad = (decide (s.kind < 0) || decide (5 < s.kind) || decide (1 < nf) || !(s.filters.all queryT))) := Lib.hid (by rw [hbad, Hnf.out]; rfl)
        clear hbad
        by_cases hk0 : s.kind < 0
        · have HR : Hid (bad = true) := Lib.hid (by rw [HB.out]; simp [hk0])
          clear HB
          go_wp2_with fail
          go_meet
          case rel => exact ⟨by rw [HR.out], Hb4.out, Hbx.out⟩
        · by_cases hk5 : 5 < s.kind
          · have HR : Hid (bad = true) := Lib.hid (by rw [HB.out]; simp [hk5])
            clear HB
            go_wp2_with fail
            go_meet
            case rel => exact ⟨by rw [HR.out], Hb4.out, Hbx.out⟩
          · by_cases hn1 : 1 < nf
            · have HR : Hid (bad = true) := Lib.hid (by rw [HB.out]; simp [hn1])
              clear HB
              have hn1' : (1 : Int) < (nf : Int) := by omega
              go_wp2_with fail
              go_meet
              case rel => exact ⟨by rw [HR.out], Hb4.out, Hbx.out⟩
            · by_cases hn0 : nf = 0
              · have hfl : s.filters = [] := List.eq_nil_of_length_eq_zero (by rw [← Hnf.out]; exact hn0)
                have HR : Hid (bad = false) := Lib.hid (by rw [HB.out, hfl]; simp [hk0, hk5, hn1])
                subst hn0
                clear HB hfl
                go_wp2_with fail
                go_meet
                case rel => exact ⟨by rw [HR.out], Hb4.out, Hbx.out⟩
              · have h1 : nf = 1 := by omega
                obtain ⟨t, hfl⟩ : ∃ t, s.filters = [t] := by
                  have h := Hnf.out
                  rw [h1] at h
                  exact List.length_eq_one_iff.1 h.symm
                obtain ⟨b2', o2', ⟨kind, text, num, yes, ka, kn, kc, ca, cn, cc⟩, hca, hSb, hlb2, ⟨d0, d1, d2, d3, d4, d5⟩, hv⟩ := (Hft.out.keep (Keeps.of_below S Hb4.out)).cells (k := 0) (by rw [hfl]; simp)
                have ht : s.filters[0]'(by rw [hfl]; simp) = t := by simp [hfl]
                rw [ht] at hv
                simp only [Nat.zero_mul, Nat.add_zero] at d0 d1 d2 d3 d4 d5
                obtain ⟨q, hq⟩ : ∃ q, q = queryT t := ⟨_, rfl⟩
                have HR : Hid (bad = !q) := Lib.hid (by rw [HB.out, hfl, hq]; simp [hk0, hk5, hn1])
                have hqa := query_any t ⟨kind, text, num, yes, ka, kn, kc, ca, cn, cc⟩ S w4 hv
                rw [← hq] at hqa
                have Hqa := Lib.hid hqa; clear hqa hv HB
                clear hfl ht hq
                subst h1 hca
                go_wp2_with (go_at_call 20; refine Hqa.out.mono ?_; rintro e w5 ⟨rfl, hb5⟩)
                go_meet
                case rel => exact ⟨by rw [HR.out], via Hb4.out hb5, (hb5.block _ hlw).trans Hbx.out⟩
      case rest =>
      clear b0 b1 b2 b3 b4 Hb4 Hbx hlw
      obtain ⟨rfl, hb4, hbx⟩ := hcut
      have hkk : bad = false → ∃ kk : SK, s.kind = kk.num := by
        intro h
        rw [h] at hbad
        unfold badB at hbad
        have hb' := hbad.symm
        simp only [Bool.or_eq_false_iff, decide_eq_false_iff_not] at hb'
        obtain ⟨⟨⟨a1, a2⟩, _⟩, _⟩ := hb'
        have : s.kind = 0 ∨ s.kind = 1 ∨ s.kind = 2 ∨ s.kind = 3 ∨ s.kind = 4 ∨ s.kind = 5 := by omega
        rcases this with e | e | e | e | e | e
        · exact ⟨.weight, e⟩
        · exact ⟨.exponential, e⟩
        · exact ⟨.gauss, e⟩
        · exact ⟨.linear, e⟩
        · exact ⟨.factor, e⟩
        · exact ⟨.random, e⟩
      clear hbad
      cases bad with
      | true =>
        have Hn : Hid (fs.all scoreP = false) := Lib.hid (HN.out (by rw [HPs.out]; rfl))
        go_wp2_with fail
        go_ret
        exact ⟨by simp [Hn.out], via Hbel.out hb4⟩
      | false =>
        obtain ⟨kk, hkk⟩ := hkk rfl
        have hPs : scoreP s = tailB kk s := by rw [HPs.out, hkk, SK.of_num]; rfl
        have HY' : Hid (tailB kk s = true → (fs.take (k + 1)).all scoreP = true) := Lib.hid (fun h => HY.out (by rw [hPs]; exact h))
        have HN' : Hid (tailB kk s = false → fs.all scoreP = false) := Lib.hid (fun h => HN.out (by rw [hPs]; exact h))
        clear hPs HPs HY HN
        have hlw : wr.heap.size < wc.heap.size := (Array.getElem?_eq_some_iff.1 hbx).1
        obtain ⟨b0, b1, b2, b3, b4⟩ := cells5 hbx
        rw [hkk] at b0
        have Hkk := Lib.hid hkk
        clear hkk
        have Hb4 := Lib.hid hb4; clear hb4
        have Hbx := Lib.hid hbx; clear hbx
        by_cases hkw : kk = .weight
        · subst hkw
          replace b0 : wc.cell? ⟨wr.heap.size, 0, none⟩ = some (.int .i64 0) := b0
          obtain ⟨f, hf⟩ : ∃ f, f = fin s.a := ⟨_, rfl⟩
          have hfa := finite_any s.a wc
          rw [← hf] at hfa
          have Hfa := Lib.hid hfa; clear hfa
          have Hf := Lib.hid hf; clear hf
          cases f with
          | true =>
            have Hy : Hid ((fs.take (k + 1)).all scoreP = true) := Lib.hid (HY'.out Hf.out.symm)
            go_wp2_with (go_at_call 21; refine Hfa.out.mono ?_; rintro e w5 ⟨rfl, hb5⟩)
            go_roundw
            case rel => first
              | exact ⟨k + 1, by omega, by simp, Hy.out, via Hbel.out (via Hb4.out hb5)⟩
              | ((repeat apply Exists.intro); exact ⟨⟨k + 1, by omega, (show Value.int .i64 ((k : Int) + 1) = Value.int .i64 ((k + 1 : Nat) : Int) by simp), Hy.out, via Hbel.out (via Hb4.out hb5)⟩, rfl⟩)
            case measure => simp [intOf]; omega
          | false =>
            have Hn : Hid (fs.all scoreP = false) := Lib.hid (HN'.out Hf.out.symm)
            go_wp2_with (go_at_call 21; refine Hfa.out.mono ?_; rintro e w5 ⟨rfl, hb5⟩)
            go_ret
            exact ⟨by simp [Hn.out], via Hbel.out (via Hb4.out hb5)⟩
        · have hkn : (kk.num == 0) = false := by cases kk <;> first | exact absurd rfl hkw | rfl
          obtain ⟨ft, hfit⟩ : ∃ f, f = s.sets.all (fitR (rsOf kk)) := ⟨_, rfl⟩
          have h8 : ∀ wx, Below wc.heap.size wc wx → Calls Tryz.prog 8 #[.string kk.table, .slice sa s.sets.length sc] wx fun e w' => e = .returned (.bool ft) ∧ Below wx.heap.size wx w' := by
            intro wx hb
            have h := fitsR_any hkw s.sets S sa sc wx (Hst.out.keep (Keeps.of_below S (via Hb4.out hb))) (by omega)
            rw [← hfit] at h
            exact h
          have H8 := Lib.hid h8; clear h8
          go_upto_region 10 with fail
          go_cut [56] from 50 to 55 (fun c wx => c = .bool (!ft) ∧ Below wr.heap.size wr wx ∧ wx.heap[wr.heap.size]? = some (.cells #[.int .i64 s.kind, .string s.field, .float .f64 s.a, .slice sa s.sets.length sc, .slice ga nf gc] 46))
          case first =>
            clear hfit
            go_region_law (first
              | (go_simp; go_at_call 22; (with_reducible refine (scoreTable_any kk _).mono ?_); rintro e w' ⟨rfl, rfl⟩)
              | (go_simp; go_at_call 8; (with_reducible refine (H8.out _ (by first | exact Below.refl _ _ | exact (Below.refl _ _).drew)).mono ?_); rintro e w5 ⟨rfl, hb5⟩; have hb05 := via (show Below wc.heap.size wc _ by first | exact Below.refl _ _ | exact (Below.refl _ _).drew) hb5))
            all_goals (
              go_wp2_with fail
              go_meet
              case rel => exact ⟨rfl, via Hb4.out hb05, (hb05.block _ hlw).trans Hbx.out⟩)
          case rest =>
          clear b0 b1 b2 b3 b4 Hb4 Hbx hlw H8
          obtain ⟨rfl, hb4, hbx⟩ := hcut
          have hlw : wr.heap.size < wc.heap.size := (Array.getElem?_eq_some_iff.1 hbx).1
          obtain ⟨b0, b1, b2, b3, b4⟩ := cells5 hbx
          rw [Hkk.out] at b0
          cases ft with
          | false =>
            have hno : tailB kk s = false := tail_nofit hkw hfit.symm
            have Hn : Hid (fs.all scoreP = false) := Lib.hid (HN'.out hno)
            clear hno hfit
            go_wp2_with fail
            go_ret
            exact ⟨by simp [Hn.out], via Hbel.out hb4⟩
          | true =>
            have hfr : s.sets.all (fitR (rsOf kk)) = true := hfit.symm
            clear hfit
            have Hb4 := Lib.hid hb4; clear hb4
            have Hbx := Lib.hid hbx; clear hbx
            obtain ⟨fb, hfb⟩ : ∃ f, f = fieldB s.field := ⟨_, rfl⟩
            have h24 := fun wx => field_any s.field wx (by omega)
            rw [← hfb] at h24
            have H24 := Lib.hid h24; clear h24
            by_cases hkr : kk = .random
            · subst hkr
              replace b0 : wc.cell? ⟨wr.heap.size, 0, none⟩ = some (.int .i64 5) := b0
              obtain ⟨isS, his⟩ : ∃ f, f = (lastOf s.sets n_seed).isSome := ⟨_, rfl⟩
              have h23 : ∀ wx, Below wc.heap.size wc wx → Calls Tryz.prog 23 #[.slice sa s.sets.length sc, .string ⟨#[115, 101, 101, 100]⟩] wx fun e w' => e = .returned (.bool isS) ∧ Below wx.heap.size wx w' := by
                intro wx hb
                have h := is_any s.sets n_seed S sa sc wx (Hst.out.keep (Keeps.of_below S (via Hb4.out hb))) (by omega)
                rw [← his] at h
                exact h
              have H23 := Lib.hid h23; clear h23
              have htl : tailB .random s = ((isS == !decide (s.field = ⟨#[]⟩)) && (decide (s.field = ⟨#[]⟩) || fb)) := by
                rw [his, hfb]
                unfold tailB
                rw [show s.sets.all (fitR rsRandom) = true from hfr]
                simp only [Bool.true_and]
              have Htl := Lib.hid htl; clear htl his hfb hfr
              obtain ⟨tb, htb⟩ : ∃ b, b = tailB .random s := ⟨_, rfl⟩
              have Htb := Lib.hid htb; clear htb
              go_upto_region 16 with fail
              go_cut [100] from 83 to 99 (fun c wx => c = .bool (!tb) ∧ Below wr.heap.size wr wx)
              case first =>
                have l1 := fun n : Later wc => n.cell b1
                have l3 := fun n : Later wc => n.cell b3
                clear b0 b1 b2 b3 b4
                by_cases hz : s.field = ⟨#[]⟩
                · have hemp : s.field.toList.isEmpty = true := by rw [bs_isEmpty]; simp [hz]
                  have HT : Hid (tb = !isS) := Lib.hid (by rw [Htb.out, Htl.out]; simp [hz])
                  clear hz Htl Htb
                  cases isS
                  all_goals (
                    refine wp_region_later (by kernel_rfl) (by kernel_rfl) ?_
                    repeat (go_big_quiet_step ((go_at_call 23; exact Calls.later_of (H23.out _ (Later.ok _)))))
                    refine wpQuiet_nil ?_
                    intro _ hw'
                    obtain ⟨nq, rfl⟩ := hw'
                    go_wp2_with fail
                    go_meet
                    case rel => exact ⟨by rw [HT.out]; rfl, via Hb4.out nq.ok⟩)
                · have hemp : s.field.toList.isEmpty = false := by rw [bs_isEmpty]; simp [hz]
                  have HT : Hid (tb = (isS && fb)) := Lib.hid (by rw [Htb.out, Htl.out]; simp [hz])
                  clear hz Htl Htb
                  cases isS <;> cases fb
                  all_goals (
                    refine wp_region_later (by kernel_rfl) (by kernel_rfl) ?_
                    repeat (go_big_quiet_step (first | (go_at_call 23; exact Calls.later_of (H23.out _ (Later.ok _))) | (go_at_call 24; exact Calls.later_of (H24.out _))))
                    refine wpQuiet_nil ?_
                    intro _ hw'
                    obtain ⟨nq, rfl⟩ := hw'
                    go_wp2_with fail
                    go_meet
                    case rel => exact ⟨by rw [HT.out]; rfl, via Hb4.out nq.ok⟩)
              case rest =>
              clear b0 b1 b2 b3 b4 Hb4 Hbx H23 H24 hlw
              obtain ⟨rfl, hb4⟩ := hcut
              cases tb with
              | false =>
                have Hn : Hid (fs.all scoreP = false) := Lib.hid (HN'.out Htb.out.symm)
                go_wp2_with fail
                go_ret
                exact ⟨by simp [Hn.out], via Hbel.out hb4⟩
              | true =>
                have Hy : Hid ((fs.take (k + 1)).all scoreP = true) := Lib.hid (HY'.out Htb.out.symm)
                go_wp2_with fail
                go_roundw
                case rel => first
                  | exact ⟨k + 1, by omega, by simp, Hy.out, via Hbel.out hb4⟩
                  | ((repeat apply Exists.intro); exact ⟨⟨k + 1, by omega, (show Value.int .i64 ((k : Int) + 1) = Value.int .i64 ((k + 1 : Nat) : Int) by simp), Hy.out, via Hbel.out hb4⟩, rfl⟩)
                case measure => simp [intOf]; omega
            · by_cases hkf : kk = .factor
              · subst hkf
                replace b0 : wc.cell? ⟨wr.heap.size, 0, none⟩ = some (.int .i64 4) := b0
                have htl : tailB .factor s = fb := by
                  rw [hfb]
                  unfold tailB
                  rw [show s.sets.all (fitR rsFactor) = true from hfr]
                  simp only [Bool.true_and]
                have Htl := Lib.hid htl; clear htl hfb hfr
                cases fb with
                | false =>
                  have Hn : Hid (fs.all scoreP = false) := Lib.hid (HN'.out Htl.out)
                  go_wp2_with (go_at_call 24; refine (H24.out _).mono ?_; rintro e w5 ⟨rfl, hb5⟩)
                  go_ret
                  exact ⟨by simp [Hn.out], via Hbel.out (via Hb4.out hb5)⟩
                | true =>
                  have Hy : Hid ((fs.take (k + 1)).all scoreP = true) := Lib.hid (HY'.out Htl.out)
                  go_wp2_with (go_at_call 24; refine (H24.out _).mono ?_; rintro e w5 ⟨rfl, hb5⟩)
                  go_roundw
                  case rel => first
                    | exact ⟨k + 1, by omega, by simp, Hy.out, via Hbel.out (via Hb4.out hb5)⟩
                    | ((repeat apply Exists.intro); exact ⟨⟨k + 1, by omega, (show Value.int .i64 ((k : Int) + 1) = Value.int .i64 ((k + 1 : Nat) : Int) by simp), Hy.out, via Hbel.out (via Hb4.out hb5)⟩, rfl⟩)
                  case measure => simp [intOf]; omega
              · have hk4 : (kk.num == 4) = false := by cases kk <;> first | exact absurd rfl hkf | rfl
                have hk5 : (kk.num == 5) = false := by cases kk <;> first | exact absurd rfl hkr | rfl
                have hkd : rsOf kk = rsDecay := by cases kk <;> first | exact absurd rfl hkw | exact absurd rfl hkf | exact absurd rfl hkr | rfl
                obtain ⟨io, hio⟩ : ∃ f, f = (lastOf s.sets n_origin).isSome := ⟨_, rfl⟩
                obtain ⟨isc, hisc⟩ : ∃ f, f = (lastOf s.sets n_scale).isSome := ⟨_, rfl⟩
                obtain ⟨dc, hdc⟩ : ∃ f, f = s.sets.all decT := ⟨_, rfl⟩
                have hset := fun wx (hb : Below wc.heap.size wc wx) => Hst.out.keep (Keeps.of_below S (via Hb4.out hb))
                have h23o : ∀ wx, Below wc.heap.size wc wx → Calls Tryz.prog 23 #[.slice sa s.sets.length sc, .string ⟨#[111, 114, 105, 103, 105, 110]⟩] wx fun e w' => e = .returned (.bool io) ∧ Below wx.heap.size wx w' := by
                  intro wx hb
                  have h := is_any s.sets n_origin S sa sc wx (hset wx hb) (by omega)
                  rw [← hio] at h
                  exact h
                have h23s : ∀ wx, Below wc.heap.size wc wx → Calls Tryz.prog 23 #[.slice sa s.sets.length sc, .string ⟨#[115, 99, 97, 108, 101]⟩] wx fun e w' => e = .returned (.bool isc) ∧ Below wx.heap.size wx w' := by
                  intro wx hb
                  have h := is_any s.sets n_scale S sa sc wx (hset wx hb) (by omega)
                  rw [← hisc] at h
                  exact h
                have h25 : ∀ wx, Below wc.heap.size wc wx → Calls Tryz.prog 25 #[.slice sa s.sets.length sc] wx fun e w' => e = .returned (.bool dc) ∧ wx = w' := by
                  intro wx hb
                  have h := decays_any s.sets S sa sc wx (hset wx hb) (by omega)
                  rw [← hdc] at h
                  exact h
                have htl : tailB kk s = (fb && io && isc && dc) := by
                  rw [hfb, hio, hisc, hdc]
                  have h' : s.sets.all (fitR rsDecay) = true := by rw [← hkd]; exact hfr
                  cases kk with
                  | weight => exact absurd rfl hkw
                  | factor => exact absurd rfl hkf
                  | random => exact absurd rfl hkr
                  | _ => (unfold tailB; rw [h', Bool.true_and])
                have H23o := Lib.hid h23o; clear h23o
                have H23s := Lib.hid h23s; clear h23s
                have H25 := Lib.hid h25; clear h25 hset
                have Htl := Lib.hid htl; clear htl hfb hfr hio hisc hdc hkd
                obtain ⟨tb, htb⟩ : ∃ b, b = tailB kk s := ⟨_, rfl⟩
                have Htb := Lib.hid htb; clear htb
                have HT : Hid (tb = (fb && io && isc && dc)) := Lib.hid (by rw [Htb.out, Htl.out])
                clear Htl
                go_upto_region 13 with fail
                go_cut [80] from 59 to 79 (fun c wx => c = .bool (!tb) ∧ Below wr.heap.size wr wx)
                case first =>
                  clear Htb
                  cases fb with
                  | false =>
                    go_wp2_with (go_at_call 24; refine (H24.out _).mono ?_; rintro e w5 ⟨rfl, hb5⟩)
                    go_meet
                    case rel => exact ⟨by rw [HT.out]; rfl, via Hb4.out hb5⟩
                  | true =>
                    cases io with
                    | false =>
                      go_wp2_with (first
                        | (go_at_call 24; refine (H24.out _).mono ?_; rintro e w5 ⟨rfl, hb5⟩; obtain ⟨y0, y1, y2, y3, y4⟩ := cells5 ((hb5.block _ hlw).trans Hbx.out))
                        | (go_at_call 23; (with_reducible refine (H23o.out _ hb5).mono ?_); rintro e w6 ⟨rfl, hb6⟩))
                      go_meet
                      case rel => exact ⟨by rw [HT.out]; rfl, via (via Hb4.out hb5) hb6⟩
                    | true =>
                      cases isc
                      all_goals (
                      go_wp2_with (first
                        | (go_at_call 24; refine (H24.out _).mono ?_; rintro e w5 ⟨rfl, hb5⟩; obtain ⟨y0, y1, y2, y3, y4⟩ := cells5 ((hb5.block _ hlw).trans Hbx.out))
                        | (go_at_call 23; (with_reducible refine (H23o.out _ hb5).mono ?_); rintro e w6 ⟨rfl, hb6⟩; have hb56 := via hb5 hb6; obtain ⟨u0, u1, u2, u3, u4⟩ := cells5 ((hb56.block _ hlw).trans Hbx.out))
                        | (go_at_call 23; (with_reducible refine (H23s.out _ hb56).mono ?_); rintro e w7 ⟨rfl, hb7⟩; have hb57 := via hb56 hb7; obtain ⟨v0, v1, v2, v3, v4⟩ := cells5 ((hb57.block _ hlw).trans Hbx.out))
                        | (go_at_call 25; (with_reducible refine (H25.out _ hb57).mono ?_); rintro e w8 ⟨rfl, rfl⟩))
                      go_meet
                      case rel => exact ⟨by rw [HT.out]; first | rfl | simp, via Hb4.out hb57⟩)
                case rest =>
                clear b0 b1 b2 b3 b4 Hb4 Hbx H23o H23s H24 H25 hlw
                obtain ⟨rfl, hb4⟩ := hcut
                cases tb with
                | false =>
                  have Hn : Hid (fs.all scoreP = false) := Lib.hid (HN'.out Htb.out.symm)
                  go_wp2_with fail
                  go_ret
                  exact ⟨by simp [Hn.out], via Hbel.out hb4⟩
                | true =>
                  have Hy : Hid ((fs.take (k + 1)).all scoreP = true) := Lib.hid (HY'.out Htb.out.symm)
                  go_wp2_with fail
                  go_roundw
                  case rel => first
                    | exact ⟨k + 1, by omega, by simp, Hy.out, via Hbel.out hb4⟩
                    | ((repeat apply Exists.intro); exact ⟨⟨k + 1, by omega, (show Value.int .i64 ((k : Int) + 1) = Value.int .i64 ((k + 1 : Nat) : Int) by simp), Hy.out, via Hbel.out hb4⟩, rfl⟩)
                  case measure => simp [intOf]; omega
    · obtain rfl : fs.length = k := by omega
      rw [List.take_length] at hal
      have Hal := Lib.hid hal; clear hal
      go_wp2_with fail
      go_ret
      exact ⟨by simp [Hal.out], hbel⟩
end Go.Proofs.YtbcnhcpgloncdaaGreatDoor
