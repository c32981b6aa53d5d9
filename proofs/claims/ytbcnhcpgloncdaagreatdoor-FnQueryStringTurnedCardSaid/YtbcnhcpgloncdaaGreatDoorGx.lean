/- FormatFloat's parts: 'fixedWidthFloat'. -/
import Derived.Test.YtbcnhcpgloncdaaGreatDoorGw
import Derived.WalkSmall
namespace Go.Proofs.YtbcnhcpgloncdaaGreatDoor
open Go Go.RowKit Go.BigFrame

theorem gTens : Tryz.prog.globalNamed "internal/strconv.uint64pow10" = some 1 := by kernel_rfl

theorem FTabs.below {w w' : World} (h : FTabs w) (hb : Below w.heap.size w w') : FTabs w' := by
  have hc := (bcell hb).1
  have hz := h.big
  exact ⟨(hc 0 0 (by omega)).trans h.opt, (hc 3 708 (by omega)).trans h.h6, (hc 3 709 (by omega)).trans h.l6, (hc 3 710 (by omega)).trans h.h7, (hc 3 711 (by omega)).trans h.l7, var?_below hb gTens (by omega) h.tens, Nat.le_trans hz hb.size⟩

theorem FTabs.ten {w : World} (h : FTabs w) (n : Nat) (hn : n < 20) : w.cell? ⟨1, n, none⟩ = some (.int .u64 ((10 ^ n : Nat) : Int)) := by
  have := h.tens.cell gTens n (by simpa [Lib.pow10Tab] using hn)
  simpa [Lib.pow10Tab, hn] using this

/-- What 'fixedWidthFloat' gives. -/
def fxU (m p s : Nat) : Int := usc (mulHi m (pHi p)) (mulLo m (pHi p)) (mulHi m 0) s
def fxBig (m n p s : Nat) : Bool := decide (unmin ((10 : Int) ^ n) ≤ fxU m p s)
def fxD (m n p s : Nat) : Int := if p = 6 ∧ fxBig m n p s = false then rnd (fxU m p s) else rnd (dv (fxU m p s))
def fxP (m n p s : Nat) : Int := if p = 6 ∧ fxBig m n p s = true then -5 else -6

set_option maxRecDepth 100000 in
set_option maxHeartbeats 1000000 in
theorem fixed_any (m : Nat) (hm : m < 18446744073709551616) (e : Int) (n p s : Nat) (he0 : -69 ≤ e) (he1 : e ≤ -54) (hn0 : 6 ≤ n) (hn1 : n ≤ 10) (hp : p = 6 ∨ p = 7) (L : Int) (hL : l10 (e + 63) = L) (hLp : (n : Int) - 1 - L = p)
    (hs : wrap64 (-(wrap64 (wrap64 (e + l2 p) + 3))) = s) (hs64 : s < 64) (w : World) (ht : FTabs w) :
    Calls Tryz.prog 194 #[.int .u64 m, .int .i64 e, .int .i64 n, .int .i64 6, .int .u8 102] w fun e w' => e = .returned (.tuple #[.int .u64 (fxD m n p s), .int .i64 (fxP m n p s)]) ∧ Below w.heap.size w w' := by
  have hl := fun w => l10_any (e + 63) w
  rw [hL] at hl
  have Hl := Lib.hid hl; clear hl
  have hH : pHi p < 18446744073709551616 := by unfold pHi; split <;> decide
  have hus := fun w b => uscale_any m (pHi p) 0 s hm hH (by decide) hs64 w b
  have Hus := Lib.hid hus; clear hus
  have Ht := Lib.hid ht; clear ht
  have Hs := Lib.hid hs; clear hs hm hH hs64
  obtain ⟨D, hD⟩ : ∃ D, D = fxD m n p s := ⟨_, rfl⟩
  obtain ⟨P, hP⟩ : ∃ P, P = fxP m n p s := ⟨_, rfl⟩
  rw [← hD, ← hP]
  unfold fxD fxBig fxU at hD
  unfold fxP fxBig fxU at hP
  have HD := Lib.hid hD; clear hD
  have HP := Lib.hid hP; clear hP
  go_enter Tryz.func194, Tryz.ntmps194
  go_wp2_with fail
  refine (Hl.out _).mono ?_
  rintro e1 w1 ⟨rfl, rfl⟩
  go_wp2_with fail
  refine (l2_any _ _).mono ?_
  rintro e1 w' ⟨rfl, rfl⟩
  go_wp2_with fail
  have hb1 := (Below.refl w1.heap.size w1).alloc (Nat.le_refl _) (.cells #[.int .u64 0, .int .u64 0, .int .i64 0] 256)
  refine (prescale_any e p (l2 p) _ w1.heap.size _ _ _ (heap_alloc_new w1 _) (by have := Ht.out.big; omega) (Ht.out.below hb1) hp s Hs.out).mono ?_
  rintro e1 w2 ⟨rfl, hsc, hg⟩
  have hb2 := hb1.grown hg (by simp) (fun k hk => by injection hk with hk; omega)
  have ht2 := Ht.out.below hb2
  have Hb2 := Lib.hid hb2; clear hb2 hb1 hg
  have Ht2 := Lib.hid ht2; clear ht2
  have q0 : w2.cell? ⟨w1.heap.size, 0, none⟩ = some (.int .u64 (pHi p)) := by simp [World.cell?, hsc]
  have q1 : w2.cell? ⟨w1.heap.size, 1, none⟩ = some (.int .u64 ((0 : Nat) : Int)) := by simp [World.cell?, hsc]
  have q2 : w2.cell? ⟨w1.heap.size, 2, none⟩ = some (.int .i64 s) := by simp [World.cell?, hsc]
  have hu := Hus.out w2 w1.heap.size q0 q1 q2
  clear q0 q1 q2 hsc
  generalize usc (mulHi m (pHi p)) (mulLo m (pHi p)) (mulHi m 0) s = u at *
  have Hu := Lib.hid hu; clear hu
  go_wp2_with fail
  refine Hu.out.mono ?_
  rintro e1 w3 ⟨rfl, hb3⟩
  have hten := (Ht2.out.below hb3).ten n (by omega)
  have hni0 : (0 : Int) ≤ (n : Int) := by omega
  have hni1 : (n : Int) < 20 := by omega
  have Hb3 := Lib.hid hb3; clear hb3
  go_wp2_with fail
  refine (unmin_any _ _).mono ?_
  rintro e1 w' ⟨rfl, rfl⟩
  by_cases hbig : unmin ((10 : Int) ^ n) ≤ u
  · have hd := HD.out
    have hq := HP.out
    rw [if_neg (by simp [hbig])] at hd
    subst hd
    rcases hp with rfl | rfl
    · rw [if_pos (by simp [hbig])] at hq
      subst hq
      go_wp2_with fail
      refine (div_any _ _).mono ?_
      rintro e1 w4 ⟨rfl, hb4⟩
      go_wp2_with fail
      refine wp_loop_rounds 1 ?_
      rw [rounds_succ]
      go_wp2_with fail
      refine (round_any _ _).mono ?_
      rintro e1 w' ⟨rfl, rfl⟩
      go_wp2_with fail
      exact bodyPost_ret (v := .tuple #[.int .u64 (rnd (dv u)), .int .i64 (-5)]) (by simp [results, Tryz.results194, go_sem]) rfl ⟨rfl, via (via Hb2.out Hb3.out) hb4⟩
    · rw [if_neg (by simp)] at hq
      subst hq
      go_wp2_with fail
      refine (div_any _ _).mono ?_
      rintro e1 w4 ⟨rfl, hb4⟩
      go_wp2_with fail
      refine wp_loop_rounds 1 ?_
      rw [rounds_succ]
      go_wp2_with fail
      refine (round_any _ _).mono ?_
      rintro e1 w' ⟨rfl, rfl⟩
      go_wp2_with fail
      exact bodyPost_ret (v := .tuple #[.int .u64 (rnd (dv u)), .int .i64 (-6)]) (by simp [results, Tryz.results194, go_sem]) rfl ⟨rfl, via (via Hb2.out Hb3.out) hb4⟩
  · have hd := HD.out
    have hq := HP.out
    rw [if_neg (by simp [hbig])] at hq
    subst hq
    rcases hp with rfl | rfl
    · rw [if_pos (by simp [hbig])] at hd
      subst hd
      go_wp2_with fail
      refine wp_loop_rounds 1 ?_
      rw [rounds_succ]
      go_wp2_with fail
      refine (round_any _ _).mono ?_
      rintro e1 w' ⟨rfl, rfl⟩
      go_wp2_with fail
      exact bodyPost_ret (v := .tuple #[.int .u64 (rnd (u)), .int .i64 (-6)]) (by simp [results, Tryz.results194, go_sem]) rfl ⟨rfl, via Hb2.out Hb3.out⟩
    · rw [if_neg (by simp)] at hd
      subst hd
      go_wp2_with fail
      refine wp_loop_rounds 2 ?_
      rw [rounds_succ]
      go_wp2_with fail
      refine (div_any _ _).mono ?_
      rintro e1 w4 ⟨rfl, hb4⟩
      go_wp2_with fail
      rw [rounds_succ]
      go_wp2_with fail
      refine (round_any _ _).mono ?_
      rintro e1 w' ⟨rfl, rfl⟩
      go_wp2_with fail
      exact bodyPost_ret (v := .tuple #[.int .u64 (rnd (dv u)), .int .i64 (-6)]) (by simp [results, Tryz.results194, go_sem]) rfl ⟨rfl, via (via Hb2.out Hb3.out) hb4⟩
end Go.Proofs.YtbcnhcpgloncdaaGreatDoor
