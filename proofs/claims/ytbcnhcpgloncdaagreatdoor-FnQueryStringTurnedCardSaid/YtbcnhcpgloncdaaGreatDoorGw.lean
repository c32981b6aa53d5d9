/- FormatFloat's parts: the world has no say in what each gives. -/
import Derived.Test.YtbcnhcpgloncdaaGreatDoorGo
namespace Go.Proofs.YtbcnhcpgloncdaaGreatDoor
open Go Go.RowKit Go.BigFrame

def b2 (b : Bool) : Int := if b then 1 else 0
theorem bool2_any (b : Bool) (w : World) : Calls Tryz.prog 253 #[.bool b] w fun e w' => e = .returned (.int .u64 (b2 b)) ∧ w' = w := by
  cases b
  · go_enter Tryz.func253, Tryz.ntmps253
    go_wp2
    go_ret
    exact ⟨rfl, rfl⟩
  · go_enter Tryz.func253, Tryz.ntmps253
    go_wp2
    go_ret
    exact ⟨rfl, rfl⟩
theorem bool2'_any (b : Bool) (w : World) : Calls Tryz.prog 254 #[.bool b] w fun e w' => e = .returned (.int .u64 (b2 b)) ∧ w' = w := by
  cases b
  · go_enter Tryz.func254, Tryz.ntmps254
    go_wp2
    go_ret
    exact ⟨rfl, rfl⟩
  · go_enter Tryz.func254, Tryz.ntmps254
    go_wp2
    go_ret
    exact ⟨rfl, rfl⟩

theorem and63 : ∀ s : Nat, s < 64 → bits BinOp.and IntKind.i64 (s : Int) 63 = (s : Int) := by decide +kernel

/-- The two halves of a product of words. -/
def mulHi (x y : Nat) : Int := ((x * y / 18446744073709551616 : Nat) : Int)
def mulLo (x y : Nat) : Int := ((x * y % 18446744073709551616 : Nat) : Int)
theorem mul_any (x y : Nat) (hx : x < 18446744073709551616) (hy : y < 18446744073709551616) (w : World) :
    Calls Tryz.prog 252 #[.int .u64 x, .int .u64 y] w fun e w' => e = .returned (.tuple #[.int .u64 (mulHi x y), .int .u64 (mulLo x y)]) ∧ w' = w := Tryz.bits_Mul64 x y hx hy w

/-- What 'uscale' gives. -/
def usc (h m m2 : Int) (s : Nat) : Int :=
  if (IntKind.u64.wrap (h / 2 ^ min s 64 * 2 ^ min s 64) != h) = true then bits BinOp.or IntKind.u64 (h / 2 ^ min s 64) 1
  else bits BinOp.or IntKind.u64 (IntKind.u64.wrap (h - b2 (decide (m < m2))) / 2 ^ min s 64) (b2 (decide (1 < IntKind.u64.wrap (m - m2))))

set_option maxRecDepth 100000 in
set_option maxHeartbeats 1000000 in
theorem uscale_any (x hi lo s : Nat) (hx : x < 18446744073709551616) (hhi : hi < 18446744073709551616) (hlo : lo < 18446744073709551616) (hs : s < 64) (w : World) (b : Nat) (c0 : w.cell? ⟨b, 0, none⟩ = some (.int .u64 hi)) (c1 : w.cell? ⟨b, 1, none⟩ = some (.int .u64 lo)) (c2 : w.cell? ⟨b, 2, none⟩ = some (.int .i64 s)) :
      Calls Tryz.prog 225 #[.int .u64 x, .pointer (some ⟨b, 0, none⟩)] w fun e w' => e = .returned (.int .u64 (usc (mulHi x hi) (mulLo x hi) (mulHi x lo) s)) ∧ Below w.heap.size w w' := by
  have h63 := and63 s hs
  have hc1 := fun w => mul_any x hi hx hhi w
  have hc2 := fun w => mul_any x lo hx hlo w
  obtain ⟨h, hh⟩ : ∃ h, h = mulHi x hi := ⟨_, rfl⟩
  obtain ⟨m, hm⟩ : ∃ h, h = mulLo x hi := ⟨_, rfl⟩
  obtain ⟨h2, hh2⟩ : ∃ h, h = mulHi x lo := ⟨_, rfl⟩
  obtain ⟨m2, hm2⟩ : ∃ h, h = mulLo x lo := ⟨_, rfl⟩
  rw [← hh, ← hm] at hc1
  rw [← hh2, ← hm2] at hc2
  rw [← hh, ← hm, ← hh2]
  have Hc1 := Lib.hid hc1; clear hc1
  have Hc2 := Lib.hid hc2; clear hc2
  clear hx hhi hlo hs hh hm hh2 hm2
  by_cases hne : (IntKind.u64.wrap (h / 2 ^ min s 64 * 2 ^ min s 64) != h) = true
  · have hu : usc h m h2 s = bits BinOp.or IntKind.u64 (h / 2 ^ min s 64) 1 := by unfold usc; rw [if_pos hne]
    rw [hu]; clear hu
    go_enter Tryz.func225, Tryz.ntmps225
    go_wp2_with fail
    refine (Hc1.out _).mono ?_
    rintro e w' ⟨rfl, rfl⟩
    go_wp2_with fail
    go_ret
    exact ⟨by simp, Below.refl _ _⟩
  · have hu : usc h m h2 s = bits BinOp.or IntKind.u64 (IntKind.u64.wrap (h - b2 (decide (m < h2))) / 2 ^ min s 64) (b2 (decide (1 < IntKind.u64.wrap (m - h2)))) := by unfold usc; rw [if_neg hne]
    rw [hu]; clear hu
    have hne' : (IntKind.u64.wrap (h / 2 ^ min s 64 * 2 ^ min s 64) != h) = false := by simpa using hne
    clear hne
    go_enter Tryz.func225, Tryz.ntmps225
    go_wp2_with fail
    refine (Hc1.out _).mono ?_
    rintro e w' ⟨rfl, rfl⟩
    go_wp2_with fail
    refine (Hc2.out _).mono ?_
    rintro e w' ⟨rfl, rfl⟩
    go_wp2_with fail
    refine (bool2_any _ _).mono ?_
    rintro e w' ⟨rfl, rfl⟩
    go_wp2_with fail
    refine wp_region_later (by kernel_rfl) (by kernel_rfl) ?_
    repeat (go_big_quiet_step ((go_at_call 253; exact Calls.later_of_same (bool2_any _ _))))
    refine wpQuiet_nil ?_
    intro _ hw'
    obtain ⟨nq, rfl⟩ := hw'
    go_wp2_with fail
    go_ret
    exact ⟨by simp, nq.ok⟩

def rnd (u : Int) : Int := IntKind.u64.wrap (IntKind.u64.wrap (u + 1) + bits BinOp.and IntKind.u64 (u / 4) 1) / 4
theorem round_any (u : Int) (w : World) : Calls Tryz.prog 229 #[.int .u64 u] w fun e w' => e = .returned (.int .u64 (rnd u)) ∧ w' = w := by
  go_enter Tryz.func229, Tryz.ntmps229
  go_wp2_with fail
  go_ret
  exact ⟨rfl, rfl⟩
def unmin (u : Int) : Int := IntKind.u64.wrap (IntKind.u64.wrap (u * 4) - 2)
theorem unmin_any (u : Int) (w : World) : Calls Tryz.prog 231 #[.int .u64 u] w fun e w' => e = .returned (.int .u64 (unmin u)) ∧ w' = w := by
  go_enter Tryz.func231, Tryz.ntmps231
  go_wp2_with fail
  go_ret
  exact ⟨rfl, rfl⟩
def l10 (x : Int) : Int := wrap64 (x * 78913) / 262144
theorem l10_any (x : Int) (w : World) : Calls Tryz.prog 193 #[.int .i64 x] w fun e w' => e = .returned (.int .i64 (l10 x)) ∧ w' = w := by
  go_enter Tryz.func193, Tryz.ntmps193
  go_wp2_with fail
  go_ret
  exact ⟨rfl, rfl⟩
def l2 (x : Int) : Int := wrap64 (x * 108853) / 32768
theorem l2_any (x : Int) (w : World) : Calls Tryz.prog 224 #[.int .i64 x] w fun e w' => e = .returned (.int .i64 (l2 x)) ∧ w' = w := by
  go_enter Tryz.func224, Tryz.ntmps224
  go_wp2_with fail
  go_ret
  exact ⟨rfl, rfl⟩

def dv (u : Int) : Int := bits BinOp.or IntKind.u64 (bits BinOp.or IntKind.u64 (IntKind.u64.wrap (u.tdiv 10)) (bits BinOp.and IntKind.u64 u 1)) (b2 (u.tmod 10 != 0))
theorem div_any (u : Int) (w : World) : Calls Tryz.prog 232 #[.int .u64 u, .int .u64 10] w fun e w' => e = .returned (.int .u64 (dv u)) ∧ Below w.heap.size w w' := by
  go_enter Tryz.func232, Tryz.ntmps232
  go_wp2_with fail
  refine wp_region_later (by kernel_rfl) (by kernel_rfl) ?_
  repeat (go_big_quiet_step ((go_at_call 254; exact Calls.later_of_same (bool2'_any _ _))))
  refine wpQuiet_nil ?_
  intro _ hw'
  obtain ⟨nq, rfl⟩ := hw'
  go_wp2_with fail
  go_ret
  exact ⟨rfl, nq.ok⟩

/-- The tables that are read. -/
def pHi (p : Nat) : Nat := if p = 6 then 17592186044416000000 else 10995116277760000000
structure FTabs (w : World) : Prop where
  opt : w.cell? ⟨0, 0, none⟩ = some (.bool true)
  h6 : w.cell? ⟨3, 708, none⟩ = some (.int .u64 17592186044416000000)
  l6 : w.cell? ⟨3, 709, none⟩ = some (.int .u64 0)
  h7 : w.cell? ⟨3, 710, none⟩ = some (.int .u64 10995116277760000000)
  l7 : w.cell? ⟨3, 711, none⟩ = some (.int .u64 0)
  tens : Lib.TabIs Tryz.prog w "internal/strconv.uint64pow10" .u64 Lib.pow10Tab
  big : 4 ≤ w.heap.size

theorem Scaler.set3 {w : World} {b : Nat} {c0 c1 c2 : Value} (h : w.heap[b]? = some (.cells #[c0, c1, c2] 256 (0, 0))) (v0 v1 v2 : Value) :
    (((w.setCell ⟨b, 0, none⟩ v0).setCell ⟨b, 1, none⟩ v1).setCell ⟨b, 2, none⟩ v2).heap[b]? = some (.cells #[v0, v1, v2] 256 (0, 0)) := by
  have h0 := heap_setCell_same w b 0 _ 256 v0 h
  have h1 := heap_setCell_same _ b 1 _ 256 v1 h0
  have h2 := heap_setCell_same _ b 2 _ 256 v2 h1
  rw [h2]; rfl

set_option maxRecDepth 100000 in
set_option maxHeartbeats 1000000 in
theorem prescale_any (e : Int) (p : Nat) (lp : Int) (w : World) (b : Nat) (c0 c1 c2 : Value) (hw : w.heap[b]? = some (.cells #[c0, c1, c2] 256 (0, 0))) (_hb3 : b ≠ 3) (ht : FTabs w) (hp : p = 6 ∨ p = 7) (s : Int) (hs : wrap64 (-(wrap64 (wrap64 (e + lp) + 3))) = s) :
    Calls Tryz.prog 223 #[.pointer (some ⟨b, 0, none⟩), .int .i64 e, .int .i64 p, .int .i64 lp] w fun e w' => e = .returned (.tuple #[]) ∧ w'.heap[b]? = some (.cells #[.int .u64 (pHi p), .int .u64 0, .int .i64 s] 256 (0, 0)) ∧ w.grownBy w' (some b) := by
  have b0 : w.cell? ⟨b, 0, none⟩ = some c0 := by simp [World.cell?, hw]
  have b1 : w.cell? ⟨b, 1, none⟩ = some c1 := by simp [World.cell?, hw]
  have b2 : w.cell? ⟨b, 2, none⟩ = some c2 := by simp [World.cell?, hw]
  have bf : ∀ o, w.frozen? ⟨b, o, none⟩ = false := fun o => by simp [World.frozen?, hw]
  have t0 := ht.h6
  have t1 := ht.l6
  have t2 := ht.h7
  have t3 := ht.l7
  have Hw := Lib.hid hw; clear hw ht
  have Hs := Lib.hid hs; clear hs
  rcases hp with rfl | rfl
  · go_enter Tryz.func223, Tryz.ntmps223
    go_wp2_with fail
    refine bodyPost_end (v := .tuple #[]) (by simp [results, Tryz.results223, go_sem]) rfl ⟨rfl, ?_, ?_⟩
    · rw [Hs.out]; exact Scaler.set3 Hw.out _ _ _
    · exact ((grownBy_setCell w ⟨b, 0, none⟩ _).andThen (grownBy_setCell _ ⟨b, 1, none⟩ _) (fun _ hj => .inr hj)).andThen (grownBy_setCell _ ⟨b, 2, none⟩ _) (fun _ hj => .inr hj)
  · go_enter Tryz.func223, Tryz.ntmps223
    go_wp2_with fail
    refine bodyPost_end (v := .tuple #[]) (by simp [results, Tryz.results223, go_sem]) rfl ⟨rfl, ?_, ?_⟩
    · rw [Hs.out]; exact Scaler.set3 Hw.out _ _ _
    · exact ((grownBy_setCell w ⟨b, 0, none⟩ _).andThen (grownBy_setCell _ ⟨b, 1, none⟩ _) (fun _ hj => .inr hj)).andThen (grownBy_setCell _ ⟨b, 2, none⟩ _) (fun _ hj => .inr hj)
end Go.Proofs.YtbcnhcpgloncdaaGreatDoor
