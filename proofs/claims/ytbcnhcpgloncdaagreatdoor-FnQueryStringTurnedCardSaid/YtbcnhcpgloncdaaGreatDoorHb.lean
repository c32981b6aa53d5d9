/- FormatFloat's parts: 'fmtEFG' at 'f', of a number below 1. -/
import Derived.Test.YtbcnhcpgloncdaaGreatDoorHa
namespace Go.Proofs.YtbcnhcpgloncdaaGreatDoor
open Go Go.RowKit Go.BigFrame Go.Sort Go.Lib

/-- What is written of a number below 1. -/
def efgNeg (f : Nat → UInt8) (z n : Nat) : List UInt8 := [48] ++ [46] ++ List.replicate z 48 ++ (List.range (min (6 - z) n)).map f ++ List.replicate (6 - z - min (6 - z) n) 48

set_option maxRecDepth 100000 in
set_option maxHeartbeats 4000000 in
theorem efg_neg (f : Nat → UInt8) (B b z n : Nat) (hz6 : z ≤ 6) (hn : n ≤ 20) (w : World) (a : Option Addr) (c : Nat) (ds : DS w B b n f [] 0 (.slice a 0 c) w) :
    Calls Tryz.prog 188 #[.slice a 0 c, .bool false, .slice (some ⟨b, 0, none⟩) 24 24, .int .i64 (-(z : Int)), .int .i64 n, .int .i64 6, .int .u8 102, .bool false] w (EfgPost w B b n f (efgNeg f z n) 8) := by
  obtain ⟨i0, hi, hz0, hz1, hz2⟩ := info_parts Tryz.info5
  obtain ⟨q, hq⟩ : ∃ q : Nat, q = min (6 - z) n := ⟨_, rfl⟩
  obtain ⟨t, ht⟩ : ∃ t : Nat, z + q + t = 6 := ⟨6 - z - q, by omega⟩
  have hA : min (6 : Int) (max 0 (z : Int)) = (z : Int) := by omega
  have hA' : min (6 : Int) (z : Int) = (z : Int) := by omega
  have hA2 : max 0 (z : Int) = (z : Int) := by omega
  have hO : -(z : Int) + (z : Int) = 0 := by omega
  have hB : min ((6 : Int) - (z : Int)) (max 0 (n : Int)) = (q : Int) := by omega
  have hB' : min ((6 : Int) - (z : Int)) (n : Int) = (q : Int) := by omega
  have hB2 : max 0 (n : Int) = (n : Int) := by omega
  have hC : max 0 ((6 : Int) - (z : Int) - (q : Int)) = (t : Int) := by omega
  have hqn : q ≤ n := by omega
  have hpos : ¬ (0 : Int) < -(z : Int) := by omega
  have hL : efgNeg f z n = [48] ++ [46] ++ List.replicate z 48 ++ (List.range q).map f ++ List.replicate t 48 := by
    unfold efgNeg; rw [← hq, show 6 - z - q = t by omega]
  rw [hL]
  clear hq hL
  have hb0 := ds.base
  have Ds := Lib.hid ds; clear ds
  go_enter Tryz.func188, Tryz.ntmps188
  go_wp2_with (first
    | (at_builtin; refine wpList_append_lies _ rfl _ _ _ rfl B 5 i0 _ 1 1 Tryz.underlying195 hi hz0 hz1 hz2 rfl (by omega) (.slice a (0) c) (0) _ rfl (Ds.out.own.alloc _) ⟨w.heap.size, 0, none⟩ 1 1 [.int .u8 48] rfl rfl (World.news_of_block (cs := #[.int .u8 48]) (t := 5) (fr := (0, 0)) (heap_alloc_new w _)) (by simp [Value.oneCell']) (by omega) (by unfold maxLen; omega) (by omega) (by simp; omega) (w.heap.size + 1) (by simp) ?_; intro g cap w1 hown1 hgrow hat hlt1; have hb1 := (Ds.out.add (x := 48) hown1 hgrow hat).base; have Ds1 := Lib.hid (Ds.out.add (x := 48) hown1 hgrow hat); clear hown1 hgrow hat)
    | (at_builtin; refine wpList_append_lies _ rfl _ _ _ rfl B 5 i0 _ 1 1 Tryz.underlying195 hi hz0 hz1 hz2 rfl (by omega) (.slice (some ⟨g, 0, none⟩) (1) cap) (1) _ rfl (Ds1.out.own.alloc _) ⟨w1.heap.size, 0, none⟩ 1 1 [.int .u8 46] rfl rfl (World.news_of_block (cs := #[.int .u8 46]) (t := 5) (fr := (0, 0)) (heap_alloc_new w1 _)) (by simp [Value.oneCell']) (by omega) (by unfold maxLen; omega) (by omega) (by simp; omega) (w1.heap.size + 1) (by simp) ?_; intro g2 cap2 w2 hown1 hgrow hat hlt1; have Ds2 := Lib.hid (Ds1.out.add (x := 46) hown1 hgrow hat); clear hown1 hgrow hat Ds1)
    | fail)
  go_loopw [0, 240] (fun v i wr => ∃ l : Nat, l ≤ z ∧ i = .int .i64 l ∧ DS w B b n f (([48] : List UInt8) ++ [46] ++ List.replicate l 48) (2 + l) v wr) (fun _ i _ => z - (intOf i).toNat)
  case atStart => exact ⟨0, Nat.zero_le _, rfl, by simpa using Ds2.out⟩
  case round =>
    clear Ds2 hb1
    obtain ⟨l, hll, rfl, ds⟩ := hrel
    obtain ⟨a3, c3, rfl⟩ := ds.form
    have hb := ds.base
    by_cases hlt : l < z
    · have Ds' := Lib.hid ds; clear ds
      have hi4 : (l : Int) < (z : Int) := by omega
      go_wp2_with (at_builtin; refine wpList_append_lies _ rfl _ _ _ rfl B 5 i0 _ 1 1 Tryz.underlying195 hi hz0 hz1 hz2 rfl (by omega) (.slice a3 (2 + l) c3) (2 + l) _ rfl (Ds'.out.own.alloc _) ⟨wr.heap.size, 0, none⟩ 1 1 [.int .u8 48] rfl rfl (World.news_of_block (cs := #[.int .u8 48]) (t := 5) (fr := (0, 0)) (heap_alloc_new wr _)) (by simp [Value.oneCell']) (by omega) (by unfold maxLen; omega) (by omega) (by simp; omega) (wr.heap.size + 1) (by simp) ?_; intro g cap w2 hown1 hgrow hat hlt1)
      have ds1 := Ds'.out.add (x := 48) hown1 hgrow hat
      go_roundw
      case rel => exact ⟨l + 1, by omega, by simp, by rw [List.replicate_succ', ← List.append_assoc]; exact ds1⟩
      case measure => simp [intOf]; omega
    · obtain rfl : l = z := by omega
      have Ds3 := Lib.hid ds; clear ds hlt hb
      go_wp2_with fail
      generalize hPP : ([48] : List UInt8) ++ [46] ++ List.replicate l 48 = PP at *
      have HPP := Lib.hid hPP; clear hPP
      go_loopw [0, 247, 30] (fun v i _ wr => ∃ j : Nat, j ≤ q ∧ i = .int .i64 j ∧ DS w B b n f (PP ++ (List.range j).map f) (2 + l + j) v wr) (fun _ i _ _ => q - (intOf i).toNat)
      case atStart => exact ⟨0, Nat.zero_le _, rfl, by simpa using Ds3.out⟩
      case round =>
        clear Ds3
        obtain ⟨j, hj, rfl, ds⟩ := hrel
        obtain ⟨a3, c3, rfl⟩ := ds.form
        have hb := ds.base
        by_cases hlt : j < q
        · have ck := ds.cells j (by omega)
          have Ds' := Lib.hid ds; clear ds
          have hi1 : (0 : Int) ≤ (j : Int) := by omega
          have hi2 : (j : Int) < 24 := by omega
          have hi4 : (j : Int) < (q : Int) := by omega
          generalize hx : f j = x at *
          have Hx := Lib.hid hx; clear hx
          go_wp2_with (at_builtin; refine wpList_append_lies _ rfl _ _ _ rfl B 5 i0 _ 1 1 Tryz.underlying195 hi hz0 hz1 hz2 rfl (by omega) (.slice a3 (2 + l + j) c3) (2 + l + j) _ rfl (Ds'.out.own.alloc _) ⟨wr.heap.size, 0, none⟩ 1 1 [encB x] rfl rfl (World.news_of_block (cs := #[encB x]) (t := 5) (fr := (0, 0)) (heap_alloc_new wr _)) (by simp [Value.oneCell']) (by omega) (by unfold maxLen; omega) (by omega) (by simp; omega) (wr.heap.size + 1) (by simp) ?_; intro g cap w2 hown1 hgrow hat hlt1)
          have ds1 := Ds'.out.add hown1 hgrow hat
          go_roundw
          case rel => exact ⟨j + 1, by omega, by simp, by rw [List.range_succ, List.map_append, ← List.append_assoc, show 2 + l + (j + 1) = 2 + l + j + 1 by omega]; simpa [Hx.out] using ds1⟩
          case measure => simp [intOf]; omega
        · obtain rfl : j = q := by omega
          have Ds4 := Lib.hid ds; clear ds hlt hb
          go_wp2_with fail
          generalize hQQ : PP ++ (List.range j).map f = QQ at *
          have HQQ := Lib.hid hQQ; clear hQQ
          go_loopw [0, 261] (fun v i wr => ∃ k : Nat, k ≤ t ∧ i = .int .i64 k ∧ DS w B b n f (QQ ++ List.replicate k 48) (2 + l + j + k) v wr) (fun _ i _ => t - (intOf i).toNat)
          case atStart => exact ⟨0, Nat.zero_le _, rfl, by simpa using Ds4.out⟩
          case round =>
            clear Ds4
            obtain ⟨k, hkk, rfl, ds⟩ := hrel
            obtain ⟨a3, c3, rfl⟩ := ds.form
            have hb := ds.base
            by_cases hlt : k < t
            · have Ds' := Lib.hid ds; clear ds
              have hi4 : (k : Int) < (t : Int) := by omega
              go_wp2_with (at_builtin; refine wpList_append_lies _ rfl _ _ _ rfl B 5 i0 _ 1 1 Tryz.underlying195 hi hz0 hz1 hz2 rfl (by omega) (.slice a3 (2 + l + j + k) c3) (2 + l + j + k) _ rfl (Ds'.out.own.alloc _) ⟨wr.heap.size, 0, none⟩ 1 1 [.int .u8 48] rfl rfl (World.news_of_block (cs := #[.int .u8 48]) (t := 5) (fr := (0, 0)) (heap_alloc_new wr _)) (by simp [Value.oneCell']) (by omega) (by unfold maxLen; omega) (by omega) (by simp; omega) (wr.heap.size + 1) (by simp) ?_; intro g cap w2 hown1 hgrow hat hlt1)
              have ds1 := Ds'.out.add (x := 48) hown1 hgrow hat
              go_roundw
              case rel => exact ⟨k + 1, by omega, by simp, by rw [List.replicate_succ', ← List.append_assoc]; exact ds1⟩
              case measure => simp [intOf]; omega
            · obtain rfl : k = t := by omega
              have Ds5 := Lib.hid ds; clear ds
              go_wp2_with fail
              refine bodyPost_ret (v := .slice a3 (2 + l + j + k) c3) (by simp [results, Tryz.results188, go_sem]) rfl ?_
              refine ⟨_, rfl, ?_⟩
              have e := Ds5.out
              rw [← HQQ.out, ← HPP.out] at e
              rw [show 8 = 2 + l + j + k by omega]
              simpa using e
end Go.Proofs.YtbcnhcpgloncdaaGreatDoor
