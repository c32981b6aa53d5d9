/- FormatFloat's parts: 'fmtEFG' at 'f'. -/
import Derived.Test.YtbcnhcpgloncdaaGreatDoorGz
namespace Go.Proofs.YtbcnhcpgloncdaaGreatDoor
open Go Go.RowKit Go.BigFrame Go.Sort Go.Lib

/-- What is written of a number of at least 1. -/
def efgPos (f : Nat → UInt8) (D n : Nat) : List UInt8 := (List.range (min n D)).map f ++ List.replicate (D - min n D) 48 ++ [46] ++ (List.range (min 6 (n - D))).map (fun x => f (D + x)) ++ List.replicate (6 - min 6 (n - D)) 48
def EfgPost (w : World) (B b n : Nat) (f : Nat → UInt8) (L : List UInt8) (N : Nat) (e : Ending) (w' : World) : Prop := ∃ v, e = .returned v ∧ DS w B b n f L N v w'

set_option maxRecDepth 100000 in
set_option maxHeartbeats 4000000 in
theorem efg_pos (f : Nat → UInt8) (B b D n m : Nat) (hD0 : 0 < D) (hD1 : D ≤ 20) (hn : n ≤ 20) (hm : min n D = m) (w : World) (a : Option Addr) (c : Nat) (ds : DS w B b n f [] 0 (.slice a 0 c) w) :
    Calls Tryz.prog 188 #[.slice a 0 c, .bool false, .slice (some ⟨b, 0, none⟩) 24 24, .int .i64 D, .int .i64 n, .int .i64 6, .int .u8 102, .bool false] w (EfgPost w B b n f (efgPos f D n) (D + 7)) := by
  obtain ⟨i0, hi, hz0, hz1, hz2⟩ := info_parts Tryz.info5
  have hmI : min (n : Int) (D : Int) = (m : Int) := by omega
  have hA : min (6 : Int) (max 0 (-(D : Int))) = ((0 : Nat) : Int) := by omega
  obtain ⟨q, hq⟩ : ∃ q : Nat, q = min 6 (n - D) := ⟨_, rfl⟩
  obtain ⟨t, ht⟩ : ∃ t : Nat, q + t = 6 := ⟨6 - q, by omega⟩
  have hB : min (6 : Int) (max 0 ((n : Int) - (D : Int))) = (q : Int) := by omega
  have hC : max 0 ((6 : Int) - (q : Int)) = (t : Int) := by omega
  have hqn : q = 0 ∨ D + q ≤ n := by omega
  have hq6 : q ≤ 6 := by omega
  have hL : efgPos f D n = (List.range m).map f ++ List.replicate (D - m) 48 ++ [46] ++ (List.range q).map (fun x => f (D + x)) ++ List.replicate t 48 := by
    unfold efgPos; rw [hm, ← hq, show 6 - q = t by omega]
  rw [hL]
  clear hq hL
  have hmn : m ≤ n := by omega
  have hmD : m ≤ D := by omega
  have Ds := Lib.hid ds; clear ds
  go_enter Tryz.func188, Tryz.ntmps188
  go_wp2_with fail
  go_loopw [0, 191, 25] (fun v i _ wr => ∃ k : Nat, k ≤ m ∧ i = .int .i64 k ∧ DS w B b n f ((List.range k).map f) k v wr) (fun _ i _ _ => m - (intOf i).toNat)
  case atStart => exact ⟨0, Nat.zero_le _, rfl, Ds.out⟩
  case round =>
    obtain ⟨k, hk, rfl, ds⟩ := hrel
    obtain ⟨a', c', rfl⟩ := ds.form
    have hb := ds.base
    by_cases hlt : k < m
    · have ck := ds.cells k (by omega)
      have Ds' := Lib.hid ds; clear ds
      have hi1 : (0 : Int) ≤ (k : Int) := by omega
      have hi2 : (k : Int) < (m : Int) := by omega
      have hown0 := Ds'.out.own
      have Hown0 := Lib.hid hown0; clear hown0
      generalize hx : f k = x at *
      have Hx := Lib.hid hx; clear hx
      go_wp2_with (at_builtin; go_loud (refine wpList_append_lies _ rfl _ _ _ rfl B 5 i0 _ 1 1 Tryz.underlying195 hi hz0 hz1 hz2 rfl (by omega) (.slice a' k c') k _ rfl (Hown0.out.alloc _) ⟨wr.heap.size, 0, none⟩ 1 1 [encB x] rfl rfl (World.news_of_block (cs := #[encB x]) (t := 5) (fr := (0, 0)) (heap_alloc_new wr _)) (by simp [Value.oneCell']) (by omega) (by unfold maxLen; omega) (by omega) (by simp; omega) (wr.heap.size + 1) (by simp) ?_); intro g cap w1 hown1 hgrow hat hlt1)
      have ds1 := Ds'.out.add hown1 hgrow hat
      go_roundw
      case rel => exact ⟨k + 1, by omega, by simp, by rw [List.range_succ, List.map_append]; simpa [Hx.out] using ds1⟩
      case measure => simp [intOf]; omega
    · obtain rfl : k = m := by omega
      have Ds1 := Lib.hid ds; clear ds hb hlt
      go_wp2_with fail
      go_loopw [0, 203] (fun v i wr => ∃ j : Nat, j ≤ D - k ∧ i = .int .i64 j ∧ DS w B b n f ((List.range k).map f ++ List.replicate j 48) (k + j) v wr) (fun _ i _ => D - k - (intOf i).toNat)
      case atStart => exact ⟨0, Nat.zero_le _, rfl, by simpa using Ds1.out⟩
      case round =>
        clear Ds1
        obtain ⟨j, hj, rfl, ds⟩ := hrel
        obtain ⟨a2, c2, rfl⟩ := ds.form
        have hb := ds.base
        by_cases hlt : j < D - k
        · have Ds' := Lib.hid ds; clear ds
          have hi2 : (j : Int) < (D : Int) - (k : Int) := by omega
          go_wp2_with (at_builtin; refine wpList_append_lies _ rfl _ _ _ rfl B 5 i0 _ 1 1 Tryz.underlying195 hi hz0 hz1 hz2 rfl (by omega) (.slice a2 (k + j) c2) (k + j) _ rfl (Ds'.out.own.alloc _) ⟨wr.heap.size, 0, none⟩ 1 1 [.int .u8 48] rfl rfl (World.news_of_block (cs := #[.int .u8 48]) (t := 5) (fr := (0, 0)) (heap_alloc_new wr _)) (by simp [Value.oneCell']) (by omega) (by unfold maxLen; omega) (by omega) (by simp; omega) (wr.heap.size + 1) (by simp) ?_; intro g cap w1 hown1 hgrow hat hlt1)
          have ds1 := Ds'.out.add (x := 48) hown1 hgrow hat
          go_roundw
          case rel => exact ⟨j + 1, by omega, by simp, by rw [List.replicate_succ', ← List.append_assoc]; exact ds1⟩
          case measure => simp [intOf]; omega
        · obtain rfl : j = D - k := by omega
          have hkD : k + (D - k) = D := by omega
          rw [hkD] at ds ⊢
          have Ds2 := Lib.hid ds; clear ds hlt
          go_wp2_with (at_builtin; refine wpList_append_lies _ rfl _ _ _ rfl B 5 i0 _ 1 1 Tryz.underlying195 hi hz0 hz1 hz2 rfl (by omega) (.slice a2 D c2) D _ rfl (Ds2.out.own.alloc _) ⟨wr.heap.size, 0, none⟩ 1 1 [.int .u8 46] rfl rfl (World.news_of_block (cs := #[.int .u8 46]) (t := 5) (fr := (0, 0)) (heap_alloc_new wr _)) (by simp [Value.oneCell']) (by omega) (by unfold maxLen; omega) (by omega) (by simp; omega) (wr.heap.size + 1) (by simp) ?_; intro g cap w1 hown1 hgrow hat hlt1)
          have ds3 := Ds2.out.add (x := 46) hown1 hgrow hat
          have Ds3 := Lib.hid ds3; clear ds3 Ds2
          clear hown1 hgrow hat hb hkD
          refine wp_loop_rounds 1 ?_
          rw [rounds_succ]
          go_wp2_with fail
          generalize hPP : (List.range k).map f ++ List.replicate (D - k) 48 ++ [46] = PP at *
          have HPP := Lib.hid hPP; clear hPP
          go_loopw [0, 247, 30] (fun v i _ wr => ∃ j : Nat, j ≤ q ∧ i = .int .i64 j ∧ DS w B b n f (PP ++ (List.range j).map (fun x => f (D + x))) (D + 1 + j) v wr) (fun _ i _ _ => q - (intOf i).toNat)
          case atStart => exact ⟨0, Nat.zero_le _, rfl, by simpa using Ds3.out⟩
          case round =>
            clear Ds3
            obtain ⟨j, hj, rfl, ds⟩ := hrel
            obtain ⟨a3, c3, rfl⟩ := ds.form
            have hb := ds.base
            by_cases hlt : j < q
            · have ck := ds.cells (D + j) (by omega)
              have Ds' := Lib.hid ds; clear ds
              have hi1 : (0 : Int) ≤ (D : Int) + (j : Int) := by omega
              have hi2 : (D : Int) + (j : Int) < 24 := by omega
              have hi3 : ((D : Int) + (j : Int)).toNat = D + j := by omega
              have hi4 : (j : Int) < (q : Int) := by omega
              generalize hx : f (D + j) = x at *
              have Hx := Lib.hid hx; clear hx
              go_wp2_with (at_builtin; refine wpList_append_lies _ rfl _ _ _ rfl B 5 i0 _ 1 1 Tryz.underlying195 hi hz0 hz1 hz2 rfl (by omega) (.slice a3 (D + 1 + j) c3) (D + 1 + j) _ rfl (Ds'.out.own.alloc _) ⟨wr.heap.size, 0, none⟩ 1 1 [encB x] rfl rfl (World.news_of_block (cs := #[encB x]) (t := 5) (fr := (0, 0)) (heap_alloc_new wr _)) (by simp [Value.oneCell']) (by omega) (by unfold maxLen; omega) (by omega) (by simp; omega) (wr.heap.size + 1) (by simp) ?_; intro g cap w2 hown1 hgrow hat hlt1)
              have ds1 := Ds'.out.add hown1 hgrow hat
              go_roundw
              case rel => exact ⟨j + 1, by omega, by simp, by rw [List.range_succ, List.map_append, ← List.append_assoc, show D + 1 + (j + 1) = D + 1 + j + 1 by omega]; simpa [Hx.out] using ds1⟩
              case measure => simp [intOf]; omega
            · obtain rfl : j = q := by omega
              have Ds4 := Lib.hid ds; clear ds hlt hb
              go_wp2_with fail
              generalize hQQ : PP ++ (List.range j).map (fun x => f (D + x)) = QQ at *
              have HQQ := Lib.hid hQQ; clear hQQ
              go_loopw [0, 261] (fun v i wr => ∃ l : Nat, l ≤ t ∧ i = .int .i64 l ∧ DS w B b n f (QQ ++ List.replicate l 48) (D + 1 + j + l) v wr) (fun _ i _ => t - (intOf i).toNat)
              case atStart => exact ⟨0, Nat.zero_le _, rfl, by simpa using Ds4.out⟩
              case round =>
                clear Ds4
                obtain ⟨l, hll, rfl, ds⟩ := hrel
                obtain ⟨a3, c3, rfl⟩ := ds.form
                have hb := ds.base
                by_cases hlt : l < t
                · have Ds' := Lib.hid ds; clear ds
                  have hi4 : (l : Int) < (t : Int) := by omega
                  go_wp2_with (at_builtin; refine wpList_append_lies _ rfl _ _ _ rfl B 5 i0 _ 1 1 Tryz.underlying195 hi hz0 hz1 hz2 rfl (by omega) (.slice a3 (D + 1 + j + l) c3) (D + 1 + j + l) _ rfl (Ds'.out.own.alloc _) ⟨wr.heap.size, 0, none⟩ 1 1 [.int .u8 48] rfl rfl (World.news_of_block (cs := #[.int .u8 48]) (t := 5) (fr := (0, 0)) (heap_alloc_new wr _)) (by simp [Value.oneCell']) (by omega) (by unfold maxLen; omega) (by omega) (by simp; omega) (wr.heap.size + 1) (by simp) ?_; intro g cap w2 hown1 hgrow hat hlt1)
                  have ds1 := Ds'.out.add (x := 48) hown1 hgrow hat
                  go_roundw
                  case rel => exact ⟨l + 1, by omega, by simp, by rw [List.replicate_succ', ← List.append_assoc]; exact ds1⟩
                  case measure => simp [intOf]; omega
                · obtain rfl : l = t := by omega
                  have Ds5 := Lib.hid ds; clear ds
                  go_wp2_with fail
                  refine bodyPost_ret (v := .slice a3 (D + 1 + j + l) c3) (by simp [results, Tryz.results188, go_sem]) rfl ?_
                  refine ⟨_, rfl, ?_⟩
                  rw [show D + 7 = D + 1 + j + l by omega, HPP.out, HQQ.out]
                  exact Ds5.out
end Go.Proofs.YtbcnhcpgloncdaaGreatDoor
