/- 'FieldNames': how many there are; 'Back'. -/
import Derived.Test.YtbcnhcpgloncdaaGreatDoorGi
namespace Go.Proofs.YtbcnhcpgloncdaaGreatDoor
open Go Go.RowKit
open Go.BigFrame

theorem Tryz.info9 : (Tryz.prog.info? 9).map (fun i => (i.zero, i.size, i.bytes)) = some (some (.string ⟨#[]⟩), 1, 16) := by kernel_rfl

def nField : ByteArray := ⟨#[102, 105, 101, 108, 100]⟩
def nFieldBoost : ByteArray := ⟨#[102, 105, 101, 108, 100, 95, 119, 105, 116, 104, 95, 98, 111, 111, 115, 116]⟩
def isField (s : SetM) : Bool := decide (s.name = nField) || decide (s.name = nFieldBoost)

set_option maxRecDepth 100000 in
set_option maxHeartbeats 2000000 in
theorem fieldNames_any (sets : List SetM) (S : Nat → Prop) (a : Option Addr) (c : Nat) (w : World) (hr : SetsAt w S a sets) (hl : sets.length ≤ 1048576) :
    Calls Tryz.prog 14 #[.slice none 0 0, .slice a sets.length c] w fun e w' => (∃ a' c', e = .returned (.slice a' (sets.filter isField).length c')) ∧ Below w.heap.size w w' := by
  obtain ⟨i0, hi, hz0, hz1, hz2⟩ := info_parts Tryz.info9
  have Hr := Lib.hid hr; clear hr
  go_enter Tryz.func14, Tryz.ntmps14
  go_wp2_with fail
  go_loopw [5, 6] (fun v i wr => ∃ (k n : Nat) (g cap : Nat) (xs : List Value), k ≤ sets.length ∧ n ≤ k ∧ n = ((sets.take k).filter isField).length ∧ i = .int .i64 k ∧ v = .slice (some ⟨g, 0, none⟩) n cap ∧
      wr.ownsRow w.heap.size 9 1 (.slice (some ⟨g, 0, none⟩) n cap) n xs ∧ Below w.heap.size w wr) (fun _ i _ => sets.length - (intOf i).toNat)
  case atStart => exact ⟨0, 0, _, 0, [], Nat.zero_le _, Nat.zero_le _, by simp, rfl, rfl, World.ownsRow_made w _ _ (Nat.le_refl _) (by unfold maxLen; omega) rfl, (Below.refl _ _).alloc (Nat.le_refl _) _⟩
  case round =>
    obtain ⟨k, n, g, cap, xs, hk, hnk, hn, rfl, rfl, hown, hbel⟩ := hrel
    have Hn := Lib.hid hn; clear hn
    by_cases hlt : k < sets.length
    · obtain ⟨b', o, v, hca, hSb, hlb, c0, c1, c2, c3, c4, c5, c6, hv⟩ := (Hr.out.keep (Keeps.of_below S hbel)).cells (k := k) hlt
      subst hca
      have Htake : Hid ((sets.take (k+1)).filter isField = (sets.take k).filter isField ++ [sets[k]].filter isField) := Lib.hid (by rw [List.take_succ_eq_append_getElem hlt, List.filter_append])
      generalize hset : sets[k] = s at *
      have Hset := Lib.hid hset; clear hset hv
      have hi1 : (0 : Int) ≤ (k : Int) := by omega
      have hi2 : (k : Int) < (sets.length : Int) := by omega
      have hsz : w.heap.size ≤ wr.heap.size := hbel.size
      by_cases h1 : s.name = nField
      · have h1' := lit_eq [102, 105, 101, 108, 100] h1
        have H1 := Lib.hid h1; clear h1
        go_wp2_with (at_builtin; refine wpList_append_lies _ rfl _ _ _ rfl w.heap.size 9 i0 _ 1 16 Tryz.underlying29 hi hz0 hz1 hz2 rfl (by omega) (.slice (some ⟨g, 0, none⟩) n cap) n xs rfl (hown.alloc _) ⟨wr.heap.size, 0, none⟩ 1 1 [.string v.text] rfl rfl (World.news_of_block (cs := #[.string v.text]) (t := 9) (fr := (0, 0)) (heap_alloc_new wr _)) (by simp [Value.oneCell']) (by omega) (by unfold maxLen; omega) (by omega) (by simp; omega) (wr.heap.size + 1) (by simp) ?_; intro gg cc w1 hown1 hgrow hat hlt1)
        have hbel1 : Below w.heap.size w w1 := (hbel.alloc hsz _).grown hgrow (by simp; omega) (fun k hk => (hown.lt k hk).1)
        go_roundw
        case rel => exact ⟨k + 1, n + 1, gg, cc, _, by omega, by omega, by rw [Htake.out]; simp [isField, H1.out, ← Hn.out], by simp, rfl, hown1, hbel1⟩
        case measure => simp [intOf]; omega
      · by_cases h2 : s.name = nFieldBoost
        · have h1' := lit_ne [102, 105, 101, 108, 100] h1
          have h2' := lit_eq [102, 105, 101, 108, 100, 95, 119, 105, 116, 104, 95, 98, 111, 111, 115, 116] h2
          have H1 := Lib.hid h2; clear h1 h2
          go_wp2_with (at_builtin; refine wpList_append_lies _ rfl _ _ _ rfl w.heap.size 9 i0 _ 1 16 Tryz.underlying29 hi hz0 hz1 hz2 rfl (by omega) (.slice (some ⟨g, 0, none⟩) n cap) n xs rfl (hown.alloc _) ⟨wr.heap.size, 0, none⟩ 1 1 [.string v.text] rfl rfl (World.news_of_block (cs := #[.string v.text]) (t := 9) (fr := (0, 0)) (heap_alloc_new wr _)) (by simp [Value.oneCell']) (by omega) (by unfold maxLen; omega) (by omega) (by simp; omega) (wr.heap.size + 1) (by simp) ?_; intro gg cc w1 hown1 hgrow hat hlt1)
          have hbel1 : Below w.heap.size w w1 := (hbel.alloc hsz _).grown hgrow (by simp; omega) (fun k hk => (hown.lt k hk).1)
          go_roundw
          case rel => exact ⟨k + 1, n + 1, gg, cc, _, by omega, by omega, by rw [Htake.out]; simp [isField, H1.out, ← Hn.out], by simp, rfl, hown1, hbel1⟩
          case measure => simp [intOf]; omega
        · have h1' := lit_ne [102, 105, 101, 108, 100] h1
          have h2' := lit_ne [102, 105, 101, 108, 100, 95, 119, 105, 116, 104, 95, 98, 111, 111, 115, 116] h2
          have H1 := Lib.hid h1; clear h1
          have H2 := Lib.hid h2; clear h2
          go_wp2_with fail
          go_roundw
          case rel => exact ⟨k + 1, n, g, cap, _, by omega, by omega, by rw [Htake.out]; simp [isField, H1.out, H2.out, ← Hn.out], by simp, rfl, hown, hbel⟩
          case measure => simp [intOf]; omega
    · obtain rfl : k = sets.length := by omega
      go_wp2_with fail
      go_ret
      refine ⟨⟨some ⟨g, 0, none⟩, cap, ?_⟩, hbel⟩
      have := Hn.out
      rw [List.take_length] at this
      rw [this]; simp
end Go.Proofs.YtbcnhcpgloncdaaGreatDoor
