/- What 'Rows' gives: the table of a builder, taken apart into its rows. -/
import Derived.Test.YtbcnhcpgloncdaaGreatDoorGb
import Derived.Deep.RegionHeld3
import Derived.Deep.RegionLaw
namespace Go.Proofs.YtbcnhcpgloncdaaGreatDoor
open Go Go.RowKit

theorem Tryz.info111 : (Tryz.prog.info? 111).map (fun i => (i.zero, i.size, i.bytes)) = some (some (.agg #[.string ⟨#[]⟩, .string ⟨#[]⟩]), 2, 32) := by kernel_rfl

/-- A table's text, taken apart. -/
def rowsOf : Nat → ByteArray → Option (List (ByteArray × ByteArray))
  | 0, _ => none
  | n + 1, t =>
    if t.size = 0 then some [] else
    let e := placeOf t.data.toList 44
    let row := t.extract 0 e
    let b := placeOf row.data.toList 32
    if b < e then
      if e = t.size then some [(row.extract 0 b, row.extract (b + 1) e)]
      else (rowsOf n (t.extract (e + 1) t.size)).map ((row.extract 0 b, row.extract (b + 1) e) :: ·)
    else none

theorem rowsOf_step {m : Nat} {t : ByteArray} {rest : List (ByteArray × ByteArray)} (h : rowsOf m t = some rest) (h0 : 0 < t.size) :
    placeOf (t.extract 0 (placeOf t.data.toList 44)).data.toList 32 < placeOf t.data.toList 44 ∧ ∃ m' rest',
      rest = ((t.extract 0 (placeOf t.data.toList 44)).extract 0 (placeOf (t.extract 0 (placeOf t.data.toList 44)).data.toList 32), (t.extract 0 (placeOf t.data.toList 44)).extract (placeOf (t.extract 0 (placeOf t.data.toList 44)).data.toList 32 + 1) (placeOf t.data.toList 44)) :: rest' ∧
      (placeOf t.data.toList 44 = t.size → rest' = []) ∧ (placeOf t.data.toList 44 ≠ t.size → rowsOf m' (t.extract (placeOf t.data.toList 44 + 1) t.size) = some rest') := by
  cases m with
  | zero => simp [rowsOf] at h
  | succ m =>
    unfold rowsOf at h
    rw [if_neg (by omega)] at h
    simp only at h
    split at h
    · rename_i hb
      refine ⟨hb, m, ?_⟩
      split at h
      · rename_i he
        cases h
        exact ⟨[], rfl, fun _ => rfl, fun hne => absurd he hne⟩
      · rename_i he
        rw [Option.map_eq_some_iff] at h
        obtain ⟨r, hr, rfl⟩ := h
        exact ⟨r, rfl, fun e => absurd e he, fun _ => hr⟩
    · cases h
theorem rowsOf_end {m : Nat} {t : ByteArray} {rest : List (ByteArray × ByteArray)} (h : rowsOf m t = some rest) (h0 : t.size = 0) : rest = [] := by
  cases m with
  | zero => simp [rowsOf] at h
  | succ m => simpa [rowsOf, h0] using h.symm

theorem placeOf_le (l : List UInt8) (c : UInt8) {n : Nat} (h : l.length = n) : placeOf l c ≤ n := by
  subst h; unfold placeOf
  induction l with
  | nil => simp
  | cons x r ih =>
    simp only [List.takeWhile_cons]
    split
    · simpa using ih
    · simp
theorem place_lit (s : ByteArray) (c : UInt8) (n : Int) (hn : (c.toNat : Int) = n) (w : World) (hs : s.size ≤ 9223372036854775807) :
    Calls Tryz.prog 100 #[.string s, .int .u8 n] w fun e w' => e = .returned (.int .i64 (placeOf s.data.toList c)) ∧ w = w' := by
  subst hn; exact place_any s c w hs

def rowCells (rs : List (ByteArray × ByteArray)) : List Value := rs.flatMap fun r => [.string r.1, .string r.2]
theorem rowCells_snoc (rs : List (ByteArray × ByteArray)) (a b : ByteArray) : rowCells (rs ++ [(a, b)]) = rowCells rs ++ [.string a, .string b] := by simp [rowCells]

def RowsPost (w : World) (rs : List (ByteArray × ByteArray)) (e : Ending) (w' : World) : Prop :=
  ∃ g cap, e = .returned (.slice (some ⟨g, 0, none⟩) rs.length cap) ∧ w'.ownsRow w.heap.size 111 2 (.slice (some ⟨g, 0, none⟩) rs.length cap) rs.length (rowCells rs) ∧ Below w.heap.size w w'

def sizeOfStr : Value → Nat | .string t => t.size | _ => 0

set_option maxRecDepth 100000 in
set_option maxHeartbeats 1000000 in
theorem rows_any (b t : ByteArray) (rs : List (ByteArray × ByteArray)) (n : Nat) (w : World) (ht : ∀ w, Calls Tryz.prog 117 #[.string b] w fun e w' => e = .returned (.string t) ∧ w = w') (hrs : rowsOf n t = some rs) (hsz : t.size ≤ 100000) (hrl : rs.length ≤ 1000) :
    Calls Tryz.prog 103 #[.string b] w (RowsPost w rs) := by
  obtain ⟨i0, hi, hz0, hz1, hz2⟩ := info_parts Tryz.info111
  have Ht := Lib.hid ht; clear ht
  have Hrs := Lib.hid hrs; clear hrs
  go_enter Tryz.func103, Tryz.ntmps103
  go_wp2_with (go_at_call 117; refine (Ht.out _).mono ?_; rintro e w' ⟨rfl, rfl⟩)
  go_loopw [3, 4] (fun v tv wr => ∃ (m : Nat) (t' : ByteArray) (done rest : List (ByteArray × ByteArray)), tv = .string t' ∧ rs = done ++ rest ∧ rowsOf m t' = some rest ∧ t'.size ≤ 100000 ∧
      (∃ g cap, v = .slice (some ⟨g, 0, none⟩) done.length cap ∧ wr.ownsRow w.heap.size 111 2 (.slice (some ⟨g, 0, none⟩) done.length cap) done.length (rowCells done)) ∧ Below w.heap.size w wr) (fun _ tv _ => sizeOfStr tv)
  case atStart =>
    exact ⟨n, t, [], rs, rfl, rfl, Hrs.out, hsz, ⟨_, _, rfl, World.ownsRow_made w _ _ (Nat.le_refl _) (by unfold maxLen; omega) rfl⟩, (Below.refl _ _).alloc (Nat.le_refl _) _⟩
  case round =>
    obtain ⟨m, t', done, rest, rfl, hd, hrest, hsz', ⟨g, cap, rfl, hown⟩, hnx⟩ := hrel
    have hdl : done.length ≤ 1000 := by have := congrArg List.length hd; simp at this; omega
    have Hd := Lib.hid hd; clear hd
    by_cases h0 : 0 < t'.size
    · obtain ⟨hb, m', rest', hr1, hr2, hr3⟩ := rowsOf_step hrest h0
      clear hrest
      have hp1 := place_lit t' 44 44 (by decide) wr (by omega)
      have hp2 := place_lit (t'.extract 0 (placeOf t'.data.toList 44)) 32 32 (by decide) wr (by simp; omega)
      have he : placeOf t'.data.toList 44 ≤ t'.size := placeOf_le _ _ (by simp)
      generalize placeOf t'.data.toList 44 = e at *
      generalize placeOf (t'.extract 0 e).data.toList 32 = bl at *
      have Hp1 := Lib.hid hp1; clear hp1
      have Hp2 := Lib.hid hp2; clear hp2
      have Hr1 := Lib.hid hr1; clear hr1
      have Hr2 := Lib.hid hr2; clear hr2
      have Hr3 := Lib.hid hr3; clear hr3
      go_wp2_with fail
      (refine Hp1.out.mono ?_; rintro e1 w' ⟨rfl, rfl⟩)
      go_wp2_with fail
      (refine Hp2.out.mono ?_; rintro e1 w' ⟨rfl, rfl⟩)
      have hrow : (t'.extract 0 e).size = e := by simp; omega
      have hi1 : (0 : Int) ≤ (bl : Int) := by omega
      have hi2 : (bl : Int) ≤ (e : Int) := by omega
      have hi3 : (bl : Int) + 1 ≤ (e : Int) := by omega
      have hi4 : (0 : Int) ≤ (bl : Int) + 1 := by omega
      have hi5 : IntKind.i64.wrap ((bl : Int) + 1) = (bl : Int) + 1 := IntWalk.i64_in _ (by omega)
      go_wp2_with fail
      go_region_held3 (fun _ => True) (trivial)
        ((refine step_append_lies _ (by rfl) _ _ _ (by rfl) w.heap.size 111 i0 _ 2 32 Tryz.underlying108 hi hz0 hz1 hz2 rfl (by omega) (.slice (some ⟨g, 0, none⟩) done.length cap) done.length (rowCells done) (by rfl) ((hown.alloc _).drew) ⟨wr.heap.size, 0, none⟩ 1 1 [.string ((t'.extract 0 e).extract 0 bl), .string ((t'.extract 0 e).extract (bl + 1) e)] (by rfl) (by rfl) (World.news_of_block (cs := #[.string ((t'.extract 0 e).extract 0 bl), .string ((t'.extract 0 e).extract (bl + 1) e)]) (t := 111) (fr := (0, 0)) (heap_alloc_new wr _)) (by simp [Value.oneCell']) (by omega) (by unfold maxLen; omega) (by omega) (by have := hnx.size; simp; omega) (wr.heap.size + 1) (by simp) ?_; intro gg cc w1 hown1 hgrow hat hlt))
      have hbel : Below w.heap.size w w1 := by
        refine ((hnx.alloc hnx.size _).drew).grown hgrow (by have := hnx.size; simp; omega) ?_
        intro k hk
        have := hown.lt k hk
        omega
      clear hgrow hown hnx hi5 hrow
      by_cases hee : e = t'.size
      · have hee' : ((e : Int) == (t'.size : Int)) = true := by simp [hee]
        have Hee := Lib.hid hee; clear hee
        go_wp2_with fail
        go_ret
        refine ⟨gg, cc, ?_, ?_, hbel⟩
        · have := Hr2.out Hee.out
          rw [Hd.out, Hr1.out, this]; simp
        · have := Hr2.out Hee.out
          rw [Hd.out, Hr1.out, this]
          rw [rowCells_snoc]
          simpa using hown1
      · have hee' : ((e : Int) == (t'.size : Int)) = false := by simpa using fun h : (e : Int) = t'.size => hee (by omega)
        have hlt' : (e : Int) + 1 ≤ (t'.size : Int) := by omega
        have Hee := Lib.hid hee; clear hee
        go_wp2_with fail
        go_roundw
        case rel =>
          refine ⟨m', _, done ++ [_], rest', rfl, ?_, Hr3.out Hee.out, by simp; omega, ⟨gg, cc, by simp, by rw [rowCells_snoc]; simpa using hown1⟩, hbel⟩
          rw [Hd.out, Hr1.out]; simp
        case measure => simp [sizeOfStr]; omega
    · have hre := rowsOf_end hrest (by omega)
      clear hrest
      have Hre := Lib.hid hre; clear hre
      obtain h00 : t'.size = 0 := by omega
      go_wp2_with fail
      go_ret
      refine ⟨g, cap, ?_, ?_, hnx⟩
      · rw [Hd.out, Hre.out]; simp
      · rw [Hd.out, Hre.out]; simpa using hown
end Go.Proofs.YtbcnhcpgloncdaaGreatDoor
