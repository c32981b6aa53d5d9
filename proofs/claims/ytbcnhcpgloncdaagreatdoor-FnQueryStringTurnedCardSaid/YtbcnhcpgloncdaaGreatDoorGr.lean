/- The setters of a query_string query. -/
import Derived.Test.YtbcnhcpgloncdaaGreatDoorGq
namespace Go.Proofs.YtbcnhcpgloncdaaGreatDoor
open Go Go.RowKit Go.Maps

def n_field : ByteArray := ⟨#[102, 105, 101, 108, 100]⟩
def n_field_with_boost : ByteArray := ⟨#[102, 105, 101, 108, 100, 95, 119, 105, 116, 104, 95, 98, 111, 111, 115, 116]⟩
def n_allow_leading_wildcard : ByteArray := ⟨#[97, 108, 108, 111, 119, 95, 108, 101, 97, 100, 105, 110, 103, 95, 119, 105, 108, 100, 99, 97, 114, 100]⟩
def n_analyze_wildcard : ByteArray := ⟨#[97, 110, 97, 108, 121, 122, 101, 95, 119, 105, 108, 100, 99, 97, 114, 100]⟩
def n_analyzer : ByteArray := ⟨#[97, 110, 97, 108, 121, 122, 101, 114]⟩
def n_boost : ByteArray := ⟨#[98, 111, 111, 115, 116]⟩
def n_default_field : ByteArray := ⟨#[100, 101, 102, 97, 117, 108, 116, 95, 102, 105, 101, 108, 100]⟩
def n_default_operator : ByteArray := ⟨#[100, 101, 102, 97, 117, 108, 116, 95, 111, 112, 101, 114, 97, 116, 111, 114]⟩
def n_enable_position_increments : ByteArray := ⟨#[101, 110, 97, 98, 108, 101, 95, 112, 111, 115, 105, 116, 105, 111, 110, 95, 105, 110, 99, 114, 101, 109, 101, 110, 116, 115]⟩
def n_escape : ByteArray := ⟨#[101, 115, 99, 97, 112, 101]⟩
def n_fuzziness : ByteArray := ⟨#[102, 117, 122, 122, 105, 110, 101, 115, 115]⟩
def n_fuzzy_max_expansions : ByteArray := ⟨#[102, 117, 122, 122, 121, 95, 109, 97, 120, 95, 101, 120, 112, 97, 110, 115, 105, 111, 110, 115]⟩
def n_fuzzy_prefix_length : ByteArray := ⟨#[102, 117, 122, 122, 121, 95, 112, 114, 101, 102, 105, 120, 95, 108, 101, 110, 103, 116, 104]⟩
def n_fuzzy_rewrite : ByteArray := ⟨#[102, 117, 122, 122, 121, 95, 114, 101, 119, 114, 105, 116, 101]⟩
def n_lenient : ByteArray := ⟨#[108, 101, 110, 105, 101, 110, 116]⟩
def n_max_determinized_states : ByteArray := ⟨#[109, 97, 120, 95, 100, 101, 116, 101, 114, 109, 105, 110, 105, 122, 101, 100, 95, 115, 116, 97, 116, 101, 115]⟩
def n_minimum_should_match : ByteArray := ⟨#[109, 105, 110, 105, 109, 117, 109, 95, 115, 104, 111, 117, 108, 100, 95, 109, 97, 116, 99, 104]⟩
def n_phrase_slop : ByteArray := ⟨#[112, 104, 114, 97, 115, 101, 95, 115, 108, 111, 112]⟩
def n_quote_analyzer : ByteArray := ⟨#[113, 117, 111, 116, 101, 95, 97, 110, 97, 108, 121, 122, 101, 114]⟩
def n_quote_field_suffix : ByteArray := ⟨#[113, 117, 111, 116, 101, 95, 102, 105, 101, 108, 100, 95, 115, 117, 102, 102, 105, 120]⟩
def n_rewrite : ByteArray := ⟨#[114, 101, 119, 114, 105, 116, 101]⟩
def n_tie_breaker : ByteArray := ⟨#[116, 105, 101, 95, 98, 114, 101, 97, 107, 101, 114]⟩
def n_time_zone : ByteArray := ⟨#[116, 105, 109, 101, 95, 122, 111, 110, 101]⟩
def n_type : ByteArray := ⟨#[116, 121, 112, 101]⟩
def n__name : ByteArray := ⟨#[95, 110, 97, 109, 101]⟩

def wholes : List ByteArray := [n_fuzzy_max_expansions, n_fuzzy_prefix_length, n_max_determinized_states, n_phrase_slop]

/-- A setter has told the setting. -/
def SetPost (w : World) (h : Nat) (text : ByteArray) (done : List SetM) (e : Ending) (w' : World) : Prop :=
  e = .returned (.pointer (some ⟨h + 3, 0, none⟩)) ∧ QState w' h fkQS 28 132 text done ∧ Below (h + 1) w w'

theorem othersQS (j : Nat) (nm : ByteArray) (h : (List.range 28).all (fun i => decide (i = j) || !(fkQS i).by nm) = true) {s : SetM} (hs : s.name = nm) : ∀ i, i ≠ j → i < 28 → (fkQS i).by s.name = false := by
  intro i hi hlt
  have := List.all_eq_true.1 h i (List.mem_range.2 hlt)
  rw [hs]
  simpa [hi] using this

set_option maxRecDepth 100000 in
set_option maxHeartbeats 1000000 in
theorem set_allow_leading_wildcard (w : World) (h : Nat) (text : ByteArray) (done : List SetM) (s : SetM) (hs : s.name = n_allow_leading_wildcard) (hq : QState w h fkQS 28 132 text done) :
    Calls Tryz.prog 56 #[.pointer (some ⟨h + 3, 0, none⟩), .bool s.val.yes] w (SetPost w h text (done ++ [s])) := by
  obtain ⟨u, hc, _⟩ := hq.cell (j := 6) (by decide)
  have hf := hq.frozen 6
  have hlt := hq.lt
  have hne := Nat.ne_of_lt hlt
  have Hq := Lib.hid hq; clear hq
  have Hs := Lib.hid hs; clear hs
  go_enter Tryz.func56, Tryz.ntmps56
  go_wp2
  go_ret
  refine ⟨by simp, Hq.out.putNew s 6 _ _ (othersQS 6 n_allow_leading_wildcard (by decide +kernel) Hs.out) ?_, ((Below.refl _ _).setCell (by simp) _).alloc (by simp; omega) _⟩
  have e : lastOf (done ++ [s]) ⟨#[97, 108, 108, 111, 119, 95, 108, 101, 97, 100, 105, 110, 103, 95, 119, 105, 108, 100, 99, 97, 114, 100]⟩ = some s.val := by rw [lastOf_snoc, if_pos (show s.name = ⟨#[97, 108, 108, 111, 119, 95, 108, 101, 97, 100, 105, 110, 103, 95, 119, 105, 108, 100, 99, 97, 114, 100]⟩ from Hs.out)]
  simp only [FieldOK, fkQS, e]
  exact ⟨w.heap.size, rfl, by omega, ptr_new _ _ _ _ _⟩

set_option maxRecDepth 100000 in
set_option maxHeartbeats 1000000 in
theorem set_analyze_wildcard (w : World) (h : Nat) (text : ByteArray) (done : List SetM) (s : SetM) (hs : s.name = n_analyze_wildcard) (hq : QState w h fkQS 28 132 text done) :
    Calls Tryz.prog 57 #[.pointer (some ⟨h + 3, 0, none⟩), .bool s.val.yes] w (SetPost w h text (done ++ [s])) := by
  obtain ⟨u, hc, _⟩ := hq.cell (j := 9) (by decide)
  have hf := hq.frozen 9
  have hlt := hq.lt
  have hne := Nat.ne_of_lt hlt
  have Hq := Lib.hid hq; clear hq
  have Hs := Lib.hid hs; clear hs
  go_enter Tryz.func57, Tryz.ntmps57
  go_wp2
  go_ret
  refine ⟨by simp, Hq.out.putNew s 9 _ _ (othersQS 9 n_analyze_wildcard (by decide +kernel) Hs.out) ?_, ((Below.refl _ _).setCell (by simp) _).alloc (by simp; omega) _⟩
  have e : lastOf (done ++ [s]) ⟨#[97, 110, 97, 108, 121, 122, 101, 95, 119, 105, 108, 100, 99, 97, 114, 100]⟩ = some s.val := by rw [lastOf_snoc, if_pos (show s.name = ⟨#[97, 110, 97, 108, 121, 122, 101, 95, 119, 105, 108, 100, 99, 97, 114, 100]⟩ from Hs.out)]
  simp only [FieldOK, fkQS, e]
  exact ⟨w.heap.size, rfl, by omega, ptr_new _ _ _ _ _⟩

set_option maxRecDepth 100000 in
set_option maxHeartbeats 1000000 in
theorem set_analyzer (w : World) (h : Nat) (text : ByteArray) (done : List SetM) (s : SetM) (hs : s.name = n_analyzer) (hq : QState w h fkQS 28 132 text done) :
    Calls Tryz.prog 58 #[.pointer (some ⟨h + 3, 0, none⟩), .string s.val.text] w (SetPost w h text (done ++ [s])) := by
  obtain ⟨u, hc, _⟩ := hq.cell (j := 3) (by decide)
  have hf := hq.frozen 3
  have hlt := hq.lt
  have hne := Nat.ne_of_lt hlt
  have Hq := Lib.hid hq; clear hq
  have Hs := Lib.hid hs; clear hs
  go_enter Tryz.func58, Tryz.ntmps58
  go_wp2
  go_ret
  refine ⟨by simp, Hq.out.put s 3 _ (othersQS 3 n_analyzer (by decide +kernel) Hs.out) ?_, (Below.refl _ _).setCell (by simp) _⟩
  have e : lastOf (done ++ [s]) ⟨#[97, 110, 97, 108, 121, 122, 101, 114]⟩ = some s.val := by rw [lastOf_snoc, if_pos (show s.name = ⟨#[97, 110, 97, 108, 121, 122, 101, 114]⟩ from Hs.out)]
  simp [FieldOK, fkQS, e]

set_option maxRecDepth 100000 in
set_option maxHeartbeats 1000000 in
theorem set_boost (w : World) (h : Nat) (text : ByteArray) (done : List SetM) (s : SetM) (hs : s.name = n_boost) (hq : QState w h fkQS 28 132 text done) :
    Calls Tryz.prog 59 #[.pointer (some ⟨h + 3, 0, none⟩), .float .f64 s.val.num] w (SetPost w h text (done ++ [s])) := by
  obtain ⟨u, hc, _⟩ := hq.cell (j := 11) (by decide)
  have hf := hq.frozen 11
  have hlt := hq.lt
  have hne := Nat.ne_of_lt hlt
  have Hq := Lib.hid hq; clear hq
  have Hs := Lib.hid hs; clear hs
  go_enter Tryz.func59, Tryz.ntmps59
  go_wp2
  go_ret
  refine ⟨by simp, Hq.out.putNew s 11 _ _ (othersQS 11 n_boost (by decide +kernel) Hs.out) ?_, ((Below.refl _ _).setCell (by simp) _).alloc (by simp; omega) _⟩
  have e : lastOf (done ++ [s]) ⟨#[98, 111, 111, 115, 116]⟩ = some s.val := by rw [lastOf_snoc, if_pos (show s.name = ⟨#[98, 111, 111, 115, 116]⟩ from Hs.out)]
  simp only [FieldOK, fkQS, e]
  exact ⟨w.heap.size, rfl, by omega, ptr_new _ _ _ _ _⟩

set_option maxRecDepth 100000 in
set_option maxHeartbeats 1000000 in
theorem set_default_field (w : World) (h : Nat) (text : ByteArray) (done : List SetM) (s : SetM) (hs : s.name = n_default_field) (hq : QState w h fkQS 28 132 text done) :
    Calls Tryz.prog 60 #[.pointer (some ⟨h + 3, 0, none⟩), .string s.val.text] w (SetPost w h text (done ++ [s])) := by
  obtain ⟨u, hc, _⟩ := hq.cell (j := 1) (by decide)
  have hf := hq.frozen 1
  have hlt := hq.lt
  have hne := Nat.ne_of_lt hlt
  have Hq := Lib.hid hq; clear hq
  have Hs := Lib.hid hs; clear hs
  go_enter Tryz.func60, Tryz.ntmps60
  go_wp2
  go_ret
  refine ⟨by simp, Hq.out.put s 1 _ (othersQS 1 n_default_field (by decide +kernel) Hs.out) ?_, (Below.refl _ _).setCell (by simp) _⟩
  have e : lastOf (done ++ [s]) ⟨#[100, 101, 102, 97, 117, 108, 116, 95, 102, 105, 101, 108, 100]⟩ = some s.val := by rw [lastOf_snoc, if_pos (show s.name = ⟨#[100, 101, 102, 97, 117, 108, 116, 95, 102, 105, 101, 108, 100]⟩ from Hs.out)]
  simp [FieldOK, fkQS, e]

set_option maxRecDepth 100000 in
set_option maxHeartbeats 1000000 in
theorem set_default_operator (w : World) (h : Nat) (text : ByteArray) (done : List SetM) (s : SetM) (hs : s.name = n_default_operator) (hq : QState w h fkQS 28 132 text done) :
    Calls Tryz.prog 61 #[.pointer (some ⟨h + 3, 0, none⟩), .string s.val.text] w (SetPost w h text (done ++ [s])) := by
  obtain ⟨u, hc, _⟩ := hq.cell (j := 2) (by decide)
  have hf := hq.frozen 2
  have hlt := hq.lt
  have hne := Nat.ne_of_lt hlt
  have Hq := Lib.hid hq; clear hq
  have Hs := Lib.hid hs; clear hs
  go_enter Tryz.func61, Tryz.ntmps61
  go_wp2
  go_ret
  refine ⟨by simp, Hq.out.put s 2 _ (othersQS 2 n_default_operator (by decide +kernel) Hs.out) ?_, (Below.refl _ _).setCell (by simp) _⟩
  have e : lastOf (done ++ [s]) ⟨#[100, 101, 102, 97, 117, 108, 116, 95, 111, 112, 101, 114, 97, 116, 111, 114]⟩ = some s.val := by rw [lastOf_snoc, if_pos (show s.name = ⟨#[100, 101, 102, 97, 117, 108, 116, 95, 111, 112, 101, 114, 97, 116, 111, 114]⟩ from Hs.out)]
  simp [FieldOK, fkQS, e]

set_option maxRecDepth 100000 in
set_option maxHeartbeats 1000000 in
theorem set_enable_position_increments (w : World) (h : Nat) (text : ByteArray) (done : List SetM) (s : SetM) (hs : s.name = n_enable_position_increments) (hq : QState w h fkQS 28 132 text done) :
    Calls Tryz.prog 62 #[.pointer (some ⟨h + 3, 0, none⟩), .bool s.val.yes] w (SetPost w h text (done ++ [s])) := by
  obtain ⟨u, hc, _⟩ := hq.cell (j := 8) (by decide)
  have hf := hq.frozen 8
  have hlt := hq.lt
  have hne := Nat.ne_of_lt hlt
  have Hq := Lib.hid hq; clear hq
  have Hs := Lib.hid hs; clear hs
  go_enter Tryz.func62, Tryz.ntmps62
  go_wp2
  go_ret
  refine ⟨by simp, Hq.out.putNew s 8 _ _ (othersQS 8 n_enable_position_increments (by decide +kernel) Hs.out) ?_, ((Below.refl _ _).setCell (by simp) _).alloc (by simp; omega) _⟩
  have e : lastOf (done ++ [s]) ⟨#[101, 110, 97, 98, 108, 101, 95, 112, 111, 115, 105, 116, 105, 111, 110, 95, 105, 110, 99, 114, 101, 109, 101, 110, 116, 115]⟩ = some s.val := by rw [lastOf_snoc, if_pos (show s.name = ⟨#[101, 110, 97, 98, 108, 101, 95, 112, 111, 115, 105, 116, 105, 111, 110, 95, 105, 110, 99, 114, 101, 109, 101, 110, 116, 115]⟩ from Hs.out)]
  simp only [FieldOK, fkQS, e]
  exact ⟨w.heap.size, rfl, by omega, ptr_new _ _ _ _ _⟩

set_option maxRecDepth 100000 in
set_option maxHeartbeats 1000000 in
theorem set_escape (w : World) (h : Nat) (text : ByteArray) (done : List SetM) (s : SetM) (hs : s.name = n_escape) (hq : QState w h fkQS 28 132 text done) :
    Calls Tryz.prog 63 #[.pointer (some ⟨h + 3, 0, none⟩), .bool s.val.yes] w (SetPost w h text (done ++ [s])) := by
  obtain ⟨u, hc, _⟩ := hq.cell (j := 26) (by decide)
  have hf := hq.frozen 26
  have hlt := hq.lt
  have hne := Nat.ne_of_lt hlt
  have Hq := Lib.hid hq; clear hq
  have Hs := Lib.hid hs; clear hs
  go_enter Tryz.func63, Tryz.ntmps63
  go_wp2
  go_ret
  refine ⟨by simp, Hq.out.putNew s 26 _ _ (othersQS 26 n_escape (by decide +kernel) Hs.out) ?_, ((Below.refl _ _).setCell (by simp) _).alloc (by simp; omega) _⟩
  have e : lastOf (done ++ [s]) ⟨#[101, 115, 99, 97, 112, 101]⟩ = some s.val := by rw [lastOf_snoc, if_pos (show s.name = ⟨#[101, 115, 99, 97, 112, 101]⟩ from Hs.out)]
  simp only [FieldOK, fkQS, e]
  exact ⟨w.heap.size, rfl, by omega, ptr_new _ _ _ _ _⟩

set_option maxRecDepth 100000 in
set_option maxHeartbeats 1000000 in
theorem set_fuzziness (w : World) (h : Nat) (text : ByteArray) (done : List SetM) (s : SetM) (hs : s.name = n_fuzziness) (hq : QState w h fkQS 28 132 text done) :
    Calls Tryz.prog 64 #[.pointer (some ⟨h + 3, 0, none⟩), .string s.val.text] w (SetPost w h text (done ++ [s])) := by
  obtain ⟨u, hc, _⟩ := hq.cell (j := 12) (by decide)
  have hf := hq.frozen 12
  have hlt := hq.lt
  have hne := Nat.ne_of_lt hlt
  have Hq := Lib.hid hq; clear hq
  have Hs := Lib.hid hs; clear hs
  go_enter Tryz.func64, Tryz.ntmps64
  go_wp2
  go_ret
  refine ⟨by simp, Hq.out.put s 12 _ (othersQS 12 n_fuzziness (by decide +kernel) Hs.out) ?_, (Below.refl _ _).setCell (by simp) _⟩
  have e : lastOf (done ++ [s]) ⟨#[102, 117, 122, 122, 105, 110, 101, 115, 115]⟩ = some s.val := by rw [lastOf_snoc, if_pos (show s.name = ⟨#[102, 117, 122, 122, 105, 110, 101, 115, 115]⟩ from Hs.out)]
  simp [FieldOK, fkQS, e]

set_option maxRecDepth 100000 in
set_option maxHeartbeats 1000000 in
theorem set_fuzzy_max_expansions (w : World) (h : Nat) (text : ByteArray) (done : List SetM) (s : SetM) (hs : s.name = n_fuzzy_max_expansions) (hq : QState w h fkQS 28 132 text done) :
    Calls Tryz.prog 65 #[.pointer (some ⟨h + 3, 0, none⟩), .int .i64 (toI s.val.num)] w (SetPost w h text (done ++ [s])) := by
  obtain ⟨u, hc, _⟩ := hq.cell (j := 14) (by decide)
  have hf := hq.frozen 14
  have hlt := hq.lt
  have hne := Nat.ne_of_lt hlt
  have Hq := Lib.hid hq; clear hq
  have Hs := Lib.hid hs; clear hs
  go_enter Tryz.func65, Tryz.ntmps65
  go_wp2
  go_ret
  refine ⟨by simp, Hq.out.putNew s 14 _ _ (othersQS 14 n_fuzzy_max_expansions (by decide +kernel) Hs.out) ?_, ((Below.refl _ _).setCell (by simp) _).alloc (by simp; omega) _⟩
  have e : lastOf (done ++ [s]) ⟨#[102, 117, 122, 122, 121, 95, 109, 97, 120, 95, 101, 120, 112, 97, 110, 115, 105, 111, 110, 115]⟩ = some s.val := by rw [lastOf_snoc, if_pos (show s.name = ⟨#[102, 117, 122, 122, 121, 95, 109, 97, 120, 95, 101, 120, 112, 97, 110, 115, 105, 111, 110, 115]⟩ from Hs.out)]
  simp only [FieldOK, fkQS, e]
  exact ⟨w.heap.size, rfl, by omega, ptr_new _ _ _ _ _⟩

set_option maxRecDepth 100000 in
set_option maxHeartbeats 1000000 in
theorem set_fuzzy_prefix_length (w : World) (h : Nat) (text : ByteArray) (done : List SetM) (s : SetM) (hs : s.name = n_fuzzy_prefix_length) (hq : QState w h fkQS 28 132 text done) :
    Calls Tryz.prog 66 #[.pointer (some ⟨h + 3, 0, none⟩), .int .i64 (toI s.val.num)] w (SetPost w h text (done ++ [s])) := by
  obtain ⟨u, hc, _⟩ := hq.cell (j := 13) (by decide)
  have hf := hq.frozen 13
  have hlt := hq.lt
  have hne := Nat.ne_of_lt hlt
  have Hq := Lib.hid hq; clear hq
  have Hs := Lib.hid hs; clear hs
  go_enter Tryz.func66, Tryz.ntmps66
  go_wp2
  go_ret
  refine ⟨by simp, Hq.out.putNew s 13 _ _ (othersQS 13 n_fuzzy_prefix_length (by decide +kernel) Hs.out) ?_, ((Below.refl _ _).setCell (by simp) _).alloc (by simp; omega) _⟩
  have e : lastOf (done ++ [s]) ⟨#[102, 117, 122, 122, 121, 95, 112, 114, 101, 102, 105, 120, 95, 108, 101, 110, 103, 116, 104]⟩ = some s.val := by rw [lastOf_snoc, if_pos (show s.name = ⟨#[102, 117, 122, 122, 121, 95, 112, 114, 101, 102, 105, 120, 95, 108, 101, 110, 103, 116, 104]⟩ from Hs.out)]
  simp only [FieldOK, fkQS, e]
  exact ⟨w.heap.size, rfl, by omega, ptr_new _ _ _ _ _⟩

set_option maxRecDepth 100000 in
set_option maxHeartbeats 1000000 in
theorem set_fuzzy_rewrite (w : World) (h : Nat) (text : ByteArray) (done : List SetM) (s : SetM) (hs : s.name = n_fuzzy_rewrite) (hq : QState w h fkQS 28 132 text done) :
    Calls Tryz.prog 67 #[.pointer (some ⟨h + 3, 0, none⟩), .string s.val.text] w (SetPost w h text (done ++ [s])) := by
  obtain ⟨u, hc, _⟩ := hq.cell (j := 15) (by decide)
  have hf := hq.frozen 15
  have hlt := hq.lt
  have hne := Nat.ne_of_lt hlt
  have Hq := Lib.hid hq; clear hq
  have Hs := Lib.hid hs; clear hs
  go_enter Tryz.func67, Tryz.ntmps67
  go_wp2
  go_ret
  refine ⟨by simp, Hq.out.put s 15 _ (othersQS 15 n_fuzzy_rewrite (by decide +kernel) Hs.out) ?_, (Below.refl _ _).setCell (by simp) _⟩
  have e : lastOf (done ++ [s]) ⟨#[102, 117, 122, 122, 121, 95, 114, 101, 119, 114, 105, 116, 101]⟩ = some s.val := by rw [lastOf_snoc, if_pos (show s.name = ⟨#[102, 117, 122, 122, 121, 95, 114, 101, 119, 114, 105, 116, 101]⟩ from Hs.out)]
  simp [FieldOK, fkQS, e]

set_option maxRecDepth 100000 in
set_option maxHeartbeats 1000000 in
theorem set_lenient (w : World) (h : Nat) (text : ByteArray) (done : List SetM) (s : SetM) (hs : s.name = n_lenient) (hq : QState w h fkQS 28 132 text done) :
    Calls Tryz.prog 68 #[.pointer (some ⟨h + 3, 0, none⟩), .bool s.val.yes] w (SetPost w h text (done ++ [s])) := by
  obtain ⟨u, hc, _⟩ := hq.cell (j := 22) (by decide)
  have hf := hq.frozen 22
  have hlt := hq.lt
  have hne := Nat.ne_of_lt hlt
  have Hq := Lib.hid hq; clear hq
  have Hs := Lib.hid hs; clear hs
  go_enter Tryz.func68, Tryz.ntmps68
  go_wp2
  go_ret
  refine ⟨by simp, Hq.out.putNew s 22 _ _ (othersQS 22 n_lenient (by decide +kernel) Hs.out) ?_, ((Below.refl _ _).setCell (by simp) _).alloc (by simp; omega) _⟩
  have e : lastOf (done ++ [s]) ⟨#[108, 101, 110, 105, 101, 110, 116]⟩ = some s.val := by rw [lastOf_snoc, if_pos (show s.name = ⟨#[108, 101, 110, 105, 101, 110, 116]⟩ from Hs.out)]
  simp only [FieldOK, fkQS, e]
  exact ⟨w.heap.size, rfl, by omega, ptr_new _ _ _ _ _⟩

set_option maxRecDepth 100000 in
set_option maxHeartbeats 1000000 in
theorem set_max_determinized_states (w : World) (h : Nat) (text : ByteArray) (done : List SetM) (s : SetM) (hs : s.name = n_max_determinized_states) (hq : QState w h fkQS 28 132 text done) :
    Calls Tryz.prog 69 #[.pointer (some ⟨h + 3, 0, none⟩), .int .i64 (toI s.val.num)] w (SetPost w h text (done ++ [s])) := by
  obtain ⟨u, hc, _⟩ := hq.cell (j := 25) (by decide)
  have hf := hq.frozen 25
  have hlt := hq.lt
  have hne := Nat.ne_of_lt hlt
  have Hq := Lib.hid hq; clear hq
  have Hs := Lib.hid hs; clear hs
  go_enter Tryz.func69, Tryz.ntmps69
  go_wp2
  go_ret
  refine ⟨by simp, Hq.out.putNew s 25 _ _ (othersQS 25 n_max_determinized_states (by decide +kernel) Hs.out) ?_, ((Below.refl _ _).setCell (by simp) _).alloc (by simp; omega) _⟩
  have e : lastOf (done ++ [s]) ⟨#[109, 97, 120, 95, 100, 101, 116, 101, 114, 109, 105, 110, 105, 122, 101, 100, 95, 115, 116, 97, 116, 101, 115]⟩ = some s.val := by rw [lastOf_snoc, if_pos (show s.name = ⟨#[109, 97, 120, 95, 100, 101, 116, 101, 114, 109, 105, 110, 105, 122, 101, 100, 95, 115, 116, 97, 116, 101, 115]⟩ from Hs.out)]
  simp only [FieldOK, fkQS, e]
  exact ⟨w.heap.size, rfl, by omega, ptr_new _ _ _ _ _⟩

set_option maxRecDepth 100000 in
set_option maxHeartbeats 1000000 in
theorem set_minimum_should_match (w : World) (h : Nat) (text : ByteArray) (done : List SetM) (s : SetM) (hs : s.name = n_minimum_should_match) (hq : QState w h fkQS 28 132 text done) :
    Calls Tryz.prog 70 #[.pointer (some ⟨h + 3, 0, none⟩), .string s.val.text] w (SetPost w h text (done ++ [s])) := by
  obtain ⟨u, hc, _⟩ := hq.cell (j := 21) (by decide)
  have hf := hq.frozen 21
  have hlt := hq.lt
  have hne := Nat.ne_of_lt hlt
  have Hq := Lib.hid hq; clear hq
  have Hs := Lib.hid hs; clear hs
  go_enter Tryz.func70, Tryz.ntmps70
  go_wp2
  go_ret
  refine ⟨by simp, Hq.out.put s 21 _ (othersQS 21 n_minimum_should_match (by decide +kernel) Hs.out) ?_, (Below.refl _ _).setCell (by simp) _⟩
  have e : lastOf (done ++ [s]) ⟨#[109, 105, 110, 105, 109, 117, 109, 95, 115, 104, 111, 117, 108, 100, 95, 109, 97, 116, 99, 104]⟩ = some s.val := by rw [lastOf_snoc, if_pos (show s.name = ⟨#[109, 105, 110, 105, 109, 117, 109, 95, 115, 104, 111, 117, 108, 100, 95, 109, 97, 116, 99, 104]⟩ from Hs.out)]
  simp [FieldOK, fkQS, e]

set_option maxRecDepth 100000 in
set_option maxHeartbeats 1000000 in
theorem set_phrase_slop (w : World) (h : Nat) (text : ByteArray) (done : List SetM) (s : SetM) (hs : s.name = n_phrase_slop) (hq : QState w h fkQS 28 132 text done) :
    Calls Tryz.prog 71 #[.pointer (some ⟨h + 3, 0, none⟩), .int .i64 (toI s.val.num)] w (SetPost w h text (done ++ [s])) := by
  obtain ⟨u, hc, _⟩ := hq.cell (j := 16) (by decide)
  have hf := hq.frozen 16
  have hlt := hq.lt
  have hne := Nat.ne_of_lt hlt
  have Hq := Lib.hid hq; clear hq
  have Hs := Lib.hid hs; clear hs
  go_enter Tryz.func71, Tryz.ntmps71
  go_wp2
  go_ret
  refine ⟨by simp, Hq.out.putNew s 16 _ _ (othersQS 16 n_phrase_slop (by decide +kernel) Hs.out) ?_, ((Below.refl _ _).setCell (by simp) _).alloc (by simp; omega) _⟩
  have e : lastOf (done ++ [s]) ⟨#[112, 104, 114, 97, 115, 101, 95, 115, 108, 111, 112]⟩ = some s.val := by rw [lastOf_snoc, if_pos (show s.name = ⟨#[112, 104, 114, 97, 115, 101, 95, 115, 108, 111, 112]⟩ from Hs.out)]
  simp only [FieldOK, fkQS, e]
  exact ⟨w.heap.size, rfl, by omega, ptr_new _ _ _ _ _⟩

set_option maxRecDepth 100000 in
set_option maxHeartbeats 1000000 in
theorem set_quote_analyzer (w : World) (h : Nat) (text : ByteArray) (done : List SetM) (s : SetM) (hs : s.name = n_quote_analyzer) (hq : QState w h fkQS 28 132 text done) :
    Calls Tryz.prog 72 #[.pointer (some ⟨h + 3, 0, none⟩), .string s.val.text] w (SetPost w h text (done ++ [s])) := by
  obtain ⟨u, hc, _⟩ := hq.cell (j := 4) (by decide)
  have hf := hq.frozen 4
  have hlt := hq.lt
  have hne := Nat.ne_of_lt hlt
  have Hq := Lib.hid hq; clear hq
  have Hs := Lib.hid hs; clear hs
  go_enter Tryz.func72, Tryz.ntmps72
  go_wp2
  go_ret
  refine ⟨by simp, Hq.out.put s 4 _ (othersQS 4 n_quote_analyzer (by decide +kernel) Hs.out) ?_, (Below.refl _ _).setCell (by simp) _⟩
  have e : lastOf (done ++ [s]) ⟨#[113, 117, 111, 116, 101, 95, 97, 110, 97, 108, 121, 122, 101, 114]⟩ = some s.val := by rw [lastOf_snoc, if_pos (show s.name = ⟨#[113, 117, 111, 116, 101, 95, 97, 110, 97, 108, 121, 122, 101, 114]⟩ from Hs.out)]
  simp [FieldOK, fkQS, e]

set_option maxRecDepth 100000 in
set_option maxHeartbeats 1000000 in
theorem set_quote_field_suffix (w : World) (h : Nat) (text : ByteArray) (done : List SetM) (s : SetM) (hs : s.name = n_quote_field_suffix) (hq : QState w h fkQS 28 132 text done) :
    Calls Tryz.prog 73 #[.pointer (some ⟨h + 3, 0, none⟩), .string s.val.text] w (SetPost w h text (done ++ [s])) := by
  obtain ⟨u, hc, _⟩ := hq.cell (j := 5) (by decide)
  have hf := hq.frozen 5
  have hlt := hq.lt
  have hne := Nat.ne_of_lt hlt
  have Hq := Lib.hid hq; clear hq
  have Hs := Lib.hid hs; clear hs
  go_enter Tryz.func73, Tryz.ntmps73
  go_wp2
  go_ret
  refine ⟨by simp, Hq.out.put s 5 _ (othersQS 5 n_quote_field_suffix (by decide +kernel) Hs.out) ?_, (Below.refl _ _).setCell (by simp) _⟩
  have e : lastOf (done ++ [s]) ⟨#[113, 117, 111, 116, 101, 95, 102, 105, 101, 108, 100, 95, 115, 117, 102, 102, 105, 120]⟩ = some s.val := by rw [lastOf_snoc, if_pos (show s.name = ⟨#[113, 117, 111, 116, 101, 95, 102, 105, 101, 108, 100, 95, 115, 117, 102, 102, 105, 120]⟩ from Hs.out)]
  simp [FieldOK, fkQS, e]

set_option maxRecDepth 100000 in
set_option maxHeartbeats 1000000 in
theorem set_rewrite (w : World) (h : Nat) (text : ByteArray) (done : List SetM) (s : SetM) (hs : s.name = n_rewrite) (hq : QState w h fkQS 28 132 text done) :
    Calls Tryz.prog 74 #[.pointer (some ⟨h + 3, 0, none⟩), .string s.val.text] w (SetPost w h text (done ++ [s])) := by
  obtain ⟨u, hc, _⟩ := hq.cell (j := 20) (by decide)
  have hf := hq.frozen 20
  have hlt := hq.lt
  have hne := Nat.ne_of_lt hlt
  have Hq := Lib.hid hq; clear hq
  have Hs := Lib.hid hs; clear hs
  go_enter Tryz.func74, Tryz.ntmps74
  go_wp2
  go_ret
  refine ⟨by simp, Hq.out.put s 20 _ (othersQS 20 n_rewrite (by decide +kernel) Hs.out) ?_, (Below.refl _ _).setCell (by simp) _⟩
  have e : lastOf (done ++ [s]) ⟨#[114, 101, 119, 114, 105, 116, 101]⟩ = some s.val := by rw [lastOf_snoc, if_pos (show s.name = ⟨#[114, 101, 119, 114, 105, 116, 101]⟩ from Hs.out)]
  simp [FieldOK, fkQS, e]

set_option maxRecDepth 100000 in
set_option maxHeartbeats 1000000 in
theorem set_tie_breaker (w : World) (h : Nat) (text : ByteArray) (done : List SetM) (s : SetM) (hs : s.name = n_tie_breaker) (hq : QState w h fkQS 28 132 text done) :
    Calls Tryz.prog 75 #[.pointer (some ⟨h + 3, 0, none⟩), .float .f64 s.val.num] w (SetPost w h text (done ++ [s])) := by
  obtain ⟨u, hc, _⟩ := hq.cell (j := 19) (by decide)
  have hf := hq.frozen 19
  have hlt := hq.lt
  have hne := Nat.ne_of_lt hlt
  have Hq := Lib.hid hq; clear hq
  have Hs := Lib.hid hs; clear hs
  go_enter Tryz.func75, Tryz.ntmps75
  go_wp2
  go_ret
  refine ⟨by simp, Hq.out.putNew s 19 _ _ (othersQS 19 n_tie_breaker (by decide +kernel) Hs.out) ?_, ((Below.refl _ _).setCell (by simp) _).alloc (by simp; omega) _⟩
  have e : lastOf (done ++ [s]) ⟨#[116, 105, 101, 95, 98, 114, 101, 97, 107, 101, 114]⟩ = some s.val := by rw [lastOf_snoc, if_pos (show s.name = ⟨#[116, 105, 101, 95, 98, 114, 101, 97, 107, 101, 114]⟩ from Hs.out)]
  simp only [FieldOK, fkQS, e]
  exact ⟨w.heap.size, rfl, by omega, ptr_new _ _ _ _ _⟩

set_option maxRecDepth 100000 in
set_option maxHeartbeats 1000000 in
theorem set_time_zone (w : World) (h : Nat) (text : ByteArray) (done : List SetM) (s : SetM) (hs : s.name = n_time_zone) (hq : QState w h fkQS 28 132 text done) :
    Calls Tryz.prog 76 #[.pointer (some ⟨h + 3, 0, none⟩), .string s.val.text] w (SetPost w h text (done ++ [s])) := by
  obtain ⟨u, hc, _⟩ := hq.cell (j := 24) (by decide)
  have hf := hq.frozen 24
  have hlt := hq.lt
  have hne := Nat.ne_of_lt hlt
  have Hq := Lib.hid hq; clear hq
  have Hs := Lib.hid hs; clear hs
  go_enter Tryz.func76, Tryz.ntmps76
  go_wp2
  go_ret
  refine ⟨by simp, Hq.out.put s 24 _ (othersQS 24 n_time_zone (by decide +kernel) Hs.out) ?_, (Below.refl _ _).setCell (by simp) _⟩
  have e : lastOf (done ++ [s]) ⟨#[116, 105, 109, 101, 95, 122, 111, 110, 101]⟩ = some s.val := by rw [lastOf_snoc, if_pos (show s.name = ⟨#[116, 105, 109, 101, 95, 122, 111, 110, 101]⟩ from Hs.out)]
  simp [FieldOK, fkQS, e]

set_option maxRecDepth 100000 in
set_option maxHeartbeats 1000000 in
theorem set_type (w : World) (h : Nat) (text : ByteArray) (done : List SetM) (s : SetM) (hs : s.name = n_type) (hq : QState w h fkQS 28 132 text done) :
    Calls Tryz.prog 77 #[.pointer (some ⟨h + 3, 0, none⟩), .string s.val.text] w (SetPost w h text (done ++ [s])) := by
  obtain ⟨u, hc, _⟩ := hq.cell (j := 27) (by decide)
  have hf := hq.frozen 27
  have hlt := hq.lt
  have hne := Nat.ne_of_lt hlt
  have Hq := Lib.hid hq; clear hq
  have Hs := Lib.hid hs; clear hs
  go_enter Tryz.func77, Tryz.ntmps77
  go_wp2
  go_ret
  refine ⟨by simp, Hq.out.put s 27 _ (othersQS 27 n_type (by decide +kernel) Hs.out) ?_, (Below.refl _ _).setCell (by simp) _⟩
  have e : lastOf (done ++ [s]) ⟨#[116, 121, 112, 101]⟩ = some s.val := by rw [lastOf_snoc, if_pos (show s.name = ⟨#[116, 121, 112, 101]⟩ from Hs.out)]
  simp [FieldOK, fkQS, e]

set_option maxRecDepth 100000 in
set_option maxHeartbeats 1000000 in
theorem set__name (w : World) (h : Nat) (text : ByteArray) (done : List SetM) (s : SetM) (hs : s.name = n__name) (hq : QState w h fkQS 28 132 text done) :
    Calls Tryz.prog 78 #[.pointer (some ⟨h + 3, 0, none⟩), .string s.val.text] w (SetPost w h text (done ++ [s])) := by
  obtain ⟨u, hc, _⟩ := hq.cell (j := 23) (by decide)
  have hf := hq.frozen 23
  have hlt := hq.lt
  have hne := Nat.ne_of_lt hlt
  have Hq := Lib.hid hq; clear hq
  have Hs := Lib.hid hs; clear hs
  go_enter Tryz.func78, Tryz.ntmps78
  go_wp2
  go_ret
  refine ⟨by simp, Hq.out.put s 23 _ (othersQS 23 n__name (by decide +kernel) Hs.out) ?_, (Below.refl _ _).setCell (by simp) _⟩
  have e : lastOf (done ++ [s]) ⟨#[95, 110, 97, 109, 101]⟩ = some s.val := by rw [lastOf_snoc, if_pos (show s.name = ⟨#[95, 110, 97, 109, 101]⟩ from Hs.out)]
  simp [FieldOK, fkQS, e]
end Go.Proofs.YtbcnhcpgloncdaaGreatDoor
