/- 'Field': which texts can be the names of fields. -/
import Derived.Test.YtbcnhcpgloncdaaGreatDoorGd
namespace Go.Proofs.YtbcnhcpgloncdaaGreatDoor
open Go Go.RowKit

def names7 : List ByteArray := [⟨#[98, 111, 111, 115, 116]⟩, ⟨#[116, 121, 112, 101]⟩, ⟨#[100, 105, 115, 116, 97, 110, 99, 101]⟩, ⟨#[100, 105, 115, 116, 97, 110, 99, 101, 95, 116, 121, 112, 101]⟩, ⟨#[118, 97, 108, 105, 100, 97, 116, 105, 111, 110, 95, 109, 101, 116, 104, 111, 100]⟩, ⟨#[105, 103, 110, 111, 114, 101, 95, 117, 110, 109, 97, 112, 112, 101, 100]⟩, ⟨#[109, 117, 108, 116, 105, 95, 118, 97, 108, 117, 101, 95, 109, 111, 100, 101]⟩]

/-- Can a text be the name of a field? -/
def fieldB (s : ByteArray) : Bool :=
  if s.size = 0 then false else if s.data.toList.head? = some 95 then false else if placeOf s.data.toList 94 < s.size then false else !memB s names7

set_option maxRecDepth 100000 in
set_option maxHeartbeats 1000000 in
theorem field_any (s : ByteArray) (w : World) (hs : s.size ≤ 9223372036854775807) : Calls Tryz.prog 24 #[.string s] w fun e w' => e = .returned (.bool (fieldB s)) ∧ Below w.heap.size w w' := by
  by_cases h0 : s.size = 0
  · have hf : fieldB s = false := by simp [fieldB, h0]
    rw [hf]; clear hf
    obtain rfl : s = ⟨#[]⟩ := by
      apply WideShapes.bytes_inj
      exact List.eq_nil_of_length_eq_zero (by simpa using h0)
    clear h0
    go_enter Tryz.func24, Tryz.ntmps24
    go_wp2_with fail
    go_ret
    exact ⟨by simp, Below.refl _ _⟩
  · have hpos : 0 < s.size := by omega
    have hne : s.toList.isEmpty = false := by
      rw [bs_isEmpty]; simp; rintro rfl; exact h0 rfl
    have hh : s.data.toList.head? = some s[0] := by
      rw [List.head?_eq_getElem?]; simp [hpos]; rfl
    by_cases h1 : s[0] = 95
    · have hf : fieldB s = false := by simp [fieldB, h0, hh, h1]
      rw [hf]; clear hf hh h0
      have h1' : (((s[0].toNat : Nat) : Int) == 95) = true := by rw [h1]; decide
      clear h1
      go_enter Tryz.func24, Tryz.ntmps24
      go_wp2_with fail
      go_ret
      exact ⟨by simp, Below.refl _ _⟩
    · have h1' : (((s[0].toNat : Nat) : Int) == 95) = false := by
        rw [beq_eq_false_iff_ne]; intro e; apply h1; apply UInt8.toNat_inj.1; have : (95 : UInt8).toNat = 95 := by decide
        omega
      have hp := place_lit s 94 94 (by decide) w hs
      by_cases h2 : placeOf s.data.toList 94 < s.size
      · have hf : fieldB s = false := by simp [fieldB, h0, hh, h1, h2]
        rw [hf]; clear hf hh h0 h1
        generalize placeOf s.data.toList 94 = k at *
        have Hp := Lib.hid hp; clear hp
        go_enter Tryz.func24, Tryz.ntmps24
        go_wp2_with (go_at_call 100; refine Hp.out.mono ?_; rintro e w' ⟨rfl, rfl⟩)
        go_ret
        exact ⟨by simp, Below.refl _ _⟩
      · have hf : fieldB s = !memB s names7 := by simp [fieldB, h0, hh, h1, h2]
        rw [hf]; clear hf hh h0 h1
        generalize placeOf s.data.toList 94 = k at *
        have Hp := Lib.hid hp; clear hp
        go_enter Tryz.func24, Tryz.ntmps24
        go_wp2_with (go_at_call 100; refine Hp.out.mono ?_; rintro e w' ⟨rfl, rfl⟩)
        refine (has_any names7 s (fun _ => True) _ 7 _ (strs_new _ names7 _ trivial) (by decide)).mono ?_
        rintro e w' ⟨rfl, rfl⟩
        go_wp2_with fail
        go_ret
        exact ⟨by simp, (Below.refl _ _).alloc (Nat.le_refl _) _⟩
end Go.Proofs.YtbcnhcpgloncdaaGreatDoor
