/- Small letters twice are small letters once: strings.ToLower's plain function gives back what it gave. -/
import Derived.Test.YtbcnhcpgloncdaaGreatDoorQShelf
import Derived.Lib.QuoteLoop
import Derived.Lib.MapLaws
namespace Go.Proofs.YtbcnhcpgloncdaaGreatDoor
open Go Go.Lib

/-- A rune that can be written. -/
def okRune (r : Int) : Prop := (0 ≤ r ∧ r < 55296) ∨ (57343 < r ∧ r ≤ 1114111)
theorem byte_nat (z : Int) (_h0 : 0 ≤ z) (h1 : z < 256) : (z.toNat.toUInt8).toNat = z.toNat := by
  rw [Nat.toUInt8_eq]
  simp
  omega

theorem decode_encode (r : Int) (h : okRune r) (rest : List UInt8) : decodeL (encodeRune r ++ rest) = (r.toNat, (encodeRune r).length) := by
  rw [decodeL_N]
  unfold okRune at h
  obtain ⟨n, rfl⟩ : ∃ n : Nat, r = n := ⟨r.toNat, by omega⟩
  unfold encodeRune
  by_cases h1 : n ≤ 127
  · rw [encodeRuneZ_one (by omega) (by omega)]
    simp only [List.map_cons, List.map_nil, List.cons_append, List.nil_append, List.getD_cons_zero, List.length_cons, List.length_nil]
    rw [byte_nat _ (by omega) (by omega)]
    unfold decodeN
    rw [if_pos (by omega)]
  by_cases h2 : n ≤ 2047
  · rw [encodeRuneZ_two (by omega) (by omega)]
    simp only [List.map_cons, List.map_nil, List.cons_append, List.nil_append, List.getD_cons_zero, List.getD_cons_succ, List.length_cons, List.length_nil]
    rw [byte_nat _ (by omega) (by omega), byte_nat _ (by omega) (by omega)]
    have e0 : ((192 + (n : Int) / 64)).toNat = 192 + n / 64 := by omega
    have e1 : ((128 + (n : Int) % 64)).toNat = 128 + n % 64 := by omega
    rw [e0, e1]
    unfold decodeN
    rw [if_neg (by omega), if_pos (by omega), if_pos (by omega)]
    simp only [Int.toNat_natCast, Prod.mk.injEq, and_true]
    omega
  by_cases h3 : n ≤ 65535
  · rw [encodeRuneZ_three (by omega)]
    simp only [List.map_cons, List.map_nil, List.cons_append, List.nil_append, List.getD_cons_zero, List.getD_cons_succ, List.length_cons, List.length_nil]
    rw [byte_nat _ (by omega) (by omega), byte_nat _ (by omega) (by omega), byte_nat _ (by omega) (by omega)]
    have e0 : ((224 + (n : Int) / 4096)).toNat = 224 + n / 4096 := by omega
    have e1 : ((128 + (n : Int) / 64 % 64)).toNat = 128 + n / 64 % 64 := by omega
    have e2 : ((128 + (n : Int) % 64)).toNat = 128 + n % 64 := by omega
    rw [e0, e1, e2]
    unfold decodeN
    rw [if_neg (by omega), if_neg (by omega), if_pos (by omega), if_pos (by omega)]
    simp only [Int.toNat_natCast, Prod.mk.injEq, and_true]
    omega
  · rw [encodeRuneZ_four (by omega) (by omega)]
    simp only [List.map_cons, List.map_nil, List.cons_append, List.nil_append, List.getD_cons_zero, List.getD_cons_succ, List.length_cons, List.length_nil]
    rw [byte_nat _ (by omega) (by omega), byte_nat _ (by omega) (by omega), byte_nat _ (by omega) (by omega), byte_nat _ (by omega) (by omega)]
    have e0 : ((240 + (n : Int) / 262144)).toNat = 240 + n / 262144 := by omega
    have e1 : ((128 + (n : Int) / 4096 % 64)).toNat = 128 + n / 4096 % 64 := by omega
    have e2 : ((128 + (n : Int) / 64 % 64)).toNat = 128 + n / 64 % 64 := by omega
    have e3 : ((128 + (n : Int) % 64)).toNat = 128 + n % 64 := by omega
    rw [e0, e1, e2, e3]
    unfold decodeN
    rw [if_neg (by omega), if_neg (by omega), if_neg (by omega), if_pos (by omega), if_pos (by omega)]
    simp only [Int.toNat_natCast, Prod.mk.injEq, and_true]
    omega

theorem decoded_ok (l : List UInt8) : okRune ((decodeL l).1 : Int) := by
  have h := decodeN_valid l.length (l.getD 0 0).toNat (l.getD 1 0).toNat (l.getD 2 0).toNat (l.getD 3 0).toNat (UInt8.toNat_lt _)
  rw [← decodeL_N] at h
  unfold okRune
  omega

/-- A mapping that gives back what it gave, on runes. -/
theorem map_idem (f : Int → Int) (hf : ∀ r, okRune r → okRune (f r) ∧ f (f r) = f r) : ∀ (n : Nat) (l : List UInt8), l.length ≤ n → mapD f (mapD f l) = mapD f l
  | 0, l, hn => by
    have : l = [] := List.eq_nil_of_length_eq_zero (by omega)
    subst this
    rfl
  | n + 1, l, hn => by
    by_cases hne : l = []
    · subst hne; rfl
    · have hw := decodeL_width l
      have ih := map_idem f hf n (l.drop (decodeL l).2) (by rw [List.length_drop]; omega)
      obtain ⟨h1, h2⟩ := hf _ (decoded_ok l)
      have h0 : 0 ≤ f ((decodeL l).1 : Int) := by unfold okRune at h1; omega
      rw [mapD_step f l hne, if_pos h0]
      generalize hR : mapD f (l.drop (decodeL l).2) = R at ih ⊢
      generalize hr : f ((decodeL l).1 : Int) = r at *
      have hlen := (encodeRuneZ_length r).1
      have hE : (encodeRune r).length = (encodeRuneZ r).length := by unfold encodeRune; rw [List.length_map]
      have hne2 : encodeRune r ++ R ≠ [] := by
        intro e
        have := congrArg List.length e
        rw [List.length_append, List.length_nil] at this
        omega
      have hn0 : ((r.toNat : Nat) : Int) = r := by omega
      rw [mapD_step f _ hne2, decode_encode r h1 R]
      simp only
      rw [hn0, h2, if_pos h0, List.drop_left, ih]

/-- Each rune of the table. -/
def rowOk (x : CaseRow) : Bool := (List.range (x.2.1 + 1 - x.1)).all fun k => decide (toLowerU (toLowerU ((x.1 + k : Nat) : Int)) = toLowerU ((x.1 + k : Nat) : Int)) && (decide (0 ≤ toLowerU ((x.1 + k : Nat) : Int)) && decide (toLowerU ((x.1 + k : Nat) : Int) < 55296) || decide (57343 < toLowerU ((x.1 + k : Nat) : Int)) && decide (toLowerU ((x.1 + k : Nat) : Int) ≤ 1114111))
set_option maxRecDepth 1000000 in
theorem rows_ok : caseT.all rowOk = true := by decide +kernel

theorem lower_rune (r : Int) (h : okRune r) : okRune (toLowerU r) ∧ toLowerU (toLowerU r) = toLowerU r := by
  by_cases h7 : r ≤ 127
  · unfold okRune at *
    by_cases h1 : 65 ≤ r ∧ r ≤ 90
    · have e : toLowerU r = r + 32 := by unfold toLowerU; rw [if_pos h7, if_pos h1]
      have e2 : toLowerU (r + 32) = r + 32 := by unfold toLowerU; rw [if_pos (by omega), if_neg (by omega)]
      rw [e, e2]
      exact ⟨by omega, rfl⟩
    · have e : toLowerU r = r := by unfold toLowerU; rw [if_pos h7, if_neg h1]
      rw [e, e]
      exact ⟨h, rfl⟩
  · have e : toLowerU r = toR caseA 1 r := by unfold toLowerU; rw [if_neg h7]
    cases hi : lookupIdx caseA r (caseA.size + 1) 0 caseA.size with
    | none =>
      have e1 : toLowerU r = r := by rw [e]; unfold toR lookupGo; rw [hi]; rfl
      rw [e1, e1]
      exact ⟨h, rfl⟩
    | some i =>
      obtain ⟨hil, hlo, hhi⟩ := lookupIdx_some caseA r _ _ _ i hi
      have hmem : caseA.getD i (0, 0, 0, 0, 0) ∈ caseT := by
        have : caseA.getD i (0, 0, 0, 0, 0) = caseA[i] := by simp [Array.getD, hil]
        rw [this]
        simp [caseA]
      have hx := List.all_eq_true.1 rows_ok _ hmem
      generalize caseA.getD i (0, 0, 0, 0, 0) = x at *
      have hk := List.all_eq_true.1 hx (r - x.1).toNat (List.mem_range.2 (by omega))
      have hr : ((x.1 + (r - x.1).toNat : Nat) : Int) = r := by omega
      rw [hr] at hk
      simp only [Bool.and_eq_true, Bool.or_eq_true, decide_eq_true_eq] at hk
      exact ⟨hk.2, hk.1⟩
theorem lower_idem (l : List UInt8) : toLowerD (toLowerD l) = toLowerD l := map_idem toLowerU lower_rune l.length l (Nat.le_refl _)
theorem map_length (f : Int → Int) : ∀ (n : Nat) (l : List UInt8), l.length ≤ n → (mapD f l).length ≤ 4 * l.length
  | 0, l, hn => by
    have : l = [] := List.eq_nil_of_length_eq_zero (by omega)
    subst this
    simp [mapD_nil]
  | n + 1, l, hn => by
    by_cases hne : l = []
    · subst hne; simp [mapD_nil]
    · have hw := decodeL_width l
      have hle := decodeL_le l hne
      have ih := map_length f n (l.drop (decodeL l).2) (by rw [List.length_drop]; omega)
      rw [List.length_drop] at ih
      rw [mapD_step f l hne, List.length_append]
      have hh : (if 0 ≤ f (decodeL l).1 then encodeRune (f (decodeL l).1) else []).length ≤ 4 := by
        split
        · have := (encodeRuneZ_length (f (decodeL l).1)).2
          unfold encodeRune
          rw [List.length_map]
          exact this
        · simp
      omega
def lowerB (s : ByteArray) : ByteArray := ⟨(toLowerD s.data.toList).toArray⟩
theorem lowerB_idem (s : ByteArray) : lowerB (lowerB s) = lowerB s := by
  unfold lowerB
  simp only
  rw [lower_idem]
theorem lowerB_size (s : ByteArray) : (lowerB s).size ≤ 4 * s.size := by
  have := map_length toLowerU s.data.toList.length s.data.toList (Nat.le_refl _)
  have e : s.data.toList.length = s.size := by simp
  unfold lowerB toLowerD
  simp only [ByteArray.size, List.size_toArray]
  rw [e] at this
  exact this
theorem lower_small (s : ByteArray) (h : s.size ≤ 16777216) : (lowerB s).size ≤ 9223372036854775807 := by have := lowerB_size s; omega
end Go.Proofs.YtbcnhcpgloncdaaGreatDoor
