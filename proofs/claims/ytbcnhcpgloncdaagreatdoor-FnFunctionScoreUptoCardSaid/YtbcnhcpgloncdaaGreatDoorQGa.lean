/- The smallest guards of the statements: 'place', 'Has', 'finite', 'Scalar', 'Field': what each returns, for every input. -/
import Derived.Test.YtbcnhcpgloncdaaGreatDoorQBase
import Derived.Test.YtbcnhcpgloncdaaGreatDoorProg
import Derived.Deep.RegionHeld3
import Derived.Deep.RegionLaw
namespace Go.Proofs.YtbcnhcpgloncdaaGreatDoor
open Go Go.RowKit

/-- The first place of a byte. -/
def placeOf (l : List UInt8) (c : UInt8) : Nat := (l.takeWhile (fun x => x != c)).length

theorem placeOf_at (l : List UInt8) (c : UInt8) (k : Nat) (hk : k ≤ l.length) (h : ∀ i (h : i < k), l[i]'(by omega) ≠ c) (he : ∀ h : k < l.length, l[k] = c) : placeOf l c = k := by
  induction l generalizing k with
  | nil => simp [placeOf]; simp at hk; exact hk.symm
  | cons x r ih =>
    cases k with
    | zero =>
      have := he (by simp)
      simp at this
      simp [placeOf, this]
    | succ k =>
      have h0 := h 0 (by omega)
      simp at h0
      have := ih k (by simpa using hk) (fun i hi => by have := h (i + 1) (by omega); simpa using this) (fun hh => by have := he (by simpa using hh); simpa using this)
      simp [placeOf, h0] at this ⊢
      exact this

set_option maxHeartbeats 400000 in
theorem place_any (s : ByteArray) (c : UInt8) (w : World) (hs : s.size ≤ 9223372036854775807) :
    Calls Tryz.prog 100 #[.string s, .int .u8 c.toNat] w fun e w' => e = .returned (.int .i64 (placeOf s.data.toList c)) ∧ w = w' := by
  have hcl := c.toNat_lt
  go_enter Tryz.func100, Tryz.ntmps100
  go_wp2
  go_loop [5] (fun i => ∃ k : Nat, k ≤ s.size ∧ i = .int .i64 k ∧ ∀ j (h : j < s.data.toList.length), j < k → s.data.toList[j] ≠ c) (fun i => s.size - (intOf i).toNat)
  case atStart => exact ⟨0, Nat.zero_le _, rfl, fun j _ h => by omega⟩
  case round =>
    obtain ⟨k, hk, rfl, hno⟩ := hrel
    have Hno := Lib.hid hno; clear hno
    by_cases hlt : k < s.size
    · by_cases hx : s[k] = c
      · have hx' : (((s[k].toNat : Nat) : Int) != (c.toNat : Int)) = false := by rw [hx]; simp
        have Hx := Lib.hid hx; clear hx
        go_wp2
        go_ret
        refine ⟨?_, rfl⟩
        have hl : s.data.toList.length = s.size := by simp
        have := placeOf_at s.data.toList c k (by omega) (fun i hi => Hno.out i (by omega) hi) (fun h => Hx.out)
        simp [this]
      · have hx' : (((s[k].toNat : Nat) : Int) != (c.toNat : Int)) = true := by
          rw [bne_iff_ne]; intro e; apply hx; apply UInt8.toNat_inj.1; omega
        have Hx := Lib.hid hx; clear hx
        go_wp2
        go_round
        case rel =>
          refine ⟨k + 1, by omega, by go_num, fun j h hj => ?_⟩
          by_cases e : j = k
          · subst e; exact Hx.out
          · exact Hno.out j h (by omega)
        case measure => simp [intOf]; omega
    · go_wp2
      go_ret
      refine ⟨?_, rfl⟩
      have hl : s.data.toList.length = s.size := by simp
      have := placeOf_at s.data.toList c k (by omega) (fun i hi => Hno.out i (by omega) hi) (fun h => by omega)
      simp [this]

set_option maxHeartbeats 400000 in
theorem has_any (ss : List ByteArray) (s : ByteArray) (S : Nat → Prop) (a : Option Addr) (c : Nat) (w : World) (hr : StrsAt w S a ss) (hl : ss.length ≤ 4294967296) :
    Calls Tryz.prog 43 #[.slice a ss.length c, .string s] w fun e w' => e = .returned (.bool (memB s ss)) ∧ w = w' := by
  go_enter Tryz.func43, Tryz.ntmps43
  go_wp2
  go_loop [5] (fun i => ∃ k : Nat, k ≤ ss.length ∧ i = .int .i64 k ∧ memB s (ss.take k) = false) (fun i => ss.length - (intOf i).toNat)
  case atStart => exact ⟨0, Nat.zero_le _, rfl, by simp [memB]⟩
  case round =>
    obtain ⟨k, hk, rfl, hno⟩ := hrel
    have Hno := Lib.hid hno; clear hno
    by_cases hlt : k < ss.length
    · obtain ⟨b, o, rfl, hS, hlb, hc1⟩ := hr.cell hlt
      have Hcut := Lib.hid (memB_take_succ (s := s) hlt)
      have hall : ss[k] = s → memB s ss = true := fun h => by rw [memB_iff, ← h]; simp
      have Hall := Lib.hid hall; clear hall
      clear hr
      generalize ss[k] = x at *
      by_cases hx : x = s
      · have hx' := bs_eq hx
        have Hx := Lib.hid hx; clear hx
        go_wp2
        go_ret
        exact ⟨by simp [Hall.out Hx.out], rfl⟩
      · have hx' := bs_ne hx
        have Hx := Lib.hid hx; clear hx
        go_wp2
        go_round
        case rel => exact ⟨k + 1, by omega, by go_num, by rw [Hcut.out, Hno.out]; simp [Hx.out]⟩
        case measure => simp [intOf]; omega
    · go_wp2
      go_ret
      have h1 : ss.take k = ss := List.take_of_length_le (by omega)
      have h2 := Hno.out
      rw [h1] at h2
      exact ⟨by simp [h2], rfl⟩
end Go.Proofs.YtbcnhcpgloncdaaGreatDoor
/- 'finite' and 'Scalar': what each returns, for every input. -/
namespace Go.Proofs.YtbcnhcpgloncdaaGreatDoor
open Go Go.RowKit

/-- A number that is no infinity and no NaN. -/
def fin (x : Nat) : Bool := match Ieee.double.read x with | .number .. => true | _ => false

theorem sub_self {x : Nat} (h : fin x = true) : Ieee.double.sub x x = some 0 := by
  unfold fin at h
  unfold Ieee.Format.sub
  split at h
  · rename_i s m e he
    rw [he]
    have : Ieee.signed s m 0 + Ieee.signed (!s) m 0 = 0 := by
      unfold Ieee.signed; cases s <;> simp <;> omega
    simp only [Ieee.Datum.opposite, Ieee.Datum.sum, Int.min_self, Int.sub_self, Int.toNat_zero, this]
    cases s <;> rfl
  · cases h
theorem sub_none {x : Nat} (h : fin x = false) : Ieee.double.sub x x = none := by
  unfold fin at h
  unfold Ieee.Format.sub
  split at h
  · cases h
  · rename_i hx
    cases he : Ieee.double.read x with
    | number s m e => exact absurd he (hx s m e)
    | infinity s => simp [Ieee.Datum.opposite, Ieee.Datum.sum]
    | nan s t => simp [Ieee.Datum.sum]

theorem read_nan (t : Nat) (y z : Nat) : ∃ s f, Ieee.double.read (Question.cut (.nanBits .f64 y z) t) = .nan s f := by
  have h1 : t % 2 < 2 := Nat.mod_lt _ (by decide)
  have h2 : t / 2 % 4503599627370495 < 4503599627370495 := Nat.mod_lt _ (by decide)
  have e : Question.cut (.nanBits .f64 y z) t = (t % 2) * 9223372036854775808 + 9218868437227405312 + 1 + (t / 2) % 4503599627370495 := by
    simp [Question.cut]
  have hs : Ieee.double.signWeight = 9223372036854775808 := by decide
  have hb : Ieee.double.binade = 4503599627370496 := by decide
  have hi : Ieee.double.infRung = 9218868437227405312 := by decide
  refine ⟨(Question.cut (.nanBits .f64 y z) t / Ieee.double.signWeight % 2 == 1), Question.cut (.nanBits .f64 y z) t % Ieee.double.signWeight - Ieee.double.infRung, ?_⟩
  unfold Ieee.Format.read
  simp only [hs, hb, hi]
  have hm : Question.cut (.nanBits .f64 y z) t % 9223372036854775808 = 9218868437227405312 + 1 + (t / 2) % 4503599627370495 := by rw [e]; omega
  rw [hm]
  rw [if_neg (by omega), if_neg (by omega), if_neg (by omega)]

theorem run_sub_self (w : World) (x : Nat) : ∃ r w', (binOp .sub 28 (.float .f64 x) (.float .f64 x)).run Tryz.prog w = .ok (.float .f64 r) w' ∧ (FloatKind.f64.format.order r 0 == some .eq) = fin x ∧ (w' = w ∨ w' = w.drew) := by
  cases h : fin x with
  | true => exact ⟨0, w, run_float_arith w .sub 28 .f64 x x 0 (sub_self h), by decide, .inl rfl⟩
  | false =>
    refine ⟨Question.cut (.nanBits .f64 x x) (w.tape w.drawn (.nanBits .f64 x x)), w.drew, ?_, ?_, .inr rfl⟩
    · have : Ieee.double.sub x x = none := sub_none h
      have e : FloatKind.f64.format = Ieee.double := rfl
      simp [binOp, Op.floatArith, e, this, Question.forced]
    · obtain ⟨s, f, hr⟩ := read_nan (w.tape w.drawn (.nanBits .f64 x x)) x x
      unfold Ieee.Format.order
      have e : FloatKind.f64.format = Ieee.double := rfl
      rw [e, hr]
      rfl

set_option maxHeartbeats 400000 in
theorem finite_any (x : Nat) (w : World) : Calls Tryz.prog 21 #[.float .f64 x] w fun e w' => e = .returned (.bool (fin x)) ∧ Below w.heap.size w w' := by
  obtain ⟨r, w1, hsub, hr, hw⟩ := run_sub_self w x
  have Hr := Lib.hid hr; clear hr
  have Hw := Lib.hid hw; clear hw
  go_enter Tryz.func21, Tryz.ntmps21
  go_wp2
  go_ret
  refine ⟨?_, ?_⟩
  · have := Hr.out
    simp [this]
  · rcases Hw.out with rfl | rfl
    · exact Below.refl _ _
    · exact (Below.refl _ _).drew

/-- What 'Scalar' says of a tree's cells. -/
def scalarV (v : TV) : Bool :=
  if 0 < v.kn ∨ 0 < v.cn then false else if v.kind = 1 then !(decide (v.text = ⟨#[]⟩)) else if v.kind = 2 then fin v.num else decide (v.kind = 3)

set_option maxHeartbeats 400000 in
theorem scalar_any (v : TV) (w : World) : Calls Tryz.prog 101 #[v.val] w fun e w' => e = .returned (.bool (scalarV v)) ∧ Below w.heap.size w w' := by
  obtain ⟨kind, text, num, yes, ka, kn, kc, ca, cn, cc⟩ := v
  by_cases hkn : 0 < kn
  · have hs : scalarV ⟨kind, text, num, yes, ka, kn, kc, ca, cn, cc⟩ = false := by simp [scalarV, hkn]
    rw [hs]; clear hs
    go_enter Tryz.func101, Tryz.ntmps101
    go_wp2
    go_ret
    exact ⟨by simp, (Below.refl _ _).alloc (Nat.le_refl _) _⟩
  · obtain rfl : kn = 0 := by omega
    clear hkn
    by_cases hcn : 0 < cn
    · have hs : scalarV ⟨kind, text, num, yes, ka, 0, kc, ca, cn, cc⟩ = false := by simp [scalarV, hcn]
      rw [hs]; clear hs
      go_enter Tryz.func101, Tryz.ntmps101
      go_wp2
      go_ret
      exact ⟨by simp, (Below.refl _ _).alloc (Nat.le_refl _) _⟩
    · obtain rfl : cn = 0 := by omega
      clear hcn
      by_cases h1 : kind = 1
      · subst h1
        have hs : scalarV ⟨1, text, num, yes, ka, 0, kc, ca, 0, cc⟩ = !(decide (text = ⟨#[]⟩)) := by simp [scalarV]
        rw [hs]; clear hs
        go_enter Tryz.func101, Tryz.ntmps101
        go_wp2
        go_ret
        exact ⟨by simp [bs_isEmpty], (Below.refl _ _).alloc (Nat.le_refl _) _⟩
      · by_cases h2 : kind = 2
        · subst h2
          have hs : scalarV ⟨2, text, num, yes, ka, 0, kc, ca, 0, cc⟩ = fin num := by simp [scalarV]
          rw [hs]; clear hs
          go_enter Tryz.func101, Tryz.ntmps101
          go_wp2_with (go_at_call 21; refine (finite_any num _).mono ?_; rintro e w' ⟨rfl, hb⟩)
          go_ret
          exact ⟨by simp, via ((Below.refl _ _).alloc (Nat.le_refl _) _) hb⟩
        · have hs : scalarV ⟨kind, text, num, yes, ka, 0, kc, ca, 0, cc⟩ = decide (kind = 3) := by simp [scalarV, h1, h2]
          rw [hs]; clear hs
          have h1' : (kind == 1) = false := by simp [h1]
          have h2' : (kind == 2) = false := by simp [h2]
          clear h1 h2
          go_enter Tryz.func101, Tryz.ntmps101
          go_wp2
          go_ret
          exact ⟨by simp [int_beq], (Below.refl _ _).alloc (Nat.le_refl _) _⟩
end Go.Proofs.YtbcnhcpgloncdaaGreatDoor
/- What 'Rows' gives: the table of a builder, taken apart into its rows. -/
namespace Go.Proofs.YtbcnhcpgloncdaaGreatDoor
open Go Go.RowKit

theorem Tryz.info111 : (Tryz.prog.info? 111).map (fun i => (i.zero, i.size, i.bytes)) = some (some (.agg #[.string ⟨#[]⟩, .string ⟨#[]⟩]), 2, 32) := by kernel_rfl

/-- A table's text, taken apart. -/
def rowsOf : Nat → ByteArray → Option (List (ByteArray × ByteArray))
  | 0, _ => none
  | n + 1, t =>
    if t.size = 0 then some [] else
    let e := placeOf t.data.toList 44
    let row := t.extract 0 e
    let b := placeOf row.data.toList 32
    if b < e then
      if e = t.size then some [(row.extract 0 b, row.extract (b + 1) e)]
      else (rowsOf n (t.extract (e + 1) t.size)).map ((row.extract 0 b, row.extract (b + 1) e) :: ·)
    else none

theorem rowsOf_step {m : Nat} {t : ByteArray} {rest : List (ByteArray × ByteArray)} (h : rowsOf m t = some rest) (h0 : 0 < t.size) :
    placeOf (t.extract 0 (placeOf t.data.toList 44)).data.toList 32 < placeOf t.data.toList 44 ∧ ∃ m' rest',
      rest = ((t.extract 0 (placeOf t.data.toList 44)).extract 0 (placeOf (t.extract 0 (placeOf t.data.toList 44)).data.toList 32), (t.extract 0 (placeOf t.data.toList 44)).extract (placeOf (t.extract 0 (placeOf t.data.toList 44)).data.toList 32 + 1) (placeOf t.data.toList 44)) :: rest' ∧
      (placeOf t.data.toList 44 = t.size → rest' = []) ∧ (placeOf t.data.toList 44 ≠ t.size → rowsOf m' (t.extract (placeOf t.data.toList 44 + 1) t.size) = some rest') := by
  cases m with
  | zero => simp [rowsOf] at h
  | succ m =>
    unfold rowsOf at h
    rw [if_neg (by omega)] at h
    simp only at h
    split at h
    · rename_i hb
      refine ⟨hb, m, ?_⟩
      split at h
      · rename_i he
        cases h
        exact ⟨[], rfl, fun _ => rfl, fun hne => absurd he hne⟩
      · rename_i he
        rw [Option.map_eq_some_iff] at h
        obtain ⟨r, hr, rfl⟩ := h
        exact ⟨r, rfl, fun e => absurd e he, fun _ => hr⟩
    · cases h
theorem rowsOf_end {m : Nat} {t : ByteArray} {rest : List (ByteArray × ByteArray)} (h : rowsOf m t = some rest) (h0 : t.size = 0) : rest = [] := by
  cases m with
  | zero => simp [rowsOf] at h
  | succ m => simpa [rowsOf, h0] using h.symm

theorem placeOf_le (l : List UInt8) (c : UInt8) {n : Nat} (h : l.length = n) : placeOf l c ≤ n := by
  subst h; unfold placeOf
  induction l with
  | nil => simp
  | cons x r ih =>
    simp only [List.takeWhile_cons]
    split
    · simpa using ih
    · simp
theorem place_lit (s : ByteArray) (c : UInt8) (n : Int) (hn : (c.toNat : Int) = n) (w : World) (hs : s.size ≤ 9223372036854775807) :
    Calls Tryz.prog 100 #[.string s, .int .u8 n] w fun e w' => e = .returned (.int .i64 (placeOf s.data.toList c)) ∧ w = w' := by
  subst hn; exact place_any s c w hs

def rowCells (rs : List (ByteArray × ByteArray)) : List Value := rs.flatMap fun r => [.string r.1, .string r.2]
theorem rowCells_snoc (rs : List (ByteArray × ByteArray)) (a b : ByteArray) : rowCells (rs ++ [(a, b)]) = rowCells rs ++ [.string a, .string b] := by simp [rowCells]

def RowsPost (w : World) (rs : List (ByteArray × ByteArray)) (e : Ending) (w' : World) : Prop :=
  ∃ g cap, e = .returned (.slice (some ⟨g, 0, none⟩) rs.length cap) ∧ w'.ownsRow w.heap.size 111 2 (.slice (some ⟨g, 0, none⟩) rs.length cap) rs.length (rowCells rs) ∧ Below w.heap.size w w'

def sizeOfStr : Value → Nat | .string t => t.size | _ => 0

set_option maxRecDepth 100000 in
set_option maxHeartbeats 1000000 in
theorem rows_any (b t : ByteArray) (rs : List (ByteArray × ByteArray)) (n : Nat) (w : World) (ht : ∀ w, Calls Tryz.prog 117 #[.string b] w fun e w' => e = .returned (.string t) ∧ w = w') (hrs : rowsOf n t = some rs) (hsz : t.size ≤ 100000) (hrl : rs.length ≤ 1000) :
    Calls Tryz.prog 103 #[.string b] w (RowsPost w rs) := by
  obtain ⟨i0, hi, hz0, hz1, hz2⟩ := info_parts Tryz.info111
  have Ht := Lib.hid ht; clear ht
  have Hrs := Lib.hid hrs; clear hrs
  go_enter Tryz.func103, Tryz.ntmps103
  go_wp2_with (go_at_call 117; refine (Ht.out _).mono ?_; rintro e w' ⟨rfl, rfl⟩)
  go_loopw [3, 4] (fun v tv wr => ∃ (m : Nat) (t' : ByteArray) (done rest : List (ByteArray × ByteArray)), tv = .string t' ∧ rs = done ++ rest ∧ rowsOf m t' = some rest ∧ t'.size ≤ 100000 ∧
      (∃ g cap, v = .slice (some ⟨g, 0, none⟩) done.length cap ∧ wr.ownsRow w.heap.size 111 2 (.slice (some ⟨g, 0, none⟩) done.length cap) done.length (rowCells done)) ∧ Below w.heap.size w wr) (fun _ tv _ => sizeOfStr tv)
  case atStart =>
    exact ⟨n, t, [], rs, rfl, rfl, Hrs.out, hsz, ⟨_, _, rfl, World.ownsRow_made w _ _ (Nat.le_refl _) (by unfold maxLen; omega) rfl⟩, (Below.refl _ _).alloc (Nat.le_refl _) _⟩
  case round =>
    obtain ⟨m, t', done, rest, rfl, hd, hrest, hsz', ⟨g, cap, rfl, hown⟩, hnx⟩ := hrel
    have hdl : done.length ≤ 1000 := by have := congrArg List.length hd; simp at this; omega
    have Hd := Lib.hid hd; clear hd
    by_cases h0 : 0 < t'.size
    · obtain ⟨hb, m', rest', hr1, hr2, hr3⟩ := rowsOf_step hrest h0
      clear hrest
      have hp1 := place_lit t' 44 44 (by decide) wr (by omega)
      have hp2 := place_lit (t'.extract 0 (placeOf t'.data.toList 44)) 32 32 (by decide) wr (by simp; omega)
      have he : placeOf t'.data.toList 44 ≤ t'.size := placeOf_le _ _ (by simp)
      generalize placeOf t'.data.toList 44 = e at *
      generalize placeOf (t'.extract 0 e).data.toList 32 = bl at *
      have Hp1 := Lib.hid hp1; clear hp1
      have Hp2 := Lib.hid hp2; clear hp2
      have Hr1 := Lib.hid hr1; clear hr1
      have Hr2 := Lib.hid hr2; clear hr2
      have Hr3 := Lib.hid hr3; clear hr3
      go_wp2_with fail
      (refine Hp1.out.mono ?_; rintro e1 w' ⟨rfl, rfl⟩)
      go_wp2_with fail
      (refine Hp2.out.mono ?_; rintro e1 w' ⟨rfl, rfl⟩)
      have hrow : (t'.extract 0 e).size = e := by simp; omega
      have hi1 : (0 : Int) ≤ (bl : Int) := by omega
      have hi2 : (bl : Int) ≤ (e : Int) := by omega
      have hi3 : (bl : Int) + 1 ≤ (e : Int) := by omega
      have hi4 : (0 : Int) ≤ (bl : Int) + 1 := by omega
      have hi5 : IntKind.i64.wrap ((bl : Int) + 1) = (bl : Int) + 1 := IntWalk.i64_in _ (by omega)
      go_wp2_with fail
      go_region_held3 (fun _ => True) (trivial)
        ((refine step_append_lies _ (by rfl) _ _ _ (by rfl) w.heap.size 111 i0 _ 2 32 Tryz.underlying108 hi hz0 hz1 hz2 rfl (by omega) (.slice (some ⟨g, 0, none⟩) done.length cap) done.length (rowCells done) (by rfl) ((hown.alloc _).drew) ⟨wr.heap.size, 0, none⟩ 1 1 [.string ((t'.extract 0 e).extract 0 bl), .string ((t'.extract 0 e).extract (bl + 1) e)] (by rfl) (by rfl) (World.news_of_block (cs := #[.string ((t'.extract 0 e).extract 0 bl), .string ((t'.extract 0 e).extract (bl + 1) e)]) (t := 111) (fr := (0, 0)) (heap_alloc_new wr _)) (by simp [Value.oneCell']) (by omega) (by unfold maxLen; omega) (by omega) (by have := hnx.size; simp; omega) (wr.heap.size + 1) (by simp) ?_; intro gg cc w1 hown1 hgrow hat hlt))
      have hbel : Below w.heap.size w w1 := by
        refine ((hnx.alloc hnx.size _).drew).grown hgrow (by have := hnx.size; simp; omega) ?_
        intro k hk
        have := hown.lt k hk
        omega
      clear hgrow hown hnx hi5 hrow
      by_cases hee : e = t'.size
      · have hee' : ((e : Int) == (t'.size : Int)) = true := by simp [hee]
        have Hee := Lib.hid hee; clear hee
        go_wp2_with fail
        go_ret
        refine ⟨gg, cc, ?_, ?_, hbel⟩
        · have := Hr2.out Hee.out
          rw [Hd.out, Hr1.out, this]; simp
        · have := Hr2.out Hee.out
          rw [Hd.out, Hr1.out, this]
          rw [rowCells_snoc]
          simpa using hown1
      · have hee' : ((e : Int) == (t'.size : Int)) = false := by simpa using fun h : (e : Int) = t'.size => hee (by omega)
        have hlt' : (e : Int) + 1 ≤ (t'.size : Int) := by omega
        have Hee := Lib.hid hee; clear hee
        go_wp2_with fail
        go_roundw
        case rel =>
          refine ⟨m', _, done ++ [_], rest', rfl, ?_, Hr3.out Hee.out, by simp; omega, ⟨gg, cc, by simp, by rw [rowCells_snoc]; simpa using hown1⟩, hbel⟩
          rw [Hd.out, Hr1.out]; simp
        case measure => simp [sizeOfStr]; omega
    · have hre := rowsOf_end hrest (by omega)
      clear hrest
      have Hre := Lib.hid hre; clear hre
      obtain h00 : t'.size = 0 := by omega
      go_wp2_with fail
      go_ret
      refine ⟨g, cap, ?_, ?_, hnx⟩
      · rw [Hd.out, Hre.out]; simp
      · rw [Hd.out, Hre.out]; simpa using hown
end Go.Proofs.YtbcnhcpgloncdaaGreatDoor
