/- Score functions: their settings are told to them, one behind the other. -/
import Derived.Test.YtbcnhcpgloncdaaGreatDoorQJb
namespace Go.Proofs.YtbcnhcpgloncdaaGreatDoor
open Go Go.RowKit Go.BigFrame Go.Maps

theorem conv_long {x : Nat} {n : Int} (h : floatToIntVal .f64 x .i64 = some n) (w : World) : (convert 28 2 (.float .f64 x)).run Tryz.prog w = .ok (.int .i64 n) w :=
  run_convert_float_int w 28 2 .f64 .i64 x n (by rw [Tryz.underlying28]; rfl) Tryz.underlying2 h
def namesDecay : List ByteArray := [n_origin, n_scale, n_offset, n_decay, n_multi_value_mode, n_weight]
def namesFactor : List ByteArray := [n_factor, n_missing, n_modifier, n_weight]
def namesRandom : List ByteArray := [n_seed, n_weight]
/-- The value is a single one. -/
def isLeaf (t : Tr) : Prop := t.kind = 1 ∨ t.kind = 2 ∨ t.kind = 3

set_option maxRecDepth 100000 in
set_option maxHeartbeats 40000000 in
theorem exponential_any (fd : ByteArray) (sets : List SetM) (S : Nat → Prop) (a : Option Addr) (c : Nat) (w : World) (hsets : SetsAt w S a sets) (hl : sets.length ≤ 1048576) (hnm : ∀ s ∈ sets, s.name ∈ namesDecay) (hsc : ∀ s ∈ sets, s.name = n_origin ∨ s.name = n_scale ∨ s.name = n_offset → isLeaf s.val) :
    Calls Tryz.prog 104 #[.string fd, .slice a sets.length c] w fun e w' => ∃ B, e = .returned (.iface 139 (.pointer (some ⟨B, 0, none⟩))) ∧ GSt w' (fun b => w.heap.size ≤ b) B (ksDecay fd) 186 sets ∧ Below w.heap.size w w' := by
  have Hsets := Lib.hid hsets; clear hsets
  have Hnm := Lib.hid hnm; clear hnm
  have Hsc := Lib.hid hsc; clear hsc
  go_enter Tryz.func104, Tryz.ntmps104
  go_wp2_with (first
    | (go_at_call 118; refine (new118 _).mono ?_; rintro e w1 ⟨rfl, hq1, hb1⟩)
    | (go_at_call 119; refine (set119 w1 _ _ _ fd [] hq1).mono ?_; rintro e w2 ⟨rfl, hq2, hb2⟩))
  have hbel2 : Below w.heap.size w w2 := hb1.trans hb2
  go_loopw [13] (fun i wr => ∃ k : Nat, k ≤ sets.length ∧ i = .int .i64 k ∧ GSt wr (fun b => w.heap.size ≤ b) w.heap.size (ksDecay fd) 186 (sets.take k) ∧ Below w.heap.size w wr) (fun i _ => sets.length - (intOf i).toNat)
  case atStart => exact ⟨0, Nat.zero_le _, rfl, hq2, hbel2⟩
  case round =>
    clear hq2 hbel2 hq1 hb1 hb2
    obtain ⟨k, hk, rfl, hq, hbel⟩ := hrel
    by_cases hlt : k < sets.length
    · obtain ⟨b', o, v, hca, hSb, hlb, c0, c1, c2, c3, c4, c5, c6, hv⟩ := (Hsets.out.keep (Keeps.of_below S hbel)).cells (k := k) hlt
      subst hca
      obtain ⟨e1, e2, e3, e4, e5, e6⟩ := hv.eqs
      rw [e2] at c2
      rw [e3] at c3
      rw [e4] at c4
      have hmem : sets[k] ∈ sets := by simp
      have hname := Hnm.out _ hmem
      have Hsc := Lib.hid (Hsc.out _ hmem)
      have Htake : Hid (sets.take (k + 1) = sets.take k ++ [sets[k]]) := Lib.hid (List.take_succ_eq_append_getElem hlt)
      generalize sets[k] = s at *
      generalize sets.take k = done at *
      have hqb := hq.keep (Keeps.of_below _ ((Below.refl _ _).alloc (Nat.le_refl _) (.cells #[.string s.name, .int .i64 v.kind, .string s.val.text, .float .f64 s.val.num, .bool s.val.yes, .slice v.ka v.kn v.kc, .slice v.ca v.cn v.cc] 54)))
      have hsz := hbel.size
      have Hq := Lib.hid hqb; clear hqb hq
      have Hbel := Lib.hid hbel; clear hbel
      have Hv := Lib.hid hv
      have E2 := Lib.hid e2
      have E3 := Lib.hid e3
      have E4 := Lib.hid e4
      clear hv e1 e2 e3 e4 e5 e6 hmem hlb hSb
      have hi1 : (0 : Int) ≤ (k : Int) := by omega
      have hi2 : (k : Int) < (sets.length : Int) := by omega
      simp only [namesDecay, List.mem_cons, List.not_mem_nil, or_false] at hname
      rcases hname with hname | hname | hname | hname | hname | hname
      · as_aux_lemma =>
        rw [show s.name = ⟨#[111, 114, 105, 103, 105, 110]⟩ from hname] at c0
        have Hn : Hid (s.name = n_origin) := Lib.hid hname
        have Hq' : Hid (GSt (wr.alloc (.cells #[.string ⟨#[111, 114, 105, 103, 105, 110]⟩, .int .i64 v.kind, .string s.val.text, .float .f64 s.val.num, .bool s.val.yes, .slice v.ka v.kn v.kc, .slice v.ca v.cn v.cc] 54)) (fun b => w.heap.size ≤ b) w.heap.size (ksDecay fd) 186 done) := Lib.hid (by
          have := Hq.out
          rw [show s.name = ⟨#[111, 114, 105, 103, 105, 110]⟩ from hname] at this
          exact this)
        clear hname Hq
        have hcl := plain_val s.val v S (wr.alloc (.cells #[.string ⟨#[111, 114, 105, 103, 105, 110]⟩, .int .i64 v.kind, .string s.val.text, .float .f64 s.val.num, .bool s.val.yes, .slice v.ka v.kn v.kc, .slice v.ca v.cn v.cc] 54)) (Hv.out.keep (Keeps.of_below S ((Below.refl _ _).alloc (Nat.le_refl _) _))) (Hsc.out (by rw [Hn.out]; simp))
        have hcl2 : Calls Tryz.prog 121 #[.agg #[.int .i64 v.kind, .string s.val.text, .float .f64 s.val.num, .bool s.val.yes, .slice v.ka v.kn v.kc, .slice v.ca v.cn v.cc]] (wr.alloc (.cells #[.string ⟨#[111, 114, 105, 103, 105, 110]⟩, .int .i64 v.kind, .string s.val.text, .float .f64 s.val.num, .bool s.val.yes, .slice v.ka v.kn v.kc, .slice v.ca v.cn v.cc] 54)) fun e w' => e = .returned (.iface (leafTy s.val) (leafX s.val)) ∧ Below (wr.heap.size + 1) (wr.alloc (.cells #[.string ⟨#[111, 114, 105, 103, 105, 110]⟩, .int .i64 v.kind, .string s.val.text, .float .f64 s.val.num, .bool s.val.yes, .slice v.ka v.kn v.kc, .slice v.ca v.cn v.cc] 54)) w' := by
          simp only [World.size_alloc, TV.val, E2.out, E3.out, E4.out] at hcl
          exact hcl
        have Hcl := Lib.hid hcl2; clear hcl hcl2
        go_wp2_with (first
          | (go_at_call 121; refine Hcl.out.mono ?_; rintro e w3 ⟨rfl, hb3⟩)
          | (go_at_call 120; refine (set120 w3 w.heap.size _ fd done s Hn.out (by have := hb3.size; simp at this; omega) (Hq'.out.keep (Keeps.of_below _ (by simpa using hb3))) _ _ ⟨rfl, rfl⟩).mono ?_; rintro e w2 ⟨rfl, hq2, hb2⟩))
        have hbel2 := ((Hbel.out.alloc hsz _).trans (hb3.mono (by omega))).trans hb2
        go_roundw
        case rel => exact ⟨k + 1, by omega, by simp, by rw [Htake.out]; exact hq2, hbel2⟩
        case measure => simp [intOf]; omega
      · as_aux_lemma =>
        rw [show s.name = ⟨#[115, 99, 97, 108, 101]⟩ from hname] at c0
        have Hn : Hid (s.name = n_scale) := Lib.hid hname
        have Hq' : Hid (GSt (wr.alloc (.cells #[.string ⟨#[115, 99, 97, 108, 101]⟩, .int .i64 v.kind, .string s.val.text, .float .f64 s.val.num, .bool s.val.yes, .slice v.ka v.kn v.kc, .slice v.ca v.cn v.cc] 54)) (fun b => w.heap.size ≤ b) w.heap.size (ksDecay fd) 186 done) := Lib.hid (by
          have := Hq.out
          rw [show s.name = ⟨#[115, 99, 97, 108, 101]⟩ from hname] at this
          exact this)
        clear hname Hq
        have hcl := plain_val s.val v S (wr.alloc (.cells #[.string ⟨#[115, 99, 97, 108, 101]⟩, .int .i64 v.kind, .string s.val.text, .float .f64 s.val.num, .bool s.val.yes, .slice v.ka v.kn v.kc, .slice v.ca v.cn v.cc] 54)) (Hv.out.keep (Keeps.of_below S ((Below.refl _ _).alloc (Nat.le_refl _) _))) (Hsc.out (by rw [Hn.out]; simp))
        have hcl2 : Calls Tryz.prog 121 #[.agg #[.int .i64 v.kind, .string s.val.text, .float .f64 s.val.num, .bool s.val.yes, .slice v.ka v.kn v.kc, .slice v.ca v.cn v.cc]] (wr.alloc (.cells #[.string ⟨#[115, 99, 97, 108, 101]⟩, .int .i64 v.kind, .string s.val.text, .float .f64 s.val.num, .bool s.val.yes, .slice v.ka v.kn v.kc, .slice v.ca v.cn v.cc] 54)) fun e w' => e = .returned (.iface (leafTy s.val) (leafX s.val)) ∧ Below (wr.heap.size + 1) (wr.alloc (.cells #[.string ⟨#[115, 99, 97, 108, 101]⟩, .int .i64 v.kind, .string s.val.text, .float .f64 s.val.num, .bool s.val.yes, .slice v.ka v.kn v.kc, .slice v.ca v.cn v.cc] 54)) w' := by
          simp only [World.size_alloc, TV.val, E2.out, E3.out, E4.out] at hcl
          exact hcl
        have Hcl := Lib.hid hcl2; clear hcl hcl2
        go_wp2_with (first
          | (go_at_call 121; refine Hcl.out.mono ?_; rintro e w3 ⟨rfl, hb3⟩)
          | (go_at_call 122; refine (set122 w3 w.heap.size _ fd done s Hn.out (by have := hb3.size; simp at this; omega) (Hq'.out.keep (Keeps.of_below _ (by simpa using hb3))) _ _ ⟨rfl, rfl⟩).mono ?_; rintro e w2 ⟨rfl, hq2, hb2⟩))
        have hbel2 := ((Hbel.out.alloc hsz _).trans (hb3.mono (by omega))).trans hb2
        go_roundw
        case rel => exact ⟨k + 1, by omega, by simp, by rw [Htake.out]; exact hq2, hbel2⟩
        case measure => simp [intOf]; omega
      · as_aux_lemma =>
        rw [show s.name = ⟨#[111, 102, 102, 115, 101, 116]⟩ from hname] at c0
        have Hn : Hid (s.name = n_offset) := Lib.hid hname
        have Hq' : Hid (GSt (wr.alloc (.cells #[.string ⟨#[111, 102, 102, 115, 101, 116]⟩, .int .i64 v.kind, .string s.val.text, .float .f64 s.val.num, .bool s.val.yes, .slice v.ka v.kn v.kc, .slice v.ca v.cn v.cc] 54)) (fun b => w.heap.size ≤ b) w.heap.size (ksDecay fd) 186 done) := Lib.hid (by
          have := Hq.out
          rw [show s.name = ⟨#[111, 102, 102, 115, 101, 116]⟩ from hname] at this
          exact this)
        clear hname Hq
        have hcl := plain_val s.val v S (wr.alloc (.cells #[.string ⟨#[111, 102, 102, 115, 101, 116]⟩, .int .i64 v.kind, .string s.val.text, .float .f64 s.val.num, .bool s.val.yes, .slice v.ka v.kn v.kc, .slice v.ca v.cn v.cc] 54)) (Hv.out.keep (Keeps.of_below S ((Below.refl _ _).alloc (Nat.le_refl _) _))) (Hsc.out (by rw [Hn.out]; simp))
        have hcl2 : Calls Tryz.prog 121 #[.agg #[.int .i64 v.kind, .string s.val.text, .float .f64 s.val.num, .bool s.val.yes, .slice v.ka v.kn v.kc, .slice v.ca v.cn v.cc]] (wr.alloc (.cells #[.string ⟨#[111, 102, 102, 115, 101, 116]⟩, .int .i64 v.kind, .string s.val.text, .float .f64 s.val.num, .bool s.val.yes, .slice v.ka v.kn v.kc, .slice v.ca v.cn v.cc] 54)) fun e w' => e = .returned (.iface (leafTy s.val) (leafX s.val)) ∧ Below (wr.heap.size + 1) (wr.alloc (.cells #[.string ⟨#[111, 102, 102, 115, 101, 116]⟩, .int .i64 v.kind, .string s.val.text, .float .f64 s.val.num, .bool s.val.yes, .slice v.ka v.kn v.kc, .slice v.ca v.cn v.cc] 54)) w' := by
          simp only [World.size_alloc, TV.val, E2.out, E3.out, E4.out] at hcl
          exact hcl
        have Hcl := Lib.hid hcl2; clear hcl hcl2
        go_wp2_with (first
          | (go_at_call 121; refine Hcl.out.mono ?_; rintro e w3 ⟨rfl, hb3⟩)
          | (go_at_call 123; refine (set123 w3 w.heap.size _ fd done s Hn.out (by have := hb3.size; simp at this; omega) (Hq'.out.keep (Keeps.of_below _ (by simpa using hb3))) _ _ ⟨rfl, rfl⟩).mono ?_; rintro e w2 ⟨rfl, hq2, hb2⟩))
        have hbel2 := ((Hbel.out.alloc hsz _).trans (hb3.mono (by omega))).trans hb2
        go_roundw
        case rel => exact ⟨k + 1, by omega, by simp, by rw [Htake.out]; exact hq2, hbel2⟩
        case measure => simp [intOf]; omega
      · as_aux_lemma =>
        rw [show s.name = ⟨#[100, 101, 99, 97, 121]⟩ from hname] at c0
        have Hn : Hid (s.name = n_decay) := Lib.hid hname
        have Hq' : Hid (GSt (wr.alloc (.cells #[.string ⟨#[100, 101, 99, 97, 121]⟩, .int .i64 v.kind, .string s.val.text, .float .f64 s.val.num, .bool s.val.yes, .slice v.ka v.kn v.kc, .slice v.ca v.cn v.cc] 54)) (fun b => w.heap.size ≤ b) w.heap.size (ksDecay fd) 186 done) := Lib.hid (by
          have := Hq.out
          rw [show s.name = ⟨#[100, 101, 99, 97, 121]⟩ from hname] at this
          exact this)
        clear hname Hq
        go_wp2_with (go_at_call 124; refine (set124 _ w.heap.size _ fd done s Hn.out (by simp; omega) Hq'.out).mono ?_; rintro e w2 ⟨rfl, hq2, hb2⟩)
        have hbel2 := (Hbel.out.alloc hsz _).trans hb2
        go_roundw
        case rel => exact ⟨k + 1, by omega, by simp, by rw [Htake.out]; exact hq2, hbel2⟩
        case measure => simp [intOf]; omega
      · as_aux_lemma =>
        rw [show s.name = ⟨#[109, 117, 108, 116, 105, 95, 118, 97, 108, 117, 101, 95, 109, 111, 100, 101]⟩ from hname] at c0
        have Hn : Hid (s.name = n_multi_value_mode) := Lib.hid hname
        have Hq' : Hid (GSt (wr.alloc (.cells #[.string ⟨#[109, 117, 108, 116, 105, 95, 118, 97, 108, 117, 101, 95, 109, 111, 100, 101]⟩, .int .i64 v.kind, .string s.val.text, .float .f64 s.val.num, .bool s.val.yes, .slice v.ka v.kn v.kc, .slice v.ca v.cn v.cc] 54)) (fun b => w.heap.size ≤ b) w.heap.size (ksDecay fd) 186 done) := Lib.hid (by
          have := Hq.out
          rw [show s.name = ⟨#[109, 117, 108, 116, 105, 95, 118, 97, 108, 117, 101, 95, 109, 111, 100, 101]⟩ from hname] at this
          exact this)
        clear hname Hq
        go_wp2_with (go_at_call 125; refine (set125 _ w.heap.size _ fd done s Hn.out (by simp; omega) Hq'.out).mono ?_; rintro e w2 ⟨rfl, hq2, hb2⟩)
        have hbel2 := (Hbel.out.alloc hsz _).trans hb2
        go_roundw
        case rel => exact ⟨k + 1, by omega, by simp, by rw [Htake.out]; exact hq2, hbel2⟩
        case measure => simp [intOf]; omega
      · as_aux_lemma =>
        rw [show s.name = ⟨#[119, 101, 105, 103, 104, 116]⟩ from hname] at c0
        have Hn : Hid (s.name = n_weight) := Lib.hid hname
        have Hq' : Hid (GSt (wr.alloc (.cells #[.string ⟨#[119, 101, 105, 103, 104, 116]⟩, .int .i64 v.kind, .string s.val.text, .float .f64 s.val.num, .bool s.val.yes, .slice v.ka v.kn v.kc, .slice v.ca v.cn v.cc] 54)) (fun b => w.heap.size ≤ b) w.heap.size (ksDecay fd) 186 done) := Lib.hid (by
          have := Hq.out
          rw [show s.name = ⟨#[119, 101, 105, 103, 104, 116]⟩ from hname] at this
          exact this)
        clear hname Hq
        go_wp2_with (go_at_call 126; refine (set126 _ w.heap.size _ fd done s Hn.out (by simp; omega) Hq'.out).mono ?_; rintro e w2 ⟨rfl, hq2, hb2⟩)
        have hbel2 := (Hbel.out.alloc hsz _).trans hb2
        go_roundw
        case rel => exact ⟨k + 1, by omega, by simp, by rw [Htake.out]; exact hq2, hbel2⟩
        case measure => simp [intOf]; omega
    · obtain rfl : k = sets.length := by omega
      rw [List.take_length] at hq
      have Hq := Lib.hid hq; clear hq
      go_wp2_with fail
      go_ret
      exact ⟨w.heap.size, by simp, Hq.out, hbel⟩

set_option maxRecDepth 100000 in
set_option maxHeartbeats 40000000 in
theorem gauss_any (fd : ByteArray) (sets : List SetM) (S : Nat → Prop) (a : Option Addr) (c : Nat) (w : World) (hsets : SetsAt w S a sets) (hl : sets.length ≤ 1048576) (hnm : ∀ s ∈ sets, s.name ∈ namesDecay) (hsc : ∀ s ∈ sets, s.name = n_origin ∨ s.name = n_scale ∨ s.name = n_offset → isLeaf s.val) :
    Calls Tryz.prog 105 #[.string fd, .slice a sets.length c] w fun e w' => ∃ B, e = .returned (.iface 145 (.pointer (some ⟨B, 0, none⟩))) ∧ GSt w' (fun b => w.heap.size ≤ b) B (ksDecay fd) 188 sets ∧ Below w.heap.size w w' := by
  have Hsets := Lib.hid hsets; clear hsets
  have Hnm := Lib.hid hnm; clear hnm
  have Hsc := Lib.hid hsc; clear hsc
  go_enter Tryz.func105, Tryz.ntmps105
  go_wp2_with (first
    | (go_at_call 127; refine (new127 _).mono ?_; rintro e w1 ⟨rfl, hq1, hb1⟩)
    | (go_at_call 128; refine (set128 w1 _ _ _ fd [] hq1).mono ?_; rintro e w2 ⟨rfl, hq2, hb2⟩))
  have hbel2 : Below w.heap.size w w2 := hb1.trans hb2
  go_loopw [13] (fun i wr => ∃ k : Nat, k ≤ sets.length ∧ i = .int .i64 k ∧ GSt wr (fun b => w.heap.size ≤ b) w.heap.size (ksDecay fd) 188 (sets.take k) ∧ Below w.heap.size w wr) (fun i _ => sets.length - (intOf i).toNat)
  case atStart => exact ⟨0, Nat.zero_le _, rfl, hq2, hbel2⟩
  case round =>
    clear hq2 hbel2 hq1 hb1 hb2
    obtain ⟨k, hk, rfl, hq, hbel⟩ := hrel
    by_cases hlt : k < sets.length
    · obtain ⟨b', o, v, hca, hSb, hlb, c0, c1, c2, c3, c4, c5, c6, hv⟩ := (Hsets.out.keep (Keeps.of_below S hbel)).cells (k := k) hlt
      subst hca
      obtain ⟨e1, e2, e3, e4, e5, e6⟩ := hv.eqs
      rw [e2] at c2
      rw [e3] at c3
      rw [e4] at c4
      have hmem : sets[k] ∈ sets := by simp
      have hname := Hnm.out _ hmem
      have Hsc := Lib.hid (Hsc.out _ hmem)
      have Htake : Hid (sets.take (k + 1) = sets.take k ++ [sets[k]]) := Lib.hid (List.take_succ_eq_append_getElem hlt)
      generalize sets[k] = s at *
      generalize sets.take k = done at *
      have hqb := hq.keep (Keeps.of_below _ ((Below.refl _ _).alloc (Nat.le_refl _) (.cells #[.string s.name, .int .i64 v.kind, .string s.val.text, .float .f64 s.val.num, .bool s.val.yes, .slice v.ka v.kn v.kc, .slice v.ca v.cn v.cc] 54)))
      have hsz := hbel.size
      have Hq := Lib.hid hqb; clear hqb hq
      have Hbel := Lib.hid hbel; clear hbel
      have Hv := Lib.hid hv
      have E2 := Lib.hid e2
      have E3 := Lib.hid e3
      have E4 := Lib.hid e4
      clear hv e1 e2 e3 e4 e5 e6 hmem hlb hSb
      have hi1 : (0 : Int) ≤ (k : Int) := by omega
      have hi2 : (k : Int) < (sets.length : Int) := by omega
      simp only [namesDecay, List.mem_cons, List.not_mem_nil, or_false] at hname
      rcases hname with hname | hname | hname | hname | hname | hname
      · as_aux_lemma =>
        rw [show s.name = ⟨#[111, 114, 105, 103, 105, 110]⟩ from hname] at c0
        have Hn : Hid (s.name = n_origin) := Lib.hid hname
        have Hq' : Hid (GSt (wr.alloc (.cells #[.string ⟨#[111, 114, 105, 103, 105, 110]⟩, .int .i64 v.kind, .string s.val.text, .float .f64 s.val.num, .bool s.val.yes, .slice v.ka v.kn v.kc, .slice v.ca v.cn v.cc] 54)) (fun b => w.heap.size ≤ b) w.heap.size (ksDecay fd) 188 done) := Lib.hid (by
          have := Hq.out
          rw [show s.name = ⟨#[111, 114, 105, 103, 105, 110]⟩ from hname] at this
          exact this)
        clear hname Hq
        have hcl := plain_val s.val v S (wr.alloc (.cells #[.string ⟨#[111, 114, 105, 103, 105, 110]⟩, .int .i64 v.kind, .string s.val.text, .float .f64 s.val.num, .bool s.val.yes, .slice v.ka v.kn v.kc, .slice v.ca v.cn v.cc] 54)) (Hv.out.keep (Keeps.of_below S ((Below.refl _ _).alloc (Nat.le_refl _) _))) (Hsc.out (by rw [Hn.out]; simp))
        have hcl2 : Calls Tryz.prog 121 #[.agg #[.int .i64 v.kind, .string s.val.text, .float .f64 s.val.num, .bool s.val.yes, .slice v.ka v.kn v.kc, .slice v.ca v.cn v.cc]] (wr.alloc (.cells #[.string ⟨#[111, 114, 105, 103, 105, 110]⟩, .int .i64 v.kind, .string s.val.text, .float .f64 s.val.num, .bool s.val.yes, .slice v.ka v.kn v.kc, .slice v.ca v.cn v.cc] 54)) fun e w' => e = .returned (.iface (leafTy s.val) (leafX s.val)) ∧ Below (wr.heap.size + 1) (wr.alloc (.cells #[.string ⟨#[111, 114, 105, 103, 105, 110]⟩, .int .i64 v.kind, .string s.val.text, .float .f64 s.val.num, .bool s.val.yes, .slice v.ka v.kn v.kc, .slice v.ca v.cn v.cc] 54)) w' := by
          simp only [World.size_alloc, TV.val, E2.out, E3.out, E4.out] at hcl
          exact hcl
        have Hcl := Lib.hid hcl2; clear hcl hcl2
        go_wp2_with (first
          | (go_at_call 121; refine Hcl.out.mono ?_; rintro e w3 ⟨rfl, hb3⟩)
          | (go_at_call 129; refine (set129 w3 w.heap.size _ fd done s Hn.out (by have := hb3.size; simp at this; omega) (Hq'.out.keep (Keeps.of_below _ (by simpa using hb3))) _ _ ⟨rfl, rfl⟩).mono ?_; rintro e w2 ⟨rfl, hq2, hb2⟩))
        have hbel2 := ((Hbel.out.alloc hsz _).trans (hb3.mono (by omega))).trans hb2
        go_roundw
        case rel => exact ⟨k + 1, by omega, by simp, by rw [Htake.out]; exact hq2, hbel2⟩
        case measure => simp [intOf]; omega
      · as_aux_lemma =>
        rw [show s.name = ⟨#[115, 99, 97, 108, 101]⟩ from hname] at c0
        have Hn : Hid (s.name = n_scale) := Lib.hid hname
        have Hq' : Hid (GSt (wr.alloc (.cells #[.string ⟨#[115, 99, 97, 108, 101]⟩, .int .i64 v.kind, .string s.val.text, .float .f64 s.val.num, .bool s.val.yes, .slice v.ka v.kn v.kc, .slice v.ca v.cn v.cc] 54)) (fun b => w.heap.size ≤ b) w.heap.size (ksDecay fd) 188 done) := Lib.hid (by
          have := Hq.out
          rw [show s.name = ⟨#[115, 99, 97, 108, 101]⟩ from hname] at this
          exact this)
        clear hname Hq
        have hcl := plain_val s.val v S (wr.alloc (.cells #[.string ⟨#[115, 99, 97, 108, 101]⟩, .int .i64 v.kind, .string s.val.text, .float .f64 s.val.num, .bool s.val.yes, .slice v.ka v.kn v.kc, .slice v.ca v.cn v.cc] 54)) (Hv.out.keep (Keeps.of_below S ((Below.refl _ _).alloc (Nat.le_refl _) _))) (Hsc.out (by rw [Hn.out]; simp))
        have hcl2 : Calls Tryz.prog 121 #[.agg #[.int .i64 v.kind, .string s.val.text, .float .f64 s.val.num, .bool s.val.yes, .slice v.ka v.kn v.kc, .slice v.ca v.cn v.cc]] (wr.alloc (.cells #[.string ⟨#[115, 99, 97, 108, 101]⟩, .int .i64 v.kind, .string s.val.text, .float .f64 s.val.num, .bool s.val.yes, .slice v.ka v.kn v.kc, .slice v.ca v.cn v.cc] 54)) fun e w' => e = .returned (.iface (leafTy s.val) (leafX s.val)) ∧ Below (wr.heap.size + 1) (wr.alloc (.cells #[.string ⟨#[115, 99, 97, 108, 101]⟩, .int .i64 v.kind, .string s.val.text, .float .f64 s.val.num, .bool s.val.yes, .slice v.ka v.kn v.kc, .slice v.ca v.cn v.cc] 54)) w' := by
          simp only [World.size_alloc, TV.val, E2.out, E3.out, E4.out] at hcl
          exact hcl
        have Hcl := Lib.hid hcl2; clear hcl hcl2
        go_wp2_with (first
          | (go_at_call 121; refine Hcl.out.mono ?_; rintro e w3 ⟨rfl, hb3⟩)
          | (go_at_call 130; refine (set130 w3 w.heap.size _ fd done s Hn.out (by have := hb3.size; simp at this; omega) (Hq'.out.keep (Keeps.of_below _ (by simpa using hb3))) _ _ ⟨rfl, rfl⟩).mono ?_; rintro e w2 ⟨rfl, hq2, hb2⟩))
        have hbel2 := ((Hbel.out.alloc hsz _).trans (hb3.mono (by omega))).trans hb2
        go_roundw
        case rel => exact ⟨k + 1, by omega, by simp, by rw [Htake.out]; exact hq2, hbel2⟩
        case measure => simp [intOf]; omega
      · as_aux_lemma =>
        rw [show s.name = ⟨#[111, 102, 102, 115, 101, 116]⟩ from hname] at c0
        have Hn : Hid (s.name = n_offset) := Lib.hid hname
        have Hq' : Hid (GSt (wr.alloc (.cells #[.string ⟨#[111, 102, 102, 115, 101, 116]⟩, .int .i64 v.kind, .string s.val.text, .float .f64 s.val.num, .bool s.val.yes, .slice v.ka v.kn v.kc, .slice v.ca v.cn v.cc] 54)) (fun b => w.heap.size ≤ b) w.heap.size (ksDecay fd) 188 done) := Lib.hid (by
          have := Hq.out
          rw [show s.name = ⟨#[111, 102, 102, 115, 101, 116]⟩ from hname] at this
          exact this)
        clear hname Hq
        have hcl := plain_val s.val v S (wr.alloc (.cells #[.string ⟨#[111, 102, 102, 115, 101, 116]⟩, .int .i64 v.kind, .string s.val.text, .float .f64 s.val.num, .bool s.val.yes, .slice v.ka v.kn v.kc, .slice v.ca v.cn v.cc] 54)) (Hv.out.keep (Keeps.of_below S ((Below.refl _ _).alloc (Nat.le_refl _) _))) (Hsc.out (by rw [Hn.out]; simp))
        have hcl2 : Calls Tryz.prog 121 #[.agg #[.int .i64 v.kind, .string s.val.text, .float .f64 s.val.num, .bool s.val.yes, .slice v.ka v.kn v.kc, .slice v.ca v.cn v.cc]] (wr.alloc (.cells #[.string ⟨#[111, 102, 102, 115, 101, 116]⟩, .int .i64 v.kind, .string s.val.text, .float .f64 s.val.num, .bool s.val.yes, .slice v.ka v.kn v.kc, .slice v.ca v.cn v.cc] 54)) fun e w' => e = .returned (.iface (leafTy s.val) (leafX s.val)) ∧ Below (wr.heap.size + 1) (wr.alloc (.cells #[.string ⟨#[111, 102, 102, 115, 101, 116]⟩, .int .i64 v.kind, .string s.val.text, .float .f64 s.val.num, .bool s.val.yes, .slice v.ka v.kn v.kc, .slice v.ca v.cn v.cc] 54)) w' := by
          simp only [World.size_alloc, TV.val, E2.out, E3.out, E4.out] at hcl
          exact hcl
        have Hcl := Lib.hid hcl2; clear hcl hcl2
        go_wp2_with (first
          | (go_at_call 121; refine Hcl.out.mono ?_; rintro e w3 ⟨rfl, hb3⟩)
          | (go_at_call 131; refine (set131 w3 w.heap.size _ fd done s Hn.out (by have := hb3.size; simp at this; omega) (Hq'.out.keep (Keeps.of_below _ (by simpa using hb3))) _ _ ⟨rfl, rfl⟩).mono ?_; rintro e w2 ⟨rfl, hq2, hb2⟩))
        have hbel2 := ((Hbel.out.alloc hsz _).trans (hb3.mono (by omega))).trans hb2
        go_roundw
        case rel => exact ⟨k + 1, by omega, by simp, by rw [Htake.out]; exact hq2, hbel2⟩
        case measure => simp [intOf]; omega
      · as_aux_lemma =>
        rw [show s.name = ⟨#[100, 101, 99, 97, 121]⟩ from hname] at c0
        have Hn : Hid (s.name = n_decay) := Lib.hid hname
        have Hq' : Hid (GSt (wr.alloc (.cells #[.string ⟨#[100, 101, 99, 97, 121]⟩, .int .i64 v.kind, .string s.val.text, .float .f64 s.val.num, .bool s.val.yes, .slice v.ka v.kn v.kc, .slice v.ca v.cn v.cc] 54)) (fun b => w.heap.size ≤ b) w.heap.size (ksDecay fd) 188 done) := Lib.hid (by
          have := Hq.out
          rw [show s.name = ⟨#[100, 101, 99, 97, 121]⟩ from hname] at this
          exact this)
        clear hname Hq
        go_wp2_with (go_at_call 132; refine (set132 _ w.heap.size _ fd done s Hn.out (by simp; omega) Hq'.out).mono ?_; rintro e w2 ⟨rfl, hq2, hb2⟩)
        have hbel2 := (Hbel.out.alloc hsz _).trans hb2
        go_roundw
        case rel => exact ⟨k + 1, by omega, by simp, by rw [Htake.out]; exact hq2, hbel2⟩
        case measure => simp [intOf]; omega
      · as_aux_lemma =>
        rw [show s.name = ⟨#[109, 117, 108, 116, 105, 95, 118, 97, 108, 117, 101, 95, 109, 111, 100, 101]⟩ from hname] at c0
        have Hn : Hid (s.name = n_multi_value_mode) := Lib.hid hname
        have Hq' : Hid (GSt (wr.alloc (.cells #[.string ⟨#[109, 117, 108, 116, 105, 95, 118, 97, 108, 117, 101, 95, 109, 111, 100, 101]⟩, .int .i64 v.kind, .string s.val.text, .float .f64 s.val.num, .bool s.val.yes, .slice v.ka v.kn v.kc, .slice v.ca v.cn v.cc] 54)) (fun b => w.heap.size ≤ b) w.heap.size (ksDecay fd) 188 done) := Lib.hid (by
          have := Hq.out
          rw [show s.name = ⟨#[109, 117, 108, 116, 105, 95, 118, 97, 108, 117, 101, 95, 109, 111, 100, 101]⟩ from hname] at this
          exact this)
        clear hname Hq
        go_wp2_with (go_at_call 133; refine (set133 _ w.heap.size _ fd done s Hn.out (by simp; omega) Hq'.out).mono ?_; rintro e w2 ⟨rfl, hq2, hb2⟩)
        have hbel2 := (Hbel.out.alloc hsz _).trans hb2
        go_roundw
        case rel => exact ⟨k + 1, by omega, by simp, by rw [Htake.out]; exact hq2, hbel2⟩
        case measure => simp [intOf]; omega
      · as_aux_lemma =>
        rw [show s.name = ⟨#[119, 101, 105, 103, 104, 116]⟩ from hname] at c0
        have Hn : Hid (s.name = n_weight) := Lib.hid hname
        have Hq' : Hid (GSt (wr.alloc (.cells #[.string ⟨#[119, 101, 105, 103, 104, 116]⟩, .int .i64 v.kind, .string s.val.text, .float .f64 s.val.num, .bool s.val.yes, .slice v.ka v.kn v.kc, .slice v.ca v.cn v.cc] 54)) (fun b => w.heap.size ≤ b) w.heap.size (ksDecay fd) 188 done) := Lib.hid (by
          have := Hq.out
          rw [show s.name = ⟨#[119, 101, 105, 103, 104, 116]⟩ from hname] at this
          exact this)
        clear hname Hq
        go_wp2_with (go_at_call 134; refine (set134 _ w.heap.size _ fd done s Hn.out (by simp; omega) Hq'.out).mono ?_; rintro e w2 ⟨rfl, hq2, hb2⟩)
        have hbel2 := (Hbel.out.alloc hsz _).trans hb2
        go_roundw
        case rel => exact ⟨k + 1, by omega, by simp, by rw [Htake.out]; exact hq2, hbel2⟩
        case measure => simp [intOf]; omega
    · obtain rfl : k = sets.length := by omega
      rw [List.take_length] at hq
      have Hq := Lib.hid hq; clear hq
      go_wp2_with fail
      go_ret
      exact ⟨w.heap.size, by simp, Hq.out, hbel⟩

set_option maxRecDepth 100000 in
set_option maxHeartbeats 40000000 in
theorem linear_any (fd : ByteArray) (sets : List SetM) (S : Nat → Prop) (a : Option Addr) (c : Nat) (w : World) (hsets : SetsAt w S a sets) (hl : sets.length ≤ 1048576) (hnm : ∀ s ∈ sets, s.name ∈ namesDecay) (hsc : ∀ s ∈ sets, s.name = n_origin ∨ s.name = n_scale ∨ s.name = n_offset → isLeaf s.val) :
    Calls Tryz.prog 106 #[.string fd, .slice a sets.length c] w fun e w' => ∃ B, e = .returned (.iface 150 (.pointer (some ⟨B, 0, none⟩))) ∧ GSt w' (fun b => w.heap.size ≤ b) B (ksDecay fd) 189 sets ∧ Below w.heap.size w w' := by
  have Hsets := Lib.hid hsets; clear hsets
  have Hnm := Lib.hid hnm; clear hnm
  have Hsc := Lib.hid hsc; clear hsc
  go_enter Tryz.func106, Tryz.ntmps106
  go_wp2_with (first
    | (go_at_call 135; refine (new135 _).mono ?_; rintro e w1 ⟨rfl, hq1, hb1⟩)
    | (go_at_call 136; refine (set136 w1 _ _ _ fd [] hq1).mono ?_; rintro e w2 ⟨rfl, hq2, hb2⟩))
  have hbel2 : Below w.heap.size w w2 := hb1.trans hb2
  go_loopw [13] (fun i wr => ∃ k : Nat, k ≤ sets.length ∧ i = .int .i64 k ∧ GSt wr (fun b => w.heap.size ≤ b) w.heap.size (ksDecay fd) 189 (sets.take k) ∧ Below w.heap.size w wr) (fun i _ => sets.length - (intOf i).toNat)
  case atStart => exact ⟨0, Nat.zero_le _, rfl, hq2, hbel2⟩
  case round =>
    clear hq2 hbel2 hq1 hb1 hb2
    obtain ⟨k, hk, rfl, hq, hbel⟩ := hrel
    by_cases hlt : k < sets.length
    · obtain ⟨b', o, v, hca, hSb, hlb, c0, c1, c2, c3, c4, c5, c6, hv⟩ := (Hsets.out.keep (Keeps.of_below S hbel)).cells (k := k) hlt
      subst hca
      obtain ⟨e1, e2, e3, e4, e5, e6⟩ := hv.eqs
      rw [e2] at c2
      rw [e3] at c3
      rw [e4] at c4
      have hmem : sets[k] ∈ sets := by simp
      have hname := Hnm.out _ hmem
      have Hsc := Lib.hid (Hsc.out _ hmem)
      have Htake : Hid (sets.take (k + 1) = sets.take k ++ [sets[k]]) := Lib.hid (List.take_succ_eq_append_getElem hlt)
      generalize sets[k] = s at *
      generalize sets.take k = done at *
      have hqb := hq.keep (Keeps.of_below _ ((Below.refl _ _).alloc (Nat.le_refl _) (.cells #[.string s.name, .int .i64 v.kind, .string s.val.text, .float .f64 s.val.num, .bool s.val.yes, .slice v.ka v.kn v.kc, .slice v.ca v.cn v.cc] 54)))
      have hsz := hbel.size
      have Hq := Lib.hid hqb; clear hqb hq
      have Hbel := Lib.hid hbel; clear hbel
      have Hv := Lib.hid hv
      have E2 := Lib.hid e2
      have E3 := Lib.hid e3
      have E4 := Lib.hid e4
      clear hv e1 e2 e3 e4 e5 e6 hmem hlb hSb
      have hi1 : (0 : Int) ≤ (k : Int) := by omega
      have hi2 : (k : Int) < (sets.length : Int) := by omega
      simp only [namesDecay, List.mem_cons, List.not_mem_nil, or_false] at hname
      rcases hname with hname | hname | hname | hname | hname | hname
      · as_aux_lemma =>
        rw [show s.name = ⟨#[111, 114, 105, 103, 105, 110]⟩ from hname] at c0
        have Hn : Hid (s.name = n_origin) := Lib.hid hname
        have Hq' : Hid (GSt (wr.alloc (.cells #[.string ⟨#[111, 114, 105, 103, 105, 110]⟩, .int .i64 v.kind, .string s.val.text, .float .f64 s.val.num, .bool s.val.yes, .slice v.ka v.kn v.kc, .slice v.ca v.cn v.cc] 54)) (fun b => w.heap.size ≤ b) w.heap.size (ksDecay fd) 189 done) := Lib.hid (by
          have := Hq.out
          rw [show s.name = ⟨#[111, 114, 105, 103, 105, 110]⟩ from hname] at this
          exact this)
        clear hname Hq
        have hcl := plain_val s.val v S (wr.alloc (.cells #[.string ⟨#[111, 114, 105, 103, 105, 110]⟩, .int .i64 v.kind, .string s.val.text, .float .f64 s.val.num, .bool s.val.yes, .slice v.ka v.kn v.kc, .slice v.ca v.cn v.cc] 54)) (Hv.out.keep (Keeps.of_below S ((Below.refl _ _).alloc (Nat.le_refl _) _))) (Hsc.out (by rw [Hn.out]; simp))
        have hcl2 : Calls Tryz.prog 121 #[.agg #[.int .i64 v.kind, .string s.val.text, .float .f64 s.val.num, .bool s.val.yes, .slice v.ka v.kn v.kc, .slice v.ca v.cn v.cc]] (wr.alloc (.cells #[.string ⟨#[111, 114, 105, 103, 105, 110]⟩, .int .i64 v.kind, .string s.val.text, .float .f64 s.val.num, .bool s.val.yes, .slice v.ka v.kn v.kc, .slice v.ca v.cn v.cc] 54)) fun e w' => e = .returned (.iface (leafTy s.val) (leafX s.val)) ∧ Below (wr.heap.size + 1) (wr.alloc (.cells #[.string ⟨#[111, 114, 105, 103, 105, 110]⟩, .int .i64 v.kind, .string s.val.text, .float .f64 s.val.num, .bool s.val.yes, .slice v.ka v.kn v.kc, .slice v.ca v.cn v.cc] 54)) w' := by
          simp only [World.size_alloc, TV.val, E2.out, E3.out, E4.out] at hcl
          exact hcl
        have Hcl := Lib.hid hcl2; clear hcl hcl2
        go_wp2_with (first
          | (go_at_call 121; refine Hcl.out.mono ?_; rintro e w3 ⟨rfl, hb3⟩)
          | (go_at_call 137; refine (set137 w3 w.heap.size _ fd done s Hn.out (by have := hb3.size; simp at this; omega) (Hq'.out.keep (Keeps.of_below _ (by simpa using hb3))) _ _ ⟨rfl, rfl⟩).mono ?_; rintro e w2 ⟨rfl, hq2, hb2⟩))
        have hbel2 := ((Hbel.out.alloc hsz _).trans (hb3.mono (by omega))).trans hb2
        go_roundw
        case rel => exact ⟨k + 1, by omega, by simp, by rw [Htake.out]; exact hq2, hbel2⟩
        case measure => simp [intOf]; omega
      · as_aux_lemma =>
        rw [show s.name = ⟨#[115, 99, 97, 108, 101]⟩ from hname] at c0
        have Hn : Hid (s.name = n_scale) := Lib.hid hname
        have Hq' : Hid (GSt (wr.alloc (.cells #[.string ⟨#[115, 99, 97, 108, 101]⟩, .int .i64 v.kind, .string s.val.text, .float .f64 s.val.num, .bool s.val.yes, .slice v.ka v.kn v.kc, .slice v.ca v.cn v.cc] 54)) (fun b => w.heap.size ≤ b) w.heap.size (ksDecay fd) 189 done) := Lib.hid (by
          have := Hq.out
          rw [show s.name = ⟨#[115, 99, 97, 108, 101]⟩ from hname] at this
          exact this)
        clear hname Hq
        have hcl := plain_val s.val v S (wr.alloc (.cells #[.string ⟨#[115, 99, 97, 108, 101]⟩, .int .i64 v.kind, .string s.val.text, .float .f64 s.val.num, .bool s.val.yes, .slice v.ka v.kn v.kc, .slice v.ca v.cn v.cc] 54)) (Hv.out.keep (Keeps.of_below S ((Below.refl _ _).alloc (Nat.le_refl _) _))) (Hsc.out (by rw [Hn.out]; simp))
        have hcl2 : Calls Tryz.prog 121 #[.agg #[.int .i64 v.kind, .string s.val.text, .float .f64 s.val.num, .bool s.val.yes, .slice v.ka v.kn v.kc, .slice v.ca v.cn v.cc]] (wr.alloc (.cells #[.string ⟨#[115, 99, 97, 108, 101]⟩, .int .i64 v.kind, .string s.val.text, .float .f64 s.val.num, .bool s.val.yes, .slice v.ka v.kn v.kc, .slice v.ca v.cn v.cc] 54)) fun e w' => e = .returned (.iface (leafTy s.val) (leafX s.val)) ∧ Below (wr.heap.size + 1) (wr.alloc (.cells #[.string ⟨#[115, 99, 97, 108, 101]⟩, .int .i64 v.kind, .string s.val.text, .float .f64 s.val.num, .bool s.val.yes, .slice v.ka v.kn v.kc, .slice v.ca v.cn v.cc] 54)) w' := by
          simp only [World.size_alloc, TV.val, E2.out, E3.out, E4.out] at hcl
          exact hcl
        have Hcl := Lib.hid hcl2; clear hcl hcl2
        go_wp2_with (first
          | (go_at_call 121; refine Hcl.out.mono ?_; rintro e w3 ⟨rfl, hb3⟩)
          | (go_at_call 138; refine (set138 w3 w.heap.size _ fd done s Hn.out (by have := hb3.size; simp at this; omega) (Hq'.out.keep (Keeps.of_below _ (by simpa using hb3))) _ _ ⟨rfl, rfl⟩).mono ?_; rintro e w2 ⟨rfl, hq2, hb2⟩))
        have hbel2 := ((Hbel.out.alloc hsz _).trans (hb3.mono (by omega))).trans hb2
        go_roundw
        case rel => exact ⟨k + 1, by omega, by simp, by rw [Htake.out]; exact hq2, hbel2⟩
        case measure => simp [intOf]; omega
      · as_aux_lemma =>
        rw [show s.name = ⟨#[111, 102, 102, 115, 101, 116]⟩ from hname] at c0
        have Hn : Hid (s.name = n_offset) := Lib.hid hname
        have Hq' : Hid (GSt (wr.alloc (.cells #[.string ⟨#[111, 102, 102, 115, 101, 116]⟩, .int .i64 v.kind, .string s.val.text, .float .f64 s.val.num, .bool s.val.yes, .slice v.ka v.kn v.kc, .slice v.ca v.cn v.cc] 54)) (fun b => w.heap.size ≤ b) w.heap.size (ksDecay fd) 189 done) := Lib.hid (by
          have := Hq.out
          rw [show s.name = ⟨#[111, 102, 102, 115, 101, 116]⟩ from hname] at this
          exact this)
        clear hname Hq
        have hcl := plain_val s.val v S (wr.alloc (.cells #[.string ⟨#[111, 102, 102, 115, 101, 116]⟩, .int .i64 v.kind, .string s.val.text, .float .f64 s.val.num, .bool s.val.yes, .slice v.ka v.kn v.kc, .slice v.ca v.cn v.cc] 54)) (Hv.out.keep (Keeps.of_below S ((Below.refl _ _).alloc (Nat.le_refl _) _))) (Hsc.out (by rw [Hn.out]; simp))
        have hcl2 : Calls Tryz.prog 121 #[.agg #[.int .i64 v.kind, .string s.val.text, .float .f64 s.val.num, .bool s.val.yes, .slice v.ka v.kn v.kc, .slice v.ca v.cn v.cc]] (wr.alloc (.cells #[.string ⟨#[111, 102, 102, 115, 101, 116]⟩, .int .i64 v.kind, .string s.val.text, .float .f64 s.val.num, .bool s.val.yes, .slice v.ka v.kn v.kc, .slice v.ca v.cn v.cc] 54)) fun e w' => e = .returned (.iface (leafTy s.val) (leafX s.val)) ∧ Below (wr.heap.size + 1) (wr.alloc (.cells #[.string ⟨#[111, 102, 102, 115, 101, 116]⟩, .int .i64 v.kind, .string s.val.text, .float .f64 s.val.num, .bool s.val.yes, .slice v.ka v.kn v.kc, .slice v.ca v.cn v.cc] 54)) w' := by
          simp only [World.size_alloc, TV.val, E2.out, E3.out, E4.out] at hcl
          exact hcl
        have Hcl := Lib.hid hcl2; clear hcl hcl2
        go_wp2_with (first
          | (go_at_call 121; refine Hcl.out.mono ?_; rintro e w3 ⟨rfl, hb3⟩)
          | (go_at_call 139; refine (set139 w3 w.heap.size _ fd done s Hn.out (by have := hb3.size; simp at this; omega) (Hq'.out.keep (Keeps.of_below _ (by simpa using hb3))) _ _ ⟨rfl, rfl⟩).mono ?_; rintro e w2 ⟨rfl, hq2, hb2⟩))
        have hbel2 := ((Hbel.out.alloc hsz _).trans (hb3.mono (by omega))).trans hb2
        go_roundw
        case rel => exact ⟨k + 1, by omega, by simp, by rw [Htake.out]; exact hq2, hbel2⟩
        case measure => simp [intOf]; omega
      · as_aux_lemma =>
        rw [show s.name = ⟨#[100, 101, 99, 97, 121]⟩ from hname] at c0
        have Hn : Hid (s.name = n_decay) := Lib.hid hname
        have Hq' : Hid (GSt (wr.alloc (.cells #[.string ⟨#[100, 101, 99, 97, 121]⟩, .int .i64 v.kind, .string s.val.text, .float .f64 s.val.num, .bool s.val.yes, .slice v.ka v.kn v.kc, .slice v.ca v.cn v.cc] 54)) (fun b => w.heap.size ≤ b) w.heap.size (ksDecay fd) 189 done) := Lib.hid (by
          have := Hq.out
          rw [show s.name = ⟨#[100, 101, 99, 97, 121]⟩ from hname] at this
          exact this)
        clear hname Hq
        go_wp2_with (go_at_call 140; refine (set140 _ w.heap.size _ fd done s Hn.out (by simp; omega) Hq'.out).mono ?_; rintro e w2 ⟨rfl, hq2, hb2⟩)
        have hbel2 := (Hbel.out.alloc hsz _).trans hb2
        go_roundw
        case rel => exact ⟨k + 1, by omega, by simp, by rw [Htake.out]; exact hq2, hbel2⟩
        case measure => simp [intOf]; omega
      · as_aux_lemma =>
        rw [show s.name = ⟨#[109, 117, 108, 116, 105, 95, 118, 97, 108, 117, 101, 95, 109, 111, 100, 101]⟩ from hname] at c0
        have Hn : Hid (s.name = n_multi_value_mode) := Lib.hid hname
        have Hq' : Hid (GSt (wr.alloc (.cells #[.string ⟨#[109, 117, 108, 116, 105, 95, 118, 97, 108, 117, 101, 95, 109, 111, 100, 101]⟩, .int .i64 v.kind, .string s.val.text, .float .f64 s.val.num, .bool s.val.yes, .slice v.ka v.kn v.kc, .slice v.ca v.cn v.cc] 54)) (fun b => w.heap.size ≤ b) w.heap.size (ksDecay fd) 189 done) := Lib.hid (by
          have := Hq.out
          rw [show s.name = ⟨#[109, 117, 108, 116, 105, 95, 118, 97, 108, 117, 101, 95, 109, 111, 100, 101]⟩ from hname] at this
          exact this)
        clear hname Hq
        go_wp2_with (go_at_call 141; refine (set141 _ w.heap.size _ fd done s Hn.out (by simp; omega) Hq'.out).mono ?_; rintro e w2 ⟨rfl, hq2, hb2⟩)
        have hbel2 := (Hbel.out.alloc hsz _).trans hb2
        go_roundw
        case rel => exact ⟨k + 1, by omega, by simp, by rw [Htake.out]; exact hq2, hbel2⟩
        case measure => simp [intOf]; omega
      · as_aux_lemma =>
        rw [show s.name = ⟨#[119, 101, 105, 103, 104, 116]⟩ from hname] at c0
        have Hn : Hid (s.name = n_weight) := Lib.hid hname
        have Hq' : Hid (GSt (wr.alloc (.cells #[.string ⟨#[119, 101, 105, 103, 104, 116]⟩, .int .i64 v.kind, .string s.val.text, .float .f64 s.val.num, .bool s.val.yes, .slice v.ka v.kn v.kc, .slice v.ca v.cn v.cc] 54)) (fun b => w.heap.size ≤ b) w.heap.size (ksDecay fd) 189 done) := Lib.hid (by
          have := Hq.out
          rw [show s.name = ⟨#[119, 101, 105, 103, 104, 116]⟩ from hname] at this
          exact this)
        clear hname Hq
        go_wp2_with (go_at_call 142; refine (set142 _ w.heap.size _ fd done s Hn.out (by simp; omega) Hq'.out).mono ?_; rintro e w2 ⟨rfl, hq2, hb2⟩)
        have hbel2 := (Hbel.out.alloc hsz _).trans hb2
        go_roundw
        case rel => exact ⟨k + 1, by omega, by simp, by rw [Htake.out]; exact hq2, hbel2⟩
        case measure => simp [intOf]; omega
    · obtain rfl : k = sets.length := by omega
      rw [List.take_length] at hq
      have Hq := Lib.hid hq; clear hq
      go_wp2_with fail
      go_ret
      exact ⟨w.heap.size, by simp, Hq.out, hbel⟩

set_option maxRecDepth 100000 in
set_option maxHeartbeats 40000000 in
theorem factor_any (fd : ByteArray) (sets : List SetM) (S : Nat → Prop) (a : Option Addr) (c : Nat) (w : World) (hsets : SetsAt w S a sets) (hl : sets.length ≤ 1048576) (hnm : ∀ s ∈ sets, s.name ∈ namesFactor) :
    Calls Tryz.prog 107 #[.string fd, .slice a sets.length c] w fun e w' => ∃ B, e = .returned (.iface 155 (.pointer (some ⟨B, 0, none⟩))) ∧ GSt w' (fun b => w.heap.size ≤ b) B (ksFactor fd) 191 sets ∧ Below w.heap.size w w' := by
  have Hsets := Lib.hid hsets; clear hsets
  have Hnm := Lib.hid hnm; clear hnm
  go_enter Tryz.func107, Tryz.ntmps107
  go_wp2_with (first
    | (go_at_call 143; refine (new143 _).mono ?_; rintro e w1 ⟨rfl, hq1, hb1⟩)
    | (go_at_call 144; refine (set144 w1 _ _ _ fd [] hq1).mono ?_; rintro e w2 ⟨rfl, hq2, hb2⟩))
  have hbel2 : Below w.heap.size w w2 := hb1.trans hb2
  go_loopw [13] (fun i wr => ∃ k : Nat, k ≤ sets.length ∧ i = .int .i64 k ∧ GSt wr (fun b => w.heap.size ≤ b) w.heap.size (ksFactor fd) 191 (sets.take k) ∧ Below w.heap.size w wr) (fun i _ => sets.length - (intOf i).toNat)
  case atStart => exact ⟨0, Nat.zero_le _, rfl, hq2, hbel2⟩
  case round =>
    clear hq2 hbel2 hq1 hb1 hb2
    obtain ⟨k, hk, rfl, hq, hbel⟩ := hrel
    by_cases hlt : k < sets.length
    · obtain ⟨b', o, v, hca, hSb, hlb, c0, c1, c2, c3, c4, c5, c6, hv⟩ := (Hsets.out.keep (Keeps.of_below S hbel)).cells (k := k) hlt
      subst hca
      obtain ⟨e1, e2, e3, e4, e5, e6⟩ := hv.eqs
      rw [e2] at c2
      rw [e3] at c3
      rw [e4] at c4
      have hmem : sets[k] ∈ sets := by simp
      have hname := Hnm.out _ hmem
      have Htake : Hid (sets.take (k + 1) = sets.take k ++ [sets[k]]) := Lib.hid (List.take_succ_eq_append_getElem hlt)
      generalize sets[k] = s at *
      generalize sets.take k = done at *
      have hqb := hq.keep (Keeps.of_below _ ((Below.refl _ _).alloc (Nat.le_refl _) (.cells #[.string s.name, .int .i64 v.kind, .string s.val.text, .float .f64 s.val.num, .bool s.val.yes, .slice v.ka v.kn v.kc, .slice v.ca v.cn v.cc] 54)))
      have hsz := hbel.size
      have Hq := Lib.hid hqb; clear hqb hq
      have Hbel := Lib.hid hbel; clear hbel
      have Hv := Lib.hid hv
      have E2 := Lib.hid e2
      have E3 := Lib.hid e3
      have E4 := Lib.hid e4
      clear hv e1 e2 e3 e4 e5 e6 hmem hlb hSb
      have hi1 : (0 : Int) ≤ (k : Int) := by omega
      have hi2 : (k : Int) < (sets.length : Int) := by omega
      simp only [namesFactor, List.mem_cons, List.not_mem_nil, or_false] at hname
      rcases hname with hname | hname | hname | hname
      · as_aux_lemma =>
        rw [show s.name = ⟨#[102, 97, 99, 116, 111, 114]⟩ from hname] at c0
        have Hn : Hid (s.name = n_factor) := Lib.hid hname
        have Hq' : Hid (GSt (wr.alloc (.cells #[.string ⟨#[102, 97, 99, 116, 111, 114]⟩, .int .i64 v.kind, .string s.val.text, .float .f64 s.val.num, .bool s.val.yes, .slice v.ka v.kn v.kc, .slice v.ca v.cn v.cc] 54)) (fun b => w.heap.size ≤ b) w.heap.size (ksFactor fd) 191 done) := Lib.hid (by
          have := Hq.out
          rw [show s.name = ⟨#[102, 97, 99, 116, 111, 114]⟩ from hname] at this
          exact this)
        clear hname Hq
        go_wp2_with (go_at_call 145; refine (set145 _ w.heap.size _ fd done s Hn.out (by simp; omega) Hq'.out).mono ?_; rintro e w2 ⟨rfl, hq2, hb2⟩)
        have hbel2 := (Hbel.out.alloc hsz _).trans hb2
        go_roundw
        case rel => exact ⟨k + 1, by omega, by simp, by rw [Htake.out]; exact hq2, hbel2⟩
        case measure => simp [intOf]; omega
      · as_aux_lemma =>
        rw [show s.name = ⟨#[109, 105, 115, 115, 105, 110, 103]⟩ from hname] at c0
        have Hn : Hid (s.name = n_missing) := Lib.hid hname
        have Hq' : Hid (GSt (wr.alloc (.cells #[.string ⟨#[109, 105, 115, 115, 105, 110, 103]⟩, .int .i64 v.kind, .string s.val.text, .float .f64 s.val.num, .bool s.val.yes, .slice v.ka v.kn v.kc, .slice v.ca v.cn v.cc] 54)) (fun b => w.heap.size ≤ b) w.heap.size (ksFactor fd) 191 done) := Lib.hid (by
          have := Hq.out
          rw [show s.name = ⟨#[109, 105, 115, 115, 105, 110, 103]⟩ from hname] at this
          exact this)
        clear hname Hq
        go_wp2_with (go_at_call 146; refine (set146 _ w.heap.size _ fd done s Hn.out (by simp; omega) Hq'.out).mono ?_; rintro e w2 ⟨rfl, hq2, hb2⟩)
        have hbel2 := (Hbel.out.alloc hsz _).trans hb2
        go_roundw
        case rel => exact ⟨k + 1, by omega, by simp, by rw [Htake.out]; exact hq2, hbel2⟩
        case measure => simp [intOf]; omega
      · as_aux_lemma =>
        rw [show s.name = ⟨#[109, 111, 100, 105, 102, 105, 101, 114]⟩ from hname] at c0
        have Hn : Hid (s.name = n_modifier) := Lib.hid hname
        have Hq' : Hid (GSt (wr.alloc (.cells #[.string ⟨#[109, 111, 100, 105, 102, 105, 101, 114]⟩, .int .i64 v.kind, .string s.val.text, .float .f64 s.val.num, .bool s.val.yes, .slice v.ka v.kn v.kc, .slice v.ca v.cn v.cc] 54)) (fun b => w.heap.size ≤ b) w.heap.size (ksFactor fd) 191 done) := Lib.hid (by
          have := Hq.out
          rw [show s.name = ⟨#[109, 111, 100, 105, 102, 105, 101, 114]⟩ from hname] at this
          exact this)
        clear hname Hq
        go_wp2_with (go_at_call 147; refine (set147 _ w.heap.size _ fd done s Hn.out (by simp; omega) Hq'.out).mono ?_; rintro e w2 ⟨rfl, hq2, hb2⟩)
        have hbel2 := (Hbel.out.alloc hsz _).trans hb2
        go_roundw
        case rel => exact ⟨k + 1, by omega, by simp, by rw [Htake.out]; exact hq2, hbel2⟩
        case measure => simp [intOf]; omega
      · as_aux_lemma =>
        rw [show s.name = ⟨#[119, 101, 105, 103, 104, 116]⟩ from hname] at c0
        have Hn : Hid (s.name = n_weight) := Lib.hid hname
        have Hq' : Hid (GSt (wr.alloc (.cells #[.string ⟨#[119, 101, 105, 103, 104, 116]⟩, .int .i64 v.kind, .string s.val.text, .float .f64 s.val.num, .bool s.val.yes, .slice v.ka v.kn v.kc, .slice v.ca v.cn v.cc] 54)) (fun b => w.heap.size ≤ b) w.heap.size (ksFactor fd) 191 done) := Lib.hid (by
          have := Hq.out
          rw [show s.name = ⟨#[119, 101, 105, 103, 104, 116]⟩ from hname] at this
          exact this)
        clear hname Hq
        go_wp2_with (go_at_call 148; refine (set148 _ w.heap.size _ fd done s Hn.out (by simp; omega) Hq'.out).mono ?_; rintro e w2 ⟨rfl, hq2, hb2⟩)
        have hbel2 := (Hbel.out.alloc hsz _).trans hb2
        go_roundw
        case rel => exact ⟨k + 1, by omega, by simp, by rw [Htake.out]; exact hq2, hbel2⟩
        case measure => simp [intOf]; omega
    · obtain rfl : k = sets.length := by omega
      rw [List.take_length] at hq
      have Hq := Lib.hid hq; clear hq
      go_wp2_with fail
      go_ret
      exact ⟨w.heap.size, by simp, Hq.out, hbel⟩

set_option maxRecDepth 100000 in
set_option maxHeartbeats 40000000 in
theorem random_any (fd : ByteArray) (sets : List SetM) (S : Nat → Prop) (a : Option Addr) (c : Nat) (w : World) (hsets : SetsAt w S a sets) (hl : sets.length ≤ 1048576) (hnm : ∀ s ∈ sets, s.name ∈ namesRandom) (hwh : ∀ s ∈ sets, s.name = n_seed → ∃ n : Nat, n ≤ 1000000 ∧ floatToIntVal .f64 s.val.num .i64 = some (n : Int)) :
    Calls Tryz.prog 108 #[.string fd, .slice a sets.length c] w fun e w' => ∃ B, e = .returned (.iface 159 (.pointer (some ⟨B, 0, none⟩))) ∧ GSt w' (fun b => w.heap.size ≤ b) B (ksRandom fd) 193 sets ∧ Below w.heap.size w w' := by
  have Hsets := Lib.hid hsets; clear hsets
  have Hnm := Lib.hid hnm; clear hnm
  have Hwh := Lib.hid hwh; clear hwh
  go_enter Tryz.func108, Tryz.ntmps108
  go_upto_if 10 with (go_at_call 149; refine (new149 _).mono ?_; rintro e w1 ⟨rfl, hq1, hb1⟩)
  go_cut [] from 9 to 13 (fun wr => GSt wr (fun b => w.heap.size ≤ b) w.heap.size (ksRandom fd) 193 [] ∧ Below w.heap.size w wr)
  case first =>
    by_cases hs0 : fd = ⟨#[]⟩
    · have hemp : fd.toList.isEmpty = true := by rw [bs_isEmpty]; simp [hs0]
      have Hs0 := Lib.hid hs0; clear hs0
      simp only [hemp, Bool.not_true]
      go_wp2_with fail
      go_meet
      case rel => exact ⟨by rw [Hs0.out]; exact hq1, hb1⟩
    · have hemp : fd.toList.isEmpty = false := by rw [bs_isEmpty]; simp [hs0]
      clear hs0
      simp only [hemp, Bool.not_false]
      go_wp2_with (go_at_call 150; refine (set150 w1 _ _ _ fd [] hq1).mono ?_; rintro e w2 ⟨rfl, hq2, hb2⟩)
      go_meet
      case rel => exact ⟨hq2, hb1.trans hb2⟩
  case rest =>
  obtain ⟨hq2, hbel2⟩ := hcut
  clear hq1 hb1
  go_wp2_with fail
  go_loopw [16] (fun i wr => ∃ k : Nat, k ≤ sets.length ∧ i = .int .i64 k ∧ GSt wr (fun b => w.heap.size ≤ b) w.heap.size (ksRandom fd) 193 (sets.take k) ∧ Below w.heap.size w wr) (fun i _ => sets.length - (intOf i).toNat)
  case atStart => exact ⟨0, Nat.zero_le _, rfl, hq2, hbel2⟩
  case round =>
    clear hq2 hbel2
    obtain ⟨k, hk, rfl, hq, hbel⟩ := hrel
    by_cases hlt : k < sets.length
    · obtain ⟨b', o, v, hca, hSb, hlb, c0, c1, c2, c3, c4, c5, c6, hv⟩ := (Hsets.out.keep (Keeps.of_below S hbel)).cells (k := k) hlt
      subst hca
      obtain ⟨e1, e2, e3, e4, e5, e6⟩ := hv.eqs
      rw [e2] at c2
      rw [e3] at c3
      rw [e4] at c4
      have hmem : sets[k] ∈ sets := by simp
      have hname := Hnm.out _ hmem
      have Hw := Lib.hid (Hwh.out _ hmem)
      have Htake : Hid (sets.take (k + 1) = sets.take k ++ [sets[k]]) := Lib.hid (List.take_succ_eq_append_getElem hlt)
      generalize sets[k] = s at *
      generalize sets.take k = done at *
      have hqb := hq.keep (Keeps.of_below _ ((Below.refl _ _).alloc (Nat.le_refl _) (.cells #[.string s.name, .int .i64 v.kind, .string s.val.text, .float .f64 s.val.num, .bool s.val.yes, .slice v.ka v.kn v.kc, .slice v.ca v.cn v.cc] 54)))
      have hsz := hbel.size
      have Hq := Lib.hid hqb; clear hqb hq
      have Hbel := Lib.hid hbel; clear hbel
      have Hv := Lib.hid hv
      have E2 := Lib.hid e2
      have E3 := Lib.hid e3
      have E4 := Lib.hid e4
      clear hv e1 e2 e3 e4 e5 e6 hmem hlb hSb
      have hi1 : (0 : Int) ≤ (k : Int) := by omega
      have hi2 : (k : Int) < (sets.length : Int) := by omega
      simp only [namesRandom, List.mem_cons, List.not_mem_nil, or_false] at hname
      rcases hname with hname | hname
      · as_aux_lemma =>
        rw [show s.name = ⟨#[115, 101, 101, 100]⟩ from hname] at c0
        have Hn : Hid (s.name = n_seed) := Lib.hid hname
        have Hq' : Hid (GSt (wr.alloc (.cells #[.string ⟨#[115, 101, 101, 100]⟩, .int .i64 v.kind, .string s.val.text, .float .f64 s.val.num, .bool s.val.yes, .slice v.ka v.kn v.kc, .slice v.ca v.cn v.cc] 54)) (fun b => w.heap.size ≤ b) w.heap.size (ksRandom fd) 193 done) := Lib.hid (by
          have := Hq.out
          rw [show s.name = ⟨#[115, 101, 101, 100]⟩ from hname] at this
          exact this)
        clear hname Hq
        obtain ⟨nn, hnn, hcv⟩ := Hw.out Hn.out
        have hcv' := fun wx => conv_long hcv wx
        have Hcv := Lib.hid hcv; clear hcv
        go_wp2_with (go_at_call 151; refine (set151 _ w.heap.size _ fd done s Hn.out (by simp; omega) Hq'.out nn (by unfold toI; rw [Hcv.out]; rfl)).mono ?_; rintro e w2 ⟨rfl, hq2, hb2⟩)
        have hbel2 := (Hbel.out.alloc hsz _).trans hb2
        go_roundw
        case rel => exact ⟨k + 1, by omega, by simp, by rw [Htake.out]; exact hq2, hbel2⟩
        case measure => simp [intOf]; omega
      · as_aux_lemma =>
        rw [show s.name = ⟨#[119, 101, 105, 103, 104, 116]⟩ from hname] at c0
        have Hn : Hid (s.name = n_weight) := Lib.hid hname
        have Hq' : Hid (GSt (wr.alloc (.cells #[.string ⟨#[119, 101, 105, 103, 104, 116]⟩, .int .i64 v.kind, .string s.val.text, .float .f64 s.val.num, .bool s.val.yes, .slice v.ka v.kn v.kc, .slice v.ca v.cn v.cc] 54)) (fun b => w.heap.size ≤ b) w.heap.size (ksRandom fd) 193 done) := Lib.hid (by
          have := Hq.out
          rw [show s.name = ⟨#[119, 101, 105, 103, 104, 116]⟩ from hname] at this
          exact this)
        clear hname Hq
        go_wp2_with (go_at_call 152; refine (set152 _ w.heap.size _ fd done s Hn.out (by simp; omega) Hq'.out).mono ?_; rintro e w2 ⟨rfl, hq2, hb2⟩)
        have hbel2 := (Hbel.out.alloc hsz _).trans hb2
        go_roundw
        case rel => exact ⟨k + 1, by omega, by simp, by rw [Htake.out]; exact hq2, hbel2⟩
        case measure => simp [intOf]; omega
    · obtain rfl : k = sets.length := by omega
      rw [List.take_length] at hq
      have Hq := Lib.hid hq; clear hq
      go_wp2_with fail
      go_ret
      exact ⟨w.heap.size, by simp, Hq.out, hbel⟩
end Go.Proofs.YtbcnhcpgloncdaaGreatDoor
