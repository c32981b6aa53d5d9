/- The setters of score functions. -/
import Derived.Test.YtbcnhcpgloncdaaGreatDoorQJa
namespace Go.Proofs.YtbcnhcpgloncdaaGreatDoor
open Go Go.RowKit Go.BigFrame Go.Maps

def n_origin : ByteArray := ⟨#[111, 114, 105, 103, 105, 110]⟩
def n_scale : ByteArray := ⟨#[115, 99, 97, 108, 101]⟩
def n_offset : ByteArray := ⟨#[111, 102, 102, 115, 101, 116]⟩
def n_decay : ByteArray := ⟨#[100, 101, 99, 97, 121]⟩
def n_multi_value_mode : ByteArray := ⟨#[109, 117, 108, 116, 105, 95, 118, 97, 108, 117, 101, 95, 109, 111, 100, 101]⟩
def n_weight : ByteArray := ⟨#[119, 101, 105, 103, 104, 116]⟩
def n_factor : ByteArray := ⟨#[102, 97, 99, 116, 111, 114]⟩
def n_missing : ByteArray := ⟨#[109, 105, 115, 115, 105, 110, 103]⟩
def n_modifier : ByteArray := ⟨#[109, 111, 100, 105, 102, 105, 101, 114]⟩
def n_seed : ByteArray := ⟨#[115, 101, 101, 100]⟩

abbrev ksDecay (f : ByteArray) : List GK := [.fixed f, .any n_origin, .any n_scale, .num n_decay, .any n_offset, .text n_multi_value_mode, .num n_weight]
abbrev ksFactor (f : ByteArray) : List GK := [.fixed f, .num n_factor, .num n_missing, .num n_weight, .text n_modifier]
abbrev ksRandom (f : ByteArray) : List GK := [.fixed f, .seed n_seed, .num n_weight]
abbrev ksWeight (x : Nat) : List GK := [.flt x]
theorem GSt.fix {w : World} {S : Nat → Prop} {B : Nat} {f0 : ByteArray} {ks : List GK} {ty : TypeId} {done : List SetM} (h : GSt w S B (.fixed f0 :: ks) ty done) (f : ByteArray) : GSt (w.setCell ⟨B, 0, none⟩ (.string f)) S B (.fixed f :: ks) ty done := by
  obtain ⟨hS, cs, h1, h2, h3⟩ := h
  refine ⟨hS, cs.set 0 (.string f), ?_, by simpa using h2, fun i k u hk hu => ?_⟩
  · rw [heap_setCell_same w B 0 cs.toArray ty (.string f) h1]; simp
  · cases i with
    | zero =>
      cases cs with
      | nil => simp at h2
      | cons c cs =>
        simp at hk hu
        subst hk hu
        rfl
    | succ i =>
      rw [List.getElem?_set_ne (by omega)] at hu
      exact (h3 (i + 1) k u (by simpa using hk) hu).keep (fun b hb hl => heap_setCell_other _ _ _ _ (by simpa using hb.2))

set_option maxRecDepth 100000 in
set_option maxHeartbeats 1000000 in
theorem new118 (w : World) : Calls Tryz.prog 118 #[] w (SetG w w.heap.size w.heap.size (ksDecay ⟨#[]⟩) 186 []) := by
  go_enter Tryz.func118, Tryz.ntmps118
  go_wp2
  go_ret
  refine ⟨by simp, ⟨Nat.le_refl _, [.string ⟨#[]⟩, .nilIface, .nilIface, .pointer none, .nilIface, .string ⟨#[]⟩, .pointer none], heap_alloc_new w _, rfl, fun j k u hk hu => ?_⟩, (Below.refl _ _).alloc (Nat.le_refl _) _⟩
  have hj : j < 7 := by have := (List.getElem?_eq_some_iff.1 hu).1; simpa using this
  match j, hj, hk, hu with
  | 0, _, hk, hu => cases hk; cases hu; rfl
  | 1, _, hk, hu => cases hk; cases hu; rfl
  | 2, _, hk, hu => cases hk; cases hu; rfl
  | 3, _, hk, hu => cases hk; cases hu; rfl
  | 4, _, hk, hu => cases hk; cases hu; rfl
  | 5, _, hk, hu => cases hk; cases hu; rfl
  | 6, _, hk, hu => cases hk; cases hu; rfl

set_option maxRecDepth 100000 in
set_option maxHeartbeats 1000000 in
theorem set119 (w : World) (base B : Nat) (f0 f : ByteArray) (done : List SetM) (hq : GSt w (fun b => base ≤ b) B (ksDecay f0) 186 done) :
    Calls Tryz.prog 119 #[.pointer (some ⟨B, 0, none⟩), .string f] w (SetG w base B (ksDecay f) 186 done) := by
  obtain ⟨u, hc, _⟩ := hq.cell 0 _ rfl
  have hf := hq.frozen 0
  have hlt := hq.lt
  have hne := Nat.ne_of_lt hlt
  have hB : base ≤ B := hq.1
  have Hq := Lib.hid hq; clear hq
  go_enter Tryz.func119, Tryz.ntmps119
  go_wp2
  go_ret
  exact ⟨by simp, Hq.out.fix f, (Below.refl _ _).setCell (by simpa using hB) _⟩

set_option maxRecDepth 100000 in
set_option maxHeartbeats 1000000 in
theorem set120 (w : World) (base B : Nat) (f : ByteArray) (done : List SetM) (s : SetM) (hs : s.name = n_origin) (_hb : base ≤ w.heap.size) (hq : GSt w (fun b => base ≤ b) B (ksDecay f) 186 done) (ty : TypeId) (x : Value) (hv : ty = leafTy s.val ∧ x = leafX s.val) :
    Calls Tryz.prog 120 #[.pointer (some ⟨B, 0, none⟩), .iface ty x] w (SetG w base B (ksDecay f) 186 (done ++ [s])) := by
  obtain ⟨u, hc, _⟩ := hq.cell 1 _ rfl
  have hf := hq.frozen 1
  have hlt := hq.lt
  have hne := Nat.ne_of_lt hlt
  have hB : base ≤ B := hq.1
  have Hq := Lib.hid hq; clear hq
  have Hs := Lib.hid hs; clear hs
  have Hv := Lib.hid hv; clear hv
  go_enter Tryz.func120, Tryz.ntmps120
  go_wp2
  go_ret
  refine ⟨by simp, Hq.out.put s 1 _ (others_of (nm := n_origin) (by kernel_rfl) Hs.out) (fun k hk => ?_), (Below.refl _ _).setCell (by simpa using hB) _⟩
  obtain rfl : GK.any n_origin = k := Option.some.inj hk
  simp only [GOK, lastOf_snoc, if_pos Hs.out]
  rw [Hv.out.1, Hv.out.2]

set_option maxRecDepth 100000 in
set_option maxHeartbeats 1000000 in
theorem set122 (w : World) (base B : Nat) (f : ByteArray) (done : List SetM) (s : SetM) (hs : s.name = n_scale) (_hb : base ≤ w.heap.size) (hq : GSt w (fun b => base ≤ b) B (ksDecay f) 186 done) (ty : TypeId) (x : Value) (hv : ty = leafTy s.val ∧ x = leafX s.val) :
    Calls Tryz.prog 122 #[.pointer (some ⟨B, 0, none⟩), .iface ty x] w (SetG w base B (ksDecay f) 186 (done ++ [s])) := by
  obtain ⟨u, hc, _⟩ := hq.cell 2 _ rfl
  have hf := hq.frozen 2
  have hlt := hq.lt
  have hne := Nat.ne_of_lt hlt
  have hB : base ≤ B := hq.1
  have Hq := Lib.hid hq; clear hq
  have Hs := Lib.hid hs; clear hs
  have Hv := Lib.hid hv; clear hv
  go_enter Tryz.func122, Tryz.ntmps122
  go_wp2
  go_ret
  refine ⟨by simp, Hq.out.put s 2 _ (others_of (nm := n_scale) (by kernel_rfl) Hs.out) (fun k hk => ?_), (Below.refl _ _).setCell (by simpa using hB) _⟩
  obtain rfl : GK.any n_scale = k := Option.some.inj hk
  simp only [GOK, lastOf_snoc, if_pos Hs.out]
  rw [Hv.out.1, Hv.out.2]

set_option maxRecDepth 100000 in
set_option maxHeartbeats 1000000 in
theorem set123 (w : World) (base B : Nat) (f : ByteArray) (done : List SetM) (s : SetM) (hs : s.name = n_offset) (_hb : base ≤ w.heap.size) (hq : GSt w (fun b => base ≤ b) B (ksDecay f) 186 done) (ty : TypeId) (x : Value) (hv : ty = leafTy s.val ∧ x = leafX s.val) :
    Calls Tryz.prog 123 #[.pointer (some ⟨B, 0, none⟩), .iface ty x] w (SetG w base B (ksDecay f) 186 (done ++ [s])) := by
  obtain ⟨u, hc, _⟩ := hq.cell 4 _ rfl
  have hf := hq.frozen 4
  have hlt := hq.lt
  have hne := Nat.ne_of_lt hlt
  have hB : base ≤ B := hq.1
  have Hq := Lib.hid hq; clear hq
  have Hs := Lib.hid hs; clear hs
  have Hv := Lib.hid hv; clear hv
  go_enter Tryz.func123, Tryz.ntmps123
  go_wp2
  go_ret
  refine ⟨by simp, Hq.out.put s 4 _ (others_of (nm := n_offset) (by kernel_rfl) Hs.out) (fun k hk => ?_), (Below.refl _ _).setCell (by simpa using hB) _⟩
  obtain rfl : GK.any n_offset = k := Option.some.inj hk
  simp only [GOK, lastOf_snoc, if_pos Hs.out]
  rw [Hv.out.1, Hv.out.2]

set_option maxRecDepth 100000 in
set_option maxHeartbeats 1000000 in
theorem set124 (w : World) (base B : Nat) (f : ByteArray) (done : List SetM) (s : SetM) (hs : s.name = n_decay) (hb : base ≤ w.heap.size) (hq : GSt w (fun b => base ≤ b) B (ksDecay f) 186 done) :
    Calls Tryz.prog 124 #[.pointer (some ⟨B, 0, none⟩), .float .f64 s.val.num] w (SetG w base B (ksDecay f) 186 (done ++ [s])) := by
  obtain ⟨u, hc, _⟩ := hq.cell 3 _ rfl
  have hf := hq.frozen 3
  have hlt := hq.lt
  have hne := Nat.ne_of_lt hlt
  have hB : base ≤ B := hq.1
  have Hq := Lib.hid hq; clear hq
  have Hs := Lib.hid hs; clear hs
  go_enter Tryz.func124, Tryz.ntmps124
  go_wp2
  go_ret
  refine ⟨by simp, Hq.out.putNew s 3 _ _ (others_of (nm := n_decay) (by kernel_rfl) Hs.out) (fun k hk => ?_), ((Below.refl _ _).setCell (by simpa using hB) _).alloc (by simpa using hb) _⟩
  obtain rfl : GK.num n_decay = k := Option.some.inj hk
  simp only [GOK, lastOf_snoc, if_pos Hs.out]
  exact ⟨w.heap.size, rfl, ⟨hb, fun e => hne e.symm⟩, ptr_new _ _ _ _ _⟩

set_option maxRecDepth 100000 in
set_option maxHeartbeats 1000000 in
theorem set125 (w : World) (base B : Nat) (f : ByteArray) (done : List SetM) (s : SetM) (hs : s.name = n_multi_value_mode) (_hb : base ≤ w.heap.size) (hq : GSt w (fun b => base ≤ b) B (ksDecay f) 186 done) :
    Calls Tryz.prog 125 #[.pointer (some ⟨B, 0, none⟩), .string s.val.text] w (SetG w base B (ksDecay f) 186 (done ++ [s])) := by
  obtain ⟨u, hc, _⟩ := hq.cell 5 _ rfl
  have hf := hq.frozen 5
  have hlt := hq.lt
  have hne := Nat.ne_of_lt hlt
  have hB : base ≤ B := hq.1
  have Hq := Lib.hid hq; clear hq
  have Hs := Lib.hid hs; clear hs
  go_enter Tryz.func125, Tryz.ntmps125
  go_wp2
  go_ret
  refine ⟨by simp, Hq.out.put s 5 _ (others_of (nm := n_multi_value_mode) (by kernel_rfl) Hs.out) (fun k hk => ?_), (Below.refl _ _).setCell (by simpa using hB) _⟩
  obtain rfl : GK.text n_multi_value_mode = k := Option.some.inj hk
  simp only [GOK, textLast, lastOf_snoc, if_pos Hs.out]
  rfl

set_option maxRecDepth 100000 in
set_option maxHeartbeats 1000000 in
theorem set126 (w : World) (base B : Nat) (f : ByteArray) (done : List SetM) (s : SetM) (hs : s.name = n_weight) (hb : base ≤ w.heap.size) (hq : GSt w (fun b => base ≤ b) B (ksDecay f) 186 done) :
    Calls Tryz.prog 126 #[.pointer (some ⟨B, 0, none⟩), .float .f64 s.val.num] w (SetG w base B (ksDecay f) 186 (done ++ [s])) := by
  obtain ⟨u, hc, _⟩ := hq.cell 6 _ rfl
  have hf := hq.frozen 6
  have hlt := hq.lt
  have hne := Nat.ne_of_lt hlt
  have hB : base ≤ B := hq.1
  have Hq := Lib.hid hq; clear hq
  have Hs := Lib.hid hs; clear hs
  go_enter Tryz.func126, Tryz.ntmps126
  go_wp2
  go_ret
  refine ⟨by simp, Hq.out.putNew s 6 _ _ (others_of (nm := n_weight) (by kernel_rfl) Hs.out) (fun k hk => ?_), ((Below.refl _ _).setCell (by simpa using hB) _).alloc (by simpa using hb) _⟩
  obtain rfl : GK.num n_weight = k := Option.some.inj hk
  simp only [GOK, lastOf_snoc, if_pos Hs.out]
  exact ⟨w.heap.size, rfl, ⟨hb, fun e => hne e.symm⟩, ptr_new _ _ _ _ _⟩

set_option maxRecDepth 100000 in
set_option maxHeartbeats 1000000 in
theorem new127 (w : World) : Calls Tryz.prog 127 #[] w (SetG w w.heap.size w.heap.size (ksDecay ⟨#[]⟩) 188 []) := by
  go_enter Tryz.func127, Tryz.ntmps127
  go_wp2
  go_ret
  refine ⟨by simp, ⟨Nat.le_refl _, [.string ⟨#[]⟩, .nilIface, .nilIface, .pointer none, .nilIface, .string ⟨#[]⟩, .pointer none], heap_alloc_new w _, rfl, fun j k u hk hu => ?_⟩, (Below.refl _ _).alloc (Nat.le_refl _) _⟩
  have hj : j < 7 := by have := (List.getElem?_eq_some_iff.1 hu).1; simpa using this
  match j, hj, hk, hu with
  | 0, _, hk, hu => cases hk; cases hu; rfl
  | 1, _, hk, hu => cases hk; cases hu; rfl
  | 2, _, hk, hu => cases hk; cases hu; rfl
  | 3, _, hk, hu => cases hk; cases hu; rfl
  | 4, _, hk, hu => cases hk; cases hu; rfl
  | 5, _, hk, hu => cases hk; cases hu; rfl
  | 6, _, hk, hu => cases hk; cases hu; rfl

set_option maxRecDepth 100000 in
set_option maxHeartbeats 1000000 in
theorem set128 (w : World) (base B : Nat) (f0 f : ByteArray) (done : List SetM) (hq : GSt w (fun b => base ≤ b) B (ksDecay f0) 188 done) :
    Calls Tryz.prog 128 #[.pointer (some ⟨B, 0, none⟩), .string f] w (SetG w base B (ksDecay f) 188 done) := by
  obtain ⟨u, hc, _⟩ := hq.cell 0 _ rfl
  have hf := hq.frozen 0
  have hlt := hq.lt
  have hne := Nat.ne_of_lt hlt
  have hB : base ≤ B := hq.1
  have Hq := Lib.hid hq; clear hq
  go_enter Tryz.func128, Tryz.ntmps128
  go_wp2
  go_ret
  exact ⟨by simp, Hq.out.fix f, (Below.refl _ _).setCell (by simpa using hB) _⟩

set_option maxRecDepth 100000 in
set_option maxHeartbeats 1000000 in
theorem set129 (w : World) (base B : Nat) (f : ByteArray) (done : List SetM) (s : SetM) (hs : s.name = n_origin) (_hb : base ≤ w.heap.size) (hq : GSt w (fun b => base ≤ b) B (ksDecay f) 188 done) (ty : TypeId) (x : Value) (hv : ty = leafTy s.val ∧ x = leafX s.val) :
    Calls Tryz.prog 129 #[.pointer (some ⟨B, 0, none⟩), .iface ty x] w (SetG w base B (ksDecay f) 188 (done ++ [s])) := by
  obtain ⟨u, hc, _⟩ := hq.cell 1 _ rfl
  have hf := hq.frozen 1
  have hlt := hq.lt
  have hne := Nat.ne_of_lt hlt
  have hB : base ≤ B := hq.1
  have Hq := Lib.hid hq; clear hq
  have Hs := Lib.hid hs; clear hs
  have Hv := Lib.hid hv; clear hv
  go_enter Tryz.func129, Tryz.ntmps129
  go_wp2
  go_ret
  refine ⟨by simp, Hq.out.put s 1 _ (others_of (nm := n_origin) (by kernel_rfl) Hs.out) (fun k hk => ?_), (Below.refl _ _).setCell (by simpa using hB) _⟩
  obtain rfl : GK.any n_origin = k := Option.some.inj hk
  simp only [GOK, lastOf_snoc, if_pos Hs.out]
  rw [Hv.out.1, Hv.out.2]

set_option maxRecDepth 100000 in
set_option maxHeartbeats 1000000 in
theorem set130 (w : World) (base B : Nat) (f : ByteArray) (done : List SetM) (s : SetM) (hs : s.name = n_scale) (_hb : base ≤ w.heap.size) (hq : GSt w (fun b => base ≤ b) B (ksDecay f) 188 done) (ty : TypeId) (x : Value) (hv : ty = leafTy s.val ∧ x = leafX s.val) :
    Calls Tryz.prog 130 #[.pointer (some ⟨B, 0, none⟩), .iface ty x] w (SetG w base B (ksDecay f) 188 (done ++ [s])) := by
  obtain ⟨u, hc, _⟩ := hq.cell 2 _ rfl
  have hf := hq.frozen 2
  have hlt := hq.lt
  have hne := Nat.ne_of_lt hlt
  have hB : base ≤ B := hq.1
  have Hq := Lib.hid hq; clear hq
  have Hs := Lib.hid hs; clear hs
  have Hv := Lib.hid hv; clear hv
  go_enter Tryz.func130, Tryz.ntmps130
  go_wp2
  go_ret
  refine ⟨by simp, Hq.out.put s 2 _ (others_of (nm := n_scale) (by kernel_rfl) Hs.out) (fun k hk => ?_), (Below.refl _ _).setCell (by simpa using hB) _⟩
  obtain rfl : GK.any n_scale = k := Option.some.inj hk
  simp only [GOK, lastOf_snoc, if_pos Hs.out]
  rw [Hv.out.1, Hv.out.2]

set_option maxRecDepth 100000 in
set_option maxHeartbeats 1000000 in
theorem set131 (w : World) (base B : Nat) (f : ByteArray) (done : List SetM) (s : SetM) (hs : s.name = n_offset) (_hb : base ≤ w.heap.size) (hq : GSt w (fun b => base ≤ b) B (ksDecay f) 188 done) (ty : TypeId) (x : Value) (hv : ty = leafTy s.val ∧ x = leafX s.val) :
    Calls Tryz.prog 131 #[.pointer (some ⟨B, 0, none⟩), .iface ty x] w (SetG w base B (ksDecay f) 188 (done ++ [s])) := by
  obtain ⟨u, hc, _⟩ := hq.cell 4 _ rfl
  have hf := hq.frozen 4
  have hlt := hq.lt
  have hne := Nat.ne_of_lt hlt
  have hB : base ≤ B := hq.1
  have Hq := Lib.hid hq; clear hq
  have Hs := Lib.hid hs; clear hs
  have Hv := Lib.hid hv; clear hv
  go_enter Tryz.func131, Tryz.ntmps131
  go_wp2
  go_ret
  refine ⟨by simp, Hq.out.put s 4 _ (others_of (nm := n_offset) (by kernel_rfl) Hs.out) (fun k hk => ?_), (Below.refl _ _).setCell (by simpa using hB) _⟩
  obtain rfl : GK.any n_offset = k := Option.some.inj hk
  simp only [GOK, lastOf_snoc, if_pos Hs.out]
  rw [Hv.out.1, Hv.out.2]

set_option maxRecDepth 100000 in
set_option maxHeartbeats 1000000 in
theorem set132 (w : World) (base B : Nat) (f : ByteArray) (done : List SetM) (s : SetM) (hs : s.name = n_decay) (hb : base ≤ w.heap.size) (hq : GSt w (fun b => base ≤ b) B (ksDecay f) 188 done) :
    Calls Tryz.prog 132 #[.pointer (some ⟨B, 0, none⟩), .float .f64 s.val.num] w (SetG w base B (ksDecay f) 188 (done ++ [s])) := by
  obtain ⟨u, hc, _⟩ := hq.cell 3 _ rfl
  have hf := hq.frozen 3
  have hlt := hq.lt
  have hne := Nat.ne_of_lt hlt
  have hB : base ≤ B := hq.1
  have Hq := Lib.hid hq; clear hq
  have Hs := Lib.hid hs; clear hs
  go_enter Tryz.func132, Tryz.ntmps132
  go_wp2
  go_ret
  refine ⟨by simp, Hq.out.putNew s 3 _ _ (others_of (nm := n_decay) (by kernel_rfl) Hs.out) (fun k hk => ?_), ((Below.refl _ _).setCell (by simpa using hB) _).alloc (by simpa using hb) _⟩
  obtain rfl : GK.num n_decay = k := Option.some.inj hk
  simp only [GOK, lastOf_snoc, if_pos Hs.out]
  exact ⟨w.heap.size, rfl, ⟨hb, fun e => hne e.symm⟩, ptr_new _ _ _ _ _⟩

set_option maxRecDepth 100000 in
set_option maxHeartbeats 1000000 in
theorem set133 (w : World) (base B : Nat) (f : ByteArray) (done : List SetM) (s : SetM) (hs : s.name = n_multi_value_mode) (_hb : base ≤ w.heap.size) (hq : GSt w (fun b => base ≤ b) B (ksDecay f) 188 done) :
    Calls Tryz.prog 133 #[.pointer (some ⟨B, 0, none⟩), .string s.val.text] w (SetG w base B (ksDecay f) 188 (done ++ [s])) := by
  obtain ⟨u, hc, _⟩ := hq.cell 5 _ rfl
  have hf := hq.frozen 5
  have hlt := hq.lt
  have hne := Nat.ne_of_lt hlt
  have hB : base ≤ B := hq.1
  have Hq := Lib.hid hq; clear hq
  have Hs := Lib.hid hs; clear hs
  go_enter Tryz.func133, Tryz.ntmps133
  go_wp2
  go_ret
  refine ⟨by simp, Hq.out.put s 5 _ (others_of (nm := n_multi_value_mode) (by kernel_rfl) Hs.out) (fun k hk => ?_), (Below.refl _ _).setCell (by simpa using hB) _⟩
  obtain rfl : GK.text n_multi_value_mode = k := Option.some.inj hk
  simp only [GOK, textLast, lastOf_snoc, if_pos Hs.out]
  rfl

set_option maxRecDepth 100000 in
set_option maxHeartbeats 1000000 in
theorem set134 (w : World) (base B : Nat) (f : ByteArray) (done : List SetM) (s : SetM) (hs : s.name = n_weight) (hb : base ≤ w.heap.size) (hq : GSt w (fun b => base ≤ b) B (ksDecay f) 188 done) :
    Calls Tryz.prog 134 #[.pointer (some ⟨B, 0, none⟩), .float .f64 s.val.num] w (SetG w base B (ksDecay f) 188 (done ++ [s])) := by
  obtain ⟨u, hc, _⟩ := hq.cell 6 _ rfl
  have hf := hq.frozen 6
  have hlt := hq.lt
  have hne := Nat.ne_of_lt hlt
  have hB : base ≤ B := hq.1
  have Hq := Lib.hid hq; clear hq
  have Hs := Lib.hid hs; clear hs
  go_enter Tryz.func134, Tryz.ntmps134
  go_wp2
  go_ret
  refine ⟨by simp, Hq.out.putNew s 6 _ _ (others_of (nm := n_weight) (by kernel_rfl) Hs.out) (fun k hk => ?_), ((Below.refl _ _).setCell (by simpa using hB) _).alloc (by simpa using hb) _⟩
  obtain rfl : GK.num n_weight = k := Option.some.inj hk
  simp only [GOK, lastOf_snoc, if_pos Hs.out]
  exact ⟨w.heap.size, rfl, ⟨hb, fun e => hne e.symm⟩, ptr_new _ _ _ _ _⟩

set_option maxRecDepth 100000 in
set_option maxHeartbeats 1000000 in
theorem new135 (w : World) : Calls Tryz.prog 135 #[] w (SetG w w.heap.size w.heap.size (ksDecay ⟨#[]⟩) 189 []) := by
  go_enter Tryz.func135, Tryz.ntmps135
  go_wp2
  go_ret
  refine ⟨by simp, ⟨Nat.le_refl _, [.string ⟨#[]⟩, .nilIface, .nilIface, .pointer none, .nilIface, .string ⟨#[]⟩, .pointer none], heap_alloc_new w _, rfl, fun j k u hk hu => ?_⟩, (Below.refl _ _).alloc (Nat.le_refl _) _⟩
  have hj : j < 7 := by have := (List.getElem?_eq_some_iff.1 hu).1; simpa using this
  match j, hj, hk, hu with
  | 0, _, hk, hu => cases hk; cases hu; rfl
  | 1, _, hk, hu => cases hk; cases hu; rfl
  | 2, _, hk, hu => cases hk; cases hu; rfl
  | 3, _, hk, hu => cases hk; cases hu; rfl
  | 4, _, hk, hu => cases hk; cases hu; rfl
  | 5, _, hk, hu => cases hk; cases hu; rfl
  | 6, _, hk, hu => cases hk; cases hu; rfl

set_option maxRecDepth 100000 in
set_option maxHeartbeats 1000000 in
theorem set136 (w : World) (base B : Nat) (f0 f : ByteArray) (done : List SetM) (hq : GSt w (fun b => base ≤ b) B (ksDecay f0) 189 done) :
    Calls Tryz.prog 136 #[.pointer (some ⟨B, 0, none⟩), .string f] w (SetG w base B (ksDecay f) 189 done) := by
  obtain ⟨u, hc, _⟩ := hq.cell 0 _ rfl
  have hf := hq.frozen 0
  have hlt := hq.lt
  have hne := Nat.ne_of_lt hlt
  have hB : base ≤ B := hq.1
  have Hq := Lib.hid hq; clear hq
  go_enter Tryz.func136, Tryz.ntmps136
  go_wp2
  go_ret
  exact ⟨by simp, Hq.out.fix f, (Below.refl _ _).setCell (by simpa using hB) _⟩

set_option maxRecDepth 100000 in
set_option maxHeartbeats 1000000 in
theorem set137 (w : World) (base B : Nat) (f : ByteArray) (done : List SetM) (s : SetM) (hs : s.name = n_origin) (_hb : base ≤ w.heap.size) (hq : GSt w (fun b => base ≤ b) B (ksDecay f) 189 done) (ty : TypeId) (x : Value) (hv : ty = leafTy s.val ∧ x = leafX s.val) :
    Calls Tryz.prog 137 #[.pointer (some ⟨B, 0, none⟩), .iface ty x] w (SetG w base B (ksDecay f) 189 (done ++ [s])) := by
  obtain ⟨u, hc, _⟩ := hq.cell 1 _ rfl
  have hf := hq.frozen 1
  have hlt := hq.lt
  have hne := Nat.ne_of_lt hlt
  have hB : base ≤ B := hq.1
  have Hq := Lib.hid hq; clear hq
  have Hs := Lib.hid hs; clear hs
  have Hv := Lib.hid hv; clear hv
  go_enter Tryz.func137, Tryz.ntmps137
  go_wp2
  go_ret
  refine ⟨by simp, Hq.out.put s 1 _ (others_of (nm := n_origin) (by kernel_rfl) Hs.out) (fun k hk => ?_), (Below.refl _ _).setCell (by simpa using hB) _⟩
  obtain rfl : GK.any n_origin = k := Option.some.inj hk
  simp only [GOK, lastOf_snoc, if_pos Hs.out]
  rw [Hv.out.1, Hv.out.2]

set_option maxRecDepth 100000 in
set_option maxHeartbeats 1000000 in
theorem set138 (w : World) (base B : Nat) (f : ByteArray) (done : List SetM) (s : SetM) (hs : s.name = n_scale) (_hb : base ≤ w.heap.size) (hq : GSt w (fun b => base ≤ b) B (ksDecay f) 189 done) (ty : TypeId) (x : Value) (hv : ty = leafTy s.val ∧ x = leafX s.val) :
    Calls Tryz.prog 138 #[.pointer (some ⟨B, 0, none⟩), .iface ty x] w (SetG w base B (ksDecay f) 189 (done ++ [s])) := by
  obtain ⟨u, hc, _⟩ := hq.cell 2 _ rfl
  have hf := hq.frozen 2
  have hlt := hq.lt
  have hne := Nat.ne_of_lt hlt
  have hB : base ≤ B := hq.1
  have Hq := Lib.hid hq; clear hq
  have Hs := Lib.hid hs; clear hs
  have Hv := Lib.hid hv; clear hv
  go_enter Tryz.func138, Tryz.ntmps138
  go_wp2
  go_ret
  refine ⟨by simp, Hq.out.put s 2 _ (others_of (nm := n_scale) (by kernel_rfl) Hs.out) (fun k hk => ?_), (Below.refl _ _).setCell (by simpa using hB) _⟩
  obtain rfl : GK.any n_scale = k := Option.some.inj hk
  simp only [GOK, lastOf_snoc, if_pos Hs.out]
  rw [Hv.out.1, Hv.out.2]

set_option maxRecDepth 100000 in
set_option maxHeartbeats 1000000 in
theorem set139 (w : World) (base B : Nat) (f : ByteArray) (done : List SetM) (s : SetM) (hs : s.name = n_offset) (_hb : base ≤ w.heap.size) (hq : GSt w (fun b => base ≤ b) B (ksDecay f) 189 done) (ty : TypeId) (x : Value) (hv : ty = leafTy s.val ∧ x = leafX s.val) :
    Calls Tryz.prog 139 #[.pointer (some ⟨B, 0, none⟩), .iface ty x] w (SetG w base B (ksDecay f) 189 (done ++ [s])) := by
  obtain ⟨u, hc, _⟩ := hq.cell 4 _ rfl
  have hf := hq.frozen 4
  have hlt := hq.lt
  have hne := Nat.ne_of_lt hlt
  have hB : base ≤ B := hq.1
  have Hq := Lib.hid hq; clear hq
  have Hs := Lib.hid hs; clear hs
  have Hv := Lib.hid hv; clear hv
  go_enter Tryz.func139, Tryz.ntmps139
  go_wp2
  go_ret
  refine ⟨by simp, Hq.out.put s 4 _ (others_of (nm := n_offset) (by kernel_rfl) Hs.out) (fun k hk => ?_), (Below.refl _ _).setCell (by simpa using hB) _⟩
  obtain rfl : GK.any n_offset = k := Option.some.inj hk
  simp only [GOK, lastOf_snoc, if_pos Hs.out]
  rw [Hv.out.1, Hv.out.2]

set_option maxRecDepth 100000 in
set_option maxHeartbeats 1000000 in
theorem set140 (w : World) (base B : Nat) (f : ByteArray) (done : List SetM) (s : SetM) (hs : s.name = n_decay) (hb : base ≤ w.heap.size) (hq : GSt w (fun b => base ≤ b) B (ksDecay f) 189 done) :
    Calls Tryz.prog 140 #[.pointer (some ⟨B, 0, none⟩), .float .f64 s.val.num] w (SetG w base B (ksDecay f) 189 (done ++ [s])) := by
  obtain ⟨u, hc, _⟩ := hq.cell 3 _ rfl
  have hf := hq.frozen 3
  have hlt := hq.lt
  have hne := Nat.ne_of_lt hlt
  have hB : base ≤ B := hq.1
  have Hq := Lib.hid hq; clear hq
  have Hs := Lib.hid hs; clear hs
  go_enter Tryz.func140, Tryz.ntmps140
  go_wp2
  go_ret
  refine ⟨by simp, Hq.out.putNew s 3 _ _ (others_of (nm := n_decay) (by kernel_rfl) Hs.out) (fun k hk => ?_), ((Below.refl _ _).setCell (by simpa using hB) _).alloc (by simpa using hb) _⟩
  obtain rfl : GK.num n_decay = k := Option.some.inj hk
  simp only [GOK, lastOf_snoc, if_pos Hs.out]
  exact ⟨w.heap.size, rfl, ⟨hb, fun e => hne e.symm⟩, ptr_new _ _ _ _ _⟩

set_option maxRecDepth 100000 in
set_option maxHeartbeats 1000000 in
theorem set141 (w : World) (base B : Nat) (f : ByteArray) (done : List SetM) (s : SetM) (hs : s.name = n_multi_value_mode) (_hb : base ≤ w.heap.size) (hq : GSt w (fun b => base ≤ b) B (ksDecay f) 189 done) :
    Calls Tryz.prog 141 #[.pointer (some ⟨B, 0, none⟩), .string s.val.text] w (SetG w base B (ksDecay f) 189 (done ++ [s])) := by
  obtain ⟨u, hc, _⟩ := hq.cell 5 _ rfl
  have hf := hq.frozen 5
  have hlt := hq.lt
  have hne := Nat.ne_of_lt hlt
  have hB : base ≤ B := hq.1
  have Hq := Lib.hid hq; clear hq
  have Hs := Lib.hid hs; clear hs
  go_enter Tryz.func141, Tryz.ntmps141
  go_wp2
  go_ret
  refine ⟨by simp, Hq.out.put s 5 _ (others_of (nm := n_multi_value_mode) (by kernel_rfl) Hs.out) (fun k hk => ?_), (Below.refl _ _).setCell (by simpa using hB) _⟩
  obtain rfl : GK.text n_multi_value_mode = k := Option.some.inj hk
  simp only [GOK, textLast, lastOf_snoc, if_pos Hs.out]
  rfl

set_option maxRecDepth 100000 in
set_option maxHeartbeats 1000000 in
theorem set142 (w : World) (base B : Nat) (f : ByteArray) (done : List SetM) (s : SetM) (hs : s.name = n_weight) (hb : base ≤ w.heap.size) (hq : GSt w (fun b => base ≤ b) B (ksDecay f) 189 done) :
    Calls Tryz.prog 142 #[.pointer (some ⟨B, 0, none⟩), .float .f64 s.val.num] w (SetG w base B (ksDecay f) 189 (done ++ [s])) := by
  obtain ⟨u, hc, _⟩ := hq.cell 6 _ rfl
  have hf := hq.frozen 6
  have hlt := hq.lt
  have hne := Nat.ne_of_lt hlt
  have hB : base ≤ B := hq.1
  have Hq := Lib.hid hq; clear hq
  have Hs := Lib.hid hs; clear hs
  go_enter Tryz.func142, Tryz.ntmps142
  go_wp2
  go_ret
  refine ⟨by simp, Hq.out.putNew s 6 _ _ (others_of (nm := n_weight) (by kernel_rfl) Hs.out) (fun k hk => ?_), ((Below.refl _ _).setCell (by simpa using hB) _).alloc (by simpa using hb) _⟩
  obtain rfl : GK.num n_weight = k := Option.some.inj hk
  simp only [GOK, lastOf_snoc, if_pos Hs.out]
  exact ⟨w.heap.size, rfl, ⟨hb, fun e => hne e.symm⟩, ptr_new _ _ _ _ _⟩

set_option maxRecDepth 100000 in
set_option maxHeartbeats 1000000 in
theorem new143 (w : World) : Calls Tryz.prog 143 #[] w (SetG w w.heap.size w.heap.size (ksFactor ⟨#[]⟩) 191 []) := by
  go_enter Tryz.func143, Tryz.ntmps143
  go_wp2
  go_ret
  refine ⟨by simp, ⟨Nat.le_refl _, [.string ⟨#[]⟩, .pointer none, .pointer none, .pointer none, .string ⟨#[]⟩], heap_alloc_new w _, rfl, fun j k u hk hu => ?_⟩, (Below.refl _ _).alloc (Nat.le_refl _) _⟩
  have hj : j < 5 := by have := (List.getElem?_eq_some_iff.1 hu).1; simpa using this
  match j, hj, hk, hu with
  | 0, _, hk, hu => cases hk; cases hu; rfl
  | 1, _, hk, hu => cases hk; cases hu; rfl
  | 2, _, hk, hu => cases hk; cases hu; rfl
  | 3, _, hk, hu => cases hk; cases hu; rfl
  | 4, _, hk, hu => cases hk; cases hu; rfl

set_option maxRecDepth 100000 in
set_option maxHeartbeats 1000000 in
theorem set144 (w : World) (base B : Nat) (f0 f : ByteArray) (done : List SetM) (hq : GSt w (fun b => base ≤ b) B (ksFactor f0) 191 done) :
    Calls Tryz.prog 144 #[.pointer (some ⟨B, 0, none⟩), .string f] w (SetG w base B (ksFactor f) 191 done) := by
  obtain ⟨u, hc, _⟩ := hq.cell 0 _ rfl
  have hf := hq.frozen 0
  have hlt := hq.lt
  have hne := Nat.ne_of_lt hlt
  have hB : base ≤ B := hq.1
  have Hq := Lib.hid hq; clear hq
  go_enter Tryz.func144, Tryz.ntmps144
  go_wp2
  go_ret
  exact ⟨by simp, Hq.out.fix f, (Below.refl _ _).setCell (by simpa using hB) _⟩

set_option maxRecDepth 100000 in
set_option maxHeartbeats 1000000 in
theorem set145 (w : World) (base B : Nat) (f : ByteArray) (done : List SetM) (s : SetM) (hs : s.name = n_factor) (hb : base ≤ w.heap.size) (hq : GSt w (fun b => base ≤ b) B (ksFactor f) 191 done) :
    Calls Tryz.prog 145 #[.pointer (some ⟨B, 0, none⟩), .float .f64 s.val.num] w (SetG w base B (ksFactor f) 191 (done ++ [s])) := by
  obtain ⟨u, hc, _⟩ := hq.cell 1 _ rfl
  have hf := hq.frozen 1
  have hlt := hq.lt
  have hne := Nat.ne_of_lt hlt
  have hB : base ≤ B := hq.1
  have Hq := Lib.hid hq; clear hq
  have Hs := Lib.hid hs; clear hs
  go_enter Tryz.func145, Tryz.ntmps145
  go_wp2
  go_ret
  refine ⟨by simp, Hq.out.putNew s 1 _ _ (others_of (nm := n_factor) (by kernel_rfl) Hs.out) (fun k hk => ?_), ((Below.refl _ _).setCell (by simpa using hB) _).alloc (by simpa using hb) _⟩
  obtain rfl : GK.num n_factor = k := Option.some.inj hk
  simp only [GOK, lastOf_snoc, if_pos Hs.out]
  exact ⟨w.heap.size, rfl, ⟨hb, fun e => hne e.symm⟩, ptr_new _ _ _ _ _⟩

set_option maxRecDepth 100000 in
set_option maxHeartbeats 1000000 in
theorem set146 (w : World) (base B : Nat) (f : ByteArray) (done : List SetM) (s : SetM) (hs : s.name = n_missing) (hb : base ≤ w.heap.size) (hq : GSt w (fun b => base ≤ b) B (ksFactor f) 191 done) :
    Calls Tryz.prog 146 #[.pointer (some ⟨B, 0, none⟩), .float .f64 s.val.num] w (SetG w base B (ksFactor f) 191 (done ++ [s])) := by
  obtain ⟨u, hc, _⟩ := hq.cell 2 _ rfl
  have hf := hq.frozen 2
  have hlt := hq.lt
  have hne := Nat.ne_of_lt hlt
  have hB : base ≤ B := hq.1
  have Hq := Lib.hid hq; clear hq
  have Hs := Lib.hid hs; clear hs
  go_enter Tryz.func146, Tryz.ntmps146
  go_wp2
  go_ret
  refine ⟨by simp, Hq.out.putNew s 2 _ _ (others_of (nm := n_missing) (by kernel_rfl) Hs.out) (fun k hk => ?_), ((Below.refl _ _).setCell (by simpa using hB) _).alloc (by simpa using hb) _⟩
  obtain rfl : GK.num n_missing = k := Option.some.inj hk
  simp only [GOK, lastOf_snoc, if_pos Hs.out]
  exact ⟨w.heap.size, rfl, ⟨hb, fun e => hne e.symm⟩, ptr_new _ _ _ _ _⟩

set_option maxRecDepth 100000 in
set_option maxHeartbeats 1000000 in
theorem set147 (w : World) (base B : Nat) (f : ByteArray) (done : List SetM) (s : SetM) (hs : s.name = n_modifier) (_hb : base ≤ w.heap.size) (hq : GSt w (fun b => base ≤ b) B (ksFactor f) 191 done) :
    Calls Tryz.prog 147 #[.pointer (some ⟨B, 0, none⟩), .string s.val.text] w (SetG w base B (ksFactor f) 191 (done ++ [s])) := by
  obtain ⟨u, hc, _⟩ := hq.cell 4 _ rfl
  have hf := hq.frozen 4
  have hlt := hq.lt
  have hne := Nat.ne_of_lt hlt
  have hB : base ≤ B := hq.1
  have Hq := Lib.hid hq; clear hq
  have Hs := Lib.hid hs; clear hs
  go_enter Tryz.func147, Tryz.ntmps147
  go_wp2
  go_ret
  refine ⟨by simp, Hq.out.put s 4 _ (others_of (nm := n_modifier) (by kernel_rfl) Hs.out) (fun k hk => ?_), (Below.refl _ _).setCell (by simpa using hB) _⟩
  obtain rfl : GK.text n_modifier = k := Option.some.inj hk
  simp only [GOK, textLast, lastOf_snoc, if_pos Hs.out]
  rfl

set_option maxRecDepth 100000 in
set_option maxHeartbeats 1000000 in
theorem set148 (w : World) (base B : Nat) (f : ByteArray) (done : List SetM) (s : SetM) (hs : s.name = n_weight) (hb : base ≤ w.heap.size) (hq : GSt w (fun b => base ≤ b) B (ksFactor f) 191 done) :
    Calls Tryz.prog 148 #[.pointer (some ⟨B, 0, none⟩), .float .f64 s.val.num] w (SetG w base B (ksFactor f) 191 (done ++ [s])) := by
  obtain ⟨u, hc, _⟩ := hq.cell 3 _ rfl
  have hf := hq.frozen 3
  have hlt := hq.lt
  have hne := Nat.ne_of_lt hlt
  have hB : base ≤ B := hq.1
  have Hq := Lib.hid hq; clear hq
  have Hs := Lib.hid hs; clear hs
  go_enter Tryz.func148, Tryz.ntmps148
  go_wp2
  go_ret
  refine ⟨by simp, Hq.out.putNew s 3 _ _ (others_of (nm := n_weight) (by kernel_rfl) Hs.out) (fun k hk => ?_), ((Below.refl _ _).setCell (by simpa using hB) _).alloc (by simpa using hb) _⟩
  obtain rfl : GK.num n_weight = k := Option.some.inj hk
  simp only [GOK, lastOf_snoc, if_pos Hs.out]
  exact ⟨w.heap.size, rfl, ⟨hb, fun e => hne e.symm⟩, ptr_new _ _ _ _ _⟩

set_option maxRecDepth 100000 in
set_option maxHeartbeats 1000000 in
theorem new149 (w : World) : Calls Tryz.prog 149 #[] w (SetG w w.heap.size w.heap.size (ksRandom ⟨#[]⟩) 193 []) := by
  go_enter Tryz.func149, Tryz.ntmps149
  go_wp2
  go_ret
  refine ⟨by simp, ⟨Nat.le_refl _, [.string ⟨#[]⟩, .nilIface, .pointer none], heap_alloc_new w _, rfl, fun j k u hk hu => ?_⟩, (Below.refl _ _).alloc (Nat.le_refl _) _⟩
  have hj : j < 3 := by have := (List.getElem?_eq_some_iff.1 hu).1; simpa using this
  match j, hj, hk, hu with
  | 0, _, hk, hu => cases hk; cases hu; rfl
  | 1, _, hk, hu => cases hk; cases hu; rfl
  | 2, _, hk, hu => cases hk; cases hu; rfl

set_option maxRecDepth 100000 in
set_option maxHeartbeats 1000000 in
theorem set150 (w : World) (base B : Nat) (f0 f : ByteArray) (done : List SetM) (hq : GSt w (fun b => base ≤ b) B (ksRandom f0) 193 done) :
    Calls Tryz.prog 150 #[.pointer (some ⟨B, 0, none⟩), .string f] w (SetG w base B (ksRandom f) 193 done) := by
  obtain ⟨u, hc, _⟩ := hq.cell 0 _ rfl
  have hf := hq.frozen 0
  have hlt := hq.lt
  have hne := Nat.ne_of_lt hlt
  have hB : base ≤ B := hq.1
  have Hq := Lib.hid hq; clear hq
  go_enter Tryz.func150, Tryz.ntmps150
  go_wp2
  go_ret
  exact ⟨by simp, Hq.out.fix f, (Below.refl _ _).setCell (by simpa using hB) _⟩

set_option maxRecDepth 100000 in
set_option maxHeartbeats 1000000 in
theorem set151 (w : World) (base B : Nat) (f : ByteArray) (done : List SetM) (s : SetM) (hs : s.name = n_seed) (_hb : base ≤ w.heap.size) (hq : GSt w (fun b => base ≤ b) B (ksRandom f) 193 done) (n : Int) (hv : n = toI s.val.num) :
    Calls Tryz.prog 151 #[.pointer (some ⟨B, 0, none⟩), .iface 2 (.int .i64 n)] w (SetG w base B (ksRandom f) 193 (done ++ [s])) := by
  obtain ⟨u, hc, _⟩ := hq.cell 1 _ rfl
  have hf := hq.frozen 1
  have hlt := hq.lt
  have hne := Nat.ne_of_lt hlt
  have hB : base ≤ B := hq.1
  have Hq := Lib.hid hq; clear hq
  have Hs := Lib.hid hs; clear hs
  have Hv := Lib.hid hv; clear hv
  go_enter Tryz.func151, Tryz.ntmps151
  go_wp2
  go_ret
  refine ⟨by simp, Hq.out.put s 1 _ (others_of (nm := n_seed) (by kernel_rfl) Hs.out) (fun k hk => ?_), (Below.refl _ _).setCell (by simpa using hB) _⟩
  obtain rfl : GK.seed n_seed = k := Option.some.inj hk
  simp only [GOK, lastOf_snoc, if_pos Hs.out]
  rw [Hv.out]

set_option maxRecDepth 100000 in
set_option maxHeartbeats 1000000 in
theorem set152 (w : World) (base B : Nat) (f : ByteArray) (done : List SetM) (s : SetM) (hs : s.name = n_weight) (hb : base ≤ w.heap.size) (hq : GSt w (fun b => base ≤ b) B (ksRandom f) 193 done) :
    Calls Tryz.prog 152 #[.pointer (some ⟨B, 0, none⟩), .float .f64 s.val.num] w (SetG w base B (ksRandom f) 193 (done ++ [s])) := by
  obtain ⟨u, hc, _⟩ := hq.cell 2 _ rfl
  have hf := hq.frozen 2
  have hlt := hq.lt
  have hne := Nat.ne_of_lt hlt
  have hB : base ≤ B := hq.1
  have Hq := Lib.hid hq; clear hq
  have Hs := Lib.hid hs; clear hs
  go_enter Tryz.func152, Tryz.ntmps152
  go_wp2
  go_ret
  refine ⟨by simp, Hq.out.putNew s 2 _ _ (others_of (nm := n_weight) (by kernel_rfl) Hs.out) (fun k hk => ?_), ((Below.refl _ _).setCell (by simpa using hB) _).alloc (by simpa using hb) _⟩
  obtain rfl : GK.num n_weight = k := Option.some.inj hk
  simp only [GOK, lastOf_snoc, if_pos Hs.out]
  exact ⟨w.heap.size, rfl, ⟨hb, fun e => hne e.symm⟩, ptr_new _ _ _ _ _⟩
end Go.Proofs.YtbcnhcpgloncdaaGreatDoor
