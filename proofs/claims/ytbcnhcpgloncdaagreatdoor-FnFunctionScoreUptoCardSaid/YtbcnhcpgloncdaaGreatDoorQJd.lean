/- A score function of each kind: how it is made, what it weighs, what it is called. -/
import Derived.Test.YtbcnhcpgloncdaaGreatDoorQJc
namespace Go.Proofs.YtbcnhcpgloncdaaGreatDoor
open Go Go.RowKit Go.BigFrame Go.Maps

/-- A score function as plain data. -/
structure ScoreM where
  kind : Int
  field : ByteArray
  a : Nat
  sets : List SetM
  filters : List Tr

/-- The kinds, one by one. -/
inductive SK | weight | exponential | gauss | linear | factor | random
def SK.num : SK → Int | .weight => 0 | .exponential => 1 | .gauss => 2 | .linear => 3 | .factor => 4 | .random => 5
def SK.pty : SK → TypeId | .weight => 119 | .exponential => 139 | .gauss => 145 | .linear => 150 | .factor => 155 | .random => 159
def SK.sty : SK → TypeId | .weight => 165 | .exponential => 186 | .gauss => 188 | .linear => 189 | .factor => 191 | .random => 193
def SK.gw : SK → FuncId | .weight => 278 | .exponential => 281 | .gauss => 284 | .linear => 288 | .factor => 291 | .random => 294
def SK.gn : SK → FuncId | .weight => 279 | .exponential => 282 | .gauss => 285 | .linear => 289 | .factor => 292 | .random => 295
def SK.gs : SK → FuncId | .weight => 280 | .exponential => 283 | .gauss => 286 | .linear => 290 | .factor => 293 | .random => 296
def SK.key : SK → ByteArray | .weight => ⟨#[119, 101, 105, 103, 104, 116]⟩ | .exponential => ⟨#[101, 120, 112]⟩ | .gauss => ⟨#[103, 97, 117, 115, 115]⟩ | .linear => ⟨#[108, 105, 110, 101, 97, 114]⟩ | .factor => ⟨#[102, 105, 101, 108, 100, 95, 118, 97, 108, 117, 101, 95, 102, 97, 99, 116, 111, 114]⟩ | .random => ⟨#[114, 97, 110, 100, 111, 109, 95, 115, 99, 111, 114, 101]⟩
def SK.ks : SK → ByteArray → Nat → List GK | .weight, _, x => ksWeight x | .exponential, f, _ => ksDecay f | .gauss, f, _ => ksDecay f | .linear, f, _ => ksDecay f | .factor, f, _ => ksFactor f | .random, f, _ => ksRandom f
/-- What its settings are. -/
def SK.ok (k : SK) (sets : List SetM) : Prop :=
  match k with
  | .weight => True
  | .factor => ∀ s ∈ sets, s.name ∈ namesFactor
  | .random => (∀ s ∈ sets, s.name ∈ namesRandom) ∧ ∀ s ∈ sets, s.name = n_seed → ∃ n : Nat, n ≤ 1000000 ∧ floatToIntVal .f64 s.val.num .i64 = some (n : Int)
  | _ => (∀ s ∈ sets, s.name ∈ namesDecay) ∧ ∀ s ∈ sets, s.name = n_origin ∨ s.name = n_scale ∨ s.name = n_offset → isLeaf s.val

/-- A score function that has been made. -/
def FunR (k : SK) (w : World) (S : Nat → Prop) (v : Value) (s : ScoreM) : Prop := ∃ B, v = .iface k.pty (.pointer (some ⟨B, 0, none⟩)) ∧ GSt w S B (k.ks s.field s.a) k.sty s.sets

set_option maxRecDepth 100000 in
set_option maxHeartbeats 1000000 in
theorem newWeight (x : Nat) (done : List SetM) (w : World) : Calls Tryz.prog 109 #[.float .f64 x] w fun e w' => e = .returned (.pointer (some ⟨w.heap.size, 0, none⟩)) ∧ GSt w' (fun b => w.heap.size ≤ b) w.heap.size (ksWeight x) 165 done ∧ Below w.heap.size w w' := by
  go_enter Tryz.func109, Tryz.ntmps109
  go_wp2
  go_ret
  refine ⟨by simp, ⟨Nat.le_refl _, [.float .f64 x], heap_alloc_new w _, rfl, fun j k u hk hu => ?_⟩, (Below.refl _ _).alloc (Nat.le_refl _) _⟩
  have hj : j < 1 := by have := (List.getElem?_eq_some_iff.1 hu).1; simpa using this
  match j, hj, hk, hu with
  | 0, _, hk, hu => cases hk; cases hu; rfl

set_option maxRecDepth 100000 in
set_option maxHeartbeats 4000000 in
theorem function_any (k : SK) (s : ScoreM) (hk : s.kind = k.num) (hok : k.ok s.sets) (S : Nat → Prop) (sa fa : Option Addr) (sc fn fc : Nat) (w : World) (hsets : SetsAt w S sa s.sets) (hl : s.sets.length ≤ 1048576) :
    Calls Tryz.prog 30 #[.agg #[.int .i64 s.kind, .string s.field, .float .f64 s.a, .slice sa s.sets.length sc, .slice fa fn fc]] w fun e w' => ∃ v, e = .returned v ∧ FunR k w' (fun b => w.heap.size ≤ b) v s ∧ Below w.heap.size w w' := by
  rw [hk]
  clear hk
  have hb0 : Below w.heap.size w (w.alloc (.cells #[.int .i64 k.num, .string s.field, .float .f64 s.a, .slice sa s.sets.length sc, .slice fa fn fc] 46)) := (Below.refl _ _).alloc (Nat.le_refl _) _
  cases k
  · have hc := newWeight s.a s.sets (w.alloc (.cells #[.int .i64 SK.weight.num, .string s.field, .float .f64 s.a, .slice sa s.sets.length sc, .slice fa fn fc] 46))
    have Hc := Lib.hid hc; clear hc hok hsets
    have Hb0 := Lib.hid hb0; clear hb0
    go_enter Tryz.func30, Tryz.ntmps30
    simp only [SK.num] at Hc Hb0 ⊢
    go_wp2_with (go_at_call 109; refine Hc.out.mono ?_; rintro e w2 ⟨rfl, hq, hb2⟩)
    go_ret
    simp only [World.size_alloc] at hq
    exact ⟨_, by simp; rfl, ⟨(w.heap.size + 1), by simp [SK.pty], hq.mono (fun b _ hb => by omega)⟩, via Hb0.out hb2⟩
  · have hc := exponential_any s.field s.sets S sa sc (w.alloc (.cells #[.int .i64 SK.exponential.num, .string s.field, .float .f64 s.a, .slice sa s.sets.length sc, .slice fa fn fc] 46)) (hsets.keep (Keeps.of_below S hb0)) hl hok.1 hok.2
    have Hc := Lib.hid hc; clear hc hok hsets
    have Hb0 := Lib.hid hb0; clear hb0
    go_enter Tryz.func30, Tryz.ntmps30
    simp only [SK.num] at Hc Hb0 ⊢
    go_wp2_with (go_at_call 104; refine Hc.out.mono ?_; rintro e w2 ⟨B, rfl, hq, hb2⟩)
    go_ret
    simp only [World.size_alloc] at hq
    exact ⟨_, by simp; rfl, ⟨B, by simp [SK.pty], hq.mono (fun b _ hb => by omega)⟩, via Hb0.out hb2⟩
  · have hc := gauss_any s.field s.sets S sa sc (w.alloc (.cells #[.int .i64 SK.gauss.num, .string s.field, .float .f64 s.a, .slice sa s.sets.length sc, .slice fa fn fc] 46)) (hsets.keep (Keeps.of_below S hb0)) hl hok.1 hok.2
    have Hc := Lib.hid hc; clear hc hok hsets
    have Hb0 := Lib.hid hb0; clear hb0
    go_enter Tryz.func30, Tryz.ntmps30
    simp only [SK.num] at Hc Hb0 ⊢
    go_wp2_with (go_at_call 105; refine Hc.out.mono ?_; rintro e w2 ⟨B, rfl, hq, hb2⟩)
    go_ret
    simp only [World.size_alloc] at hq
    exact ⟨_, by simp; rfl, ⟨B, by simp [SK.pty], hq.mono (fun b _ hb => by omega)⟩, via Hb0.out hb2⟩
  · have hc := linear_any s.field s.sets S sa sc (w.alloc (.cells #[.int .i64 SK.linear.num, .string s.field, .float .f64 s.a, .slice sa s.sets.length sc, .slice fa fn fc] 46)) (hsets.keep (Keeps.of_below S hb0)) hl hok.1 hok.2
    have Hc := Lib.hid hc; clear hc hok hsets
    have Hb0 := Lib.hid hb0; clear hb0
    go_enter Tryz.func30, Tryz.ntmps30
    simp only [SK.num] at Hc Hb0 ⊢
    go_wp2_with (go_at_call 106; refine Hc.out.mono ?_; rintro e w2 ⟨B, rfl, hq, hb2⟩)
    go_ret
    simp only [World.size_alloc] at hq
    exact ⟨_, by simp; rfl, ⟨B, by simp [SK.pty], hq.mono (fun b _ hb => by omega)⟩, via Hb0.out hb2⟩
  · have hc := factor_any s.field s.sets S sa sc (w.alloc (.cells #[.int .i64 SK.factor.num, .string s.field, .float .f64 s.a, .slice sa s.sets.length sc, .slice fa fn fc] 46)) (hsets.keep (Keeps.of_below S hb0)) hl hok
    have Hc := Lib.hid hc; clear hc hok hsets
    have Hb0 := Lib.hid hb0; clear hb0
    go_enter Tryz.func30, Tryz.ntmps30
    simp only [SK.num] at Hc Hb0 ⊢
    go_wp2_with (go_at_call 107; refine Hc.out.mono ?_; rintro e w2 ⟨B, rfl, hq, hb2⟩)
    go_ret
    simp only [World.size_alloc] at hq
    exact ⟨_, by simp; rfl, ⟨B, by simp [SK.pty], hq.mono (fun b _ hb => by omega)⟩, via Hb0.out hb2⟩
  · have hc := random_any s.field s.sets S sa sc (w.alloc (.cells #[.int .i64 SK.random.num, .string s.field, .float .f64 s.a, .slice sa s.sets.length sc, .slice fa fn fc] 46)) (hsets.keep (Keeps.of_below S hb0)) hl hok.1 hok.2
    have Hc := Lib.hid hc; clear hc hok hsets
    have Hb0 := Lib.hid hb0; clear hb0
    go_enter Tryz.func30, Tryz.ntmps30
    simp only [SK.num] at Hc Hb0 ⊢
    go_wp2_with (go_at_call 108; refine Hc.out.mono ?_; rintro e w2 ⟨B, rfl, hq, hb2⟩)
    go_ret
    simp only [World.size_alloc] at hq
    exact ⟨_, by simp; rfl, ⟨B, by simp [SK.pty], hq.mono (fun b _ hb => by omega)⟩, via Hb0.out hb2⟩

/-! Methods. -/
theorem meth_weight_GetWeight (v : Value) (w : World) : (method 419 119 v "GetWeight").run Tryz.prog w = .ok (278, v) w := by kernel_rfl
theorem meth_weight_Name (v : Value) (w : World) : (method 419 119 v "Name").run Tryz.prog w = .ok (279, v) w := by kernel_rfl
theorem meth_weight_Source (v : Value) (w : World) : (method 419 119 v "Source").run Tryz.prog w = .ok (280, v) w := by kernel_rfl
theorem meth_exponential_GetWeight (v : Value) (w : World) : (method 419 139 v "GetWeight").run Tryz.prog w = .ok (281, v) w := by kernel_rfl
theorem meth_exponential_Name (v : Value) (w : World) : (method 419 139 v "Name").run Tryz.prog w = .ok (282, v) w := by kernel_rfl
theorem meth_exponential_Source (v : Value) (w : World) : (method 419 139 v "Source").run Tryz.prog w = .ok (283, v) w := by kernel_rfl
theorem meth_gauss_GetWeight (v : Value) (w : World) : (method 419 145 v "GetWeight").run Tryz.prog w = .ok (284, v) w := by kernel_rfl
theorem meth_gauss_Name (v : Value) (w : World) : (method 419 145 v "Name").run Tryz.prog w = .ok (285, v) w := by kernel_rfl
theorem meth_gauss_Source (v : Value) (w : World) : (method 419 145 v "Source").run Tryz.prog w = .ok (286, v) w := by kernel_rfl
theorem meth_linear_GetWeight (v : Value) (w : World) : (method 419 150 v "GetWeight").run Tryz.prog w = .ok (288, v) w := by kernel_rfl
theorem meth_linear_Name (v : Value) (w : World) : (method 419 150 v "Name").run Tryz.prog w = .ok (289, v) w := by kernel_rfl
theorem meth_linear_Source (v : Value) (w : World) : (method 419 150 v "Source").run Tryz.prog w = .ok (290, v) w := by kernel_rfl
theorem meth_factor_GetWeight (v : Value) (w : World) : (method 419 155 v "GetWeight").run Tryz.prog w = .ok (291, v) w := by kernel_rfl
theorem meth_factor_Name (v : Value) (w : World) : (method 419 155 v "Name").run Tryz.prog w = .ok (292, v) w := by kernel_rfl
theorem meth_factor_Source (v : Value) (w : World) : (method 419 155 v "Source").run Tryz.prog w = .ok (293, v) w := by kernel_rfl
theorem meth_random_GetWeight (v : Value) (w : World) : (method 419 159 v "GetWeight").run Tryz.prog w = .ok (294, v) w := by kernel_rfl
theorem meth_random_Name (v : Value) (w : World) : (method 419 159 v "Name").run Tryz.prog w = .ok (295, v) w := by kernel_rfl
theorem meth_random_Source (v : Value) (w : World) : (method 419 159 v "Source").run Tryz.prog w = .ok (296, v) w := by kernel_rfl
theorem meth_GetWeight (k : SK) (v : Value) (w : World) : (method 419 k.pty v "GetWeight").run Tryz.prog w = .ok (k.gw, v) w := by
  cases k
  · exact meth_weight_GetWeight v w
  · exact meth_exponential_GetWeight v w
  · exact meth_gauss_GetWeight v w
  · exact meth_linear_GetWeight v w
  · exact meth_factor_GetWeight v w
  · exact meth_random_GetWeight v w
theorem meth_Name (k : SK) (v : Value) (w : World) : (method 419 k.pty v "Name").run Tryz.prog w = .ok (k.gn, v) w := by
  cases k
  · exact meth_weight_Name v w
  · exact meth_exponential_Name v w
  · exact meth_gauss_Name v w
  · exact meth_linear_Name v w
  · exact meth_factor_Name v w
  · exact meth_random_Name v w
theorem meth_Source (k : SK) (v : Value) (w : World) : (method 419 k.pty v "Source").run Tryz.prog w = .ok (k.gs, v) w := by
  cases k
  · exact meth_weight_Source v w
  · exact meth_exponential_Source v w
  · exact meth_gauss_Source v w
  · exact meth_linear_Source v w
  · exact meth_factor_Source v w
  · exact meth_random_Source v w
theorem call_GetWeight (k : SK) (args : Array Value) (w : World) : (callFunc k.gw args).run Tryz.prog w = .ok (.enter k.gw args) w := by cases k <;> kernel_rfl
theorem call_Name (k : SK) (args : Array Value) (w : World) : (callFunc k.gn args).run Tryz.prog w = .ok (.enter k.gn args) w := by cases k <;> kernel_rfl
theorem call_Source (k : SK) (args : Array Value) (w : World) : (callFunc k.gs args).run Tryz.prog w = .ok (.enter k.gs args) w := by cases k <;> kernel_rfl

/-- What a score function weighs. -/
def weightOf (k : SK) (s : ScoreM) : Option Nat := match k with | .weight => some s.a | _ => (lastOf s.sets n_weight).map Tr.num
def WeightP (w : World) (S : Nat → Prop) (o : Option Nat) (p : Option Addr) : Prop := match o with | none => p = none | some x => ∃ b, p = some ⟨b, 0, none⟩ ∧ S b ∧ w.cell? ⟨b, 0, none⟩ = some (.float .f64 x)
theorem weight_of_num {w : World} {S S' : Nat → Prop} {sets : List SetM} {u : Value} (h : GOK w S sets (.num n_weight) u) (hS : ∀ b, S b → S' b) : ∃ p, u = .pointer p ∧ WeightP w S' ((lastOf sets n_weight).map Tr.num) p := by
  unfold GOK at h
  simp only at h
  cases e : lastOf sets n_weight with
  | none => rw [e] at h; exact ⟨none, h, rfl⟩
  | some t =>
    rw [e] at h
    obtain ⟨b, h1, h2, h3⟩ := h
    exact ⟨some ⟨b, 0, none⟩, h1, b, rfl, hS b h2, h3⟩

set_option maxRecDepth 100000 in
set_option maxHeartbeats 1000000 in
theorem getWeight_any (k : SK) (s : ScoreM) (B : Nat) (S : Nat → Prop) (w : World) (h : GSt w S B (k.ks s.field s.a) k.sty s.sets) :
    Calls Tryz.prog k.gw #[.pointer (some ⟨B, 0, none⟩)] w fun e w' => ∃ p, e = .returned (.pointer p) ∧ WeightP w' S (weightOf k s) p ∧ w = w' := by
  cases k
  · have hlt := h.lt
    obtain ⟨u, hc, hu⟩ := h.cell 0 _ rfl
    have hu' : u = .float .f64 s.a := hu
    subst hu'
    have hS := h.1
    clear h
    show Calls Tryz.prog 278 _ _ _
    go_enter Tryz.func278, Tryz.ntmps278
    go_wp2
    go_ret
    exact ⟨some ⟨B, 0, none⟩, by simp, ⟨B, rfl, hS, hc⟩, rfl⟩
  · have hlt := h.lt
    obtain ⟨u, hc, hu⟩ := h.cell 6 _ rfl
    obtain ⟨p, rfl, hp⟩ := weight_of_num hu (S' := S) (fun b hb => hb.1)
    clear h hu
    show Calls Tryz.prog 281 _ _ _
    go_enter Tryz.func281, Tryz.ntmps281
    go_wp2
    go_ret
    exact ⟨p, by simp, hp, rfl⟩
  · have hlt := h.lt
    obtain ⟨u, hc, hu⟩ := h.cell 6 _ rfl
    obtain ⟨p, rfl, hp⟩ := weight_of_num hu (S' := S) (fun b hb => hb.1)
    clear h hu
    show Calls Tryz.prog 284 _ _ _
    go_enter Tryz.func284, Tryz.ntmps284
    go_wp2
    go_ret
    exact ⟨p, by simp, hp, rfl⟩
  · have hlt := h.lt
    obtain ⟨u, hc, hu⟩ := h.cell 6 _ rfl
    obtain ⟨p, rfl, hp⟩ := weight_of_num hu (S' := S) (fun b hb => hb.1)
    clear h hu
    show Calls Tryz.prog 288 _ _ _
    go_enter Tryz.func288, Tryz.ntmps288
    go_wp2
    go_ret
    exact ⟨p, by simp, hp, rfl⟩
  · have hlt := h.lt
    obtain ⟨u, hc, hu⟩ := h.cell 3 _ rfl
    obtain ⟨p, rfl, hp⟩ := weight_of_num hu (S' := S) (fun b hb => hb.1)
    clear h hu
    show Calls Tryz.prog 291 _ _ _
    go_enter Tryz.func291, Tryz.ntmps291
    go_wp2
    go_ret
    exact ⟨p, by simp, hp, rfl⟩
  · have hlt := h.lt
    obtain ⟨u, hc, hu⟩ := h.cell 2 _ rfl
    obtain ⟨p, rfl, hp⟩ := weight_of_num hu (S' := S) (fun b hb => hb.1)
    clear h hu
    show Calls Tryz.prog 294 _ _ _
    go_enter Tryz.func294, Tryz.ntmps294
    go_wp2
    go_ret
    exact ⟨p, by simp, hp, rfl⟩

set_option maxRecDepth 100000 in
set_option maxHeartbeats 1000000 in
theorem getName_any (k : SK) (p : Option Addr) (w : World) : Calls Tryz.prog k.gn #[.pointer p] w fun e w' => e = .returned (.string k.key) ∧ w = w' := by
  cases k
  · show Calls Tryz.prog 279 _ _ _
    go_enter Tryz.func279, Tryz.ntmps279
    go_wp2
    go_ret
    exact ⟨by simp [SK.key], rfl⟩
  · show Calls Tryz.prog 282 _ _ _
    go_enter Tryz.func282, Tryz.ntmps282
    go_wp2
    go_ret
    exact ⟨by simp [SK.key], rfl⟩
  · show Calls Tryz.prog 285 _ _ _
    go_enter Tryz.func285, Tryz.ntmps285
    go_wp2
    go_ret
    exact ⟨by simp [SK.key], rfl⟩
  · show Calls Tryz.prog 289 _ _ _
    go_enter Tryz.func289, Tryz.ntmps289
    go_wp2
    go_ret
    exact ⟨by simp [SK.key], rfl⟩
  · show Calls Tryz.prog 292 _ _ _
    go_enter Tryz.func292, Tryz.ntmps292
    go_wp2
    go_ret
    exact ⟨by simp [SK.key], rfl⟩
  · show Calls Tryz.prog 295 _ _ _
    go_enter Tryz.func295, Tryz.ntmps295
    go_wp2
    go_ret
    exact ⟨by simp [SK.key], rfl⟩
end Go.Proofs.YtbcnhcpgloncdaaGreatDoor
