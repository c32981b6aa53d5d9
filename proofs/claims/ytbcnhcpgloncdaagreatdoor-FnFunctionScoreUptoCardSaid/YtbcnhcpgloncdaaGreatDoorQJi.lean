/- 'impl.FunctionScore': the query, the functions and the settings are told to the builder. -/
import Derived.Test.YtbcnhcpgloncdaaGreatDoorQJh
import Derived.Test.YtbcnhcpgloncdaaGreatDoorQIa
namespace Go.Proofs.YtbcnhcpgloncdaaGreatDoor
open Go Go.RowKit Go.BigFrame Go.Maps

/-- How a score function lies in a slice. -/
structure SV where
  sa : Option Addr
  sc : Nat
  fa : Option Addr
  fc : Nat
  deriving Inhabited
def ScoreM.zero : ScoreM := ⟨0, ByteArray.empty, 0, [], []⟩
def ScoreM.cells (s : ScoreM) (v : SV) : List Value := [.int .i64 s.kind, .string s.field, .float .f64 s.a, .slice v.sa s.sets.length v.sc, .slice v.fa s.filters.length v.fc]
def ScoresAt (w : World) (S : Nat → Prop) (a : Option Addr) (ss : List ScoreM) : Prop :=
  ∃ vs : Nat → SV, SliceAt w S a 5 ss.length (fun i => (ss.getD i ScoreM.zero).cells (vs i)) ∧ ∀ i s, ss[i]? = some s → SetsAt w S (vs i).sa s.sets ∧ TreesAt w S (vs i).fa s.filters
theorem ScoresAt.keep {w w' : World} {S : Nat → Prop} {a : Option Addr} {ss : List ScoreM} (h : ScoresAt w S a ss) (hk : Keeps S w w') : ScoresAt w' S a ss := by
  obtain ⟨vs, h1, h2⟩ := h
  exact ⟨vs, h1.keep (fun _ => by simp [ScoreM.cells]) hk, fun i s hs => ⟨(h2 i s hs).1.keep hk, (h2 i s hs).2.keep hk⟩⟩
theorem ScoresAt.at {w : World} {S : Nat → Prop} {a : Option Addr} {ss : List ScoreM} (h : ScoresAt w S a ss) {k : Nat} (hk : k < ss.length) :
    ∃ (b o : Nat) (v : SV), a = some ⟨b, o, none⟩ ∧ S b ∧ b < w.heap.size ∧ w.cell? ⟨b, o + k * 5, none⟩ = some (.int .i64 ss[k].kind) ∧ w.cell? ⟨b, o + k * 5 + 1, none⟩ = some (.string ss[k].field) ∧ w.cell? ⟨b, o + k * 5 + 2, none⟩ = some (.float .f64 ss[k].a) ∧
      w.cell? ⟨b, o + k * 5 + 3, none⟩ = some (.slice v.sa ss[k].sets.length v.sc) ∧ w.cell? ⟨b, o + k * 5 + 4, none⟩ = some (.slice v.fa ss[k].filters.length v.fc) ∧ SetsAt w S v.sa ss[k].sets ∧ TreesAt w S v.fa ss[k].filters := by
  obtain ⟨vs, h1, h2⟩ := h
  obtain ⟨b, o, e, hS, hr⟩ := h1 (by omega)
  have e0 : (ss.getD k ScoreM.zero) = ss[k] := by simp [hk]
  have hr' := hr k hk
  simp only [e0] at hr'
  have c0 := hr' 0 _ rfl
  exact ⟨b, o, vs k, e, hS, World.block_lt_of_cell? w _ c0, c0, hr' 1 _ rfl, hr' 2 _ rfl, hr' 3 _ rfl, hr' 4 _ rfl, (h2 k _ (by simp [hk])).1, (h2 k _ (by simp [hk])).2⟩

/-- What a score function must be, to be told. -/
def ScoreM.good (s : ScoreM) : Prop := ∃ k : SK, s.kind = k.num ∧ k.ok s.sets ∧ s.sets.length ≤ 1048576 ∧ s.filters.length ≤ 1
def namesQ : List ByteArray := [n_boost, n_boost_mode, n_max_boost, n_min_score, n_score_mode]

set_option maxRecDepth 100000 in
set_option maxHeartbeats 40000000 in
theorem implScore_any (qs : List Tr) (fs : List ScoreM) (sets : List SetM) (T : Tr) (S : Nat → Prop) (qa fa a : Option Addr) (qc fc c : Nat) (w : World) (hqs : TreesAt w S qa qs) (hfs : ScoresAt w S fa fs) (hsets : SetsAt w S a sets) (hS : ∀ b, S b → b < w.heap.size)
    (hql : qs.length ≤ 1) (hfl : fs.length ≤ 1048576) (hl : sets.length ≤ 1048576) (hgood : ∀ s ∈ fs, s.good) (hnm : ∀ s ∈ sets, s.name ∈ namesQ)
    (hsrc : ∀ wr, Below w.heap.size w wr → FQ wr (w.heap.size + 1) (w.heap.size + 1 + 2) qs fs sets → Calls Tryz.prog 39 #[.pointer (some ⟨w.heap.size + 1 + 2, 0, none⟩)] wr fun e w' => ∃ v, e = .returned (.tuple #[v, .nilIface]) ∧ AnyAt w' (fun _ => True) v T ∧ Below wr.heap.size wr w') :
    Calls Tryz.prog 9 #[.slice qa qs.length qc, .slice fa fs.length fc, .slice a sets.length c] w (ToldPost w T) := by
  have Hqs := Lib.hid hqs; clear hqs
  have Hfs := Lib.hid hfs; clear hfs
  have Hsets := Lib.hid hsets; clear hsets
  have HS := Lib.hid hS; clear hS
  have Hsrc := Lib.hid hsrc; clear hsrc
  have Hnm := Lib.hid hnm; clear hnm
  have Hgood := Lib.hid hgood; clear hgood
  go_enter Tryz.func9, Tryz.ntmps9
  go_wp2_with (go_at_call 28; refine (new_fq _).mono ?_; rintro e w1 ⟨rfl, hq1, hb1⟩)
  simp only [World.size_alloc] at hq1 hb1
  have hz1 : Zero6 w1 w.heap.size := Box6.keep (heap_alloc_new w _) (hb1.block _ (by omega))
  have hbel1 : Below w.heap.size w w1 := ((Below.refl _ _).alloc (Nat.le_refl _) _).trans (hb1.mono (by omega))
  clear hb1
  generalize w.heap.size + 1 + 2 = B at *
  go_loopw [19] (fun i wr => ∃ k : Nat, k ≤ qs.length ∧ i = .int .i64 k ∧ FQ wr (w.heap.size + 1) B (qs.take k) [] [] ∧ Zero6 wr w.heap.size ∧ Below w.heap.size w wr) (fun i _ => qs.length - (intOf i).toNat)
  case atStart => exact ⟨0, Nat.zero_le _, rfl, hq1, hz1, hbel1⟩
  case round =>
    clear hq1 hz1 hbel1
    obtain ⟨k, hk, rfl, hq, hz, hbel⟩ := hrel
    by_cases hlt : k < qs.length
    · have Hk0 : Hid (k = 0) := Lib.hid (by omega)
      obtain ⟨b', o, ⟨kind, text, num, yes, ka, kn, kc, ca, cn, cc⟩, hca, hSb, hlb, ⟨c0, c1, c2, c3, c4, c5⟩, hv⟩ := (Hqs.out.keep (Keeps.of_below S hbel)).cells (k := k) hlt
      subst hca
      have hbx := (Below.refl wr.heap.size wr).alloc (Nat.le_refl _) (.cells #[.int .i64 kind, .string text, .float .f64 num, .bool yes, .slice ka kn kc, .slice ca cn cc] 31)
      have hqb := hq.below hbx
      have hqr : QueryR (wr.alloc (.cells #[.int .i64 kind, .string text, .float .f64 num, .bool yes, .slice ka kn kc, .slice ca cn cc] 31)) (fun b => b < w.heap.size + 1) (.iface 59 (.agg #[.int .i64 kind, .string text, .float .f64 num, .bool yes, .slice ka kn kc, .slice ca cn cc])) qs[k] :=
        ⟨_, rfl, (hv.mono (fun b _ hb => by have := HS.out b hb; omega)).keep (Keeps.of_below _ hbx)⟩
      have hzl : w.heap.size < wr.heap.size := (Array.getElem?_eq_some_iff.1 hz).1
      have Htake : Hid (qs.take (k + 1) = [qs[k]]) := Lib.hid (by rw [List.take_succ_eq_append_getElem hlt, show qs.take k = [] by rw [Hk0.out]; simp]; rfl)
      rw [Hk0.out, List.take_zero] at hqb
      have Hqb := Lib.hid hqb; clear hqb hq
      have Hqr := Lib.hid hqr; clear hqr hv
      have Hz := Lib.hid hz; clear hz
      have Hbel := Lib.hid hbel; clear hbel hbx
      have hi1 : (0 : Int) ≤ (k : Int) := by omega
      have hi2 : (k : Int) < (qs.length : Int) := by omega
      go_wp2_with (go_at_call 29; refine (setQ_query _ _ _ _ _ _ Hqr.out Hqb.out).mono ?_; rintro e w2 ⟨rfl, hq2, hb2⟩)
      have hz2 : Zero6 w2 w.heap.size := Hz.out.keep ((hb2.block _ (by omega)).trans (heap_alloc_old _ _ hzl))
      have hbel2 := (Hbel.out.alloc Hbel.out.size _).trans (hb2.mono (by omega))
      go_roundw
      case rel => exact ⟨k + 1, by omega, by simp, by rw [Htake.out]; exact hq2, hz2, hbel2⟩
      case measure => simp [intOf]; omega
    · obtain rfl : k = qs.length := by omega
      rw [List.take_length] at hq
      have Hq := Lib.hid hq; clear hq
      have Hz := Lib.hid hz; clear hz
      have Hbel := Lib.hid hbel; clear hbel
      go_wp2_with fail
      have hq1 := Hq.out
      have hz1 := Hz.out
      have hbel1 := Hbel.out
      clear Hq Hz Hbel
      go_loopw [31] (fun i wr => ∃ k : Nat, k ≤ fs.length ∧ i = .int .i64 k ∧ FQ wr (w.heap.size + 1) B qs (fs.take k) [] ∧ Zero6 wr w.heap.size ∧ Below w.heap.size w wr) (fun i _ => fs.length - (intOf i).toNat)
      case atStart => exact ⟨0, Nat.zero_le _, rfl, hq1, hz1, hbel1⟩
      case round =>
        clear hq1 hz1 hbel1
        obtain ⟨k, hk, rfl, hq, hz, hbel⟩ := hrel
        by_cases hlt : k < fs.length
        · obtain ⟨b', o, ⟨sa, sc, ga, gc⟩, hca, hSb, hlb, c0, c1, c2, c3, c4, hst, hft⟩ := (Hfs.out.keep (Keeps.of_below S hbel)).at (k := k) hlt
          subst hca
          simp only at c0 c1 c2 c3 c4 hst hft
          have hgd := Hgood.out fs[k] (by simp)
          have Htake : Hid (fs.take (k + 1) = fs.take k ++ [fs[k]]) := Lib.hid (List.take_succ_eq_append_getElem hlt)
          have Hdl : Hid ((fs.take k).length + 1 ≤ 1048576) := Lib.hid (by rw [List.length_take]; omega)
          generalize fs[k] = s at *
          generalize fs.take k = done at *
          obtain ⟨kk, hkk, hok, hsl, hfl1⟩ := hgd
          have hzl : w.heap.size < wr.heap.size := (Array.getElem?_eq_some_iff.1 hz).1
          have hi1 : (0 : Int) ≤ (k : Int) := by omega
          have hi2 : (k : Int) < (fs.length : Int) := by omega
          have hbx := (Below.refl wr.heap.size wr).alloc (Nat.le_refl _) (.cells #[.int .i64 s.kind, .string s.field, .float .f64 s.a, .slice sa s.sets.length sc, .slice ga s.filters.length gc] 46)
          have hqb := hq.below hbx
          have hst' := hst.keep (Keeps.of_below S hbx)
          have hft' := hft.keep (Keeps.of_below S hbx)
          have hfn := function_any kk s hkk hok S sa ga sc s.filters.length gc _ hst' hsl
          have hnw := heap_alloc_new wr (.cells #[.int .i64 s.kind, .string s.field, .float .f64 s.a, .slice sa s.sets.length sc, .slice ga s.filters.length gc] 46)
          have hfw : ∀ (w3 : World) (v : Value), FunR kk w3 (fun b => (wr.alloc (.cells #[.int .i64 s.kind, .string s.field, .float .f64 s.a, .slice sa s.sets.length sc, .slice ga s.filters.length gc] 46)).heap.size ≤ b) v s → ∃ ty x, v = .iface ty x ∧ FunW w3 (fun b => (wr.alloc (.cells #[.int .i64 s.kind, .string s.field, .float .f64 s.a, .slice sa s.sets.length sc, .slice ga s.filters.length gc] 46)).heap.size ≤ b) (.iface ty x) s :=
            fun w3 v ⟨Bf, h1, h2⟩ => ⟨_, _, h1, kk, hkk, Bf, rfl, h2⟩
          have Hfw := Lib.hid hfw; clear hfw
          have hfcase : (s.filters.length = 0 ∧ s.filters = []) ∨ ∃ t, s.filters.length = 1 ∧ s.filters = [t] := by
            match h : s.filters, hfl1 with
            | [], _ => exact .inl ⟨rfl, rfl⟩
            | [t], _ => exact .inr ⟨t, rfl, rfl⟩
          have Hqb := Lib.hid hqb; clear hqb hq
          have Hz := Lib.hid hz; clear hz
          have Hbel := Lib.hid hbel; clear hbel hbx
          clear hst hst' hok hsl hfl1 hft hkk
          rcases hfcase with ⟨hf0, hf1⟩ | ⟨t, hf0, hf1⟩
          · have Hfil : Hid (FilR (wr.alloc (.cells #[.int .i64 s.kind, .string s.field, .float .f64 s.a, .slice sa s.sets.length sc, .slice ga 0 gc] 46)) (fun b => b < w.heap.size + 1) .nilIface s) := Lib.hid (by unfold FilR; rw [hf1])
            clear hf1
            rw [hf0] at c4 hnw hfn
            simp only [hf0] at Hqb Hfw
            have Hfn := Lib.hid hfn; clear hfn hf0 hft'
            go_upto_region 11 with (go_at_call 30; refine Hfn.out.mono ?_; rintro e w3 ⟨v, rfl, hv, hb3⟩)
            obtain ⟨ty, x, rfl, hw3⟩ := Hfw.out _ _ hv
            have Hw3 := Lib.hid hw3; clear hw3 hv
            have hnw3 := (hb3.block wr.heap.size (by simp)).trans hnw
            have e4 : w3.cell? ⟨wr.heap.size, 4, none⟩ = some (.slice ga 0 gc) := by simp [World.cell?, hnw3]
            clear hnw hnw3
            have Hb3 := Lib.hid hb3; clear hb3
            go_wp2_with (go_at_call 32; refine (addFn _ w3 (w.heap.size + 1) B qs done [] s Hfil.out Hqb.out Hb3.out ty x Hw3.out Hdl.out).mono ?_; rintro e w2 ⟨rfl, hq2, hb2⟩)
            have hz2 : Zero6 w2 w.heap.size := Hz.out.keep ((hb2.block _ (by omega)).trans ((Hb3.out.block _ (by simp; omega)).trans (heap_alloc_old _ _ hzl)))
            have hbel2 := (via (Hbel.out.alloc Hbel.out.size _) Hb3.out).trans (hb2.mono (by omega))
            go_roundw
            case rel => exact ⟨k + 1, by omega, by simp, by rw [Htake.out]; exact hq2, hz2, hbel2⟩
            case measure => simp [intOf]; omega
          · obtain ⟨b2, o2, ⟨kind, text, num, yes, ka, kn, kc, ca, cn, cc⟩, hca2, hSb2, hlb2, ⟨d0, d1, d2, d3, d4, d5⟩, hv⟩ := hft'.cells (k := 0) (by omega)
            subst hca2
            simp only [Nat.zero_mul, Nat.add_zero] at d0 d1 d2 d3 d4 d5
            have ht : s.filters[0]'(by omega) = t := by simp [hf1]
            rw [ht] at hv
            have hqr := hv.mono (S' := fun b => b < w.heap.size + 1) (fun b _ hb => by have := HS.out b hb; omega)
            rw [hf0] at c4 hnw hfn
            simp only [hf0] at Hqb Hfw d0 d1 d2 d3 d4 d5 hqr hlb2
            have Hfil : Hid (FilR (wr.alloc (.cells #[.int .i64 s.kind, .string s.field, .float .f64 s.a, .slice sa s.sets.length sc, .slice (some ⟨b2, o2, none⟩) 1 gc] 46)) (fun b => b < w.heap.size + 1) (.iface 59 (.agg #[.int .i64 kind, .string text, .float .f64 num, .bool yes, .slice ka kn kc, .slice ca cn cc])) s) := Lib.hid (by unfold FilR; rw [hf1]; exact ⟨_, rfl, hqr⟩)
            clear hf1 hv hqr ht
            have Hfn := Lib.hid hfn; clear hfn hf0 hft'
            go_upto_region 11 with (go_at_call 30; refine Hfn.out.mono ?_; rintro e w3 ⟨v, rfl, hv, hb3⟩)
            obtain ⟨ty, x, rfl, hw3⟩ := Hfw.out _ _ hv
            have Hw3 := Lib.hid hw3; clear hw3 hv
            have hnw3 := (hb3.block wr.heap.size (by simp)).trans hnw
            have e4 : w3.cell? ⟨wr.heap.size, 4, none⟩ = some (.slice (some ⟨b2, o2, none⟩) 1 gc) := by simp [World.cell?, hnw3]
            have f0 := (hb3.cell (p := ⟨b2, o2, none⟩) hlb2).trans d0
            have f1 := (hb3.cell (p := ⟨b2, o2 + 1, none⟩) hlb2).trans d1
            have f2 := (hb3.cell (p := ⟨b2, o2 + 2, none⟩) hlb2).trans d2
            have f3 := (hb3.cell (p := ⟨b2, o2 + 3, none⟩) hlb2).trans d3
            have f4 := (hb3.cell (p := ⟨b2, o2 + 4, none⟩) hlb2).trans d4
            have f5 := (hb3.cell (p := ⟨b2, o2 + 5, none⟩) hlb2).trans d5
            clear hnw hnw3 d0 d1 d2 d3 d4 d5
            have Hb3 := Lib.hid hb3; clear hb3
            go_wp2_with (go_at_call 31; refine (addFil _ w3 (w.heap.size + 1) B qs done [] s _ Hfil.out Hqb.out Hb3.out ty x Hw3.out Hdl.out).mono ?_; rintro e w2 ⟨rfl, hq2, hb2⟩)
            have hz2 : Zero6 w2 w.heap.size := Hz.out.keep ((hb2.block _ (by omega)).trans ((Hb3.out.block _ (by simp; omega)).trans (heap_alloc_old _ _ hzl)))
            have hbel2 := (via (Hbel.out.alloc Hbel.out.size _) Hb3.out).trans (hb2.mono (by omega))
            go_roundw
            case rel => exact ⟨k + 1, by omega, by simp, by rw [Htake.out]; exact hq2, hz2, hbel2⟩
            case measure => simp [intOf]; omega
        · obtain rfl : k = fs.length := by omega
          rw [List.take_length] at hq
          have Hq := Lib.hid hq; clear hq
          have Hz := Lib.hid hz; clear hz
          have Hbel := Lib.hid hbel; clear hbel
          go_wp2_with fail
          have hq1 := Hq.out
          have hz1 := Hz.out
          have hbel1 := Hbel.out
          clear Hq Hz Hbel
          go_loopw [56] (fun i wr => ∃ k : Nat, k ≤ sets.length ∧ i = .int .i64 k ∧ FQ wr (w.heap.size + 1) B qs fs (sets.take k) ∧ Zero6 wr w.heap.size ∧ Below w.heap.size w wr) (fun i _ => sets.length - (intOf i).toNat)
          case atStart => exact ⟨0, Nat.zero_le _, rfl, hq1, hz1, hbel1⟩
          case round =>
            clear hq1 hz1 hbel1
            obtain ⟨k, hk, rfl, hq, hz, hbel⟩ := hrel
            by_cases hlt : k < sets.length
            · obtain ⟨b', o, v, hca, hSb, hlb, c0, c1, c2, c3, c4, c5, c6, hv⟩ := (Hsets.out.keep (Keeps.of_below S hbel)).cells (k := k) hlt
              subst hca
              obtain ⟨e1, e2, e3, e4, e5, e6⟩ := hv.eqs
              rw [e2] at c2
              rw [e3] at c3
              rw [e4] at c4
              have hname := Hnm.out sets[k] (by simp)
              have Htake : Hid (sets.take (k + 1) = sets.take k ++ [sets[k]]) := Lib.hid (List.take_succ_eq_append_getElem hlt)
              generalize sets[k] = s at *
              generalize sets.take k = done at *
              have hqb := hq.below ((Below.refl _ _).alloc (Nat.le_refl _) (.cells #[.string s.name, .int .i64 v.kind, .string s.val.text, .float .f64 s.val.num, .bool s.val.yes, .slice v.ka v.kn v.kc, .slice v.ca v.cn v.cc] 54))
              have hzl : w.heap.size < wr.heap.size := (Array.getElem?_eq_some_iff.1 hz).1
              have Hq := Lib.hid hqb; clear hqb hq
              have Hz := Lib.hid hz; clear hz
              have Hbel := Lib.hid hbel; clear hbel
              clear hv e1 e2 e3 e4 e5 e6 hlb hSb
              have hi1 : (0 : Int) ≤ (k : Int) := by omega
              have hi2 : (k : Int) < (sets.length : Int) := by omega
              simp only [namesQ, List.mem_cons, List.not_mem_nil, or_false] at hname
              rcases hname with hname | hname | hname | hname | hname
              · as_aux_lemma =>
                rw [show s.name = ⟨#[98, 111, 111, 115, 116]⟩ from hname] at c0
                have Hn : Hid (s.name = n_boost) := Lib.hid hname
                have Hq' : Hid (FQ (wr.alloc (.cells #[.string ⟨#[98, 111, 111, 115, 116]⟩, .int .i64 v.kind, .string s.val.text, .float .f64 s.val.num, .bool s.val.yes, .slice v.ka v.kn v.kc, .slice v.ca v.cn v.cc] 54)) (w.heap.size + 1) B qs fs done) := Lib.hid (by
                  have := Hq.out
                  rw [show s.name = ⟨#[98, 111, 111, 115, 116]⟩ from hname] at this
                  exact this)
                clear hname Hq
                go_wp2_with (go_at_call 33; refine (setQ_boost _ (w.heap.size + 1) B qs fs done s Hn.out Hq'.out).mono ?_; rintro e w2 ⟨rfl, hq2, hb2⟩)
                have hz2 := Hz.out.keep ((hb2.block _ (by omega)).trans (heap_alloc_old _ _ hzl))
                have hbel2 := (Hbel.out.alloc Hbel.out.size _).trans (hb2.mono (by omega))
                go_roundw
                case rel => exact ⟨k + 1, by omega, by simp, by rw [Htake.out]; exact hq2, hz2, hbel2⟩
                case measure => simp [intOf]; omega
              · as_aux_lemma =>
                rw [show s.name = ⟨#[98, 111, 111, 115, 116, 95, 109, 111, 100, 101]⟩ from hname] at c0
                have Hn : Hid (s.name = n_boost_mode) := Lib.hid hname
                have Hq' : Hid (FQ (wr.alloc (.cells #[.string ⟨#[98, 111, 111, 115, 116, 95, 109, 111, 100, 101]⟩, .int .i64 v.kind, .string s.val.text, .float .f64 s.val.num, .bool s.val.yes, .slice v.ka v.kn v.kc, .slice v.ca v.cn v.cc] 54)) (w.heap.size + 1) B qs fs done) := Lib.hid (by
                  have := Hq.out
                  rw [show s.name = ⟨#[98, 111, 111, 115, 116, 95, 109, 111, 100, 101]⟩ from hname] at this
                  exact this)
                clear hname Hq
                go_wp2_with (go_at_call 34; refine (setQ_boost_mode _ (w.heap.size + 1) B qs fs done s Hn.out Hq'.out).mono ?_; rintro e w2 ⟨rfl, hq2, hb2⟩)
                have hz2 := Hz.out.keep ((hb2.block _ (by omega)).trans (heap_alloc_old _ _ hzl))
                have hbel2 := (Hbel.out.alloc Hbel.out.size _).trans (hb2.mono (by omega))
                go_roundw
                case rel => exact ⟨k + 1, by omega, by simp, by rw [Htake.out]; exact hq2, hz2, hbel2⟩
                case measure => simp [intOf]; omega
              · as_aux_lemma =>
                rw [show s.name = ⟨#[109, 97, 120, 95, 98, 111, 111, 115, 116]⟩ from hname] at c0
                have Hn : Hid (s.name = n_max_boost) := Lib.hid hname
                have Hq' : Hid (FQ (wr.alloc (.cells #[.string ⟨#[109, 97, 120, 95, 98, 111, 111, 115, 116]⟩, .int .i64 v.kind, .string s.val.text, .float .f64 s.val.num, .bool s.val.yes, .slice v.ka v.kn v.kc, .slice v.ca v.cn v.cc] 54)) (w.heap.size + 1) B qs fs done) := Lib.hid (by
                  have := Hq.out
                  rw [show s.name = ⟨#[109, 97, 120, 95, 98, 111, 111, 115, 116]⟩ from hname] at this
                  exact this)
                clear hname Hq
                go_wp2_with (go_at_call 35; refine (setQ_max_boost _ (w.heap.size + 1) B qs fs done s Hn.out Hq'.out).mono ?_; rintro e w2 ⟨rfl, hq2, hb2⟩)
                have hz2 := Hz.out.keep ((hb2.block _ (by omega)).trans (heap_alloc_old _ _ hzl))
                have hbel2 := (Hbel.out.alloc Hbel.out.size _).trans (hb2.mono (by omega))
                go_roundw
                case rel => exact ⟨k + 1, by omega, by simp, by rw [Htake.out]; exact hq2, hz2, hbel2⟩
                case measure => simp [intOf]; omega
              · as_aux_lemma =>
                rw [show s.name = ⟨#[109, 105, 110, 95, 115, 99, 111, 114, 101]⟩ from hname] at c0
                have Hn : Hid (s.name = n_min_score) := Lib.hid hname
                have Hq' : Hid (FQ (wr.alloc (.cells #[.string ⟨#[109, 105, 110, 95, 115, 99, 111, 114, 101]⟩, .int .i64 v.kind, .string s.val.text, .float .f64 s.val.num, .bool s.val.yes, .slice v.ka v.kn v.kc, .slice v.ca v.cn v.cc] 54)) (w.heap.size + 1) B qs fs done) := Lib.hid (by
                  have := Hq.out
                  rw [show s.name = ⟨#[109, 105, 110, 95, 115, 99, 111, 114, 101]⟩ from hname] at this
                  exact this)
                clear hname Hq
                go_wp2_with (go_at_call 36; refine (setQ_min_score _ (w.heap.size + 1) B qs fs done s Hn.out Hq'.out).mono ?_; rintro e w2 ⟨rfl, hq2, hb2⟩)
                have hz2 := Hz.out.keep ((hb2.block _ (by omega)).trans (heap_alloc_old _ _ hzl))
                have hbel2 := (Hbel.out.alloc Hbel.out.size _).trans (hb2.mono (by omega))
                go_roundw
                case rel => exact ⟨k + 1, by omega, by simp, by rw [Htake.out]; exact hq2, hz2, hbel2⟩
                case measure => simp [intOf]; omega
              · as_aux_lemma =>
                rw [show s.name = ⟨#[115, 99, 111, 114, 101, 95, 109, 111, 100, 101]⟩ from hname] at c0
                have Hn : Hid (s.name = n_score_mode) := Lib.hid hname
                have Hq' : Hid (FQ (wr.alloc (.cells #[.string ⟨#[115, 99, 111, 114, 101, 95, 109, 111, 100, 101]⟩, .int .i64 v.kind, .string s.val.text, .float .f64 s.val.num, .bool s.val.yes, .slice v.ka v.kn v.kc, .slice v.ca v.cn v.cc] 54)) (w.heap.size + 1) B qs fs done) := Lib.hid (by
                  have := Hq.out
                  rw [show s.name = ⟨#[115, 99, 111, 114, 101, 95, 109, 111, 100, 101]⟩ from hname] at this
                  exact this)
                clear hname Hq
                go_wp2_with (go_at_call 37; refine (setQ_score_mode _ (w.heap.size + 1) B qs fs done s Hn.out Hq'.out).mono ?_; rintro e w2 ⟨rfl, hq2, hb2⟩)
                have hz2 := Hz.out.keep ((hb2.block _ (by omega)).trans (heap_alloc_old _ _ hzl))
                have hbel2 := (Hbel.out.alloc Hbel.out.size _).trans (hb2.mono (by omega))
                go_roundw
                case rel => exact ⟨k + 1, by omega, by simp, by rw [Htake.out]; exact hq2, hz2, hbel2⟩
                case measure => simp [intOf]; omega
            · obtain rfl : k = sets.length := by omega
              rw [List.take_length] at hq
              have hs := Hsrc.out wr hbel hq
              have Hs := Lib.hid hs; clear hs
              have Hz := Lib.hid hz; clear hz
              have Hbel := Lib.hid hbel; clear hbel
              clear hq
              go_wp2_with (first
                | (go_at_call 39; refine Hs.out.mono ?_; rintro e w2 ⟨v, rfl, hv, hb2⟩; have Hv := Lib.hid hv; clear hv)
                | (go_at_call 38; refine (told_any v T _ Hv.out).mono ?_; rintro e w3 ⟨⟨kind, text, num, yes, ka, kn, kc, ca, cn, cc⟩, rfl, hV, hb3⟩; obtain ⟨z0, z1, z2, z3, z4, z5, zf, zl⟩ := Box6.cells ((Hz.out.below hb2).below hb3)))
              have hz3 : Zero6 w3 w.heap.size := (Hz.out.below hb2).below hb3
              obtain ⟨p0, p1, p2, p3, p4, p5, _, _⟩ := (hz3.put6 (.int .i64 kind) (.string text) (.float .f64 num) (.bool yes) (.slice ka kn kc) (.slice ca cn cc)).cells
              refine bodyPost_ret (v := .tuple #[.agg #[.int .i64 kind, .string text, .float .f64 num, .bool yes, .slice ka kn kc, .slice ca cn cc], .bool true]) (by simp [results, Tryz.results9, go_sem, p0, p1, p2, p3, p4, p5]) rfl ?_
              have hlt2 : w.heap.size + 1 ≤ w2.heap.size := Nat.le_trans (Array.getElem?_eq_some_iff.1 Hz.out).1 hb2.size
              exact ⟨⟨kind, text, num, yes, ka, kn, kc, ca, cn, cc⟩, rfl, tree_put6 (hV.mono fun b _ hb => Nat.le_trans hlt2 hb) (Nat.le_refl _) _ _ _ _ _ _, Below.put6 (via (via Hbel.out hb2) hb3) (Nat.le_refl _) _ _ _ _ _ _⟩
end Go.Proofs.YtbcnhcpgloncdaaGreatDoor
