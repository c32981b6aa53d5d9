/- 'With': a map with a tree for a key: the walk. -/
import Derived.Test.YtbcnhcpgloncdaaGreatDoorQIc
namespace Go.Proofs.YtbcnhcpgloncdaaGreatDoor
open Go Go.RowKit Go.BigFrame

/-- The pairs with a tree for a key. -/
def withE (key : ByteArray) (kid : Tr) : Bool → List (ByteArray × Tr) → List (ByteArray × Tr)
  | done, [] => if done then [] else [(key, kid)]
  | done, p :: r => (if !done && !strLt p.1 key then [(key, kid)] else []) ++ (if p.1 = key then [] else [p]) ++ withE key kid (done || !strLt p.1 key) r

structure WithInv (w0 : World) (S : Nat → Prop) (B : Nat) (key : ByteArray) (kid : Tr) (es : List (ByteArray × Tr)) (k : Nat) (done : Bool) (wr : World) (kv cv : Value) (acc : List (ByteArray × Tr)) : Prop where
  map : MapS w0 S B wr (acc.map (·.1)) (acc.map (·.2)) kv cv
  eq : withE key kid false es = acc ++ withE key kid done (es.drop k)
  len : acc.length ≤ 2 * k

theorem own_uniq {w : World} {base : Nat} {e : TypeId} {size n : Nat} {v : Value} {xs ys : List Value} (h1 : w.ownsRow base e size v n xs) (h2 : w.ownsRow base e size v n ys) : xs = ys := by
  rcases h1.2 with ⟨e1, n1⟩ | ⟨g, cap, cur, e1, _, hh, _, _, _, t1⟩
  · subst n1
    have a := h1.1; have b := h2.1
    simp at a b
    rw [a, b]
  · rcases h2.2 with ⟨e2, _⟩ | ⟨g', cap', cur', e2, _, hh', _, _, _, t2⟩
    · rw [e1] at e2; cases e2
    · rw [e1] at e2; cases e2
      rw [hh] at hh'; cases hh'
      rw [← t1, ← t2]

set_option maxRecDepth 100000 in
set_option maxHeartbeats 8000000 in
theorem with_any (t kid : Tr) (key : ByteArray) (S : Nat → Prop) (v u : TV) (w : World) (hv : RepT w S v t) (hu : RepT w S u kid) (hS : ∀ b, S b → b < w.heap.size) (hkl : t.keys.length = t.kids.length) (hl : t.kids.length ≤ 1000000000) :
    Calls Tryz.prog 45 #[v.val, .string key, u.val] w (TreeS w S (mapE (withE key kid false (t.keys.zip t.kids)))) := by
  obtain ⟨i0, hi, hz0, hz1, hz2⟩ := info_parts Tryz.info31
  obtain ⟨j0, ji, jz0, jz1, jz2⟩ := info_parts Tryz.info9
  obtain ⟨q1, q2, q3, q4, q5, q6⟩ := hv.eqs
  have Hv := Lib.hid hv; clear hv
  have Hu := Lib.hid hu; clear hu
  have HS := Lib.hid hS; clear hS
  have Hkl := Lib.hid hkl
  obtain ⟨kind, text, num, yes, ka, kn, kc, ca, cn, cc⟩ := v
  obtain ⟨kind', text', num', yes', ka', kn', kc', ca', cn', cc'⟩ := u
  simp only at q5 q6
  rw [hkl] at q5
  obtain ⟨N, hN⟩ : ∃ N, t.kids.length = N := ⟨_, rfl⟩
  rw [hN] at q5 q6 hl
  subst q5 q6
  have HN := Lib.hid hN
  clear q1 q2 q3 q4 hkl hN
  obtain ⟨w0, hw0⟩ : ∃ w0, w0 = ((w.alloc (.cells #[.int .i64 kind, .string text, .float .f64 num, .bool yes, .slice ka cn kc, .slice ca cn cc] 31)).alloc (.cells #[.int .i64 kind', .string text', .float .f64 num', .bool yes', .slice ka' kn' kc', .slice ca' cn' cc'] 31)).alloc (.cells #[.int .i64 0, .string ⟨#[]⟩, .float .f64 0, .bool false, .slice none 0 0, .slice none 0 0] 31) := ⟨_, rfl⟩
  have hz : w0.heap.size = w.heap.size + 3 := by rw [hw0]; simp
  have hb0 : Below w.heap.size w w0 := by rw [hw0]; exact (((Below.refl _ _).alloc (Nat.le_refl _) _).alloc (by simp) _).alloc (by simp; omega) _
  have hx3 : w0.heap[w.heap.size]? = some (.cells #[.int .i64 kind, .string text, .float .f64 num, .bool yes, .slice ka cn kc, .slice ca cn cc] 31 (0, 0)) := by
    rw [hw0]; exact (heap_alloc_old _ _ (by simp; omega)).trans ((heap_alloc_old _ _ (by simp)).trans (heap_alloc_new w _))
  have hx6 : w0.heap[w.heap.size + 2]? = some (.cells #[.int .i64 0, .string ⟨#[]⟩, .float .f64 0, .bool false, .slice none 0 0, .slice none 0 0] 31 (0, 0)) := by
    rw [hw0]
    have := heap_alloc_new ((w.alloc (.cells #[.int .i64 kind, .string text, .float .f64 num, .bool yes, .slice ka cn kc, .slice ca cn cc] 31)).alloc (.cells #[.int .i64 kind', .string text', .float .f64 num', .bool yes', .slice ka' kn' kc', .slice ca' cn' cc'] 31)) (.cells #[.int .i64 0, .string ⟨#[]⟩, .float .f64 0, .bool false, .slice none 0 0, .slice none 0 0] 31)
    simpa using this
  have hx5 : w0.heap[w.heap.size + 1]? = some (.cells #[.int .i64 kind', .string text', .float .f64 num', .bool yes', .slice ka' kn' kc', .slice ca' cn' cc'] 31 (0, 0)) := by
    rw [hw0]; refine (heap_alloc_old _ _ (by simp)).trans ?_
    have := heap_alloc_new (w.alloc (.cells #[.int .i64 kind, .string text, .float .f64 num, .bool yes, .slice ka cn kc, .slice ca cn cc] 31)) (.cells #[.int .i64 kind', .string text', .float .f64 num', .bool yes', .slice ka' kn' kc', .slice ca' cn' cc'] 31)
    simpa using this
  have hv0 := Hv.out.keep (Keeps.of_below S hb0)
  have hu0 := Hu.out.keep (Keeps.of_below S hb0)
  have Hv0 := Lib.hid hv0; clear hv0 Hv
  have Hu0 := Lib.hid hu0; clear hu0 Hu
  have Hw0 := Lib.hid hw0; clear hw0
  have Hx6 := Lib.hid hx6; clear hx6
  have Hx3 := Lib.hid hx3; clear hx3
  have Hx5 := Lib.hid hx5; clear hx5
  have Hb0 := Lib.hid hb0; clear hb0
  go_enter Tryz.func45, Tryz.ntmps45
  go_wp2_with fail
  rw [← Hw0.out]
  go_loopw [8, 9] (fun dn i wr => ∃ (k : Nat) (done : Bool) (kv cv : Value) (acc : List (ByteArray × Tr)), k ≤ cn ∧ i = .int .i64 k ∧ dn = .bool done ∧ WithInv w0 S (w.heap.size + 3) key kid (t.keys.zip t.kids) k done wr kv cv acc) (fun _ i _ => cn - (intOf i).toNat)
  case atStart =>
    refine ⟨0, false, _, _, [], Nat.zero_le _, rfl, rfl, ⟨⟨?_, ⟨by simp, .inl ⟨rfl, rfl⟩⟩, ⟨[], rfl, ⟨by simp, .inl ⟨rfl, rfl⟩⟩, fun i v t h => by simp at h⟩, fun b hb => by simp [Value.ownBlock] at hb, (Below.refl _ _).alloc (by omega) _, by simp; omega⟩, by simp, by simp⟩⟩
    have := heap_alloc_new w0 (.cells #[.int .i64 5, .string ⟨#[]⟩, .float .f64 0, .bool false, .slice none 0 0, .slice none 0 0] 31)
    rw [hz] at this
    exact this
  case round =>
    obtain ⟨k, done, kv, cv, acc, hk, rfl, rfl, hinv⟩ := hrel
    have hm := hinv.map
    have Heq := Lib.hid hinv.eq
    have hlen := hinv.len
    clear hinv
    obtain ⟨ks, hks⟩ : ∃ ks, ks = acc.map (·.1) := ⟨_, rfl⟩
    obtain ⟨ts, hts⟩ : ∃ ts, ts = acc.map (·.2) := ⟨_, rfl⟩
    rw [← hks, ← hts] at hm
    have hkl2 : ks.length = acc.length := by rw [hks]; simp
    have htl2 : ts.length = acc.length := by rw [hts]; simp
    have hkb : ks.length ≤ 2 * k := by omega
    have htb : ts.length ≤ 2 * k := by omega
    clear hkl2 htl2
    have Hks := Lib.hid hks; clear hks
    have Hts := Lib.hid hts; clear hts
    have hmb := hm.bel
    have hms := hm.size
    have y3 := (hmb.block w.heap.size (by omega)).trans Hx3.out
    have y5 := (hmb.block (w.heap.size + 1) (by omega)).trans Hx5.out
    have b4 : wr.cell? ⟨w.heap.size, 4, none⟩ = some (.slice ka cn kc) := by simp [World.cell?, y3]
    have b5 : wr.cell? ⟨w.heap.size, 5, none⟩ = some (.slice ca cn cc) := by simp [World.cell?, y3]
    have f0 : wr.cell? ⟨w.heap.size + 1, 0, none⟩ = some (.int .i64 kind') := by simp [World.cell?, y5]
    have f1 : wr.cell? ⟨w.heap.size + 1, 1, none⟩ = some (.string text') := by simp [World.cell?, y5]
    have f2 : wr.cell? ⟨w.heap.size + 1, 2, none⟩ = some (.float .f64 num') := by simp [World.cell?, y5]
    have f3 : wr.cell? ⟨w.heap.size + 1, 3, none⟩ = some (.bool yes') := by simp [World.cell?, y5]
    have f4 : wr.cell? ⟨w.heap.size + 1, 4, none⟩ = some (.slice ka' kn' kc') := by simp [World.cell?, y5]
    have f5 : wr.cell? ⟨w.heap.size + 1, 5, none⟩ = some (.slice ca' cn' cc') := by simp [World.cell?, y5]
    clear y3
    have Hy5 := Lib.hid y5; clear y5
    obtain ⟨b0, b1, b2, b3, c4, c5, bf, bl⟩ := hm.box.cells
    clear b0 b1 b2 b3
    have hkeys := hm.keys
    obtain ⟨vs0, hvl0, hkids0, hkr0⟩ := hm.kids
    clear hkr0
    obtain ⟨ka2, kn2, kc2, rfl⟩ : ∃ a n c, kv = .slice a n c := by
      rcases hkeys.2 with ⟨e, _⟩ | ⟨g, cap, cur, e, _⟩
      · exact ⟨_, _, _, e⟩
      · exact ⟨_, _, _, e⟩
    obtain ⟨ca2, cn2, cc2, rfl⟩ : ∃ a n c, cv = .slice a n c := by
      rcases hkids0.2 with ⟨e, _⟩ | ⟨g, cap, cur, e, _⟩
      · exact ⟨_, _, _, e⟩
      · exact ⟨_, _, _, e⟩
    have Hm := Lib.hid hm; clear hm
    by_cases hlt : k < cn
    · have hlt' : k < t.kids.length := by rw [HN.out]; exact hlt
      have hltk : k < t.keys.length := by rw [Hkl.out]; exact hlt'
      obtain ⟨bk, ok, hka, hSk, hlbk, ck⟩ := Hv0.out.key (k := k) hltk
      simp only at hka
      subst hka
      obtain ⟨bc, oc, v', hca, hSc, hlbc, hct, hrv⟩ := Hv0.out.kid (k := k) hlt'
      simp only at hca
      subst hca
      obtain ⟨kd, tx, nm, ys, ka3, kn3, kc3, ca3, cn3, cc3⟩ := v'
      have hbcS := HS.out bc hSc
      have Hct := Lib.hid hct; clear hct
      have Hrv := Lib.hid hrv; clear hrv
      have HSS := Lib.hid (And.intro hSk hSc); clear hSk hSc
      have ck' := (hmb.cell (p := ⟨bk, ok + k, none⟩) (by simp; omega)).trans ck
      have hdrop : Hid ((t.keys.zip t.kids).drop k = (t.keys[k], t.kids[k]) :: (t.keys.zip t.kids).drop (k + 1)) := Lib.hid (by
        rw [List.drop_eq_getElem_cons (by simp; omega)]; simp)
      have Hck := Lib.hid ck; clear ck
      have hi1 : (0 : Int) ≤ (k : Int) := by omega
      have hi2 : (k : Int) < (cn : Int) := by omega
      have Hmb := Lib.hid hmb; clear hmb
      -- the first part: is the tree put in here?
      have hhs : ∃ l, l = strLt t.keys[k] key := ⟨_, rfl⟩
      obtain ⟨l, hl'⟩ := hhs
      have hs' : Op.bytesLess t.keys[k].toList key.toList = l := hl'.symm
      have Hl := Lib.hid hl'; clear hl'
      generalize hkk : t.keys[k] = kk at *
      have Hkk := Lib.hid hkk; clear hkk
      generalize hkt : t.kids[k] = kt at *
      have Hkt := Lib.hid hkt; clear hkt
      go_upto_region 6 with fail
      go_cut [28] from 18 to 27 (fun c wx => c = .bool (!done && !l) ∧ wr = wx)
      case first =>
        cases done <;> cases l
        all_goals (
          go_wp2_with fail
          go_meet
          case rel => exact ⟨rfl, rfl⟩)
      case rest =>
      obtain ⟨rfl, rfl⟩ := hcut
      go_upto_if 28 with fail
      go_cut [8] from 29 to 40 (fun dn wm => ∃ kv cv, dn = .bool (done || !l) ∧ MapS w0 S (w.heap.size + 3) wm ((acc ++ (if !done && !l then [(key, kid)] else [])).map (·.1)) ((acc ++ (if !done && !l then [(key, kid)] else [])).map (·.2)) kv cv)
      case first =>
        cases done
        · cases l
          · go_upto_region 7 with fail
            go_cut [] from 29 to 34 (fun wm => ∃ kv, MapS w0 S (w.heap.size + 3) wm (ks ++ [key]) ts kv (.slice ca2 cn2 cc2))
            case first =>
              go_wp2_with (at_builtin; refine wpList_append_lies _ rfl _ _ _ rfl (w.heap.size + 3 + 1) 9 j0 _ 1 16 Tryz.underlying29 ji jz0 jz1 jz2 rfl (by omega) (.slice ka2 kn2 kc2) ks.length _ rfl (hkeys.alloc _) ⟨wr.heap.size, 0, none⟩ 1 1 [.string key] rfl rfl (World.news_of_block (cs := #[.string key]) (t := 9) (fr := (0, 0)) (heap_alloc_new wr _)) (by simp [Value.oneCell']) (by omega) (by unfold maxLen; omega) (by omega) (by simp; omega) (wr.heap.size + 1) (by simp) ?_; intro g cap w1 hown1 hgrow hat hlt1; obtain ⟨_, _, _, _, _, x5, xf, xl⟩ := (Box6.grown (Hm.out.box.alloc) hgrow (hkeys.alloc _).lt (by omega)).cells)
              go_meet
              case rel => exact ⟨_, Hm.out.addKey ((Below.refl _ _).alloc (Nat.le_refl _) _) (by simp) hown1 hgrow hat⟩
            case rest =>
            obtain ⟨kv1, hm1⟩ := hcut
            clear b4 b5 f0 f1 f2 f3 f4 f5 c4 c5 bf bl hkids0 hvl0 vs0 hkeys hms ck'
            have y6 := ((hm1.bel.block (w.heap.size + 1) (by omega)).trans Hx5.out : wc.heap[w.heap.size + 1]? = _)
            obtain ⟨f0, f1, f2, f3, f4, f5, _, _⟩ := Box6.cells (w := wc) (b := w.heap.size + 1) y6
            obtain ⟨b0, b1, b2, b3, c4, c5, bf, bl⟩ := hm1.box.cells
            clear b0 b1 b2 b3 y6
            have hms := hm1.size
            obtain ⟨vs0, hvl0, hkids, _⟩ := hm1.kids
            have Hm1 := Lib.hid hm1; clear hm1
            go_upto_region 8 with fail
            go_cut [] from 35 to 40 (fun wm => ∃ cv, MapS w0 S (w.heap.size + 3) wm (ks ++ [key]) (ts ++ [kid]) kv1 cv)
            case first =>
              go_wp2_with (at_builtin; refine wpList_append_lies _ rfl _ _ _ rfl (w.heap.size + 3 + 1) 31 i0 _ 6 88 Tryz.underlying22 hi hz0 hz1 hz2 rfl (by omega) (.slice ca2 cn2 cc2) ts.length _ rfl (hkids.alloc _) ⟨wc.heap.size, 0, none⟩ 1 1 [.int .i64 kind', .string text', .float .f64 num', .bool yes', .slice ka' kn' kc', .slice ca' cn' cc'] rfl rfl (World.news_of_block (cs := #[.int .i64 kind', .string text', .float .f64 num', .bool yes', .slice ka' kn' kc', .slice ca' cn' cc']) (t := 31) (fr := (0, 0)) (heap_alloc_new wc _)) (by simp [Value.oneCell']) (by omega) (by unfold maxLen; omega) (by omega) (by simp; omega) (wc.heap.size + 1) (by simp) ?_; intro g cap w1 hown1 hgrow hat hlt1; obtain ⟨_, _, _, _, z4, z5, zf, zl⟩ := (Box6.grown (Hm1.out.box.alloc) hgrow (hkids.alloc _).lt (by omega)).cells)
              go_meet
              case rel => exact ⟨_, Hm1.out.addKid (v := ⟨kind', text', num', yes', ka', kn', kc', ca', cn', cc'⟩) (t := kid) rfl ((Below.refl _ _).alloc (Nat.le_refl _) _) (by simp) Hu0.out (fun vs' h1 h2 => by rw [own_uniq h2 hkids]; exact hown1) hgrow hat⟩
            case rest =>
            obtain ⟨cv1, hm2⟩ := hcut
            go_wp2_with fail
            go_meet
            case rel =>
              refine ⟨kv1, cv1, rfl, ?_⟩
              rw [show (acc ++ (if !false && !false then [(key, kid)] else [])).map (·.1) = ks ++ [key] by rw [Hks.out]; simp, show (acc ++ (if !false && !false then [(key, kid)] else [])).map (·.2) = ts ++ [kid] by rw [Hts.out]; simp]
              exact hm2
          · go_wp2_with fail
            go_meet
            case rel => exact ⟨_, _, rfl, by
              rw [show (acc ++ (if !false && !true then [(key, kid)] else [])).map (·.1) = ks by rw [Hks.out]; simp, show (acc ++ (if !false && !true then [(key, kid)] else [])).map (·.2) = ts by rw [Hts.out]; simp]
              exact Hm.out⟩
        · simp only [Bool.not_true, Bool.false_and]
          go_wp2_with fail
          go_meet
          case rel => exact ⟨_, _, rfl, by
            rw [show (acc ++ (if !true && !l then [(key, kid)] else [])).map (·.1) = ks by rw [Hks.out]; simp, show (acc ++ (if !true && !l then [(key, kid)] else [])).map (·.2) = ts by rw [Hts.out]; simp]
            exact Hm.out⟩
      case rest =>
      obtain ⟨kv1, cv1, rfl, hm1⟩ := hcut
      obtain ⟨acc1, hacc1⟩ : ∃ a, a = acc ++ (if !done && !l then [(key, kid)] else []) := ⟨_, rfl⟩
      rw [← hacc1] at hm1
      have hlen1 : acc1.length ≤ 2 * k + 1 := by rw [hacc1]; split <;> simp <;> omega
      have Hacc1 := Lib.hid hacc1; clear hacc1
      clear b4 b5 f0 f1 f2 f3 f4 f5 c4 c5 bf bl hkids0 hvl0 vs0 hkeys hms ck' hkb htb Hks Hts ks ts Hm ka2 kn2 kc2 ca2 cn2 cc2 Hmb Hy5 hs'
      obtain ⟨ks, hks⟩ : ∃ ks, ks = acc1.map (·.1) := ⟨_, rfl⟩
      obtain ⟨ts, hts⟩ : ∃ ts, ts = acc1.map (·.2) := ⟨_, rfl⟩
      rw [← hks, ← hts] at hm1
      have hkb : ks.length ≤ 2 * k + 1 := by rw [hks]; simpa using hlen1
      have htb : ts.length ≤ 2 * k + 1 := by rw [hts]; simpa using hlen1
      have Hks := Lib.hid hks; clear hks
      have Hts := Lib.hid hts; clear hts
      have hmb := hm1.bel
      have y3 := (hmb.block w.heap.size (by omega)).trans Hx3.out
      have b4 : wc.cell? ⟨w.heap.size, 4, none⟩ = some (.slice (some ⟨bk, ok, none⟩) cn kc) := by simp [World.cell?, y3]
      have b5 : wc.cell? ⟨w.heap.size, 5, none⟩ = some (.slice (some ⟨bc, oc, none⟩) cn cc) := by simp [World.cell?, y3]
      clear y3
      have ck' := (hmb.cell (p := ⟨bk, ok + k, none⟩) (by simp; omega)).trans Hck.out
      have hct1 := Hct.out.keep (w' := wc) (fun o => hmb.cell (p := ⟨bc, o, none⟩) (by simp; omega))
      obtain ⟨d0, d1, d2, d3, d4, d5⟩ := hct1
      obtain ⟨b0, b1, b2, b3, c4, c5, bf, bl⟩ := hm1.box.cells
      clear b0 b1 b2 b3
      have hms := hm1.size
      have hkeys := hm1.keys
      obtain ⟨vs0, hvl0, hkids0, hkr0⟩ := hm1.kids
      clear hkr0
      obtain ⟨ka2, kn2, kc2, rfl⟩ : ∃ a n c, kv1 = .slice a n c := by
        rcases hkeys.2 with ⟨e, _⟩ | ⟨g, cap, cur, e, _⟩
        · exact ⟨_, _, _, e⟩
        · exact ⟨_, _, _, e⟩
      obtain ⟨ca2, cn2, cc2, rfl⟩ : ∃ a n c, cv1 = .slice a n c := by
        rcases hkids0.2 with ⟨e, _⟩ | ⟨g, cap, cur, e, _⟩
        · exact ⟨_, _, _, e⟩
        · exact ⟨_, _, _, e⟩
      have Hm := Lib.hid hm1; clear hm1
      have Hmb := Lib.hid hmb; clear hmb
      have hend : Hid (withE key kid false (t.keys.zip t.kids) = acc1 ++ ((if kk = key then [] else [(kk, kt)]) ++ withE key kid (done || !l) ((t.keys.zip t.kids).drop (k + 1)))) := Lib.hid (by
        rw [Heq.out, hdrop.out, withE, Hacc1.out, Hl.out]
        simp only [List.append_assoc])
      go_upto_if 47 with fail
      by_cases hke : kk = key
      · have he1 : (kk.toList == key.toList) = true := by rw [hke]; simp
        have Hke := Lib.hid hke; clear hke
        simp only [he1, Bool.not_true]
        go_wp2_with fail
        go_roundw
        case rel =>
          refine ⟨k + 1, _, _, _, acc1, by omega, by simp, rfl, ⟨by rw [← Hks.out, ← Hts.out]; exact Hm.out, ?_, by omega⟩⟩
          rw [hend.out, if_pos Hke.out]; rfl
        case measure => simp [intOf]; omega
      · have he1 : (kk.toList == key.toList) = false := by
          exact bs_ne hke
        have Hke := Lib.hid hke; clear hke
        simp only [he1, Bool.not_false]
        go_upto_region 11 with fail
        go_cut [] from 48 to 57 (fun wm => ∃ kv, MapS w0 S (w.heap.size + 3) wm (ks ++ [kk]) ts kv (.slice ca2 cn2 cc2))
        case first =>
          go_region_law (refine step_append_lies _ (by rfl) _ _ _ (by rfl) (w.heap.size + 3 + 1) 9 j0 _ 1 16 Tryz.underlying29 ji jz0 jz1 jz2 rfl (by omega) (.slice ka2 kn2 kc2) ks.length _ (by rfl) ((hkeys.alloc _).drew) ⟨wc.heap.size, 0, none⟩ 1 1 [.string kk] (by rfl) (by rfl) (World.news_of_block (cs := #[.string kk]) (t := 9) (fr := (0, 0)) (heap_alloc_new wc _)) (by simp [Value.oneCell']) (by omega) (by unfold maxLen; omega) (by omega) (by simp; omega) (wc.heap.size + 1) (by simp) ?_; intro g cap w1 hown1 hgrow hat hlt1; replace hgrow : (wc.alloc (.cells #[.string kk] 9)).grownBy w1 (Value.ownBlock (.slice ka2 kn2 kc2)) := ⟨hgrow.os, hgrow.tape, hgrow.output, hgrow.size, hgrow.block⟩; obtain ⟨_, _, _, _, _, x5, xf, xl⟩ := (Box6.grown (Hm.out.box.alloc) hgrow (hkeys.alloc _).lt (by omega)).cells)
          all_goals (
            go_wp2_with fail
            go_meet
            case rel => exact ⟨_, Hm.out.addKey ((Below.refl _ _).alloc (Nat.le_refl _) _) (by simp) hown1 hgrow hat⟩)
        case rest =>
        obtain ⟨kv2, hm1⟩ := hcut
        clear b4 b5 d0 d1 d2 d3 d4 d5 c4 c5 bf bl hkids0 hvl0 vs0 hkeys hms ck' hkb
        have hmb := hm1.bel
        have y3 := (hmb.block w.heap.size (by omega)).trans Hx3.out
        have b5 : wc.cell? ⟨w.heap.size, 5, none⟩ = some (.slice (some ⟨bc, oc, none⟩) cn cc) := by simp [World.cell?, y3]
        clear y3
        have hct1 := Hct.out.keep (w' := wc) (fun o => hmb.cell (p := ⟨bc, o, none⟩) (by simp; omega))
        obtain ⟨d0, d1, d2, d3, d4, d5⟩ := hct1
        obtain ⟨b0, b1, b2, b3, c4, c5, bf, bl⟩ := hm1.box.cells
        clear b0 b1 b2 b3
        have hms := hm1.size
        obtain ⟨vs0, hvl0, hkids, hkr0⟩ := hm1.kids
        clear hkr0
        have Hm1 := Lib.hid hm1; clear hm1
        clear hmb
        go_wp2_with fail
        go_region_law (refine step_append_lies _ (by rfl) _ _ _ (by rfl) (w.heap.size + 3 + 1) 31 i0 _ 6 88 Tryz.underlying22 hi hz0 hz1 hz2 rfl (by omega) (.slice ca2 cn2 cc2) ts.length _ (by rfl) ((hkids.alloc _).drew) ⟨wc.heap.size, 0, none⟩ 1 1 [.int .i64 kd, .string tx, .float .f64 nm, .bool ys, .slice ka3 kn3 kc3, .slice ca3 cn3 cc3] (by rfl) (by rfl) (World.news_of_block (cs := #[.int .i64 kd, .string tx, .float .f64 nm, .bool ys, .slice ka3 kn3 kc3, .slice ca3 cn3 cc3]) (t := 31) (fr := (0, 0)) (heap_alloc_new wc _)) (by simp [Value.oneCell']) (by omega) (by unfold maxLen; omega) (by omega) (by simp; omega) (wc.heap.size + 1) (by simp) ?_; intro g cap w1 hown1 hgrow hat hlt1; replace hgrow : (wc.alloc (.cells #[.int .i64 kd, .string tx, .float .f64 nm, .bool ys, .slice ka3 kn3 kc3, .slice ca3 cn3 cc3] 31)).grownBy w1 (Value.ownBlock (.slice ca2 cn2 cc2)) := ⟨hgrow.os, hgrow.tape, hgrow.output, hgrow.size, hgrow.block⟩; obtain ⟨_, _, _, _, x4, x5, xf, xl⟩ := (Box6.grown (Hm1.out.box.alloc) hgrow (hkids.alloc _).lt (by omega)).cells)
        all_goals (
          have Hgrow := Lib.hid hgrow; clear hgrow
          go_wp2_with fail
          go_roundw
          case rel =>
            have hm2 := Hm1.out.addKid (v := ⟨kd, tx, nm, ys, ka3, kn3, kc3, ca3, cn3, cc3⟩) (t := kt) rfl ((Below.refl _ _).alloc (Nat.le_refl _) _) (by simp) Hrv.out (fun vs' h1 h2 => by rw [own_uniq h2 hkids]; exact hown1) Hgrow.out hat
            refine ⟨k + 1, _, kv2, .slice (some ⟨g, 0, none⟩) (ts.length + 1) cap, acc1 ++ [(kk, kt)], by omega, by simp, rfl, ⟨?_, ?_, by simp; omega⟩⟩
            · rw [show (acc1 ++ [(kk, kt)]).map (·.1) = ks ++ [kk] by rw [Hks.out]; simp, show (acc1 ++ [(kk, kt)]).map (·.2) = ts ++ [kt] by rw [Hts.out]; simp]
              exact hm2
            · rw [hend.out, if_neg Hke.out]; simp
          case measure => simp [intOf]; omega)
    · obtain rfl : k = cn := by omega
      have hkl0 : (t.keys.zip t.kids).drop k = [] := by
        apply List.drop_eq_nil_of_le
        have := Hkl.out; have := HN.out
        simp; omega
      have Hkl0 := Lib.hid hkl0; clear hkl0
      have Hmb := Lib.hid hmb; clear hmb
      go_upto_if 69 with fail
      go_cut [] from 70 to 81 (fun wm => ∃ kv cv, MapS w0 S (w.heap.size + 3) wm ((acc ++ (if done then [] else [(key, kid)])).map (·.1)) ((acc ++ (if done then [] else [(key, kid)])).map (·.2)) kv cv)
      case first =>
        cases done
        · go_upto_region 14 with fail
          go_cut [] from 70 to 75 (fun wm => ∃ kv, MapS w0 S (w.heap.size + 3) wm (ks ++ [key]) ts kv (.slice ca2 cn2 cc2))
          case first =>
            go_wp2_with (at_builtin; refine wpList_append_lies _ rfl _ _ _ rfl (w.heap.size + 3 + 1) 9 j0 _ 1 16 Tryz.underlying29 ji jz0 jz1 jz2 rfl (by omega) (.slice ka2 kn2 kc2) ks.length _ rfl (hkeys.alloc _) ⟨wr.heap.size, 0, none⟩ 1 1 [.string key] rfl rfl (World.news_of_block (cs := #[.string key]) (t := 9) (fr := (0, 0)) (heap_alloc_new wr _)) (by simp [Value.oneCell']) (by omega) (by unfold maxLen; omega) (by omega) (by simp; omega) (wr.heap.size + 1) (by simp) ?_; intro g cap w1 hown1 hgrow hat hlt1; obtain ⟨_, _, _, _, _, x5, xf, xl⟩ := (Box6.grown (Hm.out.box.alloc) hgrow (hkeys.alloc _).lt (by omega)).cells)
            go_meet
            case rel => exact ⟨_, Hm.out.addKey ((Below.refl _ _).alloc (Nat.le_refl _) _) (by simp) hown1 hgrow hat⟩
          case rest =>
          obtain ⟨kv1, hm1⟩ := hcut
          clear b4 b5 f0 f1 f2 f3 f4 f5 c4 c5 bf bl hkids0 hvl0 vs0 hkeys hms
          have y6 := ((hm1.bel.block (w.heap.size + 1) (by omega)).trans Hx5.out : wc.heap[w.heap.size + 1]? = _)
          obtain ⟨f0, f1, f2, f3, f4, f5, _, _⟩ := Box6.cells (w := wc) (b := w.heap.size + 1) y6
          obtain ⟨b0, b1, b2, b3, c4, c5, bf, bl⟩ := hm1.box.cells
          clear b0 b1 b2 b3 y6
          have hms := hm1.size
          obtain ⟨vs0, hvl0, hkids, hkr0⟩ := hm1.kids
          clear hkr0
          have Hm1 := Lib.hid hm1; clear hm1
          go_wp2_with (at_builtin; refine wpList_append_lies _ rfl _ _ _ rfl (w.heap.size + 3 + 1) 31 i0 _ 6 88 Tryz.underlying22 hi hz0 hz1 hz2 rfl (by omega) (.slice ca2 cn2 cc2) ts.length _ rfl (hkids.alloc _) ⟨wc.heap.size, 0, none⟩ 1 1 [.int .i64 kind', .string text', .float .f64 num', .bool yes', .slice ka' kn' kc', .slice ca' cn' cc'] rfl rfl (World.news_of_block (cs := #[.int .i64 kind', .string text', .float .f64 num', .bool yes', .slice ka' kn' kc', .slice ca' cn' cc']) (t := 31) (fr := (0, 0)) (heap_alloc_new wc _)) (by simp [Value.oneCell']) (by omega) (by unfold maxLen; omega) (by omega) (by simp; omega) (wc.heap.size + 1) (by simp) ?_; intro g cap w1 hown1 hgrow hat hlt1; obtain ⟨_, _, _, _, z4, z5, zf, zl⟩ := (Box6.grown (Hm1.out.box.alloc) hgrow (hkids.alloc _).lt (by omega)).cells)
          go_meet
          case rel =>
            refine ⟨kv1, .slice (some ⟨g, 0, none⟩) (ts.length + 1) cap, ?_⟩
            rw [show (acc ++ (if false = true then [] else [(key, kid)])).map (·.1) = ks ++ [key] by rw [Hks.out]; simp, show (acc ++ (if false = true then [] else [(key, kid)])).map (·.2) = ts ++ [kid] by rw [Hts.out]; simp]
            exact Hm1.out.addKid (v := ⟨kind', text', num', yes', ka', kn', kc', ca', cn', cc'⟩) (t := kid) rfl ((Below.refl _ _).alloc (Nat.le_refl _) _) (by simp) Hu0.out (fun vs' h1 h2 => by rw [own_uniq h2 hkids]; exact hown1) hgrow hat
        · go_wp2_with fail
          go_meet
          case rel =>
            refine ⟨.slice ka2 kn2 kc2, .slice ca2 cn2 cc2, ?_⟩
            simp only [if_true, List.append_nil]
            rw [← Hks.out, ← Hts.out]
            exact Hm.out
      case rest =>
      obtain ⟨kv1, cv1, hm1⟩ := hcut
      clear b4 b5 f0 f1 f2 f3 f4 f5 c4 c5 bf bl hkids0 hvl0 vs0 hkeys hms
      obtain ⟨ka4, kn4, kc4, rfl⟩ : ∃ a n c, kv1 = .slice a n c := by
        rcases hm1.keys.2 with ⟨e, _⟩ | ⟨g, cap, cur, e, _⟩
        · exact ⟨_, _, _, e⟩
        · exact ⟨_, _, _, e⟩
      obtain ⟨ca4, cn4, cc4, rfl⟩ : ∃ a n c, cv1 = .slice a n c := by
        obtain ⟨vs9, _, hk9, _⟩ := hm1.kids
        rcases hk9.2 with ⟨e, _⟩ | ⟨g, cap, cur, e, _⟩
        · exact ⟨_, _, _, e⟩
        · exact ⟨_, _, _, e⟩
      have hz6 : Zero6 wc (w.heap.size + 2) := (hm1.bel.block (w.heap.size + 2) (by omega)).trans Hx6.out
      obtain ⟨b0, b1, b2, b3, b4, b5, bf, bl⟩ := hm1.box.cells
      obtain ⟨z0, z1, z2, z3, z4, z5, zf, zl⟩ := hz6.cells
      have Hm1 := Lib.hid hm1; clear hm1
      go_wp2_with fail
      obtain ⟨p0, p1, p2, p3, p4, p5, _, _⟩ := (hz6.put6 (.int .i64 5) (.string ⟨#[]⟩) (.float .f64 0) (.bool false) (.slice ka4 kn4 kc4) (.slice ca4 cn4 cc4)).cells
      refine bodyPost_ret (v := .agg #[.int .i64 5, .string ⟨#[]⟩, .float .f64 0, .bool false, .slice ka4 kn4 kc4, .slice ca4 cn4 cc4]) (by simp [results, Tryz.results45, go_sem, p0, p1, p2, p3, p4, p5]) rfl ?_
      have hbel : Below w.heap.size w wc := Hb0.out.trans (Hm1.out.bel.mono (by omega))
      refine ⟨⟨5, ⟨#[]⟩, 0, false, ka4, kn4, kc4, ca4, cn4, cc4⟩, rfl, ?_, Below.put6 hbel (by omega) _ _ _ _ _ _⟩
      have hE : withE key kid false (t.keys.zip t.kids) = acc ++ (if done then [] else [(key, kid)]) := by
        rw [Heq.out, Hkl0.out]; rfl
      have hl9 : (acc ++ (if done then [] else [(key, kid)])).length ≤ 2 * k + 1 := by split <;> simp <;> omega
      rw [hE]
      have hrep := Hm1.out.rep (fun b hb => by have := HS.out b hb; omega) (by rw [List.length_map]; omega) (by rw [List.length_map]; omega) (w.heap.size + 3) (by omega)
      refine (hrep.keep (w' := _) ?_).mono (fun b _ hb => ?_)
      · intro b hb hlt9
        have hne : b ≠ w.heap.size + 2 := by
          rcases hb with hb | hb
          · have := HS.out b hb; omega
          · omega
        exact (grownBy_put6 wc (w.heap.size + 2) _ _ _ _ _ _).block b hlt9 (by intro e; injection e with e; exact hne e)
      · rcases hb with hb | hb
        · exact .inl hb
        · exact .inr (by omega)
end Go.Proofs.YtbcnhcpgloncdaaGreatDoor
/- Slices that a call makes element by element: what they hold, and how they stay. -/
namespace Go.Proofs.YtbcnhcpgloncdaaGreatDoor
open Go Go.RowKit

/-- How an element stands for data in a world: it stays where its blocks stay. -/
structure RepLaw {α β : Type} (R : World → (Nat → Prop) → α → β → Prop) : Prop where
  keep : ∀ {w w' : World} {S : Nat → Prop} {v : α} {t : β}, R w S v t → Keeps S w w' → R w' S v t
  mono : ∀ {w : World} {S S' : Nat → Prop} {v : α} {t : β}, R w S v t → (∀ b, b < w.heap.size → S b → S' b) → R w S' v t

theorem RepLaw.rekeep {α β : Type} {R : World → (Nat → Prop) → α → β → Prop} (hR : RepLaw R) {w w' : World} {S S' : Nat → Prop} {v : α} {t : β} (h : R w S v t) (hk : ∀ b, b < w.heap.size → S b → w'.heap[b]? = w.heap[b]? ∧ S' b) : R w' S' v t := by
  have h1 := hR.mono (S' := fun b => b < w.heap.size ∧ S b) h (fun b hb hs => ⟨hb, hs⟩)
  have h2 := hR.keep (w' := w') h1 (fun b hb hlt => (hk b hlt hb.2).1)
  exact hR.mono h2 (fun b _ hb => (hk b hb.1 hb.2).2)

/-- An owned slice of 'ts'. -/
def OwnL {α β : Type} (R : World → (Nat → Prop) → α → β → Prop) (cells : α → List Value) (e : TypeId) (sz : Nat) (w : World) (S : Nat → Prop) (base : Nat) (kv : Value) (ts : List β) : Prop :=
  ∃ vs : List α, vs.length = ts.length ∧ w.ownsRow base e sz kv ts.length (vs.flatMap cells) ∧ ∀ (i : Nat) (v : α) (t : β), vs[i]? = some v → ts[i]? = some t → R w (fun b => S b ∧ kv.ownBlock ≠ some b) v t

section
variable {α β : Type} {R : World → (Nat → Prop) → α → β → Prop} {cells : α → List Value} {e : TypeId} {sz : Nat} {w : World} {S : Nat → Prop} {base : Nat} {kv : Value} {ts : List β}

theorem OwnL.nil (w : World) (S : Nat → Prop) (base : Nat) : OwnL R cells e sz w S base (.slice none 0 0) [] :=
  ⟨[], rfl, ⟨by simp, .inl ⟨rfl, rfl⟩⟩, fun i v t h => by simp at h⟩
theorem OwnL.made {cap : Nat} {g : Nat} (h : w.ownsRow base e sz (.slice (some ⟨g, 0, none⟩) 0 cap) 0 []) : OwnL R cells e sz w S base (.slice (some ⟨g, 0, none⟩) 0 cap) [] :=
  ⟨[], rfl, by simpa using h, fun i v t h => by simp at h⟩
theorem OwnL.form (h : OwnL R cells e sz w S base kv ts) : ∃ a c, kv = .slice a ts.length c := by
  obtain ⟨vs, h1, h2, h3⟩ := h
  rcases h2.2 with ⟨e1, h0⟩ | ⟨g, cap, cur, e1, _⟩
  · exact ⟨none, 0, by rw [e1, h0]⟩
  · exact ⟨_, _, e1⟩
theorem OwnL.lt (h : OwnL R cells e sz w S base kv ts) : ∀ k, kv.ownBlock = some k → base ≤ k ∧ k < w.heap.size := by
  obtain ⟨vs, h1, h2, h3⟩ := h
  exact h2.lt
theorem OwnL.kept {w' : World} {row : Option Nat} (hR : RepLaw R) (h : OwnL R cells e sz w S base kv ts) (hg : w.grownBy w' row) (h1 : kv.ownBlock = none ∨ kv.ownBlock ≠ row) (h2 : ∀ k, row = some k → ¬ S k) : OwnL R cells e sz w' S base kv ts := by
  obtain ⟨vs, hvl, hown, hreps⟩ := h
  refine ⟨vs, hvl, hown.kept hg h1, fun i v t hv ht => hR.keep (hreps i v t hv ht) (fun b hb hlt => hg.block b hlt (fun e => h2 b e.symm hb.1))⟩
theorem OwnL.below {w' : World} (hR : RepLaw R) (h : OwnL R cells e sz w S base kv ts) (hb : Below w.heap.size w w') : OwnL R cells e sz w' S base kv ts :=
  h.kept hR (Below.grow hb) (by cases e : kv.ownBlock <;> simp) (fun k hk => by cases hk)
theorem OwnL.setCell (hR : RepLaw R) (h : OwnL R cells e sz w S base kv ts) (a : Addr) (u : Value) (h1 : kv.ownBlock ≠ some a.block) (h2 : ¬ S a.block) : OwnL R cells e sz (w.setCell a u) S base kv ts :=
  h.kept hR (grownBy_setCell w a u) (.inr h1) (fun k hk => by cases hk; exact h2)
theorem OwnL.mono {S' : Nat → Prop} {base' : Nat} (hR : RepLaw R) (h : OwnL R cells e sz w S base kv ts) (hS : ∀ b, b < w.heap.size → S b → S' b) (hb : base' ≤ base) : OwnL R cells e sz w S' base' kv ts := by
  obtain ⟨vs, hvl, hown, hreps⟩ := h
  refine ⟨vs, hvl, ⟨hown.1, ?_⟩, fun i v t hv ht => hR.mono (hreps i v t hv ht) (fun b hlt hb => ⟨hS b hlt hb.1, hb.2⟩)⟩
  rcases hown.2 with h0 | ⟨g, cap, cur, e1, h1, hr⟩
  · exact .inl h0
  · exact .inr ⟨g, cap, cur, e1, by omega, hr⟩

/-- Behind an append of 'nts', at a world wx at which all lie. -/
theorem OwnL.more {wx w1 : World} {vs us : List α} {nts : List β} {g cap H N : Nat} {xs : List Value} (hR : RepLaw R) (hvl : vs.length = ts.length)
    (hreps : ∀ (i : Nat) (v : α) (t : β), vs[i]? = some v → ts[i]? = some t → R wx (fun b => S b ∧ kv.ownBlock ≠ some b) v t) (hul : us.length = nts.length)
    (hnew : ∀ (i : Nat) (v : α) (t : β), us[i]? = some v → nts[i]? = some t → R wx (fun b => S b ∧ kv.ownBlock ≠ some b) v t)
    (hown : w1.ownsRow base e sz (.slice (some ⟨g, 0, none⟩) N cap) N xs) (hg : wx.grownBy w1 kv.ownBlock) (hat : kv.ownBlock = some g ∨ g = H) (hH : wx.heap.size ≤ H) (hN : N = ts.length + nts.length) (hxs : xs = vs.flatMap cells ++ us.flatMap cells) :
    OwnL R cells e sz w1 S base (.slice (some ⟨g, 0, none⟩) N cap) (ts ++ nts) := by
  subst hN hxs
  have hre : ∀ {v : α} {t : β}, R wx (fun b => S b ∧ kv.ownBlock ≠ some b) v t → R w1 (fun b => S b ∧ (Value.slice (some ⟨g, 0, none⟩) (ts.length + nts.length) cap).ownBlock ≠ some b) v t := by
    intro v t h
    refine hR.rekeep h (fun b hlt hb => ⟨hg.block b hlt (fun e => hb.2 e.symm), hb.1, fun e => ?_⟩)
    have e' : g = b := by simpa [Value.ownBlock] using e
    rcases hat with h1 | h1
    · exact hb.2 (by rw [h1, e'])
    · omega
  refine ⟨vs ++ us, by simp [hvl, hul], by simpa using hown, fun i v t hv ht => ?_⟩
  by_cases hi : i < vs.length
  · rw [List.getElem?_append_left hi] at hv
    rw [List.getElem?_append_left (by omega)] at ht
    exact hre (hreps i v t hv ht)
  · rw [List.getElem?_append_right (by omega)] at hv
    rw [List.getElem?_append_right (by omega)] at ht
    rw [hvl] at hv
    exact hre (hnew _ v t hv ht)
theorem OwnL.one {wx w1 : World} {vs : List α} {u : α} {nt : β} {g cap H N : Nat} {xs : List Value} (hR : RepLaw R) (hvl : vs.length = ts.length)
    (hreps : ∀ (i : Nat) (v : α) (t : β), vs[i]? = some v → ts[i]? = some t → R wx (fun b => S b ∧ kv.ownBlock ≠ some b) v t)
    (hnew : R wx (fun b => S b ∧ kv.ownBlock ≠ some b) u nt)
    (hown : w1.ownsRow base e sz (.slice (some ⟨g, 0, none⟩) N cap) N xs) (hg : wx.grownBy w1 kv.ownBlock) (hat : kv.ownBlock = some g ∨ g = H) (hH : wx.heap.size ≤ H) (hN : N = ts.length + 1) (hxs : xs = vs.flatMap cells ++ cells u) :
    OwnL R cells e sz w1 S base (.slice (some ⟨g, 0, none⟩) N cap) (ts ++ [nt]) :=
  OwnL.more (us := [u]) hR hvl hreps rfl (fun i v t hv ht => by
    have hi : i = 0 := by have := (List.getElem?_eq_some_iff.1 hv).1; simpa using this
    subst hi
    simp at hv ht
    subst hv ht
    exact hnew) hown hg hat hH hN (by simpa using hxs)

/-- What its cells are. -/
theorem OwnL.slice (h : OwnL R cells e sz w S base kv ts) (hc : ∀ x, (cells x).length = sz) {S' : Nat → Prop} (hS : ∀ b, base ≤ b → S' b) (d : α) : ∃ (a : Option Addr) (c : Nat) (vs : Nat → α), kv = .slice a ts.length c ∧ SliceAt w S' a sz ts.length (fun i => cells (vs i)) ∧
    ∀ (i : Nat) (t : β), ts[i]? = some t → R w (fun b => S b ∧ kv.ownBlock ≠ some b) (vs i) t := by
  obtain ⟨vs, hvl, hown, hreps⟩ := h
  have hrep : ∀ (i : Nat) (t : β), ts[i]? = some t → R w (fun b => S b ∧ kv.ownBlock ≠ some b) (vs.getD i d) t := by
    intro i t ht
    have hi : i < vs.length := by rw [hvl]; exact (List.getElem?_eq_some_iff.1 ht).1
    have := hreps i vs[i] t (by simp) ht
    simpa [hi] using this
  rcases hown.2 with ⟨e1, h0⟩ | ⟨g, cap, cur, e1, hb, _⟩
  · refine ⟨none, 0, fun i => vs.getD i d, by rw [e1, h0], by rw [h0]; exact SliceAt.nil, hrep⟩
  · subst e1
    refine ⟨some ⟨g, 0, none⟩, cap, fun i => vs.getD i d, rfl, fun _ => ⟨g, 0, rfl, hS g hb, row_of_own cells hc vs hvl hown _ ?_⟩, hrep⟩
    intro i hi
    simp [hi]
end

theorem rep_law : RepLaw (fun w S (v : TV) (t : Tr) => RepT w S v t) := ⟨fun h hk => h.keep hk, fun h hS => h.mono hS⟩
theorem any_law : RepLaw AnyAt := ⟨fun h hk => h.keep hk, fun h hS => h.mono hS⟩

/-- A pair of a key and a tree. -/
def PairR (w : World) (S : Nat → Prop) (p : ByteArray × TV) (s : SetM) : Prop := p.1 = s.name ∧ RepT w S p.2 s.val
theorem pair_law : RepLaw PairR := ⟨fun h hk => ⟨h.1, h.2.keep hk⟩, fun h hS => ⟨h.1, h.2.mono hS⟩⟩
abbrev pairCells (p : ByteArray × TV) : List Value := .string p.1 :: p.2.cells

/-- A query that is a tree. -/
def QueryR (w : World) (S : Nat → Prop) (v : Value) (t : Tr) : Prop := ∃ u : TV, v = .iface 59 u.val ∧ RepT w S u t
theorem query_law : RepLaw QueryR := ⟨fun ⟨u, h1, h2⟩ hk => ⟨u, h1, h2.keep hk⟩, fun ⟨u, h1, h2⟩ hS => ⟨u, h1, h2.mono hS⟩⟩

theorem OwnL.sets {e : TypeId} {w : World} {S : Nat → Prop} {base : Nat} {kv : Value} {ps : List SetM} (h : OwnL PairR pairCells e 7 w S base kv ps) : ∃ a c, kv = .slice a ps.length c ∧ SetsAt w (fun _ => True) a ps := by
  obtain ⟨a, c, vs, h1, h2, h3⟩ := h.slice (S' := fun _ => True) (fun x => rfl) (fun _ _ => trivial) (ByteArray.empty, default)
  refine ⟨a, c, h1, fun i => (vs i).2, ?_, fun i s hs => (h3 i s hs).2.mono (fun _ _ _ => trivial)⟩
  intro hn
  obtain ⟨b, o, e1, e2, hr⟩ := h2 hn
  refine ⟨b, o, e1, e2, fun i hi j u hu => hr i hi j u ?_⟩
  have := (h3 i ps[i] (List.getElem?_eq_getElem hi)).1
  rw [← hu]
  simp only [pairCells, this]
  simp [hi]
theorem OwnL.trees {e : TypeId} {w : World} {S : Nat → Prop} {base : Nat} {kv : Value} {ts : List Tr} (h : OwnL (fun w S (v : TV) (t : Tr) => RepT w S v t) TV.cells e 6 w S base kv ts) : ∃ a c, kv = .slice a ts.length c ∧ TreesAt w (fun _ => True) a ts := by
  obtain ⟨a, c, vs, h1, h2, h3⟩ := h.slice (S' := fun _ => True) (fun x => rfl) (fun _ _ => trivial) default
  exact ⟨a, c, h1, vs, h2, fun i t ht => (h3 i t ht).mono (fun _ _ _ => trivial)⟩

/-- A tree comes back. -/
def TreeA (w : World) (t : Tr) (e : Ending) (w' : World) : Prop := ∃ v : TV, e = .returned v.val ∧ RepT w' (fun _ => True) v t ∧ Below w.heap.size w w'
theorem RepT.all {w : World} {S : Nat → Prop} {v : TV} {t : Tr} (h : RepT w S v t) : RepT w (fun _ => True) v t := h.mono (fun _ _ _ => trivial)
theorem RepT.on {w w' : World} {v : TV} {t : Tr} (h : RepT w (fun _ => True) v t) (hb : Below w.heap.size w w') : RepT w' (fun _ => True) v t := h.keep (Keeps.of_below _ hb)
theorem RepT.lts {w : World} {S : Nat → Prop} {v : TV} {t : Tr} (h : RepT w S v t) : RepT w (fun b => b < w.heap.size) v t := h.mono (fun _ hb _ => hb)
end Go.Proofs.YtbcnhcpgloncdaaGreatDoor
/- Pairs whose keys ascend: what a map that is made pair by pair has under each key. -/
namespace Go.Proofs.YtbcnhcpgloncdaaGreatDoor
open Go Go.RowKit Go.Maps Go.Sort

theorem listT_kids (ts : List Tr) : (listT ts).kids = ts := rfl
theorem mapE_keys (es : List (ByteArray × Tr)) : (mapE es).keys = es.map (·.1) := rfl
theorem mapE_kids (es : List (ByteArray × Tr)) : (mapE es).kids = es.map (·.2) := rfl
def Asc (es : List (ByteArray × Tr)) : Prop := es.Pairwise (fun a b => strLt a.1 b.1 = true)
def lookE (es : List (ByteArray × Tr)) (k : ByteArray) : Option Tr := (es.find? (fun p => decide (p.1 = k))).map (·.2)

theorem lookE_nil (k : ByteArray) : lookE [] k = none := rfl
theorem lookE_cons (p : ByteArray × Tr) (es : List (ByteArray × Tr)) (k : ByteArray) : lookE (p :: es) k = if p.1 = k then some p.2 else lookE es k := by
  unfold lookE
  rw [List.find?_cons]
  by_cases h : p.1 = k <;> simp [h]
theorem lookE_none {es : List (ByteArray × Tr)} {k : ByteArray} (h : ∀ p ∈ es, p.1 ≠ k) : lookE es k = none := by
  induction es with
  | nil => rfl
  | cons p es ih => rw [lookE_cons, if_neg (h p (by simp)), ih (fun q hq => h q (by simp [hq]))]
theorem lookE_mem {es : List (ByteArray × Tr)} {k : ByteArray} {t : Tr} (h : lookE es k = some t) : (k, t) ∈ es := by
  induction es with
  | nil => cases h
  | cons p es ih =>
    rw [lookE_cons] at h
    split at h
    · rename_i e
      obtain ⟨a, b⟩ := p
      simp only at e h
      cases h; subst e; simp
    · exact List.mem_cons_of_mem _ (ih h)

theorem strLt_tri (a b : ByteArray) : strLt a b = true ∨ a = b ∨ strLt b a = true := by
  unfold strLt
  rw [bytesLess_eq, bytesLess_eq]
  simp only [decide_eq_true_eq]
  by_cases h1 : a.toList < b.toList
  · exact .inl h1
  by_cases h2 : b.toList < a.toList
  · exact .inr (.inr h2)
  refine .inr (.inl (WideShapes.bytes_inj ?_))
  rw [← ByteArray.toList_eq, ← ByteArray.toList_eq]
  exact List.le_antisymm (List.not_lt.1 h2) (List.not_lt.1 h1)

/-- Two lists whose keys ascend are alike where they say alike under each key. -/
theorem asc_rel {R : Tr → Tr → Prop} : ∀ {es fs : List (ByteArray × Tr)}, Asc es → Asc fs → (∀ k, Option.Rel R (lookE es k) (lookE fs k)) → es.length = fs.length ∧ ∀ (i : Nat) (a b : ByteArray × Tr), es[i]? = some a → fs[i]? = some b → a.1 = b.1 ∧ R a.2 b.2
  | [], [], _, _, _ => ⟨rfl, fun i a b h => by simp at h⟩
  | [], b :: fs, _, _, h => by
    have := h b.1
    rw [lookE_cons, if_pos rfl, lookE_nil] at this
    cases this
  | a :: es, [], _, _, h => by
    have := h a.1
    rw [lookE_cons, if_pos rfl, lookE_nil] at this
    cases this
  | a :: es, b :: fs, ha, hb, h => by
    have ha' := List.pairwise_cons.1 ha
    have hb' := List.pairwise_cons.1 hb
    have hlt : ∀ {x y : ByteArray}, strLt x y = true → x ≠ y := fun h e => by rw [e, strLt_irrefl] at h; cases h
    rcases strLt_tri a.1 b.1 with hl | he | hl
    · exfalso
      have := h a.1
      rw [lookE_cons, if_pos rfl, lookE_none (fun p hp => by
        rcases List.mem_cons.1 hp with rfl | hp
        · exact (hlt hl).symm
        · exact (hlt (strLt_trans hl (hb'.1 p hp))).symm)] at this
      cases this
    · have h0 := h a.1
      rw [lookE_cons, if_pos rfl, lookE_cons, if_pos he.symm] at h0
      have h0' : R a.2 b.2 := by cases h0; assumption
      have hr := asc_rel (R := R) ha'.2 hb'.2 (fun k => by
        have hk := h k
        rw [lookE_cons, lookE_cons] at hk
        by_cases e : a.1 = k
        · rw [lookE_none (fun p hp => by rw [← e]; exact (hlt (ha'.1 p hp)).symm), lookE_none (fun p hp => by rw [← e, he]; exact (hlt (hb'.1 p hp)).symm)]
          exact Option.Rel.none
        · rwa [if_neg e, if_neg (by rw [← he]; exact e)] at hk)
      refine ⟨by simp [hr.1], fun i x y hx hy => ?_⟩
      cases i with
      | zero =>
        simp at hx hy
        subst hx hy
        exact ⟨he, h0'⟩
      | succ i => exact hr.2 i x y (by simpa using hx) (by simpa using hy)
    · exfalso
      have := h b.1
      rw [lookE_cons, lookE_cons, if_pos rfl, if_neg (hlt hl).symm, lookE_none (fun p hp => (hlt (strLt_trans hl (ha'.1 p hp))).symm)] at this
      cases this

/-- Two maps are the same where what they have under each key is. -/
theorem same_mapE {es fs : List (ByteArray × Tr)} (he : Asc es) (hf : Asc fs) (h : ∀ k, Option.Rel SameT (lookE es k) (lookE fs k)) : SameT (mapE es) (mapE fs) := by
  obtain ⟨hl, hp⟩ := asc_rel he hf h
  refine .mk _ _ rfl ?_ (by simp [mapE, mapT, Tr.kids, hl]) (fun h => by simp [mapE, mapT, Tr.kind] at h) (fun h => by simp [mapE, mapT, Tr.kind] at h) (fun h => by simp [mapE, mapT, Tr.kind] at h) (by simp [mapE, mapT, Tr.kind]) ?_
  · simp only [mapE, mapT, Tr.keys]
    apply List.ext_getElem (by simp [hl])
    intro i h1 h2
    simp only [List.length_map] at h1 h2
    simp only [List.getElem_map]
    exact (hp i _ _ (List.getElem?_eq_getElem h1) (List.getElem?_eq_getElem h2)).1
  · intro i a b ha hb
    simp only [mapE, mapT, Tr.kids] at ha hb
    have h1 : i < es.length := by have := (List.getElem?_eq_some_iff.1 ha).1; simpa using this
    have h2 : i < fs.length := by omega
    simp only [List.getElem?_map, List.getElem?_eq_getElem h1, List.getElem?_eq_getElem h2, Option.map_some, Option.some.injEq] at ha hb
    subst ha hb
    exact (hp i _ _ (List.getElem?_eq_getElem h1) (List.getElem?_eq_getElem h2)).2

/-- 'With', done. -/
theorem withE_true (key : ByteArray) (kid : Tr) (es : List (ByteArray × Tr)) : withE key kid true es = es.filter (fun p => !(decide (p.1 = key))) := by
  induction es with
  | nil => rfl
  | cons p r ih =>
    simp only [withE, Bool.not_true, Bool.false_and, Bool.true_or, ih]
    by_cases h : p.1 = key <;> simp [h]
theorem lookE_with (key : ByteArray) (kid : Tr) (es : List (ByteArray × Tr)) (k : ByteArray) : lookE (withE key kid false es) k = if k = key then some kid else lookE es k := by
  have hf : ∀ l : List (ByteArray × Tr), k ≠ key → lookE (l.filter (fun p => !(decide (p.1 = key)))) k = lookE l k := by
    intro l hk
    induction l with
    | nil => rfl
    | cons p r ih =>
      by_cases h : p.1 = key
      · rw [List.filter_cons, if_neg (by simp [h]), ih, lookE_cons, if_neg (by rw [h]; exact fun e => hk e.symm)]
      · rw [List.filter_cons, if_pos (by simp [h]), lookE_cons, lookE_cons, ih]
  induction es with
  | nil =>
    simp only [withE, Bool.false_eq_true, if_false, lookE_cons, lookE_nil]
    by_cases h : k = key
    · subst h; simp
    · rw [if_neg h, if_neg (fun e => h e.symm)]
  | cons p r ih =>
    simp only [withE, Bool.not_false, Bool.true_and, Bool.false_or]
    cases hlt : strLt p.1 key with
    | true =>
      have hne : p.1 ≠ key := fun e => by rw [e, strLt_irrefl] at hlt; cases hlt
      simp only [Bool.not_true, Bool.false_eq_true, if_false, List.nil_append, if_neg hne, List.singleton_append]
      rw [lookE_cons, ih, lookE_cons]
      by_cases hk : k = key
      · rw [if_pos hk, if_neg (by rw [hk]; exact hne)]
        simp [hk]
      · rw [if_neg hk, if_neg hk]
    | false =>
      simp only [Bool.not_false, if_true, List.cons_append]
      rw [lookE_cons]
      by_cases hk : k = key
      · rw [if_pos hk.symm, if_pos hk]
      · rw [if_neg (fun e => hk e.symm), if_neg hk, withE_true]
        by_cases hp : p.1 = key
        · rw [if_pos hp, List.nil_append, List.nil_append, hf _ hk, lookE_cons, if_neg (by rw [hp]; exact fun e => hk e.symm)]
        · rw [if_neg hp, List.nil_append, List.singleton_append, lookE_cons, lookE_cons, hf _ hk]
theorem mem_with {key : ByteArray} {kid : Tr} {es : List (ByteArray × Tr)} {q : ByteArray × Tr} (h : q ∈ withE key kid false es) : q = (key, kid) ∨ q ∈ es := by
  induction es with
  | nil => simp [withE] at h; exact .inl h
  | cons p r ih =>
    simp only [withE, Bool.not_false, Bool.true_and, Bool.false_or] at h
    cases hlt : strLt p.1 key with
    | true =>
      rw [hlt] at h
      simp only [Bool.not_true, Bool.false_eq_true, if_false, List.nil_append, List.mem_append] at h
      rcases h with h | h
      · split at h
        · cases h
        · right; simp at h; simp [h]
      · rcases ih h with h | h
        · exact .inl h
        · right; simp [h]
    | false =>
      rw [hlt] at h
      simp only [Bool.not_false, if_true, List.mem_append, withE_true] at h
      rcases h with (h | h) | h
      · left; simpa using h
      · split at h
        · cases h
        · right; simp at h; simp [h]
      · right; simp only [List.mem_filter] at h; simp [h.1]
theorem with_length (key : ByteArray) (kid : Tr) (es : List (ByteArray × Tr)) : (withE key kid false es).length ≤ es.length + 1 := by
  induction es with
  | nil => simp [withE]
  | cons p r ih =>
    simp only [withE, Bool.not_false, Bool.true_and, Bool.false_or]
    cases hlt : strLt p.1 key with
    | true =>
      simp only [Bool.not_true, Bool.false_eq_true, if_false, List.nil_append, List.length_append, List.length_cons]
      split <;> simp <;> omega
    | false =>
      simp only [Bool.not_false, if_true, List.length_append, withE_true, List.length_cons, List.length_nil]
      have := List.length_filter_le (fun p : ByteArray × Tr => !(decide (p.1 = key))) r
      split <;> simp <;> omega
theorem asc_with {key : ByteArray} {kid : Tr} {es : List (ByteArray × Tr)} (h : Asc es) : Asc (withE key kid false es) := by
  induction es with
  | nil => simp [withE, Asc]
  | cons p r ih =>
    have h' := List.pairwise_cons.1 h
    simp only [withE, Bool.not_false, Bool.true_and, Bool.false_or]
    cases hlt : strLt p.1 key with
    | true =>
      have hne : p.1 ≠ key := fun e => by rw [e, strLt_irrefl] at hlt; cases hlt
      simp only [Bool.not_true, Bool.false_eq_true, if_false, List.nil_append, if_neg hne, List.singleton_append]
      refine List.pairwise_cons.2 ⟨fun q hq => ?_, ih h'.2⟩
      rcases mem_with hq with rfl | hq
      · exact hlt
      · exact h'.1 q hq
    | false =>
      simp only [Bool.not_false, if_true, List.cons_append, withE_true]
      have hle : ∀ {x : ByteArray}, x ≠ key → (x = p.1 ∨ strLt p.1 x = true) → strLt key x = true := by
        intro x hx hp
        rcases strLt_tri key p.1 with h1 | h1 | h1
        · rcases hp with rfl | hp
          · exact h1
          · exact strLt_trans h1 hp
        · rcases hp with rfl | hp
          · exact absurd h1.symm hx
          · rw [h1]; exact hp
        · rw [hlt] at h1; cases h1
      refine List.pairwise_cons.2 ⟨fun q hq => ?_, ?_⟩
      · rcases List.mem_append.1 hq with hq | hq
        · split at hq
          · cases hq
          · rename_i hne
            obtain rfl : q = p := by simpa using hq
            exact hle hne (.inl rfl)
        · rw [List.mem_filter] at hq
          exact hle (by simpa using hq.2) (.inr (h'.1 q hq.1))
      · have hs : ((if p.1 = key then [] else [p]) ++ r.filter (fun p => !(decide (p.1 = key)))).Sublist (p :: r) := by
          have : (if p.1 = key then ([] : List (ByteArray × Tr)) else [p]).Sublist [p] := by split <;> simp
          exact this.append List.filter_sublist
        exact h.sublist hs

/-- A map that is made pair by pair. -/
def mapL (ps : List SetM) : List (ByteArray × Tr) := ps.foldl (fun es s => withE s.name s.val false es) []
theorem mapL_snoc (ps : List SetM) (s : SetM) : mapL (ps ++ [s]) = withE s.name s.val false (mapL ps) := by simp [mapL]
theorem lookE_mapL (ps : List SetM) (k : ByteArray) : lookE (mapL ps) k = lastOf ps k := by
  induction ps using snoc_ind with
  | h0 => rfl
  | h1 l a ih => 
    rw [mapL_snoc, lookE_with, lastOf_snoc, ih]
    by_cases h : a.name = k
    · rw [if_pos h, if_pos h.symm]
    · rw [if_neg h, if_neg (fun e => h e.symm)]
theorem asc_mapL (ps : List SetM) : Asc (mapL ps) := by
  induction ps using snoc_ind with
  | h0 => exact List.Pairwise.nil
  | h1 l a ih => rw [mapL_snoc]; exact asc_with ih
theorem mapL_length (ps : List SetM) : (mapL ps).length ≤ ps.length := by
  induction ps using snoc_ind with
  | h0 => simp [mapL]
  | h1 l a ih => rw [mapL_snoc]; have := with_length a.name a.val (mapL l); simp; omega

/-- A map of Go's as a tree: its keys ascend. -/
def mapTE (ts : List (ByteArray × Tr)) : List (ByteArray × Tr) := (sortKeys (ts.map (·.1))).map (fun k => (k, lookT ts k))
theorem mapTree_eq (ts : List (ByteArray × Tr)) : mapTree ts = mapE (mapTE ts) := by
  unfold mapTree mapE mapTE
  rw [List.map_map, List.map_map]
  congr 1
  · have : ((fun p : ByteArray × Tr => p.1) ∘ fun k => (k, lookT ts k)) = id := by funext k; rfl
    rw [this, List.map_id]
theorem asc_mapTE {ts : List (ByteArray × Tr)} (h : (ts.map (·.1)).Nodup) : Asc (mapTE ts) := by
  unfold Asc mapTE
  rw [List.pairwise_map]
  unfold sortKeys
  rw [List.pairwise_map]
  have hs := List.pairwise_mergeSort (le := leB) (fun a b c h1 h2 => by
      simp only [leB, decide_eq_true_eq] at *; exact List.le_trans h1 h2) (fun a b => by
      simp only [leB, Bool.or_eq_true, decide_eq_true_eq]; exact List.le_total a b) ((ts.map (·.1)).map (fun k => k.data.toList))
  have hn : (((ts.map (·.1)).map (fun k => k.data.toList)).mergeSort leB).Nodup := (List.mergeSort_perm _ leB).nodup_iff.2 (nodup_bytes h)
  have := hs.and hn
  refine this.imp ?_
  intro a b hab
  obtain ⟨h1, h2⟩ := hab
  unfold strLt
  rw [bytesLess_eq]
  simp only [leB, decide_eq_true_eq] at h1 ⊢
  rw [ByteArray.toList_eq, ByteArray.toList_eq]
  simp only 
  by_cases hlt : a < b
  · exact hlt
  · exact absurd (List.le_antisymm h1 (List.not_lt.1 hlt)) h2
theorem lookE_mapTE {ts : List (ByteArray × Tr)} (h : (ts.map (·.1)).Nodup) (k : ByteArray) : lookE (mapTE ts) k = lookE ts k := by
  by_cases hk : k ∈ ts.map (·.1)
  · obtain ⟨p, hp, rfl⟩ := List.mem_map.1 hk
    have h1 : lookE ts p.1 = some p.2 := by
      have := lookT_mem h (k := p.1) (t := p.2) hp
      unfold lookT at this
      unfold lookE
      cases e : ts.find? (fun q => decide (q.1 = p.1)) with
      | none =>
        rw [List.find?_eq_none] at e
        have := e p hp
        simp at this
      | some q => rw [e] at this; simpa using this
    rw [h1]
    have hm : p.1 ∈ sortKeys (ts.map (·.1)) := mem_sortKeys.2 hk
    unfold mapTE
    generalize sortKeys (ts.map (·.1)) = l at hm
    induction l with
    | nil => cases hm
    | cons x l ih =>
      rw [List.map_cons, lookE_cons]
      by_cases hx : x = p.1
      · rw [if_pos hx]
        simp only
        rw [hx, lookT_mem h (k := p.1) (t := p.2) hp]
      · rw [if_neg hx]
        exact ih (by rcases List.mem_cons.1 hm with e | e; exact absurd e.symm hx; exact e)
  · rw [lookE_none (es := ts) (fun p hp e => hk (List.mem_map.2 ⟨p, hp, e⟩)), lookE_none]
    intro p hp e
    unfold mapTE at hp
    obtain ⟨x, hx, rfl⟩ := List.mem_map.1 hp
    rw [mem_sortKeys] at hx
    exact hk (by rw [← e]; exact hx)
theorem lookE_flat_none {α : Type} (f : α → List (ByteArray × Tr)) (l : List α) (k : ByteArray) (h : ∀ a ∈ l, lookE (f a) k = none) : lookE (l.flatMap f) k = none := by
  induction l with
  | nil => rfl
  | cons a l ih =>
    rw [List.flatMap_cons]
    have h1 := h a (by simp)
    have h2 := ih (fun b hb => h b (by simp [hb]))
    unfold lookE at *
    rw [List.find?_append]
    simp only [Option.map_eq_none_iff] at h1 h2 ⊢
    rw [h1, h2]; rfl
theorem lookE_append (es fs : List (ByteArray × Tr)) (k : ByteArray) : lookE (es ++ fs) k = (lookE es k).or (lookE fs k) := by
  unfold lookE
  rw [List.find?_append]
  cases es.find? (fun p => decide (p.1 = k)) <;> simp

/-- A tree, as it comes back, is the same as it was. -/
theorem leaf_same {t : Tr} (h : scalarP t = true) : SameT (leafT t) t := by
  unfold scalarP at h
  split at h
  · cases h
  · rename_i hn
    have hk : t.keys = [] := List.length_eq_zero_iff.1 (by omega)
    have hc : t.kids = [] := List.length_eq_zero_iff.1 (by omega)
    unfold leafT
    by_cases h1 : t.kind = 1
    · rw [if_pos h1]
      refine .mk _ _ (by rw [h1]; rfl) (by rw [hk]; rfl) (by rw [hc]; rfl) (fun _ => rfl) (fun h => by simp [textT, Tr.kind] at h) (fun h => by simp [textT, Tr.kind] at h) (by simp [textT, Tr.kind]) (fun i a b ha => by simp [textT, Tr.kids] at ha)
    · rw [if_neg h1]
      rw [if_neg h1] at h
      by_cases h2 : t.kind = 2
      · rw [if_pos h2]
        rw [if_pos h2] at h
        exact .mk _ _ (by rw [h2]; rfl) (by rw [hk]; rfl) (by rw [hc]; rfl) (fun h => by simp [numT, Tr.kind] at h) (fun _ => feq_fin h) (fun h => by simp [numT, Tr.kind] at h) (by simp [numT, Tr.kind]) (fun i a b ha => by simp [numT, Tr.kids] at ha)
      · rw [if_neg h2]
        rw [if_neg h2] at h
        have h3 : t.kind = 3 := by simpa using h
        rw [if_pos h3]
        exact .mk _ _ (by rw [h3]; rfl) (by rw [hk]; rfl) (by rw [hc]; rfl) (fun h => by simp [yesT, Tr.kind] at h) (fun h => by simp [yesT, Tr.kind] at h) (fun _ => rfl) (by simp [yesT, Tr.kind]) (fun i a b ha => by simp [yesT, Tr.kids] at ha)
theorem lookE_zip {ks : List ByteArray} {ts : List Tr} (hl : ks.length = ts.length) (hn : ks.Nodup) {i : Nat} (h1 : i < ks.length) (h2 : i < ts.length) : lookE (ks.zip ts) ks[i] = some ts[i] := by
  induction ks generalizing ts i with
  | nil => simp at h1
  | cons k ks ih =>
    cases ts with
    | nil => simp at hl
    | cons t ts =>
      rw [List.nodup_cons] at hn
      rw [List.zip_cons_cons, lookE_cons]
      cases i with
      | zero => simp
      | succ i =>
        simp only [List.getElem_cons_succ]
        simp only [List.length_cons] at h1 h2 hl
        rw [if_neg (fun e => hn.1 (by rw [e]; exact List.getElem_mem _)), ih (by omega) hn.2 (by omega) (by omega)]
theorem lookE_zip_map (ks : List ByteArray) (ts : List Tr) (f : Tr → Tr) (k : ByteArray) : lookE (ks.zip (ts.map f)) k = (lookE (ks.zip ts) k).map f := by
  induction ks generalizing ts with
  | nil => simp [lookE]
  | cons x ks ih =>
    cases ts with
    | nil => simp [lookE]
    | cons t ts =>
      rw [List.map_cons, List.zip_cons_cons, List.zip_cons_cons, lookE_cons, lookE_cons, ih]
      split <;> simp
theorem norm_same (d : Nat) : ∀ {t : Tr}, properT d t = true → SameT (normT d t) t := by
  induction d with
  | zero => intro t h; exact leaf_same h
  | succ d ih =>
    intro t h
    unfold normT
    by_cases h4 : t.kind = 4
    · rw [if_pos h4]
      obtain ⟨hkids, hk, _⟩ := proper_kids h (.inl h4)
      refine .mk _ _ (by rw [h4]; rfl) (by rw [hk h4]; rfl) (by simp [listT, Tr.kids]) (fun h => by simp [listT, Tr.kind] at h) (fun h => by simp [listT, Tr.kind] at h) (fun h => by simp [listT, Tr.kind] at h) (by simp [listT, Tr.kind]) ?_
      intro i a b ha hb
      rw [listT_kids, List.getElem?_map, hb, Option.map_some, Option.some.injEq] at ha
      subst ha
      exact ih (hkids b (List.mem_of_getElem? hb))
    · rw [if_neg h4]
      by_cases h5 : t.kind = 5
      · rw [if_pos h5]
        obtain ⟨hkids, _, hm⟩ := proper_kids h (.inr h5)
        have hm := hm h5
        have hz : (t.keys.zip (t.kids.map (normT d))).map (·.1) = t.keys := by rw [List.map_fst_zip]; simp [hm.len]
        rw [mapTree_eq]
        have hnd : ((t.keys.zip (t.kids.map (normT d))).map (·.1)).Nodup := by rw [hz]; exact hm.nodup
        have hAz : Asc (t.keys.zip t.kids) := by
          have h2 : (t.keys.zip t.kids).map (·.1) = t.keys := by rw [List.map_fst_zip]; simp [hm.len]
          unfold Asc
          rw [← List.pairwise_map (f := fun p : ByteArray × Tr => p.1) (R := fun a b => strLt a b = true), h2]
          exact hm.asc
        have hs : SameT (mapE (mapTE (t.keys.zip (t.kids.map (normT d))))) (mapE (t.keys.zip t.kids)) := by
          refine same_mapE (asc_mapTE hnd) hAz (fun k => ?_)
          rw [lookE_mapTE hnd, lookE_zip_map]
          cases e : lookE (t.keys.zip t.kids) k with
          | none => exact .none
          | some u => exact .some (ih (hkids u (List.of_mem_zip (lookE_mem e)).2))
        cases hs with
        | mk _ _ a1 a2 a3 a4 a5 a6 a7 a8 =>
          have e1 : (mapE (t.keys.zip t.kids)).keys = t.keys := by rw [mapE_keys]; rw [List.map_fst_zip]; simp [hm.len]
          have e2 : (mapE (t.keys.zip t.kids)).kids = t.kids := by rw [mapE_kids]; rw [List.map_snd_zip]; simp [hm.len]
          rw [e1] at a2
          rw [e2] at a3 a8
          exact .mk _ _ (by rw [h5]; rfl) a2 a3 (fun h => by simp [mapE, mapT, Tr.kind] at h) (fun h => by simp [mapE, mapT, Tr.kind] at h) (fun h => by simp [mapE, mapT, Tr.kind] at h) a7 a8
      · rw [if_neg h5]
        refine leaf_same ?_
        unfold properT at h
        rwa [if_pos ⟨h4, h5⟩] at h
end Go.Proofs.YtbcnhcpgloncdaaGreatDoor
