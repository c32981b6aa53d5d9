/- 'With': a map with a tree for a key: the walk. -/
import Derived.Test.YtbcnhcpgloncdaaGreatDoorIe
namespace Go.Proofs.YtbcnhcpgloncdaaGreatDoor
open Go Go.RowKit Go.BigFrame

/-- The pairs with a tree for a key. -/
def withE (key : ByteArray) (kid : Tr) : Bool → List (ByteArray × Tr) → List (ByteArray × Tr)
  | done, [] => if done then [] else [(key, kid)]
  | done, p :: r => (if !done && !strLt p.1 key then [(key, kid)] else []) ++ (if p.1 = key then [] else [p]) ++ withE key kid (done || !strLt p.1 key) r

structure WithInv (w0 : World) (S : Nat → Prop) (B : Nat) (key : ByteArray) (kid : Tr) (es : List (ByteArray × Tr)) (k : Nat) (done : Bool) (wr : World) (kv cv : Value) (acc : List (ByteArray × Tr)) : Prop where
  map : MapS w0 S B wr (acc.map (·.1)) (acc.map (·.2)) kv cv
  eq : withE key kid false es = acc ++ withE key kid done (es.drop k)
  len : acc.length ≤ 2 * k

theorem own_uniq {w : World} {base : Nat} {e : TypeId} {size n : Nat} {v : Value} {xs ys : List Value} (h1 : w.ownsRow base e size v n xs) (h2 : w.ownsRow base e size v n ys) : xs = ys := by
  rcases h1.2 with ⟨e1, n1⟩ | ⟨g, cap, cur, e1, _, hh, _, _, _, t1⟩
  · subst n1
    have a := h1.1; have b := h2.1
    simp at a b
    rw [a, b]
  · rcases h2.2 with ⟨e2, _⟩ | ⟨g', cap', cur', e2, _, hh', _, _, _, t2⟩
    · rw [e1] at e2; cases e2
    · rw [e1] at e2; cases e2
      rw [hh] at hh'; cases hh'
      rw [← t1, ← t2]

set_option maxRecDepth 100000 in
set_option maxHeartbeats 8000000 in
theorem with_any (t kid : Tr) (key : ByteArray) (S : Nat → Prop) (v u : TV) (w : World) (hv : RepT w S v t) (hu : RepT w S u kid) (hS : ∀ b, S b → b < w.heap.size) (hkl : t.keys.length = t.kids.length) (hl : t.kids.length ≤ 1000000000) :
    Calls Tryz.prog 45 #[v.val, .string key, u.val] w (TreeS w S (mapE (withE key kid false (t.keys.zip t.kids)))) := by
  obtain ⟨i0, hi, hz0, hz1, hz2⟩ := info_parts Tryz.info31
  obtain ⟨j0, ji, jz0, jz1, jz2⟩ := info_parts Tryz.info9
  obtain ⟨q1, q2, q3, q4, q5, q6⟩ := hv.eqs
  have Hv := Lib.hid hv; clear hv
  have Hu := Lib.hid hu; clear hu
  have HS := Lib.hid hS; clear hS
  have Hkl := Lib.hid hkl
  obtain ⟨kind, text, num, yes, ka, kn, kc, ca, cn, cc⟩ := v
  obtain ⟨kind', text', num', yes', ka', kn', kc', ca', cn', cc'⟩ := u
  simp only at q5 q6
  rw [hkl] at q5
  obtain ⟨N, hN⟩ : ∃ N, t.kids.length = N := ⟨_, rfl⟩
  rw [hN] at q5 q6 hl
  subst q5 q6
  have HN := Lib.hid hN
  clear q1 q2 q3 q4 hkl hN
  obtain ⟨w0, hw0⟩ : ∃ w0, w0 = ((w.alloc (.cells #[.int .i64 kind, .string text, .float .f64 num, .bool yes, .slice ka cn kc, .slice ca cn cc] 31)).alloc (.cells #[.int .i64 kind', .string text', .float .f64 num', .bool yes', .slice ka' kn' kc', .slice ca' cn' cc'] 31)).alloc (.cells #[.int .i64 0, .string ⟨#[]⟩, .float .f64 0, .bool false, .slice none 0 0, .slice none 0 0] 31) := ⟨_, rfl⟩
  have hz : w0.heap.size = w.heap.size + 3 := by rw [hw0]; simp
  have hb0 : Below w.heap.size w w0 := by rw [hw0]; exact (((Below.refl _ _).alloc (Nat.le_refl _) _).alloc (by simp) _).alloc (by simp; omega) _
  have hx3 : w0.heap[w.heap.size]? = some (.cells #[.int .i64 kind, .string text, .float .f64 num, .bool yes, .slice ka cn kc, .slice ca cn cc] 31 (0, 0)) := by
    rw [hw0]; exact (heap_alloc_old _ _ (by simp; omega)).trans ((heap_alloc_old _ _ (by simp)).trans (heap_alloc_new w _))
  have hx6 : w0.heap[w.heap.size + 2]? = some (.cells #[.int .i64 0, .string ⟨#[]⟩, .float .f64 0, .bool false, .slice none 0 0, .slice none 0 0] 31 (0, 0)) := by
    rw [hw0]
    have := heap_alloc_new ((w.alloc (.cells #[.int .i64 kind, .string text, .float .f64 num, .bool yes, .slice ka cn kc, .slice ca cn cc] 31)).alloc (.cells #[.int .i64 kind', .string text', .float .f64 num', .bool yes', .slice ka' kn' kc', .slice ca' cn' cc'] 31)) (.cells #[.int .i64 0, .string ⟨#[]⟩, .float .f64 0, .bool false, .slice none 0 0, .slice none 0 0] 31)
    simpa using this
  have hx5 : w0.heap[w.heap.size + 1]? = some (.cells #[.int .i64 kind', .string text', .float .f64 num', .bool yes', .slice ka' kn' kc', .slice ca' cn' cc'] 31 (0, 0)) := by
    rw [hw0]; refine (heap_alloc_old _ _ (by simp)).trans ?_
    have := heap_alloc_new (w.alloc (.cells #[.int .i64 kind, .string text, .float .f64 num, .bool yes, .slice ka cn kc, .slice ca cn cc] 31)) (.cells #[.int .i64 kind', .string text', .float .f64 num', .bool yes', .slice ka' kn' kc', .slice ca' cn' cc'] 31)
    simpa using this
  have hv0 := Hv.out.keep (Keeps.of_below S hb0)
  have hu0 := Hu.out.keep (Keeps.of_below S hb0)
  have Hv0 := Lib.hid hv0; clear hv0 Hv
  have Hu0 := Lib.hid hu0; clear hu0 Hu
  have Hw0 := Lib.hid hw0; clear hw0
  have Hx6 := Lib.hid hx6; clear hx6
  have Hx3 := Lib.hid hx3; clear hx3
  have Hx5 := Lib.hid hx5; clear hx5
  have Hb0 := Lib.hid hb0; clear hb0
  go_enter Tryz.func45, Tryz.ntmps45
  go_wp2_with fail
  rw [← Hw0.out]
  go_loopw [8, 9] (fun dn i wr => ∃ (k : Nat) (done : Bool) (kv cv : Value) (acc : List (ByteArray × Tr)), k ≤ cn ∧ i = .int .i64 k ∧ dn = .bool done ∧ WithInv w0 S (w.heap.size + 3) key kid (t.keys.zip t.kids) k done wr kv cv acc) (fun _ i _ => cn - (intOf i).toNat)
  case atStart =>
    refine ⟨0, false, _, _, [], Nat.zero_le _, rfl, rfl, ⟨⟨?_, ⟨by simp, .inl ⟨rfl, rfl⟩⟩, ⟨[], rfl, ⟨by simp, .inl ⟨rfl, rfl⟩⟩, fun i v t h => by simp at h⟩, fun b hb => by simp [Value.ownBlock] at hb, (Below.refl _ _).alloc (by omega) _, by simp; omega⟩, by simp, by simp⟩⟩
    have := heap_alloc_new w0 (.cells #[.int .i64 5, .string ⟨#[]⟩, .float .f64 0, .bool false, .slice none 0 0, .slice none 0 0] 31)
    rw [hz] at this
    exact this
  case round =>
    obtain ⟨k, done, kv, cv, acc, hk, rfl, rfl, hinv⟩ := hrel
    have hm := hinv.map
    have Heq := Lib.hid hinv.eq
    have hlen := hinv.len
    clear hinv
    obtain ⟨ks, hks⟩ : ∃ ks, ks = acc.map (·.1) := ⟨_, rfl⟩
    obtain ⟨ts, hts⟩ : ∃ ts, ts = acc.map (·.2) := ⟨_, rfl⟩
    rw [← hks, ← hts] at hm
    have hkl2 : ks.length = acc.length := by rw [hks]; simp
    have htl2 : ts.length = acc.length := by rw [hts]; simp
    have hkb : ks.length ≤ 2 * k := by omega
    have htb : ts.length ≤ 2 * k := by omega
    clear hkl2 htl2
    have Hks := Lib.hid hks; clear hks
    have Hts := Lib.hid hts; clear hts
    have hmb := hm.bel
    have hms := hm.size
    have y3 := (hmb.block w.heap.size (by omega)).trans Hx3.out
    have y5 := (hmb.block (w.heap.size + 1) (by omega)).trans Hx5.out
    have b4 : wr.cell? ⟨w.heap.size, 4, none⟩ = some (.slice ka cn kc) := by simp [World.cell?, y3]
    have b5 : wr.cell? ⟨w.heap.size, 5, none⟩ = some (.slice ca cn cc) := by simp [World.cell?, y3]
    have f0 : wr.cell? ⟨w.heap.size + 1, 0, none⟩ = some (.int .i64 kind') := by simp [World.cell?, y5]
    have f1 : wr.cell? ⟨w.heap.size + 1, 1, none⟩ = some (.string text') := by simp [World.cell?, y5]
    have f2 : wr.cell? ⟨w.heap.size + 1, 2, none⟩ = some (.float .f64 num') := by simp [World.cell?, y5]
    have f3 : wr.cell? ⟨w.heap.size + 1, 3, none⟩ = some (.bool yes') := by simp [World.cell?, y5]
    have f4 : wr.cell? ⟨w.heap.size + 1, 4, none⟩ = some (.slice ka' kn' kc') := by simp [World.cell?, y5]
    have f5 : wr.cell? ⟨w.heap.size + 1, 5, none⟩ = some (.slice ca' cn' cc') := by simp [World.cell?, y5]
    clear y3
    have Hy5 := Lib.hid y5; clear y5
    obtain ⟨b0, b1, b2, b3, c4, c5, bf, bl⟩ := hm.box.cells
    clear b0 b1 b2 b3
    have hkeys := hm.keys
    obtain ⟨vs0, hvl0, hkids0, hkr0⟩ := hm.kids
    clear hkr0
    obtain ⟨ka2, kn2, kc2, rfl⟩ : ∃ a n c, kv = .slice a n c := by
      rcases hkeys.2 with ⟨e, _⟩ | ⟨g, cap, cur, e, _⟩
      · exact ⟨_, _, _, e⟩
      · exact ⟨_, _, _, e⟩
    obtain ⟨ca2, cn2, cc2, rfl⟩ : ∃ a n c, cv = .slice a n c := by
      rcases hkids0.2 with ⟨e, _⟩ | ⟨g, cap, cur, e, _⟩
      · exact ⟨_, _, _, e⟩
      · exact ⟨_, _, _, e⟩
    have Hm := Lib.hid hm; clear hm
    by_cases hlt : k < cn
    · have hlt' : k < t.kids.length := by rw [HN.out]; exact hlt
      have hltk : k < t.keys.length := by rw [Hkl.out]; exact hlt'
      obtain ⟨bk, ok, hka, hSk, hlbk, ck⟩ := Hv0.out.key (k := k) hltk
      simp only at hka
      subst hka
      obtain ⟨bc, oc, v', hca, hSc, hlbc, hct, hrv⟩ := Hv0.out.kid (k := k) hlt'
      simp only at hca
      subst hca
      obtain ⟨kd, tx, nm, ys, ka3, kn3, kc3, ca3, cn3, cc3⟩ := v'
      have hbcS := HS.out bc hSc
      have Hct := Lib.hid hct; clear hct
      have Hrv := Lib.hid hrv; clear hrv
      have HSS := Lib.hid (And.intro hSk hSc); clear hSk hSc
      have ck' := (hmb.cell (p := ⟨bk, ok + k, none⟩) (by simp; omega)).trans ck
      have hdrop : Hid ((t.keys.zip t.kids).drop k = (t.keys[k], t.kids[k]) :: (t.keys.zip t.kids).drop (k + 1)) := Lib.hid (by
        rw [List.drop_eq_getElem_cons (by simp; omega)]; simp)
      have Hck := Lib.hid ck; clear ck
      have hi1 : (0 : Int) ≤ (k : Int) := by omega
      have hi2 : (k : Int) < (cn : Int) := by omega
      have Hmb := Lib.hid hmb; clear hmb
      -- the first part: is the tree put in here?
      have hhs : ∃ l, l = strLt t.keys[k] key := ⟨_, rfl⟩
      obtain ⟨l, hl'⟩ := hhs
      have hs' : Op.bytesLess t.keys[k].toList key.toList = l := hl'.symm
      have Hl := Lib.hid hl'; clear hl'
      generalize hkk : t.keys[k] = kk at *
      have Hkk := Lib.hid hkk; clear hkk
      generalize hkt : t.kids[k] = kt at *
      have Hkt := Lib.hid hkt; clear hkt
      go_upto_region 6 with fail
      go_cut [28] from 18 to 27 (fun c wx => c = .bool (!done && !l) ∧ wr = wx)
      case first =>
        cases done <;> cases l
        all_goals (
          go_wp2_with fail
          go_meet
          case rel => exact ⟨rfl, rfl⟩)
      case rest =>
      obtain ⟨rfl, rfl⟩ := hcut
      go_upto_if 28 with fail
      go_cut [8] from 29 to 40 (fun dn wm => ∃ kv cv, dn = .bool (done || !l) ∧ MapS w0 S (w.heap.size + 3) wm ((acc ++ (if !done && !l then [(key, kid)] else [])).map (·.1)) ((acc ++ (if !done && !l then [(key, kid)] else [])).map (·.2)) kv cv)
      case first =>
        cases done
        · cases l
          · go_upto_region 7 with fail
            go_cut [] from 29 to 34 (fun wm => ∃ kv, MapS w0 S (w.heap.size + 3) wm (ks ++ [key]) ts kv (.slice ca2 cn2 cc2))
            case first =>
              go_wp2_with (at_builtin; refine wpList_append_lies _ rfl _ _ _ rfl (w.heap.size + 3 + 1) 9 j0 _ 1 16 Tryz.underlying29 ji jz0 jz1 jz2 rfl (by omega) (.slice ka2 kn2 kc2) ks.length _ rfl (hkeys.alloc _) ⟨wr.heap.size, 0, none⟩ 1 1 [.string key] rfl rfl (World.news_of_block (cs := #[.string key]) (t := 9) (fr := (0, 0)) (heap_alloc_new wr _)) (by simp [Value.oneCell']) (by omega) (by unfold maxLen; omega) (by omega) (by simp; omega) (wr.heap.size + 1) (by simp) ?_; intro g cap w1 hown1 hgrow hat hlt1; obtain ⟨_, _, _, _, _, x5, xf, xl⟩ := (Box6.grown (Hm.out.box.alloc) hgrow (hkeys.alloc _).lt (by omega)).cells)
              go_meet
              case rel => exact ⟨_, Hm.out.addKey ((Below.refl _ _).alloc (Nat.le_refl _) _) (by simp) hown1 hgrow hat⟩
            case rest =>
            obtain ⟨kv1, hm1⟩ := hcut
            clear b4 b5 f0 f1 f2 f3 f4 f5 c4 c5 bf bl hkids0 hvl0 vs0 hkeys hms ck'
            have y6 := ((hm1.bel.block (w.heap.size + 1) (by omega)).trans Hx5.out : wc.heap[w.heap.size + 1]? = _)
            obtain ⟨f0, f1, f2, f3, f4, f5, _, _⟩ := Box6.cells (w := wc) (b := w.heap.size + 1) y6
            obtain ⟨b0, b1, b2, b3, c4, c5, bf, bl⟩ := hm1.box.cells
            clear b0 b1 b2 b3 y6
            have hms := hm1.size
            obtain ⟨vs0, hvl0, hkids, _⟩ := hm1.kids
            have Hm1 := Lib.hid hm1; clear hm1
            go_upto_region 8 with fail
            go_cut [] from 35 to 40 (fun wm => ∃ cv, MapS w0 S (w.heap.size + 3) wm (ks ++ [key]) (ts ++ [kid]) kv1 cv)
            case first =>
              go_wp2_with (at_builtin; refine wpList_append_lies _ rfl _ _ _ rfl (w.heap.size + 3 + 1) 31 i0 _ 6 88 Tryz.underlying22 hi hz0 hz1 hz2 rfl (by omega) (.slice ca2 cn2 cc2) ts.length _ rfl (hkids.alloc _) ⟨wc.heap.size, 0, none⟩ 1 1 [.int .i64 kind', .string text', .float .f64 num', .bool yes', .slice ka' kn' kc', .slice ca' cn' cc'] rfl rfl (World.news_of_block (cs := #[.int .i64 kind', .string text', .float .f64 num', .bool yes', .slice ka' kn' kc', .slice ca' cn' cc']) (t := 31) (fr := (0, 0)) (heap_alloc_new wc _)) (by simp [Value.oneCell']) (by omega) (by unfold maxLen; omega) (by omega) (by simp; omega) (wc.heap.size + 1) (by simp) ?_; intro g cap w1 hown1 hgrow hat hlt1; obtain ⟨_, _, _, _, z4, z5, zf, zl⟩ := (Box6.grown (Hm1.out.box.alloc) hgrow (hkids.alloc _).lt (by omega)).cells)
              go_meet
              case rel => exact ⟨_, Hm1.out.addKid (v := ⟨kind', text', num', yes', ka', kn', kc', ca', cn', cc'⟩) (t := kid) rfl ((Below.refl _ _).alloc (Nat.le_refl _) _) (by simp) Hu0.out (fun vs' h1 h2 => by rw [own_uniq h2 hkids]; exact hown1) hgrow hat⟩
            case rest =>
            obtain ⟨cv1, hm2⟩ := hcut
            go_wp2_with fail
            go_meet
            case rel =>
              refine ⟨kv1, cv1, rfl, ?_⟩
              rw [show (acc ++ (if !false && !false then [(key, kid)] else [])).map (·.1) = ks ++ [key] by rw [Hks.out]; simp, show (acc ++ (if !false && !false then [(key, kid)] else [])).map (·.2) = ts ++ [kid] by rw [Hts.out]; simp]
              exact hm2
          · go_wp2_with fail
            go_meet
            case rel => exact ⟨_, _, rfl, by
              rw [show (acc ++ (if !false && !true then [(key, kid)] else [])).map (·.1) = ks by rw [Hks.out]; simp, show (acc ++ (if !false && !true then [(key, kid)] else [])).map (·.2) = ts by rw [Hts.out]; simp]
              exact Hm.out⟩
        · simp only [Bool.not_true, Bool.false_and]
          go_wp2_with fail
          go_meet
          case rel => exact ⟨_, _, rfl, by
            rw [show (acc ++ (if !true && !l then [(key, kid)] else [])).map (·.1) = ks by rw [Hks.out]; simp, show (acc ++ (if !true && !l then [(key, kid)] else [])).map (·.2) = ts by rw [Hts.out]; simp]
            exact Hm.out⟩
      case rest =>
      obtain ⟨kv1, cv1, rfl, hm1⟩ := hcut
      obtain ⟨acc1, hacc1⟩ : ∃ a, a = acc ++ (if !done && !l then [(key, kid)] else []) := ⟨_, rfl⟩
      rw [← hacc1] at hm1
      have hlen1 : acc1.length ≤ 2 * k + 1 := by rw [hacc1]; split <;> simp <;> omega
      have Hacc1 := Lib.hid hacc1; clear hacc1
      clear b4 b5 f0 f1 f2 f3 f4 f5 c4 c5 bf bl hkids0 hvl0 vs0 hkeys hms ck' hkb htb Hks Hts ks ts Hm ka2 kn2 kc2 ca2 cn2 cc2 Hmb Hy5 hs'
      obtain ⟨ks, hks⟩ : ∃ ks, ks = acc1.map (·.1) := ⟨_, rfl⟩
      obtain ⟨ts, hts⟩ : ∃ ts, ts = acc1.map (·.2) := ⟨_, rfl⟩
      rw [← hks, ← hts] at hm1
      have hkb : ks.length ≤ 2 * k + 1 := by rw [hks]; simpa using hlen1
      have htb : ts.length ≤ 2 * k + 1 := by rw [hts]; simpa using hlen1
      have Hks := Lib.hid hks; clear hks
      have Hts := Lib.hid hts; clear hts
      have hmb := hm1.bel
      have y3 := (hmb.block w.heap.size (by omega)).trans Hx3.out
      have b4 : wc.cell? ⟨w.heap.size, 4, none⟩ = some (.slice (some ⟨bk, ok, none⟩) cn kc) := by simp [World.cell?, y3]
      have b5 : wc.cell? ⟨w.heap.size, 5, none⟩ = some (.slice (some ⟨bc, oc, none⟩) cn cc) := by simp [World.cell?, y3]
      clear y3
      have ck' := (hmb.cell (p := ⟨bk, ok + k, none⟩) (by simp; omega)).trans Hck.out
      have hct1 := Hct.out.keep (w' := wc) (fun o => hmb.cell (p := ⟨bc, o, none⟩) (by simp; omega))
      obtain ⟨d0, d1, d2, d3, d4, d5⟩ := hct1
      obtain ⟨b0, b1, b2, b3, c4, c5, bf, bl⟩ := hm1.box.cells
      clear b0 b1 b2 b3
      have hms := hm1.size
      have hkeys := hm1.keys
      obtain ⟨vs0, hvl0, hkids0, hkr0⟩ := hm1.kids
      clear hkr0
      obtain ⟨ka2, kn2, kc2, rfl⟩ : ∃ a n c, kv1 = .slice a n c := by
        rcases hkeys.2 with ⟨e, _⟩ | ⟨g, cap, cur, e, _⟩
        · exact ⟨_, _, _, e⟩
        · exact ⟨_, _, _, e⟩
      obtain ⟨ca2, cn2, cc2, rfl⟩ : ∃ a n c, cv1 = .slice a n c := by
        rcases hkids0.2 with ⟨e, _⟩ | ⟨g, cap, cur, e, _⟩
        · exact ⟨_, _, _, e⟩
        · exact ⟨_, _, _, e⟩
      have Hm := Lib.hid hm1; clear hm1
      have Hmb := Lib.hid hmb; clear hmb
      have hend : Hid (withE key kid false (t.keys.zip t.kids) = acc1 ++ ((if kk = key then [] else [(kk, kt)]) ++ withE key kid (done || !l) ((t.keys.zip t.kids).drop (k + 1)))) := Lib.hid (by
        rw [Heq.out, hdrop.out, withE, Hacc1.out, Hl.out]
        simp only [List.append_assoc])
      go_upto_if 47 with fail
      by_cases hke : kk = key
      · have he1 : (kk.toList == key.toList) = true := by rw [hke]; simp
        have Hke := Lib.hid hke; clear hke
        simp only [he1, Bool.not_true]
        go_wp2_with fail
        go_roundw
        case rel =>
          refine ⟨k + 1, _, _, _, acc1, by omega, by simp, rfl, ⟨by rw [← Hks.out, ← Hts.out]; exact Hm.out, ?_, by omega⟩⟩
          rw [hend.out, if_pos Hke.out]; rfl
        case measure => simp [intOf]; omega
      · have he1 : (kk.toList == key.toList) = false := by
          exact bs_ne hke
        have Hke := Lib.hid hke; clear hke
        simp only [he1, Bool.not_false]
        go_upto_region 11 with fail
        go_cut [] from 48 to 57 (fun wm => ∃ kv, MapS w0 S (w.heap.size + 3) wm (ks ++ [kk]) ts kv (.slice ca2 cn2 cc2))
        case first =>
          go_region_law (refine step_append_lies _ (by rfl) _ _ _ (by rfl) (w.heap.size + 3 + 1) 9 j0 _ 1 16 Tryz.underlying29 ji jz0 jz1 jz2 rfl (by omega) (.slice ka2 kn2 kc2) ks.length _ (by rfl) ((hkeys.alloc _).drew) ⟨wc.heap.size, 0, none⟩ 1 1 [.string kk] (by rfl) (by rfl) (World.news_of_block (cs := #[.string kk]) (t := 9) (fr := (0, 0)) (heap_alloc_new wc _)) (by simp [Value.oneCell']) (by omega) (by unfold maxLen; omega) (by omega) (by simp; omega) (wc.heap.size + 1) (by simp) ?_; intro g cap w1 hown1 hgrow hat hlt1; replace hgrow : (wc.alloc (.cells #[.string kk] 9)).grownBy w1 (Value.ownBlock (.slice ka2 kn2 kc2)) := ⟨hgrow.os, hgrow.tape, hgrow.output, hgrow.size, hgrow.block⟩; obtain ⟨_, _, _, _, _, x5, xf, xl⟩ := (Box6.grown (Hm.out.box.alloc) hgrow (hkeys.alloc _).lt (by omega)).cells)
          all_goals (
            go_wp2_with fail
            go_meet
            case rel => exact ⟨_, Hm.out.addKey ((Below.refl _ _).alloc (Nat.le_refl _) _) (by simp) hown1 hgrow hat⟩)
        case rest =>
        obtain ⟨kv2, hm1⟩ := hcut
        clear b4 b5 d0 d1 d2 d3 d4 d5 c4 c5 bf bl hkids0 hvl0 vs0 hkeys hms ck' hkb
        have hmb := hm1.bel
        have y3 := (hmb.block w.heap.size (by omega)).trans Hx3.out
        have b5 : wc.cell? ⟨w.heap.size, 5, none⟩ = some (.slice (some ⟨bc, oc, none⟩) cn cc) := by simp [World.cell?, y3]
        clear y3
        have hct1 := Hct.out.keep (w' := wc) (fun o => hmb.cell (p := ⟨bc, o, none⟩) (by simp; omega))
        obtain ⟨d0, d1, d2, d3, d4, d5⟩ := hct1
        obtain ⟨b0, b1, b2, b3, c4, c5, bf, bl⟩ := hm1.box.cells
        clear b0 b1 b2 b3
        have hms := hm1.size
        obtain ⟨vs0, hvl0, hkids, hkr0⟩ := hm1.kids
        clear hkr0
        have Hm1 := Lib.hid hm1; clear hm1
        clear hmb
        go_wp2_with fail
        go_region_law (refine step_append_lies _ (by rfl) _ _ _ (by rfl) (w.heap.size + 3 + 1) 31 i0 _ 6 88 Tryz.underlying22 hi hz0 hz1 hz2 rfl (by omega) (.slice ca2 cn2 cc2) ts.length _ (by rfl) ((hkids.alloc _).drew) ⟨wc.heap.size, 0, none⟩ 1 1 [.int .i64 kd, .string tx, .float .f64 nm, .bool ys, .slice ka3 kn3 kc3, .slice ca3 cn3 cc3] (by rfl) (by rfl) (World.news_of_block (cs := #[.int .i64 kd, .string tx, .float .f64 nm, .bool ys, .slice ka3 kn3 kc3, .slice ca3 cn3 cc3]) (t := 31) (fr := (0, 0)) (heap_alloc_new wc _)) (by simp [Value.oneCell']) (by omega) (by unfold maxLen; omega) (by omega) (by simp; omega) (wc.heap.size + 1) (by simp) ?_; intro g cap w1 hown1 hgrow hat hlt1; replace hgrow : (wc.alloc (.cells #[.int .i64 kd, .string tx, .float .f64 nm, .bool ys, .slice ka3 kn3 kc3, .slice ca3 cn3 cc3] 31)).grownBy w1 (Value.ownBlock (.slice ca2 cn2 cc2)) := ⟨hgrow.os, hgrow.tape, hgrow.output, hgrow.size, hgrow.block⟩; obtain ⟨_, _, _, _, x4, x5, xf, xl⟩ := (Box6.grown (Hm1.out.box.alloc) hgrow (hkids.alloc _).lt (by omega)).cells)
        all_goals (
          have Hgrow := Lib.hid hgrow; clear hgrow
          go_wp2_with fail
          go_roundw
          case rel =>
            have hm2 := Hm1.out.addKid (v := ⟨kd, tx, nm, ys, ka3, kn3, kc3, ca3, cn3, cc3⟩) (t := kt) rfl ((Below.refl _ _).alloc (Nat.le_refl _) _) (by simp) Hrv.out (fun vs' h1 h2 => by rw [own_uniq h2 hkids]; exact hown1) Hgrow.out hat
            refine ⟨k + 1, _, kv2, .slice (some ⟨g, 0, none⟩) (ts.length + 1) cap, acc1 ++ [(kk, kt)], by omega, by simp, rfl, ⟨?_, ?_, by simp; omega⟩⟩
            · rw [show (acc1 ++ [(kk, kt)]).map (·.1) = ks ++ [kk] by rw [Hks.out]; simp, show (acc1 ++ [(kk, kt)]).map (·.2) = ts ++ [kt] by rw [Hts.out]; simp]
              exact hm2
            · rw [hend.out, if_neg Hke.out]; simp
          case measure => simp [intOf]; omega)
    · obtain rfl : k = cn := by omega
      have hkl0 : (t.keys.zip t.kids).drop k = [] := by
        apply List.drop_eq_nil_of_le
        have := Hkl.out; have := HN.out
        simp; omega
      have Hkl0 := Lib.hid hkl0; clear hkl0
      have Hmb := Lib.hid hmb; clear hmb
      go_upto_if 69 with fail
      go_cut [] from 70 to 81 (fun wm => ∃ kv cv, MapS w0 S (w.heap.size + 3) wm ((acc ++ (if done then [] else [(key, kid)])).map (·.1)) ((acc ++ (if done then [] else [(key, kid)])).map (·.2)) kv cv)
      case first =>
        cases done
        · go_upto_region 14 with fail
          go_cut [] from 70 to 75 (fun wm => ∃ kv, MapS w0 S (w.heap.size + 3) wm (ks ++ [key]) ts kv (.slice ca2 cn2 cc2))
          case first =>
            go_wp2_with (at_builtin; refine wpList_append_lies _ rfl _ _ _ rfl (w.heap.size + 3 + 1) 9 j0 _ 1 16 Tryz.underlying29 ji jz0 jz1 jz2 rfl (by omega) (.slice ka2 kn2 kc2) ks.length _ rfl (hkeys.alloc _) ⟨wr.heap.size, 0, none⟩ 1 1 [.string key] rfl rfl (World.news_of_block (cs := #[.string key]) (t := 9) (fr := (0, 0)) (heap_alloc_new wr _)) (by simp [Value.oneCell']) (by omega) (by unfold maxLen; omega) (by omega) (by simp; omega) (wr.heap.size + 1) (by simp) ?_; intro g cap w1 hown1 hgrow hat hlt1; obtain ⟨_, _, _, _, _, x5, xf, xl⟩ := (Box6.grown (Hm.out.box.alloc) hgrow (hkeys.alloc _).lt (by omega)).cells)
            go_meet
            case rel => exact ⟨_, Hm.out.addKey ((Below.refl _ _).alloc (Nat.le_refl _) _) (by simp) hown1 hgrow hat⟩
          case rest =>
          obtain ⟨kv1, hm1⟩ := hcut
          clear b4 b5 f0 f1 f2 f3 f4 f5 c4 c5 bf bl hkids0 hvl0 vs0 hkeys hms
          have y6 := ((hm1.bel.block (w.heap.size + 1) (by omega)).trans Hx5.out : wc.heap[w.heap.size + 1]? = _)
          obtain ⟨f0, f1, f2, f3, f4, f5, _, _⟩ := Box6.cells (w := wc) (b := w.heap.size + 1) y6
          obtain ⟨b0, b1, b2, b3, c4, c5, bf, bl⟩ := hm1.box.cells
          clear b0 b1 b2 b3 y6
          have hms := hm1.size
          obtain ⟨vs0, hvl0, hkids, hkr0⟩ := hm1.kids
          clear hkr0
          have Hm1 := Lib.hid hm1; clear hm1
          go_wp2_with (at_builtin; refine wpList_append_lies _ rfl _ _ _ rfl (w.heap.size + 3 + 1) 31 i0 _ 6 88 Tryz.underlying22 hi hz0 hz1 hz2 rfl (by omega) (.slice ca2 cn2 cc2) ts.length _ rfl (hkids.alloc _) ⟨wc.heap.size, 0, none⟩ 1 1 [.int .i64 kind', .string text', .float .f64 num', .bool yes', .slice ka' kn' kc', .slice ca' cn' cc'] rfl rfl (World.news_of_block (cs := #[.int .i64 kind', .string text', .float .f64 num', .bool yes', .slice ka' kn' kc', .slice ca' cn' cc']) (t := 31) (fr := (0, 0)) (heap_alloc_new wc _)) (by simp [Value.oneCell']) (by omega) (by unfold maxLen; omega) (by omega) (by simp; omega) (wc.heap.size + 1) (by simp) ?_; intro g cap w1 hown1 hgrow hat hlt1; obtain ⟨_, _, _, _, z4, z5, zf, zl⟩ := (Box6.grown (Hm1.out.box.alloc) hgrow (hkids.alloc _).lt (by omega)).cells)
          go_meet
          case rel =>
            refine ⟨kv1, .slice (some ⟨g, 0, none⟩) (ts.length + 1) cap, ?_⟩
            rw [show (acc ++ (if false = true then [] else [(key, kid)])).map (·.1) = ks ++ [key] by rw [Hks.out]; simp, show (acc ++ (if false = true then [] else [(key, kid)])).map (·.2) = ts ++ [kid] by rw [Hts.out]; simp]
            exact Hm1.out.addKid (v := ⟨kind', text', num', yes', ka', kn', kc', ca', cn', cc'⟩) (t := kid) rfl ((Below.refl _ _).alloc (Nat.le_refl _) _) (by simp) Hu0.out (fun vs' h1 h2 => by rw [own_uniq h2 hkids]; exact hown1) hgrow hat
        · go_wp2_with fail
          go_meet
          case rel =>
            refine ⟨.slice ka2 kn2 kc2, .slice ca2 cn2 cc2, ?_⟩
            simp only [if_true, List.append_nil]
            rw [← Hks.out, ← Hts.out]
            exact Hm.out
      case rest =>
      obtain ⟨kv1, cv1, hm1⟩ := hcut
      clear b4 b5 f0 f1 f2 f3 f4 f5 c4 c5 bf bl hkids0 hvl0 vs0 hkeys hms
      obtain ⟨ka4, kn4, kc4, rfl⟩ : ∃ a n c, kv1 = .slice a n c := by
        rcases hm1.keys.2 with ⟨e, _⟩ | ⟨g, cap, cur, e, _⟩
        · exact ⟨_, _, _, e⟩
        · exact ⟨_, _, _, e⟩
      obtain ⟨ca4, cn4, cc4, rfl⟩ : ∃ a n c, cv1 = .slice a n c := by
        obtain ⟨vs9, _, hk9, _⟩ := hm1.kids
        rcases hk9.2 with ⟨e, _⟩ | ⟨g, cap, cur, e, _⟩
        · exact ⟨_, _, _, e⟩
        · exact ⟨_, _, _, e⟩
      have hz6 : Zero6 wc (w.heap.size + 2) := (hm1.bel.block (w.heap.size + 2) (by omega)).trans Hx6.out
      obtain ⟨b0, b1, b2, b3, b4, b5, bf, bl⟩ := hm1.box.cells
      obtain ⟨z0, z1, z2, z3, z4, z5, zf, zl⟩ := hz6.cells
      have Hm1 := Lib.hid hm1; clear hm1
      go_wp2_with fail
      obtain ⟨p0, p1, p2, p3, p4, p5, _, _⟩ := (hz6.put6 (.int .i64 5) (.string ⟨#[]⟩) (.float .f64 0) (.bool false) (.slice ka4 kn4 kc4) (.slice ca4 cn4 cc4)).cells
      refine bodyPost_ret (v := .agg #[.int .i64 5, .string ⟨#[]⟩, .float .f64 0, .bool false, .slice ka4 kn4 kc4, .slice ca4 cn4 cc4]) (by simp [results, Tryz.results45, go_sem, p0, p1, p2, p3, p4, p5]) rfl ?_
      have hbel : Below w.heap.size w wc := Hb0.out.trans (Hm1.out.bel.mono (by omega))
      refine ⟨⟨5, ⟨#[]⟩, 0, false, ka4, kn4, kc4, ca4, cn4, cc4⟩, rfl, ?_, Below.put6 hbel (by omega) _ _ _ _ _ _⟩
      have hE : withE key kid false (t.keys.zip t.kids) = acc ++ (if done then [] else [(key, kid)]) := by
        rw [Heq.out, Hkl0.out]; rfl
      have hl9 : (acc ++ (if done then [] else [(key, kid)])).length ≤ 2 * k + 1 := by split <;> simp <;> omega
      rw [hE]
      have hrep := Hm1.out.rep (fun b hb => by have := HS.out b hb; omega) (by rw [List.length_map]; omega) (by rw [List.length_map]; omega) (w.heap.size + 3) (by omega)
      refine (hrep.keep (w' := _) ?_).mono (fun b _ hb => ?_)
      · intro b hb hlt9
        have hne : b ≠ w.heap.size + 2 := by
          rcases hb with hb | hb
          · have := HS.out b hb; omega
          · omega
        exact (grownBy_put6 wc (w.heap.size + 2) _ _ _ _ _ _).block b hlt9 (by intro e; injection e with e; exact hne e)
      · rcases hb with hb | hb
        · exact .inl hb
        · exact .inr (by omega)
end Go.Proofs.YtbcnhcpgloncdaaGreatDoor
