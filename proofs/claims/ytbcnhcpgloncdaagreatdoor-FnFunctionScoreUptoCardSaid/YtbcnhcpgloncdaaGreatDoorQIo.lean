/- 'ReadBeside', 'ReadBool': a query of a kind, as it is read. -/
import Derived.Test.YtbcnhcpgloncdaaGreatDoorQIn
namespace Go.Proofs.YtbcnhcpgloncdaaGreatDoor
open Go Go.RowKit Go.BigFrame

def besideStep (lists : List ByteArray) (out : List (ByteArray × Tr)) (p : ByteArray × Tr) : List (ByteArray × Tr) := match besideKid lists p.1 p.2 with | some u => withE p.1 u false out | none => out
theorem besideE_snoc (lists : List ByteArray) (X : List (ByteArray × Tr)) (p : ByteArray × Tr) : besideE lists (X ++ [p]) = besideStep lists (besideE lists X) p := by
  unfold besideE
  rw [List.foldl_append]; rfl
theorem besideE_length (lists : List ByteArray) (X : List (ByteArray × Tr)) : (besideE lists X).length ≤ X.length := by
  induction X using snoc_ind with
  | h0 => simp [besideE]
  | h1 X p ih =>
    rw [besideE_snoc, List.length_append, List.length_singleton]
    unfold besideStep
    split
    · rename_i u _
      have := with_length p.1 u (besideE lists X)
      omega
    · omega

theorem zero_after {w w' : World} (h : Below (w.alloc (.cells #[.int .i64 0, .string ⟨#[]⟩, .float .f64 0, .bool false, .slice none 0 0, .slice none 0 0] 31)).heap.size (w.alloc (.cells #[.int .i64 0, .string ⟨#[]⟩, .float .f64 0, .bool false, .slice none 0 0, .slice none 0 0] 31)) w') : Zero6 w' w.heap.size := Box6.below (heap_alloc_new w _) h
theorem zero_after' {w w' : World} (h : Below (w.alloc (.cells #[.int .i64 0, .string ⟨#[]⟩, .float .f64 0, .bool false, .slice none 0 0, .slice none 0 0] 31)).drew.heap.size (w.alloc (.cells #[.int .i64 0, .string ⟨#[]⟩, .float .f64 0, .bool false, .slice none 0 0, .slice none 0 0] 31)).drew w') : Zero6 w' w.heap.size := zero_after ⟨h.os, h.tape, h.output, h.size, h.block⟩
theorem later_alloc {w w' : World} (h : Below (w.alloc (.cells #[.int .i64 0, .string ⟨#[]⟩, .float .f64 0, .bool false, .slice none 0 0, .slice none 0 0] 31)).heap.size (w.alloc (.cells #[.int .i64 0, .string ⟨#[]⟩, .float .f64 0, .bool false, .slice none 0 0, .slice none 0 0] 31)) w') : Below w.heap.size w w' := via ((Below.refl _ w).alloc (Nat.le_refl _) _) h
theorem later_drew {w w' : World} (h : Below w.drew.heap.size w.drew w') : Below w.heap.size w w' := Below.undrew h
theorem later_alloc_drew {w w' : World} (h : Below (w.alloc (.cells #[.int .i64 0, .string ⟨#[]⟩, .float .f64 0, .bool false, .slice none 0 0, .slice none 0 0] 31)).drew.heap.size (w.alloc (.cells #[.int .i64 0, .string ⟨#[]⟩, .float .f64 0, .bool false, .slice none 0 0, .slice none 0 0] 31)).drew w') : Below w.heap.size w w' := later_alloc (later_drew h)
theorem later_same {w w' : World} (h : Below w.heap.size w w') : Below w.heap.size w w' := h
theorem strs_of_heap {w : World} {pb : Nat} (h : w.heap[pb]? = some (.cells (placesL.map Value.string).toArray 9 (0, 0))) : StrsAt w (fun _ => True) (some ⟨pb, 0, none⟩) placesB := by
  intro _
  refine ⟨pb, 0, rfl, trivial, fun i hi j u hu => ?_⟩
  rw [List.getElem?_singleton] at hu
  split at hu
  · rename_i hj
    cases hu; subst hj
    rw [show 0 + i * 1 + 0 = i by omega]
    have e : placesL = placesB := rfl
    rw [e] at h
    simp [World.cell?, h, hi]
  · cases hu
/-- 'List' of one tree, laid new. -/
theorem list_one (v : TV) (t : Tr) (S : Nat → Prop) (w : World) (h : RepT w S v t) :
    Calls Tryz.prog 47 #[.slice (some ⟨w.heap.size, 0, none⟩) 1 1] (w.alloc (.cells #[.int .i64 v.kind, .string v.text, .float .f64 v.num, .bool v.yes, .slice v.ka v.kn v.kc, .slice v.ca v.cn v.cc] 31))
      fun e w' => ∃ v' : TV, e = .returned v'.val ∧ RepT w' (fun b => S b ∨ w.heap.size ≤ b) v' (listT [t]) ∧ Below w.heap.size w w' := by
  have hb := (Below.refl w.heap.size w).alloc (Nat.le_refl _) (.cells #[.int .i64 v.kind, .string v.text, .float .f64 v.num, .bool v.yes, .slice v.ka v.kn v.kc, .slice v.ca v.cn v.cc] 31)
  have hts : TreesAt (w.alloc (.cells #[.int .i64 v.kind, .string v.text, .float .f64 v.num, .bool v.yes, .slice v.ka v.kn v.kc, .slice v.ca v.cn v.cc] 31)) (fun b => S b ∨ w.heap.size ≤ b) (some ⟨w.heap.size, 0, none⟩) [t] := by
    refine ⟨fun _ => v, ?_, ?_⟩
    · intro _
      refine ⟨w.heap.size, 0, rfl, .inr (Nat.le_refl _), fun i hi j u hu => ?_⟩
      have h0 : i = 0 := by simpa using hi
      subst h0
      have := World.cell?_alloc_new w #[.int .i64 v.kind, .string v.text, .float .f64 v.num, .bool v.yes, .slice v.ka v.kn v.kc, .slice v.ca v.cn v.cc] 31 (0 + 0 * 6 + j)
      rw [this, ← hu]
      simp
    · intro i s hs
      have h0 : i = 0 := by have := (List.getElem?_eq_some_iff.1 hs).1; simpa using this
      subst h0
      simp at hs
      subst hs
      exact (h.mono (fun b _ hb => .inl hb)).keep (Keeps.of_below _ hb)
  refine (list_any [t] _ _ 1 _ hts (by simp)).mono ?_
  rintro e w' ⟨v', rfl, hv, hb'⟩
  refine ⟨v', rfl, hv.mono (fun b _ hb => ?_), via hb hb'⟩
  rcases hb with hb | hb
  · exact hb
  · simp at hb; exact .inr (by omega)

set_option maxRecDepth 100000 in
set_option maxHeartbeats 8000000 in
theorem readBeside_any (kind : ByteArray) (x : Tr) (lists : List ByteArray) (v : TV) (al : Option Addr) (cl : Nat) (S : Nat → Prop) (w : World) (hv : RepT w S v (mapT [kind] [x])) (hS : ∀ b, S b → b < w.heap.size) (hx5 : x.kind = 5) (hxl : x.keys.length = x.kids.length) (hxn : x.kids.length ≤ 1000000)
    (hls : StrsAt w (fun _ => True) al lists) (hll : lists.length ≤ 1000) :
    Calls Tryz.prog 40 #[.string kind, v.val, .slice al lists.length cl] w (TreeS w S (mapT [kind] [mapE (besideE lists (prs x))])) := by
  have Hv := Lib.hid hv; clear hv
  have hnS : ∀ b, w.heap.size ≤ b → ¬ S b := fun b hb h => by have := hS b h; omega
  have HnS := Lib.hid hnS; clear hnS
  have HS := Lib.hid hS; clear hS
  have Hls := Lib.hid hls; clear hls
  have Hx5 := Lib.hid hx5; clear hx5
  have Hxl := Lib.hid hxl; clear hxl
  have hw := fun w' hb => within_any (mapT [kind] [x]) x v kind w' S (fun b hb' => Nat.lt_of_lt_of_le (HS.out b hb') (Below.size hb)) (Hv.out.keep (Keeps.of_below _ hb)) rfl rfl rfl (by simp [prs, mapT, Tr.keys, Tr.kids, lookE]) Hx5.out
  have Hw := Lib.hid hw; clear hw Hv
  obtain ⟨kd, tx, nm, ys, ka, kn, kc, ca, cn, cc⟩ := v
  go_enter Tryz.func40, Tryz.ntmps40
  go_wp2_with fail
  have hb0 : Below w.heap.size w ((w.alloc (.cells #[.int .i64 kd, .string tx, .float .f64 nm, .bool ys, .slice ka kn kc, .slice ca cn cc] 31)).alloc (.cells #[.int .i64 0, .string ⟨#[]⟩, .float .f64 0, .bool false, .slice none 0 0, .slice none 0 0] 31)) := ((Below.refl _ _).alloc (Nat.le_refl _) _).alloc (by simp) _
  have hz0 := heap_alloc_new (w.alloc (.cells #[.int .i64 kd, .string tx, .float .f64 nm, .bool ys, .slice ka kn kc, .slice ca cn cc] 31)) (.cells #[.int .i64 0, .string ⟨#[]⟩, .float .f64 0, .bool false, .slice none 0 0, .slice none 0 0] 31)
  rw [World.size_alloc] at hz0
  refine (Hw.out _ hb0).mono ?_
  rintro e w2 ⟨⟨xk, xt, xn, xy, xka, xkn, xkc, xca, xcn, xcc⟩, rfl, hx, hb2⟩
  have Hz2 : Hid (Zero6 w2 (w.heap.size + 1)) := Lib.hid (Box6.below hz0 hb2)
  have hs2 := hb2.size
  simp only [World.size_alloc] at hs2
  have Hb2 := Lib.hid (via hb0 hb2); clear hb2 hb0 hz0
  obtain ⟨e1, e2, e3, e4, e5, e6⟩ := hx.eqs
  clear e2 e3 e4
  have Hx := Lib.hid hx; clear hx
  simp only at e1 e5 e6
  rw [Hx5.out] at e1
  have hkn : xkn = xcn := by rw [e5, e6, Hxl.out]
  subst hkn e1
  have Hxn : Hid (xkn = x.kids.length) := Lib.hid e6
  have hxn' : xkn ≤ 1000000 := by omega
  clear e5 e6 hxn
  go_wp2_with fail
  have hbx : Below w2.heap.size w2 (w2.alloc (.cells #[.int .i64 5, .string xt, .float .f64 xn, .bool xy, .slice xka xkn xkc, .slice xca xkn xcc] 31)) := (Below.refl _ _).alloc (Nat.le_refl _) _
  have Hxb : Hid (Box6 _ w2.heap.size (.int .i64 5) (.string xt) (.float .f64 xn) (.bool xy) (.slice xka xkn xkc) (.slice xca xkn xcc)) := Lib.hid (heap_alloc_new w2 (.cells #[.int .i64 5, .string xt, .float .f64 xn, .bool xy, .slice xka xkn xkc, .slice xca xkn xcc] 31))
  refine (map_made [] (fun _ => False) none 0 _ ⟨fun _ => default, SliceAt.nil, fun i s h => by simp at h⟩ (fun _ h => h.elim) (by simp)).mono ?_
  rintro e w3 ⟨⟨ok, ot, on, oy, oka, okn, okc, oca, ocn, occ⟩, rfl, ho, hb3⟩
  have hs3 := hb3.size
  simp only [World.size_alloc] at hs3
  have Ho := Lib.hid ho; clear ho
  have Hz3 := Lib.hid ((Hz2.out.below hbx).below hb3)
  have Hxb3 := Lib.hid (Hxb.out.below hb3)
  have Hx3 := Lib.hid (Hx.out.keep (Keeps.of_below _ (via hbx hb3)))
  have Hb3 := Lib.hid (via Hb2.out (via hbx hb3))
  clear Hz2 Hxb Hx Hb2 hbx hb3
  go_wp2_with fail
  have hz4 := Hz3.out.alloc (o := .cells #[.int .i64 ok, .string ot, .float .f64 on, .bool oy, .slice oka okn okc, .slice oca ocn occ] 31)
  have hxb4 := Hxb3.out.alloc (o := .cells #[.int .i64 ok, .string ot, .float .f64 on, .bool oy, .slice oka okn okc, .slice oca ocn occ] 31)
  have hba : Below w3.heap.size w3 (w3.alloc (.cells #[.int .i64 ok, .string ot, .float .f64 on, .bool oy, .slice oka okn okc, .slice oca ocn occ] 31)) := (Below.refl _ _).alloc (Nat.le_refl _) _
  have hx4 := Hx3.out.keep (Keeps.of_below _ hba)
  have hob4 : TBox (w3.alloc (.cells #[.int .i64 ok, .string ot, .float .f64 on, .bool oy, .slice oka okn okc, .slice oca ocn occ] 31)) (fun b => S b ∨ (w.heap.size ≤ b ∧ b ≠ w.heap.size + 1 ∧ b ≠ w3.heap.size)) w3.heap.size (mapE []) :=
    ⟨⟨ok, ot, on, oy, oka, okn, okc, oca, ocn, occ⟩, heap_alloc_new w3 _, (Ho.out.mono (S' := fun b => S b ∨ (w.heap.size ≤ b ∧ b ≠ w.heap.size + 1 ∧ b ≠ w3.heap.size)) (fun b hb hS => by rcases hS with h | h; exact h.elim; simp at h; exact .inr (by omega))).keep (Keeps.of_below _ hba)⟩
  have Hob4 := Lib.hid hob4
  have Hz4 := Lib.hid hz4
  have Hxb4 := Lib.hid hxb4
  have Hx4 := Lib.hid hx4
  have Hb4 := Lib.hid (via Hb3.out hba)
  clear hob4 hz4 hxb4 hx4 hba Hz3 Hxb3 Hx3 Hb3 Ho
  go_loopw [10] (fun i wr => ∃ k : Nat, k ≤ xkn ∧ i = .int .i64 k ∧ Box6 wr w2.heap.size (.int .i64 5) (.string xt) (.float .f64 xn) (.bool xy) (.slice xka xkn xkc) (.slice xca xkn xcc) ∧
    RepT wr S ⟨5, xt, xn, xy, xka, xkn, xkc, xca, xkn, xcc⟩ x ∧ TBox wr (fun b => S b ∨ (w.heap.size ≤ b ∧ b ≠ w.heap.size + 1 ∧ b ≠ w3.heap.size)) w3.heap.size (mapE (besideE lists ((prs x).take k))) ∧ Zero6 wr (w.heap.size + 1) ∧ Below w.heap.size w wr) (fun i _ => xkn - (intOf i).toNat)
  case atStart => exact ⟨0, Nat.zero_le _, rfl, Hxb4.out, Hx4.out, by rw [List.take_zero]; exact Hob4.out, Hz4.out, Hb4.out⟩
  case round =>
    clear Hxb4 Hx4 Hob4 Hz4 Hb4
    obtain ⟨k, hk, rfl, hxb, hx, hout, hz, hbel⟩ := hrel
    by_cases hlt : k < xkn
    · have hltc : k < x.kids.length := by rw [← Hxn.out]; exact hlt
      have hltk : k < x.keys.length := by rw [Hxl.out]; exact hltc
      obtain ⟨bk, ok', hka, hSk, hlbk, ck⟩ := hx.key (k := k) hltk
      obtain ⟨bc, oc, v', hca, hSc, hlbc, ⟨d0, d1, d2, d3, d4, d5⟩, hrv⟩ := hx.kid (k := k) hltc
      simp only at hka hca
      subst hka
      subst hca
      have Htake : Hid ((prs x).take (k + 1) = (prs x).take k ++ [(x.keys[k], x.kids[k])]) := Lib.hid (by
        have hpl : k < (prs x).length := by unfold prs; rw [List.length_zip]; omega
        rw [List.take_succ_eq_append_getElem hpl]
        simp [prs])
      have Hlen : Hid ((besideE lists ((prs x).take k)).length ≤ k) := Lib.hid (Nat.le_trans (besideE_length _ _) (by rw [List.length_take]; omega))
      generalize x.keys[k] = kk at *
      generalize x.kids[k] = kt at *
      obtain ⟨m, hm⟩ : ∃ m, m = memB kk lists := ⟨_, rfl⟩
      have hHas := fun wx hb => has_any lists kk _ al cl wx (Hls.out.keep (Keeps.of_below _ hb)) (by omega)
      rw [← hm] at hHas
      have Hm := Lib.hid hm; clear hm
      have HHas := Lib.hid hHas; clear hHas
      obtain ⟨q1, q2, q3, q4, q5, q6⟩ := hrv.eqs
      have Q1 := Lib.hid q1
      have Q6 := Lib.hid q6
      clear q1 q2 q3 q4 q5 q6 hSk hSc
      obtain ⟨kd3, tx3, nm3, ys3, ka3, kn3, kc3, ca3, cn3, cc3⟩ := v'
      simp only at d0 d1 d2 d3 d4 d5 Q1 Q6
      obtain ⟨x0, x1, x2, x3, x4, x5, xf, xl⟩ := hxb.cells
      clear x0 x1 x2 x3
      have hol := hout.lt
      have hzl : w.heap.size + 1 < wr.heap.size := (Array.getElem?_eq_some_iff.1 hz).1
      have hsz := hbel.size
      have Hrv := Lib.hid hrv; clear hrv
      have Hx := Lib.hid hx; clear hx
      have Hxb := Lib.hid hxb; clear hxb
      have Hout := Lib.hid hout; clear hout
      have Hz := Lib.hid hz; clear hz
      have Hbel := Lib.hid hbel; clear hbel
      have hi1 : (0 : Int) ≤ (k : Int) := by omega
      have hi2 : (k : Int) < (xkn : Int) := by omega
      obtain ⟨u, hu⟩ : ∃ u, u = if m && !(decide (kt.kind = 4)) && !(decide (kt.kind = 0)) then listT [kt] else kt := ⟨_, rfl⟩
      have Hu := Lib.hid hu; clear hu
      have hw4 : Below wr.heap.size wr (wr.alloc (.cells #[.int .i64 kd3, .string tx3, .float .f64 nm3, .bool ys3, .slice ka3 kn3 kc3, .slice ca3 cn3 cc3] 31)) := (Below.refl _ _).alloc (Nat.le_refl _) _
      have Hkb4 : Hid (Box6 _ wr.heap.size (.int .i64 kd3) (.string tx3) (.float .f64 nm3) (.bool ys3) (.slice ka3 kn3 kc3) (.slice ca3 cn3 cc3)) := Lib.hid (heap_alloc_new wr (.cells #[.int .i64 kd3, .string tx3, .float .f64 nm3, .bool ys3, .slice ka3 kn3 kc3, .slice ca3 cn3 cc3] 31))
      have Hrv4 := Lib.hid (Hrv.out.keep (Keeps.of_below _ hw4))
      have Hw4 := Lib.hid hw4; clear hw4
      obtain ⟨wrp, hwrp⟩ : ∃ b, b = (m && !(decide (kd3 = 4)) && !(decide (kd3 = 0))) := ⟨_, rfl⟩
      have hu2 : u = if wrp then listT [kt] else kt := by rw [Hu.out, hwrp, Q1.out]
      have Hu2 := Lib.hid hu2; clear hu2
      have Hwrp := Lib.hid hwrp; clear hwrp
      go_upto_region 9 with fail
      go_cut [50] from 34 to 49 (fun c wx => c = .bool wrp ∧ wr.alloc (.cells #[.int .i64 kd3, .string tx3, .float .f64 nm3, .bool ys3, .slice ka3 kn3 kc3, .slice ca3 cn3 cc3] 31) = wx)
      case first =>
        cases m with
        | false =>
          go_wp2_with (go_at_call 43; refine (HHas.out _ (via Hbel.out Hw4.out)).mono ?_; rintro e w' ⟨rfl, rfl⟩)
          go_meet
          case rel => exact ⟨by rw [Hwrp.out]; rfl, rfl⟩
        | true =>
          by_cases h4 : kd3 = 4
          · have h4' : (kd3 != 4) = false := by rw [h4]; rfl
            have H4 := Lib.hid h4; clear h4
            go_wp2_with (go_at_call 43; refine (HHas.out _ (via Hbel.out Hw4.out)).mono ?_; rintro e w' ⟨rfl, rfl⟩)
            go_meet
            case rel => exact ⟨by rw [Hwrp.out, H4.out]; rfl, rfl⟩
          · have h4' : (kd3 != 4) = true := by rw [bne_iff_ne]; exact h4
            have H4 := Lib.hid h4; clear h4
            by_cases h0 : kd3 = 0
            · have h0' : (kd3 != 0) = false := by rw [h0]; rfl
              have H0 := Lib.hid h0; clear h0
              go_wp2_with (go_at_call 43; refine (HHas.out _ (via Hbel.out Hw4.out)).mono ?_; rintro e w' ⟨rfl, rfl⟩)
              go_meet
              case rel => exact ⟨by rw [Hwrp.out, H0.out]; rfl, rfl⟩
            · have h0' : (kd3 != 0) = true := by rw [bne_iff_ne]; exact h0
              have H0 := Lib.hid h0; clear h0
              go_wp2_with (go_at_call 43; refine (HHas.out _ (via Hbel.out Hw4.out)).mono ?_; rintro e w' ⟨rfl, rfl⟩)
              go_meet
              case rel => exact ⟨by rw [Hwrp.out]; simp [H4.out, H0.out], rfl⟩
      case rest =>
      obtain ⟨rfl, rfl⟩ := hcut
      go_upto_if 50 with fail
      go_cut [] from 51 to 53 (fun wm => ∃ v : TV, Box6 wm wr.heap.size (.int .i64 v.kind) (.string v.text) (.float .f64 v.num) (.bool v.yes) (.slice v.ka v.kn v.kc) (.slice v.ca v.cn v.cc) ∧ RepT wm (fun b => S b ∨ wr.heap.size + 1 ≤ b) v u ∧ Below wr.heap.size wr wm)
      case first =>
        cases wrp with
        | false =>
          go_wp2_with fail
          go_meet
          case rel => exact ⟨⟨kd3, tx3, nm3, ys3, ka3, kn3, kc3, ca3, cn3, cc3⟩, Hkb4.out, by rw [Hu2.out]; exact Hrv4.out.mono (fun b _ hb => .inl hb), Hw4.out⟩
        | true =>
          have hl1 := list_one ⟨kd3, tx3, nm3, ys3, ka3, kn3, kc3, ca3, cn3, cc3⟩ kt S _ Hrv4.out
          simp only [World.size_alloc] at hl1
          have Hl1 := Lib.hid hl1; clear hl1
          go_wp2_with (go_at_call 47; refine Hl1.out.mono ?_; rintro e w5 ⟨⟨kd5, tx5, nm5, ys5, ka5, kn5, kc5, ca5, cn5, cc5⟩, rfl, hl5, hb5⟩; obtain ⟨z0, z1, z2, z3, z4, z5, zf, zl⟩ := (Box6.keep Hkb4.out (hb5.block wr.heap.size (by omega))).cells)
          go_meet
          case rel =>
            have hkb5 := Box6.keep Hkb4.out (hb5.block wr.heap.size (by omega))
            exact ⟨⟨kd5, tx5, nm5, ys5, ka5, kn5, kc5, ca5, cn5, cc5⟩, hkb5.put6 _ _ _ _ _ _, by rw [Hu2.out]; exact hl5.put6 (fun h => by rcases h with h | h; exact HnS.out _ (by omega) h; omega) _ _ _ _ _ _, Below.put6' (Hw4.out.trans (hb5.mono (by omega))) (Nat.le_refl _) _ _ _ _ _ _⟩
      case rest =>
      obtain ⟨⟨kd4, tx4, nm4, ys4, ka4, kn4, kc4, ca4, cn4, cc4⟩, hkb, hkr, hbm⟩ := hcut
      simp only at hkb
      obtain ⟨r1, r2, r3, r4, r5, r6⟩ := hkr.eqs
      clear r2 r3 r4 r5
      simp only at r1 r6
      have R1 := Lib.hid r1; clear r1
      have R6 := Lib.hid r6; clear r6
      have hbm' := hbm
      have hsm : wr.heap.size < wc.heap.size := (Array.getElem?_eq_some_iff.1 hkb).1
      have hxb5 := Hxb.out.below hbm'
      obtain ⟨x0, x1, x2', x3', x4', x5', xf', xl'⟩ := hxb5.cells
      clear x0 x1 x2' x3' x4 x5 xf xl d0 d1 d2 d3 d4 d5
      have ck5 := (hbm'.cell (p := ⟨bk, ok' + k, none⟩) hlbk).trans ck
      obtain ⟨y0, y1, y2, y3, y4, y5, yf, yl⟩ := hkb.cells
      have Hkr := Lib.hid hkr; clear hkr
      have Hbm := Lib.hid hbm'; clear hbm hbm'
      have Hkb := Lib.hid hkb; clear hkb Hkb4 Hrv4 Hw4 Hrv
      obtain ⟨skip, hskip⟩ : ∃ b, b = (decide (kd4 = 0) || (m && decide (cn4 = 0))) := ⟨_, rfl⟩
      have hbk : besideKid lists kk kt = if skip then none else some u := by
        have e1 : besideKid lists kk kt = if u.kind = 0 ∨ (m = true ∧ u.kids.length = 0) then none else some u := by
          unfold besideKid
          rw [← Hm.out, ← Hu.out]
        rw [e1, hskip, R1.out, R6.out]
        simp
      have Hbk := Lib.hid hbk; clear hbk
      have Hskip := Lib.hid hskip; clear hskip
      clear ck
      go_upto_region 11 with fail
      go_cut [71] from 54 to 70 (fun c wx => c = .bool skip ∧ wc = wx)
      case first =>
        by_cases h0 : kd4 = 0
        · have h0' : (kd4 == 0) = true := by rw [h0]; rfl
          have H0 := Lib.hid h0; clear h0
          go_wp2_with fail
          go_meet
          case rel => exact ⟨by rw [Hskip.out, H0.out]; simp, rfl⟩
        · have h0' : (kd4 == 0) = false := by rw [beq_eq_false_iff_ne]; exact h0
          have H0 := Lib.hid h0; clear h0
          cases m with
          | false =>
            go_wp2_with (go_at_call 43; refine (HHas.out _ (via Hbel.out Hbm.out)).mono ?_; rintro e w' ⟨rfl, rfl⟩)
            go_meet
            case rel => exact ⟨by rw [Hskip.out]; simp [H0.out], rfl⟩
          | true =>
            by_cases hc0 : cn4 = 0
            · have hc0' : ((cn4 : Int) == 0) = true := by rw [hc0]; rfl
              have HC0 := Lib.hid hc0; clear hc0
              go_wp2_with (go_at_call 43; refine (HHas.out _ (via Hbel.out Hbm.out)).mono ?_; rintro e w' ⟨rfl, rfl⟩)
              go_meet
              case rel => exact ⟨by rw [Hskip.out]; simp [HC0.out], rfl⟩
            · have hc0' : ((cn4 : Int) == 0) = false := by rw [beq_eq_false_iff_ne]; omega
              have HC0 := Lib.hid hc0; clear hc0
              go_wp2_with (go_at_call 43; refine (HHas.out _ (via Hbel.out Hbm.out)).mono ?_; rintro e w' ⟨rfl, rfl⟩)
              go_meet
              case rel => exact ⟨by rw [Hskip.out]; simp [H0.out, HC0.out], rfl⟩
      case rest =>
      obtain ⟨rfl, rfl⟩ := hcut
      go_upto_if 71 with fail
      cases skip with
      | true =>
        go_wp2_with fail
        go_roundw
        case rel => exact ⟨k + 1, by omega, by simp, Hxb.out.below Hbm.out, Hx.out.keep (Keeps.of_below _ Hbm.out), by rw [Htake.out, besideE_snoc]; unfold besideStep; rw [Hbk.out]; exact Hout.out.below Hbm.out, Hz.out.below Hbm.out, via Hbel.out Hbm.out⟩
        case measure => simp [intOf]; omega
      | false =>
        obtain ⟨⟨vk, vt, vn, vy, vka, vkn, vkc, vca, vcn, vcc⟩, hbox, hvo⟩ := (Hout.out.below Hbm.out).box
        have hc : ∀ wx, Below wc.heap.size wc wx → Calls Tryz.prog 45 #[TV.val ⟨vk, vt, vn, vy, vka, vkn, vkc, vca, vcn, vcc⟩, .string kk, TV.val ⟨kd4, tx4, nm4, ys4, ka4, kn4, kc4, ca4, cn4, cc4⟩] wx fun e w' => ∃ v' : TV, e = .returned v'.val ∧ RepT w' (fun b => S b ∨ (w.heap.size ≤ b ∧ b ≠ w.heap.size + 1 ∧ b ≠ w3.heap.size)) v' (mapE (besideE lists ((prs x).take (k + 1)))) ∧ Below wc.heap.size wc w' := by
          intro wx hbx
          have hsx := hbx.size
          have h1 := (hvo.mono (S' := fun b => b < wc.heap.size ∧ (S b ∨ (w.heap.size ≤ b ∧ b ≠ w.heap.size + 1 ∧ b ≠ w3.heap.size))) (fun b hb h => ⟨hb, h⟩)).keep (Keeps.of_below _ hbx)
          have h2 := (Hkr.out.mono (S' := fun b => b < wc.heap.size ∧ (S b ∨ (w.heap.size ≤ b ∧ b ≠ w.heap.size + 1 ∧ b ≠ w3.heap.size))) (fun b hb h => ⟨hb, by rcases h with h | h; exact .inl h; exact .inr (by omega)⟩)).keep (Keeps.of_below _ hbx)
          refine (with_any _ _ kk _ _ _ wx h1 h2 (fun b hb => by omega) (by rw [mapE_keys, mapE_kids, List.length_map, List.length_map]) (by rw [mapE_kids, List.length_map]; have := Hlen.out; omega)).mono ?_
          rintro e w' ⟨v', rfl, hv', hb'⟩
          refine ⟨v', rfl, ?_, via hbx hb'⟩
          rw [Htake.out, besideE_snoc]
          unfold besideStep
          rw [Hbk.out]
          have e1 := prs_mapE (besideE lists ((prs x).take k))
          unfold prs at e1
          unfold prs at hv'
          rw [e1] at hv'
          exact hv'.mono (fun b _ hb => by rcases hb with hb | hb; exact hb.2; exact .inr (by omega))
        have Hc := Lib.hid hc; clear hc
        obtain ⟨o0, o1, o2, o3, o4, o5, of', ol'⟩ := hbox.cells
        simp only at o0 o1 o2 o3 o4 o5
        have Hbox := Lib.hid hbox; clear hbox hvo
        have Hz5 := Lib.hid (Hz.out.below Hbm.out)
        have hbm5 := Hbm.out.size
        go_wp2_with fail
        go_region_law (go_simp; go_at_call 45; refine (Hc.out _ (by first | exact Below.refl _ _ | exact (Below.refl _ _).drew)).mono ?_; rintro e w5 ⟨⟨kind2, text2, num2, yes2, ka2, kn2, kc2, ca2, cn2, cc2⟩, rfl, hV, hb5⟩; have hbox5 := Hbox.out.below hb5; obtain ⟨z0, z1, z2, z3, z4, z5, zf, zl⟩ := hbox5.cells)
        all_goals (
          go_wp2_with fail
          go_roundw
          case rel =>
            have hbc := Hbm.out.trans (hb5.mono hbm5)
            have hgp := grownBy_put6 w5 w3.heap.size (.int .i64 kind2) (.string text2) (.float .f64 num2) (.bool yes2) (.slice ka2 kn2 kc2) (.slice ca2 cn2 cc2)
            have hs5 := hb5.size
            refine ⟨k + 1, by omega, by simp, (Hxb.out.below hbc).keep (hgp.block w2.heap.size (by omega) (by simp; omega)), (Hx.out.keep (Keeps.of_below _ hbc)).put6 (HnS.out _ (by omega)) _ _ _ _ _ _, TBox.put (fun h => by rcases h with h | h; exact HnS.out _ (by omega) h; exact h.2.2 rfl) hbox5 ⟨kind2, text2, num2, yes2, ka2, kn2, kc2, ca2, cn2, cc2⟩ _ hV, (Hz.out.below hbc).keep (hgp.block (w.heap.size + 1) (by omega) (by simp; omega)), Below.put6' (via Hbel.out hbc) (by omega) _ _ _ _ _ _⟩
          case measure => simp [intOf]; omega)
    · obtain rfl : k = xkn := by omega
      have htk : (prs x).take k = prs x := List.take_of_length_le (by unfold prs; rw [List.length_zip, ← Hxn.out]; omega)
      rw [htk] at hout
      obtain ⟨⟨vk, vt, vn, vy, vka, vkn, vkc, vca, vcn, vcc⟩, hbox, hvo⟩ := hout.box
      obtain ⟨o0, o1, o2, o3, o4, o5, of', ol'⟩ := hbox.cells
      simp only at o0 o1 o2 o3 o4 o5
      obtain ⟨x0, x1, x2, x3, x4, x5, xf, xl⟩ := hxb.cells
      clear x0 x1 x2 x3 x5
      have hm1 := map_one kind _ _ _ wr hvo
      have Hm1 := Lib.hid hm1; clear hm1
      have hsz := hbel.size
      have hzl : w.heap.size + 1 < wr.heap.size := (Array.getElem?_eq_some_iff.1 hz).1
      have Hz := Lib.hid hz; clear hz
      have Hbel := Lib.hid hbel; clear hbel htk hout hbox hvo hx hxb
      go_wp2_with (go_at_call 42; refine Hm1.out.mono ?_; rintro e w5 ⟨⟨kind2, text2, num2, yes2, ka2, kn2, kc2, ca2, cn2, cc2⟩, rfl, hV, hb5⟩; obtain ⟨z0, z1, z2, z3, z4, z5, zf, zl⟩ := (Hz.out.below hb5).cells)
      have hz5 := Hz.out.below hb5
      obtain ⟨p0, p1, p2, p3, p4, p5, _, _⟩ := (hz5.put6 (.int .i64 kind2) (.string text2) (.float .f64 num2) (.bool yes2) (.slice ka2 kn2 kc2) (.slice ca2 cn2 cc2)).cells
      refine bodyPost_ret (v := .agg #[.int .i64 kind2, .string text2, .float .f64 num2, .bool yes2, .slice ka2 kn2 kc2, .slice ca2 cn2 cc2]) (by simp [results, Tryz.results40, go_sem, p0, p1, p2, p3, p4, p5]) rfl ?_
      exact ⟨⟨kind2, text2, num2, yes2, ka2, kn2, kc2, ca2, cn2, cc2⟩, rfl, (hV.put6 (fun h => by rcases h with (h | h) | h; exact HnS.out _ (by omega) h; exact h.2.1 rfl; omega) _ _ _ _ _ _).mono (fun b _ hb => by rcases hb with (h | h) | h; exact .inl h; exact .inr h.1; exact .inr (by omega)), Below.put6' (via Hbel.out hb5) (by omega) _ _ _ _ _ _⟩
end Go.Proofs.YtbcnhcpgloncdaaGreatDoor
