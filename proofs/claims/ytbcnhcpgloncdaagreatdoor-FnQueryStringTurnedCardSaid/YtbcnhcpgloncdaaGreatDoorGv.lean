/- 'Source' of a query_string query: which entries its map has. -/
import Derived.Test.YtbcnhcpgloncdaaGreatDoorGs1
import Derived.Test.YtbcnhcpgloncdaaGreatDoorGu
import Derived.Deep.CutRange
namespace Go.Proofs.YtbcnhcpgloncdaaGreatDoor
open Go Go.RowKit Go.Maps

/-- The text of a field, with its boost. -/
def fieldText (ff : Nat → ByteArray) (s : SetM) : ByteArray := if s.name = nFieldBoost then s.val.text ++ ⟨#[94]⟩ ++ ff s.val.num else s.val.text

def entFields (ff : Nat → ByteArray) (key : ByteArray) : List SetM → List (ByteArray × Tr)
  | [s] => [(key, listTexts [fieldText ff s])]
  | _ => []

/-- The entry that a field gives. -/
def entT (ff : Nat → ByteArray) (text : ByteArray) (sets : List SetM) (key : ByteArray) : FK → List (ByteArray × Tr)
  | .qs => [(key, textT text)]
  | .text nm => if ((lastOf sets nm).map Tr.text).getD ⟨#[]⟩ = ⟨#[]⟩ then [] else [(key, textT (((lastOf sets nm).map Tr.text).getD ⟨#[]⟩))]
  | .yes nm => match lastOf sets nm with | none => [] | some t => [(key, yesT t.yes)]
  | .whole nm => match lastOf sets nm with | none => [] | some t => [(key, numT (floatOfInt .f64 (toI t.num)))]
  | .num nm => match lastOf sets nm with | none => [] | some t => [(key, numT t.num)]
  | .noText => []
  | .noPtr => []
  | .list => entFields ff key (sets.filter isField)
  | .boosts => []

def keysQS : List (ByteArray × Nat) := [(⟨#[113, 117, 101, 114, 121]⟩, 0), (⟨#[100, 101, 102, 97, 117, 108, 116, 95, 102, 105, 101, 108, 100]⟩, 1), (⟨#[102, 105, 101, 108, 100, 115]⟩, 17), (⟨#[116, 105, 101, 95, 98, 114, 101, 97, 107, 101, 114]⟩, 19), (⟨#[100, 101, 102, 97, 117, 108, 116, 95, 111, 112, 101, 114, 97, 116, 111, 114]⟩, 2), (⟨#[97, 110, 97, 108, 121, 122, 101, 114]⟩, 3), (⟨#[113, 117, 111, 116, 101, 95, 97, 110, 97, 108, 121, 122, 101, 114]⟩, 4), (⟨#[109, 97, 120, 95, 100, 101, 116, 101, 114, 109, 105, 110, 105, 122, 101, 100, 95, 115, 116, 97, 116, 101, 115]⟩, 25), (⟨#[97, 108, 108, 111, 119, 95, 108, 101, 97, 100, 105, 110, 103, 95, 119, 105, 108, 100, 99, 97, 114, 100]⟩, 6), (⟨#[108, 111, 119, 101, 114, 99, 97, 115, 101, 95, 101, 120, 112, 97, 110, 100, 101, 100, 95, 116, 101, 114, 109, 115]⟩, 7), (⟨#[101, 110, 97, 98, 108, 101, 95, 112, 111, 115, 105, 116, 105, 111, 110, 95, 105, 110, 99, 114, 101, 109, 101, 110, 116, 115]⟩, 8), (⟨#[102, 117, 122, 122, 105, 110, 101, 115, 115]⟩, 12), (⟨#[98, 111, 111, 115, 116]⟩, 11), (⟨#[102, 117, 122, 122, 121, 95, 112, 114, 101, 102, 105, 120, 95, 108, 101, 110, 103, 116, 104]⟩, 13), (⟨#[102, 117, 122, 122, 121, 95, 109, 97, 120, 95, 101, 120, 112, 97, 110, 115, 105, 111, 110, 115]⟩, 14), (⟨#[102, 117, 122, 122, 121, 95, 114, 101, 119, 114, 105, 116, 101]⟩, 15), (⟨#[112, 104, 114, 97, 115, 101, 95, 115, 108, 111, 112]⟩, 16), (⟨#[97, 110, 97, 108, 121, 122, 101, 95, 119, 105, 108, 100, 99, 97, 114, 100]⟩, 9), (⟨#[114, 101, 119, 114, 105, 116, 101]⟩, 20), (⟨#[109, 105, 110, 105, 109, 117, 109, 95, 115, 104, 111, 117, 108, 100, 95, 109, 97, 116, 99, 104]⟩, 21), (⟨#[113, 117, 111, 116, 101, 95, 102, 105, 101, 108, 100, 95, 115, 117, 102, 102, 105, 120]⟩, 5), (⟨#[108, 101, 110, 105, 101, 110, 116]⟩, 22), (⟨#[95, 110, 97, 109, 101]⟩, 23), (⟨#[108, 111, 99, 97, 108, 101]⟩, 10), (⟨#[116, 105, 109, 101, 95, 122, 111, 110, 101]⟩, 24), (⟨#[101, 115, 99, 97, 112, 101]⟩, 26), (⟨#[116, 121, 112, 101]⟩, 27)]
def srcQS (ff : Nat → ByteArray) (text : ByteArray) (sets : List SetM) (i : Nat) : List (ByteArray × Tr) := (keysQS.take i).flatMap fun p => entT ff text sets p.1 (fkQS p.2)
def nQS : ByteArray := ⟨#[113, 117, 101, 114, 121, 95, 115, 116, 114, 105, 110, 103]⟩
def treeQS (ff : Nat → ByteArray) (text : ByteArray) (sets : List SetM) : Tr := mapTree [(nQS, mapTree (srcQS ff text sets 27))]

theorem srcQS_succ (ff : Nat → ByteArray) (text : ByteArray) (sets : List SetM) {i : Nat} {k : ByteArray} {j : Nat} (h : keysQS[i]? = some (k, j)) : srcQS ff text sets (i + 1) = srcQS ff text sets i ++ entT ff text sets k (fkQS j) := by
  unfold srcQS
  obtain ⟨hi, he⟩ := List.getElem?_eq_some_iff.1 h
  rw [List.take_succ_eq_append_getElem hi, List.flatMap_append, he]
  simp

theorem entT_keys (ff : Nat → ByteArray) (text : ByteArray) (sets : List SetM) (key : ByteArray) (k : FK) : ((entT ff text sets key k).map (·.1)).Sublist [key] := by
  cases k <;> simp only [entT]
  case qs => simp
  case text nm => split <;> simp
  case yes nm => split <;> simp
  case whole nm => split <;> simp
  case num nm => split <;> simp
  case noText => simp
  case noPtr => simp
  case list => unfold entFields; split <;> simp
  case boosts => simp

theorem sublist_flat {α : Type} (f : α → List (ByteArray × Tr)) (g : α → ByteArray) (h : ∀ a, ((f a).map (·.1)).Sublist [g a]) : ∀ l : List α, ((l.flatMap f).map (·.1)).Sublist (l.map g)
  | [] => by simp
  | a :: l => by
    rw [List.flatMap_cons, List.map_append, List.map_cons]
    exact (h a).append (sublist_flat f g h l)

theorem srcQS_nodup (ff : Nat → ByteArray) (text : ByteArray) (sets : List SetM) : ((srcQS ff text sets 27).map (·.1)).Nodup :=
  (sublist_flat _ _ (fun p : ByteArray × Nat => entT_keys ff text sets p.1 (fkQS p.2)) _).nodup (by decide +kernel)
theorem srcQS_length (ff : Nat → ByteArray) (text : ByteArray) (sets : List SetM) : (srcQS ff text sets 27).length ≤ 27 := by
  have := (sublist_flat _ _ (fun p : ByteArray × Nat => entT_keys ff text sets p.1 (fkQS p.2)) (keysQS.take 27)).length_le
  simpa [srcQS, keysQS] using this

/-- A pointer, with what it leads to. -/
def PtrTo (w : World) (lo : Nat) (f : Tr → Value) (o : Option Tr) (p : Option Addr) : Prop :=
  match o with
  | none => p = none
  | some t => ∃ b, p = some ⟨b, 0, none⟩ ∧ lo ≤ b ∧ w.cell? ⟨b, 0, none⟩ = some (f t)
theorem PtrOK.to {w : World} {lo : Nat} {f : Tr → Value} {o : Option Tr} {u : Value} (h : PtrOK w lo f o u) : ∃ p, u = .pointer p ∧ PtrTo w lo f o p := by
  cases o with
  | none => exact ⟨none, h, rfl⟩
  | some t =>
    obtain ⟨b, h1, h2, h3⟩ := h
    exact ⟨some ⟨b, 0, none⟩, h1, b, rfl, h2, h3⟩

/-- Under way: the entries 'ts' have been told, of i pieces. -/
structure SrcRel (w0 : World) (name : ByteArray) (ts : List (ByteArray × Tr)) (i : Nat) (wr : World) : Prop where
  sz : w0.heap.size + 2 ≤ wr.heap.size
  map : ∃ n es, wr.ownsMap Tryz.prog 9 R9 (w0.heap.size + 1) n (dput es) ∧ n ≤ i ∧ EntriesOK wr (fun b => w0.heap.size + 2 ≤ b) es ts
  outer : ∃ n, wr.ownsMap Tryz.prog 9 R9 w0.heap.size n (dput [(name, .iface 122 (.map (some (w0.heap.size + 1))))])
  bel : Below w0.heap.size w0 wr

theorem SrcRel.skip {w0 wr : World} {name : ByteArray} {ts ts' : List (ByteArray × Tr)} {i : Nat} (r : SrcRel w0 name ts i wr) (h : ts' = ts) : SrcRel w0 name ts' (i + 1) wr := by
  subst h
  obtain ⟨n, es, h1, h2, h3⟩ := r.map
  exact ⟨r.sz, ⟨n, es, h1, by omega, h3⟩, r.outer, r.bel⟩

theorem SrcRel.put {w0 wr w1 : World} {name : ByteArray} {i n : Nat} {ts : List (ByteArray × Tr)} (r : SrcRel w0 name ts i wr) {es : List (ByteArray × Value)} {k : ByteArray} {v : Value} {t : Tr} (hn : n ≤ i) (hes : EntriesOK wr (fun b => w0.heap.size + 2 ≤ b) es ts)
    (hown : w1.ownsMap Tryz.prog 9 R9 (w0.heap.size + 1) (n + 1) ((dput es).put (.string k.data.toList) (.held v))) (hg : wr.grownBy w1 (some (w0.heap.size + 1))) (hv : AnyAt wr (fun b => w0.heap.size + 2 ≤ b) v t) {ts' : List (ByteArray × Tr)} (hts : ts' = ts ++ [(k, t)]) :
    SrcRel w0 name ts' (i + 1) w1 := by
  subst hts
  have hk : Keeps (fun b => w0.heap.size + 2 ≤ b) wr w1 := fun b hb hlt => hg.block b hlt (fun e => by injection e with e; omega)
  exact ⟨Nat.le_trans r.sz hg.size, ⟨n + 1, es ++ [(k, v)], by rw [dput_snoc]; exact hown, by omega, (hes.snoc k hv).keep hk⟩, (let ⟨n0, h0⟩ := r.outer; ⟨n0, h0.kept hg (by simp)⟩), r.bel.grown hg r.bel.size (fun k hk => by injection hk with hk; omega)⟩

theorem SrcRel.below {w0 wr w' : World} {name : ByteArray} {ts : List (ByteArray × Tr)} {i : Nat} (r : SrcRel w0 name ts i wr) (hb : Below wr.heap.size wr w') : SrcRel w0 name ts i w' := by
  obtain ⟨n, es, h1, h2, h3⟩ := r.map
  obtain ⟨n0, h0⟩ := r.outer
  exact ⟨Nat.le_trans r.sz hb.size, ⟨n, es, h1.kept (Below.grow hb) (by simp), h2, h3.keep (Keeps.of_below _ hb)⟩, ⟨n0, h0.kept (Below.grow hb) (by simp)⟩, via r.bel hb⟩

theorem one_text {w : World} {S : Nat → Prop} {base g cap : Nat} {x : ByteArray} (h : w.ownsRow base 9 1 (.slice (some ⟨g, 0, none⟩) 1 cap) 1 [.string x]) (hS : S g) (hx : x.size ≤ 9223372036854775807) : AnyAt w S (.iface 29 (.slice (some ⟨g, 0, none⟩) 1 cap)) (listTexts [x]) := by
  refine .strs (some ⟨g, 0, none⟩) cap [x] ?_ (by simp) (by simpa using hx)
  intro _
  refine ⟨g, 0, rfl, hS, fun i hi j u hu => ?_⟩
  obtain rfl : i = 0 := by simp at hi; omega
  have hc := h.cellAt 0 (by simp)
  rw [List.getElem?_singleton] at hu
  split at hu
  · rename_i hj
    cases hu
    subst hj
    simpa using hc
  · cases hu

/-- At the end: what is handed back. -/
theorem SrcRel.any {w0 wr : World} {name : ByteArray} {ts : List (ByteArray × Tr)} {i : Nat} (r : SrcRel w0 name ts i wr) (hd : (ts.map (·.1)).Nodup) (hl : ts.length ≤ 4294967296) : AnyAt wr (fun _ => True) (.iface 122 (.map (some w0.heap.size))) (mapTree [(name, mapTree ts)]) := by
  obtain ⟨n, es, h1, h2, h3⟩ := r.map
  obtain ⟨n0, h0⟩ := r.outer
  have hin : AnyAt wr (fun _ => True) (.iface 122 (.map (some (w0.heap.size + 1)))) (mapTree ts) := by
    refine map_any trivial h1 ?_ (by rw [h3.1]; exact hd) ⟨h3.1, fun i e t a b => (h3.2 i e t a b).mono (fun _ _ _ => trivial)⟩
    have := congrArg List.length h3.1
    simp only [List.length_map] at this
    omega
  exact map_any trivial h0 (by simp) (by simp) ((EntriesOK.nil _ _).snoc name hin)

theorem text_small {sets : List SetM} (h : ∀ s ∈ sets, s.val.text.size ≤ 140737488355328) (nm : ByteArray) : (((lastOf sets nm).map Tr.text).getD ⟨#[]⟩).size ≤ 9223372036854775807 := by
  unfold lastOf
  cases e : sets.reverse.find? (fun s => decide (s.name = nm)) with
  | none => decide
  | some s => exact Nat.le_trans (h s (by simpa using List.mem_of_find?_eq_some e)) (by decide)

theorem key_of (l : List UInt8) (h : l.length ≤ 1000) : keyOf Tryz.prog 9 (.string ⟨l.toArray⟩) = some (.string l) := by
  have := Go.WideMaps.keyOf_string_mk (P := Tryz.prog) (k := 9) Tryz.underlying9 (s := ⟨l.toArray⟩) (by
    have h1 : (ByteArray.mk l.toArray).size = l.length := by simp [ByteArray.size]
    rw [h1]; unfold maxLen; omega)
  simpa using this

set_option maxRecDepth 100000 in
set_option maxHeartbeats 100000000 in
theorem srcQS_any (ff : Nat → ByteArray) (text : ByteArray) (sets : List SetM) (w : World) (h : Nat) (hq : QState w h fkQS 28 132 text sets) (htx : text.size ≤ 9223372036854775807) (hsm : ∀ s ∈ sets, s.val.text.size ≤ 140737488355328) (hfl : (sets.filter isField).length ≤ 1)
    (hff : ∀ s ∈ sets, s.name = nFieldBoost → (ff s.val.num).size ≤ 1000 ∧ ∀ wr, Below w.heap.size w wr → Calls Tryz.prog 114 #[.float .f64 s.val.num, .int .u8 102, .int .i64 6, .int .i64 64] wr fun e w' => e = .returned (.string (ff s.val.num)) ∧ Below wr.heap.size wr w') :
    Calls Tryz.prog 79 #[.pointer (some ⟨h + 3, 0, none⟩)] w fun e w' => ∃ v, e = .returned (.tuple #[v, .nilIface]) ∧ AnyAt w' (fun _ => True) v (treeQS ff text sets) ∧ Below w.heap.size w w' := by
  have Hq := Lib.hid hq
  have Hsm := Lib.hid hsm; clear hsm
  have Hff := Lib.hid hff; clear hff
  have Hfl := Lib.hid hfl; clear hfl
  have hlt := hq.lt
  obtain ⟨u0, c0, f0⟩ := hq.cell (j := 0) (by decide)
  obtain rfl : u0 = .string text := f0
  clear hq
  have hm0 := World.ownsMap_made w Tryz.prog 9 R9
  have hm1 := World.ownsMap_made (w.alloc (.map #[] 0)) Tryz.prog 9 R9
  rw [World.size_alloc] at hm1
  have k1 := key_of [113, 117, 101, 114, 121, 95, 115, 116, 114, 105, 110, 103] (by decide)
  have k2 := key_of [113, 117, 101, 114, 121] (by decide)
  go_enter Tryz.func79, Tryz.ntmps79
  go_upto_region 5 with (first
    | (at_mapUpdate; refine wpList_mapUpdate_own _ rfl _ _ _ 122 rfl 9 20 keyed9 Tryz.underlying122 R9 w.heap.size 0 _ rfl (hm0.alloc _) (by decide) (.string ⟨#[113, 117, 101, 114, 121, 95, 115, 116, 114, 105, 110, 103]⟩) (.iface 122 (.map (some (w.heap.size + 1)))) _ rfl rfl k1 (.held (.iface 122 (.map (some (w.heap.size + 1))))) [] rfl ?_; intro w1 hn0 hg1; have d0 := (hg1.block (h + 3) (by simp; omega) (by simp; omega)).trans ((heap_alloc_old _ _ (by simp; omega)).trans (heap_alloc_old _ _ hlt)); have e0 := (World.cell?_of_block (a := ⟨h + 3, 0, none⟩) d0).trans c0; have hn1 := hm1.kept hg1 (by simp))
    | (at_mapUpdate; refine wpList_mapUpdate_own _ rfl _ _ _ 122 rfl 9 20 keyed9 Tryz.underlying122 R9 (w.heap.size + 1) 0 _ rfl hn1 (by decide) (.string ⟨#[113, 117, 101, 114, 121]⟩) (.iface 9 (.string text)) _ rfl rfl k2 (.held (.iface 9 (.string text))) [] rfl ?_; intro w2 hn2 hg2))
  have hcut : SrcRel w nQS (srcQS ff text sets 1) 1 w2 := by
    refine ⟨?_, ⟨1, [(⟨#[113, 117, 101, 114, 121]⟩, .iface 9 (.string text))], hn2, Nat.le_refl _, ?_⟩, ⟨_, hn0.kept hg2 (by simp)⟩, ?_⟩
    · have h1 := hg1.size; have h2 := hg2.size; simp at h1; omega
    · exact (EntriesOK.nil _ _).snoc _ (.str text htx)
    · have h1 := hg1.size; simp at h1
      exact ((((Below.refl _ _).alloc (Nat.le_refl _) _).alloc (by simp) _).grown hg1 (by simp; omega) (fun k hk => by injection hk with hk; omega)).grown hg2 (by omega) (fun k hk => by injection hk with hk; omega)
  clear hm0 hm1 k1 k2 hn0 hg1 d0 e0 hn1 hn2 hg2 c0
  -- default_field
  have hstep := srcQS_succ ff text sets (i := 1) (k := ⟨#[100, 101, 102, 97, 117, 108, 116, 95, 102, 105, 101, 108, 100]⟩) (j := 1) rfl
  have Hstep := Lib.hid hstep; clear hstep
  have Hcut := Lib.hid hcut; clear hcut
  obtain ⟨u, cu, fu⟩ := (Hq.out.below Hcut.out.bel).cell (j := 1) (by decide)
  have kk := key_of [100, 101, 102, 97, 117, 108, 116, 95, 102, 105, 101, 108, 100] (by decide)
  obtain ⟨n, es, hown, hn, hes⟩ := Hcut.out.map
  have hnm : n < maxLen := by unfold maxLen; omega
  have Hes := Lib.hid hes; clear hes
  have fu' : u = .string (((lastOf sets ⟨#[100, 101, 102, 97, 117, 108, 116, 95, 102, 105, 101, 108, 100]⟩).map Tr.text).getD ⟨#[]⟩) := fu
  subst fu'
  clear fu
  have hent : entT ff text sets ⟨#[100, 101, 102, 97, 117, 108, 116, 95, 102, 105, 101, 108, 100]⟩ (fkQS 1) = if ((lastOf sets ⟨#[100, 101, 102, 97, 117, 108, 116, 95, 102, 105, 101, 108, 100]⟩).map Tr.text).getD ⟨#[]⟩ = ⟨#[]⟩ then [] else [(⟨#[100, 101, 102, 97, 117, 108, 116, 95, 102, 105, 101, 108, 100]⟩, textT (((lastOf sets ⟨#[100, 101, 102, 97, 117, 108, 116, 95, 102, 105, 101, 108, 100]⟩).map Tr.text).getD ⟨#[]⟩))] := rfl
  have hsz := text_small Hsm.out ⟨#[100, 101, 102, 97, 117, 108, 116, 95, 102, 105, 101, 108, 100]⟩
  generalize ((lastOf sets ⟨#[100, 101, 102, 97, 117, 108, 116, 95, 102, 105, 101, 108, 100]⟩).map Tr.text).getD ⟨#[]⟩ = str at *
  have Hent := Lib.hid hent; clear hent
  go_upto_if 26 with fail
  go_cut [] from 22 to 32 (fun wr => SrcRel w nQS (srcQS ff text sets 2) 2 wr)
  case first =>
    as_aux_lemma =>
    by_cases hs0 : str = ⟨#[]⟩
    · have hemp : str.toList.isEmpty = true := by rw [bs_isEmpty]; simp [hs0]
      have Hs0 := Lib.hid hs0; clear hs0
      simp only [hemp, Bool.not_true]
      go_wp2_with fail
      go_meet
      case rel => exact Hcut.out.skip (by rw [Hstep.out, Hent.out, if_pos Hs0.out]; simp)
    · have hemp : str.toList.isEmpty = false := by rw [bs_isEmpty]; simp [hs0]
      have Hs0 := Lib.hid hs0; clear hs0
      simp only [hemp, Bool.not_false]
      go_wp2_with (at_mapUpdate; refine wpList_mapUpdate_own _ rfl _ _ _ 122 rfl 9 20 keyed9 Tryz.underlying122 R9 (w.heap.size + 1) n _ rfl hown hnm (.string ⟨#[100, 101, 102, 97, 117, 108, 116, 95, 102, 105, 101, 108, 100]⟩) (.iface 9 (.string str)) _ rfl rfl kk (.held (.iface 9 (.string str))) [] rfl ?_; intro w3 hn3 hg3)
      go_meet
      case rel => exact Hcut.out.put hn Hes.out (k := ⟨#[100, 101, 102, 97, 117, 108, 116, 95, 102, 105, 101, 108, 100]⟩) hn3 hg3 (.str str hsz) (by rw [Hstep.out, Hent.out, if_neg Hs0.out])
  case rest =>
  clear cu kk hown hn hnm Hes Hent Hstep Hcut n es hsz str
  -- fields
  have hstep := srcQS_succ ff text sets (i := 2) (k := ⟨#[102, 105, 101, 108, 100, 115]⟩) (j := 17) rfl
  have Hstep := Lib.hid hstep; clear hstep
  have Hcut := Lib.hid hcut; clear hcut
  obtain ⟨u, cu, fu⟩ := (Hq.out.below Hcut.out.bel).cell (j := 17) (by decide)
  have kk := key_of [102, 105, 101, 108, 100, 115] (by decide)
  obtain ⟨n, es, hown, hn, hes⟩ := Hcut.out.map
  have hnm : n < maxLen := by unfold maxLen; omega
  have Hes := Lib.hid hes; clear hes
  have hol := fu.1
  have hnil := fu.2.2.2
  obtain ⟨fs, hfs⟩ : ∃ fs, fs = sets.filter isField := ⟨_, rfl⟩
  rw [← hfs] at hol hnil
  obtain ⟨fa, fc, rfl⟩ : ∃ fa fc, u = .slice fa fs.length fc := by
    rcases hol.2 with ⟨e, h0⟩ | ⟨g, cap, cur, e, _⟩
    · exact ⟨none, 0, by rw [e, h0]⟩
    · exact ⟨_, _, e⟩
  clear fu
  have hfl : fs.length ≤ 1 := by rw [hfs]; exact Hfl.out
  have hent : entT ff text sets ⟨#[102, 105, 101, 108, 100, 115]⟩ (fkQS 17) = entFields ff ⟨#[102, 105, 101, 108, 100, 115]⟩ fs := by rw [hfs]; rfl
  have Hent := Lib.hid hent; clear hent
  have Hfs := Lib.hid hfs; clear hfs
  have Hol := Lib.hid hol; clear hol
  have Hnil := Lib.hid hnil; clear hnil
  go_upto_if 38 with fail
  go_cut [6, 8, 9, 10] from 33 to 81 (fun _ _ _ _ wr => SrcRel w nQS (srcQS ff text sets 3) 3 wr)
  case first =>
    as_aux_lemma =>
    rcases fs with _ | ⟨s, fs⟩
    · simp only [List.length_nil, Int.natCast_zero]
      go_wp2_with fail
      go_meet
      case rel => exact Hcut.out.skip (by rw [Hstep.out, Hent.out]; simp [entFields])
    · obtain rfl : fs = [] := by
        rw [List.length_cons] at hfl
        exact List.length_eq_zero_iff.1 (by omega)
      clear hfl
      have hol := Hol.out
      simp only [List.length_cons, List.length_nil, Nat.zero_add, List.map_cons, List.map_nil] at hol
      obtain ⟨g, cap, hform, hgb, hgl⟩ := hol.form (by simp)
      obtain ⟨rfl, rfl⟩ : fa = some ⟨g, 0, none⟩ ∧ fc = cap := by simpa using hform
      have cg := hol.cellAt 0 (by simp)
      simp only [List.getElem?_cons_zero] at cg
      obtain ⟨u18, c18, f18⟩ := (Hq.out.below Hcut.out.bel).cell (j := 18) (by decide)
      obtain ⟨h18, nB, DB, hmB, hnB, hDB⟩ := f18
      subst h18
      rw [← Hfs.out] at hDB
      have hsin : s ∈ sets := by
        have : s ∈ sets.filter isField := by rw [← Hfs.out]; simp
        exact (List.mem_filter.1 this).1
      have hkey := Go.WideMaps.keyOf_string_mk (P := Tryz.prog) (k := 9) Tryz.underlying9 (s := s.val.text) (by have := Hsm.out s hsin; unfold maxLen; omega)
      obtain ⟨i0, hi, hz0, hz1, hz2⟩ := info_parts Tryz.info9
      have hsz2 := Hcut.out.sz
      by_cases hbn : s.name = nFieldBoost
      · simp only [BoostD] at hDB
        rw [if_pos hbn] at hDB
        obtain ⟨p, rfl, hpl, cp⟩ := hDB
        obtain ⟨v, ps, hlk, hv⟩ := hmB.look_ok keyed9 Tryz.underlying128 (z := .pointer none) (by kernel_rfl) (zd := .held (.pointer none)) (zp := []) rfl (key := .string s.val.text) hkey
        rw [has_put_same isMap_empty (isKey _)] at hlk
        rw [atKey_put_same isMap_empty (isKey _)] at hv
        obtain rfl : v = .pointer (some ⟨p, 0, none⟩) := by simpa [R9] using congrArg (Option.map Prod.fst) hv
        obtain ⟨hfsz, hffc⟩ := Hff.out s hsin hbn
        have Hffc := Lib.hid hffc; clear hffc
        have Hbn := Lib.hid hbn; clear hbn hv
        simp only [List.length_cons, List.length_nil, Nat.zero_add]
        have hts := Hsm.out s hsin
        have hsz3 : (s.val.text ++ (⟨#[94]⟩ : ByteArray)).size = s.val.text.size + 1 := by rw [ByteArray.size_append]; rfl
        have ha1 : ¬ (9223372036854775807 < s.val.text.size + 1) := by omega
        have ha2 : ¬ (9223372036854775807 < s.val.text.size + 1 + (ff s.val.num).size) := by omega
        have hlong : (s.val.text ++ ⟨#[94]⟩ ++ ff s.val.num).size ≤ 9223372036854775807 := by rw [ByteArray.size_append, hsz3]; omega
        have hft : fieldText ff s = s.val.text ++ ⟨#[94]⟩ ++ ff s.val.num := by rw [fieldText, if_pos Hbn.out]
        have Hft := Lib.hid hft
        have Hlong := Lib.hid hlong
        clear hsz3 hft hlong hfsz hts
        go_wp2_with fail
        refine wp_loop_rounds 2 ?_
        rw [rounds_succ]
        go_wp2_with (first
          | (go_at_call 114; refine (Hffc.out _ Hcut.out.bel).mono ?_; rintro e wf ⟨rfl, hbf⟩)
          | (at_builtin; refine wpList_append_lies _ rfl _ _ _ rfl (w.heap.size + 2) 9 i0 _ 1 16 Tryz.underlying29 hi hz0 hz1 hz2 rfl (by omega) (.slice none 0 0) 0 [] rfl ⟨by simp, .inl ⟨rfl, rfl⟩⟩ ⟨wf.heap.size, 0, none⟩ 1 1 [.string (s.val.text ++ ⟨#[94]⟩ ++ ff s.val.num)] rfl rfl (World.news_of_block (cs := #[.string (s.val.text ++ ⟨#[94]⟩ ++ ff s.val.num)]) (t := 9) (fr := (0, 0)) (heap_alloc_new wf _)) (by simp [Value.oneCell']) (by omega) (by unfold maxLen; omega) (by omega) (by have := hbf.size; simp; omega) (wf.heap.size + 1) (by simp) ?_; intro g2 cap2 wg hown2 hgrow2 hat2 hlt2))
        rw [rounds_succ]
        have hgb2 : Below wf.heap.size wf wg := ((Below.refl _ _).alloc (Nat.le_refl _) _).grown hgrow2 (by simp) (fun k hk => by simp [Value.ownBlock] at hk)
        have hbg : Below wc.heap.size wc wg := via hbf hgb2
        have hownG := hown.kept (Below.grow hbg) (by simp)
        have hg2 := (hown2.lt g2 rfl).1
        have Hown2 := Lib.hid hown2; clear hown2
        go_wp2_with (at_mapUpdate; refine wpList_mapUpdate_own _ rfl _ _ _ 122 rfl 9 20 keyed9 Tryz.underlying122 R9 (w.heap.size + 1) n _ rfl hownG hnm (.string ⟨#[102, 105, 101, 108, 100, 115]⟩) (.iface 29 (.slice (some ⟨g2, 0, none⟩) 1 cap2)) _ rfl rfl kk (.held (.iface 29 (.slice (some ⟨g2, 0, none⟩) 1 cap2))) [] rfl ?_; intro w3 hn3 hg3)
        go_meet
        case rel => exact (Hcut.out.below hbg).put hn (Hes.out.keep (Keeps.of_below _ hbg)) (k := ⟨#[102, 105, 101, 108, 100, 115]⟩) hn3 hg3 (one_text Hown2.out hg2 Hlong.out) (by rw [Hstep.out, Hent.out, entFields, Hft.out])
      · simp only [BoostD] at hDB
        rw [if_neg hbn] at hDB
        subst hDB
        obtain ⟨v, ps, hlk, hv⟩ := hmB.look_ok keyed9 Tryz.underlying128 (z := .pointer none) (by kernel_rfl) (zd := .held (.pointer none)) (zp := []) rfl (key := .string s.val.text) hkey
        have hh0 : Maps.has (DataW.map [] : DataW Value) (.string s.val.text.data.toList) = false := rfl
        rw [hh0] at hlk
        have hv' : v = .pointer none := by simpa [R9, DataW.atKey] using congrArg (Option.map Prod.fst) hv
        subst hv'
        have hft : fieldText ff s = s.val.text := by rw [fieldText, if_neg hbn]
        have Hft := Lib.hid hft
        have Hlong : Hid (s.val.text.size ≤ 9223372036854775807) := Lib.hid (Nat.le_trans (Hsm.out s hsin) (by decide))
        clear hft hv hbn
        simp only [List.length_cons, List.length_nil, Nat.zero_add]
        go_wp2_with fail
        refine wp_loop_rounds 2 ?_
        rw [rounds_succ]
        go_wp2_with (at_builtin; refine wpList_append_lies _ rfl _ _ _ rfl (w.heap.size + 2) 9 i0 _ 1 16 Tryz.underlying29 hi hz0 hz1 hz2 rfl (by omega) (.slice none 0 0) 0 [] rfl ⟨by simp, .inl ⟨rfl, rfl⟩⟩ ⟨wc.heap.size, 0, none⟩ 1 1 [.string s.val.text] rfl rfl (World.news_of_block (cs := #[.string s.val.text]) (t := 9) (fr := (0, 0)) (heap_alloc_new wc _)) (by simp [Value.oneCell']) (by omega) (by unfold maxLen; omega) (by omega) (by simp; omega) (wc.heap.size + 1) (by simp) ?_; intro g2 cap2 wg hown2 hgrow2 hat2 hlt2)
        rw [rounds_succ]
        have hgb2 : Below wc.heap.size wc wg := ((Below.refl _ _).alloc (Nat.le_refl _) _).grown hgrow2 (by simp) (fun k hk => by simp [Value.ownBlock] at hk)
        have hbg : Below wc.heap.size wc wg := hgb2
        have hownG := hown.kept (Below.grow hbg) (by simp)
        have hg2 := (hown2.lt g2 rfl).1
        have Hown2 := Lib.hid hown2; clear hown2
        go_wp2_with (at_mapUpdate; refine wpList_mapUpdate_own _ rfl _ _ _ 122 rfl 9 20 keyed9 Tryz.underlying122 R9 (w.heap.size + 1) n _ rfl hownG hnm (.string ⟨#[102, 105, 101, 108, 100, 115]⟩) (.iface 29 (.slice (some ⟨g2, 0, none⟩) 1 cap2)) _ rfl rfl kk (.held (.iface 29 (.slice (some ⟨g2, 0, none⟩) 1 cap2))) [] rfl ?_; intro w3 hn3 hg3)
        go_meet
        case rel => exact (Hcut.out.below hbg).put hn (Hes.out.keep (Keeps.of_below _ hbg)) (k := ⟨#[102, 105, 101, 108, 100, 115]⟩) hn3 hg3 (one_text Hown2.out hg2 Hlong.out) (by rw [Hstep.out, Hent.out, entFields, Hft.out])
  case rest =>
  clear cu kk hown hn hnm Hes Hent Hstep Hcut n es Hfs Hol Hnil hfl fs fa fc
  -- tie_breaker
  have hstep := srcQS_succ ff text sets (i := 3) (k := ⟨#[116, 105, 101, 95, 98, 114, 101, 97, 107, 101, 114]⟩) (j := 19) rfl
  have Hstep := Lib.hid hstep; clear hstep
  have Hcut := Lib.hid hcut; clear hcut
  obtain ⟨u, cu, fu⟩ := (Hq.out.below Hcut.out.bel).cell (j := 19) (by decide)
  have kk := key_of [116, 105, 101, 95, 98, 114, 101, 97, 107, 101, 114] (by decide)
  obtain ⟨n, es, hown, hn, hes⟩ := Hcut.out.map
  have hnm : n < maxLen := by unfold maxLen; omega
  have Hes := Lib.hid hes; clear hes
  have fu' : PtrOK _ (h + 4) (fun t => .float .f64 t.num) (lastOf sets ⟨#[116, 105, 101, 95, 98, 114, 101, 97, 107, 101, 114]⟩) u := fu
  obtain ⟨p, rfl, hp⟩ := fu'.to
  clear fu fu'
  have hent : entT ff text sets ⟨#[116, 105, 101, 95, 98, 114, 101, 97, 107, 101, 114]⟩ (fkQS 19) = match lastOf sets ⟨#[116, 105, 101, 95, 98, 114, 101, 97, 107, 101, 114]⟩ with | none => [] | some t => [(⟨#[116, 105, 101, 95, 98, 114, 101, 97, 107, 101, 114]⟩, numT t.num)] := rfl
  generalize lastOf sets ⟨#[116, 105, 101, 95, 98, 114, 101, 97, 107, 101, 114]⟩ = lst at *
  have Hp := Lib.hid hp; clear hp
  have Hent := Lib.hid hent; clear hent
  go_upto_if 86 with fail
  go_cut [] from 82 to 94 (fun wr => SrcRel w nQS (srcQS ff text sets 4) 4 wr)
  case first =>
    as_aux_lemma =>
    rcases lst with _ | t
    · obtain rfl : p = none := Hp.out
      go_wp2_with fail
      go_meet
      case rel => exact Hcut.out.skip (by rw [Hstep.out, Hent.out]; simp)
    · obtain ⟨b, rfl, hb, cb⟩ := Hp.out
      go_wp2_with (at_mapUpdate; refine wpList_mapUpdate_own _ rfl _ _ _ 122 rfl 9 20 keyed9 Tryz.underlying122 R9 (w.heap.size + 1) n _ rfl hown hnm (.string ⟨#[116, 105, 101, 95, 98, 114, 101, 97, 107, 101, 114]⟩) (.iface 28 (.float .f64 t.num)) _ rfl rfl kk (.held (.iface 28 (.float .f64 t.num))) [] rfl ?_; intro w3 hn3 hg3)
      go_meet
      case rel => exact Hcut.out.put hn Hes.out (k := ⟨#[116, 105, 101, 95, 98, 114, 101, 97, 107, 101, 114]⟩) hn3 hg3 (.num _) (by rw [Hstep.out, Hent.out])
  case rest =>
  clear cu kk hown hn hnm Hes Hent Hstep Hcut n es Hp lst p
  -- default_operator
  have hstep := srcQS_succ ff text sets (i := 4) (k := ⟨#[100, 101, 102, 97, 117, 108, 116, 95, 111, 112, 101, 114, 97, 116, 111, 114]⟩) (j := 2) rfl
  have Hstep := Lib.hid hstep; clear hstep
  have Hcut := Lib.hid hcut; clear hcut
  obtain ⟨u, cu, fu⟩ := (Hq.out.below Hcut.out.bel).cell (j := 2) (by decide)
  have kk := key_of [100, 101, 102, 97, 117, 108, 116, 95, 111, 112, 101, 114, 97, 116, 111, 114] (by decide)
  obtain ⟨n, es, hown, hn, hes⟩ := Hcut.out.map
  have hnm : n < maxLen := by unfold maxLen; omega
  have Hes := Lib.hid hes; clear hes
  have fu' : u = .string (((lastOf sets ⟨#[100, 101, 102, 97, 117, 108, 116, 95, 111, 112, 101, 114, 97, 116, 111, 114]⟩).map Tr.text).getD ⟨#[]⟩) := fu
  subst fu'
  clear fu
  have hent : entT ff text sets ⟨#[100, 101, 102, 97, 117, 108, 116, 95, 111, 112, 101, 114, 97, 116, 111, 114]⟩ (fkQS 2) = if ((lastOf sets ⟨#[100, 101, 102, 97, 117, 108, 116, 95, 111, 112, 101, 114, 97, 116, 111, 114]⟩).map Tr.text).getD ⟨#[]⟩ = ⟨#[]⟩ then [] else [(⟨#[100, 101, 102, 97, 117, 108, 116, 95, 111, 112, 101, 114, 97, 116, 111, 114]⟩, textT (((lastOf sets ⟨#[100, 101, 102, 97, 117, 108, 116, 95, 111, 112, 101, 114, 97, 116, 111, 114]⟩).map Tr.text).getD ⟨#[]⟩))] := rfl
  have hsz := text_small Hsm.out ⟨#[100, 101, 102, 97, 117, 108, 116, 95, 111, 112, 101, 114, 97, 116, 111, 114]⟩
  generalize ((lastOf sets ⟨#[100, 101, 102, 97, 117, 108, 116, 95, 111, 112, 101, 114, 97, 116, 111, 114]⟩).map Tr.text).getD ⟨#[]⟩ = str at *
  have Hent := Lib.hid hent; clear hent
  go_upto_if 99 with fail
  go_cut [] from 95 to 105 (fun wr => SrcRel w nQS (srcQS ff text sets 5) 5 wr)
  case first =>
    as_aux_lemma =>
    by_cases hs0 : str = ⟨#[]⟩
    · have hemp : str.toList.isEmpty = true := by rw [bs_isEmpty]; simp [hs0]
      have Hs0 := Lib.hid hs0; clear hs0
      simp only [hemp, Bool.not_true]
      go_wp2_with fail
      go_meet
      case rel => exact Hcut.out.skip (by rw [Hstep.out, Hent.out, if_pos Hs0.out]; simp)
    · have hemp : str.toList.isEmpty = false := by rw [bs_isEmpty]; simp [hs0]
      have Hs0 := Lib.hid hs0; clear hs0
      simp only [hemp, Bool.not_false]
      go_wp2_with (at_mapUpdate; refine wpList_mapUpdate_own _ rfl _ _ _ 122 rfl 9 20 keyed9 Tryz.underlying122 R9 (w.heap.size + 1) n _ rfl hown hnm (.string ⟨#[100, 101, 102, 97, 117, 108, 116, 95, 111, 112, 101, 114, 97, 116, 111, 114]⟩) (.iface 9 (.string str)) _ rfl rfl kk (.held (.iface 9 (.string str))) [] rfl ?_; intro w3 hn3 hg3)
      go_meet
      case rel => exact Hcut.out.put hn Hes.out (k := ⟨#[100, 101, 102, 97, 117, 108, 116, 95, 111, 112, 101, 114, 97, 116, 111, 114]⟩) hn3 hg3 (.str str hsz) (by rw [Hstep.out, Hent.out, if_neg Hs0.out])
  case rest =>
  clear cu kk hown hn hnm Hes Hent Hstep Hcut n es hsz str
  -- analyzer
  have hstep := srcQS_succ ff text sets (i := 5) (k := ⟨#[97, 110, 97, 108, 121, 122, 101, 114]⟩) (j := 3) rfl
  have Hstep := Lib.hid hstep; clear hstep
  have Hcut := Lib.hid hcut; clear hcut
  obtain ⟨u, cu, fu⟩ := (Hq.out.below Hcut.out.bel).cell (j := 3) (by decide)
  have kk := key_of [97, 110, 97, 108, 121, 122, 101, 114] (by decide)
  obtain ⟨n, es, hown, hn, hes⟩ := Hcut.out.map
  have hnm : n < maxLen := by unfold maxLen; omega
  have Hes := Lib.hid hes; clear hes
  have fu' : u = .string (((lastOf sets ⟨#[97, 110, 97, 108, 121, 122, 101, 114]⟩).map Tr.text).getD ⟨#[]⟩) := fu
  subst fu'
  clear fu
  have hent : entT ff text sets ⟨#[97, 110, 97, 108, 121, 122, 101, 114]⟩ (fkQS 3) = if ((lastOf sets ⟨#[97, 110, 97, 108, 121, 122, 101, 114]⟩).map Tr.text).getD ⟨#[]⟩ = ⟨#[]⟩ then [] else [(⟨#[97, 110, 97, 108, 121, 122, 101, 114]⟩, textT (((lastOf sets ⟨#[97, 110, 97, 108, 121, 122, 101, 114]⟩).map Tr.text).getD ⟨#[]⟩))] := rfl
  have hsz := text_small Hsm.out ⟨#[97, 110, 97, 108, 121, 122, 101, 114]⟩
  generalize ((lastOf sets ⟨#[97, 110, 97, 108, 121, 122, 101, 114]⟩).map Tr.text).getD ⟨#[]⟩ = str at *
  have Hent := Lib.hid hent; clear hent
  go_upto_if 110 with fail
  go_cut [] from 106 to 116 (fun wr => SrcRel w nQS (srcQS ff text sets 6) 6 wr)
  case first =>
    as_aux_lemma =>
    by_cases hs0 : str = ⟨#[]⟩
    · have hemp : str.toList.isEmpty = true := by rw [bs_isEmpty]; simp [hs0]
      have Hs0 := Lib.hid hs0; clear hs0
      simp only [hemp, Bool.not_true]
      go_wp2_with fail
      go_meet
      case rel => exact Hcut.out.skip (by rw [Hstep.out, Hent.out, if_pos Hs0.out]; simp)
    · have hemp : str.toList.isEmpty = false := by rw [bs_isEmpty]; simp [hs0]
      have Hs0 := Lib.hid hs0; clear hs0
      simp only [hemp, Bool.not_false]
      go_wp2_with (at_mapUpdate; refine wpList_mapUpdate_own _ rfl _ _ _ 122 rfl 9 20 keyed9 Tryz.underlying122 R9 (w.heap.size + 1) n _ rfl hown hnm (.string ⟨#[97, 110, 97, 108, 121, 122, 101, 114]⟩) (.iface 9 (.string str)) _ rfl rfl kk (.held (.iface 9 (.string str))) [] rfl ?_; intro w3 hn3 hg3)
      go_meet
      case rel => exact Hcut.out.put hn Hes.out (k := ⟨#[97, 110, 97, 108, 121, 122, 101, 114]⟩) hn3 hg3 (.str str hsz) (by rw [Hstep.out, Hent.out, if_neg Hs0.out])
  case rest =>
  clear cu kk hown hn hnm Hes Hent Hstep Hcut n es hsz str
  -- quote_analyzer
  have hstep := srcQS_succ ff text sets (i := 6) (k := ⟨#[113, 117, 111, 116, 101, 95, 97, 110, 97, 108, 121, 122, 101, 114]⟩) (j := 4) rfl
  have Hstep := Lib.hid hstep; clear hstep
  have Hcut := Lib.hid hcut; clear hcut
  obtain ⟨u, cu, fu⟩ := (Hq.out.below Hcut.out.bel).cell (j := 4) (by decide)
  have kk := key_of [113, 117, 111, 116, 101, 95, 97, 110, 97, 108, 121, 122, 101, 114] (by decide)
  obtain ⟨n, es, hown, hn, hes⟩ := Hcut.out.map
  have hnm : n < maxLen := by unfold maxLen; omega
  have Hes := Lib.hid hes; clear hes
  have fu' : u = .string (((lastOf sets ⟨#[113, 117, 111, 116, 101, 95, 97, 110, 97, 108, 121, 122, 101, 114]⟩).map Tr.text).getD ⟨#[]⟩) := fu
  subst fu'
  clear fu
  have hent : entT ff text sets ⟨#[113, 117, 111, 116, 101, 95, 97, 110, 97, 108, 121, 122, 101, 114]⟩ (fkQS 4) = if ((lastOf sets ⟨#[113, 117, 111, 116, 101, 95, 97, 110, 97, 108, 121, 122, 101, 114]⟩).map Tr.text).getD ⟨#[]⟩ = ⟨#[]⟩ then [] else [(⟨#[113, 117, 111, 116, 101, 95, 97, 110, 97, 108, 121, 122, 101, 114]⟩, textT (((lastOf sets ⟨#[113, 117, 111, 116, 101, 95, 97, 110, 97, 108, 121, 122, 101, 114]⟩).map Tr.text).getD ⟨#[]⟩))] := rfl
  have hsz := text_small Hsm.out ⟨#[113, 117, 111, 116, 101, 95, 97, 110, 97, 108, 121, 122, 101, 114]⟩
  generalize ((lastOf sets ⟨#[113, 117, 111, 116, 101, 95, 97, 110, 97, 108, 121, 122, 101, 114]⟩).map Tr.text).getD ⟨#[]⟩ = str at *
  have Hent := Lib.hid hent; clear hent
  go_upto_if 121 with fail
  go_cut [] from 117 to 127 (fun wr => SrcRel w nQS (srcQS ff text sets 7) 7 wr)
  case first =>
    as_aux_lemma =>
    by_cases hs0 : str = ⟨#[]⟩
    · have hemp : str.toList.isEmpty = true := by rw [bs_isEmpty]; simp [hs0]
      have Hs0 := Lib.hid hs0; clear hs0
      simp only [hemp, Bool.not_true]
      go_wp2_with fail
      go_meet
      case rel => exact Hcut.out.skip (by rw [Hstep.out, Hent.out, if_pos Hs0.out]; simp)
    · have hemp : str.toList.isEmpty = false := by rw [bs_isEmpty]; simp [hs0]
      have Hs0 := Lib.hid hs0; clear hs0
      simp only [hemp, Bool.not_false]
      go_wp2_with (at_mapUpdate; refine wpList_mapUpdate_own _ rfl _ _ _ 122 rfl 9 20 keyed9 Tryz.underlying122 R9 (w.heap.size + 1) n _ rfl hown hnm (.string ⟨#[113, 117, 111, 116, 101, 95, 97, 110, 97, 108, 121, 122, 101, 114]⟩) (.iface 9 (.string str)) _ rfl rfl kk (.held (.iface 9 (.string str))) [] rfl ?_; intro w3 hn3 hg3)
      go_meet
      case rel => exact Hcut.out.put hn Hes.out (k := ⟨#[113, 117, 111, 116, 101, 95, 97, 110, 97, 108, 121, 122, 101, 114]⟩) hn3 hg3 (.str str hsz) (by rw [Hstep.out, Hent.out, if_neg Hs0.out])
  case rest =>
  clear cu kk hown hn hnm Hes Hent Hstep Hcut n es hsz str
  -- max_determinized_states
  have hstep := srcQS_succ ff text sets (i := 7) (k := ⟨#[109, 97, 120, 95, 100, 101, 116, 101, 114, 109, 105, 110, 105, 122, 101, 100, 95, 115, 116, 97, 116, 101, 115]⟩) (j := 25) rfl
  have Hstep := Lib.hid hstep; clear hstep
  have Hcut := Lib.hid hcut; clear hcut
  obtain ⟨u, cu, fu⟩ := (Hq.out.below Hcut.out.bel).cell (j := 25) (by decide)
  have kk := key_of [109, 97, 120, 95, 100, 101, 116, 101, 114, 109, 105, 110, 105, 122, 101, 100, 95, 115, 116, 97, 116, 101, 115] (by decide)
  obtain ⟨n, es, hown, hn, hes⟩ := Hcut.out.map
  have hnm : n < maxLen := by unfold maxLen; omega
  have Hes := Lib.hid hes; clear hes
  have fu' : PtrOK _ (h + 4) (fun t => .int .i64 (toI t.num)) (lastOf sets ⟨#[109, 97, 120, 95, 100, 101, 116, 101, 114, 109, 105, 110, 105, 122, 101, 100, 95, 115, 116, 97, 116, 101, 115]⟩) u := fu
  obtain ⟨p, rfl, hp⟩ := fu'.to
  clear fu fu'
  have hent : entT ff text sets ⟨#[109, 97, 120, 95, 100, 101, 116, 101, 114, 109, 105, 110, 105, 122, 101, 100, 95, 115, 116, 97, 116, 101, 115]⟩ (fkQS 25) = match lastOf sets ⟨#[109, 97, 120, 95, 100, 101, 116, 101, 114, 109, 105, 110, 105, 122, 101, 100, 95, 115, 116, 97, 116, 101, 115]⟩ with | none => [] | some t => [(⟨#[109, 97, 120, 95, 100, 101, 116, 101, 114, 109, 105, 110, 105, 122, 101, 100, 95, 115, 116, 97, 116, 101, 115]⟩, numT (floatOfInt .f64 (toI t.num)))] := rfl
  generalize lastOf sets ⟨#[109, 97, 120, 95, 100, 101, 116, 101, 114, 109, 105, 110, 105, 122, 101, 100, 95, 115, 116, 97, 116, 101, 115]⟩ = lst at *
  have Hp := Lib.hid hp; clear hp
  have Hent := Lib.hid hent; clear hent
  go_upto_if 132 with fail
  go_cut [] from 128 to 140 (fun wr => SrcRel w nQS (srcQS ff text sets 8) 8 wr)
  case first =>
    as_aux_lemma =>
    rcases lst with _ | t
    · obtain rfl : p = none := Hp.out
      go_wp2_with fail
      go_meet
      case rel => exact Hcut.out.skip (by rw [Hstep.out, Hent.out]; simp)
    · obtain ⟨b, rfl, hb, cb⟩ := Hp.out
      go_wp2_with (at_mapUpdate; refine wpList_mapUpdate_own _ rfl _ _ _ 122 rfl 9 20 keyed9 Tryz.underlying122 R9 (w.heap.size + 1) n _ rfl hown hnm (.string ⟨#[109, 97, 120, 95, 100, 101, 116, 101, 114, 109, 105, 110, 105, 122, 101, 100, 95, 115, 116, 97, 116, 101, 115]⟩) (.iface 3 (.int .i64 (toI t.num))) _ rfl rfl kk (.held (.iface 3 (.int .i64 (toI t.num)))) [] rfl ?_; intro w3 hn3 hg3)
      go_meet
      case rel => exact Hcut.out.put hn Hes.out (k := ⟨#[109, 97, 120, 95, 100, 101, 116, 101, 114, 109, 105, 110, 105, 122, 101, 100, 95, 115, 116, 97, 116, 101, 115]⟩) hn3 hg3 (.int _) (by rw [Hstep.out, Hent.out])
  case rest =>
  clear cu kk hown hn hnm Hes Hent Hstep Hcut n es Hp lst p
  -- allow_leading_wildcard
  have hstep := srcQS_succ ff text sets (i := 8) (k := ⟨#[97, 108, 108, 111, 119, 95, 108, 101, 97, 100, 105, 110, 103, 95, 119, 105, 108, 100, 99, 97, 114, 100]⟩) (j := 6) rfl
  have Hstep := Lib.hid hstep; clear hstep
  have Hcut := Lib.hid hcut; clear hcut
  obtain ⟨u, cu, fu⟩ := (Hq.out.below Hcut.out.bel).cell (j := 6) (by decide)
  have kk := key_of [97, 108, 108, 111, 119, 95, 108, 101, 97, 100, 105, 110, 103, 95, 119, 105, 108, 100, 99, 97, 114, 100] (by decide)
  obtain ⟨n, es, hown, hn, hes⟩ := Hcut.out.map
  have hnm : n < maxLen := by unfold maxLen; omega
  have Hes := Lib.hid hes; clear hes
  have fu' : PtrOK _ (h + 4) (fun t => .bool t.yes) (lastOf sets ⟨#[97, 108, 108, 111, 119, 95, 108, 101, 97, 100, 105, 110, 103, 95, 119, 105, 108, 100, 99, 97, 114, 100]⟩) u := fu
  obtain ⟨p, rfl, hp⟩ := fu'.to
  clear fu fu'
  have hent : entT ff text sets ⟨#[97, 108, 108, 111, 119, 95, 108, 101, 97, 100, 105, 110, 103, 95, 119, 105, 108, 100, 99, 97, 114, 100]⟩ (fkQS 6) = match lastOf sets ⟨#[97, 108, 108, 111, 119, 95, 108, 101, 97, 100, 105, 110, 103, 95, 119, 105, 108, 100, 99, 97, 114, 100]⟩ with | none => [] | some t => [(⟨#[97, 108, 108, 111, 119, 95, 108, 101, 97, 100, 105, 110, 103, 95, 119, 105, 108, 100, 99, 97, 114, 100]⟩, yesT t.yes)] := rfl
  generalize lastOf sets ⟨#[97, 108, 108, 111, 119, 95, 108, 101, 97, 100, 105, 110, 103, 95, 119, 105, 108, 100, 99, 97, 114, 100]⟩ = lst at *
  have Hp := Lib.hid hp; clear hp
  have Hent := Lib.hid hent; clear hent
  go_upto_if 145 with fail
  go_cut [] from 141 to 153 (fun wr => SrcRel w nQS (srcQS ff text sets 9) 9 wr)
  case first =>
    as_aux_lemma =>
    rcases lst with _ | t
    · obtain rfl : p = none := Hp.out
      go_wp2_with fail
      go_meet
      case rel => exact Hcut.out.skip (by rw [Hstep.out, Hent.out]; simp)
    · obtain ⟨b, rfl, hb, cb⟩ := Hp.out
      go_wp2_with (at_mapUpdate; refine wpList_mapUpdate_own _ rfl _ _ _ 122 rfl 9 20 keyed9 Tryz.underlying122 R9 (w.heap.size + 1) n _ rfl hown hnm (.string ⟨#[97, 108, 108, 111, 119, 95, 108, 101, 97, 100, 105, 110, 103, 95, 119, 105, 108, 100, 99, 97, 114, 100]⟩) (.iface 4 (.bool t.yes)) _ rfl rfl kk (.held (.iface 4 (.bool t.yes))) [] rfl ?_; intro w3 hn3 hg3)
      go_meet
      case rel => exact Hcut.out.put hn Hes.out (k := ⟨#[97, 108, 108, 111, 119, 95, 108, 101, 97, 100, 105, 110, 103, 95, 119, 105, 108, 100, 99, 97, 114, 100]⟩) hn3 hg3 (.yes t.yes) (by rw [Hstep.out, Hent.out])
  case rest =>
  clear cu kk hown hn hnm Hes Hent Hstep Hcut n es Hp lst p
  -- lowercase_expanded_terms
  have hstep := srcQS_succ ff text sets (i := 9) (k := ⟨#[108, 111, 119, 101, 114, 99, 97, 115, 101, 95, 101, 120, 112, 97, 110, 100, 101, 100, 95, 116, 101, 114, 109, 115]⟩) (j := 7) rfl
  have Hstep := Lib.hid hstep; clear hstep
  have Hcut := Lib.hid hcut; clear hcut
  obtain ⟨u, cu, fu⟩ := (Hq.out.below Hcut.out.bel).cell (j := 7) (by decide)
  have kk := key_of [108, 111, 119, 101, 114, 99, 97, 115, 101, 95, 101, 120, 112, 97, 110, 100, 101, 100, 95, 116, 101, 114, 109, 115] (by decide)
  obtain ⟨n, es, hown, hn, hes⟩ := Hcut.out.map
  have hnm : n < maxLen := by unfold maxLen; omega
  have Hes := Lib.hid hes; clear hes
  have fu' : u = .pointer none := fu
  subst fu'
  clear fu
  have hent : entT ff text sets ⟨#[108, 111, 119, 101, 114, 99, 97, 115, 101, 95, 101, 120, 112, 97, 110, 100, 101, 100, 95, 116, 101, 114, 109, 115]⟩ (fkQS 7) = [] := rfl
  have Hent := Lib.hid hent; clear hent
  go_upto_if 158 with fail
  go_cut [] from 154 to 166 (fun wr => SrcRel w nQS (srcQS ff text sets 10) 10 wr)
  case first =>
    as_aux_lemma =>
    go_wp2_with fail
    go_meet
    case rel => exact Hcut.out.skip (by rw [Hstep.out, Hent.out]; simp)
  case rest =>
  clear cu kk hown hn hnm Hes Hent Hstep Hcut n es
  -- enable_position_increments
  have hstep := srcQS_succ ff text sets (i := 10) (k := ⟨#[101, 110, 97, 98, 108, 101, 95, 112, 111, 115, 105, 116, 105, 111, 110, 95, 105, 110, 99, 114, 101, 109, 101, 110, 116, 115]⟩) (j := 8) rfl
  have Hstep := Lib.hid hstep; clear hstep
  have Hcut := Lib.hid hcut; clear hcut
  obtain ⟨u, cu, fu⟩ := (Hq.out.below Hcut.out.bel).cell (j := 8) (by decide)
  have kk := key_of [101, 110, 97, 98, 108, 101, 95, 112, 111, 115, 105, 116, 105, 111, 110, 95, 105, 110, 99, 114, 101, 109, 101, 110, 116, 115] (by decide)
  obtain ⟨n, es, hown, hn, hes⟩ := Hcut.out.map
  have hnm : n < maxLen := by unfold maxLen; omega
  have Hes := Lib.hid hes; clear hes
  have fu' : PtrOK _ (h + 4) (fun t => .bool t.yes) (lastOf sets ⟨#[101, 110, 97, 98, 108, 101, 95, 112, 111, 115, 105, 116, 105, 111, 110, 95, 105, 110, 99, 114, 101, 109, 101, 110, 116, 115]⟩) u := fu
  obtain ⟨p, rfl, hp⟩ := fu'.to
  clear fu fu'
  have hent : entT ff text sets ⟨#[101, 110, 97, 98, 108, 101, 95, 112, 111, 115, 105, 116, 105, 111, 110, 95, 105, 110, 99, 114, 101, 109, 101, 110, 116, 115]⟩ (fkQS 8) = match lastOf sets ⟨#[101, 110, 97, 98, 108, 101, 95, 112, 111, 115, 105, 116, 105, 111, 110, 95, 105, 110, 99, 114, 101, 109, 101, 110, 116, 115]⟩ with | none => [] | some t => [(⟨#[101, 110, 97, 98, 108, 101, 95, 112, 111, 115, 105, 116, 105, 111, 110, 95, 105, 110, 99, 114, 101, 109, 101, 110, 116, 115]⟩, yesT t.yes)] := rfl
  generalize lastOf sets ⟨#[101, 110, 97, 98, 108, 101, 95, 112, 111, 115, 105, 116, 105, 111, 110, 95, 105, 110, 99, 114, 101, 109, 101, 110, 116, 115]⟩ = lst at *
  have Hp := Lib.hid hp; clear hp
  have Hent := Lib.hid hent; clear hent
  go_upto_if 171 with fail
  go_cut [] from 167 to 179 (fun wr => SrcRel w nQS (srcQS ff text sets 11) 11 wr)
  case first =>
    as_aux_lemma =>
    rcases lst with _ | t
    · obtain rfl : p = none := Hp.out
      go_wp2_with fail
      go_meet
      case rel => exact Hcut.out.skip (by rw [Hstep.out, Hent.out]; simp)
    · obtain ⟨b, rfl, hb, cb⟩ := Hp.out
      go_wp2_with (at_mapUpdate; refine wpList_mapUpdate_own _ rfl _ _ _ 122 rfl 9 20 keyed9 Tryz.underlying122 R9 (w.heap.size + 1) n _ rfl hown hnm (.string ⟨#[101, 110, 97, 98, 108, 101, 95, 112, 111, 115, 105, 116, 105, 111, 110, 95, 105, 110, 99, 114, 101, 109, 101, 110, 116, 115]⟩) (.iface 4 (.bool t.yes)) _ rfl rfl kk (.held (.iface 4 (.bool t.yes))) [] rfl ?_; intro w3 hn3 hg3)
      go_meet
      case rel => exact Hcut.out.put hn Hes.out (k := ⟨#[101, 110, 97, 98, 108, 101, 95, 112, 111, 115, 105, 116, 105, 111, 110, 95, 105, 110, 99, 114, 101, 109, 101, 110, 116, 115]⟩) hn3 hg3 (.yes t.yes) (by rw [Hstep.out, Hent.out])
  case rest =>
  clear cu kk hown hn hnm Hes Hent Hstep Hcut n es Hp lst p
  -- fuzziness
  have hstep := srcQS_succ ff text sets (i := 11) (k := ⟨#[102, 117, 122, 122, 105, 110, 101, 115, 115]⟩) (j := 12) rfl
  have Hstep := Lib.hid hstep; clear hstep
  have Hcut := Lib.hid hcut; clear hcut
  obtain ⟨u, cu, fu⟩ := (Hq.out.below Hcut.out.bel).cell (j := 12) (by decide)
  have kk := key_of [102, 117, 122, 122, 105, 110, 101, 115, 115] (by decide)
  obtain ⟨n, es, hown, hn, hes⟩ := Hcut.out.map
  have hnm : n < maxLen := by unfold maxLen; omega
  have Hes := Lib.hid hes; clear hes
  have fu' : u = .string (((lastOf sets ⟨#[102, 117, 122, 122, 105, 110, 101, 115, 115]⟩).map Tr.text).getD ⟨#[]⟩) := fu
  subst fu'
  clear fu
  have hent : entT ff text sets ⟨#[102, 117, 122, 122, 105, 110, 101, 115, 115]⟩ (fkQS 12) = if ((lastOf sets ⟨#[102, 117, 122, 122, 105, 110, 101, 115, 115]⟩).map Tr.text).getD ⟨#[]⟩ = ⟨#[]⟩ then [] else [(⟨#[102, 117, 122, 122, 105, 110, 101, 115, 115]⟩, textT (((lastOf sets ⟨#[102, 117, 122, 122, 105, 110, 101, 115, 115]⟩).map Tr.text).getD ⟨#[]⟩))] := rfl
  have hsz := text_small Hsm.out ⟨#[102, 117, 122, 122, 105, 110, 101, 115, 115]⟩
  generalize ((lastOf sets ⟨#[102, 117, 122, 122, 105, 110, 101, 115, 115]⟩).map Tr.text).getD ⟨#[]⟩ = str at *
  have Hent := Lib.hid hent; clear hent
  go_upto_if 184 with fail
  go_cut [] from 180 to 190 (fun wr => SrcRel w nQS (srcQS ff text sets 12) 12 wr)
  case first =>
    as_aux_lemma =>
    by_cases hs0 : str = ⟨#[]⟩
    · have hemp : str.toList.isEmpty = true := by rw [bs_isEmpty]; simp [hs0]
      have Hs0 := Lib.hid hs0; clear hs0
      simp only [hemp, Bool.not_true]
      go_wp2_with fail
      go_meet
      case rel => exact Hcut.out.skip (by rw [Hstep.out, Hent.out, if_pos Hs0.out]; simp)
    · have hemp : str.toList.isEmpty = false := by rw [bs_isEmpty]; simp [hs0]
      have Hs0 := Lib.hid hs0; clear hs0
      simp only [hemp, Bool.not_false]
      go_wp2_with (at_mapUpdate; refine wpList_mapUpdate_own _ rfl _ _ _ 122 rfl 9 20 keyed9 Tryz.underlying122 R9 (w.heap.size + 1) n _ rfl hown hnm (.string ⟨#[102, 117, 122, 122, 105, 110, 101, 115, 115]⟩) (.iface 9 (.string str)) _ rfl rfl kk (.held (.iface 9 (.string str))) [] rfl ?_; intro w3 hn3 hg3)
      go_meet
      case rel => exact Hcut.out.put hn Hes.out (k := ⟨#[102, 117, 122, 122, 105, 110, 101, 115, 115]⟩) hn3 hg3 (.str str hsz) (by rw [Hstep.out, Hent.out, if_neg Hs0.out])
  case rest =>
  clear cu kk hown hn hnm Hes Hent Hstep Hcut n es hsz str
  -- boost
  have hstep := srcQS_succ ff text sets (i := 12) (k := ⟨#[98, 111, 111, 115, 116]⟩) (j := 11) rfl
  have Hstep := Lib.hid hstep; clear hstep
  have Hcut := Lib.hid hcut; clear hcut
  obtain ⟨u, cu, fu⟩ := (Hq.out.below Hcut.out.bel).cell (j := 11) (by decide)
  have kk := key_of [98, 111, 111, 115, 116] (by decide)
  obtain ⟨n, es, hown, hn, hes⟩ := Hcut.out.map
  have hnm : n < maxLen := by unfold maxLen; omega
  have Hes := Lib.hid hes; clear hes
  have fu' : PtrOK _ (h + 4) (fun t => .float .f64 t.num) (lastOf sets ⟨#[98, 111, 111, 115, 116]⟩) u := fu
  obtain ⟨p, rfl, hp⟩ := fu'.to
  clear fu fu'
  have hent : entT ff text sets ⟨#[98, 111, 111, 115, 116]⟩ (fkQS 11) = match lastOf sets ⟨#[98, 111, 111, 115, 116]⟩ with | none => [] | some t => [(⟨#[98, 111, 111, 115, 116]⟩, numT t.num)] := rfl
  generalize lastOf sets ⟨#[98, 111, 111, 115, 116]⟩ = lst at *
  have Hp := Lib.hid hp; clear hp
  have Hent := Lib.hid hent; clear hent
  go_upto_if 195 with fail
  go_cut [] from 191 to 203 (fun wr => SrcRel w nQS (srcQS ff text sets 13) 13 wr)
  case first =>
    as_aux_lemma =>
    rcases lst with _ | t
    · obtain rfl : p = none := Hp.out
      go_wp2_with fail
      go_meet
      case rel => exact Hcut.out.skip (by rw [Hstep.out, Hent.out]; simp)
    · obtain ⟨b, rfl, hb, cb⟩ := Hp.out
      go_wp2_with (at_mapUpdate; refine wpList_mapUpdate_own _ rfl _ _ _ 122 rfl 9 20 keyed9 Tryz.underlying122 R9 (w.heap.size + 1) n _ rfl hown hnm (.string ⟨#[98, 111, 111, 115, 116]⟩) (.iface 28 (.float .f64 t.num)) _ rfl rfl kk (.held (.iface 28 (.float .f64 t.num))) [] rfl ?_; intro w3 hn3 hg3)
      go_meet
      case rel => exact Hcut.out.put hn Hes.out (k := ⟨#[98, 111, 111, 115, 116]⟩) hn3 hg3 (.num _) (by rw [Hstep.out, Hent.out])
  case rest =>
  clear cu kk hown hn hnm Hes Hent Hstep Hcut n es Hp lst p
  -- fuzzy_prefix_length
  have hstep := srcQS_succ ff text sets (i := 13) (k := ⟨#[102, 117, 122, 122, 121, 95, 112, 114, 101, 102, 105, 120, 95, 108, 101, 110, 103, 116, 104]⟩) (j := 13) rfl
  have Hstep := Lib.hid hstep; clear hstep
  have Hcut := Lib.hid hcut; clear hcut
  obtain ⟨u, cu, fu⟩ := (Hq.out.below Hcut.out.bel).cell (j := 13) (by decide)
  have kk := key_of [102, 117, 122, 122, 121, 95, 112, 114, 101, 102, 105, 120, 95, 108, 101, 110, 103, 116, 104] (by decide)
  obtain ⟨n, es, hown, hn, hes⟩ := Hcut.out.map
  have hnm : n < maxLen := by unfold maxLen; omega
  have Hes := Lib.hid hes; clear hes
  have fu' : PtrOK _ (h + 4) (fun t => .int .i64 (toI t.num)) (lastOf sets ⟨#[102, 117, 122, 122, 121, 95, 112, 114, 101, 102, 105, 120, 95, 108, 101, 110, 103, 116, 104]⟩) u := fu
  obtain ⟨p, rfl, hp⟩ := fu'.to
  clear fu fu'
  have hent : entT ff text sets ⟨#[102, 117, 122, 122, 121, 95, 112, 114, 101, 102, 105, 120, 95, 108, 101, 110, 103, 116, 104]⟩ (fkQS 13) = match lastOf sets ⟨#[102, 117, 122, 122, 121, 95, 112, 114, 101, 102, 105, 120, 95, 108, 101, 110, 103, 116, 104]⟩ with | none => [] | some t => [(⟨#[102, 117, 122, 122, 121, 95, 112, 114, 101, 102, 105, 120, 95, 108, 101, 110, 103, 116, 104]⟩, numT (floatOfInt .f64 (toI t.num)))] := rfl
  generalize lastOf sets ⟨#[102, 117, 122, 122, 121, 95, 112, 114, 101, 102, 105, 120, 95, 108, 101, 110, 103, 116, 104]⟩ = lst at *
  have Hp := Lib.hid hp; clear hp
  have Hent := Lib.hid hent; clear hent
  go_upto_if 208 with fail
  go_cut [] from 204 to 216 (fun wr => SrcRel w nQS (srcQS ff text sets 14) 14 wr)
  case first =>
    as_aux_lemma =>
    rcases lst with _ | t
    · obtain rfl : p = none := Hp.out
      go_wp2_with fail
      go_meet
      case rel => exact Hcut.out.skip (by rw [Hstep.out, Hent.out]; simp)
    · obtain ⟨b, rfl, hb, cb⟩ := Hp.out
      go_wp2_with (at_mapUpdate; refine wpList_mapUpdate_own _ rfl _ _ _ 122 rfl 9 20 keyed9 Tryz.underlying122 R9 (w.heap.size + 1) n _ rfl hown hnm (.string ⟨#[102, 117, 122, 122, 121, 95, 112, 114, 101, 102, 105, 120, 95, 108, 101, 110, 103, 116, 104]⟩) (.iface 3 (.int .i64 (toI t.num))) _ rfl rfl kk (.held (.iface 3 (.int .i64 (toI t.num)))) [] rfl ?_; intro w3 hn3 hg3)
      go_meet
      case rel => exact Hcut.out.put hn Hes.out (k := ⟨#[102, 117, 122, 122, 121, 95, 112, 114, 101, 102, 105, 120, 95, 108, 101, 110, 103, 116, 104]⟩) hn3 hg3 (.int _) (by rw [Hstep.out, Hent.out])
  case rest =>
  clear cu kk hown hn hnm Hes Hent Hstep Hcut n es Hp lst p
  -- fuzzy_max_expansions
  have hstep := srcQS_succ ff text sets (i := 14) (k := ⟨#[102, 117, 122, 122, 121, 95, 109, 97, 120, 95, 101, 120, 112, 97, 110, 115, 105, 111, 110, 115]⟩) (j := 14) rfl
  have Hstep := Lib.hid hstep; clear hstep
  have Hcut := Lib.hid hcut; clear hcut
  obtain ⟨u, cu, fu⟩ := (Hq.out.below Hcut.out.bel).cell (j := 14) (by decide)
  have kk := key_of [102, 117, 122, 122, 121, 95, 109, 97, 120, 95, 101, 120, 112, 97, 110, 115, 105, 111, 110, 115] (by decide)
  obtain ⟨n, es, hown, hn, hes⟩ := Hcut.out.map
  have hnm : n < maxLen := by unfold maxLen; omega
  have Hes := Lib.hid hes; clear hes
  have fu' : PtrOK _ (h + 4) (fun t => .int .i64 (toI t.num)) (lastOf sets ⟨#[102, 117, 122, 122, 121, 95, 109, 97, 120, 95, 101, 120, 112, 97, 110, 115, 105, 111, 110, 115]⟩) u := fu
  obtain ⟨p, rfl, hp⟩ := fu'.to
  clear fu fu'
  have hent : entT ff text sets ⟨#[102, 117, 122, 122, 121, 95, 109, 97, 120, 95, 101, 120, 112, 97, 110, 115, 105, 111, 110, 115]⟩ (fkQS 14) = match lastOf sets ⟨#[102, 117, 122, 122, 121, 95, 109, 97, 120, 95, 101, 120, 112, 97, 110, 115, 105, 111, 110, 115]⟩ with | none => [] | some t => [(⟨#[102, 117, 122, 122, 121, 95, 109, 97, 120, 95, 101, 120, 112, 97, 110, 115, 105, 111, 110, 115]⟩, numT (floatOfInt .f64 (toI t.num)))] := rfl
  generalize lastOf sets ⟨#[102, 117, 122, 122, 121, 95, 109, 97, 120, 95, 101, 120, 112, 97, 110, 115, 105, 111, 110, 115]⟩ = lst at *
  have Hp := Lib.hid hp; clear hp
  have Hent := Lib.hid hent; clear hent
  go_upto_if 221 with fail
  go_cut [] from 217 to 229 (fun wr => SrcRel w nQS (srcQS ff text sets 15) 15 wr)
  case first =>
    as_aux_lemma =>
    rcases lst with _ | t
    · obtain rfl : p = none := Hp.out
      go_wp2_with fail
      go_meet
      case rel => exact Hcut.out.skip (by rw [Hstep.out, Hent.out]; simp)
    · obtain ⟨b, rfl, hb, cb⟩ := Hp.out
      go_wp2_with (at_mapUpdate; refine wpList_mapUpdate_own _ rfl _ _ _ 122 rfl 9 20 keyed9 Tryz.underlying122 R9 (w.heap.size + 1) n _ rfl hown hnm (.string ⟨#[102, 117, 122, 122, 121, 95, 109, 97, 120, 95, 101, 120, 112, 97, 110, 115, 105, 111, 110, 115]⟩) (.iface 3 (.int .i64 (toI t.num))) _ rfl rfl kk (.held (.iface 3 (.int .i64 (toI t.num)))) [] rfl ?_; intro w3 hn3 hg3)
      go_meet
      case rel => exact Hcut.out.put hn Hes.out (k := ⟨#[102, 117, 122, 122, 121, 95, 109, 97, 120, 95, 101, 120, 112, 97, 110, 115, 105, 111, 110, 115]⟩) hn3 hg3 (.int _) (by rw [Hstep.out, Hent.out])
  case rest =>
  clear cu kk hown hn hnm Hes Hent Hstep Hcut n es Hp lst p
  -- fuzzy_rewrite
  have hstep := srcQS_succ ff text sets (i := 15) (k := ⟨#[102, 117, 122, 122, 121, 95, 114, 101, 119, 114, 105, 116, 101]⟩) (j := 15) rfl
  have Hstep := Lib.hid hstep; clear hstep
  have Hcut := Lib.hid hcut; clear hcut
  obtain ⟨u, cu, fu⟩ := (Hq.out.below Hcut.out.bel).cell (j := 15) (by decide)
  have kk := key_of [102, 117, 122, 122, 121, 95, 114, 101, 119, 114, 105, 116, 101] (by decide)
  obtain ⟨n, es, hown, hn, hes⟩ := Hcut.out.map
  have hnm : n < maxLen := by unfold maxLen; omega
  have Hes := Lib.hid hes; clear hes
  have fu' : u = .string (((lastOf sets ⟨#[102, 117, 122, 122, 121, 95, 114, 101, 119, 114, 105, 116, 101]⟩).map Tr.text).getD ⟨#[]⟩) := fu
  subst fu'
  clear fu
  have hent : entT ff text sets ⟨#[102, 117, 122, 122, 121, 95, 114, 101, 119, 114, 105, 116, 101]⟩ (fkQS 15) = if ((lastOf sets ⟨#[102, 117, 122, 122, 121, 95, 114, 101, 119, 114, 105, 116, 101]⟩).map Tr.text).getD ⟨#[]⟩ = ⟨#[]⟩ then [] else [(⟨#[102, 117, 122, 122, 121, 95, 114, 101, 119, 114, 105, 116, 101]⟩, textT (((lastOf sets ⟨#[102, 117, 122, 122, 121, 95, 114, 101, 119, 114, 105, 116, 101]⟩).map Tr.text).getD ⟨#[]⟩))] := rfl
  have hsz := text_small Hsm.out ⟨#[102, 117, 122, 122, 121, 95, 114, 101, 119, 114, 105, 116, 101]⟩
  generalize ((lastOf sets ⟨#[102, 117, 122, 122, 121, 95, 114, 101, 119, 114, 105, 116, 101]⟩).map Tr.text).getD ⟨#[]⟩ = str at *
  have Hent := Lib.hid hent; clear hent
  go_upto_if 234 with fail
  go_cut [] from 230 to 240 (fun wr => SrcRel w nQS (srcQS ff text sets 16) 16 wr)
  case first =>
    as_aux_lemma =>
    by_cases hs0 : str = ⟨#[]⟩
    · have hemp : str.toList.isEmpty = true := by rw [bs_isEmpty]; simp [hs0]
      have Hs0 := Lib.hid hs0; clear hs0
      simp only [hemp, Bool.not_true]
      go_wp2_with fail
      go_meet
      case rel => exact Hcut.out.skip (by rw [Hstep.out, Hent.out, if_pos Hs0.out]; simp)
    · have hemp : str.toList.isEmpty = false := by rw [bs_isEmpty]; simp [hs0]
      have Hs0 := Lib.hid hs0; clear hs0
      simp only [hemp, Bool.not_false]
      go_wp2_with (at_mapUpdate; refine wpList_mapUpdate_own _ rfl _ _ _ 122 rfl 9 20 keyed9 Tryz.underlying122 R9 (w.heap.size + 1) n _ rfl hown hnm (.string ⟨#[102, 117, 122, 122, 121, 95, 114, 101, 119, 114, 105, 116, 101]⟩) (.iface 9 (.string str)) _ rfl rfl kk (.held (.iface 9 (.string str))) [] rfl ?_; intro w3 hn3 hg3)
      go_meet
      case rel => exact Hcut.out.put hn Hes.out (k := ⟨#[102, 117, 122, 122, 121, 95, 114, 101, 119, 114, 105, 116, 101]⟩) hn3 hg3 (.str str hsz) (by rw [Hstep.out, Hent.out, if_neg Hs0.out])
  case rest =>
  clear cu kk hown hn hnm Hes Hent Hstep Hcut n es hsz str
  -- phrase_slop
  have hstep := srcQS_succ ff text sets (i := 16) (k := ⟨#[112, 104, 114, 97, 115, 101, 95, 115, 108, 111, 112]⟩) (j := 16) rfl
  have Hstep := Lib.hid hstep; clear hstep
  have Hcut := Lib.hid hcut; clear hcut
  obtain ⟨u, cu, fu⟩ := (Hq.out.below Hcut.out.bel).cell (j := 16) (by decide)
  have kk := key_of [112, 104, 114, 97, 115, 101, 95, 115, 108, 111, 112] (by decide)
  obtain ⟨n, es, hown, hn, hes⟩ := Hcut.out.map
  have hnm : n < maxLen := by unfold maxLen; omega
  have Hes := Lib.hid hes; clear hes
  have fu' : PtrOK _ (h + 4) (fun t => .int .i64 (toI t.num)) (lastOf sets ⟨#[112, 104, 114, 97, 115, 101, 95, 115, 108, 111, 112]⟩) u := fu
  obtain ⟨p, rfl, hp⟩ := fu'.to
  clear fu fu'
  have hent : entT ff text sets ⟨#[112, 104, 114, 97, 115, 101, 95, 115, 108, 111, 112]⟩ (fkQS 16) = match lastOf sets ⟨#[112, 104, 114, 97, 115, 101, 95, 115, 108, 111, 112]⟩ with | none => [] | some t => [(⟨#[112, 104, 114, 97, 115, 101, 95, 115, 108, 111, 112]⟩, numT (floatOfInt .f64 (toI t.num)))] := rfl
  generalize lastOf sets ⟨#[112, 104, 114, 97, 115, 101, 95, 115, 108, 111, 112]⟩ = lst at *
  have Hp := Lib.hid hp; clear hp
  have Hent := Lib.hid hent; clear hent
  go_upto_if 245 with fail
  go_cut [] from 241 to 253 (fun wr => SrcRel w nQS (srcQS ff text sets 17) 17 wr)
  case first =>
    as_aux_lemma =>
    rcases lst with _ | t
    · obtain rfl : p = none := Hp.out
      go_wp2_with fail
      go_meet
      case rel => exact Hcut.out.skip (by rw [Hstep.out, Hent.out]; simp)
    · obtain ⟨b, rfl, hb, cb⟩ := Hp.out
      go_wp2_with (at_mapUpdate; refine wpList_mapUpdate_own _ rfl _ _ _ 122 rfl 9 20 keyed9 Tryz.underlying122 R9 (w.heap.size + 1) n _ rfl hown hnm (.string ⟨#[112, 104, 114, 97, 115, 101, 95, 115, 108, 111, 112]⟩) (.iface 3 (.int .i64 (toI t.num))) _ rfl rfl kk (.held (.iface 3 (.int .i64 (toI t.num)))) [] rfl ?_; intro w3 hn3 hg3)
      go_meet
      case rel => exact Hcut.out.put hn Hes.out (k := ⟨#[112, 104, 114, 97, 115, 101, 95, 115, 108, 111, 112]⟩) hn3 hg3 (.int _) (by rw [Hstep.out, Hent.out])
  case rest =>
  clear cu kk hown hn hnm Hes Hent Hstep Hcut n es Hp lst p
  -- analyze_wildcard
  have hstep := srcQS_succ ff text sets (i := 17) (k := ⟨#[97, 110, 97, 108, 121, 122, 101, 95, 119, 105, 108, 100, 99, 97, 114, 100]⟩) (j := 9) rfl
  have Hstep := Lib.hid hstep; clear hstep
  have Hcut := Lib.hid hcut; clear hcut
  obtain ⟨u, cu, fu⟩ := (Hq.out.below Hcut.out.bel).cell (j := 9) (by decide)
  have kk := key_of [97, 110, 97, 108, 121, 122, 101, 95, 119, 105, 108, 100, 99, 97, 114, 100] (by decide)
  obtain ⟨n, es, hown, hn, hes⟩ := Hcut.out.map
  have hnm : n < maxLen := by unfold maxLen; omega
  have Hes := Lib.hid hes; clear hes
  have fu' : PtrOK _ (h + 4) (fun t => .bool t.yes) (lastOf sets ⟨#[97, 110, 97, 108, 121, 122, 101, 95, 119, 105, 108, 100, 99, 97, 114, 100]⟩) u := fu
  obtain ⟨p, rfl, hp⟩ := fu'.to
  clear fu fu'
  have hent : entT ff text sets ⟨#[97, 110, 97, 108, 121, 122, 101, 95, 119, 105, 108, 100, 99, 97, 114, 100]⟩ (fkQS 9) = match lastOf sets ⟨#[97, 110, 97, 108, 121, 122, 101, 95, 119, 105, 108, 100, 99, 97, 114, 100]⟩ with | none => [] | some t => [(⟨#[97, 110, 97, 108, 121, 122, 101, 95, 119, 105, 108, 100, 99, 97, 114, 100]⟩, yesT t.yes)] := rfl
  generalize lastOf sets ⟨#[97, 110, 97, 108, 121, 122, 101, 95, 119, 105, 108, 100, 99, 97, 114, 100]⟩ = lst at *
  have Hp := Lib.hid hp; clear hp
  have Hent := Lib.hid hent; clear hent
  go_upto_if 258 with fail
  go_cut [] from 254 to 266 (fun wr => SrcRel w nQS (srcQS ff text sets 18) 18 wr)
  case first =>
    as_aux_lemma =>
    rcases lst with _ | t
    · obtain rfl : p = none := Hp.out
      go_wp2_with fail
      go_meet
      case rel => exact Hcut.out.skip (by rw [Hstep.out, Hent.out]; simp)
    · obtain ⟨b, rfl, hb, cb⟩ := Hp.out
      go_wp2_with (at_mapUpdate; refine wpList_mapUpdate_own _ rfl _ _ _ 122 rfl 9 20 keyed9 Tryz.underlying122 R9 (w.heap.size + 1) n _ rfl hown hnm (.string ⟨#[97, 110, 97, 108, 121, 122, 101, 95, 119, 105, 108, 100, 99, 97, 114, 100]⟩) (.iface 4 (.bool t.yes)) _ rfl rfl kk (.held (.iface 4 (.bool t.yes))) [] rfl ?_; intro w3 hn3 hg3)
      go_meet
      case rel => exact Hcut.out.put hn Hes.out (k := ⟨#[97, 110, 97, 108, 121, 122, 101, 95, 119, 105, 108, 100, 99, 97, 114, 100]⟩) hn3 hg3 (.yes t.yes) (by rw [Hstep.out, Hent.out])
  case rest =>
  clear cu kk hown hn hnm Hes Hent Hstep Hcut n es Hp lst p
  -- rewrite
  have hstep := srcQS_succ ff text sets (i := 18) (k := ⟨#[114, 101, 119, 114, 105, 116, 101]⟩) (j := 20) rfl
  have Hstep := Lib.hid hstep; clear hstep
  have Hcut := Lib.hid hcut; clear hcut
  obtain ⟨u, cu, fu⟩ := (Hq.out.below Hcut.out.bel).cell (j := 20) (by decide)
  have kk := key_of [114, 101, 119, 114, 105, 116, 101] (by decide)
  obtain ⟨n, es, hown, hn, hes⟩ := Hcut.out.map
  have hnm : n < maxLen := by unfold maxLen; omega
  have Hes := Lib.hid hes; clear hes
  have fu' : u = .string (((lastOf sets ⟨#[114, 101, 119, 114, 105, 116, 101]⟩).map Tr.text).getD ⟨#[]⟩) := fu
  subst fu'
  clear fu
  have hent : entT ff text sets ⟨#[114, 101, 119, 114, 105, 116, 101]⟩ (fkQS 20) = if ((lastOf sets ⟨#[114, 101, 119, 114, 105, 116, 101]⟩).map Tr.text).getD ⟨#[]⟩ = ⟨#[]⟩ then [] else [(⟨#[114, 101, 119, 114, 105, 116, 101]⟩, textT (((lastOf sets ⟨#[114, 101, 119, 114, 105, 116, 101]⟩).map Tr.text).getD ⟨#[]⟩))] := rfl
  have hsz := text_small Hsm.out ⟨#[114, 101, 119, 114, 105, 116, 101]⟩
  generalize ((lastOf sets ⟨#[114, 101, 119, 114, 105, 116, 101]⟩).map Tr.text).getD ⟨#[]⟩ = str at *
  have Hent := Lib.hid hent; clear hent
  go_upto_if 271 with fail
  go_cut [] from 267 to 277 (fun wr => SrcRel w nQS (srcQS ff text sets 19) 19 wr)
  case first =>
    as_aux_lemma =>
    by_cases hs0 : str = ⟨#[]⟩
    · have hemp : str.toList.isEmpty = true := by rw [bs_isEmpty]; simp [hs0]
      have Hs0 := Lib.hid hs0; clear hs0
      simp only [hemp, Bool.not_true]
      go_wp2_with fail
      go_meet
      case rel => exact Hcut.out.skip (by rw [Hstep.out, Hent.out, if_pos Hs0.out]; simp)
    · have hemp : str.toList.isEmpty = false := by rw [bs_isEmpty]; simp [hs0]
      have Hs0 := Lib.hid hs0; clear hs0
      simp only [hemp, Bool.not_false]
      go_wp2_with (at_mapUpdate; refine wpList_mapUpdate_own _ rfl _ _ _ 122 rfl 9 20 keyed9 Tryz.underlying122 R9 (w.heap.size + 1) n _ rfl hown hnm (.string ⟨#[114, 101, 119, 114, 105, 116, 101]⟩) (.iface 9 (.string str)) _ rfl rfl kk (.held (.iface 9 (.string str))) [] rfl ?_; intro w3 hn3 hg3)
      go_meet
      case rel => exact Hcut.out.put hn Hes.out (k := ⟨#[114, 101, 119, 114, 105, 116, 101]⟩) hn3 hg3 (.str str hsz) (by rw [Hstep.out, Hent.out, if_neg Hs0.out])
  case rest =>
  clear cu kk hown hn hnm Hes Hent Hstep Hcut n es hsz str
  -- minimum_should_match
  have hstep := srcQS_succ ff text sets (i := 19) (k := ⟨#[109, 105, 110, 105, 109, 117, 109, 95, 115, 104, 111, 117, 108, 100, 95, 109, 97, 116, 99, 104]⟩) (j := 21) rfl
  have Hstep := Lib.hid hstep; clear hstep
  have Hcut := Lib.hid hcut; clear hcut
  obtain ⟨u, cu, fu⟩ := (Hq.out.below Hcut.out.bel).cell (j := 21) (by decide)
  have kk := key_of [109, 105, 110, 105, 109, 117, 109, 95, 115, 104, 111, 117, 108, 100, 95, 109, 97, 116, 99, 104] (by decide)
  obtain ⟨n, es, hown, hn, hes⟩ := Hcut.out.map
  have hnm : n < maxLen := by unfold maxLen; omega
  have Hes := Lib.hid hes; clear hes
  have fu' : u = .string (((lastOf sets ⟨#[109, 105, 110, 105, 109, 117, 109, 95, 115, 104, 111, 117, 108, 100, 95, 109, 97, 116, 99, 104]⟩).map Tr.text).getD ⟨#[]⟩) := fu
  subst fu'
  clear fu
  have hent : entT ff text sets ⟨#[109, 105, 110, 105, 109, 117, 109, 95, 115, 104, 111, 117, 108, 100, 95, 109, 97, 116, 99, 104]⟩ (fkQS 21) = if ((lastOf sets ⟨#[109, 105, 110, 105, 109, 117, 109, 95, 115, 104, 111, 117, 108, 100, 95, 109, 97, 116, 99, 104]⟩).map Tr.text).getD ⟨#[]⟩ = ⟨#[]⟩ then [] else [(⟨#[109, 105, 110, 105, 109, 117, 109, 95, 115, 104, 111, 117, 108, 100, 95, 109, 97, 116, 99, 104]⟩, textT (((lastOf sets ⟨#[109, 105, 110, 105, 109, 117, 109, 95, 115, 104, 111, 117, 108, 100, 95, 109, 97, 116, 99, 104]⟩).map Tr.text).getD ⟨#[]⟩))] := rfl
  have hsz := text_small Hsm.out ⟨#[109, 105, 110, 105, 109, 117, 109, 95, 115, 104, 111, 117, 108, 100, 95, 109, 97, 116, 99, 104]⟩
  generalize ((lastOf sets ⟨#[109, 105, 110, 105, 109, 117, 109, 95, 115, 104, 111, 117, 108, 100, 95, 109, 97, 116, 99, 104]⟩).map Tr.text).getD ⟨#[]⟩ = str at *
  have Hent := Lib.hid hent; clear hent
  go_upto_if 282 with fail
  go_cut [] from 278 to 288 (fun wr => SrcRel w nQS (srcQS ff text sets 20) 20 wr)
  case first =>
    as_aux_lemma =>
    by_cases hs0 : str = ⟨#[]⟩
    · have hemp : str.toList.isEmpty = true := by rw [bs_isEmpty]; simp [hs0]
      have Hs0 := Lib.hid hs0; clear hs0
      simp only [hemp, Bool.not_true]
      go_wp2_with fail
      go_meet
      case rel => exact Hcut.out.skip (by rw [Hstep.out, Hent.out, if_pos Hs0.out]; simp)
    · have hemp : str.toList.isEmpty = false := by rw [bs_isEmpty]; simp [hs0]
      have Hs0 := Lib.hid hs0; clear hs0
      simp only [hemp, Bool.not_false]
      go_wp2_with (at_mapUpdate; refine wpList_mapUpdate_own _ rfl _ _ _ 122 rfl 9 20 keyed9 Tryz.underlying122 R9 (w.heap.size + 1) n _ rfl hown hnm (.string ⟨#[109, 105, 110, 105, 109, 117, 109, 95, 115, 104, 111, 117, 108, 100, 95, 109, 97, 116, 99, 104]⟩) (.iface 9 (.string str)) _ rfl rfl kk (.held (.iface 9 (.string str))) [] rfl ?_; intro w3 hn3 hg3)
      go_meet
      case rel => exact Hcut.out.put hn Hes.out (k := ⟨#[109, 105, 110, 105, 109, 117, 109, 95, 115, 104, 111, 117, 108, 100, 95, 109, 97, 116, 99, 104]⟩) hn3 hg3 (.str str hsz) (by rw [Hstep.out, Hent.out, if_neg Hs0.out])
  case rest =>
  clear cu kk hown hn hnm Hes Hent Hstep Hcut n es hsz str
  -- quote_field_suffix
  have hstep := srcQS_succ ff text sets (i := 20) (k := ⟨#[113, 117, 111, 116, 101, 95, 102, 105, 101, 108, 100, 95, 115, 117, 102, 102, 105, 120]⟩) (j := 5) rfl
  have Hstep := Lib.hid hstep; clear hstep
  have Hcut := Lib.hid hcut; clear hcut
  obtain ⟨u, cu, fu⟩ := (Hq.out.below Hcut.out.bel).cell (j := 5) (by decide)
  have kk := key_of [113, 117, 111, 116, 101, 95, 102, 105, 101, 108, 100, 95, 115, 117, 102, 102, 105, 120] (by decide)
  obtain ⟨n, es, hown, hn, hes⟩ := Hcut.out.map
  have hnm : n < maxLen := by unfold maxLen; omega
  have Hes := Lib.hid hes; clear hes
  have fu' : u = .string (((lastOf sets ⟨#[113, 117, 111, 116, 101, 95, 102, 105, 101, 108, 100, 95, 115, 117, 102, 102, 105, 120]⟩).map Tr.text).getD ⟨#[]⟩) := fu
  subst fu'
  clear fu
  have hent : entT ff text sets ⟨#[113, 117, 111, 116, 101, 95, 102, 105, 101, 108, 100, 95, 115, 117, 102, 102, 105, 120]⟩ (fkQS 5) = if ((lastOf sets ⟨#[113, 117, 111, 116, 101, 95, 102, 105, 101, 108, 100, 95, 115, 117, 102, 102, 105, 120]⟩).map Tr.text).getD ⟨#[]⟩ = ⟨#[]⟩ then [] else [(⟨#[113, 117, 111, 116, 101, 95, 102, 105, 101, 108, 100, 95, 115, 117, 102, 102, 105, 120]⟩, textT (((lastOf sets ⟨#[113, 117, 111, 116, 101, 95, 102, 105, 101, 108, 100, 95, 115, 117, 102, 102, 105, 120]⟩).map Tr.text).getD ⟨#[]⟩))] := rfl
  have hsz := text_small Hsm.out ⟨#[113, 117, 111, 116, 101, 95, 102, 105, 101, 108, 100, 95, 115, 117, 102, 102, 105, 120]⟩
  generalize ((lastOf sets ⟨#[113, 117, 111, 116, 101, 95, 102, 105, 101, 108, 100, 95, 115, 117, 102, 102, 105, 120]⟩).map Tr.text).getD ⟨#[]⟩ = str at *
  have Hent := Lib.hid hent; clear hent
  go_upto_if 293 with fail
  go_cut [] from 289 to 299 (fun wr => SrcRel w nQS (srcQS ff text sets 21) 21 wr)
  case first =>
    as_aux_lemma =>
    by_cases hs0 : str = ⟨#[]⟩
    · have hemp : str.toList.isEmpty = true := by rw [bs_isEmpty]; simp [hs0]
      have Hs0 := Lib.hid hs0; clear hs0
      simp only [hemp, Bool.not_true]
      go_wp2_with fail
      go_meet
      case rel => exact Hcut.out.skip (by rw [Hstep.out, Hent.out, if_pos Hs0.out]; simp)
    · have hemp : str.toList.isEmpty = false := by rw [bs_isEmpty]; simp [hs0]
      have Hs0 := Lib.hid hs0; clear hs0
      simp only [hemp, Bool.not_false]
      go_wp2_with (at_mapUpdate; refine wpList_mapUpdate_own _ rfl _ _ _ 122 rfl 9 20 keyed9 Tryz.underlying122 R9 (w.heap.size + 1) n _ rfl hown hnm (.string ⟨#[113, 117, 111, 116, 101, 95, 102, 105, 101, 108, 100, 95, 115, 117, 102, 102, 105, 120]⟩) (.iface 9 (.string str)) _ rfl rfl kk (.held (.iface 9 (.string str))) [] rfl ?_; intro w3 hn3 hg3)
      go_meet
      case rel => exact Hcut.out.put hn Hes.out (k := ⟨#[113, 117, 111, 116, 101, 95, 102, 105, 101, 108, 100, 95, 115, 117, 102, 102, 105, 120]⟩) hn3 hg3 (.str str hsz) (by rw [Hstep.out, Hent.out, if_neg Hs0.out])
  case rest =>
  clear cu kk hown hn hnm Hes Hent Hstep Hcut n es hsz str
  -- lenient
  have hstep := srcQS_succ ff text sets (i := 21) (k := ⟨#[108, 101, 110, 105, 101, 110, 116]⟩) (j := 22) rfl
  have Hstep := Lib.hid hstep; clear hstep
  have Hcut := Lib.hid hcut; clear hcut
  obtain ⟨u, cu, fu⟩ := (Hq.out.below Hcut.out.bel).cell (j := 22) (by decide)
  have kk := key_of [108, 101, 110, 105, 101, 110, 116] (by decide)
  obtain ⟨n, es, hown, hn, hes⟩ := Hcut.out.map
  have hnm : n < maxLen := by unfold maxLen; omega
  have Hes := Lib.hid hes; clear hes
  have fu' : PtrOK _ (h + 4) (fun t => .bool t.yes) (lastOf sets ⟨#[108, 101, 110, 105, 101, 110, 116]⟩) u := fu
  obtain ⟨p, rfl, hp⟩ := fu'.to
  clear fu fu'
  have hent : entT ff text sets ⟨#[108, 101, 110, 105, 101, 110, 116]⟩ (fkQS 22) = match lastOf sets ⟨#[108, 101, 110, 105, 101, 110, 116]⟩ with | none => [] | some t => [(⟨#[108, 101, 110, 105, 101, 110, 116]⟩, yesT t.yes)] := rfl
  generalize lastOf sets ⟨#[108, 101, 110, 105, 101, 110, 116]⟩ = lst at *
  have Hp := Lib.hid hp; clear hp
  have Hent := Lib.hid hent; clear hent
  go_upto_if 304 with fail
  go_cut [] from 300 to 312 (fun wr => SrcRel w nQS (srcQS ff text sets 22) 22 wr)
  case first =>
    as_aux_lemma =>
    rcases lst with _ | t
    · obtain rfl : p = none := Hp.out
      go_wp2_with fail
      go_meet
      case rel => exact Hcut.out.skip (by rw [Hstep.out, Hent.out]; simp)
    · obtain ⟨b, rfl, hb, cb⟩ := Hp.out
      go_wp2_with (at_mapUpdate; refine wpList_mapUpdate_own _ rfl _ _ _ 122 rfl 9 20 keyed9 Tryz.underlying122 R9 (w.heap.size + 1) n _ rfl hown hnm (.string ⟨#[108, 101, 110, 105, 101, 110, 116]⟩) (.iface 4 (.bool t.yes)) _ rfl rfl kk (.held (.iface 4 (.bool t.yes))) [] rfl ?_; intro w3 hn3 hg3)
      go_meet
      case rel => exact Hcut.out.put hn Hes.out (k := ⟨#[108, 101, 110, 105, 101, 110, 116]⟩) hn3 hg3 (.yes t.yes) (by rw [Hstep.out, Hent.out])
  case rest =>
  clear cu kk hown hn hnm Hes Hent Hstep Hcut n es Hp lst p
  -- _name
  have hstep := srcQS_succ ff text sets (i := 22) (k := ⟨#[95, 110, 97, 109, 101]⟩) (j := 23) rfl
  have Hstep := Lib.hid hstep; clear hstep
  have Hcut := Lib.hid hcut; clear hcut
  obtain ⟨u, cu, fu⟩ := (Hq.out.below Hcut.out.bel).cell (j := 23) (by decide)
  have kk := key_of [95, 110, 97, 109, 101] (by decide)
  obtain ⟨n, es, hown, hn, hes⟩ := Hcut.out.map
  have hnm : n < maxLen := by unfold maxLen; omega
  have Hes := Lib.hid hes; clear hes
  have fu' : u = .string (((lastOf sets ⟨#[95, 110, 97, 109, 101]⟩).map Tr.text).getD ⟨#[]⟩) := fu
  subst fu'
  clear fu
  have hent : entT ff text sets ⟨#[95, 110, 97, 109, 101]⟩ (fkQS 23) = if ((lastOf sets ⟨#[95, 110, 97, 109, 101]⟩).map Tr.text).getD ⟨#[]⟩ = ⟨#[]⟩ then [] else [(⟨#[95, 110, 97, 109, 101]⟩, textT (((lastOf sets ⟨#[95, 110, 97, 109, 101]⟩).map Tr.text).getD ⟨#[]⟩))] := rfl
  have hsz := text_small Hsm.out ⟨#[95, 110, 97, 109, 101]⟩
  generalize ((lastOf sets ⟨#[95, 110, 97, 109, 101]⟩).map Tr.text).getD ⟨#[]⟩ = str at *
  have Hent := Lib.hid hent; clear hent
  go_upto_if 317 with fail
  go_cut [] from 313 to 323 (fun wr => SrcRel w nQS (srcQS ff text sets 23) 23 wr)
  case first =>
    as_aux_lemma =>
    by_cases hs0 : str = ⟨#[]⟩
    · have hemp : str.toList.isEmpty = true := by rw [bs_isEmpty]; simp [hs0]
      have Hs0 := Lib.hid hs0; clear hs0
      simp only [hemp, Bool.not_true]
      go_wp2_with fail
      go_meet
      case rel => exact Hcut.out.skip (by rw [Hstep.out, Hent.out, if_pos Hs0.out]; simp)
    · have hemp : str.toList.isEmpty = false := by rw [bs_isEmpty]; simp [hs0]
      have Hs0 := Lib.hid hs0; clear hs0
      simp only [hemp, Bool.not_false]
      go_wp2_with (at_mapUpdate; refine wpList_mapUpdate_own _ rfl _ _ _ 122 rfl 9 20 keyed9 Tryz.underlying122 R9 (w.heap.size + 1) n _ rfl hown hnm (.string ⟨#[95, 110, 97, 109, 101]⟩) (.iface 9 (.string str)) _ rfl rfl kk (.held (.iface 9 (.string str))) [] rfl ?_; intro w3 hn3 hg3)
      go_meet
      case rel => exact Hcut.out.put hn Hes.out (k := ⟨#[95, 110, 97, 109, 101]⟩) hn3 hg3 (.str str hsz) (by rw [Hstep.out, Hent.out, if_neg Hs0.out])
  case rest =>
  clear cu kk hown hn hnm Hes Hent Hstep Hcut n es hsz str
  -- locale
  have hstep := srcQS_succ ff text sets (i := 23) (k := ⟨#[108, 111, 99, 97, 108, 101]⟩) (j := 10) rfl
  have Hstep := Lib.hid hstep; clear hstep
  have Hcut := Lib.hid hcut; clear hcut
  obtain ⟨u, cu, fu⟩ := (Hq.out.below Hcut.out.bel).cell (j := 10) (by decide)
  have kk := key_of [108, 111, 99, 97, 108, 101] (by decide)
  obtain ⟨n, es, hown, hn, hes⟩ := Hcut.out.map
  have hnm : n < maxLen := by unfold maxLen; omega
  have Hes := Lib.hid hes; clear hes
  have fu' : u = .string ⟨#[]⟩ := fu
  subst fu'
  clear fu
  have hent : entT ff text sets ⟨#[108, 111, 99, 97, 108, 101]⟩ (fkQS 10) = [] := rfl
  have Hent := Lib.hid hent; clear hent
  go_upto_if 328 with fail
  go_cut [] from 324 to 334 (fun wr => SrcRel w nQS (srcQS ff text sets 24) 24 wr)
  case first =>
    as_aux_lemma =>
    go_wp2_with fail
    go_meet
    case rel => exact Hcut.out.skip (by rw [Hstep.out, Hent.out]; simp)
  case rest =>
  clear cu kk hown hn hnm Hes Hent Hstep Hcut n es
  -- time_zone
  have hstep := srcQS_succ ff text sets (i := 24) (k := ⟨#[116, 105, 109, 101, 95, 122, 111, 110, 101]⟩) (j := 24) rfl
  have Hstep := Lib.hid hstep; clear hstep
  have Hcut := Lib.hid hcut; clear hcut
  obtain ⟨u, cu, fu⟩ := (Hq.out.below Hcut.out.bel).cell (j := 24) (by decide)
  have kk := key_of [116, 105, 109, 101, 95, 122, 111, 110, 101] (by decide)
  obtain ⟨n, es, hown, hn, hes⟩ := Hcut.out.map
  have hnm : n < maxLen := by unfold maxLen; omega
  have Hes := Lib.hid hes; clear hes
  have fu' : u = .string (((lastOf sets ⟨#[116, 105, 109, 101, 95, 122, 111, 110, 101]⟩).map Tr.text).getD ⟨#[]⟩) := fu
  subst fu'
  clear fu
  have hent : entT ff text sets ⟨#[116, 105, 109, 101, 95, 122, 111, 110, 101]⟩ (fkQS 24) = if ((lastOf sets ⟨#[116, 105, 109, 101, 95, 122, 111, 110, 101]⟩).map Tr.text).getD ⟨#[]⟩ = ⟨#[]⟩ then [] else [(⟨#[116, 105, 109, 101, 95, 122, 111, 110, 101]⟩, textT (((lastOf sets ⟨#[116, 105, 109, 101, 95, 122, 111, 110, 101]⟩).map Tr.text).getD ⟨#[]⟩))] := rfl
  have hsz := text_small Hsm.out ⟨#[116, 105, 109, 101, 95, 122, 111, 110, 101]⟩
  generalize ((lastOf sets ⟨#[116, 105, 109, 101, 95, 122, 111, 110, 101]⟩).map Tr.text).getD ⟨#[]⟩ = str at *
  have Hent := Lib.hid hent; clear hent
  go_upto_if 339 with fail
  go_cut [] from 335 to 345 (fun wr => SrcRel w nQS (srcQS ff text sets 25) 25 wr)
  case first =>
    as_aux_lemma =>
    by_cases hs0 : str = ⟨#[]⟩
    · have hemp : str.toList.isEmpty = true := by rw [bs_isEmpty]; simp [hs0]
      have Hs0 := Lib.hid hs0; clear hs0
      simp only [hemp, Bool.not_true]
      go_wp2_with fail
      go_meet
      case rel => exact Hcut.out.skip (by rw [Hstep.out, Hent.out, if_pos Hs0.out]; simp)
    · have hemp : str.toList.isEmpty = false := by rw [bs_isEmpty]; simp [hs0]
      have Hs0 := Lib.hid hs0; clear hs0
      simp only [hemp, Bool.not_false]
      go_wp2_with (at_mapUpdate; refine wpList_mapUpdate_own _ rfl _ _ _ 122 rfl 9 20 keyed9 Tryz.underlying122 R9 (w.heap.size + 1) n _ rfl hown hnm (.string ⟨#[116, 105, 109, 101, 95, 122, 111, 110, 101]⟩) (.iface 9 (.string str)) _ rfl rfl kk (.held (.iface 9 (.string str))) [] rfl ?_; intro w3 hn3 hg3)
      go_meet
      case rel => exact Hcut.out.put hn Hes.out (k := ⟨#[116, 105, 109, 101, 95, 122, 111, 110, 101]⟩) hn3 hg3 (.str str hsz) (by rw [Hstep.out, Hent.out, if_neg Hs0.out])
  case rest =>
  clear cu kk hown hn hnm Hes Hent Hstep Hcut n es hsz str
  -- escape
  have hstep := srcQS_succ ff text sets (i := 25) (k := ⟨#[101, 115, 99, 97, 112, 101]⟩) (j := 26) rfl
  have Hstep := Lib.hid hstep; clear hstep
  have Hcut := Lib.hid hcut; clear hcut
  obtain ⟨u, cu, fu⟩ := (Hq.out.below Hcut.out.bel).cell (j := 26) (by decide)
  have kk := key_of [101, 115, 99, 97, 112, 101] (by decide)
  obtain ⟨n, es, hown, hn, hes⟩ := Hcut.out.map
  have hnm : n < maxLen := by unfold maxLen; omega
  have Hes := Lib.hid hes; clear hes
  have fu' : PtrOK _ (h + 4) (fun t => .bool t.yes) (lastOf sets ⟨#[101, 115, 99, 97, 112, 101]⟩) u := fu
  obtain ⟨p, rfl, hp⟩ := fu'.to
  clear fu fu'
  have hent : entT ff text sets ⟨#[101, 115, 99, 97, 112, 101]⟩ (fkQS 26) = match lastOf sets ⟨#[101, 115, 99, 97, 112, 101]⟩ with | none => [] | some t => [(⟨#[101, 115, 99, 97, 112, 101]⟩, yesT t.yes)] := rfl
  generalize lastOf sets ⟨#[101, 115, 99, 97, 112, 101]⟩ = lst at *
  have Hp := Lib.hid hp; clear hp
  have Hent := Lib.hid hent; clear hent
  go_upto_if 350 with fail
  go_cut [] from 346 to 358 (fun wr => SrcRel w nQS (srcQS ff text sets 26) 26 wr)
  case first =>
    as_aux_lemma =>
    rcases lst with _ | t
    · obtain rfl : p = none := Hp.out
      go_wp2_with fail
      go_meet
      case rel => exact Hcut.out.skip (by rw [Hstep.out, Hent.out]; simp)
    · obtain ⟨b, rfl, hb, cb⟩ := Hp.out
      go_wp2_with (at_mapUpdate; refine wpList_mapUpdate_own _ rfl _ _ _ 122 rfl 9 20 keyed9 Tryz.underlying122 R9 (w.heap.size + 1) n _ rfl hown hnm (.string ⟨#[101, 115, 99, 97, 112, 101]⟩) (.iface 4 (.bool t.yes)) _ rfl rfl kk (.held (.iface 4 (.bool t.yes))) [] rfl ?_; intro w3 hn3 hg3)
      go_meet
      case rel => exact Hcut.out.put hn Hes.out (k := ⟨#[101, 115, 99, 97, 112, 101]⟩) hn3 hg3 (.yes t.yes) (by rw [Hstep.out, Hent.out])
  case rest =>
  clear cu kk hown hn hnm Hes Hent Hstep Hcut n es Hp lst p
  -- type
  have hstep := srcQS_succ ff text sets (i := 26) (k := ⟨#[116, 121, 112, 101]⟩) (j := 27) rfl
  have Hstep := Lib.hid hstep; clear hstep
  have Hcut := Lib.hid hcut; clear hcut
  obtain ⟨u, cu, fu⟩ := (Hq.out.below Hcut.out.bel).cell (j := 27) (by decide)
  have kk := key_of [116, 121, 112, 101] (by decide)
  obtain ⟨n, es, hown, hn, hes⟩ := Hcut.out.map
  have hnm : n < maxLen := by unfold maxLen; omega
  have Hes := Lib.hid hes; clear hes
  have fu' : u = .string (((lastOf sets ⟨#[116, 121, 112, 101]⟩).map Tr.text).getD ⟨#[]⟩) := fu
  subst fu'
  clear fu
  have hent : entT ff text sets ⟨#[116, 121, 112, 101]⟩ (fkQS 27) = if ((lastOf sets ⟨#[116, 121, 112, 101]⟩).map Tr.text).getD ⟨#[]⟩ = ⟨#[]⟩ then [] else [(⟨#[116, 121, 112, 101]⟩, textT (((lastOf sets ⟨#[116, 121, 112, 101]⟩).map Tr.text).getD ⟨#[]⟩))] := rfl
  have hsz := text_small Hsm.out ⟨#[116, 121, 112, 101]⟩
  generalize ((lastOf sets ⟨#[116, 121, 112, 101]⟩).map Tr.text).getD ⟨#[]⟩ = str at *
  have Hent := Lib.hid hent; clear hent
  go_upto_if 363 with fail
  go_cut [] from 359 to 369 (fun wr => SrcRel w nQS (srcQS ff text sets 27) 27 wr)
  case first =>
    as_aux_lemma =>
    by_cases hs0 : str = ⟨#[]⟩
    · have hemp : str.toList.isEmpty = true := by rw [bs_isEmpty]; simp [hs0]
      have Hs0 := Lib.hid hs0; clear hs0
      simp only [hemp, Bool.not_true]
      go_wp2_with fail
      go_meet
      case rel => exact Hcut.out.skip (by rw [Hstep.out, Hent.out, if_pos Hs0.out]; simp)
    · have hemp : str.toList.isEmpty = false := by rw [bs_isEmpty]; simp [hs0]
      have Hs0 := Lib.hid hs0; clear hs0
      simp only [hemp, Bool.not_false]
      go_wp2_with (at_mapUpdate; refine wpList_mapUpdate_own _ rfl _ _ _ 122 rfl 9 20 keyed9 Tryz.underlying122 R9 (w.heap.size + 1) n _ rfl hown hnm (.string ⟨#[116, 121, 112, 101]⟩) (.iface 9 (.string str)) _ rfl rfl kk (.held (.iface 9 (.string str))) [] rfl ?_; intro w3 hn3 hg3)
      go_meet
      case rel => exact Hcut.out.put hn Hes.out (k := ⟨#[116, 121, 112, 101]⟩) hn3 hg3 (.str str hsz) (by rw [Hstep.out, Hent.out, if_neg Hs0.out])
  case rest =>
  clear cu kk hown hn hnm Hes Hent Hstep Hcut n es hsz str
  go_wp2_with fail
  refine bodyPost_ret (v := .tuple #[.iface 122 (.map (some w.heap.size)), .nilIface]) (by simp [results, Tryz.results79, go_sem]) rfl ?_
  exact ⟨_, rfl, hcut.any (srcQS_nodup ff text sets) (by have := srcQS_length ff text sets; omega), hcut.bel⟩
end Go.Proofs.YtbcnhcpgloncdaaGreatDoor
