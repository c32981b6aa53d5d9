/- A function_score query has its query, its score functions in order, each with its filter and its weight, and its settings: the law 'FnFunctionScore' returns true for all arguments that can be read as data, and these read behind the call as they read before. Conditions: those of the given row of the second form: what is read is of bulk at most 1048576; the listed tables of unicode hold what the program's text lays there (the card ties them). -/
import Derived.Test.YtbcnhcpgloncdaaGreatDoorCards
import Derived.Test.YtbcnhcpgloncdaaGreatDoorTie
import Derived.Test.YtbcnhcpgloncdaaGreatDoorQKd
import Derived.Test.YtbcnhcpgloncdaaGreatDoorQKf
import Derived.Lib.AppendIntMem
namespace Go.Proofs.YtbcnhcpgloncdaaGreatDoor
open Go Go.ChangeShapes Go.WideShapes Go.ChangeAt Go.RowKit Go.WideMaps
set_option maxRecDepth 100000

/-- What the arguments are. -/
theorem trees_arg {H : Type} {enc : TypeId × Value → H} {W : World} {base : Nat} {v : Value} {d : DataW H} {p : List MemPlace} (hval : Value.okWide Tryz.prog W .any base 22 v) (h : DataW.Trod enc Tryz.prog W 0 (fun _ => true) true 22 v d p) :
    ∃ (a : Option Addr) (ts : List Tr) (cap : Nat), v = .slice a ts.length cap ∧ TreesAt W (fun _ => True) a ts ∧ ts.length + 1 ≤ Rows.uptoBulk d ∧ ∀ r, (∀ m ∈ d.weights Tryz.prog 22, m ≤ r) → ∀ t ∈ ts, OkT (Rows.uptoBulk d) r t := by
  obtain ⟨a, len, cap, rfl⟩ := okWide_slice Tryz.underlying22 hval
  obtain ⟨fuel, hf⟩ := h
  obtain ⟨a', ts, cap', hc, h1, h2, h3, h4, h5⟩ := open_trees hf
  have e : Value.slice a len cap = .slice a' ts.length cap' := by simpa [Value.cells] using hc
  injection e with e1 e2 e3
  subst e1 e2 e3
  exact ⟨_, ts, _, rfl, h3, h4, h5⟩
theorem scores_arg {H : Type} {enc : TypeId × Value → H} {W : World} {base : Nat} {v : Value} {d : DataW H} {p : List MemPlace} (hval : Value.okWide Tryz.prog W .any base 23 v) (h : DataW.Trod enc Tryz.prog W 0 (fun _ => true) true 23 v d p) :
    ∃ (a : Option Addr) (ss : List ScoreM) (cap : Nat), v = .slice a ss.length cap ∧ ScoresAt W (fun _ => True) a ss ∧ ss.length + 1 ≤ Rows.uptoBulk d ∧ ∀ r, (∀ m ∈ d.weights Tryz.prog 23, m ≤ r) → ScoresOK (Rows.uptoBulk d) r ss := by
  obtain ⟨a, len, cap, rfl⟩ := okWide_slice Tryz.underlying23 hval
  obtain ⟨fuel, hf⟩ := h
  obtain ⟨a', ss, cap', hc, h1, h2, h3, h4, h5⟩ := open_scores hf
  have e : Value.slice a len cap = .slice a' ss.length cap' := by simpa [Value.cells] using hc
  injection e with e1 e2 e3
  subst e1 e2 e3
  exact ⟨_, ss, _, rfl, h3, h4, h5⟩
theorem sets_arg {H : Type} {enc : TypeId × Value → H} {W : World} {base : Nat} {v : Value} {d : DataW H} {p : List MemPlace} (hval : Value.okWide Tryz.prog W .any base 24 v) (h : DataW.Trod enc Tryz.prog W 0 (fun _ => true) true 24 v d p) :
    ∃ (a : Option Addr) (sets : List SetM) (cap : Nat), v = .slice a sets.length cap ∧ SetsAt W (fun _ => True) a sets ∧ sets.length + 1 ≤ Rows.uptoBulk d ∧ ∀ r, (∀ m ∈ d.weights Tryz.prog 24, m ≤ r) → SetsOK (Rows.uptoBulk d) r sets := by
  obtain ⟨a, len, cap, rfl⟩ := okWide_slice Tryz.underlying24 hval
  obtain ⟨fuel, hf⟩ := h
  obtain ⟨a', sets, cap', hc, h1, h2, h3, h4, h5⟩ := open_sets hf
  have e : Value.slice a len cap = .slice a' sets.length cap' := by simpa [Value.cells] using hc
  injection e with e1 e2 e3
  subst e1 e2 e3
  exact ⟨_, sets, _, rfl, h3, sets_len h5, h4⟩
theorem ScoresOK.more {n m r : Nat} (h : n ≤ m) {ss : List ScoreM} (hs : ScoresOK n r ss) : ScoresOK m r ss := fun s hs' => by
  obtain ⟨h1, h2, h3, h4, h5⟩ := hs s hs'
  exact ⟨by omega, by omega, by omega, h4.more h, fun t ht => (h5 t ht).more h⟩

theorem score_contract (H : Type) (enc : TypeId × Value → H) (W : World) (base : Nat) (args : Array Value) (ds gs : List (DataW H)) (before : List MemPlace)
    (hval : ∀ (j : Nat) t v, Tryz.f3.params[j]? = some t → args[j]? = some v → Value.okWide Tryz.prog W .any base t v)
    (hW : DataW.Whole enc Tryz.prog Tryz.f3.params.toList Rows.fnFunctionScoreSpec.vars false W args.toList ds gs before) (hk : Rows.uptoSmall H (ds ++ gs) = true) (hz : (DataW.weightsEach Tryz.prog Tryz.f3.params.toList (ds ++ gs)).all (· ≤ reachBytes) = true) (hL : laidMetH Tryz.prog Rows.fnFunctionScoreUptoRow.laid W) :
    Calls Tryz.prog 3 args W fun e W' => ∃ v, e = .returned v ∧ Rows.fnFunctionScoreSpec.post enc Tryz.prog Tryz.f3 false true false false W args v W' := by
  have hW' := hW
  obtain ⟨p, q, hA0, hV, rfl, hfz, hnd⟩ := hW
  have hA : DataW.TrodAll enc Tryz.prog W 0 (fun _ => true) true Tryz.f3.params.toList args.toList ds p := hA0
  rw [Tryz.params3] at hA hval
  obtain ⟨v0, vs0, d0, ds0, p0, q0, hargs, rfl, rfl, h0, r0⟩ := trodAll_cons hA
  obtain ⟨v1, vs1, d1, ds1, p1, q1, rfl, rfl, rfl, h1, r1⟩ := trodAll_cons r0
  obtain ⟨v2, vs2, d2, ds2, p2, q2, rfl, rfl, rfl, h2, r2⟩ := trodAll_cons r1
  obtain ⟨rfl, rfl, rfl⟩ := trodAll_nil r2
  obtain rfl : args = #[v0, v1, v2] := by cases args; simp_all
  obtain ⟨rfl, rfl⟩ := trodVars_none hV
  have h0k := h0
  have h1k := h1
  have h2k := h2
  obtain ⟨qa, qs, qc, rfl, hqs, hql, hqok⟩ := trees_arg (hval 0 22 v0 rfl rfl) h0
  obtain ⟨fa, fs, fc, rfl, hfs, hfl, hfok⟩ := scores_arg (hval 1 23 v1 rfl rfl) h1
  obtain ⟨a, sets, c, rfl, hsets, hl, hsok⟩ := sets_arg (hval 2 24 v2 rfl rfl) h2
  clear hA0
  have hW3 : ∀ m, (m ∈ d0.weights Tryz.prog 22 ∨ m ∈ d1.weights Tryz.prog 23 ∨ m ∈ d2.weights Tryz.prog 24) → m ≤ reachBytes := fun m hm => by
    have := List.all_eq_true.1 hz m
    rw [Tryz.params3] at this
    simp only [List.append_nil, DataW.weightsEach, List.mem_append, decide_eq_true_eq] at this
    exact this (by simpa using hm)
  have hqok := hqok reachBytes (fun m hm => hW3 m (.inl hm))
  have hfok := hfok reachBytes (fun m hm => hW3 m (.inr (.inl hm)))
  have hsok := hsok reachBytes (fun m hm => hW3 m (.inr (.inr hm)))
  have hsmall : Rows.uptoBulk d0 + (Rows.uptoBulk d1 + Rows.uptoBulk d2) ≤ 1048576 := by
    unfold Rows.uptoSmall at hk
    simp only [List.append_nil, decide_eq_true_eq, Rows.uptoBulkAll, Nat.add_zero] at hk
    exact hk
  simp only [List.append_nil] at hW'
  have hlt : ∀ x ∈ p0 ++ (p1 ++ p2), x.block < W.heap.size := fun x hx => by simpa using hW'.lt x (by simpa using hx)
  have hlt0 : ∀ x ∈ p0, x.block < W.heap.size := fun x hx => hlt x (by simp [hx])
  have hlt1 : ∀ x ∈ p1, x.block < W.heap.size := fun x hx => hlt x (by simp [hx])
  have hlt2 : ∀ x ∈ p2, x.block < W.heap.size := fun x hx => hlt x (by simp [hx])
  refine (fnFS_any qs fs sets (fun _ => True) qa fa a qc fc c W 1048576 reachBytes hqs hfs hsets (Nat.le_refl _) (by unfold reachBytes; omega) (by omega) (by omega) (by omega) (fun t ht => (hqok t ht).more (by omega)) (hfok.more (by omega)) (hsok.more (by omega)) (fun wx hb => utabs_below (utabs_of_laid hL) hb)).mono fun e W' ⟨he, hb⟩ => ?_
  subst he
  refine ⟨_, rfl, [d0, d1, d2], [], p0 ++ (p1 ++ p2), [], p0 ++ (p1 ++ (p2 ++ [])), [], by simpa using hW', ?_, ?_, rfl, hb.frame _, fun h => by cases h⟩
  · exact trodAll_cons_mk (shut_bool Tryz.underlying4 _) trodAll_mk0
  · exact trodAll_cons_mk (Below.trod Tryz.laidOut (by kernel_rfl) (of_decide_eq_true (by kernel_rfl)) h0k hb hlt0) (trodAll_cons_mk (Below.trod Tryz.laidOut (by kernel_rfl) (of_decide_eq_true (by kernel_rfl)) h1k hb hlt1) (trodAll_cons_mk (Below.trod Tryz.laidOut (by kernel_rfl) (of_decide_eq_true (by kernel_rfl)) h2k hb hlt2) trodAll_mk0))

theorem score_reads (os : Os) {H : Type} (enc : TypeId × Value → H) : ∃ places, DataW.whole enc Tryz.prog ((caseWorld os).forCall (fun _ _ => 0) ⟨#[], #[.slice none 0 0, .slice none 0 0, .slice none 0 0], []⟩).memory Tryz.f3.params.toList Rows.fnFunctionScoreSpec.vars false #[Value.slice none 0 0, .slice none 0 0, .slice none 0 0].toList 8 = some ([.nil, .nil, .nil], [], places) :=
  ⟨[], by kernel_rfl⟩
theorem types284 : Tryz.prog.cellTypes Tryz.prog.depth 284 = some (List.replicate 1392 212) := by kernel_rfl
def zero284 : Array Value := Array.replicate 1392 (.int .u64 0)
theorem zero284_at : (((begin Tryz.prog (fun _ _ => 0) default).world.heap[3]?).bind Obj.row?) = some (zero284, 284) := by kernel_rfl
noncomputable abbrev CW (os : Os) : World := (caseWorld os).forCall (fun _ _ => 0) ⟨#[], #[.slice none 0 0, .slice none 0 0, .slice none 0 0], []⟩
theorem heap3 (os : Os) : (CW os).heap[3]? = some (.cells zero284 284 (0, 0)) := by kernel_rfl
theorem zero_cell (w : World) : Cell.okRefB Tryz.prog w 212 (.int .u64 0) = true := by
  have hm : IntKind.u64.min = 0 := by decide
  have hM : IntKind.u64.max = 18446744073709551615 := by decide
  unfold Cell.okRefB
  rw [Tryz.underlying212]
  simp only [Cell.okB, Tryz.underlying212, hm, hM]
  simp
theorem zero_row (w : World) : Row.okRefB Tryz.prog w 284 zero284 = true := by
  unfold Row.okRefB
  rw [types284]
  simp only [List.length_replicate]
  rw [Bool.and_eq_true]
  refine ⟨by decide, ?_⟩
  rw [List.all_eq_true]
  intro i hi
  have hi' : i < 1392 := by have := List.mem_range.1 hi; simpa [zero284] using this
  have e1 : zero284[i]? = some (.int .u64 0) := by unfold zero284; rw [Array.getElem?_replicate]; simp [hi']
  have e2 : (List.replicate 1392 212)[i % 1392]? = some 212 := by rw [List.getElem?_replicate]; simp; omega
  rw [e1, e2]
  exact zero_cell w
theorem case_shaped (os : Os) : (CW os).variablesRefB Tryz.prog = true := by
  unfold World.variablesRefB
  rw [List.all_eq_true]
  intro g hg
  have hg' : g < 10 := by
    have := List.mem_range.1 hg
    exact Nat.lt_of_lt_of_eq this (by kernel_rfl)
  by_cases h3 : g = 3
  · subst h3
    simp only [zero284_at, heap3, zero_row, Bool.or_true, Bool.and_true]
    simp
  · clear hg
    match g, hg', h3 with
    | 0, _, _ => (show _ = true; kernel_rfl)
    | 1, _, _ => (show _ = true; kernel_rfl)
    | 2, _, _ => (show _ = true; kernel_rfl)
    | 3, _, h => exact absurd rfl h
    | 4, _, _ => (show _ = true; kernel_rfl)
    | 5, _, _ => (show _ = true; kernel_rfl)
    | 6, _, _ => (show _ = true; kernel_rfl)
    | 7, _, _ => (show _ = true; kernel_rfl)
    | 8, _, _ => (show _ = true; kernel_rfl)
    | 9, _, _ => (show _ = true; kernel_rfl)

theorem score_lifted (os : Os) (started : os.Started) (H : Type) (enc : TypeId × Value → H) (F : Stop.Interp) :
    ReturnsInHanded {} Tryz.checked os 3 .any ((Rows.OpenSpec.upto Rows.fnFunctionScoreSpec).preRow enc Tryz.prog Tryz.f3 Rows.fnFunctionScoreUptoRow.domain false Rows.fnFunctionScoreUptoRow.laid) (((Rows.OpenSpec.upto Rows.fnFunctionScoreSpec).at F).post enc Tryz.prog Tryz.f3 false true false false) := by
  obtain ⟨places, hx⟩ := score_reads os enc
  refine returnsInHanded_of_row (C := Tryz.checked) (s := Rows.OpenSpec.upto Rows.fnFunctionScoreSpec) Tryz.own started (by kernel_rfl) Tryz.func3
    (witness_row_atRef (enc := enc) (C := Tryz.checked) false (caseWorld os) #[.slice none 0 0, .slice none 0 0, .slice none 0 0] rfl (case_shaped os) (by kernel_rfl) (by kernel_rfl)
      (OpenSpec.preRow_of_cond 8 hx (by kernel_rfl) (fun k hk => by cases hk; rfl) (by kernel_rfl) (case_met os _))) ?_
  intro W base args ds gs before hval hW _ hk hz hL _ _
  have e : Tryz.f3.params.toList ++ (Rows.OpenSpec.upto Rows.fnFunctionScoreSpec).bare.plain.varTypes Tryz.checked.prog = Tryz.f3.params.toList := List.append_nil _
  rw [e] at hz
  exact score_contract H enc W base args ds gs before hval hW (hk _ rfl) hz hL

theorem score_said : Rows.FnFunctionScoreUptoSaid :=
  OpenClaim.holds_of_cond 3 Tryz.f3 rfl rfl rfl rfl rfl rfl rfl ⟨rfl, rfl, rfl, rfl, rfl⟩ rfl rfl rfl rfl rfl (by kernel_rfl) Tryz.func3 (by kernel_rfl)
    (of_decide_eq_true (by kernel_rfl)) (by unfold Func.isWrapper; first | (rw [if_pos (by decide +kernel)]; kernel_rfl) | (rw [if_neg (by decide +kernel)]; exact ⟨rfl, rfl⟩))
    (fun os started H enc _ F => by rw [OpenClaim.pre_eq_preRow]; exact score_lifted os started H enc F)

/-- No parameter wants a stand-in; the program's own looks are off. -/
theorem score_plain (f : FuncId) (fn : Func) (hf : Tryz.pinned.checked.prog.funcNamed "loop.example/pub-g01525/laws.FnFunctionScore" = some f) (hfn : Tryz.pinned.checked.prog.funcs[f]? = some fn) :
    true = Tryz.pinned.checked.prog.looks [] ∧ ∀ (j : Nat) t, fn.params[j]? = some t → Tryz.pinned.checked.prog.wantsStandIn t = false := by
  obtain rfl : f = 3 := Option.some.inj ((show Tryz.prog.funcNamed "loop.example/pub-g01525/laws.FnFunctionScore" = some 3 by kernel_rfl).symm.trans hf) |>.symm
  obtain rfl : fn = Tryz.f3 := (Option.some.inj (Tryz.func3.symm.trans hfn)).symm
  refine ⟨by kernel_rfl, fun j t ht => ?_⟩
  rw [Tryz.params3] at ht
  have : t = 22 ∨ t = 23 ∨ t = 24 := by simpa using Array.mem_of_getElem? ht
  rcases this with rfl | rfl | rfl
  · exact (show Tryz.prog.wantsStandIn 22 = false by kernel_rfl)
  · exact (show Tryz.prog.wantsStandIn 23 = false by kernel_rfl)
  · exact (show Tryz.prog.wantsStandIn 24 = false by kernel_rfl)

/-- THE CARD. -/
theorem score_card : Rows.FnFunctionScoreUptoCardSaid :=
  Claim7.holds_tied_plain_at .later [] _ _ _ _ score_said (fun _ h => by cases h) (by kernel_rfl) (fun _ h => by cases h) fnFunctionScoreUpto_row_tie rfl ⟨rfl, rfl⟩ (by kernel_rfl) rfl score_plain (by kernel_rfl)
#print axioms score_card
end Go.Proofs.YtbcnhcpgloncdaaGreatDoor
