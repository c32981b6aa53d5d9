/- A bool query has the clauses of each place in order, how many should match as is set at last, and its settings: the law 'FnBool' returns true for all settings that can be read as data, and these read behind the call as they read before. Conditions: those of the given row of the second form: what is read is of bulk at most 1048576; the listed tables of strconv hold what the program's text lays there (the card ties them). -/
import Derived.Test.YtbcnhcpgloncdaaGreatDoorCards
import Derived.Test.YtbcnhcpgloncdaaGreatDoorTie
import Derived.Test.YtbcnhcpgloncdaaGreatDoorIw
import Derived.Test.YtbcnhcpgloncdaaGreatDoorHj
import Derived.Lib.AppendIntMem
namespace Go.Proofs.YtbcnhcpgloncdaaGreatDoor
open Go Go.ChangeShapes Go.WideShapes Go.ChangeAt Go.RowKit Go.WideMaps
set_option maxRecDepth 100000

/-- What the argument is. -/
theorem slice_arg {H : Type} {enc : TypeId × Value → H} {W : World} {base : Nat} {v : Value} {d : DataW H} {p : List MemPlace} (hval : Value.okWide Tryz.prog W .any base 24 v) (h : DataW.Trod enc Tryz.prog W 0 (fun _ => true) true 24 v d p) :
    ∃ (a : Option Addr) (sets : List SetM) (cap : Nat), v = .slice a sets.length cap ∧ sets.length ≤ cap ∧ cap ≤ maxLen ∧ SetsAt W (fun _ => True) a sets ∧ (∀ r, (∀ m ∈ d.weights Tryz.prog 24, m ≤ r) → SetsOK (Rows.uptoBulk d) r sets) ∧ (sets.map bulkS).sum + 1 ≤ Rows.uptoBulk d := by
  obtain ⟨a, len, cap, rfl⟩ := okWide_slice Tryz.underlying24 hval
  obtain ⟨fuel, hf⟩ := h
  obtain ⟨a', sets, cap', hc, h1, h2, h3, h4, h5⟩ := open_sets hf
  have e : Value.slice a len cap = .slice a' sets.length cap' := by simpa [Value.cells] using hc
  injection e with e1 e2 e3
  subst e1 e2 e3
  exact ⟨_, sets, _, rfl, h1, h2, h3, h4, h5⟩

theorem gTen : Tryz.prog.globalNamed "internal/strconv.uint64pow10" = some 1 := by kernel_rfl
theorem tTen : (Tryz.prog.globals[1]?).map (·.type) = some 264 := by kernel_rfl
theorem Tryz.c264 : Tryz.prog.cellsOf 264 = 20 := by kernel_rfl
theorem Tryz.c212 : Tryz.prog.cellsOf 212 = 1 := by kernel_rfl
theorem tens_of_laid {W : World} (h : laidMetH Tryz.prog Rows.fnBoolUptoRow.laid W) : Lib.TabIs Tryz.prog W "internal/strconv.uint64pow10" .u64 Lib.pow10Tab := by
  have h' : laidMet Tryz.prog Rows.fnBoolUptoRow.laid W := h
  obtain ⟨ps, hlv, _⟩ := h'
  obtain ⟨_, _, _, _, _, _, _, _, _, _, ⟨_, _, _, _, _, _, _, _, _, _, ⟨_, _, _, _, _, _, _, _, _, _, ⟨g3, t3, c3, f3, p3, _, hg3, ht3, hv3, hd3, _⟩, _⟩, _⟩, _⟩ := hlv
  obtain rfl := Option.some.inj (gTen.symm.trans hg3)
  obtain rfl := Option.some.inj (tTen.symm.trans ht3)
  have := Lib.cells_of_tab (zs := Lib.pow10Tab) Tryz.underlying264 Tryz.underlying212 Tryz.c212 Tryz.c264 hd3
  unfold Lib.TabIs
  rw [hv3, ← this]

theorem bool_contract (H : Type) (enc : TypeId × Value → H) (W : World) (base : Nat) (args : Array Value) (ds gs : List (DataW H)) (before : List MemPlace)
    (hval : ∀ (j : Nat) t v, Tryz.f5.params[j]? = some t → args[j]? = some v → Value.okWide Tryz.prog W .any base t v)
    (hW : DataW.Whole enc Tryz.prog Tryz.f5.params.toList Rows.fnBoolSpec.vars false W args.toList ds gs before) (hk : Rows.uptoSmall H (ds ++ gs) = true) (hz : (DataW.weightsEach Tryz.prog Tryz.f5.params.toList (ds ++ gs)).all (· ≤ reachBytes) = true) (hL : laidMetH Tryz.prog Rows.fnBoolUptoRow.laid W) :
    Calls Tryz.prog 5 args W fun e W' => ∃ v, e = .returned v ∧ Rows.fnBoolSpec.post enc Tryz.prog Tryz.f5 false true false false W args v W' := by
  have hW' := hW
  obtain ⟨p, q, hA0, hV, rfl, hfz, hnd⟩ := hW
  have hA : DataW.TrodAll enc Tryz.prog W 0 (fun _ => true) true Tryz.f5.params.toList args.toList ds p := hA0
  rw [Tryz.params5] at hA hval
  obtain ⟨v1, vs1, d1, ds1, p1, q1, hargs, rfl, rfl, h1, r1⟩ := trodAll_cons hA
  obtain ⟨rfl, rfl, rfl⟩ := trodAll_nil r1
  obtain rfl : args = #[v1] := by cases args; simp_all
  obtain ⟨rfl, rfl⟩ := trodVars_none hV
  have h1k := h1
  obtain ⟨a, sets, cap, rfl, hc1, hc2, hsets, hok, hsum⟩ := slice_arg (hval 0 24 v1 rfl rfl) h1
  clear hA0
  have hok := hok reachBytes (fun m hm => by
    have := List.all_eq_true.1 hz m
    rw [Tryz.params5] at this
    simp only [List.append_nil, DataW.weightsEach, decide_eq_true_eq] at this
    exact this (by simp [hm]))
  have hsmall : Rows.uptoBulk d1 ≤ 1048576 := by
    unfold Rows.uptoSmall at hk
    simp only [List.append_nil, decide_eq_true_eq, Rows.uptoBulkAll, Nat.add_zero] at hk
    exact hk
  simp only [List.append_nil] at hW'
  have hlt : ∀ x ∈ p1, x.block < W.heap.size := fun x hx => by simpa using hW'.lt x hx
  refine (fnBool_any sets (fun _ => True) a cap W (Rows.uptoBulk d1) reachBytes hsets hsmall (by unfold reachBytes; omega) (fun s hs => (hok s hs).2.2) (by omega) (Lib.tabBelow_of_tabIs (tens_of_laid hL))).mono fun e W' ⟨he, hb⟩ => ?_
  subst he
  refine ⟨_, rfl, [d1], [], p1, [], p1 ++ [], [], hW', ?_, ?_, rfl, hb.frame _, fun h => by cases h⟩
  · exact trodAll_cons_mk (shut_bool Tryz.underlying4 _) trodAll_mk0
  · exact trodAll_cons_mk (Below.trod Tryz.laidOut (by kernel_rfl) (of_decide_eq_true (by kernel_rfl)) h1k hb hlt) trodAll_mk0

theorem bool_reads (os : Os) {H : Type} (enc : TypeId × Value → H) : ∃ places, DataW.whole enc Tryz.prog ((floatWorld os).forCall (fun _ _ => 0) ⟨#[], #[.slice none 0 0], []⟩).memory Tryz.f5.params.toList Rows.fnBoolSpec.vars false #[Value.slice none 0 0].toList 8 = some ([.nil], [], places) :=
  ⟨[], by kernel_rfl⟩

theorem bool_lifted (os : Os) (started : os.Started) (H : Type) (enc : TypeId × Value → H) (F : Stop.Interp) :
    ReturnsInHanded {} Tryz.checked os 5 .any ((Rows.OpenSpec.upto Rows.fnBoolSpec).preRow enc Tryz.prog Tryz.f5 Rows.fnBoolUptoRow.domain false Rows.fnBoolUptoRow.laid) (((Rows.OpenSpec.upto Rows.fnBoolSpec).at F).post enc Tryz.prog Tryz.f5 false true false false) := by
  obtain ⟨places, hx⟩ := bool_reads os enc
  refine returnsInHanded_of_row (C := Tryz.checked) (s := Rows.OpenSpec.upto Rows.fnBoolSpec) Tryz.own started (by kernel_rfl) Tryz.func5
    (witness_row_atRef (enc := enc) (C := Tryz.checked) false (floatWorld os) #[.slice none 0 0] rfl (float_shaped os _) (by kernel_rfl) (by kernel_rfl)
      (OpenSpec.preRow_of_cond 8 hx (by kernel_rfl) (fun k hk => by cases hk; rfl) (by kernel_rfl) (float_met os _))) ?_
  intro W base args ds gs before hval hW _ hk hz hL _ _
  have e : Tryz.f5.params.toList ++ (Rows.OpenSpec.upto Rows.fnBoolSpec).bare.plain.varTypes Tryz.checked.prog = Tryz.f5.params.toList := List.append_nil _
  rw [e] at hz
  exact bool_contract H enc W base args ds gs before hval hW (hk _ rfl) hz hL

theorem bool_said : Rows.FnBoolUptoSaid :=
  OpenClaim.holds_of_cond 5 Tryz.f5 rfl rfl rfl rfl rfl rfl rfl ⟨rfl, rfl, rfl, rfl, rfl⟩ rfl rfl rfl rfl rfl (by kernel_rfl) Tryz.func5 (by kernel_rfl)
    (of_decide_eq_true (by kernel_rfl)) (by unfold Func.isWrapper; first | (rw [if_pos (by decide +kernel)]; kernel_rfl) | (rw [if_neg (by decide +kernel)]; exact ⟨rfl, rfl⟩))
    (fun os started H enc _ F => by rw [OpenClaim.pre_eq_preRow]; exact bool_lifted os started H enc F)

/-- No parameter wants a stand-in; the program's own looks are off. -/
theorem bool_plain (f : FuncId) (fn : Func) (hf : Tryz.pinned.checked.prog.funcNamed "loop.example/pub-g01525/laws.FnBool" = some f) (hfn : Tryz.pinned.checked.prog.funcs[f]? = some fn) :
    true = Tryz.pinned.checked.prog.looks [] ∧ ∀ (j : Nat) t, fn.params[j]? = some t → Tryz.pinned.checked.prog.wantsStandIn t = false := by
  obtain rfl : f = 5 := Option.some.inj ((show Tryz.prog.funcNamed "loop.example/pub-g01525/laws.FnBool" = some 5 by kernel_rfl).symm.trans hf) |>.symm
  obtain rfl : fn = Tryz.f5 := (Option.some.inj (Tryz.func5.symm.trans hfn)).symm
  refine ⟨by kernel_rfl, fun j t ht => ?_⟩
  rw [Tryz.params5] at ht
  have : t = 24 := by simpa using Array.mem_of_getElem? ht
  subst this
  exact (show Tryz.prog.wantsStandIn 24 = false by kernel_rfl)

/-- THE CARD. -/
theorem bool_card : Rows.FnBoolUptoCardSaid :=
  Claim7.holds_tied_plain_at .later [] _ _ _ _ bool_said (fun _ h => by cases h) (by kernel_rfl) (fun _ h => by cases h) fnBoolUpto_row_tie rfl ⟨rfl, rfl⟩ (by kernel_rfl) rfl bool_plain (by kernel_rfl)
#print axioms bool_card
end Go.Proofs.YtbcnhcpgloncdaaGreatDoor
