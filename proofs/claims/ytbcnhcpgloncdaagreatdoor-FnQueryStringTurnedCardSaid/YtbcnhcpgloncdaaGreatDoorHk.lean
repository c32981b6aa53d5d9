/- The order of settings of a query_string query makes no odds: the law 'FnQueryStringTurned' returns true for every text and all settings that can be read as data, and both read behind the call as they read before. Conditions: none but those of the given row: the listed tables of strconv hold what the program's text lays there (the card ties them). -/
import Derived.Test.YtbcnhcpgloncdaaGreatDoorCards
import Derived.Test.YtbcnhcpgloncdaaGreatDoorTie
import Derived.Test.YtbcnhcpgloncdaaGreatDoorHg
import Derived.Test.YtbcnhcpgloncdaaGreatDoorHi
import Derived.Test.YtbcnhcpgloncdaaGreatDoorHj
namespace Go.Proofs.YtbcnhcpgloncdaaGreatDoor
open Go Go.ChangeShapes Go.WideShapes Go.ChangeAt Go.RowKit Go.WideMaps
set_option maxRecDepth 100000

/-- What the arguments are. -/
theorem slice_arg {H : Type} {enc : TypeId × Value → H} {W : World} {base : Nat} {v : Value} {d : DataW H} {p : List MemPlace} (hval : Value.okWide Tryz.prog W .any base 24 v) (h : DataW.Trod enc Tryz.prog W 0 (fun _ => true) true 24 v d p) :
    ∃ (a : Option Addr) (sets : List SetM) (cap : Nat), v = .slice a sets.length cap ∧ sets.length ≤ cap ∧ cap ≤ maxLen ∧ SetsAt W (fun _ => True) a sets ∧ (∀ r, (∀ m ∈ d.weights Tryz.prog 24, m ≤ r) → SetsOK (Rows.uptoBulk d) r sets) ∧ (sets.map bulkS).sum + 1 ≤ Rows.uptoBulk d := by
  obtain ⟨a, len, cap, rfl⟩ := okWide_slice Tryz.underlying24 hval
  obtain ⟨fuel, hf⟩ := h
  obtain ⟨a', sets, cap', hc, h1, h2, h3, h4, h5⟩ := open_sets hf
  have e : Value.slice a len cap = .slice a' sets.length cap' := by simpa [Value.cells] using hc
  injection e with e1 e2 e3
  subst e1 e2 e3
  exact ⟨_, sets, _, rfl, h1, h2, h3, h4, h5⟩

theorem turned_contract (H : Type) (enc : TypeId × Value → H) (W : World) (base : Nat) (args : Array Value) (ds gs : List (DataW H)) (before : List MemPlace)
    (hval : ∀ (j : Nat) t v, Tryz.f4.params[j]? = some t → args[j]? = some v → Value.okWide Tryz.prog W .any base t v)
    (hW : DataW.Whole enc Tryz.prog Tryz.f4.params.toList Rows.fnQueryStringTurnedSpec.vars false W args.toList ds gs before) (hz : (DataW.weightsEach Tryz.prog Tryz.f4.params.toList (ds ++ gs)).all (· ≤ reachBytes) = true) (hL : laidMetH Tryz.prog Rows.fnQueryStringTurnedRow.laid W) :
    Calls Tryz.prog 4 args W fun e W' => ∃ v, e = .returned v ∧ Rows.fnQueryStringTurnedSpec.post enc Tryz.prog Tryz.f4 false true false false W args v W' := by
  have hW' := hW
  obtain ⟨p, q, hA0, hV, rfl, hfz, hnd⟩ := hW
  have hA : DataW.TrodAll enc Tryz.prog W 0 (fun _ => true) true Tryz.f4.params.toList args.toList ds p := hA0
  rw [Tryz.params4] at hA hval
  obtain ⟨v0, vs0, d0, ds0, p0, q0, hargs, rfl, rfl, h0, r0⟩ := trodAll_cons hA
  obtain ⟨v1, vs1, d1, ds1, p1, q1, rfl, rfl, rfl, h1, r1⟩ := trodAll_cons r0
  obtain ⟨rfl, rfl, rfl⟩ := trodAll_nil r1
  obtain rfl : args = #[v0, v1] := by cases args; simp_all
  obtain ⟨rfl, rfl⟩ := trodVars_none hV
  have h0k := h0
  have h1k := h1
  obtain ⟨text, rfl, rfl, rfl, ht⟩ := ChangeMaps.open_string Tryz.underlying9 (hval 0 9 v0 rfl rfl) h0
  obtain ⟨a, sets, cap, rfl, hc1, hc2, hsets, hok, _⟩ := slice_arg (hval 1 24 v1 rfl rfl) h1
  clear hA0
  have hok := hok reachBytes (fun m hm => by
    have := List.all_eq_true.1 hz m
    rw [Tryz.params4] at this
    simp only [List.append_nil, DataW.weightsEach, List.mem_append, decide_eq_true_eq] at this
    exact this (by simp [hm]))
  simp only [List.append_nil, List.nil_append] at hW'
  have hlt : ∀ x ∈ p1, x.block < W.heap.size := fun x hx => by simpa using hW'.lt x hx
  unfold maxLen at ht hc2
  refine (turned_any text sets (fun _ => True) a cap W hsets hc1 (by omega) (by omega) (fun s hs => ⟨by have := (hok s hs).2.2.text; unfold reachBytes at this; omega, (hok s hs).2.2.num⟩) (ftabs_of_laid hL)).mono fun e W' ⟨he, hb⟩ => ?_
  subst he
  refine ⟨_, rfl, [_, d1], [], p1, [], [] ++ (p1 ++ []), [], hW', ?_, ?_, rfl, hb.frame _, fun h => by cases h⟩
  · exact trodAll_cons_mk (shut_bool Tryz.underlying4 _) trodAll_mk0
  · exact trodAll_cons_mk (Below.trod Tryz.laidOut (by kernel_rfl) (of_decide_eq_true (by kernel_rfl)) h0k hb (fun x hx => by cases hx)) (trodAll_cons_mk (Below.trod Tryz.laidOut (by kernel_rfl) (of_decide_eq_true (by kernel_rfl)) h1k hb hlt) trodAll_mk0)

theorem turned_reads (os : Os) {H : Type} (enc : TypeId × Value → H) : ∃ places, DataW.whole enc Tryz.prog ((floatWorld os).forCall (fun _ _ => 0) ⟨#[], #[.string ⟨#[]⟩, .slice none 0 0], []⟩).memory Tryz.f4.params.toList Rows.fnQueryStringTurnedSpec.vars false #[Value.string ⟨#[]⟩, .slice none 0 0].toList 8 = some ([.lit (.string []), .nil], [], places) :=
  ⟨[], by kernel_rfl⟩

theorem turned_lifted (os : Os) (started : os.Started) (H : Type) (enc : TypeId × Value → H) (F : Stop.Interp) :
    ReturnsInHanded {} Tryz.checked os 4 .any ((OpenSpec.ofChange Rows.fnQueryStringTurnedSpec).preRow enc Tryz.prog Tryz.f4 Rows.fnQueryStringTurnedRow.domain false Rows.fnQueryStringTurnedRow.laid) (((OpenSpec.ofChange Rows.fnQueryStringTurnedSpec).at F).post enc Tryz.prog Tryz.f4 false true false false) := by
  obtain ⟨places, hx⟩ := turned_reads os enc
  refine returnsInHanded_of_row (C := Tryz.checked) (s := OpenSpec.ofChange Rows.fnQueryStringTurnedSpec) Tryz.own started (by kernel_rfl) Tryz.func4
    (witness_row_atRef (enc := enc) (C := Tryz.checked) false (floatWorld os) #[.string ⟨#[]⟩, .slice none 0 0] rfl (float_shaped os _) (by kernel_rfl) (by kernel_rfl)
      (OpenSpec.preRow_of_cond 8 hx (by kernel_rfl) (fun k hk => by cases hk) (by kernel_rfl) (float_met os _))) ?_
  intro W base args ds gs before hval hW _ _ hz hL _ _
  have e : Tryz.f4.params.toList ++ (OpenSpec.ofChange Rows.fnQueryStringTurnedSpec).bare.plain.varTypes Tryz.checked.prog = Tryz.f4.params.toList := List.append_nil _
  rw [e] at hz
  exact turned_contract H enc W base args ds gs before hval hW hz hL

theorem turned_said : Rows.FnQueryStringTurnedSaid :=
  OpenClaim.holds_of_cond 4 Tryz.f4 rfl rfl rfl rfl rfl rfl rfl ⟨rfl, rfl, rfl, rfl, rfl⟩ rfl rfl rfl rfl rfl (by kernel_rfl) Tryz.func4 (by kernel_rfl)
    (of_decide_eq_true (by kernel_rfl)) (by unfold Func.isWrapper; first | (rw [if_pos (by decide +kernel)]; kernel_rfl) | (rw [if_neg (by decide +kernel)]; exact ⟨rfl, rfl⟩))
    (fun os started H enc _ F => by rw [OpenClaim.pre_eq_preRow]; exact turned_lifted os started H enc F)

/-- No parameter wants a stand-in; the program's own looks are off. -/
theorem turned_plain (f : FuncId) (fn : Func) (hf : Tryz.pinned.checked.prog.funcNamed "loop.example/pub-g01525/laws.FnQueryStringTurned" = some f) (hfn : Tryz.pinned.checked.prog.funcs[f]? = some fn) :
    true = Tryz.pinned.checked.prog.looks [] ∧ ∀ (j : Nat) t, fn.params[j]? = some t → Tryz.pinned.checked.prog.wantsStandIn t = false := by
  obtain rfl : f = 4 := Option.some.inj ((show Tryz.prog.funcNamed "loop.example/pub-g01525/laws.FnQueryStringTurned" = some 4 by kernel_rfl).symm.trans hf) |>.symm
  obtain rfl : fn = Tryz.f4 := (Option.some.inj (Tryz.func4.symm.trans hfn)).symm
  refine ⟨by kernel_rfl, fun j t ht => ?_⟩
  rw [Tryz.params4] at ht
  have : t = 9 ∨ t = 24 := by simpa using Array.mem_of_getElem? ht
  rcases this with rfl | rfl
  · exact (show Tryz.prog.wantsStandIn 9 = false by kernel_rfl)
  · exact (show Tryz.prog.wantsStandIn 24 = false by kernel_rfl)

/-- THE CARD. -/
theorem turned_card : Rows.FnQueryStringTurnedCardSaid :=
  Claim7.holds_tied_plain_at .later [] _ _ _ _ turned_said (fun _ h => by cases h) (by kernel_rfl) (fun _ h => by cases h) fnQueryStringTurned_row_tie rfl ⟨rfl, rfl⟩ (by kernel_rfl) rfl turned_plain (by kernel_rfl)
#print axioms turned_card
end Go.Proofs.YtbcnhcpgloncdaaGreatDoor
