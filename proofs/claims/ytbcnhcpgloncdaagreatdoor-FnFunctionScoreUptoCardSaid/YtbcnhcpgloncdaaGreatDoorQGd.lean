/- The tables that the statements read, and the kind of a setting in them. -/
import Derived.Test.YtbcnhcpgloncdaaGreatDoorQGa
import Derived.Lib.Strings
namespace Go.Proofs.YtbcnhcpgloncdaaGreatDoor
open Go Go.RowKit

/-- The rows of a table, over lists: for the kernel. -/
def rowsOfL : Nat → List UInt8 → Option (List (List UInt8 × List UInt8))
  | 0, _ => none
  | n + 1, l =>
    if l.length = 0 then some [] else
    let e := placeOf l 44
    let row := l.take e
    let b := placeOf row 32
    if b < e then
      if e = l.length then some [(row.take b, (row.take e).drop (b + 1))]
      else (rowsOfL n (l.drop (e + 1))).map ((row.take b, (row.take e).drop (b + 1)) :: ·)
    else none
theorem extract_list (s : ByteArray) (a b : Nat) : s.extract a b = ⟨((s.data.toList.take b).drop a).toArray⟩ := by
  apply WideShapes.bytes_inj
  rw [Lib.extract_data]
  simp [List.drop_take]
theorem rowsOf_list (n : Nat) : ∀ t : ByteArray, rowsOf n t = (rowsOfL n t.data.toList).map (List.map fun r => (⟨r.1.toArray⟩, ⟨r.2.toArray⟩)) := by
  induction n with
  | zero => intro t; rfl
  | succ n ih =>
    intro t
    have hl : t.data.toList.length = t.size := by simp
    unfold rowsOf rowsOfL
    simp only [extract_list, hl]
    split
    · rfl
    · simp only [List.drop_zero]
      split
      · split
        · simp
        · rw [ih]
          have : ((t.data.toList.take t.size).drop (placeOf t.data.toList 44 + 1)) = t.data.toList.drop (placeOf t.data.toList 44 + 1) := by rw [List.take_of_length_le (by omega)]
          simp only [this]
          cases rowsOfL n (t.data.toList.drop (placeOf t.data.toList 44 + 1)) <;> simp
      · rfl

/-- The table of QueryString. -/
def tbQueryString : ByteArray := ⟨([102, 105, 101, 108, 100, 32, 116, 44, 102, 105, 101, 108, 100, 95, 119, 105, 116, 104, 95, 98, 111, 111, 115, 116, 32, 102, 44, 97, 108, 108, 111, 119, 95, 108, 101, 97, 100, 105, 110, 103, 95, 119, 105, 108, 100, 99, 97, 114, 100, 32, 98, 44, 97, 110, 97, 108, 121, 122, 101, 95, 119, 105, 108, 100, 99, 97, 114, 100, 32, 98, 44, 97, 110, 97, 108, 121, 122, 101, 114, 32, 116, 44, 98, 111, 111, 115, 116, 32, 110, 44, 100, 101, 102, 97, 117, 108, 116, 95, 102, 105, 101, 108, 100, 32, 116, 44, 100, 101, 102, 97, 117, 108, 116, 95, 111, 112, 101, 114, 97, 116, 111, 114, 32, 116, 44, 101, 110, 97, 98, 108, 101, 95, 112, 111, 115, 105, 116, 105, 111, 110, 95, 105, 110, 99, 114, 101, 109, 101, 110, 116, 115, 32, 98, 44, 101, 115, 99, 97, 112, 101, 32, 98, 44, 102, 117, 122, 122, 105, 110, 101, 115, 115, 32, 116, 44, 102, 117, 122, 122, 121, 95, 109, 97, 120, 95, 101, 120, 112, 97, 110, 115, 105, 111, 110, 115, 32, 119, 44, 102, 117, 122, 122, 121, 95, 112, 114, 101, 102, 105, 120, 95, 108, 101, 110, 103, 116, 104, 32, 119, 44, 102, 117, 122, 122, 121, 95, 114, 101, 119, 114, 105, 116, 101, 32, 116, 44, 108, 101, 110, 105, 101, 110, 116, 32, 98, 44, 109, 97, 120, 95, 100, 101, 116, 101, 114, 109, 105, 110, 105, 122, 101, 100, 95, 115, 116, 97, 116, 101, 115, 32, 119, 44, 109, 105, 110, 105, 109, 117, 109, 95, 115, 104, 111, 117, 108, 100, 95, 109, 97, 116, 99, 104, 32, 116, 44, 112, 104, 114, 97, 115, 101, 95, 115, 108, 111, 112, 32, 119, 44, 113, 117, 111, 116, 101, 95, 97, 110, 97, 108, 121, 122, 101, 114, 32, 116, 44, 113, 117, 111, 116, 101, 95, 102, 105, 101, 108, 100, 95, 115, 117, 102, 102, 105, 120, 32, 116, 44, 114, 101, 119, 114, 105, 116, 101, 32, 116, 44, 116, 105, 101, 95, 98, 114, 101, 97, 107, 101, 114, 32, 110, 44, 116, 105, 109, 101, 95, 122, 111, 110, 101, 32, 116, 44, 116, 121, 112, 101, 32, 116, 44, 95, 110, 97, 109, 101, 32, 116] : List UInt8).toArray⟩
/-- Its rows. -/
def rsQueryString : List (ByteArray × ByteArray) := [(⟨#[102, 105, 101, 108, 100]⟩, ⟨#[116]⟩), (⟨#[102, 105, 101, 108, 100, 95, 119, 105, 116, 104, 95, 98, 111, 111, 115, 116]⟩, ⟨#[102]⟩), (⟨#[97, 108, 108, 111, 119, 95, 108, 101, 97, 100, 105, 110, 103, 95, 119, 105, 108, 100, 99, 97, 114, 100]⟩, ⟨#[98]⟩), (⟨#[97, 110, 97, 108, 121, 122, 101, 95, 119, 105, 108, 100, 99, 97, 114, 100]⟩, ⟨#[98]⟩), (⟨#[97, 110, 97, 108, 121, 122, 101, 114]⟩, ⟨#[116]⟩), (⟨#[98, 111, 111, 115, 116]⟩, ⟨#[110]⟩), (⟨#[100, 101, 102, 97, 117, 108, 116, 95, 102, 105, 101, 108, 100]⟩, ⟨#[116]⟩), (⟨#[100, 101, 102, 97, 117, 108, 116, 95, 111, 112, 101, 114, 97, 116, 111, 114]⟩, ⟨#[116]⟩), (⟨#[101, 110, 97, 98, 108, 101, 95, 112, 111, 115, 105, 116, 105, 111, 110, 95, 105, 110, 99, 114, 101, 109, 101, 110, 116, 115]⟩, ⟨#[98]⟩), (⟨#[101, 115, 99, 97, 112, 101]⟩, ⟨#[98]⟩), (⟨#[102, 117, 122, 122, 105, 110, 101, 115, 115]⟩, ⟨#[116]⟩), (⟨#[102, 117, 122, 122, 121, 95, 109, 97, 120, 95, 101, 120, 112, 97, 110, 115, 105, 111, 110, 115]⟩, ⟨#[119]⟩), (⟨#[102, 117, 122, 122, 121, 95, 112, 114, 101, 102, 105, 120, 95, 108, 101, 110, 103, 116, 104]⟩, ⟨#[119]⟩), (⟨#[102, 117, 122, 122, 121, 95, 114, 101, 119, 114, 105, 116, 101]⟩, ⟨#[116]⟩), (⟨#[108, 101, 110, 105, 101, 110, 116]⟩, ⟨#[98]⟩), (⟨#[109, 97, 120, 95, 100, 101, 116, 101, 114, 109, 105, 110, 105, 122, 101, 100, 95, 115, 116, 97, 116, 101, 115]⟩, ⟨#[119]⟩), (⟨#[109, 105, 110, 105, 109, 117, 109, 95, 115, 104, 111, 117, 108, 100, 95, 109, 97, 116, 99, 104]⟩, ⟨#[116]⟩), (⟨#[112, 104, 114, 97, 115, 101, 95, 115, 108, 111, 112]⟩, ⟨#[119]⟩), (⟨#[113, 117, 111, 116, 101, 95, 97, 110, 97, 108, 121, 122, 101, 114]⟩, ⟨#[116]⟩), (⟨#[113, 117, 111, 116, 101, 95, 102, 105, 101, 108, 100, 95, 115, 117, 102, 102, 105, 120]⟩, ⟨#[116]⟩), (⟨#[114, 101, 119, 114, 105, 116, 101]⟩, ⟨#[116]⟩), (⟨#[116, 105, 101, 95, 98, 114, 101, 97, 107, 101, 114]⟩, ⟨#[110]⟩), (⟨#[116, 105, 109, 101, 95, 122, 111, 110, 101]⟩, ⟨#[116]⟩), (⟨#[116, 121, 112, 101]⟩, ⟨#[116]⟩), (⟨#[95, 110, 97, 109, 101]⟩, ⟨#[116]⟩)]
set_option maxRecDepth 100000 in
theorem rowsOf_QueryString : rowsOf 60 tbQueryString = some rsQueryString := by rw [rowsOf_list]; kernel_rfl
set_option maxRecDepth 100000 in
set_option maxHeartbeats 1000000 in
theorem table_QueryString (w : World) : Calls Tryz.prog 117 #[.string ⟨#[81, 117, 101, 114, 121, 83, 116, 114, 105, 110, 103]⟩] w fun e w' => e = .returned (.string tbQueryString) ∧ w = w' := by
  go_enter Tryz.func117, Tryz.ntmps117
  go_wp2
  go_ret
  first | exact ⟨rfl, rfl⟩ | exact ⟨congrArg (fun l : List UInt8 => Ending.returned (Value.string ⟨l.toArray⟩)) (by decide +kernel), rfl⟩

/-- The table of Bool. -/
def tbBool : ByteArray := ⟨([109, 117, 115, 116, 32, 113, 44, 109, 117, 115, 116, 95, 110, 111, 116, 32, 113, 44, 115, 104, 111, 117, 108, 100, 32, 113, 44, 102, 105, 108, 116, 101, 114, 32, 113, 44, 97, 100, 106, 117, 115, 116, 95, 112, 117, 114, 101, 95, 110, 101, 103, 97, 116, 105, 118, 101, 32, 98, 44, 98, 111, 111, 115, 116, 32, 110, 44, 109, 105, 110, 105, 109, 117, 109, 95, 115, 104, 111, 117, 108, 100, 95, 109, 97, 116, 99, 104, 32, 116, 44, 109, 105, 110, 105, 109, 117, 109, 95, 110, 117, 109, 98, 101, 114, 95, 115, 104, 111, 117, 108, 100, 95, 109, 97, 116, 99, 104, 32, 119, 44, 95, 110, 97, 109, 101, 32, 116] : List UInt8).toArray⟩
/-- Its rows. -/
def rsBool : List (ByteArray × ByteArray) := [(⟨#[109, 117, 115, 116]⟩, ⟨#[113]⟩), (⟨#[109, 117, 115, 116, 95, 110, 111, 116]⟩, ⟨#[113]⟩), (⟨#[115, 104, 111, 117, 108, 100]⟩, ⟨#[113]⟩), (⟨#[102, 105, 108, 116, 101, 114]⟩, ⟨#[113]⟩), (⟨#[97, 100, 106, 117, 115, 116, 95, 112, 117, 114, 101, 95, 110, 101, 103, 97, 116, 105, 118, 101]⟩, ⟨#[98]⟩), (⟨#[98, 111, 111, 115, 116]⟩, ⟨#[110]⟩), (⟨#[109, 105, 110, 105, 109, 117, 109, 95, 115, 104, 111, 117, 108, 100, 95, 109, 97, 116, 99, 104]⟩, ⟨#[116]⟩), (⟨#[109, 105, 110, 105, 109, 117, 109, 95, 110, 117, 109, 98, 101, 114, 95, 115, 104, 111, 117, 108, 100, 95, 109, 97, 116, 99, 104]⟩, ⟨#[119]⟩), (⟨#[95, 110, 97, 109, 101]⟩, ⟨#[116]⟩)]
set_option maxRecDepth 100000 in
theorem rowsOf_Bool : rowsOf 60 tbBool = some rsBool := by rw [rowsOf_list]; kernel_rfl
set_option maxRecDepth 100000 in
set_option maxHeartbeats 1000000 in
theorem table_Bool (w : World) : Calls Tryz.prog 117 #[.string ⟨#[66, 111, 111, 108]⟩] w fun e w' => e = .returned (.string tbBool) ∧ w = w' := by
  go_enter Tryz.func117, Tryz.ntmps117
  go_wp2
  go_ret
  first | exact ⟨rfl, rfl⟩ | exact ⟨congrArg (fun l : List UInt8 => Ending.returned (Value.string ⟨l.toArray⟩)) (by decide +kernel), rfl⟩

/-- The table of FunctionScore. -/
def tbFunctionScore : ByteArray := ⟨([98, 111, 111, 115, 116, 32, 110, 44, 98, 111, 111, 115, 116, 95, 109, 111, 100, 101, 32, 116, 44, 109, 97, 120, 95, 98, 111, 111, 115, 116, 32, 110, 44, 109, 105, 110, 95, 115, 99, 111, 114, 101, 32, 110, 44, 115, 99, 111, 114, 101, 95, 109, 111, 100, 101, 32, 116] : List UInt8).toArray⟩
/-- Its rows. -/
def rsFunctionScore : List (ByteArray × ByteArray) := [(⟨#[98, 111, 111, 115, 116]⟩, ⟨#[110]⟩), (⟨#[98, 111, 111, 115, 116, 95, 109, 111, 100, 101]⟩, ⟨#[116]⟩), (⟨#[109, 97, 120, 95, 98, 111, 111, 115, 116]⟩, ⟨#[110]⟩), (⟨#[109, 105, 110, 95, 115, 99, 111, 114, 101]⟩, ⟨#[110]⟩), (⟨#[115, 99, 111, 114, 101, 95, 109, 111, 100, 101]⟩, ⟨#[116]⟩)]
set_option maxRecDepth 100000 in
theorem rowsOf_FunctionScore : rowsOf 60 tbFunctionScore = some rsFunctionScore := by rw [rowsOf_list]; kernel_rfl
set_option maxRecDepth 100000 in
set_option maxHeartbeats 1000000 in
theorem table_FunctionScore (w : World) : Calls Tryz.prog 117 #[.string ⟨#[70, 117, 110, 99, 116, 105, 111, 110, 83, 99, 111, 114, 101]⟩] w fun e w' => e = .returned (.string tbFunctionScore) ∧ w = w' := by
  go_enter Tryz.func117, Tryz.ntmps117
  go_wp2
  go_ret
  first | exact ⟨rfl, rfl⟩ | exact ⟨congrArg (fun l : List UInt8 => Ending.returned (Value.string ⟨l.toArray⟩)) (by decide +kernel), rfl⟩

/-- The table of Decay. -/
def tbDecay : ByteArray := ⟨([111, 114, 105, 103, 105, 110, 32, 118, 44, 115, 99, 97, 108, 101, 32, 118, 44, 111, 102, 102, 115, 101, 116, 32, 118, 44, 100, 101, 99, 97, 121, 32, 110, 44, 109, 117, 108, 116, 105, 95, 118, 97, 108, 117, 101, 95, 109, 111, 100, 101, 32, 116, 44, 119, 101, 105, 103, 104, 116, 32, 110] : List UInt8).toArray⟩
/-- Its rows. -/
def rsDecay : List (ByteArray × ByteArray) := [(⟨#[111, 114, 105, 103, 105, 110]⟩, ⟨#[118]⟩), (⟨#[115, 99, 97, 108, 101]⟩, ⟨#[118]⟩), (⟨#[111, 102, 102, 115, 101, 116]⟩, ⟨#[118]⟩), (⟨#[100, 101, 99, 97, 121]⟩, ⟨#[110]⟩), (⟨#[109, 117, 108, 116, 105, 95, 118, 97, 108, 117, 101, 95, 109, 111, 100, 101]⟩, ⟨#[116]⟩), (⟨#[119, 101, 105, 103, 104, 116]⟩, ⟨#[110]⟩)]
set_option maxRecDepth 100000 in
theorem rowsOf_Decay : rowsOf 60 tbDecay = some rsDecay := by rw [rowsOf_list]; kernel_rfl
set_option maxRecDepth 100000 in
set_option maxHeartbeats 1000000 in
theorem table_Decay (w : World) : Calls Tryz.prog 117 #[.string ⟨#[68, 101, 99, 97, 121]⟩] w fun e w' => e = .returned (.string tbDecay) ∧ w = w' := by
  go_enter Tryz.func117, Tryz.ntmps117
  go_wp2
  go_ret
  first | exact ⟨rfl, rfl⟩ | exact ⟨congrArg (fun l : List UInt8 => Ending.returned (Value.string ⟨l.toArray⟩)) (by decide +kernel), rfl⟩

/-- The table of Factor. -/
def tbFactor : ByteArray := ⟨([102, 97, 99, 116, 111, 114, 32, 110, 44, 109, 105, 115, 115, 105, 110, 103, 32, 110, 44, 109, 111, 100, 105, 102, 105, 101, 114, 32, 116, 44, 119, 101, 105, 103, 104, 116, 32, 110] : List UInt8).toArray⟩
/-- Its rows. -/
def rsFactor : List (ByteArray × ByteArray) := [(⟨#[102, 97, 99, 116, 111, 114]⟩, ⟨#[110]⟩), (⟨#[109, 105, 115, 115, 105, 110, 103]⟩, ⟨#[110]⟩), (⟨#[109, 111, 100, 105, 102, 105, 101, 114]⟩, ⟨#[116]⟩), (⟨#[119, 101, 105, 103, 104, 116]⟩, ⟨#[110]⟩)]
set_option maxRecDepth 100000 in
theorem rowsOf_Factor : rowsOf 60 tbFactor = some rsFactor := by rw [rowsOf_list]; kernel_rfl
set_option maxRecDepth 100000 in
set_option maxHeartbeats 1000000 in
theorem table_Factor (w : World) : Calls Tryz.prog 117 #[.string ⟨#[70, 97, 99, 116, 111, 114]⟩] w fun e w' => e = .returned (.string tbFactor) ∧ w = w' := by
  go_enter Tryz.func117, Tryz.ntmps117
  go_wp2
  go_ret
  first | exact ⟨rfl, rfl⟩ | exact ⟨congrArg (fun l : List UInt8 => Ending.returned (Value.string ⟨l.toArray⟩)) (by decide +kernel), rfl⟩

/-- The table of Random. -/
def tbRandom : ByteArray := ⟨([115, 101, 101, 100, 32, 119, 44, 119, 101, 105, 103, 104, 116, 32, 110] : List UInt8).toArray⟩
/-- Its rows. -/
def rsRandom : List (ByteArray × ByteArray) := [(⟨#[115, 101, 101, 100]⟩, ⟨#[119]⟩), (⟨#[119, 101, 105, 103, 104, 116]⟩, ⟨#[110]⟩)]
set_option maxRecDepth 100000 in
theorem rowsOf_Random : rowsOf 60 tbRandom = some rsRandom := by rw [rowsOf_list]; kernel_rfl
set_option maxRecDepth 100000 in
set_option maxHeartbeats 1000000 in
theorem table_Random (w : World) : Calls Tryz.prog 117 #[.string ⟨#[82, 97, 110, 100, 111, 109]⟩] w fun e w' => e = .returned (.string tbRandom) ∧ w = w' := by
  go_enter Tryz.func117, Tryz.ntmps117
  go_wp2
  go_ret
  first | exact ⟨rfl, rfl⟩ | exact ⟨congrArg (fun l : List UInt8 => Ending.returned (Value.string ⟨l.toArray⟩)) (by decide +kernel), rfl⟩

/-- The kind of a setting. -/
def kindOf (rs : List (ByteArray × ByteArray)) (name : ByteArray) : ByteArray := ((rs.find? fun r => decide (r.1 = name)).map (·.2)).getD ⟨#[]⟩

theorem rowCells_get {rs : List (ByteArray × ByteArray)} {k : Nat} (h : k < rs.length) : (rowCells rs)[k * 2]? = some (.string rs[k].1) ∧ (rowCells rs)[k * 2 + 1]? = some (.string rs[k].2) := by
  induction rs generalizing k with
  | nil => simp at h
  | cons r rs ih =>
    cases k with
    | zero => exact ⟨rfl, rfl⟩
    | succ k =>
      have := ih (k := k) (by simpa using h)
      have e1 : (k + 1) * 2 = k * 2 + 2 := by omega
      rw [e1]
      simpa [rowCells] using this

theorem kindOf_at {rs : List (ByteArray × ByteArray)} {name : ByteArray} {k : Nat} (h : k < rs.length) (hno : (rs.take k).all (fun r => !decide (r.1 = name)) = true) (hx : rs[k].1 = name) : kindOf rs name = rs[k].2 := by
  unfold kindOf
  have : rs.find? (fun r => decide (r.1 = name)) = some rs[k] := by
    have e : rs = rs.take k ++ rs[k] :: rs.drop (k + 1) := by simp
    have h0 : (rs.take k).find? (fun r => decide (r.1 = name)) = none := by
      rw [List.find?_eq_none]; intro x hx'; have := List.all_eq_true.1 hno x hx'; simpa using this
    have h1 : (rs.take k ++ rs[k] :: rs.drop (k + 1)).find? (fun r => decide (r.1 = name)) = some rs[k] := by
      rw [List.find?_append, h0]; simp only [Option.none_or, List.find?_cons, hx, decide_true]
    rw [← e] at h1
    exact h1
  rw [this]; rfl
theorem kindOf_none {rs : List (ByteArray × ByteArray)} {name : ByteArray} (hno : rs.all (fun r => !decide (r.1 = name)) = true) : kindOf rs name = ⟨#[]⟩ := by
  unfold kindOf
  have h0 : rs.find? (fun r => decide (r.1 = name)) = none := by
    rw [List.find?_eq_none]; intro x hx'; have := List.all_eq_true.1 hno x hx'; simpa using this
  rw [h0]; rfl

set_option maxRecDepth 100000 in
set_option maxHeartbeats 1000000 in
theorem kindIn_any (b name : ByteArray) (rs : List (ByteArray × ByteArray)) (w : World) (hrows : ∀ w, Calls Tryz.prog 103 #[.string b] w (RowsPost w rs)) (hrl : rs.length ≤ 1000) :
    Calls Tryz.prog 27 #[.string b, .string name] w fun e w' => e = .returned (.string (kindOf rs name)) ∧ Below w.heap.size w w' := by
  have Hrows := Lib.hid hrows; clear hrows
  go_enter Tryz.func27, Tryz.ntmps27
  go_wp2_with (go_at_call 103; refine (Hrows.out _).mono ?_; rintro e w1 ⟨g, cap, rfl, hown, hb⟩)
  go_loop [6] (fun i => ∃ k : Nat, k ≤ rs.length ∧ i = .int .i64 k ∧ (rs.take k).all (fun r => !decide (r.1 = name)) = true) (fun i => rs.length - (intOf i).toNat)
  case atStart => exact ⟨0, Nat.zero_le _, rfl, by simp⟩
  case round =>
    obtain ⟨k, hk, rfl, hno⟩ := hrel
    by_cases hlt : k < rs.length
    · obtain ⟨hg1, hg2⟩ := rowCells_get hlt
      have c1 := (hown.cellAt (k * 2) (by omega)).trans hg1
      have c2 := (hown.cellAt (k * 2 + 1) (by omega)).trans hg2
      clear hg1 hg2
      by_cases hx : rs[k].1 = name
      · have hfin := kindOf_at hlt hno hx
        have hx' := bs_eq hx
        have Hfin := Lib.hid hfin; clear hfin hno hx
        generalize rs[k] = r at *
        go_wp2
        go_ret
        exact ⟨by rw [Hfin.out]; simp, hb⟩
      · have hx' := bs_ne hx
        have hstep : (rs.take (k + 1)).all (fun r => !decide (r.1 = name)) = true := by
          rw [List.take_succ_eq_append_getElem hlt, List.all_append, hno]; simp [hx]
        have Hstep := Lib.hid hstep; clear hstep hno hx
        generalize rs[k] = r at *
        go_wp2
        go_round
        case rel => exact ⟨k + 1, by omega, by go_num, Hstep.out⟩
        case measure => simp [intOf]; omega
    · have hfin : kindOf rs name = ⟨#[]⟩ := kindOf_none (by rw [List.take_of_length_le (by omega)] at hno; exact hno)
      have Hfin := Lib.hid hfin; clear hfin hno
      go_wp2
      go_ret
      exact ⟨by rw [Hfin.out]; simp, hb⟩

theorem kindIn_QueryString (name : ByteArray) (w : World) : Calls Tryz.prog 27 #[.string ⟨#[81, 117, 101, 114, 121, 83, 116, 114, 105, 110, 103]⟩, .string name] w fun e w' => e = .returned (.string (kindOf rsQueryString name)) ∧ Below w.heap.size w w' :=
  kindIn_any _ _ _ _ (fun _ => rows_any _ tbQueryString rsQueryString 60 _ table_QueryString rowsOf_QueryString (by decide +kernel) (by decide +kernel)) (by decide +kernel)

theorem kindIn_Bool (name : ByteArray) (w : World) : Calls Tryz.prog 27 #[.string ⟨#[66, 111, 111, 108]⟩, .string name] w fun e w' => e = .returned (.string (kindOf rsBool name)) ∧ Below w.heap.size w w' :=
  kindIn_any _ _ _ _ (fun _ => rows_any _ tbBool rsBool 60 _ table_Bool rowsOf_Bool (by decide +kernel) (by decide +kernel)) (by decide +kernel)

theorem kindIn_FunctionScore (name : ByteArray) (w : World) : Calls Tryz.prog 27 #[.string ⟨#[70, 117, 110, 99, 116, 105, 111, 110, 83, 99, 111, 114, 101]⟩, .string name] w fun e w' => e = .returned (.string (kindOf rsFunctionScore name)) ∧ Below w.heap.size w w' :=
  kindIn_any _ _ _ _ (fun _ => rows_any _ tbFunctionScore rsFunctionScore 60 _ table_FunctionScore rowsOf_FunctionScore (by decide +kernel) (by decide +kernel)) (by decide +kernel)

theorem kindIn_Decay (name : ByteArray) (w : World) : Calls Tryz.prog 27 #[.string ⟨#[68, 101, 99, 97, 121]⟩, .string name] w fun e w' => e = .returned (.string (kindOf rsDecay name)) ∧ Below w.heap.size w w' :=
  kindIn_any _ _ _ _ (fun _ => rows_any _ tbDecay rsDecay 60 _ table_Decay rowsOf_Decay (by decide +kernel) (by decide +kernel)) (by decide +kernel)

theorem kindIn_Factor (name : ByteArray) (w : World) : Calls Tryz.prog 27 #[.string ⟨#[70, 97, 99, 116, 111, 114]⟩, .string name] w fun e w' => e = .returned (.string (kindOf rsFactor name)) ∧ Below w.heap.size w w' :=
  kindIn_any _ _ _ _ (fun _ => rows_any _ tbFactor rsFactor 60 _ table_Factor rowsOf_Factor (by decide +kernel) (by decide +kernel)) (by decide +kernel)

theorem kindIn_Random (name : ByteArray) (w : World) : Calls Tryz.prog 27 #[.string ⟨#[82, 97, 110, 100, 111, 109]⟩, .string name] w fun e w' => e = .returned (.string (kindOf rsRandom name)) ∧ Below w.heap.size w w' :=
  kindIn_any _ _ _ _ (fun _ => rows_any _ tbRandom rsRandom 60 _ table_Random rowsOf_Random (by decide +kernel) (by decide +kernel)) (by decide +kernel)
end Go.Proofs.YtbcnhcpgloncdaaGreatDoor
/- 'Field': which texts can be the names of fields. -/
namespace Go.Proofs.YtbcnhcpgloncdaaGreatDoor
open Go Go.RowKit

def names7 : List ByteArray := [⟨#[98, 111, 111, 115, 116]⟩, ⟨#[116, 121, 112, 101]⟩, ⟨#[100, 105, 115, 116, 97, 110, 99, 101]⟩, ⟨#[100, 105, 115, 116, 97, 110, 99, 101, 95, 116, 121, 112, 101]⟩, ⟨#[118, 97, 108, 105, 100, 97, 116, 105, 111, 110, 95, 109, 101, 116, 104, 111, 100]⟩, ⟨#[105, 103, 110, 111, 114, 101, 95, 117, 110, 109, 97, 112, 112, 101, 100]⟩, ⟨#[109, 117, 108, 116, 105, 95, 118, 97, 108, 117, 101, 95, 109, 111, 100, 101]⟩]

/-- Can a text be the name of a field? -/
def fieldB (s : ByteArray) : Bool :=
  if s.size = 0 then false else if s.data.toList.head? = some 95 then false else if placeOf s.data.toList 94 < s.size then false else !memB s names7

set_option maxRecDepth 100000 in
set_option maxHeartbeats 1000000 in
theorem field_any (s : ByteArray) (w : World) (hs : s.size ≤ 9223372036854775807) : Calls Tryz.prog 24 #[.string s] w fun e w' => e = .returned (.bool (fieldB s)) ∧ Below w.heap.size w w' := by
  by_cases h0 : s.size = 0
  · have hf : fieldB s = false := by simp [fieldB, h0]
    rw [hf]; clear hf
    obtain rfl : s = ⟨#[]⟩ := by
      apply WideShapes.bytes_inj
      exact List.eq_nil_of_length_eq_zero (by simpa using h0)
    clear h0
    go_enter Tryz.func24, Tryz.ntmps24
    go_wp2_with fail
    go_ret
    exact ⟨by simp, Below.refl _ _⟩
  · have hpos : 0 < s.size := by omega
    have hne : s.toList.isEmpty = false := by
      rw [bs_isEmpty]; simp; rintro rfl; exact h0 rfl
    have hh : s.data.toList.head? = some s[0] := by
      rw [List.head?_eq_getElem?]; simp [hpos]; rfl
    by_cases h1 : s[0] = 95
    · have hf : fieldB s = false := by simp [fieldB, h0, hh, h1]
      rw [hf]; clear hf hh h0
      have h1' : (((s[0].toNat : Nat) : Int) == 95) = true := by rw [h1]; decide
      clear h1
      go_enter Tryz.func24, Tryz.ntmps24
      go_wp2_with fail
      go_ret
      exact ⟨by simp, Below.refl _ _⟩
    · have h1' : (((s[0].toNat : Nat) : Int) == 95) = false := by
        rw [beq_eq_false_iff_ne]; intro e; apply h1; apply UInt8.toNat_inj.1; have : (95 : UInt8).toNat = 95 := by decide
        omega
      have hp := place_lit s 94 94 (by decide) w hs
      by_cases h2 : placeOf s.data.toList 94 < s.size
      · have hf : fieldB s = false := by simp [fieldB, h0, hh, h1, h2]
        rw [hf]; clear hf hh h0 h1
        generalize placeOf s.data.toList 94 = k at *
        have Hp := Lib.hid hp; clear hp
        go_enter Tryz.func24, Tryz.ntmps24
        go_wp2_with (go_at_call 100; refine Hp.out.mono ?_; rintro e w' ⟨rfl, rfl⟩)
        go_ret
        exact ⟨by simp, Below.refl _ _⟩
      · have hf : fieldB s = !memB s names7 := by simp [fieldB, h0, hh, h1, h2]
        rw [hf]; clear hf hh h0 h1
        generalize placeOf s.data.toList 94 = k at *
        have Hp := Lib.hid hp; clear hp
        go_enter Tryz.func24, Tryz.ntmps24
        go_wp2_with (go_at_call 100; refine Hp.out.mono ?_; rintro e w' ⟨rfl, rfl⟩)
        refine (has_any names7 s (fun _ => True) _ 7 _ (strs_new _ names7 _ trivial) (by decide)).mono ?_
        rintro e w' ⟨rfl, rfl⟩
        go_wp2_with fail
        go_ret
        exact ⟨by simp, (Below.refl _ _).alloc (Nat.le_refl _) _⟩
end Go.Proofs.YtbcnhcpgloncdaaGreatDoor
