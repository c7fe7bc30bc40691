import Derived.Test.YbulkcwtaCin
import Derived.SliceStrings
namespace Go.Proofs.Ybulkcwta
open Go.ChangeShapes Go.WideShapes Go.ChangeAt Go.RowKit
theorem cells9 : Yba.prog.cellsOf 9 = 1 := by kernel_rfl

/-- A slice of strings among the arguments, opened. -/
theorem open_row {H : Type} {enc : TypeId × Value → H} {w : World} {base : Nat} {held : Bool} {a : Option Addr} {len cap : Nat} {d : DataW H} {p : List MemPlace}
    (h : DataW.Trod enc Yba.prog w base (fun _ => true) held 25 (.slice a len cap) d p) : ∃ ss, StrRow w a len ss ∧ (a = none → cap = 0) := by
  obtain ⟨fuel, hf⟩ := h
  rcases open_strings Yba.underlying25 Yba.underlying9 cells9 hf with ⟨hcs, _⟩ | ⟨x, l, c, ss, hcs, _, hl, hm, hz, _, hcell, hsz⟩
  · simp [Value.cells] at hcs
    obtain ⟨rfl, rfl, rfl⟩ := hcs
    exact ⟨[], ⟨by simp, fun _ => rfl, by simp, fun x hx => by cases hx⟩, fun _ => rfl⟩
  · simp [Value.cells] at hcs
    obtain ⟨rfl, rfl, rfl⟩ := hcs
    simp at hz
    exact ⟨ss, ⟨by omega, (fun h => by cases h), hsz, (fun y hy j hj => by cases hy; exact hcell j (by omega))⟩, (fun h => by cases h)⟩

end Go.Proofs.Ybulkcwta
