import Derived.Test.YbulkcwtaHas
import Derived.Test.YbulkcwtaCopy
namespace Go.Proofs.Ybulkcwta
open Go.ChangeShapes Go.WideShapes Go.ChangeAt Go.RowKit

/-- The map 'mo' (nil, or a block) holds just the keys ks, in L entries. -/
def HoldsKeys (w : World) (mo : Option Nat) (ks : List ByteArray) (L : Nat) : Prop :=
  (mo = none ∧ ks = [] ∧ L = 0) ∨ ∃ b n, mo = some b ∧ KeySet w Yba.prog 9 b n ks ∧ ∃ es clock, w.heap[b]? = some (.map es clock) ∧ es.size = L

theorem HoldsKeys.kept {w w' : World} {mo : Option Nat} {ks : List ByteArray} {L : Nat} (h : HoldsKeys w mo ks L) {row : Option Nat} (hg : w.grownBy w' row) (hne : ∀ b, mo = some b → some b ≠ row) : HoldsKeys w' mo ks L := by
  rcases h with h | ⟨b, n, rfl, h1, es, clock, h2, h3⟩
  · exact .inl h
  · exact .inr ⟨b, n, rfl, h1.kept hg (hne b rfl), es, clock, (hg.block b h1.lt (hne b rfl)).trans h2, h3⟩

theorem HoldsKeys.lt {w : World} {mo : Option Nat} {ks : List ByteArray} {L : Nat} (h : HoldsKeys w mo ks L) : ∀ b, mo = some b → b < w.heap.size := by
  rcases h with ⟨rfl, _⟩ | ⟨b, n, rfl, h1, _⟩
  · intro b hb; cases hb
  · intro c hc; cases hc; exact h1.lt

theorem HoldsKeys.look {w : World} {mo : Option Nat} {ks : List ByteArray} {L : Nat} (h : HoldsKeys w mo ks L) : ∀ s : ByteArray, s.size ≤ maxLen → ∃ v, (Instr.lookup 27 (.map mo) (.string s) true).run Yba.prog w = .ok (.tuple #[v, .bool (memB ks s)]) w := by
  rcases h with ⟨rfl, rfl, _⟩ | ⟨b, n, rfl, h1, _⟩
  · exact look_nil w
  · exact look_some h1

theorem HoldsKeys.len {w : World} {mo : Option Nat} {ks : List ByteArray} {L : Nat} (h : HoldsKeys w mo ks L) (ty : TypeId) : (Builtin.len_ #[27] ty #[.map mo]).run Yba.prog w = .ok (goInt L) w := by
  rcases h with ⟨rfl, rfl, rfl⟩ | ⟨b, n, rfl, h1, es, clock, h2, rfl⟩
  · exact run_len_nilMap w 27 ty Yba.underlying27
  · exact run_len_map w 27 ty b es clock Yba.underlying27 h2

theorem build_any (a0 : Option Addr) (n cap : Nat) (ss : List ByteArray) (w : World) (hr : StrRow w a0 n ss) (hcap : a0 = none → cap = 0) (hn : n ≤ 1000000) :
    Calls Yba.prog 7 #[.slice a0 n cap] w fun e w' => ∃ mo L, e = .returned (.map mo) ∧ HoldsKeys w' mo (ss.take n) L ∧ Below w.heap.size w w' := by
  cases a0 with
  | none =>
    obtain rfl := hr.isNil rfl
    obtain rfl := hcap rfl
    refine (build_nil w).mono ?_
    rintro e w' ⟨rfl, rfl⟩
    exact ⟨none, 0, rfl, .inl ⟨rfl, by simp, rfl⟩, Below.refl _ _⟩
  | some x =>
    refine (build_some x n cap ss w hr hn).mono ?_
    rintro e w' ⟨rfl, h1, h2⟩
    obtain ⟨es, clock, hb⟩ := h1.block
    exact ⟨_, es.size, rfl, .inr ⟨_, _, rfl, h1, es, clock, hb, rfl⟩, h2⟩

/-- The strings that a slice of n elements over 'ss' holds, as cells. -/
def scells (ss : List ByteArray) (n : Nat) : List Value := (ss.take n).map Value.string
theorem scells_length (ss : List ByteArray) (n : Nat) (h : n ≤ ss.length) : (scells ss n).length = n := by simp [scells]; omega
theorem scells_get (ss : List ByteArray) (n j : Nat) (h : n ≤ ss.length) (hj : j < n) : (scells ss n)[j]? = some (.string (ss.getD j ByteArray.empty)) := by
  have : j < ss.length := by omega
  simp [scells, hj, List.getD, this]
theorem scells_one (ss : List ByteArray) (n : Nat) : ∀ u ∈ scells ss n, u.oneCell' = true := by
  intro u hu
  obtain ⟨_, _, rfl⟩ := List.mem_map.1 hu
  rfl

theorem StrRow.src {w : World} {a0 : Option Addr} {n : Nat} {ss : List ByteArray} (h : StrRow w a0 n ss) : ∀ x, a0 = some x → ∀ j u, (scells ss n)[j]? = some u → w.cell? (x.add j) = some u := by
  intro x hx j u hj
  have hlt : j < n := by have := (List.getElem?_eq_some_iff.1 hj).1; rwa [scells_length ss n h.len] at this
  rw [scells_get ss n j h.len hlt] at hj
  rw [← hj]
  exact h.cell x hx j hlt

/-- A slice that the call owns, of strings, as a row of strings. -/
theorem StrRow.own {w : World} {base g n cap : Nat} {ss : List ByteArray} (h : w.ownsRow base 9 1 (.slice (some ⟨g, 0, none⟩) n cap) n (scells ss n)) (hl : n ≤ ss.length) (hs : ∀ s ∈ ss, s.size ≤ maxLen) : StrRow w (some ⟨g, 0, none⟩) n ss := by
  refine ⟨hl, fun h => (by cases h), hs, fun x hx j hj => ?_⟩
  cases hx
  rw [Addr.add_lit, Nat.zero_add, h.cellAt j (by omega)]
  exact scells_get ss n j hl hj

theorem Yba.info9 : (Yba.prog.info? 9).map (fun i => (i.zero, i.size, i.bytes)) = some (some (.string ByteArray.empty), 1, 16) := by kernel_rfl
theorem Yba.size9 : (Yba.prog.info? 9).map (·.size) = some 1 := by kernel_rfl
end Go.Proofs.Ybulkcwta
