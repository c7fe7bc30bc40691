import Derived.Test.YbulkcwtaRows
import Derived.Test.YbulkcwtaSet
import Derived.WalkKit
import Derived.ProofKit
import Derived.Below
import Derived.Laws.StructEq
namespace Go.Proofs.Ybulkcwta
open Go.ChangeShapes Go.WideShapes Go.ChangeAt Go.RowKit

/-- A slice of n strings that came in: nil and empty, or n strings 'ss.take n' from an address on. -/
structure StrRow (w : World) (a0 : Option Addr) (n : Nat) (ss : List ByteArray) : Prop where
  len : n ≤ ss.length
  isNil : a0 = none → n = 0
  size : ∀ s ∈ ss, s.size ≤ maxLen
  cell : ∀ x, a0 = some x → ∀ j, j < n → w.cell? (x.add j) = some (.string (ss.getD j ByteArray.empty))

theorem StrRow.at {w : World} {a0 : Option Addr} {n : Nat} {ss : List ByteArray} (h : StrRow w a0 n ss) {j : Nat} (hj : j < n) :
    ∃ b o, a0 = some ⟨b, o, none⟩ ∧ w.cell? ⟨b, o + j, none⟩ = some (.string (ss.getD j ByteArray.empty)) ∧ (ss.getD j ByteArray.empty).size ≤ maxLen := by
  cases a0 with
  | none => have := h.isNil rfl; omega
  | some x =>
    have c0 := h.cell x rfl 0 (by omega)
    have cj := h.cell x rfl j hj
    obtain ⟨b, o, spot⟩ := x
    have hspot : spot = none := by simpa [Addr.add] using World.cell?_spot c0
    subst hspot
    rw [Addr.add_lit] at cj
    refine ⟨b, o, rfl, cj, ?_⟩
    have hl := h.len
    have : ss.getD j ByteArray.empty = ss[j] := by simp [List.getD, show j < ss.length by omega]
    rw [this]
    exact h.size _ (List.getElem_mem _)

theorem StrRow.same {w w' : World} {a0 : Option Addr} {n : Nat} {ss : List ByteArray} (h : StrRow w a0 n ss) (e : ∀ p v, w.cell? p = some v → w'.cell? p = some v) : StrRow w' a0 n ss :=
  ⟨h.len, h.isNil, h.size, fun x hx j hj => e _ _ (h.cell x hx j hj)⟩

theorem StrRow.below {w w' : World} {a0 : Option Addr} {n : Nat} {ss : List ByteArray} (h : StrRow w a0 n ss) (hb : Below w.heap.size w w') : StrRow w' a0 n ss :=
  h.same fun p v hv => by rw [hb.cell (World.block_lt_of_cell? w _ hv)]; exact hv

theorem take_snoc {α : Type} (ss : List α) (d : α) (k : Nat) (h : k < ss.length) : ss.take (k + 1) = ss.take k ++ [ss.getD k d] := by
  rw [List.take_succ_eq_append_getElem h]
  simp [List.getD, h]

theorem ret_bool {a b : Bool} (h : a = b) : Ending.returned (.bool a) = .returned (.bool b) := by rw [h]

theorem memB_take (ss : List ByteArray) (k n : Nat) (t s : ByteArray) (hk : k + 1 ≤ n) (h1 : ss.take (k + 1) = ss.take k ++ [t]) (he : (t == s) = true) : memB (ss.take n) s = true := by
  have : ss.take n = ss.take (k + 1) ++ (ss.drop (k + 1)).take (n - (k + 1)) := by
    rw [← List.take_add, show k + 1 + (n - (k + 1)) = n by omega]
  rw [this, h1]
  simp [memB, he]

set_option maxHeartbeats 400000 in
theorem cin_any (a0 : Option Addr) (n cap : Nat) (ss : List ByteArray) (s : ByteArray) (w : World) (hr : StrRow w a0 n ss) (hn : n ≤ 1000000) :
    Calls Yba.prog 9 #[.slice a0 n cap, .string s] w fun e w' => e = .returned (.bool (memB (ss.take n) s)) ∧ w' = w := by
  have hl := hr.len
  go_enter Yba.func9, Yba.ntmps9
  go_wp2
  go_loop [5] (fun i => ∃ k : Nat, k ≤ n ∧ i = .int .i64 k ∧ Hid (memB (ss.take k) s = false)) (fun i => n - (intOf i).toNat)
  case atStart => exact ⟨0, Nat.zero_le _, rfl, rfl⟩
  case round =>
    obtain ⟨k, hk, rfl, hno⟩ := hrel
    by_cases hlt : k < n
    · obtain ⟨b, o, rfl, hc, _⟩ := hr.at hlt
      have HT : Hid (ss.take (k + 1) = ss.take k ++ [ss.getD k ByteArray.empty]) := take_snoc ss _ k (by omega)
      generalize ss.getD k ByteArray.empty = t at *
      cases he : t.toList == s.toList
      · have H2 : Hid (memB (ss.take (k + 1)) s = false) := by
          show _ = _
          rw [HT.out, memB_snoc, hno.out, beq_toListBytes, he]
          rfl
        go_wp2
        exact ⟨⟨k + 1, by omega, by go_num, H2⟩, by simp [intOf]; omega⟩
      · have H2 : Hid (memB (ss.take n) s = true) := memB_take ss k n t s (by omega) HT.out (by rw [beq_toListBytes, he])
        go_wp2
        go_ret
        exact ⟨ret_bool H2.out.symm, rfl⟩
    · have H2 : Hid (memB (ss.take n) s = false) := by
        obtain rfl : k = n := by omega
        exact hno
      go_wp2
      go_ret
      exact ⟨ret_bool H2.out.symm, rfl⟩
end Go.Proofs.Ybulkcwta
