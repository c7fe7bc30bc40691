import Derived.Test.YbulkcwuqRows
import Derived.WalkKit
import Derived.ProofKit
import Derived.Below
import Derived.Laws.StructEq
import Derived.SliceStrings
import Derived.MapKept
import Derived.Deep.QuietTactic
import Derived.BigQuiet
namespace Go.Proofs.Ybulkcwuq
open Go.ChangeShapes Go.WideShapes Go.ChangeAt Go.RowKit

/-- A slice of n strings: nil and empty, or n strings 'ss.take n' from an address on. -/
structure StrRow (w : World) (a0 : Option Addr) (n : Nat) (ss : List ByteArray) : Prop where
  len : n ≤ ss.length
  isNil : a0 = none → n = 0
  size : ∀ s ∈ ss, s.size ≤ maxLen
  cell : ∀ x, a0 = some x → ∀ j, j < n → w.cell? (x.add j) = some (.string (ss.getD j ByteArray.empty))

theorem StrRow.at {w : World} {a0 : Option Addr} {n : Nat} {ss : List ByteArray} (h : StrRow w a0 n ss) {j : Nat} (hj : j < n) :
    ∃ b o, a0 = some ⟨b, o, none⟩ ∧ w.cell? ⟨b, o + j, none⟩ = some (.string (ss.getD j ByteArray.empty)) ∧ (ss.getD j ByteArray.empty).size ≤ maxLen := by
  cases a0 with
  | none => have := h.isNil rfl; omega
  | some x =>
    have c0 := h.cell x rfl 0 (by omega)
    have cj := h.cell x rfl j hj
    obtain ⟨b, o, spot⟩ := x
    have hspot : spot = none := by simpa [Addr.add] using World.cell?_spot c0
    subst hspot
    rw [Addr.add_lit] at cj
    refine ⟨b, o, rfl, cj, ?_⟩
    have hl := h.len
    have : ss.getD j ByteArray.empty = ss[j] := by simp [List.getD, show j < ss.length by omega]
    rw [this]
    exact h.size _ (List.getElem_mem _)

theorem StrRow.below {w w' : World} {a0 : Option Addr} {n : Nat} {ss : List ByteArray} (h : StrRow w a0 n ss) (hb : Below w.heap.size w w') : StrRow w' a0 n ss :=
  ⟨h.len, h.isNil, h.size, fun x hx j hj => by rw [hb.cell (World.block_lt_of_cell? w _ (h.cell x hx j hj))]; exact h.cell x hx j hj⟩

theorem StrRow.drew {w : World} {a0 : Option Addr} {n : Nat} {ss : List ByteArray} (h : StrRow w a0 n ss) (q : Nat) : StrRow (w.drewN q) a0 n ss :=
  ⟨h.len, h.isNil, h.size, fun x hx j hj => by rw [World.cell?_drewN]; exact h.cell x hx j hj⟩

theorem StrRow.shorter {w : World} {a0 : Option Addr} {n m : Nat} {ss : List ByteArray} (h : StrRow w a0 n ss) (hm : m ≤ n) : StrRow w a0 m ss :=
  ⟨Nat.le_trans hm h.len, fun e => by have := h.isNil e; omega, h.size, fun x hx j hj => h.cell x hx j (by omega)⟩

theorem ret_bool {a b : Bool} (h : a = b) : Ending.returned (.bool a) = .returned (.bool b) := by rw [h]

theorem belowN {B : Nat} {a w : World} (h : Below B a w) (k : Nat) : Below B a (w.drewN k) := ⟨h.os, h.tape, h.output, h.size, h.block⟩

theorem cells9 : Yba.prog.cellsOf 9 = 1 := by kernel_rfl

/-- A slice of strings among the arguments, opened. -/
theorem open_row {H : Type} {enc : TypeId × Value → H} {w : World} {base : Nat} {held : Bool} {a : Option Addr} {len cap : Nat} {d : DataW H} {p : List MemPlace}
    (h : DataW.Trod enc Yba.prog w base (fun _ => true) held 22 (.slice a len cap) d p) : ∃ ss, StrRow w a len ss ∧ len ≤ cap := by
  obtain ⟨fuel, hf⟩ := h
  rcases open_strings Yba.underlying22 Yba.underlying9 cells9 hf with ⟨hcs, _⟩ | ⟨x, l, c, ss, hcs, _, hl, hm, hz, _, hcell, hsz⟩
  · simp [Value.cells] at hcs
    obtain ⟨rfl, rfl, rfl⟩ := hcs
    exact ⟨[], ⟨by simp, fun _ => rfl, by simp, fun x hx => by cases hx⟩, Nat.le_refl _⟩
  · simp [Value.cells] at hcs
    obtain ⟨rfl, rfl, rfl⟩ := hcs
    simp at hz
    exact ⟨ss, ⟨by omega, (fun h => by cases h), hsz, (fun y hy j hj => by cases hy; exact hcell j (by omega))⟩, hl⟩

/-- The wildcard. -/
def star (t : ByteArray) : Bool := t.toList == [42]
/-- Position j of the tail holds a word that is neither the wildcard nor the segment there. -/
def badAt (ss ts : List ByteArray) (j : Nat) : Bool := !star (ts.getD j ByteArray.empty) && !((ts.getD j ByteArray.empty).toList == (ss.getD j ByteArray.empty).toList)
/-- No bad position below k. -/
def okTo (ss ts : List ByteArray) : Nat → Bool
  | 0 => true
  | k + 1 => okTo ss ts k && !badAt ss ts k

theorem okTo_false {ss ts : List ByteArray} {k m : Nat} (hb : badAt ss ts k = true) (hk : k < m) : okTo ss ts m = false := by
  induction m with
  | zero => omega
  | succ m ih =>
    by_cases h : k = m
    · subst h; simp [okTo, hb]
    · simp [okTo, ih (by omega)]

set_option maxHeartbeats 400000 in
theorem match_any (a0 : Option Addr) (n cap0 : Nat) (ss : List ByteArray) (a1 : Option Addr) (m cap1 : Nat) (ts : List ByteArray) (w : World) (hs : StrRow w a0 n ss) (ht : StrRow w a1 m ts) (hn : n ≤ 1000000) (hm : m ≤ 1000000)
    (hin : ∀ j, j < m → n ≤ j → star (ts.getD j ByteArray.empty) = true) :
    Calls Yba.prog 5 #[.slice a0 n cap0, .slice a1 m cap1] w fun e w' => e = .returned (.bool (okTo ss ts m)) ∧ w' = w := by
  go_enter Yba.func5, Yba.ntmps5
  go_wp2
  go_loop [9] (fun i => ∃ k : Nat, k ≤ m ∧ i = .int .i64 k ∧ Hid (okTo ss ts k = true)) (fun i => m - (intOf i).toNat)
  case atStart => exact ⟨0, Nat.zero_le _, rfl, rfl⟩
  case round =>
    obtain ⟨k, hk, rfl, hno⟩ := hrel
    by_cases hlt : k < m
    · obtain ⟨b, o, rfl, hc, _⟩ := ht.at hlt
      have hlt' : (k : Int) < (m : Int) := by omega
      have HB : Hid (badAt ss ts k = (!star (ts.getD k ByteArray.empty) && !((ts.getD k ByteArray.empty).toList == (ss.getD k ByteArray.empty).toList))) := rfl
      have hink := hin k hlt
      have HI : Hid _ := hin
      clear hin
      generalize ts.getD k ByteArray.empty = t at *
      cases he : star t
      · have hkn : k < n := by
          rcases Nat.lt_or_ge k n with h | h
          · exact h
          · have := hink h; rw [he] at this; cases this
        obtain ⟨b', o', rfl, hc', _⟩ := hs.at hkn
        have hkn' : (k : Int) < (n : Int) := by omega
        generalize ss.getD k ByteArray.empty = s at *
        have hst : (t.toList == [42]) = false := he
        cases heq : t.toList == s.toList
        · have H2 : Hid (okTo ss ts m = false) := okTo_false (k := k) (by rw [HB.out, he, heq]; rfl) hlt
          clear hink he
          go_wp2
          go_ret
          exact ⟨ret_bool H2.out.symm, rfl⟩
        · have H2 : Hid (okTo ss ts (k + 1) = true) := by
            show _ = _
            rw [okTo, hno.out, HB.out, heq]
            simp
          clear hink he
          go_wp2
          exact ⟨⟨k + 1, by omega, by go_num, H2⟩, by simp [intOf]; omega⟩
      · have H2 : Hid (okTo ss ts (k + 1) = true) := by
          show _ = _
          rw [okTo, hno.out, HB.out, he]
          simp
        have hst : (t.toList == [42]) = true := he
        clear hink he
        go_wp2
        exact ⟨⟨k + 1, by omega, by go_num, H2⟩, by simp [intOf]; omega⟩
    · have H2 : Hid (okTo ss ts m = true) := by
        obtain rfl : k = m := by omega
        exact hno
      go_wp2
      go_ret
      exact ⟨ret_bool H2.out.symm, rfl⟩
end Go.Proofs.Ybulkcwuq
