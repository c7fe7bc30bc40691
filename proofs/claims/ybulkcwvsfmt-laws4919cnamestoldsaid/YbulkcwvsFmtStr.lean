import Derived.Test.YbulkcwvsFmtRows
import Derived.WalkKit
import Derived.ProofKit
import Derived.Below
import Derived.OwnWalk
import Derived.Laws.StructEq
import Derived.Maps.Own
import Derived.Maps.Views
import Derived.Maps.OwnOps
import Derived.Lib.SliceRun
import Derived.Deep.QuietTactic
import Derived.BigQuiet
namespace Go.Proofs.YbulkcwvsFmt
open Go.RowKit
open Go.ChangeMaps Go.MapKept
open Go.WideElems (Fit rd rg pl rd_val elemAt)
open Go.Maps (Keyed has IsMap)

/-- A slice of strings, by the list of its strings: nil and empty, or from an address on. -/
structure SRow (w : World) (a : Option Addr) (l : List ByteArray) : Prop where
  isNil : a = none → l = []
  cell : ∀ x, a = some x → ∀ j (h : j < l.length), w.cell? (x.add j) = some (.string l[j])

theorem add_block (a : Addr) (j : Nat) : (a.add j).block = a.block := by unfold Addr.add; split <;> rfl

theorem SRow.at {w : World} {a0 : Option Addr} {l : List ByteArray} (h : SRow w a0 l) {j : Nat} (hj : j < l.length) : ∃ b o, a0 = some ⟨b, o, none⟩ ∧ w.cell? ⟨b, o + j, none⟩ = some (.string l[j]) := by
  cases a0 with
  | none => have := h.isNil rfl; subst this; simp at hj
  | some x =>
    have c0 := h.cell x rfl 0 (by omega)
    have cj := h.cell x rfl j hj
    obtain ⟨b, o, spot⟩ := x
    have hspot : spot = none := by simpa [Addr.add] using World.cell?_spot c0
    subst hspot
    rw [Addr.add_lit] at cj
    exact ⟨b, o, rfl, cj⟩

theorem SRow.same {w w' : World} {a0 : Option Addr} {l : List ByteArray} (h : SRow w a0 l) (e : ∀ p v, w.cell? p = some v → (∀ x, a0 = some x → p.block = x.block) → w'.cell? p = some v) : SRow w' a0 l :=
  ⟨h.isNil, fun x hx j hj => e _ _ (h.cell x hx j hj) (fun y hy => by rw [hx] at hy; cases hy; exact add_block x j)⟩

theorem SRow.below {w w' : World} {a0 : Option Addr} {l : List ByteArray} (h : SRow w a0 l) (hb : Below w.heap.size w w') : SRow w' a0 l :=
  h.same fun p v hv _ => by rw [hb.cell (World.block_lt_of_cell? w _ hv)]; exact hv

/-- Is s among ks? -/
def memB (ks : List ByteArray) (s : ByteArray) : Bool := ks.any fun t => t == s
theorem memB_snoc (ks : List ByteArray) (t s : ByteArray) : memB (ks ++ [t]) s = (memB ks s || t == s) := by simp [memB]

theorem take_snoc {α : Type} (l : List α) (k : Nat) (h : k < l.length) : l.take (k + 1) = l.take k ++ [l[k]] := List.take_succ_eq_append_getElem h

theorem ret_bool {a b : Bool} (h : a = b) : Ending.returned (.bool a) = .returned (.bool b) := by rw [h]

theorem belowN {B : Nat} {a w : World} (h : Below B a w) (k : Nat) : Below B a (w.drewN k) := ⟨h.os, h.tape, h.output, h.size, h.block⟩

theorem isKey_string (l : List UInt8) : WideAt.IsKeyLit (.string l) := True.intro
theorem bytes_ext {a b : ByteArray} (h : a.data.toList = b.data.toList) : a = b := by
  cases a; cases b
  simpa using h

/-- Block b of w is a map of at most n entries whose keys (strings) are those of ks, and whose elements are all Z. -/
def KeySet (w : World) (P : Program) (k : TypeId) (Z : Value) (b n : Nat) (ks : List ByteArray) : Prop :=
  ∃ R : Value → Option (DataW Unit × List MemPlace), (∀ v y, R v = some y → v = Z) ∧ (∃ y, R Z = some y) ∧ ∃ D : DataW Unit, w.ownsMap P k R b n D ∧ IsMap D ∧ ∀ s : ByteArray, has D (.string s.data.toList) = memB ks s

section
variable {P : Program} {k : TypeId} {Z : Value} {w : World} {b n : Nat} {ks : List ByteArray}

theorem keySet_made (w : World) (P : Program) (k : TypeId) (Z : Value) : KeySet (w.alloc (.map #[] 0)) P k Z w.heap.size 0 [] := by
  classical
  refine ⟨fun v => if v = Z then some (.lit (.bool true), []) else none, ?_, ⟨(.lit (.bool true), []), by simp⟩, .map [], World.ownsMap_made w P k _, Maps.isMap_empty, fun _ => rfl⟩
  intro v y h
  by_cases hv : v = Z
  · exact hv
  · simp [hv] at h

theorem KeySet.ofBlock (h : KeySet w P k Z b n ks) {w' : World} (e : w'.heap[b]? = w.heap[b]?) : KeySet w' P k Z b n ks := by
  obtain ⟨R, h1, h2, D, ⟨es, clock, hb, r⟩, h3⟩ := h
  exact ⟨R, h1, h2, D, ⟨es, clock, e.trans hb, r⟩, h3⟩

theorem KeySet.lt (h : KeySet w P k Z b n ks) : b < w.heap.size := by
  obtain ⟨R, h1, h2, D, h3, h4⟩ := h
  exact h3.lt

theorem KeySet.look {t e : TypeId} (h : KeySet w P k Z b n ks) (hk : P.underlying k = some .string) (ht : P.underlying t = some (.map k e)) (hz : (zeroValue e).run P w = .ok Z w) (s : ByteArray) (hs : s.size ≤ maxLen) :
    (Instr.lookup t (.map (some b)) (.string s) true).run P w = .ok (.tuple #[Z, .bool (memB ks s)]) w := by
  obtain ⟨R, hR, _, D, ⟨es, clock, hb, F, _, hD⟩, _, hh⟩ := h
  have hkey := WideMaps.keyOf_string_mk hk hs
  rw [← hh s, hD]
  rcases Maps.fit_look true (Maps.string_keyed hk) ht hz hb F hkey with ⟨hrun, _, hat⟩ | ⟨e0, y, _, _, hrun, hRv, hat, _⟩
  · rw [hrun, Maps.has_false_of_atKey hat]
    rfl
  · rw [hrun, Maps.has_true_of_atKey hat, hR _ _ hRv]
    rfl

theorem KeySet.put {t e : TypeId} (h : KeySet w P k Z b n ks) (hk : P.underlying k = some .string) (ht : P.underlying t = some (.map k e)) (hn : n < maxLen) (s : ByteArray) (hs : s.size ≤ maxLen) :
    ∃ w', (Instr.mapUpdate t (.map (some b)) (.string s) Z).run P w = .ok () w' ∧ KeySet w' P k Z b (n + 1) (ks ++ [s]) ∧ w.grownBy w' (some b) := by
  obtain ⟨R, hR, ⟨⟨d, ps⟩, hZ⟩, D, h1, hm, hh⟩ := h
  obtain ⟨w', hrun, h2, h3⟩ := h1.update (Maps.string_keyed hk) ht hn (WideMaps.keyOf_string_mk hk hs) (val := Z) hZ
  refine ⟨w', hrun, ⟨R, hR, ⟨_, hZ⟩, _, h2, hm.put _ _, fun x => ?_⟩, h3⟩
  rw [memB_snoc]
  by_cases hx : s = x
  · subst hx
    rw [Maps.has_put_same hm (isKey_string _), (MapKept.bytes_beq s s).2 rfl, Bool.or_true]
  · have hne : (Lit.string x.data.toList) ≠ .string s.data.toList := fun e => hx (bytes_ext (by simpa using e.symm))
    rw [Maps.has_put_other hne, hh x]
    have : (s == x) = false := by
      cases h : s == x
      · rfl
      · exact absurd ((MapKept.bytes_beq s x).1 h) hx
    rw [this, Bool.or_false]
end

/-- 'm[k] = Z' at the operation. -/
theorem wpList_put {P : Program} (w : World) {ops : Array Oper} {rest : List Oper} {o : Oper} {a : Act} {Q : Exit → Act → World → Prop}
    (hg : o.guard = none) (m x v : Operand) (t : TypeId) (hop : o.op = Op.mapUpdate t m x v)
    (k e : TypeId) (Z : Value) (hk : P.underlying k = some .string) (ht : P.underlying t = some (.map k e)) (b n : Nat) (ks : List ByteArray)
    (hm : a.eval m = .map (some b)) (hown : KeySet w P k Z b n ks) (hn : n < maxLen) (s : ByteArray) (hs : s.size ≤ maxLen) (hx : a.eval x = .string s) (hv : a.eval v = Z)
    (hK : ∀ w', KeySet w' P k Z b (n + 1) (ks ++ [s]) → w.grownBy w' (some b) → wpList P ops Q rest (a.put o.dst undef) w') :
    wpList P ops Q (o :: rest) a w := by
  refine wpList_plain hg fun K' hK' => ?_
  obtain ⟨w', hrun, r1, r2⟩ := hown.put hk ht hn s hs
  unfold Oper.wp
  simp [execOp, hop, hm, hx, hv, hrun, Result.andThen]
  exact hK' _ _ (hK w' r1 r2)

/-- The zero Holding. -/
def zH : Value := .agg #[.int .u64 0, .int .u64 0, .int .u64 0, .int .u64 0, .slice none 0 0, .int .u64 0, .string ⟨#[]⟩, .slice none 0 0, .int .u64 0, .slice none 0 0, .string ⟨#[]⟩, .int .u64 0, .int .u64 0, .string ⟨#[]⟩, .slice none 0 0, .slice none 0 0]
theorem zeroH (w : World) : (zeroValue 141).run Ybaf.prog w = .ok zH w := by
  have h : (Ybaf.prog.info? 141).map (fun i => i.zero) = some (some zH) := by kernel_rfl
  obtain ⟨i, hi, hz⟩ := Option.map_eq_some_iff.1 h
  simp [zeroValue, typeInfo, hi, hz]

/-- The map 'mo' (nil, or a block) holds just the keys ks. -/
def HoldsKeys (w : World) (mo : Option Nat) (ks : List ByteArray) : Prop :=
  (mo = none ∧ ks = []) ∨ ∃ b n, mo = some b ∧ KeySet w Ybaf.prog 9 zH b n ks

theorem HoldsKeys.below {w w' : World} {mo : Option Nat} {ks : List ByteArray} (h : HoldsKeys w mo ks) (hb : Below w.heap.size w w') : HoldsKeys w' mo ks := by
  rcases h with h | ⟨b, n, rfl, h1⟩
  · exact .inl h
  · exact .inr ⟨b, n, rfl, h1.ofBlock (hb.block b h1.lt)⟩

theorem HoldsKeys.look {w : World} {mo : Option Nat} {ks : List ByteArray} (h : HoldsKeys w mo ks) (s : ByteArray) (hs : s.size ≤ maxLen) : (Instr.lookup 114 (.map mo) (.string s) true).run Ybaf.prog w = .ok (.tuple #[zH, .bool (memB ks s)]) w := by
  rcases h with ⟨rfl, rfl⟩ | ⟨b, n, rfl, h1⟩
  · have hkey := WideMaps.keyOf_string_mk Ybaf.underlying9 hs
    rcases (Maps.string_keyed Ybaf.underlying9).find w hkey [] (by simp) with ⟨h1, _⟩ | ⟨j, e0, _, h2, _⟩
    · simp [Instr.lookup, run_underlying Ybaf.underlying114, (Maps.string_keyed Ybaf.underlying9).check w _ hkey, h1, memB, Result.andThen]
      rfl
    · simp at h2
  · exact h1.look Ybaf.underlying9 Ybaf.underlying114 (zeroH w) s hs
end Go.Proofs.YbulkcwvsFmt
