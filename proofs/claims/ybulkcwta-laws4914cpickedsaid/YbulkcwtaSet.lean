/-
  A map with string keys that the call itself has made, looked at as THE SET OF ITS KEYS: what its elements are is left open.
-/
import Derived.Maps.Own
import Derived.Maps.Views
namespace Go.Proofs.Ybulkcwta
open Go.ChangeMaps Go.MapKept
open Go.WideElems (Fit rd rg pl rd_val elemAt)
open Go.Maps (Keyed has IsMap)

/-- Is s among ks? -/
def memB (ks : List ByteArray) (s : ByteArray) : Bool := ks.any fun t => t == s
theorem memB_nil (s : ByteArray) : memB [] s = false := rfl
theorem memB_snoc (ks : List ByteArray) (t s : ByteArray) : memB (ks ++ [t]) s = (memB ks s || t == s) := by simp [memB]

/-- Every element reads as one and the same datum. -/
def blind (_ : Value) : Option (DataW Unit × List MemPlace) := some (.lit (.bool true), [])

/-- Block b of w is a map of at most n entries whose keys (strings) are those of ks. -/
def KeySet (w : World) (P : Program) (k : TypeId) (b n : Nat) (ks : List ByteArray) : Prop :=
  ∃ D : DataW Unit, w.ownsMap P k blind b n D ∧ IsMap D ∧ ∀ s : ByteArray, has D (.string s.data.toList) = memB ks s

section
variable {P : Program} {k : TypeId} {w : World} {b n : Nat} {ks : List ByteArray}

theorem keySet_made (w : World) (P : Program) (k : TypeId) : KeySet (w.alloc (.map #[] 0)) P k w.heap.size 0 [] :=
  ⟨.map [], World.ownsMap_made w P k blind, Maps.isMap_empty, fun _ => rfl⟩

theorem KeySet.kept (h : KeySet w P k b n ks) {w' : World} {row : Option Nat} (hg : w.grownBy w' row) (hne : some b ≠ row) : KeySet w' P k b n ks := by
  obtain ⟨D, h1, h2⟩ := h
  exact ⟨D, h1.kept hg hne, h2⟩

theorem KeySet.lt (h : KeySet w P k b n ks) : b < w.heap.size := by
  obtain ⟨D, h1, h2⟩ := h
  exact h1.lt

theorem KeySet.ofBlock (h : KeySet w P k b n ks) {w' : World} (e : w'.heap[b]? = w.heap[b]?) : KeySet w' P k b n ks := by
  obtain ⟨D, ⟨es, clock, hb, r⟩, h2⟩ := h
  exact ⟨D, ⟨es, clock, e.trans hb, r⟩, h2⟩

theorem isKey_string (l : List UInt8) : WideAt.IsKeyLit (.string l) := True.intro

theorem bytes_ext {a b : ByteArray} (h : a.data.toList = b.data.toList) : a = b := by
  cases a; cases b
  simpa using h

theorem KeySet.look {t e : TypeId} (h : KeySet w P k b n ks) (hk : P.underlying k = some .string) (ht : P.underlying t = some (.map k e)) {z : Value} (hz : (zeroValue e).run P w = .ok z w) (s : ByteArray) (hs : s.size ≤ maxLen) :
    ∃ v, (Instr.lookup t (.map (some b)) (.string s) true).run P w = .ok (.tuple #[v, .bool (memB ks s)]) w := by
  obtain ⟨D, ⟨es, clock, hb, F, _, hD⟩, _, hh⟩ := h
  have hkey := WideMaps.keyOf_string_mk hk hs
  rw [← hh s, hD]
  rcases Maps.fit_look true (Maps.string_keyed hk) ht hz hb F hkey with ⟨hrun, _, hat⟩ | ⟨e0, y, _, _, hrun, _, hat, _⟩
  · refine ⟨z, ?_⟩
    rw [hrun, Maps.has_false_of_atKey hat]
    rfl
  · refine ⟨e0.val, ?_⟩
    rw [hrun, Maps.has_true_of_atKey hat]
    rfl

theorem KeySet.put {t e : TypeId} (h : KeySet w P k b n ks) (hk : P.underlying k = some .string) (ht : P.underlying t = some (.map k e)) (hn : n < maxLen) (s : ByteArray) (hs : s.size ≤ maxLen) (v : Value) :
    ∃ w', (Instr.mapUpdate t (.map (some b)) (.string s) v).run P w = .ok () w' ∧ KeySet w' P k b (n + 1) (ks ++ [s]) ∧ w.grownBy w' (some b) := by
  obtain ⟨D, h1, hm, hh⟩ := h
  obtain ⟨w', hrun, h2, h3⟩ := h1.update (Maps.string_keyed hk) ht hn (WideMaps.keyOf_string_mk hk hs) (val := v) (d := .lit (.bool true)) (ps := []) rfl
  refine ⟨w', hrun, ⟨_, h2, hm.put _ _, fun x => ?_⟩, h3⟩
  rw [memB_snoc]
  by_cases hx : s = x
  · subst hx
    rw [Maps.has_put_same hm (isKey_string _), (MapKept.bytes_beq s s).2 rfl, Bool.or_true]
  · have hne : (Lit.string x.data.toList) ≠ .string s.data.toList := fun e => hx (bytes_ext (by simpa using e.symm))
    rw [Maps.has_put_other hne, hh x]
    have : (s == x) = false := by
      cases h : s == x
      · rfl
      · exact absurd ((MapKept.bytes_beq s x).1 h) hx
    rw [this, Bool.or_false]

theorem KeySet.block (h : KeySet w P k b n ks) : ∃ es clock, w.heap[b]? = some (.map es clock) := by
  obtain ⟨D, ⟨es, clock, hb, _⟩, _⟩ := h
  exact ⟨es, clock, hb⟩
end

/-- 'm[k] = v' at the operation. -/
theorem wpList_put {P : Program} (w : World) {ops : Array Oper} {rest : List Oper} {o : Oper} {a : Act} {Q : Exit → Act → World → Prop}
    (hg : o.guard = none) (m x v : Operand) (t : TypeId) (hop : o.op = Op.mapUpdate t m x v)
    (k e : TypeId) (hk : P.underlying k = some .string) (ht : P.underlying t = some (.map k e)) (b n : Nat) (ks : List ByteArray)
    (hm : a.eval m = .map (some b)) (hown : KeySet w P k b n ks) (hn : n < maxLen) (s : ByteArray) (hs : s.size ≤ maxLen) (hx : a.eval x = .string s)
    (hK : ∀ w', KeySet w' P k b (n + 1) (ks ++ [s]) → w.grownBy w' (some b) → wpList P ops Q rest (a.put o.dst undef) w') :
    wpList P ops Q (o :: rest) a w := by
  refine wpList_plain hg fun K' hK' => ?_
  obtain ⟨w', hrun, r1, r2⟩ := hown.put hk ht hn s hs (a.eval v)
  unfold Oper.wp
  simp [execOp, hop, hm, hx, hrun, Result.andThen]
  exact hK' _ _ (hK w' r1 r2)
end Go.Proofs.Ybulkcwta
