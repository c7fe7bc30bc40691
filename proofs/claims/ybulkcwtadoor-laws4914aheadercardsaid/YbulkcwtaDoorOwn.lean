/-
  A slice of bytes that the call owns, by the list of its bytes; append laws on it.
-/
import Derived.Test.YbulkcwtaDoorApp
import Derived.Lib.UnsafeStr
import Derived.Lib.BufferWrite
import Derived.OwnWalk
import Derived.Below
namespace Go.Proofs.YbulkcwtaDoor
open Go.RowKit

/-- The slice v of w owns the bytes l, in a row from block B on. (e: the type of a byte.) -/
def Owns (e : TypeId) (B : Nat) (w : World) (v : Value) (l : List UInt8) : Prop := w.ownsRow B e 1 v l.length (Lib.byteCells l)

section
variable {e : TypeId} {B : Nat} {w w' : World} {v v' : Value} {l : List UInt8}

theorem Owns.mono (h : Owns e B w v l) {B' : Nat} (hB : B' ≤ B) : Owns e B' w v l := by
  refine ⟨h.1, ?_⟩
  rcases h.2 with h' | ⟨g, cap, cur, hv, hb, r⟩
  · exact .inl h'
  · exact .inr ⟨g, cap, cur, hv, Nat.le_trans hB hb, r⟩

theorem Owns.lt (h : Owns e B w v l) : ∀ k, v.ownBlock = some k → B ≤ k ∧ k < w.heap.size := World.ownsRow.lt h

/-- Nothing below the heap's size has turned: what is owned stays owned. -/
theorem Owns.below (h : Owns e B w v l) (hb : Below w.heap.size w w') : Owns e B w' v l :=
  World.ownsRow.kept h (row := none) ⟨hb.os, hb.tape, hb.output, hb.size, fun k hk _ => hb.block k hk⟩ (by cases hv : v.ownBlock <;> simp)

theorem Owns.cell (h : Owns e B w v l) {g n cap : Nat} (hv : v = .slice (some ⟨g, 0, none⟩) n cap) {j : Nat} (hj : j < l.length) : w.cell? ⟨g, j, none⟩ = some (.int .u8 (l[j].toNat : Int)) := by
  have hc := World.ownsRow.cells h (g := g) (by rw [hv]; rfl) j (.int .u8 (l[j].toNat : Int)) (by simp [Lib.byteCells, hj])
  rwa [Addr.add_lit, Nat.zero_add] at hc

theorem Owns.form (h : Owns e B w v l) (hl : 0 < l.length) : ∃ g cap, v = .slice (some ⟨g, 0, none⟩) l.length cap ∧ B ≤ g ∧ g < w.heap.size := by
  rcases h.2 with ⟨_, h0⟩ | ⟨g, cap, cur, hv, hb, hg, _⟩
  · omega
  · exact ⟨g, cap, hv, hb, (Array.getElem?_eq_some_iff.1 hg).1⟩

/-- Whatever it looks like: nil and empty, or at a row's head. -/
theorem Owns.form' (h : Owns e B w v l) : (v = .slice none 0 0 ∧ l = []) ∨ ∃ g cap, v = .slice (some ⟨g, 0, none⟩) l.length cap ∧ B ≤ g ∧ g < w.heap.size := by
  rcases h.2 with ⟨h1, h0⟩ | ⟨g, cap, cur, hv, hb, hg, _⟩
  · exact .inl ⟨h1, List.eq_nil_of_length_eq_zero h0⟩
  · exact .inr ⟨g, cap, hv, hb, (Array.getElem?_eq_some_iff.1 hg).1⟩

theorem App.below {n : Nat} (h : App n w v w' v') (hB : B ≤ w.heap.size) (hv : ∀ k, v.ownBlock = some k → B ≤ k) : Below B w w' :=
  (Below.refl B w).grown h.grown hB hv
end

theorem byteCells_one (l : List UInt8) : ∀ u ∈ Lib.byteCells l, u.oneCell' = true := by
  intro u hu
  obtain ⟨_, _, rfl⟩ := List.mem_map.1 hu
  rfl

/-- The cells of a literal's own new block. -/
theorem lit_new (w : World) (l : List UInt8) (t : TypeId) : ∀ j u, (Lib.byteCells l)[j]? = some u → (w.alloc (.cells (Lib.byteCells l).toArray t)).cell? ((⟨w.heap.size, 0, none⟩ : Addr).add j) = some u := by
  intro j u hj
  rw [Addr.add_lit, Nat.zero_add, cell_of_row _ _ j (Lib.byteCells l).toArray t (0, 0) (heap_alloc_new w _)]
  simpa using hj

section
variable {P : Program} (w : World)

/-- append(v, y0, y1, ..): the bytes ys lie at ad. -/
theorem wpList_app {ops : Array Oper} {rest : List Oper} {o : Oper} {a : Act} {Q : Exit → Act → World → Prop} (hgd : o.guard = none) (s x : Operand) (t : TypeId)
    (ho : o.op = .call { callee := .builtin .append, args := #[s, x], argTypes := #[t, t] })
    (B : Nat) (e : TypeId) (i : TypeInfo) (ht : P.underlying t = some (.slice e)) (hi : P.info? e = some i) (hz : i.zero = some (.int .u8 0)) (hsize : i.size = 1) (hby : i.bytes = 1)
    (v : Value) (l : List UInt8) (hs : a.eval s = v) (hown : Owns e B w v l)
    (ad : Addr) (m c : Nat) (ys : List UInt8) (hx : a.eval x = .slice (some ad) m c) (hm : ys.length = m) (hnews : ∀ j u, (Lib.byteCells ys)[j]? = some u → w.cell? (ad.add j) = some u)
    (hlen : l.length + ys.length ≤ 1000000) (hbase : B ≤ w.heap.size)
    (h : ∀ v' w', Owns e B w' v' (l ++ ys) → App l.length w v w' v' → wpList P ops Q rest (a.put o.dst v') w') : wpList P ops Q (o :: rest) a w := by
  refine wpList_append_app w hgd s x t ho B e i (.int .u8 0) 1 ht hi hz hsize hby rfl v l.length (Lib.byteCells l) hs hown ad m c (Lib.byteCells ys) hx (by rw [Lib.byteCells_length]; exact hm) hnews (byteCells_one ys) (by unfold maxLen; omega) (by omega) hbase ?_
  intro v' w' h1 h2
  refine h v' w' ?_ h2
  unfold Owns
  rw [List.length_append, Lib.byteCells_append, hm]
  exact h1

/-- append(v, s...), s a string. -/
theorem wpList_app_string {ops : Array Oper} {rest : List Oper} {o : Oper} {a : Act} {Q : Exit → Act → World → Prop} (hgd : o.guard = none) (sl x : Operand) (t u : TypeId)
    (ho : o.op = .call { callee := .builtin .append, args := #[sl, x], argTypes := #[t, u] })
    (B : Nat) (e : TypeId) (i : TypeInfo) (ht : P.underlying t = some (.slice e)) (hu : P.underlying u = some .string) (hi : P.info? e = some i) (hz : i.zero = some (.int .u8 0)) (hsize : i.size = 1) (hby : i.bytes = 1)
    (v : Value) (l : List UInt8) (hs : a.eval sl = v) (hown : Owns e B w v l) (s : ByteArray) (hx : a.eval x = .string s)
    (hlen : l.length + s.size ≤ 1000000) (hbase : B ≤ w.heap.size)
    (h : ∀ v' w', Owns e B w' v' (l ++ s.data.toList) → App l.length w v w' v' → wpList P ops Q rest (a.put o.dst v') w') : wpList P ops Q (o :: rest) a w := by
  refine wpList_append_app_string w hgd sl x t u ho B e i ht hu hi hz hsize hby v l.length (Lib.byteCells l) hs hown s hx (by unfold maxLen; omega) (by omega) hbase ?_
  intro v' w' h1 h2
  refine h v' w' ?_ h2
  unfold Owns
  rw [List.length_append, Lib.byteCells_append]
  have : s.data.toList.length = s.size := rfl
  rw [this]
  exact h1

/-- append(v, s...), s a string for which v's row has no room: the new slice lies in a new block; nothing old has turned. -/
theorem wpList_app_string_new {ops : Array Oper} {rest : List Oper} {o : Oper} {a : Act} {Q : Exit → Act → World → Prop} (hgd : o.guard = none) (sl x : Operand) (t u : TypeId)
    (ho : o.op = .call { callee := .builtin .append, args := #[sl, x], argTypes := #[t, u] })
    (B : Nat) (e : TypeId) (i : TypeInfo) (ht : P.underlying t = some (.slice e)) (hu : P.underlying u = some .string) (hi : P.info? e = some i) (hz : i.zero = some (.int .u8 0)) (hsize : i.size = 1) (hby : i.bytes = 1)
    (g cap : Nat) (l : List UInt8) (hs : a.eval sl = .slice (some ⟨g, 0, none⟩) l.length cap) (hown : Owns e B w (.slice (some ⟨g, 0, none⟩) l.length cap) l) (s : ByteArray) (hx : a.eval x = .string s)
    (hlen : l.length + s.size ≤ 1000000) (hroom : cap < l.length + s.size)
    (h : ∀ v' w', Owns e w.heap.size w' v' (l ++ s.data.toList) → Below w.heap.size w w' → wpList P ops Q rest (a.put o.dst v') w') : wpList P ops Q (o :: rest) a w := by
  refine wpList_plain hgd fun K hK => ?_
  have hsl : s.data.toList.length = s.size := rfl
  have holds : ∀ j u, (Lib.byteCells l)[j]? = some u → w.cell? ((⟨g, 0, none⟩ : Addr).add j) = some u := World.ownsRow.cells hown (g := g) rfl
  have hr := Lib.run_append_grow_string (P := P) w t u o.type e i (.int .u8 0) ht hu hi hz ⟨g, 0, none⟩ l.length cap (Lib.byteCells l) (by rw [hsize]; exact hown.1) holds s hroom (by omega) (by rw [hby]; exact growslice_fits (by omega) (by omega))
  unfold Oper.wp execOp
  simp only [ho, resolve, invoke, builtin, Sem.run_bind, Sem.run_pure, Result.andThen_ok, List.map_toArray, List.map_cons, List.map_nil, hs, hx, hr]
  refine hK _ _ (h _ _ ?_ ?_)
  · have hge := grownCap_ge w (l.length + s.size) cap e
    have hcm : grownCap w (l.length + s.size) cap e ≤ maxLen := grownCap_le_maxLen w (l.length + s.size) cap e (by unfold maxLen; omega)
    have hxl : (Lib.byteCells l).length = l.length := Lib.byteCells_length l
    have hlen2 : (Lib.byteCells (l ++ s.data.toList)).length = l.length + s.size := by rw [Lib.byteCells_length, List.length_append, hsl]
    refine ⟨by rw [Lib.byteCells_length, Nat.mul_one], .inr ⟨w.heap.size, _, _, ?_, Nat.le_refl _, heap_alloc_new w.drew _, ?_, hcm, ?_, ?_⟩⟩
    · rw [List.length_append, hsl]
    · rw [List.length_append, hsl]; exact hge
    · have hz1 : (Value.int IntKind.u8 0).cells.size = 1 := rfl
      simp only [Array.size_append, List.size_toArray, size_zeroCells, hz1, hxl, Lib.strCells_length]
      omega
    · rw [Lib.byteCells_append] at hlen2 ⊢
      simp only [Array.toList_append, List.append_assoc, List.length_append, hsl, Nat.mul_one]
      rw [← List.append_assoc]
      exact List.take_left' hlen2
  · exact (Below.refl _ w).drew.alloc (Nat.le_refl _) _
end
end Go.Proofs.YbulkcwtaDoor
