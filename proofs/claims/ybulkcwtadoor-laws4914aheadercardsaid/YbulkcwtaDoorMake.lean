/-
  'make([]byte, n, c)' and 'append(v, p...)', p any slice that came in (nil too).
-/
import Derived.Test.YbulkcwtaDoorOwn
import Derived.Test.YbulkcwtaDoorCopy
namespace Go.Proofs.YbulkcwtaDoor
open Go.RowKit

theorem wpList_make_lc {P : Program} (w : World) {ops : Array Oper} {rest : List Oper} {o : Oper} {a : Act} {Q : Exit → Act → World → Prop}
    (hg : o.guard = none) (l c : Operand) (t : TypeId) (hop : o.op = Op.makeSlice t l c)
    (e : TypeId) (i : TypeInfo) (z : Value) (h1 : P.underlying t = some (.slice e)) (h2 : P.info? e = some i) (h3 : i.zero = some z) (h4 : i.size = 1)
    (kl kc : IntKind) (L C : Int) (n m : Nat) (hl : a.eval l = .int kl L) (hc : a.eval c = .int kc C) (hL : L = (n : Int)) (hC : C = (m : Int)) (hnm : n ≤ m) (b2 : i.bytes * m ≤ 281474976710656) (b3 : m ≤ maxLen)
    (hK : ∀ w' xs, w'.ownsRow w.heap.size e 1 (.slice (some ⟨w.heap.size, 0, none⟩) n m) n xs → Below w.heap.size w w' → w'.heap.size = w.heap.size + 1 → wpList P ops Q rest (a.put o.dst (.slice (some ⟨w.heap.size, 0, none⟩) n m)) w') :
    wpList P ops Q (o :: rest) a w := by
  refine wpList_plain hg fun K hK' => ?_
  subst hL
  subst hC
  have h63 : (m : Int) ≤ 9223372036854775807 := by
    have h := b3
    simp [maxLen] at h
    omega
  have hb' : (i.bytes : Int) * (m : Int) ≤ 281474976710656 := by
    have h : ((i.bytes * m : Nat) : Int) ≤ 281474976710656 := by omega
    rwa [Int.natCast_mul] at h
  have hr := run_make (P := P) w t e i z h1 h2 h3 kl kc n m (by omega) (by omega) hb' h63
  simp only [Int.toNat_natCast, h4, Nat.mul_one] at hr
  unfold Oper.wp
  simp [execOp, hop, hl, hc, hr, Result.andThen]
  refine hK' _ _ (hK _ ((madeCells z.cells m).toList.take n) ⟨?_, .inr ⟨w.heap.size, m, _, rfl, Nat.le_refl _, heap_alloc_new w _, hnm, b3, ?_, ?_⟩⟩ ((Below.refl _ w).alloc (Nat.le_refl _) _) (by simp))
  · simp [size_madeCells, hnm]
  · simp [size_madeCells]
  · simp

/-- append(v, p...), p any slice that came in. -/
theorem wpList_app_opt {P : Program} (w : World) {ops : Array Oper} {rest : List Oper} {o : Oper} {a : Act} {Q : Exit → Act → World → Prop} (hgd : o.guard = none) (s x : Operand) (t : TypeId)
    (ho : o.op = .call { callee := .builtin .append, args := #[s, x], argTypes := #[t, t] })
    (B : Nat) (e : TypeId) (i : TypeInfo) (ht : P.underlying t = some (.slice e)) (hi : P.info? e = some i) (hz : i.zero = some (.int .u8 0)) (hsize : i.size = 1) (hby : i.bytes = 1)
    (v : Value) (l : List UInt8) (hs : a.eval s = v) (hown : Owns e B w v l)
    (sp : Option Addr) (m c : Nat) (ys : List UInt8) (hx : a.eval x = .slice sp m c) (hm : ys.length = m) (hnone : sp = none → m = 0 ∧ c = 0) (hnews : ∀ ad, sp = some ad → ∀ j u, (Lib.byteCells ys)[j]? = some u → w.cell? (ad.add j) = some u)
    (hlen : l.length + ys.length ≤ 1000000) (hbase : B ≤ w.heap.size)
    (h : ∀ v' w', Owns e B w' v' (l ++ ys) → App l.length w v w' v' → wpList P ops Q rest (a.put o.dst v') w') : wpList P ops Q (o :: rest) a w := by
  cases sp with
  | some ad => exact wpList_app w hgd s x t ho B e i ht hi hz hsize hby v l hs hown ad m c ys hx hm (hnews ad rfl) hlen hbase h
  | none =>
    obtain ⟨rfl, rfl⟩ := hnone rfl
    obtain rfl : ys = [] := List.eq_nil_of_length_eq_zero hm
    refine wpList_plain hgd fun K hK => ?_
    have hr := run_append_owned_none (P := P) w B t o.type e i 1 ht hi v l.length (Lib.byteCells l) hown
    unfold Oper.wp execOp
    simp only [ho, resolve, invoke, builtin, Sem.run_bind, Sem.run_pure, Result.andThen_ok, List.map_toArray, List.map_cons, List.map_nil, hs, hx, hr]
    exact hK _ _ (h v w (by rw [List.append_nil]; exact hown) ⟨World.grownBy.refl w _, .inl rfl, fun _ _ _ _ => rfl⟩)
end Go.Proofs.YbulkcwtaDoor
