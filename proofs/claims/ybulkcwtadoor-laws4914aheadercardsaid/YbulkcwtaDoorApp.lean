/-
  append onto a slice that the call owns, with one thing more than the kit's law says: THE OLD SLICE's OWN ELEMENTS STAND. Elements of one cell.
-/
import Derived.Maps.AppendAt
import Derived.Lib.AppendStr
namespace Go.Proofs.YbulkcwtaDoor

/-- From (w, v), v a slice of n elements, to (w', v'): old blocks but v's own are as they were; v' lies where v lay or in a new block; the first n cells of v's row are as they were. -/
structure App (n : Nat) (w : World) (v : Value) (w' : World) (v' : Value) : Prop where
  grown : w.grownBy w' v.ownBlock
  lies : v'.ownBlock = v.ownBlock ∨ ∃ k, v'.ownBlock = some k ∧ w.heap.size ≤ k
  keep : ∀ g, v.ownBlock = some g → ∀ j, j < n → w'.cell? ⟨g, j, none⟩ = w.cell? ⟨g, j, none⟩

theorem App.trans {n m : Nat} {w w1 w2 : World} {v v1 v2 : Value} (h : App n w v w1 v1) (k : App m w1 v1 w2 v2) (hnm : n ≤ m) (hlt : ∀ g, v.ownBlock = some g → g < w.heap.size) : App n w v w2 v2 := by
  refine ⟨⟨k.grown.os.trans h.grown.os, k.grown.tape.trans h.grown.tape, k.grown.output.trans h.grown.output, Nat.le_trans h.grown.size k.grown.size, ?_⟩, ?_, ?_⟩
  · intro i hi hne
    refine (k.grown.block i (Nat.lt_of_lt_of_le hi h.grown.size) ?_).trans (h.grown.block i hi hne)
    rcases h.lies with e | ⟨q, e, hq⟩
    · rw [e]; exact hne
    · rw [e]; intro e2; cases e2; omega
  · rcases k.lies with e | ⟨q, e, hq⟩
    · rcases h.lies with e2 | ⟨q2, e2, hq2⟩
      · exact .inl (e.trans e2)
      · exact .inr ⟨q2, e.trans e2, hq2⟩
    · exact .inr ⟨q, e, Nat.le_trans h.grown.size hq⟩
  · intro g hg j hj
    refine Eq.trans ?_ (h.keep g hg j hj)
    have hl := hlt g hg
    rcases h.lies with e | ⟨q, e, hq⟩
    · exact k.keep g (e.trans hg) j (by omega)
    · refine World.cell?_of_block (k.grown.block g (Nat.lt_of_lt_of_le hl h.grown.size) ?_)
      rw [e]; intro e2; cases e2; omega

theorem App.alloc {n : Nat} (w : World) (v : Value) (o : Obj) (hlt : ∀ g, v.ownBlock = some g → g < w.heap.size) : App n w v (w.alloc o) v := by
  refine ⟨World.grownBy_alloc w o _, .inl rfl, fun g hg j _ => ?_⟩
  exact World.cell?_of_block (heap_alloc_old w o g (hlt g hg))

theorem cell_setRow_take (w : World) (g j n : Nat) (cur : Array Value) (e : TypeId) (hg : w.heap[g]? = some (.cells cur e (0, 0))) (rest : List Value) (hn : n ≤ cur.size) (hj : j < n) :
    (w.setRow g (cur.toList.take n ++ rest).toArray).cell? ⟨g, j, none⟩ = w.cell? ⟨g, j, none⟩ := by
  rw [cell_of_row _ g j _ e (0, 0) (setRow_heap w g cur _ e _ hg), cell_of_row w g j cur e (0, 0) hg]
  have hl : j < (List.take n cur.toList).length := by simp; omega
  simp only [List.getElem?_toArray]
  rw [List.getElem?_append_left hl, List.getElem?_take, if_pos hj]
  simp

section
variable {P : Program} (w : World)

theorem run_append_app (base : Nat) (t ty e : TypeId) (i : TypeInfo) (z : Value) (bytes : Nat) (ht : P.underlying t = some (.slice e)) (hi : P.info? e = some i) (hz : i.zero = some z)
    (hsize : i.size = 1) (hby : i.bytes = bytes) (hzs : z.cells.size = 1)
    (v : Value) (n : Nat) (xs : List Value) (hown : w.ownsRow base e 1 v n xs)
    (a : Addr) (m c : Nat) (news : List Value) (hl : news.length = m) (hnews : ∀ j u, news[j]? = some u → w.cell? (a.add j) = some u) (h1 : ∀ u ∈ news, u.oneCell' = true)
    (h63 : n + m ≤ maxLen) (hbytes : (n + m) * bytes ≤ 140737488355328) (hbase : base ≤ w.heap.size) :
    ∃ v' w', (Builtin.append_ #[t, t] ty #[v, .slice (some a) m c]).run P w = .ok v' w' ∧ w'.ownsRow base e 1 v' (n + m) (xs ++ news) ∧ App n w v w' v' := by
  obtain ⟨v', w', hr, h2, h3, _, h5⟩ := run_append_own_at (P := P) w base t ty e i z 1 bytes ht hi hz hsize hby hzs (by omega) v n xs hown a m c news (by omega) hnews h1 h63 hbytes hbase
  refine ⟨v', w', hr, h2, h3, ?_, ?_⟩
  · rcases h5 with h5 | h5
    · exact .inl h5
    · exact .inr ⟨_, h5, Nat.le_refl _⟩
  · intro g hg j hj
    have hsmall : n + m ≤ 9223372036854775807 := by simp only [maxLen] at h63; omega
    rcases hown.2 with ⟨rfl, _⟩ | ⟨g', cap, cur, rfl, hbg, hgg, hnc, hcm, hcs, htake⟩
    · simp [Value.ownBlock] at hg
    · simp only [Value.ownBlock, Option.some.injEq] at hg
      subst hg
      by_cases hroom : n + m ≤ cap
      · have hr2 := run_append_room (P := P) w t ty e i ht hi g' n cap cur hgg a m c news (by rw [hsize]; omega) hnews h1 hroom (by rw [hsize]; omega)
        rw [hr2] at hr
        simp only [Result.ok.injEq] at hr
        rw [← hr.2, List.append_assoc, hsize, Nat.mul_one]
        exact cell_setRow_take w g' j n cur e hgg _ (by omega) hj
      · have holds : ∀ j u, xs[j]? = some u → w.cell? ((⟨g', 0, none⟩ : Addr).add j) = some u := hown.cells (g := g') rfl
        have hr2 := run_append_grow (P := P) w t ty e i z ht hi hz ⟨g', 0, none⟩ n cap xs (by rw [hsize]; exact hown.1) holds a m c news (by rw [hsize]; omega) hnews (by omega) (by omega) (growslice_fits (by omega) (by rw [hby]; exact hbytes))
        rw [hr2] at hr
        simp only [Result.ok.injEq] at hr
        rw [← hr.2]
        exact World.cell?_of_block (heap_alloc_old w.drew _ g' (Array.getElem?_eq_some_iff.1 hgg).1)

theorem run_append_app_string (base : Nat) (t u ty e : TypeId) (i : TypeInfo) (ht : P.underlying t = some (.slice e)) (hu : P.underlying u = some .string) (hi : P.info? e = some i) (hz : i.zero = some (.int .u8 0))
    (hsize : i.size = 1) (hby : i.bytes = 1)
    (v : Value) (n : Nat) (xs : List Value) (hown : w.ownsRow base e 1 v n xs) (s : ByteArray)
    (h63 : n + s.size ≤ maxLen) (hbytes : n + s.size ≤ 140737488355328) (hbase : base ≤ w.heap.size) :
    ∃ v' w', (Builtin.append_ #[t, u] ty #[v, .string s]).run P w = .ok v' w' ∧ w'.ownsRow base e 1 v' (n + s.size) (xs ++ Lib.strCells s) ∧ App n w v w' v' := by
  obtain ⟨v', w', hr, h2, h3, h4⟩ := Lib.run_append_own_string (P := P) w base t u ty e i ht hu hi hz hsize hby v n xs hown s h63 hbytes hbase
  have hsmall : n + s.size ≤ 9223372036854775807 := by simp only [maxLen] at h63; omega
  refine ⟨v', w', hr, h2, h3, ?_, ?_⟩
  · rcases hown.2 with ⟨rfl, rfl⟩ | ⟨g', cap, cur, rfl, hbg, hgg, hnc, hcm, hcs, htake⟩
    · by_cases hm : s.size = 0
      · rw [h4.2 ⟨rfl, hm⟩]; exact .inl rfl
      · have hr2 := run_append_nil_string (P := P) w t u ty e i (.int .u8 0) ht hu hi hz s (by omega) (by omega) (by rw [hby]; omega)
        rw [hr2] at hr
        simp only [Result.ok.injEq] at hr
        rw [← hr.1]
        exact .inr ⟨_, rfl, Nat.le_refl _⟩
    · by_cases hroom : n + s.size ≤ cap
      · have hr2 := Lib.run_append_room_string (P := P) w t u ty e i ht hu hi hsize g' n cap cur hgg s hroom (by omega)
        rw [hr2] at hr
        simp only [Result.ok.injEq] at hr
        rw [← hr.1]
        exact .inl rfl
      · have holds : ∀ j u, xs[j]? = some u → w.cell? ((⟨g', 0, none⟩ : Addr).add j) = some u := hown.cells (g := g') rfl
        have hr2 := Lib.run_append_grow_string (P := P) w t u ty e i (.int .u8 0) ht hu hi hz ⟨g', 0, none⟩ n cap xs (by rw [hsize]; exact hown.1) holds s (by omega) (by omega) (by rw [hby]; exact growslice_fits (by omega) (by omega))
        rw [hr2] at hr
        simp only [Result.ok.injEq] at hr
        rw [← hr.1]
        exact .inr ⟨_, rfl, Nat.le_refl _⟩
  · intro g hg j hj
    rcases hown.2 with ⟨rfl, _⟩ | ⟨g', cap, cur, rfl, hbg, hgg, hnc, hcm, hcs, htake⟩
    · simp [Value.ownBlock] at hg
    · simp only [Value.ownBlock, Option.some.injEq] at hg
      subst hg
      by_cases hroom : n + s.size ≤ cap
      · have hr2 := Lib.run_append_room_string (P := P) w t u ty e i ht hu hi hsize g' n cap cur hgg s hroom (by omega)
        rw [hr2] at hr
        simp only [Result.ok.injEq] at hr
        rw [← hr.2, List.append_assoc]
        exact cell_setRow_take w g' j n cur e hgg _ (by omega) hj
      · have holds : ∀ j u, xs[j]? = some u → w.cell? ((⟨g', 0, none⟩ : Addr).add j) = some u := hown.cells (g := g') rfl
        have hr2 := Lib.run_append_grow_string (P := P) w t u ty e i (.int .u8 0) ht hu hi hz ⟨g', 0, none⟩ n cap xs (by rw [hsize]; exact hown.1) holds s (by omega) (by omega) (by rw [hby]; exact growslice_fits (by omega) (by omega))
        rw [hr2] at hr
        simp only [Result.ok.injEq] at hr
        rw [← hr.2]
        exact World.cell?_of_block (heap_alloc_old w.drew _ g' (Array.getElem?_eq_some_iff.1 hgg).1)

/-- At the operation: a slice's elements. -/
theorem wpList_append_app {ops : Array Oper} {rest : List Oper} {o : Oper} {a : Act} {Q : Exit → Act → World → Prop} (hgd : o.guard = none) (s x : Operand) (t : TypeId)
    (ho : o.op = .call { callee := .builtin .append, args := #[s, x], argTypes := #[t, t] })
    (base : Nat) (e : TypeId) (i : TypeInfo) (z : Value) (bytes : Nat) (ht : P.underlying t = some (.slice e)) (hi : P.info? e = some i) (hz : i.zero = some z)
    (hsize : i.size = 1) (hby : i.bytes = bytes) (hzs : z.cells.size = 1)
    (v : Value) (n : Nat) (xs : List Value) (hs : a.eval s = v) (hown : w.ownsRow base e 1 v n xs)
    (ad : Addr) (m c : Nat) (news : List Value) (hx : a.eval x = .slice (some ad) m c) (hl : news.length = m) (hnews : ∀ j u, news[j]? = some u → w.cell? (ad.add j) = some u) (h1 : ∀ u ∈ news, u.oneCell' = true)
    (h63 : n + m ≤ maxLen) (hbytes : (n + m) * bytes ≤ 140737488355328) (hbase : base ≤ w.heap.size)
    (h : ∀ v' w', w'.ownsRow base e 1 v' (n + m) (xs ++ news) → App n w v w' v' → wpList P ops Q rest (a.put o.dst v') w') : wpList P ops Q (o :: rest) a w := by
  refine wpList_plain hgd fun K hK => ?_
  obtain ⟨v', w', hr, h2, h3⟩ := run_append_app (P := P) w base t o.type e i z bytes ht hi hz hsize hby hzs v n xs hown ad m c news hl hnews h1 h63 hbytes hbase
  unfold Oper.wp execOp
  simp only [ho, resolve, invoke, builtin, Sem.run_bind, Sem.run_pure, Result.andThen_ok, List.map_toArray, List.map_cons, List.map_nil, hs, hx, hr]
  exact hK _ _ (h v' w' h2 h3)

/-- At the operation: a string's bytes. -/
theorem wpList_append_app_string {ops : Array Oper} {rest : List Oper} {o : Oper} {a : Act} {Q : Exit → Act → World → Prop} (hgd : o.guard = none) (sl x : Operand) (t u : TypeId)
    (ho : o.op = .call { callee := .builtin .append, args := #[sl, x], argTypes := #[t, u] })
    (base : Nat) (e : TypeId) (i : TypeInfo) (ht : P.underlying t = some (.slice e)) (hu : P.underlying u = some .string) (hi : P.info? e = some i) (hz : i.zero = some (.int .u8 0))
    (hsize : i.size = 1) (hby : i.bytes = 1)
    (v : Value) (n : Nat) (xs : List Value) (hs : a.eval sl = v) (hown : w.ownsRow base e 1 v n xs) (s : ByteArray) (hx : a.eval x = .string s)
    (h63 : n + s.size ≤ maxLen) (hbytes : n + s.size ≤ 140737488355328) (hbase : base ≤ w.heap.size)
    (h : ∀ v' w', w'.ownsRow base e 1 v' (n + s.size) (xs ++ Lib.strCells s) → App n w v w' v' → wpList P ops Q rest (a.put o.dst v') w') : wpList P ops Q (o :: rest) a w := by
  refine wpList_plain hgd fun K hK => ?_
  obtain ⟨v', w', hr, h2, h3⟩ := run_append_app_string (P := P) w base t u o.type e i ht hu hi hz hsize hby v n xs hown s h63 hbytes hbase
  unfold Oper.wp execOp
  simp only [ho, resolve, invoke, builtin, Sem.run_bind, Sem.run_pure, Result.andThen_ok, List.map_toArray, List.map_cons, List.map_nil, hs, hx, hr]
  exact hK _ _ (h v' w' h2 h3)

end
end Go.Proofs.YbulkcwtaDoor
