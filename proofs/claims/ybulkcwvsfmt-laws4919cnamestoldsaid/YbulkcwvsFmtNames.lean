import Derived.Test.YbulkcwvsFmtCheck
import Derived.Laws.Cover3
namespace Go.Proofs.YbulkcwvsFmt
open Go.RowKit
open Go.Extern.Stop Go.Stop Go.Extern

/-- Block b is a row of the cells cs. -/
def RowAt (w : World) (b : Nat) (e : TypeId) (cs : List Value) : Prop := w.heap[b]? = some (.cells cs.toArray e (0, 0))

section
variable {w w' : World} {b : Nat} {e : TypeId} {cs : List Value}
theorem RowAt.cell (h : RowAt w b e cs) (j : Nat) : w.cell? ⟨b, j, none⟩ = cs[j]? := by
  unfold RowAt at h
  simp [World.cell?, h]
theorem RowAt.frozen (h : RowAt w b e cs) (j : Nat) : w.frozen? ⟨b, j, none⟩ = false := by
  unfold RowAt at h
  simp [World.frozen?, h]
theorem RowAt.set (h : RowAt w b e cs) (j : Nat) (v : Value) : RowAt (w.setCell ⟨b, j, none⟩ v) b e (cs.set j v) := by
  unfold RowAt at *
  rw [heap_setCell_same w b j _ e v h]
  simp
theorem RowAt.same (h : RowAt w b e cs) (hh : w'.heap[b]? = w.heap[b]?) : RowAt w' b e cs := hh.trans h
theorem RowAt.lt (h : RowAt w b e cs) : b < w.heap.size := (Array.getElem?_eq_some_iff.1 h).1
end

/-- 'make([]T, n)'. -/
theorem wpList_make_row {P : Program} (w : World) {ops : Array Oper} {rest : List Oper} {o : Oper} {a : Act} {Q : Exit → Act → World → Prop}
    (hg : o.guard = none) (l : Operand) (t : TypeId) (hop : o.op = Op.makeSlice t l l)
    (e : TypeId) (i : TypeInfo) (z : Value) (h1 : P.underlying t = some (.slice e)) (h2 : P.info? e = some i) (h3 : i.zero = some z) (h4 : i.size = 1) (h5 : z.cells = #[z])
    (n : Nat) (hl : a.eval l = .int .i64 n) (b2 : i.bytes * n ≤ 281474976710656) (b3 : n ≤ maxLen)
    (hK : ∀ w', RowAt w' w.heap.size e (List.replicate n z) → Below w.heap.size w w' → w'.heap.size = w.heap.size + 1 → wpList P ops Q rest (a.put o.dst (.slice (some ⟨w.heap.size, 0, none⟩) n n)) w') :
    wpList P ops Q (o :: rest) a w := by
  refine wpList_plain hg fun K hK' => ?_
  have h63 : (n : Int) ≤ 9223372036854775807 := by
    have h := b3
    simp [maxLen] at h
    omega
  have hb' : (i.bytes : Int) * (n : Int) ≤ 281474976710656 := by
    have h : ((i.bytes * n : Nat) : Int) ≤ 281474976710656 := by omega
    rwa [Int.natCast_mul] at h
  have hr := run_make (P := P) w t e i z h1 h2 h3 .i64 .i64 n n (by omega) (by omega) hb' h63
  simp only [Int.toNat_natCast, h4, Nat.mul_one] at hr
  have hmc : madeCells z.cells n = Array.replicate n z := by
    rw [h5]
    apply Array.ext
    · simp [madeCells]
    · intro j h1 h2
      simp [madeCells, Nat.mod_one]
  unfold Oper.wp
  simp [execOp, hop, hl, hr, Result.andThen]
  refine hK' _ _ (hK _ ?_ ((Below.refl _ w).alloc (Nat.le_refl _) _) (by simp))
  unfold RowAt
  rw [heap_alloc_new, hmc]
  simp

theorem info9 : (Ybaf.prog.info? 9).map (fun i => (i.zero, i.size, i.bytes)) = some (some (.string ByteArray.empty), 1, 16) := by kernel_rfl
theorem info63 : (Ybaf.prog.info? 63).map (fun i => (i.zero, i.size, i.bytes)) = some (some (.slice none 0 0), 1, 24) := by kernel_rfl
theorem parts {P : Program} {t : TypeId} {z : Value} {n m : Nat} (h : (P.info? t).map (fun i => (i.zero, i.size, i.bytes)) = some (some z, n, m)) : ∃ i, P.info? t = some i ∧ i.zero = some z ∧ i.size = n ∧ i.bytes = m := by
  obtain ⟨i, hi, hz⟩ := Option.map_eq_some_iff.1 h
  simp at hz
  exact ⟨i, hi, hz.1, hz.2.1, hz.2.2⟩

/-- A slice of bytes. -/
structure BRow (w : World) (a : Option Addr) (l : List UInt8) : Prop where
  isNil : a = none → l = []
  cell : ∀ x, a = some x → ∀ j (h : j < l.length), w.cell? (x.add j) = some (.int .u8 (l[j].toNat : Nat))

theorem BRow.at {w : World} {a0 : Option Addr} {l : List UInt8} (h : BRow w a0 l) {j : Nat} (hj : j < l.length) : ∃ b o, ∃ x : Nat, a0 = some ⟨b, o, none⟩ ∧ w.cell? ⟨b, o + j, none⟩ = some (.int .u8 x) ∧ x ≤ 255 := by
  cases a0 with
  | none => have := h.isNil rfl; subst this; simp at hj
  | some x =>
    have c0 := h.cell x rfl 0 (by omega)
    have cj := h.cell x rfl j hj
    obtain ⟨b, o, spot⟩ := x
    have hspot : spot = none := by simpa [Addr.add] using World.cell?_spot c0
    subst hspot
    rw [Addr.add_lit] at cj
    have := l[j].toNat_lt
    exact ⟨b, o, _, rfl, cj, by omega⟩

theorem BRow.below {w w' : World} {a0 : Option Addr} {l : List UInt8} (h : BRow w a0 l) (hb : Below w.heap.size w w') : BRow w' a0 l :=
  ⟨h.isNil, fun x hx j hj => by rw [hb.cell (World.block_lt_of_cell? w _ (h.cell x hx j hj))]; exact h.cell x hx j hj⟩

/-- A slice of slices of bytes. -/
structure GRow (w : World) (a : Option Addr) (L : List (Option Addr × List UInt8 × Nat)) : Prop where
  isNil : a = none → L = []
  cell : ∀ x, a = some x → ∀ j (h : j < L.length), w.cell? (x.add j) = some (.slice L[j].1 L[j].2.1.length L[j].2.2)
  row : ∀ j (h : j < L.length), BRow w L[j].1 L[j].2.1

theorem GRow.below {w w' : World} {a0 : Option Addr} {L : List (Option Addr × List UInt8 × Nat)} (h : GRow w a0 L) (hb : Below w.heap.size w w') : GRow w' a0 L :=
  ⟨h.isNil, fun x hx j hj => by rw [hb.cell (World.block_lt_of_cell? w _ (h.cell x hx j hj))]; exact h.cell x hx j hj, fun j hj => (h.row j hj).below hb⟩

theorem GRow.at {w : World} {a0 : Option Addr} {L : List (Option Addr × List UInt8 × Nat)} (h : GRow w a0 L) {j : Nat} (hj : j < L.length) :
    ∃ b o, a0 = some ⟨b, o, none⟩ ∧ w.cell? ⟨b, o + j, none⟩ = some (.slice L[j].1 L[j].2.1.length L[j].2.2) := by
  cases a0 with
  | none => have := h.isNil rfl; subst this; simp at hj
  | some x =>
    have c0 := h.cell x rfl 0 (by omega)
    have cj := h.cell x rfl j hj
    obtain ⟨b, o, spot⟩ := x
    have hspot : spot = none := by simpa [Addr.add] using World.cell?_spot c0
    subst hspot
    rw [Addr.add_lit] at cj
    exact ⟨b, o, rfl, cj⟩

/-- Small strings in a block of their own. -/
structure Strs (w : World) (b n : Nat) (l : List ByteArray) : Prop where
  row : RowAt w b 9 (l.map Value.string)
  len : l.length = n
  size : ∀ s ∈ l, s.size ≤ 1

theorem Strs.made {w : World} {b n : Nat} (h : RowAt w b 9 (List.replicate n (.string ByteArray.empty))) : Strs w b n (List.replicate n ByteArray.empty) :=
  ⟨by simpa using h, by simp, fun s hs => by rw [List.eq_of_mem_replicate hs]; exact Nat.zero_le _⟩
theorem Strs.there {w : World} {b n : Nat} {l : List ByteArray} (h : Strs w b n l) {j : Nat} (hj : j < n) : ∃ y, w.cell? ⟨b, j, none⟩ = some y := by
  have hl := h.len
  exact ⟨.string l[j], by rw [h.row.cell]; simp [show j < l.length by omega]⟩
theorem Strs.set {w : World} {b n : Nat} {l : List ByteArray} (h : Strs w b n l) (j x : Nat) : Strs (w.setCell ⟨b, j, none⟩ (.string (nm x))) b n (l.set j (nm x)) := by
  refine ⟨by rw [List.map_set]; exact h.row.set j _, by simp [h.len], fun s hs => ?_⟩
  rcases List.mem_or_eq_of_mem_set hs with h1 | h1
  · exact h.size s h1
  · rw [h1, nm_size]; exact Nat.le_refl _
theorem Strs.srow {w : World} {b n : Nat} {l : List ByteArray} (h : Strs w b n l) : SRow w (some ⟨b, 0, none⟩) l :=
  ⟨(fun h => by cases h), (fun x hx j hj => by cases hx; rw [Addr.add_lit, Nat.zero_add, h.row.cell]; simp [hj])⟩

/-- The groups, half built. -/
structure Built (w : World) (n : Nat) (rows : List (Option Addr × List ByteArray)) (wr : World) : Prop where
  len : rows.length = n
  own : RowAt wr w.heap.size 63 (rows.map fun r => .slice r.1 r.2.length r.2.length)
  row : ∀ r ∈ rows, SRow wr r.1 r.2 ∧ r.2.length ≤ 256 ∧ (∀ s ∈ r.2, s.size ≤ 1) ∧ ∀ x, r.1 = some x → x.block ≠ w.heap.size
  below : Below w.heap.size w wr

theorem Built.made {w wr : World} {n : Nat} (h : RowAt wr w.heap.size 63 (List.replicate n (.slice none 0 0))) (hb : Below w.heap.size w wr) : Built w n (List.replicate n (none, [])) wr := by
  refine ⟨by simp, by simpa using h, fun r hr => ?_, hb⟩
  rw [List.eq_of_mem_replicate hr]
  exact ⟨⟨fun _ => rfl, fun x hx => by cases hx⟩, by simp, by simp, fun x hx => by cases hx⟩

theorem Built.next {w wr ws : World} {n : Nat} {rows : List (Option Addr × List ByteArray)} (h : Built w n rows wr) (hb : Below wr.heap.size wr ws) : Built w n rows ws :=
  ⟨h.len, h.own.same (hb.block _ h.own.lt), fun r hr => ⟨(h.row r hr).1.below hb, (h.row r hr).2⟩, h.below.trans (hb.mono h.below.size)⟩

theorem Built.there {w wr : World} {n : Nat} {rows : List (Option Addr × List ByteArray)} (h : Built w n rows wr) {j : Nat} (hj : j < n) : (∃ y, wr.cell? ⟨w.heap.size, j, none⟩ = some y) ∧ wr.frozen? ⟨w.heap.size, j, none⟩ = false := by
  have hl := h.len
  refine ⟨⟨.slice (rows[j]'(by omega)).1 (rows[j]'(by omega)).2.length (rows[j]'(by omega)).2.length, ?_⟩, h.own.frozen j⟩
  rw [h.own.cell]
  simp [show j < rows.length by omega]

theorem Built.set {w wr : World} {n : Nat} {rows : List (Option Addr × List ByteArray)} (h : Built w n rows wr) (j : Nat) {b m : Nat} {l : List ByteArray} (hs : Strs wr b m l) (hb : w.heap.size < b) (hm : m ≤ 256) :
    Built w n (rows.set j (some ⟨b, 0, none⟩, l)) (wr.setCell ⟨w.heap.size, j, none⟩ (.slice (some ⟨b, 0, none⟩) m m)) := by
  have hl := hs.len
  have keep : ∀ a (l : List ByteArray), SRow wr a l → (∀ x, a = some x → x.block ≠ w.heap.size) → SRow (wr.setCell ⟨w.heap.size, j, none⟩ (.slice (some ⟨b, 0, none⟩) m m)) a l := by
    intro a l hr hne
    refine ⟨hr.isNil, fun x hx i hi => ?_⟩
    rw [World.cell?_setCell_other]
    · exact hr.cell x hx i hi
    · intro he
      have := congrArg Addr.block he
      rw [add_block] at this
      exact hne x hx this.symm
  refine ⟨by simp [h.len], ?_, fun r hr => ?_, h.below.setCell (Nat.le_refl _) _⟩
  · rw [List.map_set, hl]; exact h.own.set j _
  · rcases List.mem_or_eq_of_mem_set hr with h1 | h1
    · obtain ⟨h2, h3, h4, h5⟩ := h.row r h1
      exact ⟨keep _ _ h2 h5, h3, h4, h5⟩
    · rw [h1]
      exact ⟨keep _ _ hs.srow (fun x hx => by cases hx; show b ≠ _; omega), by show l.length ≤ 256; omega, hs.size, fun x hx => by cases hx; show b ≠ _; omega⟩

theorem Built.grp {w wr : World} {n : Nat} {rows : List (Option Addr × List ByteArray)} (h : Built w n rows wr) : Grp wr w.heap.size rows := by
  refine ⟨fun j hj => ⟨rows[j].1, rows[j].2, by simp [List.getD, hj], ?_, ?_⟩⟩
  · rw [h.own.cell]; simp [hj]
  · obtain ⟨h1, h2, h3, _⟩ := h.row rows[j] (List.getElem_mem hj)
    exact ⟨h1, h2, h3⟩

set_option maxRecDepth 100000 in
set_option maxHeartbeats 4000000 in
theorem names_main (F : Interp) (a0 : Option Addr) (L : List (Option Addr × List UInt8 × Nat)) (c0 : Nat) (a1 : Option Addr) (hl : List UInt8) (c1 x : Nat) (whole : Bool) (w : World) (hF : F.answers w.tape)
    (hG : GRow w a0 L) (hR : BRow w a1 hl) (hn : L.length ≤ 256) (hm : hl.length ≤ 1024) (hx : x ≤ 255) :
    Calls Ybaf.prog 4 #[.slice a0 L.length c0, .slice a1 hl.length c1, .int .u8 x, .bool whole] w fun e w' => e = .returned (.bool true) ∧ Below w.heap.size w w' := by
  obtain ⟨i9, hi9, hz9, hs9, hb9⟩ := parts info9
  obtain ⟨i63, hi63, hz63, hs63, hb63⟩ := parts info63
  have t1 : ¬ (256 : Int) < (L.length : Int) := by omega
  have t2 : ¬ (1024 : Int) < (hl.length : Int) := by omega
  go_enter Ybaf.func4, Ybaf.ntmps4
  go_wp2
  go_loop [9] (fun i => ∃ k : Nat, k ≤ L.length ∧ i = .int .i64 k ∧ Hid (∀ j (h : j < L.length), j < k → L[j].2.1.length ≤ 256)) (fun i => L.length - (intOf i).toNat)
  case atStart => exact ⟨0, Nat.zero_le _, rfl, fun j _ h => by omega⟩
  case round =>
    obtain ⟨k, hk, rfl, hall⟩ := hrel
    by_cases hlt : k < L.length
    · obtain ⟨b, o, hx0, hc⟩ := hG.at hlt
      cases hx0
      by_cases h256 : L[k].2.1.length ≤ 256
      · have HA : Hid (∀ j (h : j < L.length), j < k + 1 → L[j].2.1.length ≤ 256) := by
          intro j h hj
          rcases Nat.lt_or_ge j k with h1 | h1
          · exact hall.out j h h1
          · obtain rfl : j = k := by omega
            exact h256
        generalize L[k].2.1.length = m at *
        generalize L[k].1 = q at *
        generalize L[k].2.2 = r at *
        have t3 : ¬ (256 : Int) < (m : Int) := by omega
        go_wp2
        exact ⟨⟨k + 1, by omega, by go_num, HA⟩, by simp [intOf]; omega⟩
      · generalize L[k].2.1.length = m at *
        generalize L[k].1 = q at *
        generalize L[k].2.2 = r at *
        have t3 : (256 : Int) < (m : Int) := by omega
        go_wp2
        go_ret
        exact ⟨rfl, Below.refl _ _⟩
    · have HA : Hid (∀ j (h : j < L.length), L[j].2.1.length ≤ 256) := fun j h => hall.out j h (by omega)
      clear hall
      go_wp2_with (at_make; refine wpList_make_row _ rfl (.tmp 37) 62 rfl 63 i63 (.slice none 0 0) Ybaf.underlying62 hi63 hz63 hs63 rfl L.length rfl (by rw [hb63]; omega) (by unfold maxLen; omega) ?_; intro w1 hown1 hb1 hsz1)
      have hbuilt := Built.made hown1 hb1
      clear hown1 hb1 hk hlt
      go_loopw [11] (fun i wr => ∃ (k : Nat) (rows : List (Option Addr × List ByteArray)), k ≤ L.length ∧ i = .int .i64 k ∧ Built w L.length rows wr ∧ w.heap.size < wr.heap.size) (fun i _ => L.length - (intOf i).toNat)
      case atStart => exact ⟨0, _, Nat.zero_le _, rfl, hbuilt, by omega⟩
      case round =>
        obtain ⟨k, rows, hk, rfl, hbu, hws⟩ := hrel
        by_cases hlt : k < L.length
        · have hG2 := hG.below hbu.below
          obtain ⟨b, o, hx0, hc⟩ := hG2.at hlt
          cases hx0
          have hrow := hG2.row k hlt
          have hlen := HA.out k hlt
          generalize L[k].2.1 = l at *
          generalize L[k].1 = q at *
          generalize L[k].2.2 = r at *
          cases q with
          | none =>
            have hnil : ∀ w, (binOp .eql 61 (.slice none l.length r) (.slice none 0 0)).run Ybaf.prog w = .ok (.bool true) w := fun w => Lib.run_eql_slice_nil w 61 5 none l.length r 0 0 Ybaf.underlying61
            go_wp2
            exact ⟨⟨k + 1, rows, by omega, by go_num, hbu, hws⟩, by simp [intOf]; omega⟩
          | some y =>
            have hnil : ∀ w, (binOp .eql 61 (.slice (some y) l.length r) (.slice none 0 0)).run Ybaf.prog w = .ok (.bool false) w := fun w => Lib.run_eql_slice_nil w 61 5 (some y) l.length r 0 0 Ybaf.underlying61
            go_wp2_with (at_make; refine wpList_make_row _ rfl (.tmp 54) 63 rfl 9 i9 (.string ByteArray.empty) Ybaf.underlying63 hi9 hz9 hs9 rfl l.length rfl (by rw [hb9]; omega) (by unfold maxLen; omega) ?_; intro w2 hown2 hb2 hsz2)
            have hst := Strs.made hown2
            clear hown2
            go_loopw [13] (fun j ws => ∃ (m : Nat) (ns : List ByteArray), m ≤ l.length ∧ j = .int .i64 m ∧ Strs ws wr.heap.size l.length ns ∧ Below wr.heap.size wr ws) (fun j _ => l.length - (intOf j).toNat)
            case atStart => exact ⟨0, _, Nat.zero_le _, rfl, hst, hb2⟩
            case round =>
              obtain ⟨m, ns, hm2, rfl, hst, hb3⟩ := hrel
              have hc3 := (hb3.cell (World.block_lt_of_cell? _ _ hc)).trans hc
              by_cases hlt3 : m < l.length
              · obtain ⟨b2, o2, v, hx2, hc2, hv⟩ := (hrow.below hb3).at hlt3
                cases hx2
                obtain ⟨y, hy⟩ := hst.there hlt3
                have hfr := hst.row.frozen m
                have HS : Hid _ := hst.set m v
                have HB : Hid _ := fun v => hb3.setCell (p := ⟨_, m, none⟩) (Nat.le_refl _) (.string (nm v))
                have H13 : Hid _ := name_any v wr hv
                clear hst
                go_wp2_with (first | (go_at_call 13; refine Calls.mono (Hid.out H13) ?_; rintro e w5 ⟨rfl, rfl⟩) | fail)
                exact ⟨⟨m + 1, _, by omega, by go_num, HS.out, HB.out v⟩, by simp [intOf]; omega⟩
              · have hbu2 := hbu.next hb3
                obtain ⟨⟨y2, hy2⟩, hfr2⟩ := hbu2.there hlt
                have HS : Hid _ := hbu2.set k hst hws hlen
                have hsz3 := hb3.size
                clear hst
                go_wp2
                exact ⟨⟨k + 1, _, by omega, by go_num, HS.out, by simp; omega⟩, by simp [intOf]; omega⟩
        · have hlen := hbu.len
          have hF2 : F.answers wr.tape := by rw [hbu.below.tape]; exact hF
          have H13 : Hid _ := name_any x wr hx
          have hgr := hbu.grp
          have hbw := hbu.below
          clear hbuilt hbu
          cases a1 with
          | none =>
            obtain rfl := hR.isNil rfl
            have hne : ∀ w, (binOp .neq 61 (.slice none 0 c1) (.slice none 0 0)).run Ybaf.prog w = .ok (.bool false) w := fun w => run_neq_slice_nil (P := Ybaf.prog) w 61 5 none 0 c1 Ybaf.underlying61
            have H14 := check_any F w.heap.size rows none [] 0 (nm x) whole wr hF2 hgr ⟨(fun _ => rfl), (fun x hx => by cases hx)⟩ (fun _ => rfl) (by simp) (by omega) (by simp)
            rw [hlen] at H14
            have H14' : Hid _ := H14
            clear H14 hgr hF2
            go_wp2_with (first | (go_at_call 13; refine Calls.mono (Hid.out H13) ?_; rintro e w5 ⟨rfl, rfl⟩) | (go_at_call 14; refine Calls.mono (Hid.out H14') ?_; rintro e w6 ⟨rfl, hb6⟩) | fail)
            go_ret
            exact ⟨rfl, hbw.trans (hb6.mono hbw.size)⟩
          | some y =>
            have hne : ∀ w, (binOp .neq 61 (.slice (some y) hl.length c1) (.slice none 0 0)).run Ybaf.prog w = .ok (.bool true) w := fun w => run_neq_slice_nil (P := Ybaf.prog) w 61 5 (some y) hl.length c1 Ybaf.underlying61
            have hRw := hR.below hbw
            go_wp2_with (at_make; refine wpList_make_row _ rfl (.tmp 83) 63 rfl 9 i9 (.string ByteArray.empty) Ybaf.underlying63 hi9 hz9 hs9 rfl hl.length rfl (by rw [hb9]; omega) (by unfold maxLen; omega) ?_; intro w2 hown2 hb2 hsz2)
            have hst := Strs.made hown2
            clear hown2 H13
            go_loopw [15] (fun j ws => ∃ (m : Nat) (ns : List ByteArray), m ≤ hl.length ∧ j = .int .i64 m ∧ Strs ws wr.heap.size hl.length ns ∧ Below wr.heap.size wr ws) (fun j _ => hl.length - (intOf j).toNat)
            case atStart => exact ⟨0, _, Nat.zero_le _, rfl, hst, hb2⟩
            case round =>
              obtain ⟨m, ns, hm2, rfl, hst, hb3⟩ := hrel
              by_cases hlt3 : m < hl.length
              · obtain ⟨b2, o2, v, hx2, hc2, hv⟩ := (hRw.below hb3).at hlt3
                cases hx2
                obtain ⟨y, hy⟩ := hst.there hlt3
                have hfr := hst.row.frozen m
                have HS : Hid _ := hst.set m v
                have HB : Hid _ := fun v => hb3.setCell (p := ⟨_, m, none⟩) (Nat.le_refl _) (.string (nm v))
                have H13 : Hid _ := name_any v wr hv
                clear hst
                go_wp2_with (first | (go_at_call 13; refine Calls.mono (Hid.out H13) ?_; rintro e w5 ⟨rfl, rfl⟩) | fail)
                exact ⟨⟨m + 1, _, by omega, by go_num, HS.out, HB.out v⟩, by simp [intOf]; omega⟩
              · have hbw2 := hbw.trans (hb3.mono hbw.size)
                have hF3 : F.answers wr.tape := by rw [hbw2.tape]; exact hF
                have H13 : Hid _ := name_any x wr hx
                have hnl := hst.len
                have H14 := check_any F w.heap.size rows _ ns hl.length (nm x) whole wr hF3 (hgr.below hb3) hst.srow (fun h => by cases h) hst.size (by omega) (by omega)
                rw [hlen, hnl] at H14
                have H14' : Hid _ := H14
                clear H14 hgr hF2 hF3 hst
                go_wp2_with (first | (go_at_call 13; refine Calls.mono (Hid.out H13) ?_; rintro e w5 ⟨rfl, rfl⟩) | (go_at_call 14; refine Calls.mono (Hid.out H14') ?_; rintro e w6 ⟨rfl, hb6⟩) | fail)
                go_ret
                exact ⟨rfl, hbw2.trans (hb6.mono hbw2.size)⟩

end Go.Proofs.YbulkcwvsFmt
