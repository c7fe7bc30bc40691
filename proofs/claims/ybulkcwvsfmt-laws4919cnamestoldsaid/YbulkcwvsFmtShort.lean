import Derived.Test.YbulkcwvsFmtModel
import Derived.Test.YbulkcwvsFmtErrorf
namespace Go.Proofs.YbulkcwvsFmt
open Go.RowKit
open Go.Extern.Stop Go.Stop Go.Extern

theorem run_allocH (w : World) : (Instr.alloc 141 true (.tuple #[])).run Ybaf.prog w = .ok (.pointer (some ⟨w.heap.size, 0, none⟩)) (w.alloc (.cells zH.cells 141)) := by
  have hz := zeroH w
  simp [Instr.alloc, hz, newVar, newRow]

theorem info141 : (Ybaf.prog.info? 141).map (·.size) = some 16 := by kernel_rfl

theorem Below.row {B : Nat} {a w : World} (h : Below B a w) {g : Nat} (hg : B ≤ g) (cs : Array Value) : Below B a (w.setRow g cs) :=
  ⟨h.os, h.tape, h.output, by simpa [World.setRow] using h.size, fun b hb => by
    rw [← h.block b hb]
    simp only [World.setRow]
    rw [Array.getElem?_modify, if_neg (by omega)]⟩

theorem cell_new (w : World) (cs : Array Value) (t : TypeId) (j : Nat) : (w.alloc (.cells cs t)).cell? ⟨w.heap.size, j, none⟩ = cs[j]? := by
  simp

/-- A new variable of the kind Holding, set to zero. -/
theorem wpList_newH (w : World) {ops : Array Oper} {rest : List Oper} {o1 o2 : Oper} {a : Act} {Q : Exit → Act → World → Prop}
    (hg1 : o1.guard = none) (hg2 : o2.guard = none) (d : Nat) (y : Operand) (hd : o1.dst = some d) (hd2 : o2.dst = none) (ho1 : o1.op = .alloc 141) (ho2 : o2.op = .store 141 (.tmp d) y)
    (hx : ∀ v, (a.put (some d) v).eval (.tmp d) = v) (hy : ∀ v, (a.put (some d) v).eval y = zH)
    (hK : ∀ w', Below w.heap.size w w' → wpList Ybaf.prog ops Q rest (a.put (some d) (.pointer (some ⟨w.heap.size, 0, none⟩))) w') :
    wpList Ybaf.prog ops Q (o1 :: o2 :: rest) a w := by
  refine wpList_plain hg1 fun K1 hK1 => ?_
  unfold Oper.wp
  simp only [execOp, ho1, run_allocH, Sem.run_bind, Result.andThen_ok]
  refine hK1 _ _ ?_
  rw [hd]
  refine wpList_store_row hg2 141 (.tmp d) y ho2 w.heap.size _ (hx _) (hy _) 141 zH.cells (heap_alloc_new w _) info141 rfl (by kernel_rfl) ?_
  rw [hd2]
  exact hK _ (Below.row ((Below.refl _ w).alloc (Nat.le_refl _) _) (Nat.le_refl _) _)

set_option maxRecDepth 100000 in
set_option maxHeartbeats 2000000 in
theorem short_any (F : Interp) (pb G : Nat) (rows : List (Option Addr × List ByteArray)) (mo : Option Nat) (hs : List ByteArray) (self : ByteArray) (whole : Bool) (w : World) (hF : F.answers w.tape)
    (hg : Grp w G rows) (hold : HoldsKeys w mo hs) (hp : w.cell? ⟨pb, 1, none⟩ = some (.string self)) (hn : rows.length ≤ 256) :
    Calls Ybaf.prog 21 #[.pointer (some ⟨pb, 0, none⟩), .slice (some ⟨G, 0, none⟩) rows.length rows.length, .map mo, .bool whole] w fun e w' =>
      (∃ v, e = .returned v ∧ ((v = .nilIface ∧ madeTo hs self whole rows rows.length = true) ∨ (∃ x, v = .iface 148 x ∧ madeTo hs self whole rows rows.length = false))) ∧ Below w.heap.size w w' := by
  go_enter Ybaf.func21, Ybaf.ntmps21
  go_wp2
  go_loopw [19] (fun i wr => ∃ k : Nat, k ≤ rows.length ∧ i = .int .i64 k ∧ Hid (madeTo hs self whole rows k = true) ∧ Below w.heap.size w wr) (fun i _ => rows.length - (intOf i).toNat)
  case atStart => exact ⟨0, Nat.zero_le _, rfl, rfl, Below.refl _ _⟩
  case round =>
    obtain ⟨i, hi, rfl, hmade, hb⟩ := hrel
    by_cases hlt : i < rows.length
    · obtain ⟨a, l, hrow0, hcell, hr, hl, hsz⟩ := (hg.below hb).row i hlt
      have hrow : Hid _ := hrow0
      clear hrow0
      go_wp2
      go_loopw [11, 26] (fun x j ws => ∃ k : Nat, k ≤ l.length ∧ j = .int .i64 k ∧ x = .int .i64 (tolds hs self (l.take k) : Nat) ∧ Below w.heap.size w ws ∧ Below wr.heap.size wr ws) (fun _ j _ => l.length - (intOf j).toNat)
      case atStart => exact ⟨0, Nat.zero_le _, rfl, rfl, hb, Below.refl _ _⟩
      case round =>
        obtain ⟨j, hj, rfl, rfl, hb1, hb2⟩ := hrel
        have hcnt := tolds_le hs self (l.take j)
        rw [List.length_take] at hcnt
        have hcnt2 : tolds hs self (l.take j) ≤ 256 := by omega
        clear hcnt
        by_cases hlt2 : j < l.length
        · obtain ⟨b, o, hx, hc1⟩ := (hr.below hb2).at hlt2
          cases hx
          have HT : Hid _ := take_snoc l j hlt2
          have hsj : l[j].size ≤ maxLen := by have := hsz l[j] (List.getElem_mem hlt2); unfold maxLen; omega
          generalize l[j] = s at *
          have HE0 : Hid (hit hs self s = false → tolds hs self (l.take (j + 1)) = tolds hs self (l.take j)) := fun h => by rw [HT.out, tolds_miss _ _ _ _ h]
          have HE1 : Hid (hit hs self s = true → tolds hs self (l.take (j + 1)) = tolds hs self (l.take j) + 1) := fun h => by rw [HT.out, tolds_hit _ _ _ _ h]
          generalize tolds hs self (l.take j) = c at *
          have hlk := (hold.below hb1).look s hsj
          have hself := (hb1.cell (World.block_lt_of_cell? w _ hp)).trans hp
          cases hmem : memB hs s
          · rw [hmem] at hlk
            cases he : s.toList == self.toList
            · have HI : Hid (tolds hs self (l.take (j + 1)) = c) := HE0.out (hit_none he hmem)
              clear hmem
              go_wp2_with (first | (refine wpList_newH _ rfl rfl 14 (.tmp 34) rfl rfl rfl rfl (fun _ => rfl) (fun _ => rfl) ?_; intro w2 hb3; have hself2 := (hb3.cell (World.block_lt_of_cell? _ _ hself)).trans hself; clear hself) | fail)
              exact ⟨⟨j + 1, by omega, by go_num, by rw [HI.out], hb1.trans (hb3.mono hb1.size), hb2.trans (hb3.mono hb2.size)⟩, by simp [intOf]; omega⟩
            · have HI : Hid (tolds hs self (l.take (j + 1)) = c + 1) := HE1.out (hit_self he)
              clear hmem
              go_wp2_with (first | (refine wpList_newH _ rfl rfl 14 (.tmp 34) rfl rfl rfl rfl (fun _ => rfl) (fun _ => rfl) ?_; intro w2 hb3; have hself2 := (hb3.cell (World.block_lt_of_cell? _ _ hself)).trans hself; clear hself) | fail)
              exact ⟨⟨j + 1, by omega, by go_num, by rw [HI.out]; go_num, hb1.trans (hb3.mono hb1.size), hb2.trans (hb3.mono hb2.size)⟩, by simp [intOf]; omega⟩
          · rw [hmem] at hlk
            have HI : Hid (tolds hs self (l.take (j + 1)) = c + 1) := HE1.out (by simp [hit, hmem])
            clear hmem
            go_wp2_with (first | (refine wpList_newH _ rfl rfl 14 (.tmp 34) rfl rfl rfl rfl (fun _ => rfl) (fun _ => rfl) ?_; intro w2 hb3; have hself2 := (hb3.cell (World.block_lt_of_cell? _ _ hself)).trans hself; clear hself) | fail)
            exact ⟨⟨j + 1, by omega, by go_num, by rw [HI.out]; go_num, hb1.trans (hb3.mono hb1.size), hb2.trans (hb3.mono hb2.size)⟩, by simp [intOf]; omega⟩
        · obtain rfl : j = l.length := by omega
          have hfull : l.take l.length = l := List.take_length
          rw [hfull] at hcnt2 ⊢
          clear hfull
          have hr2 := hr.below hb2
          have H40 : Hid _ := majority_any a l.length l.length wr (by omega)
          have H41 : Hid _ := groupName_any a l l.length wr hr2 hl (Nat.le_refl _) hsz
          by_cases hN : need whole i l.length ≤ tolds hs self l
          · have H2 : Hid (madeTo hs self whole rows (i + 1) = true) := madeTo_step hmade.out hrow.out hN
            generalize tolds hs self l = c at *
            unfold need at hN
            cases whole
            · simp at hN
              go_wp2_with (go_at_call 40; refine Calls.mono (Hid.out H40) ?_; rintro e w3 ⟨rfl, rfl⟩)
              exact ⟨⟨i + 1, by omega, by go_num, H2, hb1⟩, by simp [intOf]; omega⟩
            · by_cases hi0 : i = 0
              · have hb0 : (((i : Int) == 0) : Bool) = true := beq_iff_eq.2 (by omega)
                simp [hi0] at hN
                go_wp2_with (go_at_call 40; refine Calls.mono (Hid.out H40) ?_; rintro e w3 ⟨rfl, rfl⟩)
                exact ⟨⟨i + 1, by omega, by go_num, H2, hb1⟩, by simp [intOf]; omega⟩
              · have hb0 : (((i : Int) == 0) : Bool) = false := beq_eq_false_iff_ne.2 (by omega)
                simp [hi0] at hN
                go_wp2_with (go_at_call 40; refine Calls.mono (Hid.out H40) ?_; rintro e w3 ⟨rfl, rfl⟩)
                exact ⟨⟨i + 1, by omega, by go_num, H2, hb1⟩, by simp [intOf]; omega⟩
          · have H2 : Hid (madeTo hs self whole rows rows.length = false) := madeTo_false hrow.out hN _ hlt
            generalize tolds hs self l = c at *
            unfold need at hN
            cases whole
            · simp at hN
              go_wp2_with (first | (go_at_call 40; refine Calls.mono (Hid.out H40) ?_; rintro e w3 ⟨rfl, rfl⟩) | (go_at_call 41; refine Calls.mono (Hid.out H41) ?_; rintro e w4 ⟨nm, rfl, hb4⟩) | fail)
              have hb5 : Below w.heap.size w w4 := hb1.trans (hb4.mono hb1.size)
              refine (errorf_any F _ _ _ nm w4.heap.size _ ?_ (cell_new ..) (cell_new ..) (cell_new ..) (cell_new ..)).mono ?_
              · have ht := (hb5.alloc hb5.size (.cells #[] 20)).tape
                have ht2 := hb5.tape
                simp at ht ht2 ⊢
                rw [ht2]
                exact hF
              · rintro e w6 ⟨rfl, hb6⟩
                have hb7 : Below w.heap.size w w6 := (hb5.alloc hb5.size _).trans (hb6.mono (by have := hb5.size; simp; omega))
                clear hb6
                go_wp2
                go_ret
                exact ⟨⟨_, rfl, .inr ⟨_, rfl, H2.out⟩⟩, hb7⟩
            · by_cases hi0 : i = 0
              · have hb0 : (((i : Int) == 0) : Bool) = true := beq_iff_eq.2 (by omega)
                simp [hi0] at hN
                go_wp2_with (first | (go_at_call 40; refine Calls.mono (Hid.out H40) ?_; rintro e w3 ⟨rfl, rfl⟩) | (go_at_call 41; refine Calls.mono (Hid.out H41) ?_; rintro e w4 ⟨nm, rfl, hb4⟩) | fail)
                have hb5 : Below w.heap.size w w4 := hb1.trans (hb4.mono hb1.size)
                refine (errorf_any F _ _ _ nm w4.heap.size _ ?_ (cell_new ..) (cell_new ..) (cell_new ..) (cell_new ..)).mono ?_
                · have ht := (hb5.alloc hb5.size (.cells #[] 20)).tape
                  have ht2 := hb5.tape
                  simp at ht ht2 ⊢
                  rw [ht2]
                  exact hF
                · rintro e w6 ⟨rfl, hb6⟩
                  have hb7 : Below w.heap.size w w6 := (hb5.alloc hb5.size _).trans (hb6.mono (by have := hb5.size; simp; omega))
                  clear hb6
                  go_wp2
                  go_ret
                  exact ⟨⟨_, rfl, .inr ⟨_, rfl, H2.out⟩⟩, hb7⟩
              · have hb0 : (((i : Int) == 0) : Bool) = false := beq_eq_false_iff_ne.2 (by omega)
                simp [hi0] at hN
                go_wp2_with (first | (go_at_call 40; refine Calls.mono (Hid.out H40) ?_; rintro e w3 ⟨rfl, rfl⟩) | (go_at_call 41; refine Calls.mono (Hid.out H41) ?_; rintro e w4 ⟨nm, rfl, hb4⟩) | fail)
                have hb5 : Below w.heap.size w w4 := hb1.trans (hb4.mono hb1.size)
                refine (errorf_any F _ _ _ nm w4.heap.size _ ?_ (cell_new ..) (cell_new ..) (cell_new ..) (cell_new ..)).mono ?_
                · have ht := (hb5.alloc hb5.size (.cells #[] 20)).tape
                  have ht2 := hb5.tape
                  simp at ht ht2 ⊢
                  rw [ht2]
                  exact hF
                · rintro e w6 ⟨rfl, hb6⟩
                  have hb7 : Below w.heap.size w w6 := (hb5.alloc hb5.size _).trans (hb6.mono (by have := hb5.size; simp; omega))
                  clear hb6
                  go_wp2
                  go_ret
                  exact ⟨⟨_, rfl, .inr ⟨_, rfl, H2.out⟩⟩, hb7⟩
    · have H2 : Hid (madeTo hs self whole rows rows.length = true) := by
        obtain rfl : i = rows.length := by omega
        exact hmade
      go_wp2
      go_ret
      exact ⟨⟨_, rfl, .inl ⟨rfl, H2.out⟩⟩, hb⟩
end Go.Proofs.YbulkcwvsFmt
