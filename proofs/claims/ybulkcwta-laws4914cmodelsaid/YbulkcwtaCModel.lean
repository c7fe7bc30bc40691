import Derived.Test.YbulkcwtaHolds
import Derived.Deep.QuietTactic
import Derived.BigQuiet
namespace Go.Proofs.Ybulkcwta
open Go.ChangeShapes Go.WideShapes Go.ChangeAt Go.RowKit

theorem belowN' {B : Nat} {a w : World} (h : Below B a w) (k : Nat) : Below B a (w.drewN k) := ⟨h.os, h.tape, h.output, h.size, h.block⟩

set_option maxHeartbeats 1000000 in
theorem cmodel_main (a0 : Option Addr) (n cap0 : Nat) (ss : List ByteArray) (a1 : Option Addr) (m cap1 : Nat) (qs : List ByteArray) (w : World) (hr : StrRow w a0 n ss) (hcap : a0 = none → cap0 = 0) (hq : StrRow w a1 m qs) (hn : n ≤ 1024) (hm : m ≤ 1024) :
    Calls Yba.prog 4 #[.slice a0 n cap0, .slice a1 m cap1] w fun e w' => e = .returned (.bool true) ∧ Below w.heap.size w w' := by
  obtain ⟨i, hi, hz0, hz1, hz2⟩ := info_parts Yba.info9
  have hml : m ≤ maxLen := by unfold maxLen; omega
  have t1 : ¬ (1024 : Int) < (n : Int) := by omega
  have t2 : ¬ (1024 : Int) < (m : Int) := by omega
  obtain ⟨B, hB⟩ : ∃ B, allB (ss.take n) (qs.take m) = B := ⟨_, rfl⟩
  have HB : Hid (allB (ss.take n) (qs.take m) = B) := hB
  clear hB
  go_enter Yba.func4, Yba.ntmps4
  go_wp2_with (first
    | (go_at_call 7; refine (build_any a0 n cap0 ss _ hr hcap (by omega)).mono ?_; rintro e w1 ⟨mo, L, rfl, hold1, hb1⟩; have hlen1 := hold1.len 3)
    | (at_make; refine wpList_make_full _ rfl (.tmp 25) (.tmp 25) 25 rfl w.heap.size 9 i (.string ByteArray.empty) 1 Yba.underlying25 hi hz0 hz1 _ _ _ _ m rfl rfl rfl rfl (by rw [hz2]; omega) hml hb1.size ?_; intro w2 hown2 hgr2)
    | (refine wpList_copy_full _ rfl (.tmp 27) (.tmp 28) 25 25 rfl w.heap.size 9 Yba.underlying25 Yba.size9 _ m m rfl _ hown2 a1 cap1 rfl (scells qs m) (scells_length qs m hq.len) hq.isNil ((hq.below (hb1.grown hgr2 hb1.size (fun k hk => by cases hk))).src) (scells_one qs m) ?_; intro w3 hown3 hgr3)
    | fail)
  have hb2 : Below w.heap.size w w2 := hb1.grown hgr2 hb1.size (fun k hk => by cases hk)
  have hb3 : Below w.heap.size w w3 := hb2.grown hgr3 hb2.size (fun k hk => by cases hk; exact hb1.size)
  have hr3 := hr.below hb3
  have hq3 := hq.below hb3
  have hg3 := StrRow.own hown3 hq.len hq.size
  have hold3 : HoldsKeys w3 mo (ss.take n) L := (hold1.kept hgr2 (fun b _ => by simp)).kept hgr3 (fun b hb e => by cases e; have := hold1.lt _ hb; omega)
  have hlen3 := hold3.len 3
  have hlq := hq.len
  clear hlen1 hown2 hown3 hgr2 hgr3 hold1 hb1 hb2 hr hq
  refine (has_any (.map mo) (ss.take n) _ m m qs w3 hg3 (by omega) hold3.look).mono ?_
  rintro e w4 ⟨rfl, rfl⟩
  rw [HB.out]
  go_wp2
  go_loop [9, 10] (fun v i => ∃ k : Nat, k ≤ m ∧ i = .int .i64 k ∧ v = .bool true ∧ Hid (allB (ss.take n) (qs.take k) = true)) (fun _ i => m - (intOf i).toNat)
  case atStart => exact ⟨0, Nat.zero_le _, rfl, rfl, rfl⟩
  case round =>
    obtain ⟨k, hk, rfl, rfl, hno⟩ := hrel
    by_cases hlt : k < m
    · obtain ⟨b, o, rfl, hc, hsz⟩ := hq3.at hlt
      have HT : Hid (qs.take (k + 1) = qs.take k ++ [qs.getD k ByteArray.empty]) := take_snoc qs _ k (by omega)
      generalize qs.getD k ByteArray.empty = t at *
      have h9 := cin_any a0 n cap0 ss t w4 hr3 (by omega)
      cases he : memB (ss.take n) t
      · have H2 : Hid (allB (ss.take n) (qs.take m) = false) := allB_take _ qs k m t (by omega) HT.out he
        obtain rfl : B = false := HB.out.symm.trans H2.out
        rw [he] at h9
        clear he
        have H9 : Hid _ := h9
        clear h9
        go_wp2_with (go_at_call 9; refine Calls.mono (Hid.out H9) ?_; rintro e w5 ⟨rfl, rfl⟩)
        go_loopw [11] (fun i ws => ∃ k : Nat, k ≤ m ∧ i = .int .i64 k ∧ (∀ p, ws.cell? p = w5.cell? p) ∧ Below w.heap.size w ws) (fun i _ => m - (intOf i).toNat)
        case atStart => exact ⟨0, Nat.zero_le _, rfl, fun _ => rfl, hb3⟩
        case round =>
          obtain ⟨k2, hk2, rfl, hsame, hbs⟩ := hrel
          by_cases hlt2 : k2 < m
          · obtain ⟨b, o, hx1, hc1, _⟩ := hq3.at hlt2
            cases hx1
            obtain ⟨b', o', hx2, hc2, _⟩ := hg3.at hlt2
            cases hx2
            rw [← hsame] at hc1 hc2; rw [Nat.zero_add] at hc2
            have HS : Hid _ := hsame
            clear hsame
            generalize qs.getD k2 ByteArray.empty = t2 at *
            go_wp2
            go_quiet (fail)
            go_wp2
            refine ⟨⟨k2 + 1, by omega, by go_num, fun p => by rw [← HS.out p]; simp, belowN' hbs _⟩, by simp [intOf]; omega⟩
          · go_wp2
            go_ret
            exact ⟨rfl, hbs⟩
      · have H2 : Hid (allB (ss.take n) (qs.take (k + 1)) = true) := by
          show _ = _
          rw [HT.out, allB_snoc, hno.out, he]
          rfl
        rw [he] at h9
        clear he
        have H9 : Hid _ := h9
        clear h9
        go_wp2_with (go_at_call 9; refine Calls.mono (Hid.out H9) ?_; rintro e w5 ⟨rfl, rfl⟩)
        exact ⟨⟨k + 1, by omega, by go_num, rfl, H2⟩, by simp [intOf]; omega⟩
    · obtain rfl : B = true := HB.out.symm.trans (by obtain rfl : k = m := by omega
                                                     exact hno.out)
      go_wp2
      go_loopw [11] (fun i ws => ∃ k : Nat, k ≤ m ∧ i = .int .i64 k ∧ (∀ p, ws.cell? p = w4.cell? p) ∧ Below w.heap.size w ws) (fun i _ => m - (intOf i).toNat)
      case atStart => exact ⟨0, Nat.zero_le _, rfl, fun _ => rfl, hb3⟩
      case round =>
        obtain ⟨k2, hk2, rfl, hsame, hbs⟩ := hrel
        by_cases hlt2 : k2 < m
        · obtain ⟨b, o, hx1, hc1, _⟩ := hq3.at hlt2
          cases hx1
          obtain ⟨b', o', hx2, hc2, _⟩ := hg3.at hlt2
          cases hx2
          rw [← hsame] at hc1 hc2; rw [Nat.zero_add] at hc2
          have HS : Hid _ := hsame
          clear hsame
          generalize qs.getD k2 ByteArray.empty = t2 at *
          go_wp2
          go_quiet (fail)
          go_wp2
          refine ⟨⟨k2 + 1, by omega, by go_num, fun p => by rw [← HS.out p]; simp, belowN' hbs _⟩, by simp [intOf]; omega⟩
        · go_wp2
          go_ret
          exact ⟨rfl, hbs⟩

end Go.Proofs.Ybulkcwta
