import Derived.Test.YbulkcwtaCin
import Derived.Maps.OwnOps
import Derived.Lib.SliceRun
import Derived.Lib.SlBytesConst
namespace Go.Proofs.Ybulkcwta
open Go.ChangeShapes Go.WideShapes Go.ChangeAt Go.RowKit

set_option maxHeartbeats 400000 in
theorem build_nil (w : World) : Calls Yba.prog 7 #[.slice none 0 0] w fun e w' => e = .returned (.map none) ∧ w' = w := by
  have hnil : ∀ w, (binOp .eql 25 (.slice none 0 0) (.slice none 0 0)).run Yba.prog w = .ok (.bool true) w := fun w => Lib.run_eql_slice_nil w 25 9 none 0 0 0 0 Yba.underlying25
  go_enter Yba.func7, Yba.ntmps7
  go_wp2
  go_ret
  exact ⟨rfl, rfl⟩

set_option maxHeartbeats 1000000 in
theorem build_some (x : Addr) (n cap : Nat) (ss : List ByteArray) (w : World) (hr : StrRow w (some x) n ss) (hn : n ≤ 1000000) :
    Calls Yba.prog 7 #[.slice (some x) n cap] w fun e w' => e = .returned (.map (some w.heap.size)) ∧ KeySet w' Yba.prog 9 w.heap.size n (ss.take n) ∧ Below w.heap.size w w' := by
  have hl := hr.len
  have hnil : ∀ w, (binOp .eql 25 (.slice (some x) n cap) (.slice none 0 0)).run Yba.prog w = .ok (.bool false) w := fun w => Lib.run_eql_slice_nil w 25 9 (some x) n cap 0 0 Yba.underlying25
  have hcv := fun (w : World) (C : Array Value) (n c : Nat) => Lib.run_convert_bytes_const (P := Yba.prog) w 33 5 C n c Yba.underlying33 Yba.underlying5
  have hmk : ∀ w, (Instr.makeMap 27 none).run Yba.prog w = .ok (.map (some w.heap.size)) (w.alloc (.map #[] 0)) := fun w => run_makeMap 27 w
  go_enter Yba.func7, Yba.ntmps7
  go_wp2
  go_loopw [4] (fun i w' => ∃ k : Nat, k ≤ n ∧ i = .int .i64 k ∧ KeySet w' Yba.prog 9 w.heap.size k (ss.take k) ∧ Below w.heap.size w w') (fun i _ => n - (intOf i).toNat)
  case atStart => exact ⟨0, Nat.zero_le _, rfl, keySet_made w _ _, (Below.refl _ _).alloc (Nat.le_refl _) _⟩
  case round =>
    obtain ⟨k, hk, rfl, hown, hb⟩ := hrel
    by_cases hlt : k < n
    · have hr2 := hr.below hb
      obtain ⟨b, o, hx, hc, hsz⟩ := hr2.at hlt
      cases hx
      have HT : Hid (ss.take (k + 1) = ss.take k ++ [ss.getD k ByteArray.empty]) := take_snoc ss _ k (by omega)
      generalize ss.getD k ByteArray.empty = t at *
      have hkm : k < maxLen := by unfold maxLen; omega
      have hsz2 := hown.lt
      by_cases hev : k % 2 = 0
      · have he : (((k : Int) % 2 == 0) : Bool) = true := by rw [beq_iff_eq]; omega
        go_wp2_with (at_mapUpdate; refine wpList_put _ rfl (.tmp 17) (.tmp 21) _ 27 rfl 9 33 Yba.underlying9 Yba.underlying27 w.heap.size k _ rfl hown hkm t hsz rfl ?_; intro w1 hown1 hgr1)
        go_roundw
        case rel => exact ⟨k + 1, by omega, by go_num, by rw [HT.out]; exact hown1, hb.grown hgr1 hb.size (fun q hq => by cases hq; exact Nat.le_refl _)⟩
        case measure => simp [intOf]; omega
      · have he : (((k : Int) % 2 == 0) : Bool) = false := by rw [beq_eq_false_iff_ne]; omega
        go_wp2_with (at_mapUpdate; refine wpList_put _ rfl (.tmp 22) (.tmp 26) _ 27 rfl 9 33 Yba.underlying9 Yba.underlying27 w.heap.size k _ rfl (hown.kept (World.grownBy_alloc _ _ none) (by simp)) hkm t hsz rfl ?_; intro w1 hown1 hgr1)
        go_roundw
        case rel => exact ⟨k + 1, by omega, by go_num, by rw [HT.out]; exact hown1, (hb.alloc hb.size _).grown hgr1 (by have := hb.size; simp; omega) (fun q hq => by cases hq; exact Nat.le_refl _)⟩
        case measure => simp [intOf]; omega
    · obtain rfl : k = n := by omega
      go_wp2
      go_ret
      exact ⟨rfl, hown, hb⟩
end Go.Proofs.Ybulkcwta
