import Derived.Test.YbulkcwtaRows
import Derived.Test.YbulkcwtaApp
import Derived.WalkKit
import Derived.ProofKit
import Derived.OwnWalk
import Derived.Below
namespace Go.Proofs.Ybulkcwta
open Go.ChangeShapes Go.WideShapes Go.ChangeAt Go.RowKit

theorem Yba.info5 : (Yba.prog.info? 5).map (fun i => (i.zero, i.size, i.bytes)) = some (some (.int .u8 0), 1, 1) := by kernel_rfl

theorem two_new (w : World) (x y : Value) (t : TypeId) : ∀ j u, [x, y][j]? = some u → (w.alloc (.cells #[x, y] t)).cell? ((⟨w.heap.size, 0, none⟩ : Addr).add j) = some u := by
  intro j u hj
  have hadd : (⟨w.heap.size, 0, none⟩ : Addr).add j = ⟨w.heap.size, j, none⟩ := by unfold Addr.add; split <;> simp_all
  rw [hadd, cell_of_row _ _ j #[x, y] t (0, 0) (heap_alloc_new w _)]
  simpa using hj

set_option maxHeartbeats 400000 in
theorem appendKey_any (base : Nat) (v : Value) (n : Nat) (xs : List Value) (key : ByteArray) (w : World) (hown : w.ownsRow base 5 1 v n xs) (hbase : base ≤ w.heap.size) (hn : n ≤ 1000000) (hk : key.size ≤ 1000000) :
    Calls Yba.prog 6 #[v, .string key] w fun e w' => ∃ v', e = .returned v' ∧ w'.ownsRow base 5 1 v' (n + 2 + key.size + 2) (xs ++ [.int .u8 44, .int .u8 34] ++ Lib.strCells key ++ [.int .u8 34, .int .u8 58]) ∧ App n w v w' v' := by
  obtain ⟨i, hi, hz0, hz1, hz2⟩ := info_parts Yba.info5
  go_enter Yba.func6, Yba.ntmps6
  have hlt := fun g hg => (hown.lt g hg).2
  have hm1 : n + 2 ≤ maxLen := by unfold maxLen; omega
  have hm2 : n + 2 + key.size ≤ maxLen := by unfold maxLen; omega
  have hm3 : n + 2 + key.size + 2 ≤ maxLen := by unfold maxLen; omega
  have ho1 : ∀ u ∈ [Value.int .u8 44, Value.int .u8 34], u.oneCell' = true := by simp [Value.oneCell']
  have ho2 : ∀ u ∈ [Value.int .u8 34, Value.int .u8 58], u.oneCell' = true := by simp [Value.oneCell']
  go_wp2_with (first
    | (at_builtin; refine wpList_append_app _ rfl (.tmp 5) (.tmp 6) 22 rfl base 5 i (.int .u8 0) 1 Yba.underlying22 hi hz0 hz1 hz2 rfl v n xs rfl (hown.alloc _) _ 2 _ [.int .u8 44, .int .u8 34] rfl rfl (two_new _ _ _ _) ho1 hm1 (by omega) (by simp; omega) ?_; intro v1 w1 hown1 happ1)
    | (at_builtin; refine wpList_append_app_string _ rfl (.tmp 8) (.tmp 9) 22 9 rfl base 5 i Yba.underlying22 Yba.underlying9 hi hz0 hz1 hz2 v1 (n + 2) _ rfl hown1 key rfl hm2 (by omega) (by have := happ1.grown.size; simp at this; omega) ?_; intro v2 w2 hown2 happ2)
    | (at_builtin; refine wpList_append_app _ rfl (.tmp 11) (.tmp 12) 22 rfl base 5 i (.int .u8 0) 1 Yba.underlying22 hi hz0 hz1 hz2 rfl v2 (n + 2 + key.size) _ rfl (hown2.alloc _) _ 2 _ [.int .u8 34, .int .u8 58] rfl rfl (two_new _ _ _ _) ho2 hm3 (by omega) (by have q1 := happ1.grown.size; have q2 := happ2.grown.size; simp at q1 q2 ⊢; omega) ?_; intro v3 w3 hown3 happ3))
  have hl2 := fun g hg => (hown2.lt g hg).2
  refine bodyPost_ret (v := v3) (by simp [results, Yba.results6, go_sem]) rfl ⟨v3, rfl, hown3, ?_⟩
  have k1 : App n w v w1 v1 := (App.alloc w v _ hlt).trans happ1 (Nat.le_refl _) hlt
  have k2 : App n w v w2 v2 := k1.trans happ2 (by omega) hlt
  exact (k2.trans (App.alloc (n := n) w2 v2 (Obj.cells #[.int .u8 34, .int .u8 58] 5) hl2) (by omega) hlt).trans happ3 (by omega) hlt
end Go.Proofs.Ybulkcwta
