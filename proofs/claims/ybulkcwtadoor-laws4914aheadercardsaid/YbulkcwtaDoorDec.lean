import Derived.Test.YbulkcwtaDoorParts
import Derived.Test.YbulkcwtaDoorHeader
namespace Go.Proofs.YbulkcwtaDoor
open Go.ChangeShapes Go.WideShapes Go.ChangeAt Go.RowKit

/-- The digits of x, none where x is 0. -/
def tl (x : Nat) : List UInt8 := if x = 0 then [] else Lib.decDigits x

theorem tl_step (x : Nat) (h : 0 < x) : tl (x / 10) ++ [UInt8.ofNat (48 + x % 10)] = tl x := by
  unfold tl
  rw [if_neg (show ¬ x = 0 by omega)]
  by_cases h10 : x < 10
  · rw [if_pos (by omega), Lib.decDigits_one h10, List.nil_append, Nat.mod_eq_of_lt h10]
  · rw [if_neg (by omega)]
    conv => rhs; rw [Lib.decDigits, dif_neg h10]

/-- What the first loop keeps: the array d in block N holds, from its head on, the digits ds that have been struck off, the last first. -/
structure DRel (w : World) (u x k : Nat) (ds : List UInt8) (wr : World) : Prop where
  small : x ≤ 65535
  len : ds.length = k
  all : tl x ++ ds.reverse = Lib.decDigits u
  row : ∃ cur : Array Value, wr.heap[w.heap.size]? = some (.cells cur 38 (0, 0)) ∧ cur.size = 20 ∧ ∀ j (h : j < ds.length), cur[j]? = some (.int .u8 (ds[j].toNat : Int))
  below : Below w.heap.size w wr
  size : wr.heap.size = w.heap.size + 1

theorem DRel.bound {w : World} {u x k : Nat} {ds : List UInt8} {wr : World} (h : DRel w u x k ds wr) (hu : u ≤ 65535) : k < 20 := by
  have h1 := congrArg List.length h.all
  have h2 := dec_len u hu
  simp [h.len] at h1
  omega

theorem DRel.cell {w : World} {u x k : Nat} {ds : List UInt8} {wr : World} (h : DRel w u x k ds wr) {j : Nat} (hj : j < ds.length) : wr.cell? ⟨w.heap.size, j, none⟩ = some (.int .u8 (ds[j].toNat : Int)) := by
  obtain ⟨cur, hg, _, hc⟩ := h.row
  rw [cell_of_row wr _ j cur 38 (0, 0) hg]
  exact hc j hj

theorem DRel.there {w : World} {u x k : Nat} {ds : List UInt8} {wr : World} (h : DRel w u x k ds wr) (hk : k < 20) : (∃ y, wr.cell? ⟨w.heap.size, k, none⟩ = some y) ∧ wr.frozen? ⟨w.heap.size, k, none⟩ = false := by
  obtain ⟨cur, hg, hs, _⟩ := h.row
  refine ⟨⟨cur[k]'(by omega), ?_⟩, frozen_of_row wr _ k cur 38 hg⟩
  rw [cell_of_row wr _ k cur 38 (0, 0) hg]
  simp

theorem DRel.step {w : World} {u x k : Nat} {ds : List UInt8} {wr : World} (h : DRel w u x k ds wr) (hx : 0 < x) (hk : k < 20) :
    DRel w u (x / 10) (k + 1) (ds ++ [UInt8.ofNat (48 + x % 10)]) (wr.setCell ⟨w.heap.size, k, none⟩ (.int .u8 (48 + (x : Int) % 10))) := by
  obtain ⟨cur, hg, hs, hc⟩ := h.row
  refine ⟨by have := h.small; omega, by simp [h.len], ?_, ⟨cur.setIfInBounds k (.int .u8 (48 + (x : Int) % 10)), heap_setCell_same wr _ k cur 38 _ hg, by simpa using hs, ?_⟩, h.below.setCell (Nat.le_refl _) _, by rw [← h.size]; simp [World.setCell]⟩
  · rw [List.reverse_append, ← h.all, ← tl_step x hx]
    simp
  · intro j hj
    rw [List.length_append, h.len, List.length_singleton] at hj
    by_cases e : j = k
    · subst e
      rw [Array.getElem?_setIfInBounds_self_of_lt (by omega)]
      have : (ds ++ [UInt8.ofNat (48 + x % 10)])[j]'(by simp [h.len]) = UInt8.ofNat (48 + x % 10) := by
        rw [List.getElem_append_right (by rw [h.len]; exact Nat.le_refl _)]
        simp
      rw [this]
      have e2 : (UInt8.ofNat (48 + x % 10)).toNat = 48 + x % 10 := by
        simp only [UInt8.toNat_ofNat']
        omega
      rw [e2]
      congr 2
    · rw [Array.getElem?_setIfInBounds_ne (by omega), hc j (by rw [h.len]; omega)]
      rw [List.getElem_append_left (by rw [h.len]; omega)]

set_option maxHeartbeats 1000000 in
theorem dec_any (u : Nat) (w : World) (hu : u ≤ 65535) :
    Calls Ybad.prog 6 #[.slice none 0 0, .int .u64 u] w fun e w' => ∃ v', e = .returned v' ∧ Owns 5 w.heap.size w' v' (Lib.decDigits u) ∧ Below w.heap.size w w' := by
  obtain ⟨i, hi, hz0, hz1, hz2⟩ := info_parts info5
  by_cases h0 : u = 0
  · subst h0
    go_enter Ybad.func6, Ybad.ntmps6
    go_wp2_with (at_builtin; refine wpList_app _ rfl (.tmp 9) (.tmp 10) 22 rfl w.heap.size 5 i Ybad.underlying22 hi hz0 hz1 hz2 _ [] rfl (World.ownsRow_nil _ _ _ _) _ 1 _ [48] rfl rfl (lit_new _ [48] _) (by simp) (by simp) ?_; intro v1 w1 hown1 happ1)
    refine bodyPost_ret (v := v1) (by simp [results, Ybad.results6, go_sem]) rfl ⟨v1, rfl, ?_, ?_⟩
    · rw [Lib.decDigits_one (by omega)]; exact hown1
    · exact ((Below.refl _ w).alloc (Nat.le_refl _) _).trans (happ1.below (by simp) (fun k hk => by cases hk))
  · have hub : (((u : Int) == 0) : Bool) = false := beq_eq_false_iff_ne.2 (by omega)
    go_enter Ybad.func6, Ybad.ntmps6
    go_wp2
    go_loopw [1, 6] (fun v n wr => ∃ (x k : Nat) (ds : List UInt8), v = .int .u64 x ∧ n = .int .i64 k ∧ DRel w u x k ds wr) (fun v _ _ => (intOf v).toNat)
    case atStart =>
      refine ⟨u, 0, [], rfl, rfl, ⟨hu, rfl, ?_, ⟨_, heap_alloc_new w _, rfl, fun j hj => by simp at hj⟩, (Below.refl _ w).alloc (Nat.le_refl _) _, by simp⟩⟩
      rw [List.reverse_nil, List.append_nil, tl, if_neg h0]
    case round =>
      obtain ⟨x, k, ds, rfl, rfl, hd⟩ := hrel
      have hxs := hd.small
      by_cases hx : 0 < x
      · have hk := hd.bound hu
        obtain ⟨⟨y, hy⟩, hf⟩ := hd.there hk
        have hx' : (0 : Int) < (x : Int) := by omega
        have hx2 : (x : Int) ≤ 65535 := by omega
        have hst := hd.step hx hk
        have HST : Hid _ := hst
        clear hst
        go_wp2
        refine ⟨⟨x / 10, k + 1, _, congrArg (Value.int .u64) (by omega), by go_num, HST.out⟩, ?_⟩
        simp [intOf]
        omega
      · have hk := hd.bound hu
        have hall : ds.reverse = Lib.decDigits u := by have := hd.all; rwa [tl, if_pos (by omega), List.nil_append] at this
        have HALL : Hid _ := hall
        clear hall
        have hlen := hd.len
        have hws := hd.size
        go_wp2
        go_loopw [0, 6] (fun v n ws => ∃ m : Nat, m ≤ k ∧ n = .int .i64 m ∧ Owns 5 (w.heap.size + 1) ws v (ds.drop m).reverse ∧ Below (w.heap.size + 1) wr ws) (fun _ n _ => (intOf n).toNat)
        case atStart =>
          refine ⟨k, Nat.le_refl _, rfl, ?_, Below.refl _ _⟩
          rw [List.drop_of_length_le (by omega)]
          exact World.ownsRow_nil _ _ _ _
        case round =>
          obtain ⟨m, hm, rfl, hown, hbs⟩ := hrel
          by_cases hm0 : 0 < m
          · obtain ⟨q, rfl⟩ : ∃ q, m = q + 1 := ⟨m - 1, by omega⟩
            have hq : q < ds.length := by omega
            have hcell := hbs.cell (p := ⟨w.heap.size, q, none⟩) (by simp)
            rw [hd.cell hq] at hcell
            have HDR : Hid ((ds.drop q).reverse = (ds.drop (q + 1)).reverse ++ [ds[q]]) := by
              show _ = _
              rw [List.drop_eq_getElem_cons hq, List.reverse_cons]
            have hlr : ((ds.drop (q + 1)).reverse).length ≤ 20 := by simp; omega
            have hwz := hbs.size
            have hqi : (0 : Int) < (q : Int) + 1 := by omega
            generalize ds[q] = dq at *
            go_wp2_with (at_builtin; refine wpList_app _ rfl (.tmp 28) (.tmp 32) 22 rfl (w.heap.size + 1) 5 i Ybad.underlying22 hi hz0 hz1 hz2 u0 _ rfl (World.ownsRow.alloc hown _) _ 1 _ [dq] rfl rfl (lit_new _ [dq] _) (by simp at hlr ⊢; omega) (by simp; omega) ?_; intro v1 w1 hown1 happ1)
            go_roundw
            case rel =>
              refine ⟨q, by omega, by go_num, ?_, ?_⟩
              · rw [HDR.out]; exact hown1
              · exact (hbs.alloc (by omega) _).trans (happ1.below (by simp; omega) (fun z hz => (hown.lt z hz).1))
            case measure => simp [intOf]
          · obtain rfl : m = 0 := by omega
            go_wp2
            refine bodyPost_ret (by simp [results, Ybad.results6, go_sem]; rfl) rfl ⟨_, rfl, ?_, ?_⟩
            · rw [← HALL.out]
              exact Owns.mono hown (by omega)
            · exact hd.below.trans (hbs.mono (by omega))
end Go.Proofs.YbulkcwtaDoor
