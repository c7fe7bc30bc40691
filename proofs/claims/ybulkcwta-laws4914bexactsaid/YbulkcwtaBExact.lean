import Derived.Test.YbulkcwtaKey
import Derived.Test.YbulkcwtaCopy
import Derived.Deep.QuietTactic
import Derived.BigQuiet
import Derived.Deep.AppendLies
namespace Go.Proofs.Ybulkcwta
open Go.ChangeShapes Go.WideShapes Go.ChangeAt Go.RowKit

theorem Yba.size5 : (Yba.prog.info? 5).map (·.size) = some 1 := by kernel_rfl

/-- The bytes that a slice of n elements over 'zs' holds, as cells. -/
def bcells (zs : List Int) (n : Nat) : List Value := (zs.take n).map (Value.int .u8)
theorem bcells_length (zs : List Int) (n : Nat) (h : n ≤ zs.length) : (bcells zs n).length = n := by simp [bcells]; omega
theorem bcells_get (zs : List Int) (n j : Nat) (h : n ≤ zs.length) (hj : j < n) : (bcells zs n)[j]? = some (.int .u8 (zs.getD j 0)) := by
  have : j < zs.length := by omega
  simp [bcells, hj, List.getD, this]
theorem bcells_one (zs : List Int) (n : Nat) : ∀ u ∈ bcells zs n, u.oneCell' = true := ints_oneCell .u8 _

theorem src_cells {a0 : Option Addr} {n : Nat} {z0 : List Int} {w w1 : World} (hz : n ≤ z0.length) (hsome : ∀ x, a0 = some x → ∀ j, j < n → w.cell? (x.add j) = some (.int .u8 (z0.getD j 0))) (hgr : w.grownBy w1 none) :
    ∀ x, a0 = some x → ∀ j u, (bcells z0 n)[j]? = some u → w1.cell? (x.add j) = some u := by
  intro x hx j u hj
  have hlt : j < n := by have := (List.getElem?_eq_some_iff.1 hj).1; rwa [bcells_length z0 n hz] at this
  rw [bcells_get z0 n j hz hlt] at hj
  rw [← hj]
  exact hgr.cell (hsome x hx j hlt) (by simp)

/-- What the world behind 'appendKey' holds: the three rows that the loops read. -/
structure Held (a0 : Option Addr) (n : Nat) (z0 : List Int) (key : ByteArray) (c g : Nat) (w : World) : Prop where
  src : ∀ x, a0 = some x → ∀ j, j < n → w.cell? (x.add j) = some (.int .u8 (z0.getD j 0))
  cp : ∀ j, j < n → w.cell? ⟨c, j, none⟩ = some (.int .u8 (z0.getD j 0))
  got : ∀ j, j < n → w.cell? ⟨g, j, none⟩ = some (.int .u8 (z0.getD j 0))
  q0 : w.cell? ⟨g, n, none⟩ = some (.int .u8 44)
  q1 : w.cell? ⟨g, n + 1, none⟩ = some (.int .u8 34)
  mid : ∀ j (h : j < key.size), w.cell? ⟨g, n + 2 + j, none⟩ = some (.int .u8 key[j].toNat)
  r0 : w.cell? ⟨g, n + 2 + key.size, none⟩ = some (.int .u8 34)
  r1 : w.cell? ⟨g, n + 2 + key.size + 1, none⟩ = some (.int .u8 58)

theorem Held.same {a0 : Option Addr} {n : Nat} {z0 : List Int} {key : ByteArray} {c g : Nat} {w w' : World} (h : Held a0 n z0 key c g w) (e : ∀ p, w'.cell? p = w.cell? p) : Held a0 n z0 key c g w' :=
  ⟨fun x hx j hj => by rw [e]; exact h.src x hx j hj, fun j hj => by rw [e]; exact h.cp j hj, fun j hj => by rw [e]; exact h.got j hj, by rw [e]; exact h.q0, by rw [e]; exact h.q1, fun j hj => by rw [e]; exact h.mid j hj, by rw [e]; exact h.r0, by rw [e]; exact h.r1⟩

theorem held_of {a0 : Option Addr} {n : Nat} {z0 : List Int} {key : ByteArray} {g cap3 : Nat} {w w1 w2 w3 : World} (hz : n ≤ z0.length)
    (hsome : ∀ x, a0 = some x → ∀ j, j < n → w.cell? (x.add j) = some (.int .u8 (z0.getD j 0)))
    (hgr1 : w.grownBy w1 none) (hown2 : w2.ownsRow w.heap.size 5 1 (.slice (some ⟨w.heap.size, 0, none⟩) n n) n (bcells z0 n)) (hgr2 : w1.grownBy w2 (some w.heap.size))
    (hown3 : w3.ownsRow w.heap.size 5 1 (.slice (some ⟨g, 0, none⟩) (n + 2 + key.size + 2) cap3) (n + 2 + key.size + 2) (bcells z0 n ++ [.int .u8 44, .int .u8 34] ++ Lib.strCells key ++ [.int .u8 34, .int .u8 58]))
    (happ3 : App n w2 (.slice (some ⟨w.heap.size, 0, none⟩) n n) w3 (.slice (some ⟨g, 0, none⟩) (n + 2 + key.size + 2) cap3)) :
    Held a0 n z0 key w.heap.size g w3 ∧ Below w.heap.size w w3 := by
  have hbl := bcells_length z0 n hz
  have hkl := Lib.strCells_length key
  have b1 : Below w.heap.size w w1 := (Below.refl _ _).grown hgr1 (Nat.le_refl _) (fun k hk => by cases hk)
  have b2 : Below w.heap.size w w2 := b1.grown hgr2 b1.size (fun k hk => by cases hk; exact Nat.le_refl _)
  have b3 : Below w.heap.size w w3 := b2.grown happ3.grown b2.size (fun k hk => by simp [Value.ownBlock] at hk; omega)
  have got : ∀ j u, (bcells z0 n ++ [Value.int .u8 44, .int .u8 34] ++ Lib.strCells key ++ [.int .u8 34, .int .u8 58])[j]? = some u → w3.cell? ⟨g, j, none⟩ = some u := by
    intro j u hu
    have hj : j < n + 2 + key.size + 2 := by
      have := (List.getElem?_eq_some_iff.1 hu).1
      simp [hbl, hkl] at this
      omega
    rw [hown3.cellAt j (by omega)]
    exact hu
  refine ⟨⟨?_, ?_, ?_, ?_, ?_, ?_, ?_, ?_⟩, b3⟩
  · intro x hx j hj
    have h0 := hsome x hx j hj
    rw [b3.cell (World.block_lt_of_cell? w _ h0)]
    exact h0
  · intro j hj
    rw [happ3.keep w.heap.size rfl j hj, hown2.cellAt j (by omega)]
    exact bcells_get z0 n j hz hj
  · intro j hj
    refine got j _ ?_
    rw [List.append_assoc, List.append_assoc, List.getElem?_append_left (by omega)]
    exact bcells_get z0 n j hz hj
  · refine got n _ ?_
    rw [List.append_assoc, List.append_assoc, List.getElem?_append_right (by omega), hbl]
    simp
  · refine got (n + 1) _ ?_
    rw [List.append_assoc, List.append_assoc, List.getElem?_append_right (by omega), hbl, Nat.add_sub_cancel_left]
    simp
  · intro j hj
    refine got (n + 2 + j) _ ?_
    rw [List.append_assoc, List.append_assoc, List.getElem?_append_right (by omega), hbl, show n + 2 + j - n = j + 2 by omega]
    simp only [List.cons_append, List.nil_append, List.getElem?_cons_succ]
    rw [List.getElem?_append_left (by omega)]
    simp only [Lib.strCells, List.getElem?_map]
    have : key.data.toList[j]? = some key[j] := by
      rw [List.getElem?_eq_getElem (by simpa using hj)]
      rfl
    rw [this]
    rfl
  · refine got (n + 2 + key.size) _ ?_
    rw [List.getElem?_append_right (by simp [hbl, hkl]; omega)]
    have : n + 2 + key.size - (bcells z0 n ++ [Value.int .u8 44, .int .u8 34] ++ Lib.strCells key).length = 0 := by simp [hbl, hkl]; omega
    rw [this]
    rfl
  · refine got (n + 2 + key.size + 1) _ ?_
    rw [List.getElem?_append_right (by simp [hbl, hkl]; omega)]
    have : n + 2 + key.size + 1 - (bcells z0 n ++ [Value.int .u8 44, .int .u8 34] ++ Lib.strCells key).length = 1 := by simp [hbl, hkl]; omega
    rw [this]
    rfl

theorem belowN {B : Nat} {a w : World} (h : Below B a w) (k : Nat) : Below B a (w.drewN k) := ⟨h.os, h.tape, h.output, h.size, h.block⟩

set_option maxHeartbeats 1000000 in
theorem bexact_main (a0 : Option Addr) (n cap0 : Nat) (z0 : List Int) (key : ByteArray) (w : World) (hn : n ≤ 1024) (hk : key.size ≤ 1024) (hz : n ≤ z0.length)
    (hnone : a0 = none → n = 0) (hsome : ∀ x, a0 = some x → ∀ j, j < n → w.cell? (x.add j) = some (.int .u8 (z0.getD j 0))) :
    Calls Yba.prog 3 #[.slice a0 n cap0, .string key] w fun e w' => e = .returned (.bool true) ∧ Below w.heap.size w w' := by
  obtain ⟨i, hi, hz0, hz1, hz2⟩ := info_parts Yba.info5
  have hm0 : n ≤ maxLen := by unfold maxLen; omega
  have t1 : ¬ (1024 : Int) < (n : Int) := by omega
  have t2 : ¬ (1024 : Int) < (key.size : Int) := by omega
  go_enter Yba.func3, Yba.ntmps3
  go_wp2_with (first
    | (at_make; refine wpList_make_full _ rfl (.tmp 20) (.tmp 20) 22 rfl w.heap.size 5 i (.int .u8 0) 1 Yba.underlying22 hi hz0 hz1 _ _ _ _ n rfl rfl rfl rfl (by rw [hz2]; omega) hm0 (Nat.le_refl _) ?_; intro w1 hown1 hgr1)
    | (refine wpList_copy_full _ rfl (.tmp 22) (.tmp 23) 22 22 rfl w.heap.size 5 Yba.underlying22 Yba.size5 w.heap.size n n rfl _ hown1 a0 cap0 rfl (bcells z0 n) (bcells_length z0 n hz) hnone (src_cells hz hsome hgr1) (bcells_one z0 n) ?_; intro w2 hown2 hgr2)
    | (go_at_call 6; refine (appendKey_any w.heap.size _ n _ key _ hown2 (by have := hgr1.size; have := hgr2.size; omega) (by omega) (by omega)).mono ?_; rintro e w3 ⟨v3, rfl, hown3, happ3⟩; obtain ⟨g, cap3, rfl, hbg, hlg⟩ := hown3.form (by omega)))
  obtain ⟨H3, hb3⟩ := held_of hz hsome hgr1 hown2 hgr2 hown3 happ3
  clear hsome hown1 hown2 hown3 happ3 hgr1 hgr2
  go_loopw [8] (fun i wr => ∃ k : Nat, k ≤ n ∧ i = .int .i64 k ∧ (∀ p, wr.cell? p = w3.cell? p) ∧ Below w.heap.size w wr) (fun i _ => n - (intOf i).toNat)
  case atStart => exact ⟨0, Nat.zero_le _, rfl, fun _ => rfl, hb3⟩
  case round =>
    obtain ⟨k, hk, rfl, hsame, hbr⟩ := hrel
    have H4 := H3.same hsame
    have HS : Hid _ := hsame
    clear hsame
    by_cases hlt : k < n
    · obtain ⟨x, hx⟩ : ∃ x, a0 = some x := by
        cases a0 with
        | none => have := hnone rfl; omega
        | some x => exact ⟨x, rfl⟩
      subst hx
      have e1 := H4.got k hlt
      have e2 := H4.cp k hlt
      have e3 := H4.src x rfl k hlt
      obtain ⟨b, o, spot⟩ := x
      have hspot : spot = none := by simpa [Addr.add] using World.cell?_spot (H4.src _ rfl 0 (by omega))
      subst hspot
      rw [Addr.add_lit] at e3
      generalize z0.getD k 0 = y at e1 e2 e3
      have hlt' : (k : Int) < (n : Int) := by omega
      go_wp2
      go_quiet (fail)
      go_wp2
      refine ⟨⟨k + 1, by omega, by go_num, fun p => by rw [← HS.out p]; simp, ?_⟩, by simp [intOf]; omega⟩
      exact belowN hbr nq
    · have q0 := H4.q0
      have q1 := H4.q1
      have hkn : (n : Int) + 1 < (n : Int) + 2 + (key.size : Int) + 2 := by omega
      have hkn' : (n : Int) < (n : Int) + 2 + (key.size : Int) + 2 := by omega
      go_wp2
      go_loopw [9] (fun i ws => ∃ m : Nat, m ≤ key.size ∧ i = .int .i64 m ∧ (∀ p, ws.cell? p = w3.cell? p) ∧ Below w.heap.size w ws) (fun i _ => key.size - (intOf i).toNat)
      case atStart => exact ⟨0, Nat.zero_le _, rfl, HS.out, hbr⟩
      case round =>
        obtain ⟨m, hm, rfl, hsame, hbs⟩ := hrel
        have H5 := H3.same hsame
        have HT : Hid _ := hsame
        clear hsame
        by_cases hlt2 : m < key.size
        · have e1 := H5.mid m hlt2
          have hlt2' : (m : Int) < (key.size : Int) := by omega
          go_wp2
          go_quiet (fail)
          go_wp2
          refine ⟨⟨m + 1, by omega, by go_num, fun p => by rw [← HT.out p]; simp, belowN hbs _⟩, by simp [intOf]; omega⟩
        · have r0 := H5.r0
          have r1 := H5.r1
          go_wp2
          go_ret
          exact ⟨rfl, hbs⟩
end Go.Proofs.Ybulkcwta
