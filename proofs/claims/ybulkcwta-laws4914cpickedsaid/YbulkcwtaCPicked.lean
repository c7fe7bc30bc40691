import Derived.Test.YbulkcwtaHolds
namespace Go.Proofs.Ybulkcwta
open Go.ChangeShapes Go.WideShapes Go.ChangeAt Go.RowKit

/-- A slice of n bytes that came in. -/
structure ByteRow (w : World) (a0 : Option Addr) (n : Nat) (zs : List Nat) : Prop where
  len : n ≤ zs.length
  isNil : a0 = none → n = 0
  cell : ∀ x, a0 = some x → ∀ j, j < n → w.cell? (x.add j) = some (.int .u8 ((zs.getD j 0 : Nat) : Int))
  small : ∀ j, zs.getD j 0 ≤ 255

theorem ByteRow.at {w : World} {a0 : Option Addr} {n : Nat} {zs : List Nat} (h : ByteRow w a0 n zs) {j : Nat} (hj : j < n) :
    ∃ b o, a0 = some ⟨b, o, none⟩ ∧ w.cell? ⟨b, o + j, none⟩ = some (.int .u8 ((zs.getD j 0 : Nat) : Int)) := by
  cases a0 with
  | none => have := h.isNil rfl; omega
  | some x =>
    have c0 := h.cell x rfl 0 (by omega)
    have cj := h.cell x rfl j hj
    obtain ⟨b, o, spot⟩ := x
    have hspot : spot = none := by simpa [Addr.add] using World.cell?_spot c0
    subst hspot
    rw [Addr.add_lit] at cj
    exact ⟨b, o, rfl, cj⟩

theorem ByteRow.below {w w' : World} {a0 : Option Addr} {n : Nat} {zs : List Nat} (h : ByteRow w a0 n zs) (hb : Below w.heap.size w w') : ByteRow w' a0 n zs :=
  ⟨h.len, h.isNil, fun x hx j hj => by rw [hb.cell (World.block_lt_of_cell? w _ (h.cell x hx j hj))]; exact h.cell x hx j hj, h.small⟩

theorem memB_getD (ss : List ByteArray) (n j : Nat) (hj : j < n) (hn : n ≤ ss.length) : memB (ss.take n) (ss.getD j ByteArray.empty) = true := by
  have hl : j < ss.length := by omega
  have e : ss.getD j ByteArray.empty = ss[j] := by simp [List.getD, hl]
  rw [e]
  simp only [memB, List.any_eq_true]
  refine ⟨ss[j], ?_, (MapKept.bytes_beq _ _).2 rfl⟩
  rw [List.mem_take_iff_getElem]
  exact ⟨j, by omega, rfl⟩

/-- What the loop keeps: q, of k strings, each of them a key. -/
structure Drawn (w : World) (base g cap : Nat) (ks : List ByteArray) (k : Nat) (qs : List ByteArray) (wr : World) : Prop where
  len : qs.length = k
  size : ∀ s ∈ qs, s.size ≤ maxLen
  all : allB ks qs = true
  own : wr.ownsRow base 9 1 (.slice (some ⟨g, 0, none⟩) k cap) k (scells qs k)
  below : Below w.heap.size w wr

theorem scells_snoc (qs : List ByteArray) (k : Nat) (h : qs.length = k) (t : ByteArray) : scells qs k ++ [Value.string t] = scells (qs ++ [t]) (k + 1) := by
  subst h
  simp [scells, List.take_of_length_le]

/-- One string more, behind the block that held it and the append. -/
theorem Drawn.step {w : World} {base g cap : Nat} {ks : List ByteArray} {k : Nat} {qs : List ByteArray} {wr w2 : World} {t : ByteArray} {o : Obj} (h : Drawn w base g cap ks k qs wr) (hg : w.heap.size ≤ g) (ht : t.size ≤ maxLen)
    (hown : w2.ownsRow base 9 1 (.slice (some ⟨g, 0, none⟩) (k + 1) cap) (k + 1) (scells qs k ++ [Value.string t])) (hgr : (wr.alloc o).grownBy w2 (some g)) :
    (qs ++ [t]).length = k + 1 ∧ (∀ s ∈ qs ++ [t], s.size ≤ maxLen) ∧ w2.ownsRow base 9 1 (.slice (some ⟨g, 0, none⟩) (k + 1) cap) (k + 1) (scells (qs ++ [t]) (k + 1)) ∧ Below w.heap.size w w2 := by
  refine ⟨by simp [h.len], ?_, ?_, ?_⟩
  · intro s hs
    rcases List.mem_append.1 hs with h1 | h1
    · exact h.size s h1
    · simp at h1; rw [h1]; exact ht
  · rw [← scells_snoc qs k h.len t]; exact hown
  · have hb := h.below
    exact (hb.alloc hb.size o).grown hgr (by have := hb.size; simp; omega) (fun q hq => by cases hq; exact hg)

theorem Drawn.row {w : World} {base g cap : Nat} {ks : List ByteArray} {k : Nat} {qs : List ByteArray} {wr : World} (h : Drawn w base g cap ks k qs wr) : StrRow wr (some ⟨g, 0, none⟩) k qs :=
  StrRow.own h.own (by rw [h.len]; exact Nat.le_refl _) h.size

set_option maxHeartbeats 1000000 in
theorem cpicked_main (a0 : Option Addr) (n cap0 : Nat) (ss : List ByteArray) (a1 : Option Addr) (m cap1 : Nat) (zs : List Nat) (ex : ByteArray) (w : World) (hr : StrRow w a0 n ss) (hcap : a0 = none → cap0 = 0) (hz : ByteRow w a1 m zs) (hex : ex.size ≤ maxLen) (hn : n ≤ 1024) (hm : m ≤ 1024) :
    Calls Yba.prog 5 #[.slice a0 n cap0, .slice a1 m cap1, .string ex] w fun e w' => e = .returned (.bool true) ∧ Below w.heap.size w w' := by
  obtain ⟨i, hi, hz0, hz1, hz2⟩ := info_parts Yba.info9
  have hml : m + 1 ≤ maxLen := by unfold maxLen; omega
  have t1 : ¬ (1024 : Int) < (n : Int) := by omega
  have t2 : ¬ (1024 : Int) < (m : Int) := by omega
  by_cases hn0 : 0 < n
  · have hn0' : (0 : Int) < (n : Int) := by omega
    go_enter Yba.func5, Yba.ntmps5
    go_wp2_with (first
      | (go_at_call 7; refine (build_any a0 n cap0 ss _ hr hcap (by omega)).mono ?_; rintro e w1 ⟨mo, L, rfl, hold1, hb1⟩)
      | (at_make; refine wpList_make_own _ rfl _ (.tmp 22) 25 rfl w.heap.size 9 i (.string ByteArray.empty) 1 Yba.underlying25 hi hz0 hz1 _ _ _ (m + 1) rfl rfl (by omega) (by rw [hz2]; omega) hml hb1.size ?_; intro w2 hown2 hgr2))
    have hb2 : Below w.heap.size w w2 := hb1.grown hgr2 hb1.size (fun k hk => by cases hk)
    have hold2 : HoldsKeys w2 mo (ss.take n) L := hold1.kept hgr2 (fun b _ => by simp)
    have hlt1 := hold1.lt
    have hd2 : Drawn w w.heap.size w1.heap.size (m + 1) (ss.take n) 0 [] w2 := ⟨rfl, by simp, rfl, hown2, hb2⟩
    have hs1 := hb1.size
    clear hgr2 hown2 hold1 hb2 hb1
    go_loopw [8, 9] (fun q i wr => ∃ (k : Nat) (qs : List ByteArray), k ≤ m ∧ q = .slice (some ⟨w1.heap.size, 0, none⟩) k (m + 1) ∧ i = .int .i64 k ∧ Drawn w w.heap.size w1.heap.size (m + 1) (ss.take n) k qs wr ∧ HoldsKeys wr mo (ss.take n) L) (fun _ i _ => m - (intOf i).toNat)
    case atStart => exact ⟨0, [], Nat.zero_le _, rfl, rfl, hd2, hold2⟩
    case round =>
      obtain ⟨k, qs, hk, rfl, rfl, hd, hold⟩ := hrel
      clear hd2 hold2
      by_cases hlt : k < m
      · obtain ⟨b1, o1, hx1, hc1⟩ := (hz.below hd.below).at hlt
        cases hx1
        have hzk := hz.small k
        generalize zs.getD k 0 = z at *
        have hj : z % n < n := Nat.mod_lt _ hn0
        obtain ⟨b0, o0, hx0, hc0, hsz⟩ := (hr.below hd.below).at hj
        cases hx0
        have HM : Hid (memB (ss.take n) (ss.getD (z % n) ByteArray.empty) = true) := memB_getD ss n (z % n) hj hr.len
        generalize ss.getD (z % n) ByteArray.empty = t at *
        have hzi : (0 : Int) ≤ (z : Int) := by omega
        have hzi2 : (z : Int) ≤ 255 := by omega
        go_wp2_with (at_builtin; refine wpList_append_fits _ rfl (.tmp 33) (.tmp 45) 25 rfl w.heap.size 9 i 1 Yba.underlying25 hi hz1 w1.heap.size k (m + 1) _ rfl (hd.own.alloc _) _ 1 _ [.string t] rfl rfl (cell_one_new _ _ _) (by simp [Value.oneCell']) (by omega) ?_; intro w5 hown5 hgr5)
        obtain ⟨s1, s2, s3, s4⟩ := hd.step hs1 hsz hown5 hgr5
        have hold5 : HoldsKeys w5 mo (ss.take n) L := (hold.kept (World.grownBy_alloc _ _ none) (fun b _ => by simp)).kept hgr5 (fun b hb e => by cases e; have := hlt1 _ hb; omega)
        refine ⟨⟨k + 1, qs ++ [t], by omega, rfl, by go_num, ⟨s1, s2, ?_, s3, s4⟩, hold5⟩, by simp [intOf]; omega⟩
        rw [allB_snoc, hd.all, HM.out]
        rfl
      · obtain rfl : k = m := by omega
        have hrow := hd.row
        have hall := hd.all
        have etk : qs.take k = qs := List.take_of_length_le (by rw [hd.len]; exact Nat.le_refl _)
        have HA : Hid (allB (ss.take n) (qs.take k) = true) := by show _ = _; rw [etk]; exact hall
        have etk2 : (qs ++ [ex]).take (k + 1) = qs ++ [ex] := List.take_of_length_le (by simp [hd.len])
        have HB : Hid (allB (ss.take n) ((qs ++ [ex]).take (k + 1)) = memB (ss.take n) ex) := by show _ = _; rw [etk2, allB_snoc, hall]; rfl
        clear hall etk etk2
        go_wp2_with fail
        refine (has_any (.map mo) (ss.take n) _ k _ qs _ hrow (by omega) hold.look).mono ?_
        rintro e w4 ⟨rfl, rfl⟩
        rw [HA.out]
        go_wp2_with (first | (at_builtin; refine wpList_append_fits _ rfl (.tmp 51) (.tmp 53) 25 rfl w.heap.size 9 i 1 Yba.underlying25 hi hz1 w1.heap.size k (k + 1) _ rfl (hd.own.alloc _) _ 1 _ [.string ex] rfl rfl (cell_one_new _ _ _) (by simp [Value.oneCell']) (by omega) ?_; intro w5 hown5 hgr5) | fail)
        obtain ⟨s1, s2, s3, s4⟩ := hd.step hs1 hex hown5 hgr5
        have hold5 : HoldsKeys w5 mo (ss.take n) L := (hold.kept (World.grownBy_alloc _ _ none) (fun b _ => by simp)).kept hgr5 (fun b hb e => by cases e; have := hlt1 _ hb; omega)
        refine (has_any (.map mo) (ss.take n) _ (k + 1) _ (qs ++ [ex]) _ (StrRow.own s3 (by rw [s1]; exact Nat.le_refl _) s2) (by omega) hold5.look).mono ?_
        rintro e w6 ⟨rfl, rfl⟩
        rw [HB.out]
        go_wp2_with fail
        refine (cin_any a0 n cap0 ss ex _ (hr.below s4) (by omega)).mono ?_
        rintro e w7 ⟨rfl, rfl⟩
        generalize memB (ss.take n) ex = B at *
        go_wp2
        go_ret
        exact ⟨ret_bool (by simp), s4⟩
  · obtain rfl : n = 0 := by omega
    go_enter Yba.func5, Yba.ntmps5
    go_wp2_with (first
      | (go_at_call 7; refine (build_any a0 0 cap0 ss _ hr hcap (by omega)).mono ?_; rintro e w1 ⟨mo, L, rfl, hold1, hb1⟩)
      | (at_make; refine wpList_make_own _ rfl _ (.tmp 22) 25 rfl w.heap.size 9 i (.string ByteArray.empty) 1 Yba.underlying25 hi hz0 hz1 _ _ _ (m + 1) rfl rfl (by omega) (by rw [hz2]; omega) hml hb1.size ?_; intro w2 hown2 hgr2)
      | fail)
    have hb2 : Below w.heap.size w w2 := hb1.grown hgr2 hb1.size (fun k hk => by cases hk)
    have hold : HoldsKeys w2 mo (ss.take 0) L := hold1.kept hgr2 (fun b _ => by simp)
    have hlt1 := hold1.lt
    obtain ⟨qs, hqs⟩ : ∃ qs : List ByteArray, qs = [] := ⟨_, rfl⟩
    have hd : Drawn w w.heap.size w1.heap.size (m + 1) (ss.take 0) 0 qs w2 := by rw [hqs]; exact ⟨rfl, by simp, rfl, hown2, hb2⟩
    have hs1 := hb1.size
    clear hgr2 hown2 hold1 hb2 hb1 hqs
    have hrow := hd.row
    have hall := hd.all
    have etk : qs.take 0 = qs := List.take_of_length_le (by rw [hd.len]; exact Nat.le_refl _)
    have HA : Hid (allB (ss.take 0) (qs.take 0) = true) := by show _ = _; rw [etk]; exact hall
    have etk2 : (qs ++ [ex]).take (0 + 1) = qs ++ [ex] := List.take_of_length_le (by simp [hd.len])
    have HB : Hid (allB (ss.take 0) ((qs ++ [ex]).take (0 + 1)) = memB (ss.take 0) ex) := by show _ = _; rw [etk2, allB_snoc, hall]; rfl
    clear hall etk etk2
    refine (has_any (.map mo) (ss.take 0) _ 0 _ qs _ hrow (by omega) hold.look).mono ?_
    rintro e w4 ⟨rfl, rfl⟩
    rw [HA.out]
    go_wp2_with (first | (at_builtin; refine wpList_append_fits _ rfl (.tmp 51) (.tmp 53) 25 rfl w.heap.size 9 i 1 Yba.underlying25 hi hz1 w1.heap.size 0 (m + 1) _ rfl (hd.own.alloc _) _ 1 _ [.string ex] rfl rfl (cell_one_new _ _ _) (by simp [Value.oneCell']) (by omega) ?_; intro w5 hown5 hgr5) | fail)
    obtain ⟨s1, s2, s3, s4⟩ := hd.step hs1 hex hown5 hgr5
    have hold5 : HoldsKeys w5 mo (ss.take 0) L := (hold.kept (World.grownBy_alloc _ _ none) (fun b _ => by simp)).kept hgr5 (fun b hb e => by cases e; have := hlt1 _ hb; omega)
    refine (has_any (.map mo) (ss.take 0) _ (0 + 1) _ (qs ++ [ex]) _ (StrRow.own s3 (by rw [s1]; exact Nat.le_refl _) s2) (by omega) hold5.look).mono ?_
    rintro e w6 ⟨rfl, rfl⟩
    rw [HB.out]
    go_wp2_with fail
    refine (cin_any a0 0 cap0 ss ex _ (hr.below s4) (by omega)).mono ?_
    rintro e w7 ⟨rfl, rfl⟩
    go_wp2
    go_ret
    exact ⟨ret_bool (by simp), s4⟩
end Go.Proofs.Ybulkcwta
