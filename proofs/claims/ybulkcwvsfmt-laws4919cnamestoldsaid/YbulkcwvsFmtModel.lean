import Derived.Test.YbulkcwvsFmtLeaves
namespace Go.Proofs.YbulkcwvsFmt
open Go.RowKit

/-- A member that told: self, or among the held. -/
def hit (hs : List ByteArray) (self s : ByteArray) : Bool := s == self || memB hs s
def tolds (hs : List ByteArray) (self : ByteArray) (l : List ByteArray) : Nat := l.countP (hit hs self)
theorem tolds_hit (hs : List ByteArray) (self : ByteArray) (l : List ByteArray) (t : ByteArray) (h : hit hs self t = true) : tolds hs self (l ++ [t]) = tolds hs self l + 1 := by
  simp [tolds, List.countP_append, h]
theorem tolds_miss (hs : List ByteArray) (self : ByteArray) (l : List ByteArray) (t : ByteArray) (h : hit hs self t = false) : tolds hs self (l ++ [t]) = tolds hs self l := by
  simp [tolds, List.countP_append, h]
theorem tolds_le (hs : List ByteArray) (self : ByteArray) (l : List ByteArray) : tolds hs self l ≤ l.length := List.countP_le_length
/-- How many are needed of the group at place j, of n members. -/
def need (whole : Bool) (j n : Nat) : Nat := if whole = true ∧ j = 0 then n else n / 2 + 1
def madeTo (hs : List ByteArray) (self : ByteArray) (whole : Bool) (rows : List (Option Addr × List ByteArray)) : Nat → Bool
  | 0 => true
  | k + 1 => madeTo hs self whole rows k && decide (need whole k (rows.getD k (none, [])).2.length ≤ tolds hs self (rows.getD k (none, [])).2)

section
variable {hs : List ByteArray} {self : ByteArray} {whole : Bool} {rows : List (Option Addr × List ByteArray)} {k n : Nat} {a : Option Addr} {l : List ByteArray}
theorem madeTo_step (h : madeTo hs self whole rows k = true) (e : rows.getD k (none, []) = (a, l)) (hn : need whole k l.length ≤ tolds hs self l) : madeTo hs self whole rows (k + 1) = true := by
  simp only [madeTo, e, h, hn, decide_true, Bool.and_self]
theorem madeTo_false (e : rows.getD k (none, []) = (a, l)) (hn : ¬ need whole k l.length ≤ tolds hs self l) : ∀ n, k < n → madeTo hs self whole rows n = false
  | n + 1, h => by
    rcases Nat.lt_or_ge k n with h1 | h1
    · simp [madeTo, madeTo_false e hn n h1]
    · obtain rfl : k = n := by omega
      simp only [madeTo, e, hn, decide_false, Bool.and_false]
end

/-- The groups: a slice of slices of small strings. -/
structure Grp (w : World) (G : Nat) (rows : List (Option Addr × List ByteArray)) : Prop where
  row : ∀ j, j < rows.length → ∃ a l, rows.getD j (none, []) = (a, l) ∧ w.cell? ⟨G, j, none⟩ = some (.slice a l.length l.length) ∧ SRow w a l ∧ l.length ≤ 256 ∧ ∀ s ∈ l, s.size ≤ 1

theorem Grp.below {w w' : World} {G : Nat} {rows : List (Option Addr × List ByteArray)} (h : Grp w G rows) (hb : Below w.heap.size w w') : Grp w' G rows := by
  refine ⟨fun j hj => ?_⟩
  obtain ⟨a, l, h1, h2, h3, h4⟩ := h.row j hj
  exact ⟨a, l, h1, by rw [hb.cell (World.block_lt_of_cell? w _ h2)]; exact h2, h3.below hb, h4⟩

theorem hit_self {hs : List ByteArray} {self s : ByteArray} (h : (s.toList == self.toList) = true) : hit hs self s = true := by
  simp [hit, beq_toListBytes, h]
theorem hit_held {hs : List ByteArray} {self s t : ByteArray} {k : Nat} (ht : hs.take (k + 1) = hs.take k ++ [t]) (h : (t.toList == s.toList) = true) : hit hs self s = true := by
  have e : hs = hs.take (k + 1) ++ hs.drop (k + 1) := (List.take_append_drop _ _).symm
  have : memB hs s = true := by
    rw [e, ht]
    simp only [memB, List.any_append, List.any_cons, beq_toListBytes, h]
    simp
  simp [hit, this]
theorem hit_none {hs : List ByteArray} {self s : ByteArray} (h : (s.toList == self.toList) = false) (h2 : memB hs s = false) : hit hs self s = false := by
  simp only [hit, beq_toListBytes, h, h2, Bool.or_self]
theorem memB_next {hs : List ByteArray} {s t : ByteArray} {k : Nat} (h0 : memB (hs.take k) s = false) (ht : hs.take (k + 1) = hs.take k ++ [t]) (h : (t.toList == s.toList) = false) : memB (hs.take (k + 1)) s = false := by
  rw [ht, memB_snoc, h0, beq_toListBytes, h]; rfl

/-- What the innermost loop knows behind k of the held. -/
def InAt (hs : List ByteArray) (self s : ByteArray) (k : Nat) (q : Bool) : Prop := (q = true ∧ hit hs self s = true) ∨ (q = false ∧ (s.toList == self.toList) = false ∧ memB (hs.take k) s = false)
theorem inAt_start (hs : List ByteArray) (self s : ByteArray) : InAt hs self s 0 (s.toList == self.toList) := by
  cases h : s.toList == self.toList
  · exact .inr ⟨rfl, h, rfl⟩
  · exact .inl ⟨rfl, hit_self h⟩
theorem inAt_end {hs : List ByteArray} {self s : ByteArray} {q : Bool} (h : InAt hs self s hs.length q) : hit hs self s = q := by
  rcases h with ⟨rfl, h⟩ | ⟨rfl, h1, h2⟩
  · exact h
  · rw [List.take_length] at h2
    exact hit_none h1 h2

set_option maxHeartbeats 2000000 in
theorem model_any (G : Nat) (rows : List (Option Addr × List ByteArray)) (ha : Option Addr) (hs : List ByteArray) (hc : Nat) (self : ByteArray) (whole : Bool) (w : World)
    (hg : Grp w G rows) (hh : SRow w ha hs) (hn : rows.length ≤ 256) (hm : hs.length ≤ 1024) :
    Calls Ybaf.prog 23 #[.slice (some ⟨G, 0, none⟩) rows.length rows.length, .slice ha hs.length hc, .string self, .bool whole] w fun e w' => e = .returned (.bool (madeTo hs self whole rows rows.length)) ∧ w' = w := by
  go_enter Ybaf.func23, Ybaf.ntmps23
  go_wp2
  go_loop [9] (fun i => ∃ k : Nat, k ≤ rows.length ∧ i = .int .i64 k ∧ Hid (madeTo hs self whole rows k = true)) (fun i => rows.length - (intOf i).toNat)
  case atStart => exact ⟨0, Nat.zero_le _, rfl, rfl⟩
  case round =>
    obtain ⟨i, hi, rfl, hmade⟩ := hrel
    by_cases hlt : i < rows.length
    · obtain ⟨a, l, hrow0, hcell, hr, hl, hsz⟩ := hg.row i hlt
      have hrow : Hid _ := hrow0
      clear hrow0
      go_wp2
      go_loop [11, 12] (fun x j => ∃ k : Nat, k ≤ l.length ∧ j = .int .i64 k ∧ x = .int .i64 (tolds hs self (l.take k) : Nat)) (fun _ j => l.length - (intOf j).toNat)
      case atStart => exact ⟨0, Nat.zero_le _, rfl, rfl⟩
      case round =>
        obtain ⟨j, hj, rfl, rfl⟩ := hrel
        have hcnt := tolds_le hs self (l.take j)
        rw [List.length_take] at hcnt
        have hcnt2 : tolds hs self (l.take j) ≤ 256 := by omega
        clear hcnt
        by_cases hlt2 : j < l.length
        · obtain ⟨b, o, hx, hc1⟩ := hr.at hlt2
          cases hx
          have HT : Hid _ := take_snoc l j hlt2
          generalize l[j] = s at *
          have HE0 : Hid (hit hs self s = false → tolds hs self (l.take (j + 1)) = tolds hs self (l.take j)) := fun h => by rw [HT.out, tolds_miss _ _ _ _ h]
          have HE1 : Hid (hit hs self s = true → tolds hs self (l.take (j + 1)) = tolds hs self (l.take j) + 1) := fun h => by rw [HT.out, tolds_hit _ _ _ _ h]
          generalize tolds hs self (l.take j) = c at *
          go_wp2
          go_loop [14, 15] (fun q x => ∃ (k : Nat) (v : Bool), k ≤ hs.length ∧ x = .int .i64 k ∧ q = .bool v ∧ Hid (InAt hs self s k v)) (fun q x => 2 * (hs.length - (intOf x).toNat))
          case atStart => exact ⟨0, _, Nat.zero_le _, rfl, rfl, inAt_start hs self s⟩
          case round =>
            obtain ⟨k, v, hk, rfl, rfl, hin⟩ := hrel
            cases v
            · by_cases hlt3 : k < hs.length
              · obtain ⟨b2, o2, hx, hc2⟩ := hh.at hlt3
                cases hx
                have HT2 : Hid _ := take_snoc hs k hlt3
                generalize hs[k] = t at *
                cases he : t.toList == s.toList
                · have HI : Hid (InAt hs self s (k + 1) false) := by
                    rcases hin.out with ⟨h, _⟩ | ⟨_, h1, h2⟩
                    · cases h
                    · exact .inr ⟨rfl, h1, memB_next h2 HT2.out he⟩
                  go_wp2
                  exact ⟨⟨k + 1, false, by omega, by go_num, rfl, HI⟩, by simp [intOf]; omega⟩
                · have HI : Hid (InAt hs self s (k + 1) true) := .inl ⟨rfl, hit_held HT2.out he⟩
                  go_wp2
                  exact ⟨⟨k + 1, true, by omega, by go_num, rfl, HI⟩, by simp [intOf]; omega⟩
              · obtain rfl : k = hs.length := by omega
                have HI : Hid (tolds hs self (l.take (j + 1)) = c) := HE0.out (inAt_end hin.out)
                go_wp2
                exact ⟨⟨j + 1, by omega, by go_num, by rw [HI.out]⟩, by simp [intOf]; omega⟩
            · have HI : Hid (tolds hs self (l.take (j + 1)) = c + 1) := HE1.out (by
                rcases hin.out with ⟨_, h⟩ | ⟨h, _⟩
                · exact h
                · cases h)
              go_wp2
              all_goals exact ⟨⟨j + 1, by omega, by go_num, by rw [HI.out]; go_num⟩, by simp [intOf]; omega⟩
        · obtain rfl : j = l.length := by omega
          have hfull : l.take l.length = l := List.take_length
          rw [hfull] at hcnt2 ⊢
          clear hfull
          by_cases hN : need whole i l.length ≤ tolds hs self l
          · have H2 : Hid (madeTo hs self whole rows (i + 1) = true) := madeTo_step hmade.out hrow.out hN
            generalize tolds hs self l = c at *
            unfold need at hN
            cases whole
            · simp at hN
              go_wp2
              exact ⟨⟨i + 1, by omega, by go_num, H2⟩, by simp [intOf]; omega⟩
            · by_cases hi0 : i = 0
              · have hb0 : (((i : Int) == 0) : Bool) = true := beq_iff_eq.2 (by omega)
                simp [hi0] at hN
                go_wp2
                exact ⟨⟨i + 1, by omega, by go_num, H2⟩, by simp [intOf]; omega⟩
              · have hb0 : (((i : Int) == 0) : Bool) = false := beq_eq_false_iff_ne.2 (by omega)
                simp [hi0] at hN
                go_wp2
                exact ⟨⟨i + 1, by omega, by go_num, H2⟩, by simp [intOf]; omega⟩
          · have H2 : Hid (madeTo hs self whole rows rows.length = false) := madeTo_false hrow.out hN _ hlt
            generalize tolds hs self l = c at *
            unfold need at hN
            cases whole
            · simp at hN
              go_wp2
              go_ret
              exact ⟨ret_bool H2.out.symm, rfl⟩
            · by_cases hi0 : i = 0
              · have hb0 : (((i : Int) == 0) : Bool) = true := beq_iff_eq.2 (by omega)
                simp [hi0] at hN
                go_wp2
                go_ret
                exact ⟨ret_bool H2.out.symm, rfl⟩
              · have hb0 : (((i : Int) == 0) : Bool) = false := beq_eq_false_iff_ne.2 (by omega)
                simp [hi0] at hN
                go_wp2
                go_ret
                exact ⟨ret_bool H2.out.symm, rfl⟩
    · have H2 : Hid (madeTo hs self whole rows rows.length = true) := by
        obtain rfl : i = rows.length := by omega
        exact hmade
      go_wp2
      go_ret
      exact ⟨ret_bool H2.out.symm, rfl⟩
end Go.Proofs.YbulkcwvsFmt
