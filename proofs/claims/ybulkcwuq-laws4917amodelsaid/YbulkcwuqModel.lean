import Derived.Test.YbulkcwuqStr
namespace Go.Proofs.Ybulkcwuq
open Go.ChangeShapes Go.WideShapes Go.ChangeAt Go.RowKit

theorem okTo_step (ss ts : List ByteArray) (k c : Nat) (h : okTo ss ts k = decide (c = 0)) : okTo ss ts (k + 1) = decide ((if badAt ss ts k = true then c + 1 else c) = 0) := by
  rw [okTo, h]
  cases badAt ss ts k <;> simp

set_option maxHeartbeats 1000000 in
/-- The tail is no longer than the segments. -/
theorem model_short (a0 : Option Addr) (n cap0 : Nat) (ss : List ByteArray) (a1 : Option Addr) (m cap1 : Nat) (ts : List ByteArray) (w : World) (hs : StrRow w a0 n ss) (ht : StrRow w a1 m ts) (hn : n ≤ 1024) (hm : m ≤ 1024) (hmn : m ≤ n) :
    Calls Yba.prog 3 #[.slice a0 n cap0, .slice a1 m cap1] w fun e w' => e = .returned (.bool true) ∧ ∃ q, w' = w.drewN q := by
  have t1 : ¬ (1024 : Int) < (n : Int) := by omega
  have t2 : ¬ (1024 : Int) < (m : Int) := by omega
  have t3 : ¬ (n : Int) < (m : Int) := by omega
  have h5 := match_any a0 n cap0 ss a1 m cap1 ts w hs ht (by omega) (by omega) (fun j h1 h2 => by omega)
  have H5 : Hid _ := h5
  clear h5
  go_enter Yba.func3, Yba.ntmps3
  go_wp2_with (go_at_call 5; refine Calls.mono (Hid.out H5) ?_; rintro e w1 ⟨rfl, rfl⟩)
  clear H5
  go_loopw [7, 8] (fun x i w' => ∃ k c q : Nat, k ≤ m ∧ c ≤ k ∧ x = .int .i64 c ∧ i = .int .i64 k ∧ Hid (okTo ss ts k = decide (c = 0)) ∧ Hid (w' = w1.drewN q)) (fun _ i _ => m - (intOf i).toNat)
  case atStart => exact ⟨0, 0, 0, Nat.zero_le _, Nat.le_refl _, rfl, rfl, rfl, rfl⟩
  case round =>
    obtain ⟨k, c, q, hk, hck, rfl, rfl, hok, hw⟩ := hrel
    have hw2 := hw.out
    subst hw2
    clear hw
    by_cases hlt : k < m
    · obtain ⟨b, o, hx1, hc1, _⟩ := ht.at hlt
      cases hx1
      obtain ⟨b', o', hx2, hc2, _⟩ := hs.at (show k < n by omega)
      cases hx2
      have HST : Hid _ := okTo_step ss ts k c hok.out
      have HB : Hid (badAt ss ts k = (!star (ts.getD k ByteArray.empty) && !((ts.getD k ByteArray.empty).toList == (ss.getD k ByteArray.empty).toList))) := rfl
      have hlt' : (k : Int) < (m : Int) := by omega
      have hltn : (k : Int) < (n : Int) := by omega
      have hci : (c : Int) ≤ 1024 := by omega
      generalize ts.getD k ByteArray.empty = t at *
      generalize ss.getD k ByteArray.empty = s at *
      cases he : star t
      · have hst : (t.toList == [42]) = false := he
        cases heq : t.toList == s.toList
        · have H2 : Hid (okTo ss ts (k + 1) = decide (c + 1 = 0)) := by
            show _ = _
            rw [HST.out, if_pos (by rw [HB.out, he, heq]; rfl)]
          clear he
          go_wp2
          go_quiet (fail)
          go_wp2
          exact ⟨⟨k + 1, c + 1, q + nq, by omega, by omega, by go_num, by go_num, H2, show _ = _ from by simp [World.drewN]⟩, by simp [intOf]; omega⟩
        · have H2 : Hid (okTo ss ts (k + 1) = decide (c = 0)) := by
            show _ = _
            rw [HST.out, if_neg (by rw [HB.out, heq]; simp)]
          clear he
          go_wp2
          go_quiet (fail)
          go_wp2
          exact ⟨⟨k + 1, c, q + nq, by omega, by omega, rfl, by go_num, H2, show _ = _ from by simp [World.drewN]⟩, by simp [intOf]; omega⟩
      · have hst : (t.toList == [42]) = true := he
        have H2 : Hid (okTo ss ts (k + 1) = decide (c = 0)) := by
          show _ = _
          rw [HST.out, if_neg (by rw [HB.out, he]; simp)]
        clear he
        go_wp2
        go_quiet (fail)
        go_wp2
        exact ⟨⟨k + 1, c, q + nq, by omega, by omega, rfl, by go_num, H2, show _ = _ from by simp [World.drewN]⟩, by simp [intOf]; omega⟩
    · obtain rfl : k = m := by omega
      have hfin : (okTo ss ts k == ((c : Int) == 0)) = true := by
        rw [hok.out]
        by_cases h0 : c = 0
        · subst h0; rfl
        · have e1 : decide (c = 0) = false := decide_eq_false h0
          have e2 : ((c : Int) == 0) = false := beq_eq_false_iff_ne.2 (by omega)
          rw [e1, e2]
          rfl
      have HF : Hid _ := hfin
      clear hfin
      generalize okTo ss ts k = B at *
      go_wp2
      go_ret
      exact ⟨ret_bool HF.out, q, rfl⟩

set_option maxHeartbeats 1000000 in
/-- The tail is longer than the segments: it is cut. -/
theorem model_long (a0 : Option Addr) (n cap0 : Nat) (ss : List ByteArray) (a1 : Option Addr) (m cap1 : Nat) (ts : List ByteArray) (w : World) (hs : StrRow w a0 n ss) (ht0 : StrRow w a1 m ts) (hn : n ≤ 1024) (hm : m ≤ 1024) (hmn : n < m) (hmc : m ≤ cap1) :
    Calls Yba.prog 3 #[.slice a0 n cap0, .slice a1 m cap1] w fun e w' => e = .returned (.bool true) ∧ ∃ q, w' = w.drewN q := by
  have t1 : ¬ (1024 : Int) < (n : Int) := by omega
  have t2 : ¬ (1024 : Int) < (m : Int) := by omega
  have t3 : (n : Int) < (m : Int) := by omega
  have t4 : (n : Int) ≤ (cap1 : Int) := by omega
  obtain ⟨b1, o1, rfl, _, _⟩ := ht0.at (show 0 < m by omega)
  have ht := ht0.shorter (show n ≤ m by omega)
  have h5 := match_any a0 n cap0 ss (some ⟨b1, o1, none⟩) n cap1 ts w hs ht (by omega) (by omega) (fun j h1 h2 => by omega)
  have H5 : Hid _ := h5
  clear h5
  go_enter Yba.func3, Yba.ntmps3
  go_wp2_with (go_at_call 5; refine Calls.mono (Hid.out H5) ?_; rintro e w1 ⟨rfl, rfl⟩)
  clear H5
  go_loopw [7, 8] (fun x i w' => ∃ k c q : Nat, k ≤ n ∧ c ≤ k ∧ x = .int .i64 c ∧ i = .int .i64 k ∧ Hid (okTo ss ts k = decide (c = 0)) ∧ Hid (w' = w1.drewN q)) (fun _ i _ => n - (intOf i).toNat)
  case atStart => exact ⟨0, 0, 0, Nat.zero_le _, Nat.le_refl _, rfl, rfl, rfl, rfl⟩
  case round =>
    obtain ⟨k, c, q, hk, hck, rfl, rfl, hok, hw⟩ := hrel
    have hw2 := hw.out
    subst hw2
    clear hw
    by_cases hlt : k < n
    · obtain ⟨b, o, hx1, hc1, _⟩ := ht.at hlt
      cases hx1
      obtain ⟨b', o', hx2, hc2, _⟩ := hs.at (show k < n by omega)
      cases hx2
      have HST : Hid _ := okTo_step ss ts k c hok.out
      have HB : Hid (badAt ss ts k = (!star (ts.getD k ByteArray.empty) && !((ts.getD k ByteArray.empty).toList == (ss.getD k ByteArray.empty).toList))) := rfl
      have hlt' : (k : Int) < (n : Int) := by omega
      have hltn : (k : Int) < (n : Int) := by omega
      have hci : (c : Int) ≤ 1024 := by omega
      generalize ts.getD k ByteArray.empty = t at *
      generalize ss.getD k ByteArray.empty = s at *
      cases he : star t
      · have hst : (t.toList == [42]) = false := he
        cases heq : t.toList == s.toList
        · have H2 : Hid (okTo ss ts (k + 1) = decide (c + 1 = 0)) := by
            show _ = _
            rw [HST.out, if_pos (by rw [HB.out, he, heq]; rfl)]
          clear he
          go_wp2
          go_quiet (fail)
          go_wp2
          exact ⟨⟨k + 1, c + 1, q + nq, by omega, by omega, by go_num, by go_num, H2, show _ = _ from by simp [World.drewN]⟩, by simp [intOf]; omega⟩
        · have H2 : Hid (okTo ss ts (k + 1) = decide (c = 0)) := by
            show _ = _
            rw [HST.out, if_neg (by rw [HB.out, heq]; simp)]
          clear he
          go_wp2
          go_quiet (fail)
          go_wp2
          exact ⟨⟨k + 1, c, q + nq, by omega, by omega, rfl, by go_num, H2, show _ = _ from by simp [World.drewN]⟩, by simp [intOf]; omega⟩
      · have hst : (t.toList == [42]) = true := he
        have H2 : Hid (okTo ss ts (k + 1) = decide (c = 0)) := by
          show _ = _
          rw [HST.out, if_neg (by rw [HB.out, he]; simp)]
        clear he
        go_wp2
        go_quiet (fail)
        go_wp2
        exact ⟨⟨k + 1, c, q + nq, by omega, by omega, rfl, by go_num, H2, show _ = _ from by simp [World.drewN]⟩, by simp [intOf]; omega⟩
    · obtain rfl : k = n := by omega
      have hfin : (okTo ss ts k == ((c : Int) == 0)) = true := by
        rw [hok.out]
        by_cases h0 : c = 0
        · subst h0; rfl
        · have e1 : decide (c = 0) = false := decide_eq_false h0
          have e2 : ((c : Int) == 0) = false := beq_eq_false_iff_ne.2 (by omega)
          rw [e1, e2]
          rfl
      have HF : Hid _ := hfin
      clear hfin
      generalize okTo ss ts k = B at *
      go_wp2
      go_ret
      exact ⟨ret_bool HF.out, q, rfl⟩
end Go.Proofs.Ybulkcwuq
