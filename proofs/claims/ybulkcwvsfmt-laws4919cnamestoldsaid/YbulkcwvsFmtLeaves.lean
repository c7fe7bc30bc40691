import Derived.Test.YbulkcwvsFmtStr
import Derived.Test.YbulkcwvsFmtShelf
namespace Go.Proofs.YbulkcwvsFmt
open Go.RowKit

/-- The four names. -/
def nm (x : Nat) : ByteArray := if x % 4 = 0 then ⟨#[97]⟩ else if x % 4 = 1 then ⟨#[98]⟩ else if x % 4 = 2 then ⟨#[99]⟩ else ⟨#[100]⟩
theorem nm_size (x : Nat) : (nm x).size = 1 := by
  unfold nm
  split
  · rfl
  · split
    · rfl
    · split <;> rfl

set_option maxHeartbeats 400000 in
theorem name_any (x : Nat) (w : World) (hx : x ≤ 255) : Calls Ybaf.prog 13 #[.int .u8 x] w fun e w' => e = .returned (.string (nm x)) ∧ w' = w := by
  have hxi : (x : Int) ≤ 255 := by omega
  by_cases h0 : x % 4 = 0
  · have b0 : (((x : Int) % 4 == 0) : Bool) = true := beq_iff_eq.2 (by omega)
    have H : Hid (nm x = ⟨#[97]⟩) := by show _ = _; rw [nm, if_pos h0]
    go_enter Ybaf.func13, Ybaf.ntmps13
    go_wp2
    go_ret
    exact ⟨by rw [H.out]; rfl, rfl⟩
  · have b0 : (((x : Int) % 4 == 0) : Bool) = false := beq_eq_false_iff_ne.2 (by omega)
    by_cases h1 : x % 4 = 1
    · have b1 : (((x : Int) % 4 == 1) : Bool) = true := beq_iff_eq.2 (by omega)
      have H : Hid (nm x = ⟨#[98]⟩) := by show _ = _; rw [nm, if_neg h0, if_pos h1]
      go_enter Ybaf.func13, Ybaf.ntmps13
      go_wp2
      go_ret
      exact ⟨by rw [H.out]; rfl, rfl⟩
    · have b1 : (((x : Int) % 4 == 1) : Bool) = false := beq_eq_false_iff_ne.2 (by omega)
      by_cases h2 : x % 4 = 2
      · have b2 : (((x : Int) % 4 == 2) : Bool) = true := beq_iff_eq.2 (by omega)
        have H : Hid (nm x = ⟨#[99]⟩) := by show _ = _; rw [nm, if_neg h0, if_neg h1, if_pos h2]
        go_enter Ybaf.func13, Ybaf.ntmps13
        go_wp2
        go_ret
        exact ⟨by rw [H.out]; rfl, rfl⟩
      · have b2 : (((x : Int) % 4 == 2) : Bool) = false := beq_eq_false_iff_ne.2 (by omega)
        have H : Hid (nm x = ⟨#[100]⟩) := by show _ = _; rw [nm, if_neg h0, if_neg h1, if_neg h2]
        go_enter Ybaf.func13, Ybaf.ntmps13
        go_wp2
        go_ret
        exact ⟨by rw [H.out]; rfl, rfl⟩

set_option maxHeartbeats 400000 in
theorem majority_any (a : Option Addr) (n c : Nat) (w : World) (hn : n ≤ 100000) : Calls Ybaf.prog 40 #[.slice a n c] w fun e w' => e = .returned (.int .i64 ((n / 2 + 1 : Nat) : Int)) ∧ w' = w := by
  go_enter Ybaf.func40, Ybaf.ntmps40
  go_wp2
  go_ret
  exact ⟨rfl, rfl⟩

theorem lens_small : ∀ (l : List ByteArray), (∀ s ∈ l, s.size ≤ 1) → Lib.lens (l.map (·.data.toList)) ≤ l.length
  | [], _ => by simp [Lib.lens]
  | a :: l, h => by
    have h1 := lens_small l (fun s hs => h s (List.mem_cons_of_mem _ hs))
    have h2 := h a (List.mem_cons_self ..)
    have e : a.data.toList.length = a.size := rfl
    simp [Lib.lens] at h1 ⊢
    omega

/-- strings.Join at small strings, whatever the slice. -/
theorem join_any (a : Option Addr) (l : List ByteArray) (c : Nat) (w : World) (hr : SRow w a l) (hl : l.length ≤ 256) (hc : l.length ≤ c) (hs : ∀ s ∈ l, s.size ≤ 1) :
    Calls Ybaf.prog 48 #[.slice a l.length c, .string ⟨#[44]⟩] w fun e w' => ∃ s, e = .returned (.string s) ∧ Below w.heap.size w w' := by
  cases l with
  | nil =>
    refine (Ybaf.strings_Join_none a c ⟨#[44]⟩ w).mono ?_
    rintro e w' ⟨rfl, rfl⟩
    exact ⟨_, rfl, Below.refl _ _⟩
  | cons x r =>
    obtain ⟨b, o, rfl, hc0⟩ := hr.at (show 0 < (x :: r).length by simp)
    have hb := World.block_lt_of_cell? w _ hc0
    have hlen : (Lib.join ((x :: r).map (·.data.toList)) (⟨#[44]⟩ : ByteArray).data.toList).length ≤ 140737488355328 := by
      rw [List.map_cons, Lib.join_length, ← List.map_cons (f := (fun (s : ByteArray) => s.data.toList))]
      have h1 := lens_small (x :: r) hs
      have h2 : ((⟨#[44]⟩ : ByteArray).data.toList).length = 1 := rfl
      rw [h2]
      simp at hl h1 ⊢
      omega
    refine (Ybaf.strings_Join b o c (x :: r) ⟨#[44]⟩ w ?_ hb (by omega) hc hlen).mono ?_
    · intro j y hj
      obtain ⟨hj1, rfl⟩ := List.getElem?_eq_some_iff.1 hj
      obtain ⟨b', o', e, h⟩ := hr.at hj1
      cases e
      exact h
    · rintro e w' ⟨rfl, h⟩
      exact ⟨_, rfl, h⟩

set_option maxHeartbeats 400000 in
theorem groupName_any (a : Option Addr) (l : List ByteArray) (c : Nat) (w : World) (hr : SRow w a l) (hl : l.length ≤ 256) (hc : l.length ≤ c) (hs : ∀ s ∈ l, s.size ≤ 1) :
    Calls Ybaf.prog 41 #[.slice a l.length c] w fun e w' => ∃ s, e = .returned (.string s) ∧ Below w.heap.size w w' := by
  have H : Hid _ := join_any a l c w hr hl hc hs
  go_enter Ybaf.func41, Ybaf.ntmps41
  go_wp2_with (go_at_call 48; refine Calls.mono (Hid.out H) ?_; rintro e w1 ⟨s, rfl, hb⟩)
  go_ret
  exact ⟨s, rfl, hb⟩

set_option maxHeartbeats 400000 in
theorem held_nil (w : World) : Calls Ybaf.prog 22 #[.slice none 0 0] w fun e w' => e = .returned (.map none) ∧ w' = w := by
  have hnil : ∀ w, (binOp .eql 63 (.slice none 0 0) (.slice none 0 0)).run Ybaf.prog w = .ok (.bool true) w := fun w => Lib.run_eql_slice_nil w 63 9 none 0 0 0 0 Ybaf.underlying63
  go_enter Ybaf.func22, Ybaf.ntmps22
  go_wp2
  go_ret
  exact ⟨rfl, rfl⟩

theorem run_makeMap_hint (w : World) (n : Nat) : (Instr.makeMap 114 (some (.int .i64 n))).run Ybaf.prog w = .ok (.map (some w.heap.size)) (w.alloc (.map #[] 0)) := by
  simp [Instr.makeMap, run_underlying Ybaf.underlying114, asInt, asIntOf]

set_option maxHeartbeats 1000000 in
theorem held_some (x : Addr) (l : List ByteArray) (cap : Nat) (w : World) (hr : SRow w (some x) l) (hn : l.length ≤ 1000000) (hs : ∀ s ∈ l, s.size ≤ 1) :
    Calls Ybaf.prog 22 #[.slice (some x) l.length cap] w fun e w' => e = .returned (.map (some w.heap.size)) ∧ KeySet w' Ybaf.prog 9 zH w.heap.size l.length l ∧ Below w.heap.size w w' := by
  have hnil : ∀ w, (binOp .eql 63 (.slice (some x) l.length cap) (.slice none 0 0)).run Ybaf.prog w = .ok (.bool false) w := fun w => Lib.run_eql_slice_nil w 63 9 (some x) l.length cap 0 0 Ybaf.underlying63
  have hmk := fun w => run_makeMap_hint w l.length
  go_enter Ybaf.func22, Ybaf.ntmps22
  go_wp2
  go_loopw [4] (fun i w' => ∃ k : Nat, k ≤ l.length ∧ i = .int .i64 k ∧ KeySet w' Ybaf.prog 9 zH w.heap.size k (l.take k) ∧ Below w.heap.size w w') (fun i _ => l.length - (intOf i).toNat)
  case atStart => exact ⟨0, Nat.zero_le _, rfl, keySet_made w _ _ _, (Below.refl _ _).alloc (Nat.le_refl _) _⟩
  case round =>
    obtain ⟨k, hk, rfl, hown, hb⟩ := hrel
    by_cases hlt : k < l.length
    · obtain ⟨b, o, hx, hc⟩ := (hr.below hb).at hlt
      cases hx
      have hsz : l[k].size ≤ maxLen := by have := hs l[k] (List.getElem_mem hlt); unfold maxLen; omega
      have HT : Hid _ := take_snoc l k hlt
      generalize l[k] = t at *
      have hkm : k < maxLen := by unfold maxLen; omega
      have hlt' : (k : Int) < (l.length : Int) := by omega
      go_wp2_with (at_mapUpdate; refine wpList_put _ rfl (.tmp 16) (.tmp 20) (.tmp 21) 114 rfl 9 141 zH Ybaf.underlying9 Ybaf.underlying114 w.heap.size k _ rfl hown hkm t hsz rfl rfl ?_; intro w1 hown1 hgr1)
      go_roundw
      case rel => exact ⟨k + 1, by omega, by go_num, by rw [HT.out]; exact hown1, hb.grown hgr1 hb.size (fun q hq => by cases hq; exact Nat.le_refl _)⟩
      case measure => simp [intOf]; omega
    · have ek : k = l.length := by omega
      have HF : Hid (KeySet wr Ybaf.prog 9 zH w.heap.size l.length l) := by
        have h2 := hown
        rw [ek, List.take_length] at h2
        exact h2
      clear ek
      go_wp2
      go_ret
      exact ⟨rfl, HF.out, hb⟩

theorem held_any (a : Option Addr) (l : List ByteArray) (cap : Nat) (w : World) (hr : SRow w a l) (hcap : a = none → cap = 0) (hn : l.length ≤ 1000000) (hs : ∀ s ∈ l, s.size ≤ 1) :
    Calls Ybaf.prog 22 #[.slice a l.length cap] w fun e w' => ∃ mo, e = .returned (.map mo) ∧ HoldsKeys w' mo l ∧ Below w.heap.size w w' := by
  cases a with
  | none =>
    obtain rfl := hr.isNil rfl
    obtain rfl := hcap rfl
    refine (held_nil w).mono ?_
    rintro e w' ⟨rfl, rfl⟩
    exact ⟨none, rfl, .inl ⟨rfl, rfl⟩, Below.refl _ _⟩
  | some x =>
    refine (held_some x l cap w hr hn hs).mono ?_
    rintro e w' ⟨rfl, h1, h2⟩
    exact ⟨_, rfl, .inr ⟨_, _, rfl, h1⟩, h2⟩
end Go.Proofs.YbulkcwvsFmt
