import Derived.Test.YbulkcwtaBuild
namespace Go.Proofs.Ybulkcwta
open Go.ChangeShapes Go.WideShapes Go.ChangeAt Go.RowKit

/-- Is every one of qs among ks? -/
def allB (ks qs : List ByteArray) : Bool := qs.all fun q => memB ks q
theorem allB_snoc (ks qs : List ByteArray) (q : ByteArray) : allB ks (qs ++ [q]) = (allB ks qs && memB ks q) := by simp [allB]

theorem allB_take (ks ss : List ByteArray) (k n : Nat) (t : ByteArray) (hk : k + 1 ≤ n) (h1 : ss.take (k + 1) = ss.take k ++ [t]) (he : memB ks t = false) : allB ks (ss.take n) = false := by
  have : ss.take n = ss.take (k + 1) ++ (ss.drop (k + 1)).take (n - (k + 1)) := by
    rw [← List.take_add, show k + 1 + (n - (k + 1)) = n by omega]
  rw [this, h1]
  simp [allB, he]

set_option maxHeartbeats 400000 in
theorem has_any (m : Value) (ks : List ByteArray) (a0 : Option Addr) (n cap : Nat) (ss : List ByteArray) (w : World) (hr : StrRow w a0 n ss) (hn : n ≤ 1000000)
    (hlook : ∀ s : ByteArray, s.size ≤ maxLen → ∃ v, (Instr.lookup 27 m (.string s) true).run Yba.prog w = .ok (.tuple #[v, .bool (memB ks s)]) w) :
    Calls Yba.prog 8 #[m, .slice a0 n cap] w fun e w' => e = .returned (.bool (allB ks (ss.take n))) ∧ w' = w := by
  have hl := hr.len
  go_enter Yba.func8, Yba.ntmps8
  go_wp2
  go_loop [11] (fun i => ∃ k : Nat, k ≤ n ∧ i = .int .i64 k ∧ Hid (allB ks (ss.take k) = true)) (fun i => n - (intOf i).toNat)
  case atStart => exact ⟨0, Nat.zero_le _, rfl, rfl⟩
  case round =>
    obtain ⟨k, hk, rfl, hno⟩ := hrel
    by_cases hlt : k < n
    · obtain ⟨b, o, rfl, hc, hsz⟩ := hr.at hlt
      have HT : Hid (ss.take (k + 1) = ss.take k ++ [ss.getD k ByteArray.empty]) := take_snoc ss _ k (by omega)
      generalize ss.getD k ByteArray.empty = t at *
      obtain ⟨v, hv⟩ := hlook t hsz
      cases he : memB ks t
      · have H2 : Hid (allB ks (ss.take n) = false) := allB_take ks ss k n t (by omega) HT.out he
        rw [he] at hv
        clear he hlook
        go_wp2
        go_ret
        exact ⟨ret_bool H2.out.symm, rfl⟩
      · have H2 : Hid (allB ks (ss.take (k + 1)) = true) := by
          show _ = _
          rw [HT.out, allB_snoc, hno.out, he]
          rfl
        rw [he] at hv
        clear he hlook
        go_wp2
        exact ⟨⟨k + 1, by omega, by go_num, H2⟩, by simp [intOf]; omega⟩
    · have H2 : Hid (allB ks (ss.take n) = true) := by
        obtain rfl : k = n := by omega
        exact hno
      go_wp2
      go_ret
      exact ⟨ret_bool H2.out.symm, rfl⟩

theorem zero33 (w : World) : (zeroValue 33).run Yba.prog w = .ok (.slice none 0 0) w := by
  have h : (Yba.prog.info? 33).map (fun i => i.zero) = some (some (.slice none 0 0)) := by kernel_rfl
  obtain ⟨i, hi, hz⟩ := Option.map_eq_some_iff.1 h
  simp [zeroValue, typeInfo, hi, hz]

theorem look_some {w : World} {b n : Nat} {ks : List ByteArray} (h : KeySet w Yba.prog 9 b n ks) : ∀ s : ByteArray, s.size ≤ maxLen → ∃ v, (Instr.lookup 27 (.map (some b)) (.string s) true).run Yba.prog w = .ok (.tuple #[v, .bool (memB ks s)]) w :=
  fun s hs => h.look Yba.underlying9 Yba.underlying27 (zero33 w) s hs

theorem look_nil (w : World) : ∀ s : ByteArray, s.size ≤ maxLen → ∃ v, (Instr.lookup 27 (.map none) (.string s) true).run Yba.prog w = .ok (.tuple #[v, .bool (memB [] s)]) w := by
  intro s hs
  refine ⟨.slice none 0 0, ?_⟩
  have hkey := WideMaps.keyOf_string_mk Yba.underlying9 hs
  rcases (Maps.string_keyed Yba.underlying9).find w hkey [] (by simp) with ⟨h1, _⟩ | ⟨j, e0, _, h2, _⟩
  · simp [Instr.lookup, run_underlying Yba.underlying27, (Maps.string_keyed Yba.underlying9).check w _ hkey, h1, memB, Result.andThen]
  · simp at h2
end Go.Proofs.Ybulkcwta
