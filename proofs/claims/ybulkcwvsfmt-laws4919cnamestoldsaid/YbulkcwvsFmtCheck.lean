import Derived.Test.YbulkcwvsFmtShort
namespace Go.Proofs.YbulkcwvsFmt
open Go.RowKit
open Go.Extern.Stop Go.Stop Go.Extern

set_option maxRecDepth 100000 in
set_option maxHeartbeats 2000000 in
theorem check_any (F : Interp) (G : Nat) (rows : List (Option Addr × List ByteArray)) (ha : Option Addr) (hs : List ByteArray) (hc : Nat) (self : ByteArray) (whole : Bool) (w : World) (hF : F.answers w.tape)
    (hg : Grp w G rows) (hh : SRow w ha hs) (hcap : ha = none → hc = 0) (hsz : ∀ s ∈ hs, s.size ≤ 1) (hn : rows.length ≤ 256) (hm : hs.length ≤ 1024) :
    Calls Ybaf.prog 14 #[.slice (some ⟨G, 0, none⟩) rows.length rows.length, .slice ha hs.length hc, .string self, .bool whole] w fun e w' =>
      e = .returned (.bool true) ∧ Below w.heap.size w w' := by
  have hb1 : ∀ o, Below w.heap.size w (w.alloc o) := fun o => (Below.refl _ _).alloc (Nat.le_refl _) o
  go_enter Ybaf.func14, Ybaf.ntmps14
  go_wp2_with fail
  refine (held_any ha hs hc _ (hh.below (hb1 _)) hcap (by omega) hsz).mono ?_
  rintro e w2 ⟨mo, rfl, hold, hb2⟩
  have hp : w2.cell? ⟨w.heap.size, 1, none⟩ = some (.string self) := by
    rw [hb2.cell (by simp)]
    simp
  have hb3 : Below w.heap.size w w2 := (hb1 _).trans (hb2.mono (by simp))
  clear hb2 hb1
  have hF2 : F.answers w2.tape := by rw [hb3.tape]; exact hF
  go_wp2_with fail
  refine (short_any F w.heap.size G rows mo hs self whole w2 hF2 (hg.below hb3) hold hp hn).mono ?_
  rintro e w3 ⟨⟨v, rfl, hv⟩, hb4⟩
  have hb5 : Below w.heap.size w w3 := hb3.trans (hb4.mono hb3.size)
  clear hb4 hb3 hp hold hF2
  have h23 : ∀ n, Calls Ybaf.prog 23 #[.slice (some ⟨G, 0, none⟩) rows.length rows.length, .slice ha hs.length hc, .string self, .bool whole] (w3.drewN n) fun e w' => e = .returned (.bool (madeTo hs self whole rows rows.length)) ∧ w' = w3.drewN n :=
    fun n => model_any G rows ha hs hc self whole _ (hg.below (belowN hb5 n)) (hh.below (belowN hb5 n)) hn hm
  rcases hv with ⟨rfl, hM⟩ | ⟨x, rfl, hM⟩
  · rw [hM] at h23
    have H23 : Hid _ := h23
    clear h23 hM hg hh hcap hsz
    go_wp2
    go_quiet ((go_at_call 23; exact Calls.quiet_of_same (Hid.out H23 _)))
    go_wp2
    go_ret
    exact ⟨rfl, belowN hb5 _⟩
  · rw [hM] at h23
    have H23 : Hid _ := h23
    clear h23 hM hg hh hcap hsz
    go_wp2
    go_quiet ((go_at_call 23; exact Calls.quiet_of_same (Hid.out H23 _)))
    go_wp2
    go_ret
    exact ⟨rfl, belowN hb5 _⟩
end Go.Proofs.YbulkcwvsFmt
