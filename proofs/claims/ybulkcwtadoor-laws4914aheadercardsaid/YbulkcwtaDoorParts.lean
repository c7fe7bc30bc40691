import Derived.Test.YbulkcwtaDoorKeys
import Derived.Lib.SlBytesConst
import Derived.Deep.QuietTactic
import Derived.BigQuiet
namespace Go.Proofs.YbulkcwtaDoor
open Go.ChangeShapes Go.WideShapes Go.ChangeAt Go.RowKit

theorem add_block (a : Addr) (j : Nat) : (a.add j).block = a.block := by unfold Addr.add; split <;> rfl

set_option maxHeartbeats 400000 in
theorem pair_any (B : Nat) (v : Value) (l : List UInt8) (key : ByteArray) (ad : Addr) (m c : Nat) (ys : List UInt8) (w : World) (hown : Owns 5 B w v l) (hB : B ≤ w.heap.size) (hn : l.length ≤ 100000) (hk : key.size ≤ 100000) (hm : ys.length = m) (hm2 : m ≤ 1000)
    (hval : ∀ j u, (Lib.byteCells ys)[j]? = some u → w.cell? (ad.add j) = some u) (hne : v.ownBlock ≠ some ad.block) :
    Calls Ybad.prog 5 #[v, .string key, .slice (some ad) m c] w fun e w' => ∃ v', e = .returned v' ∧ Owns 5 B w' v' (l ++ keyBytes key.data.toList ++ ys) ∧ App l.length w v w' v' := by
  obtain ⟨i, hi, hz0, hz1, hz2⟩ := info_parts info5
  have hlt := fun g hg => (hown.lt g hg).2
  have hkl : key.data.toList.length = key.size := rfl
  have hl1 : (l ++ [44, 34]).length = l.length + 2 := by simp
  have hl2 : (l ++ [44, 34] ++ key.data.toList).length = l.length + 2 + key.size := by simp [hkl]; omega
  have hl3 : (l ++ [44, 34] ++ key.data.toList ++ [34, 58]).length = l.length + 2 + key.size + 2 := by simp [hkl]; omega
  go_enter Ybad.func5, Ybad.ntmps5
  go_wp2_with (first
    | (at_builtin; refine wpList_app _ rfl (.tmp 7) (.tmp 8) 22 rfl B 5 i Ybad.underlying22 hi hz0 hz1 hz2 v l rfl (World.ownsRow.alloc hown _) _ 2 _ [44, 34] rfl rfl (lit2 _ _ 44 34 _ _ rfl rfl) (by simp; omega) (by simp; omega) ?_; intro v1 w1 hown1 happ1)
    | (at_builtin; refine wpList_app_string _ rfl (.tmp 10) (.tmp 11) 22 9 rfl B 5 i Ybad.underlying22 Ybad.underlying9 hi hz0 hz1 hz2 v1 _ rfl hown1 key rfl (by rw [hl1]; omega) (by have := happ1.grown.size; simp at this; omega) ?_; intro v2 w2 hown2 happ2)
    | (at_builtin; refine wpList_app _ rfl (.tmp 13) (.tmp 14) 22 rfl B 5 i Ybad.underlying22 hi hz0 hz1 hz2 v2 _ rfl (World.ownsRow.alloc hown2 _) _ 2 _ [34, 58] rfl rfl (lit2 _ _ 34 58 _ _ rfl rfl) (by rw [hl2]; simp; omega) (by have q1 := happ1.grown.size; have q2 := happ2.grown.size; simp at q1 q2 ⊢; omega) ?_; intro v3 w3 hown3 happ3
       have k1 : App l.length w v w1 v1 := (App.alloc w v _ hlt).trans happ1 (Nat.le_refl _) hlt
       have k2 : App l.length w v w2 v2 := k1.trans happ2 (by rw [hl1]; omega) hlt
       have k3 : App l.length w v w3 v3 := (k2.trans (App.alloc (n := l.length) w2 v2 (Obj.cells #[.int .u8 34, .int .u8 58] 5) (fun g hg => (hown2.lt g hg).2)) (by omega) hlt).trans happ3 (by rw [hl2]; omega) hlt)
    | (at_builtin; refine wpList_app _ rfl (.tmp 16) (.tmp 17) 22 rfl B 5 i Ybad.underlying22 hi hz0 hz1 hz2 v3 _ rfl hown3 ad m c ys rfl hm (fun j u hj => k3.grown.cell (hval j u hj) (by rw [add_block]; exact Ne.symm hne)) (by rw [hl3]; omega) (by have := k3.grown.size; omega) ?_; intro v4 w4 hown4 happ4))
  refine bodyPost_ret (v := v4) (by simp [results, Ybad.results5, go_sem]) rfl ⟨v4, rfl, ?_, k3.trans happ4 (by rw [hl3]; omega) hlt⟩
  simpa [keyBytes, List.append_assoc] using hown4

/-- A slice of bytes, by the list of its bytes: nil and empty, or from an address on. -/
structure Row (w : World) (a : Option Addr) (l : List UInt8) : Prop where
  isNil : a = none → l = []
  cell : ∀ x, a = some x → ∀ j (h : j < l.length), w.cell? (x.add j) = some (.int .u8 (l[j].toNat : Int))

theorem Row.at {w : World} {a0 : Option Addr} {l : List UInt8} (h : Row w a0 l) {j : Nat} (hj : j < l.length) : ∃ b o, a0 = some ⟨b, o, none⟩ ∧ w.cell? ⟨b, o + j, none⟩ = some (.int .u8 (l[j].toNat : Int)) := by
  cases a0 with
  | none => have := h.isNil rfl; subst this; simp at hj
  | some x =>
    have c0 := h.cell x rfl 0 (by omega)
    have cj := h.cell x rfl j hj
    obtain ⟨b, o, spot⟩ := x
    have hspot : spot = none := by simpa [Addr.add] using World.cell?_spot c0
    subst hspot
    rw [Addr.add_lit] at cj
    exact ⟨b, o, rfl, cj⟩

theorem Row.below {w w' : World} {a0 : Option Addr} {l : List UInt8} (h : Row w a0 l) {B : Nat} (hb : Below B w w') (hlt : ∀ x, a0 = some x → l ≠ [] → x.block < B) : Row w' a0 l :=
  ⟨h.isNil, fun x hx j hj => by
    rw [hb.cell (by rw [add_block]; exact hlt x hx (by intro e; subst e; simp at hj))]
    exact h.cell x hx j hj⟩

theorem Row.lt {w : World} {a0 : Option Addr} {l : List UInt8} (h : Row w a0 l) : ∀ x, a0 = some x → l ≠ [] → x.block < w.heap.size := by
  intro x hx hl
  have hl0 : 0 < l.length := List.length_pos_iff.2 hl
  have := World.block_lt_of_cell? w _ (h.cell x hx 0 hl0)
  rwa [add_block] at this

theorem Owns.row {e : TypeId} {B : Nat} {w : World} {a : Option Addr} {n cap : Nat} {l : List UInt8} (h : Owns e B w (.slice a n cap) l) : Row w a l ∧ n = l.length := by
  rcases h.form' with ⟨hv, rfl⟩ | ⟨g, cap', hv, hb, hg⟩
  · simp only [Value.slice.injEq] at hv
    obtain ⟨rfl, rfl, rfl⟩ := hv
    exact ⟨⟨fun _ => rfl, fun x hx => by cases hx⟩, rfl⟩
  · have hv2 := hv
    simp only [Value.slice.injEq] at hv
    obtain ⟨rfl, rfl, rfl⟩ := hv
    refine ⟨⟨(fun h => by cases h), (fun x hx j hj => ?_)⟩, rfl⟩
    cases hx
    rw [Addr.add_lit, Nat.zero_add]
    exact h.cell hv2 hj

theorem belowN {B : Nat} {a w : World} (h : Below B a w) (k : Nat) : Below B a (w.drewN k) := ⟨h.os, h.tape, h.output, h.size, h.block⟩

set_option maxHeartbeats 400000 in
theorem eq_any (a0 : Option Addr) (c0 : Nat) (a1 : Option Addr) (c1 : Nat) (l : List UInt8) (w : World) (h0 : Row w a0 l) (h1 : Row w a1 l) (hn : l.length ≤ 1000000) :
    Calls Ybad.prog 8 #[.slice a0 l.length c0, .slice a1 l.length c1] w fun e w' => e = .returned (.bool true) ∧ ∃ k, w' = w.drewN k := by
  go_enter Ybad.func8, Ybad.ntmps8
  go_wp2
  go_loopw [5] (fun i w' => ∃ k q : Nat, k ≤ l.length ∧ i = .int .i64 k ∧ Hid (w' = w.drewN q)) (fun i _ => l.length - (intOf i).toNat)
  case atStart => exact ⟨0, 0, Nat.zero_le _, rfl, rfl⟩
  case round =>
    obtain ⟨k, q, hk, rfl, hw⟩ := hrel
    have hw2 := hw.out
    subst hw2
    clear hw
    by_cases hlt : k < l.length
    · obtain ⟨b, o, rfl, hc1⟩ := h0.at hlt
      obtain ⟨b', o', rfl, hc2⟩ := h1.at hlt
      have hlt' : (k : Int) < (l.length : Int) := by omega
      have hc3 : (w.drewN q).cell? ⟨b, o + k, none⟩ = some (.int .u8 (l[k].toNat : Int)) := by rw [World.cell?_drewN]; exact hc1
      have hc4 : (w.drewN q).cell? ⟨b', o' + k, none⟩ = some (.int .u8 (l[k].toNat : Int)) := by rw [World.cell?_drewN]; exact hc2
      generalize (l[k].toNat : Int) = x at hc1 hc2 hc3 hc4
      go_wp2
      go_quiet (fail)
      go_wp2
      exact ⟨⟨k + 1, q + nq, by omega, by go_num, show _ = _ from by simp [World.drewN]⟩, by simp [intOf]; omega⟩
    · go_wp2
      go_ret
      exact ⟨rfl, q, rfl⟩

set_option maxHeartbeats 400000 in
theorem abool_any (b : Bool) (w : World) :
    Calls Ybad.prog 7 #[.bool b] w fun e w' => e = .returned (.slice (some ⟨w.heap.size, 0, none⟩) (boolBytes b).length (boolBytes b).length) ∧ Below w.heap.size w w' ∧ w.heap.size < w'.heap.size ∧ ∀ j u, (Lib.byteCells (boolBytes b))[j]? = some u → w'.cell? ((⟨w.heap.size, 0, none⟩ : Addr).add j) = some u := by
  have hcv := fun (w : World) (C : Array Value) (n c : Nat) => Lib.run_convert_bytes_const (P := Ybad.prog) w 22 5 C n c Ybad.underlying22 Ybad.underlying5
  have fin : ∀ (l : List UInt8) (fr : Nat × Nat), ∀ j u, (Lib.byteCells l)[j]? = some u → (w.alloc (.cells (Lib.byteCells l).toArray 5 fr)).cell? ((⟨w.heap.size, 0, none⟩ : Addr).add j) = some u := by
    intro l fr j u hj
    rw [Addr.add_lit, Nat.zero_add, cell_of_row _ _ j (Lib.byteCells l).toArray 5 fr (heap_alloc_new w _)]
    simpa using hj
  have FIN : Hid _ := fin
  clear fin
  cases b
  · go_enter Ybad.func7, Ybad.ntmps7
    go_wp2
    go_ret
    exact ⟨rfl, (Below.refl _ _).alloc (Nat.le_refl _) _, by simp, FIN.out [102, 97, 108, 115, 101] (5, 6)⟩
  · go_enter Ybad.func7, Ybad.ntmps7
    go_wp2
    go_ret
    exact ⟨rfl, (Below.refl _ _).alloc (Nat.le_refl _) _, by simp, FIN.out [116, 114, 117, 101] (4, 5)⟩
end Go.Proofs.YbulkcwtaDoor
