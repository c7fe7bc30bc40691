import Derived.Test.YbulkcwtaDoorRows
import Derived.Test.YbulkcwtaDoorOwn
import Derived.Test.YbulkcwtaDoorShelf
import Derived.WalkKit
import Derived.ProofKit
namespace Go.Proofs.YbulkcwtaDoor
open Go.ChangeShapes Go.WideShapes Go.ChangeAt Go.RowKit

theorem info5 : (Ybad.prog.info? 5).map (fun i => (i.zero, i.size, i.bytes)) = some (some (.int .u8 0), 1, 1) := by kernel_rfl

/-- What appendKey appends. -/
def keyBytes (key : List UInt8) : List UInt8 := [44, 34] ++ key ++ [34, 58]

theorem lit2 (w : World) (t : TypeId) (a b : UInt8) (x y : Int) (ha : x = (a.toNat : Int)) (hb : y = (b.toNat : Int)) : ∀ j u, (Lib.byteCells [a, b])[j]? = some u → (w.alloc (.cells #[.int .u8 x, .int .u8 y] t)).cell? ((⟨w.heap.size, 0, none⟩ : Addr).add j) = some u := by
  subst ha; subst hb
  exact lit_new w [a, b] t

set_option maxHeartbeats 400000 in
theorem appendKey_any (B : Nat) (v : Value) (l : List UInt8) (key : ByteArray) (w : World) (hown : Owns 5 B w v l) (hB : B ≤ w.heap.size) (hn : l.length ≤ 100000) (hk : key.size ≤ 100000) :
    Calls Ybad.prog 12 #[v, .string key] w fun e w' => ∃ v', e = .returned v' ∧ Owns 5 B w' v' (l ++ keyBytes key.data.toList) ∧ App l.length w v w' v' := by
  obtain ⟨i, hi, hz0, hz1, hz2⟩ := info_parts info5
  have hlt := fun g hg => (hown.lt g hg).2
  have hkl : key.data.toList.length = key.size := rfl
  have hl1 : (l ++ [44, 34]).length = l.length + 2 := by simp
  have hl2 : (l ++ [44, 34] ++ key.data.toList).length = l.length + 2 + key.size := by simp [hkl]; omega
  go_enter Ybad.func12, Ybad.ntmps12
  go_wp2_with (first
    | (at_builtin; refine wpList_app _ rfl (.tmp 5) (.tmp 6) 22 rfl B 5 i Ybad.underlying22 hi hz0 hz1 hz2 v l rfl (World.ownsRow.alloc hown _) _ 2 _ [44, 34] rfl rfl (lit2 _ _ 44 34 _ _ rfl rfl) (by simp; omega) (by simp; omega) ?_; intro v1 w1 hown1 happ1)
    | (at_builtin; refine wpList_app_string _ rfl (.tmp 8) (.tmp 9) 22 9 rfl B 5 i Ybad.underlying22 Ybad.underlying9 hi hz0 hz1 hz2 v1 _ rfl hown1 key rfl (by rw [hl1]; omega) (by have := happ1.grown.size; simp at this; omega) ?_; intro v2 w2 hown2 happ2)
    | (at_builtin; refine wpList_app _ rfl (.tmp 11) (.tmp 12) 22 rfl B 5 i Ybad.underlying22 hi hz0 hz1 hz2 v2 _ rfl (World.ownsRow.alloc hown2 _) _ 2 _ [34, 58] rfl rfl (lit2 _ _ 34 58 _ _ rfl rfl) (by rw [hl2]; simp; omega) (by have q1 := happ1.grown.size; have q2 := happ2.grown.size; simp at q1 q2 ⊢; omega) ?_; intro v3 w3 hown3 happ3))
  have hlt2 := fun g hg => (hown2.lt g hg).2
  refine bodyPost_ret (v := v3) (by simp [results, Ybad.results12, go_sem]) rfl ⟨v3, rfl, ?_, ?_⟩
  · simpa [keyBytes, List.append_assoc] using hown3
  · have k1 : App l.length w v w1 v1 := (App.alloc w v _ hlt).trans happ1 (Nat.le_refl _) hlt
    have k2 : App l.length w v w2 v2 := k1.trans happ2 (by rw [hl1]; omega) hlt
    exact (k2.trans (App.alloc (n := l.length) w2 v2 (Obj.cells #[.int .u8 34, .int .u8 58] 5) hlt2) (by omega) hlt).trans happ3 (by rw [hl2]; omega) hlt

/-- A bool as text. -/
def boolBytes (b : Bool) : List UInt8 := if b then [116, 114, 117, 101] else [102, 97, 108, 115, 101]

set_option maxHeartbeats 400000 in
theorem appBool15 (B : Nat) (v : Value) (l : List UInt8) (b : Bool) (w : World) (hown : Owns 5 B w v l) (hB : B ≤ w.heap.size) (hn : l.length ≤ 200000) :
    Calls Ybad.prog 15 #[v, .bool b] w fun e w' => ∃ v', e = .returned v' ∧ Owns 5 B w' v' (l ++ boolBytes b) ∧ Below B w w' := by
  obtain ⟨i, hi, hz0, hz1, hz2⟩ := info_parts info5
  cases b
  · go_enter Ybad.func15, Ybad.ntmps15
    go_wp2_with (at_builtin; refine wpList_app_string _ rfl (.tmp 8) _ 22 9 rfl B 5 i Ybad.underlying22 Ybad.underlying9 hi hz0 hz1 hz2 v l rfl hown ⟨#[102, 97, 108, 115, 101]⟩ rfl (by simp [ByteArray.size]; omega) hB ?_; intro v1 w1 hown1 happ1)
    exact bodyPost_ret (v := v1) (by simp [results, Ybad.results15, go_sem]) rfl ⟨v1, rfl, hown1, happ1.below hB (fun k hk => (hown.lt k hk).1)⟩
  · go_enter Ybad.func15, Ybad.ntmps15
    go_wp2_with (at_builtin; refine wpList_app_string _ rfl (.tmp 6) _ 22 9 rfl B 5 i Ybad.underlying22 Ybad.underlying9 hi hz0 hz1 hz2 v l rfl hown ⟨#[116, 114, 117, 101]⟩ rfl (by simp [ByteArray.size]; omega) hB ?_; intro v1 w1 hown1 happ1)
    exact bodyPost_ret (v := v1) (by simp [results, Ybad.results15, go_sem]) rfl ⟨v1, rfl, hown1, happ1.below hB (fun k hk => (hown.lt k hk).1)⟩

set_option maxHeartbeats 400000 in
theorem appBool13 (B : Nat) (v : Value) (l : List UInt8) (b : Bool) (w : World) (hown : Owns 5 B w v l) (hB : B ≤ w.heap.size) (hn : l.length ≤ 200000) :
    Calls Ybad.prog 13 #[v, .bool b] w fun e w' => ∃ v', e = .returned v' ∧ Owns 5 B w' v' (l ++ boolBytes b) ∧ Below B w w' := by
  have h15 := appBool15 B v l b w hown hB hn
  have H15 : Hid _ := h15
  clear h15
  go_enter Ybad.func13, Ybad.ntmps13
  go_wp2_with (go_at_call 15; refine Calls.mono (Hid.out H15) ?_; rintro e w1 ⟨v1, rfl, hown1, hb1⟩)
  exact bodyPost_ret (v := v1) (by simp [results, Ybad.results13, go_sem]) rfl ⟨v1, rfl, hown1, hb1⟩

set_option maxHeartbeats 400000 in
theorem appendBool_any (B : Nat) (v : Value) (l : List UInt8) (key : ByteArray) (b : Bool) (w : World) (hown : Owns 5 B w v l) (hB : B ≤ w.heap.size) (hn : l.length ≤ 50000) (hk : key.size ≤ 50000) :
    Calls Ybad.prog 10 #[v, .string key, .bool b] w fun e w' => ∃ v', e = .returned v' ∧ Owns 5 B w' v' (l ++ keyBytes key.data.toList ++ boolBytes b) ∧ Below B w w' := by
  have hkl : key.data.toList.length = key.size := rfl
  have hvB : ∀ k, v.ownBlock = some k → B ≤ k := fun k hk => (hown.lt k hk).1
  have h12 := appendKey_any B v l key w hown hB (by omega) (by omega)
  have H12 : Hid _ := h12
  clear h12
  go_enter Ybad.func10, Ybad.ntmps10
  go_wp2_with (first
    | (go_at_call 12; refine Calls.mono (Hid.out H12) ?_; rintro e w1 ⟨v1, rfl, hown1, happ1⟩)
    | (go_at_call 13; refine (appBool13 B v1 _ b w1 hown1 (by have := happ1.grown.size; omega) (by simp [keyBytes, hkl]; omega)).mono ?_; rintro e w2 ⟨v2, rfl, hown2, hb2⟩))
  exact bodyPost_ret (v := v2) (by simp [results, Ybad.results10, go_sem]) rfl ⟨v2, rfl, hown2, (happ1.below hB hvB).trans hb2⟩

/-- The name of the table that numDigits reads (internal strconv uint64pow10), as the row lists it. -/
def pow10Name : String := Rows.lawS4914AHeaderRow.named.getD 0 default
/-- The table holds the powers of ten. -/
def Tab (w : World) : Prop := Lib.TabIs Ybad.prog w pow10Name .u64 Lib.pow10Tab

theorem pow10_global : Ybad.prog.globalNamed pow10Name = some 0 := by kernel_rfl

theorem Tab.below {w w' : World} (h : Tab w) {B : Nat} (hb : Below B w w') (hB : 0 < B) : Tab w' := by
  unfold Tab Lib.TabIs World.var? at h ⊢
  rw [pow10_global] at h ⊢
  simp only [Option.bind_some] at h ⊢
  rw [hb.block 0 hB]
  exact h

theorem appUint14 (B : Nat) (v : Value) (l : List UInt8) (u : Nat) (w : World) (hu : u ≤ 65535) (hown : Owns 5 B w v l) (hB : B ≤ w.heap.size) (hn : l.length ≤ 200000) (htab : Tab w) :
    Calls Ybad.prog 14 #[v, .int .u64 u, .int .i64 10] w fun e w' => ∃ v', e = .returned v' ∧ Owns 5 B w' v' (l ++ Lib.decDigits u) ∧ Below B w w' := by
  have h := Any.internal_strconv_AppendUint_10 Ybad.laysM288 B l.length u (by omega) v (Lib.byteCells l) w hown hB (by omega) htab
  refine Calls.mono h ?_
  rintro e w' ⟨v', rfl, h1, h2, _⟩
  refine ⟨v', rfl, ?_, h2⟩
  unfold Owns
  rw [List.length_append, Lib.byteCells_append]
  exact h1

set_option maxHeartbeats 400000 in
theorem appUint11 (B : Nat) (v : Value) (l : List UInt8) (u : Nat) (w : World) (hu : u ≤ 65535) (hown : Owns 5 B w v l) (hB : B ≤ w.heap.size) (hn : l.length ≤ 200000) (htab : Tab w) :
    Calls Ybad.prog 11 #[v, .int .u64 u, .int .i64 10] w fun e w' => ∃ v', e = .returned v' ∧ Owns 5 B w' v' (l ++ Lib.decDigits u) ∧ Below B w w' := by
  have h14 := appUint14 B v l u w hu hown hB hn htab
  have H14 : Hid _ := h14
  clear h14
  go_enter Ybad.func11, Ybad.ntmps11
  go_wp2_with (go_at_call 14; refine Calls.mono (Hid.out H14) ?_; rintro e w1 ⟨v1, rfl, hown1, hb1⟩)
  exact bodyPost_ret (v := v1) (by simp [results, Ybad.results11, go_sem]) rfl ⟨v1, rfl, hown1, hb1⟩

set_option maxHeartbeats 400000 in
theorem appendUint_any (B : Nat) (v : Value) (l : List UInt8) (key : ByteArray) (u : Nat) (w : World) (hu : u ≤ 65535) (hown : Owns 5 B w v l) (hB : B ≤ w.heap.size) (hB0 : 0 < B) (hn : l.length ≤ 50000) (hk : key.size ≤ 50000) (htab : Tab w) :
    Calls Ybad.prog 9 #[v, .string key, .int .u64 u] w fun e w' => ∃ v', e = .returned v' ∧ Owns 5 B w' v' (l ++ keyBytes key.data.toList ++ Lib.decDigits u) ∧ Below B w w' := by
  have hkl : key.data.toList.length = key.size := rfl
  have hvB : ∀ k, v.ownBlock = some k → B ≤ k := fun k hk => (hown.lt k hk).1
  have h12 := appendKey_any B v l key w hown hB (by omega) (by omega)
  have H12 : Hid _ := h12
  clear h12
  go_enter Ybad.func9, Ybad.ntmps9
  go_wp2_with (first
    | (go_at_call 12; refine Calls.mono (Hid.out H12) ?_; rintro e w1 ⟨v1, rfl, hown1, happ1⟩)
    | (go_at_call 11; refine (appUint11 B v1 _ u w1 hu hown1 (by have := happ1.grown.size; omega) (by simp [keyBytes, hkl]; omega) (htab.below (happ1.below hB hvB) hB0)).mono ?_; rintro e w2 ⟨v2, rfl, hown2, hb2⟩))
  exact bodyPost_ret (v := v2) (by simp [results, Ybad.results9, go_sem]) rfl ⟨v2, rfl, hown2, (happ1.below hB hvB).trans hb2⟩
end Go.Proofs.YbulkcwtaDoor
