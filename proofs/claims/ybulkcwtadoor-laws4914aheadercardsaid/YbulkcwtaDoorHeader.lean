import Derived.Test.YbulkcwtaDoorKeys
namespace Go.Proofs.YbulkcwtaDoor
open Go.ChangeShapes Go.WideShapes Go.ChangeAt Go.RowKit

/-- The keys, as bytes. -/
def kTid : List UInt8 := [116, 105, 100]
def kCot : List UInt8 := [99, 111, 116]
def kNeg : List UInt8 := [110, 101, 103]
def kTest : List UInt8 := [116, 101, 115, 116]
def kOa : List UInt8 := [111, 97]
def kCa : List UInt8 := [99, 97]

/-- What appendHeader appends. -/
def headBytes (name : List UInt8) (t c : Nat) (ng ts : Bool) (o a : Nat) : List UInt8 :=
  [123, 34, 116, 121, 112, 101, 34, 58, 34] ++ name ++ [34] ++ (keyBytes kTid ++ Lib.decDigits t) ++ (keyBytes kCot ++ Lib.decDigits c) ++ (keyBytes kNeg ++ boolBytes ng) ++ (keyBytes kTest ++ boolBytes ts) ++ (keyBytes kOa ++ Lib.decDigits o) ++ (keyBytes kCa ++ Lib.decDigits a)

/-- The fields of an ASDU that the header reads, at block p. -/
structure Fields (w : World) (p t c : Nat) (ng ts : Bool) (o a : Nat) : Prop where
  f0 : w.cell? ⟨p, 0, none⟩ = some (.int .u8 t)
  f3 : w.cell? ⟨p, 3, none⟩ = some (.int .u8 c)
  f4 : w.cell? ⟨p, 4, none⟩ = some (.bool ng)
  f5 : w.cell? ⟨p, 5, none⟩ = some (.bool ts)
  f6 : w.cell? ⟨p, 6, none⟩ = some (.int .u8 o)
  f7 : w.cell? ⟨p, 7, none⟩ = some (.int .u16 a)

theorem Fields.below {w w' : World} {p t c o a : Nat} {ng ts : Bool} (h : Fields w p t c ng ts o a) {B : Nat} (hb : Below B w w') (hp : p < B) : Fields w' p t c ng ts o a :=
  ⟨by rw [hb.cell hp]; exact h.f0, by rw [hb.cell hp]; exact h.f3, by rw [hb.cell hp]; exact h.f4, by rw [hb.cell hp]; exact h.f5, by rw [hb.cell hp]; exact h.f6, by rw [hb.cell hp]; exact h.f7⟩

theorem dec_len (u : Nat) (hu : u ≤ 65535) : (Lib.decDigits u).length ≤ 5 := by
  rw [Lib.decDigits_length]
  by_cases h1 : u < 10
  · rw [Lib.nDigits_small h1]; omega
  · rw [Lib.nDigits_big h1]
    by_cases h2 : u / 10 < 10
    · rw [Lib.nDigits_small h2]; omega
    · rw [Lib.nDigits_big h2]
      by_cases h3 : u / 10 / 10 < 10
      · rw [Lib.nDigits_small h3]; omega
      · rw [Lib.nDigits_big h3]
        by_cases h4 : u / 10 / 10 / 10 < 10
        · rw [Lib.nDigits_small h4]; omega
        · rw [Lib.nDigits_big h4, Lib.nDigits_small (by omega)]; omega

theorem boolBytes_len (b : Bool) : (boolBytes b).length ≤ 5 := by cases b <;> simp [boolBytes]

theorem lit1 (w : World) (t : TypeId) (a : UInt8) (x : Int) (ha : x = (a.toNat : Int)) : ∀ j u, (Lib.byteCells [a])[j]? = some u → (w.alloc (.cells #[.int .u8 x] t)).cell? ((⟨w.heap.size, 0, none⟩ : Addr).add j) = some u := by
  subst ha
  exact lit_new w [a] t

set_option maxHeartbeats 1000000 in
theorem header_any (B0 p g cap : Nat) (l : List UInt8) (name : ByteArray) (t c o a : Nat) (ng ts : Bool) (w : World) (hown : Owns 5 B0 w (.slice (some ⟨g, 0, none⟩) l.length cap) l) (hroom : cap < l.length + 9) (hn : l.length ≤ 4096) (hnm : name.size ≤ 4096)
    (hp : p < w.heap.size) (hF : Fields w p t c ng ts o a) (ht : t ≤ 255) (hc : c ≤ 255) (ho : o ≤ 255) (ha : a ≤ 65535) (htab : Tab w) :
    Calls Ybad.prog 4 #[.pointer (some ⟨p, 0, none⟩), .slice (some ⟨g, 0, none⟩) l.length cap, .string name] w fun e w' =>
      ∃ v', e = .returned v' ∧ Owns 5 w.heap.size w' v' (l ++ headBytes name.data.toList t c ng ts o a) ∧ Below w.heap.size w w' := by
  obtain ⟨i, hi, hz0, hz1, hz2⟩ := info_parts info5
  have hnl : name.data.toList.length = name.size := rfl
  go_enter Ybad.func4, Ybad.ntmps4
  go_wp2_with (first
    | (at_builtin; refine wpList_app_string_new _ rfl (.tmp 7) _ 22 9 rfl B0 5 i Ybad.underlying22 Ybad.underlying9 hi hz0 hz1 hz2 g cap l rfl hown ⟨#[123, 34, 116, 121, 112, 101, 34, 58, 34]⟩ rfl (by simp [ByteArray.size]; omega) (by simp [ByteArray.size]; omega) ?_; intro v1 w1 hown1 hb1)
    | (at_builtin; refine wpList_app_string _ rfl (.tmp 9) (.tmp 10) 22 9 rfl w.heap.size 5 i Ybad.underlying22 Ybad.underlying9 hi hz0 hz1 hz2 v1 _ rfl hown1 name rfl (by simp; omega) hb1.size ?_; intro v2 w2 hown2 happ2)
    | (at_builtin; refine wpList_app _ rfl (.tmp 12) (.tmp 13) 22 rfl w.heap.size 5 i Ybad.underlying22 hi hz0 hz1 hz2 v2 _ rfl (World.ownsRow.alloc hown2 _) _ 1 _ [34] rfl rfl (lit1 _ _ 34 _ rfl) (by simp [hnl]; omega) (by have := hb1.size; have := happ2.grown.size; simp; omega) ?_; intro v3 w3 hown3 happ3
       have hb2 : Below w.heap.size w w2 := hb1.trans (happ2.below hb1.size (fun k hk => (hown1.lt k hk).1))
       have hb3 : Below w.heap.size w w3 := (hb2.alloc hb2.size _).trans (happ3.below (by have := hb2.size; simp; omega) (fun k hk => (hown2.lt k hk).1))
       have f0 := (hF.below hb3 hp).f0)
    | fail)
  have it : (t : Int) ≤ 255 := by omega
  have ic : (c : Int) ≤ 255 := by omega
  have io : (o : Int) ≤ 255 := by omega
  have ia : (a : Int) ≤ 65535 := by omega
  have dt := dec_len t (by omega)
  have dc := dec_len c (by omega)
  have dO := dec_len o (by omega)
  have da := dec_len a (by omega)
  have bn := boolBytes_len ng
  have bt := boolBytes_len ts
  have hw0 : 0 < w.heap.size := by omega
  clear hb1 hb2 happ2 happ3 hown1 hown2 hown hroom
  obtain ⟨L3, hL3⟩ : ∃ L3, L3 = l ++ [123, 34, 116, 121, 112, 101, 34, 58, 34] ++ name.data.toList ++ [34] := ⟨_, rfl⟩
  rw [← hL3] at hown3
  have n3 : L3.length ≤ 9000 := by rw [hL3]; simp [hnl]; omega
  have HL3 : Hid _ := hL3
  clear hL3
  refine (appendUint_any w.heap.size v3 L3 ⟨#[116, 105, 100]⟩ t w3 (by omega) hown3 hb3.size hw0 (by omega) (by decide) (htab.below hb3 hw0)).mono ?_
  rintro e w4 ⟨v4, rfl, hown4, hbs⟩
  have hb4 := hb3.trans hbs
  have f3 := (hF.below hb4 hp).f3
  obtain ⟨L4, hL4⟩ : ∃ L4, L4 = L3 ++ keyBytes kTid ++ Lib.decDigits t := ⟨_, rfl⟩
  have n4 : L4.length ≤ 9020 := by rw [hL4]; simp [keyBytes, kTid]; omega
  rw [show L3 ++ keyBytes (⟨#[116, 105, 100]⟩ : ByteArray).data.toList ++ Lib.decDigits t = L4 from hL4.symm] at hown4
  have HL4 : Hid _ := hL4
  clear hL4 hown3 hbs hb3
  go_wp2_with fail
  refine (appendUint_any w.heap.size v4 L4 ⟨#[99, 111, 116]⟩ c w4 (by omega) hown4 hb4.size hw0 (by omega) (by decide) (htab.below hb4 hw0)).mono ?_
  rintro e w5 ⟨v5, rfl, hown5, hbs⟩
  have hb5 := hb4.trans hbs
  have f4 := (hF.below hb5 hp).f4
  obtain ⟨L5, hL5⟩ : ∃ L5, L5 = L4 ++ keyBytes kCot ++ Lib.decDigits c := ⟨_, rfl⟩
  have n5 : L5.length ≤ 9040 := by rw [hL5]; simp [keyBytes, kCot]; omega
  rw [show L4 ++ keyBytes (⟨#[99, 111, 116]⟩ : ByteArray).data.toList ++ Lib.decDigits c = L5 from hL5.symm] at hown5
  have HL5 : Hid _ := hL5
  clear hL5 hown4 hbs hb4
  go_wp2_with fail
  refine (appendBool_any w.heap.size v5 L5 ⟨#[110, 101, 103]⟩ ng w5 hown5 hb5.size (by omega) (by decide)).mono ?_
  rintro e w6 ⟨v6, rfl, hown6, hbs⟩
  have hb6 := hb5.trans hbs
  have f5 := (hF.below hb6 hp).f5
  obtain ⟨L6, hL6⟩ : ∃ L6, L6 = L5 ++ keyBytes kNeg ++ boolBytes ng := ⟨_, rfl⟩
  have n6 : L6.length ≤ 9060 := by rw [hL6]; simp [keyBytes, kNeg]; omega
  rw [show L5 ++ keyBytes (⟨#[110, 101, 103]⟩ : ByteArray).data.toList ++ boolBytes ng = L6 from hL6.symm] at hown6
  have HL6 : Hid _ := hL6
  clear hL6 hown5 hbs hb5
  go_wp2_with fail
  refine (appendBool_any w.heap.size v6 L6 ⟨#[116, 101, 115, 116]⟩ ts w6 hown6 hb6.size (by omega) (by decide)).mono ?_
  rintro e w7 ⟨v7, rfl, hown7, hbs⟩
  have hb7 := hb6.trans hbs
  have f6 := (hF.below hb7 hp).f6
  obtain ⟨L7, hL7⟩ : ∃ L7, L7 = L6 ++ keyBytes kTest ++ boolBytes ts := ⟨_, rfl⟩
  have n7 : L7.length ≤ 9080 := by rw [hL7]; simp [keyBytes, kTest]; omega
  rw [show L6 ++ keyBytes (⟨#[116, 101, 115, 116]⟩ : ByteArray).data.toList ++ boolBytes ts = L7 from hL7.symm] at hown7
  have HL7 : Hid _ := hL7
  clear hL7 hown6 hbs hb6
  go_wp2_with fail
  refine (appendUint_any w.heap.size v7 L7 ⟨#[111, 97]⟩ o w7 (by omega) hown7 hb7.size hw0 (by omega) (by decide) (htab.below hb7 hw0)).mono ?_
  rintro e w8 ⟨v8, rfl, hown8, hbs⟩
  have hb8 := hb7.trans hbs
  have f7 := (hF.below hb8 hp).f7
  obtain ⟨L8, hL8⟩ : ∃ L8, L8 = L7 ++ keyBytes kOa ++ Lib.decDigits o := ⟨_, rfl⟩
  have n8 : L8.length ≤ 9100 := by rw [hL8]; simp [keyBytes, kOa]; omega
  rw [show L7 ++ keyBytes (⟨#[111, 97]⟩ : ByteArray).data.toList ++ Lib.decDigits o = L8 from hL8.symm] at hown8
  have HL8 : Hid _ := hL8
  clear hL8 hown7 hbs hb7
  go_wp2_with fail
  refine (appendUint_any w.heap.size v8 L8 ⟨#[99, 97]⟩ a w8 (by omega) hown8 hb8.size hw0 (by omega) (by decide) (htab.below hb8 hw0)).mono ?_
  rintro e w9 ⟨v9, rfl, hown9, hbs⟩
  have hb9 := hb8.trans hbs
  obtain ⟨L9, hL9⟩ : ∃ L9, L9 = L8 ++ keyBytes kCa ++ Lib.decDigits a := ⟨_, rfl⟩
  have n9 : L9.length ≤ 9120 := by rw [hL9]; simp [keyBytes, kCa]; omega
  rw [show L8 ++ keyBytes (⟨#[99, 97]⟩ : ByteArray).data.toList ++ Lib.decDigits a = L9 from hL9.symm] at hown9
  have HL9 : Hid _ := hL9
  clear hL9 hown8 hbs hb8
  go_wp2_with fail
  refine bodyPost_ret (v := v9) (by simp [results, Ybad.results4, go_sem]) rfl ⟨v9, rfl, ?_, hb9⟩
  have e : L9 = l ++ headBytes name.data.toList t c ng ts o a := by
    rw [HL9.out, HL8.out, HL7.out, HL6.out, HL5.out, HL4.out, HL3.out]
    simp only [headBytes, List.append_assoc]
  rw [← e]
  exact hown9
end Go.Proofs.YbulkcwtaDoor
