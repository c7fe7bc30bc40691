import Derived.Test.YbulkcwtaDoorHeader
import Derived.Test.YbulkcwtaDoorDec
import Derived.Test.YbulkcwtaDoorMake
import Derived.Lib.SliceRun
namespace Go.Proofs.YbulkcwtaDoor
open Go.ChangeShapes Go.WideShapes Go.ChangeAt Go.RowKit

theorem size5 : (Ybad.prog.info? 5).map (·.size) = some 1 := by kernel_rfl

theorem Row.src {w : World} {a0 : Option Addr} {l : List UInt8} (h : Row w a0 l) : ∀ ad, a0 = some ad → ∀ j u, (Lib.byteCells l)[j]? = some u → w.cell? (ad.add j) = some u := by
  intro ad hx j u hj
  have hlt : j < l.length := by have := (List.getElem?_eq_some_iff.1 hj).1; rwa [Lib.byteCells_length] at this
  have e : (Lib.byteCells l)[j]? = some (.int .u8 (l[j].toNat : Int)) := by simp [Lib.byteCells, hlt]
  rw [e] at hj
  rw [← hj]
  exact h.cell ad hx j hlt

/-- All ten fields of the ASDU at block p. -/
structure All (w : World) (p t c : Nat) (ng ts : Bool) (o a : Nat) (sq : Bool) (cnt : Int) : Prop where
  fields : Fields w p t c ng ts o a
  f1 : w.cell? ⟨p, 1, none⟩ = some (.bool sq)
  f2 : w.cell? ⟨p, 2, none⟩ = some (.int .i64 cnt)
  f8 : w.cell? ⟨p, 8, none⟩ = some (.slice none 0 0)
  f9 : w.cell? ⟨p, 9, none⟩ = some (.slice none 0 0)

theorem All.below {w w' : World} {p t c o a : Nat} {ng ts sq : Bool} {cnt : Int} (h : All w p t c ng ts o a sq cnt) {B : Nat} (hb : Below B w w') (hp : p < B) : All w' p t c ng ts o a sq cnt :=
  ⟨h.fields.below hb hp, by rw [hb.cell hp]; exact h.f1, by rw [hb.cell hp]; exact h.f2, by rw [hb.cell hp]; exact h.f8, by rw [hb.cell hp]; exact h.f9⟩

set_option maxRecDepth 100000 in
set_option maxHeartbeats 4000000 in
theorem main (a0 : Option Addr) (cap0 : Nat) (l : List UInt8) (name : ByteArray) (t c o a : Nat) (ng ts sq : Bool) (cnt : Int) (w : World) (hr : Row w a0 l) (hcap : a0 = none → cap0 = 0) (hn : l.length ≤ 4096) (hnm : name.size ≤ 4096)
    (ht : t ≤ 255) (hc : c ≤ 255) (ho : o ≤ 255) (ha : a ≤ 65535) (htab : Tab w) (hw0 : 0 < w.heap.size) :
    Calls Ybad.prog 3 #[.slice a0 l.length cap0, .string name, .int .u8 t, .int .u8 c, .bool ng, .bool ts, .int .u8 o, .int .u16 a, .bool sq, .int .i64 cnt] w fun e w' => e = .returned (.bool true) ∧ Below w.heap.size w w' := by
  obtain ⟨i, hi, hz0, hz1, hz2⟩ := info_parts info5
  have t1 : ¬ (4096 : Int) < (l.length : Int) := by omega
  have t2 : ¬ (4096 : Int) < (name.size : Int) := by omega
  have it : (t : Int) ≤ 255 := by omega
  have ic : (c : Int) ≤ 255 := by omega
  have io : (o : Int) ≤ 255 := by omega
  have ia : (a : Int) ≤ 65535 := by omega
  have hm8 : l.length + 8 ≤ maxLen := by unfold maxLen; omega
  have hmw : l.length + name.size + 128 ≤ maxLen := by unfold maxLen; omega
  have hnil : a0 = none → l.length = 0 := fun e => by rw [hr.isNil e]; rfl
  go_enter Ybad.func3, Ybad.ntmps3
  go_wp2_with (first
    | (at_make; refine wpList_make_lc _ rfl (.tmp 34) (.tmp 37) 22 rfl 5 i (.int .u8 0) Ybad.underlying22 hi hz0 hz1 _ _ _ _ l.length (l.length + 8) rfl rfl rfl (by omega) (by omega) (by rw [hz2]; omega) hm8 ?_; intro w1 xs1 hown1 hb1 hs1)
    | (refine wpList_copy_full _ rfl (.tmp 39) (.tmp 40) 22 22 rfl w.heap.size 5 Ybad.underlying22 size5 w.heap.size l.length (l.length + 8) rfl _ hown1 a0 cap0 rfl (Lib.byteCells l) (Lib.byteCells_length l) hnil ((hr.below hb1 hr.lt).src) (byteCells_one l) ?_; intro w2 hown2 hgr2)
    | fail)
  have hb2 : Below w.heap.size w w2 := hb1.grown hgr2 hb1.size (fun k hk => by cases hk; exact Nat.le_refl _)
  have hs2 : w.heap.size + 1 ≤ w2.heap.size := by have := hgr2.size; omega
  obtain ⟨W3, hW3⟩ : ∃ W, W = w2.alloc (Obj.cells #[.int .u8 t, .bool sq, .int .i64 cnt, .int .u8 c, .bool ng, .bool ts, .int .u8 o, .int .u16 a, .slice none 0 0, .slice none 0 0] 28) := ⟨_, rfl⟩
  rw [← hW3]
  have hb3 : Below w.heap.size w W3 := by rw [hW3]; exact hb2.alloc hb2.size _
  have hs3 : W3.heap.size = w2.heap.size + 1 := by rw [hW3]; simp
  have hown3 : Owns 5 w.heap.size W3 (.slice (some ⟨w.heap.size, 0, none⟩) l.length (l.length + 8)) l := by rw [hW3]; exact World.ownsRow.alloc hown2 _
  have hall3 : All W3 w2.heap.size t c ng ts o a sq cnt := by
    have hcell : ∀ j, W3.cell? ⟨w2.heap.size, j, none⟩ = (#[Value.int .u8 t, .bool sq, .int .i64 cnt, .int .u8 c, .bool ng, .bool ts, .int .u8 o, .int .u16 a, .slice none 0 0, .slice none 0 0])[j]? := fun j => by
      rw [hW3]; exact cell_of_row _ _ j _ 28 (0, 0) (heap_alloc_new w2 _)
    exact ⟨⟨hcell 0, hcell 3, hcell 4, hcell 5, hcell 6, hcell 7⟩, hcell 1, hcell 2, hcell 8, hcell 9⟩
  clear hW3 hb1 hs1 hb2 hgr2 hown1 hown2
  refine (header_any w.heap.size w2.heap.size w.heap.size (l.length + 8) l name t c o a ng ts W3 hown3 (by omega) hn hnm (by omega) hall3.fields ht hc ho ha (htab.below hb3 hw0)).mono ?_
  rintro e w4 ⟨v4, rfl, hown4, hb34⟩
  have hb4 : Below w.heap.size w w4 := hb3.trans (hb34.mono (by omega))
  have hs4 := hb34.size
  obtain ⟨hd, hhd⟩ : ∃ hd, hd = headBytes name.data.toList t c ng ts o a := ⟨_, rfl⟩
  rw [← hhd] at hown4
  have HHD : Hid _ := hhd
  clear hhd
  have hnl : name.data.toList.length = name.size := rfl
  have hr4 := hr.below hb4 hr.lt
  go_wp2_with (first
    | (at_make; refine wpList_make_own _ rfl _ (.tmp 61) 22 rfl w4.heap.size 5 i (.int .u8 0) 1 Ybad.underlying22 hi hz0 hz1 _ _ _ (l.length + name.size + 128) rfl rfl (by omega) (by rw [hz2]; omega) hmw (Nat.le_refl _) ?_; intro w5 hown5 hgr5
       have hb5 : Below w4.heap.size w4 w5 := (Below.refl _ _).grown hgr5 (Nat.le_refl _) (fun k hk => by cases hk)
       have hO5 : Owns 5 w4.heap.size w5 (.slice (some ⟨w4.heap.size, 0, none⟩) 0 (l.length + name.size + 128)) [] := hown5)
    | (at_builtin; refine wpList_app_opt _ rfl (.tmp 63) (.tmp 64) 22 rfl w4.heap.size 5 i Ybad.underlying22 hi hz0 hz1 hz2 _ [] rfl hO5 a0 l.length cap0 l rfl rfl (fun e => ⟨hnil e, hcap e⟩) ((hr4.below hb5 hr4.lt).src) (by simp; omega) hb5.size ?_; intro v6 w6 hown6 happ6
       have hb6 : Below w4.heap.size w4 w6 := hb5.trans (happ6.below hb5.size (fun k hk => (hO5.lt k hk).1)))
    | (at_builtin; refine wpList_app _ rfl (.tmp 66) (.tmp 67) 22 rfl w4.heap.size 5 i Ybad.underlying22 hi hz0 hz1 hz2 v6 _ rfl (World.ownsRow.alloc hown6 _) _ 9 _ [123, 34, 116, 121, 112, 101, 34, 58, 34] rfl rfl (lit_new _ [123, 34, 116, 121, 112, 101, 34, 58, 34] _) (by simp; omega) (by have := hb6.size; simp; omega) ?_; intro v7 w7 hown7 happ7
       have hb7 : Below w4.heap.size w4 w7 := (hb6.alloc hb6.size _).trans (happ7.below (by have := hb6.size; simp; omega) (fun k hk => (hown6.lt k hk).1)))
    | (at_builtin; refine wpList_app_string _ rfl (.tmp 69) (.tmp 70) 22 9 rfl w4.heap.size 5 i Ybad.underlying22 Ybad.underlying9 hi hz0 hz1 hz2 v7 _ rfl hown7 name rfl (by simp; omega) hb7.size ?_; intro v8 w8 hown8 happ8
       have hb8 : Below w4.heap.size w4 w8 := hb7.trans (happ8.below hb7.size (fun k hk => (hown7.lt k hk).1)))
    | (at_builtin; refine wpList_app _ rfl (.tmp 72) (.tmp 73) 22 rfl w4.heap.size 5 i Ybad.underlying22 hi hz0 hz1 hz2 v8 _ rfl (World.ownsRow.alloc hown8 _) _ 1 _ [34] rfl rfl (lit1 _ _ 34 _ rfl) (by simp [hnl]; omega) (by have := hb8.size; simp; omega) ?_; intro v9 w9 hown9 happ9
       have hb9 : Below w4.heap.size w4 w9 := (hb8.alloc hb8.size _).trans (happ9.below (by have := hb8.size; simp; omega) (fun k hk => (hown8.lt k hk).1)))
    | fail)
  clear hown5 hgr5 hb5 hO5 happ6 happ7 happ8 happ9 hown6 hown7 hown8 hb6 hb7 hb8 hr4
  have dt := dec_len t (by omega)
  have dc := dec_len c (by omega)
  have dO := dec_len o (by omega)
  have da := dec_len a (by omega)
  have bn := boolBytes_len ng
  have bt := boolBytes_len ts
  obtain ⟨L9, hL9⟩ : ∃ L, L = [] ++ l ++ [123, 34, 116, 121, 112, 101, 34, 58, 34] ++ name.data.toList ++ [34] := ⟨_, rfl⟩
  rw [← hL9] at hown9
  have n9 : L9.length ≤ 9000 := by rw [hL9]; simp [hnl]; omega
  have HL9 : Hid _ := hL9
  clear hL9
  refine (dec_any t w9 (by omega)).mono ?_
  rintro e wd ⟨vd, rfl, hod, hbd⟩
  obtain ⟨gd, cd, rfl, hgd, hgl⟩ := hod.form (by rw [Lib.decDigits_length]; exact Lib.nDigits_pos t)
  go_wp2_with fail
  refine (pair_any w4.heap.size v9 L9 ⟨#[116, 105, 100]⟩ ⟨gd, 0, none⟩ _ cd (Lib.decDigits t) wd (hown9.below hbd) (Nat.le_trans hb9.size hbd.size) (by omega) (by decide) rfl (by omega) (World.ownsRow.cells hod rfl) (fun e => by have := (hown9.lt gd e).2; omega)).mono ?_
  rintro e w10 ⟨v10, rfl, hown10, happ10⟩
  have hb10 : Below w4.heap.size w4 w10 := (hb9.trans (hbd.mono hb9.size)).trans (happ10.below (Nat.le_trans hb9.size hbd.size) (fun k hk => ((hown9.below hbd).lt k hk).1))
  obtain ⟨L10, hL10⟩ : ∃ L, L = L9 ++ keyBytes kTid ++ Lib.decDigits t := ⟨_, rfl⟩
  have n10 : L10.length ≤ 9020 := by rw [hL10]; simp [keyBytes, kTid]; omega
  rw [show L9 ++ keyBytes (⟨#[116, 105, 100]⟩ : ByteArray).data.toList ++ Lib.decDigits t = L10 from hL10.symm] at hown10
  have HL10 : Hid _ := hL10
  clear hL10 hown9 hbd hod happ10 hb9
  go_wp2_with fail
  refine (dec_any c w10 (by omega)).mono ?_
  rintro e wd ⟨vd, rfl, hod, hbd⟩
  obtain ⟨gd, cd, rfl, hgd, hgl⟩ := hod.form (by rw [Lib.decDigits_length]; exact Lib.nDigits_pos c)
  go_wp2_with fail
  refine (pair_any w4.heap.size v10 L10 ⟨#[99, 111, 116]⟩ ⟨gd, 0, none⟩ _ cd (Lib.decDigits c) wd (hown10.below hbd) (Nat.le_trans hb10.size hbd.size) (by omega) (by decide) rfl (by omega) (World.ownsRow.cells hod rfl) (fun e => by have := (hown10.lt gd e).2; omega)).mono ?_
  rintro e w11 ⟨v11, rfl, hown11, happ11⟩
  have hb11 : Below w4.heap.size w4 w11 := (hb10.trans (hbd.mono hb10.size)).trans (happ11.below (Nat.le_trans hb10.size hbd.size) (fun k hk => ((hown10.below hbd).lt k hk).1))
  obtain ⟨L11, hL11⟩ : ∃ L, L = L10 ++ keyBytes kCot ++ Lib.decDigits c := ⟨_, rfl⟩
  have n11 : L11.length ≤ 9040 := by rw [hL11]; simp [keyBytes, kCot]; omega
  rw [show L10 ++ keyBytes (⟨#[99, 111, 116]⟩ : ByteArray).data.toList ++ Lib.decDigits c = L11 from hL11.symm] at hown11
  have HL11 : Hid _ := hL11
  clear hL11 hown10 hbd hod happ11 hb10
  go_wp2_with fail
  refine (abool_any ng w11).mono ?_
  rintro e wd ⟨rfl, hbd, hsd, hod⟩
  go_wp2_with fail
  refine (pair_any w4.heap.size v11 L11 ⟨#[110, 101, 103]⟩ ⟨w11.heap.size, 0, none⟩ _ _ (boolBytes ng) wd (hown11.below hbd) (Nat.le_trans hb11.size hbd.size) (by omega) (by decide) rfl (by omega) hod (fun e => by have := (hown11.lt w11.heap.size e).2; omega)).mono ?_
  rintro e w12 ⟨v12, rfl, hown12, happ12⟩
  have hb12 : Below w4.heap.size w4 w12 := (hb11.trans (hbd.mono hb11.size)).trans (happ12.below (Nat.le_trans hb11.size hbd.size) (fun k hk => ((hown11.below hbd).lt k hk).1))
  obtain ⟨L12, hL12⟩ : ∃ L, L = L11 ++ keyBytes kNeg ++ boolBytes ng := ⟨_, rfl⟩
  have n12 : L12.length ≤ 9060 := by rw [hL12]; simp [keyBytes, kNeg]; omega
  rw [show L11 ++ keyBytes (⟨#[110, 101, 103]⟩ : ByteArray).data.toList ++ boolBytes ng = L12 from hL12.symm] at hown12
  have HL12 : Hid _ := hL12
  clear hL12 hown11 hbd hod happ12 hb11
  go_wp2_with fail
  refine (abool_any ts w12).mono ?_
  rintro e wd ⟨rfl, hbd, hsd, hod⟩
  go_wp2_with fail
  refine (pair_any w4.heap.size v12 L12 ⟨#[116, 101, 115, 116]⟩ ⟨w12.heap.size, 0, none⟩ _ _ (boolBytes ts) wd (hown12.below hbd) (Nat.le_trans hb12.size hbd.size) (by omega) (by decide) rfl (by omega) hod (fun e => by have := (hown12.lt w12.heap.size e).2; omega)).mono ?_
  rintro e w13 ⟨v13, rfl, hown13, happ13⟩
  have hb13 : Below w4.heap.size w4 w13 := (hb12.trans (hbd.mono hb12.size)).trans (happ13.below (Nat.le_trans hb12.size hbd.size) (fun k hk => ((hown12.below hbd).lt k hk).1))
  obtain ⟨L13, hL13⟩ : ∃ L, L = L12 ++ keyBytes kTest ++ boolBytes ts := ⟨_, rfl⟩
  have n13 : L13.length ≤ 9080 := by rw [hL13]; simp [keyBytes, kTest]; omega
  rw [show L12 ++ keyBytes (⟨#[116, 101, 115, 116]⟩ : ByteArray).data.toList ++ boolBytes ts = L13 from hL13.symm] at hown13
  have HL13 : Hid _ := hL13
  clear hL13 hown12 hbd hod happ13 hb12
  go_wp2_with fail
  refine (dec_any o w13 (by omega)).mono ?_
  rintro e wd ⟨vd, rfl, hod, hbd⟩
  obtain ⟨gd, cd, rfl, hgd, hgl⟩ := hod.form (by rw [Lib.decDigits_length]; exact Lib.nDigits_pos o)
  go_wp2_with fail
  refine (pair_any w4.heap.size v13 L13 ⟨#[111, 97]⟩ ⟨gd, 0, none⟩ _ cd (Lib.decDigits o) wd (hown13.below hbd) (Nat.le_trans hb13.size hbd.size) (by omega) (by decide) rfl (by omega) (World.ownsRow.cells hod rfl) (fun e => by have := (hown13.lt gd e).2; omega)).mono ?_
  rintro e w14 ⟨v14, rfl, hown14, happ14⟩
  have hb14 : Below w4.heap.size w4 w14 := (hb13.trans (hbd.mono hb13.size)).trans (happ14.below (Nat.le_trans hb13.size hbd.size) (fun k hk => ((hown13.below hbd).lt k hk).1))
  obtain ⟨L14, hL14⟩ : ∃ L, L = L13 ++ keyBytes kOa ++ Lib.decDigits o := ⟨_, rfl⟩
  have n14 : L14.length ≤ 9100 := by rw [hL14]; simp [keyBytes, kOa]; omega
  rw [show L13 ++ keyBytes (⟨#[111, 97]⟩ : ByteArray).data.toList ++ Lib.decDigits o = L14 from hL14.symm] at hown14
  have HL14 : Hid _ := hL14
  clear hL14 hown13 hbd hod happ14 hb13
  go_wp2_with fail
  refine (dec_any a w14 (by omega)).mono ?_
  rintro e wd ⟨vd, rfl, hod, hbd⟩
  obtain ⟨gd, cd, rfl, hgd, hgl⟩ := hod.form (by rw [Lib.decDigits_length]; exact Lib.nDigits_pos a)
  go_wp2_with fail
  refine (pair_any w4.heap.size v14 L14 ⟨#[99, 97]⟩ ⟨gd, 0, none⟩ _ cd (Lib.decDigits a) wd (hown14.below hbd) (Nat.le_trans hb14.size hbd.size) (by omega) (by decide) rfl (by omega) (World.ownsRow.cells hod rfl) (fun e => by have := (hown14.lt gd e).2; omega)).mono ?_
  rintro e w15 ⟨v15, rfl, hown15, happ15⟩
  have hb15 : Below w4.heap.size w4 w15 := (hb14.trans (hbd.mono hb14.size)).trans (happ15.below (Nat.le_trans hb14.size hbd.size) (fun k hk => ((hown14.below hbd).lt k hk).1))
  obtain ⟨L15, hL15⟩ : ∃ L, L = L14 ++ keyBytes kCa ++ Lib.decDigits a := ⟨_, rfl⟩
  have n15 : L15.length ≤ 9120 := by rw [hL15]; simp [keyBytes, kCa]; omega
  rw [show L14 ++ keyBytes (⟨#[99, 97]⟩ : ByteArray).data.toList ++ Lib.decDigits a = L15 from hL15.symm] at hown15
  have HL15 : Hid _ := hL15
  clear hL15 hown14 hbd hod happ15 hb14
  go_wp2_with fail
  have e15 : L15 = l ++ hd := by
    rw [HL15.out, HL14.out, HL13.out, HL12.out, HL11.out, HL10.out, HL9.out, HHD.out]
    simp only [headBytes, List.append_assoc, List.nil_append]
  have hpos : 0 < (l ++ hd).length := by rw [HHD.out]; simp [headBytes]; omega
  subst e15
  have hO4 := hown4.below hb15
  obtain ⟨g4, c4, rfl, _, _⟩ := hO4.form hpos
  obtain ⟨g15, c15, rfl, _, _⟩ := hown15.form hpos
  have hR4 := hO4.row.1
  have hR15 := hown15.row.1
  have hbA : Below W3.heap.size W3 w15 := hb34.trans (hb15.mono hs4)
  have hbW : Below w.heap.size w w15 := hb4.trans (hb15.mono (by omega))
  clear hO4 hown4 hown15 hb34 hb4 hb15 HL9 HL10 HL11 HL12 HL13 HL14 HL15 HHD
  refine (eq_any (some ⟨g4, 0, none⟩) c4 (some ⟨g15, 0, none⟩) c15 (l ++ hd) w15 hR4 hR15 (by omega)).mono ?_
  rintro e w16 ⟨rfl, q, rfl⟩
  have hRb := (hown3.below (belowN hbA q)).row.1
  have hRp := hr.below (belowN hbW q) hr.lt
  go_wp2_with fail
  refine (eq_any (some ⟨w.heap.size, 0, none⟩) (l.length + 8) a0 cap0 l (w15.drewN q) hRb hRp (by omega)).mono ?_
  rintro e w17 ⟨rfl, q2, rfl⟩
  have hbF : Below w.heap.size w ((w15.drewN q).drewN q2) := belowN (belowN hbW q) q2
  have hallF : All ((w15.drewN q).drewN q2) w2.heap.size t c ng ts o a sq cnt := hall3.below (belowN (belowN hbA q) q2) (by omega)
  obtain ⟨W5, hW5⟩ : ∃ W, W = (w15.drewN q).drewN q2 := ⟨_, rfl⟩
  rw [← hW5] at hbF hallF ⊢
  clear hW5 hRb hRp hR4 hR15 hbA hbW hall3 hown3 hb3 hr htab
  obtain ⟨⟨f0, f3, f4, f5, f6, f7⟩, f1, f2, f8, f9⟩ := hallF
  have hn26 : ∀ w, (binOp .eql 26 (.slice none 0 0) (.slice none 0 0)).run Ybad.prog w = .ok (.bool true) w := fun w => Lib.run_eql_slice_nil w 26 77 none 0 0 0 0 Ybad.underlying26
  have hn22 : ∀ w, (binOp .eql 22 (.slice none 0 0) (.slice none 0 0)).run Ybad.prog w = .ok (.bool true) w := fun w => Lib.run_eql_slice_nil w 22 5 none 0 0 0 0 Ybad.underlying22
  go_wp2_with fail
  go_ret
  exact ⟨rfl, hbF⟩
end Go.Proofs.YbulkcwtaDoor
