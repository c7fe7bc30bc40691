/-
  'Rows.LawS4914AHeaderSaid': the row's step over the walk in YbulkcwtaDoorMain; the listed table by the row's own condition. After the guide's MapyProofs and the shells.
-/
import Derived.Test.YbulkcwtaDoorMain
import Derived.OpenShut
import Derived.ShutString
import Derived.ChangeOld
import Derived.LaidMore
import Derived.Stop.Joined
namespace Go.Proofs.YbulkcwtaDoor.lawS4914AHeader
open Go.ChangeShapes Go.WideShapes Go.ChangeAt Go.RowKit
open Go.ChangeMaps (open_string shut_string)
set_option linter.unusedVariables false

theorem own : ownKnob Ybad.prog.godebug = none := by kernel_rfl
theorem laidOut : laidOutB Ybad.prog = true := by kernel_rfl

/-- The row's own list. -/
def lst : List (String × DataW Unit) := Rows.lawS4914AHeaderRow.laid

/-- The door's own heap meets the condition. -/
theorem door_met (os : Os) (args : Array Value) : laidMetH Ybad.prog lst ((World.doorLaid Ybad.prog 400 os).forCall (fun _ _ => 0) ⟨#[], args, []⟩).memory :=
  laidMetH_of_parts3 (fuel := 8) (laidMet_of_run' 8 (by kernel_rfl) (by kernel_rfl)) (by kernel_rfl) (by kernel_rfl)

theorem tabOf : (Rows.laid_internal_strconv_uint64pow10 : DataW Unit) = Lib.tabData .u64 Lib.pow10Tab := by kernel_rfl
theorem gType : (Ybad.prog.globals[0]?).map (·.type) = some 49 := by kernel_rfl
theorem cells32 : Ybad.prog.cellsOf 32 = 1 := by kernel_rfl
theorem cells49 : Ybad.prog.cellsOf 49 = 20 := by kernel_rfl

/-- What the condition gives the walk: the table of the powers of ten. -/
theorem tab_of_laid {W : World} (h : laidMetH Ybad.prog lst W) : Tab W := by
  rw [MakeChecks.laidMetH_plain _ _ _ (by kernel_rfl)] at h
  obtain ⟨ps, ⟨g0, t0, cs0, f0, p0, q0, hg0, ht0, hv0, hd0, ⟨g1, t1, cs1, f1, p1, q1, hg1, ht1, hv1, hd1, ⟨g2, t2, cs2, f2, p2, q2, hg2, ht2, hv2, hd2, _, _⟩, _⟩, _⟩, _, _⟩ := h
  obtain rfl := Option.some.inj (pow10_global.symm.trans hg2)
  obtain rfl := Option.some.inj (gType.symm.trans ht2)
  rw [tabOf] at hd2
  unfold Tab Lib.TabIs
  rw [← Lib.cells_of_tab Ybad.underlying49 Ybad.underlying32 cells32 cells49 hd2]
  exact hv2

theorem Tab.pos {W : World} (h : Tab W) : 0 < W.heap.size := by
  unfold Tab Lib.TabIs World.var? at h
  rw [pow10_global] at h
  simp only [Option.bind_some] at h
  rcases Nat.eq_zero_or_pos W.heap.size with h0 | h0
  · rw [Array.getElem?_eq_none (by omega)] at h
    cases h
  · exact h0

set_option maxRecDepth 100000 in
set_option maxHeartbeats 1000000 in
/-- The walk: every length. -/
theorem walk (a0 : Option Addr) (cap0 : Nat) (l : List UInt8) (name : ByteArray) (t c o a : Nat) (ng ts sq : Bool) (cnt : Int) (w : World) (hr : Row w a0 l) (hcap : a0 = none → cap0 = 0)
    (ht : t ≤ 255) (hc : c ≤ 255) (ho : o ≤ 255) (ha : a ≤ 65535) (htab : Tab w) :
    Calls Ybad.prog 3 #[.slice a0 l.length cap0, .string name, .int .u8 t, .int .u8 c, .bool ng, .bool ts, .int .u8 o, .int .u16 a, .bool sq, .int .i64 cnt] w fun e w' => e = .returned (.bool true) ∧ Below w.heap.size w w' := by
  by_cases h1 : l.length ≤ 4096
  · by_cases h2 : name.size ≤ 4096
    · exact main a0 cap0 l name t c o a ng ts sq cnt w hr hcap h1 h2 ht hc ho ha htab (Tab.pos htab)
    · clear hr hcap htab
      have t1 : ¬ (4096 : Int) < (l.length : Int) := by omega
      have t2 : (4096 : Int) < (name.size : Int) := by omega
      go_enter Ybad.func3, Ybad.ntmps3
      go_wp2
      go_ret
      exact ⟨rfl, Below.refl _ _⟩
  · clear hr hcap htab
    have t1 : (4096 : Int) < (l.length : Int) := by omega
    go_enter Ybad.func3, Ybad.ntmps3
    go_wp2
    go_ret
    exact ⟨rfl, Below.refl _ _⟩

/-- A slice of bytes among the arguments, opened. -/
theorem open_bytes {H : Type} {enc : TypeId × Value → H} {w : World} {base : Nat} {held : Bool} {a : Option Addr} {len cap : Nat} {d : DataW H} {p : List MemPlace}
    (h : DataW.Trod enc Ybad.prog w base (fun _ => true) held 22 (.slice a len cap) d p) : ∃ l : List UInt8, len = l.length ∧ Row w a l ∧ (a = none → cap = 0) := by
  obtain ⟨fuel, hf⟩ := h
  rcases open_ints Ybad.underlying22 Ybad.underlying5 (by kernel_rfl) hf with ⟨hcs, _⟩ | ⟨x, n, c, zs, hcs, _, hl, hm, hz, _, hcell, hwz⟩
  · simp [Value.cells] at hcs
    obtain ⟨rfl, rfl, rfl⟩ := hcs
    exact ⟨[], rfl, ⟨(fun _ => rfl), (fun x hx => by cases hx)⟩, fun _ => rfl⟩
  · simp [Value.cells] at hcs
    obtain ⟨rfl, rfl, rfl⟩ := hcs
    simp at hz
    refine ⟨(zs.take len).map (fun z => UInt8.ofNat z.toNat), by simp; omega, ⟨(fun h => by cases h), (fun y hy j hj => ?_)⟩, (fun h => by cases h)⟩
    cases hy
    have hj2 : j < zs.length := by simp at hj; omega
    have hb := bounds_u8 (hwz zs[j] (List.getElem_mem hj2))
    rw [hcell j hj2]
    have e1 : zs.getD j 0 = zs[j] := by simp [List.getD, hj2]
    have e2 : ((zs.take len).map (fun z => UInt8.ofNat z.toNat))[j] = UInt8.ofNat zs[j].toNat := by simp
    rw [e1, e2]
    have e3 : (UInt8.ofNat zs[j].toNat).toNat = zs[j].toNat := by
      simp only [UInt8.toNat_ofNat']
      omega
    rw [e3]
    congr 2
    omega

set_option maxRecDepth 100000 in
set_option maxHeartbeats 1000000 in
theorem lifted (os : Os) (started : os.Started) (H : Type) (enc : TypeId × Value → H) :
    ReturnsInHanded {} Ybad.checked os 3 .any (fun w args => (Rows.lawS4914AHeaderSpec.pre enc Ybad.prog Ybad.f3 [] false w args ∧ laidMetH Ybad.prog lst w) ∧ sizedMet enc Ybad.prog Ybad.f3 (OpenSpec.ofChange Rows.lawS4914AHeaderSpec) false w args)
      (Rows.lawS4914AHeaderSpec.post enc Ybad.prog Ybad.f3 false true false false) := by
  refine returnsInHanded_of_change_and (C := Ybad.checked) (X := fun w _ => laidMetH Ybad.prog lst w) (fun _ _ _ hh h => h.of_heap hh) own started (by kernel_rfl) Ybad.func3
    (ChangeSpec.witness_shaped (enc := enc) (C := Ybad.checked) (os := os) (X := fun w _ => laidMetH Ybad.prog lst w) false (World.doorLaid Ybad.prog 400 os) #[.slice none 0 0, .string ByteArray.empty, .int .u8 0, .int .u8 0, .bool false, .bool false, .int .u8 0, .int .u16 0, .bool false, .int .i64 0] 8 rfl (World.shaped_of_RefB (by kernel_rfl) (by kernel_rfl)) (by kernel_rfl) (by kernel_rfl) (by kernel_rfl) (door_met os _)) ?_
  intro W base args ds gs before hval0 hW _ _ hL _
  have hval : ∀ (j : Nat) t v, Ybad.f3.params[j]? = some t → args[j]? = some v → Value.okWide Ybad.prog W .any base t v := hval0
  have hW' := hW
  obtain ⟨p, q, hA0, hV, rfl, hfz, hnd⟩ := hW
  have hA : DataW.TrodAll enc Ybad.prog W 0 (fun _ => true) true Ybad.f3.params.toList args.toList ds p := hA0
  rw [Ybad.params3] at hA hval
  obtain ⟨v0, vs0, d0, ds0, p0, q0, hargs, rfl, rfl, h0, r0⟩ := trodAll_cons hA
  obtain ⟨v1, vs1, d1, ds1, p1, q1, rfl, rfl, rfl, h1, r1⟩ := trodAll_cons r0
  obtain ⟨v2, vs2, d2, ds2, p2, q2, rfl, rfl, rfl, h2, r2⟩ := trodAll_cons r1
  obtain ⟨v3, vs3, d3, ds3, p3, q3, rfl, rfl, rfl, h3, r3⟩ := trodAll_cons r2
  obtain ⟨v4, vs4, d4, ds4, p4, q4, rfl, rfl, rfl, h4, r4⟩ := trodAll_cons r3
  obtain ⟨v5, vs5, d5, ds5, p5, q5, rfl, rfl, rfl, h5, r5⟩ := trodAll_cons r4
  obtain ⟨v6, vs6, d6, ds6, p6, q6, rfl, rfl, rfl, h6, r6⟩ := trodAll_cons r5
  obtain ⟨v7, vs7, d7, ds7, p7, q7, rfl, rfl, rfl, h7, r7⟩ := trodAll_cons r6
  obtain ⟨v8, vs8, d8, ds8, p8, q8, rfl, rfl, rfl, h8, r8⟩ := trodAll_cons r7
  obtain ⟨v9, vs9, d9, ds9, p9, q9, rfl, rfl, rfl, h9, r9⟩ := trodAll_cons r8
  obtain ⟨rfl, rfl, rfl⟩ := trodAll_nil r9
  obtain rfl : args = #[v0, v1, v2, v3, v4, v5, v6, v7, v8, v9] := by cases args; simp_all
  obtain ⟨rfl, rfl⟩ := trodVars_none hV
  obtain ⟨a0, len0, cap0, rfl⟩ := okWide_slice Ybad.underlying22 (hval 0 22 v0 rfl rfl)
  have k0 := h0
  have lt0 : ∀ x ∈ p0, x.block < W.heap.size := by obtain ⟨m, hm⟩ := k0; exact DataW.trod_lt m _ _ _ hm
  obtain ⟨l, rfl, hr, hcap⟩ := open_bytes h0
  obtain ⟨name, rfl, rfl, rfl, w1⟩ := open_string Ybad.underlying9 (hval 1 9 v1 rfl rfl) h1
  obtain ⟨t, rfl, rfl, rfl, w2⟩ := open_int Ybad.underlying5 (hval 2 5 v2 rfl rfl) h2
  obtain ⟨c, rfl, rfl, rfl, w3⟩ := open_int Ybad.underlying5 (hval 3 5 v3 rfl rfl) h3
  obtain ⟨ng, rfl, rfl, rfl⟩ := open_bool Ybad.underlying4 (hval 4 4 v4 rfl rfl) h4
  obtain ⟨ts, rfl, rfl, rfl⟩ := open_bool Ybad.underlying4 (hval 5 4 v5 rfl rfl) h5
  obtain ⟨o, rfl, rfl, rfl, w6⟩ := open_int Ybad.underlying5 (hval 6 5 v6 rfl rfl) h6
  obtain ⟨a, rfl, rfl, rfl, w7⟩ := open_int Ybad.underlying23 (hval 7 23 v7 rfl rfl) h7
  obtain ⟨sq, rfl, rfl, rfl⟩ := open_bool Ybad.underlying4 (hval 8 4 v8 rfl rfl) h8
  obtain ⟨cnt, rfl, rfl, rfl, w9⟩ := open_int Ybad.underlying3 (hval 9 3 v9 rfl rfl) h9
  have b2 := bounds_u8 w2
  have b3 := bounds_u8 w3
  have b6 := bounds_u8 w6
  have b7 := bounds_u16 w7
  obtain ⟨t, rfl⟩ := Int.eq_ofNat_of_zero_le b2.1
  obtain ⟨c, rfl⟩ := Int.eq_ofNat_of_zero_le b3.1
  obtain ⟨o, rfl⟩ := Int.eq_ofNat_of_zero_le b6.1
  obtain ⟨a, rfl⟩ := Int.eq_ofNat_of_zero_le b7.1
  clear hA0 hval0
  refine (walk a0 cap0 l name t c o a ng ts sq cnt W hr hcap (by omega) (by omega) (by omega) (by omega) (tab_of_laid hL)).mono fun e W' ⟨he, bel⟩ => ?_
  subst he
  exact ⟨_, rfl, _, _, _, [], _, [], hW', trodAll_mk1 (shut_bool Ybad.underlying4 _),
    (trodAll_cons_mk (Below.trod laidOut (by kernel_rfl) (of_decide_eq_true (by kernel_rfl)) k0 bel lt0) (trodAll_cons_mk (shut_string Ybad.underlying9 w1) (trodAll_cons_mk (shut_int Ybad.underlying5 w2) (trodAll_cons_mk (shut_int Ybad.underlying5 w3) (trodAll_cons_mk (shut_bool Ybad.underlying4 _) (trodAll_cons_mk (shut_bool Ybad.underlying4 _)
      (trodAll_cons_mk (shut_int Ybad.underlying5 w6) (trodAll_cons_mk (shut_int Ybad.underlying23 w7) (trodAll_cons_mk (shut_bool Ybad.underlying4 _) (trodAll_cons_mk (shut_int Ybad.underlying3 w9) trodAll_mk0)))))))))), rfl, bel.frame _, fun h => by cases h⟩

theorem row_holds : Rows.LawS4914AHeaderSaid :=
  OpenClaim.holds_of_wide 3 Ybad.f3 rfl rfl rfl rfl rfl rfl rfl ⟨rfl, rfl, rfl, rfl, rfl⟩ rfl rfl rfl rfl rfl (by kernel_rfl) Ybad.func3 (by kernel_rfl)
    (of_decide_eq_true (by kernel_rfl)) (by unfold Func.isWrapper; first | (rw [if_pos (by decide +kernel)]; kernel_rfl) | (rw [if_neg (by decide +kernel)]; exact ⟨rfl, rfl⟩))
    (fun os started H enc _ => lifted os started H enc)
end Go.Proofs.YbulkcwtaDoor.lawS4914AHeader
