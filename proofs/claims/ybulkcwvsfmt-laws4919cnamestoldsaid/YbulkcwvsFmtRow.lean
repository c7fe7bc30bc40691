/-
  'ReturnsInTold' of LawS4919CNames over the walk in YbulkcwvsFmtNames. After the guide's HexbadTold and TagTold.
-/
import Derived.Test.YbulkcwvsFmtNames
import Derived.ChangeSlices
import Derived.ChangeSame
import Derived.JoinedOf
import Derived.Stop.JoinedAt
import Derived.Stop.Texts
import Derived.Stop.JoinedTold
import Derived.SizedLaws
import Derived.Deep.Matrix
import Derived.OpenShut
namespace Go.Proofs.YbulkcwvsFmt.lawS4919CNames
open Go.ChangeShapes Go.WideShapes Go.ChangeAt Go.RowKit Go.Kit
open Go.Extern.Stop Go.Stop Go.Extern
set_option linter.unusedVariables false

theorem own : ownKnob Ybaf.prog.godebug = none := by kernel_rfl
theorem laidOut : laidOutB Ybaf.prog = true := by kernel_rfl

set_option maxRecDepth 100000 in
set_option maxHeartbeats 1000000 in
/-- The walk: every length. -/
theorem walk (F : Interp) (a0 : Option Addr) (L : List (Option Addr × List UInt8 × Nat)) (c0 : Nat) (a1 : Option Addr) (hl : List UInt8) (c1 x : Nat) (whole : Bool) (w : World) (hF : F.answers w.tape)
    (hG : GRow w a0 L) (hR : BRow w a1 hl) (hx : x ≤ 255) :
    Calls Ybaf.prog 4 #[.slice a0 L.length c0, .slice a1 hl.length c1, .int .u8 x, .bool whole] w fun e w' => e = .returned (.bool true) ∧ Below w.heap.size w w' := by
  by_cases h1 : L.length ≤ 256
  · by_cases h2 : hl.length ≤ 1024
    · exact names_main F a0 L c0 a1 hl c1 x whole w hF hG hR h1 h2 hx
    · clear hG hR hF
      have t1 : ¬ (256 : Int) < (L.length : Int) := by omega
      have t2 : (1024 : Int) < (hl.length : Int) := by omega
      go_enter Ybaf.func4, Ybaf.ntmps4
      go_wp2
      go_ret
      exact ⟨rfl, Below.refl _ _⟩
  · clear hG hR hF
    have t1 : (256 : Int) < (L.length : Int) := by omega
    go_enter Ybaf.func4, Ybaf.ntmps4
    go_wp2
    go_ret
    exact ⟨rfl, Below.refl _ _⟩

/-- The bytes that cells of the kind uint8 hold. -/
theorem bytes_row {w : World} {a : Option Addr} {len cap : Nat} {zs : List Int} (hl : len ≤ zs.length) (hn : a = none → len = 0)
    (hc : ∀ x, a = some x → ∀ j, j < zs.length → w.cell? (x.add j) = some (.int .u8 (zs.getD j 0))) (hw : ∀ n ∈ zs, (Lit.int .u8 n).wf = true) :
    len = ((zs.take len).map (fun z => UInt8.ofNat z.toNat)).length ∧ BRow w a ((zs.take len).map (fun z => UInt8.ofNat z.toNat)) := by
  refine ⟨by simp; omega, ⟨fun h => ?_, fun y hy j hj => ?_⟩⟩
  · rw [hn h]; rfl
  · have hj2 : j < zs.length := by simp at hj; omega
    have hb := bounds_u8 (hw zs[j] (List.getElem_mem hj2))
    rw [hc y hy j hj2]
    have e1 : zs.getD j 0 = zs[j] := by simp [List.getD, hj2]
    have e2 : ((zs.take len).map (fun z => UInt8.ofNat z.toNat))[j] = UInt8.ofNat zs[j].toNat := by simp
    rw [e1, e2]
    have e3 : (UInt8.ofNat zs[j].toNat).toNat = zs[j].toNat := by
      simp only [UInt8.toNat_ofNat']
      omega
    rw [e3]
    congr 2
    omega

theorem open_bytes {H : Type} {enc : TypeId × Value → H} {w : World} {base : Nat} {held : Bool} {a : Option Addr} {len cap : Nat} {d : DataW H} {p : List MemPlace}
    (h : DataW.Trod enc Ybaf.prog w base (fun _ => true) held 61 (.slice a len cap) d p) : ∃ l : List UInt8, len = l.length ∧ BRow w a l := by
  obtain ⟨fuel, hf⟩ := h
  rcases open_ints Ybaf.underlying61 Ybaf.underlying5 (by kernel_rfl) hf with ⟨hcs, _⟩ | ⟨x, n, c, zs, hcs, _, hl, hm, hz, _, hcell, hwz⟩
  · simp [Value.cells] at hcs
    obtain ⟨rfl, rfl, rfl⟩ := hcs
    exact ⟨[], rfl, ⟨(fun _ => rfl), (fun x hx => by cases hx)⟩⟩
  · simp [Value.cells] at hcs
    obtain ⟨rfl, rfl, rfl⟩ := hcs
    simp at hz
    exact ⟨_, bytes_row (cap := cap) (by omega) (fun h => by cases h) (fun y hy j hj => by cases hy; exact hcell j hj) hwz⟩

theorem open_groups {H : Type} {enc : TypeId × Value → H} {w : World} {base : Nat} {held : Bool} {a : Option Addr} {len cap : Nat} {d : DataW H} {p : List MemPlace}
    (h : DataW.Trod enc Ybaf.prog w base (fun _ => true) held 60 (.slice a len cap) d p) : ∃ L : List (Option Addr × List UInt8 × Nat), len = L.length ∧ GRow w a L := by
  obtain ⟨fuel, hf⟩ := h
  rcases Go.Deep.open_int_rows Ybaf.underlying60 Ybaf.underlying61 Ybaf.underlying5 (by kernel_rfl) (by kernel_rfl) hf with ⟨hcs, _⟩ | ⟨x, n, c, A, Ln, C, Z, hcs, _, hl, hm, _, hrow⟩
  · simp [Value.cells] at hcs
    obtain ⟨rfl, rfl, rfl⟩ := hcs
    exact ⟨[], rfl, ⟨(fun _ => rfl), (fun x hx => by cases hx), (fun j hj => by simp at hj)⟩⟩
  · simp [Value.cells] at hcs
    obtain ⟨rfl, rfl, rfl⟩ := hcs
    have each : ∀ r, r < len → Ln r = (((Z r).take (Ln r)).map (fun z => UInt8.ofNat z.toNat)).length ∧ BRow w (A r) (((Z r).take (Ln r)).map (fun z => UInt8.ofNat z.toNat)) := by
      intro r hr
      obtain ⟨h1, h2, h3, h4, h5, h6, h7⟩ := hrow r (by omega)
      exact bytes_row (cap := 0) (by omega) (fun h => by have := h6 h; omega) (fun y hy j hj => (h7 y hy).2 j (by omega)) h5
    refine ⟨(List.range len).map (fun r => (A r, ((Z r).take (Ln r)).map (fun z => UInt8.ofNat z.toNat), C r)), by simp, ⟨(fun h => by cases h), (fun y hy j hj => ?_), (fun j hj => ?_)⟩⟩
    · cases hy
      have hj2 : j < len := by simpa using hj
      simp only [List.getElem_map, List.getElem_range]
      rw [← (each j hj2).1]
      exact (hrow j (by omega)).1
    · have hj2 : j < len := by simpa using hj
      simp only [List.getElem_map, List.getElem_range]
      exact (each j hj2).2

set_option maxRecDepth 100000 in
set_option maxHeartbeats 1000000 in
theorem t_lifted (os : Os) (started : os.Started) (H : Type) (enc : TypeId × Value → H) :
    ReturnsInTold none {} Ybaf.checked os 4 .any Input.okWide ((OpenSpec.ofChange Rows.lawS4919CNamesSpec).preRow enc Ybaf.prog Ybaf.f4 [] false []) (fun F => ((OpenSpec.ofChange Rows.lawS4919CNamesSpec).at F).post enc Ybaf.prog Ybaf.f4 false true false false) (aloneAtReturn Ybaf.prog) nothingAlways := by
  refine returnsInTold_of_row (C := Ybaf.checked) (s := OpenSpec.ofChange Rows.lawS4919CNamesSpec) (by kernel_rfl) own started (by kernel_rfl) Ybaf.func4
    (OpenSpec.witness_stopped (enc := enc) (C := Ybaf.checked) false ⟨#[], #[.slice none 0 0, .slice none 0 0, .int .u8 0, .bool false], []⟩ 8 (by kernel_rfl) (by kernel_rfl) (by kernel_rfl) (by kernel_rfl)) ?_
  intro F W base args ds gs before _ hF hval0 hW _ _ _ _ _
  have hval : ∀ (j : Nat) t v, Ybaf.f4.params[j]? = some t → args[j]? = some v → Value.okWide Ybaf.prog W .any base t v := hval0
  have hW' := hW
  obtain ⟨p, q, hA0, hV, rfl, hfz, hnd⟩ := hW
  have hA : DataW.TrodAll enc Ybaf.prog W 0 (fun _ => true) true Ybaf.f4.params.toList args.toList ds p := hA0
  rw [Ybaf.params4] at hA hval
  obtain ⟨v0, vs0, d0, ds0, p0, q0, hargs, rfl, rfl, h0, r0⟩ := trodAll_cons hA
  obtain ⟨v1, vs1, d1, ds1, p1, q1, rfl, rfl, rfl, h1, r1⟩ := trodAll_cons r0
  obtain ⟨v2, vs2, d2, ds2, p2, q2, rfl, rfl, rfl, h2, r2⟩ := trodAll_cons r1
  obtain ⟨v3, vs3, d3, ds3, p3, q3, rfl, rfl, rfl, h3, r3⟩ := trodAll_cons r2
  obtain ⟨rfl, rfl, rfl⟩ := trodAll_nil r3
  obtain rfl : args = #[v0, v1, v2, v3] := by cases args; simp_all
  obtain ⟨rfl, rfl⟩ := trodVars_none hV
  obtain ⟨a0, len0, cap0, rfl⟩ := okWide_slice Ybaf.underlying60 (hval 0 60 v0 rfl rfl)
  obtain ⟨a1, len1, cap1, rfl⟩ := okWide_slice Ybaf.underlying61 (hval 1 61 v1 rfl rfl)
  have k0 := h0
  have lt0 : ∀ x ∈ p0, x.block < W.heap.size := by obtain ⟨m, hm⟩ := k0; exact DataW.trod_lt m _ _ _ hm
  have k1 := h1
  have lt1 : ∀ x ∈ p1, x.block < W.heap.size := by obtain ⟨m, hm⟩ := k1; exact DataW.trod_lt m _ _ _ hm
  obtain ⟨L, rfl, hG⟩ := open_groups h0
  obtain ⟨l, rfl, hR⟩ := open_bytes h1
  obtain ⟨t, rfl, rfl, rfl, w2⟩ := open_int Ybaf.underlying5 (hval 2 5 v2 rfl rfl) h2
  obtain ⟨wh, rfl, rfl, rfl⟩ := open_bool Ybaf.underlying4 (hval 3 4 v3 rfl rfl) h3
  have b2 := bounds_u8 w2
  obtain ⟨t, rfl⟩ := Int.eq_ofNat_of_zero_le b2.1
  clear hA0 hval0
  refine (walk F.told a0 L cap0 a1 l cap1 t wh W hF hG hR (by omega)).mono fun e W' ⟨he, bel⟩ => ?_
  subst he
  exact ⟨_, rfl, _, _, _, [], _, [], hW', trodAll_mk1 (shut_bool Ybaf.underlying4 _),
    (trodAll_cons_mk (Below.trod laidOut (by kernel_rfl) (of_decide_eq_true (by kernel_rfl)) k0 bel lt0) (trodAll_cons_mk (Below.trod laidOut (by kernel_rfl) (of_decide_eq_true (by kernel_rfl)) k1 bel lt1)
      (trodAll_cons_mk (shut_int Ybaf.underlying5 w2) (trodAll_cons_mk (shut_bool Ybaf.underlying4 _) trodAll_mk0)))), rfl, bel.frame _, fun h => by cases h⟩
end Go.Proofs.YbulkcwvsFmt.lawS4919CNames
