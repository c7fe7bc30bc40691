/-
  'Rows.LawS4914CPickedSaid' ('asdu.LawS4914CPicked'): the row's step over the walk in YbulkcwtaCPicked. After the given shell of LawS4914BExact.
-/
import Derived.Test.YbulkcwtaCPicked
import Derived.Test.YbulkcwtaOpenRow
import Derived.OpenShut
import Derived.ShutString
import Derived.ChangeOld
namespace Go.Proofs.Ybulkcwta.lawS4914CPicked
open Go.ChangeShapes Go.WideShapes Go.ChangeAt Go.RowKit
open Go.ChangeMaps (open_string shut_string)
set_option linter.unusedVariables false

theorem own : ownKnob Yba.prog.godebug = none := by kernel_rfl
theorem laidOut : laidOutB Yba.prog = true := by kernel_rfl

/-- The walk: every length. -/
theorem walk (a0 : Option Addr) (n cap0 : Nat) (ss : List ByteArray) (a1 : Option Addr) (m cap1 : Nat) (zs : List Nat) (ex : ByteArray) (w : World) (hr : StrRow w a0 n ss) (hcap : a0 = none → cap0 = 0) (hz : ByteRow w a1 m zs) (hex : ex.size ≤ maxLen) :
    Calls Yba.prog 5 #[.slice a0 n cap0, .slice a1 m cap1, .string ex] w fun e w' => e = .returned (.bool true) ∧ Below w.heap.size w w' := by
  by_cases h1 : n ≤ 1024
  · by_cases h2 : m ≤ 1024
    · exact cpicked_main a0 n cap0 ss a1 m cap1 zs ex w hr hcap hz hex h1 h2
    · clear hr hz hcap
      have t1 : ¬ (1024 : Int) < (n : Int) := by omega
      have t2 : (1024 : Int) < (m : Int) := by omega
      go_enter Yba.func5, Yba.ntmps5
      go_wp2
      go_ret
      exact ⟨rfl, Below.refl _ _⟩
  · clear hr hz hcap
    have t1 : (1024 : Int) < (n : Int) := by omega
    go_enter Yba.func5, Yba.ntmps5
    go_wp2
    go_ret
    exact ⟨rfl, Below.refl _ _⟩

/-- A slice of bytes among the arguments, opened. -/
theorem open_bytes {H : Type} {enc : TypeId × Value → H} {w : World} {base : Nat} {held : Bool} {a : Option Addr} {len cap : Nat} {d : DataW H} {p : List MemPlace}
    (h : DataW.Trod enc Yba.prog w base (fun _ => true) held 22 (.slice a len cap) d p) : ∃ zs, ByteRow w a len zs := by
  obtain ⟨fuel, hf⟩ := h
  rcases open_ints Yba.underlying22 Yba.underlying5 (by kernel_rfl) hf with ⟨hcs, _⟩ | ⟨x, l, c, zs, hcs, _, hl, hm, hz, _, hcell, hwz⟩
  · simp [Value.cells] at hcs
    obtain ⟨rfl, rfl, rfl⟩ := hcs
    exact ⟨[], ⟨by simp, (fun _ => rfl), (fun x hx => by cases hx), by simp⟩⟩
  · simp [Value.cells] at hcs
    obtain ⟨rfl, rfl, rfl⟩ := hcs
    simp at hz
    have bd : ∀ j, 0 ≤ zs.getD j 0 ∧ zs.getD j 0 ≤ 255 := fun j => by rw [List.getD_eq_getElem?_getD]; exact range_u8 hwz j
    have e : ∀ j, (zs.map Int.toNat).getD j 0 = (zs.getD j 0).toNat := fun j => by
      simp only [List.getD_eq_getElem?_getD, List.getElem?_map]
      cases zs[j]? <;> rfl
    refine ⟨zs.map Int.toNat, ⟨by simp; omega, (fun h => by cases h), (fun y hy j hj => ?_), (fun j => ?_)⟩⟩
    · cases hy
      rw [hcell j (by omega), e j]
      have := bd j
      congr 2
      omega
    · rw [e j]
      have := bd j
      omega

set_option maxRecDepth 100000 in
theorem lifted (os : Os) (started : os.Started) (H : Type) (enc : TypeId × Value → H) :
    ReturnsInHanded {} Yba.checked os 5 .any (Rows.lawS4914CPickedSpec.pre6 enc Yba.prog Yba.f5 Rows.lawS4914CPickedRow.domain false) (Rows.lawS4914CPickedSpec.post enc Yba.prog Yba.f5 false true false false) := by
  refine returnsInHanded_of_change (C := Yba.checked) own started (by kernel_rfl) Yba.func5
    (ChangeSpec.witness6 (enc := enc) (C := Yba.checked) false ⟨#[], #[.slice none 0 0, .slice none 0 0, .string ByteArray.empty], []⟩ 8 (by kernel_rfl) (by kernel_rfl) (by kernel_rfl) (by kernel_rfl)) ?_
  intro W base args ds gs before hval0 hW hcnd _
  have hval : ∀ (j : Nat) t v, Yba.f5.params[j]? = some t → args[j]? = some v → Value.okWide Yba.prog W .any base t v := hval0
  have hW' := hW
  obtain ⟨p, q, hA0, hV, rfl, hfz, hnd⟩ := hW
  have hA : DataW.TrodAll enc Yba.prog W 0 (fun _ => true) true Yba.f5.params.toList args.toList ds p := hA0
  rw [Yba.params5] at hA hval
  obtain ⟨v0, vs0, d0, ds0, p0, q0, hargs, rfl, rfl, h0, r0⟩ := trodAll_cons hA
  obtain ⟨v1, vs1, d1, ds1, p1, q1, rfl, rfl, rfl, h1, r1⟩ := trodAll_cons r0
  obtain ⟨v2, vs2, d2, ds2, p2, q2, rfl, rfl, rfl, h2, r2⟩ := trodAll_cons r1
  obtain ⟨rfl, rfl, rfl⟩ := trodAll_nil r2
  obtain rfl : args = #[v0, v1, v2] := by cases args; simp_all
  obtain ⟨rfl, rfl⟩ := trodVars_none hV
  obtain ⟨a0, len0, cap0, rfl⟩ := okWide_slice Yba.underlying25 (hval 0 25 v0 rfl rfl)
  obtain ⟨a1, len1, cap1, rfl⟩ := okWide_slice Yba.underlying22 (hval 1 22 v1 rfl rfl)
  have k0 := h0
  have k1 := h1
  have lt0 : ∀ x ∈ p0, x.block < W.heap.size := by obtain ⟨m, hm⟩ := k0; exact DataW.trod_lt m _ _ _ hm
  have lt1 : ∀ x ∈ p1, x.block < W.heap.size := by obtain ⟨m, hm⟩ := k1; exact DataW.trod_lt m _ _ _ hm
  obtain ⟨ss, hr, hcap⟩ := open_row h0
  obtain ⟨zs, hz⟩ := open_bytes h1
  obtain ⟨ex, rfl, rfl, rfl, w2⟩ := open_string Yba.underlying9 (hval 2 9 v2 rfl rfl) h2
  clear hA0 hval0
  refine (walk a0 len0 cap0 ss a1 len1 cap1 zs ex W hr hcap hz w2).mono fun e W' ⟨he, bel⟩ => ?_
  subst he
  exact ⟨_, rfl, _, _, _, [], _, [], hW', trodAll_mk1 (shut_bool Yba.underlying4 _), (trodAll_cons_mk (Below.trod laidOut (by kernel_rfl) (of_decide_eq_true (by kernel_rfl)) k0 bel lt0) (trodAll_cons_mk (Below.trod laidOut (by kernel_rfl) (of_decide_eq_true (by kernel_rfl)) k1 bel lt1) (trodAll_cons_mk (shut_string Yba.underlying9 w2) trodAll_mk0))), rfl, bel.frame _, fun h => by cases h⟩

theorem over : Rows.lawS4914CPickedRow.holds Yba.pinned (OpenSpec.ofChange Rows.lawS4914CPickedSpec) :=
  OpenClaim.holds_of_wide 5 Yba.f5 rfl rfl rfl rfl rfl rfl rfl ⟨rfl, rfl, rfl, rfl, rfl⟩ rfl rfl rfl rfl rfl (by kernel_rfl) Yba.func5 (by kernel_rfl)
    (of_decide_eq_true (by kernel_rfl)) (by unfold Func.isWrapper; first | (rw [if_pos (by decide +kernel)]; kernel_rfl) | (rw [if_neg (by decide +kernel)]; exact ⟨rfl, rfl⟩))
    (fun os started H enc _ => lifted os started H enc)

/-- THE STATEMENT. -/
theorem proved : Rows.LawS4914CPickedSaid := over
end Go.Proofs.Ybulkcwta.lawS4914CPicked
