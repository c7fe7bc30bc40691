/-
  'Rows.LawS4917ABuiltSaid' ('server.LawS4917ABuilt'): the row's step over the walk in YbulkcwuqBuilt. The form's own reach bounds each string.
-/
import Derived.Test.YbulkcwuqBuilt
import Derived.OpenShut
import Derived.ShutString
import Derived.ChangeOld
import Derived.SizedLaws
namespace Go.Proofs.Ybulkcwuq.lawS4917ABuilt
open Go.ChangeShapes Go.WideShapes Go.ChangeAt Go.RowKit
set_option linter.unusedVariables false

theorem own : ownKnob Yba.prog.godebug = none := by kernel_rfl
theorem laidOut : laidOutB Yba.prog = true := by kernel_rfl

/-- The walk: every length. -/
theorem walk (a0 : Option Addr) (n cap0 : Nat) (ss : List ByteArray) (mask : Int) (pos : Nat) (w : World) (hs : StrRow w a0 n ss) (hsz : ∀ s ∈ ss, s.size ≤ 140737488355328) (hpos : pos ≤ 65535) :
    Calls Yba.prog 4 #[.slice a0 n cap0, .int .u64 mask, .int .u16 pos] w fun e w' => e = .returned (.bool true) ∧ Below w.heap.size w w' := by
  by_cases h1 : n ≤ 1024
  · exact built_main a0 n cap0 ss mask pos w hs hsz h1 hpos
  · clear hs hsz
    have t1 : (1024 : Int) < (n : Int) := by omega
    go_enter Yba.func4, Yba.ntmps4
    go_wp2
    go_ret
    exact ⟨rfl, Below.refl _ _⟩

theorem weights_strs {H : Type} (P : Program) (e : TypeId) : ∀ (l : List ByteArray) (s : ByteArray), s ∈ l → s.data.toList.length ∈ DataW.weightsAll P e (strs (H := H) l)
  | [], s, h => by cases h
  | a :: l, s, h => by
    show s.data.toList.length ∈ DataW.weights P e (.lit (.string a.data.toList) : DataW H) ++ DataW.weightsAll P e (strs l)
    rcases List.mem_cons.1 h with h | h
    · subst h
      exact List.mem_append_left _ (by simp [DataW.weights])
    · exact List.mem_append_right _ (weights_strs P e l s h)

/-- A slice of strings among the arguments, opened, each string within the form's reach. -/
theorem open_row_sized {H : Type} {enc : TypeId × Value → H} {w : World} {base : Nat} {held : Bool} {a : Option Addr} {len cap : Nat} {d : DataW H} {p : List MemPlace}
    (h : DataW.Trod enc Yba.prog w base (fun _ => true) held 22 (.slice a len cap) d p) (hw : ∀ n ∈ d.weights Yba.prog 22, n ≤ reachBytes) : ∃ ss, StrRow w a len ss ∧ ∀ s ∈ ss, s.size ≤ 140737488355328 := by
  obtain ⟨fuel, hf⟩ := h
  rcases open_strings Yba.underlying22 Yba.underlying9 cells9 hf with ⟨hcs, _⟩ | ⟨x, l, c, ss, hcs, _, hl, hm, hz, hx, hcell, hsz⟩
  · simp [Value.cells] at hcs
    obtain ⟨rfl, rfl, rfl⟩ := hcs
    exact ⟨[], ⟨by simp, fun _ => rfl, by simp, fun x hx => by cases hx⟩, by simp⟩
  · simp [Value.cells] at hcs
    obtain ⟨rfl, rfl, rfl⟩ := hcs
    simp at hz
    simp only [Prod.mk.injEq] at hx
    obtain ⟨rfl, rfl⟩ := hx
    refine ⟨ss, ⟨by omega, (fun h => by cases h), hsz, (fun y hy j hj => by cases hy; exact hcell j (by omega))⟩, fun s hs => ?_⟩
    have hr := reachBytes_lt
    have hmem : s.data.toList.length ∈ DataW.weights Yba.prog 22 (.slice (strs (H := H) (ss.take len)) (strs (ss.drop len))) := by
      rw [DataW.weights]
      simp only [Yba.underlying22]
      refine List.mem_cons_of_mem _ ?_
      rw [← List.take_append_drop len ss] at hs
      rcases List.mem_append.1 hs with h1 | h1
      · exact List.mem_append_left _ (weights_strs Yba.prog 9 _ s h1)
      · exact List.mem_append_right _ (weights_strs Yba.prog 9 _ s h1)
    have := hw _ hmem
    have e : s.data.toList.length = s.size := rfl
    omega

set_option maxRecDepth 100000 in
theorem lifted (os : Os) (started : os.Started) (H : Type) (enc : TypeId × Value → H) :
    ReturnsInHanded {} Yba.checked os 4 .any (Rows.lawS4917ABuiltSpec.pre6 enc Yba.prog Yba.f4 Rows.lawS4917ABuiltRow.domain false) (Rows.lawS4917ABuiltSpec.post enc Yba.prog Yba.f4 false true false false) := by
  refine returnsInHanded_of_change_sized (C := Yba.checked) own started (by kernel_rfl) Yba.func4
    (ChangeSpec.witness6 (enc := enc) (C := Yba.checked) false ⟨#[], #[.slice none 0 0, .int .u64 0, .int .u16 0], []⟩ 8 (by kernel_rfl) (by kernel_rfl) (by kernel_rfl) (by kernel_rfl)) ?_
  intro W base args ds gs before hval0 hW hcnd hsz0 _
  have hval : ∀ (j : Nat) t v, Yba.f4.params[j]? = some t → args[j]? = some v → Value.okWide Yba.prog W .any base t v := hval0
  have hW' := hW
  obtain ⟨p, q, hA0, hV, rfl, hfz, hnd⟩ := hW
  have hA : DataW.TrodAll enc Yba.prog W 0 (fun _ => true) true Yba.f4.params.toList args.toList ds p := hA0
  have hsz : (DataW.weightsEach Yba.prog (Yba.f4.params.toList ++ Rows.lawS4917ABuiltSpec.plain.varTypes Yba.prog) (ds ++ gs)).all (· ≤ reachBytes) = true := hsz0
  rw [Yba.params4] at hA hval hsz
  obtain ⟨v0, vs0, d0, ds0, p0, q0, hargs, rfl, rfl, h0, r0⟩ := trodAll_cons hA
  obtain ⟨v1, vs1, d1, ds1, p1, q1, rfl, rfl, rfl, h1, r1⟩ := trodAll_cons r0
  obtain ⟨v2, vs2, d2, ds2, p2, q2, rfl, rfl, rfl, h2, r2⟩ := trodAll_cons r1
  obtain ⟨rfl, rfl, rfl⟩ := trodAll_nil r2
  obtain rfl : args = #[v0, v1, v2] := by cases args; simp_all
  obtain ⟨rfl, rfl⟩ := trodVars_none hV
  obtain ⟨a0, len0, cap0, rfl⟩ := okWide_slice Yba.underlying22 (hval 0 22 v0 rfl rfl)
  have k0 := h0
  have lt0 : ∀ x ∈ p0, x.block < W.heap.size := by obtain ⟨m, hm⟩ := k0; exact DataW.trod_lt m _ _ _ hm
  obtain ⟨ss, hr, hss⟩ := open_row_sized h0 (fun n hn => by
    have := List.all_eq_true.1 hsz _ (DataW.weights_mem_each (j := 0) (t := 22) rfl rfl n hn)
    simpa using this)
  obtain ⟨mask, rfl, rfl, rfl, w1⟩ := open_int Yba.underlying24 (hval 1 24 v1 rfl rfl) h1
  obtain ⟨pos, rfl, rfl, rfl, w2⟩ := open_int Yba.underlying25 (hval 2 25 v2 rfl rfl) h2
  have b2 := bounds_u16 w2
  obtain ⟨pos, rfl⟩ := Int.eq_ofNat_of_zero_le b2.1
  clear hA0 hval0
  refine (walk a0 len0 cap0 ss mask pos W hr hss (by omega)).mono fun e W' ⟨he, bel⟩ => ?_
  subst he
  exact ⟨_, rfl, _, _, _, [], _, [], hW', trodAll_mk1 (shut_bool Yba.underlying4 _), (trodAll_cons_mk (Below.trod laidOut (by kernel_rfl) (of_decide_eq_true (by kernel_rfl)) k0 bel lt0) (trodAll_cons_mk (shut_int Yba.underlying24 w1) (trodAll_cons_mk (shut_int Yba.underlying25 w2) trodAll_mk0))), rfl, bel.frame _, fun h => by cases h⟩

theorem over : Rows.lawS4917ABuiltRow.holds Yba.pinned (OpenSpec.ofChange Rows.lawS4917ABuiltSpec) :=
  OpenClaim.holds_of_wide 4 Yba.f4 rfl rfl rfl rfl rfl rfl rfl ⟨rfl, rfl, rfl, rfl, rfl⟩ rfl rfl rfl rfl rfl (by kernel_rfl) Yba.func4 (by kernel_rfl)
    (of_decide_eq_true (by kernel_rfl)) (by unfold Func.isWrapper; first | (rw [if_pos (by decide +kernel)]; kernel_rfl) | (rw [if_neg (by decide +kernel)]; exact ⟨rfl, rfl⟩))
    (fun os started H enc _ => lifted os started H enc)

/-- THE STATEMENT. -/
theorem proved : Rows.LawS4917ABuiltSaid := over
end Go.Proofs.Ybulkcwuq.lawS4917ABuilt
