/-
  'copy(dst, src)', dst a slice of n elements that the call owns, src a slice of n elements: behind it dst owns src's elements. Elements of one cell.
-/
import Derived.Test.YbulkcwtaDoorApp
import Derived.Laws.CopyRow
import Derived.Laws.IdiomCopy
import Derived.OwnWalk
namespace Go.Proofs.YbulkcwtaDoor

theorem run_copy_full {P : Program} (w : World) (base : Nat) (t t2 ty e : TypeId) (hu : P.underlying t = some (.slice e)) (hsz : (P.info? e).map (·.size) = some 1)
    (g n cap : Nat) (xs : List Value) (hown : w.ownsRow base e 1 (.slice (some ⟨g, 0, none⟩) n cap) n xs) (sp : Option Addr) (sCap : Nat) (cs : List Value) (hcl : cs.length = n)
    (hnone : sp = none → n = 0) (hsrc : ∀ ad, sp = some ad → ∀ j v, cs[j]? = some v → w.cell? (ad.add j) = some v) (h1 : ∀ v ∈ cs, v.oneCell' = true) :
    ∃ w', (Builtin.copy_ #[t, t2] ty #[.slice (some ⟨g, 0, none⟩) n cap, .slice sp n sCap]).run P w = .ok (goInt n) w' ∧ w'.ownsRow base e 1 (.slice (some ⟨g, 0, none⟩) n cap) n cs ∧ w.grownBy w' (some g) := by
  cases sp with
  | none =>
    have hn := hnone rfl
    subst hn
    obtain rfl : cs = [] := List.eq_nil_of_length_eq_zero hcl
    obtain rfl : xs = [] := List.eq_nil_of_length_eq_zero (by simpa using hown.1)
    exact ⟨w, run_copy_none (P := P) w t t2 ty e _ _ 0 cap 0 sCap hu hsz (by simp), hown, World.grownBy.refl _ _⟩
  | some ad =>
    have hl := hsrc ad rfl
    rcases hown.2 with ⟨h, _⟩ | ⟨g', cap', cur, h, hb, hg, hnc, hcm, hcs, htake⟩
    · simp at h
    · simp only [Value.slice.injEq, Option.some.injEq, Addr.mk.injEq, and_true, true_and] at h
      obtain ⟨rfl, rfl⟩ := h
      have hr := run_copy_row (P := P) w t t2 ty e g 0 n cap ad n sCap cur e cs hu hsz hg (by simp [hcl]) hl (by omega) h1
      simp only [List.take_zero, List.nil_append, Nat.zero_add, hcl] at hr
      refine ⟨_, hr, ⟨by omega, .inr ⟨g, cap, _, rfl, hb, setRow_heap w g cur _ e _ hg, hnc, hcm, ?_, ?_⟩⟩, ⟨rfl, rfl, rfl, by simp, fun k _ hk => setRow_other w g k _ (fun e => hk (by simp [e]))⟩⟩
      · simp; omega
      · simp only [Nat.mul_one]
        rw [← hcl]
        exact List.take_left

theorem wpList_copy_full {P : Program} (w : World) {ops : Array Oper} {rest : List Oper} {o : Oper} {a : Act} {Q : Exit → Act → World → Prop} (hgd : o.guard = none) (d s : Operand) (t t2 : TypeId)
    (ho : o.op = .call { callee := .builtin .copy, args := #[d, s], argTypes := #[t, t2] }) (base : Nat) (e : TypeId) (hu : P.underlying t = some (.slice e)) (hsz : (P.info? e).map (·.size) = some 1)
    (g n cap : Nat) (hd : a.eval d = .slice (some ⟨g, 0, none⟩) n cap) (xs : List Value) (hown : w.ownsRow base e 1 (.slice (some ⟨g, 0, none⟩) n cap) n xs) (sp : Option Addr) (sCap : Nat) (hs : a.eval s = .slice sp n sCap) (cs : List Value) (hcl : cs.length = n)
    (hnone : sp = none → n = 0) (hsrc : ∀ ad, sp = some ad → ∀ j v, cs[j]? = some v → w.cell? (ad.add j) = some v) (h1 : ∀ v ∈ cs, v.oneCell' = true)
    (h : ∀ w', w'.ownsRow base e 1 (.slice (some ⟨g, 0, none⟩) n cap) n cs → w.grownBy w' (some g) → wpList P ops Q rest (a.put o.dst (goInt n)) w') : wpList P ops Q (o :: rest) a w := by
  refine wpList_plain hgd fun K hK => ?_
  obtain ⟨w', hr, h2, h3⟩ := run_copy_full (P := P) w base t t2 o.type e hu hsz g n cap xs hown sp sCap cs hcl hnone hsrc h1
  unfold Oper.wp execOp
  simp only [ho, resolve, invoke, builtin, Sem.run_bind, Sem.run_pure, Result.andThen_ok, List.map_toArray, List.map_cons, List.map_nil, hd, hs, hr]
  exact hK _ _ (h w' h2 h3)
end Go.Proofs.YbulkcwtaDoor
