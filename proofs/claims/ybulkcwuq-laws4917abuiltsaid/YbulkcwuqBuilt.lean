import Derived.Test.YbulkcwuqStr
import Derived.OwnWalk
import Derived.Maps.AppendAt
import Derived.Laws.Concat
namespace Go.Proofs.Ybulkcwuq
open Go.ChangeShapes Go.WideShapes Go.ChangeAt Go.RowKit

theorem info9 : (Yba.prog.info? 9).map (fun i => (i.zero, i.size, i.bytes)) = some (some (.string ByteArray.empty), 1, 16) := by kernel_rfl

/-- 'make([]T, n, m)'. -/
theorem wpList_make_lc {P : Program} (w : World) {ops : Array Oper} {rest : List Oper} {o : Oper} {a : Act} {Q : Exit → Act → World → Prop}
    (hg : o.guard = none) (l c : Operand) (t : TypeId) (hop : o.op = Op.makeSlice t l c)
    (e : TypeId) (i : TypeInfo) (z : Value) (h1 : P.underlying t = some (.slice e)) (h2 : P.info? e = some i) (h3 : i.zero = some z) (h4 : i.size = 1) (h5 : z.cells = #[z])
    (kl kc : IntKind) (L C : Int) (n m : Nat) (hl : a.eval l = .int kl L) (hc : a.eval c = .int kc C) (hL : L = (n : Int)) (hC : C = (m : Int)) (hnm : n ≤ m) (b2 : i.bytes * m ≤ 281474976710656) (b3 : m ≤ maxLen)
    (hK : ∀ w', w'.ownsRow w.heap.size e 1 (.slice (some ⟨w.heap.size, 0, none⟩) n m) n (List.replicate n z) → Below w.heap.size w w' → wpList P ops Q rest (a.put o.dst (.slice (some ⟨w.heap.size, 0, none⟩) n m)) w') :
    wpList P ops Q (o :: rest) a w := by
  refine wpList_plain hg fun K hK' => ?_
  subst hL
  subst hC
  have h63 : (m : Int) ≤ 9223372036854775807 := by
    have h := b3
    simp [maxLen] at h
    omega
  have hb' : (i.bytes : Int) * (m : Int) ≤ 281474976710656 := by
    have h : ((i.bytes * m : Nat) : Int) ≤ 281474976710656 := by omega
    rwa [Int.natCast_mul] at h
  have hr := run_make (P := P) w t e i z h1 h2 h3 kl kc n m (by omega) (by omega) hb' h63
  simp only [Int.toNat_natCast, h4, Nat.mul_one] at hr
  have hmc : madeCells z.cells m = Array.replicate m z := by
    rw [h5]
    apply Array.ext
    · simp [madeCells]
    · intro j h1 h2
      simp [madeCells, Nat.mod_one]
  unfold Oper.wp
  simp [execOp, hop, hl, hc, hr, Result.andThen]
  refine hK' _ _ (hK _ ⟨?_, .inr ⟨w.heap.size, m, _, rfl, Nat.le_refl _, heap_alloc_new w _, hnm, b3, ?_, ?_⟩⟩ ((Below.refl _ w).alloc (Nat.le_refl _) _))
  · simp
  · simp [size_madeCells]
  · rw [hmc]; simp [List.take_replicate, Nat.min_eq_left hnm]

theorem StrRow.own {w : World} {base g n m cap : Nat} {ts : List ByteArray} (h : w.ownsRow base 9 1 (.slice (some ⟨g, 0, none⟩) m cap) m (ts.map Value.string)) (hl : ts.length = m) (hn : n ≤ m) (hs : ∀ s ∈ ts, s.size ≤ maxLen) : StrRow w (some ⟨g, 0, none⟩) n ts := by
  refine ⟨by omega, (fun h => by cases h), hs, fun x hx j hj => ?_⟩
  cases hx
  rw [Addr.add_lit, Nat.zero_add, h.cellAt j (by omega)]
  simp [List.getD, show j < ts.length by omega]

theorem okTo_congr (ss : List ByteArray) {ts ts' : List ByteArray} : ∀ k, (∀ j, j < k → ts.getD j ByteArray.empty = ts'.getD j ByteArray.empty) → okTo ss ts k = okTo ss ts' k
  | 0, _ => rfl
  | k + 1, h => by
    have e := okTo_congr ss k (fun j hj => h j (by omega))
    unfold okTo badAt
    rw [e, h k (by omega)]

theorem getD_set_ne (ts : List ByteArray) (k j : Nat) (x : ByteArray) (h : j ≠ k) : (ts.set k x).getD j ByteArray.empty = ts.getD j ByteArray.empty := by
  simp [List.getD, List.getElem?_set_ne (Ne.symm h)]
theorem getD_set_eq (ts : List ByteArray) (k : Nat) (x : ByteArray) (h : k < ts.length) : (ts.set k x).getD k ByteArray.empty = x := by
  simp [List.getD, h]

theorem okTo_set (ss ts : List ByteArray) (k : Nat) (x : ByteArray) (hk : k < ts.length) (h : okTo ss ts k = true) (hx : star x = true ∨ x = ss.getD k ByteArray.empty) : okTo ss (ts.set k x) (k + 1) = true := by
  rw [okTo, ← okTo_congr ss k (ts := ts) (fun j hj => (getD_set_ne ts k j x (by omega)).symm), h]
  unfold badAt
  rw [getD_set_eq ts k x hk]
  rcases hx with hx | hx
  · simp [hx]
  · simp [hx]

/-- What the loop keeps: the tail, of n strings, fits the segments below k. -/
structure Fits (w : World) (n : Nat) (ss : List ByteArray) (k : Nat) (ts : List ByteArray) (wr : World) : Prop where
  len : ts.length = n
  size : ∀ s ∈ ts, s.size ≤ maxLen
  ok : okTo ss ts k = true
  own : wr.ownsRow w.heap.size 9 1 (.slice (some ⟨w.heap.size, 0, none⟩) n (n + 1)) n (ts.map Value.string)
  below : Below w.heap.size w wr

theorem Fits.step {w : World} {n : Nat} {ss : List ByteArray} {k : Nat} {ts : List ByteArray} {wr : World} (h : Fits w n ss k ts wr) (hk : k < n) (x : ByteArray) (hs : x.size ≤ maxLen) (hx : star x = true ∨ x = ss.getD k ByteArray.empty) :
    Fits w n ss (k + 1) (ts.set k x) (wr.setCell ⟨w.heap.size, k, none⟩ (.string x)) := by
  have hst := h.own.stored k (.string x)
  refine ⟨by simp [h.len], ?_, okTo_set ss ts k x (by rw [h.len]; exact hk) h.ok hx, ?_, h.below.setCell (Nat.le_refl _) _⟩
  · intro s hs'
    rcases List.mem_or_eq_of_mem_set hs' with h1 | h1
    · exact h.size s h1
    · rw [h1]; exact hs
  · rw [List.map_set]; exact hst.1

theorem Fits.there {w : World} {n : Nat} {ss : List ByteArray} {k : Nat} {ts : List ByteArray} {wr : World} (h : Fits w n ss k ts wr) (hk : k < n) : (∃ y, wr.cell? ⟨w.heap.size, k, none⟩ = some y) ∧ wr.frozen? ⟨w.heap.size, k, none⟩ = false := by
  refine ⟨⟨.string (ts[k]'(by rw [h.len]; exact hk)), ?_⟩, h.own.frozenAt k⟩
  rw [h.own.cellAt k (by omega)]
  simp [h.len, hk]

def starS : ByteArray := ⟨#[42]⟩
theorem star_starS : star starS = true := by
  unfold star starS
  rw [ByteArray.toList_eq]
  rfl

theorem toList_append (a b : ByteArray) : (a ++ b).toList = a.toList ++ b.toList := by
  simp only [ByteArray.toList_eq, ByteArray.data_append, Array.toList_append]

/-- A word with a sign behind it is no wildcard and not the word. -/
theorem bad_bang (s : ByteArray) : star (s ++ ⟨#[33]⟩) = false ∧ ((s ++ ⟨#[33]⟩).toList == s.toList) = false := by
  have e : (s ++ (⟨#[33]⟩ : ByteArray)).toList = s.toList ++ [33] := by
    rw [toList_append, show (⟨#[33]⟩ : ByteArray).toList = [33] from by rw [ByteArray.toList_eq]]
  constructor
  · unfold star
    rw [e]
    rw [beq_eq_false_iff_ne]
    intro h
    have h2 := congrArg List.reverse h
    rw [List.reverse_append] at h2
    simp at h2
  · rw [e, beq_eq_false_iff_ne]
    intro h
    have := congrArg List.length h
    simp at this

theorem getD_append_left (ts : List ByteArray) (y : ByteArray) (j : Nat) (hj : j < ts.length) : (ts ++ [y]).getD j ByteArray.empty = ts.getD j ByteArray.empty := by
  simp [List.getD, List.getElem?_append_left hj]
theorem getD_append_last (ts : List ByteArray) (y : ByteArray) : (ts ++ [y]).getD ts.length ByteArray.empty = y := by
  simp [List.getD]

theorem okTo_longer (ss ts : List ByteArray) (k : Nat) (hk : ts.length = k) (h : okTo ss ts k = true) : okTo ss (ts ++ [starS]) (k + 1) = true := by
  subst hk
  rw [okTo, ← okTo_congr ss ts.length (ts := ts) (fun j hj => (getD_append_left ts starS j hj).symm), h]
  unfold badAt
  rw [getD_append_last, star_starS]
  rfl

theorem bad_set (ss ts : List ByteArray) (z : Nat) (hz : z < ts.length) : badAt ss (ts.set z (ss.getD z ByteArray.empty ++ ⟨#[33]⟩)) z = true := by
  unfold badAt
  rw [getD_set_eq ts z _ hz, (bad_bang _).1, (bad_bang _).2]
  rfl

theorem map_getD (ts : List ByteArray) (j : Nat) (hj : j < ts.length) : (ts.map Value.string)[j]? = some (.string (ts.getD j ByteArray.empty)) := by
  simp [List.getD, hj]

theorem set_append (ts : List ByteArray) (k : Nat) (x y : ByteArray) (hk : k < ts.length) : (ts ++ [y]).set k x = ts.set k x ++ [y] := by
  rw [List.set_append, if_pos hk]

set_option maxHeartbeats 1000000 in
theorem built_main (a0 : Option Addr) (n cap0 : Nat) (ss : List ByteArray) (mask : Int) (pos : Nat) (w : World) (hs : StrRow w a0 n ss) (hsz : ∀ s ∈ ss, s.size ≤ 140737488355328) (hn : n ≤ 1024) (hpos : pos ≤ 65535) :
    Calls Yba.prog 4 #[.slice a0 n cap0, .int .u64 mask, .int .u16 pos] w fun e w' => e = .returned (.bool true) ∧ Below w.heap.size w w' := by
  obtain ⟨i, hi, hz0, hz1, hz2⟩ := info_parts info9
  have t1 : ¬ (1024 : Int) < (n : Int) := by omega
  have hml : n + 1 ≤ maxLen := by unfold maxLen; omega
  go_enter Yba.func4, Yba.ntmps4
  go_wp2_with (at_make; refine wpList_make_lc _ rfl (.tmp 16) (.tmp 18) 22 rfl 9 i (.string ByteArray.empty) Yba.underlying22 hi hz0 hz1 rfl _ _ _ _ n (n + 1) rfl rfl rfl (by omega) (by omega) (by rw [hz2]; omega) hml ?_; intro w1 hown1 hb1)
  go_loopw [9] (fun x wr => ∃ (k : Nat) (ts : List ByteArray), k ≤ n ∧ x = .int .i64 k ∧ Fits w n ss k ts wr) (fun x _ => n - (intOf x).toNat)
  case atStart =>
    refine ⟨0, List.replicate n ByteArray.empty, Nat.zero_le _, rfl, ⟨by simp, ?_, rfl, by simpa using hown1, hb1⟩⟩
    intro s h
    rw [List.eq_of_mem_replicate h]
    exact Nat.zero_le _
  case round =>
    obtain ⟨k, ts, hk, rfl, hf⟩ := hrel
    by_cases hlt : k < n
    · obtain ⟨b, o, hx1, hc1, hsk⟩ := (hs.below hf.below).at hlt
      cases hx1
      obtain ⟨⟨y, hy⟩, hfr⟩ := hf.there hlt
      have HS1 : Hid _ := hf.step hlt starS (by decide) (.inl star_starS)
      have HS2 : Hid _ := hf.step hlt (ss.getD k ByteArray.empty) hsk (.inr rfl)
      generalize ss.getD k ByteArray.empty = s at *
      have hlt' : (k : Int) < (n : Int) := by omega
      go_wp2
      · exact ⟨⟨k + 1, _, by omega, by go_num, HS1.out⟩, by simp [intOf]; omega⟩
      · exact ⟨⟨k + 1, _, by omega, by go_num, HS2.out⟩, by simp [intOf]; omega⟩
      · exact ⟨⟨k + 1, _, by omega, by go_num, HS2.out⟩, by simp [intOf]; omega⟩
    · obtain rfl : k = n := by omega
      have hr1 := StrRow.own hf.own hf.len (Nat.le_refl _) hf.size
      have HOK : Hid _ := hf.ok
      go_wp2_with fail
      refine (match_any a0 k cap0 ss _ k (k + 1) ts _ (hs.below hf.below) hr1 (by omega) (by omega) (fun j h1 h2 => by omega)).mono ?_
      rintro e w4 ⟨rfl, rfl⟩
      rw [HOK.out]
      have hsz4 := hf.below.size
      go_wp2_with (first | (at_builtin; refine wpList_append_fits _ rfl (.tmp 49) (.tmp 50) 22 rfl w.heap.size 9 i 1 Yba.underlying22 hi hz1 w.heap.size k (k + 1) _ rfl (hf.own.alloc _) _ 1 _ [.string starS] rfl rfl (cell_one_new _ _ _) (by simp [Value.oneCell']) (by omega) ?_; intro w5 hown5 hgr5) | fail)
      have hb5 : Below w.heap.size w w5 := (hf.below.alloc hf.below.size _).grown hgr5 (by simp; omega) (fun q hq => by cases hq; exact Nat.le_refl _)
      have hown6 : w5.ownsRow w.heap.size 9 1 (.slice (some ⟨w.heap.size, 0, none⟩) (k + 1) (k + 1)) (k + 1) ((ts ++ [starS]).map Value.string) := by
        rw [List.map_append]; exact hown5
      have hl6 : (ts ++ [starS]).length = k + 1 := by simp [hf.len]
      have hs6 : ∀ s ∈ ts ++ [starS], s.size ≤ maxLen := by
        intro s hs'
        rcases List.mem_append.1 hs' with h1 | h1
        · exact hf.size s h1
        · simp at h1; rw [h1]; decide
      have HOK2 : Hid _ := okTo_longer ss ts k hf.len hf.ok
      have hin6 : ∀ j, j < k + 1 → k ≤ j → star ((ts ++ [starS]).getD j ByteArray.empty) = true := by
        intro j h1 h2
        obtain rfl : j = k := by omega
        have := getD_append_last ts starS
        rw [hf.len] at this
        rw [this]
        exact star_starS
      have htl := hf.len
      have htz := hf.size
      clear hown5 hown1 hgr5 HOK hr1 hf hb1
      refine (match_any a0 k cap0 ss _ (k + 1) (k + 1) (ts ++ [starS]) w5 (hs.below hb5) (StrRow.own hown6 hl6 (Nat.le_refl _) hs6) (by omega) (by omega) hin6).mono ?_
      rintro e w6 ⟨rfl, rfl⟩
      rw [HOK2.out]
      clear hin6 HOK2
      by_cases hk0 : k = 0
      · have hkb : (((k : Int) == 0) : Bool) = true := beq_iff_eq.2 (by omega)
        go_wp2
        go_ret
        exact ⟨rfl, hb5⟩
      · have hkb : (((k : Int) == 0) : Bool) = false := beq_eq_false_iff_ne.2 (by omega)
        have hz : pos % k < k := Nat.mod_lt _ (by omega)
        have hki : (0 : Int) < (k : Int) := by omega
        have hpi : (pos : Int) ≤ 65535 := by omega
        have hs5 := hs.below hb5
        obtain ⟨b, o, hx1, hc1, _⟩ := hs5.at hz
        cases hx1
        have hsx : (ss.getD (pos % k) ByteArray.empty).size ≤ 140737488355328 := by
          have hl := hs.len
          have : ss.getD (pos % k) ByteArray.empty = ss[pos % k] := by simp [List.getD, show pos % k < ss.length by omega]
          rw [this]
          exact hsz _ (List.getElem_mem _)
        have hb33 : (⟨#[33]⟩ : ByteArray).size = 1 := rfl
        have HBAD : Hid (okTo ss (ts.set (pos % k) (ss.getD (pos % k) ByteArray.empty ++ ⟨#[33]⟩)) k = false) := okTo_false (bad_set ss ts _ (by omega)) hz
        have hxs : (ss.getD (pos % k) ByteArray.empty ++ ⟨#[33]⟩ : ByteArray).size ≤ maxLen := by
          rw [ByteArray.size_append', hb33]; unfold maxLen; omega
        generalize ss.getD (pos % k) ByteArray.empty = s at *
        have hst := hown6.stored (pos % k) (.string (s ++ ⟨#[33]⟩))
        have hcell := hown6.cellAt (pos % k) (by omega)
        have hfr := hown6.frozenAt (pos % k)
        obtain ⟨y, hy⟩ : ∃ y, ((ts ++ [starS]).map Value.string)[pos % k]? = some y := ⟨_, List.getElem?_eq_getElem (by simp; omega)⟩
        rw [hy] at hcell
        have HST : Hid _ := hst
        clear hst hy
        clear hb33
        go_wp2_with fail
        have hset : ((ts ++ [starS]).map Value.string).set (pos % k) (.string (s ++ ⟨#[33]⟩)) = (ts.set (pos % k) (s ++ ⟨#[33]⟩) ++ [starS]).map Value.string := by
          rw [← List.map_set, set_append ts _ _ starS (by omega)]
        have hown7 := HST.out.1
        rw [hset] at hown7
        have hb7 : Below w.heap.size w (w6.setCell ⟨w.heap.size, pos % k, none⟩ (.string (s ++ ⟨#[33]⟩))) := hb5.setCell (Nat.le_refl _) _
        have hr7 : StrRow (w6.setCell ⟨w.heap.size, pos % k, none⟩ (.string (s ++ ⟨#[33]⟩))) (some ⟨w.heap.size, 0, none⟩) k (ts.set (pos % k) (s ++ ⟨#[33]⟩)) := by
          refine ⟨by simp; omega, (fun h => by cases h), ?_, fun q hq j hj => ?_⟩
          · intro s' hs'
            rcases List.mem_or_eq_of_mem_set hs' with h1 | h1
            · exact htz s' h1
            · rw [h1]; exact hxs
          · cases hq
            rw [Addr.add_lit, Nat.zero_add, hown7.cellAt j (by omega), map_getD _ j (by simp; omega), getD_append_left _ _ j (by simp; omega)]
        refine (match_any (some ⟨b, o, none⟩) k cap0 ss _ k (k + 1) (ts.set (pos % k) (s ++ ⟨#[33]⟩)) _ (hs.below hb7) hr7 (by omega) (by omega) (fun j h1 h2 => by omega)).mono ?_
        rintro e w8 ⟨rfl, rfl⟩
        rw [HBAD.out]
        go_wp2
        go_ret
        exact ⟨rfl, hb7⟩
end Go.Proofs.Ybulkcwuq
