/-
  FnCountsThroughGrowsAndIgnoresOrigin: the law's walk, its short ways; the plain law of its loops.
-/
import Derived.Test.Qxb6612665aLaw3
namespace Go.Proofs.Qxb6612665a
open Go.RowKit

theorem zzBytes10_any (a0 a1 : Option Addr) (n0 c0 n1 c1 : Nat) (b i d : Int) (w : World) :
    Calls Try.prog 10 #[.slice a0 n0 c0, .slice a1 n1 c1, .int .u64 b, .int .i64 i, .int .u64 d] w fun e w' => (∃ r, e = .returned (.bool r)) ∧ w' = w := by
  go_enter Try.func10, Try.ntmps10
  go_wp2
  all_goals
    go_ret
    exact ⟨⟨_, rfl⟩, rfl⟩

theorem zzBytes10_yes (a0 a1 : Option Addr) (n0 c0 n1 c1 : Nat) (b i d : Int) (w : World) (h0 : n0 ≤ 65536) (h1 : n1 ≤ 65536) :
    Calls Try.prog 10 #[.slice a0 n0 c0, .slice a1 n1 c1, .int .u64 b, .int .i64 i, .int .u64 d] w fun e w' => e = .returned (.bool true) ∧ w' = w := by
  go_enter Try.func10, Try.ntmps10
  go_wp2
  go_ret
  exact ⟨rfl, rfl⟩

/-- Too long: true at once. -/
theorem law4_long (a0 a1 : Option Addr) (n0 c0 n1 c1 : Nat) (b i d : Int) (w : World) (h : ¬ (n0 ≤ 65536 ∧ n1 ≤ 65536)) :
    Calls Try.prog 4 #[.slice a0 n0 c0, .slice a1 n1 c1, .int .u64 b, .int .i64 i, .int .u64 d] w fun e w' => e = .returned (.bool true) ∧ Below w.heap.size w w' := by
  go_enter Try.func4, Try.ntmps4
  go_wp2_with fail
  refine (zzBytes10_any a0 a1 n0 c0 n1 c1 b i d _).mono ?_
  rintro e w' ⟨⟨r, rfl⟩, rfl⟩
  cases r
  · go_wp2_with fail
    go_ret
    exact ⟨rfl, Below.refl _ _⟩
  · by_cases c1 : n0 ≤ 65536
    · have c2 : ¬ n1 ≤ 65536 := fun c2 => h ⟨c1, c2⟩
      clear h
      go_wp2_with fail
      go_ret
      exact ⟨rfl, Below.refl _ _⟩
    · clear h
      go_wp2_with fail
      go_ret
      exact ⟨rfl, Below.refl _ _⟩

set_option maxRecDepth 100000 in
/-- The lengths part, or the place lies outside: true at once. -/
theorem law4_out (a0 a1 : Option Addr) (n0 c0 n1 c1 : Nat) (b i d : Int) (w : World) (h0 : n0 ≤ 65536) (h1 : n1 ≤ 65536) (h : n0 ≠ n1 ∨ i < 0 ∨ (n1 : Int) ≤ i) :
    Calls Try.prog 4 #[.slice a0 n0 c0, .slice a1 n1 c1, .int .u64 b, .int .i64 i, .int .u64 d] w fun e w' => e = .returned (.bool true) ∧ Below w.heap.size w w' := by
  by_cases hn : n0 = n1
  · subst hn
    have hnn : (n0 != n0) = false := by simp
    by_cases hj : i < 0
    · clear h
      go_enter Try.func4, Try.ntmps4
      go_wp2_with fail
      refine (zzBytes10_yes a0 a1 _ c0 _ c1 b i d _ h0 h1).mono ?_
      rintro e w' ⟨rfl, rfl⟩
      go_wp2_with fail
      go_ret
      exact ⟨rfl, Below.refl _ _⟩
    · obtain ⟨k, rfl⟩ := Int.eq_ofNat_of_zero_le (show 0 ≤ i by omega)
      have hi' : n0 ≤ k := by omega
      clear h hj
      go_enter Try.func4, Try.ntmps4
      go_wp2_with fail
      refine (zzBytes10_yes a0 a1 _ c0 _ c1 b k d _ h0 h1).mono ?_
      rintro e w' ⟨rfl, rfl⟩
      go_wp2_with fail
      go_ret
      exact ⟨rfl, Below.refl _ _⟩
  · clear h
    go_enter Try.func4, Try.ntmps4
    go_wp2_with fail
    refine (zzBytes10_yes a0 a1 _ c0 _ c1 b i d _ h0 h1).mono ?_
    rintro e w' ⟨rfl, rfl⟩
    go_wp2_with fail
    go_ret
    exact ⟨rfl, Below.refl _ _⟩

/-! ### The plain law -/
/-- The total of the costs of the first k points. -/
def tot (base : Int) (z : List Int) (k : Nat) : Int := IntKind.u64.wrap (pv base z k - base)
/-- What 'wantI' holds ahead of round k. -/
def wi (base : Int) (z : List Int) (i k : Nat) : Int := if i < k then tot base z (i + 1) else 0
theorem tot_zero (base : Int) (z : List Int) : tot base z 0 = 0 := by
  simp only [tot, pv_zero, IntKind.wrap_u64]; omega
theorem tot_nonneg (base : Int) (z : List Int) (k : Nat) : 0 ≤ tot base z k := by
  simp only [tot, IntKind.wrap_u64]; omega
theorem wi_zero (base : Int) (z : List Int) (i : Nat) : wi base z i 0 = 0 := by simp [wi]
theorem wi_hit (base : Int) (z : List Int) (k : Nat) : wi base z k (k + 1) = tot base z (k + 1) := by simp [wi]
theorem wi_miss (base : Int) (z : List Int) {i k : Nat} (h : k ≠ i) : wi base z i (k + 1) = wi base z i k := by
  by_cases e : i < k
  · simp [wi, e, show i < k + 1 by omega]
  · simp [wi, e, show ¬ i < k + 1 by omega]
theorem wi_end (base : Int) (z : List Int) {i n : Nat} (h : i < n) : wi base z i n = tot base z (i + 1) := by simp [wi, h]

/-- So far every cost was good: the totals grow, and stay in int64. -/
structure Good (base : Int) (z : List Int) (k : Nat) : Prop where
  low : ∀ m, m ≤ k → (m : Int) ≤ tot base z m
  high : ∀ m, m ≤ k → tot base z m ≤ 9223372036854775807
  grow : ∀ m, m < k → tot base z m < tot base z (m + 1)
theorem Good.zero (base : Int) (z : List Int) : Good base z 0 where
  low := fun m hm => by obtain rfl : m = 0 := by omega
                        rw [tot_zero]; omega
  high := fun m hm => by obtain rfl : m = 0 := by omega
                         rw [tot_zero]; omega
  grow := fun m hm => by omega
theorem tot_step (base : Int) (z : List Int) (k : Nat) : IntKind.u64.wrap (tot base z k + IntKind.u64.wrap (nth z k - pv base z k)) = tot base z (k + 1) := by
  simp only [tot, pv_succ, IntKind.wrap_u64]; omega
theorem Good.step {base : Int} {z : List Int} {k : Nat} (h : Good base z k) (h0 : ¬ IntKind.u64.wrap (nth z k - pv base z k) = 0) (h1 : IntKind.u64.wrap (nth z k - pv base z k) ≤ 9223372036854775807) (h2 : tot base z (k + 1) ≤ 9223372036854775807) : Good base z (k + 1) := by
  have e := tot_step base z k
  have hl := h.low k (Nat.le_refl _)
  have hh := h.high k (Nat.le_refl _)
  have hc : 0 ≤ IntKind.u64.wrap (nth z k - pv base z k) := by rw [IntKind.wrap_u64]; omega
  have hlt : tot base z k < tot base z (k + 1) := by
    generalize IntKind.u64.wrap (nth z k - pv base z k) = c at *
    generalize tot base z (k + 1) = t at *
    generalize tot base z k = s at *
    rw [IntKind.wrap_u64] at e
    omega
  refine ⟨fun m hm => ?_, fun m hm => ?_, fun m hm => ?_⟩
  · by_cases q : m ≤ k
    · exact h.low m q
    · obtain rfl : m = k + 1 := by omega
      omega
  · by_cases q : m ≤ k
    · exact h.high m q
    · obtain rfl : m = k + 1 := by omega
      exact h2
  · by_cases q : m < k
    · exact h.grow m q
    · obtain rfl : m = k := by omega
      exact hlt

theorem thr_tot {base : Int} {z : List Int} {i : Nat} (h : tot base z (i + 1) ≤ 9223372036854775807) : thr (nth z i) base = tot base z (i + 1) := by
  simp only [tot, pv_succ, thr, wrap64, IntKind.wrap_u64] at *; omega
theorem thr_shift (u b d : Int) : thr (IntKind.u64.wrap (u + d)) (IntKind.u64.wrap (b + d)) = thr u b := by
  simp only [thr, wrap64, IntKind.wrap_u64]; omega

/-- Every running total shifted by d. -/
def shl (z : List Int) (d : Int) : List Int := z.map fun u => IntKind.u64.wrap (u + d)
theorem shl_length (z : List Int) (d : Int) : (shl z d).length = z.length := by simp [shl]
theorem shl_nth (z : List Int) (d : Int) {k : Nat} (h : k < z.length) : nth (shl z d) k = IntKind.u64.wrap (nth z k + d) := by
  simp [nth, shl, h]

/-! ### The row 'shifted' in the making: k of its cells stand -/
structure Shf (wr : World) (B n k : Nat) (us : List Int) : Prop where
  size : B < wr.heap.size
  cells : ∀ j, j < n → ∃ v, wr.cell? ⟨B, j, none⟩ = some v
  open' : ∀ j, wr.frozen? ⟨B, j, none⟩ = false
  made : ∀ i, i < k → wr.cell? ⟨B, i, none⟩ = some (.int .u64 (nth us i))

theorem Shf.start (w : World) (n : Nat) (us : List Int) : Shf (w.alloc (.cells (madeCells #[.int .u64 0] n) 24)) w.heap.size n 0 us where
  size := by simp
  cells := fun j hj => by
    rw [World.cell?_alloc_new]
    exact ⟨_, Array.getElem?_eq_getElem (by rw [size_madeCells]; exact hj)⟩
  open' := fun j => World.frozen?_alloc_new _ _ _ _
  made := fun i hi => by omega

theorem Shf.step {wr : World} {B n k : Nat} {us : List Int} (h : Shf wr B n k us) (hk : k < n) : Shf (wr.setCell ⟨B, k, none⟩ (.int .u64 (nth us k))) B n (k + 1) us where
  size := by simpa using h.size
  cells := fun j hj => by
    obtain ⟨v, hv⟩ := h.cells j hj
    exact cell?_setCell_some (p := ⟨B, k, none⟩) (x := .int .u64 (nth us k)) hv
  open' := fun j => by rw [World.frozen?_setCell]; exact h.open' j
  made := fun i hi => by
    by_cases e : i = k
    · subst e
      obtain ⟨v, hv⟩ := h.cells i hk
      exact World.cell?_setCell_same _ _ _ hv
    · rw [World.cell?_setCell_other _ _ _ _ (by simp <;> omega)]
      exact h.made i (by omega)

/-- ZZcountsThrough, its answer under a name, its place a plain number. -/
theorem countsThrough_at (b pb : Nat) (base : Int) (us : List Int) (k : Nat) (p T : Int) (w : World) (hp : p = (k : Int)) (hT : thr (nth us k) base = T) (hc : IsCounts w b pb base us) (hk : k < us.length) (hl : us.length ≤ 65536) :
    Calls Try.prog 9 #[.pointer (some ⟨b, 0, none⟩), .int .i64 p] w fun e w' => e = .returned (.int .i64 T) ∧ Below w.heap.size w w' := by
  subst hp
  subst hT
  exact countsThrough_any b pb base us k w hc hk hl
end Go.Proofs.Qxb6612665a
