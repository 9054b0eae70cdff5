/-
  FnCountsThroughIsSumOfCosts: the law's walk.
-/
import Derived.Test.Qxb6612665aCopy
namespace Go.Proofs.Qxb6612665a
open Go.RowKit

theorem zzBytes7_any (a0 a1 : Option Addr) (n0 c0 n1 c1 : Nat) (b i j : Int) (w : World) :
    Calls Try.prog 7 #[.slice a0 n0 c0, .slice a1 n1 c1, .int .u64 b, .int .i64 i, .int .i64 j] w fun e w' => (∃ r, e = .returned (.bool r)) ∧ w' = w := by
  go_enter Try.func7, Try.ntmps7
  go_wp2
  all_goals
    go_ret
    exact ⟨⟨_, rfl⟩, rfl⟩

theorem zzBytes7_yes (a0 a1 : Option Addr) (n0 c0 n1 c1 : Nat) (b i j : Int) (w : World) (h0 : n0 ≤ 65536) (h1 : n1 ≤ 65536) :
    Calls Try.prog 7 #[.slice a0 n0 c0, .slice a1 n1 c1, .int .u64 b, .int .i64 i, .int .i64 j] w fun e w' => e = .returned (.bool true) ∧ w' = w := by
  go_enter Try.func7, Try.ntmps7
  go_wp2
  go_ret
  exact ⟨rfl, rfl⟩

/-- Too long: true at once. -/
theorem law3_long (a0 a1 : Option Addr) (n0 c0 n1 c1 : Nat) (b i j : Int) (w : World) (h : ¬ (n0 ≤ 65536 ∧ n1 ≤ 65536)) :
    Calls Try.prog 3 #[.slice a0 n0 c0, .slice a1 n1 c1, .int .u64 b, .int .i64 i, .int .i64 j] w fun e w' => e = .returned (.bool true) ∧ Below w.heap.size w w' := by
  go_enter Try.func3, Try.ntmps3
  go_wp2_with fail
  refine (zzBytes7_any a0 a1 n0 c0 n1 c1 b i j _).mono ?_
  rintro e w' ⟨⟨r, rfl⟩, rfl⟩
  cases r
  · go_wp2_with fail
    go_ret
    exact ⟨rfl, Below.refl _ _⟩
  · by_cases c1 : n0 ≤ 65536
    · have c2 : ¬ n1 ≤ 65536 := fun c2 => h ⟨c1, c2⟩
      clear h
      go_wp2_with fail
      go_ret
      exact ⟨rfl, Below.refl _ _⟩
    · clear h
      go_wp2_with fail
      go_ret
      exact ⟨rfl, Below.refl _ _⟩

/-- The lengths part, or the places lie outside: true at once. -/
theorem law3_out (a0 a1 : Option Addr) (n0 c0 n1 c1 : Nat) (b i j : Int) (w : World) (h0 : n0 ≤ 65536) (h1 : n1 ≤ 65536) (h : n0 ≠ n1 ∨ j < 0 ∨ i < j ∨ (n1 : Int) ≤ i) :
    Calls Try.prog 3 #[.slice a0 n0 c0, .slice a1 n1 c1, .int .u64 b, .int .i64 i, .int .i64 j] w fun e w' => e = .returned (.bool true) ∧ Below w.heap.size w w' := by
  by_cases hn : n0 = n1
  · subst hn
    have hnn : (n0 != n0) = false := by simp
    by_cases hj : j < 0
    · clear h
      go_enter Try.func3, Try.ntmps3
      go_wp2_with fail
      refine (zzBytes7_yes a0 a1 _ c0 _ c1 b i j _ h0 h1).mono ?_
      rintro e w' ⟨rfl, rfl⟩
      go_wp2_with fail
      go_ret
      exact ⟨rfl, Below.refl _ _⟩
    · by_cases hi : i < j
      · clear h
        go_enter Try.func3, Try.ntmps3
        go_wp2_with fail
        refine (zzBytes7_yes a0 a1 _ c0 _ c1 b i j _ h0 h1).mono ?_
        rintro e w' ⟨rfl, rfl⟩
        go_wp2_with fail
        go_ret
        exact ⟨rfl, Below.refl _ _⟩
      · have hi' : (n0 : Int) ≤ i := by omega
        clear h
        go_enter Try.func3, Try.ntmps3
        go_wp2_with fail
        refine (zzBytes7_yes a0 a1 _ c0 _ c1 b i j _ h0 h1).mono ?_
        rintro e w' ⟨rfl, rfl⟩
        go_wp2_with fail
        go_ret
        exact ⟨rfl, Below.refl _ _⟩
  · clear h
    go_enter Try.func3, Try.ntmps3
    go_wp2_with fail
    refine (zzBytes7_yes a0 a1 _ c0 _ c1 b i j _ h0 h1).mono ?_
    rintro e w' ⟨rfl, rfl⟩
    go_wp2_with fail
    go_ret
    exact ⟨rfl, Below.refl _ _⟩

/-! ### The plain law -/
theorem thr_self (p : Int) : thr p p = 0 := by
  simp only [thr, wrap64, IntKind.wrap_u64]; omega
theorem thr_step (u p b : Int) : wrap64 (thr p b + wrap64 (IntKind.u64.wrap (u - p))) = thr u b := by
  simp only [thr, wrap64, IntKind.wrap_u64]; omega
theorem thr_sub (a b c : Int) : wrap64 (thr a c - thr b c) = thr a b := by
  simp only [thr, wrap64, IntKind.wrap_u64]; omega

/-- The running total ahead of point k. -/
def pv (base : Int) (z : List Int) (k : Nat) : Int := if k = 0 then base else nth z (k - 1)
theorem pv_zero (base : Int) (z : List Int) : pv base z 0 = base := rfl
theorem pv_succ (base : Int) (z : List Int) (k : Nat) : pv base z (k + 1) = nth z k := rfl

set_option maxHeartbeats 1000000 in
theorem law3_main (g1 o1 c1 g2 o2 c2 n : Nat) (z0 z1 : List Int) (base : Int) (i j : Nat) (w : World) (hn : n ≤ 65536) (hji : j ≤ i) (hi : i < n) (hz : z1.length = n)
    (h0 : Hid (∀ m, m < n → w.cell? ⟨g1, o1 + m, none⟩ = some (.int .i64 (nth z0 m)))) (h1 : Hid (∀ m, m < n → w.cell? ⟨g2, o2 + m, none⟩ = some (.int .u64 (nth z1 m))))
    (hg1 : g1 < w.heap.size) (hg2 : g2 < w.heap.size) :
    Calls Try.prog 3 #[.slice (some ⟨g1, o1, none⟩) n c1, .slice (some ⟨g2, o2, none⟩) n c2, .int .u64 base, .int .i64 i, .int .i64 j] w fun e w' => e = .returned (.bool true) ∧ Below w.heap.size w w' := by
  have hnn : (n != n) = false := by simp
  have hm2 := mk22 n hn
  have hm3 := mk23 n hn
  go_enter Try.func3, Try.ntmps3
  go_wp2_with fail
  refine (zzBytes7_yes _ _ _ c1 _ c2 base i j _ hn hn).mono ?_
  rintro e w' ⟨rfl, rfl⟩
  have k1 := copy_new 22 2 .i64 Try.underlying22 size2 g1 o1 c1 n w' z0 (madeCells #[.int .i64 0] n) (size_madeCells _ _) h0.out hg1 3
  have k2 := copy_new 23 24 .u64 Try.underlying23 size24 g2 o2 c2 n (w'.alloc (.cells (rowV .i64 z0 n) 2)) z1 (madeCells #[.int .u64 0] n) (size_madeCells _ _) (fun m hm => (World.cell?_alloc_lt _ _ _ hg2).trans (h1.out m hm)) (by simp; omega) 3
  rw [World.size_alloc] at k2
  go_wp2_with fail
  clear k1 k2 hm2 hm3 h0 h1
  obtain ⟨W2, hW, r0, r1, hb, hs⟩ := two_rows w' z0 z1 n
  rw [← hW]
  clear hW
  refine (newCounts_any _ 0 n _ 0 n z0 z1 base n W2 hn hz r0 r1 (by omega) (by omega)).mono ?_
  rintro e w1 ⟨b, pb, rfl, hc, hb1, hbs, hps⟩
  go_wp2_with fail
  refine (countsThrough_any b pb base z1 j w1 hc (by omega) (by omega)).mono ?_
  rintro e w2 ⟨rfl, hb2⟩
  go_wp2_with fail
  refine (countsThrough_any b pb base z1 i w2 (hc.later hb2 hbs hps) (by omega) (by omega)).mono ?_
  rintro e w3 ⟨rfl, hb3⟩
  have q1 : Hid (∀ m, m < n → w3.cell? ⟨w'.heap.size + 1, m, none⟩ = some (.int .u64 (nth z1 m))) := fun m hm => by
    have e1 := r1.out m hm
    rw [Nat.zero_add] at e1
    have t1 := hb1.size
    have t2 := hb2.size
    rw [hb3.cell (p := ⟨w'.heap.size + 1, m, none⟩) (show w'.heap.size + 1 < w2.heap.size by omega), hb2.cell (p := ⟨w'.heap.size + 1, m, none⟩) (show w'.heap.size + 1 < w1.heap.size by omega), hb1.cell (p := ⟨w'.heap.size + 1, m, none⟩) hs, e1]
  have HB : Hid (Below w'.heap.size w' w3) := by
    have t0 := hb.size
    have t1 := hb1.size
    have t2 := hb2.size
    exact ((hb.trans (hb1.mono (by omega))).trans (hb2.mono (by omega))).trans (hb3.mono (by omega))
  clear r0 r1 hb hs hb1 hb2 hb3 hc hbs hps
  go_wp2
  go_loop [16, 17, 18] (fun a p c => ∃ k : Nat, k ≤ j + 1 ∧ c = .int .i64 k ∧ p = .int .u64 (pv base z1 k) ∧ a = .int .i64 (thr (pv base z1 k) base)) (fun _ _ c => j + 1 - (intOf c).toNat)
  case atStart => exact ⟨0, Nat.zero_le _, rfl, rfl, by rw [pv_zero, thr_self]⟩
  case round =>
    obtain ⟨k, hk, rfl, rfl, rfl⟩ := hrel
    by_cases hlt : k ≤ j
    · have x := q1.out k (by omega)
      have hkn : (k : Int) < (n : Int) := by omega
      go_wp2
      go_round
      case rel => exact ⟨k + 1, by omega, by go_num, by rw [pv_succ], by rw [thr_step, pv_succ]⟩
      case measure => simp [intOf]; omega
    · obtain rfl : k = j + 1 := by omega
      simp only [pv_succ]
      go_wp2
      go_loop [17, 18, 19] (fun p c r => ∃ k : Nat, j + 1 ≤ k ∧ k ≤ i + 1 ∧ c = .int .i64 k ∧ p = .int .u64 (pv base z1 k) ∧ r = .int .i64 (thr (pv base z1 k) (nth z1 j))) (fun _ c _ => i + 1 - (intOf c).toNat)
      case atStart => exact ⟨j + 1, Nat.le_refl _, by omega, by go_num, by rw [pv_succ], by rw [pv_succ, thr_self]⟩
      case round =>
        obtain ⟨k, hk1, hk2, rfl, rfl, rfl⟩ := hrel
        by_cases hlt : k ≤ i
        · have x := q1.out k (by omega)
          have hkn : (k : Int) < (n : Int) := by omega
          go_wp2
          go_round
          case rel => exact ⟨k + 1, by omega, by omega, by go_num, by rw [pv_succ], by rw [thr_step, pv_succ]⟩
          case measure => simp [intOf]; omega
        · obtain rfl : k = i + 1 := by omega
          have hfin : (wrap64 (thr (nth z1 i) base - thr (nth z1 j) base) == thr (nth z1 i) (nth z1 j)) = true := by rw [thr_sub]; simp
          simp only [pv_succ]
          go_wp2
          go_ret
          exact ⟨rfl, HB.out⟩
end Go.Proofs.Qxb6612665a
