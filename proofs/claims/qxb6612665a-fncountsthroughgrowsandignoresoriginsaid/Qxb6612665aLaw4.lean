/-
  FnCountsThroughGrowsAndIgnoresOrigin: the law's great walk.
-/
import Derived.Test.Qxb6612665aLaw4a
namespace Go.Proofs.Qxb6612665a
open Go.RowKit

set_option maxRecDepth 100000 in
set_option maxHeartbeats 2000000 in
theorem law4_main (g1 o1 c1 g2 o2 c2 n : Nat) (z0 z1 : List Int) (base d : Int) (i : Nat) (w : World) (hn : n ≤ 65536) (hi : i < n) (hz : z1.length = n)
    (h0 : Hid (∀ m, m < n → w.cell? ⟨g1, o1 + m, none⟩ = some (.int .i64 (nth z0 m)))) (h1 : Hid (∀ m, m < n → w.cell? ⟨g2, o2 + m, none⟩ = some (.int .u64 (nth z1 m))))
    (hg1 : g1 < w.heap.size) (hg2 : g2 < w.heap.size) :
    Calls Try.prog 4 #[.slice (some ⟨g1, o1, none⟩) n c1, .slice (some ⟨g2, o2, none⟩) n c2, .int .u64 base, .int .i64 i, .int .u64 d] w fun e w' => e = .returned (.bool true) ∧ Below w.heap.size w w' := by
  have hnn : (n != n) = false := by simp
  have hm2 := mk22 n hn
  have hm3 := mk23 n hn
  go_enter Try.func4, Try.ntmps4
  go_wp2_with fail
  refine (zzBytes10_yes _ _ _ c1 _ c2 base i d _ hn hn).mono ?_
  rintro e w' ⟨rfl, rfl⟩
  have k1 := copy_new 22 2 .i64 Try.underlying22 size2 g1 o1 c1 n w' z0 (madeCells #[.int .i64 0] n) (size_madeCells _ _) h0.out hg1 3
  have k2 := copy_new 23 24 .u64 Try.underlying23 size24 g2 o2 c2 n (w'.alloc (.cells (rowV .i64 z0 n) 2)) z1 (madeCells #[.int .u64 0] n) (size_madeCells _ _) (fun m hm => (World.cell?_alloc_lt _ _ _ hg2).trans (h1.out m hm)) (by simp; omega) 3
  rw [World.size_alloc] at k2
  go_wp2
  obtain ⟨W2, hW, r0, r1, hb, hs⟩ := two_rows w' z0 z1 n
  rw [← hW]
  clear hW k1 k2 hm2 h0 h1
  go_loop [13, 14, 15, 16] (fun t wn p c => ∃ k : Nat, k ≤ n ∧ c = .int .i64 k ∧ p = .int .u64 (pv base z1 k) ∧ t = .int .u64 (tot base z1 k) ∧ wn = .int .u64 (wi base z1 i k) ∧ Good base z1 k) (fun _ _ _ c => n - (intOf c).toNat)
  case atStart => exact ⟨0, Nat.zero_le _, rfl, by rw [pv_zero], by rw [tot_zero], by rw [wi_zero], Good.zero _ _⟩
  case round =>
    obtain ⟨k, hk, rfl, rfl, rfl, rfl, hgood⟩ := hrel
    by_cases hlt : k < n
    · have x := r1.out k hlt
      rw [Nat.zero_add] at x
      have hkn : (k : Int) < (n : Int) := by omega
      have hst := tot_step base z1 k
      have hG := @Good.step base z1 k hgood
      generalize hc : IntKind.u64.wrap (nth z1 k - pv base z1 k) = c at *
      by_cases e0 : c = 0
      · subst e0
        clear hst hG
        go_wp2
        go_ret
        exact ⟨rfl, hb⟩
      have e0' : (c == 0) = false := beq_eq_false_iff_ne.2 e0
      by_cases e1 : 9223372036854775807 < c
      · clear hst hG
        go_wp2
        go_ret
        exact ⟨rfl, hb⟩
      have hG1 := hG e0 (by omega)
      clear hG
      by_cases e2 : 9223372036854775807 < tot base z1 (k + 1)
      · clear hG1
        go_wp2
        go_ret
        exact ⟨rfl, hb⟩
      have hG2 := hG1 (by omega)
      clear hG1
      by_cases e3 : k = i
      · subst e3
        go_wp2
        go_round
        case rel => exact ⟨k + 1, by omega, by go_num, by rw [pv_succ], rfl, by rw [wi_hit], hG2⟩
        case measure => simp [intOf]; omega
      · have e3' : ((k : Int) == (i : Int)) = false := beq_eq_false_iff_ne.2 (by omega)
        go_wp2
        go_round
        case rel => exact ⟨k + 1, by omega, by go_num, by rw [pv_succ], rfl, by rw [wi_miss _ _ e3], hG2⟩
        case measure => simp [intOf]; omega
    · obtain rfl : n = k := by omega
      clear hlt hk
      rw [wi_end _ _ hi]
      have gl := hgood.low (i + 1) (by omega)
      have gh := hgood.high (i + 1) (by omega)
      have gt := thr_tot gh
      have gp : 0 < i → ∃ m T', i = m + 1 ∧ thr (nth z1 m) base = T' ∧ T' < tot base z1 (i + 1) := fun h => by
        obtain ⟨m, rfl⟩ : ∃ m, i = m + 1 := ⟨i - 1, by omega⟩
        exact ⟨m, _, rfl, thr_tot (hgood.high (m + 1) (by omega)), hgood.grow (m + 1) (by omega)⟩
      clear hgood
      generalize tot base z1 (i + 1) = T at *
      have GT : Hid (thr (nth z1 i) base = T) := gt
      have GP : Hid (0 < i → ∃ m T', i = m + 1 ∧ thr (nth z1 m) base = T' ∧ T' < T) := gp
      clear gt gp
      have gl' : (i : Int) + 1 ≤ T := by omega
      clear gl
      go_wp2
      go_loopw [19] (fun v wr => ∃ k : Nat, k ≤ n ∧ v = .int .i64 k ∧ Below W2.heap.size W2 wr ∧ Shf wr W2.heap.size n k (shl z1 d)) (fun v _ => n - (intOf v).toNat)
      case atStart => exact ⟨0, Nat.zero_le _, rfl, (Below.refl _ _).alloc (Nat.le_refl _) _, Shf.start W2 n _⟩
      case round =>
        obtain ⟨k, hk, rfl, hbr, hp⟩ := hrel
        by_cases hlt : k < n
        · obtain ⟨v0, q0⟩ := hp.cells k hlt
          have f0 := hp.open' k
          have x := (hbr.cell (p := ⟨w'.heap.size + 1, 0 + k, none⟩) hs).trans (r1.out k hlt)
          rw [Nat.zero_add] at x
          have hkn : (k : Int) < (n : Int) := by omega
          have HS : Hid (Shf (wr.setCell ⟨W2.heap.size, k, none⟩ (.int .u64 (IntKind.u64.wrap (nth z1 k + d)))) W2.heap.size n (k + 1) (shl z1 d)) := by
            have e := hp.step hlt
            rw [shl_nth z1 d (by omega)] at e
            exact e
          go_wp2
          go_roundw
          case rel => exact ⟨k + 1, by omega, by go_num, hbr.setCell (Nat.le_refl _) _, HS.out⟩
          case measure => simp [intOf]; omega
        · obtain rfl : n = k := by omega
          clear hlt hk
          have tr := hbr.size
          have A0 : Hid (∀ m, m < n → wr.cell? ⟨w'.heap.size, 0 + m, none⟩ = some (.int .i64 (nth z0 m))) := fun m hm => (hbr.cell (p := ⟨w'.heap.size, 0 + m, none⟩) (show w'.heap.size < W2.heap.size by omega)).trans (r0.out m hm)
          have A1 : Hid (∀ m, m < n → wr.cell? ⟨w'.heap.size + 1, 0 + m, none⟩ = some (.int .u64 (nth z1 m))) := fun m hm => (hbr.cell (p := ⟨w'.heap.size + 1, 0 + m, none⟩) hs).trans (r1.out m hm)
          have A2 : Hid (∀ m, m < n → wr.cell? ⟨W2.heap.size, 0 + m, none⟩ = some (.int .u64 (nth (shl z1 d) m))) := fun m hm => by rw [Nat.zero_add]; exact hp.made m hm
          have sz := hp.size
          have hbw : Below w'.heap.size w' wr := hb.trans (hbr.mono (by omega))
          clear hp r0 r1 hb hbr
          have hsh : Hid (thr (nth (shl z1 d) i) (IntKind.u64.wrap (base + d)) = T) := by
            show _ = _
            rw [shl_nth z1 d (by omega), thr_shift]
            exact GT.out
          have hsl : (shl z1 d).length = n := by rw [shl_length]; exact hz
          go_wp2_with fail
          refine (newCounts_any _ 0 n _ 0 n z0 z1 base n wr hn hz A0 A1 (by omega) (by omega)).mono ?_
          rintro e w1 ⟨b1, p1, rfl, hc1, hb1, s1, t1⟩
          have y1 := hb1.size
          have B0 : Hid (∀ m, m < n → w1.cell? ⟨w'.heap.size, 0 + m, none⟩ = some (.int .i64 (nth z0 m))) := fun m hm => (hb1.cell (p := ⟨w'.heap.size, 0 + m, none⟩) (show w'.heap.size < wr.heap.size by omega)).trans (A0.out m hm)
          have B2 : Hid (∀ m, m < n → w1.cell? ⟨W2.heap.size, 0 + m, none⟩ = some (.int .u64 (nth (shl z1 d) m))) := fun m hm => (hb1.cell (p := ⟨W2.heap.size, 0 + m, none⟩) sz).trans (A2.out m hm)
          clear A0 A1 A2
          go_wp2_with fail
          refine (newCounts_any _ 0 n _ 0 n z0 (shl z1 d) _ n w1 hn hsl B0 B2 (by omega) (by omega)).mono ?_
          rintro e w2 ⟨b2, p2, rfl, hc2, hb2, s2, t2⟩
          clear B0 B2
          have y2 := hb2.size
          have hd1 := hc1.later hb2 s1 t1
          go_wp2_with fail
          refine (countsThrough_at b1 p1 base z1 i _ T w2 rfl GT.out hd1 (by omega) (by omega)).mono ?_
          rintro e w3 ⟨rfl, hb3⟩
          have y3 := hb3.size
          have hd2 := hc2.later hb3 s2 t2
          have he1 := hd1.later hb3 (show b1 < w2.heap.size by omega) (show p1 < w2.heap.size by omega)
          go_wp2_with fail
          refine (countsThrough_at b2 p2 _ (shl z1 d) i _ T w3 rfl hsh.out hd2 (by omega) (by omega)).mono ?_
          rintro e w4 ⟨rfl, hb4⟩
          have y4 := hb4.size
          have hf1 := he1.later hb4 (show b1 < w3.heap.size by omega) (show p1 < w3.heap.size by omega)
          have hbf : Below w'.heap.size w' w4 := (((hbw.trans (hb1.mono (by omega))).trans (hb2.mono (by omega))).trans (hb3.mono (by omega))).trans (hb4.mono (by omega))
          clear hc1 hd1 he1 hc2 hd2
          by_cases hi0 : 0 < i
          · obtain ⟨m, T', em, et, lt⟩ := GP.out hi0
            have EM : Hid (i = m + 1) := em
            have ET : Hid (thr (nth z1 m) base = T') := et
            clear em et
            go_wp2_with fail
            refine (countsThrough_at b1 p1 base z1 m _ T' w4 (by have := EM.out; omega) ET.out hf1 (by have := EM.out; omega) (by omega)).mono ?_
            rintro e w5 ⟨rfl, hb5⟩
            go_wp2_with fail
            go_ret
            exact ⟨rfl, hbf.trans (hb5.mono (by omega))⟩
          · go_wp2_with fail
            go_ret
            exact ⟨rfl, hbf⟩
end Go.Proofs.Qxb6612665a
