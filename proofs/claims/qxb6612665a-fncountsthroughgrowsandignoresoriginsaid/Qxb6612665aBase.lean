/-
  THE CALLEES 'ZZcountsThrough', '(*Counts).through': what they answer, over a Counts that lies in memory.
-/
import Derived.Test.Qxb6612665aRows
import Derived.WalkKit
import Derived.ProofKit
import Derived.OpenShut
import Derived.Deep.QuietTactic
import Derived.BigQuiet
import Derived.WalkSpells
import Derived.Handy
namespace Go.Proofs.Qxb6612665a
open Go.RowKit

/-- int64(u - p), both uint64. -/
def thr (u p : Int) : Int := wrap64 (IntKind.u64.wrap (u - p))

/-- The i-th number of a list. -/
def nth (l : List Int) (i : Nat) : Int := l.getD i 0

/-- The Counts at block b: its points lie in block pb, two cells each; its base. -/
structure IsCounts (w : World) (b pb : Nat) (base : Int) (us : List Int) : Prop where
  pts : w.cell? ⟨b, 0, none⟩ = some (.slice (some ⟨pb, 0, none⟩) us.length us.length)
  bas : w.cell? ⟨b, 1, none⟩ = some (.int .u64 base)
  upTo : ∀ i, i < us.length → w.cell? ⟨pb, i * 2 + 1, none⟩ = some (.int .u64 (nth us i))

theorem through_any (b pb : Nat) (base : Int) (us : List Int) (k : Nat) (w : World) (hc : IsCounts w b pb base us) (hk : k < us.length) (_hl : us.length ≤ 65536) :
    Calls Try.prog 22 #[.pointer (some ⟨b, 0, none⟩), .int .i64 k] w fun e w' => e = .returned (.int .i64 (thr (nth us k) base)) ∧ ∃ n, w' = w.drewN n := by
  obtain ⟨h1, h2, h3⟩ := hc
  have h4 := h3 k hk
  clear h3
  generalize nth us k = u at *
  generalize us.length = n at *
  have hk' : (k : Int) < (n : Int) := by omega
  go_enter Try.func22, Try.ntmps22
  go_wp2
  go_quiet (fail)
  go_wp2
  go_ret
  exact ⟨rfl, _, rfl⟩

theorem IsCounts.later {w w' : World} {b pb : Nat} {base : Int} {us : List Int} {B : Nat} (h : IsCounts w b pb base us) (hb : Below B w w') (h1 : b < B) (h2 : pb < B) : IsCounts w' b pb base us :=
  ⟨(hb.cell (p := ⟨b, 0, none⟩) h1).trans h.pts, (hb.cell (p := ⟨b, 1, none⟩) h1).trans h.bas, fun i hi => (hb.cell (p := ⟨pb, i * 2 + 1, none⟩) h2).trans (h.upTo i hi)⟩

theorem below_drewN' (B : Nat) (w : World) (n : Nat) : Below B w (w.drewN n) := ⟨rfl, rfl, rfl, Nat.le_refl _, fun _ _ => rfl⟩

/-- ZZcountsThrough -/
theorem countsThrough_any (b pb : Nat) (base : Int) (us : List Int) (k : Nat) (w : World) (hc : IsCounts w b pb base us) (hk : k < us.length) (hl : us.length ≤ 65536) :
    Calls Try.prog 9 #[.pointer (some ⟨b, 0, none⟩), .int .i64 k] w fun e w' => e = .returned (.int .i64 (thr (nth us k) base)) ∧ Below w.heap.size w w' := by
  go_enter Try.func9, Try.ntmps9
  go_wp2_with fail
  refine (through_any b pb base us k _ hc hk hl).mono ?_
  rintro e w' ⟨rfl, n, rfl⟩
  go_wp2_with fail
  go_ret
  exact ⟨rfl, below_drewN' _ _ _⟩

theorem info58 : (Try.prog.info? 58).map (fun i => (i.zero, i.size, i.bytes)) = some (some (.agg #[.int .i64 0, .int .u64 0]), 2, 16) := by kernel_rfl

theorem mk56 (n : Nat) (hn : n ≤ 65536) (w : World) :
    (Instr.makeSlice 56 (.int .i64 (n : Int)) (.int .i64 (n : Int))).run Try.prog w = .ok (.slice (some ⟨w.heap.size, 0, none⟩) n n) (w.alloc (.cells (madeCells #[.int .i64 0, .int .u64 0] (n * 2)) 58)) := by
  obtain ⟨i, hi, hz, hs, hb⟩ := info_parts info58
  have h := run_make (P := Try.prog) w 56 58 i _ Try.underlying56 hi hz .i64 .i64 n n (by omega) (Int.le_refl _) (by rw [hb]; omega) (by omega)
  rw [hs] at h
  simpa [Value.cells] using h

/-- The row of points in the making: k of them stand. -/
structure Pts (wr : World) (B n k : Nat) (us : List Int) : Prop where
  size : B < wr.heap.size
  cells : ∀ j, j < n * 2 → ∃ v, wr.cell? ⟨B, j, none⟩ = some v
  open' : ∀ j, wr.frozen? ⟨B, j, none⟩ = false
  made : ∀ i, i < k → wr.cell? ⟨B, i * 2 + 1, none⟩ = some (.int .u64 (nth us i))

theorem Pts.start (w : World) (n : Nat) (us : List Int) : Pts (w.alloc (.cells (madeCells #[.int .i64 0, .int .u64 0] (n * 2)) 58)) w.heap.size n 0 us where
  size := by simp
  cells := fun j hj => by
    rw [World.cell?_alloc_new]
    exact ⟨_, Array.getElem?_eq_getElem (by rw [size_madeCells]; exact hj)⟩
  open' := fun j => World.frozen?_alloc_new _ _ _ _
  made := fun i hi => by omega

theorem Pts.step {wr : World} {B n k : Nat} {us : List Int} (h : Pts wr B n k us) (hk : k < n) (x : Value) :
    Pts ((wr.setCell ⟨B, k * 2, none⟩ x).setCell ⟨B, k * 2 + 1, none⟩ (.int .u64 (nth us k))).drew B n (k + 1) us where
  size := by simpa using h.size
  cells := fun j hj => by
    obtain ⟨v, hv⟩ := h.cells j hj
    obtain ⟨v', hv'⟩ := cell?_setCell_some (p := ⟨B, k * 2, none⟩) (x := x) hv
    exact cell?_setCell_some (p := ⟨B, k * 2 + 1, none⟩) (x := .int .u64 (nth us k)) hv'
  open' := fun j => by
    show ((wr.setCell ⟨B, k * 2, none⟩ x).setCell ⟨B, k * 2 + 1, none⟩ (.int .u64 (nth us k))).frozen? _ = false
    rw [World.frozen?_setCell, World.frozen?_setCell]
    exact h.open' j
  made := fun i hi => by
    show ((wr.setCell ⟨B, k * 2, none⟩ x).setCell ⟨B, k * 2 + 1, none⟩ (.int .u64 (nth us k))).cell? _ = _
    by_cases e : i = k
    · subst e
      obtain ⟨v, hv⟩ := h.cells (i * 2 + 1) (by omega)
      obtain ⟨v', hv'⟩ := cell?_setCell_some (p := ⟨B, i * 2, none⟩) (x := x) hv
      exact World.cell?_setCell_same _ _ _ hv'
    · rw [World.cell?_setCell_other _ _ _ _ (by simp <;> omega), World.cell?_setCell_other _ _ _ _ (by simp <;> omega)]
      exact h.made i (by omega)

theorem Pts.counts {wr : World} {B n : Nat} {us : List Int} (h : Pts wr B n n us) (hu : us.length = n) (base : Int) :
    IsCounts (wr.alloc (.cells #[.slice (some ⟨B, 0, none⟩) n n, .int .u64 base] 60)) wr.heap.size B base us where
  pts := by rw [World.cell?_alloc_new, hu]; rfl
  bas := by rw [World.cell?_alloc_new]; rfl
  upTo := fun i hi => by
    rw [World.cell?_alloc_lt _ _ _ h.size]
    exact h.made i (by omega)

set_option maxHeartbeats 400000 in
/-- ZZnewCounts: over two rows of n numbers each. -/
theorem newCounts_any (g1 o1 c1 g2 o2 c2 : Nat) (ats us : List Int) (base : Int) (n : Nat) (w : World) (hn : n ≤ 65536) (hu : us.length = n)
    (ha : Hid (∀ i, i < n → w.cell? ⟨g1, o1 + i, none⟩ = some (.int .i64 (nth ats i)))) (hv : Hid (∀ i, i < n → w.cell? ⟨g2, o2 + i, none⟩ = some (.int .u64 (nth us i))))
    (hg1 : g1 < w.heap.size) (hg2 : g2 < w.heap.size) :
    Calls Try.prog 8 #[.slice (some ⟨g1, o1, none⟩) n c1, .slice (some ⟨g2, o2, none⟩) n c2, .int .u64 base] w fun e w' =>
      ∃ b pb, e = .returned (.pointer (some ⟨b, 0, none⟩)) ∧ IsCounts w' b pb base us ∧ Below w.heap.size w w' ∧ b < w'.heap.size ∧ pb < w'.heap.size := by
  have hmk := mk56 n hn
  go_enter Try.func8, Try.ntmps8
  go_wp2
  go_loopw [14] (fun v wr => ∃ k : Nat, k ≤ n ∧ v = .int .i64 k ∧ Below w.heap.size w wr ∧ Pts wr w.heap.size n k us) (fun v _ => n - (intOf v).toNat)
  case atStart => 
    exact ⟨0, Nat.zero_le _, rfl, (Below.refl _ _).alloc (Nat.le_refl _) _, Pts.start w n us⟩
  case round =>
    obtain ⟨k, hk, rfl, hb, hp⟩ := hrel
    by_cases hlt : k < n
    · obtain ⟨v0, q0⟩ := hp.cells (k * 2) (by omega)
      obtain ⟨v1, q1⟩ := hp.cells (k * 2 + 1) (by omega)
      have f0 := hp.open' (k * 2)
      have f1 := hp.open' (k * 2 + 1)
      have x0 : wr.cell? ⟨g1, o1 + k, none⟩ = some (.int .i64 (nth ats k)) := (hb.cell (p := ⟨g1, o1 + k, none⟩) hg1).trans (ha.out k hlt)
      have x1 : wr.cell? ⟨g2, o2 + k, none⟩ = some (.int .u64 (nth us k)) := (hb.cell (p := ⟨g2, o2 + k, none⟩) hg2).trans (hv.out k hlt)
      have hlt' : (k : Int) < (n : Int) := by omega
      go_wp2
      go_region
      go_wp2
      go_roundw
      case rel => exact ⟨k + 1, by omega, by go_num, ((hb.setCell (Nat.le_refl _) _).setCell (Nat.le_refl _) _).drew, hp.step hlt _⟩
      case measure => simp [intOf]; omega
    · obtain rfl : k = n := by omega
      go_wp2
      go_ret
      exact ⟨wr.heap.size, w.heap.size, rfl, hp.counts hu base, hb.alloc hb.size _, by simp, by have := hp.size; simp; omega⟩
end Go.Proofs.Qxb6612665a
