/-
  'zzc := make([]T, len(xs)); copy(zzc, xs)': the new row holds the elements.
-/
import Derived.Test.Qxb6612665aBase
import Derived.Laws.CopyOwn
import Derived.Laws.Cover3
import Derived.WalkLawsBesides
import Derived.Deep.OwnRows
namespace Go.Proofs.Qxb6612665a
open Go.RowKit

theorem info2 : (Try.prog.info? 2).map (fun i => (i.zero, i.size, i.bytes)) = some (some (.int .i64 0), 1, 8) := by kernel_rfl
theorem info24 : (Try.prog.info? 24).map (fun i => (i.zero, i.size, i.bytes)) = some (some (.int .u64 0), 1, 8) := by kernel_rfl
theorem size2 : (Try.prog.info? 2).map (·.size) = some 1 := by kernel_rfl
theorem size24 : (Try.prog.info? 24).map (·.size) = some 1 := by kernel_rfl

theorem mk22 (n : Nat) (hn : n ≤ 65536) (w : World) :
    (Instr.makeSlice 22 (.int .i64 (n : Int)) (.int .i64 (n : Int))).run Try.prog w = .ok (.slice (some ⟨w.heap.size, 0, none⟩) n n) (w.alloc (.cells (madeCells #[.int .i64 0] n) 2)) :=
  run_make_row' 22 2 _ 8 Try.underlying22 info2 rfl .i64 .i64 n (by omega) (by omega) w
theorem mk23 (n : Nat) (hn : n ≤ 65536) (w : World) :
    (Instr.makeSlice 23 (.int .i64 (n : Int)) (.int .i64 (n : Int))).run Try.prog w = .ok (.slice (some ⟨w.heap.size, 0, none⟩) n n) (w.alloc (.cells (madeCells #[.int .u64 0] n) 24)) :=
  run_make_row' 23 24 _ 8 Try.underlying23 info24 rfl .i64 .i64 n (by omega) (by omega) w

/-- The first n numbers as cells. -/
def rowV (k : IntKind) (z : List Int) (n : Nat) : Array Value := ((List.range n).map fun m => Value.int k (nth z m)).toArray
theorem rowV_get (k : IntKind) (z : List Int) {n m : Nat} (h : m < n) : (rowV k z n)[m]? = some (.int k (nth z m)) := by
  simp [rowV, h]
theorem rowV_size (k : IntKind) (z : List Int) (n : Nat) : (rowV k z n).size = n := by simp [rowV]

theorem setRow_alloc (w : World) (C C' : Array Value) (t : TypeId) : (w.alloc (.cells C t)).setRow w.heap.size C' = w.alloc (.cells C' t) := by
  show { w with heap := (w.heap.push (.cells C t)).modify w.heap.size _ } = ({ w with heap := w.heap.push (.cells C' t) } : World)
  congr 1
  apply Array.ext
  · simp
  · intro i h1 h2
    rw [Array.getElem_modify]
    by_cases e : w.heap.size = i
    · subst e
      simp
    · rw [if_neg e, Array.getElem_push, Array.getElem_push]
      have hi : i < w.heap.size := by simp at h2; omega
      rw [dif_pos hi, dif_pos hi]

theorem copy_new (T E : TypeId) (k : IntKind) (hu : Try.prog.underlying T = some (.slice E)) (hs : (Try.prog.info? E).map (·.size) = some 1)
    (g1 o1 c1 n : Nat) (w : World) (z : List Int) (C : Array Value) (hC : C.size = n) (hsrc : ∀ m, m < n → w.cell? ⟨g1, o1 + m, none⟩ = some (.int k (nth z m))) (hg1 : g1 < w.heap.size) (ty : TypeId) :
    (Builtin.copy_ #[T, T] ty #[.slice (some ⟨w.heap.size, 0, none⟩) n n, .slice (some ⟨g1, o1, none⟩) n c1]).run Try.prog (w.alloc (.cells C E)) = .ok (goInt n) (w.alloc (.cells (rowV k z n) E)) := by
  have h := run_copy_row (P := Try.prog) (w.alloc (.cells C E)) T T ty E w.heap.size 0 n n ⟨g1, o1, none⟩ n c1 C E (rowV k z n).toList hu hs (MapKept.heap_alloc w _).1 (by simp [rowV]) ?_ (by simp [rowV, hC]) ?_
  · rw [h]
    have e : (List.take 0 C.toList ++ (rowV k z n).toList ++ List.drop (0 + (rowV k z n).toList.length) C.toList).toArray = rowV k z n := by
      rw [List.drop_of_length_le (by simp [rowV, hC])]
      simp
    rw [e, setRow_alloc]
    simp [rowV]
  · intro j v hj
    have hjn : j < n := by
      have := List.getElem?_eq_some_iff.1 hj
      obtain ⟨hl, _⟩ := this
      simpa [rowV] using hl
    have e : v = .int k (nth z j) := by
      have := rowV_get k z hjn
      rw [← Array.getElem?_toList, hj] at this
      exact Option.some.inj this
    subst e
    rw [WideShapes.add_plain, World.cell?_alloc_lt _ _ _ hg1]
    exact hsrc j hjn
  · intro v hv
    simp [rowV] at hv
    obtain ⟨m, _, rfl⟩ := hv
    rfl

/-- A slice that came in, with an element: its cells, its block. -/
theorem row_plain {k : IntKind} {w : World} {x : Addr} {zs : List Int} {n : Nat} (hn : n ≤ zs.length) (h0 : 0 < n) (hc : ∀ i, i < zs.length → w.cell? (x.add i) = some (.int k (zs.getD i 0))) :
    ∃ b off, x = ⟨b, off, none⟩ ∧ Hid (∀ m, m < n → w.cell? ⟨b, off + m, none⟩ = some (.int k (nth (zs.take n) m))) ∧ b < w.heap.size := by
  obtain ⟨b, off, rfl, h⟩ := ints_at hc (by omega)
  refine ⟨b, off, rfl, fun m hm => ?_, ?_⟩
  · rw [h m (by omega)]
    simp [nth, hm]
  · have := h 0 (by omega)
    exact World.block_lt_of_cell? w _ this

/-- The world behind the two copies. -/
theorem two_rows (w : World) (z0 z1 : List Int) (n : Nat) : ∃ W2, W2 = (w.alloc (.cells (rowV .i64 z0 n) 2)).alloc (.cells (rowV .u64 z1 n) 24) ∧
    Hid (∀ m, m < n → W2.cell? ⟨w.heap.size, 0 + m, none⟩ = some (.int .i64 (nth z0 m))) ∧ Hid (∀ m, m < n → W2.cell? ⟨w.heap.size + 1, 0 + m, none⟩ = some (.int .u64 (nth z1 m))) ∧
    Below w.heap.size w W2 ∧ w.heap.size + 1 < W2.heap.size := by
  refine ⟨_, rfl, fun m hm => ?_, fun m hm => ?_, ((Below.refl _ _).alloc (Nat.le_refl _) _).alloc (by simp) _, by simp⟩
  · rw [World.cell?_alloc_lt _ _ _ (by simp), World.cell?_alloc_new, Nat.zero_add, rowV_get _ _ hm]
  · rw [← World.size_alloc w (.cells (rowV .i64 z0 n) 2), World.cell?_alloc_new, Nat.zero_add, rowV_get _ _ hm]
end Go.Proofs.Qxb6612665a
