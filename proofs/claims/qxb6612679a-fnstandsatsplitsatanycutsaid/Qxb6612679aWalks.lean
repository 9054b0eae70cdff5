/-
  THE CALLEES' CONTRACT: 'ZZstandsAt(from, until, at)' answers 'from <= at && at < until' (stB), the world at most grown by new blocks.
-/
import Derived.Test.Qxb6612679aRows
import Derived.WalkKit
import Derived.ProofKit
namespace Go.Proofs.Qxb6612679a
open Go.RowKit

def stB (f u a : Int) : Bool := decide (f ≤ a) && decide (a < u)

theorem stB_yes {f u a : Int} (h1 : f ≤ a) (h2 : a < u) : stB f u a = true := by simp [stB, h1, h2]
theorem stB_no1 {f u a : Int} (h1 : a < f) : stB f u a = false := by simp [stB]; omega
theorem stB_no2 {f u a : Int} (h1 : u ≤ a) : stB f u a = false := by simp [stB]; omega

theorem grown_trans {A B C : World} (h : Grown A B) (k : Grown B C) : Grown A C :=
  ⟨World.keptBut_trans h.1 k.1, fun a => (k.2.1 a).trans (h.2.1 a), Nat.le_trans h.2.2 k.2.2⟩

theorem stands_yes (f u a : Int) (w : World) (h1 : f ≤ a) (h2 : a < u) :
    Calls Try.prog 5 #[.int .i64 f, .int .i64 u, .int .i64 a] w fun e w' => e = .returned (.bool true) ∧ Grown w w' := by
  go_enter Try.func5, Try.ntmps5
  go_wp2
  go_ret
  exact ⟨rfl, by repeat (first | exact Grown.refl _ | apply Grown.drew | apply Grown.alloc)⟩

theorem stands_no1 (f u a : Int) (w : World) (h1 : ¬ f ≤ a) :
    Calls Try.prog 5 #[.int .i64 f, .int .i64 u, .int .i64 a] w fun e w' => e = .returned (.bool false) ∧ Grown w w' := by
  have hd : decide (f ≤ a) = false := decide_eq_false h1
  go_enter Try.func5, Try.ntmps5
  go_wp2
  go_ret
  exact ⟨rfl, by repeat (first | exact Grown.refl _ | apply Grown.drew | apply Grown.alloc)⟩

theorem stands_no2 (f u a : Int) (w : World) (h1 : f ≤ a) (h2 : ¬ a < u) :
    Calls Try.prog 5 #[.int .i64 f, .int .i64 u, .int .i64 a] w fun e w' => e = .returned (.bool false) ∧ Grown w w' := by
  have hd : decide (a < u) = false := decide_eq_false h2
  go_enter Try.func5, Try.ntmps5
  go_wp2
  go_ret
  exact ⟨rfl, by repeat (first | exact Grown.refl _ | apply Grown.drew | apply Grown.alloc)⟩

theorem stands (f u a : Int) (w : World) :
    Calls Try.prog 5 #[.int .i64 f, .int .i64 u, .int .i64 a] w fun e w' => e = .returned (.bool (stB f u a)) ∧ Grown w w' := by
  by_cases h1 : f ≤ a
  · by_cases h2 : a < u
    · rw [stB_yes h1 h2]; exact stands_yes f u a w h1 h2
    · rw [stB_no2 (by omega)]; exact stands_no2 f u a w h1 h2
  · rw [stB_no1 (by omega)]; exact stands_no1 f u a w h1
end Go.Proofs.Qxb6612679a
