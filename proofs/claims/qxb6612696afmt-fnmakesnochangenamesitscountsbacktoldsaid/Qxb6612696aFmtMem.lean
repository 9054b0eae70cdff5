/-
  zzBytes.., zzmb1AddrsTooBig (over a slice of strings that came in), ZZnewStandbys.
-/
import Derived.Test.Qxb6612696aFmtReads
import Derived.Laws.Cover3
import Derived.Deep.OwnRows
namespace Go.Proofs.Qxb6612696aFmt
open Go.RowKit

/-- A slice of n strings: empty, or a row of cells. -/
def Strs (w : World) (a : Option Addr) (n : Nat) (f : Nat → ByteArray) : Prop :=
  n = 0 ∨ ∃ b off, a = some ⟨b, off, none⟩ ∧ b < w.heap.size ∧ ∀ m, m < n → w.cell? ⟨b, off + m, none⟩ = some (.string (f m))

/-- It answers a bool. -/
def Answers (e : Ending) : Prop := ∃ r, e = .returned (.bool r)
theorem answers_mk (r : Bool) : Answers (.returned (.bool r)) := ⟨r, rfl⟩
/-- It answers a bool; where that is false, n is at most 2^16. -/
def AnswersBig (n : Nat) (e : Ending) : Prop := ∃ r, e = .returned (.bool r) ∧ (r = false → n ≤ 65536)
theorem answersBig_mk {n : Nat} (r : Bool) (h : n ≤ 65536) : AnswersBig n (.returned (.bool r)) := ⟨r, rfl, fun _ => h⟩
theorem answersBig_yes (n : Nat) : AnswersBig n (.returned (.bool true)) := ⟨true, rfl, fun h => by cases h⟩

set_option maxHeartbeats 400000 in
theorem zzBytes_any (need : Int) (a : Option Addr) (n c : Nat) (f : Nat → ByteArray) (w : World) (h : Strs w a n f) :
    Calls Tryf.prog 4 #[.int .i64 need, .slice a n c] w fun e w' => Answers e ∧ w' = w := by
  rcases h with rfl | ⟨b, off, rfl, _, hc⟩
  · go_enter Tryf.func4, Tryf.ntmps4
    go_wp2
    refine wp_loop_rounds 1 ?_
    rw [rounds_succ]
    go_wp2
    go_ret
    exact ⟨answers_mk _, rfl⟩
  · by_cases hn : n ≤ 1048576
    · have HC : Hid (∀ m, m < n → w.cell? ⟨b, off + m, none⟩ = some (.string (f m))) := hc
      clear hc
      go_enter Tryf.func4, Tryf.ntmps4
      go_wp2
      go_loop [5, 6] (fun z c => ∃ m : Nat, m ≤ n ∧ c = .int .i64 m ∧ ∃ t : Int, 0 ≤ t ∧ t ≤ 1048576 ∧ z = .int .i64 t) (fun _ c => n - (intOf c).toNat)
      case atStart => exact ⟨0, Nat.zero_le _, rfl, _, by omega, by omega, rfl⟩
      case round =>
        obtain ⟨m, hm, rfl, t, ht0, ht1, rfl⟩ := hrel
        by_cases hlt : m < n
        · have x := HC.out m hlt
          have hlt' : (m : Int) < (n : Int) := by omega
          by_cases y1 : (f m).size ≤ 1048576
          · by_cases y2 : t + (f m).size ≤ 1048576
            · go_wp2
              go_round
              case rel => exact ⟨m + 1, by omega, by go_num, _, by omega, y2, rfl⟩
              case measure => simp [intOf]; omega
            · go_wp2
              go_ret
              exact ⟨answers_mk _, rfl⟩
          · go_wp2
            go_ret
            exact ⟨answers_mk _, rfl⟩
        · go_wp2
          go_ret
          exact ⟨answers_mk _, rfl⟩
    · clear hc
      go_enter Tryf.func4, Tryf.ntmps4
      go_wp2
      go_ret
      exact ⟨answers_mk _, rfl⟩

set_option maxHeartbeats 400000 in
/-- zzmb1AddrsTooBig: it answers; where it says no there are at most 2^16. -/
theorem tooBig_any (a : Option Addr) (n c : Nat) (f : Nat → ByteArray) (w : World) (h : Strs w a n f) :
    Calls Tryf.prog 5 #[.slice a n c] w fun e w' => AnswersBig n e ∧ w' = w := by
  rcases h with rfl | ⟨b, off, rfl, _, hc⟩
  · go_enter Tryf.func5, Tryf.ntmps5
    go_wp2
    refine wp_loop_rounds 1 ?_
    rw [rounds_succ]
    go_wp2
    go_ret
    exact ⟨answersBig_mk _ (by omega), rfl⟩
  · by_cases hn : n ≤ 65536
    · have HC : Hid (∀ m, m < n → w.cell? ⟨b, off + m, none⟩ = some (.string (f m))) := hc
      clear hc
      go_enter Tryf.func5, Tryf.ntmps5
      go_wp2
      go_loop [3, 4] (fun z c => ∃ m : Nat, m ≤ n ∧ c = .int .i64 m ∧ ∃ t : Int, z = .int .i64 t) (fun _ c => n - (intOf c).toNat)
      case atStart => exact ⟨0, Nat.zero_le _, rfl, _, rfl⟩
      case round =>
        obtain ⟨m, hm, rfl, t, rfl⟩ := hrel
        by_cases hlt : m < n
        · have x := HC.out m hlt
          have hlt' : (m : Int) < (n : Int) := by omega
          go_wp2
          · go_ret
            exact ⟨answersBig_mk _ hn, rfl⟩
          · go_round
            case rel => exact ⟨m + 1, by omega, by go_num, _, rfl⟩
            case measure => simp [intOf]; omega
        · go_wp2
          go_ret
          exact ⟨answersBig_mk _ hn, rfl⟩
    · clear hc
      go_enter Tryf.func5, Tryf.ntmps5
      go_wp2
      go_ret
      exact ⟨answersBig_yes _, rfl⟩

theorem info34 : (Tryf.prog.info? 34).map (fun i => (i.zero, i.size, i.bytes)) = some (some (.pointer none), 1, 8) := by kernel_rfl
theorem mk33 (n : Nat) (hn : n ≤ 65536) (w : World) :
    (Instr.makeSlice 33 (.int .i64 (n : Int)) (.int .i64 (n : Int))).run Tryf.prog w = .ok (.slice (some ⟨w.heap.size, 0, none⟩) n n) (w.alloc (.cells (madeCells #[.pointer none] n) 34)) :=
  run_make_row' 33 34 _ 8 Tryf.underlying33 info34 rfl .i64 .i64 n (by omega) (by omega) w

/-- The row of followers in the making: it can be written. -/
structure Lst (wr : World) (B n : Nat) : Prop where
  size : B < wr.heap.size
  cells : ∀ j, j < n → ∃ v, wr.cell? ⟨B, j, none⟩ = some v
  open' : ∀ j, wr.frozen? ⟨B, j, none⟩ = false

theorem Lst.start (w : World) (n : Nat) : Lst (w.alloc (.cells (madeCells #[.pointer none] n) 34)) w.heap.size n where
  size := by simp
  cells := fun j hj => by
    rw [World.cell?_alloc_new]
    exact ⟨_, Array.getElem?_eq_getElem (by rw [size_madeCells]; exact hj)⟩
  open' := fun j => World.frozen?_alloc_new _ _ _ _

theorem Lst.step {wr : World} {B n : Nat} (h : Lst wr B n) (C : Array Value) (t : TypeId) (k : Nat) (x : Value) : Lst ((wr.setCell ⟨B, k, none⟩ x).alloc (.cells C t)) B n where
  size := by have := h.size; simp; omega
  cells := fun j hj => by
    obtain ⟨v, hv⟩ := h.cells j hj
    obtain ⟨v', hv'⟩ := cell?_setCell_some (p := ⟨B, k, none⟩) (x := x) hv
    exact ⟨v', (World.cell?_alloc_lt _ _ _ (by have := h.size; simpa using this)).trans hv'⟩
  open' := fun j => by
    rw [World.frozen?_alloc_old _ _ _ (Nat.ne_of_lt (by have := h.size; simpa using this)), World.frozen?_setCell]
    exact h.open' j

/-- The standbys at block b: its list, of n followers; its need. -/
structure IsStand (w : World) (b : Nat) (n : Nat) (need : Int) : Prop where
  list : ∃ g, w.cell? ⟨b, 2, none⟩ = some (.slice (some ⟨g, 0, none⟩) n n)
  need : w.cell? ⟨b, 3, none⟩ = some (.int .i64 need)
theorem isStand_new (wr : World) (g n : Nat) (need : Int) (t : TypeId) :
    IsStand (wr.alloc (.cells #[.int .i32 0, .int .u32 0, .slice (some ⟨g, 0, none⟩) n n, .int .i64 need, .chan none] t)) wr.heap.size n need where
  list := ⟨g, by rw [World.cell?_alloc_new]; rfl⟩
  need := by rw [World.cell?_alloc_new]; rfl

set_option maxHeartbeats 400000 in
theorem newStandbys_any (need : Int) (a : Option Addr) (n c : Nat) (f : Nat → ByteArray) (w : World) (h : Strs w a n f) (hn : n ≤ 65536) :
    Calls Tryf.prog 7 #[.int .i64 need, .slice a n c] w fun e w' => ∃ b, e = .returned (.pointer (some ⟨b, 0, none⟩)) ∧ IsStand w' b n need ∧ b < w'.heap.size ∧ Below w.heap.size w w' := by
  rcases h with rfl | ⟨b, off, rfl, hbs, hc⟩
  · have hmk : ∀ w : World, (Instr.makeSlice 33 (.int .i64 0) (.int .i64 0)).run Tryf.prog w = .ok (.slice (some ⟨w.heap.size, 0, none⟩) 0 0) (w.alloc (.cells (madeCells #[.pointer none] 0) 34)) := mk33 0 (by omega)
    go_enter Tryf.func7, Tryf.ntmps7
    go_wp2
    refine wp_loop_rounds 1 ?_
    rw [rounds_succ]
    go_wp2
    go_ret
    exact ⟨w.heap.size + 1, rfl, by rw [← World.size_alloc w (.cells (madeCells #[.pointer none] 0) 34)]; exact isStand_new _ _ _ _ _, by simp, ((Below.refl _ _).alloc (Nat.le_refl _) _).alloc (by simp) _⟩
  · have HC : Hid (∀ m, m < n → w.cell? ⟨b, off + m, none⟩ = some (.string (f m))) := hc
    clear hc
    have hmk := mk33 n hn
    go_enter Tryf.func7, Tryf.ntmps7
    go_wp2
    go_loopw [6] (fun c wr => ∃ m : Nat, m ≤ n ∧ c = .int .i64 m ∧ Below w.heap.size w wr ∧ Lst wr w.heap.size n) (fun c _ => n - (intOf c).toNat)
    case atStart => exact ⟨0, Nat.zero_le _, rfl, (Below.refl _ _).alloc (Nat.le_refl _) _, Lst.start w n⟩
    case round =>
      obtain ⟨m, hm, rfl, hb, hl⟩ := hrel
      by_cases hlt : m < n
      · have x := (hb.cell (p := ⟨b, off + m, none⟩) hbs).trans (HC.out m hlt)
        have hlt' : (m : Int) < (n : Int) := by omega
        obtain ⟨v0, q0⟩ := hl.cells m hlt
        have f0 := hl.open' m
        have s0 := hl.size
        go_wp2
        go_roundw
        case rel => exact ⟨m + 1, by omega, by go_num, (hb.setCell (Nat.le_refl _) _).alloc (by simp; omega) _, hl.step _ _ _ _⟩
        case measure => simp [intOf]; omega
      · go_wp2
        go_ret
        exact ⟨wr.heap.size, rfl, isStand_new wr _ _ _ _, by simp, hb.alloc hb.size _⟩
end Go.Proofs.Qxb6612696aFmt
