/-
  The readers' contracts over lists; the copy of a slice of strings; ZZmakesNoChange.
-/
import Derived.Test.Qxb6612696aFmtSays
import Derived.Laws.CopyOwn
namespace Go.Proofs.Qxb6612696aFmt
open Go.RowKit Go.Kit Go.Extern.Stop Go.Stop Go.Extern

theorem byte_list (s : ByteArray) (i : Nat) (h : i < s.size) : s[i] = s.data.toList[i]'(by rw [← Lib.size_eq]; exact h) := rfl

theorem at_list (s v : ByteArray) (p : Int) (pre rest : List UInt8) (w : World) (hs : s.size ≤ 100000) (h : s.data.toList = pre ++ (v.data.toList ++ rest)) (hp : p = pre.length) :
    Calls Tryf.prog 8 #[.string s, .int .i64 p, .string v] w fun e w' => e = .returned (.bool true) ∧ Below w.heap.size w w' := by
  subst hp
  have hz : s.size = pre.length + (v.size + rest.length) := by
    rw [Lib.size_eq, h, List.length_append, List.length_append, ← Lib.size_eq]
  refine at_yes s v pre.length w hs (by omega) fun m hm => ?_
  have hm' : m < v.data.toList.length := by rw [← Lib.size_eq]; exact hm
  rw [byte_list, byte_list]
  simp only [h]
  rw [List.getElem_append_right (by omega)]
  simp only [Nat.add_sub_cancel_left]
  rw [List.getElem_append_left hm']

theorem read_list (s : ByteArray) (ds : List UInt8) (c : UInt8) (u L : Nat) (p : Int) (pre rest : List UInt8) (w : World) (hs : s.size ≤ 100000) (hn : Num ds u) (hL : ds.length = L)
    (h : s.data.toList = pre ++ (ds ++ (c :: rest))) (hc : c.toNat < 48) (hp : p = pre.length) :
    Calls Tryf.prog 10 #[.string s, .int .i64 p] w fun e w' => e = .returned (.tuple #[.int .i64 u, .int .i64 (p + L), .bool true]) ∧ w' = w := by
  subst hp
  subst hL
  have hz : s.size = pre.length + (ds.length + (rest.length + 1)) := by
    rw [Lib.size_eq, h, List.length_append, List.length_append, List.length_cons]
  refine readCount_yes s ds u pre.length w hs hn (by omega) (fun m hm => ?_) ?_
  · rw [byte_list]
    simp only [h]
    rw [List.getElem_append_right (by omega)]
    simp only [Nat.add_sub_cancel_left]
    rw [List.getElem_append_left hm]
  · rw [byte_list]
    simp only [h]
    rw [List.getElem_append_right (by omega)]
    simp only [Nat.add_sub_cancel_left]
    rw [List.getElem_append_right (by omega)]
    simpa using hc

theorem info9 : (Tryf.prog.info? 9).map (fun i => (i.zero, i.size, i.bytes)) = some (some (.string ⟨#[]⟩), 1, 16) := by kernel_rfl
theorem size9 : (Tryf.prog.info? 9).map (·.size) = some 1 := by kernel_rfl
theorem mk22 (n : Nat) (hn : n ≤ 65536) (w : World) :
    (Instr.makeSlice 22 (.int .i64 (n : Int)) (.int .i64 (n : Int))).run Tryf.prog w = .ok (.slice (some ⟨w.heap.size, 0, none⟩) n n) (w.alloc (.cells (madeCells #[.string ⟨#[]⟩] n) 9)) :=
  run_make_row' 22 9 _ 16 Tryf.underlying22 info9 rfl .i64 .i64 n (by omega) (by omega) w

/-- n strings as cells. -/
def rowS (f : Nat → ByteArray) (n : Nat) : Array Value := ((List.range n).map fun m => Value.string (f m)).toArray
theorem rowS_get (f : Nat → ByteArray) {n m : Nat} (h : m < n) : (rowS f n)[m]? = some (.string (f m)) := by simp [rowS, h]

theorem setRow_alloc (w : World) (C C' : Array Value) (t : TypeId) : (w.alloc (.cells C t)).setRow w.heap.size C' = w.alloc (.cells C' t) := by
  show { w with heap := (w.heap.push (.cells C t)).modify w.heap.size _ } = ({ w with heap := w.heap.push (.cells C' t) } : World)
  congr 1
  apply Array.ext
  · simp
  · intro i h1 h2
    rw [Array.getElem_modify]
    by_cases e : w.heap.size = i
    · subst e
      simp
    · rw [if_neg e, Array.getElem_push, Array.getElem_push]
      have hi : i < w.heap.size := by simp at h2; omega
      rw [dif_pos hi, dif_pos hi]

/-- 'zzc := make([]string, len(addrs)); copy(zzc, addrs)' -/
theorem copy_strs (x : Addr) (n c : Nat) (f : Nat → ByteArray) (w : World) (h : Strs w (some x) n f) (ty : TypeId) :
    (Builtin.copy_ #[22, 22] ty #[.slice (some ⟨w.heap.size, 0, none⟩) n n, .slice (some x) n c]).run Tryf.prog (w.alloc (.cells (madeCells #[.string ⟨#[]⟩] n) 9)) = .ok (goInt n) (w.alloc (.cells (rowS f n) 9)) := by
  have hC : (madeCells #[.string ⟨#[]⟩] n).size = n := size_madeCells _ _
  have h := run_copy_row (P := Tryf.prog) (w.alloc (.cells (madeCells #[.string ⟨#[]⟩] n) 9)) 22 22 ty 9 w.heap.size 0 n n x n c (madeCells #[.string ⟨#[]⟩] n) 9 (rowS f n).toList Tryf.underlying22 size9 (MapKept.heap_alloc w _).1 (by simp [rowS]) ?_ (by simp [rowS, hC]) ?_
  · rw [h]
    have e : (List.take 0 (madeCells #[.string ⟨#[]⟩] n).toList ++ (rowS f n).toList ++ List.drop (0 + (rowS f n).toList.length) (madeCells #[.string ⟨#[]⟩] n).toList).toArray = rowS f n := by
      rw [List.drop_of_length_le (by simp [rowS, hC])]
      simp
    rw [e, setRow_alloc]
    simp [rowS]
  · intro j v hj
    have hjn : j < n := by
      obtain ⟨hl, _⟩ := List.getElem?_eq_some_iff.1 hj
      simpa [rowS] using hl
    have e : v = .string (f j) := by
      have := rowS_get f hjn
      rw [← Array.getElem?_toList, hj] at this
      exact Option.some.inj this
    subst e
    rcases h with rfl | ⟨b, off, e, hb, hc⟩
    · omega
    · obtain rfl := Option.some.inj e
      rw [WideShapes.add_plain, World.cell?_alloc_lt _ _ _ hb]
      exact hc j hjn
  · intro v hv
    simp [rowS] at hv
    obtain ⟨m, _, rfl⟩ := hv
    rfl

theorem strs_copied (w : World) (f : Nat → ByteArray) (n : Nat) : Strs (w.alloc (.cells (rowS f n) 9)) (some ⟨w.heap.size, 0, none⟩) n f := by
  refine .inr ⟨w.heap.size, 0, rfl, by simp, fun m hm => ?_⟩
  rw [World.cell?_alloc_new, Nat.zero_add, rowS_get f hm]

/-- The text where every standby is needed. -/
def untilB : List UInt8 := [116, 104, 101, 32, 109, 97, 115, 116, 101, 114, 32, 109, 97, 107, 101, 115, 32, 110, 111, 32, 99, 104, 97, 110, 103, 101, 32, 117, 110, 116, 105, 108, 32, 105, 116, 32, 102, 111, 108, 108, 111, 119, 115]

/-- ZZmakesNoChange -/
theorem makes_eq (b n : Nat) (w : World) (h : IsStand w b n n) :
    Calls Tryf.prog 6 #[.pointer (some ⟨b, 0, none⟩)] w fun e w' => (∃ s : ByteArray, e = .returned (.string s) ∧ s.data.toList = untilB) ∧ Below w.heap.size w w' := by
  go_enter Tryf.func6, Tryf.ntmps6
  go_wp2_with fail
  refine (says_eq b n w h).mono ?_
  rintro e w' ⟨rfl, hb⟩
  go_wp2_with fail
  go_ret
  exact ⟨⟨_, rfl, rfl⟩, hb⟩

theorem makes_lt (F : Interp) (b n a : Nat) (w : World) (hF : F.told.answers w.tape) (h : IsStand w b n a) (hne : a ≠ n) (ha : a ≤ 65536) (hn : n ≤ 65536) :
    Calls Tryf.prog 6 #[.pointer (some ⟨b, 0, none⟩)] w fun e w' => (∃ s : ByteArray, e = .returned (.string s) ∧ s.data.toList = noChange a n) ∧ Below w.heap.size w w' := by
  go_enter Tryf.func6, Tryf.ntmps6
  go_wp2_with fail
  refine (says_told F b n a w hF h hne ha hn).mono ?_
  rintro e w' ⟨⟨s, rfl, hs⟩, hb⟩
  have HS : Hid (s.data.toList = noChange a n) := hs
  clear hs
  go_wp2_with fail
  go_ret
  exact ⟨⟨s, rfl, HS.out⟩, hb⟩
end Go.Proofs.Qxb6612696aFmt
