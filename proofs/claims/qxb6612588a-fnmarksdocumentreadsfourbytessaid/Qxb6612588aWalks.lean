/-
  THE CALLEES' CONTRACTS: each answers the plain function of Qxb6612588aPlain.
-/
import Derived.Test.Qxb6612588aRows
import Derived.Test.Qxb6612588aPlain
import Derived.WalkKit
import Derived.ProofKit
import Derived.Lib.Strings
import Derived.Lib.Slices
import Derived.Lib.Walk
import Derived.Lib.IndexBytes
import Derived.WalkSpells
namespace Go.Proofs.Qxb6612588a
open Go.RowKit

theorem ret_bool {a b : Bool} (h : a = b) : Ending.returned (.bool a) = .returned (.bool b) := by rw [h]

/-- strings.HasPrefix (after the shelf's template). -/
theorem hasPrefix_any (s p : ByteArray) (w : World) :
    Calls Try.prog 17 #[.string s, .string p] w fun e w' => e = .returned (.bool (Lib.hasPrefix s.data.toList p.data.toList)) ∧ w' = w := by
  rw [← Lib.hasPrefix_of_take, ← Lib.size_eq, ← Lib.size_eq]
  go_enter Try.func17, Try.ntmps17
  go_wp2
  · rename_i h
    go_ret
    refine ⟨?_, rfl⟩
    show Ending.returned (Value.bool ((s.extract 0 p.size).toList == p.toList)) = _
    rw [Lib.extract_toList, Lib.toList_data]
    simp [h]
  · rename_i h
    go_ret
    refine ⟨?_, rfl⟩
    show Ending.returned (Value.bool false) = _
    simp [h]

/-- isBlankOrNul -/
theorem blankOrNul_any (c : Int) (w : World) :
    Calls Try.prog 8 #[.int .u8 c] w fun e w' => e = .returned (.bool (blankB c)) ∧ w' = w := by
  go_enter Try.func8, Try.ntmps8
  go_wp2
  all_goals
    go_ret
    exact ⟨ret_bool (by simp_all [blankB, Bool.or_assoc]), rfl⟩

/-- isMarkHead -/
theorem markHead_any (h : ByteArray) (w : World) :
    Calls Try.prog 7 #[.string h] w fun e w' => e = .returned (.bool (mhB h.data.toList)) ∧ w' = w := by
  unfold mhB
  go_enter Try.func7, Try.ntmps7
  go_wp2
  all_goals
    go_ret
    refine ⟨ret_bool ?_, rfl⟩
    rw [← Lib.toList_data]
    try simp_all

/-- (*scanner).at -/
theorem at_any (b : Nat) (s : ByteArray) (p : Int) (w : World) (hc : w.cell? ⟨b, 0, none⟩ = some (.string s)) (h0 : 0 ≤ p) :
    Calls Try.prog 20 #[.pointer (some ⟨b, 0, none⟩), .int .i64 p] w fun e w' => e = .returned (.int .u8 (byteAt s.data.toList p.toNat)) ∧ w' = w := by
  obtain ⟨k, rfl⟩ := Int.eq_ofNat_of_zero_le h0
  rw [Int.toNat_natCast]
  by_cases hk : k < s.size
  · have e : byteAt s.data.toList k = (s[k].toNat : Int) := byteAt_in (by simpa using hk)
    rw [e]
    clear e
    go_enter Try.func20, Try.ntmps20
    go_wp2
    go_ret
    exact ⟨rfl, rfl⟩
  · have e : byteAt s.data.toList k = 0 := byteAt_out (by simpa using hk)
    rw [e]
    clear e
    go_enter Try.func20, Try.ntmps20
    go_wp2
    go_ret
    exact ⟨rfl, rfl⟩

/-- (*scanner).blankOrEnd -/
theorem blankOrEnd_any (b : Nat) (s : ByteArray) (p : Int) (w : World) (hc : w.cell? ⟨b, 0, none⟩ = some (.string s)) (h0 : 0 ≤ p) :
    Calls Try.prog 18 #[.pointer (some ⟨b, 0, none⟩), .int .i64 p] w fun e w' => e = .returned (.bool (blankB (byteAt s.data.toList p.toNat))) ∧ w' = w := by
  go_enter Try.func18, Try.ntmps18
  go_wp2_with fail
  refine (at_any b s p w hc h0).mono ?_
  rintro e w' ⟨rfl, rfl⟩
  go_wp2
  all_goals
    go_ret
    exact ⟨ret_bool (by simp_all [blankB, Bool.or_assoc]), rfl⟩

theorem prefix_tail (s q : ByteArray) (k : Nat) (w : World) :
    Calls Try.prog 17 #[.string (s.extract k s.size), .string q] w fun e w' => e = .returned (.bool (Lib.hasPrefix (s.data.toList.drop k) q.data.toList)) ∧ w' = w := by
  have e : (s.extract k s.size).data.toList = s.data.toList.drop k := Lib.extract_to_end s k
  rw [← e]
  exact hasPrefix_any _ _ _

/-- (*scanner).marksDocument -/
theorem marks_any (b : Nat) (s : ByteArray) (k : Nat) (w : World) (hc : w.cell? ⟨b, 0, none⟩ = some (.string s)) (hs : s.size ≤ 4000000) (hk : k ≤ s.size) :
    Calls Try.prog 16 #[.pointer (some ⟨b, 0, none⟩), .int .i64 k] w fun e w' => e = .returned (.bool (markB (s.data.toList.drop k))) ∧ w' = w := by
  have hb : blankB (byteAt (s.data.toList.drop k) 3) = blankB (byteAt s.data.toList ((k : Int) + 3).toNat) := by
    rw [byteAt_drop]; congr 2
  rw [markB, headB, hb]
  clear hb
  cases x1 : Lib.hasPrefix (s.data.toList.drop k) [45, 45, 45]
  · cases x2 : Lib.hasPrefix (s.data.toList.drop k) [46, 46, 46]
    · go_enter Try.func16, Try.ntmps16
      go_wp2_with fail
      refine (prefix_tail s _ k _).mono ?_
      rintro e w' ⟨rfl, rfl⟩
      go_wp2_with fail
      refine (prefix_tail s _ k _).mono ?_
      rintro e w' ⟨rfl, rfl⟩
      go_wp2_with fail
      go_ret
      exact ⟨rfl, rfl⟩
    · go_enter Try.func16, Try.ntmps16
      go_wp2_with fail
      refine (prefix_tail s _ k _).mono ?_
      rintro e w' ⟨rfl, rfl⟩
      go_wp2_with fail
      refine (prefix_tail s _ k _).mono ?_
      rintro e w' ⟨rfl, rfl⟩
      go_wp2_with fail
      refine (blankOrEnd_any b s _ _ hc (by omega)).mono ?_
      rintro e w' ⟨rfl, rfl⟩
      go_wp2_with fail
      go_ret
      exact ⟨rfl, rfl⟩
  · go_enter Try.func16, Try.ntmps16
    go_wp2_with fail
    refine (prefix_tail s _ k _).mono ?_
    rintro e w' ⟨rfl, rfl⟩
    go_wp2_with fail
    refine (blankOrEnd_any b s _ _ hc (by omega)).mono ?_
    rintro e w' ⟨rfl, rfl⟩
    go_wp2_with fail
    go_ret
    exact ⟨rfl, rfl⟩

/-- markAt: a scanner over s is made; whether a mark stands at k. -/
theorem markAt_any (s : ByteArray) (k : Nat) (w : World) (hs : s.size ≤ 4000000) (hk : k ≤ s.size) :
    Calls Try.prog 9 #[.string s, .int .i64 k] w fun e w' => e = .returned (.bool (markB (s.data.toList.drop k))) ∧ Grown w w' := by
  go_enter Try.func9, Try.ntmps9
  go_wp2_with (first | (go_at_call 16; refine (marks_any _ s k _ (by simp) hs hk).mono ?_; rintro e w' ⟨rfl, rfl⟩) | go_in)
  go_ret
  exact ⟨rfl, by repeat (first | exact Grown.refl _ | apply Grown.drew | apply Grown.alloc)⟩

/-! ### The same contracts in the forms of the law's calls; growth counted from an elder world -/
theorem grown_trans {A B C : World} (h : Grown A B) (k : Grown B C) : Grown A C :=
  ⟨World.keptBut_trans h.1 k.1, fun a => (k.2.1 a).trans (h.2.1 a), Nat.le_trans h.2.2 k.2.2⟩

theorem markHead_win (win : ByteArray) (w : World) :
    Calls Try.prog 7 #[.string (win.extract 0 3)] w fun e w' => e = .returned (.bool (mhB (win.data.toList.take 3))) ∧ w' = w := by
  have e : (win.extract 0 3).data.toList = win.data.toList.take 3 := by rw [Lib.extract_data]; simp
  rw [← e]
  exact markHead_any _ _

theorem blankOrNul_win (win : ByteArray) (h : 3 < win.size) (w : World) :
    Calls Try.prog 8 #[.int .u8 (win[3].toNat : Int)] w fun e w' => e = .returned (.bool (blankB (byteAt win.data.toList 3))) ∧ w' = w := by
  have e : byteAt win.data.toList 3 = (win[3].toNat : Int) := byteAt_in (by simpa using h)
  rw [e]
  exact blankOrNul_any _ _

theorem markAt_here (w0 : World) (s : ByteArray) (k : Nat) (w : World) (hg : Grown w0 w) (hs : s.size ≤ 4000000) (hk : k ≤ s.size) :
    Calls Try.prog 9 #[.string s, .int .i64 k] w fun e w' => e = .returned (.bool (markB (s.data.toList.drop k))) ∧ Grown w0 w' :=
  (markAt_any s k w hs hk).mono fun _ _ ⟨h1, h2⟩ => ⟨h1, grown_trans hg h2⟩

theorem markAt_join (w0 : World) (b t : ByteArray) (l : List UInt8) (w : World) (hl : t.data.toList = l) (hg : Grown w0 w) (hb : b.size ≤ 1000000) (ht : t.size ≤ 1000000) :
    Calls Try.prog 9 #[.string (b ++ t), .int .i64 b.size] w fun e w' => e = .returned (.bool (markB l)) ∧ Grown w0 w' := by
  have e : (b ++ t).data.toList.drop b.size = l := by
    rw [ByteArray.data_append, Array.toList_append, Lib.size_eq, List.drop_left, hl]
  rw [← e]
  exact markAt_here w0 (b ++ t) b.size w hg (by rw [ByteArray.size_append]; omega) (by rw [ByteArray.size_append]; omega)

theorem markAt_tail (w0 : World) (b s : ByteArray) (k : Nat) (w : World) (hg : Grown w0 w) (hb : b.size ≤ 1000000) (ht : s.size ≤ 1000000) :
    Calls Try.prog 9 #[.string (b ++ s.extract k s.size), .int .i64 b.size] w fun e w' => e = .returned (.bool (markB (s.data.toList.drop k))) ∧ Grown w0 w' :=
  markAt_join w0 b _ _ w (Lib.extract_to_end s k) hg hb (by rw [ByteArray.size_extract]; omega)

theorem markAt_zero (w0 : World) (s : ByteArray) (w : World) (hg : Grown w0 w) (hs : s.size ≤ 1000000) :
    Calls Try.prog 9 #[.string s, .int .i64 0] w fun e w' => e = .returned (.bool (markB s.data.toList)) ∧ Grown w0 w' :=
  markAt_here w0 s 0 w hg (by omega) (by omega)

theorem markAt_plus (w0 : World) (s t : ByteArray) (w : World) (hg : Grown w0 w) (hs : s.size = 4) (ht : t.size ≤ 900000) :
    Calls Try.prog 9 #[.string (s ++ t), .int .i64 0] w fun e w' => e = .returned (.bool (markB s.data.toList)) ∧ Grown w0 w' := by
  have e : markB (s ++ t).data.toList = markB s.data.toList := by
    rw [ByteArray.data_append, Array.toList_append]
    exact markB_append (by rw [← Lib.size_eq]; exact hs) _
  rw [← e]
  exact markAt_zero w0 _ w hg (by rw [ByteArray.size_append]; omega)
end Go.Proofs.Qxb6612588a
