/-
  THE LAW's OWN WALK, by its ways.
-/
import Derived.Test.Qxb6612588aWalks
import Derived.OpenShut
namespace Go.Proofs.Qxb6612588a
open Go.RowKit

/-- zzBytes: it answers. -/
theorem zzBytes_any (s : ByteArray) (p : Int) (b a : ByteArray) (w : World) :
    Calls Try.prog 6 #[.string s, .int .i64 p, .string b, .string a] w fun e w' => (∃ r, e = .returned (.bool r)) ∧ w' = w := by
  go_enter Try.func6, Try.ntmps6
  go_wp2
  all_goals
    go_ret
    exact ⟨⟨_, rfl⟩, rfl⟩

theorem zzBytes_yes (s : ByteArray) (p : Int) (b a : ByteArray) (w : World) (h1 : s.size ≤ 262144) (h2 : b.size ≤ 262144) (h3 : a.size ≤ 262144) :
    Calls Try.prog 6 #[.string s, .int .i64 p, .string b, .string a] w fun e w' => e = .returned (.bool true) ∧ w' = w := by
  go_enter Try.func6, Try.ntmps6
  go_wp2
  go_ret
  exact ⟨rfl, rfl⟩

/-- Too long: true at once. -/
theorem law_long (s : ByteArray) (p : Int) (b a : ByteArray) (w : World) (h : ¬ (s.size ≤ 262144 ∧ b.size ≤ 262144 ∧ a.size ≤ 262144)) :
    Calls Try.prog 3 #[.string s, .int .i64 p, .string b, .string a] w fun e w' => e = .returned (.bool true) ∧ Grown w w' := by
  go_enter Try.func3, Try.ntmps3
  go_wp2_with fail
  refine (zzBytes_any s p b a _).mono ?_
  rintro e w' ⟨⟨r, rfl⟩, rfl⟩
  cases r
  · go_wp2_with fail
    go_ret
    exact ⟨rfl, Grown.refl _⟩
  · by_cases c1 : s.size ≤ 262144
    · by_cases c2 : b.size ≤ 262144
      · have c3 : ¬ a.size ≤ 262144 := fun c3 => h ⟨c1, c2, c3⟩
        clear h
        go_wp2_with fail
        go_ret
        exact ⟨rfl, Grown.refl _⟩
      · clear h
        go_wp2_with fail
        go_ret
        exact ⟨rfl, Grown.refl _⟩
    · clear h
      go_wp2_with fail
      go_ret
      exact ⟨rfl, Grown.refl _⟩

/-- The place lies outside the text: true at once. -/
theorem law_out (s : ByteArray) (p : Int) (b a : ByteArray) (w : World) (h1 : s.size ≤ 262144) (h2 : b.size ≤ 262144) (h3 : a.size ≤ 262144) (hp : p < 0 ∨ (s.size : Int) < p) :
    Calls Try.prog 3 #[.string s, .int .i64 p, .string b, .string a] w fun e w' => e = .returned (.bool true) ∧ Grown w w' := by
  rcases hp with hp | hp
  · go_enter Try.func3, Try.ntmps3
    go_wp2_with fail
    refine (zzBytes_yes s p b a _ h1 h2 h3).mono ?_
    rintro e w' ⟨rfl, rfl⟩
    go_wp2_with fail
    go_ret
    exact ⟨rfl, Grown.refl _⟩
  · have hp' : ¬ p < 0 := by omega
    go_enter Try.func3, Try.ntmps3
    go_wp2_with fail
    refine (zzBytes_yes s p b a _ h1 h2 h3).mono ?_
    rintro e w' ⟨rfl, rfl⟩
    go_wp2_with fail
    go_ret
    exact ⟨rfl, Grown.refl _⟩

theorem win_list (s : ByteArray) (k q : Nat) (hq : q ≤ s.size) (hq4 : q = k + 4 ∨ (q = s.size ∧ s.size < k + 4)) : (s.extract k q).data.toList = (s.data.toList.drop k).take 4 := by
  rw [Lib.extract_data]
  rcases hq4 with rfl | ⟨rfl, h⟩
  · rw [Nat.add_sub_cancel_left]
  · rw [List.take_of_length_le (by rw [List.length_drop, ← Lib.size_eq]; omega), List.take_of_length_le (by rw [List.length_drop, ← Lib.size_eq]; omega)]

set_option maxHeartbeats 400000 in
/-- Four bytes stand at k. -/
theorem law_four (s : ByteArray) (k : Nat) (b a : ByteArray) (w : World) (h1 : s.size ≤ 262144) (h2 : b.size ≤ 262144) (h3 : a.size ≤ 262144) (hk : k + 4 ≤ s.size) :
    Calls Try.prog 3 #[.string s, .int .i64 k, .string b, .string a] w fun e w' => e = .returned (.bool true) ∧ Grown w w' := by
  have hl := win_list s k (k + 4) (by omega) (.inl rfl)
  have hz : (s.extract k (k + 4)).size = 4 := by rw [ByteArray.size_extract]; omega
  have hm : markB (s.data.toList.drop k) = markB (s.extract k (k + 4)).data.toList := by rw [hl, markB_take]
  have h4 := markB_four (l := (s.extract k (k + 4)).data.toList) (by rw [← Lib.size_eq]; exact hz)
  generalize hw : s.extract k (k + 4) = win at *
  clear hl
  have HW : Hid (s.extract k (k + 4) = win) := hw
  clear hw
  cases x : mhB (win.data.toList.take 3)
  · rw [x, Bool.false_and] at h4
    rw [h4] at hm
    go_enter Try.func3, Try.ntmps3
    go_wp2_with fail
    refine (zzBytes_yes s _ b a _ h1 h2 h3).mono ?_
    rintro e w' ⟨rfl, rfl⟩
    go_wp2_with fail
    rw [HW.out]
    refine (markHead_win win _).mono ?_
    rintro e w' ⟨rfl, rfl⟩
    go_wp2_with fail
    refine (markAt_here _ s k _ (Grown.refl _) (by omega) (by omega)).mono ?_
    rintro e w1 ⟨rfl, g1⟩
    go_wp2_with fail
    refine (markAt_tail _ b s k _ g1 (by omega) (by omega)).mono ?_
    rintro e w2 ⟨rfl, g2⟩
    go_wp2_with fail
    refine (markAt_join _ b win _ _ rfl g2 (by omega) (by omega)).mono ?_
    rintro e w3 ⟨rfl, g3⟩
    go_wp2_with fail
    refine (markAt_zero _ win _ g3 (by omega)).mono ?_
    rintro e w4 ⟨rfl, g4⟩
    go_wp2_with fail
    refine (markAt_plus _ win a _ g4 hz (by omega)).mono ?_
    rintro e w5 ⟨rfl, g5⟩
    go_wp2_with fail
    go_ret
    exact ⟨rfl, g5⟩
  · cases y : blankB (byteAt win.data.toList 3)
    all_goals
      rw [x, y] at h4
      simp only [Bool.and_true, Bool.and_false] at h4
      rw [h4] at hm
      go_enter Try.func3, Try.ntmps3
      go_wp2_with fail
      refine (zzBytes_yes s _ b a _ h1 h2 h3).mono ?_
      rintro e w' ⟨rfl, rfl⟩
      go_wp2_with fail
      rw [HW.out]
      refine (markHead_win win _).mono ?_
      rintro e w' ⟨rfl, rfl⟩
      go_wp2_with fail
      refine (blankOrNul_win win (by omega) _).mono ?_
      rintro e w' ⟨rfl, rfl⟩
      go_wp2_with fail
      refine (markAt_here _ s k _ (Grown.refl _) (by omega) (by omega)).mono ?_
      rintro e w1 ⟨rfl, g1⟩
      go_wp2_with fail
      refine (markAt_tail _ b s k _ g1 (by omega) (by omega)).mono ?_
      rintro e w2 ⟨rfl, g2⟩
      go_wp2_with fail
      refine (markAt_join _ b win _ _ rfl g2 (by omega) (by omega)).mono ?_
      rintro e w3 ⟨rfl, g3⟩
      go_wp2_with fail
      refine (markAt_zero _ win _ g3 (by omega)).mono ?_
      rintro e w4 ⟨rfl, g4⟩
      go_wp2_with fail
      refine (markAt_plus _ win a _ g4 hz (by omega)).mono ?_
      rintro e w5 ⟨rfl, g5⟩
      go_wp2_with fail
      go_ret
      exact ⟨rfl, g5⟩

set_option maxHeartbeats 400000 in
/-- Three bytes stand at k. -/
theorem law_three (s : ByteArray) (k : Nat) (b a : ByteArray) (w : World) (h1 : s.size ≤ 262144) (h2 : b.size ≤ 262144) (h3 : a.size ≤ 262144) (hk : s.size = k + 3) :
    Calls Try.prog 3 #[.string s, .int .i64 k, .string b, .string a] w fun e w' => e = .returned (.bool true) ∧ Grown w w' := by
  have hl := win_list s k (s.size) (by omega) (.inr ⟨rfl, by omega⟩)
  have hz : (s.extract k s.size).size = 3 := by rw [ByteArray.size_extract]; omega
  have hm : markB (s.data.toList.drop k) = markB (s.extract k s.size).data.toList := by rw [hl, markB_take]
  have h4 := markB_three (l := (s.extract k s.size).data.toList) (by rw [← Lib.size_eq]; exact hz)
  generalize hw : s.extract k s.size = win at *
  clear hl
  have HW : Hid (s.extract k s.size = win) := hw
  clear hw
  have HK : Hid (s.size = k + 3) := hk
  have hk1 : s.size ≤ k + 3 := by omega
  have hk2 : k + 3 ≤ s.size := by omega
  clear hk
  cases x : mhB (win.data.toList.take 3)
  all_goals
    rw [x] at h4
    rw [h4] at hm
    go_enter Try.func3, Try.ntmps3
    go_wp2_with fail
    refine (zzBytes_yes s _ b a _ h1 h2 h3).mono ?_
    rintro e w' ⟨rfl, rfl⟩
    go_wp2_with fail
    rw [HW.out]
    refine (markHead_win win _).mono ?_
    rintro e w' ⟨rfl, rfl⟩
    go_wp2_with fail
    refine (markAt_here _ s k _ (Grown.refl _) (by omega) (by omega)).mono ?_
    rintro e w1 ⟨rfl, g1⟩
    go_wp2_with fail
    refine (markAt_tail _ b s k _ g1 (by omega) (by omega)).mono ?_
    rintro e w2 ⟨rfl, g2⟩
    go_wp2_with fail
    refine (markAt_join _ b win _ _ rfl g2 (by omega) (by omega)).mono ?_
    rintro e w3 ⟨rfl, g3⟩
    go_wp2_with fail
    refine (markAt_zero _ win _ g3 (by omega)).mono ?_
    rintro e w4 ⟨rfl, g4⟩
    go_wp2_with fail
    go_ret
    exact ⟨rfl, g4⟩

set_option maxHeartbeats 400000 in
/-- Fewer than three bytes stand at k. -/
theorem law_short (s : ByteArray) (k : Nat) (b a : ByteArray) (w : World) (h1 : s.size ≤ 262144) (h2 : b.size ≤ 262144) (h3 : a.size ≤ 262144) (hk : k ≤ s.size) (hk3 : s.size < k + 3) :
    Calls Try.prog 3 #[.string s, .int .i64 k, .string b, .string a] w fun e w' => e = .returned (.bool true) ∧ Grown w w' := by
  have hl := win_list s k (s.size) (by omega) (.inr ⟨rfl, by omega⟩)
  have hz : (s.extract k s.size).size < 3 := by rw [ByteArray.size_extract]; omega
  have hm : markB (s.data.toList.drop k) = markB (s.extract k s.size).data.toList := by rw [hl, markB_take]
  have h4 := markB_short (l := (s.extract k s.size).data.toList) (by rw [← Lib.size_eq]; exact hz)
  generalize hw : s.extract k s.size = win at *
  clear hl
  have HW : Hid (s.extract k s.size = win) := hw
  clear hw
  rw [h4] at hm
  go_enter Try.func3, Try.ntmps3
  go_wp2_with fail
  refine (zzBytes_yes s _ b a _ h1 h2 h3).mono ?_
  rintro e w' ⟨rfl, rfl⟩
  go_wp2_with fail
  rw [HW.out]
  go_wp2_with fail
  refine (markAt_here _ s k _ (Grown.refl _) (by omega) (by omega)).mono ?_
  rintro e w1 ⟨rfl, g1⟩
  go_wp2_with fail
  refine (markAt_tail _ b s k _ g1 (by omega) (by omega)).mono ?_
  rintro e w2 ⟨rfl, g2⟩
  go_wp2_with fail
  refine (markAt_join _ b win _ _ rfl g2 (by omega) (by omega)).mono ?_
  rintro e w3 ⟨rfl, g3⟩
  go_wp2_with fail
  refine (markAt_zero _ win _ g3 (by omega)).mono ?_
  rintro e w4 ⟨rfl, g4⟩
  go_wp2_with fail
  go_ret
  exact ⟨rfl, g4⟩

end Go.Proofs.Qxb6612588a
