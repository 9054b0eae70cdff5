/-
  FnMakesNoChangeNamesItsCountsBack: the law's walk.
-/
import Derived.Test.Qxb6612696aFmtLawA
namespace Go.Proofs.Qxb6612696aFmt
open Go.RowKit Go.Kit Go.Extern.Stop Go.Stop Go.Extern

theorem no_digit (s : ByteArray) (hs : s.data.toList = untilB) : ∀ m (h : m < s.size), ¬ (48 ≤ s[m].toNat ∧ s[m].toNat ≤ 57) := by
  intro m h
  have hz : s.size = untilB.length := by rw [Lib.size_eq, hs]
  have hall : ∀ c ∈ untilB, ¬ (48 ≤ c.toNat ∧ c.toNat ≤ 57) := by decide
  rw [byte_list]
  simp only [hs]
  exact hall _ (List.getElem_mem _)

/-! ### The text, taken apart -/
def pre1 : List UInt8 := [116, 104, 101, 32, 109, 97, 115, 116, 101, 114, 32, 109, 97, 107, 101, 115, 32, 110, 111, 32, 99, 104, 97, 110, 103, 101, 32]
def whileB : List UInt8 := [119, 104, 105, 108, 101, 32, 102, 101, 119, 101, 114, 32, 116, 104, 97, 110, 32]
theorem sp1 (a n : Nat) : noChange a n = [] ++ (pre1 ++ (whileB ++ (Lib.decDigits a ++ (midB ++ (Lib.decDigits n ++ tailB))))) := rfl
theorem sp2 (a n : Nat) : noChange a n = pre1 ++ (whileB ++ (Lib.decDigits a ++ (midB ++ (Lib.decDigits n ++ tailB)))) := rfl
theorem sp3 (a n : Nat) : noChange a n = preB ++ (Lib.decDigits a ++ (32 :: (midB.drop 1 ++ (Lib.decDigits n ++ tailB)))) := rfl
theorem sp4 (a n : Nat) : noChange a n = (preB ++ Lib.decDigits a) ++ (midB ++ (Lib.decDigits n ++ tailB)) := by rw [List.append_assoc]; rfl
theorem sp5 (a n : Nat) : noChange a n = (preB ++ (Lib.decDigits a ++ midB)) ++ (Lib.decDigits n ++ (32 :: tailB.drop 1)) := by rw [List.append_assoc, List.append_assoc]; rfl
theorem sp6 (a n : Nat) : noChange a n = (preB ++ (Lib.decDigits a ++ (midB ++ Lib.decDigits n))) ++ (tailB ++ []) := by rw [List.append_assoc, List.append_assoc, List.append_assoc, List.append_nil]; rfl
theorem len_pre1 : pre1.length = 27 := rfl
theorem len_preB : preB.length = 44 := rfl
theorem len_midB : midB.length = 8 := rfl
theorem len_tailB : tailB.length = 19 := rfl

set_option maxRecDepth 100000 in
set_option maxHeartbeats 1000000 in
/-- The short ways. -/
theorem law_short (need : Int) (a : Option Addr) (n c : Nat) (f : Nat → ByteArray) (w : World) (h : Strs w a n f) (hs : n ≤ 65536 → need < 0 ∨ (n : Int) < need) :
    Calls Tryf.prog 3 #[.int .i64 need, .slice a n c] w fun e w' => e = .returned (.bool true) ∧ Below w.heap.size w w' := by
  have HS : Hid (n ≤ 65536 → need < 0 ∨ (n : Int) < need) := hs
  clear hs
  go_enter Tryf.func3, Tryf.ntmps3
  go_wp2_with fail
  refine (zzBytes_any _ _ n c f _ h).mono ?_
  rintro e w' ⟨⟨r, rfl⟩, rfl⟩
  cases r
  · go_wp2_with fail
    go_ret
    exact ⟨rfl, Below.refl _ _⟩
  · go_wp2_with fail
    refine (tooBig_any _ n c f _ h).mono ?_
    rintro e w' ⟨⟨r, rfl, hr⟩, rfl⟩
    cases r
    · have hn := hr rfl
      clear hr
      rcases HS.out hn with h1 | h1
      · go_wp2_with fail
        go_ret
        exact ⟨rfl, Below.refl _ _⟩
      · have h2 : ¬ need < 0 := by omega
        go_wp2_with fail
        go_ret
        exact ⟨rfl, Below.refl _ _⟩
    · clear hr
      go_wp2_with fail
      go_ret
      exact ⟨rfl, Below.refl _ _⟩

set_option maxRecDepth 100000 in
set_option maxHeartbeats 2000000 in
/-- A slice that is not nil; fewer are needed than there are. -/
theorem law_lt (F : Interp) (a : Nat) (x : Addr) (n c : Nat) (f : Nat → ByteArray) (w : World) (hF : F.told.answers w.tape) (h : Strs w (some x) n f) (ha : a < n) :
    Calls Tryf.prog 3 #[.int .i64 a, .slice (some x) n c] w fun e w' => e = .returned (.bool true) ∧ Below w.heap.size w w' := by
  have hne : ((a : Int) == (n : Int)) = false := beq_eq_false_iff_ne.2 (by omega)
  go_enter Tryf.func3, Tryf.ntmps3
  go_wp2_with fail
  refine (zzBytes_any _ _ n c f _ h).mono ?_
  rintro e w' ⟨⟨r, rfl⟩, rfl⟩
  cases r
  · go_wp2_with fail
    go_ret
    exact ⟨rfl, Below.refl _ _⟩
  go_wp2_with fail
  refine (tooBig_any _ n c f _ h).mono ?_
  rintro e w' ⟨⟨r, rfl, hr⟩, rfl⟩
  cases r
  · have hn := hr rfl
    clear hr
    have hmk := mk22 n hn
    have hcp := copy_strs x n c f w' h 3
    go_wp2_with fail
    clear hmk hcp
    have hst := strs_copied w' f n
    have hb0 : Below w'.heap.size w' (w'.alloc (.cells (rowS f n) 9)) := (Below.refl _ _).alloc (Nat.le_refl _) _
    have hz0 := hb0.size
    generalize w'.alloc (.cells (rowS f n) 9) = w1 at *
    refine (newStandbys_any a _ n n f w1 hst hn).mono ?_
    rintro e w2 ⟨b, rfl, hsd, hbs, hb1⟩
    have hz1 := hb1.size
    go_wp2_with fail
    refine (makes_lt F b n a w2 (by rw [hb1.tape, hb0.tape]; exact hF) hsd (by omega) (by omega) hn).mono ?_
    rintro e w3 ⟨⟨s, rfl, hs⟩, hb2⟩
    have hz2 := hb2.size
    have hlen := noChange_length a n (by omega) hn
    have hsz : s.size ≤ 100 := by rw [Lib.size_eq, hs]; exact hlen
    have HS : Hid (s.data.toList = noChange a n) := hs
    clear hs hlen
    have hbb : Below w'.heap.size w' w3 := (hb0.trans (hb1.mono (by omega))).trans (hb2.mono (by omega))
    clear hb0 hb1 hb2 hst hsd hbs hz0 hz1 hz2 h hF
    obtain ⟨L1, hL1⟩ : ∃ L, (Lib.decDigits a).length = L := ⟨_, rfl⟩
    obtain ⟨L2, hL2⟩ : ∃ L, (Lib.decDigits n).length = L := ⟨_, rfl⟩
    have HL1 : Hid ((Lib.decDigits a).length = L1) := hL1
    have HL2 : Hid ((Lib.decDigits n).length = L2) := hL2
    have l1 : L1 ≤ 9 := by have := (num_dec a (by omega)).short; omega
    have l2 : L2 ≤ 9 := by have := (num_dec n hn).short; omega
    have hsize : Hid (s.size = 44 + L1 + 8 + L2 + 19) := by
      show s.size = _
      rw [Lib.size_eq, HS.out, sp6]
      simp only [List.length_append, len_preB, len_midB, len_tailB, List.length_nil, hL1, hL2]
      omega
    clear hL1 hL2
    go_wp2_with fail
    refine (at_list s _ _ [] _ w3 (by omega) (by rw [HS.out]; exact sp1 a n) rfl).mono ?_
    rintro e w4 ⟨rfl, hb4⟩
    have hz4 := hb4.size
    go_wp2_with fail
    refine (at_list s _ _ pre1 _ w4 (by omega) (by rw [HS.out]; exact sp2 a n) (by rw [len_pre1]; rfl)).mono ?_
    rintro e w5 ⟨rfl, hb5⟩
    have hz5 := hb5.size
    go_wp2_with fail
    refine (read_list s _ 32 a L1 _ preB _ w5 (by omega) (num_dec a (by omega)) HL1.out (by rw [HS.out]; exact sp3 a n) (by decide) (by rw [len_preB]; rfl)).mono ?_
    rintro e w6 ⟨rfl, rfl⟩
    go_wp2_with fail
    refine (at_list s _ _ (preB ++ Lib.decDigits a) _ w6 (by omega) (by rw [HS.out]; exact sp4 a n) (by rw [List.length_append, len_preB, HL1.out]; omega)).mono ?_
    rintro e w7 ⟨rfl, hb7⟩
    have hz7 := hb7.size
    go_wp2_with fail
    refine (read_list s _ 32 n L2 _ (preB ++ (Lib.decDigits a ++ midB)) _ w7 (by omega) (num_dec n hn) HL2.out (by rw [HS.out]; exact sp5 a n) (by decide) (by rw [List.length_append, List.length_append, len_preB, len_midB, HL1.out]; omega)).mono ?_
    rintro e w8 ⟨rfl, rfl⟩
    go_wp2_with fail
    refine (at_list s _ _ (preB ++ (Lib.decDigits a ++ (midB ++ Lib.decDigits n))) _ w8 (by omega) (by rw [HS.out]; exact sp6 a n) (by rw [List.length_append, List.length_append, List.length_append, len_preB, len_midB, HL1.out, HL2.out]; omega)).mono ?_
    rintro e w9 ⟨rfl, hb9⟩
    have hfin := hbb.trans ((hb4.mono (by have := hbb.size; omega)).trans ((hb5.mono (by have := hbb.size; omega)).trans ((hb7.mono (by have := hbb.size; omega)).trans (hb9.mono (by have := hbb.size; omega)))))
    have hlq : ((s.size : Int) != 44 + (L1 : Int) + 8 + (L2 : Int) + 19) = false := by
      have := hsize.out
      rw [bne_eq_false_iff_eq]
      omega
    go_wp2_with fail
    go_ret
    exact ⟨rfl, hfin⟩
  · clear hr
    go_wp2_with fail
    go_ret
    exact ⟨rfl, Below.refl _ _⟩
def until2 : List UInt8 := [117, 110, 116, 105, 108, 32, 105, 116, 32, 102, 111, 108, 108, 111, 119, 115]
theorem u1 : untilB = [] ++ (pre1 ++ until2) := rfl
theorem u2 : untilB = pre1 ++ (until2 ++ []) := rfl

set_option maxRecDepth 100000 in
set_option maxHeartbeats 2000000 in
/-- A slice that is not nil; all are needed. -/
theorem law_eq (x : Addr) (n c : Nat) (f : Nat → ByteArray) (w : World) (h : Strs w (some x) n f) :
    Calls Tryf.prog 3 #[.int .i64 n, .slice (some x) n c] w fun e w' => e = .returned (.bool true) ∧ Below w.heap.size w w' := by
  have hne : ((n : Int) == (n : Int)) = true := by simp
  go_enter Tryf.func3, Tryf.ntmps3
  go_wp2_with fail
  refine (zzBytes_any _ _ n c f _ h).mono ?_
  rintro e w' ⟨⟨r, rfl⟩, rfl⟩
  cases r
  · go_wp2_with fail
    go_ret
    exact ⟨rfl, Below.refl _ _⟩
  go_wp2_with fail
  refine (tooBig_any _ n c f _ h).mono ?_
  rintro e w' ⟨⟨r, rfl, hr⟩, rfl⟩
  cases r
  · have hn := hr rfl
    clear hr
    have hmk := mk22 n hn
    have hcp := copy_strs x n c f w' h 3
    go_wp2_with fail
    clear hmk hcp
    have hst := strs_copied w' f n
    have hb0 : Below w'.heap.size w' (w'.alloc (.cells (rowS f n) 9)) := (Below.refl _ _).alloc (Nat.le_refl _) _
    have hz0 := hb0.size
    generalize w'.alloc (.cells (rowS f n) 9) = w1 at *
    refine (newStandbys_any n _ n n f w1 hst hn).mono ?_
    rintro e w2 ⟨b, rfl, hsd, hbs, hb1⟩
    have hz1 := hb1.size
    go_wp2_with fail
    refine (makes_eq b n w2 hsd).mono ?_
    rintro e w3 ⟨⟨s, rfl, hs⟩, hb2⟩
    have hz2 := hb2.size
    have hsz : s.size = 43 := by rw [Lib.size_eq, hs]; rfl
    have HS : Hid (s.data.toList = untilB) := hs
    clear hs
    have hbb : Below w'.heap.size w' w3 := (hb0.trans (hb1.mono (by omega))).trans (hb2.mono (by omega))
    have hzb := hbb.size
    clear hb0 hb1 hb2 hst hsd hbs hz0 hz1 hz2 h
    go_wp2_with fail
    refine (at_list s _ _ [] _ w3 (by omega) (by rw [HS.out]; exact u1) rfl).mono ?_
    rintro e w4 ⟨rfl, hb4⟩
    have hz4 := hb4.size
    go_wp2_with fail
    refine (hasDigit_no s w4 (by omega) (no_digit s HS.out)).mono ?_
    rintro e w5 ⟨rfl, rfl⟩
    go_wp2_with fail
    refine (at_list s _ _ pre1 _ w5 (by omega) (by rw [HS.out]; exact u2) (by rw [len_pre1]; rfl)).mono ?_
    rintro e w6 ⟨rfl, hb6⟩
    have hfin := hbb.trans ((hb4.mono (by omega)).trans (hb6.mono (by omega)))
    go_wp2_with fail
    go_ret
    exact ⟨rfl, hfin⟩
  · clear hr
    go_wp2_with fail
    go_ret
    exact ⟨rfl, Below.refl _ _⟩

set_option maxRecDepth 100000 in
set_option maxHeartbeats 2000000 in
/-- The nil slice; none is needed. -/
theorem law_nil (c : Nat) (f : Nat → ByteArray) (w : World) :
    Calls Tryf.prog 3 #[.int .i64 0, .slice none 0 c] w fun e w' => e = .returned (.bool true) ∧ Below w.heap.size w w' := by
  have h : Strs w none 0 f := .inl rfl
  go_enter Tryf.func3, Tryf.ntmps3
  go_wp2_with fail
  refine (zzBytes_any _ _ 0 c f _ h).mono ?_
  rintro e w' ⟨⟨r, rfl⟩, rfl⟩
  cases r
  · go_wp2_with fail
    go_ret
    exact ⟨rfl, Below.refl _ _⟩
  go_wp2_with fail
  refine (tooBig_any _ 0 c f _ h).mono ?_
  rintro e w' ⟨⟨r, rfl, hr⟩, rfl⟩
  clear hr
  cases r
  · go_wp2_with fail
    have hst := h
    have hb0 : Below w'.heap.size w' w' := Below.refl _ _
    have hz0 := hb0.size
    refine (newStandbys_any 0 _ 0 c f w' hst (by omega)).mono ?_
    rintro e w2 ⟨b, rfl, hsd, hbs, hb1⟩
    have hz1 := hb1.size
    go_wp2_with fail
    refine (makes_eq b 0 w2 hsd).mono ?_
    rintro e w3 ⟨⟨s, rfl, hs⟩, hb2⟩
    have hz2 := hb2.size
    have hsz : s.size = 43 := by rw [Lib.size_eq, hs]; rfl
    have HS : Hid (s.data.toList = untilB) := hs
    clear hs
    have hbb : Below w'.heap.size w' w3 := (hb0.trans (hb1.mono (by omega))).trans (hb2.mono (by omega))
    have hzb := hbb.size
    clear hb0 hb1 hb2 hst hsd hbs hz0 hz1 hz2 h
    go_wp2_with fail
    refine (at_list s _ _ [] _ w3 (by omega) (by rw [HS.out]; exact u1) rfl).mono ?_
    rintro e w4 ⟨rfl, hb4⟩
    have hz4 := hb4.size
    go_wp2_with fail
    refine (hasDigit_no s w4 (by omega) (no_digit s HS.out)).mono ?_
    rintro e w5 ⟨rfl, rfl⟩
    go_wp2_with fail
    refine (at_list s _ _ pre1 _ w5 (by omega) (by rw [HS.out]; exact u2) (by rw [len_pre1]; rfl)).mono ?_
    rintro e w6 ⟨rfl, hb6⟩
    have hfin := hbb.trans ((hb4.mono (by omega)).trans (hb6.mono (by omega)))
    go_wp2_with fail
    go_ret
    exact ⟨rfl, hfin⟩
  · go_wp2_with fail
    go_ret
    exact ⟨rfl, Below.refl _ _⟩

/-- The law, whatever the input. -/
theorem law (F : Interp) (need : Int) (a : Option Addr) (n c : Nat) (f : Nat → ByteArray) (w : World) (hF : F.told.answers w.tape) (h : Strs w a n f) (hn : a = none → n = 0) :
    Calls Tryf.prog 3 #[.int .i64 need, .slice a n c] w fun e w' => e = .returned (.bool true) ∧ Below w.heap.size w w' := by
  by_cases hs : need < 0 ∨ (n : Int) < need
  · exact law_short need a n c f w h fun _ => hs
  · obtain ⟨k, rfl⟩ := Int.eq_ofNat_of_zero_le (show 0 ≤ need by omega)
    cases a with
    | none =>
      obtain rfl := hn rfl
      obtain rfl : k = 0 := by omega
      exact law_nil c f w
    | some x =>
      by_cases e : k = n
      · subst e
        exact law_eq x k c f w h
      · exact law_lt F k x n c f w hF h (by omega)
end Go.Proofs.Qxb6612696aFmt
