/-
  THE LAW's OWN READERS: zzmb1At, zzmb1HasDigit, zzmb1ReadCount: each where it says yes (the second: no).
-/
import Derived.Test.Qxb6612696aFmtRows
import Derived.Test.Qxb6612696aFmtPlain
import Derived.WalkKit
import Derived.ProofKit
import Derived.OpenShut
import Derived.Deep.QuietTactic
import Derived.BigQuiet
import Derived.WalkSpells
import Derived.WalkLawsBesides
import Derived.Handy
import Derived.Lib.Strings
namespace Go.Proofs.Qxb6612696aFmt
open Go.RowKit

theorem below_drewN' (B : Nat) (w : World) (n : Nat) : Below B w (w.drewN n) := ⟨rfl, rfl, rfl, Nat.le_refl _, fun _ _ => rfl⟩

set_option maxHeartbeats 400000 in
/-- zzmb1At: v stands in s from k on. -/
theorem at_yes (s v : ByteArray) (k : Nat) (w : World) (hs : s.size ≤ 100000) (hf : k + v.size ≤ s.size) (he : ∀ m (h : m < v.size), s[k + m] = v[m]) :
    Calls Tryf.prog 8 #[.string s, .int .i64 k, .string v] w fun e w' => e = .returned (.bool true) ∧ Below w.heap.size w w' := by
  have HE : Hid (∀ m (h : m < v.size), s[k + m] = v[m]) := he
  clear he
  go_enter Tryf.func8, Tryf.ntmps8
  go_wp2
  go_loopw [7] (fun c wr => ∃ m : Nat, m ≤ v.size ∧ c = .int .i64 m ∧ Below w.heap.size w wr) (fun c _ => v.size - (intOf c).toNat)
  case atStart => exact ⟨0, Nat.zero_le _, rfl, Below.refl _ _⟩
  case round =>
    obtain ⟨m, hm, rfl, hb⟩ := hrel
    by_cases hlt : m < v.size
    · have e := HE.out m hlt
      have y1 : IntKind.i64.wrap ((k : Int) + (m : Int)) = (k : Int) + (m : Int) := by rw [IntKind.wrap_i64]; omega
      have y2 : ((k : Int) + (m : Int)).toNat = k + m := by omega
      have y3 : (k : Int) + (m : Int) < (s.size : Int) := by omega
      have y4 : k + m < s.size := by omega
      go_wp2
      go_quiet (fail)
      go_wp2
      go_roundw
      case rel => exact ⟨m + 1, by omega, by go_num, hb.trans (below_drewN' _ _ _)⟩
      case measure => simp [intOf]; omega
    · go_wp2
      go_ret
      exact ⟨rfl, hb⟩

set_option maxHeartbeats 400000 in
/-- zzmb1HasDigit: there is none. -/
theorem hasDigit_no (s : ByteArray) (w : World) (hs : s.size ≤ 100000) (hd : ∀ m (h : m < s.size), ¬ (48 ≤ s[m].toNat ∧ s[m].toNat ≤ 57)) :
    Calls Tryf.prog 9 #[.string s] w fun e w' => e = .returned (.bool false) ∧ w' = w := by
  have HD : Hid (∀ m (h : m < s.size), ¬ (48 ≤ s[m].toNat ∧ s[m].toNat ≤ 57)) := hd
  clear hd
  go_enter Tryf.func9, Tryf.ntmps9
  go_wp2
  go_loop [3] (fun c => ∃ m : Nat, m ≤ s.size ∧ c = .int .i64 m) (fun c => s.size - (intOf c).toNat)
  case atStart => exact ⟨0, Nat.zero_le _, rfl⟩
  case round =>
    obtain ⟨m, hm, rfl⟩ := hrel
    by_cases hlt : m < s.size
    · have e := HD.out m hlt
      by_cases h48 : 48 ≤ (s[m].toNat : Int)
      · have h57 : ¬ (s[m].toNat : Int) ≤ 57 := by omega
        clear e
        go_wp2
        go_round
        case rel => exact ⟨m + 1, by omega, by go_num⟩
        case measure => simp [intOf]; omega
      · clear e
        go_wp2
        go_round
        case rel => exact ⟨m + 1, by omega, by go_num⟩
        case measure => simp [intOf]; omega
    · go_wp2
      go_ret
      exact ⟨rfl, rfl⟩

set_option maxHeartbeats 1000000 in
/-- zzmb1ReadCount, over plain numbers: V i is what has been gathered when the reader stands at i. -/
theorem readCount_core (s : ByteArray) (V : Nat → Nat) (u k L : Nat) (w : World) (hs : s.size ≤ 100000) (hp : 1 ≤ L) (h9 : L ≤ 9) (hf : k + L < s.size) (hks : k < s.size)
    (HE : Hid (∀ i (_ : k ≤ i) (_ : i < k + L) (h3 : i < s.size), 48 ≤ (s[i].toNat : Int) ∧ (s[i].toNat : Int) ≤ 57 ∧ V (i + 1) = V i * 10 + (s[i].toNat - 48)))
    (HB : Hid (∀ i, k ≤ i → i ≤ k + L → V i < 1000000000)) (HV : Hid (V k = 0)) (HU : Hid (V (k + L) = u))
    (h0 : L = 1 ∨ ¬ (s[k].toNat : Int) = 48) (hz : ¬ 48 ≤ (s[k + L].toNat : Int)) :
    Calls Tryf.prog 10 #[.string s, .int .i64 k] w fun e w' => e = .returned (.tuple #[.int .i64 u, .int .i64 ((k : Int) + L), .bool true]) ∧ w' = w := by
  have H0 : Hid (L = 1 ∨ ¬ (s[k].toNat : Int) = 48) := h0
  have HZ : Hid (¬ 48 ≤ (s[k + L].toNat : Int)) := hz
  clear h0 hz
  go_enter Tryf.func10, Tryf.ntmps10
  go_wp2
  go_loop [7, 8] (fun v c => ∃ i : Nat, k ≤ i ∧ i ≤ k + L ∧ c = .int .i64 i ∧ v = .int .i64 (V i : Nat)) (fun _ c => k + L - (intOf c).toNat)
  case atStart => exact ⟨k, Nat.le_refl _, by omega, rfl, by rw [HV.out]; rfl⟩
  case round =>
    obtain ⟨i, hi1, hi2, rfl, rfl⟩ := hrel
    by_cases hlt : i < k + L
    · have hlt' : i < s.size := by omega
      obtain ⟨x1, x2, x3⟩ := HE.out i hi1 hlt hlt'
      have x4 := HB.out i hi1 (by omega)
      have X3 : Hid (V (i + 1) = V i * 10 + (s[i].toNat - 48)) := x3
      clear x3
      go_wp2
      go_round
      case rel => exact ⟨i + 1, by omega, by omega, by go_num, congrArg (Value.int .i64) (by have := X3.out; omega)⟩
      case measure => simp [intOf]; omega
    · obtain rfl : i = k + L := by omega
      have z1 := HZ.out
      have q1 : (((k + L : Nat) : Int) == (k : Int)) = false := beq_eq_false_iff_ne.2 (by omega)
      rw [HU.out]
      by_cases hb : (s[k].toNat : Int) = 48
      · have hb' : ((s[k].toNat : Int) == 48) = true := beq_iff_eq.2 hb
        obtain rfl : L = 1 := by
          rcases H0.out with h | h
          · exact h
          · exact absurd hb h
        clear hb
        go_wp2
        go_ret3
        exact ⟨rfl, rfl⟩
      · have hb' : ((s[k].toNat : Int) == 48) = false := beq_eq_false_iff_ne.2 hb
        clear hb
        go_wp2
        go_ret3
        exact ⟨rfl, rfl⟩

/-- zzmb1ReadCount: a numeral of u stands in s from k on, and no digit behind it. -/
theorem readCount_yes (s : ByteArray) (ds : List UInt8) (u k : Nat) (w : World) (hs : s.size ≤ 100000) (hn : Num ds u) (hf : k + ds.length < s.size)
    (he : ∀ m (h : m < ds.length), s[k + m] = ds[m]) (hz : s[k + ds.length].toNat < 48) :
    Calls Tryf.prog 10 #[.string s, .int .i64 k] w fun e w' => e = .returned (.tuple #[.int .i64 u, .int .i64 ((k : Int) + ds.length), .bool true]) ∧ w' = w := by
  refine readCount_core s (fun i => decval (ds.take (i - k))) u k ds.length w hs hn.pos hn.short hf (by omega) (fun i h1 h2 h3 => ?_) (fun i h1 h2 => decval_take_le ds _ hn.digs (by have := hn.short; omega)) ?_ ?_ ?_ (by omega)
  · obtain ⟨m, rfl⟩ : ∃ m, i = k + m := ⟨i - k, by omega⟩
    have hm : m < ds.length := by omega
    have e := he m hm
    have hd := hn.digs ds[m] (List.getElem_mem hm)
    rw [e]
    refine ⟨by omega, by omega, ?_⟩
    show decval (ds.take (k + m + 1 - k)) = decval (ds.take (k + m - k)) * 10 + (ds[m].toNat - 48)
    rw [show k + m + 1 - k = m + 1 by omega, show k + m - k = m by omega, List.take_succ_eq_append_getElem hm, decval_snoc]
  · show decval (ds.take (k - k)) = 0
    rw [Nat.sub_self]
    rfl
  · show decval (ds.take (k + ds.length - k)) = u
    rw [Nat.add_sub_cancel_left, List.take_length]
    exact hn.val
  · by_cases h1 : 1 < ds.length
    · right
      have e : s[k] = ds[0] := by simpa using he 0 (by omega)
      rw [e]
      intro hh
      refine hn.lead h1 (by omega) (UInt8.toNat_inj.1 ?_)
      show ds[0].toNat = 48
      omega
    · left
      have := hn.pos
      omega
end Go.Proofs.Qxb6612696aFmt
