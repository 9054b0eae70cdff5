/-
  THE PLAIN LAW: what a decimal numeral reads back as; the two texts, taken apart. No Go in sight.
-/
import Derived.Lib.ItoaMem
namespace Go.Proofs.Qxb6612696aFmt

/-- What 'v = v*10 + int(c-'0')' gathers. -/
def decval (l : List UInt8) : Nat := l.foldl (fun v c => v * 10 + (c.toNat - 48)) 0
theorem decval_snoc (l : List UInt8) (c : UInt8) : decval (l ++ [c]) = decval l * 10 + (c.toNat - 48) := by
  simp [decval, List.foldl_append]

/-- A numeral of u as the law's reader takes it: digits alone, one to nine of them, no leading zero. -/
structure Num (ds : List UInt8) (u : Nat) : Prop where
  digs : ∀ c ∈ ds, 48 ≤ c.toNat ∧ c.toNat ≤ 57
  val : decval ds = u
  pos : 1 ≤ ds.length
  short : ds.length ≤ 9
  lead : 1 < ds.length → ∀ h : 0 < ds.length, ds[0] ≠ 48

theorem digit_toNat (d : Nat) (h : d < 10) : (UInt8.ofNat (48 + d)).toNat = 48 + d := by
  rw [UInt8.toNat_ofNat']
  omega

theorem dec_small {u : Nat} (h : u < 10) : Lib.decDigits u = [UInt8.ofNat (48 + u)] := by rw [Lib.decDigits, dif_pos h]
theorem dec_big {u : Nat} (h : ¬ u < 10) : Lib.decDigits u = Lib.decDigits (u / 10) ++ [UInt8.ofNat (48 + u % 10)] := by rw [Lib.decDigits, dif_neg h]

theorem dec_digs (u : Nat) : ∀ c ∈ Lib.decDigits u, 48 ≤ c.toNat ∧ c.toNat ≤ 57 := by
  induction u using Nat.strongRecOn with
  | _ u ih =>
    by_cases h : u < 10
    · rw [dec_small h]
      intro c hc
      obtain rfl : c = UInt8.ofNat (48 + u) := by simpa using hc
      rw [digit_toNat u h]
      omega
    · rw [dec_big h]
      intro c hc
      rcases List.mem_append.1 hc with hc | hc
      · exact ih (u / 10) (by omega) c hc
      · obtain rfl : c = UInt8.ofNat (48 + u % 10) := by simpa using hc
        rw [digit_toNat _ (by omega)]
        omega

theorem dec_val (u : Nat) : decval (Lib.decDigits u) = u := by
  induction u using Nat.strongRecOn with
  | _ u ih =>
    by_cases h : u < 10
    · rw [dec_small h]
      simp only [decval, List.foldl]
      rw [digit_toNat u h]
      omega
    · rw [dec_big h, decval_snoc, ih (u / 10) (by omega), digit_toNat _ (by omega)]
      omega

theorem dec_pos (u : Nat) : 1 ≤ (Lib.decDigits u).length := by
  by_cases h : u < 10
  · rw [dec_small h]; simp
  · rw [dec_big h]; simp

theorem dec_len : ∀ (k u : Nat), u < 10 ^ (k + 1) → (Lib.decDigits u).length ≤ k + 1
  | 0, u, h => by rw [dec_small (by simpa using h)]; simp
  | k + 1, u, h => by
    by_cases h' : u < 10
    · rw [dec_small h']; simp
    · rw [dec_big h', List.length_append]
      have := dec_len k (u / 10) (by rw [Nat.pow_succ] at h; omega)
      simpa using this

theorem dec_lead (u : Nat) (hu : 1 ≤ u) : ∀ h : 0 < (Lib.decDigits u).length, ((Lib.decDigits u)[0]).toNat ≠ 48 := by
  induction u using Nat.strongRecOn with
  | _ u ih =>
    by_cases h : u < 10
    · intro hl
      have e : (Lib.decDigits u)[0] = UInt8.ofNat (48 + u) := by simp [dec_small h]
      rw [e, digit_toNat u h]
      omega
    · intro hl
      have hp := dec_pos (u / 10)
      have e : (Lib.decDigits u)[0] = (Lib.decDigits (u / 10))[0] := by simp [dec_big h, List.getElem_append_left hp]
      rw [e]
      exact ih (u / 10) (by omega) (by omega) hp

theorem num_dec (u : Nat) (hu : u ≤ 65536) : Num (Lib.decDigits u) u where
  digs := dec_digs u
  val := dec_val u
  pos := dec_pos u
  short := by have := dec_len 8 u (by omega); omega
  lead := fun h1 h0 hz => by
    by_cases h : u < 10
    · rw [dec_small h] at h1; simp at h1
    · exact dec_lead u (by omega) h0 (by rw [hz]; rfl)

/-- Part of a numeral is no greater than ten digits. -/
theorem decval_le (l : List UInt8) (h : ∀ c ∈ l, 48 ≤ c.toNat ∧ c.toNat ≤ 57) : decval l < 10 ^ l.length := by
  suffices H : ∀ (l : List UInt8) (v k : Nat), (∀ c ∈ l, 48 ≤ c.toNat ∧ c.toNat ≤ 57) → v < 10 ^ k → l.foldl (fun v c => v * 10 + (c.toNat - 48)) v < 10 ^ (k + l.length) by
    have := H l 0 0 h (by decide)
    simpa [decval] using this
  intro l
  induction l with
  | nil => intro v k _ hv; simpa using hv
  | cons c l ih =>
    intro v k hl hv
    have hc := hl c (by simp)
    have := ih (v * 10 + (c.toNat - 48)) (k + 1) (fun x hx => hl x (by simp [hx])) (by rw [Nat.pow_succ]; omega)
    simp only [List.foldl_cons, List.length_cons]
    rwa [show k + (l.length + 1) = k + 1 + l.length by omega]

theorem decval_take_le (ds : List UInt8) (m : Nat) (h : ∀ c ∈ ds, 48 ≤ c.toNat ∧ c.toNat ≤ 57) (hm : m ≤ 9) : decval (ds.take m) < 1000000000 := by
  have h1 := decval_le (ds.take m) (fun c hc => h c (List.mem_of_mem_take hc))
  have h2 : (ds.take m).length ≤ 9 := by rw [List.length_take]; omega
  have h3 : 10 ^ (ds.take m).length ≤ 10 ^ 9 := Nat.pow_le_pow_right (by decide) h2
  omega
end Go.Proofs.Qxb6612696aFmt
