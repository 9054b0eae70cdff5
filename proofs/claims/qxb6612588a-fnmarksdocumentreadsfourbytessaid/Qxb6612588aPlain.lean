/-
  THE PLAIN LAW: whether a document's mark stands at the head of a list of bytes; it hangs on the first four bytes alone. No Go in sight.
-/
import Derived.Lib.Strings
namespace Go.Proofs.Qxb6612588a

def blankB (c : Int) : Bool := c == 32 || (c == 9 || (c == 10 || (c == 13 || c == 0)))
def byteAt (l : List UInt8) (k : Nat) : Int := match l[k]? with
  | some c => (c.toNat : Int)
  | none => 0
def headB (l : List UInt8) : Bool := Lib.hasPrefix l [45, 45, 45] || Lib.hasPrefix l [46, 46, 46]
def mhB (l : List UInt8) : Bool := l == [45, 45, 45] || l == [46, 46, 46]
def markB (l : List UInt8) : Bool := headB l && blankB (byteAt l 3)

theorem byteAt_in {l : List UInt8} {k : Nat} (h : k < l.length) : byteAt l k = (l[k].toNat : Int) := by
  simp [byteAt, h]
theorem byteAt_out {l : List UInt8} {k : Nat} (h : l.length ≤ k) : byteAt l k = 0 := by
  simp [byteAt, h]
theorem byteAt_drop (l : List UInt8) (p k : Nat) : byteAt (l.drop p) k = byteAt l (p + k) := by
  simp [byteAt]

/-- The mark hangs on the first four bytes alone. -/
theorem markB_take (l : List UInt8) : markB (l.take 4) = markB l := by
  match l with
  | [] => rfl
  | [_] => rfl
  | [_, _] => rfl
  | [_, _, _] => rfl
  | a :: b :: c :: d :: r => simp [markB, headB, Lib.hasPrefix, byteAt, List.isPrefixOf]

theorem markB_append {l : List UInt8} (h : l.length = 4) (r : List UInt8) : markB (l ++ r) = markB l := by
  rw [← markB_take (l ++ r), List.take_append_of_le_length (by omega), List.take_of_length_le (by omega)]

/-- What the law itself reckons of the four bytes. -/
theorem markB_short {l : List UInt8} (h : l.length < 3) : markB l = false := by
  match l, h with
  | [], _ => rfl
  | [_], _ => simp [markB, headB, Lib.hasPrefix]
  | [_, _], _ => simp [markB, headB, Lib.hasPrefix]
theorem markB_three {l : List UInt8} (h : l.length = 3) : markB l = mhB (l.take 3) := by
  match l, h with
  | [a, b, c], _ =>
    have e : blankB (byteAt [a, b, c] 3) = true := rfl
    rw [markB, e, Bool.and_true, headB, mhB]
    simp only [Lib.hasPrefix, List.isPrefixOf, List.take, Bool.and_true]
    rw [Bool.eq_iff_iff]
    simp
    constructor <;> (intro h; rcases h with ⟨rfl, rfl, rfl⟩ | ⟨rfl, rfl, rfl⟩ <;> simp)
theorem markB_four {l : List UInt8} (h : l.length = 4) : markB l = (mhB (l.take 3) && blankB (byteAt l 3)) := by
  match l, h with
  | [a, b, c, d], _ =>
    rw [markB]
    congr 1
    rw [headB, mhB]
    simp only [Lib.hasPrefix, List.isPrefixOf, List.take, Bool.and_true]
    rw [Bool.eq_iff_iff]
    simp
    constructor <;> (intro h; rcases h with ⟨rfl, rfl, rfl⟩ | ⟨rfl, rfl, rfl⟩ <;> simp)
end Go.Proofs.Qxb6612588a
