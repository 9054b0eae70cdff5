/-
  (*standbys).makesNoChange: the text; fmt.Sprintf at whatever F.
-/
import Derived.Test.Qxb6612696aFmtMem
import Derived.Stop.CallBack
import Derived.Stop.IfaceNil
import Derived.RegionTactic
import Derived.Deep.RegionWith
import Derived.Stop.JoinedTold
import Derived.Stop.FmtTextKit
import Derived.Stop.Texts
namespace Go.Proofs.Qxb6612696aFmt
open Go.RowKit Go.Kit Go.Extern.Stop Go.Stop Go.Extern

theorem callSprintf (args : Array Value) (w : World) : (callFunc 12 args).run Tryf.prog w = ((FmtStop.sprintf #[9, 82] #[9] args).run Tryf.prog w).andThen fun v w' => .ok (.value v) w' :=
  run_callFunc_extern Tryf.func12 (by kernel_rfl) (by kernel_rfl) (by kernel_rfl) (by kernel_rfl) args w
theorem fmtGuard (name : String) (w : World) : (FmtStop.guard name).run Tryf.prog w = .ok () w := by kernel_rfl
def shape3 : List UInt8 := [5, 3, 0, 0, 0, 0, 0, 0, 0, 105, 110, 116]
theorem op3 (name : String) (x : Int) (w : World) : (FmtStop.operand name false 100 false (.iface 3 (.int .i64 x))).run Tryf.prog w = .ok (shape3, Go.Extern.Stop.digits 8 (x % 2 ^ 64).toNat) w := by kernel_rfl
theorem strict3 (name : String) (x : Int) (w : World) : (FmtStop.strict name (.iface 3 (.int .i64 x))).run Tryf.prog w = .ok (shape3, Go.Extern.Stop.digits 8 (x % 2 ^ 64).toNat) w := by kernel_rfl

set_option maxHeartbeats 400000 in
theorem says_eq (b n : Nat) (w : World) (h : IsStand w b n n) :
    Calls Tryf.prog 11 #[.pointer (some ⟨b, 0, none⟩)] w fun e w' => e = .returned (.string ⟨#[116, 104, 101, 32, 109, 97, 115, 116, 101, 114, 32, 109, 97, 107, 101, 115, 32, 110, 111, 32, 99, 104, 97, 110, 103, 101, 32, 117, 110, 116, 105, 108, 32, 105, 116, 32, 102, 111, 108, 108, 111, 119, 115]⟩) ∧ Below w.heap.size w w' := by
  obtain ⟨⟨g, h1⟩, h2⟩ := h
  have hnn : ((n : Int) == (n : Int)) = true := by simp
  go_enter Tryf.func11, Tryf.ntmps11
  go_wp2
  go_quiet (fail)
  go_wp2
  go_ret
  exact ⟨rfl, below_drewN' _ _ _⟩

/-- The format. -/
def fmtBytes : List UInt8 := [116, 104, 101, 32, 109, 97, 115, 116, 101, 114, 32, 109, 97, 107, 101, 115, 32, 110, 111, 32, 99, 104, 97, 110, 103, 101, 32, 119, 104, 105, 108, 101, 32, 102, 101, 119, 101, 114, 32, 116, 104, 97, 110, 32, 37, 100, 32, 111, 102, 32, 105, 116, 115, 32, 37, 100, 32, 115, 116, 97, 110, 100, 98, 121, 115, 32, 102, 111, 108, 108, 111, 119, 32, 105, 116]
theorem printed2 : FmtStop.printed? ⟨#[116, 104, 101, 32, 109, 97, 115, 116, 101, 114, 32, 109, 97, 107, 101, 115, 32, 110, 111, 32, 99, 104, 97, 110, 103, 101, 32, 119, 104, 105, 108, 101, 32, 102, 101, 119, 101, 114, 32, 116, 104, 97, 110, 32, 37, 100, 32, 111, 102, 32, 105, 116, 115, 32, 37, 100, 32, 115, 116, 97, 110, 100, 98, 121, 115, 32, 102, 111, 108, 108, 111, 119, 32, 105, 116]⟩ 2 = some [(0, 100, false), (1, 100, false)] := by kernel_rfl
/-- What fmt is asked. -/
def reading (need : Int) (n : Nat) : List (List UInt8) := [fmtBytes, shape3, digits 8 (need % 18446744073709551616).toNat, shape3, digits 8 (n % 18446744073709551616)]

def preB : List UInt8 := [116, 104, 101, 32, 109, 97, 115, 116, 101, 114, 32, 109, 97, 107, 101, 115, 32, 110, 111, 32, 99, 104, 97, 110, 103, 101, 32, 119, 104, 105, 108, 101, 32, 102, 101, 119, 101, 114, 32, 116, 104, 97, 110, 32]
def midB : List UInt8 := [32, 111, 102, 32, 105, 116, 115, 32]
def tailB : List UInt8 := [32, 115, 116, 97, 110, 100, 98, 121, 115, 32, 102, 111, 108, 108, 111, 119, 32, 105, 116]
/-- The text. -/
def noChange (need n : Nat) : List UInt8 := preB ++ (Lib.decDigits need ++ (midB ++ (Lib.decDigits n ++ tailB)))

theorem t_parse : (FmtText.parse fmtBytes).map FmtText.glue = some [.lit preB, .verb {} 100, .lit midB, .verb {} 100, .lit tailB] := by rfl

theorem wf_small (a : Nat) (h : a ≤ 65536) : (Lit.int .i64 (a : Int)).wf = true := by
  have e : wrap64 (a : Int) = (a : Int) := by unfold wrap64; omega
  rw [← e]
  exact wrap64_wf _

theorem t_text (a n : Nat) (ha : a ≤ 65536) (hn : n ≤ 65536) : FmtText.text "fmt.Sprintf" (reading a n) = some (noChange a n) := by
  have h1 := FmtText.operand_int_at (sh := shape3) (k := .i64) rfl rfl (a : Int) (wf_small a ha)
  have h2 := FmtText.operand_int_at (sh := shape3) (k := .i64) rfl rfl (n : Int) (wf_small n hn)
  have e : n % 18446744073709551616 = ((n : Int) % 18446744073709551616).toNat := by omega
  rw [reading, e, FmtText.text_sprintf_glued t_parse (FmtText.operands_cons h1 (FmtText.operands_cons h2 FmtText.operands_nil))]
  simp [FmtText.render, FmtText.printArg_d _ _ (wf_small a ha), FmtText.printArg_d _ _ (wf_small n hn), noChange, Lib.itoa_nonneg]

theorem noChange_length (a n : Nat) (ha : a ≤ 65536) (hn : n ≤ 65536) : (noChange a n).length ≤ 100 := by
  have h1 := (num_dec a ha).short
  have h2 := (num_dec n hn).short
  simp only [noChange, List.length_append]
  simp only [preB, midB, tailB, List.length]
  omega

set_option maxHeartbeats 400000 in
theorem says_lt (F : Interp) (b n : Nat) (need : Int) (w : World) (hF : F.answers w.tape) (h : IsStand w b n need) (hne : need ≠ n) :
    Calls Tryf.prog 11 #[.pointer (some ⟨b, 0, none⟩)] w fun e w' => e = .returned (.string (FmtStop.textOf (F "fmt.Sprintf" (reading need n) 0))) ∧ Below w.heap.size w w' := by
  obtain ⟨⟨g, h1⟩, h2⟩ := h
  have hnn : (need == (n : Int)) = false := beq_eq_false_iff_ne.2 hne
  go_enter Tryf.func11, Tryf.ntmps11
  go_wp2
  go_quiet (fail)
  have q1 : (w.drewN nq).cell? ⟨b, 2, none⟩ = some (.slice (some ⟨g, 0, none⟩) n n) := h1
  have q2 : (w.drewN nq).cell? ⟨b, 3, none⟩ = some (.int .i64 need) := h2
  have hF1 : F.answers (w.drewN nq).tape := hF
  have hb1 : Below w.heap.size w (w.drewN nq) := below_drewN' _ _ _
  generalize w.drewN nq = w1 at *
  clear h1 h2 hF
  have hF' := answers_open hF1
  have c1 := callSprintf
  have c2 := fmtGuard
  have c3 := op3
  have c4 := strict3
  have c5 := printed2
  go_wp2
  go_region
  go_wp2
  go_ret
  exact ⟨rfl, (((hb1.alloc hb1.size _).drew).drew)⟩

/-- .. and fmt's text is told. -/
theorem says_told (F : Interp) (b n a : Nat) (w : World) (hF : F.told.answers w.tape) (h : IsStand w b n a) (hne : a ≠ n) (ha : a ≤ 65536) (hn : n ≤ 65536) :
    Calls Tryf.prog 11 #[.pointer (some ⟨b, 0, none⟩)] w fun e w' => (∃ s : ByteArray, e = .returned (.string s) ∧ s.data.toList = noChange a n) ∧ Below w.heap.size w w' := by
  refine (says_lt F.told b n a w hF h (by omega)).mono fun e w' ⟨he, hb⟩ => ⟨⟨_, he, ?_⟩, hb⟩
  have hl := noChange_length a n ha hn
  rw [textOf_list, told_string F (t_text a n ha hn) (by omega)]
end Go.Proofs.Qxb6612696aFmt
