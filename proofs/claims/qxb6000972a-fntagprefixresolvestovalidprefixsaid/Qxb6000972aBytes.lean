/-
  THE WALKS OF THE FUNCTIONS ON ONE BYTE: isWordChar (27), isFlowIndicator (26), zzIsFlowByte (22), zzIsURIByte (23).
-/
import Derived.Test.Qxb6000972aProg
import Derived.WalkKit
import Derived.WalkSpells
import Derived.WalkLawsBesides
namespace Go.Proofs.Qxb6000972a
open Go.RowKit

/-! ### The plain functions -/
def wordB (n : Int) : Bool := decide ((48 ≤ n ∧ n ≤ 57) ∨ (97 ≤ n ∧ n ≤ 122) ∨ (65 ≤ n ∧ n ≤ 90) ∨ n = 45)
def flowB (n : Int) : Bool := decide (n = 44 ∨ n = 91 ∨ n = 93 ∨ n = 123 ∨ n = 125)
def listB (n : Int) : Bool := decide (n = 45 ∨ n = 37 ∨ n = 35 ∨ n = 59 ∨ n = 47 ∨ n = 63 ∨ n = 58 ∨ n = 64 ∨ n = 38 ∨ n = 61 ∨ n = 43 ∨ n = 36 ∨ n = 44 ∨ n = 95 ∨ n = 46 ∨ n = 33 ∨ n = 126 ∨ n = 42 ∨ n = 39 ∨ n = 40 ∨ n = 41 ∨ n = 91 ∨ n = 93)
def alnumB (n : Int) : Bool := decide ((48 ≤ n ∧ n ≤ 57) ∨ (97 ≤ n ∧ n ≤ 122) ∨ (65 ≤ n ∧ n ≤ 90))
def uriB (n : Int) : Bool := alnumB n || listB n

theorem ret_bool {a b : Bool} (h : a = b) : Ending.returned (.bool a) = .returned (.bool b) := by rw [h]

set_option maxHeartbeats 400000 in
theorem word_any (n : Int) (w : World) :
    Calls Try.prog 27 #[.int .u8 n] w fun e w' => e = .returned (.bool (wordB n)) ∧ w' = w := by
  go_enter Try.func27, Try.ntmps27
  go_wp2
  all_goals
    go_ret
    refine ⟨ret_bool ?_, rfl⟩
    unfold wordB
    rw [Bool.eq_iff_iff]
    simp
    omega

set_option maxHeartbeats 400000 in
theorem flow_any (n : Int) (w : World) :
    Calls Try.prog 26 #[.int .u8 n] w fun e w' => e = .returned (.bool (flowB n)) ∧ w' = w := by
  go_enter Try.func26, Try.ntmps26
  go_wp2
  all_goals
    go_ret
    refine ⟨ret_bool ?_, rfl⟩
    unfold flowB
    rw [Bool.eq_iff_iff]
    simp
    omega

set_option maxHeartbeats 400000 in
theorem zflow_any (n : Int) (w : World) :
    Calls Try.prog 22 #[.int .u8 n] w fun e w' => e = .returned (.bool (flowB n)) ∧ w' = w := by
  go_enter Try.func22, Try.ntmps22
  go_wp2
  all_goals
    go_ret
    refine ⟨ret_bool ?_, rfl⟩
    unfold flowB
    rw [Bool.eq_iff_iff]
    simp_all

set_option maxHeartbeats 1000000 in
theorem zuri_any (n : Int) (w : World) :
    Calls Try.prog 23 #[.int .u8 n] w fun e w' => e = .returned (.bool (uriB n)) ∧ w' = w := by
  go_enter Try.func23, Try.ntmps23
  go_wp2
  all_goals
    go_ret
    refine ⟨ret_bool ?_, rfl⟩
    unfold uriB alnumB listB
    rw [Bool.eq_iff_iff]
    simp only [beq_iff_eq, beq_eq_false_iff_ne, ne_eq] at *
    simp
    omega

end Go.Proofs.Qxb6000972a
