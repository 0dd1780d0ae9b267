/- Contracts of stringField, ZZStringField and memberClass. -/
import Derived.Test.Qxb6602349aRows
import Derived.WalkKit
import Derived.WalkSpells
import Derived.WalkLawsBesides
import Derived.Laws.Pointers
import Derived.LaidEqlPtr
import Derived.Laws.Rows
set_option linter.unusedVariables false
namespace Go.Proofs.Qxb6602349a
open Go.RowKit

/-- which of the six string fields a member's number names -/
def cl (m : Int) : Nat := if m = 0 then 0 else if m = 1 then 1 else if m = 2 then 2 else if m = 3 then 3 else if m = 4 then 4 else 5

theorem cases6 (m : Int) : m = 0 ∨ m = 1 ∨ m = 2 ∨ m = 3 ∨ m = 4 ∨ (m < 0 ∨ 4 < m) := by omega

set_option maxHeartbeats 800000 in
theorem memberClass_any (m : Int) (w : World) : Calls Try.prog 22 #[.int .i64 m] w fun e w' => e = .returned (.int .i64 (cl m : Nat)) ∧ w = w' := by
  rcases cases6 m with rfl | rfl | rfl | rfl | rfl | h
  · go_enter Try.func22, Try.ntmps22
    go_wp2
    go_ret
    exact ⟨rfl, rfl⟩
  · go_enter Try.func22, Try.ntmps22
    go_wp2
    go_ret
    exact ⟨rfl, rfl⟩
  · go_enter Try.func22, Try.ntmps22
    go_wp2
    go_ret
    exact ⟨rfl, rfl⟩
  · go_enter Try.func22, Try.ntmps22
    go_wp2
    go_ret
    exact ⟨rfl, rfl⟩
  · go_enter Try.func22, Try.ntmps22
    go_wp2
    go_ret
    exact ⟨rfl, rfl⟩
  · have e : cl m = 5 := by unfold cl; repeat (first | rfl | rw [if_neg (by omega)])
    rw [e]
    rcases h with h | h
    · go_enter Try.func22, Try.ntmps22
      go_wp2
      go_ret
      exact ⟨rfl, rfl⟩
    · go_enter Try.func22, Try.ntmps22
      go_wp2
      go_ret
      exact ⟨rfl, rfl⟩

set_option maxHeartbeats 800000 in
theorem stringField_any (b : Nat) (m : Int) (w : World) : Calls Try.prog 27 #[.pointer (some ⟨b, 0, none⟩), .int .i64 m] w fun e w' => e = .returned (.pointer (some ⟨b, cl m + 1, none⟩)) ∧ w = w' := by
  rcases cases6 m with rfl | rfl | rfl | rfl | rfl | h
  · go_enter Try.func27, Try.ntmps27
    go_wp2
    go_ret
    exact ⟨rfl, rfl⟩
  · go_enter Try.func27, Try.ntmps27
    go_wp2
    go_ret
    exact ⟨rfl, rfl⟩
  · go_enter Try.func27, Try.ntmps27
    go_wp2
    go_ret
    exact ⟨rfl, rfl⟩
  · go_enter Try.func27, Try.ntmps27
    go_wp2
    go_ret
    exact ⟨rfl, rfl⟩
  · go_enter Try.func27, Try.ntmps27
    go_wp2
    go_ret
    exact ⟨rfl, rfl⟩
  · have e : cl m = 5 := by unfold cl; repeat (first | rfl | rw [if_neg (by omega)])
    rw [e]
    have h0 : (m == 0) = false := beq_eq_false_iff_ne.2 (by omega)
    have h1 : (m == 1) = false := beq_eq_false_iff_ne.2 (by omega)
    have h2 : (m == 2) = false := beq_eq_false_iff_ne.2 (by omega)
    have h3 : (m == 3) = false := beq_eq_false_iff_ne.2 (by omega)
    have h4 : (m == 4) = false := beq_eq_false_iff_ne.2 (by omega)
    clear h
    go_enter Try.func27, Try.ntmps27
    go_wp2
    go_ret
    exact ⟨rfl, rfl⟩

set_option maxHeartbeats 800000 in
theorem zz_any (b : Nat) (m : Int) (w : World) : Calls Try.prog 21 #[.pointer (some ⟨b, 0, none⟩), .int .i64 m] w fun e w' => e = .returned (.pointer (some ⟨b, cl m + 1, none⟩)) ∧ w = w' := by
  go_enter Try.func21, Try.ntmps21
  go_wp2_with (go_at_call 27; refine (stringField_any b m _).mono ?_; rintro e w' ⟨rfl, rfl⟩)
  go_ret
  exact ⟨rfl, rfl⟩

theorem info9 : (Try.prog.info? 9).map (·.size) = some 1 := by kernel_rfl
/-- two fields of one struct: equal just when they are the same -/
theorem ptr_eql (w : World) (cs : Array Value) (x y : Nat) :
    (binOp .eql 34 (.pointer (some ⟨w.heap.size, x, none⟩)) (.pointer (some ⟨w.heap.size, y, none⟩))).run Try.prog (w.alloc (.cells cs 33)) = .ok (.bool (decide (x = y))) (w.alloc (.cells cs 33)) := by
  obtain ⟨j, hj, hs⟩ := Option.map_eq_some_iff.1 info9
  by_cases h : x = y
  · subst h
    rw [decide_eq_true rfl]
    exact run_eql_ptr_same _ _ Try.underlying34 hj
  · rw [decide_eq_false h]
    have hb := heap_alloc_new w (.cells cs 33)
    exact run_eql_ptr_other _ Try.underlying34 hj (by omega) (fun e => h (by injection e)) hb hb
end Go.Proofs.Qxb6602349a
