/- The walk of FnPositionSetAddMatchesMerge. -/
import Derived.Test.Qxb6602305aAdd
import Derived.Test.Qxb6602305aMergeParts
import Derived.WalkKit
import Derived.Deep.QuietTactic
import Derived.BigQuiet
import Derived.WalkSpells
import Derived.WalkLawsBesides
set_option linter.unusedVariables false
namespace Go.Proofs.Qxb6602305a
open Go.RowKit Go.Lib

def fitsB (a b : Nat) : Bool := decide (a ≤ 1048576 ∧ a + b ≤ 1048576)

set_option maxHeartbeats 1600000 in
theorem bytes15 (a0 : Option Addr) (len0 cap0 : Nat) (a1 : Option Addr) (len1 cap1 : Nat) (i : Int) (w : World) (h0 : len0 ≤ 9223372036854775807) (h1 : len1 ≤ 9223372036854775807) :
    Calls Try.prog 15 #[.slice a0 len0 cap0, .slice a1 len1 cap1, .int .i64 i] w fun e w' => e = .returned (.bool (fitsB len0 len1)) ∧ w' = w := by
  by_cases c0 : len0 ≤ 1048576
  · by_cases c1 : len1 ≤ 1048576
    · by_cases c2 : len0 + len1 ≤ 1048576
      · have e : fitsB len0 len1 = true := decide_eq_true ⟨by omega, by omega⟩
        rw [e]
        go_enter Try.func15, Try.ntmps15
        go_wp2_with fail
        go_ret
        exact ⟨rfl, rfl⟩
      · have e : fitsB len0 len1 = false := decide_eq_false (by omega)
        rw [e]
        go_enter Try.func15, Try.ntmps15
        go_wp2_with fail
        go_ret
        exact ⟨rfl, rfl⟩
    · have e : fitsB len0 len1 = false := decide_eq_false (by omega)
      rw [e]
      go_enter Try.func15, Try.ntmps15
      go_wp2_with fail
      go_ret
      exact ⟨rfl, rfl⟩
  · have e : fitsB len0 len1 = false := decide_eq_false (by omega)
    rw [e]
    go_enter Try.func15, Try.ntmps15
    go_wp2_with fail
    go_ret
    exact ⟨rfl, rfl⟩

set_option maxHeartbeats 1600000 in
set_option maxRecDepth 100000 in
/-- The ways that return at once. -/
theorem early (a0 : Option Addr) (len0 cap0 : Nat) (a1 : Option Addr) (len1 cap1 : Nat) (i : Int) (w : World) (h0 : len0 ≤ 9223372036854775807) (h1 : len1 ≤ 9223372036854775807)
    (h : ¬ (len0 ≤ 65536 ∧ len0 = len1 ∧ 0 ≤ i ∧ i / 64 ≤ 2147483647)) :
    Calls Try.prog 6 #[.slice a0 len0 cap0, .slice a1 len1 cap1, .int .i64 i] w fun e w' => e = .returned (.bool true) ∧ Below w.heap.size w w' := by
  cases hf : fitsB len0 len1 with
  | false =>
    have C := fun w => bytes15 a0 len0 cap0 a1 len1 cap1 i w h0 h1
    rw [hf] at C
    have HC : Hid (∀ w, Calls Try.prog 15 #[.slice a0 len0 cap0, .slice a1 len1 cap1, .int .i64 i] w fun e w' => e = .returned (.bool false) ∧ w' = w) := C
    clear C hf
    go_enter Try.func6, Try.ntmps6
    go_wp2_with (go_at_call 15; refine (HC.out _).mono ?_; rintro e w' ⟨rfl, rfl⟩)
    go_ret
    exact ⟨rfl, Below.refl _ _⟩
  | true =>
    have C := fun w => bytes15 a0 len0 cap0 a1 len1 cap1 i w h0 h1
    rw [hf] at C
    have HC : Hid (∀ w, Calls Try.prog 15 #[.slice a0 len0 cap0, .slice a1 len1 cap1, .int .i64 i] w fun e w' => e = .returned (.bool true) ∧ w' = w) := C
    have hb : len0 + len1 ≤ 1048576 := (of_decide_eq_true hf).2
    clear C hf
    by_cases c0 : len0 ≤ 65536
    · by_cases c1 : len1 ≤ 65536
      · by_cases c2 : 0 ≤ i
        · by_cases c3 : i / 64 ≤ 2147483647
          · have c4 : ((len0 : Int) != (len1 : Int)) = true := by rw [bne_iff_ne]; omega
            go_enter Try.func6, Try.ntmps6
            go_wp2_with (go_at_call 15; refine (HC.out _).mono ?_; rintro e w' ⟨rfl, rfl⟩)
            go_ret
            exact ⟨rfl, Below.refl _ _⟩
          · go_enter Try.func6, Try.ntmps6
            go_wp2_with (go_at_call 15; refine (HC.out _).mono ?_; rintro e w' ⟨rfl, rfl⟩)
            go_ret
            exact ⟨rfl, Below.refl _ _⟩
        · go_enter Try.func6, Try.ntmps6
          go_wp2_with (go_at_call 15; refine (HC.out _).mono ?_; rintro e w' ⟨rfl, rfl⟩)
          go_ret
          exact ⟨rfl, Below.refl _ _⟩
      · go_enter Try.func6, Try.ntmps6
        go_wp2_with (go_at_call 15; refine (HC.out _).mono ?_; rintro e w' ⟨rfl, rfl⟩)
        go_ret
        exact ⟨rfl, Below.refl _ _⟩
    · go_enter Try.func6, Try.ntmps6
      go_wp2_with (go_at_call 15; refine (HC.out _).mono ?_; rintro e w' ⟨rfl, rfl⟩)
      go_ret
      exact ⟨rfl, Below.refl _ _⟩
end Go.Proofs.Qxb6602305a
