/- slices.BinarySearch at []int32, of a slice in strictly increasing order: the place where w belongs, and whether it stands there. The library's own text is walked. -/
import Derived.Test.Qxb6602305aRows
import Derived.Test.Qxb6602305aMath
import Derived.WalkKit
import Derived.Deep.LoopGhost
import Derived.Deep.Draws
import Derived.Lib.Walk
namespace Go.Proofs.Qxb6602305a
open Go.RowKit Go.Lib

set_option maxHeartbeats 1000000 in
theorem cmp_isNaN (x : Int) (w : World) : Calls Try.prog 36 #[.int .i32 x] w fun e w' => e = .returned (.bool false) ∧ w' = w := by
  go_enter Try.func36, Try.ntmps36
  go_wp2
  go_ret
  exact ⟨by simp, rfl⟩

set_option maxHeartbeats 1000000 in
theorem slices_isNaN (x : Int) (w : World) : Calls Try.prog 31 #[.int .i32 x] w fun e w' => e = .returned (.bool false) ∧ w' = w := by
  go_enter Try.func31, Try.ntmps31
  go_wp2
  go_ret
  exact ⟨by simp, rfl⟩

set_option maxHeartbeats 1000000 in
theorem cmp_Less (x y : Int) (w : World) : Calls Try.prog 30 #[.int .i32 x, .int .i32 y] w fun e w' => e = .returned (.bool (decide (x < y))) ∧ w' = w := by
  go_enter Try.func30, Try.ntmps30
  go_wp2_with (go_at_call 36; refine (cmp_isNaN _ _).mono ?_; rintro e w' ⟨rfl, rfl⟩)
  go_ret
  exact ⟨rfl, rfl⟩

set_option maxHeartbeats 4000000 in
set_option maxRecDepth 1000000 in
theorem search (b off n c : Nat) (ps : List Int) (x : Int) (w : World) (hz : ps.length = n) (hbig : n < 4611686018427387904)
    (hc : ∀ j, j < n → w.cell? ⟨b, off + j, none⟩ = some (.int .i32 (ps.getD j 0))) (hs : PM.Inc ps) :
    Calls Try.prog 27 #[.slice (some ⟨b, off, none⟩) n c, .int .i32 x] w fun e w' =>
      e = .returned (.tuple #[.int .i64 (PM.cnt ps x : Nat), .bool (PM.hitB ps x)]) ∧ ∃ q, w' = w.drewN q := by
  have S : Aside (∀ a b, a < b → b < n → ps.getD a 0 < ps.getD b 0) := fun a b h1 h2 => PM.inc_get hs h1 (by omega)
  have Z : Aside (ps.length = n) := hz
  clear hs hz
  go_enter Try.func27, Try.ntmps27
  go_wp2
  go_loopg [7, 8] n (fun g s7 s8 wr => ∃ lo hi q : Nat, s7 = .int .i64 lo ∧ s8 = .int .i64 hi ∧ lo ≤ hi ∧ hi ≤ n ∧ hi - lo ≤ g ∧ wr = w.drewN q ∧ (∀ t, t < lo → ps.getD t 0 < x) ∧ (∀ t, hi ≤ t → t < n → x ≤ ps.getD t 0))
  case atStart => exact ⟨0, n, 0, rfl, rfl, Nat.zero_le _, Nat.le_refl _, by omega, rfl, fun t ht => absurd ht (Nat.not_lt_zero _), fun t h1 h2 => by omega⟩
  case round =>
    obtain ⟨lo, hi, q, rfl, rfl, hlh, hin, hg, rfl, h1, h2⟩ := hrel
    have I : Aside ((∀ t, t < lo → ps.getD t 0 < x) ∧ (∀ t, hi ≤ t → t < n → x ≤ ps.getD t 0)) := ⟨h1, h2⟩
    clear h1 h2
    by_cases hlt : lo < hi
    · have cm : w.cell? ⟨b, off + (lo + hi) / 2, none⟩ = some (.int .i32 (ps.getD ((lo + hi) / 2) 0)) := hc _ (by omega)
      clear hc
      generalize hy : ps.getD ((lo + hi) / 2) 0 = y at cm
      have Y : Aside (ps.getD ((lo + hi) / 2) 0 = y) := hy
      clear hy
      by_cases hyx : y < x
      · go_wp2_with (first | (go_at_call 30; refine (cmp_Less _ _ _).mono ?_; rintro e w' ⟨rfl, rfl⟩) | (go_at_call 31; refine (slices_isNaN _ _).mono ?_; rintro e w' ⟨rfl, rfl⟩))
        go_roundg (hi - ((lo + hi) / 2 + 1))
        case measure => omega
        case rel =>
          refine ⟨(lo + hi) / 2 + 1, hi, _, by rw [show ((lo : Int) + (hi : Int)) / 2 + 1 = (((lo + hi) / 2 + 1 : Nat) : Int) by omega], rfl, by omega, hin, Nat.le_refl _, rfl, fun t ht => ?_, I.out.2⟩
          by_cases e : t = (lo + hi) / 2
          · rw [e, Y.out]; exact hyx
          · have := S.out t ((lo + hi) / 2) (by omega) (by omega)
            rw [Y.out] at this
            omega
      · go_wp2_with (first | (go_at_call 30; refine (cmp_Less _ _ _).mono ?_; rintro e w' ⟨rfl, rfl⟩) | (go_at_call 31; refine (slices_isNaN _ _).mono ?_; rintro e w' ⟨rfl, rfl⟩))
        go_roundg ((lo + hi) / 2 - lo)
        case measure => omega
        case rel =>
          refine ⟨lo, (lo + hi) / 2, _, rfl, by rw [show ((lo : Int) + (hi : Int)) / 2 = (((lo + hi) / 2 : Nat) : Int) by omega], by omega, by omega, Nat.le_refl _, rfl, I.out.1, fun t ht htn => ?_⟩
          by_cases e : t = (lo + hi) / 2
          · rw [e, Y.out]; omega
          · have := S.out ((lo + hi) / 2) t (by omega) htn
            rw [Y.out] at this
            omega
    · have : hi = lo := by omega
      subst this
      have e1 : PM.cnt ps x = hi := PM.cnt_eq x hi (by rw [Z.out]; exact hin) I.out.1 (fun h => I.out.2 hi (Nat.le_refl _) (by rw [Z.out] at h; exact h))
      have e2 : PM.hitB ps x = decide (hi < n ∧ ps.getD hi 0 = x) := by
        rw [Bool.eq_iff_iff, PM.hit_iff, e1, Z.out, decide_eq_true_eq]
      have E : Aside (PM.cnt ps x = hi ∧ PM.hitB ps x = decide (hi < n ∧ ps.getD hi 0 = x)) := ⟨e1, e2⟩
      clear e1 e2
      by_cases hn : hi < n
      · have cl : w.cell? ⟨b, off + hi, none⟩ = some (.int .i32 (ps.getD hi 0)) := hc _ (by omega)
        clear hc
        generalize hy : ps.getD hi 0 = y at cl
        have Y : Aside (ps.getD hi 0 = y) := hy
        clear hy
        by_cases hyx : y = x
        · go_wp2_with (first | (go_at_call 30; refine (cmp_Less _ _ _).mono ?_; rintro e w' ⟨rfl, rfl⟩) | (go_at_call 31; refine (slices_isNaN _ _).mono ?_; rintro e w' ⟨rfl, rfl⟩))
          go_ret2
          refine ⟨?_, _, rfl⟩
          rw [E.out.1, E.out.2, Y.out, decide_eq_true (show hi < n ∧ y = x from ⟨hn, hyx⟩)]
          first | rfl | simp [*]
        · go_wp2_with (first | (go_at_call 30; refine (cmp_Less _ _ _).mono ?_; rintro e w' ⟨rfl, rfl⟩) | (go_at_call 31; refine (slices_isNaN _ _).mono ?_; rintro e w' ⟨rfl, rfl⟩))
          go_ret2
          refine ⟨?_, _, rfl⟩
          rw [E.out.1, E.out.2, Y.out, decide_eq_false (show ¬ (hi < n ∧ y = x) from fun h => hyx h.2)]
          first | rfl | simp [*]
      · clear hc
        go_wp2_with (first | (go_at_call 30; refine (cmp_Less _ _ _).mono ?_; rintro e w' ⟨rfl, rfl⟩) | (go_at_call 31; refine (slices_isNaN _ _).mono ?_; rintro e w' ⟨rfl, rfl⟩))
        go_ret2
        refine ⟨?_, _, rfl⟩
        rw [E.out.1, E.out.2, decide_eq_false (show ¬ (hi < n ∧ ps.getD hi 0 = x) from fun h => hn h.1)]
        first | rfl | simp [*]

end Go.Proofs.Qxb6602305a
