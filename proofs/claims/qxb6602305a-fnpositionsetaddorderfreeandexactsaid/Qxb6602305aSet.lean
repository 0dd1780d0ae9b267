/- Contracts of onesIn, positionIn and zzBytes for the second law. -/
import Derived.Test.Qxb6602305aSetMath
import Derived.Test.Qxb6602305aAdd
import Derived.Test.Qxb6602305aMergeParts
import Derived.WalkKit
import Derived.WalkSpells
import Derived.WalkLawsBesides
import Derived.Laws.BitsAllLaws
set_option linter.unusedVariables false
namespace Go.Proofs.Qxb6602305a
open Go.RowKit Go.Lib

set_option maxHeartbeats 800000 in
theorem ones_pf (pf : Nat → Nat) (f0 : Hid (pf 0 = 0)) (f1 : Hid (∀ x, 0 < x → x < 18446744073709551616 → pf (x &&& (x - 1)) + 1 = pf x)) (f2 : Hid (∀ x, pf x ≤ 64)) (v : Nat) (w : World) (hv : v < 18446744073709551616) :
    Calls Try.prog 22 #[.int .u64 (v : Int)] w fun e w' => e = .returned (.int .i64 (pf v : Nat)) ∧ w = w' := by
  go_enter Try.func22, Try.ntmps22
  go_wp2_with fail
  go_loop [0, 3] (fun t0 t3 => ∃ x c : Nat, x < 18446744073709551616 ∧ t0 = .int .u64 x ∧ t3 = .int .i64 c ∧ Hid (c + pf x = pf v) ∧ c ≤ 64) (fun t _ => pf (RowKit.intOf t).toNat)
  case atStart => exact ⟨v, 0, hv, rfl, rfl, Nat.zero_add _, by omega⟩
  case round =>
    obtain ⟨x, c, hx, rfl, rfl, HC, hc⟩ := hrel
    by_cases h0 : x = 0
    · subst h0
      have h1 := HC.out
      rw [f0.out, Nat.add_zero] at h1
      have H1 : Hid ((c : Int) = (pf v : Int)) := by show (c : Int) = (pf v : Int); rw [h1]
      clear HC h1
      go_wp2_with fail
      go_ret
      exact ⟨by rw [← H1.out]; rfl, rfl⟩
    · have b0 : ((x : Int) != 0) = true := by rw [bne_iff_ne]; omega
      have hand : bits BinOp.and .u64 (x : Int) ((x : Int) - 1) = ((x &&& (x - 1) : Nat) : Int) := by
        have := u64_and_nat x (x - 1) (by omega) (by omega)
        rw [show ((x : Int) - 1) = ((x - 1 : Nat) : Int) by omega]
        exact this
      have hp : Hid (pf (x &&& (x - 1)) + 1 = pf x) := f1.out x (by omega) hx
      have hx2 : x &&& (x - 1) ≤ x := Nat.and_le_left
      have hx1 : (1 : Int) ≤ (x : Int) := by omega
      have hc2 : c ≤ 63 := by
        have a1 := HC.out
        have a2 := hp.out
        have a3 := f2.out v
        omega
      obtain ⟨y, hy⟩ : ∃ y, y = x &&& (x - 1) := ⟨_, rfl⟩
      rw [← hy] at hand hp hx2
      clear hy
      go_wp2_with fail
      go_round
      case rel => exact ⟨y, c + 1, by omega, rfl, by go_num, by have a1 := HC.out; have a2 := hp.out; show c + 1 + pf y = pf v; omega, by omega⟩
      case measure =>
        have a2 := hp.out
        simp [RowKit.intOf]
        omega

theorem ones (v : Nat) (w : World) (hv : v < 18446744073709551616) : Calls Try.prog 22 #[.int .u64 (v : Int)] w fun e w' => e = .returned (.int .i64 (PM.pop 64 v : Nat)) ∧ w = w' :=
  ones_pf (PM.pop 64) (PM.pop_zero 64) (fun x h0 h1 => PM.pop_clear 64 x h0 (Nat.lt_of_lt_of_eq h1 (by decide))) (fun x => PM.pop_le 64 x) v w hv

theorem test_bit (v : Nat) (r : Int) (hv : v < 18446744073709551616) (h0 : 0 ≤ r) : (bits BinOp.and .u64 ((v : Int) / 2 ^ r.toNat) 1 == 1) = v.testBit r.toNat := by
  have e : ((v : Int) / 2 ^ r.toNat) = ((v / 2 ^ r.toNat : Nat) : Int) := by simp
  have h1 : v / 2 ^ r.toNat < 18446744073709551616 := Nat.lt_of_le_of_lt (Nat.div_le_self _ _) hv
  have h2 := u64_and_nat (v / 2 ^ r.toNat) 1 h1 (by decide)
  rw [e]
  have h3 : bits BinOp.and .u64 ((v / 2 ^ r.toNat : Nat) : Int) 1 = ((v / 2 ^ r.toNat &&& 1 : Nat) : Int) := by simpa using h2
  rw [h3, Nat.and_one_is_mod, Nat.testBit_eq_decide_div_mod_eq, Bool.eq_iff_iff, beq_iff_eq, decide_eq_true_eq]
  omega

def fits1 (a : Nat) : Bool := decide (a ≤ 1048576)
set_option maxHeartbeats 800000 in
theorem bytes19 (a : Option Addr) (len cap : Nat) (w : World) (h : len ≤ 1048576) : Calls Try.prog 19 #[.slice a len cap] w fun e w' => e = .returned (.bool true) ∧ w = w' := by
  go_enter Try.func19, Try.ntmps19
  go_wp2_with fail
  go_ret
  exact ⟨rfl, rfl⟩
set_option maxHeartbeats 800000 in
theorem bytes19n (a : Option Addr) (len cap : Nat) (w : World) (h : ¬ len ≤ 1048576) (hm : len ≤ 9223372036854775807) : Calls Try.prog 19 #[.slice a len cap] w fun e w' => e = .returned (.bool false) ∧ w = w' := by
  go_enter Try.func19, Try.ntmps19
  go_wp2_with fail
  go_ret
  exact ⟨rfl, rfl⟩

set_option maxHeartbeats 800000 in
theorem posIn (g1 g2 L c1 c2 : Nat) (ps : List Int) (W : List Nat) (x q r : Int) (w : World) (hL : L ≤ 65536) (hpl : Hid (ps.length = L)) (hg : Hid (PM.Good ps W))
    (hx : 0 ≤ x) (hq : x / 64 = q) (hr : bits BinOp.and .i64 x 63 = r) (hq0 : 0 ≤ q) (hq1 : q ≤ 2147483647) (hr0 : 0 ≤ r) (hr1 : r ≤ 63)
    (hc1 : Hid (∀ j, j < L → w.cell? ⟨g1, j, none⟩ = some (.int .i32 (ps.getD j 0)))) (hc2 : Hid (∀ j, j < L → w.cell? ⟨g2, j, none⟩ = some (.int .u64 (W.getD j 0 : Nat)))) :
    Calls Try.prog 21 #[.slice (some ⟨g1, 0, none⟩) L c1, .slice (some ⟨g2, 0, none⟩) L c2, .int .i64 x] w fun e w' => e = .returned (.bool ((PM.look ps W q).testBit r.toNat)) ∧ w = w' := by
  have HQ : Hid (x / 64 = q ∧ bits BinOp.and .i64 x 63 = r) := ⟨hq, hr⟩
  go_enter Try.func21, Try.ntmps21
  go_wp2_with fail
  go_loop [8] (fun t => ∃ k : Nat, k ≤ L ∧ t = .int .i64 k ∧ Hid (∀ j, j < k → ps.getD j 0 ≠ q)) (fun t => L - (RowKit.intOf t).toNat)
  case atStart => exact ⟨0, Nat.zero_le _, rfl, fun j hj => by omega⟩
  case round =>
    obtain ⟨k, hk, rfl, HK⟩ := hrel
    by_cases hkL : k < L
    · have d1 := hc1.out k hkL
      have d2 := hc2.out k hkL
      obtain ⟨p, hp⟩ : ∃ p, p = ps.getD k 0 := ⟨_, rfl⟩
      obtain ⟨v, hv⟩ : ∃ v, v = W.getD k 0 := ⟨_, rfl⟩
      rw [← hp] at d1
      rw [← hv] at d2
      by_cases hpq : p = q
      · have HL : Hid (PM.look ps W q = v) := by
          rw [← hpq, hp, hv]
          exact PM.look_at ps W k hg.out.inc (by rw [hpl.out]; exact hkL) hg.out.len
        have b1 : (p == q) = true := by rw [hpq]; simp
        have hvl : v < 18446744073709551616 := by
          rw [hv]
          have hk2 : k < W.length := by rw [hg.out.len, hpl.out]; exact hkL
          rw [List.getD_eq_getElem?_getD, List.getElem?_eq_getElem hk2]
          exact (hg.out.pos _ (List.getElem_mem hk2)).2
        clear hp hv hpq HK
        go_wp2_with fail
        go_ret
        exact ⟨by rw [HL.out, ← test_bit v r hvl hr0]; rfl, rfl⟩
      · have HK2 : Hid (∀ j, j < k + 1 → ps.getD j 0 ≠ q) := fun j hj => by
          by_cases e : j = k
          · rw [e, ← hp]; exact hpq
          · exact HK.out j (by omega)
        have b1 : (p == q) = false := beq_eq_false_iff_ne.2 hpq
        clear hp hv hpq HK
        go_wp2_with fail
        go_round
        case rel => exact ⟨k + 1, by omega, by go_num, HK2⟩
        case measure => simp [RowKit.intOf]; omega
    · have HL : Hid (PM.look ps W q = 0) := PM.look_not ps W q (fun j hj => HK.out j (by rw [hpl.out] at hj; omega))
      clear HK
      go_wp2_with fail
      go_ret
      exact ⟨by rw [HL.out]; simp, rfl⟩
end Go.Proofs.Qxb6602305a
