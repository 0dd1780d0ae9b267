/- Contracts of jsSkipWS, jsIsDigit, hexDigit, jsString, jsWord, jsNumber. -/
import Derived.Test.Qxb6000076aRows
import Derived.Test.Qxb6000076aMath
import Derived.WalkKit
import Derived.WalkSpells
import Derived.WalkLawsBesides
import Derived.Deep.QuietTactic
import Derived.BigQuiet
set_option linter.unusedVariables false
namespace Go.Proofs.Qxb6000076a
open Go.RowKit
open JS (Flat Bal StrOK ValOK ObjOK ArrAt ObjAt Ins sEnd)

/-- The text in memory. -/
def Txt (w : World) (g n : Nat) (bs : List Int) : Prop := bs.length = n ∧ n ≤ 1048576 ∧ ∀ j, j < n → w.cell? ⟨g, j, none⟩ = some (.int .u8 (bs.getD j 0))
theorem Txt.drewN {w : World} {g n : Nat} {bs : List Int} (h : Txt w g n bs) (m : Nat) : Txt (w.drewN m) g n bs := h

set_option maxHeartbeats 1600000 in
set_option maxRecDepth 100000 in
theorem skip (g n i : Nat) (bs : List Int) (w : World) (hT : Hid (Txt w g n bs)) (hi : i ≤ n) :
    Calls Try.prog 19 #[.slice (some ⟨g, 0, none⟩) n n, .int .i64 i] w fun e w' => ∃ j : Nat, e = .returned (.int .i64 j) ∧ i ≤ j ∧ j ≤ n ∧ Hid (Flat bs i j) ∧ w = w' := by
  have hn := hT.out.2.1
  go_enter Try.func19, Try.ntmps19
  go_wp2_with fail
  go_loop [1] (fun t => ∃ j : Nat, i ≤ j ∧ j ≤ n ∧ t = .int .i64 j ∧ Hid (Flat bs i j)) (fun t => n - (RowKit.intOf t).toNat)
  case atStart => exact ⟨i, Nat.le_refl _, hi, rfl, Flat.refl _ _⟩
  case round =>
    obtain ⟨j, h1, h2, rfl, HF⟩ := hrel
    by_cases hj : j < n
    · have hc := hT.out.2.2 j hj
      have hlen : Hid (bs.length = n) := hT.out.1
      have HP : Hid (JS.plain (bs.getD j 0) → Flat bs i (j + 1)) := fun h => HF.out.trans (Flat.plain (by rw [hlen.out]; exact hj) h)
      clear hT
      generalize bs.getD j 0 = c at *
      by_cases e1 : c = 32
      · subst e1
        go_wp2_with fail
        go_round
        case rel => exact ⟨j + 1, by omega, by omega, by go_num, HP.out (by simp [JS.plain])⟩
        case measure => simp [RowKit.intOf]; omega
      · by_cases e2 : c = 9
        · subst e2
          go_wp2_with fail
          go_round
          case rel => exact ⟨j + 1, by omega, by omega, by go_num, HP.out (by simp [JS.plain])⟩
          case measure => simp [RowKit.intOf]; omega
        · by_cases e3 : c = 10
          · subst e3
            go_wp2_with fail
            go_round
            case rel => exact ⟨j + 1, by omega, by omega, by go_num, HP.out (by simp [JS.plain])⟩
            case measure => simp [RowKit.intOf]; omega
          · by_cases e4 : c = 13
            · subst e4
              go_wp2_with fail
              go_round
              case rel => exact ⟨j + 1, by omega, by omega, by go_num, HP.out (by simp [JS.plain])⟩
              case measure => simp [RowKit.intOf]; omega
            · have b1 : (c == 32) = false := beq_eq_false_iff_ne.2 e1
              have b2 : (c == 9) = false := beq_eq_false_iff_ne.2 e2
              have b3 : (c == 10) = false := beq_eq_false_iff_ne.2 e3
              have b4 : (c == 13) = false := beq_eq_false_iff_ne.2 e4
              clear e1 e2 e3 e4
              go_wp2_with fail
              go_ret
              exact ⟨j, rfl, h1, h2, HF, rfl⟩
    · clear hT
      go_wp2_with fail
      go_ret
      exact ⟨j, rfl, h1, h2, HF, rfl⟩

set_option maxHeartbeats 800000 in
theorem isDigit (c : Int) (w : World) : Calls Try.prog 26 #[.int .u8 c] w fun e w' => e = .returned (.bool (decide (48 ≤ c ∧ c ≤ 57))) ∧ w = w' := by
  by_cases h1 : 48 ≤ c
  · by_cases h2 : c ≤ 57
    · rw [decide_eq_true ⟨h1, h2⟩]
      go_enter Try.func26, Try.ntmps26
      go_wp2_with fail
      go_ret
      exact ⟨rfl, rfl⟩
    · rw [decide_eq_false (fun h => h2 h.2)]
      go_enter Try.func26, Try.ntmps26
      go_wp2_with fail
      go_ret
      exact ⟨rfl, rfl⟩
  · rw [decide_eq_false (fun h => h1 h.1)]
    go_enter Try.func26, Try.ntmps26
    go_wp2_with fail
    go_ret
    exact ⟨rfl, rfl⟩

/-- what hexDigit answers -/
def HexPost (c : Int) (w : World) (e : Ending) (w' : World) : Prop := ∃ (v : Int) (ok : Bool), e = .returned (.tuple #[.int .i64 v, .bool ok]) ∧ Hid (ok = true → c ≠ 34 ∧ c ≠ 92) ∧ w = w'

theorem low_ok : ∀ (k : Nat) (h : k < 16), ((#[48, 49, 50, 51, 52, 53, 54, 55, 56, 57, 97, 98, 99, 100, 101, 102] : Array UInt8)[k]).toNat ≠ 34 ∧ ((#[48, 49, 50, 51, 52, 53, 54, 55, 56, 57, 97, 98, 99, 100, 101, 102] : Array UInt8)[k]).toNat ≠ 92 := by decide
theorem upp_ok : ∀ (k : Nat) (h : k < 16), ((#[48, 49, 50, 51, 52, 53, 54, 55, 56, 57, 65, 66, 67, 68, 69, 70] : Array UInt8)[k]).toNat ≠ 34 ∧ ((#[48, 49, 50, 51, 52, 53, 54, 55, 56, 57, 65, 66, 67, 68, 69, 70] : Array UInt8)[k]).toNat ≠ 92 := by decide
theorem low_c (k : Nat) (h : k < 16) (c : Int) (e : (((⟨#[48, 49, 50, 51, 52, 53, 54, 55, 56, 57, 97, 98, 99, 100, 101, 102]⟩ : ByteArray)[k]'h).toNat : Int) = c) : c ≠ 34 ∧ c ≠ 92 := by
  have := low_ok k h
  subst e
  exact ⟨fun h1 => this.1 (by exact_mod_cast h1), fun h1 => this.2 (by exact_mod_cast h1)⟩
theorem upp_c (k : Nat) (h : k < 16) (c : Int) (e : (((⟨#[48, 49, 50, 51, 52, 53, 54, 55, 56, 57, 65, 66, 67, 68, 69, 70]⟩ : ByteArray)[k]'h).toNat : Int) = c) : c ≠ 34 ∧ c ≠ 92 := by
  have := upp_ok k h
  subst e
  exact ⟨fun h1 => this.1 (by exact_mod_cast h1), fun h1 => this.2 (by exact_mod_cast h1)⟩

set_option maxHeartbeats 1600000 in
theorem hexD (c : Int) (w : World) : Calls Try.prog 9 #[.int .u8 c] w fun e w' => HexPost c w e w' := by
  go_enter Try.func9, Try.ntmps9
  go_wp2_with fail
  go_loop [4] (fun t => ∃ k : Nat, k ≤ 16 ∧ t = .int .i64 k) (fun t => 16 - (RowKit.intOf t).toNat)
  case atStart => exact ⟨0, by omega, rfl⟩
  case round =>
    obtain ⟨k, hk, rfl⟩ := hrel
    by_cases h : k < 16
    · go_wp2_with fail
      · go_ret2
        exact ⟨k, true, rfl, fun _ => low_c k h c ‹_›, rfl⟩
      · go_ret2
        refine ⟨k, true, rfl, fun _ => ?_, rfl⟩
        rcases ‹(_ == c) = true ∨ (_ == c) = true› with h6 | h6
        · exact low_c k h c (LawfulBEq.eq_of_beq h6)
        · exact upp_c k h c (LawfulBEq.eq_of_beq h6)
      · go_round
        case rel => exact ⟨k + 1, by omega, by go_num⟩
        case measure => simp [RowKit.intOf]; omega
    · go_wp2_with fail
      go_ret2
      exact ⟨0, false, rfl, (fun h => by cases h), rfl⟩

/-- what a reader answers: a place and whether it read; where it read, R holds of the place -/
def Ret2 (R : Nat → Prop) (w : World) (e : Ending) (w' : World) : Prop := ∃ (j : Nat) (ok : Bool), e = .returned (.tuple #[.int .i64 j, .bool ok]) ∧ Hid (ok = true → R j) ∧ ∃ m, w' = w.drewN m
theorem Ret2.no (R : Nat → Prop) (w : World) (m : Nat) : Ret2 R w (.returned (.tuple #[.int .i64 0, .bool false])) (w.drewN m) := ⟨0, false, rfl, (fun h => by cases h), m, rfl⟩
theorem Ret2.yes {R : Nat → Prop} (w : World) (m j : Nat) (x : Int) (h : R j) (e : x = (j : Int)) : Ret2 R w (.returned (.tuple #[.int .i64 x, .bool true])) (w.drewN m) := ⟨j, true, by rw [e], fun _ => h, m, rfl⟩
theorem Ret2.mono {R R' : Nat → Prop} {w w' : World} {e : Ending} (h : Ret2 R w e w') (k : ∀ j, R j → R' j) : Ret2 R' w e w' := by
  obtain ⟨j, ok, h1, h2, h3⟩ := h
  exact ⟨j, ok, h1, fun ho => k j (h2.out ho), h3⟩
end Go.Proofs.Qxb6000076a
