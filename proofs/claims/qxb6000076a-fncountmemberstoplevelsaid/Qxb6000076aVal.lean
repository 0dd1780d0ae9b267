/- Contract of jsValue, jsArray and jsObject: one induction on what is left of the text. -/
import Derived.Test.Qxb6000076aObj
import Derived.Test.Qxb6000076aWord
import Derived.Test.Qxb6000076aNum
set_option linter.unusedVariables false
namespace Go.Proofs.Qxb6000076a
open Go.RowKit
open JS (Flat Bal StrOK ValOK ObjOK ArrAt ObjAt Ins sEnd)

theorem plain_true' : ∀ (k : Nat) (h : k < 4), ((#[116, 114, 117, 101] : Array UInt8)[k]).toNat ≠ 34 ∧ ((#[116, 114, 117, 101] : Array UInt8)[k]).toNat ≠ 123 ∧ ((#[116, 114, 117, 101] : Array UInt8)[k]).toNat ≠ 91 ∧ ((#[116, 114, 117, 101] : Array UInt8)[k]).toNat ≠ 125 ∧ ((#[116, 114, 117, 101] : Array UInt8)[k]).toNat ≠ 93 ∧ ((#[116, 114, 117, 101] : Array UInt8)[k]).toNat ≠ 44 := by decide
theorem plain_true : ∀ k (h : k < (⟨#[116, 114, 117, 101]⟩ : ByteArray).size), JS.plain (((⟨#[116, 114, 117, 101]⟩ : ByteArray)[k]'h).toNat : Int) := by
  intro k h
  have h2 := plain_true' k h
  have e : ((⟨#[116, 114, 117, 101]⟩ : ByteArray)[k]'h).toNat = ((#[116, 114, 117, 101] : Array UInt8)[k]'h).toNat := rfl
  rw [e]
  obtain ⟨a1, a2, a3, a4, a5, a6⟩ := h2
  unfold JS.plain
  omega
theorem plain_false' : ∀ (k : Nat) (h : k < 5), ((#[102, 97, 108, 115, 101] : Array UInt8)[k]).toNat ≠ 34 ∧ ((#[102, 97, 108, 115, 101] : Array UInt8)[k]).toNat ≠ 123 ∧ ((#[102, 97, 108, 115, 101] : Array UInt8)[k]).toNat ≠ 91 ∧ ((#[102, 97, 108, 115, 101] : Array UInt8)[k]).toNat ≠ 125 ∧ ((#[102, 97, 108, 115, 101] : Array UInt8)[k]).toNat ≠ 93 ∧ ((#[102, 97, 108, 115, 101] : Array UInt8)[k]).toNat ≠ 44 := by decide
theorem plain_false : ∀ k (h : k < (⟨#[102, 97, 108, 115, 101]⟩ : ByteArray).size), JS.plain (((⟨#[102, 97, 108, 115, 101]⟩ : ByteArray)[k]'h).toNat : Int) := by
  intro k h
  have h2 := plain_false' k h
  have e : ((⟨#[102, 97, 108, 115, 101]⟩ : ByteArray)[k]'h).toNat = ((#[102, 97, 108, 115, 101] : Array UInt8)[k]'h).toNat := rfl
  rw [e]
  obtain ⟨a1, a2, a3, a4, a5, a6⟩ := h2
  unfold JS.plain
  omega
theorem plain_null' : ∀ (k : Nat) (h : k < 4), ((#[110, 117, 108, 108] : Array UInt8)[k]).toNat ≠ 34 ∧ ((#[110, 117, 108, 108] : Array UInt8)[k]).toNat ≠ 123 ∧ ((#[110, 117, 108, 108] : Array UInt8)[k]).toNat ≠ 91 ∧ ((#[110, 117, 108, 108] : Array UInt8)[k]).toNat ≠ 125 ∧ ((#[110, 117, 108, 108] : Array UInt8)[k]).toNat ≠ 93 ∧ ((#[110, 117, 108, 108] : Array UInt8)[k]).toNat ≠ 44 := by decide
theorem plain_null : ∀ k (h : k < (⟨#[110, 117, 108, 108]⟩ : ByteArray).size), JS.plain (((⟨#[110, 117, 108, 108]⟩ : ByteArray)[k]'h).toNat : Int) := by
  intro k h
  have h2 := plain_null' k h
  have e : ((⟨#[110, 117, 108, 108]⟩ : ByteArray)[k]'h).toNat = ((#[110, 117, 108, 108] : Array UInt8)[k]'h).toNat := rfl
  rw [e]
  obtain ⟨a1, a2, a3, a4, a5, a6⟩ := h2
  unfold JS.plain
  omega

set_option maxHeartbeats 8000000 in
set_option maxRecDepth 100000 in
theorem val_step (g n K : Nat) (bs : List Int) (hA : SayA g n bs K) (hO : SayO g n bs K) : SayV g n bs K := by
  intro i w hT hi hK
  have hn := hT.out.2.1
  have hlen : Hid (bs.length = n) := hT.out.1
  by_cases hi' : i < n
  · have hc := hT.out.2.2 i hi'
    have hbd : decide ((n : Int) ≤ (i : Int)) = false := decide_eq_false (by omega)
    obtain ⟨c, hcc⟩ : ∃ c, c = bs.getD i 0 := ⟨_, rfl⟩
    rw [← hcc] at hc
    have HC : Hid (bs.getD i 0 = c) := hcc.symm
    clear hcc
    by_cases e1 : c = 123
    · subst e1
      go_enter Try.func23, Try.ntmps23
      go_wp2_with fail
      refine (hO i _ hT hi' HC hK).mono ?_
      rintro e w' ⟨j, k, ok, rfl, HR, m, rfl⟩
      go_wp2_with fail
      go_ret2
      exact ⟨j, ok, rfl, fun h => (HR.out h).1.val, m, rfl⟩
    · have b1 : (c == 123) = false := beq_eq_false_iff_ne.2 e1
      by_cases e2 : c = 91
      · subst e2
        go_enter Try.func23, Try.ntmps23
        go_wp2_with fail
        refine (hA i _ hT hi' HC hK).mono ?_
        rintro e w' ⟨j, ok, rfl, HR, m, rfl⟩
        go_wp2_with fail
        go_ret2
        exact ⟨j, ok, rfl, HR, m, rfl⟩
      · have b2 : (c == 91) = false := beq_eq_false_iff_ne.2 e2
        by_cases e3 : c = 34
        · subst e3
          go_enter Try.func23, Try.ntmps23
          go_wp2_with fail
          refine (str_any g n i bs _ hT hi').mono ?_
          rintro e w' ⟨j, ok, rfl, HR, m, rfl⟩
          have HR2 : Hid (ok = true → ValOK bs i j) := fun h => by
            have hs := HR.out h
            have hl := hlen.out
            exact ⟨by have := hs.le.1; omega, hs.le.2, (hs.flat (by omega) HC.out).bal⟩
          clear HR
          go_wp2_with fail
          go_ret2
          exact ⟨j, ok, rfl, HR2, m, rfl⟩
        · have b3 : (c == 34) = false := beq_eq_false_iff_ne.2 e3
          by_cases e4 : c = 116
          · subst e4
            go_enter Try.func23, Try.ntmps23
            go_wp2_with fail
            refine (word_any g n i bs ⟨#[116, 114, 117, 101]⟩ _ hT hi' (by decide) (by decide) plain_true).mono ?_
            rintro e w' ⟨j, ok, rfl, HR, m, rfl⟩
            go_wp2_with fail
            go_ret2
            exact ⟨j, ok, rfl, HR, m, rfl⟩
          · have b4 : (c == 116) = false := beq_eq_false_iff_ne.2 e4
            by_cases e5 : c = 102
            · subst e5
              go_enter Try.func23, Try.ntmps23
              go_wp2_with fail
              refine (word_any g n i bs ⟨#[102, 97, 108, 115, 101]⟩ _ hT hi' (by decide) (by decide) plain_false).mono ?_
              rintro e w' ⟨j, ok, rfl, HR, m, rfl⟩
              go_wp2_with fail
              go_ret2
              exact ⟨j, ok, rfl, HR, m, rfl⟩
            · have b5 : (c == 102) = false := beq_eq_false_iff_ne.2 e5
              by_cases e6 : c = 110
              · subst e6
                go_enter Try.func23, Try.ntmps23
                go_wp2_with fail
                refine (word_any g n i bs ⟨#[110, 117, 108, 108]⟩ _ hT hi' (by decide) (by decide) plain_null).mono ?_
                rintro e w' ⟨j, ok, rfl, HR, m, rfl⟩
                go_wp2_with fail
                go_ret2
                exact ⟨j, ok, rfl, HR, m, rfl⟩
              · have b6 : (c == 110) = false := beq_eq_false_iff_ne.2 e6
                clear e1 e2 e3 e4 e5 e6 HC
                by_cases e7 : c = 45
                · subst e7
                  go_enter Try.func23, Try.ntmps23
                  go_wp2_with fail
                  refine (num_any g n i bs _ hT hi').mono ?_
                  rintro e w' ⟨j, ok, rfl, HR, m, rfl⟩
                  go_wp2_with fail
                  go_ret2
                  exact ⟨j, ok, rfl, HR, m, rfl⟩
                · have b7 : (c == 45) = false := beq_eq_false_iff_ne.2 e7
                  by_cases e8 : 48 ≤ c ∧ c ≤ 57
                  · have d2 : Hid (48 ≤ c ∧ c ≤ 57) := e8
                    clear e7 e8
                    go_enter Try.func23, Try.ntmps23
                    go_wp2_with (go_at_call 26; refine (isDigitY _ _ d2).mono ?_; rintro e w' ⟨rfl, rfl⟩)
                    refine (num_any g n i bs _ hT hi').mono ?_
                    rintro e w' ⟨j, ok, rfl, HR, m, rfl⟩
                    go_wp2_with fail
                    go_ret2
                    exact ⟨j, ok, rfl, HR, m, rfl⟩
                  · have d2 : Hid (¬ (48 ≤ c ∧ c ≤ 57)) := e8
                    clear e7 e8
                    go_enter Try.func23, Try.ntmps23
                    go_wp2_with (go_at_call 26; refine (isDigitN _ _ d2).mono ?_; rintro e w' ⟨rfl, rfl⟩)
                    go_ret2
                    exact Ret2.no _ _ 0
  · have hbd : decide ((n : Int) ≤ (i : Int)) = true := decide_eq_true (by omega)
    go_enter Try.func23, Try.ntmps23
    go_wp2_with fail
    go_ret2
    exact Ret2.no _ _ 0

theorem say_all (g n : Nat) (bs : List Int) : ∀ K, SayA g n bs K ∧ SayO g n bs K ∧ SayV g n bs K := by
  intro K
  induction K with
  | zero =>
    have hA : SayA g n bs 0 := fun i w _ hi _ hK => by omega
    have hO : SayO g n bs 0 := fun i w _ hi _ hK => by omega
    exact ⟨hA, hO, val_step g n 0 bs hA hO⟩
  | succ K ih =>
    have hA := arr_step g n K bs ih.2.2
    have hO := obj_step g n K bs ih.2.2
    exact ⟨hA, hO, val_step g n (K + 1) bs hA hO⟩

theorem obj_any (g n i : Nat) (bs : List Int) (w : World) (hT : Hid (Txt w g n bs)) (hi : i < n) (h : Hid (bs.getD i 0 = 123)) :
    Calls Try.prog 20 #[.slice (some ⟨g, 0, none⟩) n n, .int .i64 i] w fun e w' => Ret3 bs i w e w' :=
  (say_all g n bs (n - i)).2.1 i w hT hi h (Nat.le_refl _)
end Go.Proofs.Qxb6000076a
