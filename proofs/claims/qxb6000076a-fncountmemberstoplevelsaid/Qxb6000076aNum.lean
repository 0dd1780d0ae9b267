/- Contract of jsNumber. -/
import Derived.Test.Qxb6000076aSmall
import Derived.Deep.DeepCutAuto
set_option linter.unusedVariables false
namespace Go.Proofs.Qxb6000076a
open Go.RowKit
open JS (Flat Bal StrOK ValOK ObjOK ArrAt ObjAt Ins sEnd)

theorem isDigitY (c : Int) (w : World) (h : Hid (48 ≤ c ∧ c ≤ 57)) : Calls Try.prog 26 #[.int .u8 c] w fun e w' => e = .returned (.bool true) ∧ w = w' := by
  have := isDigit c w
  rw [decide_eq_true h.out] at this
  exact this
theorem isDigitN (c : Int) (w : World) (h : Hid (¬ (48 ≤ c ∧ c ≤ 57))) : Calls Try.prog 26 #[.int .u8 c] w fun e w' => e = .returned (.bool false) ∧ w = w' := by
  have := isDigit c w
  rw [decide_eq_false h.out] at this
  exact this
theorem digit_plain {c : Int} (h1 : 48 ≤ c) (h2 : c ≤ 57) : JS.plain c := by unfold JS.plain; omega

set_option maxHeartbeats 16000000 in
set_option maxRecDepth 100000 in
theorem num_any (g n i : Nat) (bs : List Int) (w : World) (hT : Hid (Txt w g n bs)) (hi : i < n) :
    Calls Try.prog 27 #[.slice (some ⟨g, 0, none⟩) n n, .int .i64 i] w fun e w' => Ret2 (ValOK bs i) w e w' := by
  have hn := hT.out.2.1
  have hlen : Hid (bs.length = n) := hT.out.1
  have hc0 := hT.out.2.2 i hi
  have HP0 : Hid (JS.plain (bs.getD i 0) → Flat bs i (i + 1)) := fun h => Flat.plain (by rw [hlen.out]; exact hi) h
  generalize bs.getD i 0 = c0 at hc0 HP0
  go_enter Try.func27, Try.ntmps27
  go_upto_if 12 with fail
  go_cut [1] (fun t wc => ∃ p : Nat, i ≤ p ∧ p ≤ n ∧ t = .int .i64 p ∧ Hid (Flat bs i p) ∧ w = wc)
  case first =>
    by_cases e0 : c0 = 45
    · subst e0
      go_wp2_with fail
      go_meet
      exact ⟨i + 1, by omega, by omega, by go_num, HP0.out (by simp [JS.plain]), rfl⟩
    · have b0 : (c0 == 45) = false := beq_eq_false_iff_ne.2 e0
      go_wp2_with fail
      go_meet
      exact ⟨i, Nat.le_refl _, by omega, rfl, Flat.refl _ _, rfl⟩
  case rest =>
    obtain ⟨p, p1, p2, rfl, HF, rfl⟩ := hcut
    clear hc0 HP0
    by_cases hp : p < n
    · have hc := hT.out.2.2 p hp
      have HP : Hid (JS.plain (bs.getD p 0) → Flat bs i (p + 1)) := fun h => HF.out.trans (Flat.plain (by rw [hlen.out]; exact hp) h)
      generalize hcp0 : bs.getD p 0 = c at hc HP
      have hcp : Hid (bs.getD p 0 = c) := hcp0
      clear hcp0
      have hbd : decide ((n : Int) ≤ (p : Int)) = false := decide_eq_false (by omega)
      have hbd2 : decide (n ≤ p) = false := decide_eq_false (by omega)
      go_upto_if 23 with fail
      go_cut [1] (fun t wc => ∃ q : Nat, i < q ∧ q ≤ n ∧ t = .int .i64 q ∧ Hid (Flat bs i q) ∧ w = wc)
      case first =>
        by_cases e1 : c = 48
        · subst e1
          go_wp2_with fail
          go_meet
          exact ⟨p + 1, by omega, by omega, by go_num, HP.out (by simp [JS.plain]), rfl⟩
        · have b1 : (c == 48) = false := beq_eq_false_iff_ne.2 e1
          by_cases e2 : 49 ≤ c
          · by_cases e3 : c ≤ 57
            · have HFs := HF
              have e4 : Hid (49 ≤ c ∧ c ≤ 57) := ⟨e2, e3⟩
              have b2 : decide (49 ≤ c) = true := decide_eq_true e2
              have b3 : decide (c ≤ 57) = true := decide_eq_true e3
              clear e1
              simp only [b1]
              go_wp2_with fail
              go_loop [1] (fun t => ∃ q : Nat, p ≤ q ∧ q ≤ n ∧ t = .int .i64 q ∧ Hid (Flat bs i q)) (fun t => n - (RowKit.intOf t).toNat)
              case atStart => exact ⟨p, Nat.le_refl _, by omega, by first | rfl | go_num, HFs⟩
              case round =>
                obtain ⟨q, l1, l2, rfl, HQ⟩ := hrel
                by_cases hq : q < n
                · have hcq := hT.out.2.2 q hq
                  have HPq : Hid (JS.plain (bs.getD q 0) → Flat bs i (q + 1)) := fun h => HQ.out.trans (Flat.plain (by rw [hlen.out]; exact hq) h)
                  have HCQ : Hid (q = p → 49 ≤ bs.getD q 0 ∧ bs.getD q 0 ≤ 57) := fun h => by rw [h, hcp.out]; exact e4.out
                  generalize bs.getD q 0 = cq at hcq HPq HCQ
                  by_cases d1 : 48 ≤ cq ∧ cq ≤ 57
                  · have HPq2 : Hid (Flat bs i (q + 1)) := HPq.out (digit_plain d1.1 d1.2)
                    have d2 : Hid (48 ≤ cq ∧ cq ≤ 57) := d1
                    clear d1 HPq
                    go_wp2_with (go_at_call 26; refine (isDigitY _ _ d2).mono ?_; rintro e w' ⟨rfl, rfl⟩)
                    go_round
                    case rel => exact ⟨q + 1, by omega, by omega, by go_num, HPq2⟩
                    case measure => simp [RowKit.intOf]; omega
                  · have d2 : Hid (¬ (48 ≤ cq ∧ cq ≤ 57)) := d1
                    have hpq : i < q := by
                      by_cases h : q = p
                      · have := HCQ.out h; omega
                      · omega
                    clear d1 HPq
                    go_wp2_with (go_at_call 26; refine (isDigitN _ _ d2).mono ?_; rintro e w' ⟨rfl, rfl⟩)
                    go_meet
                    exact ⟨q, hpq, by omega, rfl, HQ, rfl⟩
                · go_wp2_with fail
                  go_meet
                  exact ⟨q, by omega, by omega, rfl, HQ, rfl⟩
            · go_wp2_with fail
              go_ret2
              exact Ret2.no _ _ 0
          · go_wp2_with fail
            go_ret2
            exact Ret2.no _ _ 0
      case rest =>
        obtain ⟨q0, s1, s2, rfl, HG, rfl⟩ := hcut
        clear hc HP HF hp p1 p2
        -- the fraction
        go_upto_region 11 with fail
        go_cut [61] (fun t wc => ∃ B : Bool, t = .bool B ∧ Hid (B = true → q0 < n ∧ bs.getD q0 0 = 46) ∧ w = wc)
        case first =>
          by_cases hq0 : q0 < n
          · have hc := hT.out.2.2 q0 hq0
            obtain ⟨c, hcc⟩ : ∃ c, c = bs.getD q0 0 := ⟨_, rfl⟩
            rw [← hcc] at hc
            have HB : Hid ((c == 46) = true → q0 < n ∧ bs.getD q0 0 = 46) := fun h => ⟨hq0, by rw [← hcc]; exact LawfulBEq.eq_of_beq h⟩
            clear hcc
            go_wp2_with fail
            go_meet
            exact ⟨_, rfl, HB, rfl⟩
          · go_wp2_with fail
            go_meet
            exact ⟨false, rfl, (fun h => by cases h), rfl⟩
        case rest =>
          obtain ⟨B, rfl, HB, rfl⟩ := hcut
          go_upto_if 61 with fail
          go_cut [1] (fun t wc => ∃ q : Nat, i < q ∧ q ≤ n ∧ t = .int .i64 q ∧ Hid (Flat bs i q) ∧ w = wc)
          case first =>
            cases B with
            | false =>
              clear HB
              go_wp2_with fail
              go_meet
              exact ⟨q0, s1, s2, rfl, HG, rfl⟩
            | true =>
              obtain ⟨hq0, he0⟩ := HB.out rfl
              have HFs : Hid (Flat bs i (q0 + 1)) := HG.out.trans (Flat.plain (by rw [hlen.out]; exact hq0) (by rw [he0]; simp [JS.plain]))
              clear HB he0
              go_wp2_with fail
              go_loop [1] (fun t => ∃ q : Nat, (q0 + 1) ≤ q ∧ q ≤ n ∧ t = .int .i64 q ∧ Hid (Flat bs i q)) (fun t => n - (RowKit.intOf t).toNat)
              case atStart => exact ⟨(q0 + 1), Nat.le_refl _, by omega, by first | rfl | go_num, HFs⟩
              case round =>
                obtain ⟨q, l1, l2, rfl, HQ⟩ := hrel
                by_cases hq : q < n
                · have hcq := hT.out.2.2 q hq
                  have HPq : Hid (JS.plain (bs.getD q 0) → Flat bs i (q + 1)) := fun h => HQ.out.trans (Flat.plain (by rw [hlen.out]; exact hq) h)
                  generalize bs.getD q 0 = cq at hcq HPq
                  by_cases d1 : 48 ≤ cq ∧ cq ≤ 57
                  · have HPq2 : Hid (Flat bs i (q + 1)) := HPq.out (digit_plain d1.1 d1.2)
                    have d2 : Hid (48 ≤ cq ∧ cq ≤ 57) := d1
                    clear d1 HPq
                    go_wp2_with (go_at_call 26; refine (isDigitY _ _ d2).mono ?_; rintro e w' ⟨rfl, rfl⟩)
                    go_round
                    case rel => exact ⟨q + 1, by omega, by omega, by go_num, HPq2⟩
                    case measure => simp [RowKit.intOf]; omega
                  · have d2 : Hid (¬ (48 ≤ cq ∧ cq ≤ 57)) := d1
                    clear d1 HPq
                    by_cases hqs : q = (q0 + 1)
                    · have bq : ((q : Int) == ((q0 : Int) + 1)) = true := by rw [hqs]; simp
                      clear hqs
                      go_wp2_with (go_at_call 26; refine (isDigitN _ _ d2).mono ?_; rintro e w' ⟨rfl, rfl⟩)
                      go_ret2
                      exact Ret2.no _ _ 0
                    · have bq : ((q : Int) == ((q0 : Int) + 1)) = false := beq_eq_false_iff_ne.2 (by omega)
                      go_wp2_with (go_at_call 26; refine (isDigitN _ _ d2).mono ?_; rintro e w' ⟨rfl, rfl⟩)
                      go_meet
                      exact ⟨q, by omega, by omega, rfl, HQ, rfl⟩
                · by_cases hqs : q = (q0 + 1)
                  · have bq : ((q : Int) == ((q0 : Int) + 1)) = true := by rw [hqs]; simp
                    clear hqs
                    go_wp2_with fail
                    go_ret2
                    exact Ret2.no _ _ 0
                  · have bq : ((q : Int) == ((q0 : Int) + 1)) = false := beq_eq_false_iff_ne.2 (by omega)
                    go_wp2_with fail
                    go_meet
                    exact ⟨q, by omega, by omega, rfl, HQ, rfl⟩
          case rest =>
            obtain ⟨q1, s3, s4, rfl, HG1, rfl⟩ := hcut
            clear HB HG s1 s2
            -- the exponent
            go_upto_region 18 with fail
            go_cut [98] (fun t wc => ∃ B : Bool, t = .bool B ∧ Hid (B = true → q1 < n ∧ (bs.getD q1 0 = 101 ∨ bs.getD q1 0 = 69)) ∧ w = wc)
            case first =>
              by_cases hq1 : q1 < n
              · have hc := hT.out.2.2 q1 hq1
                have HB : Hid (bs.getD q1 0 = bs.getD q1 0) := rfl
                by_cases e1 : bs.getD q1 0 = 101
                · rw [e1] at hc
                  have HB2 : Hid (q1 < n ∧ (bs.getD q1 0 = 101 ∨ bs.getD q1 0 = 69)) := ⟨hq1, .inl e1⟩
                  clear e1 HB
                  go_wp2_with fail
                  go_meet
                  exact ⟨true, rfl, (fun _ => HB2.out), rfl⟩
                · by_cases e2 : bs.getD q1 0 = 69
                  · rw [e2] at hc
                    have HB2 : Hid (q1 < n ∧ (bs.getD q1 0 = 101 ∨ bs.getD q1 0 = 69)) := ⟨hq1, .inr e2⟩
                    clear e1 e2 HB
                    go_wp2_with fail
                    go_meet
                    exact ⟨true, rfl, (fun _ => HB2.out), rfl⟩
                  · have b1 : (bs.getD q1 0 == 101) = false := beq_eq_false_iff_ne.2 e1
                    have b2 : (bs.getD q1 0 == 69) = false := beq_eq_false_iff_ne.2 e2
                    clear e1 e2 HB
                    generalize bs.getD q1 0 = c at hc b1 b2
                    go_wp2_with fail
                    go_meet
                    exact ⟨false, rfl, (fun h => by cases h), rfl⟩
              · go_wp2_with fail
                go_meet
                exact ⟨false, rfl, (fun h => by cases h), rfl⟩
            case rest =>
              obtain ⟨B, rfl, HB, rfl⟩ := hcut
              cases B with
              | false =>
                have HV : Hid (ValOK bs i q1) := by
                  have hl := hlen.out
                  exact ⟨s3, by omega, HG1.out.bal⟩
                clear HB
                go_wp2_with fail
                go_ret2
                exact Ret2.yes w 0 q1 _ HV.out rfl
              | true =>
                obtain ⟨hq1, he1⟩ := HB.out rfl
                have HE : Hid (Flat bs i (q1 + 1)) := HG1.out.trans (Flat.plain (by rw [hlen.out]; exact hq1) (by rcases he1 with h | h <;> rw [h] <;> simp [JS.plain]))
                clear HB he1 HG1
                go_upto_region 20 with fail
                go_cut [118] (fun t wc => ∃ B : Bool, t = .bool B ∧ Hid (B = true → q1 + 1 < n ∧ (bs.getD (q1 + 1) 0 = 43 ∨ bs.getD (q1 + 1) 0 = 45)) ∧ w = wc)
                case first =>
                  by_cases hq2 : q1 + 1 < n
                  · have hc := hT.out.2.2 (q1 + 1) hq2
                    by_cases e1 : bs.getD (q1 + 1) 0 = 43
                    · rw [e1] at hc
                      have HB2 : Hid (q1 + 1 < n ∧ (bs.getD (q1 + 1) 0 = 43 ∨ bs.getD (q1 + 1) 0 = 45)) := ⟨hq2, .inl e1⟩
                      clear e1
                      go_wp2_with fail
                      go_meet
                      exact ⟨true, rfl, (fun _ => HB2.out), rfl⟩
                    · by_cases e2 : bs.getD (q1 + 1) 0 = 45
                      · rw [e2] at hc
                        have HB2 : Hid (q1 + 1 < n ∧ (bs.getD (q1 + 1) 0 = 43 ∨ bs.getD (q1 + 1) 0 = 45)) := ⟨hq2, .inr e2⟩
                        clear e1 e2
                        go_wp2_with fail
                        go_meet
                        exact ⟨true, rfl, (fun _ => HB2.out), rfl⟩
                      · have b1 : (bs.getD (q1 + 1) 0 == 43) = false := beq_eq_false_iff_ne.2 e1
                        have b2 : (bs.getD (q1 + 1) 0 == 45) = false := beq_eq_false_iff_ne.2 e2
                        clear e1 e2
                        generalize bs.getD (q1 + 1) 0 = c at hc b1 b2
                        go_wp2_with fail
                        go_meet
                        exact ⟨false, rfl, (fun h => by cases h), rfl⟩
                  · go_wp2_with fail
                    go_meet
                    exact ⟨false, rfl, (fun h => by cases h), rfl⟩
                case rest =>
                  obtain ⟨B, rfl, HB, rfl⟩ := hcut
                  go_upto_if 118 with fail
                  go_cut [1] (fun t wc => ∃ q : Nat, i < q ∧ q ≤ n ∧ t = .int .i64 q ∧ Hid (Flat bs i q) ∧ w = wc)
                  case first =>
                    cases B with
                    | false =>
                      clear HB
                      go_wp2_with fail
                      go_meet
                      exact ⟨q1 + 1, by omega, by omega, by first | rfl | go_num, HE, rfl⟩
                    | true =>
                      obtain ⟨hq2, he2⟩ := HB.out rfl
                      have HE2 : Hid (Flat bs i (q1 + 2)) := HE.out.trans (Flat.plain (by rw [hlen.out]; exact hq2) (by rcases he2 with h | h <;> rw [h] <;> simp [JS.plain]))
                      clear HB he2
                      go_wp2_with fail
                      go_meet
                      exact ⟨q1 + 2, by omega, by omega, by first | rfl | go_num, HE2, rfl⟩
                  case rest =>
                    obtain ⟨q2, s5, s6, rfl, HFs, rfl⟩ := hcut
                    clear HB HE
                    go_wp2_with fail
                    go_loop [1] (fun t => ∃ q : Nat, q2 ≤ q ∧ q ≤ n ∧ t = .int .i64 q ∧ Hid (Flat bs i q)) (fun t => n - (RowKit.intOf t).toNat)
                    case atStart => exact ⟨q2, Nat.le_refl _, by omega, by first | rfl | go_num, HFs⟩
                    case round =>
                      obtain ⟨q, l1, l2, rfl, HQ⟩ := hrel
                      by_cases hq : q < n
                      · have hcq := hT.out.2.2 q hq
                        have HPq : Hid (JS.plain (bs.getD q 0) → Flat bs i (q + 1)) := fun h => HQ.out.trans (Flat.plain (by rw [hlen.out]; exact hq) h)
                        generalize bs.getD q 0 = cq at hcq HPq
                        by_cases d1 : 48 ≤ cq ∧ cq ≤ 57
                        · have HPq2 : Hid (Flat bs i (q + 1)) := HPq.out (digit_plain d1.1 d1.2)
                          have d2 : Hid (48 ≤ cq ∧ cq ≤ 57) := d1
                          clear d1 HPq
                          go_wp2_with (go_at_call 26; refine (isDigitY _ _ d2).mono ?_; rintro e w' ⟨rfl, rfl⟩)
                          go_round
                          case rel => exact ⟨q + 1, by omega, by omega, by go_num, HPq2⟩
                          case measure => simp [RowKit.intOf]; omega
                        · have d2 : Hid (¬ (48 ≤ cq ∧ cq ≤ 57)) := d1
                          clear d1 HPq
                          by_cases hqs : q = q2
                          · have bq : ((q : Int) == (q2 : Int)) = true := by rw [hqs]; simp
                            clear hqs
                            go_wp2_with (go_at_call 26; refine (isDigitN _ _ d2).mono ?_; rintro e w' ⟨rfl, rfl⟩)
                            go_ret2
                            exact Ret2.no _ _ 0
                          · have bq : ((q : Int) == (q2 : Int)) = false := beq_eq_false_iff_ne.2 (by omega)
                            go_wp2_with (go_at_call 26; refine (isDigitN _ _ d2).mono ?_; rintro e w' ⟨rfl, rfl⟩)
                            go_ret2
                            exact Ret2.yes w 0 q _ (by have hl := hlen.out; exact ⟨by omega, by omega, HQ.out.bal⟩) rfl
                      · by_cases hqs : q = q2
                        · have bq : ((q : Int) == (q2 : Int)) = true := by rw [hqs]; simp
                          clear hqs
                          go_wp2_with fail
                          go_ret2
                          exact Ret2.no _ _ 0
                        · have bq : ((q : Int) == (q2 : Int)) = false := beq_eq_false_iff_ne.2 (by omega)
                          go_wp2_with fail
                          go_ret2
                          exact Ret2.yes w 0 q _ (by have hl := hlen.out; exact ⟨by omega, by omega, HQ.out.bal⟩) rfl
    · have hbd : decide ((n : Int) ≤ (p : Int)) = true := decide_eq_true (by omega)
      go_wp2_with fail
      go_ret2
      exact Ret2.no _ _ 0
end Go.Proofs.Qxb6000076a
