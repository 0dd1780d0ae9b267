/- Contract of jsString: it returns; where it says yes, the scanner goes over the string it read. -/
import Derived.Test.Qxb6000076aSmall
set_option linter.unusedVariables false
namespace Go.Proofs.Qxb6000076a
open Go.RowKit
open JS (Flat Bal StrOK ValOK ObjOK ArrAt ObjAt Ins sEnd)

set_option maxHeartbeats 8000000 in
set_option maxRecDepth 100000 in
theorem str_any (g n i : Nat) (bs : List Int) (w : World) (hT : Hid (Txt w g n bs)) (hi : i < n) :
    Calls Try.prog 22 #[.slice (some ⟨g, 0, none⟩) n n, .int .i64 i] w fun e w' => Ret2 (StrOK bs i) w e w' := by
  have hn := hT.out.2.1
  have hlen : Hid (bs.length = n) := hT.out.1
  go_enter Try.func22, Try.ntmps22
  go_wp2_with fail
  go_loop [1] (fun t => ∃ p : Nat, i + 1 ≤ p ∧ p ≤ n ∧ t = .int .i64 p ∧ Hid (Ins bs (i + 1) p)) (fun t => n - (RowKit.intOf t).toNat)
  case atStart => exact ⟨i + 1, Nat.le_refl _, by omega, by go_num, Ins.refl _ _⟩
  case round =>
    obtain ⟨p, h1, h2, rfl, HI⟩ := hrel
    by_cases hp : p < n
    · have hc := hT.out.2.2 p hp
      have hpl : Hid (p < bs.length) := by have := hlen.out; show p < bs.length; omega
      generalize hcc : bs.getD p 0 = c at hc
      have HC : Hid (bs.getD p 0 = c) := hcc
      clear hcc
      by_cases e1 : c = 34
      · subst e1
        have HS : Hid (StrOK bs i (p + 1)) := by
          obtain ⟨f, hf⟩ := HI.out 1 p (Ins.close hpl.out HC.out)
          exact ⟨f, p, hf, rfl⟩
        go_wp2_with fail
        go_ret2
        exact Ret2.yes w 0 (p + 1) _ HS.out (by omega)
      · have b1 : (c == 34) = false := beq_eq_false_iff_ne.2 e1
        by_cases e2 : c < 32
        · go_wp2_with fail
          go_ret2
          exact Ret2.no _ _ 0
        · by_cases e3 : c = 92
          · subst e3
            have HE : Hid (Ins bs p (p + 2)) := Ins.esc hpl.out HC.out
            by_cases e4 : p + 1 < n
            · have hd := hT.out.2.2 (p + 1) e4
              generalize bs.getD (p + 1) 0 = e at hd
              by_cases q0 : e = 34
              · subst q0
                go_wp2_with fail
                go_round
                case rel => exact ⟨p + 2, by omega, by omega, by go_num, HI.out.trans HE.out⟩
                case measure => simp [RowKit.intOf]; omega
              · have r0 : (e == 34) = false := beq_eq_false_iff_ne.2 q0
                clear q0
                by_cases q1 : e = 92
                · subst q1
                  go_wp2_with fail
                  go_round
                  case rel => exact ⟨p + 2, by omega, by omega, by go_num, HI.out.trans HE.out⟩
                  case measure => simp [RowKit.intOf]; omega
                · have r1 : (e == 92) = false := beq_eq_false_iff_ne.2 q1
                  clear q1
                  by_cases q2 : e = 47
                  · subst q2
                    go_wp2_with fail
                    go_round
                    case rel => exact ⟨p + 2, by omega, by omega, by go_num, HI.out.trans HE.out⟩
                    case measure => simp [RowKit.intOf]; omega
                  · have r2 : (e == 47) = false := beq_eq_false_iff_ne.2 q2
                    clear q2
                    by_cases q3 : e = 98
                    · subst q3
                      go_wp2_with fail
                      go_round
                      case rel => exact ⟨p + 2, by omega, by omega, by go_num, HI.out.trans HE.out⟩
                      case measure => simp [RowKit.intOf]; omega
                    · have r3 : (e == 98) = false := beq_eq_false_iff_ne.2 q3
                      clear q3
                      by_cases q4 : e = 102
                      · subst q4
                        go_wp2_with fail
                        go_round
                        case rel => exact ⟨p + 2, by omega, by omega, by go_num, HI.out.trans HE.out⟩
                        case measure => simp [RowKit.intOf]; omega
                      · have r4 : (e == 102) = false := beq_eq_false_iff_ne.2 q4
                        clear q4
                        by_cases q5 : e = 110
                        · subst q5
                          go_wp2_with fail
                          go_round
                          case rel => exact ⟨p + 2, by omega, by omega, by go_num, HI.out.trans HE.out⟩
                          case measure => simp [RowKit.intOf]; omega
                        · have r5 : (e == 110) = false := beq_eq_false_iff_ne.2 q5
                          clear q5
                          by_cases q6 : e = 114
                          · subst q6
                            go_wp2_with fail
                            go_round
                            case rel => exact ⟨p + 2, by omega, by omega, by go_num, HI.out.trans HE.out⟩
                            case measure => simp [RowKit.intOf]; omega
                          · have r6 : (e == 114) = false := beq_eq_false_iff_ne.2 q6
                            clear q6
                            by_cases q7 : e = 116
                            · subst q7
                              go_wp2_with fail
                              go_round
                              case rel => exact ⟨p + 2, by omega, by omega, by go_num, HI.out.trans HE.out⟩
                              case measure => simp [RowKit.intOf]; omega
                            · have r7 : (e == 116) = false := beq_eq_false_iff_ne.2 q7
                              clear q7
                              by_cases q9 : e = 117
                              · subst q9
                                by_cases q10 : p + 6 ≤ n
                                · go_wp2_with fail
                                  go_loop [8] (fun t => ∃ k : Nat, 1 ≤ k ∧ k ≤ 5 ∧ t = .int .i64 k ∧ Hid (∀ t, 1 ≤ t → t < k → bs.getD (p + 1 + t) 0 ≠ 34 ∧ bs.getD (p + 1 + t) 0 ≠ 92)) (fun t => 5 - (RowKit.intOf t).toNat)
                                  case atStart => exact ⟨1, by omega, by omega, rfl, fun t h1 h2 => by omega⟩
                                  case round =>
                                    obtain ⟨k, k1, k2, rfl, HK⟩ := hrel
                                    by_cases k3 : k ≤ 4
                                    · have hck := hT.out.2.2 (p + 1 + k) (by omega)
                                      generalize hcx : bs.getD (p + 1 + k) 0 = cx at hck
                                      have HCX : Hid (bs.getD (p + 1 + k) 0 = cx) := hcx
                                      clear hcx
                                      go_wp2_with fail
                                      refine (hexD cx _).mono ?_
                                      rintro e w' ⟨v, ok, rfl, HH, rfl⟩
                                      cases ok with
                                      | true =>
                                        have HH2 : Hid (cx ≠ 34 ∧ cx ≠ 92) := HH.out rfl
                                        clear HH
                                        go_wp2_with fail
                                        go_round
                                        case rel => exact ⟨k + 1, by omega, by omega, by go_num, fun t h1 h2 => by
                                          by_cases ht : t = k
                                          · rw [ht, HCX.out]; exact HH2.out
                                          · exact HK.out t h1 (by omega)⟩
                                        case measure => simp [RowKit.intOf]; omega
                                      | false =>
                                        go_wp2_with fail
                                        go_ret2
                                        exact Ret2.no _ _ 0
                                    · have hk5 : k = 5 := by omega
                                      have HI6 : Hid (Ins bs (i + 1) (p + 6)) := by
                                        have hl := hlen.out
                                        have P : ∀ t, 1 ≤ t → t ≤ 4 → Ins bs (p + 1 + t) (p + 1 + t + 1) := fun t h1 h2 => Ins.plain (by omega) (HK.out t h1 (by omega)).1 (HK.out t h1 (by omega)).2
                                        exact HI.out.trans (HE.out.trans (((P 1 (by omega) (by omega)).trans (P 2 (by omega) (by omega))).trans ((P 3 (by omega) (by omega)).trans (P 4 (by omega) (by omega)))))
                                      clear HK
                                      go_wp2_with fail
                                      go_round
                                      case rel => exact ⟨p + 6, by omega, by omega, by go_num, HI6⟩
                                      case measure => simp [RowKit.intOf]; omega
                                · go_wp2_with fail
                                  go_ret2
                                  exact Ret2.no _ _ 0
                              · have r9 : (e != 117) = true := by rw [bne_iff_ne]; exact q9
                                clear q9
                                go_wp2_with fail
                                go_ret2
                                exact Ret2.no _ _ 0
            · go_wp2_with fail
              go_ret2
              exact Ret2.no _ _ 0
          · have HP : Hid (Ins bs (i + 1) (p + 1)) := HI.out.trans (Ins.plain hpl.out (by rw [HC.out]; exact e1) (by rw [HC.out]; exact e3))
            have b3 : (c != 92) = true := by rw [bne_iff_ne]; exact e3
            go_wp2_with fail
            go_round
            case rel => exact ⟨p + 1, by omega, by omega, by go_num, HP⟩
            case measure => simp [RowKit.intOf]; omega
    · go_wp2_with fail
      go_ret2
      exact Ret2.no _ _ 0
end Go.Proofs.Qxb6000076a
