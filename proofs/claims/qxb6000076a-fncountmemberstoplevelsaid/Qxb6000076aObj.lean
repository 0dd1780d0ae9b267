/- Contract of jsObject, under what jsValue says of shorter rests. -/
import Derived.Test.Qxb6000076aArr
import Derived.Test.Qxb6000076aStr
set_option linter.unusedVariables false
namespace Go.Proofs.Qxb6000076a
open Go.RowKit
open JS (Flat Bal StrOK ValOK ObjOK ArrAt ObjAt Ins sEnd)

theorem Ret3.no (bs : List Int) (i : Nat) (w : World) (m : Nat) : Ret3 bs i w (.returned (.tuple #[.int .i64 0, .int .i64 0, .bool false])) (w.drewN m) := ⟨0, 0, false, rfl, (fun h => by cases h), m, rfl⟩
theorem Ret3.yes {bs : List Int} {i : Nat} (w : World) (m j c : Nat) (x y : Int) (h : ObjOK bs i j c ∧ c ≤ j) (e1 : x = (j : Int)) (e2 : y = (c : Int)) : Ret3 bs i w (.returned (.tuple #[.int .i64 x, .int .i64 y, .bool true])) (w.drewN m) := ⟨j, c, true, by rw [e1, e2], fun _ => h, m, rfl⟩

set_option maxHeartbeats 8000000 in
set_option maxRecDepth 100000 in
theorem obj_step (g n K : Nat) (bs : List Int) (hV : SayV g n bs K) : SayO g n bs (K + 1) := by
  intro i w hT hi h123 hK
  have hn := hT.out.2.1
  have hlen : Hid (bs.length = n) := hT.out.1
  go_enter Try.func20, Try.ntmps20
  go_wp2_with fail
  refine (skip' g n (i + 1) _ bs _ hT (by omega) (by omega)).mono ?_
  rintro e w' ⟨j, rfl, j1, j2, HF, rfl⟩
  have HA : Hid (ObjAt bs i j 0) := ObjAt.opens (by have := hlen.out; omega) h123.out j1 HF.out
  clear HF
  go_upto_region 2 with fail
  go_cut [23] (fun t wc => ∃ B : Bool, t = .bool B ∧ Hid (B = true → j < n ∧ bs.getD j 0 = 125) ∧ w = wc)
  case first =>
    by_cases hj : j < n
    · have hc := hT.out.2.2 j hj
      obtain ⟨c, hcc⟩ : ∃ c, c = bs.getD j 0 := ⟨_, rfl⟩
      rw [← hcc] at hc
      have HB : Hid ((c == 125) = true → j < n ∧ bs.getD j 0 = 125) := fun h => ⟨hj, by rw [← hcc]; exact LawfulBEq.eq_of_beq h⟩
      clear hcc
      go_wp2_with fail
      go_meet
      exact ⟨_, rfl, HB, rfl⟩
    · go_wp2_with fail
      go_meet
      exact ⟨false, rfl, (fun h => by cases h), rfl⟩
  case rest =>
    obtain ⟨B, rfl, HB, rfl⟩ := hcut
    cases B with
    | true =>
      obtain ⟨hj, h125⟩ := HB.out rfl
      have HV : Hid (ObjOK bs i (j + 1) 0) := HA.out.empty (by have := hlen.out; omega) h125
      clear HB h125
      go_wp2_with fail
      go_ret3
      exact Ret3.yes w 0 (j + 1) 0 _ _ ⟨HV.out, by omega⟩ (by omega) (by omega)
    | false =>
      clear HB
      go_wp2_with fail
      go_loopw [1, 7] (fun t k wr => ∃ p c : Nat, i < p ∧ c < p ∧ p ≤ n ∧ t = .int .i64 p ∧ k = .int .i64 c ∧ Hid (ObjAt bs i p c) ∧ ∃ m, wr = w.drewN m) (fun t _ _ => n - (RowKit.intOf t).toNat)
      case atStart => exact ⟨j, 0, by omega, by omega, j2, rfl, rfl, HA, 0, rfl⟩
      case round =>
        obtain ⟨p, c, p1, pc, p2, rfl, rfl, HP, m, rfl⟩ := hrel
        clear HA
        by_cases hp : p < n
        · have hc := hT.out.2.2 p hp
          obtain ⟨c0, hcc⟩ : ∃ c0, c0 = bs.getD p 0 := ⟨_, rfl⟩
          rw [← hcc] at hc
          have HC : Hid (c0 = bs.getD p 0) := hcc
          clear hcc
          by_cases e0 : c0 = 34
          · have H34 : Hid (bs.getD p 0 = 34) := by rw [← HC.out]; exact e0
            clear HC
            subst e0
            go_wp2_with fail
            refine (str_any g n p bs _ (hT.out.drewN m) hp).mono ?_
            rintro e w' ⟨q, ok, rfl, HR, m1, hw⟩
            rw [World.drewN_drewN] at hw
            subst hw
            generalize m + m1 = m2 at *
            clear hc
            cases ok with
            | false =>
              clear HR
              go_wp2_with fail
              go_ret3
              exact Ret3.no _ _ _ _
            | true =>
              have hs := HR.out rfl
              have q1 : p + 2 ≤ q := hs.le.1
              have q2 : q ≤ n := by have := hs.le.2; have := hlen.out; omega
              have HQ : Hid (ObjAt bs i q c) := HP.out.ws (by omega) (hs.flat (by have := hlen.out; omega) H34.out)
              clear HR hs HP H34
              go_wp2_with fail
              refine (skip' g n q _ bs _ (hT.out.drewN m2) q2 rfl).mono ?_
              rintro e w' ⟨r, rfl, r1, r2, HF, rfl⟩
              have HR : Hid (ObjAt bs i r c) := HQ.out.ws r1 HF.out
              clear HQ HF
              by_cases hr : r < n
              · have hc := hT.out.2.2 r hr
                have HRr : Hid (r < bs.length) := by have := hlen.out; show r < bs.length; omega
                obtain ⟨c1, hcc⟩ : ∃ c1, c1 = bs.getD r 0 := ⟨_, rfl⟩
                rw [← hcc] at hc
                have HC : Hid (c1 = bs.getD r 0) := hcc
                clear hcc
                by_cases e1 : c1 = 58
                · have HM : Hid (ObjAt bs i (r + 1) c) := HR.out.ws (by omega) (Flat.plain HRr.out (by rw [← HC.out, e1]; simp [JS.plain]))
                  clear HC HR HRr
                  subst e1
                  go_wp2_with fail
                  refine (skip' g n (r + 1) _ bs _ (hT.out.drewN m2) (by omega) (by omega)).mono ?_
                  rintro e w' ⟨s, rfl, s1, s2, HF, rfl⟩
                  have HS : Hid (ObjAt bs i s c) := HM.out.ws s1 HF.out
                  clear HM HF hc
                  go_wp2_with fail
                  refine (hV s _ (hT.out.drewN m2) s2 (by omega)).mono ?_
                  rintro e w' ⟨t, ok, rfl, HR, m3, hw⟩
                  rw [World.drewN_drewN] at hw
                  subst hw
                  generalize m2 + m3 = m4 at *
                  cases ok with
                  | false =>
                    clear HR
                    go_wp2_with fail
                    go_ret3
                    exact Ret3.no _ _ _ _
                  | true =>
                    have hv := HR.out rfl
                    have t1 : s < t := hv.1
                    have t2 : t ≤ n := by have := hv.2.1; have := hlen.out; omega
                    have HQ : Hid (ObjAt bs i t c) := HS.out.val hv
                    clear HR hv HS
                    go_wp2_with fail
                    refine (skip' g n t _ bs _ (hT.out.drewN m4) t2 rfl).mono ?_
                    rintro e w' ⟨u, rfl, u1, u2, HF, rfl⟩
                    have HU : Hid (ObjAt bs i u c) := HQ.out.ws u1 HF.out
                    clear HQ HF
                    by_cases hu : u < n
                    · have hc := hT.out.2.2 u hu
                      have HUu : Hid (u < bs.length) := by have := hlen.out; show u < bs.length; omega
                      obtain ⟨c2, hcc⟩ : ∃ c2, c2 = bs.getD u 0 := ⟨_, rfl⟩
                      rw [← hcc] at hc
                      have HC : Hid (c2 = bs.getD u 0) := hcc
                      clear hcc
                      by_cases e2 : c2 = 125
                      · have HV : Hid (ObjOK bs i (u + 1) (c + 1)) := HU.out.shuts HUu.out (by rw [← HC.out]; exact e2)
                        clear HC HU
                        subst e2
                        go_wp2_with fail
                        go_ret3
                        exact Ret3.yes w _ (u + 1) (c + 1) _ _ ⟨HV.out, by omega⟩ (by omega) (by omega)
                      · have b2 : (c2 == 125) = false := beq_eq_false_iff_ne.2 e2
                        by_cases e3 : c2 = 44
                        · have HM : Hid (ObjAt bs i (u + 1) (c + 1)) := HU.out.comma HUu.out (by rw [← HC.out]; exact e3)
                          clear HC HU e2 b2
                          subst e3
                          go_wp2_with fail
                          refine (skip' g n (u + 1) _ bs _ (hT.out.drewN m4) (by omega) (by omega)).mono ?_
                          rintro e w' ⟨v, rfl, v1, v2, HF, rfl⟩
                          have HW : Hid (ObjAt bs i v (c + 1)) := HM.out.ws v1 HF.out
                          clear HM HF
                          go_wp2_with fail
                          go_roundw
                          case rel => exact ⟨v, c + 1, by omega, by omega, v2, rfl, by go_num, HW, _, rfl⟩
                          case measure => simp [RowKit.intOf]; omega
                        · have b3 : (c2 != 44) = true := by rw [bne_iff_ne]; exact e3
                          clear HC e2 e3
                          go_wp2_with fail
                          go_ret3
                          exact Ret3.no _ _ _ _
                    · go_wp2_with fail
                      go_ret3
                      exact Ret3.no _ _ _ _
                · have b1 : (c1 != 58) = true := by rw [bne_iff_ne]; exact e1
                  clear HC e1
                  go_wp2_with fail
                  go_ret3
                  exact Ret3.no _ _ _ _
              · have bd : decide ((n : Int) ≤ (r : Int)) = true := decide_eq_true (by omega)
                go_wp2_with fail
                go_ret3
                exact Ret3.no _ _ _ _
          · have b0 : (c0 != 34) = true := by rw [bne_iff_ne]; exact e0
            clear HC e0
            go_wp2_with fail
            go_ret3
            exact Ret3.no _ _ _ _
        · go_wp2_with fail
          go_ret3
          exact Ret3.no _ _ _ _
end Go.Proofs.Qxb6000076a
