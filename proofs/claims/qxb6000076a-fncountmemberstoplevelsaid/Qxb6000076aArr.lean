/- Contracts of jsArray, under what jsValue says of shorter rests. -/
import Derived.Test.Qxb6000076aSmall
import Derived.Deep.DeepCutAuto
set_option linter.unusedVariables false
namespace Go.Proofs.Qxb6000076a
open Go.RowKit
open JS (Flat Bal StrOK ValOK ObjOK ArrAt ObjAt Ins sEnd)

/-- what an object's reader answers -/
def Ret3 (bs : List Int) (i : Nat) (w : World) (e : Ending) (w' : World) : Prop := ∃ (j c : Nat) (ok : Bool), e = .returned (.tuple #[.int .i64 j, .int .i64 c, .bool ok]) ∧ Hid (ok = true → ObjOK bs i j c ∧ c ≤ j) ∧ ∃ m, w' = w.drewN m

def SayV (g n : Nat) (bs : List Int) (K : Nat) : Prop := ∀ (i : Nat) (w : World), Hid (Txt w g n bs) → i ≤ n → n - i ≤ K →
  Calls Try.prog 23 #[.slice (some ⟨g, 0, none⟩) n n, .int .i64 i] w fun e w' => Ret2 (ValOK bs i) w e w'
def SayA (g n : Nat) (bs : List Int) (K : Nat) : Prop := ∀ (i : Nat) (w : World), Hid (Txt w g n bs) → i < n → Hid (bs.getD i 0 = 91) → n - i ≤ K →
  Calls Try.prog 24 #[.slice (some ⟨g, 0, none⟩) n n, .int .i64 i] w fun e w' => Ret2 (ValOK bs i) w e w'
def SayO (g n : Nat) (bs : List Int) (K : Nat) : Prop := ∀ (i : Nat) (w : World), Hid (Txt w g n bs) → i < n → Hid (bs.getD i 0 = 123) → n - i ≤ K →
  Calls Try.prog 20 #[.slice (some ⟨g, 0, none⟩) n n, .int .i64 i] w fun e w' => Ret3 bs i w e w'

theorem skip' (g n i : Nat) (x : Int) (bs : List Int) (w : World) (hT : Hid (Txt w g n bs)) (hi : i ≤ n) (hx : x = (i : Int)) :
    Calls Try.prog 19 #[.slice (some ⟨g, 0, none⟩) n n, .int .i64 x] w fun e w' => ∃ j : Nat, e = .returned (.int .i64 j) ∧ i ≤ j ∧ j ≤ n ∧ Hid (Flat bs i j) ∧ w = w' := by
  subst hx
  exact skip g n i bs w hT hi

set_option maxHeartbeats 8000000 in
set_option maxRecDepth 100000 in
theorem arr_step (g n K : Nat) (bs : List Int) (hV : SayV g n bs K) : SayA g n bs (K + 1) := by
  intro i w hT hi h91 hK
  have hn := hT.out.2.1
  have hlen : Hid (bs.length = n) := hT.out.1
  go_enter Try.func24, Try.ntmps24
  go_wp2_with fail
  refine (skip' g n (i + 1) _ bs _ hT (by omega) (by omega)).mono ?_
  rintro e w' ⟨j, rfl, j1, j2, HF, rfl⟩
  have HA : Hid (ArrAt bs i j) := ArrAt.opens (by have := hlen.out; omega) h91.out j1 HF.out
  clear HF
  go_upto_region 2 with fail
  go_cut [21] (fun t wc => ∃ B : Bool, t = .bool B ∧ Hid (B = true → j < n ∧ bs.getD j 0 = 93) ∧ w = wc)
  case first =>
    by_cases hj : j < n
    · have hc := hT.out.2.2 j hj
      obtain ⟨c, hcc⟩ : ∃ c, c = bs.getD j 0 := ⟨_, rfl⟩
      rw [← hcc] at hc
      have HB : Hid ((c == 93) = true → j < n ∧ bs.getD j 0 = 93) := fun h => ⟨hj, by rw [← hcc]; exact LawfulBEq.eq_of_beq h⟩
      clear hcc
      go_wp2_with fail
      go_meet
      exact ⟨_, rfl, HB, rfl⟩
    · go_wp2_with fail
      go_meet
      exact ⟨false, rfl, (fun h => by cases h), rfl⟩
  case rest =>
    obtain ⟨B, rfl, HB, rfl⟩ := hcut
    cases B with
    | true =>
      obtain ⟨hj, h93⟩ := HB.out rfl
      have HV : Hid (ValOK bs i (j + 1)) := HA.out.shuts (by have := hlen.out; omega) h93
      clear HB h93
      go_wp2_with fail
      go_ret2
      exact Ret2.yes w 0 (j + 1) _ HV.out (by omega)
    | false =>
      clear HB
      go_wp2_with fail
      go_loopw [1] (fun t wr => ∃ p : Nat, i < p ∧ p ≤ n ∧ t = .int .i64 p ∧ Hid (ArrAt bs i p) ∧ ∃ m, wr = w.drewN m) (fun t _ => n - (RowKit.intOf t).toNat)
      case atStart => exact ⟨j, by omega, j2, rfl, HA, 0, rfl⟩
      case round =>
        obtain ⟨p, p1, p2, rfl, HP, m, rfl⟩ := hrel
        clear HA
        by_cases hp : p < n
        · go_wp2_with fail
          refine (hV p _ (hT.out.drewN m) (by omega) (by omega)).mono ?_
          rintro e w' ⟨q, ok, rfl, HR, m1, hw⟩
          rw [World.drewN_drewN] at hw
          subst hw
          generalize m + m1 = m2 at *
          cases ok with
          | false =>
            clear HR
            go_wp2_with fail
            go_ret2
            exact ⟨0, false, rfl, (fun h => by cases h), _, rfl⟩
          | true =>
            have hv := HR.out rfl
            have q1 : p < q := hv.1
            have q2 : q ≤ n := by have := hv.2.1; have := hlen.out; omega
            have HQ : Hid (ArrAt bs i q) := HP.out.elem hv
            clear HR hv HP
            go_wp2_with fail
            refine (skip' g n q _ bs _ (hT.out.drewN m2) q2 rfl).mono ?_
            rintro e w' ⟨r, rfl, r1, r2, HF, rfl⟩
            have HR : Hid (ArrAt bs i r) := HQ.out.ws r1 HF.out
            clear HQ HF
            by_cases hr : r < n
            · have hc := hT.out.2.2 r hr
              have HRr : Hid (r < bs.length) := by have := hlen.out; show r < bs.length; omega
              obtain ⟨c, hcc⟩ : ∃ c, c = bs.getD r 0 := ⟨_, rfl⟩
              rw [← hcc] at hc
              have HC : Hid (c = bs.getD r 0) := hcc
              clear hcc
              by_cases e1 : c = 93
              · have HV : Hid (ValOK bs i (r + 1)) := HR.out.shuts HRr.out (by rw [← HC.out]; exact e1)
                clear HC
                subst e1
                go_wp2_with fail
                go_ret2
                exact ⟨r + 1, true, by simp, fun _ => HV.out, _, rfl⟩
              · have b1 : (c == 93) = false := beq_eq_false_iff_ne.2 e1
                by_cases e2 : c = 44
                · have HM : Hid (ArrAt bs i (r + 1)) := HR.out.comma HRr.out (by rw [← HC.out]; exact e2)
                  clear HC e1 b1 HR
                  subst e2
                  go_wp2_with fail
                  refine (skip' g n (r + 1) _ bs _ (hT.out.drewN m2) (by omega) (by omega)).mono ?_
                  rintro e w' ⟨s, rfl, s1, s2, HF, rfl⟩
                  have HS : Hid (ArrAt bs i s) := HM.out.ws s1 HF.out
                  clear HM HF
                  go_wp2_with fail
                  go_roundw
                  case rel => exact ⟨s, by omega, s2, rfl, HS, _, rfl⟩
                  case measure => simp [RowKit.intOf]; omega
                · have b2 : (c != 44) = true := by rw [bne_iff_ne]; exact e2
                  clear HC e1 e2
                  go_wp2_with fail
                  go_ret2
                  exact ⟨0, false, rfl, (fun h => by cases h), _, rfl⟩
            · go_wp2_with fail
              go_ret2
              exact ⟨0, false, rfl, (fun h => by cases h), _, rfl⟩
        · go_wp2_with fail
          go_ret2
          exact ⟨0, false, rfl, (fun h => by cases h), _, rfl⟩
end Go.Proofs.Qxb6000076a
