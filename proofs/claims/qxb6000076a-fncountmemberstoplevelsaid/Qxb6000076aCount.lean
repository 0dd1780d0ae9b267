/- Contract of countMembers: where the scanner comes through to the end, it answers what the scanner has counted. -/
import Derived.Test.Qxb6000076aSmall
set_option linter.unusedVariables false
namespace Go.Proofs.Qxb6000076a
open Go.RowKit
open JS (Flat Bal StrOK ValOK ObjOK ArrAt ObjAt Ins sEnd)

theorem sEnd_step {b : List Int} {f q e : Nat} (h : sEnd b f q = some e) : q < b.length ∧ ((b.getD q 0 = 34 ∧ e = q) ∨ (b.getD q 0 ≠ 34 ∧ b.getD q 0 = 92 ∧ ∃ f', sEnd b f' (q + 2) = some e) ∨ (b.getD q 0 ≠ 34 ∧ b.getD q 0 ≠ 92 ∧ ∃ f', sEnd b f' (q + 1) = some e)) := by
  cases f with
  | zero => simp [sEnd] at h
  | succ f =>
    unfold sEnd at h
    split at h
    · cases h
    · rename_i h0
      refine ⟨by omega, ?_⟩
      split at h
      · rename_i h1
        injection h with h
        exact .inl ⟨h1, h.symm⟩
      · rename_i h1
        split at h
        · rename_i h2
          exact .inr (.inl ⟨h1, h2, f, h⟩)
        · rename_i h2
          exact .inr (.inr ⟨h1, h2, f, h⟩)

set_option maxHeartbeats 8000000 in
set_option maxRecDepth 100000 in
theorem count_any (g n k0 : Nat) (bs : List Int) (dF nF : Int) (w : World) (hT : Hid (Txt w g n bs)) (hR : Hid (JS.Rnds bs k0 ⟨0, 0, 1⟩ ⟨n, dF, nF⟩)) :
    Calls Try.prog 21 #[.slice (some ⟨g, 0, none⟩) n n] w fun e w' => e = .returned (.int .i64 nF) ∧ w = w' := by
  have hn := hT.out.2.1
  have hlen : Hid (bs.length = n) := hT.out.1
  go_enter Try.func21, Try.ntmps21
  go_wp2_with fail
  go_loop [3, 4, 5] (fun t3 t4 t5 => ∃ (k p : Nat) (d x : Int), p ≤ n ∧ -(p : Int) ≤ d ∧ d ≤ p ∧ 1 ≤ x ∧ x ≤ p + 1 ∧ t3 = .int .i64 x ∧ t4 = .int .i64 d ∧ t5 = .int .i64 p ∧ Hid (JS.Rnds bs k ⟨p, d, x⟩ ⟨n, dF, nF⟩)) (fun _ _ t => n - (RowKit.intOf t).toNat)
  case atStart => exact ⟨k0, 0, 0, 1, by omega, by omega, by omega, by omega, by omega, rfl, rfl, rfl, hR⟩
  case round =>
    obtain ⟨k1, p, d, x, hp, d1, d2, x1, x2, rfl, rfl, rfl, HN0⟩ := hrel
    clear hR
    by_cases hpn : p < n
    · have hc := hT.out.2.2 p hpn
      obtain ⟨k, t, HS, HN⟩ : ∃ k t, Hid (JS.Step bs ⟨p, d, x⟩ t) ∧ Hid (JS.Rnds bs k t ⟨n, dF, nF⟩) := by
        have h := HN0.out
        cases k1 with
        | zero =>
          have h2 : (⟨p, d, x⟩ : JS.S) = ⟨n, dF, nF⟩ := h
          have h3 : p = n := congrArg JS.S.i h2
          omega
        | succ k =>
          obtain ⟨t, a, b⟩ := h
          exact ⟨k, t, a, b⟩
      clear HN0
      obtain ⟨ti, td, tn⟩ := t
      obtain ⟨_, hs⟩ := HS.out
      clear HS
      simp only at hs
      obtain ⟨c, hcc⟩ : ∃ c, c = bs.getD p 0 := ⟨_, rfl⟩
      rw [← hcc] at hc hs
      clear hcc
      rcases hs with ⟨rfl, rfl, rfl, f, e, he, rfl⟩ | ⟨h1, rfl, rfl, rfl⟩ | ⟨h1, rfl, rfl, rfl⟩ | ⟨rfl, rfl, rfl, h2⟩ | ⟨h1, h2, h3, h4, h5, h6, rfl, rfl, rfl⟩
      · -- a string
        have HE : Hid (sEnd bs f (p + 1) = some e) := he
        have e1 := JS.sEnd_lt bs f _ e he
        have e2 : e < n := by have := hlen.out; omega
        have e3 : p + 1 ≤ e := e1.1
        clear he e1
        go_wp2_with fail
        go_loop [5] (fun t => ∃ (q f' : Nat), p + 1 ≤ q ∧ q ≤ e ∧ t = .int .i64 q ∧ Hid (sEnd bs f' q = some e)) (fun t => n - (RowKit.intOf t).toNat)
        case atStart => exact ⟨p + 1, f, by omega, by omega, by go_num, HE⟩
        case round =>
          obtain ⟨q, f', q1, q2, rfl, HQ⟩ := hrel
          have hcq := hT.out.2.2 q (by omega)
          obtain ⟨_, hq⟩ := sEnd_step HQ.out
          clear HQ HE
          obtain ⟨cq, hcc⟩ : ∃ c, c = bs.getD q 0 := ⟨_, rfl⟩
          rw [← hcc] at hcq hq
          clear hcc
          rcases hq with ⟨rfl, h5⟩ | ⟨_, rfl, f2, h5⟩ | ⟨h6, h7, f2, h5⟩
          · have hee : Hid (e = q) := h5
            clear h5
            go_wp2_with fail
            go_round
            case rel => exact ⟨k, q + 1, td, tn, by omega, by omega, by omega, by omega, by omega, rfl, rfl, by go_num, by rw [← hee.out]; exact HN⟩
            case measure => simp [RowKit.intOf]; omega
          · have h8 := JS.sEnd_lt bs f2 _ e h5
            have h9 : q + 2 ≤ e := h8.1
            have HQ2 : Hid (sEnd bs f2 (q + 2) = some e) := h5
            clear h5 h8
            go_wp2_with fail
            go_round
            case rel => exact ⟨q + 2, f2, by omega, by omega, by go_num, HQ2⟩
            case measure => simp [RowKit.intOf]; omega
          · have h8 := JS.sEnd_lt bs f2 _ e h5
            have h9 : q + 1 ≤ e := h8.1
            have HQ2 : Hid (sEnd bs f2 (q + 1) = some e) := h5
            have b1 : (cq != 34) = true := by rw [bne_iff_ne]; exact h6
            have b2 : (cq == 92) = false := beq_eq_false_iff_ne.2 h7
            clear h5 h8 h6 h7
            go_wp2_with fail
            go_round
            case rel => exact ⟨q + 1, f2, by omega, by omega, by go_num, HQ2⟩
            case measure => simp [RowKit.intOf]; omega
      · rcases h1 with rfl | rfl
        · go_wp2_with fail
          go_round
          case rel => exact ⟨k, p + 1, d + 1, tn, by omega, by omega, by omega, by omega, by omega, rfl, rfl, by go_num, HN⟩
          case measure => simp [RowKit.intOf]; omega
        · go_wp2_with fail
          go_round
          case rel => exact ⟨k, p + 1, d + 1, tn, by omega, by omega, by omega, by omega, by omega, rfl, rfl, by go_num, HN⟩
          case measure => simp [RowKit.intOf]; omega
      · rcases h1 with rfl | rfl
        · go_wp2_with fail
          go_round
          case rel => exact ⟨k, p + 1, d - 1, tn, by omega, by omega, by omega, by omega, by omega, rfl, rfl, by go_num, HN⟩
          case measure => simp [RowKit.intOf]; omega
        · go_wp2_with fail
          go_round
          case rel => exact ⟨k, p + 1, d - 1, tn, by omega, by omega, by omega, by omega, by omega, rfl, rfl, by go_num, HN⟩
          case measure => simp [RowKit.intOf]; omega
      · by_cases hd : td = 1
        · rw [if_pos hd] at h2
          have hb : (td == 1) = true := by rw [hd]; rfl
          subst h2
          clear hd
          go_wp2_with fail
          go_round
          case rel => exact ⟨k, p + 1, td, x + 1, by omega, by omega, by omega, by omega, by omega, rfl, rfl, by go_num, HN⟩
          case measure => simp [RowKit.intOf]; omega
        · rw [if_neg hd] at h2
          have hb : (td == 1) = false := beq_eq_false_iff_ne.2 hd
          subst h2
          clear hd
          go_wp2_with fail
          go_round
          case rel => exact ⟨k, p + 1, td, tn, by omega, by omega, by omega, by omega, by omega, rfl, rfl, by go_num, HN⟩
          case measure => simp [RowKit.intOf]; omega
      · have b1 : (c == 34) = false := beq_eq_false_iff_ne.2 h1
        have b2 : (c == 123) = false := beq_eq_false_iff_ne.2 h2
        have b3 : (c == 91) = false := beq_eq_false_iff_ne.2 h3
        have b4 : (c == 125) = false := beq_eq_false_iff_ne.2 h4
        have b5 : (c == 93) = false := beq_eq_false_iff_ne.2 h5
        have b6 : (c == 44) = false := beq_eq_false_iff_ne.2 h6
        clear h1 h2 h3 h4 h5 h6
        go_wp2_with fail
        go_round
        case rel => exact ⟨k, p + 1, td, tn, by omega, by omega, by omega, by omega, by omega, rfl, rfl, by go_num, HN⟩
        case measure => simp [RowKit.intOf]; omega
    · have hx : x = nF := by
        have h := HN0.out
        cases k1 with
        | zero =>
          have h2 : (⟨p, d, x⟩ : JS.S) = ⟨n, dF, nF⟩ := h
          exact congrArg JS.S.n h2
        | succ k =>
          obtain ⟨t, a, _⟩ := h
          have h3 : p < bs.length := a.1
          have := hlen.out
          omega
      clear HN0
      subst hx
      go_wp2_with fail
      go_ret
      exact ⟨rfl, rfl⟩
end Go.Proofs.Qxb6000076a
