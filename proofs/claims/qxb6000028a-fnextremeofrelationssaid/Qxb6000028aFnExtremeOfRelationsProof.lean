/- 'Rows.FnExtremeOfRelationsSaid', proved: the frame is the guide's. -/
import Derived.Test.Qxb6000028aRows
import Derived.WalkKit
import Derived.WalkSpells
import Derived.WalkLawsBesides
import Derived.ProofKit
import Derived.OpenShut
import Derived.ShutString
namespace Go.Proofs.Qxb6000028a.fnExtremeOfRelations
open Go.ChangeShapes Go.WideShapes Go.ChangeAt Go.RowKit
open Go.ChangeMaps (open_string shut_string)
set_option linter.unusedSimpArgs false
set_option linter.unusedVariables false      -- a walk need not use every 'w<i>' (that an integer argument fits its kind)

theorem own : ownKnob Try.prog.godebug = none := by kernel_rfl

/-! ### contracts of the callees -/
set_option maxHeartbeats 800000 in
theorem bytes13 (a : ByteArray) (w : World) (h : a.size ≤ 1048576) : Calls Try.prog 13 #[.string a] w fun e w' => e = .returned (.bool true) ∧ w = w' := by
  go_enter Try.func13, Try.ntmps13
  go_wp2
  go_ret
  exact ⟨rfl, rfl⟩
set_option maxHeartbeats 800000 in
theorem bytes13n (a : ByteArray) (w : World) (h : ¬ a.size ≤ 1048576) (hm : a.size ≤ 9223372036854775807) : Calls Try.prog 13 #[.string a] w fun e w' => e = .returned (.bool false) ∧ w = w' := by
  go_enter Try.func13, Try.ntmps13
  go_wp2
  go_ret
  exact ⟨rfl, rfl⟩

set_option maxHeartbeats 800000 in
theorem of_inf (a : ByteArray) (s : Int) (w : World) (h1 : (a.toList == [105, 110, 102, 105, 110, 105, 116, 121]) = true) (h2 : (a.toList == [45, 105, 110, 102, 105, 110, 105, 116, 121]) = false) (h3 : (a.toList == [50, 52, 58, 48, 48, 58, 48, 48]) = false) :
    Calls Try.prog 14 #[.string a, .int .i64 s] w fun e w' => e = .returned (.bool (s == 5 || s == 7)) ∧ w = w' := by
  by_cases h5 : s = 5
  · subst h5
    go_enter Try.func14, Try.ntmps14
    go_wp2
    go_ret
    exact ⟨rfl, rfl⟩
  · have h5b : (s == 5) = false := beq_eq_false_iff_ne.2 h5
    go_enter Try.func14, Try.ntmps14
    go_wp2
    go_ret
    exact ⟨by simp [h5b], rfl⟩

set_option maxHeartbeats 800000 in
theorem of_ninf (a : ByteArray) (s : Int) (w : World) (h1 : (a.toList == [105, 110, 102, 105, 110, 105, 116, 121]) = false) (h2 : (a.toList == [45, 105, 110, 102, 105, 110, 105, 116, 121]) = true) (h3 : (a.toList == [50, 52, 58, 48, 48, 58, 48, 48]) = false) :
    Calls Try.prog 14 #[.string a, .int .i64 s] w fun e w' => e = .returned (.bool (s == 5 || s == 7)) ∧ w = w' := by
  by_cases h5 : s = 5
  · subst h5
    go_enter Try.func14, Try.ntmps14
    go_wp2
    go_ret
    exact ⟨rfl, rfl⟩
  · have h5b : (s == 5) = false := beq_eq_false_iff_ne.2 h5
    go_enter Try.func14, Try.ntmps14
    go_wp2
    go_ret
    exact ⟨by simp [h5b], rfl⟩

set_option maxHeartbeats 800000 in
theorem of_eod (a : ByteArray) (s : Int) (w : World) (h1 : (a.toList == [105, 110, 102, 105, 110, 105, 116, 121]) = false) (h2 : (a.toList == [45, 105, 110, 102, 105, 110, 105, 116, 121]) = false) (h3 : (a.toList == [50, 52, 58, 48, 48, 58, 48, 48]) = true) :
    Calls Try.prog 14 #[.string a, .int .i64 s] w fun e w' => e = .returned (.bool (s == 6)) ∧ w = w' := by
  by_cases h5 : s = 5
  · subst h5
    go_enter Try.func14, Try.ntmps14
    go_wp2
    go_ret
    exact ⟨rfl, rfl⟩
  · have h5b : (s == 5) = false := beq_eq_false_iff_ne.2 h5
    go_enter Try.func14, Try.ntmps14
    go_wp2
    go_ret
    exact ⟨by simp [h5b], rfl⟩

set_option maxHeartbeats 800000 in
theorem of_none (a : ByteArray) (s : Int) (w : World) (h1 : (a.toList == [105, 110, 102, 105, 110, 105, 116, 121]) = false) (h2 : (a.toList == [45, 105, 110, 102, 105, 110, 105, 116, 121]) = false) (h3 : (a.toList == [50, 52, 58, 48, 48, 58, 48, 48]) = false) :
    Calls Try.prog 14 #[.string a, .int .i64 s] w fun e w' => e = .returned (.bool (false)) ∧ w = w' := by
  by_cases h5 : s = 5
  · subst h5
    go_enter Try.func14, Try.ntmps14
    go_wp2
    go_ret
    exact ⟨rfl, rfl⟩
  · have h5b : (s == 5) = false := beq_eq_false_iff_ne.2 h5
    go_enter Try.func14, Try.ntmps14
    go_wp2
    go_ret
    exact ⟨by simp [h5b], rfl⟩

/-! ### THE WALK: the Go text returns true. -/
set_option maxHeartbeats 800000 in
theorem walk (a0 : ByteArray) (w0 : a0.size ≤ maxLen) (w : World) :
    Calls Try.prog 5 #[.string a0] w fun e w' => e = .returned (.bool true) ∧ Grown w w' := by
  unfold maxLen at w0
  by_cases c1 : a0.size ≤ 1048576
  · by_cases c2 : a0.size ≤ 65536
    · cases h1 : (a0.toList == [105, 110, 102, 105, 110, 105, 116, 121]) with
      | true =>
        have e := LawfulBEq.eq_of_beq h1
        have h2 : (a0.toList == [45, 105, 110, 102, 105, 110, 105, 116, 121]) = false := by rw [e]; decide
        have h3 : (a0.toList == [50, 52, 58, 48, 48, 58, 48, 48]) = false := by rw [e]; decide
        clear e
        go_enter Try.func5, Try.ntmps5
        go_wp2_with (first | (go_at_call 13; refine (bytes13 _ _ c1).mono ?_; rintro e w' ⟨rfl, rfl⟩) | (go_at_call 14; refine (of_inf _ _ _ h1 h2 h3).mono ?_; rintro e w' ⟨rfl, rfl⟩))
        go_ret
        exact ⟨rfl, by repeat (first | exact Grown.refl _ | apply Grown.drew | apply Grown.alloc)⟩
      | false =>
        cases h2 : (a0.toList == [45, 105, 110, 102, 105, 110, 105, 116, 121]) with
        | true =>
          have e := LawfulBEq.eq_of_beq h2
          have h3 : (a0.toList == [50, 52, 58, 48, 48, 58, 48, 48]) = false := by rw [e]; decide
          clear e
          go_enter Try.func5, Try.ntmps5
          go_wp2_with (first | (go_at_call 13; refine (bytes13 _ _ c1).mono ?_; rintro e w' ⟨rfl, rfl⟩) | (go_at_call 14; refine (of_ninf _ _ _ h1 h2 h3).mono ?_; rintro e w' ⟨rfl, rfl⟩))
          go_ret
          exact ⟨rfl, by repeat (first | exact Grown.refl _ | apply Grown.drew | apply Grown.alloc)⟩
        | false =>
          cases h3 : (a0.toList == [50, 52, 58, 48, 48, 58, 48, 48]) with
          | true =>
            go_enter Try.func5, Try.ntmps5
            go_wp2_with (first | (go_at_call 13; refine (bytes13 _ _ c1).mono ?_; rintro e w' ⟨rfl, rfl⟩) | (go_at_call 14; refine (of_eod _ _ _ h1 h2 h3).mono ?_; rintro e w' ⟨rfl, rfl⟩))
            go_ret
            exact ⟨rfl, by repeat (first | exact Grown.refl _ | apply Grown.drew | apply Grown.alloc)⟩
          | false =>
            go_enter Try.func5, Try.ntmps5
            go_wp2_with (first | (go_at_call 13; refine (bytes13 _ _ c1).mono ?_; rintro e w' ⟨rfl, rfl⟩) | (go_at_call 14; refine (of_none _ _ _ h1 h2 h3).mono ?_; rintro e w' ⟨rfl, rfl⟩))
            go_ret
            exact ⟨rfl, by repeat (first | exact Grown.refl _ | apply Grown.drew | apply Grown.alloc)⟩
    · go_enter Try.func5, Try.ntmps5
      go_wp2_with (go_at_call 13; refine (bytes13 _ _ c1).mono ?_; rintro e w' ⟨rfl, rfl⟩)
      go_ret
      exact ⟨rfl, by repeat (first | exact Grown.refl _ | apply Grown.drew | apply Grown.alloc)⟩
  · go_enter Try.func5, Try.ntmps5
    go_wp2_with (go_at_call 13; refine (bytes13n _ _ c1 w0).mono ?_; rintro e w' ⟨rfl, rfl⟩)
    go_ret
    exact ⟨rfl, by repeat (first | exact Grown.refl _ | apply Grown.drew | apply Grown.alloc)⟩

/-! ### THE ROW's STEP: WRITTEN OUT: LEAVE IT -/
set_option maxRecDepth 100000 in
theorem lifted (os : Os) (started : os.Started) (H : Type) (enc : TypeId × Value → H) :
    ReturnsInHanded {} Try.checked os 5 .any (Rows.fnExtremeOfRelationsSpec.pre6 enc Try.prog Try.f5 Rows.fnExtremeOfRelationsRow.domain false) (Rows.fnExtremeOfRelationsSpec.post enc Try.prog Try.f5 false true false false) := by
  refine returnsInHanded_of_change (C := Try.checked) own started (by kernel_rfl) Try.func5
    (ChangeSpec.witness6 (enc := enc) (C := Try.checked) false ⟨#[], #[.string ByteArray.empty], []⟩ 8 (by kernel_rfl) (by kernel_rfl) (by kernel_rfl) (by kernel_rfl)) ?_
  intro W base args ds gs before hval0 hW hcnd _
  have hval : ∀ (j : Nat) t v, Try.f5.params[j]? = some t → args[j]? = some v → Value.okWide Try.prog W .any base t v := hval0
  have hW' := hW
  obtain ⟨p, q, hA0, hV, rfl, hfz, hnd⟩ := hW
  have hA : DataW.TrodAll enc Try.prog W 0 (fun _ => true) true Try.f5.params.toList args.toList ds p := hA0
  rw [Try.params5] at hA hval
  obtain ⟨v0, vs0, d0, ds0, p0, q0, hargs, rfl, rfl, h0, r0⟩ := trodAll_cons hA
  obtain ⟨rfl, rfl, rfl⟩ := trodAll_nil r0
  obtain rfl : args = #[v0] := by cases args; simp_all
  obtain ⟨rfl, rfl⟩ := trodVars_none hV
  obtain ⟨a0, rfl, rfl, rfl, w0⟩ := open_string Try.underlying9 (hval 0 9 v0 rfl rfl) h0
  clear hA0 hval0
  simp only [List.append_nil] at hW'
  refine (walk a0 w0 W).mono fun e W' ⟨he, hg⟩ => ?_
  subst he
  exact ⟨_, rfl, post_of_same (pa := []) (pv := []) hW' (fun _ _ _ => (trodAll_cons_mk (shut_bool Try.underlying4 _) trodAll_mk0)) (fun sp _ => (trodAll_cons_mk (shut_string Try.underlying9 w0) trodAll_mk0)) (fun _ _ => rfl) rfl
    (hg.frame _) hg.2.1 (ok_one (by kernel_rfl) rfl (okWide_bool_mk Try.underlying4 _))⟩

theorem over : Rows.fnExtremeOfRelationsRow.holds Try.pinned (OpenSpec.ofChange Rows.fnExtremeOfRelationsSpec) :=
  OpenClaim.holds_of_wide 5 Try.f5 rfl rfl rfl rfl rfl rfl rfl ⟨rfl, rfl, rfl, rfl, rfl⟩ rfl rfl rfl rfl rfl (by kernel_rfl) Try.func5 (by kernel_rfl)
    (of_decide_eq_true (by kernel_rfl)) (by unfold Func.isWrapper; first | (rw [if_pos (by decide +kernel)]; kernel_rfl) | (rw [if_neg (by decide +kernel)]; exact ⟨rfl, rfl⟩))
    (fun os started H enc _ => lifted os started H enc)

/-- ████ THE STATEMENT ████ -/
theorem proved : Rows.FnExtremeOfRelationsSaid :=
  over
#print axioms proved
end Go.Proofs.Qxb6000028a.fnExtremeOfRelations
