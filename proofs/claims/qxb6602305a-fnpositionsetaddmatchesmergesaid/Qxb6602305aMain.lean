/- The walk of FnPositionSetAddMatchesMerge, where it comes to the set. -/
import Derived.Test.Qxb6602305aMerge
set_option linter.unusedVariables false
namespace Go.Proofs.Qxb6602305a
open Go.RowKit Go.Lib

theorem PM.idx_le (ps : List Int) (w : Int) (j : Nat) : PM.idx ps w j ≤ j + 1 := by
  unfold PM.idx; split <;> omega
theorem PM.idx_ge (ps : List Int) (w : Int) (j : Nat) : j ≤ PM.idx ps w j := by
  unfold PM.idx; split <;> omega

/-- increasing up to place k -/
def IncTo (ps : List Int) (k : Nat) : Prop := ∀ j, 0 < j → j < k → ps.getD (j - 1) 0 < ps.getD j 0
theorem incTo_inc (ps : List Int) (h : IncTo ps ps.length) : PM.Inc ps := by
  have h2 : ∀ d i, i + d + 1 < ps.length → ps.getD i 0 < ps.getD (i + d + 1) 0 := by
    intro d
    induction d with
    | zero => intro i hi; exact h (i + 1) (by omega) (by omega)
    | succ d ih =>
      intro i hi
      have a := ih i (by omega)
      have b := h (i + d + 2) (by omega) (by omega)
      have e : i + d + 2 - 1 = i + d + 1 := by omega
      rw [e] at b
      have e2 : i + (d + 1) + 1 = i + d + 2 := by omega
      rw [e2]
      omega
  refine List.pairwise_iff_getElem.2 fun i j hi hj hij => ?_
  have := h2 (j - i - 1) i (by omega)
  rw [show i + (j - i - 1) + 1 = j by omega] at this
  simpa [List.getD, List.getElem?_eq_getElem hi, List.getElem?_eq_getElem hj] using this

theorem fin_below {w wB wf w3 : World} {aw : Option Addr} {n m : Nat} {ws : List Int} (GB : w.grownBy wB none) (hb : Below wB.heap.size wB wf) (G3 : wf.grownBy w3 (Value.slice aw n n).ownBlock)
    (oW : wB.ownsRow w.heap.size 33 1 (.slice aw n n) n (ws.map (Value.int .u64))) : Below w.heap.size w (w3.drewN m) := by
  have h1 := (below_of_grown GB).trans (hb.mono GB.size)
  have h2 := h1.grown G3 h1.size (fun k hk => (oW.lt k hk).1)
  exact ⟨h2.os, h2.tape, h2.output, h2.size, h2.block⟩

theorem inv_start {wB w1 w2 : World} {cap : Nat} (o1 : w1.ownsRow wB.heap.size 21 1 (.slice (some ⟨wB.heap.size, 0, none⟩) 0 cap) 0 []) (g1 : wB.grownBy w1 none)
    (o2 : w2.ownsRow wB.heap.size 33 1 (.slice (some ⟨w1.heap.size, 0, none⟩) 0 cap) 0 []) (g2 : w1.grownBy w2 none) : Inv wB.heap.size wB w2 wB.heap.size w1.heap.size 0 0 cap [] [] :=
  ⟨own_far o1 g2, o2, below_of_grown (gT g1 g2)⟩

theorem own_at {w : World} {base e g n c : Nat} {k : IntKind} {zs : List Int} {m : Nat} (h : w.ownsRow base e 1 (.slice (some ⟨g, 0, none⟩) n c) n (zs.map (Value.int k))) (j : Nat) (hj : j < n) : (w.drewN m).cell? ⟨g, j, none⟩ = some (.int k (zs.getD j 0)) := own_cell h j hj

set_option maxHeartbeats 4000000 in
set_option maxRecDepth 100000 in
theorem main_walk (a0 : Option Addr) (n cap0 : Nat) (a1 : Option Addr) (cap1 : Nat) (ps ws : List Int) (i q r bit : Int) (w : World)
    (hi : 0 ≤ i) (hq : i / 64 = q) (hr : bits BinOp.and .i64 i 63 = r) (hq0 : 0 ≤ q) (hq1 : q ≤ 2147483647) (hr0 : 0 ≤ r) (hr1 : r ≤ 63) (hbit : IntKind.u64.wrap (2 ^ r.toNat) = bit)
    (hn : n ≤ 65536) (hP : Hid (InRow .i32 w a0 n ps)) (hW : Hid (InRow .u64 w a1 n ws)) (hc0 : Hid (a0 = none → cap0 = 0)) (hc1 : Hid (a1 = none → cap1 = 0)) :
    Calls Try.prog 6 #[.slice a0 n cap0, .slice a1 n cap1, .int .i64 i] w fun e w' => e = .returned (.bool true) ∧ Below w.heap.size w w' := by
  obtain ⟨i0, hi0, hz0, hz1, hz2⟩ := info_parts info21
  obtain ⟨i1, hi1, hy0, hy1, hy2⟩ := info_parts info33
  have HC : Hid (∀ w, Calls Try.prog 15 #[.slice a0 n cap0, .slice a1 n cap1, .int .i64 i] w fun e w' => e = .returned (.bool true) ∧ w = w') := by
    intro w
    have := bytes15 a0 n cap0 a1 n cap1 i w (by omega) (by omega)
    rw [show fitsB n n = true from decide_eq_true (by omega)] at this
    exact this.mono fun e w' h => ⟨h.1, h.2.symm⟩
  have hpl : Hid (ps.length = n) := hP.out.1
  have HQ : Hid (i / 64 = q ∧ bits BinOp.and .i64 i 63 = r ∧ IntKind.u64.wrap (2 ^ r.toNat) = bit) := ⟨hq, hr, hbit⟩
  have hcell : Hid (∀ j, j < n → ∃ b o s, a0 = some ⟨b, o, s⟩ ∧ w.cell? ((⟨b, o, s⟩ : Addr).add j) = some (.int .i32 (ps.getD j 0))) := by
    intro j hj
    cases a0 with
    | none => have := hP.out.2.1 rfl; omega
    | some x => obtain ⟨b, o, s⟩ := x; exact ⟨b, o, s, rfl, hP.out.2.2 _ rfl j hj⟩
  go_enter Try.func6, Try.ntmps6
  go_wp2_with (go_at_call 15; refine (HC.out _).mono ?_; rintro e w' ⟨rfl, rfl⟩)
  go_loopw [7] (fun t wr => ∃ k : Nat, 1 ≤ k ∧ (k ≤ n ∨ k = 1) ∧ t = .int .i64 k ∧ Hid (IncTo ps k) ∧ ∃ m, wr = w.drewN m) (fun t _ => n - (RowKit.intOf t).toNat)
  case atStart => exact ⟨1, Nat.le_refl _, .inr rfl, rfl, fun j h1 h2 => by omega, 0, rfl⟩
  case round =>
    obtain ⟨k, hk1, hk2, rfl, hinc, m, rfl⟩ := hrel
    by_cases hkn : k < n
    · obtain ⟨b, o, s, ha, hca⟩ := hcell.out (k - 1) (by omega)
      obtain ⟨b', o', s', ha', hcb⟩ := hcell.out k (by omega)
      rw [ha] at ha'
      obtain ⟨rfl, rfl, rfl⟩ : b = b' ∧ o = o' ∧ s = s' := by simpa using ha'
      subst ha
      have hkk : ((k : Int) - 1).toNat = k - 1 := by omega
      have hb1 : (0 : Int) ≤ (k : Int) - 1 := by omega
      have hb2 : (k : Int) - 1 < (n : Int) := by omega
      have hb3 : (k : Int) < (n : Int) := by omega
      have hb0 : (1 : Int) ≤ (k : Int) := by omega
      generalize hx : ps.getD (k - 1) 0 = x at hca
      generalize hy : ps.getD k 0 = y at hcb
      have HX : Hid (ps.getD (k - 1) 0 = x ∧ ps.getD k 0 = y) := ⟨hx, hy⟩
      clear hx hy
      by_cases hxy : y ≤ x
      · go_wp2_with fail
        go_quiet (fail)
        go_wp2_with fail
        go_ret
        exact ⟨rfl, below_of_grown (gDN (gN w _))⟩
      · go_wp2_with fail
        go_quiet (fail)
        go_wp2_with fail
        go_roundw
        case rel => exact ⟨k + 1, by omega, .inl (by omega), by go_num, fun j h1 h2 => by
          by_cases e : j = k
          · subst e; rw [HX.out.1, HX.out.2]; omega
          · exact hinc.out j h1 (by omega), _, rfl⟩
        case measure => simp [RowKit.intOf]; omega
    · have HI : Hid (PM.Inc ps) := incTo_inc ps (by rw [hpl.out]; exact fun j h1 h2 => hinc.out j h1 (by omega))
      clear hinc hcell
      have GM : Hid (w.grownBy (w.drewN m) none) := gN w m
      have hP' : Hid (InRow .i32 (w.drewN m) a0 n ps) := inRow_far hP.out GM.out
      go_wp2_with fail
      refine (clone32' a0 n cap0 ps _ hP' hn hc0).mono ?_
      rintro e wA ⟨ap, rfl, oP, gA1⟩
      have GA : Hid (w.grownBy wA none) := gT GM.out gA1.out
      have hW' : Hid (InRow .u64 wA a1 n ws) := inRow_far hW.out GA.out
      have oP1 : Hid (wA.ownsRow w.heap.size 21 1 (.slice ap n n) n (ps.map (Value.int .i32))) := oP.out
      clear oP hP hP' hW gA1 GM
      go_wp2_with fail
      refine (clone64' a1 n cap1 ws _ hW' hn hc1).mono ?_
      rintro e wB ⟨aw, rfl, oW, gB1⟩
      have GB : Hid (w.grownBy wB none) := gT GA.out gB1.out
      have oP2 : Hid (wB.ownsRow w.heap.size 21 1 (.slice ap n n) n (ps.map (Value.int .i32))) := own_far oP1.out gB1.out
      have oW2 : Hid (wB.ownsRow w.heap.size 33 1 (.slice aw n n) n (ws.map (Value.int .u64))) := own_base oW.out GA.out.size
      clear oP1 oW hW' gB1 GA
      go_wp2_with (first
        | (at_make; refine wpList_make_own _ rfl _ _ 27 rfl wB.heap.size 21 i0 (.int .i32 0) 1 Try.underlying27 hi0 hz0 hz1 .i64 .i64 _ (n + 1) rfl rfl (by omega) (by rw [hz2]; omega) (by unfold maxLen; omega) (Nat.le_refl _) ?_; intro w1 ow1 gw1; have OW1 : Hid (w1.ownsRow wB.heap.size 21 1 (.slice (some ⟨wB.heap.size, 0, none⟩) 0 (n + 1)) 0 []) := ow1; have GW1 : Hid (wB.grownBy w1 none) := gw1; clear ow1 gw1)
        | (at_make; refine wpList_make_own _ rfl _ _ 28 rfl wB.heap.size 33 i1 (.int .u64 0) 1 Try.underlying28 hi1 hy0 hy1 .i64 .i64 _ (n + 1) rfl rfl (by omega) (by rw [hy2]; omega) (by unfold maxLen; omega) GW1.out.size ?_; intro w2 ow2 gw2; have OW2 : Hid (w2.ownsRow wB.heap.size 33 1 (.slice (some ⟨w1.heap.size, 0, none⟩) 0 (n + 1)) 0 []) := ow2; have GW2 : Hid (w1.grownBy w2 none) := gw2; clear ow2 gw2))
      have HST : Hid (Inv wB.heap.size wB w2 wB.heap.size w1.heap.size 0 0 (n + 1) [] []) := inv_start OW1.out GW1.out OW2.out GW2.out
      have hwp : Hid (ws.length = ps.length) := by
        have h1 := (ownW_len oW2.out).2
        have h2 := hpl.out
        show _ = _
        omega
      have hcn : PM.cnt ps q ≤ n := by have := PM.cnt_le ps q; rw [hpl.out] at this; exact this
      clear OW1 GW1 OW2 GW2
      go_loopw [11, 12, 13, 14] (fun t11 t12 t13 t14 wr => ∃ (j mm : Nat) (pb : Bool), j ≤ n ∧ Hid (mm = PM.idx ps q j ∧ pb = decide (PM.cnt ps q < j)) ∧ t11 = .slice (some ⟨wB.heap.size, 0, none⟩) mm (n + 1) ∧ t12 = .slice (some ⟨w1.heap.size, 0, none⟩) mm (n + 1) ∧ t13 = .bool pb ∧ t14 = .int .i64 j ∧
          Hid (Inv wB.heap.size wB wr wB.heap.size w1.heap.size mm mm (n + 1) ((PM.addP ps q).take mm) ((PM.addW ps ws q (orB bit) bit).take mm))) (fun _ _ _ t _ => n - (RowKit.intOf t).toNat)
      case atStart => exact ⟨0, 0, false, Nat.zero_le _, ⟨by simp [PM.idx], by simp⟩, rfl, rfl, rfl, rfl, by have h9 := HST.out; show Inv _ _ _ _ _ _ _ _ _ _; simpa using h9⟩
      case round =>
        obtain ⟨j, mm, pb, hjn, hmp, rfl, rfl, rfl, rfl, HH⟩ := hrel
        clear HST
        by_cases hj : j < n
        · have hn0 : 0 < n := by omega
          obtain ⟨g, hg⟩ := own_some oP2.out hn0
          obtain ⟨gw, hgw⟩ := own_some oW2.out hn0
          rw [hg] at oP2
          rw [hgw] at oW2
          subst hg hgw
          have hcp : wr.cell? ⟨g, j, none⟩ = some (.int .i32 (ps.getD j 0)) := (HH.out.b.cell (p := ⟨g, j, none⟩) (oP2.out.lt g rfl).2).trans (own_cell oP2.out j hj)
          have hcw : Hid (∀ W, Below wB.heap.size wB W → W.cell? ⟨gw, j, none⟩ = some (.int .u64 (ws.getD j 0))) := fun W hb => (hb.cell (p := ⟨gw, j, none⟩) (oW2.out.lt gw rfl).2).trans (own_cell oW2.out j hj)
          have HP0 : Hid (ps.getD j 0 = ps.getD j 0 ∧ ws.getD j 0 = ws.getD j 0) := ⟨rfl, rfl⟩
          rcases Nat.lt_trichotomy j (PM.cnt ps q) with hlt | heq | hgt
          · -- before the split place
            have hpq := PM.cnt_lt ps q j hlt
            obtain ⟨e1, e2, e3, e4⟩ := PM.round_lo ps ws q (orB bit) bit hwp.out j hlt
            obtain rfl : mm = j := by rw [hmp.out.1, e1]
            obtain rfl : pb = false := by rw [hmp.out.2]; exact decide_eq_false (by omega)
            have HE : Hid ((PM.addP ps q).take (mm + 1) = (PM.addP ps q).take mm ++ [ps.getD mm 0] ∧ (PM.addW ps ws q (orB bit) bit).take (mm + 1) = (PM.addW ps ws q (orB bit) bit).take mm ++ [ws.getD mm 0] ∧ mm + 1 = PM.idx ps q (mm + 1) ∧ false = decide (PM.cnt ps q < mm + 1)) := ⟨e3, e4, e2.symm, (decide_eq_false (by omega)).symm⟩
            clear e1 e2 e3 e4 hmp HP0
            generalize ps.getD mm 0 = px at *
            generalize ws.getD mm 0 = wx at *
            have hne : (px == q) = false := beq_eq_false_iff_ne.2 (by omega)
            have hcw0 := hcw.out wr HH.out.b
            have hcw1 := fun W (h : Inv wB.heap.size wB W wB.heap.size w1.heap.size (mm + 1) mm (n + 1) ((PM.addP ps q).take mm ++ [px]) ((PM.addW ps ws q (orB bit) bit).take mm)) => hcw.out W h.b
            clear hcw
            go_wp2_with (first
            | (at_builtin; refine fits_p rfl (.tmp 114) (.tmp 116) rfl HH.out (Nat.le_refl _) (by omega) rfl rfl ?_; intro wa HA)
            | (at_builtin; refine fits_w rfl (.tmp 118) (.tmp 120) rfl HA (Nat.le_refl _) (by omega) rfl rfl ?_; intro wb HB))
            go_roundw
            case rel => exact ⟨mm + 1, mm + 1, false, by omega, ⟨HE.out.2.2.1, HE.out.2.2.2⟩, rfl, rfl, rfl, by go_num, by rw [HE.out.1, HE.out.2.1]; exact HB⟩
            case measure => simp [RowKit.intOf]; omega
          · -- at the split place
            cases hh : PM.hitB ps q with
            | true =>
              have hpq : ps.getD j 0 = q := by rw [heq]; exact ((PM.hit_iff ps q).1 hh).2
              obtain ⟨e1, e2, e3, e4⟩ := PM.round_hit ps ws q (orB bit) bit hwp.out j hh heq
              obtain rfl : mm = j := by rw [hmp.out.1, e1]
              obtain rfl : pb = false := by rw [hmp.out.2]; exact decide_eq_false (by omega)
              have HE : Hid ((PM.addP ps q).take (mm + 1) = (PM.addP ps q).take mm ++ [q] ∧ (PM.addW ps ws q (orB bit) bit).take (mm + 1) = (PM.addW ps ws q (orB bit) bit).take mm ++ [orB bit (ws.getD mm 0)] ∧ mm + 1 = PM.idx ps q (mm + 1) ∧ true = decide (PM.cnt ps q < mm + 1)) := ⟨by rw [e3, hpq], e4, e2.symm, (decide_eq_true (by omega)).symm⟩
              rw [hpq] at hcp
              clear e1 e2 e3 e4 hmp HP0 hpq heq hh
              generalize ws.getD mm 0 = wx at *
              have hlt : ¬ q < q := by omega
              have hcw0 := hcw.out wr HH.out.b
              clear hcw
              go_wp2_with (first
            | (at_builtin; refine fits_p rfl (.tmp 114) (.tmp 116) rfl HH.out (Nat.le_refl _) (by omega) rfl rfl ?_; intro wa HA)
            | (at_builtin; refine fits_w rfl (.tmp 118) (.tmp 120) rfl HA (Nat.le_refl _) (by omega) rfl rfl ?_; intro wb HB))
              go_roundw
              case rel => exact ⟨mm + 1, mm + 1, true, by omega, ⟨HE.out.2.2.1, HE.out.2.2.2⟩, rfl, rfl, rfl, by go_num, by rw [HE.out.1, HE.out.2.1]; exact HB⟩
              case measure => simp [RowKit.intOf]; omega
            | false =>
              have hpq : q < ps.getD j 0 := by rw [heq]; exact PM.miss_lt ps q hh (by rw [hpl.out]; omega)
              obtain ⟨e1, e2, e3, e4, e5, e6⟩ := PM.round_miss ps ws q (orB bit) bit hwp.out j hh heq (by rw [hpl.out]; omega)
              obtain rfl : mm = j := by rw [hmp.out.1, e1]
              obtain rfl : pb = false := by rw [hmp.out.2]; exact decide_eq_false (by omega)
              have HE : Hid ((PM.addP ps q).take (mm + 1 + 1) = (PM.addP ps q).take mm ++ [q] ++ [ps.getD mm 0] ∧ (PM.addW ps ws q (orB bit) bit).take (mm + 1 + 1) = (PM.addW ps ws q (orB bit) bit).take mm ++ [bit] ++ [ws.getD mm 0] ∧ mm + 1 + 1 = PM.idx ps q (mm + 1) ∧ true = decide (PM.cnt ps q < mm + 1)) := ⟨by rw [e5, e3], by rw [e6, e4], e2.symm, (decide_eq_true (by omega)).symm⟩
              clear e1 e2 e3 e4 e5 e6 hmp HP0 heq hh
              generalize ps.getD mm 0 = px at *
              generalize ws.getD mm 0 = wx at *
              have hne : (px == q) = false := beq_eq_false_iff_ne.2 (by omega)
              go_wp2_with (first
            | (at_builtin; refine fits_p rfl (.tmp 96) (.tmp 98) rfl HH.out (Nat.le_refl _) (by omega) rfl rfl ?_; intro wa HA)
            | (at_builtin; refine fits_w rfl (.tmp 100) (.tmp 102) rfl HA (Nat.le_refl _) (by omega) rfl rfl ?_; intro wb HB) ; have hcw1 := hcw.out wb HB.b
            | (at_builtin; refine fits_p rfl (.tmp 114) (.tmp 116) rfl HB (Nat.le_refl _) (by omega) rfl rfl ?_; intro wd HD)
            | (at_builtin; refine fits_w rfl (.tmp 118) (.tmp 120) rfl HD (Nat.le_refl _) (by omega) rfl rfl ?_; intro wf HF))
              go_roundw
              case rel => exact ⟨mm + 1, mm + 1 + 1, true, by omega, ⟨HE.out.2.2.1, HE.out.2.2.2⟩, rfl, rfl, rfl, by go_num, by rw [HE.out.1, HE.out.2.1]; exact HF⟩
              case measure => simp [RowKit.intOf]; omega
          · -- behind the split place
            have hpq : q < ps.getD j 0 := by
              have h1 := PM.cnt_at ps q (by rw [hpl.out]; omega)
              have h2 := PM.inc_get HI.out hgt (by rw [hpl.out]; omega)
              omega
            obtain ⟨e2, e3, e4⟩ := PM.round_hi ps ws q (orB bit) bit hwp.out j hgt (by rw [hpl.out]; omega)
            have e7 := PM.idx_le ps q j
            rw [← hmp.out.1] at e2 e3 e4 e7
            obtain rfl : pb = true := by rw [hmp.out.2]; exact decide_eq_true (by omega)
            have HE : Hid ((PM.addP ps q).take (mm + 1) = (PM.addP ps q).take mm ++ [ps.getD j 0] ∧ (PM.addW ps ws q (orB bit) bit).take (mm + 1) = (PM.addW ps ws q (orB bit) bit).take mm ++ [ws.getD j 0] ∧ mm + 1 = PM.idx ps q (j + 1) ∧ true = decide (PM.cnt ps q < j + 1)) := ⟨e3, e4, e2.symm, (decide_eq_true (by omega)).symm⟩
            clear e2 e3 e4 hmp HP0
            generalize ps.getD j 0 = px at *
            generalize ws.getD j 0 = wx at *
            have hne : (px == q) = false := beq_eq_false_iff_ne.2 (by omega)
            have hcw0 := hcw.out wr HH.out.b
            clear hcw
            go_wp2_with (first
            | (at_builtin; refine fits_p rfl (.tmp 114) (.tmp 116) rfl HH.out (Nat.le_refl _) (by omega) rfl rfl ?_; intro wa HA)
            | (at_builtin; refine fits_w rfl (.tmp 118) (.tmp 120) rfl HA (Nat.le_refl _) (by omega) rfl rfl ?_; intro wb HB))
            go_roundw
            case rel => exact ⟨j + 1, mm + 1, true, by omega, ⟨HE.out.2.2.1, HE.out.2.2.2⟩, rfl, rfl, rfl, by go_num, by rw [HE.out.1, HE.out.2.1]; exact HB⟩
            case measure => simp [RowKit.intOf]; omega
        · have hnj : n = j := by omega
          subst hnj
          by_cases hcl : PM.cnt ps q < n
          · obtain rfl : pb = true := by rw [hmp.out.2]; exact decide_eq_true hcl
            obtain ⟨e1, e2, e3⟩ := PM.end_placed ps ws q (orB bit) bit hwp.out (by rw [hpl.out]; exact hcl)
            rw [hpl.out, ← hmp.out.1] at e1 e2 e3
            have HF := HH.out
            rw [e1, e2] at HF
            have HL : Hid ((PM.addP ps q).length = mm) := e3
            have hL0 : 0 < mm := by
              have := PM.idx_ge ps q n
              rw [← hmp.out.1] at this
              omega
            have hmb : mm ≤ n + 1 := by
              have := PM.idx_le ps q n
              rw [← hmp.out.1] at this
              exact this
            clear e1 e2 e3 hmp HH hcl

            go_wp2_with fail
            refine (zz_any w.heap.size n ap aw ps ws i q r bit _ hi HQ.out.1 HQ.out.2.1 hq0 hq1 hr0 hr1 HQ.out.2.2 hn (own_below oP2.out HF.b (fun k hk => (oP2.out.lt k hk).2)) (own_below oW2.out HF.b (fun k hk => (oW2.out.lt k hk).2)) (Nat.le_trans GB.out.size HF.b.size) HI.out).mono ?_
            rintro e w3 ⟨vp, vw, rfl, OP, OW, G3⟩
            obtain ⟨FP, FW⟩ := HF.far G3 (fun k hk => (oW2.out.lt k hk).2)
            unfold OwnP at OP
            unfold OwnW at OW
            rw [HL.out] at OP
            rw [PM.addW_len ps ws q (orB bit) bit hwp.out, HL.out] at OW
            obtain ⟨g1, c1, rfl⟩ := Joins.ownsRow_form OP hL0
            obtain ⟨g2, c2, rfl⟩ := Joins.ownsRow_form OW hL0
            have CE : Hid (∀ k, k < mm → ∃ x y, w3.cell? ⟨g1, k, none⟩ = some (.int .i32 x) ∧ w3.cell? ⟨wB.heap.size, k, none⟩ = some (.int .i32 x) ∧ w3.cell? ⟨g2, k, none⟩ = some (.int .u64 y) ∧ w3.cell? ⟨w1.heap.size, k, none⟩ = some (.int .u64 y)) :=
              fun k hk => ⟨_, _, own_cell OP k hk, own_cell FP k hk, own_cell OW k hk, own_cell FW k hk⟩
            have FIN : Hid (∀ m, Below w.heap.size w (w3.drewN m)) := fun m => fin_below GB.out HF.b G3 oW2.out
            clear OP OW FP FW G3 HF
            go_wp2_with fail
            go_loopw [19] (fun t wr => ∃ k : Nat, k ≤ mm ∧ t = .int .i64 k ∧ ∃ m, wr = w3.drewN m) (fun t _ => mm - (RowKit.intOf t).toNat)
            case atStart => exact ⟨0, Nat.zero_le _, rfl, 0, rfl⟩
            case round =>
              obtain ⟨k, hk, rfl, m, rfl⟩ := hrel
              by_cases hkL : k < mm
              · obtain ⟨x, y, d1, d2, d3, d4⟩ := CE.out k hkL
                have hb4 : (0 : Int) ≤ (k : Int) := by omega
                have hb5 : (k : Int) < (mm : Int) := by omega
                have hxx : (x != x) = false := by simp
                have hyy : (y != y) = false := by simp
                go_wp2_with fail
                go_quiet (fail)
                go_wp2_with fail
                go_roundw
                case rel => exact ⟨k + 1, by omega, by go_num, _, rfl⟩
                case measure => simp [RowKit.intOf]; omega
              · go_wp2_with fail
                go_ret
                exact ⟨rfl, FIN.out _⟩
          · obtain rfl : pb = false := by rw [hmp.out.2]; exact decide_eq_false hcl
            obtain ⟨e1, e2, e3, e4⟩ := PM.end_not ps ws q (orB bit) bit hwp.out (by rw [hpl.out]; omega)
            rw [hpl.out] at e1 e2 e3 e4
            have hnm : n = mm := by rw [hmp.out.1, e1]
            subst hnm
            have HE : Hid ((PM.addP ps q) = (PM.addP ps q).take n ++ [q] ∧ (PM.addW ps ws q (orB bit) bit) = (PM.addW ps ws q (orB bit) bit).take n ++ [bit]) := ⟨e2, e3⟩
            have HL : Hid ((PM.addP ps q).length = n + 1) := e4
            have hL0 : 0 < n + 1 := by omega
            clear e1 e2 e3 e4 hmp hcl
            go_wp2_with (first
            | (at_builtin; refine fits_p rfl (.tmp 124) (.tmp 126) rfl HH.out (Nat.le_refl _) (by omega) rfl rfl ?_; intro wa HA)
            | (at_builtin; refine fits_w rfl (.tmp 128) (.tmp 130) rfl HA (Nat.le_refl _) (by omega) rfl rfl ?_; intro wf HF); rw [← HE.out.1, ← HE.out.2] at HF)

            refine (zz_any w.heap.size n ap aw ps ws i q r bit _ hi HQ.out.1 HQ.out.2.1 hq0 hq1 hr0 hr1 HQ.out.2.2 hn (own_below oP2.out HF.b (fun k hk => (oP2.out.lt k hk).2)) (own_below oW2.out HF.b (fun k hk => (oW2.out.lt k hk).2)) (Nat.le_trans GB.out.size HF.b.size) HI.out).mono ?_
            rintro e w3 ⟨vp, vw, rfl, OP, OW, G3⟩
            obtain ⟨FP, FW⟩ := HF.far G3 (fun k hk => (oW2.out.lt k hk).2)
            unfold OwnP at OP
            unfold OwnW at OW
            rw [HL.out] at OP
            rw [PM.addW_len ps ws q (orB bit) bit hwp.out, HL.out] at OW
            obtain ⟨g1, c1, rfl⟩ := Joins.ownsRow_form OP hL0
            obtain ⟨g2, c2, rfl⟩ := Joins.ownsRow_form OW hL0
            have CE : Hid (∀ k, k < (n + 1) → ∃ x y, w3.cell? ⟨g1, k, none⟩ = some (.int .i32 x) ∧ w3.cell? ⟨wB.heap.size, k, none⟩ = some (.int .i32 x) ∧ w3.cell? ⟨g2, k, none⟩ = some (.int .u64 y) ∧ w3.cell? ⟨w1.heap.size, k, none⟩ = some (.int .u64 y)) :=
              fun k hk => ⟨_, _, own_cell OP k hk, own_cell FP k hk, own_cell OW k hk, own_cell FW k hk⟩
            have FIN : Hid (∀ m, Below w.heap.size w (w3.drewN m)) := fun m => fin_below GB.out HF.b G3 oW2.out
            clear OP OW FP FW G3 HF
            go_wp2_with fail
            go_loopw [19] (fun t wr => ∃ k : Nat, k ≤ (n + 1) ∧ t = .int .i64 k ∧ ∃ m, wr = w3.drewN m) (fun t _ => (n + 1) - (RowKit.intOf t).toNat)
            case atStart => exact ⟨0, Nat.zero_le _, rfl, 0, rfl⟩
            case round =>
              obtain ⟨k, hk, rfl, m, rfl⟩ := hrel
              by_cases hkL : k < (n + 1)
              · obtain ⟨x, y, d1, d2, d3, d4⟩ := CE.out k hkL
                have hb4 : (0 : Int) ≤ (k : Int) := by omega
                have hb5 : (k : Int) < ((n + 1 : Nat) : Int) := by omega
                have hxx : (x != x) = false := by simp
                have hyy : (y != y) = false := by simp
                go_wp2_with fail
                go_quiet (fail)
                go_wp2_with fail
                go_roundw
                case rel => exact ⟨k + 1, by omega, by go_num, _, rfl⟩
                case measure => simp [RowKit.intOf]; omega
              · go_wp2_with fail
                go_ret
                exact ⟨rfl, FIN.out _⟩
end Go.Proofs.Qxb6602305a
