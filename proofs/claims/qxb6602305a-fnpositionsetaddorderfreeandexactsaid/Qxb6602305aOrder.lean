/- The walk of FnPositionSetAddOrderFreeAndExact. -/
import Derived.Test.Qxb6602305aSetParts
import Derived.Deep.QuietTactic
import Derived.BigQuiet
import Derived.Deep.DeepCutAuto
set_option linter.unusedVariables false
namespace Go.Proofs.Qxb6602305a
open Go.RowKit Go.Lib

theorem drop_rev (xs : List Int) (k : Nat) (h0 : 0 < k) (hk : k ≤ xs.length) : (xs.drop (k - 1)).reverse = (xs.drop k).reverse ++ [xs.getD (k - 1) 0] := by
  have e : xs.drop (k - 1) = xs.getD (k - 1) 0 :: xs.drop k := by
    rw [List.drop_eq_getElem_cons (show k - 1 < xs.length by omega), List.getD_eq_getElem?_getD, List.getElem?_eq_getElem (show k - 1 < xs.length by omega), show k - 1 + 1 = k by omega]
    rfl
  rw [e, List.reverse_cons]

theorem own_wz {w : World} {base g n c : Nat} {W : List Nat} (h : w.ownsRow base 33 1 (.slice (some ⟨g, 0, none⟩) n c) n ((wz W).map (Value.int .u64))) (j : Nat) (hj : j < n) : w.cell? ⟨g, j, none⟩ = some (.int .u64 ((W.getD j 0 : Nat) : Int)) := by
  rw [own_cell h j hj, wz_getD]

theorem getD_mem (W : List Nat) (j : Nat) (h : j < W.length) : W.getD j 0 ∈ W := by
  rw [List.getD_eq_getElem?_getD, List.getElem?_eq_getElem h]
  exact List.getElem_mem h

theorem posIn_true (g1 g2 L c1 c2 : Nat) (xs : List Int) (x : Int) (w : World) (hL : L ≤ 65536) (hpl : Hid ((PM.st xs).1.length = L)) (hx0 : 0 ≤ x) (hx1 : x / 64 ≤ 2147483647) (hm : Hid (x ∈ xs))
    (hc1 : Hid (∀ j, j < L → w.cell? ⟨g1, j, none⟩ = some (.int .i32 ((PM.st xs).1.getD j 0)))) (hc2 : Hid (∀ j, j < L → w.cell? ⟨g2, j, none⟩ = some (.int .u64 ((PM.st xs).2.getD j 0 : Nat)))) :
    Calls Try.prog 21 #[.slice (some ⟨g1, 0, none⟩) L c1, .slice (some ⟨g2, 0, none⟩) L c2, .int .i64 x] w fun e w' => e = .returned (.bool true) ∧ w = w' := by
  have hi : x < 9223372036854775808 := by
    have h5 : x / 64 * 64 ≤ 2147483647 * 64 := by omega
    omega
  have h := posIn g1 g2 L c1 c2 (PM.st xs).1 (PM.st xs).2 x (x / 64) (x % 64) w hL hpl (PM.st_good xs) hx0 rfl (and63 x hx0 hi) (by omega) hx1 (by omega) (by omega) hc1 hc2
  rw [(PM.st_mem xs x).2 hm.out] at h
  exact h

theorem tot_take (W : List Nat) (k : Nat) (h : k < W.length) : PM.tot (W.take (k + 1)) = PM.tot (W.take k) + PM.pop 64 (W.getD k 0) := by
  rw [List.take_succ_eq_append_getElem h]
  unfold PM.tot
  rw [List.map_append, List.sum_append, List.getD_eq_getElem?_getD, List.getElem?_eq_getElem h]
  simp
theorem tot_le (W : List Nat) : ∀ k, PM.tot (W.take k) ≤ 64 * k
  | 0 => by simp [PM.tot]
  | k + 1 => by
    have ih := tot_le W k
    by_cases h : k < W.length
    · rw [tot_take W k h]
      have := PM.pop_le 64 (W.getD k 0)
      omega
    · rw [List.take_of_length_le (by omega)]
      rw [List.take_of_length_le (by omega)] at ih
      omega

theorem contains_iff (xs : List Int) (k : Nat) (hk : k ≤ xs.length) (y : Int) : (xs.take k).contains y = true ↔ ∃ t, t < k ∧ xs.getD t 0 = y := by
  rw [List.contains_iff_mem, List.mem_iff_getElem]
  constructor
  · rintro ⟨t, ht, e⟩
    rw [List.length_take] at ht
    rw [List.getElem_take] at e
    exact ⟨t, by omega, by rw [List.getD_eq_getElem?_getD, List.getElem?_eq_getElem (by omega)]; exact e⟩
  · rintro ⟨t, ht, e⟩
    refine ⟨t, by rw [List.length_take]; omega, ?_⟩
    rw [List.getElem_take]
    rw [List.getD_eq_getElem?_getD, List.getElem?_eq_getElem (show t < xs.length by omega)] at e
    exact e

set_option maxHeartbeats 8000000 in
set_option maxRecDepth 100000 in
theorem order_walk (a0 : Option Addr) (n cap0 : Nat) (xs : List Int) (w : World) (hn : n ≤ 4096) (hX : Hid (InRow .i64 w a0 n xs)) (hc0 : Hid (a0 = none → cap0 = 0)) :
    Calls Try.prog 7 #[.slice a0 n cap0] w fun e w' => e = .returned (.bool true) ∧ Below w.heap.size w w' := by
  have hxl : Hid (xs.length = n) := hX.out.1
  go_enter Try.func7, Try.ntmps7
  go_wp2_with (go_at_call 19; refine (bytes19 _ _ _ _ (by omega)).mono ?_; rintro e w' ⟨rfl, rfl⟩)
  go_loop [3] (fun t => ∃ k : Nat, k ≤ n ∧ t = .int .i64 k ∧ Hid (∀ j, j < k → 0 ≤ xs.getD j 0 ∧ xs.getD j 0 / 64 ≤ 2147483647)) (fun t => n - (RowKit.intOf t).toNat)
  case atStart => exact ⟨0, Nat.zero_le _, rfl, fun j hj => by omega⟩
  case round =>
    obtain ⟨k, hk, rfl, HK⟩ := hrel
    by_cases hkn : k < n
    · obtain ⟨b, o, s, ha, hca⟩ : ∃ b o s, a0 = some ⟨b, o, s⟩ ∧ w.cell? ((⟨b, o, s⟩ : Addr).add k) = some (.int .i64 (xs.getD k 0)) := by
        cases a0 with
        | none => have := hX.out.2.1 rfl; omega
        | some x => obtain ⟨b, o, s⟩ := x; exact ⟨b, o, s, rfl, hX.out.2.2 _ rfl k hkn⟩
      subst ha
      obtain ⟨x, hx⟩ : ∃ x, x = xs.getD k 0 := ⟨_, rfl⟩
      rw [← hx] at hca
      have HX : Hid (xs.getD k 0 = x) := hx.symm
      clear hx
      by_cases x0 : 0 ≤ x
      · by_cases x1 : x / 64 ≤ 2147483647
        · have HK2 : Hid (∀ j, j < k + 1 → 0 ≤ xs.getD j 0 ∧ xs.getD j 0 / 64 ≤ 2147483647) := fun j hj => by
            by_cases e : j = k
            · rw [e, HX.out]; exact ⟨x0, x1⟩
            · exact HK.out j (by omega)
          clear HK HX
          go_wp2_with fail
          go_round
          case rel => exact ⟨k + 1, by omega, by go_num, HK2⟩
          case measure => simp [RowKit.intOf]; omega
        · go_wp2_with fail
          go_ret
          exact ⟨rfl, Below.refl _ _⟩
      · go_wp2_with fail
        go_ret
        exact ⟨rfl, Below.refl _ _⟩
    · have HR : Hid (∀ j, j < n → 0 ≤ xs.getD j 0 ∧ xs.getD j 0 / 64 ≤ 2147483647) := fun j hj => HK.out j (by omega)
      clear HK
      go_wp2_with fail
      refine (cloneInt' a0 n cap0 xs _ hX (by omega) hc0).mono ?_
      rintro e wA ⟨ax, rfl, oX, gA1⟩
      have BA : Hid (Below w.heap.size w wA) := below_of_grown gA1.out
      clear gA1 hX
      go_wp2_with fail
      go_loopw [4, 5, 6] (fun t4 t5 t6 wr => ∃ (k L : Nat) (ap aw : Option Addr), k ≤ n ∧ L ≤ k ∧ t4 = .slice ap L L ∧ t5 = .slice aw L L ∧ t6 = .int .i64 k ∧
          Hid (Mid wA.heap.size wA wr (.slice ap L L) (.slice aw L L) L (PM.st (xs.take k)).1 (PM.st (xs.take k)).2)) (fun _ _ t _ => n - (RowKit.intOf t).toNat)
      case atStart => exact ⟨0, 0, none, none, Nat.zero_le _, Nat.le_refl _, rfl, rfl, rfl, mid_start wA⟩
      case round =>
        obtain ⟨k, L, ap, aw, hk2, hLk, rfl, rfl, rfl, HM⟩ := hrel
        by_cases hkn2 : k < n
        · obtain ⟨gx, hgx⟩ := own_some oX.out (by omega)
          rw [hgx] at oX
          subst hgx
          have hcx := old_cell oX.out HM.out.b (oX.out.lt gx rfl).2 hkn2
          obtain ⟨x0, x1⟩ := HR.out k hkn2
          obtain ⟨x, hx⟩ : ∃ x, x = xs.getD k 0 := ⟨_, rfl⟩
          rw [← hx] at hcx x0 x1
          have HX : Hid (xs.take (k + 1) = xs.take k ++ [x]) := by rw [hx]; exact PM.take_snoc xs k _ (by rw [hxl.out]; exact hkn2) rfl
          clear hx
          have HG : Hid (PM.Good (PM.st (xs.take k)).1 (PM.st (xs.take k)).2) := PM.st_good _
          go_wp2_with fail
          refine (zz_set wA.heap.size L ap aw _ _ x wA wr HM (Nat.le_refl _) HG (by omega) x0 x1).mono ?_
          rintro e w1 ⟨g1, c1, g2, c2, L', rfl, hL', HM1⟩
          have HL2 : Hid (L' ≤ k + 1) := by
            have h1 := HM1.out.plen
            have h2 := PM.st_len (xs.take (k + 1))
            rw [HX.out, PM.st_snoc] at h2
            have h3 : (xs.take k ++ [x]).length ≤ k + 1 := by simp; omega
            show L' ≤ k + 1
            have h4 : (PM.step (PM.st (xs.take k)) x).1.length = L' := h1
            omega
          have hL2 : L' ≤ k + 1 := HL2.out
          have HM1' : Hid (Mid wA.heap.size wA w1 (.slice (some ⟨g1, 0, none⟩) L' c1) (.slice (some ⟨g2, 0, none⟩) L' c2) L' (PM.st (xs.take (k + 1))).1 (PM.st (xs.take (k + 1))).2) := by
            rw [HX.out, PM.st_snoc]; exact HM1
          clear HM1 HM HG HX HL2 hcx
          go_wp2_with fail
          refine (clone_p wA.heap.size L' g1 c1 _ _ _ wA w1 HM1' (Nat.le_refl _) (by omega)).mono ?_
          rintro e w2 ⟨ap', rfl, HM2⟩
          clear HM1'
          go_wp2_with fail
          refine (clone_w wA.heap.size L' g2 c2 _ _ _ wA w2 HM2 (Nat.le_refl _) (by omega)).mono ?_
          rintro e w3 ⟨aw', rfl, HM3⟩
          clear HM2
          go_wp2_with fail
          go_roundw
          case rel => exact ⟨k + 1, L', ap', aw', by omega, hL2, rfl, rfl, by go_num, HM3⟩
          case measure => simp [RowKit.intOf]; omega
        · have hk3 : k = n := by omega
          subst hk3
          obtain ⟨wF, hwF⟩ : ∃ wF, wF = wr := ⟨_, rfl⟩
          subst hwF
          have HMF : Hid (Mid wA.heap.size wA wF (.slice ap L L) (.slice aw L L) L (PM.st xs).1 (PM.st xs).2) := by
            have h := HM.out
            rw [List.take_of_length_le (by rw [hxl.out]; exact Nat.le_refl _)] at h
            exact h
          have BX : Hid (∀ W, Below wF.heap.size wF W → Below wA.heap.size wA W) := fun W hW => HMF.out.b.trans (hW.mono HMF.out.b.size)
          clear HM
          go_wp2_with fail
          go_loopw [7, 8, 9] (fun t7 t8 t9 wr => ∃ (j L2 : Nat) (ap2 aw2 : Option Addr), j ≤ k ∧ L2 + j ≤ k ∧ t7 = .slice ap2 L2 L2 ∧ t8 = .slice aw2 L2 L2 ∧ t9 = .int .i64 ((j : Int) - 1) ∧
              Hid (Mid wF.heap.size wF wr (.slice ap2 L2 L2) (.slice aw2 L2 L2) L2 (PM.st (xs.drop j).reverse).1 (PM.st (xs.drop j).reverse).2)) (fun _ _ t _ => (RowKit.intOf t + 1).toNat)
          case atStart =>
            refine ⟨k, 0, none, none, Nat.le_refl _, by omega, rfl, rfl, rfl, ?_⟩
            have h := mid_start wF
            rw [List.drop_of_length_le (by rw [hxl.out]; exact Nat.le_refl _)]
            exact h
          case round =>
            obtain ⟨j, L2, ap2, aw2, hj, hLj, rfl, rfl, rfl, HM⟩ := hrel
            by_cases hj0 : 0 < j
            · obtain ⟨gx, hgx⟩ := own_some oX.out (by omega)
              rw [hgx] at oX
              subst hgx
              have hcx := old_cell (j := j - 1) oX.out (BX.out _ HM.out.b) (oX.out.lt gx rfl).2 (by omega)
              obtain ⟨x0, x1⟩ := HR.out (j - 1) (by omega)
              obtain ⟨x, hx⟩ : ∃ x, x = xs.getD (j - 1) 0 := ⟨_, rfl⟩
              rw [← hx] at hcx x0 x1
              have HX : Hid ((xs.drop (j - 1)).reverse = (xs.drop j).reverse ++ [x]) := by rw [hx]; exact drop_rev xs j hj0 (by rw [hxl.out]; exact hj)
              clear hx
              have HG : Hid (PM.Good (PM.st (xs.drop j).reverse).1 (PM.st (xs.drop j).reverse).2) := PM.st_good _
              have hb0 : (1 : Int) ≤ (j : Int) := by omega
              have hb1 : ((j : Int) - 1).toNat = j - 1 := by omega
              go_wp2_with fail
              refine (zz_set wF.heap.size L2 ap2 aw2 _ _ x wF wr HM (Nat.le_refl _) HG (by omega) x0 x1).mono ?_
              rintro e w1 ⟨g1, c1, g2, c2, L', rfl, hL', HM1⟩
              have hL2 : L' + (j - 1) ≤ k := by
                have h1 := HM1.out.plen
                have h2 := PM.st_len (xs.drop (j - 1)).reverse
                rw [HX.out, PM.st_snoc] at h2
                have h3 : ((xs.drop j).reverse ++ [x]).length = k - j + 1 := by have := hxl.out; simp; omega
                have h4 : (PM.step (PM.st (xs.drop j).reverse) x).1.length = L' := h1
                omega
              have HM1' : Hid (Mid wF.heap.size wF w1 (.slice (some ⟨g1, 0, none⟩) L' c1) (.slice (some ⟨g2, 0, none⟩) L' c2) L' (PM.st (xs.drop (j - 1)).reverse).1 (PM.st (xs.drop (j - 1)).reverse).2) := by
                rw [HX.out, PM.st_snoc]; exact HM1
              clear HM1 HM HG HX hcx
              go_wp2_with fail
              refine (clone_p wF.heap.size L' g1 c1 _ _ _ wF w1 HM1' (Nat.le_refl _) (by omega)).mono ?_
              rintro e w2 ⟨ap', rfl, HM2⟩
              clear HM1'
              go_wp2_with fail
              refine (clone_w wF.heap.size L' g2 c2 _ _ _ wF w2 HM2 (Nat.le_refl _) (by omega)).mono ?_
              rintro e w3 ⟨aw', rfl, HM3⟩
              clear HM2
              go_wp2_with fail
              go_roundw
              case rel => exact ⟨j - 1, L', ap', aw', by omega, hL2, rfl, rfl, by go_num, HM3⟩
              case measure => simp [RowKit.intOf]; omega
            · have hj3 : j = 0 := by omega
              subst hj3
              have e9 : (((0 : Nat) : Int) - 1) = -1 := by omega
              simp only [e9]
              clear e9
              obtain ⟨wB, hwB⟩ : ∃ wB, wB = wr := ⟨_, rfl⟩
              subst hwB
              have HMB : Hid (Mid wF.heap.size wF wB (.slice ap2 L2 L2) (.slice aw2 L2 L2) L2 (PM.st xs).1 (PM.st xs).2) := by
                have h := HM.out
                rw [List.drop_zero, PM.st_reverse] at h
                exact h
              have hLL : L2 = L := by rw [← HMB.out.plen, ← HMF.out.plen]
              subst hLL
              clear HM
              have hplen : Hid ((PM.st xs).1.length = L2) := HMB.out.plen
              have hwlen : Hid ((PM.st xs).2.length = L2) := by have h := (PM.st_good xs).len; rw [hplen.out] at h; exact h
              have FB : Hid (∀ m, Below w.heap.size w (wB.drewN m)) := fun m => by
                have h1 := BX.out _ HMB.out.b
                have h2 := BA.out.trans (h1.mono BA.out.size)
                exact ⟨h2.os, h2.tape, h2.output, h2.size, h2.block⟩
              have CX : Hid (∀ j, j < k → ∃ gx, ax = some ⟨gx, 0, none⟩ ∧ wB.cell? ⟨gx, j, none⟩ = some (.int .i64 (xs.getD j 0))) := fun j hj => by
                obtain ⟨gx, hgx⟩ := own_some oX.out (by omega)
                have o := oX.out
                rw [hgx] at o
                exact ⟨gx, hgx, old_cell o (BX.out _ HMB.out.b) (o.lt gx rfl).2 hj⟩
              have CP : Hid (∀ j, j < L2 → ∃ g, ap = some ⟨g, 0, none⟩ ∧ wB.cell? ⟨g, j, none⟩ = some (.int .i32 ((PM.st xs).1.getD j 0))) := fun j hj => by
                obtain ⟨g, hg⟩ := own_some HMF.out.p (by omega)
                have o := HMF.out.p
                rw [hg] at o
                exact ⟨g, hg, old_cell o HMB.out.b (o.lt g rfl).2 hj⟩
              have CW : Hid (∀ j, j < L2 → ∃ g, aw = some ⟨g, 0, none⟩ ∧ wB.cell? ⟨g, j, none⟩ = some (.int .u64 ((PM.st xs).2.getD j 0 : Nat))) := fun j hj => by
                obtain ⟨g, hg⟩ := own_some HMF.out.w (by omega)
                have o := HMF.out.w
                rw [hg] at o
                exact ⟨g, hg, by rw [old_cell o HMB.out.b (o.lt g rfl).2 hj, wz_getD]⟩
              have CP2 : Hid (∀ j, j < L2 → ∃ g, ap2 = some ⟨g, 0, none⟩ ∧ wB.cell? ⟨g, j, none⟩ = some (.int .i32 ((PM.st xs).1.getD j 0))) := fun j hj => by
                obtain ⟨g, hg⟩ := own_some HMB.out.p (by omega)
                have o := HMB.out.p
                rw [hg] at o
                exact ⟨g, hg, own_cell o j hj⟩
              have CW2 : Hid (∀ j, j < L2 → ∃ g, aw2 = some ⟨g, 0, none⟩ ∧ wB.cell? ⟨g, j, none⟩ = some (.int .u64 ((PM.st xs).2.getD j 0 : Nat))) := fun j hj => by
                obtain ⟨g, hg⟩ := own_some HMB.out.w (by omega)
                have o := HMB.out.w
                rw [hg] at o
                exact ⟨g, hg, own_wz o j hj⟩
              have hLp : Hid (0 < k → 0 < L2) := fun h => by rw [← hplen.out]; exact st_pos xs (by rw [hxl.out]; exact h)
              clear HMB HMF BX BA oX
              go_wp2_with fail
              go_loopw [10] (fun t wr => ∃ c : Nat, c ≤ L2 ∧ t = .int .i64 c ∧ ∃ m, wr = wB.drewN m) (fun t _ => L2 - (RowKit.intOf t).toNat)
              case atStart => exact ⟨0, Nat.zero_le _, rfl, 0, rfl⟩
              case round =>
                obtain ⟨c, hc, rfl, m, rfl⟩ := hrel
                by_cases hcL : c < L2
                · obtain ⟨g1, h1, d1⟩ := CP.out c hcL
                  obtain ⟨g2, h2, d2⟩ := CW.out c hcL
                  obtain ⟨g3, h3, d3⟩ := CP2.out c hcL
                  obtain ⟨g4, h4, d4⟩ := CW2.out c hcL
                  have hv0 : ((((PM.st xs).2.getD c 0 : Nat) : Int) == 0) = false := by
                    have h := ((PM.st_good xs).pos _ (getD_mem (PM.st xs).2 c (by rw [hwlen.out]; exact hcL))).1
                    exact beq_eq_false_iff_ne.2 (by omega)
                  have hprev : c = 0 ∨ ∃ y, wB.cell? ⟨g1, c - 1, none⟩ = some (.int .i32 y) ∧ y < (PM.st xs).1.getD c 0 := by
                    by_cases hz : c = 0
                    · exact .inl hz
                    · obtain ⟨g1', h1', d1'⟩ := CP.out (c - 1) (by omega)
                      rw [h1] at h1'
                      obtain rfl : g1 = g1' := by simpa using h1'
                      exact .inr ⟨_, d1', PM.inc_get (PM.st_good xs).inc (by omega) (by rw [hplen.out]; exact hcL)⟩
                  subst h1 h2 h3 h4
                  generalize (PM.st xs).1.getD c 0 = p at d1 d3 hprev
                  generalize (PM.st xs).2.getD c 0 = v at d2 d4 hv0
                  clear CP CW CP2 CW2 CX
                  have hb4 : (0 : Int) ≤ (c : Int) := by omega
                  have hb5 : (c : Int) < (L2 : Int) := by omega
                  have hxx : (p != p) = false := by simp
                  have hyy : ((v : Int) != (v : Int)) = false := by simp
                  rcases hprev with hz | ⟨y, d5, hy⟩
                  · subst hz
                    have hgd : decide ((0 : Int) < ((0 : Nat) : Int)) = false := by decide
                    go_wp2_with fail
                    go_quiet (fail)
                    go_wp2_with fail
                    go_quiet (fail)
                    go_wp2_with fail
                    go_roundw
                    case rel => exact ⟨0 + 1, by omega, by go_num, _, rfl⟩
                    case measure => simp [RowKit.intOf]; omega
                  · by_cases hz : c = 0
                    · subst hz
                      have hgd : decide ((0 : Int) < ((0 : Nat) : Int)) = false := by decide
                      clear d5
                      go_wp2_with fail
                      go_quiet (fail)
                      go_wp2_with fail
                      go_quiet (fail)
                      go_wp2_with fail
                      go_roundw
                      case rel => exact ⟨0 + 1, by omega, by go_num, _, rfl⟩
                      case measure => simp [RowKit.intOf]; omega
                    · have hc1 : (1 : Int) ≤ (c : Int) := by omega
                      have hc0 : (0 : Int) < (c : Int) := by omega
                      have hgd : decide ((0 : Int) < (c : Int)) = true := decide_eq_true hc0
                      have hcn : 0 < c := by omega
                      have hgd2 : decide (0 < c) = true := decide_eq_true hcn
                      have hb6 : (0 : Int) ≤ (c : Int) - 1 := by omega
                      have hb7 : (c : Int) - 1 < (L2 : Int) := by omega
                      have hb8 : ((c : Int) - 1).toNat = c - 1 := by omega
                      have hle : decide (p ≤ y) = false := decide_eq_false (by omega)
                      go_wp2_with fail
                      go_quiet (fail)
                      go_wp2_with fail
                      go_quiet (fail)
                      go_wp2_with fail
                      go_roundw
                      case rel => exact ⟨c + 1, by omega, by go_num, _, rfl⟩
                      case measure => simp [RowKit.intOf]; omega
                · clear CP2 CW2
                  go_wp2_with fail
                  go_loopw [11] (fun t wr => ∃ c : Nat, c ≤ k ∧ t = .int .i64 c ∧ ∃ m, wr = wB.drewN m) (fun t _ => k - (RowKit.intOf t).toNat)
                  case atStart => exact ⟨0, Nat.zero_le _, rfl, m, rfl⟩
                  case round =>
                    obtain ⟨c5, hc5, rfl, m5, rfl⟩ := hrel
                    by_cases hck : c5 < k
                    · obtain ⟨gx, hgx, dx⟩ := CX.out c5 hck
                      have hL0 := hLp.out (by omega)
                      obtain ⟨g1, h1, _⟩ := CP.out 0 hL0
                      obtain ⟨g2, h2, _⟩ := CW.out 0 hL0
                      have CP' : Hid (∀ j, j < L2 → (wB.drewN m5).cell? ⟨g1, j, none⟩ = some (.int .i32 ((PM.st xs).1.getD j 0))) := fun j hj => by
                        obtain ⟨g, hg, d⟩ := CP.out j hj
                        rw [h1] at hg
                        obtain rfl : g1 = g := by simpa using hg
                        exact d
                      have CW' : Hid (∀ j, j < L2 → (wB.drewN m5).cell? ⟨g2, j, none⟩ = some (.int .u64 ((PM.st xs).2.getD j 0 : Nat))) := fun j hj => by
                        obtain ⟨g, hg, d⟩ := CW.out j hj
                        rw [h2] at hg
                        obtain rfl : g2 = g := by simpa using hg
                        exact d
                      obtain ⟨x0, x1⟩ := HR.out c5 hck
                      have HM : Hid (xs.getD c5 0 ∈ xs) := by
                        have hl : c5 < xs.length := by rw [hxl.out]; exact hck
                        show xs.getD c5 0 ∈ xs
                        rw [List.getD_eq_getElem?_getD, List.getElem?_eq_getElem hl]
                        exact List.getElem_mem hl
                      subst hgx h1 h2
                      generalize xs.getD c5 0 = x at dx x0 x1 HM
                      clear CX CP CW
                      go_wp2_with fail
                      refine (posIn_true g1 g2 L2 L2 L2 xs x _ (by omega) hplen x0 x1 HM CP' CW').mono ?_
                      rintro e w' ⟨rfl, rfl⟩
                      clear CP' CW' HM
                      go_wp2_with fail
                      go_roundw
                      case rel => exact ⟨c5 + 1, by omega, by go_num, _, rfl⟩
                      case measure => simp [RowKit.intOf]; omega
                    · obtain ⟨df, hdf⟩ : ∃ df, df = PM.dist xs := ⟨_, rfl⟩
                      have D0 : Hid (df 0 = 0) := by rw [hdf]; exact PM.dist_zero xs
                      have D1 : Hid (∀ c, df (c + 1) = df c + (if (xs.take c).contains (xs.getD c 0) = true then 0 else 1)) := fun c => by rw [hdf]; exact PM.dist_succ xs c
                      have D2 : Hid (∀ c, df c ≤ c) := fun c => by rw [hdf]; exact PM.dist_le xs c
                      have D3 : Hid (PM.tot (PM.st xs).2 = df k) := by
                        have h := PM.st_tot xs k (by rw [hxl.out]; exact Nat.le_refl _)
                        rw [List.take_of_length_le (by rw [hxl.out]; exact Nat.le_refl _)] at h
                        rw [hdf]
                        exact h
                      clear hdf CP
                      go_wp2_with fail
                      go_loopw [12, 13] (fun t12 t13 wr => ∃ c : Nat, c ≤ k ∧ t12 = .int .i64 (df c : Nat) ∧ t13 = .int .i64 c ∧ ∃ m, wr = wB.drewN m) (fun _ t _ => k - (RowKit.intOf t).toNat)
                      case atStart => exact ⟨0, Nat.zero_le _, by rw [D0.out]; rfl, rfl, m5, rfl⟩
                      case round =>
                        obtain ⟨c6, hc6, rfl, rfl, m6, rfl⟩ := hrel
                        have hdc := D2.out c6
                        by_cases hck6 : c6 < k
                        · have HD := D1.out c6
                          have HI : Hid ((xs.take c6).contains (xs.getD c6 0) = true ↔ ∃ t, t < c6 ∧ xs.getD t 0 = xs.getD c6 0) := contains_iff xs c6 (by rw [hxl.out]; exact hc6) _
                          have HDy : Hid ((∃ t, t < c6 ∧ xs.getD t 0 = xs.getD c6 0) → df (c6 + 1) = df c6) := fun h => by rw [HD, if_pos (HI.out.2 h)]; rfl
                          have HDn : Hid ((∀ t, t < c6 → xs.getD t 0 ≠ xs.getD c6 0) → df (c6 + 1) = df c6 + 1) := fun h => by
                            rw [HD, if_neg (fun hh => by obtain ⟨t, ht, e⟩ := HI.out.1 hh; exact h t ht e)]
                          clear HD HI
                          go_wp2_with fail
                          go_loopw [14, 15] (fun t14 t15 wr => ∃ j : Nat, j ≤ c6 ∧ t14 = .bool false ∧ t15 = .int .i64 j ∧ Hid (∀ t, t < j → xs.getD t 0 ≠ xs.getD c6 0) ∧ ∃ m, wr = wB.drewN m) (fun _ t _ => c6 - (RowKit.intOf t).toNat)
                          case atStart => exact ⟨0, Nat.zero_le _, rfl, rfl, fun t ht => by omega, m6, rfl⟩
                          case round =>
                            obtain ⟨j, hj, rfl, rfl, HJ, m7, rfl⟩ := hrel
                            by_cases hjc : j < c6
                            · obtain ⟨gx, hgx, d1⟩ := CX.out j (by omega)
                              obtain ⟨gx', hgx', d2⟩ := CX.out c6 hck6
                              rw [hgx] at hgx'
                              obtain rfl : gx = gx' := by simpa using hgx'
                              subst hgx
                              obtain ⟨x, hx⟩ : ∃ x, x = xs.getD j 0 := ⟨_, rfl⟩
                              obtain ⟨y, hy⟩ : ∃ y, y = xs.getD c6 0 := ⟨_, rfl⟩
                              rw [← hx] at d1
                              rw [← hy] at d2
                              have hb1 : (j : Int) < (k : Int) := by omega
                              have hb2 : (c6 : Int) < (k : Int) := by omega
                              have hb3 : (0 : Int) ≤ (j : Int) := by omega
                              have hb4 : (0 : Int) ≤ (c6 : Int) := by omega
                              by_cases e : x = y
                              · have HE : Hid (df (c6 + 1) = df c6) := HDy.out ⟨j, hjc, by rw [← hx, ← hy]; exact e⟩
                                have b1 : (x == y) = true := by rw [e]; simp
                                clear hx hy e HJ HDy HDn CX CW
                                go_wp2_with fail
                                go_quiet (fail)
                                go_wp2_with fail
                                go_roundw
                                case rel => exact ⟨c6 + 1, by omega, by rw [HE.out], by go_num, _, rfl⟩
                                case measure => simp [RowKit.intOf]; omega
                              · have HJ2 : Hid (∀ t, t < j + 1 → xs.getD t 0 ≠ xs.getD c6 0) := fun t ht => by
                                  by_cases h : t = j
                                  · rw [h, ← hx, ← hy]; exact e
                                  · exact HJ.out t (by omega)
                                have b1 : (x == y) = false := beq_eq_false_iff_ne.2 e
                                clear hx hy e HJ HDy HDn CX CW
                                go_wp2_with fail
                                go_quiet (fail)
                                go_wp2_with fail
                                go_roundw
                                case rel => exact ⟨j + 1, by omega, rfl, by go_num, HJ2, _, rfl⟩
                                case measure => simp [RowKit.intOf]; omega
                            · have HE : Hid (df (c6 + 1) = df c6 + 1) := HDn.out (fun t ht => HJ.out t (by omega))
                              clear HJ HDy HDn CX CW
                              go_wp2_with fail
                              go_roundw
                              case rel => exact ⟨c6 + 1, by omega, by rw [HE.out]; go_num, by go_num, _, rfl⟩
                              case measure => simp [RowKit.intOf]; omega
                        · have hck7 : c6 = k := by omega
                          subst hck7
                          obtain ⟨pf, hpf⟩ : ∃ pf, pf = PM.pop 64 := ⟨_, rfl⟩
                          obtain ⟨tf, htf⟩ : ∃ tf : Nat → Nat, tf = fun c => PM.tot ((PM.st xs).2.take c) := ⟨_, rfl⟩
                          have T0 : Hid (tf 0 = 0) := by show tf 0 = 0; rw [htf]; simp [PM.tot]
                          have T1 : Hid (∀ c, c < L2 → tf (c + 1) = tf c + pf ((PM.st xs).2.getD c 0)) := fun c hc => by
                            rw [htf, hpf]
                            exact tot_take _ c (by rw [hwlen.out]; exact hc)
                          have T2 : Hid (∀ c, tf c ≤ 64 * c) := fun c => by rw [htf]; exact tot_le _ c
                          have T3 : Hid (tf L2 = df c6) := by
                            rw [htf, ← D3.out]
                            show PM.tot ((PM.st xs).2.take L2) = _
                            rw [List.take_of_length_le (by rw [hwlen.out]; exact Nat.le_refl _)]
                          have PF : Hid (∀ v, pf v ≤ 64) := fun v => by rw [hpf]; exact PM.pop_le 64 v
                          have ONES : Hid (∀ (v : Nat) (w : World), v < 18446744073709551616 → Calls Try.prog 22 #[.int .u64 (v : Int)] w fun e w' => e = .returned (.int .i64 (pf v : Nat)) ∧ w = w') := fun v w hv => by
                            rw [hpf]; exact ones v w hv
                          clear hpf htf D0 D1 D2 D3 CX
                          go_wp2_with fail
                          go_loopw [16, 17] (fun t16 t17 wr => ∃ c : Nat, c ≤ L2 ∧ t16 = .int .i64 (tf c : Nat) ∧ t17 = .int .i64 c ∧ ∃ m, wr = wB.drewN m) (fun _ t _ => L2 - (RowKit.intOf t).toNat)
                          case atStart => exact ⟨0, Nat.zero_le _, by rw [T0.out]; rfl, rfl, m6, rfl⟩
                          case round =>
                            obtain ⟨c8, hc8, rfl, rfl, m8, rfl⟩ := hrel
                            have ht8 := T2.out c8
                            by_cases hcL8 : c8 < L2
                            · obtain ⟨g2, h2, d2⟩ := CW.out c8 hcL8
                              have HT := T1.out c8 hcL8
                              have hv : (PM.st xs).2.getD c8 0 < 18446744073709551616 := ((PM.st_good xs).pos _ (getD_mem (PM.st xs).2 c8 (by rw [hwlen.out]; exact hcL8))).2
                              subst h2
                              generalize (PM.st xs).2.getD c8 0 = v at d2 HT hv
                              have hpv := PF.out v
                              have HT2 : Hid (tf (c8 + 1) = tf c8 + pf v) := HT
                              clear HT CW
                              go_wp2_with fail
                              refine (ONES.out v _ hv).mono ?_
                              rintro e w' ⟨rfl, rfl⟩
                              go_wp2_with fail
                              go_roundw
                              case rel => exact ⟨c8 + 1, by omega, by rw [HT2.out]; go_num, by go_num, _, rfl⟩
                              case measure => simp [RowKit.intOf]; omega
                            · have hc9 : c8 = L2 := by omega
                              subst hc9
                              have hfin : ((tf c8 : Int) == (df c6 : Int)) = true := by rw [T3.out]; simp
                              clear CW
                              go_wp2_with fail
                              go_ret
                              exact ⟨by simp, FB.out _⟩

set_option maxHeartbeats 800000 in
set_option maxRecDepth 100000 in
theorem order_long (a0 : Option Addr) (n cap0 : Nat) (w : World) (hn : ¬ n ≤ 4096) (hm : n ≤ 9223372036854775807) :
    Calls Try.prog 7 #[.slice a0 n cap0] w fun e w' => e = .returned (.bool true) ∧ Below w.heap.size w w' := by
  by_cases h : n ≤ 1048576
  · go_enter Try.func7, Try.ntmps7
    go_wp2_with (go_at_call 19; refine (bytes19 _ _ _ _ h).mono ?_; rintro e w' ⟨rfl, rfl⟩)
    go_ret
    exact ⟨rfl, Below.refl _ _⟩
  · go_enter Try.func7, Try.ntmps7
    go_wp2_with (go_at_call 19; refine (bytes19n _ _ _ _ h hm).mono ?_; rintro e w' ⟨rfl, rfl⟩)
    go_ret
    exact ⟨rfl, Below.refl _ _⟩
end Go.Proofs.Qxb6602305a
