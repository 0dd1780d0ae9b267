/- (*positionSet).add where w is to be put in the midst: two calls of slices.Insert in one statement whose order Go leaves open, then one word written. -/
import Derived.Test.Qxb6602305aAddHit
import Derived.Deep.DrawnRows
import Derived.Deep.DeepCutAuto
set_option linter.unusedVariables false
namespace Go.Proofs.Qxb6602305a
open Go.RowKit Go.Lib
attribute [local go_sem ↓] Go.wp_at_zero Go.wp_at_succ
attribute [local go_sem] gA gD gDN gN

theorem insert_pn (w0 : World) (base n i : Nat) (ap : Option Addr) (vb : Nat) (ps : List Int) (q : Int) (W : World) (hP : Hid (w0.ownsRow base 21 1 (.slice ap n n) n (ps.map (Value.int .i32)))) (hn : n ≤ 65536) (hi : i < n)
    (hc : W.cell? ⟨vb, 0, none⟩ = some (.int .i32 q)) (hG : w0.grownBy W none) :
    Calls Try.prog 28 #[.slice ap n n, .int .i64 i, .slice (some ⟨vb, 0, none⟩) 1 1] W fun e w' => ∃ g cap, e = .returned (.slice (some ⟨g, 0, none⟩) (n + 1) cap) ∧ w0.grownBy w' none ∧
      Hid (w'.ownsRow w0.heap.size 21 1 (.slice (some ⟨g, 0, none⟩) (n + 1) cap) (n + 1) ((PM.ins ps i q).map (Value.int .i32))) ∧ Hid (W.grownBy w' none) := by
  have h2 := own_far hP.out hG
  obtain ⟨hl, h3⟩ := h2
  rcases h3 with ⟨h4, h5⟩ | ⟨g, c, cur, h4, _⟩
  · omega
  · simp only [Value.slice.injEq] at h4
    obtain ⟨rfl, _, _⟩ := h4
    have ho := own_olds hP.out hG ⟨g, 0, none⟩ rfl
    refine (insert_int32_world g 0 n n i vb 0 1 1 (ps.map (Value.int .i32)) [Value.int .i32 q] W hi (by omega) (by omega) (by omega) (by omega) (by simpa using hl) rfl (fun j v hj => by have := ho j v hj; rw [Addr.add_lit] at this; exact this) (fun j v hj => by have := news1 hc j v hj; rw [Addr.add_lit] at this; exact this) (ints_oneCell _ _) (by simp [Value.oneCell'])).mono ?_
    rintro e w' ⟨rfl, hw⟩
    obtain ⟨r1, r2⟩ := row_of_insert (w := W) (base := w0.heap.size) (n := n) (m := 1) (i := i) (G := grownCap W (n + 1) n 21) (e := 21) (z := Value.int .i32 0) (cs := ps.map (Value.int .i32)) (vs := [Value.int .i32 q]) hi (by simpa using hl) rfl (grownCap_ge W _ _ _) (grownCap_le_maxLen W (n + 1) n 21 (by unfold maxLen; omega)) rfl hG.size hw
    exact ⟨_, _, rfl, gT hG r1, by show World.ownsRow _ _ _ _ _ _ _; unfold PM.ins; simpa using r2, r1⟩

theorem insert_wn (w0 : World) (base n i : Nat) (ap : Option Addr) (vb : Nat) (ps : List Int) (q : Int) (W : World) (hP : Hid (w0.ownsRow base 33 1 (.slice ap n n) n (ps.map (Value.int .u64)))) (hn : n ≤ 65536) (hi : i < n)
    (hc : W.cell? ⟨vb, 0, none⟩ = some (.int .u64 q)) (hG : w0.grownBy W none) :
    Calls Try.prog 29 #[.slice ap n n, .int .i64 i, .slice (some ⟨vb, 0, none⟩) 1 1] W fun e w' => ∃ g cap, e = .returned (.slice (some ⟨g, 0, none⟩) (n + 1) cap) ∧ w0.grownBy w' none ∧
      Hid (w'.ownsRow w0.heap.size 33 1 (.slice (some ⟨g, 0, none⟩) (n + 1) cap) (n + 1) ((PM.ins ps i q).map (Value.int .u64))) ∧ Hid (W.grownBy w' none) := by
  have h2 := own_far hP.out hG
  obtain ⟨hl, h3⟩ := h2
  rcases h3 with ⟨h4, h5⟩ | ⟨g, c, cur, h4, _⟩
  · omega
  · simp only [Value.slice.injEq] at h4
    obtain ⟨rfl, _, _⟩ := h4
    have ho := own_olds hP.out hG ⟨g, 0, none⟩ rfl
    refine (insert_uint64_world g 0 n n i vb 0 1 1 (ps.map (Value.int .u64)) [Value.int .u64 q] W hi (by omega) (by omega) (by omega) (by omega) (by simpa using hl) rfl (fun j v hj => by have := ho j v hj; rw [Addr.add_lit] at this; exact this) (fun j v hj => by have := news1 hc j v hj; rw [Addr.add_lit] at this; exact this) (ints_oneCell _ _) (by simp [Value.oneCell'])).mono ?_
    rintro e w' ⟨rfl, hw⟩
    obtain ⟨r1, r2⟩ := row_of_insert (w := W) (base := w0.heap.size) (n := n) (m := 1) (i := i) (G := grownCap W (n + 1) n 33) (e := 33) (z := Value.int .u64 0) (cs := ps.map (Value.int .u64)) (vs := [Value.int .u64 q]) hi (by simpa using hl) rfl (grownCap_ge W _ _ _) (grownCap_le_maxLen W (n + 1) n 33 (by unfold maxLen; omega)) rfl hG.size hw
    exact ⟨_, _, rfl, gT hG r1, by show World.ownsRow _ _ _ _ _ _ _; unfold PM.ins; simpa using r2, r1⟩


theorem close_store {S base B m cap2 g2 k : Nat} {P W : List Int} {u : Int} {w wc : World} {vp : Value} (hb : wc.heap[S]? = some (.cells #[vp, .slice (some ⟨g2, 0, none⟩) m cap2] 41 (0, 0)))
    (oP : OwnP wc B vp P) (oW : wc.ownsRow B 33 1 (.slice (some ⟨g2, 0, none⟩) m cap2) m (W.map (Value.int .u64))) (t : Touch S none w wc) (hB : B = w.heap.size) (hbase : base ≤ w.heap.size) (hg2 : B ≤ g2) :
    AddPost S base none P (W.set k u) w (wc.setCell ⟨g2, k, none⟩ (.int .u64 u)) := by
  have hSW : S ≠ g2 := fun e => by
    rcases own_ne oW hb (by decide) with h | h
    · cases h
    · exact h (by rw [e]; rfl)
  have hg := grown_set wc g2 k (.int .u64 u)
  have hlt : S < wc.heap.size := by
    obtain ⟨h, _⟩ := Array.getElem?_eq_some_iff.1 hb
    exact h
  refine ⟨vp, .slice (some ⟨g2, 0, none⟩) m cap2, (hg.block S hlt (by simpa using hSW)).trans hb, own_base (base := B) ?_ (by omega), own_base (base := B) (ownW_len (n := m) ?_).1 (by omega), ⟨t.os, t.tape, t.output, Nat.le_trans t.size hg.size, fun j hj h1 h2 => (hg.block j (Nat.lt_of_lt_of_le hj t.size) (fun e => by simp only [Option.some.injEq] at e; omega)).trans (t.block j hj h1 h2)⟩⟩
  · refine World.ownsRow.kept oP hg ?_
    obtain ⟨hl, h3⟩ := oP
    rcases h3 with ⟨h4, _⟩ | ⟨g, c, cur, h4, h5, h6, h7⟩
    · rw [h4]; exact .inl rfl
    · refine .inr (fun e => ?_)
      rw [h4] at e
      simp only [Value.ownBlock, Option.some.injEq] at e
      subst e
      exact absurd (own_tag (w := wc) (base := B) ⟨hl, .inr ⟨g, c, cur, rfl, h5, h6, h7⟩⟩ oW) (by decide)
  · rw [List.map_set]
    exact (oW.stored k (.int .u64 u)).1

theorem post_form {S B m : Nat} {P W : List Int} {w wc : World} (h : AddPost S B none P W w wc) (hm : W.length = m) (h0 : 0 < m) :
    ∃ vp g2 cap2, wc.heap[S]? = some (.cells #[vp, .slice (some ⟨g2, 0, none⟩) m cap2] 41 (0, 0)) ∧ OwnP wc B vp P ∧ wc.ownsRow B 33 1 (.slice (some ⟨g2, 0, none⟩) m cap2) m (W.map (Value.int .u64)) ∧ Touch S none w wc ∧ B ≤ g2 := by
  obtain ⟨vp, vw, hb, oP, oW, t⟩ := h
  unfold OwnW at oW
  rw [hm] at oW
  obtain ⟨g2, cap2, rfl⟩ := Joins.ownsRow_form oW h0
  exact ⟨vp, g2, cap2, hb, oP, oW, t, (oW.lt g2 rfl).1⟩

set_option maxHeartbeats 16000000 in
set_option maxRecDepth 100000 in
theorem add_miss (S base n g gw k : Nat) (ps ws : List Int) (i q r bit z : Int) (w : World)
    (hi : 0 ≤ i) (hq : i / 64 = q) (hr : bits BinOp.and .i64 i 63 = r) (hq0 : 0 ≤ q) (hq1 : q ≤ 2147483647) (hr0 : 0 ≤ r) (hr1 : r ≤ 63) (hbit : IntKind.u64.wrap (2 ^ r.toNat) = bit)
    (hn : n ≤ 65536) (hkn : k < n) (hP : Hid (w.ownsRow base 21 1 (.slice (some ⟨g, 0, none⟩) n n) n (ps.map (Value.int .i32)))) (hW : Hid (w.ownsRow base 33 1 (.slice (some ⟨gw, 0, none⟩) n n) n (ws.map (Value.int .u64))))
    (hS : w.heap[S]? = some (.cells #[.slice (some ⟨g, 0, none⟩) n n, .slice (some ⟨gw, 0, none⟩) n n] 41 (0, 0))) (hbase : base ≤ w.heap.size)
    (hinc : Hid (PM.Inc ps)) (hk : Hid (PM.cnt ps q = k ∧ PM.hitB ps q = false)) (hlast : Hid (ps.getD (n - 1) 0 = z)) (hz : q < z) :
    Calls Try.prog 25 #[.pointer (some ⟨S, 0, none⟩), .int .i64 i] w fun e w' => e = .returned (.tuple #[]) ∧ AddPost S base none (PM.ins ps k q) ((PM.ins ws k 0).set k (bits BinOp.or .u64 0 bit)) w w' := by
  obtain ⟨c0, c1, f0, f1, hSlt⟩ := block_cell hS
  have HS : Hid (w.heap[S]? = some (.cells #[.slice (some ⟨g, 0, none⟩) n n, .slice (some ⟨gw, 0, none⟩) n n] 41 (0, 0))) := hS
  have hc : w.cell? ⟨g, n - 1, none⟩ = some (.int .i32 z) := by rw [own_cell hP.out (n - 1) (by omega), hlast.out]
  have hpl : Hid (ps.length = n) := (ownP_len hP.out).2
  have hwl : Hid (ws.length = n) := (ownW_len hW.out).2
  have hcs : Hid (∀ m j, j < n → (w.drewN m).cell? ⟨g, j, none⟩ = some (.int .i32 (ps.getD j 0))) := fun m j hj => own_cell hP.out j hj
  have hS0 : ∀ W, w.grownBy W none → W.cell? ⟨S, 0, none⟩ = some (.slice (some ⟨g, 0, none⟩) n n) := fun W h => gcell h c0
  have hS1 : ∀ W, w.grownBy W none → W.cell? ⟨S, 1, none⟩ = some (.slice (some ⟨gw, 0, none⟩) n n) := fun W h => gcell h c1
  have hF0 : ∀ W, w.grownBy W none → W.frozen? ⟨S, 0, none⟩ = false := fun W h => gfroz h hSlt f0
  have hF1 : ∀ W, w.grownBy W none → W.frozen? ⟨S, 1, none⟩ = false := fun W h => gfroz h hSlt f1
  clear hS
  go_enter Try.func25, Try.ntmps25
  go_wp2_with fail
  go_quiet (fail)
  go_upto_region 8 with (go_at_call 27; refine (search_at g n k ps q false _ hpl hn (hcs.out _) hinc hk).mono ?_; rintro e w' ⟨rfl, m, rfl⟩)
  go_cut [] (fun wc => Hid (AddPost S w.heap.size none (PM.ins ps k q) (PM.ins ws k 0) w wc))
  case first =>
    clear hc
    go_region_with (first
      | (go_at_call 28; refine (insert_pn w base n k (some ⟨g, 0, none⟩) _ ps q _ hP hn hkn (by first | exact new_cell (by simp) | exact new_cell1 (by simp)) (by repeat (first | assumption | exact gN _ _ | refine gA ?_ | refine gD ?_ | refine gDN ?_))).mono ?_; rintro e w1 ⟨g1, cap1, rfl, G1, O1, T1⟩)
      | (go_at_call 29; refine (insert_wn w base n k (some ⟨gw, 0, none⟩) _ ws 0 _ hW hn hkn (by first | exact new_cell (by simp) | exact new_cell1 (by simp) | exact gcell T1.out (new_cell (by simp)) | exact gcell T1.out (new_cell1 (by simp))) (by repeat (first | assumption | exact gN _ _ | refine gA ?_ | refine gD ?_ | refine gDN ?_))).mono ?_; rintro e w2 ⟨g2, cap2, rfl, G2, O2, T2⟩))
    all_goals
      go_wp2_with fail
      go_meet
      case rel => exact close_two HS.out G2 (ownP_len (own_far O1.out (by first | exact T2.out | exact gT (gA (World.grownBy.refl _ _)) T2.out))).1 (ownW_len O2.out).1
  case rest =>
    obtain ⟨vp, g2, cap2, hb, oP, oW, tch, hg2⟩ := post_form (m := n + 1) hcut.out (by unfold PM.ins; have := hwl.out; simp; omega) (by omega)
    have d1 := (block_cell hb).2.1
    have d2 : wc.cell? ⟨g2, k, none⟩ = some (.int .u64 0) := by rw [own_cell oW k (by omega), PM.ins_at _ _ _ (by have := hwl.out; omega)]
    have d3 : wc.frozen? ⟨g2, k, none⟩ = false := oW.frozenAt k
    have FIN : Hid (AddPost S base none (PM.ins ps k q) ((PM.ins ws k 0).set k (bits BinOp.or .u64 0 bit)) w (wc.setCell ⟨g2, k, none⟩ (.int .u64 (bits BinOp.or .u64 0 bit)))) := close_store hb oP oW tch rfl hbase hg2
    clear hb oP oW tch hcut hS0 hS1 hF0 hF1 hc c0 c1
    go_wp2_with fail
    go_end0
    exact ⟨rfl, FIN.out⟩
end Go.Proofs.Qxb6602305a
