/- (*positionSet).add where w lies past every place: two appends in one statement whose order Go leaves open. -/
import Derived.Test.Qxb6602305aSteps
import Derived.WalkKit
import Derived.Deep.QuietTactic
import Derived.BigQuiet
import Derived.WalkSpells
import Derived.WalkLawsBesides
import Derived.Deep.DrawnRows
import Derived.Deep.DeepCutAuto
set_option linter.unusedVariables false
namespace Go.Proofs.Qxb6602305a
open Go.RowKit Go.Lib
attribute [local go_sem ↓] Go.wp_at_zero Go.wp_at_succ
attribute [local go_sem] gA gD gDN gN

set_option maxHeartbeats 16000000 in
set_option maxRecDepth 100000 in
theorem add_end (S base n : Nat) (ap aw : Option Addr) (ps ws : List Int) (i q r bit : Int) (w : World)
    (hi : 0 ≤ i) (hq : i / 64 = q) (hr : bits BinOp.and .i64 i 63 = r) (hq0 : 0 ≤ q) (hq1 : q ≤ 2147483647) (hr0 : 0 ≤ r) (hr1 : r ≤ 63) (hbit : IntKind.u64.wrap (2 ^ r.toNat) = bit)
    (hn : n ≤ 65536) (hP : Hid (w.ownsRow base 21 1 (.slice ap n n) n (ps.map (Value.int .i32)))) (hW : Hid (w.ownsRow base 33 1 (.slice aw n n) n (ws.map (Value.int .u64))))
    (hS : w.heap[S]? = some (.cells #[.slice ap n n, .slice aw n n] 41 (0, 0))) (hbase : base ≤ w.heap.size)
    (hend : n = 0 ∨ ∃ g z, 0 < n ∧ ap = some ⟨g, 0, none⟩ ∧ w.cell? ⟨g, n - 1, none⟩ = some (.int .i32 z) ∧ z < q) :
    Calls Try.prog 25 #[.pointer (some ⟨S, 0, none⟩), .int .i64 i] w fun e w' => e = .returned (.tuple #[]) ∧ AddPost S base none (ps ++ [q]) (ws ++ [bit]) w w' := by
  obtain ⟨c0, c1, f0, f1, hSlt⟩ := block_cell hS
  have hS0 : ∀ W, w.grownBy W none → W.cell? ⟨S, 0, none⟩ = some (.slice ap n n) := fun W h => gcell h c0
  have hS1 : ∀ W, w.grownBy W none → W.cell? ⟨S, 1, none⟩ = some (.slice aw n n) := fun W h => gcell h c1
  have hF0 : ∀ W, w.grownBy W none → W.frozen? ⟨S, 0, none⟩ = false := fun W h => gfroz h hSlt f0
  have hF1 : ∀ W, w.grownBy W none → W.frozen? ⟨S, 1, none⟩ = false := fun W h => gfroz h hSlt f1
  have HS : Hid (w.heap[S]? = some (.cells #[.slice ap n n, .slice aw n n] 41 (0, 0))) := hS
  have HE : Hid (n = 0 ∨ ∃ g z, 0 < n ∧ ap = some ⟨g, 0, none⟩ ∧ w.cell? ⟨g, n - 1, none⟩ = some (.int .i32 z) ∧ z < q) := hend
  clear hS hend
  go_enter Try.func25, Try.ntmps25
  go_wp2_with fail
  go_quiet (fail)
  go_upto_region 2 with fail
  go_cut [21] (fun c wc => c = .bool true ∧ ∃ k, wc = w.drewN k)
  case first =>
    rcases HE.out with h0 | ⟨g, z, hn0, rfl, hc, hz⟩
    · subst h0
      go_wp2_with fail
      go_meet
      exact ⟨rfl, _, rfl⟩
    · go_wp2_with fail
      go_meet
      exact ⟨rfl, _, rfl⟩
  case rest =>
    obtain ⟨rfl, k, rfl⟩ := hcut
    go_wp2_with fail
    go_region_law (first
      | (refine step_p rfl _ _ rfl w base n ap ps q hP hbase hn (by rfl) _ (by rfl) (by first | exact new_cell (by simp) | exact new_cell1 (by simp)) (by repeat (first | assumption | exact gN _ _ | refine gA ?_ | refine gD ?_ | refine gDN ?_)) ?_; intro g1 cap1 w1 G1 O1 T1)
      | (refine step_w rfl _ _ rfl w base n aw ws bit hW hbase hn (by rfl) _ (by rfl) (by first | exact new_cell (by simp) | exact new_cell1 (by simp) | exact gcell T1.out (new_cell (by simp)) | exact gcell T1.out (new_cell1 (by simp))) (by repeat (first | assumption | exact gN _ _ | refine gA ?_ | refine gD ?_ | refine gDN ?_)) ?_; intro g2 cap2 w2 G2 O2 T2))
    all_goals
      go_wp2_with fail
      refine bodyPost_ret (results_none rfl _ _ _) rfl ?_
      exact ⟨rfl, close_end HS G2 (by first | exact T2.out | exact gT (gA (World.grownBy.refl _ _)) T2.out) O1 O2⟩
end Go.Proofs.Qxb6602305a
