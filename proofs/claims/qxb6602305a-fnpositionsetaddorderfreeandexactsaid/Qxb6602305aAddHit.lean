/- (*positionSet).add where w stands among the places: one word is written in place. -/
import Derived.Test.Qxb6602305aSearch
import Derived.Test.Qxb6602305aSteps
import Derived.WalkKit
import Derived.Deep.QuietTactic
import Derived.BigQuiet
import Derived.WalkSpells
import Derived.WalkLawsBesides
set_option linter.unusedVariables false
namespace Go.Proofs.Qxb6602305a
open Go.RowKit Go.Lib

theorem own_tag {w : World} {base base' e e' g n m c c' : Nat} {xs ys : List Value} (h : w.ownsRow base e 1 (.slice (some ⟨g, 0, none⟩) n c) n xs) (k : w.ownsRow base' e' 1 (.slice (some ⟨g, 0, none⟩) m c') m ys) : e = e' := by
  obtain ⟨_, h2⟩ := h
  obtain ⟨_, k2⟩ := k
  rcases h2 with ⟨h3, _⟩ | ⟨g1, c1, u1, h3, _, h4, _⟩
  · cases h3
  · rcases k2 with ⟨k3, _⟩ | ⟨g2, c2, u2, k3, _, k4, _⟩
    · cases k3
    · simp only [Value.slice.injEq, Option.some.injEq, Addr.mk.injEq] at h3 k3
      rw [← h3.1.1] at h4
      rw [← k3.1.1, h4] at k4
      simp only [Option.some.injEq, Obj.cells.injEq] at k4
      exact k4.2.1

theorem close_set {S base n gw k : Nat} {ap : Option Addr} {ps ws : List Int} {u : Int} {w : World} {m : Nat}
    (hS : Hid (w.heap[S]? = some (.cells #[.slice ap n n, .slice (some ⟨gw, 0, none⟩) n n] 41 (0, 0))))
    (hP : Hid (w.ownsRow base 21 1 (.slice ap n n) n (ps.map (Value.int .i32)))) (hW : Hid (w.ownsRow base 33 1 (.slice (some ⟨gw, 0, none⟩) n n) n (ws.map (Value.int .u64)))) :
    AddPost S base (some gw) ps (ws.set k u) w ((w.drewN m).setCell ⟨gw, k, none⟩ (.int .u64 u)) := by
  have hSW : S ≠ gw := fun e => by
    rcases own_ne hW.out hS.out (by decide) with h | h
    · cases h
    · exact h (by rw [e]; rfl)
  have hg : w.grownBy ((w.drewN m).setCell ⟨gw, k, none⟩ (.int .u64 u)) (some gw) :=
    ⟨rfl, rfl, rfl, by simp [World.setCell], fun j _ hn => Below.heap_setCell _ _ _ _ (fun e => hn (by rw [e]))⟩
  have hlt : S < w.heap.size := by
    obtain ⟨h, _⟩ := Array.getElem?_eq_some_iff.1 hS.out
    exact h
  refine ⟨.slice ap n n, .slice (some ⟨gw, 0, none⟩) n n, (hg.block S hlt (by simpa using hSW)).trans hS.out, (ownP_len (n := n) ?_).1, (ownW_len (n := n) ?_).1, ⟨hg.os, hg.tape, hg.output, hg.size, fun j hj _ hne => hg.block j hj hne⟩⟩
  · refine hP.out.kept hg ?_
    cases hap : ap with
    | none => exact .inl rfl
    | some a =>
      refine .inr (fun e => ?_)
      simp only [Value.ownBlock, Option.some.injEq] at e
      have hP' := hP.out
      rw [hap] at hP'
      have hf := hP'
      obtain ⟨_, h3⟩ := hf
      rcases h3 with ⟨h4, _⟩ | ⟨g, c, cur, h4, _⟩
      · cases h4
      · simp only [Value.slice.injEq, Option.some.injEq] at h4
        obtain ⟨rfl, _, _⟩ := h4
        subst e
        exact absurd (own_tag hP' hW.out) (by decide)
  · rw [List.map_set]
    exact (show (w.drewN m).ownsRow base 33 1 (.slice (some ⟨gw, 0, none⟩) n n) n (ws.map (Value.int .u64)) from hW.out).stored k (.int .u64 u) |>.1

theorem search_at (b n k : Nat) (ps : List Int) (x : Int) (B : Bool) (w : World) (hz : Hid (ps.length = n)) (hbig : n ≤ 65536)
    (hc : Hid (∀ j, j < n → w.cell? ⟨b, j, none⟩ = some (.int .i32 (ps.getD j 0)))) (hs : Hid (PM.Inc ps)) (hk : Hid (PM.cnt ps x = k ∧ PM.hitB ps x = B)) :
    Calls Try.prog 27 #[.slice (some ⟨b, 0, none⟩) n n, .int .i32 x] w fun e w' =>
      e = .returned (.tuple #[.int .i64 k, .bool B]) ∧ ∃ q, w' = w.drewN q := by
  obtain ⟨h1, h2⟩ := hk.out
  subst h1 h2
  exact search b 0 n n ps x w hz.out (by omega) (fun j hj => by rw [Nat.zero_add]; exact hc.out j hj) hs.out

theorem own_cell {w : World} {base e g n c : Nat} {k : IntKind} {zs : List Int} (h : w.ownsRow base e 1 (.slice (some ⟨g, 0, none⟩) n c) n (zs.map (Value.int k))) (j : Nat) (hj : j < n) : w.cell? ⟨g, j, none⟩ = some (.int k (zs.getD j 0)) := by
  have hl : zs.length = n := by simpa using h.1
  rw [h.cellAt j (by omega)]
  simp [List.getD, show j < zs.length by omega]

set_option maxHeartbeats 1600000 in
set_option maxRecDepth 100000 in
/-- the last place is w -/
theorem add_last (S base n g gw : Nat) (ps ws : List Int) (i q r bit : Int) (w : World)
    (hi : 0 ≤ i) (hq : i / 64 = q) (hr : bits BinOp.and .i64 i 63 = r) (hq0 : 0 ≤ q) (hq1 : q ≤ 2147483647) (hr0 : 0 ≤ r) (hr1 : r ≤ 63) (hbit : IntKind.u64.wrap (2 ^ r.toNat) = bit)
    (hn : n ≤ 65536) (hn0 : 0 < n) (hP : Hid (w.ownsRow base 21 1 (.slice (some ⟨g, 0, none⟩) n n) n (ps.map (Value.int .i32)))) (hW : Hid (w.ownsRow base 33 1 (.slice (some ⟨gw, 0, none⟩) n n) n (ws.map (Value.int .u64))))
    (hS : w.heap[S]? = some (.cells #[.slice (some ⟨g, 0, none⟩) n n, .slice (some ⟨gw, 0, none⟩) n n] 41 (0, 0)))
    (hlast : Hid (ps.getD (n - 1) 0 = q)) :
    Calls Try.prog 25 #[.pointer (some ⟨S, 0, none⟩), .int .i64 i] w fun e w' => e = .returned (.tuple #[]) ∧ AddPost S base (some gw) ps (ws.set (n - 1) (bits BinOp.or .u64 (ws.getD (n - 1) 0) bit)) w w' := by
  obtain ⟨c0, c1, _, _, _⟩ := block_cell hS
  have HS : Hid (w.heap[S]? = some (.cells #[.slice (some ⟨g, 0, none⟩) n n, .slice (some ⟨gw, 0, none⟩) n n] 41 (0, 0))) := hS
  have hc : w.cell? ⟨g, n - 1, none⟩ = some (.int .i32 q) := by rw [own_cell hP.out (n - 1) (by omega), hlast.out]
  have hcw : w.cell? ⟨gw, n - 1, none⟩ = some (.int .u64 (ws.getD (n - 1) 0)) := own_cell hW.out (n - 1) (by omega)
  have hf : w.frozen? ⟨gw, n - 1, none⟩ = false := hW.out.frozenAt (n - 1)
  generalize hx : ws.getD (n - 1) 0 = x at hcw ⊢
  clear hS hx
  go_enter Try.func25, Try.ntmps25
  go_wp2_with fail
  go_quiet (fail)
  go_wp2_with fail
  refine bodyPost_ret (results_none rfl _ _ _) rfl ?_
  exact ⟨rfl, close_set HS hP hW⟩

set_option maxHeartbeats 1600000 in
set_option maxRecDepth 100000 in
/-- a place in the midst is w -/
theorem add_mid (S base n g gw k : Nat) (ps ws : List Int) (i q r bit z : Int) (w : World)
    (hi : 0 ≤ i) (hq : i / 64 = q) (hr : bits BinOp.and .i64 i 63 = r) (hq0 : 0 ≤ q) (hq1 : q ≤ 2147483647) (hr0 : 0 ≤ r) (hr1 : r ≤ 63) (hbit : IntKind.u64.wrap (2 ^ r.toNat) = bit)
    (hn : n ≤ 65536) (hkn : k < n) (hP : Hid (w.ownsRow base 21 1 (.slice (some ⟨g, 0, none⟩) n n) n (ps.map (Value.int .i32)))) (hW : Hid (w.ownsRow base 33 1 (.slice (some ⟨gw, 0, none⟩) n n) n (ws.map (Value.int .u64))))
    (hS : w.heap[S]? = some (.cells #[.slice (some ⟨g, 0, none⟩) n n, .slice (some ⟨gw, 0, none⟩) n n] 41 (0, 0)))
    (hinc : Hid (PM.Inc ps)) (hk : Hid (PM.cnt ps q = k ∧ PM.hitB ps q = true)) (hlast : Hid (ps.getD (n - 1) 0 = z)) (hz : q < z) :
    Calls Try.prog 25 #[.pointer (some ⟨S, 0, none⟩), .int .i64 i] w fun e w' => e = .returned (.tuple #[]) ∧ AddPost S base (some gw) ps (ws.set k (bits BinOp.or .u64 (ws.getD k 0) bit)) w w' := by
  obtain ⟨c0, c1, _, _, _⟩ := block_cell hS
  have HS : Hid (w.heap[S]? = some (.cells #[.slice (some ⟨g, 0, none⟩) n n, .slice (some ⟨gw, 0, none⟩) n n] 41 (0, 0))) := hS
  have hc : w.cell? ⟨g, n - 1, none⟩ = some (.int .i32 z) := by rw [own_cell hP.out (n - 1) (by omega), hlast.out]
  have hcw : w.cell? ⟨gw, k, none⟩ = some (.int .u64 (ws.getD k 0)) := own_cell hW.out k hkn
  have hf : w.frozen? ⟨gw, k, none⟩ = false := hW.out.frozenAt k
  have hpl : Hid (ps.length = n) := (ownP_len hP.out).2
  have hcs : Hid (∀ m j, j < n → (w.drewN m).cell? ⟨g, j, none⟩ = some (.int .i32 (ps.getD j 0))) := fun m j hj => own_cell hP.out j hj
  generalize hx : ws.getD k 0 = x at hcw ⊢
  clear hS hx
  go_enter Try.func25, Try.ntmps25
  go_wp2_with fail
  go_quiet (fail)
  go_wp2_with (go_at_call 27; refine (search_at g n k ps q true _ hpl hn (hcs.out _) hinc hk).mono ?_; rintro e w' ⟨rfl, m, rfl⟩)
  go_end0
  exact ⟨rfl, close_set HS hP hW⟩
end Go.Proofs.Qxb6602305a
