/- (*positionSet).add and ZZPositionSetAdd, all roads in one contract. -/
import Derived.Test.Qxb6602305aAddEnd
import Derived.Test.Qxb6602305aAddMiss
import Derived.Test.Qxb6602305aBits
import Derived.Deep.QuietTactic
import Derived.BigQuiet
set_option linter.unusedVariables false
namespace Go.Proofs.Qxb6602305a
open Go.RowKit Go.Lib

theorem AddPost.row {S base : Nat} {P W : List Int} {w w' : World} (h : AddPost S base none P W w w') (row : Option Nat) : AddPost S base row P W w w' := by
  obtain ⟨vp, vw, h1, h2, h3, h4⟩ := h
  exact ⟨vp, vw, h1, h2, h3, h4.os, h4.tape, h4.output, h4.size, fun k a b _ => h4.block k a b (by simp)⟩

theorem ins_set (l : List Int) (k : Nat) (x y : Int) (hk : k ≤ l.length) : (PM.ins l k x).set k y = PM.ins l k y := by
  unfold PM.ins
  rw [List.set_append_right _ _ (by rw [List.length_take]; omega), List.length_take, show k - min k l.length = 0 by omega]
  rfl

theorem own_some {w : World} {base e n c : Nat} {ao : Option Addr} {xs : List Value} (h : w.ownsRow base e 1 (.slice ao n c) n xs) (hn : 0 < n) : ∃ g, ao = some ⟨g, 0, none⟩ := by
  obtain ⟨_, h3⟩ := h
  rcases h3 with ⟨_, h5⟩ | ⟨g, c', cur, h4, _⟩
  · omega
  · simp only [Value.slice.injEq] at h4
    exact ⟨g, h4.1⟩

/-- the words' function -/
def orB (bit x : Int) : Int := bits BinOp.or .u64 x bit

theorem add_any (S base n : Nat) (ap aw : Option Addr) (ps ws : List Int) (i q r bit : Int) (w : World)
    (hi : 0 ≤ i) (hq : i / 64 = q) (hr : bits BinOp.and .i64 i 63 = r) (hq0 : 0 ≤ q) (hq1 : q ≤ 2147483647) (hr0 : 0 ≤ r) (hr1 : r ≤ 63) (hbit : IntKind.u64.wrap (2 ^ r.toNat) = bit)
    (hn : n ≤ 65536) (hP : w.ownsRow base 21 1 (.slice ap n n) n (ps.map (Value.int .i32))) (hW : w.ownsRow base 33 1 (.slice aw n n) n (ws.map (Value.int .u64)))
    (hS : w.heap[S]? = some (.cells #[.slice ap n n, .slice aw n n] 41 (0, 0))) (hbase : base ≤ w.heap.size) (hinc : PM.Inc ps) :
    Calls Try.prog 25 #[.pointer (some ⟨S, 0, none⟩), .int .i64 i] w fun e w' =>
      e = .returned (.tuple #[]) ∧ AddPost S base (Value.slice aw n n).ownBlock (PM.addP ps q) (PM.addW ps ws q (orB bit) bit) w w' := by
  have hpl : ps.length = n := (ownP_len hP).2
  have hwl : ws.length = n := (ownW_len hW).2
  obtain ⟨_, hb0, hb1⟩ := bit_eq r bit hr0 hr1 hbit
  by_cases h0 : n = 0
  · have hps : ps = [] := List.eq_nil_of_length_eq_zero (by omega)
    have hc := PM.cnt_past hinc q (.inl hps)
    obtain ⟨e1, e2⟩ := PM.add_end ps ws q (orB bit) bit (by omega) hc
    rw [e1, e2]
    exact (add_end S base n ap aw ps ws i q r bit w hi hq hr hq0 hq1 hr0 hr1 hbit hn hP hW hS hbase (.inl h0)).mono fun e w' h => ⟨h.1, h.2.row _⟩
  · obtain ⟨g, rfl⟩ := own_some hP (by omega)
    obtain ⟨gw, rfl⟩ := own_some hW (by omega)
    have hlast := own_cell hP (n - 1) (by omega)
    by_cases h1 : ps.getD (n - 1) 0 < q
    · have hc := PM.cnt_past hinc q (.inr (by rw [hpl]; exact h1))
      obtain ⟨e1, e2⟩ := PM.add_end ps ws q (orB bit) bit (by omega) hc
      rw [e1, e2]
      exact (add_end S base n _ _ ps ws i q r bit w hi hq hr hq0 hq1 hr0 hr1 hbit hn hP hW hS hbase (.inr ⟨g, _, by omega, rfl, hlast, h1⟩)).mono fun e w' h => ⟨h.1, h.2.row _⟩
    · by_cases h2 : ps.getD (n - 1) 0 = q
      · obtain ⟨e1, e2⟩ := PM.cnt_last hinc q (by omega) (by rw [hpl]; exact h2)
        rw [PM.addP_hit _ _ e2, PM.addW_hit _ _ _ _ _ e2, e1, hpl]
        exact add_last S base n g gw ps ws i q r bit w hi hq hr hq0 hq1 hr0 hr1 hbit hn (by omega) hP hW hS h2
      · have hkl : PM.cnt ps q < n := by
          have h3 := PM.cnt_le ps q
          by_cases e : PM.cnt ps q = n
          · have := PM.cnt_lt ps q (n - 1) (by omega)
            omega
          · omega
        cases hh : PM.hitB ps q with
        | true =>
          rw [PM.addP_hit _ _ hh, PM.addW_hit _ _ _ _ _ hh]
          exact add_mid S base n g gw (PM.cnt ps q) ps ws i q r bit _ w hi hq hr hq0 hq1 hr0 hr1 hbit hn hkl hP hW hS hinc ⟨rfl, hh⟩ rfl (by omega)
        | false =>
          rw [PM.addP_miss _ _ hh, PM.addW_miss _ _ _ _ _ hh]
          refine (add_miss S base n g gw (PM.cnt ps q) ps ws i q r bit _ w hi hq hr hq0 hq1 hr0 hr1 hbit hn hkl hP hW hS hbase hinc ⟨rfl, hh⟩ rfl (by omega)).mono fun e w' h => ⟨h.1, ?_⟩
          have h5 := h.2
          rw [ins_set _ _ _ _ (by omega), or_zero bit (by omega) hb1] at h5
          exact h5.row _

/-- The two slices that 'add' leaves, and what of the old memory has turned: the words' own row at most. -/
def ZPost (base : Nat) (row : Option Nat) (P W : List Int) (w : World) (e : Ending) (w' : World) : Prop :=
  ∃ vp vw, e = .returned (.tuple #[vp, vw]) ∧ OwnP w' base vp P ∧ OwnW w' base vw W ∧ w.grownBy w' row

theorem zpost_of {base N : Nat} {row : Option Nat} {P W : List Int} {w w' : World} {o : Obj} (hN : w.heap.size = N) (vp vw : Value) (oP : OwnP w' base vp P) (oW : OwnW w' base vw W) (t : Touch N row (w.alloc o) w') : w.grownBy w' row :=
  ⟨t.os, t.tape, t.output, Nat.le_trans (by simp) t.size, fun k hk hne => (t.block k (by simp; omega) (by omega) hne).trans (Below.heap_alloc _ _ _ hk)⟩

set_option maxHeartbeats 1600000 in
set_option maxRecDepth 100000 in
theorem zz_any (base n : Nat) (ap aw : Option Addr) (ps ws : List Int) (i q r bit : Int) (w : World)
    (hi : 0 ≤ i) (hq : i / 64 = q) (hr : bits BinOp.and .i64 i 63 = r) (hq0 : 0 ≤ q) (hq1 : q ≤ 2147483647) (hr0 : 0 ≤ r) (hr1 : r ≤ 63) (hbit : IntKind.u64.wrap (2 ^ r.toNat) = bit)
    (hn : n ≤ 65536) (hP : w.ownsRow base 21 1 (.slice ap n n) n (ps.map (Value.int .i32))) (hW : w.ownsRow base 33 1 (.slice aw n n) n (ws.map (Value.int .u64)))
    (hbase : base ≤ w.heap.size) (hinc : PM.Inc ps) :
    Calls Try.prog 18 #[.slice ap n n, .slice aw n n, .int .i64 i] w fun e w' =>
      ZPost base (Value.slice aw n n).ownBlock (PM.addP ps q) (PM.addW ps ws q (orB bit) bit) w e w' := by
  have HP : Hid (w.ownsRow base 21 1 (.slice ap n n) n (ps.map (Value.int .i32))) := hP
  have HW : Hid (w.ownsRow base 33 1 (.slice aw n n) n (ws.map (Value.int .u64))) := hW
  have HI : Hid (PM.Inc ps) := hinc
  have HQ : Hid (i / 64 = q ∧ bits BinOp.and .i64 i 63 = r ∧ IntKind.u64.wrap (2 ^ r.toNat) = bit) := ⟨hq, hr, hbit⟩
  clear hP hW hinc hq hr hbit
  go_enter Try.func18, Try.ntmps18
  go_wp2_with fail
  refine (add_any w.heap.size base n ap aw ps ws i q r bit _ hi HQ.out.1 HQ.out.2.1 hq0 hq1 hr0 hr1 HQ.out.2.2 hn (HP.out.alloc _) (HW.out.alloc _) (heap_alloc_new w _) (by simp; omega) HI.out).mono ?_
  rintro e w1 ⟨rfl, vp, vw, hb, oP, oW, t⟩
  obtain ⟨d0, d1, _, _, _⟩ := block_cell hb
  have OP : Hid (OwnP w1 base vp (PM.addP ps q)) := oP
  have OW : Hid (OwnW w1 base vw (PM.addW ps ws q (orB bit) bit)) := oW
  have HT : Hid (w.grownBy w1 (Value.slice aw n n).ownBlock) := zpost_of rfl vp vw oP oW t
  clear hb oP oW t
  go_wp2_with fail
  go_quiet (fail)
  go_wp2_with fail
  go_ret2
  exact ⟨vp, vw, rfl, OP.out, OW.out, HT.out.os, HT.out.tape, HT.out.output, HT.out.size, HT.out.block⟩
end Go.Proofs.Qxb6602305a
