/- cloneInt32s, cloneUint64s: a fresh copy, nil stays nil. -/
import Derived.Test.Qxb6602305aSteps
import Derived.WalkKit
import Derived.WalkSpells
import Derived.WalkLawsBesides
set_option linter.unusedVariables false
namespace Go.Proofs.Qxb6602305a
open Go.RowKit Go.Lib

/-- What a slice that came in is told to hold: nil, or cells from an address on. -/
def InRow (k : IntKind) (w : World) (a : Option Addr) (len : Nat) (zs : List Int) : Prop :=
  zs.length = len ∧ (a = none → len = 0) ∧ ∀ x, a = some x → ∀ i, i < len → w.cell? (x.add i) = some (.int k (zs.getD i 0))

/-- the value of a clone -/
def cloneV (B : Nat) (a : Option Addr) (len : Nat) : Value := match a with | none => .slice none 0 0 | some _ => .slice (some ⟨B, 0, none⟩) len len

def fill (zs : List Int) (n j : Nat) : List Int := zs.take j ++ List.replicate (n - j) 0
theorem fill_zero (zs : List Int) (n : Nat) : fill zs n 0 = List.replicate n 0 := by simp [fill]
theorem fill_all (zs : List Int) (n : Nat) (h : zs.length = n) : fill zs n n = zs := by simp [fill, ← h]
theorem fill_step (zs : List Int) (n j : Nat) (hl : zs.length = n) (hj : j < n) : (fill zs n j).set j (zs.getD j 0) = fill zs n (j + 1) := by
  apply List.ext_getElem?
  intro m
  unfold fill
  have hlt : (zs.take j).length = j := by simp; omega
  have hlt1 : (zs.take (j + 1)).length = j + 1 := by simp; omega
  by_cases hm : m = j
  · subst hm
    rw [List.getElem?_set_self (by simp; omega), List.getElem?_append_left (by omega), List.getElem?_take, if_pos (by omega), List.getD_eq_getElem?_getD, List.getElem?_eq_getElem (by omega)]
    rfl
  · rw [List.getElem?_set_ne (by omega)]
    by_cases h : m < j
    · rw [List.getElem?_append_left (by omega), List.getElem?_append_left (by omega), List.getElem?_take, List.getElem?_take, if_pos h, if_pos (by omega)]
    · rw [List.getElem?_append_right (by omega), List.getElem?_append_right (by omega), hlt, hlt1, List.getElem?_replicate, List.getElem?_replicate]
      by_cases h2 : m - j < n - j
      · rw [if_pos h2, if_pos (by omega)]
      · rw [if_neg h2, if_neg (by omega)]


set_option maxHeartbeats 1600000 in
set_option maxRecDepth 100000 in
theorem clone32 (a : Option Addr) (len cap : Nat) (zs : List Int) (w : World) (hrow : InRow .i32 w a len zs) (hlen : len ≤ 1048576) (hcap : a = none → cap = 0) :
    Calls Try.prog 16 #[.slice a len cap] w fun e w' => e = .returned (cloneV w.heap.size a len) ∧ w'.ownsRow w.heap.size 21 1 (cloneV w.heap.size a len) len (zs.map (Value.int .i32)) ∧ w.grownBy w' none := by
  obtain ⟨hl, hnil, hcell⟩ := hrow
  have qn : ∀ (w : World) (a : Option Addr) (n c n' c' : Nat), (binOp .eql 27 (.slice a n c) (.slice none n' c')).run Try.prog w = .ok (.bool a.isNone) w := fun w a n c n' c' => Lib.run_eql_slice_nil w _ _ a n c n' c' Try.underlying27
  cases a with
  | none =>
    have h0 := hnil rfl
    have h1 := hcap rfl
    subst h0 h1
    obtain rfl : zs = [] := List.eq_nil_of_length_eq_zero hl
    go_enter Try.func16, Try.ntmps16
    go_wp2_with fail
    go_ret
    exact ⟨rfl, World.ownsRow_nil _ _ _ _, World.grownBy.refl _ _⟩
  | some x =>
    obtain ⟨i0, hi0, hz0, hz1, hz2⟩ := info_parts info21
    obtain ⟨b, off, sp⟩ := x
    have hc := hcell _ rfl
    have HL : Hid (zs.length = len) := hl
    have HC : Hid (∀ i, i < len → w.cell? ((⟨b, off, sp⟩ : Addr).add i) = some (.int .i32 (zs.getD i 0))) := hc
    clear hcell hnil hcap hc hl
    go_enter Try.func16, Try.ntmps16
    go_wp2_with (at_make; refine wpList_make_full _ rfl _ _ 27 rfl w.heap.size 21 i0 (.int .i32 0) 1 Try.underlying27 hi0 hz0 hz1 .i64 .i64 _ _ len rfl rfl rfl rfl (by rw [hz2]; omega) (by unfold maxLen; omega) (Nat.le_refl _) ?_; intro w1 hown hgrow; rw [show (Value.int .i32 0).cells = #[Value.int .i32 0] from rfl, toList_madeCells_one, Nat.mul_one] at hown)
    go_loopw [4] (fun t wr => ∃ j : Nat, j ≤ len ∧ t = .int .i64 j ∧ Hid (wr.ownsRow w.heap.size 21 1 (.slice (some ⟨w.heap.size, 0, none⟩) len len) len ((fill zs len j).map (Value.int .i32))) ∧ Hid (w.grownBy wr none)) (fun t _ => len - (RowKit.intOf t).toNat)
    case atStart => exact ⟨0, Nat.zero_le _, rfl, by rw [fill_zero, List.map_replicate]; exact hown, hgrow⟩
    case round =>
      obtain ⟨j, hj, rfl, ho, hg⟩ := hrel
      clear hown hgrow
      by_cases hjl : j < len
      · have hcx : wr.cell? ((⟨b, off, sp⟩ : Addr).add j) = some (.int .i32 (zs.getD j 0)) := gcell hg.out (HC.out j hjl)
        have hcy : wr.cell? ⟨w.heap.size, j, none⟩ = some (.int .i32 ((fill zs len j).getD j 0)) := by
          have hfl : (fill zs len j).length = len := by simpa using ho.out.1
          rw [ho.out.cellAt j (by omega)]
          simp [List.getD, show j < (fill zs len j).length by omega]
        have hcf : wr.frozen? ⟨w.heap.size, j, none⟩ = false := ho.out.frozenAt j
        go_wp2_with fail
        go_roundw
        case rel =>
          refine ⟨j + 1, by omega, by go_num, ?_, ?_⟩
          · have h5 := (ho.out.stored j (.int .i32 (zs.getD j 0))).1
            rw [← List.map_set, fill_step _ _ _ HL.out hjl] at h5
            exact h5
          · exact ⟨hg.out.os, hg.out.tape, hg.out.output, Nat.le_trans hg.out.size (by simp [World.setCell]), fun k hk hn => (Below.heap_setCell _ _ _ _ (by show k ≠ w.heap.size; omega)).trans (hg.out.block k hk hn)⟩
        case measure => simp [RowKit.intOf]; omega
      · go_wp2_with fail
        go_ret
        obtain rfl : j = len := by omega
        have ho' := ho.out
        rw [fill_all _ _ HL.out] at ho'
        exact ⟨rfl, ho', hg.out⟩
set_option maxHeartbeats 1600000 in
set_option maxRecDepth 100000 in
theorem clone64 (a : Option Addr) (len cap : Nat) (zs : List Int) (w : World) (hrow : InRow .u64 w a len zs) (hlen : len ≤ 1048576) (hcap : a = none → cap = 0) :
    Calls Try.prog 17 #[.slice a len cap] w fun e w' => e = .returned (cloneV w.heap.size a len) ∧ w'.ownsRow w.heap.size 33 1 (cloneV w.heap.size a len) len (zs.map (Value.int .u64)) ∧ w.grownBy w' none := by
  obtain ⟨hl, hnil, hcell⟩ := hrow
  have qn : ∀ (w : World) (a : Option Addr) (n c n' c' : Nat), (binOp .eql 28 (.slice a n c) (.slice none n' c')).run Try.prog w = .ok (.bool a.isNone) w := fun w a n c n' c' => Lib.run_eql_slice_nil w _ _ a n c n' c' Try.underlying28
  cases a with
  | none =>
    have h0 := hnil rfl
    have h1 := hcap rfl
    subst h0 h1
    obtain rfl : zs = [] := List.eq_nil_of_length_eq_zero hl
    go_enter Try.func17, Try.ntmps17
    go_wp2_with fail
    go_ret
    exact ⟨rfl, World.ownsRow_nil _ _ _ _, World.grownBy.refl _ _⟩
  | some x =>
    obtain ⟨i0, hi0, hz0, hz1, hz2⟩ := info_parts info33
    obtain ⟨b, off, sp⟩ := x
    have hc := hcell _ rfl
    have HL : Hid (zs.length = len) := hl
    have HC : Hid (∀ i, i < len → w.cell? ((⟨b, off, sp⟩ : Addr).add i) = some (.int .u64 (zs.getD i 0))) := hc
    clear hcell hnil hcap hc hl
    go_enter Try.func17, Try.ntmps17
    go_wp2_with (at_make; refine wpList_make_full _ rfl _ _ 28 rfl w.heap.size 33 i0 (.int .u64 0) 1 Try.underlying28 hi0 hz0 hz1 .i64 .i64 _ _ len rfl rfl rfl rfl (by rw [hz2]; omega) (by unfold maxLen; omega) (Nat.le_refl _) ?_; intro w1 hown hgrow; rw [show (Value.int .u64 0).cells = #[Value.int .u64 0] from rfl, toList_madeCells_one, Nat.mul_one] at hown)
    go_loopw [4] (fun t wr => ∃ j : Nat, j ≤ len ∧ t = .int .i64 j ∧ Hid (wr.ownsRow w.heap.size 33 1 (.slice (some ⟨w.heap.size, 0, none⟩) len len) len ((fill zs len j).map (Value.int .u64))) ∧ Hid (w.grownBy wr none)) (fun t _ => len - (RowKit.intOf t).toNat)
    case atStart => exact ⟨0, Nat.zero_le _, rfl, by rw [fill_zero, List.map_replicate]; exact hown, hgrow⟩
    case round =>
      obtain ⟨j, hj, rfl, ho, hg⟩ := hrel
      clear hown hgrow
      by_cases hjl : j < len
      · have hcx : wr.cell? ((⟨b, off, sp⟩ : Addr).add j) = some (.int .u64 (zs.getD j 0)) := gcell hg.out (HC.out j hjl)
        have hcy : wr.cell? ⟨w.heap.size, j, none⟩ = some (.int .u64 ((fill zs len j).getD j 0)) := by
          have hfl : (fill zs len j).length = len := by simpa using ho.out.1
          rw [ho.out.cellAt j (by omega)]
          simp [List.getD, show j < (fill zs len j).length by omega]
        have hcf : wr.frozen? ⟨w.heap.size, j, none⟩ = false := ho.out.frozenAt j
        go_wp2_with fail
        go_roundw
        case rel =>
          refine ⟨j + 1, by omega, by go_num, ?_, ?_⟩
          · have h5 := (ho.out.stored j (.int .u64 (zs.getD j 0))).1
            rw [← List.map_set, fill_step _ _ _ HL.out hjl] at h5
            exact h5
          · exact ⟨hg.out.os, hg.out.tape, hg.out.output, Nat.le_trans hg.out.size (by simp [World.setCell]), fun k hk hn => (Below.heap_setCell _ _ _ _ (by show k ≠ w.heap.size; omega)).trans (hg.out.block k hk hn)⟩
        case measure => simp [RowKit.intOf]; omega
      · go_wp2_with fail
        go_ret
        obtain rfl : j = len := by omega
        have ho' := ho.out
        rw [fill_all _ _ HL.out] at ho'
        exact ⟨rfl, ho', hg.out⟩
theorem info3 : (Try.prog.info? 3).map (fun i => (i.zero, i.size, i.bytes)) = some (some (.int .i64 0), 1, 8) := by kernel_rfl
set_option maxHeartbeats 1600000 in
set_option maxRecDepth 100000 in
theorem cloneInt (a : Option Addr) (len cap : Nat) (zs : List Int) (w : World) (hrow : InRow .i64 w a len zs) (hlen : len ≤ 1048576) (hcap : a = none → cap = 0) :
    Calls Try.prog 20 #[.slice a len cap] w fun e w' => e = .returned (cloneV w.heap.size a len) ∧ w'.ownsRow w.heap.size 3 1 (cloneV w.heap.size a len) len (zs.map (Value.int .i64)) ∧ w.grownBy w' none := by
  obtain ⟨hl, hnil, hcell⟩ := hrow
  have qn : ∀ (w : World) (a : Option Addr) (n c n' c' : Nat), (binOp .eql 36 (.slice a n c) (.slice none n' c')).run Try.prog w = .ok (.bool a.isNone) w := fun w a n c n' c' => Lib.run_eql_slice_nil w _ _ a n c n' c' Try.underlying36
  cases a with
  | none =>
    have h0 := hnil rfl
    have h1 := hcap rfl
    subst h0 h1
    obtain rfl : zs = [] := List.eq_nil_of_length_eq_zero hl
    go_enter Try.func20, Try.ntmps20
    go_wp2_with fail
    go_ret
    exact ⟨rfl, World.ownsRow_nil _ _ _ _, World.grownBy.refl _ _⟩
  | some x =>
    obtain ⟨i0, hi0, hz0, hz1, hz2⟩ := info_parts info3
    obtain ⟨b, off, sp⟩ := x
    have hc := hcell _ rfl
    have HL : Hid (zs.length = len) := hl
    have HC : Hid (∀ i, i < len → w.cell? ((⟨b, off, sp⟩ : Addr).add i) = some (.int .i64 (zs.getD i 0))) := hc
    clear hcell hnil hcap hc hl
    go_enter Try.func20, Try.ntmps20
    go_wp2_with (at_make; refine wpList_make_full _ rfl _ _ 36 rfl w.heap.size 3 i0 (.int .i64 0) 1 Try.underlying36 hi0 hz0 hz1 .i64 .i64 _ _ len rfl rfl rfl rfl (by rw [hz2]; omega) (by unfold maxLen; omega) (Nat.le_refl _) ?_; intro w1 hown hgrow; rw [show (Value.int .i64 0).cells = #[Value.int .i64 0] from rfl, toList_madeCells_one, Nat.mul_one] at hown)
    go_loopw [4] (fun t wr => ∃ j : Nat, j ≤ len ∧ t = .int .i64 j ∧ Hid (wr.ownsRow w.heap.size 3 1 (.slice (some ⟨w.heap.size, 0, none⟩) len len) len ((fill zs len j).map (Value.int .i64))) ∧ Hid (w.grownBy wr none)) (fun t _ => len - (RowKit.intOf t).toNat)
    case atStart => exact ⟨0, Nat.zero_le _, rfl, by rw [fill_zero, List.map_replicate]; exact hown, hgrow⟩
    case round =>
      obtain ⟨j, hj, rfl, ho, hg⟩ := hrel
      clear hown hgrow
      by_cases hjl : j < len
      · have hcx : wr.cell? ((⟨b, off, sp⟩ : Addr).add j) = some (.int .i64 (zs.getD j 0)) := gcell hg.out (HC.out j hjl)
        have hcy : wr.cell? ⟨w.heap.size, j, none⟩ = some (.int .i64 ((fill zs len j).getD j 0)) := by
          have hfl : (fill zs len j).length = len := by simpa using ho.out.1
          rw [ho.out.cellAt j (by omega)]
          simp [List.getD, show j < (fill zs len j).length by omega]
        have hcf : wr.frozen? ⟨w.heap.size, j, none⟩ = false := ho.out.frozenAt j
        go_wp2_with fail
        go_roundw
        case rel =>
          refine ⟨j + 1, by omega, by go_num, ?_, ?_⟩
          · have h5 := (ho.out.stored j (.int .i64 (zs.getD j 0))).1
            rw [← List.map_set, fill_step _ _ _ HL.out hjl] at h5
            exact h5
          · exact ⟨hg.out.os, hg.out.tape, hg.out.output, Nat.le_trans hg.out.size (by simp [World.setCell]), fun k hk hn => (Below.heap_setCell _ _ _ _ (by show k ≠ w.heap.size; omega)).trans (hg.out.block k hk hn)⟩
        case measure => simp [RowKit.intOf]; omega
      · go_wp2_with fail
        go_ret
        obtain rfl : j = len := by omega
        have ho' := ho.out
        rw [fill_all _ _ HL.out] at ho'
        exact ⟨rfl, ho', hg.out⟩
end Go.Proofs.Qxb6602305a
