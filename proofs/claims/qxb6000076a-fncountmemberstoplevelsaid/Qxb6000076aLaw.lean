/- cloneBytes: a fresh copy, nil stays nil. jsTopCount. The law. -/
import Derived.Test.Qxb6000076aVal
import Derived.Test.Qxb6000076aCount
set_option linter.unusedVariables false
namespace Go.Proofs.Qxb6000076a
open Go.RowKit
open JS (Flat Bal StrOK ValOK ObjOK ArrAt ObjAt Ins sEnd)

theorem info5 : (Try.prog.info? 5).map (fun i => (i.zero, i.size, i.bytes)) = some (some (.int .u8 0), 1, 1) := by kernel_rfl

/-- What a slice that came in is told to hold: nil, or cells from an address on. -/
def InRow (k : IntKind) (w : World) (a : Option Addr) (len : Nat) (zs : List Int) : Prop :=
  zs.length = len ∧ (a = none → len = 0) ∧ ∀ x, a = some x → ∀ i, i < len → w.cell? (x.add i) = some (.int k (zs.getD i 0))

/-- the value of a clone -/
def cloneV (B : Nat) (a : Option Addr) (len : Nat) : Value := match a with | none => .slice none 0 0 | some _ => .slice (some ⟨B, 0, none⟩) len len

def fill (zs : List Int) (n j : Nat) : List Int := zs.take j ++ List.replicate (n - j) 0
theorem fill_zero (zs : List Int) (n : Nat) : fill zs n 0 = List.replicate n 0 := by simp [fill]
theorem fill_all (zs : List Int) (n : Nat) (h : zs.length = n) : fill zs n n = zs := by simp [fill, ← h]
theorem fill_step (zs : List Int) (n j : Nat) (hl : zs.length = n) (hj : j < n) : (fill zs n j).set j (zs.getD j 0) = fill zs n (j + 1) := by
  apply List.ext_getElem?
  intro m
  unfold fill
  have hlt : (zs.take j).length = j := by simp; omega
  have hlt1 : (zs.take (j + 1)).length = j + 1 := by simp; omega
  by_cases hm : m = j
  · subst hm
    rw [List.getElem?_set_self (by simp; omega), List.getElem?_append_left (by omega), List.getElem?_take, if_pos (by omega), List.getD_eq_getElem?_getD, List.getElem?_eq_getElem (by omega)]
    rfl
  · rw [List.getElem?_set_ne (by omega)]
    by_cases h : m < j
    · rw [List.getElem?_append_left (by omega), List.getElem?_append_left (by omega), List.getElem?_take, List.getElem?_take, if_pos h, if_pos (by omega)]
    · rw [List.getElem?_append_right (by omega), List.getElem?_append_right (by omega), hlt, hlt1, List.getElem?_replicate, List.getElem?_replicate]
      by_cases h2 : m - j < n - j
      · rw [if_pos h2, if_pos (by omega)]
      · rw [if_neg h2, if_neg (by omega)]


set_option maxHeartbeats 1600000 in
set_option maxRecDepth 100000 in
theorem clone8 (a : Option Addr) (len cap : Nat) (zs : List Int) (w : World) (hrow : InRow .u8 w a len zs) (hlen : len ≤ 1048576) (hcap : a = none → cap = 0) :
    Calls Try.prog 8 #[.slice a len cap] w fun e w' => e = .returned (cloneV w.heap.size a len) ∧ w'.ownsRow w.heap.size 5 1 (cloneV w.heap.size a len) len (zs.map (Value.int .u8)) ∧ w.grownBy w' none := by
  obtain ⟨hl, hnil, hcell⟩ := hrow
  have qn : ∀ (w : World) (a : Option Addr) (n c n' c' : Nat), (binOp .eql 22 (.slice a n c) (.slice none n' c')).run Try.prog w = .ok (.bool a.isNone) w := fun w a n c n' c' => Lib.run_eql_slice_nil w _ _ a n c n' c' Try.underlying22
  cases a with
  | none =>
    have h0 := hnil rfl
    have h1 := hcap rfl
    subst h0 h1
    obtain rfl : zs = [] := List.eq_nil_of_length_eq_zero hl
    go_enter Try.func8, Try.ntmps8
    go_wp2_with fail
    go_ret
    exact ⟨rfl, World.ownsRow_nil _ _ _ _, World.grownBy.refl _ _⟩
  | some x =>
    obtain ⟨i0, hi0, hz0, hz1, hz2⟩ := info_parts info5
    obtain ⟨b, off, sp⟩ := x
    have hc := hcell _ rfl
    have HL : Hid (zs.length = len) := hl
    have HC : Hid (∀ i, i < len → w.cell? ((⟨b, off, sp⟩ : Addr).add i) = some (.int .u8 (zs.getD i 0))) := hc
    clear hcell hnil hcap hc hl
    go_enter Try.func8, Try.ntmps8
    go_wp2_with (at_make; refine wpList_make_full _ rfl _ _ 22 rfl w.heap.size 5 i0 (.int .u8 0) 1 Try.underlying22 hi0 hz0 hz1 .i64 .i64 _ _ len rfl rfl rfl rfl (by rw [hz2]; omega) (by unfold maxLen; omega) (Nat.le_refl _) ?_; intro w1 hown hgrow; rw [show (Value.int .u8 0).cells = #[Value.int .u8 0] from rfl, toList_madeCells_one, Nat.mul_one] at hown)
    go_loopw [4] (fun t wr => ∃ j : Nat, j ≤ len ∧ t = .int .i64 j ∧ Hid (wr.ownsRow w.heap.size 5 1 (.slice (some ⟨w.heap.size, 0, none⟩) len len) len ((fill zs len j).map (Value.int .u8))) ∧ Hid (w.grownBy wr none)) (fun t _ => len - (RowKit.intOf t).toNat)
    case atStart => exact ⟨0, Nat.zero_le _, rfl, by rw [fill_zero, List.map_replicate]; exact hown, hgrow⟩
    case round =>
      obtain ⟨j, hj, rfl, ho, hg⟩ := hrel
      clear hown hgrow
      by_cases hjl : j < len
      · have hcx : wr.cell? ((⟨b, off, sp⟩ : Addr).add j) = some (.int .u8 (zs.getD j 0)) := hg.out.cell (HC.out j hjl) (by simp)
        have hcy : wr.cell? ⟨w.heap.size, j, none⟩ = some (.int .u8 ((fill zs len j).getD j 0)) := by
          have hfl : (fill zs len j).length = len := by simpa using ho.out.1
          rw [ho.out.cellAt j (by omega)]
          simp [List.getD, show j < (fill zs len j).length by omega]
        have hcf : wr.frozen? ⟨w.heap.size, j, none⟩ = false := ho.out.frozenAt j
        go_wp2_with fail
        go_roundw
        case rel =>
          refine ⟨j + 1, by omega, by go_num, ?_, ?_⟩
          · have h5 := (ho.out.stored j (.int .u8 (zs.getD j 0))).1
            rw [← List.map_set, fill_step _ _ _ HL.out hjl] at h5
            exact h5
          · exact ⟨hg.out.os, hg.out.tape, hg.out.output, Nat.le_trans hg.out.size (by simp [World.setCell]), fun k hk hn => (Below.heap_setCell _ _ _ _ (by show k ≠ w.heap.size; omega)).trans (hg.out.block k hk hn)⟩
        case measure => simp [RowKit.intOf]; omega
      · go_wp2_with fail
        go_ret
        obtain rfl : j = len := by omega
        have ho' := ho.out
        rw [fill_all _ _ HL.out] at ho'
        exact ⟨rfl, ho', hg.out⟩

/-- what jsTopCount answers -/
def TopPost (bs : List Int) (n : Nat) (w : World) (e : Ending) (w' : World) : Prop := ∃ (c : Nat) (ok : Bool), e = .returned (.tuple #[.int .i64 c, .bool ok]) ∧ Hid (ok = true → 0 < c → JS.Reach bs ⟨0, 0, 1⟩ ⟨bs.length, 0, c⟩) ∧ c ≤ n ∧ ∃ m, w' = w.drewN m
theorem TopPost.no (bs : List Int) (n : Nat) (w : World) (m : Nat) : TopPost bs n w (.returned (.tuple #[.int .i64 0, .bool false])) (w.drewN m) := ⟨0, false, rfl, (fun h => by cases h), Nat.zero_le _, m, rfl⟩

set_option maxHeartbeats 4000000 in
set_option maxRecDepth 100000 in
theorem top_any (g n : Nat) (bs : List Int) (w : World) (hT : Hid (Txt w g n bs)) :
    Calls Try.prog 13 #[.slice (some ⟨g, 0, none⟩) n n] w fun e w' => TopPost bs n w e w' := by
  have hn := hT.out.2.1
  have hlen : Hid (bs.length = n) := hT.out.1
  go_enter Try.func13, Try.ntmps13
  go_wp2_with fail
  refine (skip' g n 0 _ bs _ hT (by omega) (by simp)).mono ?_
  rintro e w' ⟨j, rfl, j1, j2, HF, rfl⟩
  by_cases hj : j < n
  · have hc := hT.out.2.2 j hj
    have hbd : decide ((n : Int) ≤ (j : Int)) = false := decide_eq_false (by omega)
    obtain ⟨c, hcc⟩ : ∃ c, c = bs.getD j 0 := ⟨_, rfl⟩
    rw [← hcc] at hc
    have HC : Hid (bs.getD j 0 = c) := hcc.symm
    clear hcc
    by_cases e1 : c = 123
    · subst e1
      go_wp2_with fail
      refine (obj_any g n j bs _ hT hj HC).mono ?_
      rintro e w' ⟨q, k, ok, rfl, HR, m, rfl⟩
      clear hc HC
      cases ok with
      | false =>
        clear HR
        go_wp2_with fail
        go_ret2
        exact TopPost.no _ _ _ _
      | true =>
        obtain ⟨ho, hkq⟩ := HR.out rfl
        have q2 : q ≤ n := by have := ho.2.1; have := hlen.out; omega
        have HO : Hid (ObjOK bs j q k) := ho
        clear HR ho
        go_wp2_with fail
        refine (skip' g n q _ bs _ (hT.out.drewN m) q2 rfl).mono ?_
        rintro e w' ⟨r, rfl, r1, r2, HF2, rfl⟩
        by_cases hr : r = n
        · have HF3 : Hid (Flat bs q bs.length) := by rw [hlen.out, ← hr]; exact HF2
          have hb : ((r : Int) != (n : Int)) = false := by rw [hr]; simp
          clear HF2 hr
          go_wp2_with fail
          go_ret2
          exact ⟨k, true, rfl, fun _ hk => JS.top_count HF.out HO.out HF3.out hk, by omega, m, rfl⟩
        · have hb : ((r : Int) != (n : Int)) = true := by rw [bne_iff_ne]; omega
          clear HF2 hr
          go_wp2_with fail
          go_ret2
          exact TopPost.no _ _ _ _
    · have b1 : (c != 123) = true := by rw [bne_iff_ne]; exact e1
      clear HC e1
      go_wp2_with fail
      go_ret2
      exact TopPost.no _ _ _ 0
  · have hbd : decide ((n : Int) ≤ (j : Int)) = true := decide_eq_true (by omega)
    go_wp2_with fail
    go_ret2
    exact TopPost.no _ _ _ 0

set_option maxHeartbeats 800000 in
theorem skip_nil (w : World) : Calls Try.prog 19 #[.slice none 0 0, .int .i64 0] w fun e w' => e = .returned (.int .i64 0) ∧ w = w' := by
  go_enter Try.func19, Try.ntmps19
  go_wp2_with fail
  go_loop [1] (fun t => t = .int .i64 0) (fun _ => 0)
  case atStart => rfl
  case round =>
    subst hrel
    go_wp2_with fail
    go_ret
    exact ⟨rfl, rfl⟩
set_option maxHeartbeats 800000 in
theorem top_nil (w : World) : Calls Try.prog 13 #[.slice none 0 0] w fun e w' => e = .returned (.tuple #[.int .i64 0, .bool false]) ∧ w = w' := by
  go_enter Try.func13, Try.ntmps13
  go_wp2_with (go_at_call 19; refine (skip_nil _).mono ?_; rintro e w' ⟨rfl, rfl⟩)
  go_ret2
  exact ⟨rfl, rfl⟩

set_option maxHeartbeats 800000 in
theorem zzcount_any (g n k0 : Nat) (bs : List Int) (dF nF : Int) (w : World) (hT : Hid (Txt w g n bs)) (hR : Hid (JS.Rnds bs k0 ⟨0, 0, 1⟩ ⟨n, dF, nF⟩)) :
    Calls Try.prog 14 #[.slice (some ⟨g, 0, none⟩) n n] w fun e w' => e = .returned (.int .i64 nF) ∧ w = w' := by
  go_enter Try.func14, Try.ntmps14
  go_wp2_with (go_at_call 21; refine (count_any g n k0 bs dF nF _ hT hR).mono ?_; rintro e w' ⟨rfl, rfl⟩)
  go_ret
  exact ⟨rfl, rfl⟩

set_option maxHeartbeats 800000 in
theorem bytes12 (a : Option Addr) (len cap : Nat) (w : World) (h : len ≤ 1048576) : Calls Try.prog 12 #[.slice a len cap] w fun e w' => e = .returned (.bool true) ∧ w = w' := by
  go_enter Try.func12, Try.ntmps12
  go_wp2_with fail
  go_ret
  exact ⟨rfl, rfl⟩
set_option maxHeartbeats 800000 in
theorem bytes12n (a : Option Addr) (len cap : Nat) (w : World) (h : ¬ len ≤ 1048576) (hm : len ≤ 9223372036854775807) : Calls Try.prog 12 #[.slice a len cap] w fun e w' => e = .returned (.bool false) ∧ w = w' := by
  go_enter Try.func12, Try.ntmps12
  go_wp2_with fail
  go_ret
  exact ⟨rfl, rfl⟩

theorem below_of_grown {w w' : World} (h : w.grownBy w' none) : Below w.heap.size w w' := ⟨h.os, h.tape, h.output, h.size, fun k hk => h.block k hk (by simp)⟩
theorem below_drewN {w w' : World} (h : Below w.heap.size w w') (m : Nat) : Below w.heap.size w (w'.drewN m) := ⟨h.os, h.tape, h.output, h.size, h.block⟩
theorem txt_of_own {w' : World} {base g n : Nat} {bs : List Int} (h : w'.ownsRow base 5 1 (.slice (some ⟨g, 0, none⟩) n n) n (bs.map (Value.int .u8))) (hn : n ≤ 1048576) : Txt w' g n bs := by
  have hl : bs.length = n := by simpa using h.1
  refine ⟨hl, hn, fun j hj => ?_⟩
  rw [h.cellAt j (by omega)]
  simp [List.getD, show j < bs.length by omega]

set_option maxHeartbeats 4000000 in
set_option maxRecDepth 100000 in
theorem law (a0 : Option Addr) (n cap0 : Nat) (bs : List Int) (w : World) (hrow : Hid (InRow .u8 w a0 n bs)) (hcap : Hid (a0 = none → cap0 = 0)) (hn : n ≤ 1048576) :
    Calls Try.prog 5 #[.slice a0 n cap0] w fun e w' => e = .returned (.bool true) ∧ Below w.heap.size w w' := by
  go_enter Try.func5, Try.ntmps5
  go_wp2_with (go_at_call 12; refine (bytes12 _ _ _ _ hn).mono ?_; rintro e w' ⟨rfl, rfl⟩)
  refine (clone8 a0 n cap0 bs _ hrow.out hn hcap.out).mono ?_
  rintro e w1 ⟨rfl, ho, hg⟩
  have HB : Hid (Below w.heap.size w w1) := below_of_grown hg
  clear hg
  cases a0 with
  | none =>
    have e0 : cloneV w.heap.size (none : Option Addr) n = .slice none 0 0 := rfl
    rw [e0]
    clear ho e0
    go_wp2_with (go_at_call 13; refine (top_nil _).mono ?_; rintro e w' ⟨rfl, rfl⟩)
    go_ret
    exact ⟨rfl, HB.out⟩
  | some x =>
    have e0 : cloneV w.heap.size (some x) n = .slice (some ⟨w.heap.size, 0, none⟩) n n := rfl
    rw [e0] at ho ⊢
    have HT : Hid (Txt w1 w.heap.size n bs) := txt_of_own ho hn
    clear ho e0
    go_wp2_with fail
    refine (top_any w.heap.size n bs _ HT).mono ?_
    rintro e w' ⟨c, ok, rfl, HR, hc, m, rfl⟩
    cases ok with
    | false =>
      clear HR
      go_wp2_with fail
      go_ret
      exact ⟨rfl, below_drewN HB.out m⟩
    | true =>
      by_cases hc0 : c = 0
      · have b0 : ((c : Int) == 0) = true := by rw [hc0]; rfl
        clear hc0 HR
        go_wp2_with fail
        go_ret
        exact ⟨rfl, below_drewN HB.out m⟩
      · have b0 : ((c : Int) == 0) = false := beq_eq_false_iff_ne.2 (by omega)
        obtain ⟨k0, hk⟩ := HR.out rfl (by omega)
        rw [HT.out.1] at hk
        have HK : Hid (JS.Rnds bs k0 ⟨0, 0, 1⟩ ⟨n, 0, c⟩) := hk
        clear hk HR hc0
        have b1 : ((c : Int) == (c : Int)) = true := by simp
        go_wp2_with (go_at_call 14; refine (zzcount_any w.heap.size n k0 bs 0 (c : Int) _ (HT.out.drewN m) HK).mono ?_; rintro e w' ⟨rfl, rfl⟩)
        go_ret
        exact ⟨by simp, below_drewN HB.out m⟩

set_option maxHeartbeats 800000 in
theorem law_long (a0 : Option Addr) (n cap0 : Nat) (w : World) (hn : ¬ n ≤ 1048576) (hm : n ≤ 9223372036854775807) :
    Calls Try.prog 5 #[.slice a0 n cap0] w fun e w' => e = .returned (.bool true) ∧ Below w.heap.size w w' := by
  go_enter Try.func5, Try.ntmps5
  go_wp2_with (go_at_call 12; refine (bytes12n _ _ _ _ hn hm).mono ?_; rintro e w' ⟨rfl, rfl⟩)
  go_ret
  exact ⟨rfl, Below.refl _ _⟩
end Go.Proofs.Qxb6000076a
