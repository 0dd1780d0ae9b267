/- One add and two clones, told by the rows that they leave. -/
import Derived.Test.Qxb6602305aSet
set_option linter.unusedVariables false
namespace Go.Proofs.Qxb6602305a
open Go.RowKit Go.Lib

/-- The words, as numbers of the walk. -/
def wz (W : List Nat) : List Int := W.map Int.ofNat
theorem wz_getD (W : List Nat) (j : Nat) : (wz W).getD j 0 = ((W.getD j 0 : Nat) : Int) := by
  unfold wz
  rw [List.getD_eq_getElem?_getD, List.getD_eq_getElem?_getD, List.getElem?_map]
  cases h : W[j]? <;> rfl
theorem wz_len (W : List Nat) : (wz W).length = W.length := by unfold wz; simp

/-- Two rows of one length, and all older memory as it was. -/
structure Mid (B : Nat) (wA wr : World) (v1 v2 : Value) (L : Nat) (P : List Int) (W : List Nat) : Prop where
  p : wr.ownsRow B 21 1 v1 L (P.map (Value.int .i32))
  w : wr.ownsRow B 33 1 v2 L ((wz W).map (Value.int .u64))
  b : Below B wA wr

theorem mid_start (w : World) : Mid w.heap.size w w (.slice none 0 0) (.slice none 0 0) 0 [] [] := ⟨World.ownsRow_nil _ _ _ _, World.ownsRow_nil _ _ _ _, Below.refl _ _⟩
theorem Mid.plen {B : Nat} {wA wr : World} {v1 v2 : Value} {L : Nat} {P : List Int} {W : List Nat} (h : Mid B wA wr v1 v2 L P W) : P.length = L := by simpa using h.p.1

theorem addW_nat (ps : List Int) (W : List Nat) (q : Int) (b : Nat) (hW : ∀ w ∈ W, w < 18446744073709551616) (hb : b < 18446744073709551616) (hl : W.length = ps.length) :
    PM.addW ps (wz W) q (orB (b : Int)) (b : Int) = wz (PM.addN ps W q b) := by
  unfold PM.addW PM.addN
  have hc := PM.cnt_le ps q
  cases hh : PM.hitB ps q with
  | true =>
    have hk := ((PM.hit_iff ps q).1 hh).1
    simp only [if_true]
    rw [wz_getD]
    have hk2 : PM.cnt ps q < W.length := by omega
    have hm : W.getD (PM.cnt ps q) 0 < 18446744073709551616 := by
      rw [List.getD_eq_getElem?_getD, List.getElem?_eq_getElem hk2]
      exact hW _ (List.getElem_mem hk2)
    have e : orB (b : Int) ((W.getD (PM.cnt ps q) 0 : Nat) : Int) = ((W.getD (PM.cnt ps q) 0 ||| b : Nat) : Int) := u64_or_nat _ _ hm hb
    rw [e]
    unfold wz
    rw [List.map_set]
    rfl
  | false =>
    simp only [Bool.false_eq_true, if_false]
    unfold wz
    rw [List.map_append, List.map_cons, List.map_take, List.map_drop]
    rfl

theorem bit_nat (x : Int) (hx : 0 ≤ x) : IntKind.u64.wrap (2 ^ (x % 64).toNat) = ((PM.bitN x : Nat) : Int) := by
  rw [IntKind.wrap_u64]
  have h := PM.bitN_lt x
  unfold PM.bitN at h ⊢
  have e : ((2 : Int) ^ (x % 64).toNat) = ((2 ^ (x % 64).toNat : Nat) : Int) := by simp
  rw [e]
  generalize 2 ^ (x % 64).toNat = b at h ⊢
  omega

theorem zz_set (B L : Nat) (ap aw : Option Addr) (P : List Int) (W : List Nat) (x : Int) (wA wr : World) (H : Hid (Mid B wA wr (.slice ap L L) (.slice aw L L) L P W)) (hBs : B ≤ wA.heap.size) (hg : Hid (PM.Good P W))
    (hL : L ≤ 65536) (hx0 : 0 ≤ x) (hx1 : x / 64 ≤ 2147483647) :
    Calls Try.prog 18 #[.slice ap L L, .slice aw L L, .int .i64 x] wr fun e w' => ∃ g1 c1 g2 c2 L' : Nat, e = .returned (.tuple #[.slice (some ⟨g1, 0, none⟩) L' c1, .slice (some ⟨g2, 0, none⟩) L' c2]) ∧ 0 < L' ∧
      Hid (Mid B wA w' (.slice (some ⟨g1, 0, none⟩) L' c1) (.slice (some ⟨g2, 0, none⟩) L' c2) L' (PM.step (P, W) x).1 (PM.step (P, W) x).2) := by
  have hi : x < 9223372036854775808 := by
    have h5 : x / 64 * 64 ≤ 2147483647 * 64 := by omega
    omega
  have hbe : B ≤ wr.heap.size := Nat.le_trans hBs H.out.b.size
  refine (zz_any B L ap aw P (wz W) x (x / 64) (x % 64) (PM.bitN x : Nat) wr hx0 rfl (and63 x hx0 hi) (by omega) hx1 (by omega) (by omega) (bit_nat x hx0) hL H.out.p H.out.w hbe hg.out.inc).mono ?_
  rintro e w' ⟨vp, vw, rfl, OP, OW, G⟩
  rw [addW_nat P W (x / 64) (PM.bitN x) (fun v hv => (hg.out.pos v hv).2) (PM.bitN_lt x) hg.out.len] at OW
  have hlen := PM.addN_len P W (x / 64) (PM.bitN x) hg.out.len
  have hpos : 0 < (PM.addP P (x / 64)).length := by
    rw [PM.addP_len]
    split
    · rename_i h
      have := ((PM.hit_iff P (x / 64)).1 h).1
      omega
    · omega
  unfold OwnP at OP
  unfold OwnW at OW
  rw [wz_len, hlen] at OW
  obtain ⟨g1, c1, rfl⟩ := Joins.ownsRow_form OP hpos
  obtain ⟨g2, c2, rfl⟩ := Joins.ownsRow_form OW hpos
  exact ⟨g1, c1, g2, c2, _, rfl, hpos, OP, OW, H.out.b.grown G hbe (fun k hk => (H.out.w.lt k hk).1)⟩

theorem clone_p (B L g1 c1 : Nat) (v2 : Value) (P : List Int) (W : List Nat) (wA wr : World) (H : Hid (Mid B wA wr (.slice (some ⟨g1, 0, none⟩) L c1) v2 L P W)) (hBs : B ≤ wA.heap.size) (hL : L ≤ 65536) :
    Calls Try.prog 16 #[.slice (some ⟨g1, 0, none⟩) L c1] wr fun e w' => ∃ ap, e = .returned (.slice ap L L) ∧ Hid (Mid B wA w' (.slice ap L L) v2 L P W) := by
  have hbe : B ≤ wr.heap.size := Nat.le_trans hBs H.out.b.size
  have hr : InRow .i32 wr (some ⟨g1, 0, none⟩) L P := ⟨H.out.plen, (fun h => by cases h), fun y hy i hi => by
    cases hy
    rw [Addr.add_lit, Nat.zero_add]
    exact own_cell H.out.p i hi⟩
  refine (clone32' (some ⟨g1, 0, none⟩) L c1 P wr hr hL (fun h => by cases h)).mono ?_
  rintro e w' ⟨ap, rfl, O, G⟩
  exact ⟨ap, rfl, own_base O.out hbe, own_far H.out.w G.out, H.out.b.grown G.out hbe (fun k hk => by cases hk)⟩

theorem clone_w (B L g2 c2 : Nat) (v1 : Value) (P : List Int) (W : List Nat) (wA wr : World) (H : Hid (Mid B wA wr v1 (.slice (some ⟨g2, 0, none⟩) L c2) L P W)) (hBs : B ≤ wA.heap.size) (hL : L ≤ 65536) :
    Calls Try.prog 17 #[.slice (some ⟨g2, 0, none⟩) L c2] wr fun e w' => ∃ aw, e = .returned (.slice aw L L) ∧ Hid (Mid B wA w' v1 (.slice aw L L) L P W) := by
  have hbe : B ≤ wr.heap.size := Nat.le_trans hBs H.out.b.size
  have hr : InRow .u64 wr (some ⟨g2, 0, none⟩) L (wz W) := ⟨by simpa using H.out.w.1, (fun h => by cases h), fun y hy i hi => by
    cases hy
    rw [Addr.add_lit, Nat.zero_add]
    exact own_cell H.out.w i hi⟩
  refine (clone64' (some ⟨g2, 0, none⟩) L c2 (wz W) wr hr hL (fun h => by cases h)).mono ?_
  rintro e w' ⟨aw, rfl, O, G⟩
  exact ⟨aw, rfl, own_far H.out.p G.out, own_base O.out hbe, H.out.b.grown G.out hbe (fun k hk => by cases hk)⟩

theorem cloneInt' (a : Option Addr) (len cap : Nat) (zs : List Int) (w : World) (hrow : Hid (InRow .i64 w a len zs)) (hlen : len ≤ 65536) (hcap : Hid (a = none → cap = 0)) :
    Calls Try.prog 20 #[.slice a len cap] w fun e w' => ∃ ap, e = .returned (.slice ap len len) ∧ Hid (w'.ownsRow w.heap.size 3 1 (.slice ap len len) len (zs.map (Value.int .i64))) ∧ Hid (w.grownBy w' none) := by
  have h := cloneInt a len cap zs w hrow.out (by omega) hcap.out
  rw [cloneV_eq _ _ _ hrow.out.2.1] at h
  exact h.mono fun e w' ⟨h1, h2, h3⟩ => ⟨_, h1, h2, h3⟩

theorem st_pos (xs : List Int) (h : 0 < xs.length) : 0 < (PM.st xs).1.length := by
  obtain ⟨x, hx⟩ : ∃ x, x ∈ xs := by
    cases xs with
    | nil => simp at h
    | cons a r => exact ⟨a, by simp⟩
  have hm := (PM.st_mem xs x).2 hx
  cases hp : (PM.st xs).1 with
  | nil => rw [hp] at hm; simp [PM.look] at hm
  | cons a r => simp

/-- the cell of an old row, in a later world -/
theorem old_cell {B base : Nat} {wA wr : World} {g n c j : Nat} {xs : List Int} {e : TypeId} {k : IntKind} (o : wA.ownsRow base e 1 (.slice (some ⟨g, 0, none⟩) n c) n (xs.map (Value.int k))) (hb : Below B wA wr) (hlt : g < B) (hj : j < n) : wr.cell? ⟨g, j, none⟩ = some (.int k (xs.getD j 0)) :=
  (hb.cell (p := ⟨g, j, none⟩) hlt).trans (own_cell o j hj)
end Go.Proofs.Qxb6602305a
