/- The law's own two rows, and how they are handed through the merge loop. -/
import Derived.Test.Qxb6602305aClone
import Derived.Test.Qxb6602305aAddHit
set_option linter.unusedVariables false
namespace Go.Proofs.Qxb6602305a
open Go.RowKit Go.Lib

/-- The two wanted rows, and all older memory as it was. -/
structure Inv (B : Nat) (wB wr : World) (gP gW m1 m2 cap : Nat) (P W : List Int) : Prop where
  p : wr.ownsRow B 21 1 (.slice (some ⟨gP, 0, none⟩) m1 cap) m1 (P.map (Value.int .i32))
  w : wr.ownsRow B 33 1 (.slice (some ⟨gW, 0, none⟩) m2 cap) m2 (W.map (Value.int .u64))
  b : Below B wB wr

theorem Inv.ne {B : Nat} {wB wr : World} {gP gW m1 m2 cap : Nat} {P W : List Int} (h : Inv B wB wr gP gW m1 m2 cap P W) : gP ≠ gW := by
  intro e
  subst e
  exact absurd (own_tag h.p h.w) (by decide)

theorem fits_p {ops : Array Oper} {rest : List Oper} {o : Oper} {a : Act} {Q : Exit → Act → World → Prop} {B : Nat} {wB wr : World} {gP gW m1 m2 cap : Nat} {P W : List Int} {q : Int}
    (hg : o.guard = none) (s x : Operand) (hop : o.op = Op.call { callee := Callee.builtin Builtin.append, args := #[s, x], argTypes := #[27, 27] })
    (H : Inv B wB wr gP gW m1 m2 cap P W) (hBs : B ≤ wB.heap.size) (hm : m1 + 1 ≤ cap) (hs : a.eval s = .slice (some ⟨gP, 0, none⟩) m1 cap) (hx : a.eval x = .slice (some ⟨wr.heap.size, 0, none⟩) 1 1)
    (hK : ∀ w', Inv B wB w' gP gW (m1 + 1) m2 cap (P ++ [q]) W → wpList Try.prog ops Q rest (a.put o.dst (.slice (some ⟨gP, 0, none⟩) (m1 + 1) cap)) w') :
    wpList Try.prog ops Q (o :: rest) a (wr.alloc (.cells #[Value.int .i32 q] 21)) := by
  obtain ⟨i0, hi0, hz0, hz1, hz2⟩ := info_parts info21
  refine wpList_append_fits _ hg s x 27 hop B 21 i0 1 Try.underlying27 hi0 hz1 gP m1 cap _ hs (H.p.alloc _) ⟨wr.heap.size, 0, none⟩ 1 1 [Value.int .i32 q] hx rfl (news1 (new_cell rfl)) (by simp [Value.oneCell']) hm ?_
  intro w' ho hgr
  have hsz : B ≤ wr.heap.size := Nat.le_trans hBs H.b.size
  refine hK w' ⟨by rw [List.map_append]; exact ho, (H.w.alloc _).kept hgr (.inr ?_), (H.b.alloc hsz _).grown hgr (by simp; omega) (fun k hk => ?_)⟩
  · have := H.ne
    simp only [Value.ownBlock, ne_eq, Option.some.injEq]
    omega
  · simp only [Option.some.injEq] at hk
    subst hk
    exact (H.p.lt gP rfl).1

theorem fits_w {ops : Array Oper} {rest : List Oper} {o : Oper} {a : Act} {Q : Exit → Act → World → Prop} {B : Nat} {wB wr : World} {gP gW m1 m2 cap : Nat} {P W : List Int} {q : Int}
    (hg : o.guard = none) (s x : Operand) (hop : o.op = Op.call { callee := Callee.builtin Builtin.append, args := #[s, x], argTypes := #[28, 28] })
    (H : Inv B wB wr gP gW m1 m2 cap P W) (hBs : B ≤ wB.heap.size) (hm : m2 + 1 ≤ cap) (hs : a.eval s = .slice (some ⟨gW, 0, none⟩) m2 cap) (hx : a.eval x = .slice (some ⟨wr.heap.size, 0, none⟩) 1 1)
    (hK : ∀ w', Inv B wB w' gP gW m1 (m2 + 1) cap P (W ++ [q]) → wpList Try.prog ops Q rest (a.put o.dst (.slice (some ⟨gW, 0, none⟩) (m2 + 1) cap)) w') :
    wpList Try.prog ops Q (o :: rest) a (wr.alloc (.cells #[Value.int .u64 q] 33)) := by
  obtain ⟨i0, hi0, hz0, hz1, hz2⟩ := info_parts info33
  refine wpList_append_fits _ hg s x 28 hop B 33 i0 1 Try.underlying28 hi0 hz1 gW m2 cap _ hs (H.w.alloc _) ⟨wr.heap.size, 0, none⟩ 1 1 [Value.int .u64 q] hx rfl (news1 (new_cell rfl)) (by simp [Value.oneCell']) hm ?_
  intro w' ho hgr
  have hsz : B ≤ wr.heap.size := Nat.le_trans hBs H.b.size
  refine hK w' ⟨(H.p.alloc _).kept hgr (.inr ?_), by rw [List.map_append]; exact ho, (H.b.alloc hsz _).grown hgr (by simp; omega) (fun k hk => ?_)⟩
  · have := H.ne
    simp only [Value.ownBlock, ne_eq, Option.some.injEq]
    omega
  · simp only [Option.some.injEq] at hk
    subst hk
    exact (H.w.lt gW rfl).1

theorem own_below {B base : Nat} {wB wr : World} {e n : Nat} {v : Value} {xs : List Value} (h : wB.ownsRow base e 1 v n xs) (hb : Below B wB wr) (hlt : ∀ k, v.ownBlock = some k → k < B) : wr.ownsRow base e 1 v n xs := by
  obtain ⟨h1, h2⟩ := h
  refine ⟨h1, ?_⟩
  rcases h2 with h2 | ⟨g, c, cur, r1, r2, r3, r4⟩
  · exact .inl h2
  · exact .inr ⟨g, c, cur, r1, r2, (hb.block g (hlt g (by rw [r1]; rfl))).trans r3, r4⟩

theorem Inv.far {B : Nat} {wB wr w' : World} {gP gW m1 m2 cap : Nat} {P W : List Int} {row : Option Nat} (h : Inv B wB wr gP gW m1 m2 cap P W) (hg : wr.grownBy w' row) (hrow : ∀ k, row = some k → k < B) :
    w'.ownsRow B 21 1 (.slice (some ⟨gP, 0, none⟩) m1 cap) m1 (P.map (Value.int .i32)) ∧ w'.ownsRow B 33 1 (.slice (some ⟨gW, 0, none⟩) m2 cap) m2 (W.map (Value.int .u64)) := by
  have h1 := (h.p.lt gP rfl).1
  have h2 := (h.w.lt gW rfl).1
  refine ⟨h.p.kept hg (.inr (fun e => ?_)), h.w.kept hg (.inr (fun e => ?_))⟩
  · have := hrow gP e.symm; omega
  · have := hrow gW e.symm; omega

/-- The clone's value, as a slice whose capacity is its length. -/
def cloneA (B : Nat) (a : Option Addr) : Option Addr := match a with | none => none | some _ => some ⟨B, 0, none⟩
theorem cloneV_eq (B : Nat) (a : Option Addr) (len : Nat) (h : a = none → len = 0) : cloneV B a len = .slice (cloneA B a) len len := by
  cases a with
  | none => rw [h rfl]; rfl
  | some x => rfl

theorem clone32' (a : Option Addr) (len cap : Nat) (zs : List Int) (w : World) (hrow : Hid (InRow .i32 w a len zs)) (hlen : len ≤ 65536) (hcap : Hid (a = none → cap = 0)) :
    Calls Try.prog 16 #[.slice a len cap] w fun e w' => ∃ ap, e = .returned (.slice ap len len) ∧ Hid (w'.ownsRow w.heap.size 21 1 (.slice ap len len) len (zs.map (Value.int .i32))) ∧ Hid (w.grownBy w' none) := by
  have h := clone32 a len cap zs w hrow.out (by omega) hcap.out
  rw [cloneV_eq _ _ _ hrow.out.2.1] at h
  exact h.mono fun e w' ⟨h1, h2, h3⟩ => ⟨_, h1, h2, h3⟩
theorem clone64' (a : Option Addr) (len cap : Nat) (zs : List Int) (w : World) (hrow : Hid (InRow .u64 w a len zs)) (hlen : len ≤ 65536) (hcap : Hid (a = none → cap = 0)) :
    Calls Try.prog 17 #[.slice a len cap] w fun e w' => ∃ ap, e = .returned (.slice ap len len) ∧ Hid (w'.ownsRow w.heap.size 33 1 (.slice ap len len) len (zs.map (Value.int .u64))) ∧ Hid (w.grownBy w' none) := by
  have h := clone64 a len cap zs w hrow.out (by omega) hcap.out
  rw [cloneV_eq _ _ _ hrow.out.2.1] at h
  exact h.mono fun e w' ⟨h1, h2, h3⟩ => ⟨_, h1, h2, h3⟩

theorem inRow_far {k : IntKind} {w w' : World} {a : Option Addr} {len : Nat} {zs : List Int} (h : InRow k w a len zs) (hg : w.grownBy w' none) : InRow k w' a len zs :=
  ⟨h.1, h.2.1, fun x hx i hi => gcell hg (h.2.2 x hx i hi)⟩

theorem below_of_grown {w w' : World} (h : w.grownBy w' none) : Below w.heap.size w w' := ⟨h.os, h.tape, h.output, h.size, fun k hk => h.block k hk (by simp)⟩

end Go.Proofs.Qxb6602305a
