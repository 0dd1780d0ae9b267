/- Small lemmas on worlds: what 'add' leaves, and how new blocks and stores into the set's own cell hand it on. -/
import Derived.Test.Qxb6602305aRows
import Derived.Test.Qxb6602305aMath
import Derived.WalkKit
import Derived.Lib.SmallJoins
import Derived.Deep.AppendLies
namespace Go.Proofs.Qxb6602305a
open Go.RowKit

/-- The row of int32s, of uint64s, that a slice value owns. -/
def OwnP (w : World) (base : Nat) (v : Value) (zs : List Int) : Prop := w.ownsRow base 21 1 v zs.length (zs.map (Value.int .i32))
def OwnW (w : World) (base : Nat) (v : Value) (zs : List Int) : Prop := w.ownsRow base 33 1 v zs.length (zs.map (Value.int .u64))

/-- Of the old blocks only S and 'row' may have turned. -/
structure Touch (S : Nat) (row : Option Nat) (w w' : World) : Prop where
  os : w'.os = w.os
  tape : w'.tape = w.tape
  output : w'.output = w.output
  size : w.heap.size ≤ w'.heap.size
  block : ∀ k, k < w.heap.size → k ≠ S → some k ≠ row → w'.heap[k]? = w.heap[k]?

/-- What 'add' leaves. -/
def AddPost (S base : Nat) (row : Option Nat) (P W : List Int) (w w' : World) : Prop :=
  ∃ vp vw, w'.heap[S]? = some (.cells #[vp, vw] 41 (0, 0)) ∧ OwnP w' base vp P ∧ OwnW w' base vw W ∧ Touch S row w w'

theorem gA {w W : World} {o : Obj} (h : w.grownBy W none) : w.grownBy (W.alloc o) none :=
  ⟨h.os, h.tape, h.output, Nat.le_trans h.size (by simp), fun k hk hn => (Below.heap_alloc _ _ _ (Nat.lt_of_lt_of_le hk h.size)).trans (h.block k hk hn)⟩
theorem gD {w W : World} (h : w.grownBy W none) : w.grownBy W.drew none := ⟨h.os, h.tape, h.output, h.size, h.block⟩
theorem gDN {w W : World} {n : Nat} (h : w.grownBy W none) : w.grownBy (W.drewN n) none := ⟨h.os, h.tape, h.output, h.size, h.block⟩
theorem gT {a b c : World} (h : a.grownBy b none) (k : b.grownBy c none) : a.grownBy c none :=
  ⟨k.os.trans h.os, k.tape.trans h.tape, k.output.trans h.output, Nat.le_trans h.size k.size, fun i hi hn => (k.block i (Nat.lt_of_lt_of_le hi h.size) hn).trans (h.block i hi hn)⟩

theorem gcell {w W : World} (h : w.grownBy W none) {a : Addr} {v : Value} (hc : w.cell? a = some v) : W.cell? a = some v := h.cell hc (by simp)
theorem gfroz {w W : World} (h : w.grownBy W none) {a : Addr} (hlt : a.block < w.heap.size) (hc : w.frozen? a = false) : W.frozen? a = false := by
  rw [h.frozen_far a hlt (by simp)]; exact hc

theorem own_base {w : World} {base base' : Nat} {e : TypeId} {size n : Nat} {v : Value} {xs : List Value} (h : w.ownsRow base e size v n xs) (hb : base' ≤ base) : w.ownsRow base' e size v n xs := by
  obtain ⟨h1, h2⟩ := h
  refine ⟨h1, ?_⟩
  rcases h2 with h2 | ⟨g, cap, cur, r1, r2, r3⟩
  · exact .inl h2
  · exact .inr ⟨g, cap, cur, r1, by omega, r3⟩

/-- Of another element type than the block S: another block. -/
theorem own_ne {w : World} {base S : Nat} {e t : TypeId} {size n : Nat} {v : Value} {xs : List Value} {cs : Array Value} (h : w.ownsRow base e size v n xs) (hS : w.heap[S]? = some (.cells cs t (0, 0))) (hne : e ≠ t) :
    v.ownBlock = none ∨ v.ownBlock ≠ some S := by
  obtain ⟨_, h2⟩ := h
  rcases h2 with ⟨rfl, _⟩ | ⟨g, cap, cur, rfl, r2, r3, _⟩
  · exact .inl rfl
  · refine .inr (fun e' => ?_)
    simp only [Value.ownBlock, Option.some.injEq] at e'
    subst e'
    rw [r3] at hS
    simp only [Option.some.injEq, Obj.cells.injEq] at hS
    exact hne hS.2.1

theorem grown_set (w : World) (S o : Nat) (v : Value) : w.grownBy (w.setCell ⟨S, o, none⟩ v) (some S) :=
  ⟨rfl, rfl, rfl, by simp [World.setCell], fun k _ hn => Below.heap_setCell _ _ _ _ (fun e => hn (by rw [e]))⟩

theorem set0 {w : World} {S : Nat} {a b v : Value} (h : w.heap[S]? = some (.cells #[a, b] 41 (0, 0))) : (w.setCell ⟨S, 0, none⟩ v).heap[S]? = some (.cells #[v, b] 41 (0, 0)) := by
  simp [World.setCell, Array.getElem?_modify, h]
theorem set1 {w : World} {S : Nat} {a b v : Value} (h : w.heap[S]? = some (.cells #[a, b] 41 (0, 0))) : (w.setCell ⟨S, 1, none⟩ v).heap[S]? = some (.cells #[a, v] 41 (0, 0)) := by
  simp [World.setCell, Array.getElem?_modify, h]

theorem own_set {w : World} {base S o : Nat} {e : TypeId} {size n : Nat} {v u a b : Value} {xs : List Value} (h : w.ownsRow base e size v n xs) (hS : w.heap[S]? = some (.cells #[a, b] 41 (0, 0))) (hne : e ≠ 41) :
    (w.setCell ⟨S, o, none⟩ u).ownsRow base e size v n xs := h.kept (grown_set w S o u) (own_ne h hS hne)

theorem own_far {w W : World} {base : Nat} {e : TypeId} {size n : Nat} {v : Value} {xs : List Value} (h : w.ownsRow base e size v n xs) (hg : w.grownBy W none) : W.ownsRow base e size v n xs :=
  h.kept hg (by cases hv : v.ownBlock with
    | none => exact .inl rfl
    | some k => exact .inr (by simp))

/-- Two new rows, stored into the set's two cells. -/
theorem close_two {S base : Nat} {row : Option Nat} {P W : List Int} {w w2 : World} {a b v1 v2 : Value} (hS : w.heap[S]? = some (.cells #[a, b] 41 (0, 0))) (hg : w.grownBy w2 none)
    (o1 : OwnP w2 base v1 P) (o2 : OwnW w2 base v2 W) : AddPost S base row P W w ((w2.setCell ⟨S, 0, none⟩ v1).setCell ⟨S, 1, none⟩ v2) := by
  have hlt : S < w.heap.size := by
    obtain ⟨h, _⟩ := Array.getElem?_eq_some_iff.1 hS
    exact h
  have hS2 : w2.heap[S]? = some (.cells #[a, b] 41 (0, 0)) := (hg.block S hlt (by simp)).trans hS
  have h1 := set0 (v := v1) hS2
  refine ⟨v1, v2, set1 h1, own_set (own_set o1 hS2 (by decide)) h1 (by decide), own_set (own_set o2 hS2 (by decide)) h1 (by decide), ?_⟩
  refine ⟨hg.os, hg.tape, hg.output, Nat.le_trans hg.size (by simp [World.setCell]), fun k hk hne _ => ?_⟩
  rw [Below.heap_setCell _ _ _ _ hne, Below.heap_setCell _ _ _ _ hne]
  exact hg.block k hk (by simp)

theorem block_cell {w : World} {S : Nat} {a b : Value} (hS : w.heap[S]? = some (.cells #[a, b] 41 (0, 0))) :
    w.cell? ⟨S, 0, none⟩ = some a ∧ w.cell? ⟨S, 1, none⟩ = some b ∧ w.frozen? ⟨S, 0, none⟩ = false ∧ w.frozen? ⟨S, 1, none⟩ = false ∧ S < w.heap.size := by
  refine ⟨by simp [World.cell?, hS], by simp [World.cell?, hS], by simp [World.frozen?, hS], by simp [World.frozen?, hS], ?_⟩
  obtain ⟨h, _⟩ := Array.getElem?_eq_some_iff.1 hS
  exact h

/-- The elements of an owned row, at whatever address the slice has. -/
theorem own_olds {w W : World} {base : Nat} {e : TypeId} {n cap : Nat} {ao : Option Addr} {xs : List Value} (h : w.ownsRow base e 1 (.slice ao n cap) n xs) (hg : w.grownBy W none) :
    ∀ b, ao = some b → ∀ j u, xs[j]? = some u → W.cell? (b.add j) = some u := by
  intro b hb j u hu
  subst hb
  have h2 := (own_far h hg)
  obtain ⟨_, h3⟩ := h2
  rcases h3 with ⟨h4, _⟩ | ⟨g, c, cur, h4, _⟩
  · cases h4
  · simp only [Value.slice.injEq, Option.some.injEq] at h4
    obtain ⟨rfl, _, _⟩ := h4
    exact (own_far h hg).cells rfl j u hu

theorem own_none {w : World} {base : Nat} {e : TypeId} {n cap : Nat} {ao : Option Addr} {xs : List Value} (h : w.ownsRow base e 1 (.slice ao n cap) n xs) : ao = none → n = 0 ∧ cap = 0 := by
  intro hb
  subst hb
  obtain ⟨_, h3⟩ := h
  rcases h3 with ⟨h4, h5⟩ | ⟨g, c, cur, h4, _⟩
  · simp only [Value.slice.injEq] at h4
    exact ⟨h5, h4.2.2⟩
  · cases h4

theorem after {w W w1 : World} {base m : Nat} {e : TypeId} {v : Value} {xs : List Value} (h0 : w.grownBy W none) (hg : W.grownBy w1 none) (hown : w1.ownsRow W.heap.size e 1 v m xs) (hb : base ≤ w.heap.size) :
    w.grownBy w1 none ∧ w1.ownsRow base e 1 v m xs ∧ Hid (∀ a u, W.cell? a = some u → w1.cell? a = some u) :=
  ⟨gT h0 hg, own_base hown (Nat.le_trans hb h0.size), fun _ _ h => gcell hg h⟩

theorem gN (w : World) (k : Nat) : w.grownBy (w.drewN k) none := gDN (World.grownBy.refl _ _)

theorem new_cell {W : World} {N : Nat} {x : Value} {t : TypeId} (h : N = W.heap.size) : (W.alloc (.cells #[x] t)).cell? ⟨N, 0, none⟩ = some x := by
  rw [World.cell?_alloc_at (w := W) #[x] t N 0 h]; rfl
theorem new_cell1 {W : World} {N : Nat} {x : Value} {t : TypeId} {o : Obj} (h : N = W.heap.size) : ((W.alloc (.cells #[x] t)).alloc o).cell? ⟨N, 0, none⟩ = some x := by
  rw [World.cell?_alloc_past _ N 0 (by subst h; simp)]; exact new_cell h
theorem news1 {W : World} {a : Addr} {x : Value} (h : W.cell? a = some x) : ∀ j u, [x][j]? = some u → W.cell? (a.add j) = some u := by
  intro j u hj
  match j, hj with
  | 0, hj => simp at hj; subst hj; exact h

end Go.Proofs.Qxb6602305a
