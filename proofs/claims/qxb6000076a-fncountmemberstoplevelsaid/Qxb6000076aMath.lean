/- The plain law: what a scanner of quotes, braces and commas does over a text; no Go in sight. -/
set_option linter.unusedVariables false
namespace Go.Proofs.Qxb6000076a.JS

/-- the end of a string whose inside begins at p: the place of its closing quote -/
def sEnd (b : List Int) : Nat → Nat → Option Nat
  | 0, _ => none
  | f + 1, p => if b.length ≤ p then none else if b.getD p 0 = 34 then some p else if b.getD p 0 = 92 then sEnd b f (p + 2) else sEnd b f (p + 1)

theorem sEnd_lt : ∀ (b : List Int) (f p e : Nat), sEnd b f p = some e → p ≤ e ∧ e < b.length
  | b, 0, p, e, h => by simp [sEnd] at h
  | b, f + 1, p, e, h => by
    unfold sEnd at h
    split at h
    · cases h
    · split at h
      · injection h with h; omega
      · split at h
        · have := sEnd_lt b f (p + 2) e h; omega
        · have := sEnd_lt b f (p + 1) e h; omega

theorem sEnd_at : ∀ (b : List Int) (f p e : Nat), sEnd b f p = some e → b.getD e 0 = 34
  | b, 0, p, e, h => by simp [sEnd] at h
  | b, f + 1, p, e, h => by
    unfold sEnd at h
    split at h
    · cases h
    · split at h
      · rename_i h1; injection h with h; subst h; exact h1
      · split at h
        · exact sEnd_at b f (p + 2) e h
        · exact sEnd_at b f (p + 1) e h

/-- from place p inside a string one comes to place p', still inside -/
def Ins (b : List Int) (p p' : Nat) : Prop := ∀ f e, sEnd b f p' = some e → ∃ f', sEnd b f' p = some e

theorem Ins.refl (b : List Int) (p : Nat) : Ins b p p := fun f e h => ⟨f, h⟩
theorem Ins.trans {b : List Int} {p q r : Nat} (h : Ins b p q) (k : Ins b q r) : Ins b p r := fun f e h1 => by
  obtain ⟨f', h2⟩ := k f e h1
  exact h f' e h2
theorem Ins.plain {b : List Int} {p : Nat} (hp : p < b.length) (h1 : b.getD p 0 ≠ 34) (h2 : b.getD p 0 ≠ 92) : Ins b p (p + 1) := fun f e h =>
  ⟨f + 1, by unfold sEnd; rw [if_neg (by omega), if_neg h1, if_neg h2]; exact h⟩
theorem Ins.esc {b : List Int} {p : Nat} (hp : p < b.length) (h2 : b.getD p 0 = 92) : Ins b p (p + 2) := fun f e h =>
  ⟨f + 1, by unfold sEnd; rw [if_neg (by omega), if_neg (by omega), if_pos h2]; exact h⟩
theorem Ins.close {b : List Int} {p : Nat} (hp : p < b.length) (h : b.getD p 0 = 34) : sEnd b 1 p = some p := by
  unfold sEnd; rw [if_neg (by omega), if_pos h]

/-- the scanner: where it stands, how deep, how many -/
structure S where
  i : Nat
  d : Int
  n : Int

/-- One round of the scanner that does not die. -/
def Step (b : List Int) (s t : S) : Prop :=
  s.i < b.length ∧
  ((b.getD s.i 0 = 34 ∧ t.d = s.d ∧ t.n = s.n ∧ ∃ f e, sEnd b f (s.i + 1) = some e ∧ t.i = e + 1) ∨
   ((b.getD s.i 0 = 123 ∨ b.getD s.i 0 = 91) ∧ t.i = s.i + 1 ∧ t.d = s.d + 1 ∧ t.n = s.n) ∨
   ((b.getD s.i 0 = 125 ∨ b.getD s.i 0 = 93) ∧ t.i = s.i + 1 ∧ t.d = s.d - 1 ∧ t.n = s.n) ∨
   (b.getD s.i 0 = 44 ∧ t.i = s.i + 1 ∧ t.d = s.d ∧ t.n = if s.d = 1 then s.n + 1 else s.n) ∨
   (b.getD s.i 0 ≠ 34 ∧ b.getD s.i 0 ≠ 123 ∧ b.getD s.i 0 ≠ 91 ∧ b.getD s.i 0 ≠ 125 ∧ b.getD s.i 0 ≠ 93 ∧ b.getD s.i 0 ≠ 44 ∧ t.i = s.i + 1 ∧ t.d = s.d ∧ t.n = s.n))

theorem Step.lt {b : List Int} {s t : S} (h : Step b s t) : s.i < t.i ∧ t.i ≤ b.length := by
  obtain ⟨h0, h | h | h | h | h⟩ := h
  · obtain ⟨_, _, _, f, e, h1, h2⟩ := h
    have := sEnd_lt b f _ e h1
    omega
  · have := h.2.1; omega
  · have := h.2.1; omega
  · have := h.2.1; omega
  · have := h.2.2.2.2.2.2.1; omega

/-- k rounds -/
def Rnds : List Int → Nat → S → S → Prop
  | _, 0, s, t => s = t
  | b, k + 1, s, t => ∃ m, Step b s m ∧ Rnds b k m t

theorem Rnds.append {b : List Int} : ∀ (k l : Nat) (s m t : S), Rnds b k s m → Rnds b l m t → Rnds b (k + l) s t
  | 0, l, s, m, t, h1, h2 => by
    have h1' : s = m := h1
    subst h1'
    rw [Nat.zero_add]; exact h2
  | k + 1, l, s, m, t, h1, h2 => by
    obtain ⟨x, hx, h3⟩ := h1
    rw [show k + 1 + l = (k + l) + 1 by omega]
    exact ⟨x, hx, Rnds.append k l x m t h3 h2⟩

def Reach (b : List Int) (s t : S) : Prop := ∃ k, Rnds b k s t
theorem Reach.refl (b : List Int) (s : S) : Reach b s s := ⟨0, rfl⟩
theorem Reach.trans {b : List Int} {s m t : S} (h : Reach b s m) (k : Reach b m t) : Reach b s t := by
  obtain ⟨x, hx⟩ := h
  obtain ⟨y, hy⟩ := k
  exact ⟨x + y, Rnds.append x y s m t hx hy⟩
theorem Reach.one {b : List Int} {s t : S} (h : Step b s t) : Reach b s t := ⟨1, t, h, rfl⟩

/-- at whatever depth, nothing turns -/
def Flat (b : List Int) (i j : Nat) : Prop := ∀ d n, Reach b ⟨i, d, n⟩ ⟨j, d, n⟩
/-- at whatever depth from 1 on, nothing turns -/
def Bal (b : List Int) (i j : Nat) : Prop := ∀ d n, 1 ≤ d → Reach b ⟨i, d, n⟩ ⟨j, d, n⟩

theorem Flat.refl (b : List Int) (i : Nat) : Flat b i i := fun d n => Reach.refl _ _
theorem Flat.trans {b : List Int} {i j k : Nat} (h : Flat b i j) (l : Flat b j k) : Flat b i k := fun d n => (h d n).trans (l d n)
theorem Flat.bal {b : List Int} {i j : Nat} (h : Flat b i j) : Bal b i j := fun d n _ => h d n
theorem Bal.trans {b : List Int} {i j k : Nat} (h : Bal b i j) (l : Bal b j k) : Bal b i k := fun d n hd => (h d n hd).trans (l d n hd)

/-- a sign that the scanner passes by -/
def plain (c : Int) : Prop := c ≠ 34 ∧ c ≠ 123 ∧ c ≠ 91 ∧ c ≠ 125 ∧ c ≠ 93 ∧ c ≠ 44
theorem Flat.plain {b : List Int} {i : Nat} (hi : i < b.length) (h : plain (b.getD i 0)) : Flat b i (i + 1) := fun d n =>
  Reach.one ⟨hi, .inr (.inr (.inr (.inr ⟨h.1, h.2.1, h.2.2.1, h.2.2.2.1, h.2.2.2.2.1, h.2.2.2.2.2, rfl, rfl, rfl⟩)))⟩
theorem Flat.str {b : List Int} {i f e : Nat} (hi : i < b.length) (h : b.getD i 0 = 34) (he : sEnd b f (i + 1) = some e) : Flat b i (e + 1) := fun d n =>
  Reach.one ⟨hi, .inl ⟨h, rfl, rfl, f, e, he, rfl⟩⟩
theorem Reach.opens {b : List Int} {i : Nat} {d n : Int} (hi : i < b.length) (h : b.getD i 0 = 123 ∨ b.getD i 0 = 91) : Reach b ⟨i, d, n⟩ ⟨i + 1, d + 1, n⟩ :=
  Reach.one ⟨hi, .inr (.inl ⟨h, rfl, rfl, rfl⟩)⟩
theorem Reach.shuts {b : List Int} {i : Nat} {d n : Int} (hi : i < b.length) (h : b.getD i 0 = 125 ∨ b.getD i 0 = 93) : Reach b ⟨i, d + 1, n⟩ ⟨i + 1, d, n⟩ :=
  Reach.one ⟨hi, .inr (.inr (.inl ⟨h, rfl, by show d = d + 1 - 1; omega, rfl⟩))⟩
theorem Reach.comma {b : List Int} {i : Nat} {d n : Int} (hi : i < b.length) (h : b.getD i 0 = 44) : Reach b ⟨i, d, n⟩ ⟨i + 1, d, if d = 1 then n + 1 else n⟩ :=
  Reach.one ⟨hi, .inr (.inr (.inr (.inl ⟨h, rfl, rfl, rfl⟩)))⟩

/-! ### the parser's words -/
/-- A string that opens at i ends ahead of j. -/
def StrOK (b : List Int) (i j : Nat) : Prop := ∃ f e, sEnd b f (i + 1) = some e ∧ j = e + 1
theorem StrOK.le {b : List Int} {i j : Nat} (h : StrOK b i j) : i + 2 ≤ j ∧ j ≤ b.length := by
  obtain ⟨f, e, h1, rfl⟩ := h
  have := sEnd_lt b f _ e h1
  omega
theorem StrOK.flat {b : List Int} {i j : Nat} (h : StrOK b i j) (hi : i < b.length) (hq : b.getD i 0 = 34) : Flat b i j := by
  obtain ⟨f, e, h1, rfl⟩ := h
  exact Flat.str hi hq h1

/-- A value that opens at i ends ahead of j. -/
def ValOK (b : List Int) (i j : Nat) : Prop := i < j ∧ j ≤ b.length ∧ Bal b i j

/-- Inside an array that opened at i0, ahead of an element at i. -/
def ArrAt (b : List Int) (i0 i : Nat) : Prop := i0 < i ∧ ∀ d n, 1 ≤ d → Reach b ⟨i0, d, n⟩ ⟨i, d + 1, n⟩

theorem ArrAt.opens {b : List Int} {i0 i : Nat} (hi : i0 < b.length) (h : b.getD i0 0 = 91) (hle : i0 + 1 ≤ i) (ws : Flat b (i0 + 1) i) : ArrAt b i0 i :=
  ⟨by omega, fun d n _ => (Reach.opens hi (.inr h)).trans (ws _ _)⟩
theorem ArrAt.shuts {b : List Int} {i0 i : Nat} (h : ArrAt b i0 i) (hi : i < b.length) (hc : b.getD i 0 = 93) : ValOK b i0 (i + 1) :=
  ⟨by have := h.1; omega, by omega, fun d n hd => (h.2 d n hd).trans (Reach.shuts hi (.inr hc))⟩
theorem ArrAt.elem {b : List Int} {i0 i j : Nat} (h : ArrAt b i0 i) (hv : ValOK b i j) : ArrAt b i0 j :=
  ⟨by have := h.1; have := hv.1; omega, fun d n hd => (h.2 d n hd).trans (hv.2.2 _ _ (by omega))⟩
theorem ArrAt.ws {b : List Int} {i0 i j : Nat} (h : ArrAt b i0 i) (hle : i ≤ j) (hw : Flat b i j) : ArrAt b i0 j :=
  ⟨by have := h.1; omega, fun d n hd => (h.2 d n hd).trans (hw _ _)⟩
theorem ArrAt.comma {b : List Int} {i0 i : Nat} (h : ArrAt b i0 i) (hi : i < b.length) (hc : b.getD i 0 = 44) : ArrAt b i0 (i + 1) :=
  ⟨by have := h.1; omega, fun d n hd => (h.2 d n hd).trans (by
    have := Reach.comma (d := d + 1) (n := n) hi hc
    rw [if_neg (by omega)] at this
    exact this)⟩

/-- Inside an object that opened at i0, c commas of its own behind. -/
def ObjAt (b : List Int) (i0 i c : Nat) : Prop := i0 < i ∧ ∀ d n, 0 ≤ d → Reach b ⟨i0, d, n⟩ ⟨i, d + 1, if d = 0 then n + (c : Int) else n⟩
/-- An object that opened at i0 ends ahead of j, with c members. -/
def ObjOK (b : List Int) (i0 j c : Nat) : Prop := i0 < j ∧ j ≤ b.length ∧ ∀ d n, 0 ≤ d → Reach b ⟨i0, d, n⟩ ⟨j, d, if d = 0 then n + ((c - 1 : Nat) : Int) else n⟩

theorem ObjAt.opens {b : List Int} {i0 i : Nat} (hi : i0 < b.length) (h : b.getD i0 0 = 123) (hle : i0 + 1 ≤ i) (ws : Flat b (i0 + 1) i) : ObjAt b i0 i 0 :=
  ⟨by omega, fun d n _ => by
    have e : (if d = 0 then n + ((0 : Nat) : Int) else n) = n := by split <;> simp
    rw [e]
    exact (Reach.opens hi (.inl h)).trans (ws _ _)⟩
theorem ObjAt.shuts {b : List Int} {i0 i c : Nat} (h : ObjAt b i0 i c) (hi : i < b.length) (hc : b.getD i 0 = 125) : ObjOK b i0 (i + 1) (c + 1) :=
  ⟨by have := h.1; omega, by omega, fun d n hd => (h.2 d n hd).trans (Reach.shuts hi (.inl hc))⟩
theorem ObjAt.empty {b : List Int} {i0 i : Nat} (h : ObjAt b i0 i 0) (hi : i < b.length) (hc : b.getD i 0 = 125) : ObjOK b i0 (i + 1) 0 :=
  ⟨by have := h.1; omega, by omega, fun d n hd => (h.2 d n hd).trans (Reach.shuts hi (.inl hc))⟩
theorem ObjAt.val {b : List Int} {i0 i j c : Nat} (h : ObjAt b i0 i c) (hv : ValOK b i j) : ObjAt b i0 j c :=
  ⟨by have := h.1; have := hv.1; omega, fun d n hd => (h.2 d n hd).trans (hv.2.2 _ _ (by omega))⟩
theorem ObjAt.ws {b : List Int} {i0 i j c : Nat} (h : ObjAt b i0 i c) (hle : i ≤ j) (hw : Flat b i j) : ObjAt b i0 j c :=
  ⟨by have := h.1; omega, fun d n hd => (h.2 d n hd).trans (hw _ _)⟩
theorem ObjAt.comma {b : List Int} {i0 i c : Nat} (h : ObjAt b i0 i c) (hi : i < b.length) (hc : b.getD i 0 = 44) : ObjAt b i0 (i + 1) (c + 1) :=
  ⟨by have := h.1; omega, fun d n hd => (h.2 d n hd).trans (by
    have := Reach.comma (d := d + 1) (n := if d = 0 then n + (c : Int) else n) hi hc
    by_cases hz : d = 0
    · subst hz
      simp only [Int.zero_add, if_true] at this ⊢
      rw [show n + ((c + 1 : Nat) : Int) = n + (c : Int) + 1 by omega]
      exact this
    · simp only [if_neg hz, if_neg (show ¬ d + 1 = 1 by omega)] at this ⊢
      exact this)⟩
theorem ObjOK.val {b : List Int} {i j c : Nat} (h : ObjOK b i j c) : ValOK b i j :=
  ⟨h.1, h.2.1, fun d n hd => by
    have := h.2.2 d n (by omega)
    rw [if_neg (by omega)] at this
    exact this⟩

/-- THE LAW: the scanner counts what the parser counts. -/
theorem top_count {b : List Int} {i j c : Nat} (w1 : Flat b 0 i) (ho : ObjOK b i j c) (w2 : Flat b j b.length) (hc : 0 < c) : Reach b ⟨0, 0, 1⟩ ⟨b.length, 0, c⟩ := by
  have h := ho.2.2 0 1 (by omega)
  simp only [if_true] at h
  have h2 := ((w1 0 1).trans h).trans (w2 _ _)
  rw [show (1 : Int) + ((c - 1 : Nat) : Int) = (c : Int) by omega] at h2
  exact h2

end Go.Proofs.Qxb6000076a.JS
