/- Two appends and the two calls of Insert, each as ONE step of a region whose order is drawn: the side conditions are paid here, outside the walk. -/
import Derived.Test.Qxb6602305aInsert
import Derived.Test.Qxb6602305aParts
import Derived.Deep.RegionLawGrows
namespace Go.Proofs.Qxb6602305a
open Go.RowKit Go.Lib

theorem step_p {ops : Array Oper} {o : Oper} {a : Act} {W : World} {K : Act → World → Prop} {Q : Exit → Act → World → Prop} {E : Prop}
    (hgd : o.guard = none) (s x : Operand) (hop : o.op = Op.call { callee := Callee.builtin Builtin.append, args := #[s, x], argTypes := #[27, 27] })
    (w : World) (base n : Nat) (ap : Option Addr) (ps : List Int) (q : Int) (hP : Hid (w.ownsRow base 21 1 (.slice ap n n) n (ps.map (Value.int .i32)))) (hb : base ≤ w.heap.size) (hn : n ≤ 65536)
    (hs : a.eval s = .slice ap n n) (ad : Addr) (hx : a.eval x = .slice (some ad) 1 1) (hc : W.cell? ad = some (.int .i32 q)) (hG : w.grownBy W none)
    (hK : ∀ g cap w1, w.grownBy w1 none → Hid (w1.ownsRow base 21 1 (.slice (some ⟨g, 0, none⟩) (n + 1) cap) (n + 1) (ps.map (Value.int .i32) ++ [Value.int .i32 q])) → Hid (W.grownBy w1 none) → K (a.put o.dst (.slice (some ⟨g, 0, none⟩) (n + 1) cap)) w1) :
    if Region.wanted o (yielded ops a.tmps) = true then Oper.wp Try.prog o a W K Q else E := by
  obtain ⟨i0, hi0, hz0, hz1, hz2⟩ := info_parts info21
  refine step_append_grows hgd s x 27 hop 21 i0 _ 1 4 Try.underlying27 hi0 hz0 hz1 hz2 rfl (by decide) ap n n (ps.map (Value.int .i32)) hs (own_none hP.out) hP.out.1 (own_olds hP.out hG) ad 1 1 [Value.int .i32 q] hx rfl (news1 hc) (by simp [Value.oneCell']) (by omega) (by unfold maxLen; omega) (by omega) ?_
  intro v1 w1 hown hgrow
  obtain ⟨g, cap, rfl⟩ := Joins.ownsRow_form hown (by omega)
  exact hK g cap w1 (gT hG hgrow) (own_base hown (Nat.le_trans hb hG.size)) hgrow

theorem step_w {ops : Array Oper} {o : Oper} {a : Act} {W : World} {K : Act → World → Prop} {Q : Exit → Act → World → Prop} {E : Prop}
    (hgd : o.guard = none) (s x : Operand) (hop : o.op = Op.call { callee := Callee.builtin Builtin.append, args := #[s, x], argTypes := #[28, 28] })
    (w : World) (base n : Nat) (ap : Option Addr) (ps : List Int) (q : Int) (hP : Hid (w.ownsRow base 33 1 (.slice ap n n) n (ps.map (Value.int .u64)))) (hb : base ≤ w.heap.size) (hn : n ≤ 65536)
    (hs : a.eval s = .slice ap n n) (ad : Addr) (hx : a.eval x = .slice (some ad) 1 1) (hc : W.cell? ad = some (.int .u64 q)) (hG : w.grownBy W none)
    (hK : ∀ g cap w1, w.grownBy w1 none → Hid (w1.ownsRow base 33 1 (.slice (some ⟨g, 0, none⟩) (n + 1) cap) (n + 1) (ps.map (Value.int .u64) ++ [Value.int .u64 q])) → Hid (W.grownBy w1 none) → K (a.put o.dst (.slice (some ⟨g, 0, none⟩) (n + 1) cap)) w1) :
    if Region.wanted o (yielded ops a.tmps) = true then Oper.wp Try.prog o a W K Q else E := by
  obtain ⟨i0, hi0, hz0, hz1, hz2⟩ := info_parts info33
  refine step_append_grows hgd s x 28 hop 33 i0 _ 1 8 Try.underlying28 hi0 hz0 hz1 hz2 rfl (by decide) ap n n (ps.map (Value.int .u64)) hs (own_none hP.out) hP.out.1 (own_olds hP.out hG) ad 1 1 [Value.int .u64 q] hx rfl (news1 hc) (by simp [Value.oneCell']) (by omega) (by unfold maxLen; omega) (by omega) ?_
  intro v1 w1 hown hgrow
  obtain ⟨g, cap, rfl⟩ := Joins.ownsRow_form hown (by omega)
  exact hK g cap w1 (gT hG hgrow) (own_base hown (Nat.le_trans hb hG.size)) hgrow

/-! ### slices.Insert, told by the rows it leaves -/
theorem setCells_rest {b : Nat} : ∀ (vs : List Value) (o : Nat) (w : World), (w.setCells b o vs).os = w.os ∧ (w.setCells b o vs).tape = w.tape ∧ (w.setCells b o vs).output = w.output ∧ (w.setCells b o vs).heap.size = w.heap.size ∧
    (∀ k, k ≠ b → (w.setCells b o vs).heap[k]? = w.heap[k]?) ∧ ∀ cur t m, w.heap[b]? = some (.cells cur t m) → ∃ cur', (w.setCells b o vs).heap[b]? = some (.cells cur' t m) ∧ cur'.size = cur.size
  | [], o, w => ⟨rfl, rfl, rfl, rfl, fun _ _ => rfl, fun cur t m h => ⟨cur, h, rfl⟩⟩
  | v :: r, o, w => by
    obtain ⟨h1, h2, h3, h4, h5, h6⟩ := setCells_rest (b := b) r (o + 1) (w.setCell ⟨b, o, none⟩ v)
    refine ⟨h1, h2, h3, h4.trans (by simp [World.setCell]), fun k hk => (h5 k hk).trans (Below.heap_setCell _ _ _ _ hk), fun cur t m h => ?_⟩
    have h7 : (w.setCell ⟨b, o, none⟩ v).heap[b]? = some (.cells (cur.setIfInBounds o v) t m) := by simp [World.setCell, Array.getElem?_modify, h]
    obtain ⟨cur', h8, h9⟩ := h6 _ _ _ h7
    exact ⟨cur', h8, by simpa using h9⟩

theorem cell_of_block {w : World} {b : Nat} {cur : Array Value} {t : TypeId} {m : Nat × Nat} (h : w.heap[b]? = some (.cells cur t m)) (j : Nat) : w.cell? ⟨b, j, none⟩ = cur[j]? := by
  simp [World.cell?, h]

/-- The new row of Insert: what stood ahead of i, v, what stood from i on. -/
theorem row_of_insert {w : World} {base n m i G : Nat} {e : TypeId} {z : Value} {cs vs : List Value} (hi : i < n) (hcl : cs.length = n) (hvl : vs.length = m) (hG : n + m ≤ G) (hGm : G ≤ maxLen) (hz : z.cells.size = 1) (hb : base ≤ w.heap.size) {w' : World}
    (hw : w' = (((w.alloc (.cells ((cs.take i).toArray ++ Builtin.zeroCells z.cells (n + m - i) ++ Builtin.zeroCells z.cells (G - (n + m))) e)).drew.setCells w.heap.size i vs).drew).setCells w.heap.size (i + m) (cs.drop i)) :
    w.grownBy w' none ∧ w'.ownsRow base e 1 (.slice (some ⟨w.heap.size, 0, none⟩) (n + m) G) (n + m) (cs.take i ++ vs ++ cs.drop i) := by
  obtain ⟨ROW, hROW⟩ : ∃ ROW : Array Value, ROW = (cs.take i).toArray ++ Builtin.zeroCells z.cells (n + m - i) ++ Builtin.zeroCells z.cells (G - (n + m)) := ⟨_, rfl⟩
  rw [← hROW] at hw
  have hRs : ROW.size = G := by
    rw [hROW]
    simp [Builtin.zeroCells, hz]
    omega
  obtain ⟨W0, hW0⟩ : ∃ W0, W0 = (w.alloc (.cells ROW e)).drew := ⟨_, rfl⟩
  rw [← hW0] at hw
  have b0 : W0.heap[w.heap.size]? = some (.cells ROW e (0, 0)) := by rw [hW0]; exact heap_alloc_new w _
  have hr0 : ∀ j, j < i → ROW[j]? = cs[j]? := fun j hj => by
    rw [hROW, Array.getElem?_append_left (by simp [Builtin.zeroCells, hz]; omega), Array.getElem?_append_left (by simp; omega)]
    simp [hj]
  obtain ⟨x1, x2, x3, x4, x5, x6⟩ := setCells_rest (b := w.heap.size) vs i W0
  obtain ⟨W1, hW1⟩ : ∃ W1, W1 = (W0.setCells w.heap.size i vs).drew := ⟨_, rfl⟩
  rw [← hW1] at hw
  obtain ⟨c1, b1', s1⟩ := x6 _ _ _ b0
  have b1 : W1.heap[w.heap.size]? = some (.cells c1 e (0, 0)) := by rw [hW1]; exact b1'
  obtain ⟨y1, y2, y3, y4, y5, y6⟩ := setCells_rest (b := w.heap.size) (cs.drop i) (i + m) W1
  obtain ⟨c2, b2, s2⟩ := y6 _ _ _ b1
  have hsz1 : W1.heap.size = w.heap.size + 1 := by rw [hW1]; exact x4.trans (by rw [hW0]; simp)
  have hin1 : ∀ j, j < G → (W0.cell? ⟨w.heap.size, j, none⟩).isSome = true := fun j hj => by
    rw [cell_of_block b0, Array.getElem?_eq_getElem (by omega)]; rfl
  have k1 : ∀ j, c1[j]? = if i ≤ j ∧ j < i + m then vs[j - i]? else ROW[j]? := fun j => by
    rw [← cell_of_block b1']
    split
    · rename_i h
      have := World.cell?_setCells_in w.heap.size vs i W0 (fun t ht => hin1 _ (by omega)) (j - i) (by omega)
      rw [show i + (j - i) = j by omega] at this
      rw [this]
      simp [show j - i < vs.length by omega]
    · rename_i h
      rw [World.cell?_setCells_out _ _ _ _ _ (fun _ _ => by show j < i ∨ i + vs.length ≤ j; omega), cell_of_block b0]
  have hdl : (cs.drop i).length = n - i := by rw [List.length_drop, hcl]
  have hin2 : ∀ j, j < G → (W1.cell? ⟨w.heap.size, j, none⟩).isSome = true := fun j hj => by
    rw [cell_of_block b1, Array.getElem?_eq_getElem (by omega)]; rfl
  have k2 : ∀ j, c2[j]? = if i + m ≤ j ∧ j < n + m then (cs.drop i)[j - (i + m)]? else c1[j]? := fun j => by
    rw [← cell_of_block b2]
    split
    · rename_i h
      have := World.cell?_setCells_in w.heap.size (cs.drop i) (i + m) W1 (fun t ht => hin2 _ (by omega)) (j - (i + m)) (by omega)
      rw [show i + m + (j - (i + m)) = j by omega] at this
      rw [this, List.getElem?_eq_getElem (by omega)]
    · rename_i h
      rw [World.cell?_setCells_out _ _ _ _ _ (fun _ _ => by show j < i + m ∨ i + m + (cs.drop i).length ≤ j; omega), cell_of_block b1]
  subst hw
  refine ⟨⟨y1.trans (by rw [hW1]; exact x1.trans (by rw [hW0]; rfl)), y2.trans (by rw [hW1]; exact x2.trans (by rw [hW0]; rfl)), y3.trans (by rw [hW1]; exact x3.trans (by rw [hW0]; rfl)), by rw [y4]; omega, fun k hk _ => ?_⟩, ?_, .inr ⟨w.heap.size, G, c2, rfl, hb, b2, hG, hGm, by omega, ?_⟩⟩
  · rw [y5 k (by omega), hW1]
    show (W0.setCells w.heap.size i vs).heap[k]? = _
    rw [x5 k (by omega), hW0]
    exact Below.heap_alloc _ _ _ hk
  · simp; omega
  · apply List.ext_getElem?
    intro j
    rw [List.getElem?_take]
    by_cases hj : j < (n + m) * 1
    · rw [if_pos hj, Array.getElem?_toList, k2, k1]
      by_cases h1 : j < i
      · rw [if_neg (by omega), if_neg (by omega), hr0 j h1, List.append_assoc, List.getElem?_append_left (by simp; omega), List.getElem?_take, if_pos h1]
      · by_cases h2 : j < i + m
        · rw [if_neg (by omega), if_pos ⟨by omega, h2⟩, List.append_assoc, List.getElem?_append_right (by simp; omega), List.getElem?_append_left (by simp; omega)]
          congr 1
          simp; omega
        · rw [if_pos ⟨by omega, by omega⟩, List.getElem?_append_right (by simp; omega)]
          congr 1
          simp; omega
    · rw [if_neg hj, List.getElem?_eq_none (by simp; omega)]

theorem insert_p (w0 : World) (base n i : Nat) (ap : Option Addr) (vb : Nat) (ps : List Int) (q : Int) (W : World) (hP : Hid (w0.ownsRow base 21 1 (.slice ap n n) n (ps.map (Value.int .i32)))) (hb : base ≤ w0.heap.size) (hn : n ≤ 65536) (hi : i < n)
    (hc : W.cell? ⟨vb, 0, none⟩ = some (.int .i32 q)) (hG : w0.grownBy W none) :
    Calls Try.prog 28 #[.slice ap n n, .int .i64 i, .slice (some ⟨vb, 0, none⟩) 1 1] W fun e w' => ∃ g cap, e = .returned (.slice (some ⟨g, 0, none⟩) (n + 1) cap) ∧ w0.grownBy w' none ∧
      Hid (w'.ownsRow base 21 1 (.slice (some ⟨g, 0, none⟩) (n + 1) cap) (n + 1) ((PM.ins ps i q).map (Value.int .i32))) ∧ Hid (W.grownBy w' none) := by
  have h2 := own_far hP.out hG
  obtain ⟨hl, h3⟩ := h2
  rcases h3 with ⟨h4, h5⟩ | ⟨g, c, cur, h4, _⟩
  · omega
  · simp only [Value.slice.injEq] at h4
    obtain ⟨rfl, _, _⟩ := h4
    have ho := own_olds hP.out hG ⟨g, 0, none⟩ rfl
    refine (insert_int32_world g 0 n n i vb 0 1 1 (ps.map (Value.int .i32)) [Value.int .i32 q] W hi (by omega) (by omega) (by omega) (by omega) (by simpa using hl) rfl (fun j v hj => by have := ho j v hj; rw [Addr.add_lit] at this; exact this) (fun j v hj => by have := news1 hc j v hj; rw [Addr.add_lit] at this; exact this) (ints_oneCell _ _) (by simp [Value.oneCell'])).mono ?_
    rintro e w' ⟨rfl, hw⟩
    obtain ⟨r1, r2⟩ := row_of_insert (w := W) (base := base) (n := n) (m := 1) (i := i) (G := grownCap W (n + 1) n 21) (e := 21) (z := Value.int .i32 0) (cs := ps.map (Value.int .i32)) (vs := [Value.int .i32 q]) hi (by simpa using hl) rfl (grownCap_ge W _ _ _) (grownCap_le_maxLen W (n + 1) n 21 (by unfold maxLen; omega)) rfl (Nat.le_trans hb hG.size) hw
    exact ⟨_, _, rfl, gT hG r1, by show World.ownsRow _ _ _ _ _ _ _; unfold PM.ins; simpa using r2, r1⟩

theorem insert_w (w0 : World) (base n i : Nat) (ap : Option Addr) (vb : Nat) (ps : List Int) (q : Int) (W : World) (hP : Hid (w0.ownsRow base 33 1 (.slice ap n n) n (ps.map (Value.int .u64)))) (hb : base ≤ w0.heap.size) (hn : n ≤ 65536) (hi : i < n)
    (hc : W.cell? ⟨vb, 0, none⟩ = some (.int .u64 q)) (hG : w0.grownBy W none) :
    Calls Try.prog 29 #[.slice ap n n, .int .i64 i, .slice (some ⟨vb, 0, none⟩) 1 1] W fun e w' => ∃ g cap, e = .returned (.slice (some ⟨g, 0, none⟩) (n + 1) cap) ∧ w0.grownBy w' none ∧
      Hid (w'.ownsRow base 33 1 (.slice (some ⟨g, 0, none⟩) (n + 1) cap) (n + 1) ((PM.ins ps i q).map (Value.int .u64))) ∧ Hid (W.grownBy w' none) := by
  have h2 := own_far hP.out hG
  obtain ⟨hl, h3⟩ := h2
  rcases h3 with ⟨h4, h5⟩ | ⟨g, c, cur, h4, _⟩
  · omega
  · simp only [Value.slice.injEq] at h4
    obtain ⟨rfl, _, _⟩ := h4
    have ho := own_olds hP.out hG ⟨g, 0, none⟩ rfl
    refine (insert_uint64_world g 0 n n i vb 0 1 1 (ps.map (Value.int .u64)) [Value.int .u64 q] W hi (by omega) (by omega) (by omega) (by omega) (by simpa using hl) rfl (fun j v hj => by have := ho j v hj; rw [Addr.add_lit] at this; exact this) (fun j v hj => by have := news1 hc j v hj; rw [Addr.add_lit] at this; exact this) (ints_oneCell _ _) (by simp [Value.oneCell'])).mono ?_
    rintro e w' ⟨rfl, hw⟩
    obtain ⟨r1, r2⟩ := row_of_insert (w := W) (base := base) (n := n) (m := 1) (i := i) (G := grownCap W (n + 1) n 33) (e := 33) (z := Value.int .u64 0) (cs := ps.map (Value.int .u64)) (vs := [Value.int .u64 q]) hi (by simpa using hl) rfl (grownCap_ge W _ _ _) (grownCap_le_maxLen W (n + 1) n 33 (by unfold maxLen; omega)) rfl (Nat.le_trans hb hG.size) hw
    exact ⟨_, _, rfl, gT hG r1, by show World.ownsRow _ _ _ _ _ _ _; unfold PM.ins; simpa using r2, r1⟩

theorem ownP_len {w : World} {base n : Nat} {v : Value} {zs : List Int} (h : w.ownsRow base 21 1 v n (zs.map (Value.int .i32))) : OwnP w base v zs ∧ zs.length = n := by
  have hl : zs.length = n := by simpa using h.1
  subst hl
  exact ⟨h, rfl⟩
theorem ownW_len {w : World} {base n : Nat} {v : Value} {zs : List Int} (h : w.ownsRow base 33 1 v n (zs.map (Value.int .u64))) : OwnW w base v zs ∧ zs.length = n := by
  have hl : zs.length = n := by simpa using h.1
  subst hl
  exact ⟨h, rfl⟩

/-- The end of the road of two appends. -/
theorem close_end {S base n g1 cap1 g2 cap2 : Nat} {ps ws : List Int} {q bit : Int} {w w1 w2 : World} {a b : Value} (hS : Hid (w.heap[S]? = some (.cells #[a, b] 41 (0, 0))))
    (hG : w.grownBy w2 none) (h12 : w1.grownBy w2 none)
    (o1 : Hid (w1.ownsRow base 21 1 (.slice (some ⟨g1, 0, none⟩) (n + 1) cap1) (n + 1) (ps.map (Value.int .i32) ++ [Value.int .i32 q])))
    (o2 : Hid (w2.ownsRow base 33 1 (.slice (some ⟨g2, 0, none⟩) (n + 1) cap2) (n + 1) (ws.map (Value.int .u64) ++ [Value.int .u64 bit]))) :
    AddPost S base none (ps ++ [q]) (ws ++ [bit]) w ((w2.setCell ⟨S, 0, none⟩ (.slice (some ⟨g1, 0, none⟩) (n + 1) cap1)).setCell ⟨S, 1, none⟩ (.slice (some ⟨g2, 0, none⟩) (n + 1) cap2)) := by
  refine close_two hS.out hG (ownP_len (n := n + 1) ?_).1 (ownW_len (n := n + 1) ?_).1
  · rw [List.map_append]; exact own_far o1.out h12
  · rw [List.map_append]; exact o2.out

end Go.Proofs.Qxb6602305a
