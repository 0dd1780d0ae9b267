/- The plain law of a set of positions: lists of numbers, no Go in sight. -/
import Derived.Test.Qxb6602305aMath
namespace Go.Proofs.Qxb6602305a.PM

/-! ### add, place by place -/
theorem cnt_nil (q : Int) : cnt [] q = 0 := rfl
theorem cnt_cons (p : Int) (ps : List Int) (q : Int) : cnt (p :: ps) q = if p < q then cnt ps q + 1 else 0 := by
  unfold cnt
  rw [List.takeWhile_cons]
  by_cases h : p < q <;> simp [h]
theorem hit_nil (q : Int) : hitB [] q = false := rfl
theorem hit_cons (p : Int) (ps : List Int) (q : Int) : hitB (p :: ps) q = if p < q then hitB ps q else p == q := by
  unfold hitB
  rw [cnt_cons]
  by_cases h : p < q
  · rw [if_pos h, if_pos h, List.getElem?_cons_succ]
  · rw [if_neg h, if_neg h]
    rfl

def addN (ps : List Int) (W : List Nat) (q : Int) (b : Nat) : List Nat :=
  if hitB ps q = true then W.set (cnt ps q) (W.getD (cnt ps q) 0 ||| b) else W.take (cnt ps q) ++ b :: W.drop (cnt ps q)

theorem addP_nil (q : Int) : addP [] q = [q] := by simp [addP, hit_nil, cnt_nil]
theorem addN_nil (q : Int) (b : Nat) : addN [] [] q b = [b] := by simp [addN, hit_nil, cnt_nil]
theorem addP_lt {p q : Int} (ps : List Int) (h : p < q) : addP (p :: ps) q = p :: addP ps q := by
  unfold addP
  rw [hit_cons, cnt_cons, if_pos h, if_pos h]
  split <;> simp
theorem addN_lt {p q : Int} (ps : List Int) (w : Nat) (W : List Nat) (b : Nat) (h : p < q) : addN (p :: ps) (w :: W) q b = w :: addN ps W q b := by
  unfold addN
  rw [hit_cons, cnt_cons, if_pos h, if_pos h]
  split <;> simp
theorem addP_eq {p q : Int} (ps : List Int) (h : p = q) : addP (p :: ps) q = p :: ps := by
  unfold addP
  have hn : ¬ p < q := by omega
  rw [hit_cons, cnt_cons, if_neg hn, if_neg hn]
  simp [h]
theorem addN_eq {p q : Int} (ps : List Int) (w : Nat) (W : List Nat) (b : Nat) (h : p = q) : addN (p :: ps) (w :: W) q b = (w ||| b) :: W := by
  unfold addN
  have hn : ¬ p < q := by omega
  rw [hit_cons, cnt_cons, if_neg hn, if_neg hn]
  simp [h]
theorem addP_gt {p q : Int} (ps : List Int) (h : q < p) : addP (p :: ps) q = q :: p :: ps := by
  unfold addP
  have hn : ¬ p < q := by omega
  rw [hit_cons, cnt_cons, if_neg hn, if_neg hn]
  simp [show ¬ p = q by omega]
theorem addN_gt {p q : Int} (ps : List Int) (w : Nat) (W : List Nat) (b : Nat) (h : q < p) : addN (p :: ps) (w :: W) q b = b :: w :: W := by
  unfold addN
  have hn : ¬ p < q := by omega
  rw [hit_cons, cnt_cons, if_neg hn, if_neg hn]
  simp [show ¬ p = q by omega]

/-! ### the word at a place -/
def look : List Int → List Nat → Int → Nat
  | p :: ps, w :: W, q => if p = q then w else look ps W q
  | _, _, _ => 0

theorem look_past : ∀ (ps : List Int) (W : List Nat) (q : Int), (∀ p ∈ ps, q < p) → look ps W q = 0
  | [], _, _, _ => by unfold look; rfl
  | p :: ps, [], _, _ => by unfold look; rfl
  | p :: ps, w :: W, q, h => by
    have h1 := h p (by simp)
    unfold look
    rw [if_neg (by omega)]
    exact look_past ps W q (fun x hx => h x (by simp [hx]))

theorem look_add : ∀ (ps : List Int) (W : List Nat) (q : Int) (b : Nat), Inc ps → W.length = ps.length → ∀ x, look (addP ps q) (addN ps W q b) x = if x = q then look ps W q ||| b else look ps W x
  | [], [], q, b, _, _, x => by
    rw [addP_nil, addN_nil]
    simp only [look]
    by_cases h : q = x
    · subst h; simp
    · rw [if_neg h, if_neg (fun e => h e.symm)]
  | [], w :: W, _, _, _, hl, _ => by simp at hl
  | p :: ps, [], _, _, _, hl, _ => by simp at hl
  | p :: ps, w :: W, q, b, hi, hl, x => by
    have hi2 := List.pairwise_cons.1 hi
    by_cases h1 : p < q
    · rw [addP_lt ps h1, addN_lt ps w W b h1]
      have ih := look_add ps W q b hi2.2 (by simpa using hl) x
      simp only [look]
      by_cases hx : p = x
      · rw [if_pos hx, if_neg (by omega), if_pos hx]
      · rw [if_neg hx, ih, if_neg hx, if_neg (show ¬ p = q by omega)]
    · by_cases h2 : p = q
      · rw [addP_eq ps h2, addN_eq ps w W b h2]
        simp only [look]
        by_cases hx : p = x
        · rw [if_pos hx, if_pos (by omega), if_pos h2]
        · rw [if_neg hx, if_neg (by omega), if_neg hx]
      · have h3 : q < p := by omega
        rw [addP_gt ps h3, addN_gt ps w W b h3]
        have e : look (p :: ps) (w :: W) q = 0 := look_past _ _ _ (fun y hy => by
          rcases List.mem_cons.1 hy with rfl | hy
          · exact h3
          · have := hi2.1 y hy; omega)
        rw [e]
        show (if q = x then b else look (p :: ps) (w :: W) x) = _
        by_cases hx : q = x
        · rw [if_pos hx, if_pos hx.symm, Nat.zero_or]
        · rw [if_neg hx, if_neg (fun e => hx e.symm)]

/-- A set as 'add' makes it. -/
structure Good (ps : List Int) (W : List Nat) : Prop where
  inc : Inc ps
  len : W.length = ps.length
  pos : ∀ w ∈ W, 0 < w ∧ w < 18446744073709551616

theorem good_nil : Good [] [] := ⟨List.Pairwise.nil, rfl, fun w h => by cases h⟩

theorem or_lt {a b : Nat} (ha : a < 18446744073709551616) (hb : b < 18446744073709551616) : a ||| b < 18446744073709551616 :=
  Nat.or_lt_two_pow (n := 64) (by simpa using ha) (by simpa using hb)
theorem or_pos {a b : Nat} (ha : 0 < a) : 0 < a ||| b := by
  have : a ≤ a ||| b := Nat.left_le_or
  omega

theorem addN_mem : ∀ (ps : List Int) (W : List Nat) (q : Int) (b : Nat), W.length = ps.length → 0 < b → b < 18446744073709551616 → (∀ w ∈ W, 0 < w ∧ w < 18446744073709551616) →
    ∀ w ∈ addN ps W q b, 0 < w ∧ w < 18446744073709551616
  | [], [], q, b, _, h0, h1, _, w, hw => by
    rw [addN_nil] at hw
    simp at hw
    subst hw
    exact ⟨h0, h1⟩
  | [], w :: W, _, _, hl, _, _, _, _, _ => by simp at hl
  | p :: ps, [], _, _, hl, _, _, _, _, _ => by simp at hl
  | p :: ps, v :: W, q, b, hl, h0, h1, hW, w, hw => by
    by_cases c1 : p < q
    · rw [addN_lt ps v W b c1] at hw
      rcases List.mem_cons.1 hw with rfl | hw
      · exact hW _ (by simp)
      · exact addN_mem ps W q b (by simpa using hl) h0 h1 (fun x hx => hW x (by simp [hx])) w hw
    · by_cases c2 : p = q
      · rw [addN_eq ps v W b c2] at hw
        rcases List.mem_cons.1 hw with rfl | hw
        · have := hW v (by simp)
          exact ⟨or_pos this.1, or_lt this.2 h1⟩
        · exact hW w (by simp [hw])
      · rw [addN_gt ps v W b (by omega)] at hw
        rcases List.mem_cons.1 hw with rfl | hw
        · exact ⟨h0, h1⟩
        · exact hW w hw

theorem addN_len (ps : List Int) (W : List Nat) (q : Int) (b : Nat) (hl : W.length = ps.length) : (addN ps W q b).length = (addP ps q).length := by
  rw [addP_len]
  unfold addN
  have := cnt_le ps q
  split
  · simp [hl]
  · simp; omega

theorem Good.add {ps : List Int} {W : List Nat} (h : Good ps W) (q : Int) (b : Nat) (h0 : 0 < b) (h1 : b < 18446744073709551616) : Good (addP ps q) (addN ps W q b) :=
  ⟨inc_addP h.inc q, addN_len ps W q b h.len, addN_mem ps W q b h.len h0 h1 h.pos⟩

/-- Two sets with the same words at the same places are one and the same. -/
theorem good_unique : ∀ (ps : List Int) (W : List Nat) (ps' : List Int) (W' : List Nat), Good ps W → Good ps' W' → (∀ x, look ps W x = look ps' W' x) → ps = ps' ∧ W = W'
  | [], W, [], W', g, g', _ => by
    have h1 := g.len
    have h2 := g'.len
    simp at h1 h2
    rw [h1, h2]
    exact ⟨rfl, rfl⟩
  | [], W, p' :: ps', [], g, g', h => by have := g'.len; simp at this
  | [], W, p' :: ps', w' :: W', g, g', h => by
    have h1 := h p'
    simp only [look, if_true] at h1
    have := (g'.pos w' (by simp)).1
    omega
  | p :: ps, [], _, _, g, _, _ => by have := g.len; simp at this
  | p :: ps, w :: W, [], W', g, g', h => by
    have h1 := h p
    simp only [look, if_true] at h1
    have := (g.pos w (by simp)).1
    omega
  | p :: ps, w :: W, p' :: ps', [], g, g', h => by have := g'.len; simp at this
  | p :: ps, w :: W, p' :: ps', w' :: W', g, g', h => by
    have i1 := List.pairwise_cons.1 g.inc
    have i2 := List.pairwise_cons.1 g'.inc
    have hp : p = p' := by
      rcases Int.lt_trichotomy p p' with hlt | heq | hgt
      · have h1 := h p
        have h2 : look (p' :: ps') (w' :: W') p = 0 := look_past _ _ _ (fun y hy => by
          rcases List.mem_cons.1 hy with rfl | hy
          · exact hlt
          · have := i2.1 y hy; omega)
        rw [h2] at h1
        simp only [look, if_true] at h1
        have := (g.pos w (by simp)).1
        omega
      · exact heq
      · have h1 := h p'
        have h2 : look (p :: ps) (w :: W) p' = 0 := look_past _ _ _ (fun y hy => by
          rcases List.mem_cons.1 hy with rfl | hy
          · exact hgt
          · have := i1.1 y hy; omega)
        rw [h2] at h1
        simp only [look, if_true] at h1
        have := (g'.pos w' (by simp)).1
        omega
    subst hp
    have hw := h p
    simp only [look, if_true] at hw
    subst hw
    have ht : ∀ x, look ps W x = look ps' W' x := fun x => by
      by_cases hx : p = x
      · subst hx
        rw [look_past ps W p (fun y hy => i1.1 y hy), look_past ps' W' p (fun y hy => i2.1 y hy)]
      · have := h x
        simp only [look, if_neg hx] at this
        exact this
    obtain ⟨e1, e2⟩ := good_unique ps W ps' W' ⟨i1.2, by simpa using g.len, fun v hv => g.pos v (by simp [hv])⟩ ⟨i2.2, by simpa using g'.len, fun v hv => g'.pos v (by simp [hv])⟩ ht
    rw [e1, e2]
    exact ⟨rfl, rfl⟩

/-! ### adding a whole list -/
def bitN (x : Int) : Nat := 2 ^ (x % 64).toNat
theorem bitN_pos (x : Int) : 0 < bitN x := Nat.two_pow_pos _
theorem bitN_lt (x : Int) : bitN x < 18446744073709551616 := by
  have h : (x % 64).toNat ≤ 63 := by omega
  have h2 : 2 ^ (x % 64).toNat ≤ 2 ^ 63 := Nat.pow_le_pow_right (by decide) h
  have h3 : (2 : Nat) ^ 63 = 9223372036854775808 := by decide
  unfold bitN
  omega

def step (s : List Int × List Nat) (x : Int) : List Int × List Nat := (addP s.1 (x / 64), addN s.1 s.2 (x / 64) (bitN x))
def st (xs : List Int) : List Int × List Nat := xs.foldl step ([], [])

theorem st_snoc (xs : List Int) (x : Int) : st (xs ++ [x]) = step (st xs) x := by unfold st; rw [List.foldl_append]; rfl

theorem snoc_ind {P : List Int → Prop} (h0 : P []) (h1 : ∀ l x, P l → P (l ++ [x])) (l : List Int) : P l := by
  have : ∀ r : List Int, P r.reverse := by
    intro r
    induction r with
    | nil => exact h0
    | cons a r ih => rw [List.reverse_cons]; exact h1 _ _ ih
  have h := this l.reverse
  rwa [List.reverse_reverse] at h

theorem st_good (xs : List Int) : Good (st xs).1 (st xs).2 := by
  refine snoc_ind (P := fun xs => Good (st xs).1 (st xs).2) good_nil (fun l x ih => ?_) xs
  rw [st_snoc]
  exact ih.add _ _ (bitN_pos x) (bitN_lt x)

theorem st_look (xs : List Int) (p : Int) (i : Nat) : (look (st xs).1 (st xs).2 p).testBit i = true ↔ ∃ x ∈ xs, x / 64 = p ∧ (bitN x).testBit i = true := by
  refine snoc_ind (P := fun xs => (look (st xs).1 (st xs).2 p).testBit i = true ↔ ∃ x ∈ xs, x / 64 = p ∧ (bitN x).testBit i = true) ?_ (fun l x ih => ?_) xs
  · simp [st, look]
  · rw [st_snoc]
    unfold step
    have g := st_good l
    rw [look_add _ _ _ _ g.inc g.len p]
    by_cases h : p = x / 64
    · rw [if_pos h, ← h, Nat.testBit_or, Bool.or_eq_true, ih]
      constructor
      · rintro (⟨y, hy, h1, h2⟩ | h1)
        · exact ⟨y, by simp [hy], h1, h2⟩
        · exact ⟨x, by simp, h.symm, h1⟩
      · rintro ⟨y, hy, h1, h2⟩
        rcases List.mem_append.1 hy with hy | hy
        · exact .inl ⟨y, hy, h1, h2⟩
        · simp at hy; subst hy; exact .inr h2
    · rw [if_neg h, ih]
      constructor
      · rintro ⟨y, hy, h1, h2⟩
        exact ⟨y, by simp [hy], h1, h2⟩
      · rintro ⟨y, hy, h1, h2⟩
        rcases List.mem_append.1 hy with hy | hy
        · exact ⟨y, hy, h1, h2⟩
        · simp at hy; subst hy; exact absurd h1.symm h

/-- ONE AND THE SAME SET, forwards and backwards. -/
theorem st_reverse (xs : List Int) : st xs.reverse = st xs := by
  obtain ⟨e1, e2⟩ := good_unique _ _ _ _ (st_good xs.reverse) (st_good xs) (fun p => Nat.eq_of_testBit_eq (fun i => by
    rw [Bool.eq_iff_iff, st_look, st_look]
    simp))
  exact Prod.ext e1 e2

theorem bitN_test (x y : Int) : (bitN x).testBit (y % 64).toNat = true ↔ x % 64 = y % 64 := by
  unfold bitN
  rw [Nat.testBit_two_pow, decide_eq_true_eq]
  omega

/-- A position is in just when it was added. -/
theorem st_mem (xs : List Int) (x : Int) : (look (st xs).1 (st xs).2 (x / 64)).testBit (x % 64).toNat = true ↔ x ∈ xs := by
  rw [st_look]
  constructor
  · rintro ⟨y, hy, h1, h2⟩
    rw [bitN_test] at h2
    have : y = x := by omega
    rw [← this]; exact hy
  · intro h
    exact ⟨x, h, rfl, (bitN_test x x).2 rfl⟩

/-! ### how many -/
def pop : Nat → Nat → Nat
  | 0, _ => 0
  | f + 1, v => v % 2 + pop f (v / 2)

theorem pop_zero : ∀ f, pop f 0 = 0
  | 0 => rfl
  | f + 1 => by simp [pop, pop_zero f]

/-- 'v & (v - 1)' has one bit less. -/
theorem pop_clear : ∀ (f v : Nat), 0 < v → v < 2 ^ f → pop f (v &&& (v - 1)) + 1 = pop f v
  | 0, v, h0, h1 => by simp at h1; omega
  | f + 1, v, h0, h1 => by
    have hm : (v &&& (v - 1)) % 2 = 0 := by
      have h2 := Nat.and_mod_two_pow (a := v) (b := v - 1) (n := 1)
      simp only [Nat.pow_one] at h2
      rw [h2]
      rcases Nat.mod_two_eq_zero_or_one v with h | h
      · rw [h]; simp
      · rw [h, show (v - 1) % 2 = 0 by omega]; rfl
    have hd : (v &&& (v - 1)) / 2 = (v / 2) &&& ((v - 1) / 2) := Nat.and_div_two
    unfold pop
    rw [hm, hd]
    rcases Nat.mod_two_eq_zero_or_one v with h | h
    · have e : (v - 1) / 2 = v / 2 - 1 := by omega
      rw [e, h]
      have := pop_clear f (v / 2) (by omega) (by rw [Nat.pow_succ] at h1; omega)
      omega
    · have e : (v - 1) / 2 = v / 2 := by omega
      rw [e, h, Nat.and_self]
      omega

/-- one bit more, unless it was in. -/
theorem pop_or : ∀ (f v r : Nat), r < f → pop f (v ||| 2 ^ r) = pop f v + (if v.testBit r = true then 0 else 1)
  | 0, _, _, h => by omega
  | f + 1, v, 0, h => by
    have hd : (v ||| 2 ^ 0) / 2 = v / 2 := by
      rw [Nat.or_div_two]; simp
    have hm : (v ||| 2 ^ 0) % 2 = 1 := by
      have h2 := Nat.or_mod_two_pow (a := v) (b := 1) (n := 1)
      simp only [Nat.pow_one] at h2
      rw [Nat.pow_zero, h2]
      rcases Nat.mod_two_eq_zero_or_one v with h | h <;> rw [h] <;> rfl
    unfold pop
    rw [hd, hm, Nat.testBit_zero]
    rcases Nat.mod_two_eq_zero_or_one v with h | h <;> simp [h] <;> omega
  | f + 1, v, r + 1, h => by
    have hd : (v ||| 2 ^ (r + 1)) / 2 = v / 2 ||| 2 ^ r := by
      rw [Nat.or_div_two, Nat.pow_succ, Nat.mul_div_cancel _ (by decide)]
    have hm : (v ||| 2 ^ (r + 1)) % 2 = v % 2 := by
      have h2 := Nat.or_mod_two_pow (a := v) (b := 2 ^ (r + 1)) (n := 1)
      simp only [Nat.pow_one] at h2
      rw [h2, show 2 ^ (r + 1) % 2 = 0 by rw [Nat.pow_succ]; omega]
      simp
    unfold pop
    rw [hd, hm, pop_or f (v / 2) r (by omega), Nat.testBit_succ]
    omega

def tot (W : List Nat) : Nat := (W.map (pop 64)).sum

theorem tot_add : ∀ (ps : List Int) (W : List Nat) (q : Int) (r : Nat), Inc ps → W.length = ps.length → r < 64 →
    tot (addN ps W q (2 ^ r)) = tot W + (if (look ps W q).testBit r = true then 0 else 1)
  | [], [], q, r, _, _, hr => by
    rw [addN_nil]
    have := pop_or 64 0 r hr
    rw [Nat.zero_or, pop_zero] at this
    simp [tot, look, this]
  | [], w :: W, _, _, _, hl, _ => by simp at hl
  | p :: ps, [], _, _, _, hl, _ => by simp at hl
  | p :: ps, w :: W, q, r, hi, hl, hr => by
    have hi2 := List.pairwise_cons.1 hi
    by_cases h1 : p < q
    · rw [addN_lt ps w W _ h1]
      have ih := tot_add ps W q r hi2.2 (by simpa using hl) hr
      simp only [look, if_neg (show ¬ p = q by omega)]
      simp only [tot, List.map_cons, List.sum_cons] at ih ⊢
      omega
    · by_cases h2 : p = q
      · rw [addN_eq ps w W _ h2]
        simp only [look, if_pos h2]
        have := pop_or 64 w r hr
        simp only [tot, List.map_cons, List.sum_cons]
        omega
      · rw [addN_gt ps w W _ (by omega)]
        have e : look (p :: ps) (w :: W) q = 0 := look_past _ _ _ (fun y hy => by
          rcases List.mem_cons.1 hy with rfl | hy
          · omega
          · have := hi2.1 y hy; omega)
        rw [e]
        have := pop_or 64 0 r hr
        rw [Nat.zero_or, pop_zero] at this
        simp only [tot, List.map_cons, List.sum_cons]
        omega

/-- how many distinct values, from the left -/
def dist (xs : List Int) (k : Nat) : Nat := ((List.range k).filter (fun j => !((xs.take j).contains (xs.getD j 0)))).length

theorem dist_zero (xs : List Int) : dist xs 0 = 0 := rfl
theorem dist_succ (xs : List Int) (k : Nat) : dist xs (k + 1) = dist xs k + (if (xs.take k).contains (xs.getD k 0) = true then 0 else 1) := by
  unfold dist
  rw [List.range_succ, List.filter_append, List.length_append]
  congr 1
  cases h : (xs.take k).contains (xs.getD k 0) <;> simp only [List.filter_cons, List.filter_nil, h, Bool.not_false, Bool.not_true, if_true, Bool.false_eq_true, if_false] <;> rfl
theorem dist_le (xs : List Int) (k : Nat) : dist xs k ≤ k := by
  unfold dist
  exact Nat.le_trans (List.length_filter_le _ _) (by simp)

/-- AS MANY POSITIONS AS DISTINCT VALUES. -/
theorem st_tot (xs : List Int) : ∀ k, k ≤ xs.length → tot (st (xs.take k)).2 = dist xs k
  | 0, _ => by simp [st, tot, dist]
  | k + 1, hk => by
    have ih := st_tot xs k (by omega)
    have e : xs.take (k + 1) = xs.take k ++ [xs.getD k 0] := take_snoc xs k _ (by omega) rfl
    rw [e, st_snoc]
    unfold step
    have g := st_good (xs.take k)
    show tot (addN _ _ _ (2 ^ (xs.getD k 0 % 64).toNat)) = _
    rw [tot_add _ _ _ _ g.inc g.len (by omega), ih, dist_succ]
    congr 1
    have h1 := st_mem (xs.take k) (xs.getD k 0)
    have h2 : (xs.take k).contains (xs.getD k 0) = true ↔ xs.getD k 0 ∈ xs.take k := List.contains_iff_mem
    by_cases h : xs.getD k 0 ∈ xs.take k
    · rw [if_pos (h1.2 h), if_pos (h2.2 h)]
    · rw [if_neg (fun c => h (h1.1 c)), if_neg (fun c => h (h2.1 c))]

theorem pop_le : ∀ (f v : Nat), pop f v ≤ f
  | 0, _ => Nat.le_refl _
  | f + 1, v => by
    unfold pop
    have := pop_le f (v / 2)
    omega

theorem st_len (xs : List Int) : (st xs).1.length ≤ xs.length := by
  refine snoc_ind (P := fun xs => (st xs).1.length ≤ xs.length) (Nat.le_refl _) (fun l x ih => ?_) xs
  rw [st_snoc]
  show (addP (st l).1 (x / 64)).length ≤ _
  rw [addP_len, List.length_append]
  split <;> simp <;> omega

/-- the word at a place, by its number -/
theorem look_at : ∀ (ps : List Int) (W : List Nat) (k : Nat), Inc ps → k < ps.length → W.length = ps.length → look ps W (ps.getD k 0) = W.getD k 0
  | [], _, k, _, hk, _ => by simp at hk
  | p :: ps, [], k, _, _, hl => by simp at hl
  | p :: ps, w :: W, 0, _, _, _ => by simp [look]
  | p :: ps, w :: W, k + 1, hi, hk, hl => by
    have hi2 := List.pairwise_cons.1 hi
    have hk' : k < ps.length := by simpa using hk
    have e : (p :: ps).getD (k + 1) 0 = ps.getD k 0 := by simp
    have hm : ps.getD k 0 ∈ ps := by
      rw [List.getD_eq_getElem?_getD, List.getElem?_eq_getElem hk']
      exact List.getElem_mem hk'
    have := hi2.1 _ hm
    rw [e]
    simp only [look, if_neg (show ¬ p = ps.getD k 0 by omega)]
    rw [look_at ps W k hi2.2 hk' (by simpa using hl)]
    simp

theorem look_not : ∀ (ps : List Int) (W : List Nat) (q : Int), (∀ k, k < ps.length → ps.getD k 0 ≠ q) → look ps W q = 0
  | [], _, _, _ => by unfold look; rfl
  | p :: ps, [], _, _ => by unfold look; rfl
  | p :: ps, w :: W, q, h => by
    have h0 := h 0 (by simp)
    simp at h0
    simp only [look, if_neg h0]
    exact look_not ps W q (fun k hk => by
      have := h (k + 1) (by simpa using hk)
      simpa using this)

end Go.Proofs.Qxb6602305a.PM
