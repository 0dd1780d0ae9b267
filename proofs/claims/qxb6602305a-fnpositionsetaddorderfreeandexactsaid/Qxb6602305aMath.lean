/- The plain law of 'add' and of the linear merge: lists of numbers, no Go in sight. -/
namespace Go.Proofs.Qxb6602305a.PM

/-- How many places lie before w. -/
def cnt (ps : List Int) (w : Int) : Nat := (ps.takeWhile (fun p => decide (p < w))).length

def Inc (ps : List Int) : Prop := ps.Pairwise (· < ·)

/-- Does w stand among the places? -/
def hitB (ps : List Int) (w : Int) : Bool := ps[cnt ps w]? == some w

/-- The places with w in. -/
def addP (ps : List Int) (w : Int) : List Int :=
  if hitB ps w = true then ps else ps.take (cnt ps w) ++ w :: ps.drop (cnt ps w)

/-- The words: the word at w's place goes through f; or a new word 'bit' comes in there. -/
def addW (ps ws : List Int) (w : Int) (f : Int → Int) (bit : Int) : List Int :=
  if hitB ps w = true then ws.set (cnt ps w) (f (ws.getD (cnt ps w) 0)) else ws.take (cnt ps w) ++ bit :: ws.drop (cnt ps w)

theorem cnt_le (ps : List Int) (w : Int) : cnt ps w ≤ ps.length := by
  unfold cnt
  exact (List.takeWhile_prefix _).length_le

theorem cnt_lt (ps : List Int) (w : Int) (j : Nat) (h : j < cnt ps w) : ps.getD j 0 < w := by
  unfold cnt at h
  induction ps generalizing j with
  | nil => simp at h
  | cons p r ih =>
    rw [List.takeWhile_cons] at h
    by_cases hp : p < w
    · simp [hp] at h
      cases j with
      | zero => simpa using hp
      | succ j => simpa using ih j (by omega)
    · simp [hp] at h

theorem cnt_at (ps : List Int) (w : Int) (h : cnt ps w < ps.length) : w ≤ ps.getD (cnt ps w) 0 := by
  unfold cnt at h ⊢
  induction ps with
  | nil => simp at h
  | cons p r ih =>
    rw [List.takeWhile_cons] at h ⊢
    by_cases hp : p < w
    · simp [hp] at h ⊢
      simpa using ih h
    · simp [hp]
      omega

theorem inc_get {ps : List Int} (hs : Inc ps) {i j : Nat} (hij : i < j) (hj : j < ps.length) : ps.getD i 0 < ps.getD j 0 := by
  have h := List.pairwise_iff_getElem.1 hs i j (by omega) hj hij
  simpa [List.getD, List.getElem?_eq_getElem (show i < ps.length by omega), List.getElem?_eq_getElem hj] using h

theorem cnt_ge {ps : List Int} (hs : Inc ps) (w : Int) (j : Nat) (h : cnt ps w ≤ j) (hj : j < ps.length) : w ≤ ps.getD j 0 := by
  have h0 := cnt_at ps w (by omega)
  by_cases e : cnt ps w = j
  · rw [← e]; exact h0
  · have := inc_get hs (show cnt ps w < j by omega) hj
    omega

/-- The split place is the only one. -/
theorem cnt_eq {ps : List Int} (w : Int) (k : Nat) (hk : k ≤ ps.length) (hlo : ∀ j, j < k → ps.getD j 0 < w) (hhi : k < ps.length → w ≤ ps.getD k 0) : cnt ps w = k := by
  by_cases h1 : cnt ps w < k
  · have := cnt_at ps w (by omega)
    have := hlo _ h1
    omega
  · by_cases h2 : k < cnt ps w
    · have := cnt_lt ps w k h2
      have := hhi (by have := cnt_le ps w; omega)
      omega
    · omega

theorem hit_iff (ps : List Int) (w : Int) : hitB ps w = true ↔ cnt ps w < ps.length ∧ ps.getD (cnt ps w) 0 = w := by
  unfold hitB
  rw [beq_iff_eq, List.getElem?_eq_some_iff]
  constructor
  · rintro ⟨h, e⟩
    exact ⟨h, by simp [List.getD, List.getElem?_eq_getElem h, e]⟩
  · rintro ⟨h, e⟩
    exact ⟨h, by simpa [List.getD, List.getElem?_eq_getElem h] using e⟩

theorem miss_of_end (ps : List Int) (w : Int) (h : cnt ps w = ps.length) : hitB ps w = false := by
  cases e : hitB ps w with
  | false => rfl
  | true => have := ((hit_iff ps w).1 e).1; omega

theorem miss_lt (ps : List Int) (w : Int) (hm : hitB ps w = false) (h : cnt ps w < ps.length) : w < ps.getD (cnt ps w) 0 := by
  have h0 := cnt_at ps w h
  by_cases e : ps.getD (cnt ps w) 0 = w
  · have := (hit_iff ps w).2 ⟨h, e⟩
    rw [this] at hm; cases hm
  · omega

theorem addP_len (ps : List Int) (w : Int) : (addP ps w).length = if hitB ps w = true then ps.length else ps.length + 1 := by
  unfold addP
  have := cnt_le ps w
  split
  · rfl
  · simp; omega

theorem addW_len (ps ws : List Int) (w : Int) (f : Int → Int) (bit : Int) (hl : ws.length = ps.length) : (addW ps ws w f bit).length = (addP ps w).length := by
  rw [addP_len]
  unfold addW
  have := cnt_le ps w
  split
  · simp [hl]
  · simp; omega

/-- how many of the merged elements lie in the wanted slices at the head of round j -/
def idx (ps : List Int) (w : Int) (j : Nat) : Nat := if cnt ps w < j ∧ hitB ps w = false then j + 1 else j

def ins (l : List Int) (k : Nat) (x : Int) : List Int := l.take k ++ x :: l.drop k

theorem ins_lo (l : List Int) (k : Nat) (x : Int) (j : Nat) (hk : k ≤ l.length) (h : j < k) : (ins l k x).getD j 0 = l.getD j 0 := by
  unfold ins
  rw [List.getD_eq_getElem?_getD, List.getD_eq_getElem?_getD, List.getElem?_append_left (by rw [List.length_take]; omega), List.getElem?_take, if_pos h]

theorem ins_at (l : List Int) (k : Nat) (x : Int) (hk : k ≤ l.length) : (ins l k x).getD k 0 = x := by
  unfold ins
  rw [List.getD_eq_getElem?_getD, List.getElem?_append_right (by rw [List.length_take]; omega)]
  rw [List.length_take, show k - min k l.length = 0 by omega]
  rfl

theorem ins_hi (l : List Int) (k : Nat) (x : Int) (j : Nat) (hk : k ≤ l.length) (h : k ≤ j) : (ins l k x).getD (j + 1) 0 = l.getD j 0 := by
  unfold ins
  rw [List.getD_eq_getElem?_getD, List.getElem?_append_right (by rw [List.length_take]; omega)]
  rw [List.length_take, show j + 1 - min k l.length = (j - k) + 1 by omega, List.getElem?_cons_succ, List.getElem?_drop, show k + (j - k) = j by omega, List.getD_eq_getElem?_getD]

theorem addP_miss (ps : List Int) (w : Int) (h : hitB ps w = false) : addP ps w = ins ps (cnt ps w) w := by
  unfold addP ins; simp [h]
theorem addW_miss (ps ws : List Int) (w : Int) (f : Int → Int) (bit : Int) (h : hitB ps w = false) : addW ps ws w f bit = ins ws (cnt ps w) bit := by
  unfold addW ins; simp [h]
theorem addP_hit (ps : List Int) (w : Int) (h : hitB ps w = true) : addP ps w = ps := by
  unfold addP; simp [h]
theorem addW_hit (ps ws : List Int) (w : Int) (f : Int → Int) (bit : Int) (h : hitB ps w = true) : addW ps ws w f bit = ws.set (cnt ps w) (f (ws.getD (cnt ps w) 0)) := by
  unfold addW; simp [h]

theorem take_snoc (l : List Int) (m : Nat) (x : Int) (hm : m < l.length) (e : l.getD m 0 = x) : l.take (m + 1) = l.take m ++ [x] := by
  rw [List.take_succ_eq_append_getElem hm]
  rw [List.getD_eq_getElem?_getD, List.getElem?_eq_getElem hm] at e
  simp at e
  rw [e]

/-- ROUND j, before the split place: the old pair goes in as it was. -/
theorem round_lo (ps ws : List Int) (w : Int) (f : Int → Int) (bit : Int) (hl : ws.length = ps.length) (j : Nat) (h : j < cnt ps w) :
    idx ps w j = j ∧ idx ps w (j + 1) = j + 1 ∧ (addP ps w).take (j + 1) = (addP ps w).take j ++ [ps.getD j 0] ∧ (addW ps ws w f bit).take (j + 1) = (addW ps ws w f bit).take j ++ [ws.getD j 0] := by
  have hk := cnt_le ps w
  have hL := addP_len ps w
  have hW := addW_len ps ws w f bit hl
  refine ⟨by unfold idx; rw [if_neg (by omega)], by unfold idx; rw [if_neg (by omega)], take_snoc _ _ _ (by split at hL <;> omega) ?_, take_snoc _ _ _ (by split at hL <;> omega) ?_⟩
  · cases e : hitB ps w with
    | true => rw [addP_hit _ _ e]
    | false => rw [addP_miss _ _ e, ins_lo _ _ _ _ hk h]
  · cases e : hitB ps w with
    | true => rw [addW_hit _ _ _ _ _ e, List.getD_eq_getElem?_getD, List.getElem?_set_ne (by omega), List.getD_eq_getElem?_getD]
    | false => rw [addW_miss _ _ _ _ _ e, ins_lo _ _ _ _ (by omega) h]

/-- ROUND j at the split place, w stands there. -/
theorem round_hit (ps ws : List Int) (w : Int) (f : Int → Int) (bit : Int) (hl : ws.length = ps.length) (j : Nat) (e : hitB ps w = true) (h : j = cnt ps w) :
    idx ps w j = j ∧ idx ps w (j + 1) = j + 1 ∧ (addP ps w).take (j + 1) = (addP ps w).take j ++ [ps.getD j 0] ∧ (addW ps ws w f bit).take (j + 1) = (addW ps ws w f bit).take j ++ [f (ws.getD j 0)] := by
  have hk := ((hit_iff ps w).1 e).1
  subst h
  refine ⟨by unfold idx; rw [if_neg (by omega)], by unfold idx; rw [if_neg (by simp [e])], ?_, ?_⟩
  · rw [addP_hit _ _ e]; exact take_snoc _ _ _ hk rfl
  · rw [addW_hit _ _ _ _ _ e]
    refine take_snoc _ _ _ (by simp; omega) ?_
    rw [List.getD_eq_getElem?_getD, List.getElem?_set_self (by omega)]
    rfl

/-- ROUND j at the split place, w does not stand there: two pairs go in. -/
theorem round_miss (ps ws : List Int) (w : Int) (f : Int → Int) (bit : Int) (hl : ws.length = ps.length) (j : Nat) (e : hitB ps w = false) (h : j = cnt ps w) (hj : j < ps.length) :
    idx ps w j = j ∧ idx ps w (j + 1) = j + 1 + 1 ∧ (addP ps w).take (j + 1) = (addP ps w).take j ++ [w] ∧ (addW ps ws w f bit).take (j + 1) = (addW ps ws w f bit).take j ++ [bit] ∧
    (addP ps w).take (j + 1 + 1) = (addP ps w).take (j + 1) ++ [ps.getD j 0] ∧ (addW ps ws w f bit).take (j + 1 + 1) = (addW ps ws w f bit).take (j + 1) ++ [ws.getD j 0] := by
  have hL := addP_len ps w
  have hW := addW_len ps ws w f bit hl
  rw [e] at hL
  simp at hL
  subst h
  refine ⟨by unfold idx; rw [if_neg (by omega)], by unfold idx; rw [if_pos ⟨by omega, e⟩], take_snoc _ _ _ (by omega) ?_, take_snoc _ _ _ (by omega) ?_, take_snoc _ _ _ (by omega) ?_, take_snoc _ _ _ (by omega) ?_⟩
  · rw [addP_miss _ _ e, ins_at _ _ _ (by omega)]
  · rw [addW_miss _ _ _ _ _ e, ins_at _ _ _ (by omega)]
  · rw [addP_miss _ _ e, ins_hi _ _ _ _ (by omega) (by omega)]
  · rw [addW_miss _ _ _ _ _ e, ins_hi _ _ _ _ (by omega) (by omega)]

/-- ROUND j behind the split place. -/
theorem round_hi (ps ws : List Int) (w : Int) (f : Int → Int) (bit : Int) (hl : ws.length = ps.length) (j : Nat) (h : cnt ps w < j) (hj : j < ps.length) :
    idx ps w (j + 1) = idx ps w j + 1 ∧ (addP ps w).take (idx ps w j + 1) = (addP ps w).take (idx ps w j) ++ [ps.getD j 0] ∧ (addW ps ws w f bit).take (idx ps w j + 1) = (addW ps ws w f bit).take (idx ps w j) ++ [ws.getD j 0] := by
  have hL := addP_len ps w
  have hW := addW_len ps ws w f bit hl
  cases e : hitB ps w with
  | true =>
    rw [e] at hL; simp at hL
    have i1 : idx ps w j = j := by unfold idx; rw [if_neg (by simp [e])]
    have i2 : idx ps w (j + 1) = j + 1 := by unfold idx; rw [if_neg (by simp [e])]
    rw [i1, i2]
    refine ⟨rfl, take_snoc _ _ _ (by omega) ?_, take_snoc _ _ _ (by omega) ?_⟩
    · rw [addP_hit _ _ e]
    · rw [addW_hit _ _ _ _ _ e, List.getD_eq_getElem?_getD, List.getElem?_set_ne (by omega), List.getD_eq_getElem?_getD]
  | false =>
    rw [e] at hL; simp at hL
    have i1 : idx ps w j = j + 1 := by unfold idx; rw [if_pos ⟨by omega, e⟩]
    have i2 : idx ps w (j + 1) = j + 1 + 1 := by unfold idx; rw [if_pos ⟨by omega, e⟩]
    rw [i1, i2]
    refine ⟨rfl, take_snoc _ _ _ (by omega) ?_, take_snoc _ _ _ (by omega) ?_⟩
    · rw [addP_miss _ _ e, ins_hi _ _ _ _ (by omega) (by omega)]
    · rw [addW_miss _ _ _ _ _ e, ins_hi _ _ _ _ (by omega) (by omega)]

/-- Behind the loop, w placed. -/
theorem end_placed (ps ws : List Int) (w : Int) (f : Int → Int) (bit : Int) (hl : ws.length = ps.length) (h : cnt ps w < ps.length) :
    (addP ps w).take (idx ps w ps.length) = addP ps w ∧ (addW ps ws w f bit).take (idx ps w ps.length) = addW ps ws w f bit ∧ (addP ps w).length = idx ps w ps.length := by
  have hL := addP_len ps w
  have hW := addW_len ps ws w f bit hl
  have e : (addP ps w).length = idx ps w ps.length := by
    unfold idx
    cases e : hitB ps w with
    | true => rw [e] at hL; simp at hL; rw [if_neg (by simp)]; exact hL
    | false => rw [e] at hL; simp at hL; rw [if_pos ⟨h, rfl⟩]; exact hL
  exact ⟨List.take_of_length_le (by omega), List.take_of_length_le (by omega), e⟩

/-- Behind the loop, w not yet placed: the last pair. -/
theorem end_not (ps ws : List Int) (w : Int) (f : Int → Int) (bit : Int) (hl : ws.length = ps.length) (h : cnt ps w = ps.length) :
    idx ps w ps.length = ps.length ∧ addP ps w = (addP ps w).take ps.length ++ [w] ∧ addW ps ws w f bit = (addW ps ws w f bit).take ps.length ++ [bit] ∧ (addP ps w).length = ps.length + 1 := by
  have e := miss_of_end ps w h
  have hL := addP_len ps w
  have hW := addW_len ps ws w f bit hl
  rw [e] at hL
  simp at hL
  refine ⟨by unfold idx; rw [if_neg (by omega)], ?_, ?_, hL⟩
  · rw [← take_snoc (addP ps w) ps.length w (by omega) (by rw [addP_miss _ _ e, h, ins_at _ _ _ (by omega)]), List.take_of_length_le (by omega)]
  · rw [← take_snoc (addW ps ws w f bit) ps.length bit (by omega) (by rw [addW_miss _ _ _ _ _ e, h, ins_at _ _ _ (by omega)]), List.take_of_length_le (by omega)]

/-! ### what each road of 'add' leaves -/
theorem add_end (ps ws : List Int) (w : Int) (f : Int → Int) (bit : Int) (hl : ws.length = ps.length) (h : cnt ps w = ps.length) : addP ps w = ps ++ [w] ∧ addW ps ws w f bit = ws ++ [bit] := by
  have e := miss_of_end ps w h
  rw [addP_miss _ _ e, addW_miss _ _ _ _ _ e, h]
  unfold ins
  rw [← hl]
  constructor
  · rw [hl]; simp
  · simp

theorem cnt_past {ps : List Int} (hs : Inc ps) (w : Int) (h : ps = [] ∨ ps.getD (ps.length - 1) 0 < w) : cnt ps w = ps.length := by
  refine cnt_eq w _ (Nat.le_refl _) (fun j hj => ?_) (fun h => by omega)
  rcases h with rfl | h
  · simp at hj
  · by_cases e : j = ps.length - 1
    · rw [e]; exact h
    · have := inc_get hs (show j < ps.length - 1 by omega) (by omega)
      omega

theorem cnt_last {ps : List Int} (hs : Inc ps) (w : Int) (hn : 0 < ps.length) (h : ps.getD (ps.length - 1) 0 = w) : cnt ps w = ps.length - 1 ∧ hitB ps w = true := by
  have e : cnt ps w = ps.length - 1 := by
    refine cnt_eq w _ (by omega) (fun j hj => ?_) (fun _ => by omega)
    have := inc_get hs (show j < ps.length - 1 by omega) (by omega)
    omega
  exact ⟨e, (hit_iff ps w).2 ⟨by omega, by rw [e]; exact h⟩⟩

theorem inc_addP {ps : List Int} (hs : Inc ps) (w : Int) : Inc (addP ps w) := by
  cases e : hitB ps w with
  | true => rw [addP_hit _ _ e]; exact hs
  | false =>
    rw [addP_miss _ _ e]
    unfold ins
    have hk := cnt_le ps w
    refine List.pairwise_append.2 ⟨List.Pairwise.sublist (List.take_sublist _ _) hs, List.pairwise_cons.2 ⟨fun x hx => ?_, List.Pairwise.sublist (List.drop_sublist _ _) hs⟩, fun a ha b hb => ?_⟩
    · obtain ⟨i, hi, rfl⟩ := List.mem_iff_getElem.1 hx
      rw [List.length_drop] at hi
      rw [List.getElem_drop]
      have h1 := miss_lt ps w e (by omega)
      have h2 : ps.getD (cnt ps w) 0 ≤ ps.getD (cnt ps w + i) 0 := by
        by_cases z : i = 0
        · subst z; exact Int.le_refl _
        · exact Int.le_of_lt (inc_get hs (by omega) (by omega))
      have h3 : ps.getD (cnt ps w + i) 0 = ps[cnt ps w + i] := by simp [List.getD, List.getElem?_eq_getElem (show cnt ps w + i < ps.length by omega)]
      omega
    · obtain ⟨i, hi, rfl⟩ := List.mem_iff_getElem.1 ha
      rw [List.length_take] at hi
      rw [List.getElem_take]
      have h1 := cnt_lt ps w i (by omega)
      have h3 : ps.getD i 0 = ps[i] := by simp [List.getD, List.getElem?_eq_getElem (show i < ps.length by omega)]
      rcases List.mem_cons.1 hb with rfl | hb
      · omega
      · obtain ⟨m, hm, rfl⟩ := List.mem_iff_getElem.1 hb
        rw [List.length_drop] at hm
        rw [List.getElem_drop]
        have h4 := inc_get hs (show i < cnt ps w + m by omega) (by omega)
        have h5 : ps.getD (cnt ps w + m) 0 = ps[cnt ps w + m] := by simp [List.getD, List.getElem?_eq_getElem (show cnt ps w + m < ps.length by omega)]
        omega

end Go.Proofs.Qxb6602305a.PM
