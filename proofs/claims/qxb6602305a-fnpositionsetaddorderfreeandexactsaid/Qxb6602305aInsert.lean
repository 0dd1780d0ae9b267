/- slices.Insert at []int32 and []uint64, on the road that both laws take: i < len(s), no room. Turned from the shelf's text at []int to this program. The library's own text is walked. -/
import Derived.Test.Qxb6602305aRows
import Derived.Test.Qxb6602305aMath
import Derived.Shelf.Spec.SlicesInsert
import Derived.Lib.AppendZerosOnto
import Derived.Laws.NewBlocks
import Derived.Deep.RegionLaw
set_option linter.unusedVariables false
set_option linter.unusedSimpArgs false
namespace Go.Proofs.Qxb6602305a
open Go.RowKit Go.Lib

theorem info21 : (Try.prog.info? 21).map (fun i => (i.zero, i.size, i.bytes)) = some (some (.int .i32 0), 1, 4) := by kernel_rfl
theorem info33 : (Try.prog.info? 33).map (fun i => (i.zero, i.size, i.bytes)) = some (some (.int .u64 0), 1, 8) := by kernel_rfl

set_option maxHeartbeats 4000000 in
set_option maxRecDepth 100000 in
/-- slices.Insert at []int32: i < len(s), no room: a new row. -/
theorem insert_int32_world (b off n c i vb voff m vc : Nat) (cs vs : List Value) (w : World) (hi : i < n) (hm : 0 < m) (hnc : n ≤ c) (hroom : c < n + m) (hbig : (n + m) * 4 ≤ 140737488355328)
    (hcl : cs.length = n) (hvl : vs.length = m)
    (hcs : ∀ j v, cs[j]? = some v → w.cell? ⟨b, off + j, none⟩ = some v)
    (hvs : ∀ j v, vs[j]? = some v → w.cell? ⟨vb, voff + j, none⟩ = some v) (h1c : ∀ v ∈ cs, v.oneCell' = true) (h1v : ∀ v ∈ vs, v.oneCell' = true) :
    Calls Try.prog 28 #[.slice (some ⟨b, off, none⟩) n c, .int .i64 i, .slice (some ⟨vb, voff, none⟩) m vc] w fun e w' =>
      e = .returned (.slice (some ⟨w.heap.size, 0, none⟩) (n + m) (grownCap w (n + m) c 21)) ∧
      w' = (((w.alloc (.cells ((cs.take i).toArray ++ Builtin.zeroCells (Value.int .i32 0).cells (n + m - i) ++ Builtin.zeroCells (Value.int .i32 0).cells (grownCap w (n + m) c 21 - (n + m))) 21)).drew.setCells w.heap.size i vs).drew).setCells w.heap.size (i + m) (cs.drop i) := by
  obtain ⟨i0, hi0, hz0, hzs, hzb⟩ := info_parts info21
  have hz1 : ¬ ((m : Int) = 0) := by omega
  have hz2 : ¬ ((i : Int) = (n : Int)) := by omega
  have hz3 : (c : Int) < (n : Int) + (m : Int) := by omega
  have hsz : (Try.prog.info? 21).map (·.size) = some 1 := by rw [hi0]; simp [hzs]
  have hbw : b < w.heap.size := block_lt_of_cell (hcs 0 _ (List.getElem?_eq_getElem (by omega)))
  have hvw : vb < w.heap.size := block_lt_of_cell (hvs 0 _ (List.getElem?_eq_getElem (by omega)))
  have hkk : (n : Int) + (m : Int) - (i : Int) = ((n + m - i : Nat) : Int) := by omega
  have hik : i + (n + m - i) = n + m := by omega
  have hold : (Builtin.firstCells i0.size i (.slice (some ⟨b, off, none⟩) i c)).run Try.prog w.drew = .ok (cs.take i).toArray w.drew := by
    rw [hzs]
    exact run_firstCells_some w.drew 1 i ⟨b, off, none⟩ i c (cs.take i) (by rw [List.length_take]; omega) (fun j v hj => by
      rw [Addr.add_lit]
      rw [List.getElem?_take] at hj
      split at hj
      · exact hcs j v hj
      · cases hj)
  have hrz : ∀ ty, (Builtin.append_ #[27, 3] ty #[.slice (some ⟨b, off, none⟩) i c, .int .i64 ((n : Int) + (m : Int) - (i : Int))]).run Try.prog w =
      .ok (.slice (some ⟨w.heap.size, 0, none⟩) (n + m) (grownCap w (n + m) c 21)) (w.drew.alloc (.cells ((cs.take i).toArray ++ Builtin.zeroCells (Value.int .i32 0).cells (n + m - i) ++ Builtin.zeroCells (Value.int .i32 0).cells (grownCap w (n + m) c 21 - (n + m))) 21)) := fun ty => by
    have h := Lib.run_append_grow_zeros w 27 3 ty 21 i0 _ .i64 .i64 Try.underlying27 Try.underlying3 hi0 hz0 (some ⟨b, off, none⟩) i c (cs.take i) hold (n + m - i) (by omega) (by omega) (by omega) (by omega) (by rw [hzb]; omega) (by rw [hzb, hik]; exact growslice_fits hroom hbig)
    rw [hik] at h
    rw [hkk]
    exact h
  obtain ⟨G, hG⟩ : ∃ G, G = grownCap w (n + m) c 21 := ⟨_, rfl⟩
  obtain ⟨ROW, hROW⟩ : ∃ ROW : Array Value, ROW = (cs.take i).toArray ++ Builtin.zeroCells (Value.int .i32 0).cells (n + m - i) ++ Builtin.zeroCells (Value.int .i32 0).cells (G - (n + m)) := ⟨_, rfl⟩
  rw [← hG] at hrz ⊢
  rw [← hROW] at hrz ⊢
  have hRl : n + m ≤ ROW.size := by
    rw [hROW]
    simp [Builtin.zeroCells, Value.cells]
    omega
  obtain ⟨W1, hW1⟩ : ∃ W1, W1 = w.drew.alloc (.cells ROW 21) := ⟨_, rfl⟩
  rw [← hW1] at hrz
  have hN : ∀ j, j < n + m → (W1.cell? ⟨w.heap.size, j, none⟩).isSome = true := fun j hj => by
    rw [hW1, World.cell?_alloc_at (w := w.drew) ROW _ w.heap.size j rfl, Array.getElem?_eq_getElem (by omega)]; rfl
  have hNf : ∀ j, W1.frozen? ⟨w.heap.size, j, none⟩ = false := fun j => by rw [hW1]; exact World.frozen?_alloc_at (w := w.drew) ROW _ w.heap.size j rfl
  have hOb : ∀ j v, w.cell? ⟨b, j, none⟩ = some v → W1.cell? ⟨b, j, none⟩ = some v := fun j v h => by rw [hW1, World.cell?_alloc_past (w := w.drew) _ b j hbw]; exact h
  have hOv : ∀ j v, w.cell? ⟨vb, j, none⟩ = some v → W1.cell? ⟨vb, j, none⟩ = some v := fun j v h => by rw [hW1, World.cell?_alloc_past (w := w.drew) _ vb j hvw]; exact h
  have hcpA : ∀ (W : World), (∀ x, W.cell? x = W1.cell? x) → (∀ x, W.frozen? x = W1.frozen? x) → ∀ ty dc, (Builtin.copy_ #[27, 27] ty #[.slice (some ⟨w.heap.size, i, none⟩) (n + m - i) dc, .slice (some ⟨vb, voff, none⟩) m vc]).run Try.prog W = .ok (goInt vs.length) (W.setCells w.heap.size i vs) := fun W hWc hWf ty dc =>
    run_copy_cells W _ _ ty 21 w.heap.size i (n + m - i) dc ⟨vb, voff, none⟩ m vc vs Try.underlying27 hsz (by rw [hvl]; simp only [Nat.min_def]; split <;> omega)
      (fun j v hj => by rw [Addr.add_lit, hWc]; exact hOv _ v (hvs j v hj))
      (fun j hj => by rw [hWc]; exact hN _ (by omega)) (fun j hj => by rw [hWf]; exact hNf _) h1v
  have hGn : n + m ≤ G := by rw [hG]; exact grownCap_ge w _ _ _
  have hG63 : G ≤ 9223372036854775807 := by
    have := grownCap_le_maxLen w (n + m) c 21 (by unfold maxLen; omega)
    rw [← hG] at this
    unfold maxLen at this
    omega
  have hGi : ¬ (G = i) := by omega
  have hGim : ¬ (G = i + m) := by omega
  have hci : ¬ (c = i) := by omega
  have hbN : b ≠ w.heap.size := by omega
  have hdl : (cs.drop i).length = n - i := by rw [List.length_drop, hcl]
  have hcpB : ∀ (W : World), (∀ x, W.cell? x = (W1.setCells w.heap.size i vs).cell? x) → (∀ x, W.frozen? x = (W1.setCells w.heap.size i vs).frozen? x) → ∀ ty dc sc, (Builtin.copy_ #[27, 27] ty #[.slice (some ⟨w.heap.size, i + m, none⟩) (n + m - (i + m)) dc, .slice (some ⟨b, off + i, none⟩) (n - i) sc]).run Try.prog W = .ok (goInt (cs.drop i).length) (W.setCells w.heap.size (i + m) (cs.drop i)) := fun W hWc hWf ty dc sc =>
    run_copy_cells W _ _ ty 21 w.heap.size (i + m) (n + m - (i + m)) dc ⟨b, off + i, none⟩ (n - i) sc (cs.drop i) Try.underlying27 hsz (by rw [hdl]; simp only [Nat.min_def]; split <;> omega)
      (fun j v hj => by
        rw [Addr.add_lit, hWc, World.cell?_setCells_out _ _ _ _ _ (fun h _ => absurd h hbN), Nat.add_assoc]
        exact hOb _ v (hcs (i + j) v (by rwa [List.getElem?_drop] at hj)))
      (fun j hj => by rw [hWc]; exact isSome_setCells _ _ _ _ (fun t ht => hN _ (by omega)) _ (hN _ (by omega)))
      (fun j hj => by rw [hWf, World.frozen?_setCells]; exact hNf _) (fun v hv => h1c v (List.mem_of_mem_drop hv))
  subst hW1
  have hE1 : ∀ x, ((w.alloc (.cells ROW 21)).drew).cell? x = (w.drew.alloc (.cells ROW 21)).cell? x := fun x => rfl
  have hE2 : ∀ x, ((w.alloc (.cells ROW 21)).drew).frozen? x = (w.drew.alloc (.cells ROW 21)).frozen? x := fun x => rfl
  have hF1 : ∀ x, (((w.alloc (.cells ROW 21)).drew.setCells w.heap.size i vs).drew).cell? x = ((w.drew.alloc (.cells ROW 21)).setCells w.heap.size i vs).cell? x := fun x => rfl
  have hF2 : ∀ x, (((w.alloc (.cells ROW 21)).drew.setCells w.heap.size i vs).drew).frozen? x = ((w.drew.alloc (.cells ROW 21)).setCells w.heap.size i vs).frozen? x := fun x => rfl
  have hw1 : IntKind.i64.wrap ((i : Int) + (m : Int)) = (i : Int) + (m : Int) := by rw [IntKind.wrap_i64]; omega
  have hb1 : (0 : Int) ≤ (i : Int) + (m : Int) := by omega
  have hin : i ≤ n := by omega
  have htn : ((i : Int) + (m : Int)).toNat = i + m := by omega
  have hb3 : (i : Int) ≤ (n : Int) := by omega
  clear hkk hik hold hROW hG hRl
  go_enter Try.func28, Try.ntmps28
  go_wp2_with (first
    | (at_builtin; refine Lib.wpList_append_run _ rfl _ _ _ _ rfl _ _ rfl rfl _ _ (hrz _) ?_)
    | (at_builtin; refine wpList_copy_runI _ rfl _ _ 27 27 rfl _ _ rfl rfl (hcpA _ hE1 hE2 _ _) ?_)
    | (at_builtin; refine wpList_copy_runI _ rfl _ _ 27 27 rfl _ _ rfl rfl (hcpB _ (fun _ => rfl) (fun _ => rfl) _ _ _) ?_))
  go_region_law (refine step_copy_runI rfl _ _ 27 27 rfl (.slice (some ⟨w.heap.size, i + m, none⟩) (n + m - (i + m)) (G - (i + m))) (.slice (some ⟨b, off + i, none⟩) (n - i) (c - i)) (by simp [Act.eval, Act.put]) (by simp [Act.eval, Act.put]) (hcpB _ hF1 hF2 3 (G - (i + m)) (c - i)) ?_)
  go_wp2
  go_ret
  exact ⟨rfl, rfl⟩

set_option maxHeartbeats 4000000 in
set_option maxRecDepth 100000 in
/-- slices.Insert at []uint64: i < len(s), no room: a new row. -/
theorem insert_uint64_world (b off n c i vb voff m vc : Nat) (cs vs : List Value) (w : World) (hi : i < n) (hm : 0 < m) (hnc : n ≤ c) (hroom : c < n + m) (hbig : (n + m) * 8 ≤ 140737488355328)
    (hcl : cs.length = n) (hvl : vs.length = m)
    (hcs : ∀ j v, cs[j]? = some v → w.cell? ⟨b, off + j, none⟩ = some v)
    (hvs : ∀ j v, vs[j]? = some v → w.cell? ⟨vb, voff + j, none⟩ = some v) (h1c : ∀ v ∈ cs, v.oneCell' = true) (h1v : ∀ v ∈ vs, v.oneCell' = true) :
    Calls Try.prog 29 #[.slice (some ⟨b, off, none⟩) n c, .int .i64 i, .slice (some ⟨vb, voff, none⟩) m vc] w fun e w' =>
      e = .returned (.slice (some ⟨w.heap.size, 0, none⟩) (n + m) (grownCap w (n + m) c 33)) ∧
      w' = (((w.alloc (.cells ((cs.take i).toArray ++ Builtin.zeroCells (Value.int .u64 0).cells (n + m - i) ++ Builtin.zeroCells (Value.int .u64 0).cells (grownCap w (n + m) c 33 - (n + m))) 33)).drew.setCells w.heap.size i vs).drew).setCells w.heap.size (i + m) (cs.drop i) := by
  obtain ⟨i0, hi0, hz0, hzs, hzb⟩ := info_parts info33
  have hz1 : ¬ ((m : Int) = 0) := by omega
  have hz2 : ¬ ((i : Int) = (n : Int)) := by omega
  have hz3 : (c : Int) < (n : Int) + (m : Int) := by omega
  have hsz : (Try.prog.info? 33).map (·.size) = some 1 := by rw [hi0]; simp [hzs]
  have hbw : b < w.heap.size := block_lt_of_cell (hcs 0 _ (List.getElem?_eq_getElem (by omega)))
  have hvw : vb < w.heap.size := block_lt_of_cell (hvs 0 _ (List.getElem?_eq_getElem (by omega)))
  have hkk : (n : Int) + (m : Int) - (i : Int) = ((n + m - i : Nat) : Int) := by omega
  have hik : i + (n + m - i) = n + m := by omega
  have hold : (Builtin.firstCells i0.size i (.slice (some ⟨b, off, none⟩) i c)).run Try.prog w.drew = .ok (cs.take i).toArray w.drew := by
    rw [hzs]
    exact run_firstCells_some w.drew 1 i ⟨b, off, none⟩ i c (cs.take i) (by rw [List.length_take]; omega) (fun j v hj => by
      rw [Addr.add_lit]
      rw [List.getElem?_take] at hj
      split at hj
      · exact hcs j v hj
      · cases hj)
  have hrz : ∀ ty, (Builtin.append_ #[28, 3] ty #[.slice (some ⟨b, off, none⟩) i c, .int .i64 ((n : Int) + (m : Int) - (i : Int))]).run Try.prog w =
      .ok (.slice (some ⟨w.heap.size, 0, none⟩) (n + m) (grownCap w (n + m) c 33)) (w.drew.alloc (.cells ((cs.take i).toArray ++ Builtin.zeroCells (Value.int .u64 0).cells (n + m - i) ++ Builtin.zeroCells (Value.int .u64 0).cells (grownCap w (n + m) c 33 - (n + m))) 33)) := fun ty => by
    have h := Lib.run_append_grow_zeros w 28 3 ty 33 i0 _ .i64 .i64 Try.underlying28 Try.underlying3 hi0 hz0 (some ⟨b, off, none⟩) i c (cs.take i) hold (n + m - i) (by omega) (by omega) (by omega) (by omega) (by rw [hzb]; omega) (by rw [hzb, hik]; exact growslice_fits hroom hbig)
    rw [hik] at h
    rw [hkk]
    exact h
  obtain ⟨G, hG⟩ : ∃ G, G = grownCap w (n + m) c 33 := ⟨_, rfl⟩
  obtain ⟨ROW, hROW⟩ : ∃ ROW : Array Value, ROW = (cs.take i).toArray ++ Builtin.zeroCells (Value.int .u64 0).cells (n + m - i) ++ Builtin.zeroCells (Value.int .u64 0).cells (G - (n + m)) := ⟨_, rfl⟩
  rw [← hG] at hrz ⊢
  rw [← hROW] at hrz ⊢
  have hRl : n + m ≤ ROW.size := by
    rw [hROW]
    simp [Builtin.zeroCells, Value.cells]
    omega
  obtain ⟨W1, hW1⟩ : ∃ W1, W1 = w.drew.alloc (.cells ROW 33) := ⟨_, rfl⟩
  rw [← hW1] at hrz
  have hN : ∀ j, j < n + m → (W1.cell? ⟨w.heap.size, j, none⟩).isSome = true := fun j hj => by
    rw [hW1, World.cell?_alloc_at (w := w.drew) ROW _ w.heap.size j rfl, Array.getElem?_eq_getElem (by omega)]; rfl
  have hNf : ∀ j, W1.frozen? ⟨w.heap.size, j, none⟩ = false := fun j => by rw [hW1]; exact World.frozen?_alloc_at (w := w.drew) ROW _ w.heap.size j rfl
  have hOb : ∀ j v, w.cell? ⟨b, j, none⟩ = some v → W1.cell? ⟨b, j, none⟩ = some v := fun j v h => by rw [hW1, World.cell?_alloc_past (w := w.drew) _ b j hbw]; exact h
  have hOv : ∀ j v, w.cell? ⟨vb, j, none⟩ = some v → W1.cell? ⟨vb, j, none⟩ = some v := fun j v h => by rw [hW1, World.cell?_alloc_past (w := w.drew) _ vb j hvw]; exact h
  have hcpA : ∀ (W : World), (∀ x, W.cell? x = W1.cell? x) → (∀ x, W.frozen? x = W1.frozen? x) → ∀ ty dc, (Builtin.copy_ #[28, 28] ty #[.slice (some ⟨w.heap.size, i, none⟩) (n + m - i) dc, .slice (some ⟨vb, voff, none⟩) m vc]).run Try.prog W = .ok (goInt vs.length) (W.setCells w.heap.size i vs) := fun W hWc hWf ty dc =>
    run_copy_cells W _ _ ty 33 w.heap.size i (n + m - i) dc ⟨vb, voff, none⟩ m vc vs Try.underlying28 hsz (by rw [hvl]; simp only [Nat.min_def]; split <;> omega)
      (fun j v hj => by rw [Addr.add_lit, hWc]; exact hOv _ v (hvs j v hj))
      (fun j hj => by rw [hWc]; exact hN _ (by omega)) (fun j hj => by rw [hWf]; exact hNf _) h1v
  have hGn : n + m ≤ G := by rw [hG]; exact grownCap_ge w _ _ _
  have hG63 : G ≤ 9223372036854775807 := by
    have := grownCap_le_maxLen w (n + m) c 33 (by unfold maxLen; omega)
    rw [← hG] at this
    unfold maxLen at this
    omega
  have hGi : ¬ (G = i) := by omega
  have hGim : ¬ (G = i + m) := by omega
  have hci : ¬ (c = i) := by omega
  have hbN : b ≠ w.heap.size := by omega
  have hdl : (cs.drop i).length = n - i := by rw [List.length_drop, hcl]
  have hcpB : ∀ (W : World), (∀ x, W.cell? x = (W1.setCells w.heap.size i vs).cell? x) → (∀ x, W.frozen? x = (W1.setCells w.heap.size i vs).frozen? x) → ∀ ty dc sc, (Builtin.copy_ #[28, 28] ty #[.slice (some ⟨w.heap.size, i + m, none⟩) (n + m - (i + m)) dc, .slice (some ⟨b, off + i, none⟩) (n - i) sc]).run Try.prog W = .ok (goInt (cs.drop i).length) (W.setCells w.heap.size (i + m) (cs.drop i)) := fun W hWc hWf ty dc sc =>
    run_copy_cells W _ _ ty 33 w.heap.size (i + m) (n + m - (i + m)) dc ⟨b, off + i, none⟩ (n - i) sc (cs.drop i) Try.underlying28 hsz (by rw [hdl]; simp only [Nat.min_def]; split <;> omega)
      (fun j v hj => by
        rw [Addr.add_lit, hWc, World.cell?_setCells_out _ _ _ _ _ (fun h _ => absurd h hbN), Nat.add_assoc]
        exact hOb _ v (hcs (i + j) v (by rwa [List.getElem?_drop] at hj)))
      (fun j hj => by rw [hWc]; exact isSome_setCells _ _ _ _ (fun t ht => hN _ (by omega)) _ (hN _ (by omega)))
      (fun j hj => by rw [hWf, World.frozen?_setCells]; exact hNf _) (fun v hv => h1c v (List.mem_of_mem_drop hv))
  subst hW1
  have hE1 : ∀ x, ((w.alloc (.cells ROW 33)).drew).cell? x = (w.drew.alloc (.cells ROW 33)).cell? x := fun x => rfl
  have hE2 : ∀ x, ((w.alloc (.cells ROW 33)).drew).frozen? x = (w.drew.alloc (.cells ROW 33)).frozen? x := fun x => rfl
  have hF1 : ∀ x, (((w.alloc (.cells ROW 33)).drew.setCells w.heap.size i vs).drew).cell? x = ((w.drew.alloc (.cells ROW 33)).setCells w.heap.size i vs).cell? x := fun x => rfl
  have hF2 : ∀ x, (((w.alloc (.cells ROW 33)).drew.setCells w.heap.size i vs).drew).frozen? x = ((w.drew.alloc (.cells ROW 33)).setCells w.heap.size i vs).frozen? x := fun x => rfl
  have hw1 : IntKind.i64.wrap ((i : Int) + (m : Int)) = (i : Int) + (m : Int) := by rw [IntKind.wrap_i64]; omega
  have hb1 : (0 : Int) ≤ (i : Int) + (m : Int) := by omega
  have hin : i ≤ n := by omega
  have htn : ((i : Int) + (m : Int)).toNat = i + m := by omega
  have hb3 : (i : Int) ≤ (n : Int) := by omega
  clear hkk hik hold hROW hG hRl
  go_enter Try.func29, Try.ntmps29
  go_wp2_with (first
    | (at_builtin; refine Lib.wpList_append_run _ rfl _ _ _ _ rfl _ _ rfl rfl _ _ (hrz _) ?_)
    | (at_builtin; refine wpList_copy_runI _ rfl _ _ 28 28 rfl _ _ rfl rfl (hcpA _ hE1 hE2 _ _) ?_)
    | (at_builtin; refine wpList_copy_runI _ rfl _ _ 28 28 rfl _ _ rfl rfl (hcpB _ (fun _ => rfl) (fun _ => rfl) _ _ _) ?_))
  go_region_law (refine step_copy_runI rfl _ _ 28 28 rfl (.slice (some ⟨w.heap.size, i + m, none⟩) (n + m - (i + m)) (G - (i + m))) (.slice (some ⟨b, off + i, none⟩) (n - i) (c - i)) (by simp [Act.eval, Act.put]) (by simp [Act.eval, Act.put]) (hcpB _ hF1 hF2 3 (G - (i + m)) (c - i)) ?_)
  go_wp2
  go_ret
  exact ⟨rfl, rfl⟩

end Go.Proofs.Qxb6602305a
