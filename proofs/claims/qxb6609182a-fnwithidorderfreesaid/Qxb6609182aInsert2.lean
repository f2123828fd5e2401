/-
  THE WALKS of slices.Insert at []NodeID ahead of the end: in place where there is room, in a new row where there is none. After the kit's walks at []int (Derived/Shelf/Spec/SlicesInsert.lean, SlicesInsertGrow.lean), turned to this program's numbers, at one value.
-/
import Derived.Test.Qxb6609182aInsert
set_option linter.unusedVariables false
set_option linter.unusedSimpArgs false
namespace Go.Proofs.Qxb6609182a
open Go.RowKit Go.Lib
set_option maxHeartbeats 4000000 in
set_option maxRecDepth 100000 in
/-- There is room and p < n: in place. -/
theorem insert13_shift (B b n c p vb : Nat) (cur : Array Value) (f : Nat → Int) (id : Int) (w : World) (hi : p < n) (hn : n ≤ 1048578) (hroom : n + 1 ≤ c) (hc63 : c ≤ maxLen) (hvb : vb ≠ b) (hB : B ≤ b)
    (hb : w.heap[b]? = some (.cells cur 29 (0, 0))) (hcur : cur.size = c) (hcs : ∀ j, j < n → cur[j]? = some (.int .u64 (f j))) (hv : w.heap[vb]? = some (.cells #[.int .u64 id] 29 (0, 0))) :
    Calls Try.prog 13 #[.slice (some ⟨b, 0, none⟩) n c, .int .i64 p, .slice (some ⟨vb, 0, none⟩) 1 1] w fun e w' => GivesR B (n + 1) (ins f p id) w e w' := by
  unfold maxLen at hc63
  have hcell : ∀ j, j < n → w.cell? ⟨b, j, none⟩ = some (.int .u64 (f j)) := fun j hj => by rw [cell_of_row w b j _ _ _ hb]; exact hcs j hj
  have hsp : ∀ j, j < n + 1 → (w.cell? ⟨b, j, none⟩).isSome = true := fun j hj => by rw [cell_of_row w b j _ _ _ hb, Array.getElem?_eq_getElem (by omega)]; rfl
  have hfz : ∀ j, w.frozen? ⟨b, j, none⟩ = false := fun j => frozen_of_row w b j _ _ hb
  have hvc : w.cell? ⟨vb, 0, none⟩ = some (.int .u64 id) := by rw [cell_of_row w vb 0 _ _ _ hv]; rfl
  have hz2 : ((p : Int) == (n : Int)) = false := by simp; omega
  have hsz : (Try.prog.info? 29).map (·.size) = some 1 := by
    obtain ⟨i0, hi0, h0, h1, h2⟩ := info_parts info29
    rw [hi0]; simp [h1]
  have hsa : w.shape? vb = some (29, 1) := by simp [World.shape?, hv]
  have hsb : w.shape? b = some (29, c) := by simp [World.shape?, hb, hcur]
  have hov : ∀ lb cb, (callFunc 17 #[.slice (some ⟨vb, 0, none⟩) 1 1, .slice (some ⟨b, p + 1, none⟩) lb cb]).run Try.prog w = .ok (.value (.bool false)) w := fun lb cb => by
    rw [run_callFunc_extern Try.func17 (by kernel_rfl) (by kernel_rfl) (by kernel_rfl) (e := Extern.SlicesOverlaps.overlaps #[26, 26] #[4]) (by kernel_rfl),
      Lib.run_overlaps_apart w 26 4 29 Try.underlying26 1 Try.sizeOf29 ⟨vb, 0, none⟩ ⟨b, p + 1, none⟩ 1 1 lb cb hvb 29 29 1 c hsa hsb (by omega) (frozen_of_row w vb 0 _ _ hv) (frozen_of_row w vb 1 _ _ hv)]
    rfl
  have hdl : ((cs f n).drop p).length = n - p := by rw [List.length_drop, cs_len]
  have hcp1 : ∀ ty dc sc, (Builtin.copy_ #[26, 26] ty #[.slice (some ⟨b, p + 1, none⟩) (n - p) dc, .slice (some ⟨b, p, none⟩) (n + 1 - p) sc]).run Try.prog w.drew = .ok (goInt ((cs f n).drop p).length) (w.drew.setCells b (p + 1) ((cs f n).drop p)) := fun ty dc sc =>
    run_copy_cells w.drew _ _ ty 29 b (p + 1) (n - p) dc ⟨b, p, none⟩ (n + 1 - p) sc ((cs f n).drop p) Try.underlying26 hsz (by rw [hdl]; simp only [Nat.min_def]; split <;> omega)
      (fun j v hj => by
        rw [Addr.add_lit]
        rw [List.getElem?_drop] at hj
        obtain ⟨h1, rfl⟩ := cs_some f n (p + j) v hj
        exact hcell (p + j) h1)
      (fun j hj => hsp _ (by omega)) (fun j hj => hfz _) (fun v hv => cs_one f n v (List.mem_of_mem_drop hv))
  obtain ⟨W1, hW1⟩ : ∃ W1, W1 = w.drew.setCells b (p + 1) ((cs f n).drop p) := ⟨_, rfl⟩
  have hsp1 : ∀ k, k < n + 1 → (W1.cell? ⟨b, k, none⟩).isSome = true := fun k hk => by
    rw [hW1]
    exact isSome_setCells b ((cs f n).drop p) (p + 1) w.drew (fun j hj => hsp (p + 1 + j) (by omega)) k (hsp k hk)
  have hcp2 : ∀ (W : World), (∀ x, W.cell? x = W1.cell? x) → (∀ x, W.frozen? x = W1.frozen? x) → ∀ ty dc, (Builtin.copy_ #[26, 26] ty #[.slice (some ⟨b, p, none⟩) (n + 1 - p) dc, .slice (some ⟨vb, 0, none⟩) 1 1]).run Try.prog W = .ok (goInt [Value.int .u64 id].length) (W.setCells b p [.int .u64 id]) := fun W hWc hWf ty dc =>
    run_copy_cells W _ _ ty 29 b p (n + 1 - p) dc ⟨vb, 0, none⟩ 1 1 [.int .u64 id] Try.underlying26 hsz (by simp only [Nat.min_def]; split <;> simp <;> omega)
      (fun j v hj => by
        rw [Addr.add_lit, hWc, hW1, World.cell?_setCells_out b _ _ _ _ (fun h _ => absurd h hvb)]
        cases j with
        | zero => simp at hj; subst hj; exact hvc
        | succ j => simp at hj)
      (fun j hj => by rw [hWc]; exact hsp1 _ (by simp at hj; omega)) (fun j hj => by rw [hWf, hW1, World.frozen?_setCells]; exact hfz _) (by intro u hu; simp at hu; subst hu; rfl)
  have fin : Hid (∀ W : World, (∀ x, W.cell? x = W1.cell? x) → (W.heap.size = W1.heap.size) → Below B w W → GivesR B (n + 1) (ins f p id) w (.returned (.slice (some ⟨b, 0, none⟩) (n + 1) c)) (W.setCells b p [.int .u64 id])) := by
    show ∀ W : World, (∀ x, W.cell? x = W1.cell? x) → (W.heap.size = W1.heap.size) → Below B w W → GivesR B (n + 1) (ins f p id) w (.returned (.slice (some ⟨b, 0, none⟩) (n + 1) c)) (W.setCells b p [.int .u64 id])
    intro W hWc hWs hbel
    have hbl : b < w.heap.size := (Array.getElem?_eq_some_iff.1 hb).1
    refine ⟨b, c, rfl, .inr ⟨b, 0, rfl, ?_, fun j hj => ?_⟩, below_setCells hB _ _ _ hbel⟩
    · exact Nat.lt_of_lt_of_le hbl ((below_setCells (B := 0) (a := w) (Nat.zero_le b) _ p W (hbel.mono (Nat.zero_le _))).size)
    · rw [Nat.zero_add]
      by_cases h1 : j = p
      · subst h1
        have := World.cell?_setCells_in b [.int .u64 id] j W (fun k hk => by rw [hWc]; exact hsp1 _ (by simp at hk; omega)) 0 (by simp)
        rw [Nat.add_zero] at this
        rw [this]
        simp [ins]
      · rw [World.cell?_setCells_out b _ _ _ _ (fun _ _ => by show j < p ∨ p + 1 ≤ j; omega), hWc, hW1]
        by_cases h2 : j < p
        · rw [World.cell?_setCells_out b _ _ _ _ (fun _ _ => by show j < p + 1 ∨ _; omega)]
          have := hcell j (by omega)
          simpa [ins, h2] using this
        · obtain ⟨k, rfl⟩ : ∃ k, j = p + 1 + k := ⟨j - (p + 1), by omega⟩
          rw [World.cell?_setCells_in b ((cs f n).drop p) (p + 1) w.drew (fun k hk => hsp _ (by omega)) k (by omega)]
          have e : ins f p id (p + 1 + k) = f (p + k) := by
            unfold ins
            rw [if_neg (by omega), if_neg (by omega)]
            congr 1
            omega
          rw [e]
          simp [cs]
  have hbel1 : Below B w W1 := by rw [hW1]; exact below_setCells hB _ _ _ (Below.refl _ _).drew
  rw [← hW1] at hcp1
  have HBEL : Hid (Below B w W1) := hbel1
  clear hb hcs hv hcell hsp hfz hvc hsa hsb hsp1 hbel1 hdl hW1
  have mixed : Try.prog.follows .mixedOrders = true := by kernel_rfl
  have hw1 : IntKind.i64.wrap ((p : Int) + 1) = (p : Int) + 1 := by rw [IntKind.wrap_i64]; omega
  have hb1 : (0 : Int) ≤ (p : Int) + 1 := by omega
  have hin : p ≤ n := by omega
  have htn : ((p : Int) + 1).toNat = p + 1 := by omega
  have hb2 : ¬ (c = p + 1) := by omega
  have hb3 : (p : Int) ≤ (n : Int) + 1 := by omega
  have hb4 : ¬ (c = p) := by omega
  go_enter Try.func13, Try.ntmps13
  go_wp2_with (simp only [hov])
  go_region_law_o (refine step_copy_runI rfl _ _ 26 26 rfl _ _ (by simp [Act.eval, Act.put]) (by simp [Act.eval, Act.put]) (hcp1 _ _ _) ?_)
  go_wp2_with (at_builtin; refine wpList_copy_runI _ rfl _ _ 26 26 rfl _ _ rfl rfl (hcp2 _ (fun _ => rfl) (fun _ => rfl) _ _) ?_)
  go_ret
  exact fin.out W1 (fun _ => rfl) rfl HBEL.out
set_option maxHeartbeats 4000000 in
set_option maxRecDepth 100000 in
/-- No room and p < n: a new row. -/
theorem insert13_grow (B b n p vb : Nat) (f : Nat → Int) (id : Int) (w : World) (hi : p < n) (hn : n ≤ 1048578) (hB : B ≤ w.heap.size) (hcs : ∀ j, j < n → w.cell? ⟨b, j, none⟩ = some (.int .u64 (f j))) (hv : w.cell? ⟨vb, 0, none⟩ = some (.int .u64 id)) :
    Calls Try.prog 13 #[.slice (some ⟨b, 0, none⟩) n n, .int .i64 p, .slice (some ⟨vb, 0, none⟩) 1 1] w fun e w' => GivesR B (n + 1) (ins f p id) w e w' := by
  have mixed : Try.prog.follows .mixedOrders = true := by kernel_rfl
  obtain ⟨i0, hi0, hz0, hzs, hzb⟩ := info_parts info29
  have hz2 : ((p : Int) == (n : Int)) = false := by simp; omega
  have hsz : (Try.prog.info? 29).map (·.size) = some 1 := by rw [hi0]; simp [hzs]
  have hbw : b < w.heap.size := block_lt_of_cell (hcs p hi)
  have hvw : vb < w.heap.size := block_lt_of_cell hv
  have hkk : (n : Int) + 1 - (p : Int) = ((n + 1 - p : Nat) : Int) := by omega
  have hik : p + (n + 1 - p) = n + 1 := by omega
  have htl : ((cs f n).take p).length = p := by rw [List.length_take, cs_len]; omega
  have hold : (Builtin.firstCells i0.size p (.slice (some ⟨b, 0, none⟩) p n)).run Try.prog w.drew = .ok ((cs f n).take p).toArray w.drew := by
    rw [hzs]
    exact run_firstCells_some w.drew 1 p ⟨b, 0, none⟩ p n ((cs f n).take p) (by rw [htl]; omega) (fun j v hj => by
      rw [Addr.add_lit]
      rw [List.getElem?_take] at hj
      split at hj
      · obtain ⟨h1, rfl⟩ := cs_some f n j v hj
        rw [Nat.zero_add]
        exact hcs j h1
      · cases hj)
  obtain ⟨G, hG⟩ : ∃ G, G = grownCap w (n + 1) n 29 := ⟨_, rfl⟩
  obtain ⟨ROW, hROW⟩ : ∃ ROW : Array Value, ROW = ((cs f n).take p).toArray ++ Builtin.zeroCells (Value.int .u64 0).cells (n + 1 - p) ++ Builtin.zeroCells (Value.int .u64 0).cells (G - (n + 1)) := ⟨_, rfl⟩
  have hrz : ∀ ty, (Builtin.append_ #[26, 3] ty #[.slice (some ⟨b, 0, none⟩) p n, .int .i64 ((n : Int) + 1 - (p : Int))]).run Try.prog w =
      .ok (.slice (some ⟨w.heap.size, 0, none⟩) (n + 1) G) (w.drew.alloc (.cells ROW 29)) := fun ty => by
    have h := Lib.run_append_grow_zeros w 26 3 ty 29 i0 _ .i64 .i64 Try.underlying26 Try.underlying3 hi0 hz0 (some ⟨b, 0, none⟩) p n ((cs f n).take p) hold (n + 1 - p) (by omega) (by omega) (by omega) (by omega) (by rw [hzb]; omega) (by rw [hzb, hik]; exact growslice_fits (by omega) (by omega))
    rw [hik] at h
    rw [hkk, hROW, hG]
    exact h
  have hRl : n + 1 ≤ ROW.size := by
    rw [hROW]
    simp [Builtin.zeroCells, Value.cells, htl]
    omega
  have hRp : ∀ j, j < p → ROW[j]? = some (.int .u64 (f j)) := fun j hj => by
    rw [hROW, Array.append_assoc, Array.getElem?_append_left (by simp [htl, cs_len]; omega)]
    simp only [List.getElem?_toArray, List.getElem?_take, if_pos hj]
    exact cs_get f n j (by omega)
  obtain ⟨W1, hW1⟩ : ∃ W1, W1 = w.drew.alloc (.cells ROW 29) := ⟨_, rfl⟩
  rw [← hW1] at hrz
  have hN : ∀ j, j < n + 1 → (W1.cell? ⟨w.heap.size, j, none⟩).isSome = true := fun j hj => by
    rw [hW1, World.cell?_alloc_at (w := w.drew) ROW _ w.heap.size j rfl, Array.getElem?_eq_getElem (by omega)]; rfl
  have hNp : ∀ j, j < p → W1.cell? ⟨w.heap.size, j, none⟩ = some (.int .u64 (f j)) := fun j hj => by
    rw [hW1, World.cell?_alloc_at (w := w.drew) ROW _ w.heap.size j rfl]; exact hRp j hj
  have hNf : ∀ j, W1.frozen? ⟨w.heap.size, j, none⟩ = false := fun j => by rw [hW1]; exact World.frozen?_alloc_at (w := w.drew) ROW _ w.heap.size j rfl
  have hOb : ∀ j v, w.cell? ⟨b, j, none⟩ = some v → W1.cell? ⟨b, j, none⟩ = some v := fun j v h => by rw [hW1, World.cell?_alloc_past (w := w.drew) _ b j hbw]; exact h
  have hOv : W1.cell? ⟨vb, 0, none⟩ = some (.int .u64 id) := by rw [hW1, World.cell?_alloc_past (w := w.drew) _ vb 0 hvw]; exact hv
  have hcpA : ∀ (W : World), (∀ x, W.cell? x = W1.cell? x) → (∀ x, W.frozen? x = W1.frozen? x) → ∀ ty dc, (Builtin.copy_ #[26, 26] ty #[.slice (some ⟨w.heap.size, p, none⟩) (n + 1 - p) dc, .slice (some ⟨vb, 0, none⟩) 1 1]).run Try.prog W = .ok (goInt [Value.int .u64 id].length) (W.setCells w.heap.size p [.int .u64 id]) := fun W hWc hWf ty dc =>
    run_copy_cells W _ _ ty 29 w.heap.size p (n + 1 - p) dc ⟨vb, 0, none⟩ 1 1 [.int .u64 id] Try.underlying26 hsz (by simp only [Nat.min_def]; split <;> simp <;> omega)
      (fun j v hj => by
        rw [Addr.add_lit, hWc]
        cases j with
        | zero => simp at hj; subst hj; exact hOv
        | succ j => simp at hj)
      (fun j hj => by rw [hWc]; exact hN _ (by simp at hj; omega)) (fun j hj => by rw [hWf]; exact hNf _) (by intro u hu; simp at hu; subst hu; rfl)
  have hGn : n + 1 ≤ G := by rw [hG]; exact grownCap_ge w _ _ _
  have hG63 : G ≤ 9223372036854775807 := by
    have := grownCap_le_maxLen w (n + 1) n 29 (by unfold maxLen; omega)
    rw [← hG] at this
    unfold maxLen at this
    omega
  have hGi : ¬ (G = p) := by omega
  have hGim : ¬ (G = p + 1) := by omega
  have hci : ¬ (n = p) := by omega
  have hbN : b ≠ w.heap.size := by omega
  have hdl : ((cs f n).drop p).length = n - p := by rw [List.length_drop, cs_len]
  have hsA : ∀ k, k < n + 1 → ((W1.setCells w.heap.size p [.int .u64 id]).cell? ⟨w.heap.size, k, none⟩).isSome = true := fun k hk =>
    isSome_setCells w.heap.size [.int .u64 id] p W1 (fun t ht => hN (p + t) (by simp at ht; omega)) k (hN k hk)
  have hcpB : ∀ (W : World), (∀ x, W.cell? x = (W1.setCells w.heap.size p [.int .u64 id]).cell? x) → (∀ x, W.frozen? x = (W1.setCells w.heap.size p [.int .u64 id]).frozen? x) → ∀ ty dc sc, (Builtin.copy_ #[26, 26] ty #[.slice (some ⟨w.heap.size, p + 1, none⟩) (n - p) dc, .slice (some ⟨b, p, none⟩) (n - p) sc]).run Try.prog W = .ok (goInt ((cs f n).drop p).length) (W.setCells w.heap.size (p + 1) ((cs f n).drop p)) := fun W hWc hWf ty dc sc =>
    run_copy_cells W _ _ ty 29 w.heap.size (p + 1) (n - p) dc ⟨b, p, none⟩ (n - p) sc ((cs f n).drop p) Try.underlying26 hsz (by rw [hdl]; simp only [Nat.min_def]; split <;> omega)
      (fun j v hj => by
        rw [Addr.add_lit, hWc, World.cell?_setCells_out _ _ _ _ _ (fun h _ => absurd h hbN)]
        rw [List.getElem?_drop] at hj
        obtain ⟨h1, rfl⟩ := cs_some f n (p + j) v hj
        exact hOb _ _ (hcs (p + j) h1))
      (fun j hj => by rw [hWc]; exact hsA (p + 1 + j) (by omega))
      (fun j hj => by rw [hWf, World.frozen?_setCells]; exact hNf _) (fun v hv => cs_one f n v (List.mem_of_mem_drop hv))
  have fin : Hid (∀ W : World, (∀ x, W.cell? x = (W1.setCells w.heap.size p [.int .u64 id]).cell? x) → Below B w W → w.heap.size < W.heap.size → GivesR B (n + 1) (ins f p id) w (.returned (.slice (some ⟨w.heap.size, 0, none⟩) (n + 1) G)) (W.setCells w.heap.size (p + 1) ((cs f n).drop p))) := by
    show ∀ W : World, (∀ x, W.cell? x = (W1.setCells w.heap.size p [.int .u64 id]).cell? x) → Below B w W → w.heap.size < W.heap.size → GivesR B (n + 1) (ins f p id) w (.returned (.slice (some ⟨w.heap.size, 0, none⟩) (n + 1) G)) (W.setCells w.heap.size (p + 1) ((cs f n).drop p))
    intro W hWc hbel hsW
    refine ⟨w.heap.size, G, rfl, .inr ⟨w.heap.size, 0, rfl, ?_, fun j hj => ?_⟩, below_setCells hB _ _ _ hbel⟩
    · exact Nat.lt_of_lt_of_le hsW (below_setCells (B := 0) (a := W) (Nat.zero_le _) _ (p + 1) W (Below.refl _ _)).size
    · rw [Nat.zero_add]
      by_cases h3 : p < j
      · obtain ⟨k, rfl⟩ : ∃ k, j = p + 1 + k := ⟨j - (p + 1), by omega⟩
        rw [World.cell?_setCells_in w.heap.size ((cs f n).drop p) (p + 1) W (fun k hk => by rw [hWc]; exact hsA (p + 1 + k) (by omega)) k (by omega)]
        have e : ins f p id (p + 1 + k) = f (p + k) := by
          unfold ins
          rw [if_neg (by omega), if_neg (by omega)]
          congr 1
          omega
        rw [e]
        simp [cs]
      · rw [World.cell?_setCells_out _ _ _ _ _ (fun _ _ => by show j < p + 1 ∨ _; omega), hWc]
        by_cases h1 : j = p
        · subst h1
          have := World.cell?_setCells_in w.heap.size [.int .u64 id] j W1 (fun k hk => hN (j + k) (by simp at hk; omega)) 0 (by simp)
          rw [Nat.add_zero] at this
          rw [this]
          simp [ins]
        · rw [World.cell?_setCells_out _ _ _ _ _ (fun _ _ => by show j < p ∨ _; omega), hNp j (by omega)]
          simp [ins, show j < p by omega]
  subst hW1
  have hE1 : ∀ x, ((w.alloc (.cells ROW 29)).drew).cell? x = (w.drew.alloc (.cells ROW 29)).cell? x := fun x => rfl
  have hE2 : ∀ x, ((w.alloc (.cells ROW 29)).drew).frozen? x = (w.drew.alloc (.cells ROW 29)).frozen? x := fun x => rfl
  have hF1 : ∀ x, (((w.alloc (.cells ROW 29)).drew.setCells w.heap.size p [.int .u64 id]).drew).cell? x = ((w.drew.alloc (.cells ROW 29)).setCells w.heap.size p [.int .u64 id]).cell? x := fun x => rfl
  have hF2 : ∀ x, (((w.alloc (.cells ROW 29)).drew.setCells w.heap.size p [.int .u64 id]).drew).frozen? x = ((w.drew.alloc (.cells ROW 29)).setCells w.heap.size p [.int .u64 id]).frozen? x := fun x => rfl
  have FIN : Hid (GivesR B (n + 1) (ins f p id) w (.returned (.slice (some ⟨w.heap.size, 0, none⟩) (n + 1) G)) ((((w.alloc (.cells ROW 29)).drew.setCells w.heap.size p [.int .u64 id]).drew).setCells w.heap.size (p + 1) ((cs f n).drop p))) :=
    fin.out _ hF1 (below_setCells hB _ _ _ ((Below.refl _ _).alloc hB _).drew).drew (Nat.lt_of_lt_of_le (by simp) (below_setCells (B := 0) (a := (w.alloc (.cells ROW 29)).drew) (Nat.zero_le _) _ p _ (Below.refl _ _)).size)
  have hw1 : IntKind.i64.wrap ((p : Int) + 1) = (p : Int) + 1 := by rw [IntKind.wrap_i64]; omega
  have hb1 : (0 : Int) ≤ (p : Int) + 1 := by omega
  have hin : p ≤ n := by omega
  have htn : ((p : Int) + 1).toNat = p + 1 := by omega
  have hb3 : (p : Int) ≤ (n : Int) := by omega
  clear hkk hik hold hROW hG hRl hRp hcs hv hN hNp hNf hOb hOv hsA fin htl
  go_enter Try.func13, Try.ntmps13
  go_wp2_with (first
    | (at_builtin; refine Lib.wpList_append_run _ rfl _ _ _ _ rfl _ _ rfl rfl _ _ (hrz _) ?_)
    | (at_builtin; refine wpList_copy_runI _ rfl _ _ 26 26 rfl _ _ rfl rfl (hcpA _ hE1 hE2 _ _) ?_)
    | (at_builtin; refine wpList_copy_runI _ rfl _ _ 26 26 rfl _ _ rfl rfl (hcpB _ (fun _ => rfl) (fun _ => rfl) _ _ _) ?_))
  go_region_law_o (refine step_copy_runI rfl _ _ 26 26 rfl (.slice (some ⟨w.heap.size, p + 1, none⟩) (n - p) (G - (p + 1))) (.slice (some ⟨b, p, none⟩) (n - p) (n - p)) (by simp [Act.eval, Act.put]) (by simp [Act.eval, Act.put]) (hcpB _ hF1 hF2 3 (G - (p + 1)) (n - p)) ?_)
  go_wp2
  go_ret
  exact FIN.out
end Go.Proofs.Qxb6609182a
