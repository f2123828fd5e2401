import Derived.Test.Qxb6612653aReads
namespace Go.Proofs.Qxb6612653a
open Go.RowKit
/-- n cells, the i-th F i. -/
def arrV (n : Nat) (F : Nat → Value) : Array Value := ((List.range n).map F).toArray
theorem arrV_get (n : Nat) (F : Nat → Value) (j : Nat) (h : j < n) : (arrV n F)[j]? = some (F j) := by simp [arrV, h]
theorem arrV_size (n : Nat) (F : Nat → Value) : (arrV n F).size = n := by simp [arrV]
theorem arrV_set (n : Nat) (F : Nat → Value) (j : Nat) (v : Value) : (arrV n F).setIfInBounds j v = arrV n (fun i => if i = j then v else F i) := by
  apply Array.ext_getElem?
  intro i
  rw [Array.getElem?_setIfInBounds]
  by_cases hij : j = i
  · subst hij
    by_cases hj : j < n
    · rw [arrV_size, if_pos rfl, if_pos hj, arrV_get n _ j hj, if_pos rfl]
    · rw [arrV_size, if_pos rfl, if_neg hj]
      symm; simp [arrV, hj]
  · rw [if_neg hij]
    by_cases hi : i < n
    · rw [arrV_get n _ i hi, arrV_get n _ i hi, if_neg (fun e => hij e.symm)]
    · simp [arrV, hi]
theorem arrV_congr (n : Nat) (F G : Nat → Value) (h : ∀ i, i < n → F i = G i) : arrV n F = arrV n G := by
  unfold arrV
  congr 1
  exact List.map_congr_left fun i hi => h i (by simpa using hi)
def rowV (k : IntKind) (n : Nat) (f : Nat → Int) : Array Value := arrV n (fun j => .int k (f j))
theorem made_arr (n : Nat) (z : Value) : madeCells #[z] (n * 1) = arrV n (fun _ => z) := by
  apply Array.ext'
  simp [madeCells, arrV, Nat.mod_one]
theorem info3 : (Try.prog.info? 3).map (fun i => (i.zero, i.size, i.bytes)) = some (some (.int .i64 0), 1, 8) := by kernel_rfl
theorem info21 : (Try.prog.info? 21).map (fun i => (i.zero, i.size, i.bytes)) = some (some (.int .i32 0), 1, 4) := by kernel_rfl
theorem info38 : (Try.prog.info? 38).map (fun i => (i.zero, i.size, i.bytes)) = some (some (.slice none 0 0), 1, 24) := by kernel_rfl
theorem make_at (t e : TypeId) (z : Value) (bytes n : Nat) (ht : Try.prog.underlying t = some (.slice e)) (hi : (Try.prog.info? e).map (fun i => (i.zero, i.size, i.bytes)) = some (some z, 1, bytes)) (hz : z.cells = #[z]) (hb : bytes ≤ 24) (hn : n ≤ 1048576) (w : World) :
    (Instr.makeSlice t (.int .i64 n) (.int .i64 n)).run Try.prog w = .ok (.slice (some ⟨w.heap.size, 0, none⟩) n n) (w.alloc (.cells (arrV n (fun _ => z)) e)) := by
  obtain ⟨i0, h1, h2, h3, h4⟩ := info_parts hi
  have hbn : (i0.bytes : Int) * n ≤ 281474976710656 := by
    rw [h4]
    have : bytes * n ≤ 24 * 1048576 := Nat.mul_le_mul hb hn
    have h5 : ((bytes * n : Nat) : Int) ≤ 25165824 := by omega
    rw [Int.natCast_mul] at h5
    omega
  rw [run_make w t e i0 z ht h1 h2 .i64 .i64 n n (by omega) (Int.le_refl _) hbn (by omega)]
  rw [h3, hz, Int.toNat_natCast, made_arr]
theorem make25 (n : Nat) (hn : n ≤ 1048576) (w : World) : (Instr.makeSlice 25 (.int .i64 n) (.int .i64 n)).run Try.prog w = .ok (.slice (some ⟨w.heap.size, 0, none⟩) n n) (w.alloc (.cells (rowV .i64 n (fun _ => 0)) 3)) := make_at 25 3 _ 8 n Try.underlying25 info3 rfl (by decide) hn w
theorem make38 (n : Nat) (hn : n ≤ 1048576) (w : World) : (Instr.makeSlice 38 (.int .i64 n) (.int .i64 n)).run Try.prog w = .ok (.slice (some ⟨w.heap.size, 0, none⟩) n n) (w.alloc (.cells (rowV .i32 n (fun _ => 0)) 21)) := make_at 38 21 _ 4 n Try.underlying38 info21 rfl (by decide) hn w
theorem make24 (n : Nat) (hn : n ≤ 1048576) (w : World) : (Instr.makeSlice 24 (.int .i64 n) (.int .i64 n)).run Try.prog w = .ok (.slice (some ⟨w.heap.size, 0, none⟩) n n) (w.alloc (.cells (arrV n (fun _ => .slice none 0 0)) 38)) := make_at 24 38 _ 24 n Try.underlying24 info38 rfl (by decide) hn w
theorem rowV_cell (w : World) (g : Nat) (k : IntKind) (n : Nat) (f : Nat → Int) (t : TypeId) (j : Nat) (hg : w.heap[g]? = some (.cells (rowV k n f) t (0, 0))) (hj : j < n) : w.cell? ⟨g, j, none⟩ = some (.int k (f j)) := by
  rw [cell_of_row w g j _ _ _ hg]; exact arrV_get n _ j hj
/-- The first q of f, the rest zero. -/
def upto (f : Nat → Int) (q : Nat) : Nat → Int := fun j => if j < q then f j else 0
theorem rowV_step (k : IntKind) (n : Nat) (f : Nat → Int) (q : Nat) : (rowV k n (upto f q)).setIfInBounds q (.int k (f q)) = rowV k n (upto f (q + 1)) := by
  unfold rowV
  rw [arrV_set]
  refine arrV_congr n _ _ fun i _ => ?_
  by_cases h : i = q
  · subst h; simp [upto]
  · rw [if_neg h]
    by_cases h2 : i < q
    · simp [upto, h2, show i < q + 1 by omega]
    · simp [upto, h2, show ¬ i < q + 1 by omega]
theorem rowV_zero (k : IntKind) (n : Nat) (f : Nat → Int) : rowV k n (upto f 0) = rowV k n (fun _ => 0) := arrV_congr n _ _ fun i _ => by simp [upto]
theorem rowV_full (k : IntKind) (n : Nat) (f : Nat → Int) : rowV k n (upto f n) = rowV k n f := arrV_congr n _ _ fun i hi => by simp [upto, hi]
set_option maxHeartbeats 1000000 in
theorem ints14 (a : Option Addr) (n c : Nat) (f : Nat → Int) (w : World) (rd : Rd .i64 w a n f) (hn : n ≤ 1048576) (hp : 0 < n) :
    Calls Try.prog 14 #[.slice a n c] w fun e w' => e = .returned (.slice (some ⟨w.heap.size, 0, none⟩) n n) ∧ w'.heap.size = w.heap.size + 1 ∧ Below w.heap.size w w' := by
  rcases rd with h | ⟨b, off, rfl, hbl, hc⟩
  · omega
  have HC : Hid _ := hc
  clear hc
  have hmk := make25 n hn
  have heq := fun (w : World) (a : Addr) (l c : Nat) => Lib.run_eql_slice_nil (P := Try.prog) w 25 3 (some a) l c 0 0 Try.underlying25
  go_enter Try.func14, Try.ntmps14
  go_wp2
  go_loopw [4] (fun i wr => ∃ k : Nat, k ≤ n ∧ i = .int .i64 k ∧ wr.heap[w.heap.size]? = some (.cells (rowV .i64 n (upto f k)) 3 (0, 0)) ∧ Below w.heap.size w wr ∧ wr.heap.size = w.heap.size + 1) (fun i _ => n - (intOf i).toNat)
  case atStart => exact ⟨0, Nat.zero_le _, rfl, by rw [rowV_zero]; exact heap_alloc_new _ _, (Below.refl _ _).alloc (Nat.le_refl _) _, by simp⟩
  case round =>
    obtain ⟨k, hk, rfl, ha, hb, hs⟩ := hrel
    by_cases hlt : k < n
    · have c1 := rowV_cell wr _ _ _ _ _ k ha hlt
      have f1 := frozen_of_row wr _ k _ _ ha
      have c2 := (hb.cell (p := ⟨b, off + k, none⟩) hbl).trans (HC.out k hlt)
      have Ha : Hid _ := ha
      clear ha
      go_wp2
      go_roundw
      case rel =>
        refine ⟨k + 1, by omega, by go_num, ?_, hb.setCell (by simp) _, by simp [hs]⟩
        refine (heap_setCell_same wr _ _ _ 3 _ Ha.out).trans ?_
        rw [rowV_step]
      case measure => simp [intOf]; omega
    · clear ha
      go_wp2
      go_ret
      exact ⟨rfl, hs, hb⟩
end Go.Proofs.Qxb6612653a
