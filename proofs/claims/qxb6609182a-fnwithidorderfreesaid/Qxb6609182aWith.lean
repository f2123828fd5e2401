/-
  THE WALKS of lawNodeIDs and withID.
-/
import Derived.Test.Qxb6609182aInsert2
namespace Go.Proofs.Qxb6609182a
open Go.RowKit
theorem insert13 (B n vb p : Nat) (v : Value) (f : Nat → Int) (id : Int) (w : World) (hp : p ≤ n) (hn : n ≤ 1048578) (hB : B ≤ w.heap.size) (own : w.ownsRow B 29 1 v n (cs f n)) (hv : w.heap[vb]? = some (.cells #[.int .u64 id] 29 (0, 0))) (hne : v.ownBlock ≠ some vb) :
    Calls Try.prog 13 #[v, .int .i64 p, .slice (some ⟨vb, 0, none⟩) 1 1] w fun e w' => GivesR B (n + 1) (ins f p id) w e w' := by
  have hvc : w.cell? ⟨vb, 0, none⟩ = some (.int .u64 id) := by rw [cell_of_row w vb 0 _ _ _ hv]; rfl
  by_cases hpn : p = n
  · subst hpn
    exact insert13_end B p vb v f id w hn hB own hvc
  · rcases own.2 with ⟨_, h0⟩ | ⟨g, cap, cur, rfl, hbg, hgc, hnc, hcm, hsz, htk⟩
    · omega
    · have hcur : ∀ j, j < n → cur[j]? = some (.int .u64 (f j)) := fun j hj => by
        have h1 := own.cellAt j (by omega)
        rw [cs_get f n j hj, cell_of_row w g j _ _ _ hgc] at h1
        exact h1
      by_cases hroom : n + 1 ≤ cap
      · exact insert13_shift B g n cap p vb cur f id w (by omega) hn hroom hcm (fun h => hne (by rw [h]; rfl)) hbg hgc (by omega) hcur hv
      · obtain rfl : cap = n := by omega
        exact insert13_grow B g cap p vb f id w (by omega) hn hB (fun j hj => by rw [cell_of_row w g j _ _ _ hgc]; exact hcur j hj) hvc
/-- What withID hands back: the elements with id put where the search says. -/
def GivesW (f : Nat → Int) (n : Nat) (id : Int) (w : World) (e : Ending) (w' : World) : Prop := ∃ p, Found f n id p ∧ GivesR w.heap.size (n + 1) (ins f p id) w e w'
set_option maxHeartbeats 1000000 in
theorem with11 (a : Option Addr) (n c : Nat) (f : Nat → Int) (id : Int) (w : World) (rd : Rd .u64 w a n f) (hn : n ≤ 1048577) :
    Calls Try.prog 11 #[.slice a n c, .int .u64 id] w fun e w' => GivesW f n id w e w' := by
  have RD : Hid (Rd .u64 w a n f) := rd
  clear rd
  go_enter Try.func11, Try.ntmps11
  go_wp2_with fail
  refine (search12 a n c f id w RD.out (by omega)).mono ?_
  rintro _ w1 ⟨p, b, hf, rfl, rfl⟩
  have HF : Hid (Found f n id p) := hf
  clear hf
  go_wp2_with fail
  refine (clone14 a n c f w RD.out (by omega)).mono ?_
  rintro _ w1 ⟨v', rfl, own, bel⟩
  have OWN : Hid (w1.ownsRow w.heap.size 29 1 v' n (cs f n)) := own
  have BEL : Hid (Below w.heap.size w w1) := bel
  clear own bel
  go_wp2_with fail
  refine (insert13 w.heap.size n w1.heap.size p v' f id _ HF.out.1 (by omega) (by have := BEL.out.size; simp; omega) (OWN.out.alloc _) (heap_alloc_new _ _) (fun h => by have := (OWN.out.lt _ h).2; omega)).mono ?_
  rintro _ w2 ⟨g, cap, rfl, hrd, hb⟩
  have HRD : Hid _ := hrd
  have HB : Hid (Below w.heap.size w w2) := (BEL.out.alloc BEL.out.size _).trans hb
  clear hrd hb
  go_wp2
  go_ret
  exact ⟨p, HF.out, g, cap, rfl, HRD.out, HB.out⟩
set_option maxHeartbeats 1000000 in
theorem with8 (a : Option Addr) (n c : Nat) (f : Nat → Int) (id : Int) (w : World) (rd : Rd .u64 w a n f) (hn : n ≤ 1048577) :
    Calls Try.prog 8 #[.slice a n c, .int .u64 id] w fun e w' => GivesW f n id w e w' := by
  have RD : Hid (Rd .u64 w a n f) := rd
  clear rd
  go_enter Try.func8, Try.ntmps8
  go_wp2_with fail
  refine (with11 a n c f id w RD.out hn).mono ?_
  rintro _ w2 ⟨p, hf, g, cap, rfl, hrd, hb⟩
  have HRD : Hid _ := hrd
  have HB : Hid _ := hb
  have HF : Hid (Found f n id p) := hf
  clear hrd hb hf
  go_wp2
  go_ret
  exact ⟨p, HF.out, g, cap, rfl, HRD.out, HB.out⟩
def arrV (n : Nat) (F : Nat → Value) : Array Value := ((List.range n).map F).toArray
theorem arrV_get (n : Nat) (F : Nat → Value) (j : Nat) (h : j < n) : (arrV n F)[j]? = some (F j) := by simp [arrV, h]
theorem arrV_size (n : Nat) (F : Nat → Value) : (arrV n F).size = n := by simp [arrV]
theorem arrV_set (n : Nat) (F : Nat → Value) (j : Nat) (v : Value) : (arrV n F).setIfInBounds j v = arrV n (fun i => if i = j then v else F i) := by
  apply Array.ext_getElem?
  intro i
  rw [Array.getElem?_setIfInBounds]
  by_cases hij : j = i
  · subst hij
    by_cases hj : j < n
    · rw [arrV_size, if_pos rfl, if_pos hj, arrV_get n _ j hj, if_pos rfl]
    · rw [arrV_size, if_pos rfl, if_neg hj]
      symm; simp [arrV, hj]
  · rw [if_neg hij]
    by_cases hi : i < n
    · rw [arrV_get n _ i hi, arrV_get n _ i hi, if_neg (fun e => hij e.symm)]
    · simp [arrV, hi]
theorem arrV_congr (n : Nat) (F G : Nat → Value) (h : ∀ i, i < n → F i = G i) : arrV n F = arrV n G := by
  unfold arrV
  congr 1
  exact List.map_congr_left fun i hi => h i (by simpa using hi)
theorem made_arr (n : Nat) (z : Value) : madeCells #[z] (n * 1) = arrV n (fun _ => z) := by
  apply Array.ext'
  simp [madeCells, arrV, Nat.mod_one]
theorem make26 (n : Nat) (hn : n ≤ 1048576) (w : World) : (Instr.makeSlice 26 (.int .i64 n) (.int .i64 n)).run Try.prog w = .ok (.slice (some ⟨w.heap.size, 0, none⟩) n n) (w.alloc (.cells (arrV n (fun _ => .int .u64 0)) 29)) := by
  obtain ⟨i0, h1, h2, h3, h4⟩ := info_parts info29
  rw [run_make w 26 29 i0 _ Try.underlying26 h1 h2 .i64 .i64 n n (by omega) (Int.le_refl _) (by rw [h4]; omega) (by omega)]
  rw [h3, Int.toNat_natCast, ← made_arr]
  rfl
/-- The first q of f, the rest zero. -/
def upto (f : Nat → Int) (q : Nat) : Nat → Value := fun j => .int .u64 (if j < q then f j else 0)
theorem upto_step (n : Nat) (f : Nat → Int) (q : Nat) : (arrV n (upto f q)).setIfInBounds q (.int .u64 (f q)) = arrV n (upto f (q + 1)) := by
  rw [arrV_set]
  refine arrV_congr n _ _ fun i _ => ?_
  by_cases h : i = q
  · subst h; simp [upto]
  · rw [if_neg h]
    by_cases h2 : i < q
    · simp [upto, h2, show i < q + 1 by omega]
    · simp [upto, h2, show ¬ i < q + 1 by omega]
/-- What lawNodeIDs hands back: the same numbers. -/
def GivesN (f : Nat → Int) (n : Nat) (w : World) (e : Ending) (w' : World) : Prop := ∃ a c, e = .returned (.slice a n c) ∧ Rd .u64 w' a n f ∧ Below w.heap.size w w'
set_option maxHeartbeats 1000000 in
theorem ids7 (a : Option Addr) (n c : Nat) (f : Nat → Int) (w : World) (rd : Rd .u64 w a n f) (hn : n ≤ 1048576) :
    Calls Try.prog 7 #[.slice a n c] w fun e w' => GivesN f n w e w' := by
  have hq : ∀ (w : World) (a : Option Addr) (n c n' c' : Nat), (binOp .eql 22 (.slice a n c) (.slice none n' c')).run Try.prog w = .ok (.bool a.isNone) w := fun w a n c n' c' => Lib.run_eql_slice_nil w _ _ a n c n' c' Try.underlying22
  cases a with
  | none =>
    have h0 : n = 0 := by
      rcases rd with h | ⟨b, off, hab, _⟩
      · exact h
      · cases hab
    subst h0
    clear rd
    go_enter Try.func7, Try.ntmps7
    go_wp2
    go_ret
    exact ⟨none, 0, rfl, .inl rfl, Below.refl _ _⟩
  | some a =>
    have RD : Hid (Rd .u64 w (some a) n f) := rd
    have hmk := make26 n hn
    clear rd
    go_enter Try.func7, Try.ntmps7
    go_wp2
    go_loopw [4] (fun i wr => ∃ k : Nat, k ≤ n ∧ i = .int .i64 k ∧ wr.heap[w.heap.size]? = some (.cells (arrV n (upto f k)) 29 (0, 0)) ∧ Below w.heap.size w wr) (fun i _ => n - (intOf i).toNat)
    case atStart => exact ⟨0, Nat.zero_le _, rfl, by rw [arrV_congr n (upto f 0) (fun _ => .int .u64 0) (fun i _ => by simp [upto])]; exact heap_alloc_new _ _, (Below.refl _ _).alloc (Nat.le_refl _) _⟩
    case round =>
      obtain ⟨k, hk, rfl, ha, hb⟩ := hrel
      by_cases hlt : k < n
      · rcases RD.out with h | ⟨b0, off0, hab, hbl0, hc0⟩
        · omega
        cases hab
        have c1 : wr.cell? ⟨w.heap.size, k, none⟩ = some (.int .u64 0) := by rw [cell_of_row wr _ k _ _ _ ha, arrV_get n _ k hlt]; simp [upto]
        have f1 := frozen_of_row wr _ k _ _ ha
        have c2 := (hb.cell (p := ⟨b0, off0 + k, none⟩) hbl0).trans (hc0 k hlt)
        have Ha : Hid _ := ha
        clear ha hc0 RD
        go_wp2
        go_roundw
        case rel =>
          refine ⟨k + 1, by omega, by go_num, ?_, hb.setCell (by simp) _⟩
          refine (heap_setCell_same wr _ _ _ 29 _ Ha.out).trans ?_
          rw [upto_step]
        case measure => simp [intOf]; omega
      · obtain rfl : k = n := by omega
        have Ha : Hid _ := ha
        clear ha RD
        go_wp2
        go_ret
        refine ⟨_, _, rfl, .inr ⟨_, _, rfl, (Array.getElem?_eq_some_iff.1 Ha.out).1, fun j hj => ?_⟩, hb⟩
        rw [Nat.zero_add, cell_of_row wr _ j _ _ _ Ha.out, arrV_get k _ j hj]
        simp [upto, hj]
end Go.Proofs.Qxb6609182a
