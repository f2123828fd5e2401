/-
  THE WALKS of what builds and asks the table: ZZappendEntry, ZZappendEntryBlock, ZZsetChanged, ZZnewTable, Table.entry, ZZentry.
-/
import Derived.Test.Qxb6612367aMaps
import Derived.Test.Qxb6612367aBlock
namespace Go.Proofs.Qxb6612367a
open Go.RowKit
open Go.ChangeMaps (setBlock)
theorem tab_cell (w : World) (T : Nat) (ve vb : Value) (M : Nat) (hT : w.heap[T]? = some (.cells (tab ve vb M) 55 (0, 0))) :
    w.cell? ⟨T, 0, none⟩ = some ve ∧ w.cell? ⟨T, 1, none⟩ = some vb ∧ w.cell? ⟨T, 6, none⟩ = some (.map (some M)) := by
  refine ⟨?_, ?_, ?_⟩ <;> rw [cell_of_row w T _ _ _ _ hT] <;> rfl
theorem info56 : (Try.prog.info? 56).map (fun i => (i.zero, i.size, i.bytes)) = some (some (.int .u64 0), 1, 8) := by kernel_rfl
theorem info40 : (Try.prog.info? 40).map (fun i => (i.zero, i.size, i.bytes)) = some (some (.int .u64 0), 1, 8) := by kernel_rfl
/-- A row is owned still where its block is as it was. -/
theorem owns_kept {w w' : World} {B : Nat} {e : TypeId} {v : Value} {n : Nat} {xs : List Value} (h : w.ownsRow B e 1 v n xs) (hk : ∀ k, v.ownBlock = some k → w'.heap[k]? = w.heap[k]?) : w'.ownsRow B e 1 v n xs := by
  obtain ⟨h1, h2⟩ := h
  refine ⟨h1, ?_⟩
  rcases h2 with h2 | ⟨g, cap, cur, hv, hg, hh, r⟩
  · exact .inl h2
  · exact .inr ⟨g, cap, cur, hv, hg, (hk g (by rw [hv]; rfl)).trans hh, r⟩
/-- A block of another type is not the row's. -/
theorem own_ne {w : World} {B T : Nat} {e t : TypeId} {v : Value} {n : Nat} {xs : List Value} {c : Array Value} {fr : Nat × Nat} (h : w.ownsRow B e 1 v n xs) (hT : w.heap[T]? = some (.cells c t fr)) (he : e ≠ t) : ∀ k, v.ownBlock = some k → k ≠ T := by
  rintro k hk rfl
  rcases h.2 with ⟨hv, _⟩ | ⟨g, cap, cur, hv, hg, hh, r⟩
  · rw [hv] at hk; cases hk
  · rw [hv] at hk
    obtain rfl : g = k := by simpa [Value.ownBlock] using hk
    rw [hh] at hT
    simp at hT
    exact he hT.2.1
theorem own_lt {w : World} {B : Nat} {e : TypeId} {v : Value} {n : Nat} {xs : List Value} (h : w.ownsRow B e 1 v n xs) : ∀ k, v.ownBlock = some k → B ≤ k ∧ k < w.heap.size := by
  intro k hk
  rcases h.2 with ⟨hv, _⟩ | ⟨g, cap, cur, hv, hg, hh, r⟩
  · rw [hv] at hk; cases hk
  · rw [hv] at hk
    obtain rfl : g = k := by simpa [Value.ownBlock] using hk
    exact ⟨hg, (Array.getElem?_eq_some_iff.1 hh).1⟩
theorem tab_set0 (ve vb v : Value) (M : Nat) : (tab ve vb M).setIfInBounds 0 v = tab v vb M := rfl
theorem tab_set1 (ve vb v : Value) (M : Nat) : (tab ve vb M).setIfInBounds 1 v = tab ve v M := rfl
/-- What an append to one of the table's two rows leaves. -/
def Grew (T : Nat) (v : Value) (w w' : World) : Prop := w.heap.size ≤ w'.heap.size ∧ w'.os = w.os ∧ w'.tape = w.tape ∧ w'.output = w.output ∧ ∀ k, k < w.heap.size → k ≠ T → some k ≠ v.ownBlock → w'.heap[k]? = w.heap[k]?
set_option maxHeartbeats 400000 in
theorem app13 (T M B : Nat) (ve vb : Value) (es : List Int) (x : Int) (w : World) (hT : w.heap[T]? = some (.cells (tab ve vb M) 55 (0, 0))) (hown : w.ownsRow B 56 1 ve es.length (es.map (Value.int .u64))) (hB : B ≤ w.heap.size) (hlen : es.length ≤ 1048576) :
    Calls Try.prog 13 #[.pointer (some ⟨T, 0, none⟩), .int .u64 x] w fun e w' => e = .returned (.tuple #[]) ∧ ∃ ve', w'.heap[T]? = some (.cells (tab ve' vb M) 55 (0, 0)) ∧ w'.ownsRow B 56 1 ve' (es ++ [x]).length ((es ++ [x]).map (Value.int .u64)) ∧
      Grew T ve w w' := by
  obtain ⟨c0, c1, c6⟩ := tab_cell w T ve vb M hT
  obtain ⟨i0, hi, hz0, hz1, hz2⟩ := info_parts info56
  have hTl : T < w.heap.size := (Array.getElem?_eq_some_iff.1 hT).1
  have HT : Hid _ := hT
  clear hT
  go_enter Try.func13, Try.ntmps13
  go_wp2_with (at_builtin; refine wpList_append_own _ rfl _ _ 45 rfl B 56 i0 (.int .u64 0) 1 8 (by kernel_rfl) hi hz0 hz1 hz2 rfl (by decide) _ _ _ rfl (hown.alloc _) ⟨w.heap.size, 0, none⟩ 1 1 [.int .u64 x] rfl rfl ?c1 ?c2 ?c3 ?c4 ?c5 ?_)
  case c1 => exact cell_one_new _ _ _
  case c2 => intro u hu; simp at hu; subst hu; rfl
  case c3 => unfold maxLen; omega
  case c4 => omega
  case c5 => simp; omega
  intro v' w1 hown' hgrow _
  obtain ⟨g, cap, hv⟩ : ∃ g cap, v' = .slice (some ⟨g, 0, none⟩) (es.length + 1) cap := by
    rcases hown'.2 with ⟨_, hn⟩ | ⟨g, cap, cur, hv, _⟩
    · omega
    · exact ⟨g, cap, hv⟩
  have hne : some T ≠ ve.ownBlock := fun h => own_ne hown HT.out (by decide) T h.symm rfl
  have hT1 : w1.heap[T]? = some (.cells (tab ve vb M) 55 (0, 0)) := (hgrow.block T (by simp; omega) hne).trans ((Below.heap_alloc _ _ _ hTl).trans HT.out)
  have d0 := (tab_cell w1 T ve vb M hT1).1
  have f0 := frozen_of_row w1 T 0 _ _ hT1
  have HT1 : Hid _ := hT1
  have HO : Hid _ := hown'
  have HG : Hid _ := hgrow
  clear hown hown' hgrow hT1 c0 c1 c6 hne
  rw [hv]
  go_wp2
  go_end0
  refine ⟨rfl, v', ?_, ?_, ?_⟩
  · rw [← hv, ← tab_set0 ve vb v' M]
    exact heap_setCell_same w1 T 0 _ 55 _ HT1.out
  · refine owns_kept (w := w1) (by rw [List.length_append, List.map_append]; exact HO.out) fun k hk => ?_
    exact heap_setCell_other w1 _ k _ (own_ne HO.out HT1.out (by decide) k hk)
  · have hs := HG.out.size
    refine ⟨by simp at hs ⊢; omega, HG.out.os, HG.out.tape, HG.out.output, fun k hk hkT hkv => ?_⟩
    exact (heap_setCell_other w1 _ k _ hkT).trans ((HG.out.block k (by simp; omega) hkv).trans (Below.heap_alloc _ _ _ hk))
set_option maxHeartbeats 400000 in
theorem app14 (T M B : Nat) (ve vb : Value) (es : List Int) (x : Int) (w : World) (hT : w.heap[T]? = some (.cells (tab ve vb M) 55 (0, 0))) (hown : w.ownsRow B 40 1 vb es.length (es.map (Value.int .u64))) (hB : B ≤ w.heap.size) (hlen : es.length ≤ 1048576) :
    Calls Try.prog 14 #[.pointer (some ⟨T, 0, none⟩), .int .u64 x] w fun e w' => e = .returned (.tuple #[]) ∧ ∃ vb', w'.heap[T]? = some (.cells (tab ve vb' M) 55 (0, 0)) ∧ w'.ownsRow B 40 1 vb' (es ++ [x]).length ((es ++ [x]).map (Value.int .u64)) ∧
      Grew T vb w w' := by
  obtain ⟨c0, c1, c6⟩ := tab_cell w T ve vb M hT
  obtain ⟨i0, hi, hz0, hz1, hz2⟩ := info_parts info40
  have hTl : T < w.heap.size := (Array.getElem?_eq_some_iff.1 hT).1
  have HT : Hid _ := hT
  clear hT
  go_enter Try.func14, Try.ntmps14
  go_wp2_with (at_builtin; refine wpList_append_own _ rfl _ _ 47 rfl B 40 i0 (.int .u64 0) 1 8 (by kernel_rfl) hi hz0 hz1 hz2 rfl (by decide) _ _ _ rfl (hown.alloc _) ⟨w.heap.size, 0, none⟩ 1 1 [.int .u64 x] rfl rfl ?c1 ?c2 ?c3 ?c4 ?c5 ?_)
  case c1 => exact cell_one_new _ _ _
  case c2 => intro u hu; simp at hu; subst hu; rfl
  case c3 => unfold maxLen; omega
  case c4 => omega
  case c5 => simp; omega
  intro v' w1 hown' hgrow _
  obtain ⟨g, cap, hv⟩ : ∃ g cap, v' = .slice (some ⟨g, 0, none⟩) (es.length + 1) cap := by
    rcases hown'.2 with ⟨_, hn⟩ | ⟨g, cap, cur, hv, _⟩
    · omega
    · exact ⟨g, cap, hv⟩
  have hne : some T ≠ vb.ownBlock := fun h => own_ne hown HT.out (by decide) T h.symm rfl
  have hT1 : w1.heap[T]? = some (.cells (tab ve vb M) 55 (0, 0)) := (hgrow.block T (by simp; omega) hne).trans ((Below.heap_alloc _ _ _ hTl).trans HT.out)
  have d0 := (tab_cell w1 T ve vb M hT1).2.1
  have f0 := frozen_of_row w1 T 1 _ _ hT1
  have HT1 : Hid _ := hT1
  have HO : Hid _ := hown'
  have HG : Hid _ := hgrow
  clear hown hown' hgrow hT1 c0 c1 c6 hne
  rw [hv]
  go_wp2
  go_end0
  refine ⟨rfl, v', ?_, ?_, ?_⟩
  · rw [← hv, ← tab_set1 ve vb v' M]
    exact heap_setCell_same w1 T 1 _ 55 _ HT1.out
  · refine owns_kept (w := w1) (by rw [List.length_append, List.map_append]; exact HO.out) fun k hk => ?_
    exact heap_setCell_other w1 _ k _ (own_ne HO.out HT1.out (by decide) k hk)
  · have hs := HG.out.size
    refine ⟨by simp at hs ⊢; omega, HG.out.os, HG.out.tape, HG.out.output, fun k hk hkT hkv => ?_⟩
    exact (heap_setCell_other w1 _ k _ hkT).trans ((HG.out.block k (by simp; omega) hkv).trans (Below.heap_alloc _ _ _ hk))
set_option maxHeartbeats 400000 in
theorem set11 (T M : Nat) (ve vb : Value) (l : List (Int × Int × Nat)) (clock : Nat) (k v : Int) (w : World) (hT : w.heap[T]? = some (.cells (tab ve vb M) 55 (0, 0))) (hM : w.heap[M]? = some (.map (l.map mkE).toArray clock)) :
    Calls Try.prog 11 #[.pointer (some ⟨T, 0, none⟩), .int .u64 k, .int .u8 v] w fun e w' => e = .returned (.tuple #[]) ∧ ∃ c', w' = setBlock w M (.map ((upd l k v clock).map mkE).toArray c') := by
  obtain ⟨c0, c1, c6⟩ := tab_cell w T ve vb M hT
  obtain ⟨c', hu⟩ := run_update53 w M l clock k v hM
  clear hT hM
  go_enter Try.func11, Try.ntmps11
  go_wp2
  go_end0
  exact ⟨rfl, c', rfl⟩
set_option maxHeartbeats 400000 in
theorem new12 (w : World) : Calls Try.prog 12 #[] w fun e w' => e = .returned (.pointer (some ⟨w.heap.size + 1, 0, none⟩)) ∧ w' = (w.alloc (.map #[] 0)).alloc (.cells (tab (.slice none 0 0) (.slice none 0 0) w.heap.size) 55) := by
  have hmm := @run_makeMap Try.prog
  go_enter Try.func12, Try.ntmps12
  go_wp2
  go_ret
  exact ⟨rfl, rfl⟩
set_option maxHeartbeats 400000 in
theorem entry15_hit (T M : Nat) (ve vb : Value) (l : List (Int × Int × Nat)) (clock : Nat) (k v : Int) (w : World) (hT : w.heap[T]? = some (.cells (tab ve vb M) 55 (0, 0))) (hM : w.heap[M]? = some (.map (l.map mkE).toArray clock)) (hl : lk l k = some v) :
    Calls Try.prog 15 #[.pointer (some ⟨T, 0, none⟩), .int .u64 k] w fun e w' => e = .returned (.tuple #[.int .u8 v, .bool (v != 0)]) ∧ Below w.heap.size w w' := by
  obtain ⟨c0, c1, c6⟩ := tab_cell w T ve vb M hT
  have hu := run_lookup53 w M l clock k hM
  rw [hl] at hu
  simp only [Option.getD_some, Option.isSome_some] at hu
  clear hT hM
  go_enter Try.func15, Try.ntmps15
  go_wp2
  go_region
  all_goals (try go_wp2)
  all_goals go_ret2
  all_goals exact ⟨rfl, ((Below.refl _ _).alloc (Nat.le_refl _) _).drew⟩
set_option maxHeartbeats 400000 in
theorem entry15_miss (T M : Nat) (ve vb : Value) (l : List (Int × Int × Nat)) (clock : Nat) (k : Int) (w : World) (R : Int → Bool → Prop) (hT : w.heap[T]? = some (.cells (tab ve vb M) 55 (0, 0))) (hM : w.heap[M]? = some (.map (l.map mkE).toArray clock)) (hl : lk l k = none)
    (h16 : ∀ W, Below w.heap.size w W → Calls Try.prog 16 #[.pointer (some ⟨T, 0, none⟩), .int .u64 k] W fun e w' => ∃ x b, R x b ∧ e = .returned (.tuple #[.int .u8 x, .bool b]) ∧ Below W.heap.size W w') :
    Calls Try.prog 15 #[.pointer (some ⟨T, 0, none⟩), .int .u64 k] w fun e w' => ∃ x b, R x b ∧ e = .returned (.tuple #[.int .u8 x, .bool b]) ∧ Below w.heap.size w w' := by
  obtain ⟨c0, c1, c6⟩ := tab_cell w T ve vb M hT
  have hu := run_lookup53 w M l clock k hM
  rw [hl] at hu
  simp only [Option.getD_none, Option.isSome_none] at hu
  have H16 : Hid _ := h16
  clear hT hM h16
  go_enter Try.func15, Try.ntmps15
  go_wp2_with fail
  refine (H16.out _ ((Below.refl _ _).alloc (Nat.le_refl _) _)).mono ?_
  rintro _ w1 ⟨x, b, hR, rfl, hb⟩
  have HR : Hid _ := hR
  clear hR H16
  go_wp2
  go_ret2
  exact ⟨x, b, HR.out, rfl, ((Below.refl _ _).alloc (Nat.le_refl _) _).trans (hb.mono (by simp))⟩
set_option maxHeartbeats 400000 in
theorem entry8 (T : Nat) (k : Int) (w : World) (R : Int → Bool → Prop)
    (h15 : Calls Try.prog 15 #[.pointer (some ⟨T, 0, none⟩), .int .u64 k] w fun e w' => ∃ x b, R x b ∧ e = .returned (.tuple #[.int .u8 x, .bool b]) ∧ Below w.heap.size w w') :
    Calls Try.prog 8 #[.pointer (some ⟨T, 0, none⟩), .int .u64 k] w fun e w' => ∃ x b, R x b ∧ e = .returned (.tuple #[.int .u8 x, .bool b]) ∧ Below w.heap.size w w' := by
  go_enter Try.func8, Try.ntmps8
  go_wp2_with fail
  refine h15.mono ?_
  rintro _ w1 ⟨x, b, hR, rfl, hb⟩
  have HR : Hid _ := hR
  clear hR h15
  go_wp2
  go_ret2
  exact ⟨x, b, HR.out, rfl, hb⟩
end Go.Proofs.Qxb6612367a
