/-
  THE WALKS of slices.Clone and slices.Insert at []NodeID: the kit's own walks at other element types (Derived/Shelf/Slices/Clone.lean, Derived/Shelf/Spec/SlicesInsert.lean, SlicesInsertGrow.lean), turned to this program's numbers.
-/
import Derived.Test.Qxb6609182aGuards
import Derived.Shelf.Spec.SlicesInsertGrow
set_option linter.unusedVariables false
namespace Go.Proofs.Qxb6609182a
open Go.RowKit Go.Lib
theorem info29 : (Try.prog.info? 29).map (fun i => (i.zero, i.size, i.bytes)) = some (some (.int .u64 0), 1, 8) := by kernel_rfl
/-- The first n of f, as cells. -/
def cs (f : Nat → Int) (n : Nat) : List Value := (List.range n).map fun j => .int .u64 (f j)
theorem cs_len (f : Nat → Int) (n : Nat) : (cs f n).length = n := by simp [cs]
theorem cs_get (f : Nat → Int) (n j : Nat) (h : j < n) : (cs f n)[j]? = some (.int .u64 (f j)) := by simp [cs, h]
theorem cs_some (f : Nat → Int) (n j : Nat) (v : Value) (h : (cs f n)[j]? = some v) : j < n ∧ v = .int .u64 (f j) := by
  have hj : j < n := by
    have := (List.getElem?_eq_some_iff.1 h).1
    rwa [cs_len] at this
  rw [cs_get f n j hj] at h
  exact ⟨hj, (Option.some.inj h).symm⟩
theorem cs_one (f : Nat → Int) (n : Nat) : ∀ v ∈ cs f n, v.oneCell' = true := by
  intro v hv
  obtain ⟨x, _, rfl⟩ := List.mem_map.1 hv
  rfl
set_option maxHeartbeats 2000000 in
set_option maxRecDepth 100000 in
theorem clone14_some (a : Addr) (n c : Nat) (f : Nat → Int) (w : World) (rd : Rd .u64 w (some a) n f) (hn : n ≤ 1048578) :
    Calls Try.prog 14 #[.slice (some a) n c] w fun e w' => ∃ v', e = .returned v' ∧ w'.ownsRow w.heap.size 29 1 v' n (cs f n) ∧ Below w.heap.size w w' := by
  obtain ⟨i0, hi, hz0, hz1, hz2⟩ := info_parts info29
  have hq : ∀ (w : World) (a : Option Addr) (n c n' c' : Nat), (binOp .eql 26 (.slice a n c) (.slice none n' c')).run Try.prog w = .ok (.bool a.isNone) w := fun w a n c n' c' => Lib.run_eql_slice_nil w _ _ a n c n' c' Try.underlying26
  have A : Hid (∀ j u, (cs f n)[j]? = some u → w.cell? (a.add j) = some u) := by
    show ∀ j u, (cs f n)[j]? = some u → w.cell? (a.add j) = some u
    intro j u hj
    obtain ⟨hjn, rfl⟩ := cs_some f n j u hj
    rcases rd with h | ⟨b, off, hab, hbl, hc⟩
    · omega
    · cases hab
      rw [Addr.add_lit]
      exact hc j hjn
  clear rd
  go_enter Try.func14, Try.ntmps14
  go_wp2_with (at_builtin; refine wpList_append_own _ rfl _ _ 26 rfl w.heap.size 29 i0 (.int .u64 0) 1 8 Try.underlying26 hi hz0 hz1 hz2 rfl (by decide) _ _ _ rfl (World.ownsRow_made w #[] 0 (Nat.le_refl _) (Nat.zero_le _) rfl) a n c (cs f n) rfl ?qc1 ?qc2 ?qc3 ?qc4 ?qc5 ?qc6 ?_)
  case qc1 => rw [cs_len]; omega
  case qc2 =>
    intro j u hj
    exact Lib.cell?_alloc_some _ (A.out j u hj)
  case qc3 => exact cs_one f n
  case qc4 => unfold maxLen; omega
  case qc5 => omega
  case qc6 => simp
  intro v' w1 hown hgrow hnil
  have HO : Hid (w1.ownsRow w.heap.size 29 1 v' n (cs f n)) := by
    show w1.ownsRow w.heap.size 29 1 v' n (cs f n)
    simpa using hown
  have HG : Hid _ := hgrow
  clear hown hgrow hnil
  go_wp2
  go_ret
  exact ⟨v', rfl, HO.out, ((Below.refl _ w).alloc (Nat.le_refl _) _).grown HG.out (by simp) (by intro k hk; simp [Value.ownBlock] at hk; omega)⟩
set_option maxHeartbeats 1000000 in
theorem clone14_nil (n c : Nat) (w : World) : Calls Try.prog 14 #[.slice none n c] w fun e w' => e = .returned (.slice none 0 0) ∧ w' = w := by
  have hq : ∀ (w : World) (a : Option Addr) (n c n' c' : Nat), (binOp .eql 26 (.slice a n c) (.slice none n' c')).run Try.prog w = .ok (.bool a.isNone) w := fun w a n c n' c' => Lib.run_eql_slice_nil w _ _ a n c n' c' Try.underlying26
  go_enter Try.func14, Try.ntmps14
  go_wp2
  go_ret
  exact ⟨rfl, rfl⟩
/-- slices.Clone: the elements in a row of the call's own, or nil. -/
theorem clone14 (a : Option Addr) (n c : Nat) (f : Nat → Int) (w : World) (rd : Rd .u64 w a n f) (hn : n ≤ 1048578) :
    Calls Try.prog 14 #[.slice a n c] w fun e w' => ∃ v', e = .returned v' ∧ w'.ownsRow w.heap.size 29 1 v' n (cs f n) ∧ Below w.heap.size w w' := by
  cases a with
  | none =>
    have h0 : n = 0 := by
      rcases rd with h | ⟨b, off, hab, _⟩
      · exact h
      · cases hab
    subst h0
    refine (clone14_nil 0 c w).mono ?_
    rintro e w' ⟨rfl, rfl⟩
    exact ⟨_, rfl, ⟨by simp [cs], .inl ⟨rfl, rfl⟩⟩, Below.refl _ _⟩
  | some a => exact clone14_some a n c f w rd hn
theorem below_setCells {B b : Nat} {a : World} (hb : B ≤ b) : ∀ (vs : List Value) (o : Nat) (w : World), Below B a w → Below B a (w.setCells b o vs)
  | [], _, _, h => h
  | v :: r, o, w, h => below_setCells hb r (o + 1) _ (h.setCell (p := ⟨b, o, none⟩) hb v)
/-- id laid at p, what stood from p on moved up by one. -/
def ins (f : Nat → Int) (p : Nat) (id : Int) : Nat → Int := fun j => if j < p then f j else if j = p then id else f (j - 1)
/-- What Insert hands back. -/
def GivesR (B n : Nat) (h : Nat → Int) (w : World) (e : Ending) (w' : World) : Prop :=
  ∃ g cap, e = .returned (.slice (some ⟨g, 0, none⟩) n cap) ∧ Rd .u64 w' (some ⟨g, 0, none⟩) n h ∧ Below B w w'
set_option maxHeartbeats 4000000 in
set_option maxRecDepth 100000 in
/-- At the end: 'append(s, v...)'. -/
theorem insert13_end (B n vb : Nat) (v : Value) (f : Nat → Int) (id : Int) (w : World) (hn : n ≤ 1048578) (hB : B ≤ w.heap.size) (own : w.ownsRow B 29 1 v n (cs f n)) (hv : w.cell? ⟨vb, 0, none⟩ = some (.int .u64 id)) :
    Calls Try.prog 13 #[v, .int .i64 n, .slice (some ⟨vb, 0, none⟩) 1 1] w fun e w' => GivesR B (n + 1) (ins f n id) w e w' := by
  obtain ⟨i0, hi, hz0, hz1, hz2⟩ := info_parts info29
  have hvs : Hid (∀ j u, [Value.int .u64 id][j]? = some u → w.cell? ((⟨vb, 0, none⟩ : Addr).add j) = some u) := by
    show ∀ j u, [Value.int .u64 id][j]? = some u → w.cell? ((⟨vb, 0, none⟩ : Addr).add j) = some u
    intro j u hj
    cases j with
    | zero => simp at hj; subst hj; exact hv
    | succ j => simp at hj
  have fin : Hid (∀ v' w', w'.ownsRow B 29 1 v' (n + 1) (cs f n ++ [.int .u64 id]) → w.grownBy w' v.ownBlock → GivesR B (n + 1) (ins f n id) w (.returned v') w') := by
    show ∀ v' w', w'.ownsRow B 29 1 v' (n + 1) (cs f n ++ [.int .u64 id]) → w.grownBy w' v.ownBlock → GivesR B (n + 1) (ins f n id) w (.returned v') w'
    intro v' w' ho hg
    rcases ho.2 with ⟨_, h⟩ | ⟨g, cap, cur, rfl, hbg, hgc, _⟩
    · omega
    refine ⟨g, cap, rfl, .inr ⟨g, 0, rfl, (Array.getElem?_eq_some_iff.1 hgc).1, fun j hj => ?_⟩, (Below.refl _ _).grown hg hB (fun k hk => (own.lt k hk).1)⟩
    rw [Nat.zero_add, ho.cellAt j (by omega)]
    by_cases h : j < n
    · rw [List.getElem?_append_left (by rw [cs_len]; exact h), cs_get f n j h]; simp [ins, h]
    · obtain rfl : j = n := by omega
      rw [List.getElem?_append_right (by rw [cs_len]; exact Nat.le_refl _), cs_len]; simp [ins]
  have OWN : Hid (w.ownsRow B 29 1 v n (cs f n)) := own
  have e1 : ((1 : Int) == 0) = false := by decide
  have e2 : ((n : Int) == (n : Int)) = true := by simp
  rcases own.2 with ⟨rfl, rfl⟩ | ⟨g, cap, cur, rfl, hbg, hgc, hnc, hcm, _⟩
  · clear own hv
    go_enter Try.func13, Try.ntmps13
    go_wp2_with (at_builtin; refine wpList_append_own _ rfl _ _ 26 rfl B 29 i0 (.int .u64 0) 1 8 Try.underlying26 hi hz0 hz1 hz2 rfl (by decide) _ _ _ rfl OWN.out ⟨vb, 0, none⟩ 1 1 [.int .u64 id] rfl rfl hvs.out (by intro u hu; simp at hu; subst hu; rfl) (by unfold maxLen; omega) (by omega) hB ?_)
    intro v' w1 hown hgrow hnil
    have G := fin.out v' w1 hown hgrow
    have HG : Hid _ := G
    clear hown hgrow hnil G
    go_wp2
    go_ret
    exact HG.out
  · clear own hv hgc
    unfold maxLen at hcm
    go_enter Try.func13, Try.ntmps13
    go_wp2_with (at_builtin; refine wpList_append_own _ rfl _ _ 26 rfl B 29 i0 (.int .u64 0) 1 8 Try.underlying26 hi hz0 hz1 hz2 rfl (by decide) _ _ _ rfl OWN.out ⟨vb, 0, none⟩ 1 1 [.int .u64 id] rfl rfl hvs.out (by intro u hu; simp at hu; subst hu; rfl) (by unfold maxLen; omega) (by omega) hB ?_)
    all_goals (
      intro v' w1 hown hgrow hnil
      have G := fin.out v' w1 hown hgrow
      have HG : Hid _ := G
      clear hown hgrow hnil G
      go_wp2
      go_ret
      exact HG.out)
end Go.Proofs.Qxb6609182a
