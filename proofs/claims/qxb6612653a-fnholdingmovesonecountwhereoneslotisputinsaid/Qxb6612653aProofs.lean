/-
  THE PROOF OF 'Rows.FnHoldingMovesOneCountWhereOneSlotIsPutInSaid'. The frame is the guide's own way at this function's number and types; the slice of slices is opened by 'open_int_rows'; the walk is law6's.
-/
import Derived.Test.Qxb6612653aLaw
import Derived.WalkKit
import Derived.ProofKit
import Derived.OpenShut
import Derived.ChangeOld
import Derived.Below
import Derived.Deep.Matrix
namespace Go.Proofs.Qxb6612653a
open Go.ChangeShapes Go.WideShapes Go.ChangeAt Go.RowKit
set_option linter.unusedVariables false

theorem own : ownKnob Try.prog.godebug = none := by kernel_rfl
theorem laidOut : laidOutB Try.prog = true := by kernel_rfl
theorem cells38 : Try.prog.cellsOf 38 = 1 := by kernel_rfl
theorem cells21 : Try.prog.cellsOf 21 = 1 := by kernel_rfl
theorem cells3 : Try.prog.cellsOf 3 = 1 := by kernel_rfl
theorem mem_getD (zs : List Int) (j : Nat) (h : j < zs.length) : zs.getD j 0 ∈ zs := by
  simp only [List.getD, List.getElem?_eq_getElem h, Option.getD_some]
  exact List.getElem_mem h
theorem bounds32 {n : Int} (h : (Lit.int .i32 n).wf = true) : -2147483648 ≤ n ∧ n ≤ 2147483647 := by
  simpa [Lit.wf, IntKind.min, IntKind.max, IntKind.signed, IntKind.bits] using h
section
variable {H : Type} {enc : TypeId × Value → H} {W : World} {base : Nat} {held : Bool}
theorem open_mat {a : Option Addr} {len cap : Nat} {d : DataW H} {p : List MemPlace} (h : DataW.Trod enc Try.prog W base (fun _ => true) held 24 (.slice a len cap) d p) :
    ∃ (L : Nat → Nat) (g : Nat → Nat → Int), RdM W a len L g ∧ len ≤ maxLen ∧ ∀ r p, r < len → p < L r → -2147483648 ≤ g r p ∧ g r p ≤ 2147483647 := by
  obtain ⟨fuel, hf⟩ := h
  rcases Go.Deep.open_int_rows Try.underlying24 Try.underlying38 Try.underlying21 cells38 cells21 hf with ⟨hcs, _⟩ | ⟨x, l, c, A, L, C, Z, hcs, _, hl, hm, _, hel⟩
  · simp [Value.cells] at hcs
    obtain ⟨rfl, rfl, rfl⟩ := hcs
    exact ⟨fun _ => 0, fun _ _ => 0, .inl rfl, Nat.zero_le _, fun r p hr => absurd hr (Nat.not_lt_zero _)⟩
  · simp [Value.cells] at hcs
    obtain ⟨rfl, rfl, rfl⟩ := hcs
    refine ⟨L, fun r j => (Z r).getD j 0, ?_, by omega, fun r p hr hp => ?_⟩
    · by_cases h0 : len = 0
      · exact .inl h0
      obtain ⟨b, off, spot⟩ := x
      have hspot : spot = none := by simpa [Addr.add] using World.cell?_spot (hel 0 (by omega)).1
      subst hspot
      refine .inr ⟨b, off, rfl, ?_, fun r hr => ?_⟩
      · exact block_lt_of_cell (hel 0 (by omega)).1
      · obtain ⟨e1, e2, e3, e4, e5, e6, e7⟩ := hel r (by omega)
        refine ⟨A r, C r, by rw [← Go.WideShapes.add_plain]; exact e1, ?_, by omega⟩
        by_cases hL : L r = 0
        · exact .inl hL
        cases hA : A r with
        | none => exact absurd (e6 hA) (by omega)
        | some a' =>
          obtain ⟨_, hc⟩ := e7 a' hA
          obtain ⟨b1, off1, rfl, hc'⟩ := ints_at (zs := Z r) (k := .i32) (a := a') (w := W) (fun i hi => hc i (by omega)) (by omega)
          exact .inr ⟨b1, off1, rfl, block_lt_of_cell (hc' 0 (by omega)), fun j hj => hc' j (by omega)⟩
    · obtain ⟨e1, e2, e3, e4, e5, e6, e7⟩ := hel r (by omega)
      exact bounds32 (e5 _ (mem_getD _ _ (by omega)))
theorem open_row {a : Option Addr} {len cap : Nat} {d : DataW H} {p : List MemPlace} (h : DataW.Trod enc Try.prog W base (fun _ => true) held 25 (.slice a len cap) d p) :
    ∃ f : Nat → Int, Rd .i64 W a len f ∧ len ≤ maxLen := by
  obtain ⟨fuel, hf⟩ := h
  rcases open_ints Try.underlying25 Try.underlying3 cells3 hf with ⟨hcs, _⟩ | ⟨x, l, c, zs, hcs, _, hl, hm, hz, _, hcell, _⟩
  · simp [Value.cells] at hcs
    obtain ⟨rfl, rfl, rfl⟩ := hcs
    exact ⟨fun _ => 0, .inl rfl, Nat.zero_le _⟩
  · simp [Value.cells] at hcs
    obtain ⟨rfl, rfl, rfl⟩ := hcs
    simp only [if_true] at hz
    refine ⟨fun j => zs.getD j 0, ?_, by omega⟩
    by_cases h0 : len = 0
    · exact .inl h0
    · obtain ⟨b, off, rfl, hc'⟩ := ints_at hcell (by omega)
      exact .inr ⟨b, off, rfl, block_lt_of_cell (hc' 0 (by omega)), fun j hj => hc' j (by omega)⟩
end

set_option maxRecDepth 100000 in
theorem lifted (os : Os) (started : os.Started) (H : Type) (enc : TypeId × Value → H) :
    ReturnsInHanded {} Try.checked os 6 .any (Rows.fnHoldingMovesOneCountWhereOneSlotIsPutInSpec.pre6 enc Try.prog Try.f6 Rows.fnHoldingMovesOneCountWhereOneSlotIsPutInRow.domain false) (Rows.fnHoldingMovesOneCountWhereOneSlotIsPutInSpec.post enc Try.prog Try.f6 false true false false) := by
  refine returnsInHanded_of_change (C := Try.checked) own started (by kernel_rfl) Try.func6
    (ChangeSpec.witness6 (enc := enc) (C := Try.checked) false ⟨#[], #[.slice none 0 0, .slice none 0 0, .int .i64 0, .int .i64 0, .int .i32 0], []⟩ 8 (by kernel_rfl) (by kernel_rfl) (by kernel_rfl) (by kernel_rfl)) ?_
  intro W base args ds gs before hval0 hW hcnd _
  have hval : ∀ (j : Nat) t v, Try.f6.params[j]? = some t → args[j]? = some v → Value.okWide Try.prog W .any base t v := hval0
  have hW' := hW
  obtain ⟨p, q, hA0, hV, rfl, hfz, hnd⟩ := hW
  have hA : DataW.TrodAll enc Try.prog W 0 (fun _ => true) true Try.f6.params.toList args.toList ds p := hA0
  rw [Try.params6] at hA hval
  obtain ⟨v0, vs0, d0, ds0, p0, q0, hargs, rfl, rfl, h0, r0⟩ := trodAll_cons hA
  obtain ⟨v1, vs1, d1, ds1, p1, q1, rfl, rfl, rfl, h1, r1⟩ := trodAll_cons r0
  obtain ⟨v2, vs2, d2, ds2, p2, q2, rfl, rfl, rfl, h2, r2⟩ := trodAll_cons r1
  obtain ⟨v3, vs3, d3, ds3, p3, q3, rfl, rfl, rfl, h3, r3⟩ := trodAll_cons r2
  obtain ⟨v4, vs4, d4, ds4, p4, q4, rfl, rfl, rfl, h4, r4⟩ := trodAll_cons r3
  obtain ⟨rfl, rfl, rfl⟩ := trodAll_nil r4
  obtain rfl : args = #[v0, v1, v2, v3, v4] := by cases args; simp_all
  obtain ⟨rfl, rfl⟩ := trodVars_none hV
  obtain ⟨a0, len0, cap0, rfl⟩ := okWide_slice Try.underlying24 (hval 0 24 v0 rfl rfl)
  have k0 := h0
  have lt0 : ∀ x ∈ p0, x.block < W.heap.size := by obtain ⟨m, hm⟩ := k0; exact DataW.trod_lt m _ _ _ hm
  obtain ⟨L, g, rm, hR, hg⟩ := open_mat h0
  obtain ⟨a1, len1, cap1, rfl⟩ := okWide_slice Try.underlying25 (hval 1 25 v1 rfl rfl)
  have k1 := h1
  have lt1 : ∀ x ∈ p1, x.block < W.heap.size := by obtain ⟨m, hm⟩ := k1; exact DataW.trod_lt m _ _ _ hm
  obtain ⟨f, rd, hn⟩ := open_row h1
  obtain ⟨a2, rfl, rfl, rfl, w2⟩ := open_int Try.underlying3 (hval 2 3 v2 rfl rfl) h2
  obtain ⟨a3, rfl, rfl, rfl, w3⟩ := open_int Try.underlying3 (hval 3 3 v3 rfl rfl) h3
  obtain ⟨a4, rfl, rfl, rfl, w4⟩ := open_int Try.underlying21 (hval 4 21 v4 rfl rfl) h4
  clear hA0 hval0
  refine (law6 a0 a1 len0 cap0 len1 cap1 a2 a3 a4 L g f W rm rd hR hn hg (bounds32 w4)).mono fun e W' ⟨he, bel⟩ => ?_
  subst he
  exact ⟨_, rfl, _, _, _, [], _, [], hW', trodAll_mk1 (shut_bool Try.underlying4 _), (trodAll_cons_mk (Below.trod laidOut (by kernel_rfl) (of_decide_eq_true (by kernel_rfl)) k0 bel lt0) (trodAll_cons_mk (Below.trod laidOut (by kernel_rfl) (of_decide_eq_true (by kernel_rfl)) k1 bel lt1) (trodAll_cons_mk (shut_int Try.underlying3 w2) (trodAll_cons_mk (shut_int Try.underlying3 w3) (trodAll_cons_mk (shut_int Try.underlying21 w4) trodAll_mk0))))), rfl, bel.frame _, fun h => by cases h⟩

theorem over : Rows.fnHoldingMovesOneCountWhereOneSlotIsPutInRow.holds Try.pinned (OpenSpec.ofChange Rows.fnHoldingMovesOneCountWhereOneSlotIsPutInSpec) :=
  OpenClaim.holds_of_wide 6 Try.f6 rfl rfl rfl rfl rfl rfl rfl ⟨rfl, rfl, rfl, rfl, rfl⟩ rfl rfl rfl rfl rfl (by kernel_rfl) Try.func6 (by kernel_rfl)
    (of_decide_eq_true (by kernel_rfl)) (by unfold Func.isWrapper; first | (rw [if_pos (by decide +kernel)]; kernel_rfl) | (rw [if_neg (by decide +kernel)]; exact ⟨rfl, rfl⟩))
    (fun os started H enc _ => lifted os started H enc)

/-- THE STATEMENT. -/
theorem proved : Rows.FnHoldingMovesOneCountWhereOneSlotIsPutInSaid := over
end Go.Proofs.Qxb6612653a
