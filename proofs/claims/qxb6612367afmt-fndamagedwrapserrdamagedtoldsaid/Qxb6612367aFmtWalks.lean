/-
  THE WALKS: lists.damaged (a region that draws and holds both calls of fmt), errors.Is through the wrap. errors.Is's contract is the guide's (Sentry), turned to this dump's numbers.
-/
import Derived.Test.Qxb6612367aFmtFacts
import Derived.Deep.RegionWith
namespace Go.Proofs.Qxb6612367aFmt
open Go.RowKit Go.Extern.Stop Go.Stop Go.Extern
theorem cell_past (w : World) (o : Obj) (a : Addr) (v : Value) (h : w.cell? a = some v) : (w.alloc o).cell? a = some v := by
  rw [((Below.refl w.heap.size w).alloc (Nat.le_refl _) o).cell (block_lt_of_cell h)]
  exact h
set_option maxHeartbeats 400000 in
theorem damaged7 (F : Interp) (a : Addr) (s f : ByteArray) (w : World) (hF : F.answers w.tape) (hg : w.cell? ⟨0, 0, none⟩ = some (.iface 47 (.pointer (some a)))) (hs : w.cell? a = some (.string s)) :
    Calls Tryf.prog 7 #[.string f, .slice none 0 0] w fun e w' => ∃ g, e = .returned (.iface 46 (.pointer (some ⟨g, 0, none⟩))) ∧ w'.cell? ⟨g, 1, none⟩ = some (.iface 47 (.pointer (some a))) ∧ Below w.heap.size w w' := by
  have hF' := answers_open hF
  have o3 := guardF
  have o8 := call11
  rcases printed_none f with hp | hp
  all_goals
    go_enter Tryf.func7, Tryf.ntmps7
    go_wp2
    go_region_with (first
      | (go_at_call 10; refine (errorf10 F a s (FmtStop.textOf (F "fmt.Sprintf" [f.data.toList] 0)) w.heap.size _ ?_ ?_ ?_ ?_).mono ?_; exact hF; go_simp; go_simp; exact cell_past w _ a _ hs; rintro e w' ⟨rfl, x, rfl⟩))
    all_goals (try go_wp2)
    all_goals go_ret
    all_goals exact ⟨_, rfl, by simp, ((((Below.refl _ _).alloc (Nat.le_refl _) _).alloc (by simp) _).drew.drew).drew⟩
set_option maxHeartbeats 400000 in
theorem damaged5 (F : Interp) (a : Addr) (s f : ByteArray) (w : World) (hF : F.answers w.tape) (hg : w.cell? ⟨0, 0, none⟩ = some (.iface 47 (.pointer (some a)))) (hs : w.cell? a = some (.string s)) :
    Calls Tryf.prog 5 #[.string f] w fun e w' => ∃ g, e = .returned (.iface 46 (.pointer (some ⟨g, 0, none⟩))) ∧ w'.cell? ⟨g, 1, none⟩ = some (.iface 47 (.pointer (some a))) ∧ Below w.heap.size w w' := by
  go_enter Tryf.func5, Tryf.ntmps5
  go_wp2_with fail
  refine (damaged7 F a s f w hF hg hs).mono ?_
  rintro _ w1 ⟨g, rfl, hc, hb⟩
  go_wp2
  go_ret
  exact ⟨g, rfl, hc, hb⟩

theorem call8 (v : Value) (w : World) : (callFunc 8 #[.iface 47 v]).run Tryf.prog w = .ok (.value (.iface 36 (.agg #[.pointer (some ⟨1, 47, none⟩)]))) w := by kernel_rfl
theorem call32 (w : World) : (callFunc 32 #[.agg #[.pointer (some ⟨1, 47, none⟩)]]).run Tryf.prog w = .ok (.value (.bool true)) w := by kernel_rfl
theorem isMethodComparable (v : Value) (w : World) : (Go.method 189 36 v "Comparable").run Tryf.prog w = .ok (32, v) w := by kernel_rfl
theorem isComp : (Tryf.prog.info? 47).map (·.comparable) = some true := by kernel_rfl
theorem isSize : (Tryf.prog.info? 49).map (·.size) = some 1 := by kernel_rfl
theorem noIsE (v : Value) (xT : TypeId) (w : World) : (Instr.typeAssert (.iface 47 v) xT 38 true).run Tryf.prog w = .ok (.tuple #[.nilIface, .bool false]) w := run_typeAssert_lacksB Tryf.underlying38 (by kernel_rfl) (by kernel_rfl) v xT w
theorem noIsW (v : Value) (xT : TypeId) (w : World) : (Instr.typeAssert (.iface 46 v) xT 38 true).run Tryf.prog w = .ok (.tuple #[.nilIface, .bool false]) w := run_typeAssert_lacksB Tryf.underlying38 (by kernel_rfl) (by kernel_rfl) v xT w
theorem hasUnwrapW (v : Value) (xT : TypeId) (w : World) : (Instr.typeAssert (.iface 46 v) xT 41 true).run Tryf.prog w = .ok (.tuple #[.iface 46 v, .bool true]) w := run_typeAssert_hasB Tryf.underlying41 (by kernel_rfl) v xT w
theorem methodUnwrap (v : Value) (w : World) : (Go.method 189 46 v "Unwrap").run Tryf.prog w = .ok (42, v) w := by kernel_rfl
/-- errors.Is(e, x), e a *fmt.wrapError that wraps x itself: one Unwrap, then equal. -/
theorem is_wrap_same (pb po : Nat) (b : Addr) (w : World) (h1 : w.cell? ⟨pb, po + 1, none⟩ = some (.iface 47 (.pointer (some b)))) :
    Calls Tryf.prog 6 #[.iface 46 (.pointer (some ⟨pb, po, none⟩)), .iface 47 (.pointer (some b))] w fun e w' => e = .returned (.bool true) ∧ w' = w := by
  obtain ⟨i, hi, hcmp⟩ := Option.map_eq_some_iff.1 isComp
  obtain ⟨j, hj, hjs⟩ := Option.map_eq_some_iff.1 isSize
  have h8 := call8
  have h32 := call32
  have mR := isMethodComparable
  have nE := noIsE
  have nW := noIsW
  have uW := hasUnwrapW
  have mU := methodUnwrap
  have heq := run_eql_iface_ptr_same (P := Tryf.prog) w b Tryf.underlying24 Tryf.underlying47 hi hcmp hj
  have hty := run_eql_iface_types (P := Tryf.prog) 46 47 (.pointer (some ⟨pb, po, none⟩)) (.pointer (some b)) Tryf.underlying24 (by decide) w
  go_enter Tryf.func6, Tryf.ntmps6
  go_wp2
  refine wp_loop_rounds 2 ?_
  rw [rounds_succ]
  go_wp2
  rw [rounds_succ]
  go_wp2
  go_ret
  exact ⟨rfl, rfl⟩

end Go.Proofs.Qxb6612367aFmt
