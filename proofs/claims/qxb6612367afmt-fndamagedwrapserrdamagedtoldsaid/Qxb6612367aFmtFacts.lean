/-
  fmt's two stops on this road (fmt.Sprintf on any format with no operand; fmt.errorf on the literal format, a sentinel and a string) as closed facts, and fmt.Errorf by its contract. The facts' make is the guide's worked Sentry texts', turned to this dump's numbers.
-/
import Derived.Test.Qxb6612367aFmtRows
import Derived.WalkKit
import Derived.WalkSpells
import Derived.WalkLawsBesides
import Derived.Stop.FmtLaws
import Derived.Stop.CallBack
import Derived.Stop.IfaceNil
import Derived.LaidEql
import Derived.Stop.Asserts
import Derived.RowKitTokens
namespace Go.Proofs.Qxb6612367aFmt
open Go.RowKit Go.Extern.Stop Go.Stop Go.Extern

/-- With no operand the walk over a format books none. -/
theorem walk_none : ∀ (fuel k : Nat) (l : List UInt8) (acc : List (Nat × UInt8 × Bool)) (r : List (Nat × UInt8 × Bool) × Nat), FmtDoors.walk 0 fuel k l acc = some r → r.1 = acc
  | 0, _, _, _, _, h => by simp [FmtDoors.walk] at h
  | _ + 1, _, [], _, _, h => by simp [FmtDoors.walk] at h; rw [← h]
  | fuel + 1, k, c :: l, acc, r, h => by
    unfold FmtDoors.walk at h
    split at h
    · exact walk_none fuel k l acc r h
    · dsimp only at h
      split at h
      · cases h
      · split at h
        · cases h
        · cases h; rfl
        · split at h
          · cases h
          · split at h
            · exact walk_none fuel k _ acc r h
            · rename_i hk
              simp at hk
theorem printed_none (f : ByteArray) : FmtStop.printed? f 0 = none ∨ FmtStop.printed? f 0 = some [] := by
  unfold FmtStop.printed?
  cases hw : FmtDoors.walk 0 (f.size + 1) 0 f.data.toList [] with
  | none => exact .inl rfl
  | some r =>
    refine .inr ?_
    have := walk_none _ _ _ _ _ hw
    simp [this]

/-- The name of a pointer type to an error of errors.New's make, as the given datum has it. -/
def nameOf : DataW Unit → String
  | .iface s _ => s
  | _ => ""
def name47 : String := nameOf Rows.laid_example_com_greyward_greyward_lists_ErrDamaged
def shape47 : List UInt8 := 14 :: FmtStop.pack name47.toUTF8.data.toList
theorem typeStr47 (w : World) : (typeStr 47).run Tryf.prog w = .ok name47 w := by kernel_rfl
theorem op47 (name : String) (a : Addr) (s : ByteArray) (w : World) (hc : w.cell? a = some (.string s)) :
    (FmtStop.operand name true 119 false (.iface 47 (.pointer (some a)))).run Tryf.prog w = .ok (shape47, s.data.toList) w := by
  have h1 := typeStr47 w
  have d2 : Tryf.t47.desc = .pointer 49 := rfl
  have d3 : Tryf.t49.desc = .named "errors.errorString" 48 := rfl
  simp [FmtStop.operand, h1, d2, d3, run_load, hc, shape47]
def shape9 : List UInt8 := [12, 6, 0, 0, 0, 0, 0, 0, 0, 115, 116, 114, 105, 110, 103]
theorem op9 (name : String) (t : ByteArray) (w : World) : (FmtStop.operand name true 115 false (.iface 9 (.string t))).run Tryf.prog w = .ok (shape9, FmtStop.pack t.data.toList) w := by kernel_rfl
theorem guardF (name : String) (w : World) : (FmtStop.guard name).run Tryf.prog w = .ok () w := by kernel_rfl
theorem ptr46 (w : World) : (FmtStop.ptrTo "fmt.wrapError").run Tryf.prog w = .ok 46 w := by kernel_rfl
theorem elem46 (w : World) : (elemOf 46).run Tryf.prog w = .ok 76 w := by kernel_rfl
theorem isError47 (w : World) : (FmtDoors.textMethod 47 "Error").run Tryf.prog w = .ok true w := by kernel_rfl
theorem fmtW (w : World) : (FmtDoors.printed ⟨#[37, 119, 58, 32, 37, 115]⟩ 2).run Tryf.prog w = .ok [(0, 119, false), (1, 115, false)] w := by kernel_rfl
theorem call12 (args : Array Value) (w : World) : (callFunc 12 args).run Tryf.prog w = ((FmtStop.errorf #[9, 27] #[24] args).run Tryf.prog w).andThen fun v w' => .ok (.value v) w' :=
  run_callFunc_extern Tryf.func12 (by kernel_rfl) (by kernel_rfl) (by kernel_rfl) (by kernel_rfl) args w
theorem call11 (args : Array Value) (w : World) : (callFunc 11 args).run Tryf.prog w = ((FmtStop.sprintf #[9, 27] #[9] args).run Tryf.prog w).andThen fun v w' => .ok (.value v) w' :=
  run_callFunc_extern Tryf.func11 (by kernel_rfl) (by kernel_rfl) (by kernel_rfl) (by kernel_rfl) args w

set_option maxHeartbeats 400000 in
theorem errorf10 (F : Interp) (a : Addr) (s t : ByteArray) (g : Nat) (w : World) (hF : F.answers w.tape) (hc0 : w.cell? ⟨g, 0, none⟩ = some (.iface 47 (.pointer (some a)))) (hc1 : w.cell? ⟨g, 1, none⟩ = some (.iface 9 (.string t))) (hs : w.cell? a = some (.string s)) :
    Calls Tryf.prog 10 #[.string ⟨#[37, 119, 58, 32, 37, 115]⟩, .slice (some ⟨g, 0, none⟩) 2 2] w fun e w' => e = .returned (.iface 46 (.pointer (some ⟨w.heap.size, 0, none⟩))) ∧
      ∃ x : ByteArray, w' = (w.alloc (.cells #[.string x, .iface 47 (.pointer (some a))] 76)).drew := by
  have hF' := answers_open hF
  have o1 := op47 "fmt.errorf" a s w hs
  have o2 := op9
  have o3 := guardF
  have o4 := ptr46
  have o5 := elem46
  have o6 := isError47
  have o7 := fmtW
  have o8 := call12
  go_enter Tryf.func10, Tryf.ntmps10
  go_wp2
  go_ret
  exact ⟨rfl, _, rfl⟩
end Go.Proofs.Qxb6612367aFmt
