/-
  THE PROOF OF THE TOLD AND TIED CARD 'Rows.FnDamagedWrapsErrDamagedToldSaid': the walk is taken at F.told; nothing of fmt's text is looked at.
-/
import Derived.Test.Qxb6612367aFmtLaw
import Derived.Test.Qxb6612367aFmtTie
import Derived.Test.Qxb6612367aFmtCards
import Derived.ProofKit
import Derived.LaidMore
import Derived.OpenShut
import Derived.OpenVars
import Derived.ShutString
import Derived.MakeChecks
import Derived.Stop.Joined
import Derived.Stop.JoinedTold
import Derived.Stop.LaidErr
import Derived.Deep.DeepWitnessRef
import Derived.SevenTiedAt
namespace Go.Proofs.Qxb6612367aFmt
open Go.ChangeShapes Go.WideShapes Go.ChangeAt Go.RowKit
open Go.ChangeMaps (open_string shut_string)
open Go.Extern.Stop Go.Stop Go.Extern

theorem own : ownKnob Tryf.prog.godebug = none := by kernel_rfl
theorem laidOut : laidOutB Tryf.pinned.checked.prog = true := by kernel_rfl
theorem stops : Tryf.pinned.checked.prog.stops = ["fmt.Sprintf", "fmt.errorf"] := by kernel_rfl
theorem stopKnobs : Tryf.pinned.checked.prog.stopKnobs = [] := by kernel_rfl
theorem quietF (os : Os) : Stop.quiet Tryf.pinned.checked.prog os := by
  intro k hk
  rw [stopKnobs] at hk
  cases hk
theorem gErr : Tryf.prog.globalNamed (Rows.fnDamagedWrapsErrDamagedSpec.vars.getD 0 "") = some 0 := by kernel_rfl
theorem tErr : (Tryf.prog.globals[0]?).map (·.type) = some 24 := by kernel_rfl
theorem cells49 : Tryf.prog.cellsOf 49 = 1 := by kernel_rfl
theorem cells9 : Tryf.prog.cellsOf 9 = 1 := by kernel_rfl
theorem row47 (u : TypeId) (h : Tryf.prog.typeName? 3 u = some name47) : u = 47 :=
  typeName_ptr_named (nm := "errors.errorString") (by kernel_rfl) (by kernel_rfl) (by decide) u (h.trans (congrArg some (by decide +kernel)))

theorem door_met (os : Os) (args : Array Value) : laidMetH Tryf.prog Rows.fnDamagedWrapsErrDamagedRow.laid ((World.doorLaid Tryf.prog 400 os).forCall (fun _ _ => 0) ⟨#[], args, []⟩).memory :=
  laidMetH_of_parts3 (fuel := 8) (laidMet_of_run' 8 (by kernel_rfl) (by kernel_rfl)) (by kernel_rfl) (by kernel_rfl)

set_option maxRecDepth 100000 in
theorem lifted (os : Os) (started : os.Started) (H : Type) (enc : TypeId × Value → H) :
    ReturnsInTold none {} Tryf.checked os 3 .any Input.okWide ((OpenSpec.ofChange Rows.fnDamagedWrapsErrDamagedSpec).preRow enc Tryf.prog Tryf.f3 Rows.fnDamagedWrapsErrDamagedRow.domain false Rows.fnDamagedWrapsErrDamagedRow.laid)
      (fun F => ((OpenSpec.ofChange Rows.fnDamagedWrapsErrDamagedSpec).at F).post enc Tryf.prog Tryf.f3 false true false false) (aloneAtReturn Tryf.prog) nothingAlways := by
  refine returnsInTold_of_row (C := Tryf.checked) (s := OpenSpec.ofChange Rows.fnDamagedWrapsErrDamagedSpec) (by kernel_rfl) own started (by kernel_rfl) Tryf.func3
    (OpenSpec.witness_stopped_atRef (enc := enc) (C := Tryf.checked) false (World.doorLaid Tryf.prog 400 os) #[.string ⟨#[]⟩] rfl (by kernel_rfl) (by kernel_rfl) (by kernel_rfl)
      (OpenSpec.preRow_of_B rfl 8 (by kernel_rfl) (by kernel_rfl) (door_met os _))) ?_
  intro F W base args ds gs before _ hF hval0 hW _ _ _ hL _
  have hval : ∀ (j : Nat) t v, Tryf.f3.params[j]? = some t → args[j]? = some v → Value.okWide Tryf.prog W .any base t v := hval0
  have hW' := hW
  obtain ⟨p, q, hA0, hV, rfl, hfz, hnd⟩ := hW
  have hA : DataW.TrodAll enc Tryf.prog W 0 (fun _ => true) true Tryf.f3.params.toList args.toList ds p := hA0
  rw [Tryf.params3] at hA hval
  obtain ⟨v0, d0, rfl, rfl, h0⟩ := trodAll_one hA
  obtain ⟨f, rfl, rfl, rfl, hf⟩ := open_string Tryf.underlying9 (hval 0 9 v0 rfl rfl) h0
  obtain ⟨_, _, _, _, g0, _, rfl, _⟩ := trodVars_one hV
  have hL' : laidMet Tryf.prog Rows.fnDamagedWrapsErrDamagedRow.laid W := by rw [← MakeChecks.laidMetH_plain _ _ _ (by kernel_rfl)]; exact hL
  obtain ⟨a, s, hv, hc, _, _⟩ := laid_sentinel (g := 0) (tp := 47) (te := 49) (ts := 9) hL' gErr tErr Tryf.underlying24 row47 Tryf.underlying47 Tryf.underlying49 rfl rfl Tryf.underlying9 cells49 cells9
  have hg : W.cell? ⟨0, 0, none⟩ = some (.iface 47 (.pointer (some a))) := by simpa using World.var?_cell gErr hv 0
  clear hA0 hval0
  refine (law3 F.told a s f W hF hg hc hf).mono fun e W' ⟨he, bel⟩ => ?_
  subst he
  exact ⟨_, rfl, _, _, _, [], _, q, hW', trodAll_mk1 (shut_bool Tryf.underlying4 _), trodAll_mk1 (shut_string Tryf.underlying9 hf), Below.trodVars laidOut bel (by kernel_rfl) hV, bel.frame _, fun h => by cases h⟩

/-- THE TOLD AND TIED CARD. -/
theorem proved : Rows.FnDamagedWrapsErrDamagedToldSaid :=
  Claim7.holds_of_told_tied_any_at .later 3 Tryf.f3 "fmt.Sprintf" ["fmt.errorf"] [] (true, "e280bd1fe7d4680936539b75d916f5049909a4992ec2db33a71538653a48bf9d") true false [.sentinel] true (by kernel_rfl) rfl rfl rfl laidOut (by kernel_rfl) rfl ⟨rfl, rfl, rfl, rfl, rfl, rfl, rfl⟩ rfl rfl (by kernel_rfl) (by kernel_rfl) Tryf.func3 (by kernel_rfl)
    (of_decide_eq_true (by kernel_rfl)) (of_decide_eq_true (by kernel_rfl)) stops.symm rfl stopKnobs.symm (by kernel_rfl)
    (by kernel_rfl) (by kernel_rfl) (by kernel_rfl) (by kernel_rfl) (by kernel_rfl) (by kernel_rfl) (by kernel_rfl) (by kernel_rfl) (by kernel_rfl) rfl (by kernel_rfl) rfl rfl
    rfl rfl
    rfl (by kernel_rfl) (by kernel_rfl) (by kernel_rfl) (by decide) (by kernel_rfl) fnDamagedWrapsErrDamaged_row_tie
    (OpenClaim.moreEntering_of (by kernel_rfl) (by kernel_rfl) (by kernel_rfl) (by kernel_rfl) (by kernel_rfl) (by kernel_rfl) (by kernel_rfl) (by kernel_rfl) (by kernel_rfl) (by kernel_rfl))
    ⟨_, WideRow.started_initial, quietF _⟩
    (fun os started _ H enc _ => lifted os started H enc)
end Go.Proofs.Qxb6612367aFmt
