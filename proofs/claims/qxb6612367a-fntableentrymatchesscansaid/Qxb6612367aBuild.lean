/-
  THE WALK of zzBuildTable.
-/
import Derived.Test.Qxb6612367aInv
import Derived.Deep.RegionWith
namespace Go.Proofs.Qxb6612367a
open Go.RowKit
open Go.ChangeMaps (setBlock)
theorem marks_hit (f : Nat → Int) (k : Nat) (h : ((k : Int) % 128 == 0) = true) : marks f (k + 1) = marks f k ++ [f k / 256] := by
  have : (k : Int) % 128 = 0 := by simpa using h
  rw [marks, if_pos (by omega)]
theorem marks_miss (f : Nat → Int) (k : Nat) (h : ((k : Int) % 128 == 0) = false) : marks f (k + 1) = marks f k := by
  have : ¬ (k : Int) % 128 = 0 := by simpa using h
  rw [marks, if_neg (by omega)]
/-- The changes, one after the other. -/
def chg (fi fo : Nat → Int) : Nat → List (Int × Int × Nat) → Prop
  | 0, l => l = []
  | n + 1, l => ∃ l0 c, chg fi fo n l0 ∧ l = upd l0 (fi n) (fo n) c
theorem TI.drew {w wr : World} {ve vb : Value} {es bs : List Int} {l : List (Int × Int × Nat)} {clock : Nat} (h : TI w wr ve vb es bs l clock) : TI w wr.drew ve vb es bs l clock := ⟨h.tabc, h.mapc, h.ent, h.blk, h.bel.drew⟩
set_option maxHeartbeats 1000000 in
theorem build7 (a0 a1 a2 : Option Addr) (n0 c0 n1 c1 c2 : Nat) (f0 f1 f2 : Nat → Int) (w : World) (r0 : Rd .u64 w a0 n0 f0) (r1 : Rd .u64 w a1 n1 f1) (r2 : Rd .u8 w a2 n1 f2) (hn0 : n0 ≤ 1048576) (hn1 : n1 ≤ 1048576)
    (hf0 : ∀ j, j < n0 → 0 ≤ f0 j ∧ f0 j ≤ 18446744073709551615) :
    Calls Try.prog 7 #[.slice a0 n0 c0, .slice a1 n1 c1, .slice a2 n1 c2] w fun e w' => e = .returned (.pointer (some ⟨w.heap.size + 1, 0, none⟩)) ∧
      ∃ ve vb l clock, TI w w' ve vb (firsts f0 n0) (marks f0 n0) l clock ∧ chg f1 f2 n1 l ∧ (n0 = 0 → ve = .slice none 0 0 ∧ vb = .slice none 0 0) := by
  have R0 : Hid _ := r0
  have R1 : Hid _ := r1
  have R2 : Hid _ := r2
  have HF : Hid _ := hf0
  clear r0 r1 r2 hf0
  go_enter Try.func7, Try.ntmps7
  go_wp2_with (go_at_call 12; refine (new12 _).mono ?_; rintro _ _ ⟨rfl, rfl⟩)
  go_loopw [8] (fun i wr => ∃ (k : Nat) (ve vb : Value), k ≤ n0 ∧ i = .int .i64 k ∧ TI w wr ve vb (firsts f0 k) (marks f0 k) [] 0 ∧ (k = 0 → ve = .slice none 0 0 ∧ vb = .slice none 0 0)) (fun i _ => n0 - (intOf i).toNat)
  case atStart =>
    refine ⟨0, .slice none 0 0, .slice none 0 0, Nat.zero_le _, rfl, ⟨?_, ?_, World.ownsRow_nil _ _ _ _, World.ownsRow_nil _ _ _ _, ((Below.refl _ _).alloc (Nat.le_refl _) _).alloc (by simp) _⟩, fun _ => ⟨rfl, rfl⟩⟩
    · exact heap_alloc2_new _ _ _
    · exact heap_alloc2_old _ _ _
  case round =>
    obtain ⟨k, ve, vb, hk, rfl, ti, hnil⟩ := hrel
    have HN : Hid _ := hnil
    clear hnil
    by_cases hlt : k < n0
    · rcases R0.out with h | ⟨b, off, rfl, hbl, hc⟩
      · omega
      have hcell : wr.cell? ⟨b, off + k, none⟩ = some (.int .u64 (f0 k)) := (ti.bel.cell (p := ⟨b, off + k, none⟩) hbl).trans (hc k hlt)
      have hfk := HF.out k hlt
      have TI0 : Hid _ := ti
      clear ti hc
      go_wp2_with fail
      refine (app13 (w.heap.size + 1) w.heap.size w.heap.size ve vb (firsts f0 k) (f0 k) _ TI0.out.tabc TI0.out.ent TI0.out.bel.size (by rw [firsts_len]; omega)).mono ?_
      rintro _ w1 ⟨rfl, ve', h1, h2, h3⟩
      have ti1 := TI0.out.step13 h1 h2 h3
      rw [← firsts_succ] at ti1
      have hcell1 : w1.cell? ⟨b, off + k, none⟩ = some (.int .u64 (f0 k)) := (ti1.bel.cell (p := ⟨b, off + k, none⟩) hbl).trans ((TI0.out.bel.cell (p := ⟨b, off + k, none⟩) hbl).symm.trans hcell)
      have TI1 : Hid _ := ti1
      clear h1 h2 h3 ti1 TI0 hcell
      go_wp2_with fail
      · refine (app14 (w.heap.size + 1) w.heap.size w.heap.size ve' vb (marks f0 k) (f0 k / 256) _ TI1.out.tabc TI1.out.blk TI1.out.bel.size (by rw [marks_len]; omega)).mono ?_
        rintro _ w2 ⟨rfl, vb', h1, h2, h3⟩
        have ti2 := TI1.out.step14 h1 h2 h3
        rw [← marks_hit f0 k (by assumption)] at ti2
        have TI2 : Hid _ := ti2
        clear h1 h2 h3 ti2 TI1 hcell1
        go_wp2
        go_roundw
        case rel => exact ⟨k + 1, ve', vb', by omega, by go_num, TI2.out, fun h => absurd h (by omega)⟩
        case measure => simp [intOf]; omega
      · have ti2 := TI1.out
        rw [← marks_miss f0 k (by assumption)] at ti2
        have TI2 : Hid _ := ti2
        clear ti2
        go_roundw
        case rel => exact ⟨k + 1, ve', vb, by omega, by go_num, TI2.out, fun h => absurd h (by omega)⟩
        case measure => simp [intOf]; omega
    · obtain rfl : k = n0 := by omega
      have TI0 : Hid _ := ti
      clear ti
      go_wp2
      obtain ⟨wo, rfl⟩ : ∃ wo : World, wo = wr := ⟨_, rfl⟩
      go_loopw [9] (fun i wr => ∃ (j : Nat) (ve vb : Value) (l : List (Int × Int × Nat)) (clock : Nat), j ≤ n1 ∧ i = .int .i64 j ∧ TI w wr ve vb (firsts f0 k) (marks f0 k) l clock ∧ chg f1 f2 j l ∧ (k = 0 → ve = .slice none 0 0 ∧ vb = .slice none 0 0)) (fun i _ => n1 - (intOf i).toNat)
      case atStart => exact ⟨0, ve, vb, [], 0, Nat.zero_le _, rfl, TI0.out, rfl, HN.out⟩
      case round =>
        obtain ⟨j, ve1, vb1, l, clock, hj, rfl, ti, hch, hnil⟩ := hrel
        have HN1 : Hid _ := hnil
        have TJ : Hid _ := ti
        have HC : Hid _ := hch
        clear ti hch TI0 hnil HN
        by_cases hjt : j < n1
        · rcases R1.out with h | ⟨b1, off1, rfl, hbl1, hc1⟩
          · omega
          rcases R2.out with h | ⟨b2, off2, rfl, hbl2, hc2⟩
          · omega
          have hcell1 : wr.cell? ⟨b1, off1 + j, none⟩ = some (.int .u64 (f1 j)) := (TJ.out.bel.cell (p := ⟨b1, off1 + j, none⟩) hbl1).trans (hc1 j hjt)
          have hcell2 : wr.cell? ⟨b2, off2 + j, none⟩ = some (.int .u8 (f2 j)) := (TJ.out.bel.cell (p := ⟨b2, off2 + j, none⟩) hbl2).trans (hc2 j hjt)
          clear hc1 hc2 R0 R1 R2 HF
          go_wp2
          go_region_with (go_at_call 11; refine (set11 (w.heap.size + 1) w.heap.size ve1 vb1 l clock (f1 j) (f2 j) _ ?_ ?_).mono ?_; exact TJ.out.tabc; exact TJ.out.mapc; rintro _ w2 ⟨rfl, c', rfl⟩)
          all_goals
            go_wp2
            go_roundw
            case rel => exact ⟨j + 1, ve1, vb1, upd l (f1 j) (f2 j) clock, c', by omega, by go_num, TJ.out.drew.step11, ⟨l, clock, HC.out, rfl⟩, HN1.out⟩
            case measure => simp [intOf]; omega
        · obtain rfl : j = n1 := by omega
          go_wp2
          go_ret
          exact ⟨rfl, ve1, vb1, l, clock, TJ.out, HC.out, HN1.out⟩
end Go.Proofs.Qxb6612367a
