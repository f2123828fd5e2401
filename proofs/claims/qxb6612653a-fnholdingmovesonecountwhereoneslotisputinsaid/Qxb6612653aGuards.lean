/-
  THE WALKS of the guards: zzBytes, zzTooBig, zzRowsEven; how the arguments are read.
-/
import Derived.Test.Qxb6612653aRows
import Derived.WalkKit
import Derived.WalkSpells
import Derived.WalkLawsBesides
namespace Go.Proofs.Qxb6612653a
open Go.RowKit
/-- A slice of integers as the walks read it: nothing, or cells in a row. -/
def Rd (k : IntKind) (w : World) (a : Option Addr) (len : Nat) (f : Nat → Int) : Prop :=
  len = 0 ∨ ∃ b off, a = some ⟨b, off, none⟩ ∧ b < w.heap.size ∧ ∀ j, j < len → w.cell? ⟨b, off + j, none⟩ = some (.int k (f j))
theorem Rd.below {k : IntKind} {w w' : World} {a : Option Addr} {len : Nat} {f : Nat → Int} (h : Rd k w a len f) (hb : Below w.heap.size w w') : Rd k w' a len f := by
  rcases h with h | ⟨b, off, ha, hl, hc⟩
  · exact .inl h
  · exact .inr ⟨b, off, ha, Nat.lt_of_lt_of_le hl hb.size, fun j hj => (hb.cell (p := ⟨b, off + j, none⟩) hl).trans (hc j hj)⟩
/-- A slice of slices of int32: nothing, or a row of slice headers, each read as above. -/
def RdM (w : World) (a : Option Addr) (R : Nat) (L : Nat → Nat) (g : Nat → Nat → Int) : Prop :=
  R = 0 ∨ ∃ b off, a = some ⟨b, off, none⟩ ∧ b < w.heap.size ∧ ∀ r, r < R → ∃ ar cr, w.cell? ⟨b, off + r, none⟩ = some (.slice ar (L r) cr) ∧ Rd .i32 w ar (L r) (g r) ∧ L r ≤ maxLen
theorem RdM.below {w w' : World} {a : Option Addr} {R : Nat} {L : Nat → Nat} {g : Nat → Nat → Int} (h : RdM w a R L g) (hb : Below w.heap.size w w') : RdM w' a R L g := by
  rcases h with h | ⟨b, off, ha, hl, hc⟩
  · exact .inl h
  · refine .inr ⟨b, off, ha, Nat.lt_of_lt_of_le hl hb.size, fun r hr => ?_⟩
    obtain ⟨ar, cr, h1, h2, h3⟩ := hc r hr
    exact ⟨ar, cr, (hb.cell (p := ⟨b, off + r, none⟩) hl).trans h1, h2.below hb, h3⟩
def GivesB (R : Bool → Prop) (w : World) (e : Ending) (w' : World) : Prop := ∃ b, R b ∧ e = .returned (.bool b) ∧ w = w'
set_option maxHeartbeats 1000000 in
theorem bytes19 (a a1 : Option Addr) (R c n1 c1 : Nat) (L : Nat → Nat) (g : Nat → Nat → Int) (x y z : Value) (w : World) (rm : RdM w a R L g) (hR : R ≤ maxLen) (hn : n1 ≤ maxLen) :
    Calls Try.prog 19 #[.slice a R c, .slice a1 n1 c1, x, y, z] w fun e w' => GivesB (fun b => b = true → R ≤ 1048576 ∧ (∀ r, r < R → L r ≤ 1048576) ∧ n1 ≤ 1048576) w e w' := by
  unfold maxLen at hR hn
  have RM : Hid _ := rm
  clear rm
  by_cases s0 : 1048576 < R
  · go_enter Try.func19, Try.ntmps19
    go_wp2
    go_ret
    exact ⟨false, (fun h => by cases h), rfl, rfl⟩
  · go_enter Try.func19, Try.ntmps19
    go_wp2
    go_loop [11, 12] (fun t i => ∃ k s : Nat, k ≤ R ∧ s ≤ 1048576 ∧ i = .int .i64 k ∧ t = .int .i64 s ∧ ∀ r, r < k → L r ≤ 1048576) (fun _ i => R - (intOf i).toNat)
    case atStart => exact ⟨0, R, Nat.zero_le _, by omega, rfl, by go_num, fun r hr => absurd hr (Nat.not_lt_zero _)⟩
    case round =>
      obtain ⟨k, s, hk, hs, rfl, rfl, hl⟩ := hrel
      have HL : Hid _ := hl
      clear hl
      by_cases hlt : k < R
      · rcases RM.out with h | ⟨b, off, rfl, hbl, hc⟩
        · omega
        obtain ⟨ar, cr, hcell, _, hm⟩ := hc k hlt
        unfold maxLen at hm
        clear hc RM
        by_cases h1 : 1048576 < L k
        · go_wp2
          go_ret
          exact ⟨false, (fun h => by cases h), rfl, rfl⟩
        · by_cases h2 : 1048576 < s + L k
          · go_wp2
            go_ret
            exact ⟨false, (fun h => by cases h), rfl, rfl⟩
          · go_wp2
            go_round
            case rel => exact ⟨k + 1, s + L k, by omega, by omega, by go_num, by go_num, fun r hr => by
              rcases Nat.lt_succ_iff_lt_or_eq.1 hr with h | rfl
              · exact HL.out r h
              · omega⟩
            case measure => simp [intOf]; omega
      · obtain rfl : k = R := by omega
        by_cases h1 : 1048576 < n1
        · go_wp2
          go_ret
          exact ⟨false, (fun h => by cases h), rfl, rfl⟩
        · by_cases h2 : 1048576 < s + n1
          · go_wp2
            go_ret
            exact ⟨false, (fun h => by cases h), rfl, rfl⟩
          · go_wp2
            go_ret
            exact ⟨true, fun _ => ⟨by omega, HL.out, by omega⟩, rfl, rfl⟩

set_option maxHeartbeats 1000000 in
theorem big10 (a a1 : Option Addr) (R c n1 c1 : Nat) (L : Nat → Nat) (g : Nat → Nat → Int) (w : World) (rm : RdM w a R L g) (hR : R ≤ 1048576) (hL : ∀ r, r < R → L r ≤ 1048576) (hn : n1 ≤ 1048576) :
    Calls Try.prog 10 #[.slice a R c, .slice a1 n1 c1, .slice none 0 0] w fun e w' => GivesB (fun _ => True) w e w' := by
  have RM : Hid _ := rm
  have HL : Hid _ := hL
  clear rm hL
  by_cases s0 : 65536 < R
  · go_enter Try.func10, Try.ntmps10
    go_wp2
    go_ret
    exact ⟨_, trivial, rfl, rfl⟩
  by_cases s1 : 65536 < n1
  · go_enter Try.func10, Try.ntmps10
    go_wp2
    go_ret
    exact ⟨_, trivial, rfl, rfl⟩
  go_enter Try.func10, Try.ntmps10
  go_wp2
  go_loop [7, 8] (fun t i => ∃ k s : Nat, k ≤ R ∧ s ≤ 1048576 ∧ i = .int .i64 k ∧ t = .int .i64 s) (fun _ i => R - (intOf i).toNat)
  case atStart => exact ⟨0, 8 * n1 + 8 * R, Nat.zero_le _, by omega, rfl, by go_num⟩
  case round =>
    obtain ⟨k, s, hk, hs, rfl, rfl⟩ := hrel
    by_cases hlt : k < R
    · rcases RM.out with h | ⟨b, off, rfl, hbl, hc⟩
      · omega
      obtain ⟨ar, cr, hcell, _, _⟩ := hc k hlt
      have hm := HL.out k hlt
      clear hc RM
      by_cases h2 : 1048576 < s + 4 * L k
      · go_wp2
        go_ret
        exact ⟨_, trivial, rfl, rfl⟩
      · go_wp2
        go_round
        case rel => exact ⟨k + 1, s + 4 * L k, by omega, by omega, by go_num, by go_num⟩
        case measure => simp [intOf]; omega
    · go_wp2
      go_ret
      exact ⟨_, trivial, rfl, rfl⟩
/-- What zzRowsEven says: the common length. -/
def Even (L : Nat → Nat) (R : Nat) (p : Nat) (b : Bool) : Prop := b = true → 0 < R → ∀ r, r < R → L r = p
def GivesE (Q : Nat → Bool → Prop) (w : World) (e : Ending) (w' : World) : Prop := ∃ (p : Nat) (b : Bool), Q p b ∧ e = .returned (.tuple #[.int .i64 p, .bool b]) ∧ w = w'
set_option maxHeartbeats 1000000 in
theorem even11 (a : Option Addr) (R c : Nat) (L : Nat → Nat) (g : Nat → Nat → Int) (w : World) (rm : RdM w a R L g) (hR : R ≤ 1048576) :
    Calls Try.prog 11 #[.slice a R c] w fun e w' => GivesE (Even L R) w e w' := by
  by_cases h0 : R = 0
  · subst h0
    clear rm
    go_enter Try.func11, Try.ntmps11
    go_wp2
    go_ret2
    exact ⟨0, true, fun _ h => absurd h (Nat.lt_irrefl _), rfl, rfl⟩
  rcases rm with h | ⟨b, off, rfl, hbl, hc⟩
  · exact absurd h h0
  obtain ⟨ar0, cr0, hcell0, _, _⟩ := hc 0 (by omega)
  rw [Nat.add_zero] at hcell0
  have HC : Hid _ := hc
  have hR0 : ((R : Int) == 0) = false := by simp; omega
  have hRp : 0 < R := by omega
  clear hc h0
  go_enter Try.func11, Try.ntmps11
  go_wp2
  go_loop [5] (fun i => ∃ k : Nat, 1 ≤ k ∧ (k ≤ R ∨ k = 1) ∧ i = .int .i64 k ∧ ∀ r, r < k → L r = L 0) (fun i => R - (intOf i).toNat)
  case atStart => exact ⟨1, Nat.le_refl _, .inr rfl, rfl, fun r hr => by rw [show r = 0 by omega]⟩
  case round =>
    obtain ⟨k, hk1, hk, rfl, hl⟩ := hrel
    have HL : Hid _ := hl
    clear hl
    by_cases hlt : k < R
    · obtain ⟨ar, cr, hcell, _, _⟩ := HC.out k hlt
      by_cases he : L k = L 0
      · have HE : Hid _ := he
        have hb : ((L k : Int) != (L 0 : Int)) = false := by simp [he]
        clear he
        go_wp2
        go_round
        case rel => exact ⟨k + 1, by omega, .inl (by omega), by go_num, fun r hr => by
          rcases Nat.lt_succ_iff_lt_or_eq.1 hr with h | rfl
          · exact HL.out r h
          · exact HE.out⟩
        case measure => simp [intOf]; omega
      · have hb : ((L k : Int) != (L 0 : Int)) = true := by simp; omega
        go_wp2
        go_ret2
        exact ⟨0, false, (fun h => by cases h), rfl, rfl⟩
    · go_wp2
      go_ret2
      exact ⟨L 0, true, fun _ _ r hr => HL.out r (by omega), rfl, rfl⟩
end Go.Proofs.Qxb6612653a
