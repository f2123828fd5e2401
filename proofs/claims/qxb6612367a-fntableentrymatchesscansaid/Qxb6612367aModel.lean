/-
  THE WALKS of zzModelEntry (the scans), zzEntryDomain, zzBytes.
-/
import Derived.Test.Qxb6612367aBuild
namespace Go.Proofs.Qxb6612367a
open Go.RowKit
/-- The last change for an identity, among the first n. -/
def lastOf (fi fo : Nat → Int) (id : Int) : Nat → Option Int
  | 0 => none
  | n + 1 => if fi n = id then some (fo n) else lastOf fi fo id n
/-- What the scan over the entries gives. -/
def Scan (f : Nat → Int) (n : Nat) (id x : Int) (b : Bool) : Prop :=
  (∃ i, i < n ∧ f i / 256 = id ∧ x = low (f i) ∧ b = true) ∨ ((∀ i, i < n → f i / 256 ≠ id) ∧ x = 0 ∧ b = false)
def Model (f0 f1 f2 : Nat → Int) (n0 n1 : Nat) (id x : Int) (b : Bool) : Prop :=
  (∃ v, lastOf f1 f2 id n1 = some v ∧ x = v ∧ b = (v != 0)) ∨ (lastOf f1 f2 id n1 = none ∧ Scan f0 n0 id x b)
/-- A pair is handed back of which R is true; what was there is as it was. -/
def Gives (R : Int → Bool → Prop) (w : World) (e : Ending) (w' : World) : Prop := ∃ x b, R x b ∧ e = .returned (.tuple #[.int .u8 x, .bool b]) ∧ Below w.heap.size w w'
set_option maxHeartbeats 1000000 in
theorem model9 (a0 a1 a2 : Option Addr) (n0 c0 n1 c1 c2 : Nat) (f0 f1 f2 : Nat → Int) (id : Int) (w : World) (r0 : Rd .u64 w a0 n0 f0) (r1 : Rd .u64 w a1 n1 f1) (r2 : Rd .u8 w a2 n1 f2) (hn0 : n0 ≤ 1048576) (hn1 : n1 ≤ 1048576) :
    Calls Try.prog 9 #[.slice a0 n0 c0, .slice a1 n1 c1, .slice a2 n1 c2, .int .u64 id] w fun e w' => Gives (Model f0 f1 f2 n0 n1 id) w e w' := by
  have R0 : Hid _ := r0
  have R1 : Hid _ := r1
  have R2 : Hid _ := r2
  clear r0 r1 r2
  go_enter Try.func9, Try.ntmps9
  go_wp2
  go_loop [10] (fun i => ∃ k : Nat, k ≤ n1 ∧ i = .int .i64 ((k : Int) - 1) ∧ lastOf f1 f2 id n1 = lastOf f1 f2 id k) (fun i => (intOf i + 1).toNat)
  case atStart => exact ⟨n1, Nat.le_refl _, rfl, rfl⟩
  case round =>
    obtain ⟨k, hk, rfl, hl⟩ := hrel
    have HL : Hid _ := hl
    clear hl
    by_cases hk0 : 0 < k
    · obtain ⟨j, rfl⟩ : ∃ j, k = j + 1 := ⟨k - 1, by omega⟩
      rcases R1.out with h | ⟨b1, off1, rfl, hbl1, hc1⟩
      · omega
      rcases R2.out with h | ⟨b2, off2, rfl, hbl2, hc2⟩
      · omega
      have hcell1 := hc1 j (by omega)
      have hcell2 := hc2 j (by omega)
      clear hc1 hc2 R1 R2
      by_cases hq : f1 j = id
      · have hqb : (f1 j == id) = true := by simpa using hq
        have HQ : Hid _ := hq
        clear hq
        go_wp2
        go_quiet (fail)
        go_wp2
        go_ret2
        refine ⟨f2 j, f2 j != 0, .inl ⟨f2 j, ?_, rfl, rfl⟩, rfl, below_drewN (Below.refl _ _) _⟩
        rw [HL.out, lastOf, if_pos HQ.out]
      · have hqb : (f1 j == id) = false := by simpa using hq
        have HQ : Hid _ := hq
        clear hq
        go_wp2
        go_round
        case rel => exact ⟨j, by omega, by go_num, by rw [HL.out, lastOf, if_neg HQ.out]⟩
        case measure => simp [intOf]
    · obtain rfl : k = 0 := by omega
      clear R1 R2
      go_wp2
      go_loop [11] (fun i => ∃ k : Nat, k ≤ n0 ∧ i = .int .i64 k ∧ ∀ i, i < k → f0 i / 256 ≠ id) (fun i => n0 - (intOf i).toNat)
      case atStart => exact ⟨0, Nat.zero_le _, rfl, fun i hi => absurd hi (Nat.not_lt_zero _)⟩
      case round =>
        obtain ⟨k, hk, rfl, hs⟩ := hrel
        have HS : Hid _ := hs
        clear hs
        by_cases hlt : k < n0
        · rcases R0.out with h | ⟨b0, off0, rfl, hbl0, hc0⟩
          · omega
          have hcell0 := hc0 k hlt
          clear hc0 R0
          by_cases hq : f0 k / 256 = id
          · have hqb : (f0 k / 256 == id) = true := by simpa using hq
            have HQ : Hid _ := hq
            clear hq
            go_wp2
            go_ret2
            exact ⟨low (f0 k), true, .inr ⟨HL.out, .inl ⟨k, hlt, HQ.out, rfl, rfl⟩⟩, rfl, Below.refl _ _⟩
          · have hqb : (f0 k / 256 == id) = false := by simpa using hq
            have HQ : Hid _ := hq
            clear hq
            go_wp2
            go_round
            case rel => exact ⟨k + 1, by omega, by go_num, fun i hi => by
              rcases Nat.lt_succ_iff_lt_or_eq.1 hi with h | rfl
              · exact HS.out i h
              · exact HQ.out⟩
            case measure => simp [intOf]; omega
        · obtain rfl : k = n0 := by omega
          go_wp2
          go_ret2
          exact ⟨0, false, .inr ⟨HL.out, .inr ⟨HS.out, rfl, rfl⟩⟩, rfl, Below.refl _ _⟩

/-- The identities rise. -/
def Dom (f : Nat → Int) (n : Nat) : Prop := ∀ i, i + 1 < n → f i / 256 < f (i + 1) / 256
def GivesB (R : Bool → Prop) (w : World) (e : Ending) (w' : World) : Prop := ∃ b, R b ∧ e = .returned (.bool b) ∧ Below w.heap.size w w'
set_option maxHeartbeats 1000000 in
theorem domain6 (a0 : Option Addr) (n0 c0 : Nat) (f0 : Nat → Int) (w : World) (r0 : Rd .u64 w a0 n0 f0) (hn0 : n0 ≤ 1048576) :
    Calls Try.prog 6 #[.slice a0 n0 c0] w fun e w' => GivesB (fun b => b = true → Dom f0 n0) w e w' := by
  have R0 : Hid _ := r0
  clear r0
  go_enter Try.func6, Try.ntmps6
  go_wp2
  go_loopw [3] (fun i wr => ∃ k : Nat, k ≤ n0 ∧ i = .int .i64 k ∧ (∀ i, i + 1 < k → f0 i / 256 < f0 (i + 1) / 256) ∧ Below w.heap.size w wr) (fun i _ => n0 - (intOf i).toNat)
  case atStart => exact ⟨0, Nat.zero_le _, rfl, fun i hi => absurd hi (Nat.not_lt_zero _), Below.refl _ _⟩
  case round =>
    obtain ⟨k, hk, rfl, hd, hb⟩ := hrel
    have HD : Hid _ := hd
    clear hd
    by_cases hlt : k < n0
    · rcases R0.out with h | ⟨b0, off0, rfl, hbl0, hc0⟩
      · omega
      have hcell0 : wr.cell? ⟨b0, off0 + k, none⟩ = some (.int .u64 (f0 k)) := (hb.cell (p := ⟨b0, off0 + k, none⟩) hbl0).trans (hc0 k hlt)
      cases hz : (bits .and .u64 (f0 k) 255 == 0)
      · by_cases h7 : 7 < bits .and .u64 (f0 k) 255
        · clear hc0 R0
          go_wp2
          go_ret
          exact ⟨false, (fun h => by cases h), rfl, hb⟩
        · by_cases hk0 : k = 0
          · subst hk0
            have hcell00 : wr.cell? ⟨b0, off0, none⟩ = some (.int .u64 (f0 0)) := hcell0
            clear hc0 R0 hcell0
            go_wp2
            go_quiet (fail)
            go_wp2
            go_roundw
            case rel => exact ⟨1, by omega, by go_num, fun i hi => absurd hi (by omega), below_drewN hb _⟩
            case measure => simp [intOf]; omega
          · have hkp : 0 < k := by omega
            have hcell1 : wr.cell? ⟨b0, off0 + (k - 1), none⟩ = some (.int .u64 (f0 (k - 1))) := (hb.cell (p := ⟨b0, off0 + (k - 1), none⟩) hbl0).trans (hc0 (k - 1) (by omega))
            clear hc0 R0 hk0
            by_cases hq : f0 k / 256 ≤ f0 (k - 1) / 256
            · go_wp2
              go_quiet (fail)
              go_wp2
              go_ret
              exact ⟨false, (fun h => by cases h), rfl, below_drewN hb _⟩
            · have HQ : Hid _ := hq
              go_wp2
              go_quiet (fail)
              go_wp2
              go_roundw
              case rel => exact ⟨k + 1, by omega, by go_num, fun i hi => by
                by_cases hik : i + 1 = k
                · have e : k - 1 = i := by omega
                  have := HQ.out
                  rw [e] at this
                  rw [hik]
                  exact Int.not_le.1 this
                · exact HD.out i (by omega), below_drewN hb _⟩
              case measure => simp [intOf]; omega
      · clear hc0 R0
        go_wp2
        go_ret
        exact ⟨false, (fun h => by cases h), rfl, hb⟩
    · obtain rfl : k = n0 := by omega
      go_wp2
      go_ret
      exact ⟨true, fun _ => HD.out, rfl, hb⟩
set_option maxHeartbeats 1000000 in
theorem bytes5 (a0 a1 a2 : Option Addr) (n0 c0 n1 c1 n2 c2 : Nat) (id : Int) (w : World) (h0 : n0 ≤ maxLen) (h1 : n1 ≤ maxLen) (h2 : n2 ≤ maxLen) :
    Calls Try.prog 5 #[.slice a0 n0 c0, .slice a1 n1 c1, .slice a2 n2 c2, .int .u64 id] w fun e w' => GivesB (fun b => b = true → n0 ≤ 1048576 ∧ n1 ≤ 1048576 ∧ n2 ≤ 1048576) w e w' := by
  unfold maxLen at h0 h1 h2
  by_cases b0 : n0 ≤ 1048576
  · by_cases b1 : n1 ≤ 1048576
    · by_cases b2 : n2 ≤ 1048576
      · go_enter Try.func5, Try.ntmps5
        go_wp2
        all_goals go_ret
        all_goals exact ⟨_, fun _ => ⟨b0, b1, b2⟩, rfl, Below.refl _ _⟩
      · go_enter Try.func5, Try.ntmps5
        go_wp2
        all_goals go_ret
        all_goals exact ⟨false, (fun h => by cases h), rfl, Below.refl _ _⟩
    · go_enter Try.func5, Try.ntmps5
      go_wp2
      all_goals go_ret
      all_goals exact ⟨false, (fun h => by cases h), rfl, Below.refl _ _⟩
  · go_enter Try.func5, Try.ntmps5
    go_wp2
    all_goals go_ret
    all_goals exact ⟨false, (fun h => by cases h), rfl, Below.refl _ _⟩
end Go.Proofs.Qxb6612367a
