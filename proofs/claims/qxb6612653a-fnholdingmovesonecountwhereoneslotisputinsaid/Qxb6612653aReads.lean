/-
  THE WALKS of zzSlotsValid and zzCountFilled.
-/
import Derived.Test.Qxb6612653aGuards
namespace Go.Proofs.Qxb6612653a
open Go.RowKit
def Ok1 (n : Nat) (v : Int) : Prop := v = -1 ∨ (0 ≤ v ∧ v < n)
set_option maxHeartbeats 1000000 in
theorem valid12 (a : Option Addr) (R c n : Nat) (L : Nat → Nat) (g : Nat → Nat → Int) (w : World) (rm : RdM w a R L g) (hR : R ≤ 1048576) (hL : ∀ r, r < R → L r ≤ 1048576) (hg : ∀ r p, r < R → p < L r → -2147483648 ≤ g r p ∧ g r p ≤ 2147483647) :
    Calls Try.prog 12 #[.slice a R c, .int .i64 n] w fun e w' => GivesB (fun b => b = true → ∀ r p, r < R → p < L r → Ok1 n (g r p)) w e w' := by
  have RM : Hid _ := rm
  have HL : Hid _ := hL
  have HG : Hid _ := hg
  clear rm hL hg
  go_enter Try.func12, Try.ntmps12
  go_wp2
  go_loop [5] (fun i => ∃ k : Nat, k ≤ R ∧ i = .int .i64 k ∧ ∀ r p, r < k → p < L r → Ok1 n (g r p)) (fun i => R - (intOf i).toNat)
  case atStart => exact ⟨0, Nat.zero_le _, rfl, fun r p hr => absurd hr (Nat.not_lt_zero _)⟩
  case round =>
    obtain ⟨k, hk, rfl, hv⟩ := hrel
    have HV : Hid _ := hv
    clear hv
    by_cases hlt : k < R
    · rcases RM.out with h | ⟨b, off, rfl, hbl, hc⟩
      · omega
      obtain ⟨ar, cr, hcell, hrd, _⟩ := hc k hlt
      have hm := HL.out k hlt
      have RR : Hid _ := hrd
      clear hc RM hrd
      go_wp2
      go_loop [7] (fun i => ∃ q : Nat, q ≤ L k ∧ i = .int .i64 q ∧ ∀ p, p < q → Ok1 n (g k p)) (fun i => L k - (intOf i).toNat)
      case atStart => exact ⟨0, Nat.zero_le _, rfl, fun p hp => absurd hp (Nat.not_lt_zero _)⟩
      case round =>
        obtain ⟨q, hq, rfl, hu⟩ := hrel
        have HU : Hid _ := hu
        clear hu
        by_cases hqt : q < L k
        · rcases RR.out with h | ⟨b1, off1, rfl, hbl1, hc1⟩
          · omega
          have hcell1 := hc1 q hqt
          have hgb := HG.out k q hlt hqt
          clear hc1 RR
          by_cases h1 : g k q = -1
          · have hb : (g k q == -1) = true := by simpa using h1
            have H1 : Hid _ := h1
            clear h1
            go_wp2
            go_round
            case rel => exact ⟨q + 1, by omega, by go_num, fun p hp => by
              rcases Nat.lt_succ_iff_lt_or_eq.1 hp with h | rfl
              · exact HU.out p h
              · exact .inl H1.out⟩
            case measure => simp [intOf]; omega
          · have hb : (g k q == -1) = false := by simpa using h1
            by_cases h2 : g k q < 0
            · go_wp2
              go_ret
              exact ⟨false, (fun h => by cases h), rfl, rfl⟩
            · by_cases h3 : (n : Int) ≤ g k q
              · go_wp2
                go_ret
                exact ⟨false, (fun h => by cases h), rfl, rfl⟩
              · go_wp2
                go_round
                case rel => exact ⟨q + 1, by omega, by go_num, fun p hp => by
                  rcases Nat.lt_succ_iff_lt_or_eq.1 hp with h | rfl
                  · exact HU.out p h
                  · exact .inr ⟨by omega, by omega⟩⟩
                case measure => simp [intOf]; omega
        · go_wp2
          go_round
          case rel => exact ⟨k + 1, by omega, by go_num, fun r p hr hp => by
            rcases Nat.lt_succ_iff_lt_or_eq.1 hr with h | rfl
            · exact HV.out r p h hp
            · exact HU.out p (by omega)⟩
          case measure => simp [intOf]; omega
    · obtain rfl : k = R := by omega
      go_wp2
      go_ret
      exact ⟨true, fun _ => HV.out, rfl, rfl⟩
/-- How many of the first p are filled. -/
def rowFill (f : Nat → Int) : Nat → Nat
  | 0 => 0
  | p + 1 => rowFill f p + (if f p = -1 then 0 else 1)
def matFill (g : Nat → Nat → Int) (P : Nat) : Nat → Nat
  | 0 => 0
  | r + 1 => matFill g P r + rowFill (g r) P
theorem rowFill_le (f : Nat → Int) (p : Nat) : rowFill f p ≤ p := by
  induction p with
  | zero => exact Nat.le_refl _
  | succ p ih => unfold rowFill; split <;> omega
theorem matFill_le (g : Nat → Nat → Int) (P r : Nat) : matFill g P r ≤ r * P := by
  induction r with
  | zero => simp [matFill]
  | succ r ih => unfold matFill; have := rowFill_le (g r) P; rw [Nat.succ_mul]; omega
set_option maxHeartbeats 1000000 in
theorem count18 (a : Option Addr) (R c P : Nat) (g : Nat → Nat → Int) (w : World) (rm : RdM w a R (fun _ => P) g) (hR : R ≤ 1048576) (hP : P ≤ 1048576) :
    Calls Try.prog 18 #[.slice a R c] w fun e w' => e = .returned (.int .i64 (matFill g P R)) ∧ w = w' := by
  have RM : Hid _ := rm
  clear rm
  have hmul : ∀ k, k ≤ R → k * P ≤ 1099511627776 := fun k hk => Nat.le_trans (Nat.mul_le_mul (Nat.le_trans hk hR) hP) (by decide)
  have HMUL : Hid _ := hmul
  clear hmul
  go_enter Try.func18, Try.ntmps18
  go_wp2
  go_loop [3, 4] (fun t i => ∃ k : Nat, k ≤ R ∧ i = .int .i64 k ∧ t = .int .i64 (matFill g P k)) (fun _ i => R - (intOf i).toNat)
  case atStart => exact ⟨0, Nat.zero_le _, rfl, rfl⟩
  case round =>
    obtain ⟨k, hk, rfl, rfl⟩ := hrel
    have hf := matFill_le g P k
    have hf2 := HMUL.out k hk
    have hf3 : matFill g P k ≤ 1099511627776 := by omega
    clear hf hf2
    by_cases hlt : k < R
    · rcases RM.out with h | ⟨b, off, rfl, hbl, hc⟩
      · omega
      obtain ⟨ar, cr, hcell, hrd, _⟩ := hc k hlt
      have RR : Hid _ := hrd
      clear hc RM hrd
      go_wp2
      go_loop [3, 6] (fun t i => ∃ q : Nat, q ≤ P ∧ i = .int .i64 q ∧ t = .int .i64 ((matFill g P k + rowFill (g k) q : Nat) : Int)) (fun _ i => P - (intOf i).toNat)
      case atStart => exact ⟨0, Nat.zero_le _, rfl, rfl⟩
      case round =>
        obtain ⟨q, hq, rfl, rfl⟩ := hrel
        have hr := rowFill_le (g k) q
        by_cases hqt : q < P
        · rcases RR.out with h | ⟨b1, off1, rfl, hbl1, hc1⟩
          · omega
          have hcell1 := hc1 q hqt
          clear hc1 RR
          by_cases h1 : g k q = -1
          · have hb : (g k q != -1) = false := by simpa using h1
            have E : Hid (rowFill (g k) (q + 1) = rowFill (g k) q) := by show rowFill (g k) (q + 1) = _; simp [rowFill, h1]
            clear h1
            go_wp2
            go_round
            case rel => exact ⟨q + 1, by omega, by go_num, by rw [E.out]⟩
            case measure => simp [intOf]; omega
          · have hb : (g k q != -1) = true := by simpa using h1
            have E : Hid (rowFill (g k) (q + 1) = rowFill (g k) q + 1) := by show rowFill (g k) (q + 1) = _; simp [rowFill, h1]
            clear h1
            go_wp2
            go_round
            case rel => exact ⟨q + 1, by omega, by go_num, by rw [E.out]; go_num⟩
            case measure => simp [intOf]; omega
        · obtain rfl : q = P := by omega
          go_wp2
          go_round
          case rel => exact ⟨k + 1, by omega, by go_num, rfl⟩
          case measure => simp [intOf]; omega
    · obtain rfl : k = R := by omega
      go_wp2
      go_ret
      exact ⟨rfl, rfl⟩
end Go.Proofs.Qxb6612653a
