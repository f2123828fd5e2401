/-
  THE WALK of the law FnWithIDInsertsInPlace, function 3.
-/
import Derived.Test.Qxb6609182aWith
namespace Go.Proofs.Qxb6609182a
open Go.RowKit
theorem Up.le {f : Nat → Int} {n : Nat} (h : Up f n) (i : Nat) : ∀ j, i ≤ j → j < n → f i ≤ f j := by
  intro j
  induction j with
  | zero => intro hi _; rw [show i = 0 by omega]; exact Int.le_refl _
  | succ j ih =>
    intro hi hj
    by_cases e : i = j + 1
    · rw [e]; exact Int.le_refl _
    · exact Int.le_trans (ih (by omega) (by omega)) (h j hj)
theorem Found.below {f : Nat → Int} {n p : Nat} {t : Int} (h : Found f n t p) (u : Up f n) (k : Nat) (hk : k < p) : f k < t :=
  Int.lt_of_le_of_lt (u.le k (p - 1) (by omega) (by have := h.1; omega)) (h.2.1 (by omega))
theorem Found.above {f : Nat → Int} {n p : Nat} {t : Int} (h : Found f n t p) (u : Up f n) (k : Nat) (hk : p ≤ k) (hn : k < n) : t ≤ f k :=
  Int.le_trans (h.2.2 (by omega)) (u.le p k hk hn)
theorem Rd.at {k : IntKind} {w w' : World} {b off len : Nat} {f : Nat → Int} (h : Rd k w (some ⟨b, off, none⟩) len f) (hb : Below w.heap.size w w') (j : Nat) (hj : j < len) : w'.cell? ⟨b, off + j, none⟩ = some (.int k (f j)) := by
  rcases h.below hb with h | ⟨b', off', e, _, hc⟩
  · omega
  · cases e; exact hc j hj
theorem Rd.form {k : IntKind} {w : World} {a : Option Addr} {len : Nat} {f : Nat → Int} (h : Rd k w a len f) (hl : 0 < len) : ∃ b off, a = some ⟨b, off, none⟩ := by
  rcases h with h | ⟨b, off, e, _, _⟩
  · omega
  · exact ⟨b, off, e⟩
set_option maxHeartbeats 4000000 in
theorem law3 (a : Option Addr) (n c : Nat) (id : Int) (f : Nat → Int) (w : World) (rd : Rd .u64 w a n f) (hn : n ≤ maxLen) :
    Calls Try.prog 3 #[.slice a n c, .int .u64 id] w fun e w' => e = .returned (.bool true) ∧ Below w.heap.size w w' := by
  have RD : Hid (Rd .u64 w a n f) := rd
  clear rd
  have hn0 : n ≤ 9223372036854775807 := by unfold maxLen at hn; omega
  go_enter Try.func3, Try.ntmps3
  go_wp2_with fail
  refine (bytes5 a n c _ w hn).mono ?_
  rintro _ w1 ⟨ok, hok, rfl, b1⟩
  have B1 : Hid (Below w.heap.size w w1) := b1
  clear b1
  cases ok
  · clear hok
    go_wp2
    go_ret
    exact ⟨rfl, B1.out⟩
  have hn2 := hok rfl
  clear hok hn hn0
  by_cases g1 : 65536 < n
  · go_wp2
    go_ret
    exact ⟨rfl, B1.out⟩
  go_wp2_with fail
  refine (mono6 a n c f w1 (RD.out.below B1.out) hn2).mono ?_
  rintro _ w2 ⟨ok, hok, rfl, b2⟩
  have B2 : Hid (Below w.heap.size w w2) := B1.out.trans (b2.mono B1.out.size)
  clear b2
  cases ok
  · clear hok
    go_wp2
    go_ret
    exact ⟨rfl, B2.out⟩
  have UP : Hid (Up f n) := hok rfl
  clear hok
  go_wp2_with fail
  refine (ids7 a n c f w2 (RD.out.below B2.out) hn2).mono ?_
  rintro _ w3 ⟨a3, c3, rfl, rd3, b3⟩
  have R3 : Hid (Rd .u64 w3 a3 n f) := rd3
  have B3 : Hid (Below w.heap.size w w3) := B2.out.trans (b3.mono B2.out.size)
  clear rd3 b3
  go_wp2_with fail
  refine (with8 a3 n c3 f id w3 R3.out (by omega)).mono ?_
  rintro _ w4 ⟨p, hf, g, cap, rfl, rd4, b4⟩
  have HF : Hid (Found f n id p) := hf
  have R4 : Hid (Rd .u64 w4 (some ⟨g, 0, none⟩) (n + 1) (ins f p id)) := rd4
  have B4 : Hid (Below w.heap.size w w4) := B3.out.trans (b4.mono B3.out.size)
  have RI : Hid (Rd .u64 w4 a3 n f) := R3.out.below b4
  have RA : Hid (Rd .u64 w4 a n f) := RD.out.below B4.out
  have hp : p ≤ n := hf.1
  have HS : Hid (w.heap.size ≤ w4.heap.size) := B4.out.size
  clear hf rd4 b4 R3 RD B1 B2 B3
  go_wp2
  go_loop [7, 8] (fun t i => ∃ k : Nat, k ≤ n ∧ i = .int .i64 k ∧ t = .int .i64 (min k p : Nat)) (fun _ i => n - (intOf i).toNat)
  case atStart => exact ⟨0, Nat.zero_le _, rfl, by simp⟩
  case round =>
    obtain ⟨k, hk, rfl, rfl⟩ := hrel
    by_cases hlt : k < n
    · obtain ⟨b0, off0, rfl⟩ := RA.out.form (by omega)
      have hcell := RA.out.at (Below.refl _ _) k hlt
      clear RA RI
      by_cases hkp : k < p
      · have hq := HF.out.below UP.out k hkp
        have hm : min k p = k := by omega
        have hm2 : min (k + 1) p = k + 1 := by omega
        rw [hm]
        have HM : Hid _ := hm2
        clear hm hm2
        go_wp2
        go_round
        case rel => exact ⟨k + 1, by omega, by go_num, by rw [HM.out]; go_num⟩
        case measure => simp [intOf]; omega
      · have hq := HF.out.above UP.out k (by omega) hlt
        have hq2 : ¬ f k < id := by omega
        have hm : min k p = p := by omega
        have hm2 : min (k + 1) p = p := by omega
        rw [hm]
        have HM : Hid _ := hm2
        clear hm hm2
        go_wp2
        go_round
        case rel => exact ⟨k + 1, by omega, by go_num, by rw [HM.out]⟩
        case measure => simp [intOf]; omega
    · obtain rfl : k = n := by omega
      have hm : min k p = p := by omega
      rw [hm]
      clear hm
      have hnn : ((k : Int) + 1 != (k : Int) + 1) = false := by simp
      go_wp2
      go_loopw [9] (fun i wr => ∃ q : Nat, q ≤ k ∧ i = .int .i64 q ∧ Below w4.heap.size w4 wr) (fun i _ => k - (intOf i).toNat)
      case atStart => exact ⟨0, Nat.zero_le _, rfl, Below.refl _ _⟩
      case round =>
        obtain ⟨q, hq, rfl, hb⟩ := hrel
        by_cases hqt : q < k
        · obtain ⟨b0, off0, rfl⟩ := RA.out.form (by omega)
          obtain ⟨b1, off1, rfl⟩ := RI.out.form (by omega)
          have c0 := RA.out.at hb q hqt
          have c1 := RI.out.at hb q hqt
          have e1 : (f q != f q) = false := by simp
          clear RA RI
          go_wp2
          go_quiet (fail)
          go_wp2
          go_roundw
          case rel => exact ⟨q + 1, by omega, by go_num, drewN_below hb _⟩
          case measure => simp [intOf]; omega
        · have HB5 : Hid (Below w4.heap.size w4 wr) := hb
          obtain ⟨w5, rfl⟩ : ∃ w5 : World, w5 = wr := ⟨_, rfl⟩
          clear hb
          go_wp2
          go_loopw [10] (fun i wr => ∃ q : Nat, q ≤ p ∧ i = .int .i64 q ∧ Below w4.heap.size w4 wr) (fun i _ => p - (intOf i).toNat)
          case atStart => exact ⟨0, Nat.zero_le _, rfl, HB5.out⟩
          case round =>
            obtain ⟨q, hq, rfl, hb⟩ := hrel
            by_cases hqt : q < p
            · obtain ⟨b0, off0, rfl⟩ := RA.out.form (by omega)
              have c0 := RA.out.at hb q (by omega)
              have c1 := R4.out.at hb q (by omega)
              rw [Nat.zero_add, show ins f p id q = f q by simp [ins, hqt]] at c1
              have e1 : (f q != f q) = false := by simp
              clear RA RI
              go_wp2
              go_quiet (fail)
              go_wp2
              go_roundw
              case rel => exact ⟨q + 1, by omega, by go_num, drewN_below hb _⟩
              case measure => simp [intOf]; omega
            · obtain rfl : q = p := by omega
              have HB6 : Hid (Below w4.heap.size w4 wr) := hb
              obtain ⟨w6, rfl⟩ : ∃ w6 : World, w6 = wr := ⟨_, rfl⟩
              have c1 := R4.out.at hb q (by omega)
              rw [Nat.zero_add, show ins f q id q = id by simp [ins]] at c1
              have e1 : (id != id) = false := by simp
              clear hb
              go_wp2
              go_loopw [11] (fun i wr => ∃ r : Nat, q ≤ r ∧ r ≤ k ∧ i = .int .i64 r ∧ Below w4.heap.size w4 wr) (fun i _ => k - (intOf i).toNat)
              case atStart => exact ⟨q, Nat.le_refl _, hp, rfl, HB6.out⟩
              case round =>
                obtain ⟨r, hqr, hrk, rfl, hb⟩ := hrel
                by_cases hrt : r < k
                · obtain ⟨b0, off0, rfl⟩ := RA.out.form (by omega)
                  have c0 := RA.out.at hb r (by omega)
                  have c2 := R4.out.at hb (r + 1) (by omega)
                  rw [Nat.zero_add, show ins f q id (r + 1) = f r by unfold ins; rw [if_neg (by omega), if_neg (by omega)]; rfl] at c2
                  have e2 : (f r != f r) = false := by simp
                  clear RA RI c1 e1
                  go_wp2
                  go_quiet (fail)
                  go_wp2
                  go_roundw
                  case rel => exact ⟨r + 1, by omega, by omega, by go_num, drewN_below hb _⟩
                  case measure => simp [intOf]; omega
                · clear RA RI c1 e1
                  have HB7 : Hid (Below w4.heap.size w4 wr) := hb
                  clear hb
                  go_wp2
                  go_ret
                  exact ⟨rfl, B4.out.trans (HB7.out.mono HS.out)⟩
end Go.Proofs.Qxb6609182a
