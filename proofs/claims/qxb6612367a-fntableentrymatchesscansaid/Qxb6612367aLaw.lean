/-
  THE WALK of FnTableEntryMatchesScan.
-/
import Derived.Test.Qxb6612367aPlain
namespace Go.Proofs.Qxb6612367a
open Go.RowKit
set_option maxHeartbeats 1000000 in
theorem law3 (a0 a1 a2 : Option Addr) (n0 c0 n1 c1 n2 c2 : Nat) (f0 f1 f2 : Nat → Int) (id : Int) (w : World) (r0 : Rd .u64 w a0 n0 f0) (r1 : Rd .u64 w a1 n1 f1) (r2 : Rd .u8 w a2 n2 f2) (h0 : n0 ≤ maxLen) (h1 : n1 ≤ maxLen) (h2 : n2 ≤ maxLen)
    (hf0 : ∀ j, j < n0 → 0 ≤ f0 j ∧ f0 j ≤ 18446744073709551615) :
    Calls Try.prog 3 #[.slice a0 n0 c0, .slice a1 n1 c1, .slice a2 n2 c2, .int .u64 id] w fun e w' => e = .returned (.bool true) ∧ Below w.heap.size w w' := by
  have R0 : Hid _ := r0
  have R1 : Hid _ := r1
  have R2 : Hid _ := r2
  have HF : Hid _ := hf0
  have M0 : Hid _ := h0
  have M1 : Hid _ := h1
  have M2 : Hid _ := h2
  unfold maxLen at h0 h1 h2
  clear r0 r1 r2 hf0
  go_enter Try.func3, Try.ntmps3
  go_wp2_with fail
  refine (bytes5 a0 a1 a2 n0 c0 n1 c1 n2 c2 id w M0.out M1.out M2.out).mono ?_
  rintro _ w1 ⟨b, hR, rfl, hb1⟩
  cases b
  · clear hR
    go_wp2
    go_ret
    exact ⟨rfl, hb1⟩
  obtain ⟨k0, k1, k2⟩ := hR rfl
  clear hR
  by_cases s0 : 65536 < n0
  · go_wp2
    go_ret
    exact ⟨rfl, hb1⟩
  by_cases s1 : 32768 < n1
  · go_wp2
    go_ret
    exact ⟨rfl, hb1⟩
  by_cases s2 : 65536 < n2
  · go_wp2
    go_ret
    exact ⟨rfl, hb1⟩
  by_cases s3 : n1 = n2
  · subst s3
    go_wp2_with fail
    refine (domain6 a0 n0 c0 f0 w1 (Rd.below R0.out hb1) k0).mono ?_
    rintro _ w2 ⟨b, hR, rfl, hb2⟩
    have hB2 : Below w.heap.size w w2 := hb1.trans (hb2.mono hb1.size)
    cases b
    · clear hR
      go_wp2
      go_ret
      exact ⟨rfl, hB2⟩
    have HD : Hid _ := hR rfl
    clear hR hb1 hb2
    go_wp2
    go_loop [9] (fun i => ∃ k : Nat, k ≤ n1 ∧ i = .int .i64 k) (fun i => n1 - (intOf i).toNat)
    case atStart => exact ⟨0, Nat.zero_le _, rfl⟩
    case round =>
      obtain ⟨k, hk, rfl⟩ := hrel
      by_cases hlt : k < n1
      · rcases R2.out with h | ⟨b2, off2, rfl, hbl2, hc2⟩
        · omega
        have hcell : w2.cell? ⟨b2, off2 + k, none⟩ = some (.int .u8 (f2 k)) := (hB2.cell (p := ⟨b2, off2 + k, none⟩) hbl2).trans (hc2 k hlt)
        clear hc2 R2
        by_cases h7 : 7 < f2 k
        · go_wp2
          go_ret
          exact ⟨rfl, hB2⟩
        · go_wp2
          go_round
          case rel => exact ⟨k + 1, by omega, by go_num⟩
          case measure => simp [intOf]; omega
      · obtain rfl : k = n1 := by omega
        go_wp2_with fail
        refine (build7 a0 a1 a2 n0 c0 k c1 c2 f0 f1 f2 w2 (Rd.below R0.out hB2) (Rd.below R1.out hB2) (Rd.below R2.out hB2) k0 k1 HF.out).mono ?_
        rintro _ w3 ⟨rfl, ve, vb, l, clock, ti, hch, hnil⟩
        have hb3 := ti.bel
        have hB3 : Below w.heap.size w w3 := hB2.trans (hb3.mono hB2.size)
        have E8 : Hid _ := entry_all f0 f1 f2 n0 k id w2 w3 ve vb l clock ti hch hnil k0 HD.out
        clear ti hch hnil hb3
        go_wp2_with fail
        refine Calls.mono E8 ?_
        rintro _ w4 ⟨x, b, hM, rfl, hb4⟩
        have hB4 : Below w.heap.size w w4 := hB3.trans (hb4.mono hB3.size)
        have HM : Hid _ := hM
        clear hM hb4 E8
        go_wp2_with fail
        refine (model9 a0 a1 a2 n0 c0 k c1 c2 f0 f1 f2 id w4 (Rd.below R0.out hB4) (Rd.below R1.out hB4) (Rd.below R2.out hB4) k0 k1).mono ?_
        rintro _ w5 ⟨y, c, hN, rfl, hb5⟩
        obtain ⟨rfl, rfl⟩ := model_unique f0 f1 f2 n0 k id HD.out x y b c HM.out hN
        have hB5 : Below w.heap.size w w5 := hB4.trans (hb5.mono hB4.size)
        clear hN HM hb5
        go_wp2
        go_ret
        exact ⟨rfl, hB5⟩
  · have hne : ((n1 : Int) != (n2 : Int)) = true := by simp; omega
    go_wp2
    go_ret
    exact ⟨rfl, hb1⟩
end Go.Proofs.Qxb6612367a
