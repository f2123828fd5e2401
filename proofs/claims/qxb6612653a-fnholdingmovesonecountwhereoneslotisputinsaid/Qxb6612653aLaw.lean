/-
  THE WALK of the law, function 6.
-/
import Derived.Test.Qxb6612653aPlain
namespace Go.Proofs.Qxb6612653a
open Go.RowKit
set_option maxHeartbeats 4000000 in
theorem law6 (a b : Option Addr) (R c n c1 : Nat) (row col j : Int) (L : Nat → Nat) (g : Nat → Nat → Int) (f : Nat → Int) (w : World) (rm : RdM w a R L g) (rd : Rd .i64 w b n f) (hR : R ≤ maxLen) (hn : n ≤ maxLen)
    (hg : ∀ r p, r < R → p < L r → -2147483648 ≤ g r p ∧ g r p ≤ 2147483647) (hj : -2147483648 ≤ j ∧ j ≤ 2147483647) :
    Calls Try.prog 6 #[.slice a R c, .slice b n c1, .int .i64 row, .int .i64 col, .int .i32 j] w fun e w' => e = .returned (.bool true) ∧ Below w.heap.size w w' := by
  have RM : Hid (RdM w a R L g) := rm
  have RD : Hid (Rd .i64 w b n f) := rd
  have HG : Hid _ := hg
  clear rm rd hg
  unfold maxLen at hR hn
  go_enter Try.func6, Try.ntmps6
  go_wp2_with fail
  refine (bytes19 a b R c n c1 L g _ _ _ w RM.out hR hn).mono ?_
  rintro _ w1 ⟨ok, hok, rfl, rfl⟩
  cases ok
  · clear hok
    go_wp2
    go_ret
    exact ⟨rfl, Below.refl _ _⟩
  obtain ⟨hR2, hL, hn2⟩ := hok rfl
  clear hok hR hn
  have HL : Hid _ := hL
  clear hL
  go_wp2_with fail
  refine (big10 a b R c n c1 L g w RM.out hR2 HL.out hn2).mono ?_
  rintro _ w1 ⟨big, -, rfl, rfl⟩
  cases big
  case true =>
    go_wp2
    go_ret
    exact ⟨rfl, Below.refl _ _⟩
  by_cases g1 : row < 0
  · go_wp2
    go_ret
    exact ⟨rfl, Below.refl _ _⟩
  obtain ⟨r, rfl⟩ : ∃ r : Nat, row = r := ⟨row.toNat, by omega⟩
  clear g1
  by_cases g2 : R ≤ r
  · go_wp2
    go_ret
    exact ⟨rfl, Below.refl _ _⟩
  go_wp2_with fail
  refine (even11 a R c L g w RM.out hR2).mono ?_
  rintro _ w1 ⟨P, ev, hev, rfl, rfl⟩
  cases ev
  · clear hev
    go_wp2
    go_ret
    exact ⟨rfl, Below.refl _ _⟩
  have hLP := hev rfl (by omega)
  have hP : P ≤ 1048576 := by rw [← hLP 0 (by omega)]; exact HL.out 0 (by omega)
  have RM2 : Hid (RdM w a R (fun _ => P) g) := by
    show RdM w a R (fun _ => P) g
    rcases RM.out with h | ⟨b, off, ha, hl, hc⟩
    · omega
    · refine .inr ⟨b, off, ha, hl, fun r hr => ?_⟩
      have := hc r hr
      rw [hLP r hr] at this
      exact this
  have HG2 : Hid (∀ r p, r < R → p < P → -2147483648 ≤ g r p ∧ g r p ≤ 2147483647) := by
    show ∀ r p, r < R → p < P → -2147483648 ≤ g r p ∧ g r p ≤ 2147483647
    intro r p hr hp
    exact HG.out r p hr (by rw [hLP r hr]; exact hp)
  clear hev hLP RM HG HL
  by_cases g3 : col < 0
  · go_wp2
    go_ret
    exact ⟨rfl, Below.refl _ _⟩
  obtain ⟨q, rfl⟩ : ∃ q : Nat, col = q := ⟨col.toNat, by omega⟩
  clear g3
  by_cases g4 : P ≤ q
  · go_wp2
    go_ret
    exact ⟨rfl, Below.refl _ _⟩
  by_cases g5 : j < 0
  · go_wp2
    go_ret
    exact ⟨rfl, Below.refl _ _⟩
  by_cases g6 : (n : Int) ≤ j
  · go_wp2
    go_ret
    exact ⟨rfl, Below.refl _ _⟩
  go_wp2_with fail
  refine (valid12 a R c n (fun _ => P) g w RM2.out hR2 (fun _ _ => hP) HG2.out).mono ?_
  rintro _ w1 ⟨va, hva, rfl, rfl⟩
  cases va
  · clear hva
    go_wp2
    go_ret
    exact ⟨rfl, Below.refl _ _⟩
  have HV : Hid _ := hva rfl
  clear hva
  go_wp2_with fail
  refine (clone13 a R c P g w RM2.out hR2 hP (by omega) (by omega)).mono ?_
  rintro _ w1 ⟨rfl, M1, s1, b1⟩
  have HM1 : Hid (MatAt w1 w.heap.size R P g) := M1
  have HS1 : Hid _ := s1
  have HB1 : Hid _ := b1
  clear M1 s1 b1
  go_wp2_with fail
  refine (ints14 b n c1 f w1 (RD.out.below HB1.out) hn2 (by omega)).mono ?_
  rintro _ w2 ⟨rfl, s2, b2⟩
  have HS2 : Hid _ := s2
  have HB2 : Hid _ := b2
  have HM2 : Hid (MatAt w2 w.heap.size R P g) := HM1.out.below (b2.mono (by rw [HS1.out]; exact Nat.le_refl _))
  clear s2 b2
  go_wp2_with fail
  refine (clone13 _ R R P g w2 (HM2.out.rd (by unfold maxLen; omega)) hR2 hP (by omega) (by omega)).mono ?_
  rintro _ w3 ⟨rfl, M3, s3, b3⟩
  have HM3 : Hid (MatAt w3 w2.heap.size R P g) := M3
  have HS3 : Hid _ := s3
  have HB3 : Hid _ := b3
  have hP2 : P ≤ maxLen := by unfold maxLen; omega
  have hr : r < R := by omega
  have hq : q < P := by omega
  have HM3' : Hid (MatAt w3 w.heap.size R P g) := HM2.out.below (b3.mono (by rw [HS2.out, HS1.out]; omega))
  have k1 : w3.cell? ⟨w.heap.size, r, none⟩ = some (.slice (some ⟨w.heap.size + 1 + r, 0, none⟩) P P) := by
    rw [cell_of_row _ _ r _ _ _ HM3'.out.1, hdrs, arrV_get R _ r hr, if_pos hr]
  have k2 := rowV_cell w3 _ _ _ _ _ q (HM3'.out.2 r hr) hq
  have k3 : w3.cell? ⟨w2.heap.size, r, none⟩ = some (.slice (some ⟨w2.heap.size + 1 + r, 0, none⟩) P P) := by
    rw [cell_of_row _ _ r _ _ _ HM3.out.1, hdrs, arrV_get R _ r hr, if_pos hr]
  have k4 := rowV_cell w3 _ _ _ _ _ q (HM3.out.2 r hr) hq
  have f4 := frozen_of_row w3 _ q _ _ (HM3.out.2 r hr)
  obtain ⟨x, hx⟩ : ∃ x, x = g r q := ⟨_, rfl⟩
  rw [← hx] at k2 k4
  have HX : Hid _ := hx
  have hxb := HG2.out r q hr hq
  rw [← hx] at hxb
  have hxo : Ok1 n x := by rw [hx]; exact HV.out r q hr hq
  have HXO : Hid (Ok1 n x) := hxo
  clear M3 s3 b3 hx hxo
  go_wp2_with fail
  refine (new15 _ _ _ _ _ _ _ _).mono ?_
  rintro _ w4 ⟨rfl, p1, p2, s4, b4⟩
  have sz : (w3.setCell ⟨w2.heap.size + 1 + r, q, none⟩ (.int .i32 j)).heap.size = w3.heap.size := by simp
  rw [sz] at p1 p2 s4 b4 ⊢
  have HM4 : Hid (MatAt w4 w2.heap.size R P (put2 g r q j)) := (HM3.out.put r q j hr).below (b4.mono (by rw [HS3.out]; exact Nat.le_refl _))
  have HM4' : Hid (MatAt w4 w.heap.size R P g) := HM3'.out.below ((((Below.refl _ _).setCell (by have h1 := HS1.out; have h2 := HS2.out; show _ ≤ w2.heap.size + 1 + r; omega) _).trans (b4.mono (by have h1 := HS1.out; have h2 := HS2.out; have h3 := HS3.out; omega))))
  have HB4 : Hid (Below w.heap.size w w4) := ((HB1.out.trans (HB2.out.mono (by rw [HS1.out]; omega))).trans (HB3.out.mono (by rw [HS2.out, HS1.out]; omega))).trans ((((Below.refl _ _).setCell (by have h1 := HS1.out; have h2 := HS2.out; show _ ≤ w2.heap.size + 1 + r; omega) _).trans (b4.mono (by have h1 := HS1.out; have h2 := HS2.out; have h3 := HS3.out; omega))))
  have HS4 : Hid _ := s4
  have HP1 : Hid _ := p1
  have HP2 : Hid _ := p2
  clear p1 p2 s4 b4 sz k1 k2 k3 k4 f4
  go_wp2_with fail
  refine (holding16 w3.heap.size w.heap.size R P n n _ g w4 HP1.out HP2.out (HM4'.out.rd hP2) HV.out hR2 hP hn2).mono ?_
  rintro _ w5 ⟨rfl, hd5, s5, b5⟩
  have HD5 : Hid _ := hd5
  have HS5 : Hid _ := s5
  have HB5 : Hid _ := b5
  clear hd5 s5 b5
  go_wp2_with fail
  refine (new15 _ _ _ _ _ _ _ _).mono ?_
  rintro _ w6 ⟨rfl, p1, p2, s6, b6⟩
  have HS6 : Hid _ := s6
  have HB6 : Hid _ := b6
  have HP1 : Hid _ := p1
  have HP2 : Hid _ := p2
  have HM6 : Hid (MatAt w6 w2.heap.size R P (put2 g r q j)) := HM4.out.below ((HB5.out.mono (by rw [HS4.out, HS3.out]; omega)).trans (b6.mono (by rw [HS5.out, HS4.out, HS3.out]; omega)))
  clear p1 p2 s6 b6
  have HJ : Hid (Ok1 n j) := .inr ⟨by omega, by omega⟩
  go_wp2_with fail
  refine (holding16 w5.heap.size w2.heap.size R P n n _ (put2 g r q j) w6 HP1.out HP2.out (HM6.out.rd hP2) (put2_ok g n P r q R j HV.out HJ.out) hR2 hP hn2).mono ?_
  rintro _ w7 ⟨rfl, hd7, s7, b7⟩
  have HM7 : Hid (MatAt w7 w2.heap.size R P (put2 g r q j)) := HM6.out.below (b7.mono (by rw [HS6.out, HS5.out, HS4.out, HS3.out]; omega))
  have hd5 : w7.heap[w4.heap.size]? = some (.cells (rowV .i64 n (cnts g P R 0)) 3 (0, 0)) := (b7.block _ (by rw [HS6.out, HS5.out]; omega)).trans ((HB6.out.block _ (by rw [HS5.out]; omega)).trans HD5.out)
  have HB7 : Hid (Below w.heap.size w w7) := by
    have q5 := HB5.out.mono (B' := w.heap.size) (by rw [HS4.out, HS3.out, HS2.out, HS1.out]; omega)
    have q6 := HB6.out.mono (B' := w.heap.size) (by rw [HS5.out, HS4.out, HS3.out, HS2.out, HS1.out]; omega)
    have q7 := b7.mono (B' := w.heap.size) (by rw [HS6.out, HS5.out, HS4.out, HS3.out, HS2.out, HS1.out]; omega)
    exact ((HB4.out.trans q5).trans q6).trans q7
  have HDA : Hid _ := hd5
  have HDB : Hid _ := hd7
  have hnn : ((n : Int) != (n : Int)) = false := by simp
  clear hd7 s7 b7 hd5
  have HTOT : Hid (sumTo (fun d => matCnt (put2 g r q j) P d R) n = matFill (put2 g r q j) P R) := sum_mat _ n P R (put2_ok g n P r q R j HV.out HJ.out)
  have hmul : R * P ≤ 1099511627776 := Nat.le_trans (Nat.mul_le_mul hR2 hP) (by decide)
  have HCB : Hid (∀ (g : Nat → Nat → Int) (k : Nat), matCnt g P k R ≤ 1099511627776) := by
    show ∀ (g : Nat → Nat → Int) (k : Nat), matCnt g P k R ≤ 1099511627776
    exact fun g k => Nat.le_trans (matCnt_le g P k R) hmul
  have HSUM : Hid (∀ k, k ≤ n → sumTo (fun d => matCnt (put2 g r q j) P d R) k ≤ 1099511627776) := by
    show ∀ k, k ≤ n → sumTo (fun d => matCnt (put2 g r q j) P d R) k ≤ 1099511627776
    intro k hk
    refine Nat.le_trans (sumTo_le _ k n hk) ?_
    rw [HTOT.out]
    exact Nat.le_trans (matFill_le _ P R) hmul
  clear hmul
  by_cases hxm : x = -1
  · have u1 : (x != -1) = false := by simpa using hxm
    have HXM : Hid _ := hxm
    clear hxm
    go_wp2
    go_loop [18, 19] (fun t i => ∃ k : Nat, k ≤ n ∧ i = .int .i64 k ∧ t = .int .i64 (sumTo (fun d => matCnt (put2 g r q j) P d R) k)) (fun _ i => n - (intOf i).toNat)
    case atStart => exact ⟨0, Nat.zero_le _, rfl, rfl⟩
    case round =>
      obtain ⟨k, hk, rfl, rfl⟩ := hrel
      have hsum := HSUM.out k hk
      by_cases hlt : k < n
      · have e1 := rowV_cell w7 _ _ _ _ _ k HDA.out hlt
        have e2 := rowV_cell w7 _ _ _ _ _ k HDB.out hlt
        rw [cnts_eq] at e1 e2
        have hc := matCnt_put g P k r q R j hq hr
        rw [← HX.out] at hc
        have hsum2 := HSUM.out (k + 1) (by omega)
        have hsuc : sumTo (fun d => matCnt (put2 g r q j) P d R) (k + 1) = sumTo (fun d => matCnt (put2 g r q j) P d R) k + matCnt (put2 g r q j) P k R := rfl
        obtain ⟨A, hA⟩ : ∃ A, A = matCnt g P k R := ⟨_, rfl⟩
        obtain ⟨B, hB⟩ : ∃ B, B = matCnt (put2 g r q j) P k R := ⟨_, rfl⟩
        have hAb : A ≤ 1099511627776 := by rw [hA]; exact HCB.out g k
        have hBb : B ≤ 1099511627776 := by rw [hB]; exact HCB.out _ k
        rw [← hA, ← hB] at hc
        rw [← hA] at e1
        rw [← hB] at e2
        rw [hsuc, ← hB] at hsum2
        have HSUC : Hid _ := hsuc
        have HB' : Hid _ := hB
        obtain ⟨T, hT⟩ : ∃ T, T = sumTo (fun d => matCnt (put2 g r q j) P d R) k := ⟨_, rfl⟩
        rw [← hT] at hsum hsum2 ⊢
        have HT : Hid _ := hT
        have HA' : Hid _ := hA
        clear hA hB hT hsuc
        by_cases h1 : j = (k : Int)
        · have t1 : ((k : Int) == j) = true := by simp; omega
          have o1 : one (j = (k : Int)) = 1 := by simp [one, h1]
          by_cases h2 : x = (k : Int)
          · have t2 : ((k : Int) == x) = true := by simp; omega
            have o2 : one (x = (k : Int)) = 1 := by simp [one, h2]
            rw [o1, o2] at hc
            have t3 : ((B : Int) != (A : Int) + 1 - 1) = false := by simp; omega
            have t4 : ((B : Int) != (A : Int)) = false := by simp; omega
            have HC : Hid _ := hc
            clear hc o1 o2 h1 h2
            go_wp2
            go_round
            case rel => exact ⟨k + 1, by omega, by go_num, by rw [HSUC.out, ← HT.out, ← HB'.out]; go_num⟩
            case measure => simp [intOf]; omega
          · have t2 : ((k : Int) == x) = false := by simp; omega
            have o2 : one (x = (k : Int)) = 0 := by simp [one, h2]
            rw [o1, o2] at hc
            have t3 : ((B : Int) != (A : Int) + 1) = false := by simp; omega
            have HC : Hid _ := hc
            clear hc o1 o2 h1 h2
            go_wp2
            go_round
            case rel => exact ⟨k + 1, by omega, by go_num, by rw [HSUC.out, ← HT.out, ← HB'.out]; go_num⟩
            case measure => simp [intOf]; omega
        · have t1 : ((k : Int) == j) = false := by simp; omega
          have o1 : one (j = (k : Int)) = 0 := by simp [one, h1]
          by_cases h2 : x = (k : Int)
          · have t2 : ((k : Int) == x) = true := by simp; omega
            have o2 : one (x = (k : Int)) = 1 := by simp [one, h2]
            rw [o1, o2] at hc
            have t3 : ((B : Int) != (A : Int) - 1) = false := by simp; omega
            have HC : Hid _ := hc
            clear hc o1 o2 h1 h2
            go_wp2
            go_round
            case rel => exact ⟨k + 1, by omega, by go_num, by rw [HSUC.out, ← HT.out, ← HB'.out]; go_num⟩
            case measure => simp [intOf]; omega
          · have t2 : ((k : Int) == x) = false := by simp; omega
            have o2 : one (x = (k : Int)) = 0 := by simp [one, h2]
            rw [o1, o2] at hc
            have t3 : ((B : Int) != (A : Int)) = false := by simp; omega
            have HC : Hid _ := hc
            clear hc o1 o2 h1 h2
            go_wp2
            go_round
            case rel => exact ⟨k + 1, by omega, by go_num, by rw [HSUC.out, ← HT.out, ← HB'.out]; go_num⟩
            case measure => simp [intOf]; omega
      · obtain rfl : k = n := by omega
        go_wp2_with fail
        refine (count18 _ R R P (put2 g r q j) w7 (HM7.out.rd hP2) hR2 hP).mono ?_
        rintro _ w8 ⟨rfl, rfl⟩
        have ht : ((sumTo (fun d => matCnt (put2 g r q j) P d R) k : Int) == (matFill (put2 g r q j) P R : Int)) = true := by rw [HTOT.out]; simp
        go_wp2
        go_ret
        exact ⟨rfl, HB7.out⟩
  · have u1 : (x != -1) = true := by simpa using hxm
    have hx0 : 0 ≤ x ∧ x < n := by
      rcases HXO.out with h | h
      · exact absurd h hxm
      · exact h
    obtain ⟨o, ho⟩ : ∃ o : Nat, x = o := ⟨x.toNat, by omega⟩
    have hpos := matCnt_pos g P o r q R hq hr (by rw [← HX.out]; exact ho)
    have e0 := rowV_cell w7 _ _ _ _ _ o HDA.out (by omega)
    rw [cnts_eq] at e0
    obtain ⟨E, hE⟩ : ∃ E, E = matCnt g P o R := ⟨_, rfl⟩
    rw [← hE] at e0 hpos
    have hto : x.toNat = o := by omega
    clear hxm hE
    rw [← hto] at e0
    clear hto ho
    go_wp2
    go_loop [18, 19] (fun t i => ∃ k : Nat, k ≤ n ∧ i = .int .i64 k ∧ t = .int .i64 (sumTo (fun d => matCnt (put2 g r q j) P d R) k)) (fun _ i => n - (intOf i).toNat)
    case atStart => exact ⟨0, Nat.zero_le _, rfl, rfl⟩
    case round =>
      obtain ⟨k, hk, rfl, rfl⟩ := hrel
      have hsum := HSUM.out k hk
      by_cases hlt : k < n
      · have e1 := rowV_cell w7 _ _ _ _ _ k HDA.out hlt
        have e2 := rowV_cell w7 _ _ _ _ _ k HDB.out hlt
        rw [cnts_eq] at e1 e2
        have hc := matCnt_put g P k r q R j hq hr
        rw [← HX.out] at hc
        have hsum2 := HSUM.out (k + 1) (by omega)
        have hsuc : sumTo (fun d => matCnt (put2 g r q j) P d R) (k + 1) = sumTo (fun d => matCnt (put2 g r q j) P d R) k + matCnt (put2 g r q j) P k R := rfl
        obtain ⟨A, hA⟩ : ∃ A, A = matCnt g P k R := ⟨_, rfl⟩
        obtain ⟨B, hB⟩ : ∃ B, B = matCnt (put2 g r q j) P k R := ⟨_, rfl⟩
        have hAb : A ≤ 1099511627776 := by rw [hA]; exact HCB.out g k
        have hBb : B ≤ 1099511627776 := by rw [hB]; exact HCB.out _ k
        rw [← hA, ← hB] at hc
        rw [← hA] at e1
        rw [← hB] at e2
        rw [hsuc, ← hB] at hsum2
        have HSUC : Hid _ := hsuc
        have HB' : Hid _ := hB
        obtain ⟨T, hT⟩ : ∃ T, T = sumTo (fun d => matCnt (put2 g r q j) P d R) k := ⟨_, rfl⟩
        rw [← hT] at hsum hsum2 ⊢
        have HT : Hid _ := hT
        have HA' : Hid _ := hA
        clear hA hB hT hsuc
        by_cases h1 : j = (k : Int)
        · have t1 : ((k : Int) == j) = true := by simp; omega
          have o1 : one (j = (k : Int)) = 1 := by simp [one, h1]
          by_cases h2 : x = (k : Int)
          · have t2 : ((k : Int) == x) = true := by simp; omega
            have o2 : one (x = (k : Int)) = 1 := by simp [one, h2]
            rw [o1, o2] at hc
            have t3 : ((B : Int) != (A : Int) + 1 - 1) = false := by simp; omega
            have t4 : ((B : Int) != (A : Int)) = false := by simp; omega
            have HC : Hid _ := hc
            clear hc o1 o2 h1 h2
            go_wp2
            go_round
            case rel => exact ⟨k + 1, by omega, by go_num, by rw [HSUC.out, ← HT.out, ← HB'.out]; go_num⟩
            case measure => simp [intOf]; omega
          · have t2 : ((k : Int) == x) = false := by simp; omega
            have o2 : one (x = (k : Int)) = 0 := by simp [one, h2]
            rw [o1, o2] at hc
            have t3 : ((B : Int) != (A : Int) + 1) = false := by simp; omega
            have HC : Hid _ := hc
            clear hc o1 o2 h1 h2
            go_wp2
            go_round
            case rel => exact ⟨k + 1, by omega, by go_num, by rw [HSUC.out, ← HT.out, ← HB'.out]; go_num⟩
            case measure => simp [intOf]; omega
        · have t1 : ((k : Int) == j) = false := by simp; omega
          have o1 : one (j = (k : Int)) = 0 := by simp [one, h1]
          by_cases h2 : x = (k : Int)
          · have t2 : ((k : Int) == x) = true := by simp; omega
            have o2 : one (x = (k : Int)) = 1 := by simp [one, h2]
            rw [o1, o2] at hc
            have t3 : ((B : Int) != (A : Int) - 1) = false := by simp; omega
            have HC : Hid _ := hc
            clear hc o1 o2 h1 h2
            go_wp2
            go_round
            case rel => exact ⟨k + 1, by omega, by go_num, by rw [HSUC.out, ← HT.out, ← HB'.out]; go_num⟩
            case measure => simp [intOf]; omega
          · have t2 : ((k : Int) == x) = false := by simp; omega
            have o2 : one (x = (k : Int)) = 0 := by simp [one, h2]
            rw [o1, o2] at hc
            have t3 : ((B : Int) != (A : Int)) = false := by simp; omega
            have HC : Hid _ := hc
            clear hc o1 o2 h1 h2
            go_wp2
            go_round
            case rel => exact ⟨k + 1, by omega, by go_num, by rw [HSUC.out, ← HT.out, ← HB'.out]; go_num⟩
            case measure => simp [intOf]; omega
      · obtain rfl : k = n := by omega
        go_wp2_with fail
        refine (count18 _ R R P (put2 g r q j) w7 (HM7.out.rd hP2) hR2 hP).mono ?_
        rintro _ w8 ⟨rfl, rfl⟩
        have ht : ((sumTo (fun d => matCnt (put2 g r q j) P d R) k : Int) == (matFill (put2 g r q j) P R : Int)) = true := by rw [HTOT.out]; simp
        go_wp2
        go_ret
        exact ⟨rfl, HB7.out⟩
end Go.Proofs.Qxb6612653a
