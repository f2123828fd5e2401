/-
  THE PLAIN LAW of FnWithIDOrderFree (two sorted rows of like counts are one row), and the walk of function 4.
-/
import Derived.Test.Qxb6609182aLaw
namespace Go.Proofs.Qxb6609182a
open Go.RowKit
theorem cnt_congr (f h : Nat → Int) (v : Int) (n : Nat) (e : ∀ i, i < n → f i = h i) : cnt f v n = cnt h v n := by
  induction n with
  | zero => rfl
  | succ n ih => simp only [cnt]; rw [ih (fun i hi => e i (by omega)), e n (by omega)]
theorem cnt_ins (f : Nat → Int) (p : Nat) (x v : Int) : ∀ n, p ≤ n → cnt (ins f p x) v (n + 1) = cnt f v n + (if x = v then 1 else 0) := by
  intro n
  induction n with
  | zero =>
    intro hp
    obtain rfl : p = 0 := by omega
    simp [cnt, ins]
  | succ n ih =>
    intro hp
    by_cases e : p = n + 1
    · subst e
      rw [cnt, cnt_congr (ins f (n + 1) x) f v (n + 1) (fun i hi => by simp [ins, hi])]
      simp [ins]
    · have h := ih (by omega)
      rw [cnt, h]
      have e2 : ins f p x (n + 1) = f n := by unfold ins; rw [if_neg (by omega), if_neg (by omega)]; rfl
      rw [e2]
      simp only [cnt]
      omega
theorem up_ins {f : Nat → Int} {n p : Nat} {x : Int} (u : Up f n) (h : Found f n x p) : Up (ins f p x) (n + 1) := by
  intro i hi
  have hp := h.1
  unfold ins
  by_cases h1 : i + 1 < p
  · rw [if_pos (by omega), if_pos h1]; exact u i (by omega)
  · by_cases h2 : i + 1 = p
    · rw [if_pos (by omega), if_neg h1, if_pos h2]
      exact Int.le_of_lt (h.below u i (by omega))
    · by_cases h3 : i = p
      · rw [if_neg (by omega), if_pos h3, if_neg h1, if_neg h2]
        exact h.above u (i + 1 - 1) (by omega) (by omega)
      · rw [if_neg (by omega), if_neg h3, if_neg h1, if_neg h2]
        have := u (i - 1) (by omega)
        rw [show i - 1 + 1 = i + 1 - 1 by omega] at this
        exact this
theorem cnt_zero (f : Nat → Int) (v : Int) (n : Nat) (h : ∀ i, i < n → f i ≠ v) : cnt f v n = 0 := by
  induction n with
  | zero => rfl
  | succ n ih => simp only [cnt]; rw [ih (fun i hi => h i (by omega)), if_neg (h n (by omega))]
theorem up_last {f g : Nat → Int} {m : Nat} (uf : Up f (m + 1)) (e : ∀ v, cnt f v (m + 1) = cnt g v (m + 1)) : g m ≤ f m := by
  by_cases h : g m ≤ f m
  · exact h
  · exfalso
    have h0 := cnt_zero f (g m) (m + 1) (fun i hi => by have := uf.le i m (by omega) (by omega); omega)
    rw [e (g m)] at h0
    simp [cnt] at h0
/-- Two rows in order that hold each number equally often are one row. -/
theorem up_eq {f g : Nat → Int} : ∀ m, Up f m → Up g m → (∀ v, cnt f v m = cnt g v m) → ∀ j, j < m → f j = g j := by
  intro m
  induction m with
  | zero => intro _ _ _ j hj; omega
  | succ m ih =>
    intro uf ug e
    have hl : f m = g m := by
      have h1 := up_last uf e
      have h2 := up_last ug (fun v => (e v).symm)
      omega
    have hr := ih (fun i hi => uf i (by omega)) (fun i hi => ug i (by omega)) (fun v => by
      have := e v
      simp only [cnt] at this
      rw [hl] at this
      omega)
    intro j hj
    by_cases h : j = m
    · rw [h]; exact hl
    · exact hr j (by omega)
theorem order_free {f : Nat → Int} {n p1 p2 q1 q2 : Nat} {a b : Int} (u : Up f n) (h1 : Found f n a p1) (h2 : Found (ins f p1 a) (n + 1) b p2) (k1 : Found f n b q1) (k2 : Found (ins f q1 b) (n + 1) a q2) :
    (∀ j, j < n + 2 → ins (ins f p1 a) p2 b j = ins (ins f q1 b) q2 a j) ∧ Up (ins (ins f p1 a) p2 b) (n + 2) ∧ ∀ v, cnt (ins (ins f p1 a) p2 b) v (n + 2) = cnt f v n + (if a = v then 1 else 0) + (if b = v then 1 else 0) := by
  have uF := up_ins (up_ins u h1) h2
  have uG := up_ins (up_ins u k1) k2
  have cF : ∀ v, cnt (ins (ins f p1 a) p2 b) v (n + 2) = cnt f v n + (if a = v then 1 else 0) + (if b = v then 1 else 0) := fun v => by rw [cnt_ins _ _ _ _ (n + 1) h2.1, cnt_ins _ _ _ _ n h1.1]
  have cG : ∀ v, cnt (ins (ins f q1 b) q2 a) v (n + 2) = cnt f v n + (if b = v then 1 else 0) + (if a = v then 1 else 0) := fun v => by rw [cnt_ins _ _ _ _ (n + 1) k2.1, cnt_ins _ _ _ _ n k1.1]
  exact ⟨up_eq (n + 2) uF uG (fun v => by rw [cF, cG]; omega), uF, cF⟩
set_option maxHeartbeats 4000000 in
theorem law4 (a : Option Addr) (n c : Nat) (x y : Int) (f : Nat → Int) (w : World) (rd : Rd .u64 w a n f) (hn : n ≤ maxLen) :
    Calls Try.prog 4 #[.slice a n c, .int .u64 x, .int .u64 y] w fun e w' => e = .returned (.bool true) ∧ Below w.heap.size w w' := by
  have RD : Hid (Rd .u64 w a n f) := rd
  clear rd
  have hn0 : n ≤ 9223372036854775807 := by unfold maxLen at hn; omega
  go_enter Try.func4, Try.ntmps4
  go_wp2_with fail
  refine (bytes9 a n c _ _ w hn).mono ?_
  rintro _ w1 ⟨ok, hok, rfl, b1⟩
  have B1 : Hid (Below w.heap.size w w1) := b1
  clear b1
  cases ok
  · clear hok
    go_wp2
    go_ret
    exact ⟨rfl, B1.out⟩
  have hn2 := hok rfl
  clear hok hn hn0
  by_cases g1 : 65536 < n
  · go_wp2
    go_ret
    exact ⟨rfl, B1.out⟩
  go_wp2_with fail
  refine (mono6 a n c f w1 (RD.out.below B1.out) hn2).mono ?_
  rintro _ w2 ⟨ok, hok, rfl, b2⟩
  have B2 : Hid (Below w.heap.size w w2) := B1.out.trans (b2.mono B1.out.size)
  clear b2
  cases ok
  · clear hok
    go_wp2
    go_ret
    exact ⟨rfl, B2.out⟩
  have UP : Hid (Up f n) := hok rfl
  clear hok
  go_wp2_with fail
  refine (ids7 a n c f w2 (RD.out.below B2.out) hn2).mono ?_
  rintro _ w3 ⟨a3, c3, rfl, rd3, b3⟩
  have R3 : Hid (Rd .u64 w3 a3 n f) := rd3
  have B3 : Hid (Below w.heap.size w w3) := B2.out.trans (b3.mono B2.out.size)
  clear rd3 b3 B1 B2 RD
  go_wp2_with fail
  refine (with8 a3 n c3 f x w3 R3.out (by omega)).mono ?_
  rintro _ w4 ⟨p1, hf1, g4, cap4, rfl, rd4, b4⟩
  have HF1 : Hid (Found f n x p1) := hf1
  have R4 : Hid (Rd .u64 w4 (some ⟨g4, 0, none⟩) (n + 1) (ins f p1 x)) := rd4
  have B4 : Hid (Below w.heap.size w w4) := B3.out.trans (b4.mono B3.out.size)
  have I4 : Hid (Rd .u64 w4 a3 n f) := R3.out.below b4
  clear hf1 rd4 b4 R3 B3
  go_wp2_with fail
  refine (with8 _ (n + 1) cap4 _ y w4 R4.out (by omega)).mono ?_
  rintro _ w5 ⟨p2, hf2, g5, cap5, rfl, rd5, b5⟩
  have HF2 : Hid (Found (ins f p1 x) (n + 1) y p2) := hf2
  have R5 : Hid (Rd .u64 w5 (some ⟨g5, 0, none⟩) (n + 2) (ins (ins f p1 x) p2 y)) := rd5
  have B5 : Hid (Below w.heap.size w w5) := B4.out.trans (b5.mono B4.out.size)
  have I5 : Hid (Rd .u64 w5 a3 n f) := I4.out.below b5
  clear hf2 rd5 b5 I4 R4 B4
  go_wp2_with fail
  refine (with8 a3 n c3 f y w5 I5.out (by omega)).mono ?_
  rintro _ w6 ⟨q1, kf1, g6, cap6, rfl, rd6, b6⟩
  have KF1 : Hid (Found f n y q1) := kf1
  have R6 : Hid (Rd .u64 w6 (some ⟨g6, 0, none⟩) (n + 1) (ins f q1 y)) := rd6
  have B6 : Hid (Below w.heap.size w w6) := B5.out.trans (b6.mono B5.out.size)
  have I6 : Hid (Rd .u64 w6 a3 n f) := I5.out.below b6
  have X6 : Hid (Rd .u64 w6 (some ⟨g5, 0, none⟩) (n + 2) (ins (ins f p1 x) p2 y)) := R5.out.below b6
  clear kf1 rd6 b6 I5 R5 B5
  go_wp2_with fail
  refine (with8 _ (n + 1) cap6 _ x w6 R6.out (by omega)).mono ?_
  rintro _ w7 ⟨q2, kf2, g7, cap7, rfl, rd7, b7⟩
  have KF2 : Hid (Found (ins f q1 y) (n + 1) x q2) := kf2
  have B7 : Hid (Below w.heap.size w w7) := B6.out.trans (b7.mono B6.out.size)
  have I7 : Hid (Rd .u64 w7 a3 n f) := I6.out.below b7
  have X7 : Hid (Rd .u64 w7 (some ⟨g5, 0, none⟩) (n + 2) (ins (ins f p1 x) p2 y)) := X6.out.below b7
  have Y7 : Hid (Rd .u64 w7 (some ⟨g7, 0, none⟩) (n + 2) (ins (ins f q1 y) q2 x)) := rd7
  clear kf2 rd7 b7 I6 X6 R6 B6
  have ALL := order_free UP.out HF1.out HF2.out KF1.out KF2.out
  obtain ⟨F, hF⟩ : ∃ F, F = ins (ins f p1 x) p2 y := ⟨_, rfl⟩
  obtain ⟨G, hG⟩ : ∃ G, G = ins (ins f q1 y) q2 x := ⟨_, rfl⟩
  rw [← hF] at ALL X7
  rw [← hG] at ALL Y7
  obtain ⟨hFG, hUF, hCF⟩ := ALL
  have HFG : Hid (∀ j, j < n + 2 → F j = G j) := hFG
  have HUF : Hid (Up F (n + 2)) := hUF
  have HCF : Hid (∀ v, cnt F v (n + 2) = cnt f v n + (if x = v then 1 else 0) + (if y = v then 1 else 0)) := hCF
  have HS : Hid (w.heap.size ≤ w7.heap.size) := B7.out.size
  have t1 : ((n : Int) + 1 + 1 != (n : Int) + 2) = false := by simp; omega
  have t2 : ((n : Int) + 2 != (n : Int) + 2) = false := by simp
  clear hF hG hFG hUF hCF HF1 HF2 KF1 KF2 UP
  go_wp2
  go_loopw [10] (fun i wr => ∃ k : Nat, k ≤ n + 2 ∧ i = .int .i64 k ∧ Below w7.heap.size w7 wr) (fun i _ => n + 2 - (intOf i).toNat)
  case atStart => exact ⟨0, Nat.zero_le _, rfl, Below.refl _ _⟩
  case round =>
    obtain ⟨k, hk, rfl, hb⟩ := hrel
    by_cases hlt : k < n + 2
    · have c0 := X7.out.at hb k hlt
      have c1 := Y7.out.at hb k hlt
      rw [← HFG.out k hlt] at c1
      rw [Nat.zero_add] at c0 c1
      have e1 : (F k != F k) = false := by simp
      by_cases hk0 : k = 0
      · subst hk0
        go_wp2
        go_quiet (fail)
        go_wp2
        go_quiet (fail)
        go_wp2
        go_roundw
        case rel => exact ⟨1, by omega, by go_num, drewN_below hb _⟩
        case measure => simp [intOf]
      · have hkp : 0 < k := by omega
        have c2 := X7.out.at hb (k - 1) (by omega)
        rw [Nat.zero_add] at c2
        have hle : ¬ F k < F (k - 1) := by
          have := HUF.out (k - 1) (by omega)
          rw [show k - 1 + 1 = k by omega] at this
          omega
        clear hk0
        go_wp2
        go_quiet (fail)
        go_wp2
        go_quiet (fail)
        go_wp2
        go_roundw
        case rel => exact ⟨k + 1, by omega, by go_num, drewN_below hb _⟩
        case measure => simp [intOf]; omega
    · have HB8 : Hid (Below w7.heap.size w7 wr) := hb
      have BF : Hid (Below w.heap.size w wr) := B7.out.trans (hb.mono HS.out)
      have X8 : Hid (Rd .u64 wr (some ⟨g5, 0, none⟩) (n + 1 + 1) F) := X7.out.below hb
      have I8 : Hid (Rd .u64 wr a3 n f) := I7.out.below hb
      have bx := cnt_le f x n
      have bY := cnt_le f y n
      have cx : cnt F x (n + 1 + 1) = _ := HCF.out x
      have cy : cnt F y (n + 1 + 1) = _ := HCF.out y
      clear hb
      by_cases hxy : x = y
      · have u1 : (x == y) = true := by simpa using hxy
        subst hxy
        simp only [if_true] at cx cy
        have v1 : ((cnt F x (n + 1 + 1) : Int) == (cnt f x n : Int) + 2) = true := by simp; omega
        have V1 : Hid _ := v1
        clear cx cy v1
        go_wp2_with fail
        refine (count10 _ (n + 1 + 1) cap5 F x wr X8.out (by omega)).mono ?_
        rintro _ w8 ⟨rfl, rfl⟩
        go_wp2_with fail
        refine (count10 a3 n c3 f x wr I8.out (by omega)).mono ?_
        rintro _ w8 ⟨rfl, rfl⟩
        have v1 := V1.out
        go_wp2_with fail
        refine (count10 _ (n + 1 + 1) cap5 F x wr X8.out (by omega)).mono ?_
        rintro _ w8 ⟨rfl, rfl⟩
        go_wp2_with fail
        refine (count10 a3 n c3 f x wr I8.out (by omega)).mono ?_
        rintro _ w8 ⟨rfl, rfl⟩
        go_wp2
        go_ret
        exact ⟨rfl, BF.out⟩
      · have u1 : (x == y) = false := by simpa using hxy
        have hyx : ¬ y = x := fun h => hxy h.symm
        simp only [if_true, if_neg hxy, if_neg hyx] at cx cy
        have v1 : ((cnt F x (n + 1 + 1) : Int) == (cnt f x n : Int) + 1) = true := by simp; omega
        have v2 : ((cnt F y (n + 1 + 1) : Int) == (cnt f y n : Int) + 1) = true := by simp; omega
        clear cx cy hxy hyx
        go_wp2_with fail
        refine (count10 _ (n + 1 + 1) cap5 F x wr X8.out (by omega)).mono ?_
        rintro _ w8 ⟨rfl, rfl⟩
        go_wp2_with fail
        refine (count10 a3 n c3 f x wr I8.out (by omega)).mono ?_
        rintro _ w8 ⟨rfl, rfl⟩
        go_wp2_with fail
        refine (count10 _ (n + 1 + 1) cap5 F y wr X8.out (by omega)).mono ?_
        rintro _ w8 ⟨rfl, rfl⟩
        go_wp2_with fail
        refine (count10 a3 n c3 f y wr I8.out (by omega)).mono ?_
        rintro _ w8 ⟨rfl, rfl⟩
        go_wp2
        go_ret
        exact ⟨rfl, BF.out⟩
end Go.Proofs.Qxb6609182a
