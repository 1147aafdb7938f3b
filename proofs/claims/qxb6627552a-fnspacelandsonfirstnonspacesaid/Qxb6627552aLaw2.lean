/- THE WALK of the second law: two starts. -/
import Derived.Test.Qxb6627552aWalks3
namespace Go.Proofs.Qxb6627552a
open Go.RowKit Pl

set_option maxHeartbeats 400000 in
theorem law2_in (a : Option Addr) (n c p j : Nat) (Z : Nat → Int) (w : World) (hn : n ≤ 1048576) (ha : a = none → n = 0 ∧ c = 0) (hZ : Byt w.heap.size w a n Z) :
    Calls Try.prog 4 #[.slice a n c, .int .i64 p, .int .i64 j] w fun e w' => e = .returned (.bool true) ∧ Below w.heap.size w w' := by
  have t1 : decide ((1048576 : Int) < (n : Int)) = false := decide_eq_false (by omega)
  have t2 : decide ((p : Int) < 0) = false := decide_eq_false (by omega)
  have t3 : decide ((j : Int) < 0) = false := decide_eq_false (by omega)
  go_enter Try.func4, Try.ntmps4
  go_wp2_with (go_at_call 13; refine (bytes2_yes _ _ _ _ _ _ hn).mono ?_; rintro e w' ⟨rfl, rfl⟩)
  rename_i w'
  refine (clone_any _ a n c Z _ hn (Nat.le_refl _) ha hZ).mono ?_
  rintro e w1 ⟨a1, c1, -, rfl, hZ1, hb1⟩
  go_wp2_with fail
  refine (spaceAt_any a1 n c1 p Z _ hn hZ1).mono ?_
  rintro e w2 ⟨q1, rfl, hq1, hb2⟩
  have hx2 := hb1.trans (hb2.mono hb1.size)
  have hZ2 := (hZ1.below hb2 (Nat.le_refl _)).up hb2.size
  clear hb1 hb2 hZ1
  go_wp2_with fail
  refine (spaceAt_any a1 n c1 j Z _ hn hZ2).mono ?_
  rintro e w3 ⟨q2, rfl, hq2, hb3⟩
  have hx3 := hx2.trans (hb3.mono hx2.size)
  have hZ3 := (hZ2.below hb3 (Nat.le_refl _)).up hb3.size
  clear hx2 hb3 hZ2
  go_wp2_with fail
  refine (first_any _ a1 n c1 p Z _ hn hZ3).mono ?_
  rintro e w4 ⟨f1, rfl, hf1, rfl⟩
  obtain rfl : f1 = q1 := hf1.uniq hq1
  clear hf1
  go_wp2_with fail
  refine (first_any _ a1 n c1 j Z _ hn hZ3).mono ?_
  rintro e w5 ⟨f2, rfl, hf2, rfl⟩
  obtain rfl : f2 = q2 := hf2.uniq hq2
  clear hf2
  have hl1 := hq1.lo
  have hl2 := hq2.lo
  by_cases h1 : p ≤ j
  · by_cases h2 : j ≤ f1
    · obtain rfl : f2 = f1 := hq2.uniq (hq1.within h1 h2)
      by_cases h3 : j ≤ p
      · go_wp2_with fail
        refine (spaceAt_any a1 n c1 f2 Z _ hn hZ3).mono ?_
        rintro e w6 ⟨q3, rfl, hq3, hb6⟩
        obtain rfl : q3 = f2 := hq3.uniq (hq1.within hl1 (Nat.le_refl _))
        go_wp2
        go_ret
        exact ⟨rfl, hx3.trans (hb6.mono hx3.size)⟩
      · go_wp2_with fail
        refine (spaceAt_any a1 n c1 f2 Z _ hn hZ3).mono ?_
        rintro e w6 ⟨q3, rfl, hq3, hb6⟩
        obtain rfl : q3 = f2 := hq3.uniq (hq1.within hl1 (Nat.le_refl _))
        go_wp2
        go_ret
        exact ⟨rfl, hx3.trans (hb6.mono hx3.size)⟩
    · have h3 : ¬ j ≤ p := by omega
      go_wp2_with fail
      refine (spaceAt_any a1 n c1 f1 Z _ hn hZ3).mono ?_
      rintro e w6 ⟨q3, rfl, hq3, hb6⟩
      obtain rfl : q3 = f1 := hq3.uniq (hq1.within hl1 (Nat.le_refl _))
      go_wp2
      go_ret
      exact ⟨rfl, hx3.trans (hb6.mono hx3.size)⟩
  · have h3 : j ≤ p := by omega
    by_cases h2 : p ≤ f2
    · obtain rfl : f2 = f1 := (hq2.within h3 h2).uniq hq1
      go_wp2_with fail
      refine (spaceAt_any a1 n c1 f2 Z _ hn hZ3).mono ?_
      rintro e w6 ⟨q3, rfl, hq3, hb6⟩
      obtain rfl : q3 = f2 := hq3.uniq (hq1.within hl1 (Nat.le_refl _))
      go_wp2
      go_ret
      exact ⟨rfl, hx3.trans (hb6.mono hx3.size)⟩
    · go_wp2_with fail
      refine (spaceAt_any a1 n c1 f1 Z _ hn hZ3).mono ?_
      rintro e w6 ⟨q3, rfl, hq3, hb6⟩
      obtain rfl : q3 = f1 := hq3.uniq (hq1.within hl1 (Nat.le_refl _))
      go_wp2
      go_ret
      exact ⟨rfl, hx3.trans (hb6.mono hx3.size)⟩

theorem law2 (a : Option Addr) (n c : Nat) (p j : Int) (Z : Nat → Int) (w : World) (ha : a = none → n = 0 ∧ c = 0) (hZ : Byt w.heap.size w a n Z) :
    Calls Try.prog 4 #[.slice a n c, .int .i64 p, .int .i64 j] w fun e w' => e = .returned (.bool true) ∧ Below w.heap.size w w' := by
  by_cases hn : n ≤ 1048576
  · have t1 : decide ((1048576 : Int) < (n : Int)) = false := decide_eq_false (by omega)
    by_cases h0 : p < 0
    · go_enter Try.func4, Try.ntmps4
      go_wp2_with (go_at_call 13; refine (bytes2_yes _ _ _ _ _ _ hn).mono ?_; rintro e w' ⟨rfl, rfl⟩)
      go_ret
      exact ⟨rfl, Below.refl _ _⟩
    by_cases h1 : j < 0
    · have t2 : decide (p < 0) = false := decide_eq_false h0
      go_enter Try.func4, Try.ntmps4
      go_wp2_with (go_at_call 13; refine (bytes2_yes _ _ _ _ _ _ hn).mono ?_; rintro e w' ⟨rfl, rfl⟩)
      go_ret
      exact ⟨rfl, Below.refl _ _⟩
    obtain ⟨x, rfl⟩ := Int.eq_ofNat_of_zero_le (Int.not_lt.1 h0)
    obtain ⟨y, rfl⟩ := Int.eq_ofNat_of_zero_le (Int.not_lt.1 h1)
    exact law2_in a n c x y Z w hn ha hZ
  · go_enter Try.func4, Try.ntmps4
    go_wp2_with (go_at_call 13; refine (bytes2_no _ _ _ _ _ _ (by omega)).mono ?_; rintro e w' ⟨rfl, rfl⟩)
    go_ret
    exact ⟨rfl, Below.refl _ _⟩

end Go.Proofs.Qxb6627552a
