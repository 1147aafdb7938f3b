/- THE WALK of 'space' and what stands on it. -/
import Derived.Test.Qxb6627552aWalks1
namespace Go.Proofs.Qxb6627552a
open Go.RowKit Pl

set_option maxHeartbeats 1000000 in
/-- space -/
theorem space_any (b : Nat) (a : Option Addr) (n c p : Nat) (d : Int) (Z : Nat → Int) (w : World) (hn : n ≤ 1048576) (hB : Byt b w a n Z) (h : Wk w b (.slice a n c) p d) :
    Calls Try.prog 15 #[.pointer (some ⟨b, 0, none⟩)] w fun e w' => e = .returned (.tuple #[]) ∧ ∃ q, IsSp n Z p q ∧ Wk w' b (.slice a n c) q d ∧ Below b w w' := by
  go_enter Try.func15, Try.ntmps15
  go_wp2
  go_loopg [] (n - p) (fun k wr => ∃ q : Nat, p ≤ q ∧ (q ≤ n ∨ q = p) ∧ k = n - q ∧ Hid (∀ i, p ≤ i → i < q → sp (Z i) = true) ∧ Wk wr b (.slice a n c) q d ∧ Below b w wr)
  case atStart => exact ⟨p, Nat.le_refl _, .inr rfl, rfl, fun i h1 h2 => by omega, h, Below.refl _ _⟩
  case round =>
    obtain ⟨q, hq1, hq2, hk, H, hw, hb⟩ := hrel
    have hw0 := hw
    obtain ⟨c0, c1, c2, c3⟩ := hw
    by_cases hlt : q < n
    · obtain ⟨db, off, rfl, hdb, hc⟩ := (hB.below hb (Nat.le_refl _)) q hlt
      have hlt' : (q : Int) < (n : Int) := by omega
      have hq0 : (0 : Int) ≤ (q : Int) := by omega
      cases hs : sp (Z q) with
      | true =>
        have H' : Hid (∀ i, p ≤ i → i < q + 1 → sp (Z i) = true) := fun i h1 h2 => by
          by_cases e : i = q
          · rw [e]; exact hs
          · exact H.out i h1 (by omega)
        have h4 : Z q = 32 ∨ Z q = 9 ∨ Z q = 10 ∨ Z q = 13 := by simpa [sp] using hs
        clear hs
        rcases h4 with e | e | e | e <;> rw [e] at hc <;> clear e
        all_goals
          go_wp2
          go_quiet (fail)
          go_wp2
          go_quiet (fail)
          go_wp2
          go_roundg (n - (q + 1))
          case measure => omega
          case rel => exact ⟨q + 1, by omega, .inl (by omega), rfl, H', hw0.step _, (below_drewN hb _).setCell (Nat.le_refl _) _⟩
      | false =>
        have h4 : ¬ (Z q = 32 ∨ Z q = 9 ∨ Z q = 10 ∨ Z q = 13) := by simpa [sp] using hs
        have e1 : (Z q == 32) = false := beq_eq_false_iff_ne.2 (by omega)
        have e2 : (Z q == 9) = false := beq_eq_false_iff_ne.2 (by omega)
        have e3 : (Z q == 10) = false := beq_eq_false_iff_ne.2 (by omega)
        have e4 : (Z q == 13) = false := beq_eq_false_iff_ne.2 (by omega)
        have R : IsSp n Z p q := ⟨hq1, hq2, H.out, fun _ => hs⟩
        clear hs h4
        go_wp2
        go_quiet (fail)
        go_wp2
        go_quiet (fail)
        go_wp2
        exact bodyPost_ret (v := .tuple #[]) (by simp [results, Try.results15, go_sem]) rfl ⟨rfl, q, R, hw0.draw _, below_drewN hb _⟩
    · have hlt' : ¬ (q : Int) < (n : Int) := by omega
      have R : IsSp n Z p q := ⟨hq1, hq2, H.out, fun h => absurd h hlt⟩
      go_wp2
      go_quiet (fail)
      go_wp2
      go_end0
      exact ⟨rfl, q, R, hw0.draw _, below_drewN hb _⟩

/-- ZZwalkSpace -/
theorem zzspace_any (b : Nat) (a : Option Addr) (n c p : Nat) (d : Int) (Z : Nat → Int) (w : World) (hn : n ≤ 1048576) (hB : Byt b w a n Z) (h : Wk w b (.slice a n c) p d) :
    Calls Try.prog 8 #[.pointer (some ⟨b, 0, none⟩)] w fun e w' => e = .returned (.tuple #[]) ∧ ∃ q, IsSp n Z p q ∧ Wk w' b (.slice a n c) q d ∧ Below b w w' := by
  go_enter Try.func8, Try.ntmps8
  go_wp2_with (go_at_call 15; refine (space_any b a n c p d Z _ hn hB h).mono ?_; rintro e w' ⟨rfl, q, h1, h2, h3⟩)
  go_end0
  exact ⟨rfl, q, h1, h2, h3⟩

/-- b1SpaceAt -/
theorem spaceAt_any (a : Option Addr) (n c p : Nat) (Z : Nat → Int) (w : World) (hn : n ≤ 1048576) (hB : Byt w.heap.size w a n Z) :
    Calls Try.prog 12 #[.slice a n c, .int .i64 p] w fun e w' => ∃ q : Nat, e = .returned (.int .i64 q) ∧ IsSp n Z p q ∧ Below w.heap.size w w' := by
  go_enter Try.func12, Try.ntmps12
  go_wp2_with fail
  refine (zznew_any a n c p 0 _).mono ?_
  rintro e w1 ⟨rfl, hw1, hb1, -⟩
  go_wp2_with fail
  refine (zzspace_any w.heap.size a n c p 0 Z _ hn (hB.below hb1 (Nat.le_refl _)) hw1).mono ?_
  rintro e w2 ⟨rfl, q, hq, hw2, hb2⟩
  go_wp2_with fail
  refine (zzat_any _ _ q 0 _ hw2).mono ?_
  rintro e w3 ⟨rfl, rfl⟩
  go_wp2
  go_ret
  exact ⟨q, rfl, hq, hb1.trans hb2⟩

set_option maxHeartbeats 400000 in
/-- b1FirstNonSpace -/
theorem first_any (B : Nat) (a : Option Addr) (n c p : Nat) (Z : Nat → Int) (w : World) (hn : n ≤ 1048576) (hB : Byt B w a n Z) :
    Calls Try.prog 14 #[.slice a n c, .int .i64 p] w fun e w' => ∃ q : Nat, e = .returned (.int .i64 q) ∧ IsSp n Z p q ∧ w' = w := by
  by_cases hlt : p < n
  · have t1 : decide (n ≤ p) = false := decide_eq_false (by omega)
    go_enter Try.func14, Try.ntmps14
    go_wp2
    go_loop [5, 6] (fun s i => ∃ (t q : Nat) (x : Int), p ≤ t ∧ t ≤ n ∧ q ≤ n ∧ Hid (x = (t : Int) - 1) ∧ s = .int .i64 q ∧ i = .int .i64 x ∧ IsSp n Z t q) (fun _ i => (intOf i + 1).toNat)
    case atStart => exact ⟨n, n, _, by omega, Nat.le_refl _, Nat.le_refl _, rfl, rfl, rfl, IsSp.past (Nat.le_refl _)⟩
    case round =>
      obtain ⟨t, q, x, h1, h2, h3, hx, rfl, rfl, hq⟩ := hrel
      by_cases h4 : p < t
      · obtain ⟨u, rfl⟩ : ∃ u, t = u + 1 := ⟨t - 1, by omega⟩
        obtain rfl : x = (u : Int) := by have := hx.out; omega
        clear hx
        obtain ⟨db, off, rfl, -, hc⟩ := hB u (by omega)
        have hpu : p ≤ u := by omega
        have hun : u < n := by omega
        cases hs : sp (Z u) with
        | true =>
          have R := hq.step hs hun
          go_wp2_with (go_at_call 11; refine (isSpace_any _ _).mono ?_; rintro e w' ⟨rfl, rfl⟩)
          go_round
          case rel => exact ⟨u, q, _, by omega, by omega, h3, rfl, rfl, rfl, R⟩
          case measure => simp [intOf]
        | false =>
          have R : IsSp n Z u u := IsSp.stop hs
          go_wp2_with (go_at_call 11; refine (isSpace_any _ _).mono ?_; rintro e w' ⟨rfl, rfl⟩)
          go_round
          case rel => exact ⟨u, u, _, by omega, by omega, by omega, rfl, rfl, rfl, R⟩
          case measure => simp [intOf]
      · obtain rfl : t = p := by omega
        have hx' : x < (t : Int) := by have := hx.out; omega
        go_wp2
        go_ret
        exact ⟨q, rfl, hq, rfl⟩
  · have R : IsSp n Z p p := IsSp.past (by omega)
    go_enter Try.func14, Try.ntmps14
    go_wp2
    go_ret
    exact ⟨p, rfl, R, rfl⟩

end Go.Proofs.Qxb6627552a
