/- THE WALK of the first law: the cut. -/
import Derived.Test.Qxb6627552aWalks3
namespace Go.Proofs.Qxb6627552a
open Go.RowKit Pl

theorem Byt.part {B : Nat} {w : World} {a : Option Addr} {n k : Nat} {Z : Nat → Int} (h : Byt B w a n Z) (hk : k ≤ n) : Byt B w a k Z := fun i hi => h i (by omega)
theorem Byt.cell0 {B : Nat} {w : World} {g n : Nat} {Z : Nat → Int} (h : Byt B w (some ⟨g, 0, none⟩) n Z) (i : Nat) (hi : i < n) : g < B ∧ w.cell? ⟨g, i, none⟩ = some (.int .u8 (Z i)) := by
  obtain ⟨b, off, e, h1, h2⟩ := h i hi
  simp only [Option.some.injEq, Addr.mk.injEq, and_true] at e
  obtain ⟨rfl, rfl⟩ := e
  rw [Nat.zero_add] at h2
  exact ⟨h1, h2⟩
theorem Byt.cut {B : Nat} {w : World} {g n k : Nat} {Z : Nat → Int} (h : Byt B w (some ⟨g, 0, none⟩) n Z) : Byt B w (some ⟨g, k, none⟩) (n - k) (fun i => Z (k + i)) := by
  intro i hi
  obtain ⟨h1, h2⟩ := h.cell0 (k + i) (by omega)
  exact ⟨g, k, rfl, h1, h2⟩

set_option maxHeartbeats 1000000 in
theorem law1_in (a : Option Addr) (n c p k : Nat) (d : Int) (Z : Nat → Int) (w : World) (hn : n ≤ 1048576) (hk : k ≤ n) (hp : p ≤ 9223372036854775807) (ha : a = none → n = 0 ∧ c = 0) (hZ : Byt w.heap.size w a n Z) :
    Calls Try.prog 3 #[.slice a n c, .int .i64 p, .int .i64 k, .int .i64 d] w fun e w' => e = .returned (.bool true) ∧ Below w.heap.size w w' := by
  have t1 : decide ((1048576 : Int) < (n : Int)) = false := decide_eq_false (by omega)
  have t2 : decide ((p : Int) < 0) = false := decide_eq_false (by omega)
  have t3 : decide ((k : Int) < 0) = false := decide_eq_false (by omega)
  have t4 : decide (n < k) = false := decide_eq_false (by omega)
  go_enter Try.func3, Try.ntmps3
  go_wp2_with (go_at_call 5; refine (bytes1_yes _ _ _ _ _ _ _ hn).mono ?_; rintro e w' ⟨rfl, rfl⟩)
  refine (clone_any _ a n c Z _ hn (Nat.le_refl _) ha hZ).mono ?_
  rintro e w1 ⟨a1, c1, hcl, rfl, hZ1, hb1⟩
  go_wp2_with fail
  refine (zznew_any a1 n c1 p d _).mono ?_
  rintro e w2 ⟨rfl, hw2, hb2, -⟩
  have hx2 := hb1.trans (hb2.mono hb1.size)
  have hs2 := hb2.size
  go_wp2_with fail
  refine (zzspace_any w1.heap.size a1 n c1 p d Z _ hn (hZ1.below hb2 (Nat.le_refl _)) hw2).mono ?_
  rintro e w3 ⟨rfl, q, hq, hw3, hb3⟩
  have hx3 := hx2.trans (hb3.mono hb1.size)
  have hZ3 := ((hZ1.below hb2 (Nat.le_refl _)).below hb3 (Nat.le_refl _)).up (Nat.le_trans hs2 hb3.size)
  clear hb1 hb2 hx2 hb3 hZ1 hw2 hs2
  go_wp2_with fail
  refine (zzat_any _ _ q d _ hw3).mono ?_
  rintro e w4 ⟨rfl, rfl⟩
  go_wp2_with fail
  refine (zzdepth_any _ _ q d _ hw3).mono ?_
  rintro e w5 ⟨rfl, rfl⟩
  clear hw3
  have hlo := hq.lo
  have hhi := hq.hi
  rcases hcl with ⟨rfl, rfl, rfl⟩ | ⟨g, rfl, hc1⟩
  · have eq : q = p := by omega
    subst eq
    obtain rfl : k = 0 := by omega
    by_cases hq0 : q = 0
    · subst hq0
      go_wp2_with fail
      refine (spaceAt_any none 0 0 0 Z _ (by omega) (fun i hi => by omega)).mono ?_
      rintro e w6 ⟨r1, rfl, hr1, hb6⟩
      obtain rfl : r1 = 0 := hr1.uniq (IsSp.past (Nat.le_refl _))
      have hx6 := hx3.trans (hb6.mono hx3.size)
      clear hr1 hb6 hx3 hq
      go_wp2_with fail
      refine (spaceAt_any none 0 0 0 Z _ (by omega) (fun i hi => by omega)).mono ?_
      rintro e w7 ⟨f, rfl, hf, hb7⟩
      obtain rfl : f = 0 := hf.uniq (IsSp.past (Nat.le_refl _))
      have hx7 := hx6.trans (hb7.mono hx6.size)
      clear hf hb7 hx6
      go_wp2
      go_ret
      exact ⟨rfl, hx7⟩
    · go_wp2_with fail
      refine (spaceAt_any none 0 0 q Z _ (by omega) (fun i hi => by omega)).mono ?_
      rintro e w7 ⟨f, rfl, hf, hb7⟩
      obtain rfl : f = q := hf.uniq (IsSp.past (Nat.zero_le _))
      have hx7 := hx3.trans (hb7.mono hx3.size)
      clear hf hb7 hx3 hq
      go_wp2
      go_ret
      exact ⟨rfl, hx7⟩
  · obtain rfl : n = c1 := hc1.symm
    clear hc1
    by_cases hpn : n ≤ p
    · have eq : q = p := by omega
      subst eq
      have t5 : decide (n ≤ q) = true := decide_eq_true hpn
      by_cases hpk : q ≤ k
      · go_wp2_with fail
        refine (spaceAt_any (some ⟨g, 0, none⟩) k n q Z _ (by omega) (hZ3.part hk)).mono ?_
        rintro e w6 ⟨r1, rfl, hr1, hb6⟩
        have hx6 := hx3.trans (hb6.mono hx3.size)
        have hZ6 := (hZ3.below hb6 (Nat.le_refl _)).up hb6.size
        have hr1l := hr1.lo
        clear hx3 hZ3 hb6
        by_cases h1 : r1 < k
        · exfalso; omega
        · by_cases hkn : k = n
          · have W := fun f hf => hq.uniq (hr1.join (f := f) hpk hk h1 hf)
            subst hkn
            go_wp2_with fail
            refine (spaceAt_any (some ⟨g, 0, none⟩) 0 0 0 (fun i => Z (k + i)) _ (by omega) (fun i hi => by omega)).mono ?_
            rintro e w7 ⟨f, rfl, hf, hb7⟩
            have hx7 := hx6.trans (hb7.mono hx6.size)
            have hfh := hf.hi
            have ee := W f (by rw [Nat.sub_self]; exact hf)
            clear W hr1 hq
            have eb : ((q : Int) == (k : Int) + (f : Int)) = true := by rw [ee]; simp
            clear ee
            go_wp2
            go_ret
            exact ⟨rfl, hx7⟩
          · exfalso; omega
      · have hpk' : ¬ ((q : Int) ≤ (k : Int)) := by omega
        by_cases hkn : k = n
        · have W := fun f hf => hq.uniq (IsSp.behind (f := f) (show k ≤ q by omega) hk hf)
          subst hkn
          go_wp2_with fail
          rw [show ((q : Int) - (k : Int)) = ((q - k : Nat) : Int) from by omega]
          refine (spaceAt_any (some ⟨g, 0, none⟩) 0 0 (q - k) (fun i => Z (k + i)) _ (by omega) (fun i hi => by omega)).mono ?_
          rintro e w7 ⟨f, rfl, hf, hb7⟩
          have hx7 := hx3.trans (hb7.mono hx3.size)
          have hfh := hf.hi
          have hfl := hf.lo
          have ee := W f (by rw [Nat.sub_self]; exact hf)
          clear W hq
          have hbnd : k + f ≤ 9223372036854775807 := by omega
          have eb : ((q : Int) == (k : Int) + (f : Int)) = true := by rw [ee]; simp
          clear ee
          go_wp2
          go_ret
          exact ⟨rfl, hx7⟩
        · have hkl : k < n := by omega
          go_wp2_with fail
          rw [show ((q : Int) - (k : Int)) = ((q - k : Nat) : Int) from by omega]
          refine (spaceAt_any (some ⟨g, k, none⟩) (n - k) (n - k) (q - k) (fun i => Z (k + i)) _ (by omega) hZ3.cut).mono ?_
          rintro e w7 ⟨f, rfl, hf, hb7⟩
          have hx7 := hx3.trans (hb7.mono hx3.size)
          have hfh := hf.hi
          have hfl := hf.lo
          have ee := hq.uniq (IsSp.behind (show k ≤ q by omega) hk hf)
          clear hq
          have hbnd : k + f ≤ 9223372036854775807 := by omega
          have eb : ((q : Int) == (k : Int) + (f : Int)) = true := by rw [ee]; simp
          clear ee
          go_wp2
          go_ret
          exact ⟨rfl, hx7⟩
    · have hpn' : p < n := by omega
      have hqn' : q ≤ n := by omega
      have t5 : decide (n ≤ p) = false := decide_eq_false hpn
      have t6 : decide (q < p) = false := decide_eq_false (by omega)
      have t7 : decide (n < q) = false := decide_eq_false (by omega)
      go_wp2_with fail
      go_loop [11] (fun i => ∃ t : Nat, p ≤ t ∧ t ≤ q ∧ i = .int .i64 t) (fun i => q - (intOf i).toNat)
      case atStart => exact ⟨p, Nat.le_refl _, hlo, rfl⟩
      case round =>
        obtain ⟨t, ht1, ht2, rfl⟩ := hrel
        by_cases htq : t < q
        · have hc := (hZ3.cell0 t (by omega)).2
          have hs := hq.all t ht1 htq
          go_wp2_with (go_at_call 11; refine (isSpace_any _ _).mono ?_; rintro e w' ⟨rfl, rfl⟩)
          go_round
          case rel => exact ⟨t + 1, by omega, by omega, by go_num⟩
          case measure => simp [intOf]; omega
        · obtain rfl : q = t := by omega
          clear ht1 ht2
          by_cases hqn : q < n
          · have hc := (hZ3.cell0 q hqn).2
            have hs := hq.fin hqn
            by_cases hpk : p ≤ k
            · go_wp2_with (go_at_call 11; refine (isSpace_any _ _).mono ?_; rintro e w' ⟨rfl, rfl⟩)
              refine (spaceAt_any (some ⟨g, 0, none⟩) k n p Z _ (by omega) (hZ3.part hk)).mono ?_
              rintro e w6 ⟨r1, rfl, hr1, hb6⟩
              have hx6 := hx3.trans (hb6.mono hx3.size)
              have hZ6 := (hZ3.below hb6 (Nat.le_refl _)).up hb6.size
              have hr1l := hr1.lo
              clear hx3 hZ3 hb6
              by_cases h1 : r1 < k
              · obtain rfl : r1 = q := (hr1.inside hk h1).uniq hq
                go_wp2
                go_ret
                exact ⟨rfl, hx6⟩
              · by_cases hkn : k = n
                · have W := fun f hf => hq.uniq (hr1.join (f := f) hpk hk h1 hf)
                  subst hkn
                  go_wp2_with fail
                  refine (spaceAt_any (some ⟨g, 0, none⟩) 0 0 0 (fun i => Z (k + i)) _ (by omega) (fun i hi => by omega)).mono ?_
                  rintro e w7 ⟨f, rfl, hf, hb7⟩
                  have hx7 := hx6.trans (hb7.mono hx6.size)
                  have hfh := hf.hi
                  have ee := W f (by rw [Nat.sub_self]; exact hf)
                  clear W hr1 hq
                  have eb : ((q : Int) == (k : Int) + (f : Int)) = true := by rw [ee]; simp
                  clear ee
                  go_wp2
                  go_ret
                  exact ⟨rfl, hx7⟩
                · have hkl : k < n := by omega
                  go_wp2_with fail
                  refine (spaceAt_any (some ⟨g, k, none⟩) (n - k) (n - k) 0 (fun i => Z (k + i)) _ (by omega) hZ6.cut).mono ?_
                  rintro e w7 ⟨f, rfl, hf, hb7⟩
                  have hx7 := hx6.trans (hb7.mono hx6.size)
                  have hfh := hf.hi
                  have ee := hq.uniq (hr1.join hpk hk h1 hf)
                  clear hr1 hq
                  have eb : ((q : Int) == (k : Int) + (f : Int)) = true := by rw [ee]; simp
                  clear ee
                  go_wp2
                  go_ret
                  exact ⟨rfl, hx7⟩
            · have hpk' : ¬ ((p : Int) ≤ (k : Int)) := by omega
              by_cases hkn : k = n
              · exfalso; omega
              · have hkl : k < n := by omega
                go_wp2_with (go_at_call 11; refine (isSpace_any _ _).mono ?_; rintro e w' ⟨rfl, rfl⟩)
                rw [show ((p : Int) - (k : Int)) = ((p - k : Nat) : Int) from by omega]
                refine (spaceAt_any (some ⟨g, k, none⟩) (n - k) (n - k) (p - k) (fun i => Z (k + i)) _ (by omega) hZ3.cut).mono ?_
                rintro e w7 ⟨f, rfl, hf, hb7⟩
                have hx7 := hx3.trans (hb7.mono hx3.size)
                have hfh := hf.hi
                have hfl := hf.lo
                have ee := hq.uniq (IsSp.behind (show k ≤ p by omega) hk hf)
                clear hq
                have hbnd : k + f ≤ 9223372036854775807 := by omega
                have eb : ((q : Int) == (k : Int) + (f : Int)) = true := by rw [ee]; simp
                clear ee
                go_wp2
                go_ret
                exact ⟨rfl, hx7⟩
          · have hqe : ¬ (q : Int) < (n : Int) := by omega
            by_cases hpk : p ≤ k
            · go_wp2_with fail
              refine (spaceAt_any (some ⟨g, 0, none⟩) k n p Z _ (by omega) (hZ3.part hk)).mono ?_
              rintro e w6 ⟨r1, rfl, hr1, hb6⟩
              have hx6 := hx3.trans (hb6.mono hx3.size)
              have hZ6 := (hZ3.below hb6 (Nat.le_refl _)).up hb6.size
              have hr1l := hr1.lo
              clear hx3 hZ3 hb6
              by_cases h1 : r1 < k
              · obtain rfl : r1 = q := (hr1.inside hk h1).uniq hq
                go_wp2
                go_ret
                exact ⟨rfl, hx6⟩
              · by_cases hkn : k = n
                · have W := fun f hf => hq.uniq (hr1.join (f := f) hpk hk h1 hf)
                  subst hkn
                  go_wp2_with fail
                  refine (spaceAt_any (some ⟨g, 0, none⟩) 0 0 0 (fun i => Z (k + i)) _ (by omega) (fun i hi => by omega)).mono ?_
                  rintro e w7 ⟨f, rfl, hf, hb7⟩
                  have hx7 := hx6.trans (hb7.mono hx6.size)
                  have hfh := hf.hi
                  have ee := W f (by rw [Nat.sub_self]; exact hf)
                  clear W hr1 hq
                  have eb : ((q : Int) == (k : Int) + (f : Int)) = true := by rw [ee]; simp
                  clear ee
                  go_wp2
                  go_ret
                  exact ⟨rfl, hx7⟩
                · have hkl : k < n := by omega
                  go_wp2_with fail
                  refine (spaceAt_any (some ⟨g, k, none⟩) (n - k) (n - k) 0 (fun i => Z (k + i)) _ (by omega) hZ6.cut).mono ?_
                  rintro e w7 ⟨f, rfl, hf, hb7⟩
                  have hx7 := hx6.trans (hb7.mono hx6.size)
                  have hfh := hf.hi
                  have ee := hq.uniq (hr1.join hpk hk h1 hf)
                  clear hr1 hq
                  have eb : ((q : Int) == (k : Int) + (f : Int)) = true := by rw [ee]; simp
                  clear ee
                  go_wp2
                  go_ret
                  exact ⟨rfl, hx7⟩
            · have hpk' : ¬ ((p : Int) ≤ (k : Int)) := by omega
              by_cases hkn : k = n
              · exfalso; omega
              · have hkl : k < n := by omega
                go_wp2_with fail
                rw [show ((p : Int) - (k : Int)) = ((p - k : Nat) : Int) from by omega]
                refine (spaceAt_any (some ⟨g, k, none⟩) (n - k) (n - k) (p - k) (fun i => Z (k + i)) _ (by omega) hZ3.cut).mono ?_
                rintro e w7 ⟨f, rfl, hf, hb7⟩
                have hx7 := hx3.trans (hb7.mono hx3.size)
                have hfh := hf.hi
                have hfl := hf.lo
                have ee := hq.uniq (IsSp.behind (show k ≤ p by omega) hk hf)
                clear hq
                have hbnd : k + f ≤ 9223372036854775807 := by omega
                have eb : ((q : Int) == (k : Int) + (f : Int)) = true := by rw [ee]; simp
                clear ee
                go_wp2
                go_ret
                exact ⟨rfl, hx7⟩

theorem law1 (a : Option Addr) (n c : Nat) (p k d : Int) (Z : Nat → Int) (w : World) (hp : p ≤ 9223372036854775807) (ha : a = none → n = 0 ∧ c = 0) (hZ : Byt w.heap.size w a n Z) :
    Calls Try.prog 3 #[.slice a n c, .int .i64 p, .int .i64 k, .int .i64 d] w fun e w' => e = .returned (.bool true) ∧ Below w.heap.size w w' := by
  by_cases hn : n ≤ 1048576
  · have t1 : decide ((1048576 : Int) < (n : Int)) = false := decide_eq_false (by omega)
    by_cases h0 : p < 0
    · go_enter Try.func3, Try.ntmps3
      go_wp2_with (go_at_call 5; refine (bytes1_yes _ _ _ _ _ _ _ hn).mono ?_; rintro e w' ⟨rfl, rfl⟩)
      go_ret
      exact ⟨rfl, Below.refl _ _⟩
    have t2 : decide (p < 0) = false := decide_eq_false h0
    by_cases h1 : k < 0
    · go_enter Try.func3, Try.ntmps3
      go_wp2_with (go_at_call 5; refine (bytes1_yes _ _ _ _ _ _ _ hn).mono ?_; rintro e w' ⟨rfl, rfl⟩)
      go_ret
      exact ⟨rfl, Below.refl _ _⟩
    by_cases h2 : (n : Int) < k
    · have t3 : decide (k < 0) = false := decide_eq_false h1
      go_enter Try.func3, Try.ntmps3
      go_wp2_with (go_at_call 5; refine (bytes1_yes _ _ _ _ _ _ _ hn).mono ?_; rintro e w' ⟨rfl, rfl⟩)
      go_ret
      exact ⟨rfl, Below.refl _ _⟩
    obtain ⟨x, rfl⟩ := Int.eq_ofNat_of_zero_le (Int.not_lt.1 h0)
    obtain ⟨y, rfl⟩ := Int.eq_ofNat_of_zero_le (Int.not_lt.1 h1)
    exact law1_in a n c x y d Z w hn (by omega) (by omega) ha hZ
  · go_enter Try.func3, Try.ntmps3
    go_wp2_with (go_at_call 5; refine (bytes1_no _ _ _ _ _ _ _ (by omega)).mono ?_; rintro e w' ⟨rfl, rfl⟩)
    go_ret
    exact ⟨rfl, Below.refl _ _⟩

end Go.Proofs.Qxb6627552a
