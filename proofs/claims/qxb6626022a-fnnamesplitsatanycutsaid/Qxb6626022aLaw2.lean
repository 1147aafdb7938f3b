/- THE WALK of the second law. -/
import Derived.Test.Qxb6626022aWalks2
namespace Go.Proofs.Qxb6626022a
open Go.RowKit Pl

theorem bytes2_yes (a : ByteArray) (p k : Int) (w : World) (ha : a.size ≤ 1048576) : Calls Try.prog 10 #[.string a, .int .i64 p, .int .i64 k] w fun e w' => e = .returned (.bool true) ∧ w' = w := by
  go_enter Try.func10, Try.ntmps10
  go_wp2
  go_ret
  exact ⟨rfl, rfl⟩
theorem bytes2_no (a : ByteArray) (p k : Int) (w : World) (ha : 1048576 < a.size) : Calls Try.prog 10 #[.string a, .int .i64 p, .int .i64 k] w fun e w' => e = .returned (.bool false) ∧ w' = w := by
  go_enter Try.func10, Try.ntmps10
  go_wp2
  go_ret
  exact ⟨rfl, rfl⟩

theorem ends_any {a l r x xa xb : ByteArray} {p k f fa fb : Nat} (_ha : a.size ≤ 1048576) (hp : p ≤ k) (hk : k ≤ a.size) (hl : l = a.extract 0 k) (hr : r = a.extract k a.size)
    (hf : IsStop a p f) (hfa : IsStop l p fa) (hfb : IsStop r 0 fb) (hx : x = a.extract p f) (hxa : xa = l.extract p fa) (hxb : xb = r.extract 0 fb) :
    (fa = k → f = k + fb ∧ x = xa ++ xb) ∧ (fa ≠ k → f = fa ∧ x = xa) := by
  subst hl; subst hr
  constructor
  · intro e
    subst e
    have h1 := hf.uniq (hfa.join hp hk hfb)
    refine ⟨h1, ?_⟩
    have := hf.hi
    rw [hx, hxa, hxb, h1]
    exact ex_join a p fa fb hp hk (by omega)
  · intro e
    have h1 := hf.uniq (hfa.inside hk e)
    refine ⟨h1, ?_⟩
    have := hfa.hi
    have := size_ex a 0 k hk
    rw [hx, hxa, h1, ex_left a p k fa (by omega)]

theorem first_any {a x : ByteArray} {p f : Nat} (hp : p ≤ a.size) (hf : IsStop a p f) (hx : x = a.extract p f) :
    (∀ h : p < a.size, nb (a[p].toNat : Int) = true → 0 < x.size) ∧ (∀ h : p < a.size, nb (a[p].toNat : Int) = false → x.size = 0) ∧ (¬ p < a.size → x.size = 0) := by
  have hs := size_ex a p f hf.hi
  rw [← hx] at hs
  have h1 := hf.lo
  have h2 := hf.hi
  refine ⟨fun h hn => ?_, fun h hn => ?_, fun h => by omega⟩
  · by_cases e : f = p
    · have := hf.fin (by omega)
      rw [e, by8_eq a p h, hn] at this
      cases this
    · omega
  · by_cases e : f = p
    · omega
    · have := hf.all p (Nat.le_refl _) (by omega)
      rw [by8_eq a p h, hn] at this
      cases this

set_option maxHeartbeats 400000 in
theorem law2_in (a : ByteArray) (p k : Nat) (w : World) (ha : a.size ≤ 1048576) (hp : p ≤ k) (hk : k ≤ a.size) :
    Calls Try.prog 4 #[.string a, .int .i64 p, .int .i64 k] w fun e w' => e = .returned (.bool true) ∧ Below w.heap.size w w' := by
  have t1 : decide ((1048576 : Int) < (a.size : Int)) = false := decide_eq_false (by omega)
  have t2 : decide ((p : Int) < 0) = false := decide_eq_false (by omega)
  have t3 : decide (a.size < p) = false := decide_eq_false (by omega)
  have t4 : decide (k < p) = false := decide_eq_false (by omega)
  have t5 : decide (a.size < k) = false := decide_eq_false (by omega)
  have sl := size_ex a 0 k hk
  have sr := size_ex a k a.size (Nat.le_refl _)
  obtain ⟨l, hl⟩ : ∃ l : ByteArray, l = a.extract 0 k := ⟨_, rfl⟩
  obtain ⟨r, hr⟩ : ∃ r : ByteArray, r = a.extract k a.size := ⟨_, rfl⟩
  have hls : l.size = k := by rw [hl, sl]; omega
  have hrs : r.size = a.size - k := by rw [hr, sr]
  clear sl sr
  have HL : Aside (l = a.extract 0 k ∧ r = a.extract k a.size ∧ l.size = k ∧ r.size = a.size - k) := ⟨hl, hr, hls, hrs⟩
  have l20 : l.size ≤ 1048576 := by omega
  have r20 : r.size ≤ 1048576 := by omega
  have lp : p ≤ l.size := by omega
  clear hl hr hls hrs
  go_enter Try.func4, Try.ntmps4
  go_wp2_with (go_at_call 10; refine (bytes2_yes _ _ _ _ ha).mono ?_; rintro e w' ⟨rfl, rfl⟩)
  rw [← HL.out.1, ← HL.out.2.1]
  refine (zznew_any a p _).mono ?_
  rintro e w1 ⟨rfl, hs1, hb1, -⟩
  go_wp2_with fail
  refine (zzname_any _ a p _ ha (by omega) hs1).mono ?_
  rintro e w2 ⟨f, hf, rfl, hs2, hb2, -⟩
  have hlo := hf.lo
  have hhi := hf.hi
  go_wp2_with fail
  refine (zzpos_any _ a f _ hs2).mono ?_
  rintro e w3 ⟨rfl, rfl⟩
  go_wp2_with fail
  -- the left part
  refine (zznew_any l p _).mono ?_
  rintro e w4 ⟨rfl, hs4, hb4, -⟩
  go_wp2_with fail
  refine (zzname_any _ l p _ l20 lp hs4).mono ?_
  rintro e w5 ⟨fa, hfa, rfl, hs5, hb5, -⟩
  have halo := hfa.lo
  have hahi := hfa.hi
  go_wp2_with fail
  refine (zzpos_any _ l fa _ hs5).mono ?_
  rintro e w6 ⟨rfl, rfl⟩
  go_wp2_with fail
  -- the right part
  refine (zznew_any r 0 _).mono ?_
  rintro e w7 ⟨rfl, hs7, hb7, -⟩
  go_wp2_with fail
  refine (zzname_any _ r 0 _ r20 (Nat.zero_le _) hs7).mono ?_
  rintro e w8 ⟨fb, hfb, rfl, hs8, hb8, -⟩
  have hbhi := hfb.hi
  go_wp2_with fail
  refine (zzpos_any _ r fb _ hs8).mono ?_
  rintro e w9 ⟨rfl, rfl⟩
  obtain ⟨x, hx⟩ : ∃ x : ByteArray, x = a.extract p f := ⟨_, rfl⟩
  obtain ⟨xa, hxa⟩ : ∃ x : ByteArray, x = l.extract p fa := ⟨_, rfl⟩
  obtain ⟨xb, hxb⟩ : ∃ x : ByteArray, x = r.extract 0 fb := ⟨_, rfl⟩
  rw [← hx, ← hxa, ← hxb]
  have hbel := (hb1.trans hb2).trans ((((hb4.trans hb5).mono (by have := hb1.size; have := hb2.size; omega)).trans ((hb7.trans hb8).mono (by have := hb1.size; have := hb2.size; have := hb4.size; have := hb5.size; omega))))
  have hend := ends_any ha hp hk HL.out.1 HL.out.2.1 hf hfa hfb hx hxa hxb
  have hfst := first_any (by omega) hf hx
  have hsz : xa.size ≤ 1048576 ∧ xb.size ≤ 1048576 := by rw [hxa, hxb, size_ex l p fa hahi, size_ex r 0 fb hbhi]; omega
  clear hb1 hb2 hb4 hb5 hb7 hb8 hs1 hs2 hs4 hs5 hs7 hs8 hx hxa hxb HL hf hfa hfb
  have hcc : ¬ 9223372036854775807 < xa.size + xb.size := by omega
  clear hsz
  by_cases hpa : p < a.size
  · by_cases hn : nb (a[p].toNat : Int) = true
    · have h0 : 0 < x.size := hfst.1 hpa hn
      clear hfst
      by_cases hfk : fa = k
      · subst hfk
        obtain ⟨e1, e2⟩ := hend.1 rfl
        subst e1; subst e2
        rw [ByteArray.size_append] at h0
        have d0 : decide ((0 : Int) < (xa.size : Int) + (xb.size : Int)) = true := decide_eq_true (by omega)
        clear h0 hend
        go_wp2_with (go_at_call 9; refine (keyByte_any _ _).mono ?_; rintro e w' ⟨rfl, rfl⟩)
        go_ret
        exact ⟨rfl, hbel⟩
      · obtain ⟨e1, e2⟩ := hend.2 hfk
        subst e1; subst e2
        have hfk' : ((f : Int) == (k : Int)) = false := beq_eq_false_iff_ne.2 (by omega)
        have d0 : decide (0 < x.size) = true := decide_eq_true (by omega)
        clear h0 hend
        go_wp2_with (go_at_call 9; refine (keyByte_any _ _).mono ?_; rintro e w' ⟨rfl, rfl⟩)
        go_ret
        exact ⟨rfl, hbel⟩
    · have hn' : nb (a[p].toNat : Int) = false := by simpa using hn
      have h0 : x.size = 0 := hfst.2.1 hpa hn'
      clear hfst
      by_cases hfk : fa = k
      · subst hfk
        obtain ⟨e1, e2⟩ := hend.1 rfl
        subst e1; subst e2
        rw [ByteArray.size_append] at h0
        have d0 : decide ((0 : Int) < (xa.size : Int) + (xb.size : Int)) = false := decide_eq_false (by omega)
        clear h0 hend
        go_wp2_with (go_at_call 9; refine (keyByte_any _ _).mono ?_; rintro e w' ⟨rfl, rfl⟩)
        go_ret
        exact ⟨rfl, hbel⟩
      · obtain ⟨e1, e2⟩ := hend.2 hfk
        subst e1; subst e2
        have hfk' : ((f : Int) == (k : Int)) = false := beq_eq_false_iff_ne.2 (by omega)
        have d0 : decide (0 < x.size) = false := decide_eq_false (by omega)
        clear h0 hend
        go_wp2_with (go_at_call 9; refine (keyByte_any _ _).mono ?_; rintro e w' ⟨rfl, rfl⟩)
        go_ret
        exact ⟨rfl, hbel⟩
  · have h0 : x.size = 0 := hfst.2.2 hpa
    clear hfst
    by_cases hfk : fa = k
    · subst hfk
      obtain ⟨e1, e2⟩ := hend.1 rfl
      subst e1; subst e2
      rw [ByteArray.size_append] at h0
      have d0 : decide ((0 : Int) < (xa.size : Int) + (xb.size : Int)) = false := decide_eq_false (by omega)
      clear h0 hend
      go_wp2
      go_ret
      exact ⟨rfl, hbel⟩
    · obtain ⟨e1, e2⟩ := hend.2 hfk
      subst e1; subst e2
      have hfk' : ((f : Int) == (k : Int)) = false := beq_eq_false_iff_ne.2 (by omega)
      have d0 : decide (0 < x.size) = false := decide_eq_false (by omega)
      clear h0 hend
      go_wp2
      go_ret
      exact ⟨rfl, hbel⟩

theorem law2 (a : ByteArray) (p k : Int) (w : World) :
    Calls Try.prog 4 #[.string a, .int .i64 p, .int .i64 k] w fun e w' => e = .returned (.bool true) ∧ Below w.heap.size w w' := by
  by_cases ha : a.size ≤ 1048576
  · have t1 : decide ((1048576 : Int) < (a.size : Int)) = false := decide_eq_false (by omega)
    by_cases h0 : p < 0
    · go_enter Try.func4, Try.ntmps4
      go_wp2_with (go_at_call 10; refine (bytes2_yes _ _ _ _ ha).mono ?_; rintro e w' ⟨rfl, rfl⟩)
      go_ret
      exact ⟨rfl, Below.refl _ _⟩
    have t2 : decide (p < 0) = false := decide_eq_false h0
    by_cases h1 : (a.size : Int) < p
    · go_enter Try.func4, Try.ntmps4
      go_wp2_with (go_at_call 10; refine (bytes2_yes _ _ _ _ ha).mono ?_; rintro e w' ⟨rfl, rfl⟩)
      go_ret
      exact ⟨rfl, Below.refl _ _⟩
    have t3 : decide ((a.size : Int) < p) = false := decide_eq_false h1
    by_cases h2 : k < p
    · go_enter Try.func4, Try.ntmps4
      go_wp2_with (go_at_call 10; refine (bytes2_yes _ _ _ _ ha).mono ?_; rintro e w' ⟨rfl, rfl⟩)
      go_ret
      exact ⟨rfl, Below.refl _ _⟩
    have t4 : decide (k < p) = false := decide_eq_false h2
    by_cases h3 : (a.size : Int) < k
    · go_enter Try.func4, Try.ntmps4
      go_wp2_with (go_at_call 10; refine (bytes2_yes _ _ _ _ ha).mono ?_; rintro e w' ⟨rfl, rfl⟩)
      go_ret
      exact ⟨rfl, Below.refl _ _⟩
    obtain ⟨n, rfl⟩ := Int.eq_ofNat_of_zero_le (Int.not_lt.1 h0)
    obtain ⟨m, rfl⟩ := Int.eq_ofNat_of_zero_le (show 0 ≤ k by omega)
    exact law2_in a n m w ha (by omega) (by omega)
  · go_enter Try.func4, Try.ntmps4
    go_wp2_with (go_at_call 10; refine (bytes2_no _ _ _ _ (by omega)).mono ?_; rintro e w' ⟨rfl, rfl⟩)
    go_ret
    exact ⟨rfl, Below.refl _ _⟩

end Go.Proofs.Qxb6626022a
