/- THE WALK of the first law. -/
import Derived.Test.Qxb6626022aWalks2
namespace Go.Proofs.Qxb6626022a
open Go.RowKit Pl

theorem bytes1_yes (a : ByteArray) (p : Int) (w : World) (ha : a.size ≤ 1048576) : Calls Try.prog 5 #[.string a, .int .i64 p] w fun e w' => e = .returned (.bool true) ∧ w' = w := by
  go_enter Try.func5, Try.ntmps5
  go_wp2
  go_ret
  exact ⟨rfl, rfl⟩
theorem bytes1_no (a : ByteArray) (p : Int) (w : World) (ha : 1048576 < a.size) : Calls Try.prog 5 #[.string a, .int .i64 p] w fun e w' => e = .returned (.bool false) ∧ w' = w := by
  go_enter Try.func5, Try.ntmps5
  go_wp2
  go_ret
  exact ⟨rfl, rfl⟩

theorem ex_nil (a : ByteArray) (f : Nat) : a.extract f f = ByteArray.empty := by
  apply ba_ext
  rw [ex_list]
  simp

theorem read_ex {a : ByteArray} {p f : Nat} (hf : IsStop a p f) : ∃ r : ByteArray, r.size = f - p ∧ (∀ (k : Nat) (h : k < r.size), nb (r[k].toNat : Int) = true) ∧ r = a.extract p f := by
  have hs := size_ex a p f hf.hi
  refine ⟨a.extract p f, hs, fun k h => ?_, rfl⟩
  rw [← by8_eq _ k h, by8_ex a p f k (by omega)]
  exact hf.all _ (by omega) (by omega)

set_option maxHeartbeats 400000 in
theorem law1_in (a : ByteArray) (p : Nat) (w : World) (ha : a.size ≤ 1048576) (hp : p ≤ a.size) :
    Calls Try.prog 3 #[.string a, .int .i64 p] w fun e w' => e = .returned (.bool true) ∧ Below w.heap.size w w' := by
  have t1 : decide ((1048576 : Int) < (a.size : Int)) = false := decide_eq_false (by omega)
  have t2 : decide ((p : Int) < 0) = false := decide_eq_false (by omega)
  have t3 : decide (a.size < p) = false := decide_eq_false (by omega)
  go_enter Try.func3, Try.ntmps3
  go_wp2_with (go_at_call 5; refine (bytes1_yes _ _ _ ha).mono ?_; rintro e w' ⟨rfl, rfl⟩)
  refine (zznew_any a p _).mono ?_
  rintro e w1 ⟨rfl, hs1, hb1, -⟩
  go_wp2_with fail
  refine (zzname_any _ a p _ ha hp hs1).mono ?_
  rintro e w2 ⟨f, hf, rfl, hs2, hb2, -⟩
  have hlo := hf.lo
  have hhi := hf.hi
  have t4 : decide (f < p) = false := decide_eq_false (by omega)
  have t5 : decide (a.size < f) = false := decide_eq_false (by omega)
  go_wp2_with fail
  refine (zzpos_any _ a f _ hs2).mono ?_
  rintro e w3 ⟨rfl, rfl⟩
  go_wp2_with fail
  obtain ⟨r, hrs, hrk, hr⟩ := read_ex hf
  rw [← hr]
  have HR : Aside (r.size = f - p ∧ r = a.extract p f) := ⟨hrs, hr⟩
  have hr20 : r.size ≤ 1048576 := by omega
  clear hrs hr
  go_loop [8] (fun i => ∃ k : Nat, k ≤ r.size ∧ i = .int .i64 k) (fun i => r.size - (intOf i).toNat)
  case atStart => exact ⟨0, Nat.zero_le _, rfl⟩
  case round =>
    obtain ⟨k, hk, rfl⟩ := hrel
    by_cases hlt : k < r.size
    · have hn := hrk k hlt
      go_wp2_with (go_at_call 9; refine (keyByte_any _ _).mono ?_; rintro e w' ⟨rfl, rfl⟩)
      go_round
      case rel => exact ⟨k + 1, by omega, by go_num⟩
      case measure => simp [intOf]; omega
    · by_cases hfa : f < a.size
      · have hn : nb (a[f].toNat : Int) = false := by rw [← by8_eq a f hfa]; exact hf.fin hfa
        go_wp2_with (go_at_call 9; refine (keyByte_any _ _).mono ?_; rintro e w' ⟨rfl, rfl⟩)
        refine (zzname_any _ a f _ ha hhi hs2).mono ?_
        rintro e w4 ⟨f2, hf2, rfl, hs4, hb4, -⟩
        obtain rfl : f2 = f := hf2.uniq hf.again
        rw [ex_nil]
        go_wp2_with fail
        refine (zzpos_any _ a f2 _ hs4).mono ?_
        rintro e w5 ⟨rfl, rfl⟩
        go_wp2
        go_ret
        exact ⟨rfl, (hb1.trans hb2).trans hb4⟩
      · go_wp2_with fail
        refine (zzname_any _ a f _ ha hhi hs2).mono ?_
        rintro e w4 ⟨f2, hf2, rfl, hs4, hb4, -⟩
        obtain rfl : f2 = f := hf2.uniq hf.again
        rw [ex_nil]
        go_wp2_with fail
        refine (zzpos_any _ a f2 _ hs4).mono ?_
        rintro e w5 ⟨rfl, rfl⟩
        go_wp2
        go_ret
        exact ⟨rfl, (hb1.trans hb2).trans hb4⟩

theorem law1 (a : ByteArray) (p : Int) (w : World) :
    Calls Try.prog 3 #[.string a, .int .i64 p] w fun e w' => e = .returned (.bool true) ∧ Below w.heap.size w w' := by
  by_cases ha : a.size ≤ 1048576
  · by_cases h0 : p < 0
    · have t1 : decide ((1048576 : Int) < (a.size : Int)) = false := decide_eq_false (by omega)
      go_enter Try.func3, Try.ntmps3
      go_wp2_with (go_at_call 5; refine (bytes1_yes _ _ _ ha).mono ?_; rintro e w' ⟨rfl, rfl⟩)
      go_ret
      exact ⟨rfl, Below.refl _ _⟩
    · by_cases h1 : (a.size : Int) < p
      · have t1 : decide ((1048576 : Int) < (a.size : Int)) = false := decide_eq_false (by omega)
        go_enter Try.func3, Try.ntmps3
        go_wp2_with (go_at_call 5; refine (bytes1_yes _ _ _ ha).mono ?_; rintro e w' ⟨rfl, rfl⟩)
        go_ret
        exact ⟨rfl, Below.refl _ _⟩
      · obtain ⟨n, rfl⟩ := Int.eq_ofNat_of_zero_le (Int.not_lt.1 h0)
        exact law1_in a n w ha (by omega)
  · go_enter Try.func3, Try.ntmps3
    go_wp2_with (go_at_call 5; refine (bytes1_no _ _ _ (by omega)).mono ?_; rintro e w' ⟨rfl, rfl⟩)
    go_ret
    exact ⟨rfl, Below.refl _ _⟩

end Go.Proofs.Qxb6626022a
