/- THE WALK of the insertion. -/
import Derived.Test.Qxb6628153aWalks1
namespace Go.Proofs.Qxb6628153a
open Go.RowKit Pl

theorem A_data (t : ByteArray) : ((⟨#[65]⟩ : ByteArray) ++ t).data.toList = 65 :: t.data.toList := by rw [app_data]; rfl

/-- s with the byte b put in at k. -/
def putIn (s : ByteArray) (b : UInt8) (k : Nat) : ByteArray := s.extract 0 k ++ ⟨#[b]⟩ ++ s.extract k s.size
theorem putIn_data (s : ByteArray) (b : UInt8) (k : Nat) : (putIn s b k).data.toList = s.data.toList.take k ++ b :: s.data.toList.drop k := by
  unfold putIn
  rw [app_data, app_data, ex_pre, ex_suf, List.append_assoc]
  rfl

/-- All that the law asks of the three names. -/
structure Put (s : ByteArray) (b : UInt8) (k : Nat) (r a r2 : ByteArray) (m : Nat) : Prop where
  le_s : r.size ≤ s.size
  asz : a.size = m + 1
  at_le : m ≤ s.size
  a0 : ∀ h : 0 < a.size, ((a[0].toNat : Int) == 65) = true
  ar : 0 < r.size → a = (⟨#[65]⟩ : ByteArray) ++ r
  i0L : k = 0 → le (b.toNat : Int) = true → r2 = (⟨#[b]⟩ : ByteArray) ++ a.extract 1 (m + 1)
  i0N : k = 0 → le (b.toNat : Int) = false → r2 = ByteArray.empty
  past : 0 < k → (r.size = 0 ∨ r.size < k) → r2 = r
  inY : 0 < k → k ≤ r.size → nb (b.toNat : Int) = true → r2 = r.extract 0 k ++ (⟨#[b]⟩ : ByteArray) ++ r.extract k r.size
  inN : 0 < k → k ≤ r.size → nb (b.toNat : Int) = false → r2 = r.extract 0 k

theorem put (s : ByteArray) (b : UInt8) (k : Nat) (hk : k ≤ s.size) : ∃ m, Put s b k (leadS s) (leadS ((⟨#[65]⟩ : ByteArray) ++ s)) (leadS (putIn s b k)) m := by
  have hr : (leadS s).data.toList = lead s.data.toList := leadS_data s
  have hrz : (leadS s).size = (lead s.data.toList).length := by rw [size_eq, hr]
  have hsz := size_eq s
  have ha : (leadS ((⟨#[65]⟩ : ByteArray) ++ s)).data.toList = 65 :: run s.data.toList := by rw [leadS_data, A_data, lead_A]
  have h2 : (leadS (putIn s b k)).data.toList = lead (s.data.toList.take k ++ b :: s.data.toList.drop k) := by rw [leadS_data, putIn_data]
  have hll := lead_length_le s.data.toList
  have hrl := run_length_le s.data.toList
  have haz : (leadS ((⟨#[65]⟩ : ByteArray) ++ s)).size = (run s.data.toList).length + 1 := by rw [size_eq, ha]; simp
  refine ⟨(run s.data.toList).length, ?_⟩
  generalize leadS s = r at *
  generalize leadS ((⟨#[65]⟩ : ByteArray) ++ s) = a at *
  generalize leadS (putIn s b k) = r2 at *
  constructor
  · omega
  · exact haz
  · omega
  · intro h
    have hg := get_data a 0 h
    rw [ha] at hg
    simp at hg
    rw [← hg]
    rfl
  · intro h
    apply ba_ext
    rw [ha, A_data, hr]
    cases e : s.data.toList with
    | nil => rw [hrz, e] at h; simp [lead] at h
    | cons c x =>
      cases hc : leB c with
      | true => rw [lead_letter hc, run_cons_yes (nbB_le hc)]
      | false => rw [hrz, e, lead_other hc] at h; simp at h
  · intro h0 hb
    subst h0
    apply ba_ext
    rw [h2, app_data, ex_data, ha, List.take_zero, List.drop_zero, List.nil_append, lead_letter hb]
    simp
  · intro h0 hb
    subst h0
    apply ba_ext
    rw [h2, List.take_zero, List.drop_zero, List.nil_append, lead_other hb]
    rfl
  · intro h0 hp
    apply ba_ext
    rw [h2, hr]
    obtain ⟨i, rfl⟩ : ∃ i, k = i + 1 := ⟨k - 1, by omega⟩
    cases e : s.data.toList with
    | nil => rw [hsz, e] at hk; simp at hk
    | cons c x =>
      rw [List.take_succ_cons, List.drop_succ_cons, List.cons_append]
      cases hc : leB c with
      | false => rw [lead_other hc, lead_other hc]
      | true =>
        rw [lead_letter hc, lead_letter hc, run_ins_past x b i (by rw [hrz, e, lead_letter hc] at hp; simp at hp; omega) (by rw [hsz, e] at hk; simpa using hk)]
  · intro h0 hp hb
    apply ba_ext
    rw [h2, app_data, app_data, ex_pre, ex_suf, hr]
    obtain ⟨i, rfl⟩ : ∃ i, k = i + 1 := ⟨k - 1, by omega⟩
    cases e : s.data.toList with
    | nil => rw [hsz, e] at hk; simp at hk
    | cons c x =>
      rw [List.take_succ_cons, List.drop_succ_cons, List.cons_append]
      cases hc : leB c with
      | false => rw [hrz, e, lead_other hc] at hp; simp at hp
      | true =>
        rw [lead_letter hc, lead_letter hc, run_ins x b i (by rw [hrz, e, lead_letter hc] at hp; simpa using hp)]
        rw [if_pos (show nbB b = true from hb)]
        simp
  · intro h0 hp hb
    apply ba_ext
    rw [h2, ex_pre, hr]
    obtain ⟨i, rfl⟩ : ∃ i, k = i + 1 := ⟨k - 1, by omega⟩
    cases e : s.data.toList with
    | nil => rw [hsz, e] at hk; simp at hk
    | cons c x =>
      rw [List.take_succ_cons, List.drop_succ_cons, List.cons_append]
      cases hc : leB c with
      | false => rw [hrz, e, lead_other hc] at hp; simp at hp
      | true =>
        rw [lead_letter hc, lead_letter hc, run_ins x b i (by rw [hrz, e, lead_letter hc] at hp; simpa using hp)]
        have hb' : nbB b = false := hb
        simp [hb']

set_option maxHeartbeats 1000000 in
theorem law2_in (s : ByteArray) (b : UInt8) (k : Nat) (w : World) (hs : s.size ≤ 1048576) (hk : k ≤ s.size) :
    Calls Try.prog 4 #[.string s, .int .u8 (b.toNat : Int), .int .i64 k] w fun e w' => e = .returned (.bool true) ∧ Below w.heap.size w w' := by
  have t1 : decide ((1048576 : Int) < (s.size : Int)) = false := decide_eq_false (by omega)
  have t2 : decide ((k : Int) < 0) = false := decide_eq_false (by omega)
  have t3 : decide (s.size < k) = false := decide_eq_false (by omega)
  obtain ⟨m, J⟩ := put s b k hk
  obtain ⟨r, hr⟩ : ∃ r, Hid (r = leadS s) := ⟨_, rfl⟩
  obtain ⟨a, ha⟩ : ∃ a, Hid (a = leadS ((⟨#[65]⟩ : ByteArray) ++ s)) := ⟨_, rfl⟩
  obtain ⟨r2, h2⟩ : ∃ r2, Hid (r2 = leadS (putIn s b k)) := ⟨_, rfl⟩
  rw [← hr.out, ← ha.out, ← h2.out] at J
  have l1 := fun w => lead_any s w (by omega)
  have l2 := fun w => lead_any ((⟨#[65]⟩ : ByteArray) ++ s) w (by rw [size_eq, A_data, List.length_cons, ← size_eq]; omega)
  have l3 := fun w => lead_any (putIn s b k) w (by rw [size_eq, putIn_data]; have := size_eq s; simp; omega)
  rw [← hr.out] at l1
  rw [← ha.out] at l2
  rw [← h2.out] at l3
  have L1 : Hid (∀ w, Calls Try.prog 6 #[.string s] w fun e w' => e = .returned (.string r) ∧ w' = w) := l1
  have L2 : Hid (∀ w, Calls Try.prog 6 #[.string ((⟨#[65]⟩ : ByteArray) ++ s)] w fun e w' => e = .returned (.string a) ∧ w' = w) := l2
  have L3 : Hid (∀ w, Calls Try.prog 6 #[.string (s.extract 0 k ++ (⟨#[b]⟩ : ByteArray) ++ s.extract k s.size)] w fun e w' => e = .returned (.string r2) ∧ w' = w) := l3
  clear l1 l2 l3 hr ha h2
  obtain ⟨j1, j2, j3, j4, j5, j6, j7, j8, j9, j10⟩ := J
  have HJ : Hid ((0 < r.size → a = (⟨#[65]⟩ : ByteArray) ++ r) ∧ (k = 0 → le (b.toNat : Int) = true → r2 = (⟨#[b]⟩ : ByteArray) ++ a.extract 1 (m + 1)) ∧ (k = 0 → le (b.toNat : Int) = false → r2 = ByteArray.empty) ∧ (0 < k → (r.size = 0 ∨ r.size < k) → r2 = r) ∧
      (0 < k → k ≤ r.size → nb (b.toNat : Int) = true → r2 = r.extract 0 k ++ (⟨#[b]⟩ : ByteArray) ++ r.extract k r.size) ∧ (0 < k → k ≤ r.size → nb (b.toNat : Int) = false → r2 = r.extract 0 k)) := ⟨j5, j6, j7, j8, j9, j10⟩
  clear j5 j6 j7 j8 j9 j10
  have ha1 : 0 < a.size := by omega
  have hA : ((a[0].toNat : Int) != 65) = false := by simpa using j4 ha1
  clear j4
  have t4 : decide ((m : Int) + 1 < 1) = false := decide_eq_false (by omega)
  have hcv : ∀ W : World, (convert 27 9 (.slice (some ⟨W.heap.size, 0, none⟩) 1 1)).run Try.prog (W.alloc (.cells #[.int .u8 (b.toNat : Int)] 5)) = .ok (.string ⟨#[b]⟩) (W.alloc (.cells #[.int .u8 (b.toNat : Int)] 5)) :=
    fun W => run_convert_bytes_back _ 27 9 5 ⟨W.heap.size, 0, none⟩ 1 [b] Try.underlying27 Try.underlying5 Try.underlying9 (fun j hj => by
      obtain rfl : j = 0 := by simpa using hj
      simp [Addr.add, go_sem])
  have x1 : (s.extract 0 k).size = k := by rw [ByteArray.size_extract]; omega
  have x2 : (s.extract k s.size).size = s.size - k := by rw [ByteArray.size_extract]; omega
  have x3 : (a.extract 1 (m + 1)).size = m := by rw [ByteArray.size_extract, j2]; omega
  go_enter Try.func4, Try.ntmps4
  go_wp2_with (go_at_call 11; refine (bytes2_yes _ _ _ _ hs).mono ?_; rintro e w' ⟨rfl, rfl⟩)
  refine (L1.out _).mono ?_
  rintro e w1 ⟨rfl, rfl⟩
  go_wp2_with fail
  refine (L2.out _).mono ?_
  rintro e w2 ⟨rfl, rfl⟩
  by_cases hr0 : r.size = 0
  · have er := is_empty hr0
    have rb : ((r.size : Int) == 0) = true := beq_iff_eq.2 (by omega)
    by_cases hk0 : k = 0
    · have hkb : ((k : Int) == 0) = true := beq_iff_eq.2 (by omega)
      cases hle : le (b.toNat : Int) with
      | true =>
        have eu := HJ.out.2.1 hk0 hle
        subst eu
        clear hk0
        go_wp2_with fail
        go_quiet ((go_at_call 6; exact Calls.quiet_of_same (L3.out _)))
        go_wp2_with (go_at_call 9; refine (lnIsLetter_any _ _).mono ?_; rintro e w' ⟨rfl, rfl⟩)
        go_ret
        exact ⟨rfl, (by first | exact (Below.refl _ _).alloc (Nat.le_refl _) _ | exact below_drewN ((Below.refl _ _).alloc (Nat.le_refl _) _) _ | exact below_drewN (below_drewN ((Below.refl _ _).alloc (Nat.le_refl _) _) _) _)⟩
      | false =>
        have eu := HJ.out.2.2.1 hk0 hle
        subst eu
        clear hk0
        go_wp2_with fail
        go_quiet ((go_at_call 6; exact Calls.quiet_of_same (L3.out _)))
        go_wp2_with (go_at_call 9; refine (lnIsLetter_any _ _).mono ?_; rintro e w' ⟨rfl, rfl⟩)
        go_ret
        exact ⟨rfl, (by first | exact (Below.refl _ _).alloc (Nat.le_refl _) _ | exact below_drewN ((Below.refl _ _).alloc (Nat.le_refl _) _) _ | exact below_drewN (below_drewN ((Below.refl _ _).alloc (Nat.le_refl _) _) _) _)⟩
    · have hkb : ((k : Int) == 0) = false := beq_eq_false_iff_ne.2 (by omega)
      have eu := HJ.out.2.2.2.1 (by omega) (.inl hr0)
      subst eu
      go_wp2_with fail
      go_quiet ((go_at_call 6; exact Calls.quiet_of_same (L3.out _)))
      go_wp2
      go_ret
      exact ⟨rfl, (by first | exact (Below.refl _ _).alloc (Nat.le_refl _) _ | exact below_drewN ((Below.refl _ _).alloc (Nat.le_refl _) _) _ | exact below_drewN (below_drewN ((Below.refl _ _).alloc (Nat.le_refl _) _) _) _)⟩
  · have hr1 : 0 < r.size := by omega
    have er := ne_empty hr1
    have rb : ((r.size : Int) == 0) = false := beq_eq_false_iff_ne.2 (by omega)
    have eA : (a.toList == ((⟨#[65]⟩ : ByteArray) ++ r).toList) = true := by rw [← HJ.out.1 hr1]; simp
    by_cases hk0 : k = 0
    · have hkb : ((k : Int) == 0) = true := beq_iff_eq.2 (by omega)
      cases hle : le (b.toNat : Int) with
      | true =>
        have eu := HJ.out.2.1 hk0 hle
        subst eu
        clear hk0
        go_wp2_with fail
        go_quiet ((go_at_call 6; exact Calls.quiet_of_same (L3.out _)))
        go_wp2_with (go_at_call 9; refine (lnIsLetter_any _ _).mono ?_; rintro e w' ⟨rfl, rfl⟩)
        go_ret
        exact ⟨rfl, (by first | exact (Below.refl _ _).alloc (Nat.le_refl _) _ | exact below_drewN ((Below.refl _ _).alloc (Nat.le_refl _) _) _ | exact below_drewN (below_drewN ((Below.refl _ _).alloc (Nat.le_refl _) _) _) _)⟩
      | false =>
        have eu := HJ.out.2.2.1 hk0 hle
        subst eu
        clear hk0
        go_wp2_with fail
        go_quiet ((go_at_call 6; exact Calls.quiet_of_same (L3.out _)))
        go_wp2_with (go_at_call 9; refine (lnIsLetter_any _ _).mono ?_; rintro e w' ⟨rfl, rfl⟩)
        go_ret
        exact ⟨rfl, (by first | exact (Below.refl _ _).alloc (Nat.le_refl _) _ | exact below_drewN ((Below.refl _ _).alloc (Nat.le_refl _) _) _ | exact below_drewN (below_drewN ((Below.refl _ _).alloc (Nat.le_refl _) _) _) _)⟩
    · have hkb : ((k : Int) == 0) = false := beq_eq_false_iff_ne.2 (by omega)
      by_cases hkr : r.size < k
      · have eu := HJ.out.2.2.2.1 (by omega) (.inr hkr)
        subst eu
        go_wp2_with fail
        go_quiet ((go_at_call 6; exact Calls.quiet_of_same (L3.out _)))
        go_wp2
        go_ret
        exact ⟨rfl, (by first | exact (Below.refl _ _).alloc (Nat.le_refl _) _ | exact below_drewN ((Below.refl _ _).alloc (Nat.le_refl _) _) _ | exact below_drewN (below_drewN ((Below.refl _ _).alloc (Nat.le_refl _) _) _) _)⟩
      · have x4 : (r.extract 0 k).size = k := by rw [ByteArray.size_extract]; omega
        have x5 : (r.extract k r.size).size = r.size - k := by rw [ByteArray.size_extract]; omega
        have hkr' : k ≤ r.size := by omega
        cases hnb : nb (b.toNat : Int) with
        | true =>
          have eu := HJ.out.2.2.2.2.1 (by omega) hkr' hnb
          subst eu
          go_wp2_with fail
          go_quiet ((go_at_call 6; exact Calls.quiet_of_same (L3.out _)))
          go_wp2_with (go_at_call 10; refine (lnIsNameByte_any _ _).mono ?_; rintro e w' ⟨rfl, rfl⟩)
          go_quiet (fail)
          go_wp2
          go_ret
          exact ⟨rfl, (by first | exact (Below.refl _ _).alloc (Nat.le_refl _) _ | exact below_drewN ((Below.refl _ _).alloc (Nat.le_refl _) _) _ | exact below_drewN (below_drewN ((Below.refl _ _).alloc (Nat.le_refl _) _) _) _)⟩
        | false =>
          have eu := HJ.out.2.2.2.2.2 (by omega) hkr' hnb
          subst eu
          go_wp2_with fail
          go_quiet ((go_at_call 6; exact Calls.quiet_of_same (L3.out _)))
          go_wp2_with (go_at_call 10; refine (lnIsNameByte_any _ _).mono ?_; rintro e w' ⟨rfl, rfl⟩)
          go_ret
          exact ⟨rfl, (by first | exact (Below.refl _ _).alloc (Nat.le_refl _) _ | exact below_drewN ((Below.refl _ _).alloc (Nat.le_refl _) _) _ | exact below_drewN (below_drewN ((Below.refl _ _).alloc (Nat.le_refl _) _) _) _)⟩

theorem law2 (s : ByteArray) (c i : Int) (hc0 : 0 ≤ c) (hc1 : c ≤ 255) (w : World) : Calls Try.prog 4 #[.string s, .int .u8 c, .int .i64 i] w fun e w' => e = .returned (.bool true) ∧ Below w.heap.size w w' := by
  by_cases h : s.size ≤ 1048576
  · have t1 : decide ((1048576 : Int) < (s.size : Int)) = false := decide_eq_false (by omega)
    by_cases h0 : i < 0
    · go_enter Try.func4, Try.ntmps4
      go_wp2_with (go_at_call 11; refine (bytes2_yes _ _ _ _ h).mono ?_; rintro e w' ⟨rfl, rfl⟩)
      go_ret
      exact ⟨rfl, Below.refl _ _⟩
    by_cases h1 : (s.size : Int) < i
    · have t2 : decide (i < 0) = false := decide_eq_false h0
      go_enter Try.func4, Try.ntmps4
      go_wp2_with (go_at_call 11; refine (bytes2_yes _ _ _ _ h).mono ?_; rintro e w' ⟨rfl, rfl⟩)
      go_ret
      exact ⟨rfl, Below.refl _ _⟩
    obtain ⟨k, rfl⟩ := Int.eq_ofNat_of_zero_le (Int.not_lt.1 h0)
    obtain ⟨n, rfl⟩ := Int.eq_ofNat_of_zero_le hc0
    have e : n = (UInt8.ofNat n).toNat := by simp; omega
    rw [e]
    exact law2_in s (UInt8.ofNat n) k w h (by omega)
  · go_enter Try.func4, Try.ntmps4
    go_wp2_with (go_at_call 11; refine (bytes2_no _ _ _ _ (by omega)).mono ?_; rintro e w' ⟨rfl, rfl⟩)
    go_ret
    exact ⟨rfl, Below.refl _ _⟩

end Go.Proofs.Qxb6628153a
