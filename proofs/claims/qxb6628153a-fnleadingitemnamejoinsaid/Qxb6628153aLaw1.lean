/- THE WALK of the join. -/
import Derived.Test.Qxb6628153aWalks1
namespace Go.Proofs.Qxb6628153a
open Go.RowKit Pl

/-- All that the law asks of the three names. -/
structure Joined (s t r u a : ByteArray) (m : Nat) : Prop where
  le_s : r.size ≤ s.size
  pre : r.data.toList <+: s.data.toList
  nm : 0 < r.size → IsNm r.data.toList
  first : r.size = 0 → ∀ h : 0 < s.size, le (s[0].toNat : Int) = false
  stop : 0 < r.size → ∀ h : r.size < s.size, nb (s[r.size].toNat : Int) = false
  asz : a.size = m + 1
  at_le : m ≤ t.size
  anm : IsNm a.data.toList
  apre : a.data.toList <+: ((⟨#[65]⟩ : ByteArray) ++ t).data.toList
  astop : ∀ h : m < t.size, nb (t[m].toNat : Int) = false
  j1 : r.size < s.size → u = r
  j2 : s.size = 0 → u = leadS t
  j3 : r.size = s.size → 0 < s.size → u = s ++ a.extract 1 (m + 1)

theorem A_data (t : ByteArray) : ((⟨#[65]⟩ : ByteArray) ++ t).data.toList = 65 :: t.data.toList := by rw [app_data]; rfl

theorem joined (s t : ByteArray) : ∃ m, Joined s t (leadS s) (leadS (s ++ t)) (leadS ((⟨#[65]⟩ : ByteArray) ++ t)) m := by
  have hr : (leadS s).data.toList = lead s.data.toList := leadS_data s
  have hrz : (leadS s).size = (lead s.data.toList).length := by rw [size_eq, hr]
  have hsz := size_eq s
  have htz := size_eq t
  have ha : (leadS ((⟨#[65]⟩ : ByteArray) ++ t)).data.toList = 65 :: run t.data.toList := by rw [leadS_data, A_data, lead_A]
  have hu : (leadS (s ++ t)).data.toList = lead (s.data.toList ++ t.data.toList) := by rw [leadS_data, app_data]
  have hll := lead_length_le s.data.toList
  have hrl := run_length_le t.data.toList
  have haz : (leadS ((⟨#[65]⟩ : ByteArray) ++ t)).size = (run t.data.toList).length + 1 := by rw [size_eq, ha]; simp
  refine ⟨(run t.data.toList).length, ?_⟩
  constructor
  · omega
  · rw [hr]; exact lead_prefix _
  · intro h; rw [hr]; exact lead_name _ (fun e => by rw [hrz, e] at h; simp at h)
  · intro h h0
    exact lead_nil s.data.toList (List.eq_nil_of_length_eq_zero (by omega)) _ (get_data s 0 h0)
  · intro h h0
    refine lead_stop s.data.toList (fun e => by rw [hrz, e] at h; simp at h) _ ?_
    rw [← hrz]; exact get_data s _ h0
  · exact haz
  · omega
  · rw [ha]; exact ⟨65, _, rfl, by decide, run_all _⟩
  · rw [ha, A_data]; exact List.cons_prefix_cons.2 ⟨rfl, run_prefix _⟩
  · intro h
    exact run_stop t.data.toList _ (get_data t _ h)
  · intro h
    apply ba_ext
    rw [hu, hr, join_stop _ _ (by omega)]
  · intro h
    apply ba_ext
    have e : s.data.toList = [] := List.eq_nil_of_length_eq_zero (by omega)
    rw [hu, leadS_data, e, List.nil_append]
  · intro h h0
    apply ba_ext
    rw [hu, app_data, ex_data, ha, join_all _ _ (by omega) (fun e => by rw [hsz, e] at h0; simp at h0)]
    simp

set_option maxHeartbeats 1000000 in
theorem law1_in (s t : ByteArray) (w : World) (hst : s.size + t.size ≤ 1048576) :
    Calls Try.prog 3 #[.string s, .string t] w fun e w' => e = .returned (.bool true) ∧ Below w.heap.size w w' := by
  have t1 : decide ((1048576 : Int) < (s.size : Int)) = false := decide_eq_false (by omega)
  have t2 : decide ((1048576 : Int) - (s.size : Int) < (t.size : Int)) = false := decide_eq_false (by omega)
  have hst' : ¬ 9223372036854775807 < s.size + t.size := by omega
  obtain ⟨m, J⟩ := joined s t
  obtain ⟨r, hr⟩ : ∃ r, Hid (r = leadS s) := ⟨_, rfl⟩
  obtain ⟨u, hu⟩ : ∃ u, Hid (u = leadS (s ++ t)) := ⟨_, rfl⟩
  obtain ⟨a, ha⟩ : ∃ a, Hid (a = leadS ((⟨#[65]⟩ : ByteArray) ++ t)) := ⟨_, rfl⟩
  rw [← hr.out, ← hu.out, ← ha.out] at J
  have l1 := fun w => lead_any s w (by omega)
  have l2 := fun w => lead_any (s ++ t) w (by rw [ByteArray.size_append]; omega)
  have l3 := fun w => lead_any ((⟨#[65]⟩ : ByteArray) ++ t) w (by rw [size_eq, A_data, List.length_cons, ← size_eq]; omega)
  rw [← hr.out] at l1
  rw [← hu.out] at l2
  rw [← ha.out] at l3
  have L1 : Hid (∀ w, Calls Try.prog 6 #[.string s] w fun e w' => e = .returned (.string r) ∧ w' = w) := l1
  have L2 : Hid (∀ w, Calls Try.prog 6 #[.string (s ++ t)] w fun e w' => e = .returned (.string u) ∧ w' = w) := l2
  have L3 : Hid (∀ w, Calls Try.prog 6 #[.string ((⟨#[65]⟩ : ByteArray) ++ t)] w fun e w' => e = .returned (.string a) ∧ w' = w) := l3
  clear l1 l2 l3 hr hu ha
  obtain ⟨j1, j2, j3, j4, j5, j6, j7, j8, j9, j10, j11, j12, j13⟩ := J
  have HJ : Hid ((0 < r.size → IsNm r.data.toList) ∧ (r.size = 0 → ∀ h : 0 < s.size, le (s[0].toNat : Int) = false) ∧ (0 < r.size → ∀ h : r.size < s.size, nb (s[r.size].toNat : Int) = false) ∧ (∀ h : m < t.size, nb (t[m].toNat : Int) = false) ∧ (r.size < s.size → u = r) ∧ (s.size = 0 → u = leadS t) ∧ (r.size = s.size → 0 < s.size → u = s ++ a.extract 1 (m + 1))) := ⟨j3, j4, j5, j10, j11, j12, j13⟩
  clear j3 j4 j5 j10 j11 j12 j13
  go_enter Try.func3, Try.ntmps3
  go_wp2_with (go_at_call 5; refine (bytes1_yes _ _ _ hst).mono ?_; rintro e w' ⟨rfl, rfl⟩)
  refine (L1.out _).mono ?_
  rintro e w1 ⟨rfl, rfl⟩
  go_wp2_with fail
  refine (L2.out _).mono ?_
  rintro e w2 ⟨rfl, rfl⟩
  go_wp2_with fail
  refine (L3.out _).mono ?_
  rintro e w3 ⟨rfl, rfl⟩
  go_wp2_with fail
  refine (starts_yes s r _ (by omega) j2).mono ?_
  rintro e w4 ⟨rfl, n1, rfl⟩
  -- CASES
  by_cases hr0 : r.size = 0
  · have er := is_empty hr0
    by_cases hs0 : s.size = 0
    · have es := is_empty hs0
      have hrs : ¬ r.size < s.size := by omega
      have eu := HJ.out.2.2.2.2.2.1 hs0
      subst eu
      go_wp2_with fail
      refine (name_yes a _ (by omega) j8).mono ?_
      rintro e wA ⟨rfl, rfl⟩
      go_wp2_with fail
      refine (starts_yes _ a _ (by rw [size_eq, A_data, List.length_cons, ← size_eq]; omega) j9).mono ?_
      rintro e wB ⟨rfl, n2, rfl⟩
      by_cases hmt : m < t.size
      · have hn2 := HJ.out.2.2.2.1 hmt
        go_wp2_with (go_at_call 10; refine (lnIsNameByte_any _ _).mono ?_; rintro e w' ⟨rfl, rfl⟩)
        refine (lead_any t _ (by omega)).mono ?_
        rintro e wC ⟨rfl, rfl⟩
        go_wp2
        go_ret
        exact ⟨rfl, (by first | exact below_drewN (Below.refl _ _) _ | exact below_drewN (below_drewN (Below.refl _ _) _) _)⟩
      · go_wp2_with fail
        refine (lead_any t _ (by omega)).mono ?_
        rintro e wC ⟨rfl, rfl⟩
        go_wp2
        go_ret
        exact ⟨rfl, (by first | exact below_drewN (Below.refl _ _) _ | exact below_drewN (below_drewN (Below.refl _ _) _) _)⟩
    · have hs1 : 0 < s.size := by omega
      have es := ne_empty hs1
      have hrs : r.size < s.size := by omega
      have hf := HJ.out.2.1 hr0 hs1
      have eu := HJ.out.2.2.2.2.1 hrs
      subst eu
      go_wp2_with (go_at_call 9; refine (lnIsLetter_any _ _).mono ?_; rintro e w' ⟨rfl, rfl⟩)
      refine (name_yes a _ (by omega) j8).mono ?_
      rintro e wA ⟨rfl, rfl⟩
      go_wp2_with fail
      refine (starts_yes _ a _ (by rw [size_eq, A_data, List.length_cons, ← size_eq]; omega) j9).mono ?_
      rintro e wB ⟨rfl, n2, rfl⟩
      by_cases hmt : m < t.size
      · have hn2 := HJ.out.2.2.2.1 hmt
        go_wp2_with (go_at_call 10; refine (lnIsNameByte_any _ _).mono ?_; rintro e w' ⟨rfl, rfl⟩)
        go_ret
        exact ⟨rfl, (by first | exact below_drewN (Below.refl _ _) _ | exact below_drewN (below_drewN (Below.refl _ _) _) _)⟩
      · go_wp2_with fail
        go_ret
        exact ⟨rfl, (by first | exact below_drewN (Below.refl _ _) _ | exact below_drewN (below_drewN (Below.refl _ _) _) _)⟩
  · have hr1 : 0 < r.size := by omega
    have er := ne_empty hr1
    have es := ne_empty (s := s) (by omega)
    have hnm := HJ.out.1 hr1
    by_cases hrs : r.size < s.size
    · have hf := HJ.out.2.2.1 hr1 hrs
      have eu := HJ.out.2.2.2.2.1 hrs
      subst eu
      go_wp2_with fail
      refine (name_yes u _ (by omega) hnm).mono ?_
      rintro e w5 ⟨rfl, rfl⟩
      go_wp2_with (go_at_call 10; refine (lnIsNameByte_any _ _).mono ?_; rintro e w' ⟨rfl, rfl⟩)
      refine (name_yes a _ (by omega) j8).mono ?_
      rintro e wA ⟨rfl, rfl⟩
      go_wp2_with fail
      refine (starts_yes _ a _ (by rw [size_eq, A_data, List.length_cons, ← size_eq]; omega) j9).mono ?_
      rintro e wB ⟨rfl, n2, rfl⟩
      by_cases hmt : m < t.size
      · have hn2 := HJ.out.2.2.2.1 hmt
        go_wp2_with (go_at_call 10; refine (lnIsNameByte_any _ _).mono ?_; rintro e w' ⟨rfl, rfl⟩)
        go_ret
        exact ⟨rfl, (by first | exact below_drewN (Below.refl _ _) _ | exact below_drewN (below_drewN (Below.refl _ _) _) _)⟩
      · go_wp2_with fail
        go_ret
        exact ⟨rfl, (by first | exact below_drewN (Below.refl _ _) _ | exact below_drewN (below_drewN (Below.refl _ _) _) _)⟩
    · have eu := HJ.out.2.2.2.2.2.2 (by omega) (by omega)
      subst eu
      have hsx : (a.extract 1 (m + 1)).size = m := by rw [ByteArray.size_extract, j6]; omega
      have hcc : ¬ 9223372036854775807 < s.size + m := by omega
      go_wp2_with fail
      refine (name_yes r _ (by omega) hnm).mono ?_
      rintro e w5 ⟨rfl, rfl⟩
      go_wp2_with fail
      refine (name_yes a _ (by omega) j8).mono ?_
      rintro e wA ⟨rfl, rfl⟩
      go_wp2_with fail
      refine (starts_yes _ a _ (by rw [size_eq, A_data, List.length_cons, ← size_eq]; omega) j9).mono ?_
      rintro e wB ⟨rfl, n2, rfl⟩
      by_cases hmt : m < t.size
      · have hn2 := HJ.out.2.2.2.1 hmt
        go_wp2_with (go_at_call 10; refine (lnIsNameByte_any _ _).mono ?_; rintro e w' ⟨rfl, rfl⟩)
        go_ret
        exact ⟨rfl, (by first | exact below_drewN (Below.refl _ _) _ | exact below_drewN (below_drewN (Below.refl _ _) _) _)⟩
      · go_wp2_with fail
        go_ret
        exact ⟨rfl, (by first | exact below_drewN (Below.refl _ _) _ | exact below_drewN (below_drewN (Below.refl _ _) _) _)⟩

theorem law1 (s t : ByteArray) (w : World) : Calls Try.prog 3 #[.string s, .string t] w fun e w' => e = .returned (.bool true) ∧ Below w.heap.size w w' := by
  by_cases h : s.size + t.size ≤ 1048576
  · exact law1_in s t w h
  · go_enter Try.func3, Try.ntmps3
    go_wp2_with (go_at_call 5; refine (bytes1_no _ _ _ (by omega)).mono ?_; rintro e w' ⟨rfl, rfl⟩)
    go_ret
    exact ⟨rfl, Below.refl _ _⟩

end Go.Proofs.Qxb6628153a
