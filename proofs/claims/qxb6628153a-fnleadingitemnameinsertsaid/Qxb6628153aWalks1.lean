/- THE WALKS of the callees. -/
import Derived.Test.Qxb6628153aRows
import Derived.Test.Qxb6628153aPlain
import Derived.WalkKit
import Derived.WalkSpells
import Derived.Outline
import Derived.Deep.QuietTactic
import Derived.BigQuiet
import Derived.Deep.Light
import Derived.WalkSmall
import Derived.Below
namespace Go.Proofs.Qxb6628153a
open Go.RowKit Pl

theorem ret_bool {a b : Bool} (h : a = b) : Ending.returned (.bool a) = .returned (.bool b) := by rw [h]

/-- isLetter -/
theorem isLetter_any (c : Int) (w : World) : Calls Try.prog 12 #[.int .u8 c] w fun e w' => e = .returned (.bool (le c)) ∧ w' = w := by
  go_enter Try.func12, Try.ntmps12
  go_wp2
  all_goals (go_ret; exact ⟨ret_bool (by rw [Bool.eq_iff_iff]; simp [le] <;> omega), rfl⟩)
/-- lnIsLetter -/
theorem lnIsLetter_any (c : Int) (w : World) : Calls Try.prog 9 #[.int .u8 c] w fun e w' => e = .returned (.bool (le c)) ∧ w' = w := by
  go_enter Try.func9, Try.ntmps9
  go_wp2
  all_goals (go_ret; exact ⟨ret_bool (by rw [Bool.eq_iff_iff]; simp [le] <;> omega), rfl⟩)
/-- lnIsNameByte -/
theorem lnIsNameByte_any (c : Int) (w : World) : Calls Try.prog 10 #[.int .u8 c] w fun e w' => e = .returned (.bool (nb c)) ∧ w' = w := by
  cases ha : le c with
  | true =>
    have hn : nb c = true := nb_le ha
    go_enter Try.func10, Try.ntmps10
    go_wp2_with (go_at_call 9; refine (lnIsLetter_any _ _).mono ?_; rintro e w' ⟨rfl, rfl⟩)
    go_ret
    exact ⟨ret_bool hn.symm, rfl⟩
  | false =>
    have HN : Hid (nb c = decide ((48 ≤ c ∧ c ≤ 57) ∨ c = 95)) := by show nb c = _; simp [nb, ha]
    go_enter Try.func10, Try.ntmps10
    go_wp2_with (go_at_call 9; refine (lnIsLetter_any _ _).mono ?_; rintro e w' ⟨rfl, rfl⟩)
    all_goals (go_ret; exact ⟨ret_bool (by rw [HN.out, Bool.eq_iff_iff]; simp <;> omega), rfl⟩)

theorem ne_empty {s : ByteArray} (h : 0 < s.size) : s.toList.isEmpty = false := by
  rw [ByteArray.toList_eq]
  cases e : s.data.toList with
  | nil => rw [size_eq, e] at h; simp at h
  | cons => rfl
theorem is_empty {s : ByteArray} (h : s.size = 0) : s.toList.isEmpty = true := by
  rw [ByteArray.toList_eq]
  cases e : s.data.toList with
  | nil => rfl
  | cons => rw [size_eq, e] at h; simp at h

theorem lead_step {s : ByteArray} {j : Nat} (H : ∀ i b, 1 ≤ i → i < j → s.data.toList[i]? = some b → nbB b = true) (hlt : j < s.size) (hn : nb (s[j].toNat : Int) = true) : Hid (∀ i b, 1 ≤ i → i < j + 1 → s.data.toList[i]? = some b → nbB b = true) := by
  intro i b h1 h2 hb
  by_cases e : i = j
  · subst e
    rw [get_data s i hlt] at hb
    simp at hb
    subst hb
    exact hn
  · exact H i b h1 (by omega) hb
theorem lead_exit {s : ByteArray} {j : Nat} (h0 : 0 < s.size) (hl : le (s[0].toNat : Int) = true) (hj1 : 1 ≤ j) (hj2 : j ≤ s.size) (H : ∀ i b, 1 ≤ i → i < j → s.data.toList[i]? = some b → nbB b = true)
    (hs : ∀ h : j < s.size, nb (s[j].toNat : Int) = false) : s.extract 0 j = leadS s := by
  apply ba_ext
  rw [ex_pre, leadS_data]
  have hg := get_data s 0 h0
  have hz := size_eq s
  have hst : ∀ b, s.data.toList[j]? = some b → nbB b = false := by
    intro b hb
    by_cases h : j < s.size
    · rw [get_data s j h] at hb
      simp at hb
      subst hb
      exact hs h
    · rw [List.getElem?_eq_none (by omega)] at hb; cases hb
  cases e : s.data.toList with
  | nil => rw [e] at hg; simp at hg
  | cons c r =>
    rw [e] at hg H hz hst
    simp at hg
    obtain ⟨k, rfl⟩ : ∃ k, j = k + 1 := ⟨j - 1, by omega⟩
    refine (lead_take c r k (by rw [hg]; exact hl) (by simp at hz; omega) (fun i b hi hb => H (i + 1) b (by omega) (by omega) (by simpa using hb)) (fun b hb => hst b (by simpa using hb))).symm

set_option maxHeartbeats 1000000 in
/-- LeadingItemName, of a string that begins with a letter -/
theorem lead_in (s : ByteArray) (w : World) (hs : s.size ≤ 1048577) (h0 : 0 < s.size) (hl : le (s[0].toNat : Int) = true) :
    Calls Try.prog 6 #[.string s] w fun e w' => e = .returned (.string (leadS s)) ∧ w' = w := by
  have he := ne_empty h0
  go_enter Try.func6, Try.ntmps6
  go_wp2_with (go_at_call 12; refine (isLetter_any _ _).mono ?_; rintro e w' ⟨rfl, rfl⟩)
  go_loop [3] (fun i => ∃ j : Nat, 1 ≤ j ∧ j ≤ s.size ∧ i = .int .i64 j ∧ Hid (∀ i b, 1 ≤ i → i < j → s.data.toList[i]? = some b → nbB b = true)) (fun i => s.size - (intOf i).toNat)
  case atStart => exact ⟨1, Nat.le_refl _, h0, rfl, fun i b h1 h2 => by omega⟩
  case round =>
    obtain ⟨j, hj1, hj2, rfl, H⟩ := hrel
    by_cases hlt : j < s.size
    · cases hle : le (s[j].toNat : Int) with
      | true =>
        have H' := lead_step H.out hlt (nb_le hle)
        go_wp2_with (go_at_call 12; refine (isLetter_any _ _).mono ?_; rintro e w' ⟨rfl, rfl⟩)
        go_round
        case rel => exact ⟨j + 1, by omega, by omega, by go_num, H'⟩
        case measure => simp [intOf]; omega
      | false =>
        by_cases h48 : (48 : Int) ≤ (s[j].toNat : Int)
        · by_cases h57 : (s[j].toNat : Int) ≤ 57
          · have H' := lead_step H.out hlt (by simp [nb, h48, h57])
            go_wp2_with (go_at_call 12; refine (isLetter_any _ _).mono ?_; rintro e w' ⟨rfl, rfl⟩)
            go_round
            case rel => exact ⟨j + 1, by omega, by omega, by go_num, H'⟩
            case measure => simp [intOf]; omega
          · by_cases h95 : (s[j].toNat : Int) = 95
            · have H' := lead_step H.out hlt (by simp [nb, h95])
              have e95 : ((s[j].toNat : Int) == 95) = true := beq_iff_eq.2 h95
              clear h95
              go_wp2_with (go_at_call 12; refine (isLetter_any _ _).mono ?_; rintro e w' ⟨rfl, rfl⟩)
              go_round
              case rel => exact ⟨j + 1, by omega, by omega, by go_num, H'⟩
              case measure => simp [intOf]; omega
            · have e95 : ((s[j].toNat : Int) == 95) = false := beq_eq_false_iff_ne.2 h95
              have R := lead_exit h0 hl hj1 hj2 H.out (fun h => by simp [nb, hle, h57, h95])
              clear h95
              go_wp2_with (go_at_call 12; refine (isLetter_any _ _).mono ?_; rintro e w' ⟨rfl, rfl⟩)
              go_ret
              exact ⟨rfl, rfl⟩
        · have h95 : (s[j].toNat : Int) ≠ 95 := by omega
          have e95 : ((s[j].toNat : Int) == 95) = false := beq_eq_false_iff_ne.2 h95
          have R := lead_exit h0 hl hj1 hj2 H.out (fun h => by simp [nb, hle, h48, h95])
          clear h95
          go_wp2_with (go_at_call 12; refine (isLetter_any _ _).mono ?_; rintro e w' ⟨rfl, rfl⟩)
          go_ret
          exact ⟨rfl, rfl⟩
    · have R := lead_exit h0 hl hj1 hj2 H.out (fun h => absurd h hlt)
      go_wp2_with (go_at_call 12; refine (isLetter_any _ _).mono ?_; rintro e w' ⟨rfl, rfl⟩)
      go_ret
      exact ⟨rfl, rfl⟩

/-- LeadingItemName -/
theorem lead_any (s : ByteArray) (w : World) (hs : s.size ≤ 1048577) : Calls Try.prog 6 #[.string s] w fun e w' => e = .returned (.string (leadS s)) ∧ w' = w := by
  by_cases h0 : 0 < s.size
  · cases hl : le (s[0].toNat : Int) with
    | true => exact lead_in s w hs h0 hl
    | false =>
      have R : Hid (leadS s = ByteArray.empty) := by
        show leadS s = ByteArray.empty
        apply ba_ext
        rw [leadS_data]
        have hg := get_data s 0 h0
        cases e : s.data.toList with
        | nil => rfl
        | cons c r =>
          rw [e] at hg
          simp at hg
          rw [lead_other (by rw [hg]; exact hl)]
          rfl
      have he := ne_empty h0
      go_enter Try.func6, Try.ntmps6
      go_wp2_with (go_at_call 12; refine (isLetter_any _ _).mono ?_; rintro e w' ⟨rfl, rfl⟩)
      go_ret
      exact ⟨by rw [R.out]; rfl, rfl⟩
  · have R : Hid (leadS s = ByteArray.empty) := by
      show leadS s = ByteArray.empty
      apply ba_ext
      rw [leadS_data]
      cases e : s.data.toList with
      | nil => rfl
      | cons c r => rw [size_eq, e] at h0; simp at h0
    have he := is_empty (s := s) (by omega)
    go_enter Try.func6, Try.ntmps6
    go_wp2
    go_ret
    exact ⟨by rw [R.out]; rfl, rfl⟩

theorem pre_get {p s : ByteArray} (h : p.data.toList <+: s.data.toList) (k : Nat) (hp : k < p.size) (hs : k < s.size) : s[k] = p[k] := by
  obtain ⟨x, hx⟩ := h
  have h1 := get_data s k hs
  have h2 := get_data p k hp
  rw [← hx, List.getElem?_append_left (by rw [← size_eq]; exact hp), h2] at h1
  simpa using h1.symm

set_option maxHeartbeats 400000 in
/-- lnStartsWith, where it does -/
theorem starts_yes (s p : ByteArray) (w : World) (hs : s.size ≤ 1048577) (h : p.data.toList <+: s.data.toList) :
    Calls Try.prog 7 #[.string s, .string p] w fun e w' => e = .returned (.bool true) ∧ ∃ n, w' = w.drewN n := by
  have hl : p.size ≤ s.size := by rw [size_eq, size_eq]; exact h.length_le
  have t1 : decide (s.size < p.size) = false := decide_eq_false (by omega)
  go_enter Try.func7, Try.ntmps7
  go_wp2
  go_loopw [5] (fun i wr => ∃ j : Nat, j ≤ p.size ∧ i = .int .i64 j ∧ ∃ n, wr = w.drewN n) (fun i _ => p.size - (intOf i).toNat)
  case atStart => exact ⟨0, Nat.zero_le _, rfl, 0, rfl⟩
  case round =>
    obtain ⟨j, hj, rfl, n, rfl⟩ := hrel
    by_cases hlt : j < p.size
    · have hlt' : (j : Int) < (p.size : Int) := by omega
      have hls : j < s.size := by omega
      have hls' : (j : Int) < (s.size : Int) := by omega
      have hg := pre_get h j hlt hls
      go_wp2
      go_quiet (fail)
      go_wp2
      go_roundw
      case rel => exact ⟨j + 1, by omega, by go_num, _, rfl⟩
      case measure => simp [intOf]; omega
    · go_wp2
      go_ret
      exact ⟨rfl, n, rfl⟩

set_option maxHeartbeats 400000 in
/-- lnIsName, of a name -/
theorem name_yes (x : ByteArray) (w : World) (hx : x.size ≤ 1048577) (h : IsNm x.data.toList) :
    Calls Try.prog 8 #[.string x] w fun e w' => e = .returned (.bool true) ∧ w' = w := by
  obtain ⟨c, r, h1, h2, h3⟩ := h
  have h0 : 0 < x.size := by rw [size_eq, h1]; simp
  have hl : le (x[0].toNat : Int) = true := by
    have hg := get_data x 0 h0
    rw [h1] at hg
    simp at hg
    rw [← hg]; exact h2
  have hn : ∀ (j : Nat) (hj : j < x.size), 1 ≤ j → nb (x[j].toNat : Int) = true := by
    intro j hj hj1
    have hg := get_data x j hj
    obtain ⟨k, rfl⟩ : ∃ k, j = k + 1 := ⟨j - 1, by omega⟩
    rw [h1] at hg
    simp at hg
    exact h3 _ (List.mem_of_getElem? hg)
  have e0 : ((x.size : Int) == 0) = false := beq_eq_false_iff_ne.2 (by omega)
  have HN : Hid (∀ (j : Nat) (hj : j < x.size), 1 ≤ j → nb (x[j].toNat : Int) = true) := hn
  clear hn h1 h2 h3
  go_enter Try.func8, Try.ntmps8
  go_wp2_with (first | (go_at_call 9; refine (lnIsLetter_any _ _).mono ?_; rintro e w' ⟨rfl, rfl⟩))
  go_loop [3] (fun i => ∃ j : Nat, 1 ≤ j ∧ j ≤ x.size ∧ i = .int .i64 j) (fun i => x.size - (intOf i).toNat)
  case atStart => exact ⟨1, Nat.le_refl _, h0, rfl⟩
  case round =>
    obtain ⟨j, hj1, hj2, rfl⟩ := hrel
    by_cases hlt : j < x.size
    · have hn := HN.out j hlt hj1
      go_wp2_with (go_at_call 10; refine (lnIsNameByte_any _ _).mono ?_; rintro e w' ⟨rfl, rfl⟩)
      go_round
      case rel => exact ⟨j + 1, by omega, by omega, by go_num⟩
      case measure => simp [intOf]; omega
    · go_wp2
      go_ret
      exact ⟨rfl, rfl⟩

theorem bytes1_yes (s t : ByteArray) (w : World) (h : s.size + t.size ≤ 1048576) : Calls Try.prog 5 #[.string s, .string t] w fun e w' => e = .returned (.bool true) ∧ w' = w := by
  go_enter Try.func5, Try.ntmps5
  go_wp2
  go_ret
  exact ⟨rfl, rfl⟩
theorem bytes1_no (s t : ByteArray) (w : World) (h : 1048576 < s.size + t.size) : Calls Try.prog 5 #[.string s, .string t] w fun e w' => e = .returned (.bool false) ∧ w' = w := by
  by_cases h1 : 1048576 < s.size
  · go_enter Try.func5, Try.ntmps5
    go_wp2
    go_ret
    exact ⟨rfl, rfl⟩
  · by_cases h2 : 1048576 < t.size
    · go_enter Try.func5, Try.ntmps5
      go_wp2
      go_ret
      exact ⟨rfl, rfl⟩
    · go_enter Try.func5, Try.ntmps5
      go_wp2
      go_ret
      exact ⟨rfl, rfl⟩
theorem bytes2_yes (s : ByteArray) (c i : Int) (w : World) (h : s.size ≤ 1048576) : Calls Try.prog 11 #[.string s, .int .u8 c, .int .i64 i] w fun e w' => e = .returned (.bool true) ∧ w' = w := by
  go_enter Try.func11, Try.ntmps11
  go_wp2
  go_ret
  exact ⟨rfl, rfl⟩
theorem bytes2_no (s : ByteArray) (c i : Int) (w : World) (h : 1048576 < s.size) : Calls Try.prog 11 #[.string s, .int .u8 c, .int .i64 i] w fun e w' => e = .returned (.bool false) ∧ w' = w := by
  go_enter Try.func11, Try.ntmps11
  go_wp2
  go_ret
  exact ⟨rfl, rfl⟩

end Go.Proofs.Qxb6628153a
