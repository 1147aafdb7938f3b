/- THE WALKS of the guards and the flags. -/
import Derived.Test.Qxb6626091aRows
import Derived.WalkKit
import Derived.WalkSpells
import Derived.Outline
import Derived.Deep.Light
import Derived.Below
namespace Go.Proofs.Qxb6626091a
open Go.RowKit

/-- A slice of strings lies in the world: cell i of it holds g i. B: below which block. -/
def Strs (B : Nat) (w : World) (a : Option Addr) (n : Nat) (g : Nat → ByteArray) : Prop :=
  ∀ i, i < n → ∃ b off, a = some ⟨b, off, none⟩ ∧ b < B ∧ w.cell? ⟨b, off + i, none⟩ = some (.string (g i))
/-- A slice of bools. -/
def Bools (B : Nat) (w : World) (a : Option Addr) (n : Nat) (f : Nat → Bool) : Prop :=
  ∀ i, i < n → ∃ b off, a = some ⟨b, off, none⟩ ∧ b < B ∧ w.cell? ⟨b, off + i, none⟩ = some (.bool (f i))

theorem Strs.below {B : Nat} {w w' : World} {a : Option Addr} {n : Nat} {g : Nat → ByteArray} (h : Strs B w a n g) (hb : Below B w w') : Strs B w' a n g := by
  intro i hi
  obtain ⟨b, off, h1, h2, h3⟩ := h i hi
  exact ⟨b, off, h1, h2, (hb.cell (p := ⟨b, off + i, none⟩) h2).trans h3⟩
theorem Bools.below {B : Nat} {w w' : World} {a : Option Addr} {n : Nat} {g : Nat → Bool} (h : Bools B w a n g) (hb : Below B w w') : Bools B w' a n g := by
  intro i hi
  obtain ⟨b, off, h1, h2, h3⟩ := h i hi
  exact ⟨b, off, h1, h2, (hb.cell (p := ⟨b, off + i, none⟩) h2).trans h3⟩

/-- A flag, false where the slice is shorter. -/
def fl (n : Nat) (f : Nat → Bool) (i : Nat) : Bool := decide (i < n) && f i

/-- zzSvFlag -/
theorem flag_any (B : Nat) (a : Option Addr) (n c : Nat) (f : Nat → Bool) (i : Nat) (w : World) (h : Bools B w a n f) :
    Calls Try.prog 13 #[.slice a n c, .int .i64 i] w fun e w' => e = .returned (.bool (fl n f i)) ∧ w' = w := by
  by_cases hi : i < n
  · obtain ⟨b, off, rfl, -, hc⟩ := h i hi
    have e : fl n f i = f i := by simp [fl, hi]
    rw [e]
    clear e
    go_enter Try.func13, Try.ntmps13
    go_wp2
    go_ret
    exact ⟨rfl, rfl⟩
  · have e : fl n f i = false := by simp [fl, hi]
    rw [e]
    clear e
    go_enter Try.func13, Try.ntmps13
    go_wp2
    go_ret
    exact ⟨rfl, rfl⟩

/-- It returns a bool. -/
def RetsB (e : Ending) : Prop := ∃ b, e = .returned (.bool b)
theorem RetsB.mk (b : Bool) : RetsB (.returned (.bool b)) := ⟨b, rfl⟩

set_option maxHeartbeats 400000 in
/-- zzBytes of the first law -/
theorem bytes1_any (g k f : ByteArray) (na sa da ta : Option Addr) (nn nc sn sc dn dc tn tc : Nat) (q : Int) (G : Nat → ByteArray) (B : Nat) (w : World) (h : Strs B w na nn G) :
    Calls Try.prog 5 #[.string g, .string k, .string f, .slice na nn nc, .slice sa sn sc, .slice da dn dc, .slice ta tn tc, .int .i64 q] w fun e w' => RetsB e ∧ w' = w := by
  go_enter Try.func5, Try.ntmps5
  go_wp2
  all_goals first | (go_ret; exact ⟨RetsB.mk _, rfl⟩) | skip
  go_loop [17, 18] (fun z i => ∃ (x : Int) (j : Nat), j ≤ nn ∧ x ≤ 1048576 ∧ 0 ≤ x ∧ z = .int .i64 x ∧ i = .int .i64 j) (fun _ i => nn - (intOf i).toNat)
  case atStart => exact ⟨_, 0, Nat.zero_le _, by omega, by omega, rfl, rfl⟩
  case round =>
    obtain ⟨x, j, hj, hx, hx0, rfl, rfl⟩ := hrel
    by_cases hlt : j < nn
    · obtain ⟨b, off, rfl, -, hc⟩ := h j hlt
      go_wp2
      all_goals first | (go_ret; exact ⟨RetsB.mk _, rfl⟩) | skip
      go_round
      case rel => exact ⟨_, j + 1, by omega, by omega, by omega, rfl, by go_num⟩
      case measure => simp [intOf]; omega
    · go_wp2
      all_goals (go_ret; exact ⟨RetsB.mk _, rfl⟩)

set_option maxHeartbeats 400000 in
/-- zzBytes of the second law -/
theorem bytes2_any (g k f vn : ByteArray) (v1 v2 v3 : Bool) (na sa da ta : Option Addr) (nn nc sn sc dn dc tn tc : Nat) (q : Int) (G : Nat → ByteArray) (B : Nat) (w : World) (h : Strs B w na nn G) :
    Calls Try.prog 11 #[.string g, .string k, .string f, .slice na nn nc, .slice sa sn sc, .slice da dn dc, .slice ta tn tc, .int .i64 q, .string vn, .bool v1, .bool v2, .bool v3] w fun e w' => RetsB e ∧ w' = w := by
  go_enter Try.func11, Try.ntmps11
  go_wp2
  all_goals first | (go_ret; exact ⟨RetsB.mk _, rfl⟩) | skip
  go_loop [25, 26] (fun z i => ∃ (x : Int) (j : Nat), j ≤ nn ∧ x ≤ 1048576 ∧ 0 ≤ x ∧ z = .int .i64 x ∧ i = .int .i64 j) (fun _ i => nn - (intOf i).toNat)
  case atStart => exact ⟨_, 0, Nat.zero_le _, by omega, by omega, rfl, rfl⟩
  case round =>
    obtain ⟨x, j, hj, hx, hx0, rfl, rfl⟩ := hrel
    by_cases hlt : j < nn
    · obtain ⟨b, off, rfl, -, hc⟩ := h j hlt
      go_wp2
      all_goals first | (go_ret; exact ⟨RetsB.mk _, rfl⟩) | skip
      go_round
      case rel => exact ⟨_, j + 1, by omega, by omega, by omega, rfl, by go_num⟩
      case measure => simp [intOf]; omega
    · go_wp2
      all_goals (go_ret; exact ⟨RetsB.mk _, rfl⟩)

/-- Too big: true; else the list of names is short. -/
def Big (n : Nat) (e : Ending) : Prop := e = .returned (.bool true) ∨ (e = .returned (.bool false) ∧ n ≤ 65536)

set_option maxHeartbeats 400000 in
/-- zzSvTooBig -/
theorem tooBig_any (g k f x : ByteArray) (na sa da ta : Option Addr) (nn nc sn sc dn dc tn tc : Nat) (G : Nat → ByteArray) (B : Nat) (w : World) (h : Strs B w na nn G) :
    Calls Try.prog 6 #[.string g, .string k, .string f, .string x, .slice na nn nc, .slice sa sn sc, .slice da dn dc, .slice ta tn tc] w fun e w' => Big nn e ∧ w' = w := by
  go_enter Try.func6, Try.ntmps6
  go_wp2
  all_goals first | (go_ret; exact ⟨.inl rfl, rfl⟩) | skip
  have hn : nn ≤ 65536 := by omega
  go_loop [17, 18] (fun z i => ∃ (x : Int) (j : Nat), j ≤ nn ∧ x ≤ 1048576 ∧ 0 ≤ x ∧ z = .int .i64 x ∧ i = .int .i64 j) (fun _ i => nn - (intOf i).toNat)
  case atStart => exact ⟨_, 0, Nat.zero_le _, by omega, by omega, rfl, rfl⟩
  case round =>
    obtain ⟨x, j, hj, hx, hx0, rfl, rfl⟩ := hrel
    by_cases hlt : j < nn
    · obtain ⟨b, off, rfl, -, hc⟩ := h j hlt
      go_wp2
      all_goals first | (go_ret; exact ⟨.inl rfl, rfl⟩) | skip
      go_round
      case rel => exact ⟨_, j + 1, by omega, by omega, by omega, rfl, by go_num⟩
      case measure => simp [intOf]; omega
    · go_wp2
      go_ret
      exact ⟨.inr ⟨rfl, hn⟩, rfl⟩

/-- Is one of the flags lo .. hi-1 set? -/
def mk (F : Nat → Bool) (lo hi : Nat) : Bool := (List.range hi).any fun i => decide (lo ≤ i) && F i
theorem mk_iff (F : Nat → Bool) (lo hi : Nat) : mk F lo hi = true ↔ ∃ i, lo ≤ i ∧ i < hi ∧ F i = true := by
  simp only [mk, List.any_eq_true, List.mem_range, Bool.and_eq_true, decide_eq_true_eq]
  constructor
  · rintro ⟨i, h1, h2, h3⟩; exact ⟨i, h2, h1, h3⟩
  · rintro ⟨i, h1, h2, h3⟩; exact ⟨i, h2, h1, h3⟩
theorem mk_false {F : Nat → Bool} {lo hi : Nat} (h : ∀ i, lo ≤ i → i < hi → F i = false) : mk F lo hi = false := by
  cases e : mk F lo hi with
  | false => rfl
  | true =>
    obtain ⟨i, h1, h2, h3⟩ := (mk_iff F lo hi).1 e
    rw [h i h1 h2] at h3
    cases h3

/-- zzSvMarked -/
theorem marked_any (B : Nat) (a : Option Addr) (n c : Nat) (f : Nat → Bool) (lo hi : Nat) (w : World) (hl : lo ≤ hi) (hh : hi ≤ 65536) (h : Bools B w a n f) :
    Calls Try.prog 9 #[.slice a n c, .int .i64 lo, .int .i64 hi] w fun e w' => e = .returned (.bool (mk (fl n f) lo hi)) ∧ w' = w := by
  go_enter Try.func9, Try.ntmps9
  go_wp2
  go_loop [7] (fun i => ∃ j : Nat, lo ≤ j ∧ j ≤ hi ∧ i = .int .i64 j ∧ Hid (∀ t, lo ≤ t → t < j → fl n f t = false)) (fun i => hi - (intOf i).toNat)
  case atStart => exact ⟨lo, Nat.le_refl _, hl, rfl, fun t h1 h2 => by omega⟩
  case round =>
    obtain ⟨j, h1, h2, rfl, H⟩ := hrel
    by_cases hlt : j < hi
    · cases hf : fl n f j with
      | true =>
        have hm : mk (fl n f) lo hi = true := (mk_iff _ _ _).2 ⟨j, h1, hlt, hf⟩
        go_wp2_with (go_at_call 13; refine (flag_any B a n c f j _ h).mono ?_; rintro e w' ⟨rfl, rfl⟩)
        go_ret
        exact ⟨by rw [hm]; rfl, rfl⟩
      | false =>
        have H' : Hid (∀ t, lo ≤ t → t < j + 1 → fl n f t = false) := fun t h3 h4 => by
          by_cases e : t = j
          · rw [e]; exact hf
          · exact H.out t h3 (by omega)
        go_wp2_with (go_at_call 13; refine (flag_any B a n c f j _ h).mono ?_; rintro e w' ⟨rfl, rfl⟩)
        go_round
        case rel => exact ⟨j + 1, by omega, by omega, by go_num, H'⟩
        case measure => simp [intOf]; omega
    · have hm : mk (fl n f) lo hi = false := mk_false (fun i h3 h4 => H.out i h3 (by omega))
      go_wp2
      go_ret
      exact ⟨by first | rfl | (rw [hm]; rfl), rfl⟩

end Go.Proofs.Qxb6626091a
