/- THE WALKS of the small callees. -/
import Derived.Test.Qxb6626022aRows
import Derived.Test.Qxb6626022aPlain
import Derived.WalkKit
import Derived.WalkSpells
import Derived.Outline
import Derived.Deep.QuietTactic
import Derived.BigQuiet
import Derived.Below
namespace Go.Proofs.Qxb6626022a
open Go.RowKit Pl

theorem ret_bool {a b : Bool} (h : a = b) : Ending.returned (.bool a) = .returned (.bool b) := by rw [h]

/-- isAlpha -/
theorem alpha_any (c : Int) (w : World) : Calls Try.prog 15 #[.int .u8 c] w fun e w' => e = .returned (.bool (al c)) ∧ w' = w := by
  go_enter Try.func15, Try.ntmps15
  go_wp2
  all_goals (go_ret; exact ⟨ret_bool (by rw [Bool.eq_iff_iff]; simp [al] <;> omega), rfl⟩)

/-- isNameByte -/
theorem nameByte_any (c : Int) (w : World) : Calls Try.prog 13 #[.int .u8 c] w fun e w' => e = .returned (.bool (nb c)) ∧ w' = w := by
  by_cases ha : al c = true
  · have hn : nb c = true := by simp [al] at ha; simp [nb]; omega
    go_enter Try.func13, Try.ntmps13
    go_wp2_with (go_at_call 15; refine (alpha_any _ _).mono ?_; rintro e w' ⟨rfl, rfl⟩)
    go_ret
    exact ⟨ret_bool hn.symm, rfl⟩
  · have ha' : al c = false := by simpa using ha
    have hn : nb c = decide ((48 ≤ c ∧ c ≤ 57) ∨ c = 45) := by rw [Bool.eq_iff_iff]; simp [al] at ha; simp [nb]; omega
    have HN : Hid (nb c = decide ((48 ≤ c ∧ c ≤ 57) ∨ c = 45)) := hn
    clear hn
    go_enter Try.func13, Try.ntmps13
    go_wp2_with (go_at_call 15; refine (alpha_any _ _).mono ?_; rintro e w' ⟨rfl, rfl⟩)
    all_goals (go_ret; exact ⟨ret_bool (by rw [HN.out, Bool.eq_iff_iff]; simp <;> omega), rfl⟩)

/-- zzKeyByte -/
theorem keyByte_any (c : Int) (w : World) : Calls Try.prog 9 #[.int .u8 c] w fun e w' => e = .returned (.bool (nb c)) ∧ w' = w := by
  go_enter Try.func9, Try.ntmps9
  go_wp2
  all_goals (go_ret; exact ⟨ret_bool (by rw [Bool.eq_iff_iff]; simp [nb] <;> omega), rfl⟩)

/-- done -/
theorem done_any (b : Nat) (a : ByteArray) (p : Nat) (w : World) (h0 : w.cell? ⟨b, 0, none⟩ = some (.string a)) (h1 : w.cell? ⟨b, 1, none⟩ = some (.int .i64 p)) :
    Calls Try.prog 12 #[.pointer (some ⟨b, 0, none⟩)] w fun e w' => e = .returned (.bool (decide (a.size ≤ p))) ∧ ∃ n, w' = w.drewN n := by
  go_enter Try.func12, Try.ntmps12
  go_wp2
  go_quiet (fail)
  go_wp2
  go_ret
  exact ⟨ret_bool (by simp), _, rfl⟩

/-- peek, inside the text -/
theorem peek_in (b : Nat) (a : ByteArray) (p : Nat) (w : World) (hp : p < a.size) (h0 : w.cell? ⟨b, 0, none⟩ = some (.string a)) (h1 : w.cell? ⟨b, 1, none⟩ = some (.int .i64 p)) :
    Calls Try.prog 14 #[.pointer (some ⟨b, 0, none⟩)] w fun e w' => e = .returned (.int .u8 (by8 a p)) ∧ ∃ n, w' = w.drewN n := by
  have hd : decide (a.size ≤ p) = false := by simp; omega
  have hi : (p : Int) < (a.size : Int) := by omega
  go_enter Try.func14, Try.ntmps14
  go_wp2_with (go_at_call 12; refine (done_any b a p _ h0 h1).mono ?_; rintro e w' ⟨rfl, n, rfl⟩)
  go_quiet (fail)
  go_wp2
  go_ret
  exact ⟨by rw [by8_eq a p hp]; rfl, _, World.drewN_drewN _ _ _⟩

end Go.Proofs.Qxb6626022a
