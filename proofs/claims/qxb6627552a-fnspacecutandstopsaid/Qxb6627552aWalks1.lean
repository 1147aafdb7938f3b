/- THE WALKS of the small callees. -/
import Derived.Test.Qxb6627552aRows
import Derived.Test.Qxb6627552aPlain
import Derived.WalkKit
import Derived.WalkSpells
import Derived.Outline
import Derived.Deep.QuietTactic
import Derived.BigQuiet
import Derived.Deep.LoopGhost
import Derived.Deep.Light
import Derived.WalkSmall
import Derived.Below
namespace Go.Proofs.Qxb6627552a
open Go.RowKit Pl

theorem ret_bool {a b : Bool} (h : a = b) : Ending.returned (.bool a) = .returned (.bool b) := by rw [h]

/-- Bytes lie in the world, below block B. -/
def Byt (B : Nat) (w : World) (a : Option Addr) (n : Nat) (Z : Nat → Int) : Prop :=
  ∀ i, i < n → ∃ b off, a = some ⟨b, off, none⟩ ∧ b < B ∧ w.cell? ⟨b, off + i, none⟩ = some (.int .u8 (Z i))
theorem Byt.below {B B' : Nat} {w w' : World} {a : Option Addr} {n : Nat} {Z : Nat → Int} (h : Byt B w a n Z) (hb : Below B' w w') (hB : B ≤ B') : Byt B w' a n Z := by
  intro i hi
  obtain ⟨b, off, h1, h2, h3⟩ := h i hi
  exact ⟨b, off, h1, h2, (hb.cell (p := ⟨b, off + i, none⟩) (by show b < B'; omega)).trans h3⟩
theorem Byt.up {B B' : Nat} {w : World} {a : Option Addr} {n : Nat} {Z : Nat → Int} (h : Byt B w a n Z) (hB : B ≤ B') : Byt B' w a n Z := by
  intro i hi
  obtain ⟨b, off, h1, h2, h3⟩ := h i hi
  exact ⟨b, off, h1, by omega, h3⟩

/-- A walk lies at block b: its data, its place, its depth. -/
structure Wk (w : World) (b : Nat) (v : Value) (p : Nat) (d : Int) : Prop where
  data : w.cell? ⟨b, 0, none⟩ = some v
  pos : w.cell? ⟨b, 1, none⟩ = some (.int .i64 p)
  dep : w.cell? ⟨b, 3, none⟩ = some (.int .i64 d)
  free : w.frozen? ⟨b, 1, none⟩ = false
theorem Wk.step {w : World} {b : Nat} {v : Value} {q : Nat} {d : Int} (h : Wk w b v q d) (m : Nat) : Wk ((w.drewN m).setCell ⟨b, 1, none⟩ (.int .i64 ((q : Int) + 1))) b v (q + 1) d := by
  obtain ⟨h0, h1, h2, h3⟩ := h
  exact ⟨by simp [go_sem, h0], by simp [go_sem, h1], by simp [go_sem, h2], by simp [go_sem, h3]⟩
theorem Wk.draw {w : World} {b : Nat} {v : Value} {q : Nat} {d : Int} (h : Wk w b v q d) (m : Nat) : Wk (w.drewN m) b v q d := ⟨h.data, h.pos, h.dep, h.free⟩

/-- b1IsJSONSpace -/
theorem isSpace_any (c : Int) (w : World) : Calls Try.prog 11 #[.int .u8 c] w fun e w' => e = .returned (.bool (sp c)) ∧ w' = w := by
  go_enter Try.func11, Try.ntmps11
  go_wp2
  all_goals (go_ret; exact ⟨ret_bool (by rw [Bool.eq_iff_iff]; simp [sp, *]), rfl⟩)

/-- ZZnewWalk -/
theorem zznew_any (a : Option Addr) (n c : Nat) (p : Nat) (d : Int) (w : World) :
    Calls Try.prog 7 #[.slice a n c, .int .i64 p, .int .i64 d] w fun e w' => e = .returned (.pointer (some ⟨w.heap.size, 0, none⟩)) ∧ Wk w' w.heap.size (.slice a n c) p d ∧ Below w.heap.size w w' ∧ Hid (w'.heap.size = w.heap.size + 1) := by
  go_enter Try.func7, Try.ntmps7
  go_wp2
  go_ret
  exact ⟨rfl, ⟨by simp [go_sem], by simp [go_sem], by simp [go_sem], by simp [go_sem]⟩, (Below.refl _ _).alloc (Nat.le_refl _) _, by simp [Hid]⟩
/-- ZZwalkAt -/
theorem zzat_any (b : Nat) (v : Value) (p : Nat) (d : Int) (w : World) (h : Wk w b v p d) : Calls Try.prog 9 #[.pointer (some ⟨b, 0, none⟩)] w fun e w' => e = .returned (.int .i64 p) ∧ w' = w := by
  obtain ⟨h0, h1, h2, h3⟩ := h
  go_enter Try.func9, Try.ntmps9
  go_wp2
  go_ret
  exact ⟨rfl, rfl⟩
/-- ZZwalkDepth -/
theorem zzdepth_any (b : Nat) (v : Value) (p : Nat) (d : Int) (w : World) (h : Wk w b v p d) : Calls Try.prog 10 #[.pointer (some ⟨b, 0, none⟩)] w fun e w' => e = .returned (.int .i64 d) ∧ w' = w := by
  obtain ⟨h0, h1, h2, h3⟩ := h
  go_enter Try.func10, Try.ntmps10
  go_wp2
  go_ret
  exact ⟨rfl, rfl⟩

end Go.Proofs.Qxb6627552a
