/- THE WALK of 'name' and of the thin file's functions. -/
import Derived.Test.Qxb6626022aWalks1
import Derived.Deep.LoopGhost
import Derived.Deep.Light
import Derived.WalkSmall
namespace Go.Proofs.Qxb6626022a
open Go.RowKit Pl

/-- A scanner lies at block b: its text, its place. -/
structure Sc (w : World) (b : Nat) (a : ByteArray) (q : Nat) : Prop where
  data : w.cell? ⟨b, 0, none⟩ = some (.string a)
  pos : w.cell? ⟨b, 1, none⟩ = some (.int .i64 q)
  free : w.frozen? ⟨b, 1, none⟩ = false

theorem Sc.step {w : World} {b : Nat} {a : ByteArray} {q : Nat} (h : Sc w b a q) (m : Nat) : Sc ((w.drewN m).setCell ⟨b, 1, none⟩ (.int .i64 ((q : Int) + 1))) b a (q + 1) := by
  obtain ⟨h0, h1, h2⟩ := h
  exact ⟨by simp [go_sem, h0], by simp [go_sem, h1], by simp [go_sem, h2]⟩

theorem Sc.draw {w : World} {b : Nat} {a : ByteArray} {q : Nat} (h : Sc w b a q) (m : Nat) : Sc (w.drewN m) b a q := ⟨h.data, h.pos, h.free⟩

theorem all_step {a : ByteArray} {p q : Nat} (h : ∀ i, p ≤ i → i < q → nb (by8 a i) = true) (hq : nb (by8 a q) = true) : ∀ i, p ≤ i → i < q + 1 → nb (by8 a i) = true := by
  intro i h1 h2
  by_cases e : i = q
  · rw [e]; exact hq
  · exact h i h1 (by omega)

set_option maxHeartbeats 400000 in
/-- name -/
theorem name_any (b : Nat) (a : ByteArray) (p : Nat) (w : World) (ha : a.size ≤ 1048576) (hp : p ≤ a.size) (h : Sc w b a p) :
    Calls Try.prog 11 #[.pointer (some ⟨b, 0, none⟩)] w fun e w' => ∃ f, IsStop a p f ∧ e = .returned (.string (a.extract p f)) ∧ Sc w' b a f ∧ Below b w w' ∧ w'.heap.size = w.heap.size := by
  obtain ⟨h0, h1, h2⟩ := h
  go_enter Try.func11, Try.ntmps11
  go_wp2
  go_loopg [] (a.size - p) (fun k wr => ∃ q : Nat, p ≤ q ∧ q ≤ a.size ∧ k = a.size - q ∧ (∀ i, p ≤ i → i < q → nb (by8 a i) = true) ∧ Sc wr b a q ∧ Below b w wr ∧ wr.heap.size = w.heap.size)
  case atStart => exact ⟨p, Nat.le_refl _, hp, rfl, fun i h1 h2 => by omega, ⟨h0, h1, h2⟩, Below.refl _ _, rfl⟩
  case round =>
    obtain ⟨q, hq1, hq2, hk, hall, ⟨c0, c1, c2⟩, hb, hz⟩ := hrel
    have A : Aside ((∀ i, p ≤ i → i < q → nb (by8 a i) = true) ∧ wr.heap.size = w.heap.size) := ⟨hall, hz⟩
    clear hall hz
    by_cases hlt : q < a.size
    · have hd : decide (a.size ≤ q) = false := by simp; omega
      by_cases hn : nb (by8 a q) = true
      · go_wp2_with (first
          | (go_at_call 12; refine (done_any b a q _ c0 c1).mono ?_; rintro e w' ⟨rfl, n, rfl⟩)
          | (go_at_call 14; refine (peek_in b a q _ hlt (by exact c0) (by exact c1)).mono ?_; rintro e w' ⟨rfl, n, rfl⟩)
          | (go_at_call 13; refine (nameByte_any _ _).mono ?_; rintro e w' ⟨rfl, rfl⟩))
        go_roundg (a.size - (q + 1))
        case measure => omega
        case rel => exact ⟨q + 1, by omega, by omega, rfl, all_step A.out.1 hn, Sc.step ⟨c0, c1, c2⟩ _, (below_drewN hb _).setCell (Nat.le_refl _) _, by simp [World.setCell, A.out.2]⟩
      · have hn' : nb (by8 a q) = false := by simpa using hn
        go_wp2_with (first
          | (go_at_call 12; refine (done_any b a q _ c0 c1).mono ?_; rintro e w' ⟨rfl, n, rfl⟩)
          | (go_at_call 14; refine (peek_in b a q _ hlt (by exact c0) (by exact c1)).mono ?_; rintro e w' ⟨rfl, n, rfl⟩)
          | (go_at_call 13; refine (nameByte_any _ _).mono ?_; rintro e w' ⟨rfl, rfl⟩))
        go_quiet (fail)
        go_wp2
        go_ret
        exact ⟨q, ⟨hq1, hq2, A.out.1, fun _ => hn'⟩, rfl, (Sc.draw ⟨c0, c1, c2⟩ _).draw _, below_drewN (below_drewN hb _) _, A.out.2⟩
    · have hd : decide (a.size ≤ q) = true := by simp; omega
      go_wp2_with (go_at_call 12; refine (done_any b a q _ c0 c1).mono ?_; rintro e w' ⟨rfl, n, rfl⟩)
      go_quiet (fail)
      go_wp2
      go_ret
      exact ⟨q, ⟨hq1, hq2, A.out.1, fun hh => absurd hh hlt⟩, rfl, (Sc.draw ⟨c0, c1, c2⟩ _).draw _, below_drewN (below_drewN hb _) _, A.out.2⟩

/-- ZZname -/
theorem zzname_any (b : Nat) (a : ByteArray) (p : Nat) (w : World) (ha : a.size ≤ 1048576) (hp : p ≤ a.size) (h : Sc w b a p) :
    Calls Try.prog 7 #[.pointer (some ⟨b, 0, none⟩)] w fun e w' => ∃ f, IsStop a p f ∧ e = .returned (.string (a.extract p f)) ∧ Sc w' b a f ∧ Below b w w' ∧ w'.heap.size = w.heap.size := by
  go_enter Try.func7, Try.ntmps7
  go_wp2_with (go_at_call 11; refine (name_any b a p _ ha hp h).mono ?_; rintro e w' ⟨f, hf, rfl, hs, hb, hz⟩)
  go_ret
  exact ⟨f, hf, rfl, hs, hb, hz⟩

/-- ZZpos -/
theorem zzpos_any (b : Nat) (a : ByteArray) (p : Nat) (w : World) (h : Sc w b a p) :
    Calls Try.prog 8 #[.pointer (some ⟨b, 0, none⟩)] w fun e w' => e = .returned (.int .i64 p) ∧ w' = w := by
  obtain ⟨h0, h1, h2⟩ := h
  go_enter Try.func8, Try.ntmps8
  go_wp2
  go_ret
  exact ⟨rfl, rfl⟩

/-- ZZnewConfigScanner -/
theorem zznew_any (a : ByteArray) (p : Nat) (w : World) :
    Calls Try.prog 6 #[.string a, .int .i64 p] w fun e w' => e = .returned (.pointer (some ⟨w.heap.size, 0, none⟩)) ∧ Sc w' w.heap.size a p ∧ Below w.heap.size w w' ∧ w'.heap.size = w.heap.size + 1 := by
  go_enter Try.func6, Try.ntmps6
  go_wp2
  go_ret
  exact ⟨rfl, ⟨by simp [go_sem], by simp [go_sem], by simp [go_sem]⟩, (Below.refl _ _).alloc (Nat.le_refl _) _, by simp⟩

end Go.Proofs.Qxb6626022a
