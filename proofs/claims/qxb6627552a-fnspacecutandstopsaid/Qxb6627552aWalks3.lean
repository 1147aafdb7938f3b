/- THE WALK of the clone and of the guards. -/
import Derived.Test.Qxb6627552aWalks2
namespace Go.Proofs.Qxb6627552a
open Go.RowKit Pl

theorem Try.info5 : (Try.prog.info? 5).map (fun i => (i.zero, i.size, i.bytes)) = some (some (.int .u8 0), 1, 1) := by kernel_rfl

/-- The new row holds the first j bytes. -/
def Cl (w : World) (g n j : Nat) (Z : Nat → Int) : Prop := ∃ xs, w.ownsRow g 5 1 (.slice (some ⟨g, 0, none⟩) n n) n xs ∧ ∀ i, i < j → xs[i]? = some (.int .u8 (Z i))
theorem Cl.step {w : World} {g n j : Nat} {Z : Nat → Int} (h : Cl w g n j Z) (hj : j < n) : Cl (w.setCell ⟨g, j, none⟩ (.int .u8 (Z j))) g n (j + 1) Z := by
  obtain ⟨xs, h1, h2⟩ := h
  refine ⟨_, (h1.stored j _).1, fun i hi => ?_⟩
  have hl := h1.1
  rw [List.getElem?_set]
  by_cases e : j = i
  · subst e; simp; omega
  · simp [e]; exact h2 i (by omega)
theorem Cl.cell {w : World} {g n j : Nat} {Z : Nat → Int} (h : Cl w g n j Z) (i : Nat) (hi : i < n) : ∃ v, w.cell? ⟨g, i, none⟩ = some v := by
  obtain ⟨xs, h1, h2⟩ := h
  rw [h1.cellAt i (by omega)]
  have hl := h1.1
  exact ⟨_, List.getElem?_eq_getElem (by omega)⟩
theorem Cl.free {w : World} {g n j : Nat} {Z : Nat → Int} (h : Cl w g n j Z) (i : Nat) : w.frozen? ⟨g, i, none⟩ = false := by
  obtain ⟨xs, h1, h2⟩ := h
  exact h1.frozenAt i
theorem Cl.byt {w : World} {g n : Nat} {Z : Nat → Int} (h : Cl w g n n Z) : Byt w.heap.size w (some ⟨g, 0, none⟩) n Z := by
  obtain ⟨xs, h1, h2⟩ := h
  intro i hi
  refine ⟨g, 0, rfl, (h1.lt g rfl).2, ?_⟩
  rw [Nat.zero_add, h1.cellAt i (by omega)]
  exact h2 i hi

set_option maxHeartbeats 400000 in
/-- b1CloneBytes, not nil -/
theorem clone_some (B : Nat) (ad : Addr) (n c : Nat) (Z : Nat → Int) (w : World) (hn : n ≤ 1048576) (hB : B ≤ w.heap.size) (hZ : Byt B w (some ad) n Z) :
    Calls Try.prog 6 #[.slice (some ad) n c] w fun e w' => ∃ g, w.heap.size ≤ g ∧ e = .returned (.slice (some ⟨g, 0, none⟩) n n) ∧ Byt w'.heap.size w' (some ⟨g, 0, none⟩) n Z ∧ Below w.heap.size w w' := by
  have hnil := fun W => Lib.run_eql_slice_nil (P := Try.prog) W 22 5 (some ad) n c 0 0 Try.underlying22
  obtain ⟨i0, hi0, hz0, hz1, hz2⟩ := info_parts Try.info5
  go_enter Try.func6, Try.ntmps6
  go_wp2_with (at_make; refine wpList_make_full _ rfl _ _ 22 rfl w.heap.size 5 i0 _ 1 Try.underlying22 hi0 hz0 hz1 .i64 .i64 _ _ n rfl rfl rfl rfl (by rw [hz2]; omega) (by unfold maxLen; omega) (Nat.le_refl _) ?_; intro w0 hown0 hgrow0)
  have hbel0 : Below w.heap.size w w0 := (Below.refl _ _).grown hgrow0 (Nat.le_refl _) (fun k hk => by cases hk)
  have hC0 : Cl w0 w.heap.size n 0 Z := ⟨_, hown0, fun i hi => by omega⟩
  clear hown0 hgrow0 hnil
  go_loopw [4] (fun i wr => ∃ j : Nat, j ≤ n ∧ i = .int .i64 j ∧ Cl wr w.heap.size n j Z ∧ Below w.heap.size w wr) (fun i _ => n - (intOf i).toNat)
  case atStart => exact ⟨0, Nat.zero_le _, rfl, hC0, hbel0⟩
  case round =>
    obtain ⟨j, hj, rfl, hC, hb⟩ := hrel
    by_cases hlt : j < n
    · obtain ⟨db, off, e, hdb, hc⟩ := (hZ.below hb hB) j hlt
      obtain rfl : ad = ⟨db, off, none⟩ := by simpa using e
      clear e
      obtain ⟨v, hv⟩ := hC.cell j hlt
      have hf := hC.free j
      go_wp2
      go_roundw
      case rel => exact ⟨j + 1, by omega, by go_num, hC.step hlt, hb.setCell (Nat.le_refl _) _⟩
      case measure => simp [intOf]; omega
    · obtain rfl : j = n := by omega
      go_wp2
      go_ret
      exact ⟨_, Nat.le_refl _, rfl, hC.byt, hb⟩

/-- b1CloneBytes, nil -/
theorem clone_none (w : World) : Calls Try.prog 6 #[.slice none 0 0] w fun e w' => e = .returned (.slice none 0 0) ∧ w' = w := by
  have hnil := fun W => Lib.run_eql_slice_nil (P := Try.prog) W 22 5 none 0 0 0 0 Try.underlying22
  go_enter Try.func6, Try.ntmps6
  go_wp2
  go_ret
  exact ⟨rfl, rfl⟩

theorem bytes1_yes (a : Option Addr) (n c : Nat) (p k d : Int) (w : World) (hn : n ≤ 1048576) : Calls Try.prog 5 #[.slice a n c, .int .i64 p, .int .i64 k, .int .i64 d] w fun e w' => e = .returned (.bool true) ∧ w' = w := by
  go_enter Try.func5, Try.ntmps5
  go_wp2
  go_ret
  exact ⟨rfl, rfl⟩
theorem bytes1_no (a : Option Addr) (n c : Nat) (p k d : Int) (w : World) (hn : 1048576 < n) : Calls Try.prog 5 #[.slice a n c, .int .i64 p, .int .i64 k, .int .i64 d] w fun e w' => e = .returned (.bool false) ∧ w' = w := by
  go_enter Try.func5, Try.ntmps5
  go_wp2
  go_ret
  exact ⟨rfl, rfl⟩
theorem bytes2_yes (a : Option Addr) (n c : Nat) (p k : Int) (w : World) (hn : n ≤ 1048576) : Calls Try.prog 13 #[.slice a n c, .int .i64 p, .int .i64 k] w fun e w' => e = .returned (.bool true) ∧ w' = w := by
  go_enter Try.func13, Try.ntmps13
  go_wp2
  go_ret
  exact ⟨rfl, rfl⟩
theorem bytes2_no (a : Option Addr) (n c : Nat) (p k : Int) (w : World) (hn : 1048576 < n) : Calls Try.prog 13 #[.slice a n c, .int .i64 p, .int .i64 k] w fun e w' => e = .returned (.bool false) ∧ w' = w := by
  go_enter Try.func13, Try.ntmps13
  go_wp2
  go_ret
  exact ⟨rfl, rfl⟩

/-- What a clone is: nil, or a row of its own without spare room. -/
def Cloned (a : Option Addr) (n c : Nat) : Prop := (a = none ∧ n = 0 ∧ c = 0) ∨ ∃ g, a = some ⟨g, 0, none⟩ ∧ c = n

/-- b1CloneBytes -/
theorem clone_any (B : Nat) (a : Option Addr) (n c : Nat) (Z : Nat → Int) (w : World) (hn : n ≤ 1048576) (hB : B ≤ w.heap.size) (ha : a = none → n = 0 ∧ c = 0) (hZ : Byt B w a n Z) :
    Calls Try.prog 6 #[.slice a n c] w fun e w' => ∃ a' c', Cloned a' n c' ∧ e = .returned (.slice a' n c') ∧ Byt w'.heap.size w' a' n Z ∧ Below w.heap.size w w' := by
  cases a with
  | none =>
    obtain ⟨rfl, rfl⟩ := ha rfl
    refine (clone_none w).mono ?_
    rintro e w' ⟨rfl, rfl⟩
    exact ⟨_, _, .inl ⟨rfl, rfl, rfl⟩, rfl, fun i hi => by omega, Below.refl _ _⟩
  | some ad =>
    refine (clone_some B ad n c Z w hn hB hZ).mono ?_
    rintro e w' ⟨g, -, rfl, h1, h2⟩
    exact ⟨_, _, .inr ⟨g, rfl, rfl⟩, rfl, h1, h2⟩

end Go.Proofs.Qxb6627552a
