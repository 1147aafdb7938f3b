/- THE WALKS of StorageVersion and Version. -/
import Derived.Test.Qxb6626091aWalks2
import Derived.Deep.LoopGhost
namespace Go.Proofs.Qxb6626091a
open Go.RowKit

/-- A row of n versions lies at block b. -/
def VRow (w : World) (b n : Nat) (V : Nat → Ver) : Prop := b < w.heap.size ∧ ∀ i, i < n → ∀ t, t < 5 → w.cell? ⟨b, i * 5 + t, none⟩ = (V i).cells[t]?
theorem VRow.below {B : Nat} {w w' : World} {b n : Nat} {V : Nat → Ver} (h : VRow w b n V) (hb : Below B w w') (hB : b < B) : VRow w' b n V :=
  ⟨by have := hb.size; have := h.1; omega, fun i hi t ht => (hb.cell (p := ⟨b, i * 5 + t, none⟩) hB).trans (h.2 i hi t ht)⟩
theorem VRow.alloc {w : World} {b n : Nat} {V : Nat → Ver} (h : VRow w b n V) (o : Obj) : VRow (w.alloc o) b n V :=
  h.below (B := w.heap.size) ((Below.refl _ _).alloc (Nat.le_refl _) _) h.1
theorem VRow.of_owns {w : World} {base b n cap : Nat} {V : Nat → Ver} (h : w.ownsRow base 35 5 (.slice (some ⟨b, 0, none⟩) n cap) n (rowCells V n)) : VRow w b n V := by
  refine ⟨(h.lt b rfl).2, fun i hi t ht => ?_⟩
  rw [h.cellAt (i * 5 + t) (by omega)]
  rw [Nat.mul_comm]
  exact rowCells_get V n i t hi ht

/-- The storage version of a row. -/
def IsSV (n : Nat) (V : Nat → Ver) (s : ByteArray) : Prop :=
  (∃ j, j < n ∧ (V j).st = true ∧ (∀ i, i < j → (V i).st = false) ∧ s = (V j).nm) ∨ ((∀ j, j < n → (V j).st = false) ∧ s = ByteArray.empty)

set_option maxHeartbeats 400000 in
/-- StorageVersion -/
theorem storage_any (g k f : ByteArray) (b n c : Nat) (V : Nat → Ver) (w : World) (hn : n ≤ 65537) (h : VRow w b n V) :
    Calls Try.prog 8 #[.agg #[.string g, .string k, .slice (some ⟨b, 0, none⟩) n c, .string f]] w fun e w' => ∃ s, e = .returned (.string s) ∧ IsSV n V s ∧ Below w.heap.size w w' := by
  go_enter Try.func8, Try.ntmps8
  go_wp2
  go_loopw [8] (fun i wr => ∃ j : Nat, j ≤ n ∧ i = .int .i64 j ∧ Hid (∀ t, t < j → (V t).st = false) ∧ VRow wr b n V ∧ Below w.heap.size w wr) (fun i _ => n - (intOf i).toNat)
  case atStart => exact ⟨0, Nat.zero_le _, rfl, fun t ht => by omega, h.below (B := w.heap.size) ((Below.refl _ _).alloc (Nat.le_refl _) _) h.1, (Below.refl _ _).alloc (Nat.le_refl _) _⟩
  case round =>
    obtain ⟨j, hj, rfl, H, hV, hbel⟩ := hrel
    by_cases hlt : j < n
    · have c0 := hV.2 j hlt 0 (by omega)
      have c1 := hV.2 j hlt 1 (by omega)
      have c2 := hV.2 j hlt 2 (by omega)
      have c3 := hV.2 j hlt 3 (by omega)
      have c4 := hV.2 j hlt 4 (by omega)
      simp only [Ver.cells, Nat.add_zero, List.getElem?_cons_zero, List.getElem?_cons_succ] at c0 c1 c2 c3 c4
      cases hst : (V j).st with
      | true =>
        rw [hst] at c3
        have R : IsSV n V (V j).nm := .inl ⟨j, hlt, hst, H.out, rfl⟩
        go_wp2
        go_ret
        exact ⟨_, rfl, R, hbel.alloc hbel.size _⟩
      | false =>
        rw [hst] at c3
        have H' : Hid (∀ t, t < j + 1 → (V t).st = false) := fun t ht => by
          by_cases e : t = j
          · rw [e]; exact hst
          · exact H.out t (by omega)
        go_wp2
        go_roundw
        case rel => exact ⟨j + 1, by omega, by go_num, H', hV.alloc _, hbel.alloc hbel.size _⟩
        case measure => simp [intOf]; omega
    · have R : IsSV n V ByteArray.empty := .inr ⟨fun i hi => H.out i (by omega), rfl⟩
      go_wp2
      go_ret
      exact ⟨_, rfl, R, hbel⟩

theorem str_ne {x y : ByteArray} (h : x ≠ y) : (x.toList == y.toList) = false := by
  rw [beq_eq_false_iff_ne]
  intro e
  apply h
  rw [ByteArray.toList_eq, ByteArray.toList_eq] at e
  cases x; cases y
  congr 1
  exact Array.toList_inj.1 e

/-- A variable of a call's own that holds the zero version. -/
structure Zero (w : World) (b : Nat) : Prop where
  c0 : w.cell? ⟨b, 0, none⟩ = some (.string ByteArray.empty)
  c1 : w.cell? ⟨b, 1, none⟩ = some (.bool false)
  c2 : w.cell? ⟨b, 2, none⟩ = some (.bool false)
  c3 : w.cell? ⟨b, 3, none⟩ = some (.bool false)
  c4 : w.cell? ⟨b, 4, none⟩ = some (.pointer none)
  f0 : w.frozen? ⟨b, 0, none⟩ = false
  f1 : w.frozen? ⟨b, 1, none⟩ = false
  f2 : w.frozen? ⟨b, 2, none⟩ = false
  f3 : w.frozen? ⟨b, 3, none⟩ = false
  f4 : w.frozen? ⟨b, 4, none⟩ = false
theorem Zero.below {w w' : World} {b B : Nat} (h : Zero w b) (hb : Below B w w') (hB : b < B) : Zero w' b :=
  ⟨(hb.cell (p := ⟨b, 0, none⟩) hB).trans h.c0, (hb.cell (p := ⟨b, 1, none⟩) hB).trans h.c1, (hb.cell (p := ⟨b, 2, none⟩) hB).trans h.c2, (hb.cell (p := ⟨b, 3, none⟩) hB).trans h.c3, (hb.cell (p := ⟨b, 4, none⟩) hB).trans h.c4,
   (hb.frozen (p := ⟨b, 0, none⟩) hB).trans h.f0, (hb.frozen (p := ⟨b, 1, none⟩) hB).trans h.f1, (hb.frozen (p := ⟨b, 2, none⟩) hB).trans h.f2, (hb.frozen (p := ⟨b, 3, none⟩) hB).trans h.f3, (hb.frozen (p := ⟨b, 4, none⟩) hB).trans h.f4⟩
theorem Zero.new (w : World) (o : Obj) : Zero ((w.alloc o).alloc (.cells #[.string ⟨#[]⟩, .bool false, .bool false, .bool false, .pointer none] 35)) (w.heap.size + 1) := by
  constructor <;> first | (simp [go_sem]; done) | (simp [go_sem]; rfl)

set_option maxHeartbeats 400000 in
/-- Version, where the name is listed -/
theorem version_in (g k f s : ByteArray) (b n c : Nat) (V : Nat → Ver) (w : World) (hn : n ≤ 65537) (h : VRow w b n V) (hex : ∃ j, j < n ∧ (V j).nm = s) :
    Calls Try.prog 10 #[.agg #[.string g, .string k, .slice (some ⟨b, 0, none⟩) n c, .string f], .string s] w fun e w' =>
      ∃ v : Ver, e = .returned (.tuple #[.agg #[.string v.nm, .bool v.sv, .bool v.dp, .bool v.st, .pointer none], .bool true]) ∧ Below w.heap.size w w' := by
  have HX : Hid (∃ j, j < n ∧ (V j).nm = s) := hex
  clear hex
  go_enter Try.func10, Try.ntmps10
  go_wp2
  go_loopw [11] (fun i wr => ∃ j : Nat, j ≤ n ∧ i = .int .i64 j ∧ Hid (∀ t, t < j → (V t).nm ≠ s) ∧ VRow wr b n V ∧ Below w.heap.size w wr ∧ w.heap.size + 2 ≤ wr.heap.size ∧ Zero wr (w.heap.size + 1)) (fun i _ => n - (intOf i).toNat)
  case atStart => exact ⟨0, Nat.zero_le _, rfl, fun t ht => by omega, (h.alloc _).alloc _, below2 (Nat.le_refl _) _ _, by simp, Zero.new _ _⟩
  case round =>
    obtain ⟨j, hj, rfl, H, hV, hbel, hsz, hZ⟩ := hrel
    by_cases hlt : j < n
    · have c0 := hV.2 j hlt 0 (by omega)
      have c1 := hV.2 j hlt 1 (by omega)
      have c2 := hV.2 j hlt 2 (by omega)
      have c3 := hV.2 j hlt 3 (by omega)
      have c4 := hV.2 j hlt 4 (by omega)
      simp only [Ver.cells, Nat.add_zero, List.getElem?_cons_zero, List.getElem?_cons_succ] at c0 c1 c2 c3 c4
      by_cases hs : (V j).nm = s
      · have hse : ((V j).nm.toList == s.toList) = true := by rw [hs]; simp
        obtain ⟨z0, z1, z2, z3, z4, y0, y1, y2, y3, y4⟩ := hZ
        have hlt1 : w.heap.size + 1 < wr.heap.size := by omega
        clear hs
        go_wp2
        refine bodyPost_ret (v := .tuple #[.agg #[.string (V j).nm, .bool (V j).sv, .bool (V j).dp, .bool (V j).st, .pointer none], .bool true]) (by simp [results, Try.results10, go_sem, z0, z1, z2, z3, z4, hlt1]) rfl ⟨V j, rfl, ?_⟩
        exact (((((hbel.setCell (by simp) _).setCell (by simp) _).setCell (by simp) _).setCell (by simp) _).setCell (by simp) _).alloc (by simp [World.setCell]; omega) _
      · have H' : Hid (∀ t, t < j + 1 → (V t).nm ≠ s) := fun t ht => by
          by_cases e : t = j
          · rw [e]; exact hs
          · exact H.out t (by omega)
        have hse := str_ne hs
        go_wp2
        go_roundw
        case rel => exact ⟨j + 1, by omega, by go_num, H', hV.alloc _, hbel.alloc hbel.size _, by simp; omega, hZ.below (B := w.heap.size + 2) ((Below.refl _ _).alloc hsz _) (by omega)⟩
        case measure => simp [intOf]; omega
    · exfalso
      obtain ⟨i, h1, h2⟩ := HX.out
      exact H.out i (by omega) h2

end Go.Proofs.Qxb6626091a
