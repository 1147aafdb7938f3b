/- THE WALKS that make versions. -/
import Derived.Test.Qxb6626091aWalks1
import Derived.WalkSmall
namespace Go.Proofs.Qxb6626091a
open Go.RowKit

/-- A version, as data: its name and its three flags. -/
structure Ver where
  nm : ByteArray
  sv : Bool
  dp : Bool
  st : Bool
/-- Its cells. -/
def Ver.cells (v : Ver) : List Value := [.string v.nm, .bool v.sv, .bool v.dp, .bool v.st, .pointer none]
/-- The cells of a row of versions. -/
def rowCells (V : Nat → Ver) (m : Nat) : List Value := (List.range m).flatMap fun i => (V i).cells
theorem rowCells_succ (V : Nat → Ver) (m : Nat) : rowCells V (m + 1) = rowCells V m ++ (V m).cells := by
  simp [rowCells, List.range_succ, List.flatMap_append]
theorem rowCells_length (V : Nat → Ver) (m : Nat) : (rowCells V m).length = 5 * m := by
  induction m with
  | zero => rfl
  | succ m ih => rw [rowCells_succ, List.length_append, ih]; simp [Ver.cells]; omega
theorem rowCells_get (V : Nat → Ver) (m i t : Nat) (hi : i < m) (ht : t < 5) : (rowCells V m)[5 * i + t]? = (V i).cells[t]? := by
  induction m with
  | zero => omega
  | succ m ih =>
    rw [rowCells_succ, List.getElem?_append, rowCells_length]
    by_cases e : i = m
    · subst e
      rw [if_neg (by omega)]
      congr 1
      omega
    · rw [if_pos (by omega)]
      exact ih (by omega)

theorem below2 {B : Nat} {w : World} (hB : B ≤ w.heap.size) (o o' : Obj) : Below B w ((w.alloc o).alloc o') :=
  ((Below.refl _ _).alloc hB _).alloc (by simp; omega) _

/-- zzSvVersion -/
theorem version_any (B : Nat) (na sa da ta : Option Addr) (nn nc sn sc dn dc tn tc : Nat) (G : Nat → ByteArray) (S D T : Nat → Bool) (i : Nat) (w : World) (hi : i < nn) (hB : B ≤ w.heap.size)
    (hn : Strs B w na nn G) (hs : Bools B w sa sn S) (hd : Bools B w da dn D) (ht : Bools B w ta tn T) :
    Calls Try.prog 12 #[.slice na nn nc, .slice sa sn sc, .slice da dn dc, .slice ta tn tc, .int .i64 i] w fun e w' => e = .returned (.agg #[.string (G i), .bool (fl sn S i), .bool (fl dn D i), .bool (fl tn T i), .pointer none]) ∧ Below w.heap.size w w' := by
  obtain ⟨b, off, rfl, hb, hc⟩ := hn i hi
  have hbw : b < w.heap.size := by omega
  have hbw1 : b < w.heap.size + 1 := by omega
  go_enter Try.func12, Try.ntmps12
  go_wp2_with fail
  refine (flag_any B sa sn sc S i _ (hs.below (below2 hB _ _))).mono ?_
  rintro e w' ⟨rfl, rfl⟩
  go_wp2_with fail
  refine (flag_any B da dn dc D i _ (hd.below (below2 hB _ _))).mono ?_
  rintro e w' ⟨rfl, rfl⟩
  go_wp2_with fail
  refine (flag_any B ta tn tc T i _ (ht.below (below2 hB _ _))).mono ?_
  rintro e w' ⟨rfl, rfl⟩
  go_wp2
  refine bodyPost_ret (v := .agg #[.string (G i), .bool (fl sn S i), .bool (fl dn D i), .bool (fl tn T i), .pointer none]) (by simp [results, Try.results12, go_sem]) rfl ⟨rfl, below2 (Nat.le_refl _) _ _⟩

theorem Try.info35 : (Try.prog.info? 35).map (fun i => (i.zero, i.size, i.bytes)) = some (some (.agg #[.string ByteArray.empty, .bool false, .bool false, .bool false, .pointer none]), 5, 32) := by kernel_rfl

theorem ownsRow_below {w w' : World} {base e size n : Nat} {v : Value} {xs : List Value} (h : w.ownsRow base e size v n xs) (hb : Below w.heap.size w w') : w'.ownsRow base e size v n xs := by
  obtain ⟨h1, h2⟩ := h
  refine ⟨h1, ?_⟩
  rcases h2 with h2 | ⟨g, cap, cur, r1, r2, r3, r4⟩
  · exact .inl h2
  · refine .inr ⟨g, cap, cur, r1, r2, ?_, r4⟩
    have hg : g < w.heap.size := by
      rcases Nat.lt_or_ge g w.heap.size with h | h
      · exact h
      · rw [Array.getElem?_eq_none h] at r3; cases r3
    rw [hb.block g hg]
    exact r3

theorem cells_new (w : World) (v : Ver) : ∀ t u, v.cells[t]? = some u → (w.alloc (.cells #[.string v.nm, .bool v.sv, .bool v.dp, .bool v.st, .pointer none] 35)).cell? ((⟨w.heap.size, 0, none⟩ : Addr).add t) = some u := by
  intro t u h
  match t, h with
  | 0, h => simp [Ver.cells] at h; subst h; simp [Addr.add, go_sem]
  | 1, h => simp [Ver.cells] at h; subst h; simp [Addr.add, go_sem]
  | 2, h => simp [Ver.cells] at h; subst h; simp [Addr.add, go_sem]
  | 3, h => simp [Ver.cells] at h; subst h; simp [Addr.add, go_sem]
  | 4, h => simp [Ver.cells] at h; subst h; simp [Addr.add, go_sem]
  | t + 5, h => simp [Ver.cells] at h
theorem Ver.oneCell (v : Ver) : ∀ u ∈ v.cells, u.oneCell' = true := by
  intro u hu
  simp only [Ver.cells, List.mem_cons, List.not_mem_nil, or_false] at hu
  rcases hu with rfl | rfl | rfl | rfl | rfl <;> rfl

theorem rel_step {w w1 w2 : World} {o : Obj} {lo j m N : Nat} {G : Nat → ByteArray} {S D T : Nat → Bool} (HJ : Hid (j = lo + m))
    (hown : w2.ownsRow w.heap.size 35 5 (.slice (some ⟨w.heap.size, 0, none⟩) (m + 1) N) (m + 1) (rowCells (fun i => ⟨G (lo + i), S (lo + i), D (lo + i), T (lo + i)⟩) m ++ Ver.cells ⟨G j, S j, D j, T j⟩))
    (hbel : Below w.heap.size w w1) (hg : (w1.alloc o).grownBy w2 (some w.heap.size)) :
    Hid (j + 1 = lo + (m + 1)) ∧ w2.ownsRow w.heap.size 35 5 (.slice (some ⟨w.heap.size, 0, none⟩) (m + 1) N) (m + 1) (rowCells (fun i => ⟨G (lo + i), S (lo + i), D (lo + i), T (lo + i)⟩) (m + 1)) ∧ Below w.heap.size w w2 := by
  have e := HJ.out
  subst e
  refine ⟨Nat.add_assoc _ _ _, ?_, ?_⟩
  · rw [rowCells_succ]; exact hown
  · have hs := hbel.size
    exact (hbel.alloc hs o).grown hg (by simp; omega) (fun k hk => by simp at hk; omega)

set_option maxHeartbeats 400000 in
/-- zzSvVersions -/
theorem versions_any (B : Nat) (na sa da ta : Option Addr) (nn nc sn sc dn dc tn tc : Nat) (G : Nat → ByteArray) (S D T : Nat → Bool) (lo hi : Nat) (w : World) (h1 : lo ≤ hi) (h2 : hi ≤ nn) (h3 : nn ≤ 65536) (hB : B ≤ w.heap.size)
    (hn : Strs B w na nn G) (hs : Bools B w sa sn S) (hd : Bools B w da dn D) (ht : Bools B w ta tn T) :
    Calls Try.prog 7 #[.slice na nn nc, .slice sa sn sc, .slice da dn dc, .slice ta tn tc, .int .i64 lo, .int .i64 hi] w fun e w' =>
      e = .returned (.slice (some ⟨w.heap.size, 0, none⟩) (hi - lo) (hi - lo)) ∧ w'.ownsRow w.heap.size 35 5 (.slice (some ⟨w.heap.size, 0, none⟩) (hi - lo) (hi - lo)) (hi - lo) (rowCells (fun i => ⟨G (lo + i), fl sn S (lo + i), fl dn D (lo + i), fl tn T (lo + i)⟩) (hi - lo)) ∧ Below w.heap.size w w' := by
  obtain ⟨i0, hi0, hz0, hz1, hz2⟩ := info_parts Try.info35
  go_enter Try.func7, Try.ntmps7
  go_wp2_with (at_make; refine wpList_make_own _ rfl _ _ 26 rfl w.heap.size 35 i0 _ 5 Try.underlying26 hi0 hz0 hz1 .i64 .i64 _ (hi - lo) rfl rfl (by omega) (by rw [hz2]; omega) (by unfold maxLen; omega) (Nat.le_refl _) ?_; intro w0 hown0 hgrow0)
  have hbel0 : Below w.heap.size w w0 := (Below.refl _ _).grown hgrow0 (Nat.le_refl _) (fun k hk => by cases hk)
  clear hgrow0
  go_loopw [13, 14] (fun v i wr => ∃ j m : Nat, j ≤ hi ∧ m ≤ hi - lo ∧ Hid (j = lo + m) ∧ v = .slice (some ⟨w.heap.size, 0, none⟩) m (hi - lo) ∧ i = .int .i64 j ∧
      wr.ownsRow w.heap.size 35 5 (.slice (some ⟨w.heap.size, 0, none⟩) m (hi - lo)) m (rowCells (fun i => ⟨G (lo + i), fl sn S (lo + i), fl dn D (lo + i), fl tn T (lo + i)⟩) m) ∧ Below w.heap.size w wr)
    (fun _ i _ => hi - (intOf i).toNat)
  case atStart => exact ⟨lo, 0, h1, Nat.zero_le _, rfl, rfl, rfl, hown0, hbel0⟩
  case round =>
    obtain ⟨j, m, hj, hm, HJ, rfl, rfl, hown, hbel⟩ := hrel
    have hsz := hbel.size
    by_cases hlt : j < hi
    · have hm' : m + 1 ≤ hi - lo := by have := HJ.out; omega
      go_wp2_with fail
      refine (version_any B na sa da ta nn nc sn sc dn dc tn tc G S D T j _ (by omega) (by omega) (hn.below (hbel.mono hB)) (hs.below (hbel.mono hB)) (hd.below (hbel.mono hB)) (ht.below (hbel.mono hB))).mono ?_
      rintro e w1 ⟨rfl, hb1⟩
      have hown1 := ownsRow_below hown hb1
      have hbel1 := hbel.trans (hb1.mono hsz)
      have hz1' := hbel1.size
      clear hown hbel hb1
      go_wp2_with (at_builtin; refine wpList_append_fits _ rfl (.tmp 25) (.tmp 32) 26 rfl w.heap.size 35 i0 5 Try.underlying26 hi0 hz1 w.heap.size m (hi - lo) _ rfl (hown1.alloc _) ⟨w1.heap.size, 0, none⟩ 1 1 (Ver.cells ⟨G j, fl sn S j, fl dn D j, fl tn T j⟩) rfl rfl (cells_new w1 ⟨G j, fl sn S j, fl dn D j, fl tn T j⟩) (Ver.oneCell _) (by omega) ?_; intro w2 hown2 hgrow2)
      have R := rel_step HJ hown2 hbel1 hgrow2
      clear hown1 hbel1 hown2 hgrow2
      go_roundw
      case rel => exact ⟨j + 1, m + 1, by omega, by omega, R.1, rfl, by go_num, R.2.1, R.2.2⟩
      case measure => simp [intOf]; omega
    · have em : m = hi - lo := by have := HJ.out; omega
      subst em
      go_wp2
      go_ret
      exact ⟨rfl, hown, hbel⟩

end Go.Proofs.Qxb6626091a
