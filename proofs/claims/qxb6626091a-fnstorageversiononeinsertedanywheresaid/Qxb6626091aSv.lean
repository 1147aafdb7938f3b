/- THE PLAIN LAWS of the storage version of a row; the makers of rows, as the laws take them. -/
import Derived.Test.Qxb6626091aWalks3
namespace Go.Proofs.Qxb6626091a
open Go.RowKit

theorem sv_uniq {n : Nat} {V : Nat → Ver} {s s' : ByteArray} (h : IsSV n V s) (h' : IsSV n V s') : s = s' := by
  rcases h with ⟨j, a1, a2, a3, a4⟩ | ⟨a1, a2⟩ <;> rcases h' with ⟨i, b1, b2, b3, b4⟩ | ⟨b1, b2⟩
  · have e : i = j := by
      rcases Nat.lt_trichotomy i j with h | h | h
      · have := a3 i h; rw [b2] at this; cases this
      · exact h
      · have := b3 j h; rw [a2] at this; cases this
    rw [a4, b4, e]
  · have := b1 j a1; rw [a2] at this; cases this
  · have := a1 i b1; rw [b2] at this; cases this
  · rw [a2, b2]

theorem mk_no {F : Nat → Bool} {lo hi : Nat} (h : mk F lo hi = false) : ∀ i, lo ≤ i → i < hi → F i = false := by
  intro i h1 h2
  cases e : F i with
  | false => rfl
  | true =>
    have := (mk_iff F lo hi).2 ⟨i, h1, h2, e⟩
    rw [h] at this
    cases this

theorem sv_pre {n k : Nat} {V : Nat → Ver} {F : Nat → Bool} {s s2 : ByteArray} (hF : ∀ i, (V i).st = F i) (hk : k ≤ n) (h : IsSV n V s) (h2 : IsSV k V s2) (hm : mk F 0 k = true) : s2 = s := by
  refine sv_uniq (n := n) ?_ h
  rcases h2 with ⟨j, a1, a2, a3, a4⟩ | ⟨a1, a2⟩
  · exact .inl ⟨j, by omega, a2, a3, a4⟩
  · obtain ⟨i, _, h1, h2⟩ := (mk_iff F 0 k).1 hm
    have := a1 i h1
    rw [hF, h2] at this
    cases this

theorem sv_suf {n k : Nat} {V : Nat → Ver} {F : Nat → Bool} {s s3 : ByteArray} (hF : ∀ i, (V i).st = F i) (hk : k ≤ n) (h : IsSV n V s) (h3 : IsSV (n - k) (fun i => V (k + i)) s3) (hm : mk F 0 k = false) : s3 = s := by
  have hno := mk_no hm
  refine sv_uniq (n := n) ?_ h
  rcases h3 with ⟨j, a1, a2, a3, a4⟩ | ⟨a1, a2⟩
  · refine .inl ⟨k + j, by omega, a2, fun i hi => ?_, a4⟩
    by_cases e : i < k
    · rw [hF]; exact hno i (Nat.zero_le _) e
    · have : (V (k + (i - k))).st = false := a3 (i - k) (by omega)
      rwa [show k + (i - k) = i from by omega] at this
  · refine .inr ⟨fun i hi => ?_, a2⟩
    by_cases e : i < k
    · rw [hF]; exact hno i (Nat.zero_le _) e
    · have : (V (k + (i - k))).st = false := a1 (i - k) (by omega)
      rwa [show k + (i - k) = i from by omega] at this

theorem sv_none {n : Nat} {V : Nat → Ver} {F : Nat → Bool} {s : ByteArray} (hF : ∀ i, (V i).st = F i) (h : IsSV n V s) (hm : mk F 0 n = false) : s = ByteArray.empty := by
  refine sv_uniq h (.inr ⟨fun i hi => ?_, rfl⟩)
  rw [hF]; exact mk_no hm i (Nat.zero_le _) hi

theorem sv_some {n : Nat} {V : Nat → Ver} {F : Nat → Bool} {s : ByteArray} (hF : ∀ i, (V i).st = F i) (h : IsSV n V s) (hm : mk F 0 n = true) : ∃ j, j < n ∧ (V j).nm = s := by
  rcases h with ⟨j, a1, a2, a3, a4⟩ | ⟨a1, a2⟩
  · exact ⟨j, a1, a4.symm⟩
  · obtain ⟨i, _, h1, h2⟩ := (mk_iff F 0 n).1 hm
    have := a1 i h1
    rw [hF, h2] at this
    cases this

theorem mk_mono {F : Nat → Bool} {k n : Nat} (hk : k ≤ n) (hm : mk F 0 k = true) : mk F 0 n = true := by
  obtain ⟨i, h0, h1, h2⟩ := (mk_iff F 0 k).1 hm
  exact (mk_iff F 0 n).2 ⟨i, h0, by omega, h2⟩

/-- One version put into a row at k. -/
def ins (V : Nat → Ver) (k : Nat) (v : Ver) (j : Nat) : Ver := if j < k then V j else if j = k then v else V (j - 1)

theorem ins_keep {n k : Nat} {V : Nat → Ver} {v : Ver} {s s2 : ByteArray} {F : Nat → Bool} (hF : ∀ i, (V i).st = F i) (hk : k ≤ n) (h : IsSV n V s) (h2 : IsSV (n + 1) (ins V k v) s2) (hm : mk F 0 k = true ∨ v.st = false) : s2 = s := by
  refine sv_uniq h2 ?_
  rcases h with ⟨j, a1, a2, a3, a4⟩ | ⟨a1, a2⟩
  · by_cases hj : j < k
    · refine .inl ⟨j, by omega, by simp [ins, hj, a2], fun i hi => ?_, by simp [ins, hj, a4]⟩
      have : i < k := by omega
      simp [ins, this, a3 i hi]
    · have hv : v.st = false := by
        rcases hm with hm | hm
        · obtain ⟨i, _, h1, h2⟩ := (mk_iff F 0 k).1 hm
          have := a3 i (by omega)
          rw [hF, h2] at this
          cases this
        · exact hm
      have e1 : ¬ j + 1 < k := by omega
      have e2 : j + 1 ≠ k := by omega
      refine .inl ⟨j + 1, by omega, by simp [ins, e1, e2, a2], fun i hi => ?_, by simp [ins, e1, e2, a4]⟩
      unfold ins
      split
      · exact a3 i (by omega)
      · split
        · exact hv
        · exact a3 (i - 1) (by omega)
  · have hv : v.st = false := by
      rcases hm with hm | hm
      · obtain ⟨i, _, h1, h2⟩ := (mk_iff F 0 k).1 hm
        have := a1 i (by omega)
        rw [hF, h2] at this
        cases this
      · exact hm
    refine .inr ⟨fun i hi => ?_, a2⟩
    unfold ins
    split
    · exact a1 i (by omega)
    · split
      · exact hv
      · exact a1 (i - 1) (by omega)

theorem ins_new {n k : Nat} {V : Nat → Ver} {v : Ver} {s2 : ByteArray} {F : Nat → Bool} (hF : ∀ i, (V i).st = F i) (hk : k ≤ n) (h2 : IsSV (n + 1) (ins V k v) s2) (hm : mk F 0 k = false) (hv : v.st = true) : s2 = v.nm := by
  refine sv_uniq h2 (.inl ⟨k, by omega, by simp [ins, hv], fun i hi => ?_, by simp [ins]⟩)
  simp [ins, hi]
  rw [hF]; exact mk_no hm i (Nat.zero_le _) hi

/-- zzSvVersions, as the laws take it. -/
theorem versions_ex (B : Nat) (na sa da ta : Option Addr) (nn nc sn sc dn dc tn tc : Nat) (G : Nat → ByteArray) (S D T : Nat → Bool) (lo hi N : Nat) (V : Nat → Ver) (w : World) (h1 : lo ≤ hi) (h2 : hi ≤ nn) (h3 : nn ≤ 65536) (hB : B ≤ w.heap.size) (hN : N = hi - lo)
    (hV : ∀ i, V i = ⟨G (lo + i), fl sn S (lo + i), fl dn D (lo + i), fl tn T (lo + i)⟩)
    (hn : Strs B w na nn G) (hs : Bools B w sa sn S) (hd : Bools B w da dn D) (ht : Bools B w ta tn T) :
    Calls Try.prog 7 #[.slice na nn nc, .slice sa sn sc, .slice da dn dc, .slice ta tn tc, .int .i64 lo, .int .i64 hi] w fun e w' =>
      ∃ b, w.heap.size ≤ b ∧ e = .returned (.slice (some ⟨b, 0, none⟩) N N) ∧ VRow w' b N V ∧ Below w.heap.size w w' := by
  subst hN
  obtain rfl : V = fun i => ⟨G (lo + i), fl sn S (lo + i), fl dn D (lo + i), fl tn T (lo + i)⟩ := funext hV
  refine (versions_any B na sa da ta nn nc sn sc dn dc tn tc G S D T lo hi w h1 h2 h3 hB hn hs hd ht).mono ?_
  rintro e w' ⟨rfl, ho, hb⟩
  exact ⟨_, Nat.le_refl _, rfl, VRow.of_owns ho, hb⟩

/-- A CRD in a variable. -/
structure Crd (w : World) (b : Nat) (g k f : ByteArray) (v : Value) : Prop where
  c0 : w.cell? ⟨b, 0, none⟩ = some (.string g)
  c1 : w.cell? ⟨b, 1, none⟩ = some (.string k)
  c2 : w.cell? ⟨b, 2, none⟩ = some v
  c3 : w.cell? ⟨b, 3, none⟩ = some (.string f)
  lt : b < w.heap.size
theorem Crd.below {w w' : World} {b B : Nat} {g k f : ByteArray} {v : Value} (h : Crd w b g k f v) (hb : Below B w w') (hB : b < B) : Crd w' b g k f v :=
  ⟨(hb.cell (p := ⟨b, 0, none⟩) hB).trans h.c0, (hb.cell (p := ⟨b, 1, none⟩) hB).trans h.c1, (hb.cell (p := ⟨b, 2, none⟩) hB).trans h.c2, (hb.cell (p := ⟨b, 3, none⟩) hB).trans h.c3, by have := hb.size; have := h.lt; omega⟩
theorem Crd.new (w : World) (g k f : ByteArray) (v : Value) : Crd (w.alloc (.cells #[.string g, .string k, v, .string f] 29)) w.heap.size g k f v :=
  ⟨by simp [go_sem], by simp [go_sem], by simp [go_sem], by simp [go_sem], by simp⟩

/-- A CRD in a variable, and its row. -/
def Has (w : World) (cb : Nat) (g k f : ByteArray) (rb n m : Nat) (V : Nat → Ver) : Prop := Crd w cb g k f (.slice (some ⟨rb, 0, none⟩) n m) ∧ VRow w rb n V
theorem Has.below {w w' : World} {cb rb n m B : Nat} {g k f : ByteArray} {V : Nat → Ver} (h : Has w cb g k f rb n m V) (hb : Below B w w') (hB : w.heap.size ≤ B) : Has w' cb g k f rb n m V :=
  ⟨h.1.below hb (by have := h.1.lt; omega), h.2.below hb (by have := h.2.1; omega)⟩
theorem Has.alloc {w : World} {cb rb n m : Nat} {g k f : ByteArray} {V : Nat → Ver} (h : Has w cb g k f rb n m V) (o : Obj) : Has (w.alloc o) cb g k f rb n m V :=
  h.below (B := w.heap.size) ((Below.refl _ _).alloc (Nat.le_refl _) _) (Nat.le_refl _)
theorem Has.new {w : World} {rb n m : Nat} {V : Nat → Ver} (h : VRow w rb n V) (g k f : ByteArray) : Has (w.alloc (.cells #[.string g, .string k, .slice (some ⟨rb, 0, none⟩) n m, .string f] 29)) w.heap.size g k f rb n m V :=
  ⟨Crd.new _ _ _ _ _, h.alloc _⟩

end Go.Proofs.Qxb6626091a
