/- THE WALK of the first law. -/
import Derived.Test.Qxb6626091aSv
namespace Go.Proofs.Qxb6626091a
open Go.RowKit

set_option maxHeartbeats 1000000 in
theorem law1_in (g kd f : ByteArray) (na sa da ta : Option Addr) (nn nc sn sc dn dc tn tc k : Nat) (G : Nat → ByteArray) (S D T : Nat → Bool) (w : World) (hk : k ≤ nn)
    (hn : Strs w.heap.size w na nn G) (hs : Bools w.heap.size w sa sn S) (hd : Bools w.heap.size w da dn D) (ht : Bools w.heap.size w ta tn T) :
    Calls Try.prog 3 #[.string g, .string kd, .string f, .slice na nn nc, .slice sa sn sc, .slice da dn dc, .slice ta tn tc, .int .i64 k] w fun e w' => e = .returned (.bool true) ∧ Below w.heap.size w w' := by
  have t1 : decide ((k : Int) < 0) = false := decide_eq_false (by omega)
  have t2 : decide (nn < k) = false := decide_eq_false (by omega)
  go_enter Try.func3, Try.ntmps3
  go_wp2_with fail
  refine (bytes1_any g kd f na sa da ta nn nc sn sc dn dc tn tc k G w.heap.size _ hn).mono ?_
  rintro e w' ⟨⟨b, rfl⟩, hw⟩
  obtain rfl := hw.symm
  cases b with
  | false =>
    go_wp2
    go_ret
    exact ⟨rfl, Below.refl _ _⟩
  | true =>
  go_wp2_with fail
  refine (tooBig_any g kd f _ na sa da ta nn nc sn sc dn dc tn tc G w.heap.size _ hn).mono ?_
  rintro e w2 ⟨hbig, hw⟩
  obtain rfl := hw.symm
  rcases hbig with rfl | ⟨rfl, h3⟩
  · go_wp2
    go_ret
    exact ⟨rfl, Below.refl _ _⟩
  go_wp2_with fail
  obtain ⟨V, hV⟩ : ∃ V : Nat → Ver, Hid (∀ i, V i = ⟨G i, fl sn S i, fl dn D i, fl tn T i⟩) := ⟨_, fun _ => rfl⟩
  -- the whole row
  refine (versions_ex w.heap.size na sa da ta nn nc sn sc dn dc tn tc G S D T 0 nn nn V _ (by omega) (by omega) h3 (by omega) (by omega) (fun i => by rw [hV.out, Nat.zero_add]) hn hs hd ht).mono ?_
  rintro e w1 ⟨b1, hb1, rfl, hv1, hbel1⟩
  have z1 := hbel1.size
  go_wp2_with fail
  -- the first part
  have hx1 := hbel1.alloc z1 (.cells #[.string g, .string kd, .slice (some ⟨b1, 0, none⟩) nn nn, .string f] 29)
  have A1 := Has.new (m := nn) hv1 g kd f
  clear hv1 hbel1 hb1 z1
  refine (versions_ex w.heap.size na sa da ta nn nc sn sc dn dc tn tc G S D T 0 k k V _ (by omega) (by omega) h3 hx1.size (by omega) (fun i => by rw [hV.out, Nat.zero_add]) (hn.below hx1) (hs.below hx1) (hd.below hx1) (ht.below hx1)).mono ?_
  rintro e w2 ⟨b2, -, rfl, hv2, hbel2⟩
  have hy2 := hx1.trans (hbel2.mono hx1.size)
  have A2 := A1.below hbel2 (Nat.le_refl _)
  clear A1 hx1 hbel2
  go_wp2_with fail
  -- the second part
  have hx2 := hy2.alloc hy2.size (.cells #[.string g, .string kd, .slice (some ⟨b2, 0, none⟩) k k, .string f] 29)
  have A3 := A2.alloc (.cells #[.string g, .string kd, .slice (some ⟨b2, 0, none⟩) k k, .string f] 29)
  have B3 := Has.new (m := k) hv2 g kd f
  clear A2 hv2 hy2
  refine (versions_ex w.heap.size na sa da ta nn nc sn sc dn dc tn tc G S D T k nn (nn - k) (fun i => V (k + i)) _ (by omega) (by omega) h3 hx2.size (by omega) (fun i => by rw [hV.out]) (hn.below hx2) (hs.below hx2) (hd.below hx2) (ht.below hx2)).mono ?_
  rintro e w3 ⟨b3, -, rfl, hv3, hbel3⟩
  have hy3 := hx2.trans (hbel3.mono hx2.size)
  have A4 := A3.below hbel3 (Nat.le_refl _)
  have B4 := B3.below hbel3 (Nat.le_refl _)
  clear A3 B3 hx2 hbel3
  obtain ⟨a0, a1, a2, a3, alt⟩ := A4.1
  go_wp2_with fail
  clear a0 a1 a2 a3 alt
  -- the storage version of the whole
  have hx3 := hy3.alloc hy3.size (.cells #[.string g, .string kd, .slice (some ⟨b3, 0, none⟩) (nn - k) (nn - k), .string f] 29)
  have A5 := A4.alloc (.cells #[.string g, .string kd, .slice (some ⟨b3, 0, none⟩) (nn - k) (nn - k), .string f] 29)
  have B5 := B4.alloc (.cells #[.string g, .string kd, .slice (some ⟨b3, 0, none⟩) (nn - k) (nn - k), .string f] 29)
  have C5 := Has.new (m := nn - k) hv3 g kd f
  clear A4 B4 hv3 hy3
  refine (storage_any g kd f b1 nn nn V _ (by omega) A5.2).mono ?_
  rintro e w4 ⟨s, rfl, hs1, hbel4⟩
  have hx4 := hx3.trans (hbel4.mono hx3.size)
  have A6 := A5.below hbel4 (Nat.le_refl _)
  have B6 := B5.below hbel4 (Nat.le_refl _)
  have C6 := C5.below hbel4 (Nat.le_refl _)
  clear A5 B5 C5 hx3 hbel4
  go_wp2_with fail
  refine (marked_any w.heap.size ta tn tc T 0 k _ (by omega) (by omega) (ht.below hx4)).mono ?_
  rintro e w5 ⟨rfl, rfl⟩
  have hF : ∀ i, (V i).st = fl tn T i := fun i => by rw [hV.out]
  have HF : Hid (∀ i, (V i).st = fl tn T i) := hF
  clear hF
  cases hm : mk (fl tn T) 0 k with
  | true =>
    obtain ⟨a0, a1, a2, a3, alt⟩ := B6.1
    go_wp2_with fail
    clear a0 a1 a2 a3 alt
    refine (storage_any g kd f b2 k k V _ (by omega) B6.2).mono ?_
    rintro e w6 ⟨s2, rfl, hs2, hbel6⟩
    obtain rfl : s2 = s := sv_pre HF.out hk hs1 hs2 hm
    have hm2 : mk (fl tn T) 0 nn = true := mk_mono hk hm
    have hx6 := hx4.trans (hbel6.mono hx4.size)
    have A7 := A6.below hbel6 (Nat.le_refl _)
    clear A6 B6 C6 hx4 hbel6 hm
    go_wp2_with fail
    refine (marked_any w.heap.size ta tn tc T 0 nn _ (by omega) (by omega) (ht.below hx6)).mono ?_
    rintro e w7 ⟨rfl, rfl⟩
    rw [hm2]
    obtain ⟨a0, a1, a2, a3, alt⟩ := A7.1
    go_wp2_with fail
    clear a0 a1 a2 a3 alt
    refine (version_in g kd f s2 b1 nn nn V _ (by omega) A7.2 (sv_some HF.out hs1 hm2)).mono ?_
    rintro e w8 ⟨v, rfl, hbel8⟩
    have hx8 := hx6.trans (hbel8.mono hx6.size)
    go_wp2
    go_ret
    exact ⟨rfl, hx8.alloc hx8.size _⟩
  | false =>
    obtain ⟨a0, a1, a2, a3, alt⟩ := C6.1
    go_wp2_with fail
    clear a0 a1 a2 a3 alt
    refine (storage_any g kd f b3 (nn - k) (nn - k) (fun i => V (k + i)) _ (by omega) C6.2).mono ?_
    rintro e w6 ⟨s2, rfl, hs2, hbel6⟩
    obtain rfl : s2 = s := sv_suf HF.out hk hs1 hs2 hm
    cases hm2 : mk (fl tn T) 0 nn with
    | true =>
      have hx6 := hx4.trans (hbel6.mono hx4.size)
      have A7 := A6.below hbel6 (Nat.le_refl _)
      clear A6 B6 C6 hx4 hbel6 hm
      go_wp2_with fail
      refine (marked_any w.heap.size ta tn tc T 0 nn _ (by omega) (by omega) (ht.below hx6)).mono ?_
      rintro e w7 ⟨rfl, rfl⟩
      rw [hm2]
      obtain ⟨a0, a1, a2, a3, alt⟩ := A7.1
      go_wp2_with fail
      clear a0 a1 a2 a3 alt
      refine (version_in g kd f s2 b1 nn nn V _ (by omega) A7.2 (sv_some HF.out hs1 hm2)).mono ?_
      rintro e w8 ⟨v, rfl, hbel8⟩
      have hx8 := hx6.trans (hbel8.mono hx6.size)
      go_wp2
      go_ret
      exact ⟨rfl, hx8.alloc hx8.size _⟩
    | false =>
      have hx6 := hx4.trans (hbel6.mono hx4.size)
      have he := sv_none HF.out hs1 hm2
      subst he
      clear A6 B6 C6 hx4 hbel6 hm
      go_wp2_with fail
      refine (marked_any w.heap.size ta tn tc T 0 nn _ (by omega) (by omega) (ht.below hx6)).mono ?_
      rintro e w7 ⟨rfl, rfl⟩
      rw [hm2]
      go_wp2
      go_ret
      exact ⟨rfl, hx6⟩

set_option maxHeartbeats 400000 in
theorem law1_out (g kd f : ByteArray) (na sa da ta : Option Addr) (nn nc sn sc dn dc tn tc : Nat) (k : Int) (G : Nat → ByteArray) (w : World) (hk : k < 0 ∨ (nn : Int) < k) (hn : Strs w.heap.size w na nn G) :
    Calls Try.prog 3 #[.string g, .string kd, .string f, .slice na nn nc, .slice sa sn sc, .slice da dn dc, .slice ta tn tc, .int .i64 k] w fun e w' => e = .returned (.bool true) ∧ Below w.heap.size w w' := by
  go_enter Try.func3, Try.ntmps3
  go_wp2_with fail
  refine (bytes1_any g kd f na sa da ta nn nc sn sc dn dc tn tc k G w.heap.size _ hn).mono ?_
  rintro e w' ⟨⟨b, rfl⟩, hw⟩
  obtain rfl := hw.symm
  cases b with
  | false =>
    go_wp2
    go_ret
    exact ⟨rfl, Below.refl _ _⟩
  | true =>
  go_wp2_with fail
  refine (tooBig_any g kd f _ na sa da ta nn nc sn sc dn dc tn tc G w.heap.size _ hn).mono ?_
  rintro e w2 ⟨hbig, hw⟩
  obtain rfl := hw.symm
  rcases hbig with rfl | ⟨rfl, h3⟩
  · go_wp2
    go_ret
    exact ⟨rfl, Below.refl _ _⟩
  by_cases h0 : k < 0
  · go_wp2_with fail
    go_ret
    exact ⟨rfl, Below.refl _ _⟩
  · have h1 : (nn : Int) < k := by omega
    go_wp2_with fail
    go_ret
    exact ⟨rfl, Below.refl _ _⟩

theorem law1 (g kd f : ByteArray) (na sa da ta : Option Addr) (nn nc sn sc dn dc tn tc : Nat) (k : Int) (G : Nat → ByteArray) (S D T : Nat → Bool) (w : World)
    (hn : Strs w.heap.size w na nn G) (hs : Bools w.heap.size w sa sn S) (hd : Bools w.heap.size w da dn D) (ht : Bools w.heap.size w ta tn T) :
    Calls Try.prog 3 #[.string g, .string kd, .string f, .slice na nn nc, .slice sa sn sc, .slice da dn dc, .slice ta tn tc, .int .i64 k] w fun e w' => e = .returned (.bool true) ∧ Below w.heap.size w w' := by
  by_cases hk : k < 0 ∨ (nn : Int) < k
  · exact law1_out g kd f na sa da ta nn nc sn sc dn dc tn tc k G w hk hn
  · obtain ⟨m, rfl⟩ := Int.eq_ofNat_of_zero_le (show 0 ≤ k by omega)
    exact law1_in g kd f na sa da ta nn nc sn sc dn dc tn tc m G S D T w (by omega) hn hs hd ht

end Go.Proofs.Qxb6626091a
