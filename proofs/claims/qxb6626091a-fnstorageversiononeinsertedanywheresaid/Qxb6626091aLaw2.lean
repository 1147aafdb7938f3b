/- THE WALK of the second law. -/
import Derived.Test.Qxb6626091aSv
import Derived.WideShapes
namespace Go.Proofs.Qxb6626091a
open Go.RowKit Go.WideShapes

/-- What lies in the world in which the new row has been made. -/
theorem start_any {w w1 wm : World} {gb b1 n m : Nat} {V : Nat → Ver} {vn : ByteArray} {v1 v2 v3 : Bool} (g kd f : ByteArray) (HG : ∀ o1 o2 : Obj, ((w1.alloc o1).alloc o2).heap.size = gb) (hv : VRow w1 b1 n V) (hb : Below w.heap.size w w1)
    (hg : ((w1.alloc (.cells #[.string g, .string kd, .slice (some ⟨b1, 0, none⟩) n m, .string f] 29)).alloc (.cells #[.string vn, .bool v1, .bool v2, .bool v3, .pointer none] 35)).grownBy wm none) :
    Has wm w1.heap.size g kd f b1 n m V ∧ VRow wm (w1.heap.size + 1) 1 (fun _ => ⟨vn, v1, v2, v3⟩) ∧ Below w.heap.size w wm ∧ gb ≤ wm.heap.size ∧ b1 < gb := by
  have hz := hb.size
  generalize ho1 : (Obj.cells #[.string g, .string kd, .slice (some ⟨b1, 0, none⟩) n m, .string f] 29) = o1 at hg
  generalize ho2 : (Obj.cells #[.string vn, .bool v1, .bool v2, .bool v3, .pointer none] 35) = o2 at hg
  have hs := HG o1 o2
  have hB : Below gb ((w1.alloc o1).alloc o2) wm := (Below.refl _ _).grown hg (by omega) (fun k hk => by cases hk)
  have h0 : w1.heap.size + 2 = gb := by rw [← hs]; simp
  have A : Has ((w1.alloc o1).alloc o2) w1.heap.size g kd f b1 n m V := by rw [← ho1]; exact (Has.new hv g kd f).alloc _
  refine ⟨A.below hB (by omega), ?_, (((hb.alloc hz o1).alloc (by simp; omega) o2)).trans (hB.mono (by omega)), by have := hB.size; omega, by have := hv.1; omega⟩
  have Bx : VRow ((w1.alloc o1).alloc o2) (w1.heap.size + 1) 1 (fun _ => ⟨vn, v1, v2, v3⟩) := by
    refine ⟨by omega, fun i hi t ht => ?_⟩
    obtain rfl : i = 0 := by omega
    have hc := fun u => cells_new (w1.alloc o1) ⟨vn, v1, v2, v3⟩ t u
    have e : (w1.alloc o1).heap.size = w1.heap.size + 1 := by simp
    rw [← ho2, Nat.zero_mul, Nat.zero_add]
    have hlen : t < (Ver.cells ⟨vn, v1, v2, v3⟩).length := by simpa [Ver.cells] using ht
    rw [List.getElem?_eq_getElem hlen]
    have := hc _ (List.getElem?_eq_getElem hlen)
    rw [e] at this
    rw [add_plain, Nat.zero_add] at this
    exact this
  exact Bx.below hB (by omega)

theorem app_step {wm w1 w2 : World} {o : Obj} {gb m N : Nat} {R : Nat → Ver} {x : Ver} (hx : R m = x)
    (hown : w2.ownsRow gb 35 5 (.slice (some ⟨gb, 0, none⟩) (m + 1) N) (m + 1) (rowCells R m ++ x.cells)) (hgb : gb ≤ wm.heap.size) (hbel : Below gb wm w1) (hg : (w1.alloc o).grownBy w2 (some gb)) :
    w2.ownsRow gb 35 5 (.slice (some ⟨gb, 0, none⟩) (m + 1) N) (m + 1) (rowCells R (m + 1)) ∧ Below gb wm w2 := by
  have hs := hbel.size
  refine ⟨?_, (hbel.alloc (by omega) o).grown hg (by simp; omega) (fun k hk => by simp at hk; omega)⟩
  rw [rowCells_succ, hx]
  exact hown

theorem Has.under {w w' : World} {cb rb n m B : Nat} {g k f : ByteArray} {V : Nat → Ver} (h : Has w cb g k f rb n m V) (hb : Below B w w') (h1 : cb < B) (h2 : rb < B) : Has w' cb g k f rb n m V :=
  ⟨h.1.below hb h1, h.2.below hb h2⟩

set_option maxHeartbeats 1000000 in
theorem law2_in (g kd f vn : ByteArray) (v1 v2 v3 : Bool) (na sa da ta : Option Addr) (nn nc sn sc dn dc tn tc k : Nat) (G : Nat → ByteArray) (S D T : Nat → Bool) (w : World) (hk : k ≤ nn)
    (hn : Strs w.heap.size w na nn G) (hs : Bools w.heap.size w sa sn S) (hd : Bools w.heap.size w da dn D) (ht : Bools w.heap.size w ta tn T) :
    Calls Try.prog 4 #[.string g, .string kd, .string f, .slice na nn nc, .slice sa sn sc, .slice da dn dc, .slice ta tn tc, .int .i64 k, .string vn, .bool v1, .bool v2, .bool v3] w fun e w' => e = .returned (.bool true) ∧ Below w.heap.size w w' := by
  have t1 : decide ((k : Int) < 0) = false := decide_eq_false (by omega)
  have t2 : decide (nn < k) = false := decide_eq_false (by omega)
  go_enter Try.func4, Try.ntmps4
  go_wp2_with fail
  refine (bytes2_any g kd f vn v1 v2 v3 na sa da ta nn nc sn sc dn dc tn tc k G w.heap.size _ hn).mono ?_
  rintro e w' ⟨⟨b, rfl⟩, hw⟩
  obtain rfl := hw.symm
  cases b with
  | false =>
    go_wp2
    go_ret
    exact ⟨rfl, Below.refl _ _⟩
  | true =>
  go_wp2_with fail
  refine (tooBig_any g kd f _ na sa da ta nn nc sn sc dn dc tn tc G w.heap.size _ hn).mono ?_
  rintro e w2 ⟨hbig, hw⟩
  obtain rfl := hw.symm
  rcases hbig with rfl | ⟨rfl, h3⟩
  · go_wp2
    go_ret
    exact ⟨rfl, Below.refl _ _⟩
  go_wp2_with fail
  obtain ⟨V, hV⟩ : ∃ V : Nat → Ver, Hid (∀ i, V i = ⟨G i, fl sn S i, fl dn D i, fl tn T i⟩) := ⟨_, fun _ => rfl⟩
  -- the whole row
  refine (versions_ex w.heap.size na sa da ta nn nc sn sc dn dc tn tc G S D T 0 nn nn V _ (by omega) (by omega) h3 (by omega) (by omega) (fun i => by rw [hV.out, Nat.zero_add]) hn hs hd ht).mono ?_
  rintro e w1 ⟨b1, hb1, rfl, hv1, hbel1⟩
  have z1 := hbel1.size
  obtain ⟨gb, hgb, HG⟩ : ∃ gb, w1.heap.size + 2 ≤ gb ∧ Hid (∀ o1 o2 : Obj, ((w1.alloc o1).alloc o2).heap.size = gb) := ⟨w1.heap.size + 2, Nat.le_refl _, fun _ _ => by simp⟩
  obtain ⟨i0, hi0, hz0, hz1, hz2⟩ := info_parts Try.info35
  go_wp2_with (at_make; refine wpList_make_own _ rfl _ _ 26 rfl gb 35 i0 _ 5 Try.underlying26 hi0 hz0 hz1 .i64 .i64 _ (nn + 1) rfl rfl (by omega) (by rw [hz2]; omega) (by unfold maxLen; omega) (by rw [HG.out]; exact Nat.le_refl _) ?_; intro wm hown0 hgrow0; simp only [HG.out] at hown0 ⊢)
  have F := start_any (vn := vn) (v1 := v1) (v2 := v2) (v3 := v3) g kd f HG.out hv1 hbel1 hgrow0
  obtain ⟨F1, F2, F3, F4, F5⟩ := F
  have hwg : w.heap.size ≤ gb := by omega
  have hc1 : w1.heap.size < gb := by omega
  have hc2 : w1.heap.size + 1 < gb := by omega
  clear hgrow0 hv1 hbel1 hb1 z1 HG hgb
  obtain ⟨R, hR⟩ : ∃ R : Nat → Ver, Hid (R = ins V k ⟨vn, v1, v2, v3⟩) := ⟨_, rfl⟩
  go_loopw [28, 29] (fun x i wr => ∃ j : Nat, j ≤ k ∧ x = .slice (some ⟨gb, 0, none⟩) j (nn + 1) ∧ i = .int .i64 j ∧ wr.ownsRow gb 35 5 (.slice (some ⟨gb, 0, none⟩) j (nn + 1)) j (rowCells R j) ∧ Below gb wm wr)
    (fun _ i _ => k - (intOf i).toNat)
  case atStart => exact ⟨0, Nat.zero_le _, rfl, rfl, hown0, Below.refl _ _⟩
  case round =>
    obtain ⟨j, hj, rfl, rfl, hown, hbel⟩ := hrel
    have hwr := F3.trans (hbel.mono hwg)
    have hz3 := hwr.size
    have hz4 : gb ≤ wr.heap.size := Nat.le_trans F4 hbel.size
    by_cases hlt : j < k
    · have hRj : Hid (R j = ⟨G j, fl sn S j, fl dn D j, fl tn T j⟩) := by
        have e : ins V k ⟨vn, v1, v2, v3⟩ j = V j := by simp [ins, hlt]
        show R j = _
        rw [hR.out, e, hV.out]
      go_wp2_with fail
      refine (version_any w.heap.size na sa da ta nn nc sn sc dn dc tn tc G S D T j _ (by omega) (by omega) (hn.below hwr) (hs.below hwr) (hd.below hwr) (ht.below hwr)).mono ?_
      rintro e wv ⟨rfl, hb1⟩
      have hown1 := ownsRow_below hown hb1
      have hbel1 := hbel.trans (hb1.mono hz4)
      have hz5 := hbel1.size
      clear hown hbel hb1
      go_wp2_with (at_builtin; refine wpList_append_fits _ rfl (.tmp 92) (.tmp 99) 26 rfl gb 35 i0 5 Try.underlying26 hi0 hz1 gb j (nn + 1) _ rfl (hown1.alloc _) ⟨wv.heap.size, 0, none⟩ 1 1 (Ver.cells ⟨G j, fl sn S j, fl dn D j, fl tn T j⟩) rfl rfl (cells_new wv ⟨G j, fl sn S j, fl dn D j, fl tn T j⟩) (Ver.oneCell _) (by omega) ?_; intro w2 hown2 hgrow2)
      have Q := app_step hRj.out hown2 F4 hbel1 hgrow2
      clear hown1 hbel1 hown2 hgrow2
      go_roundw
      case rel => exact ⟨j + 1, by omega, rfl, by go_num, Q.1, Q.2⟩
      case measure => simp [intOf]; omega
    · obtain rfl : j = k := by omega
      have hRk : Hid (R j = ⟨vn, v1, v2, v3⟩) := by
        show R j = _
        rw [hR.out]; simp [ins]
      have bx := F2.below hbel hc2
      have c0 := bx.2 0 (by omega) 0 (by omega)
      have c1 := bx.2 0 (by omega) 1 (by omega)
      have c2 := bx.2 0 (by omega) 2 (by omega)
      have c3 := bx.2 0 (by omega) 3 (by omega)
      have c4 := bx.2 0 (by omega) 4 (by omega)
      simp only [Ver.cells, Nat.zero_mul, Nat.zero_add, Nat.add_zero, List.getElem?_cons_zero, List.getElem?_cons_succ] at c0 c1 c2 c3 c4
      clear bx
      go_wp2_with (at_builtin; refine wpList_append_fits _ rfl (.tmp 101) (.tmp 103) 26 rfl gb 35 i0 5 Try.underlying26 hi0 hz1 gb j (nn + 1) _ rfl (hown.alloc _) ⟨wr.heap.size, 0, none⟩ 1 1 (Ver.cells ⟨vn, v1, v2, v3⟩) rfl rfl (cells_new wr ⟨vn, v1, v2, v3⟩) (Ver.oneCell _) (by omega) ?_; intro w2 hown2 hgrow2)
      have Q := app_step hRk.out hown2 F4 hbel hgrow2
      clear hown hbel hown2 hgrow2 c0 c1 c2 c3 c4 hz3 hz4 hwr hown0
      obtain ⟨Q1, Q2⟩ := Q
      go_loopw [28, 30] (fun x i wx => ∃ t : Nat, j ≤ t ∧ t ≤ nn ∧ x = .slice (some ⟨gb, 0, none⟩) (t + 1) (nn + 1) ∧ i = .int .i64 t ∧ wx.ownsRow gb 35 5 (.slice (some ⟨gb, 0, none⟩) (t + 1) (nn + 1)) (t + 1) (rowCells R (t + 1)) ∧ Below gb wm wx)
        (fun _ i _ => nn - (intOf i).toNat)
      case atStart => exact ⟨j, Nat.le_refl _, hk, rfl, rfl, Q1, Q2⟩
      case round =>
        clear Q1 Q2
        obtain ⟨t, ht1, ht2, rfl, rfl, hown, hbel⟩ := hrel
        have hwr := F3.trans (hbel.mono hwg)
        have hz3 := hwr.size
        have hz4 : gb ≤ wr.heap.size := Nat.le_trans F4 hbel.size
        by_cases hlt2 : t < nn
        · have hRj : Hid (R (t + 1) = ⟨G t, fl sn S t, fl dn D t, fl tn T t⟩) := by
            have e1 : ¬ t + 1 < j := by omega
            have e2 : t + 1 ≠ j := by omega
            have e : ins V j ⟨vn, v1, v2, v3⟩ (t + 1) = V t := by simp [ins, e1, e2]
            show R (t + 1) = _
            rw [hR.out, e, hV.out]
          go_wp2_with fail
          refine (version_any w.heap.size na sa da ta nn nc sn sc dn dc tn tc G S D T t _ (by omega) (by omega) (hn.below hwr) (hs.below hwr) (hd.below hwr) (ht.below hwr)).mono ?_
          rintro e wv ⟨rfl, hb1⟩
          have hown1 := ownsRow_below hown hb1
          have hbel1 := hbel.trans (hb1.mono hz4)
          have hz5 := hbel1.size
          clear hown hbel hb1
          go_wp2_with (at_builtin; refine wpList_append_fits _ rfl (.tmp 111) (.tmp 118) 26 rfl gb 35 i0 5 Try.underlying26 hi0 hz1 gb (t + 1) (nn + 1) _ rfl (hown1.alloc _) ⟨wv.heap.size, 0, none⟩ 1 1 (Ver.cells ⟨G t, fl sn S t, fl dn D t, fl tn T t⟩) rfl rfl (cells_new wv ⟨G t, fl sn S t, fl dn D t, fl tn T t⟩) (Ver.oneCell _) (by omega) ?_; intro w2 hown2 hgrow2)
          have Q := app_step hRj.out hown2 F4 hbel1 hgrow2
          clear hown1 hbel1 hown2 hgrow2
          go_roundw
          case rel => exact ⟨t + 1, by omega, by omega, rfl, by go_num, Q.1, Q.2⟩
          case measure => simp [intOf]; omega
        · obtain rfl : t = nn := by omega
          have A := F1.under hbel hc1 F5
          have hv := VRow.of_owns hown
          obtain ⟨a0, a1, a2, a3, alt⟩ := A.1
          go_wp2_with fail
          clear a0 a1 a2 a3 alt
          have hx1 := hwr.alloc hwr.size (.cells #[.string g, .string kd, .slice (some ⟨gb, 0, none⟩) (t + 1) (t + 1), .string f] 29)
          have A1 := A.alloc (.cells #[.string g, .string kd, .slice (some ⟨gb, 0, none⟩) (t + 1) (t + 1), .string f] 29)
          have C1 := Has.new (m := t + 1) hv g kd f
          clear A hv hwr hown hbel hz3 hz4
          refine (storage_any g kd f b1 t t V _ (by omega) A1.2).mono ?_
          rintro e w4 ⟨s1, rfl, hs1, hbel4⟩
          have hx4 := hx1.trans (hbel4.mono hx1.size)
          have C2 := C1.below hbel4 (Nat.le_refl _)
          clear A1 C1 hx1 hbel4
          obtain ⟨a0, a1, a2, a3, alt⟩ := C2.1
          go_wp2_with fail
          clear a0 a1 a2 a3 alt
          refine (storage_any g kd f gb (t + 1) (t + 1) R _ (by omega) C2.2).mono ?_
          rintro e w5 ⟨s2, rfl, hs2, hbel5⟩
          have hx5 := hx4.trans (hbel5.mono hx4.size)
          clear C2 hx4 hbel5
          go_wp2_with fail
          refine (marked_any w.heap.size ta tn tc T 0 j _ (by omega) (by omega) (ht.below hx5)).mono ?_
          rintro e w6 ⟨rfl, rfl⟩
          have hF : ∀ i, (V i).st = fl tn T i := fun i => by rw [hV.out]
          rw [hR.out] at hs2
          have hkeep := fun h => ins_keep (v := ⟨vn, v1, v2, v3⟩) hF hk hs1 hs2 h
          have hnew := fun h1 h2 => ins_new (v := ⟨vn, v1, v2, v3⟩) hF hk hs2 h1 h2
          clear hF
          cases hm : mk (fl tn T) 0 j with
          | true =>
            obtain rfl : s2 = s1 := hkeep (.inl hm)
            clear hkeep hnew hs1 hs2 hm
            go_wp2
            go_ret
            exact ⟨rfl, hx5⟩
          | false =>
            cases v3 with
            | false =>
              obtain rfl : s2 = s1 := hkeep (.inr rfl)
              clear hkeep hnew hs1 hs2 hm
              go_wp2
              go_ret
              exact ⟨rfl, hx5⟩
            | true =>
              obtain rfl : s2 = vn := hnew hm rfl
              clear hkeep hnew hs1 hs2 hm
              go_wp2
              go_ret
              exact ⟨rfl, hx5⟩

set_option maxHeartbeats 400000 in
theorem law2_out (g kd f vn : ByteArray) (v1 v2 v3 : Bool) (na sa da ta : Option Addr) (nn nc sn sc dn dc tn tc : Nat) (k : Int) (G : Nat → ByteArray) (w : World) (hk : k < 0 ∨ (nn : Int) < k) (hn : Strs w.heap.size w na nn G) :
    Calls Try.prog 4 #[.string g, .string kd, .string f, .slice na nn nc, .slice sa sn sc, .slice da dn dc, .slice ta tn tc, .int .i64 k, .string vn, .bool v1, .bool v2, .bool v3] w fun e w' => e = .returned (.bool true) ∧ Below w.heap.size w w' := by
  go_enter Try.func4, Try.ntmps4
  go_wp2_with fail
  refine (bytes2_any g kd f vn v1 v2 v3 na sa da ta nn nc sn sc dn dc tn tc k G w.heap.size _ hn).mono ?_
  rintro e w' ⟨⟨b, rfl⟩, hw⟩
  obtain rfl := hw.symm
  cases b with
  | false =>
    go_wp2
    go_ret
    exact ⟨rfl, Below.refl _ _⟩
  | true =>
  go_wp2_with fail
  refine (tooBig_any g kd f _ na sa da ta nn nc sn sc dn dc tn tc G w.heap.size _ hn).mono ?_
  rintro e w2 ⟨hbig, hw⟩
  obtain rfl := hw.symm
  rcases hbig with rfl | ⟨rfl, h3⟩
  · go_wp2
    go_ret
    exact ⟨rfl, Below.refl _ _⟩
  by_cases h0 : k < 0
  · go_wp2_with fail
    go_ret
    exact ⟨rfl, Below.refl _ _⟩
  · have h1 : (nn : Int) < k := by omega
    go_wp2_with fail
    go_ret
    exact ⟨rfl, Below.refl _ _⟩

theorem law2 (g kd f vn : ByteArray) (v1 v2 v3 : Bool) (na sa da ta : Option Addr) (nn nc sn sc dn dc tn tc : Nat) (k : Int) (G : Nat → ByteArray) (S D T : Nat → Bool) (w : World)
    (hn : Strs w.heap.size w na nn G) (hs : Bools w.heap.size w sa sn S) (hd : Bools w.heap.size w da dn D) (ht : Bools w.heap.size w ta tn T) :
    Calls Try.prog 4 #[.string g, .string kd, .string f, .slice na nn nc, .slice sa sn sc, .slice da dn dc, .slice ta tn tc, .int .i64 k, .string vn, .bool v1, .bool v2, .bool v3] w fun e w' => e = .returned (.bool true) ∧ Below w.heap.size w w' := by
  by_cases hk : k < 0 ∨ (nn : Int) < k
  · exact law2_out g kd f vn v1 v2 v3 na sa da ta nn nc sn sc dn dc tn tc k G w hk hn
  · obtain ⟨m, rfl⟩ := Int.eq_ofNat_of_zero_le (show 0 ≤ k by omega)
    exact law2_in g kd f vn v1 v2 v3 na sa da ta nn nc sn sc dn dc tn tc m G S D T w (by omega) hn hs hd ht

end Go.Proofs.Qxb6626091a
