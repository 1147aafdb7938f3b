/- THE PLAIN LAW of the seat: the scan of a key: no Go in sight. -/
namespace Go.Proofs.Qxb6626022a.Pl
/-- A key's byte. -/
def nb (c : Int) : Bool := decide ((97 ≤ c ∧ c ≤ 122) ∨ (65 ≤ c ∧ c ≤ 90) ∨ (48 ≤ c ∧ c ≤ 57) ∨ c = 45)
/-- A letter. -/
def al (c : Int) : Bool := decide ((97 ≤ c ∧ c ≤ 122) ∨ (65 ≤ c ∧ c ≤ 90))
/-- Byte i, as a number. -/
def by8 (a : ByteArray) (i : Nat) : Int := ((a.data.toList.getD i 0).toNat : Int)
/-- The scan from p stops at e. -/
structure IsStop (a : ByteArray) (p e : Nat) : Prop where
  lo : p ≤ e
  hi : e ≤ a.size
  all : ∀ i, p ≤ i → i < e → nb (by8 a i) = true
  fin : e < a.size → nb (by8 a e) = false

theorem IsStop.uniq {a : ByteArray} {p e f : Nat} (h : IsStop a p e) (k : IsStop a p f) : e = f := by
  rcases Nat.lt_trichotomy e f with hl | hl | hl
  · have h1 := h.fin (by have := k.hi; omega)
    have h2 := k.all e h.lo hl
    rw [h1] at h2; cases h2
  · exact hl
  · have h1 := k.fin (by have := h.hi; omega)
    have h2 := h.all f k.lo hl
    rw [h1] at h2; cases h2

theorem IsStop.again {a : ByteArray} {p e : Nat} (h : IsStop a p e) : IsStop a e e :=
  ⟨Nat.le_refl _, h.hi, fun i h1 h2 => by omega, h.fin⟩

theorem by8_eq (a : ByteArray) (i : Nat) (h : i < a.size) : by8 a i = (a[i].toNat : Int) := by
  unfold by8
  have : i < a.data.toList.length := by simpa using h
  rw [List.getD_eq_getElem?_getD, List.getElem?_eq_getElem this]
  rfl

theorem ex_list (a : ByteArray) (i j : Nat) : (a.extract i j).data.toList = (a.data.toList.drop i).take (j - i) := by
  simp [ByteArray.data_extract, Array.toList_extract, List.extract]

theorem by8_ex (a : ByteArray) (i j k : Nat) (h : i + k < j) : by8 (a.extract i j) k = by8 a (i + k) := by
  unfold by8
  rw [ex_list]
  congr 2
  simp only [List.getD_eq_getElem?_getD]
  rw [List.getElem?_take, if_pos (by omega), List.getElem?_drop]

theorem size_ex (a : ByteArray) (i j : Nat) (h : j ≤ a.size) : (a.extract i j).size = j - i := by
  rw [ByteArray.size_extract]; omega

/-- The left part was used up: the right part goes on. -/
theorem IsStop.join {a : ByteArray} {p k f : Nat} (hk : p ≤ k) (hs : k ≤ a.size) (h : IsStop (a.extract 0 k) p k) (g : IsStop (a.extract k a.size) 0 f) : IsStop a p (k + f) := by
  have s2 := size_ex a k a.size (Nat.le_refl _)
  have gh := g.hi
  refine ⟨by omega, by omega, fun i h1 h2 => ?_, fun h1 => ?_⟩
  · by_cases hi : i < k
    · have := h.all i h1 hi
      rwa [by8_ex a 0 k i (by omega), Nat.zero_add] at this
    · have := g.all (i - k) (Nat.zero_le _) (by omega)
      rwa [by8_ex a k a.size (i - k) (by omega), show k + (i - k) = i from by omega] at this
  · have := g.fin (by omega)
    rwa [by8_ex a k a.size f (by omega)] at this

/-- The left part stopped inside. -/
theorem IsStop.inside {a : ByteArray} {p k e : Nat} (hs : k ≤ a.size) (h : IsStop (a.extract 0 k) p e) (he : e ≠ k) : IsStop a p e := by
  have s2 := size_ex a 0 k hs
  have hh := h.hi
  refine ⟨h.lo, by omega, fun i h1 h2 => ?_, fun h1 => ?_⟩
  · have := h.all i h1 h2
    rwa [by8_ex a 0 k i (by omega), Nat.zero_add] at this
  · have := h.fin (by omega)
    rwa [by8_ex a 0 k e (by omega), Nat.zero_add] at this

theorem ba_ext {a b : ByteArray} (h : a.data.toList = b.data.toList) : a = b := by
  cases a; cases b
  congr 1
  exact Array.toList_inj.1 h

/-- What the two reads come to. -/
theorem ex_join (a : ByteArray) (p k f : Nat) (hp : p ≤ k) (hk : k ≤ a.size) (hf : k + f ≤ a.size) :
    a.extract p (k + f) = (a.extract 0 k).extract p k ++ (a.extract k a.size).extract 0 f := by
  apply ba_ext
  rw [ByteArray.data_append, Array.toList_append]
  simp only [ex_list, List.drop_zero, Nat.sub_zero]
  have hl : a.data.toList.length = a.size := by simp
  generalize a.data.toList = l at hl
  rw [List.drop_take, List.take_take, List.take_take, Nat.min_self, Nat.min_eq_left (by omega)]
  rw [show k + f - p = (k - p) + f from by omega, List.take_add, List.drop_drop, show p + (k - p) = k from by omega]
theorem ex_left (a : ByteArray) (p k e : Nat) (he : e ≤ k) : (a.extract 0 k).extract p e = a.extract p e := by
  apply ba_ext
  simp only [ex_list, List.drop_zero, Nat.sub_zero]
  rw [List.drop_take, List.take_take]
  congr 1
  omega
end Go.Proofs.Qxb6626022a.Pl
