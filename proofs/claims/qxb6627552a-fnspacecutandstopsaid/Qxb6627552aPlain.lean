/- THE PLAIN LAW of the seat: the scan of white space: no Go in sight. -/
namespace Go.Proofs.Qxb6627552a.Pl
/-- White space of JSON. -/
def sp (c : Int) : Bool := decide (c = 32 ∨ c = 9 ∨ c = 10 ∨ c = 13)
/-- The scan from p over n bytes Z lands at e. -/
structure IsSp (n : Nat) (Z : Nat → Int) (p e : Nat) : Prop where
  lo : p ≤ e
  hi : e ≤ n ∨ e = p
  all : ∀ i, p ≤ i → i < e → sp (Z i) = true
  fin : e < n → sp (Z e) = false

theorem IsSp.uniq {n : Nat} {Z : Nat → Int} {p e f : Nat} (h : IsSp n Z p e) (k : IsSp n Z p f) : e = f := by
  rcases Nat.lt_trichotomy e f with hl | hl | hl
  · have h1 := h.fin (by have := k.hi; have := h.lo; omega)
    have h2 := k.all e h.lo hl
    rw [h1] at h2; cases h2
  · exact hl
  · have h1 := k.fin (by have := h.hi; have := k.lo; omega)
    have h2 := h.all f k.lo hl
    rw [h1] at h2; cases h2

theorem IsSp.past {n : Nat} {Z : Nat → Int} {p : Nat} (h : n ≤ p) : IsSp n Z p p := ⟨Nat.le_refl _, .inr rfl, fun i h1 h2 => by omega, fun h1 => by omega⟩

/-- A start inside the run lands where the run lands. -/
theorem IsSp.within {n : Nat} {Z : Nat → Int} {p e j : Nat} (h : IsSp n Z p e) (h1 : p ≤ j) (h2 : j ≤ e) : IsSp n Z j e :=
  ⟨h2, by have := h.hi; omega, fun i a b => h.all i (by omega) b, h.fin⟩

theorem IsSp.step {n : Nat} {Z : Nat → Int} {u s : Nat} (h : IsSp n Z (u + 1) s) (hz : sp (Z u) = true) (hn : u < n) : IsSp n Z u s :=
  ⟨by have := h.lo; omega, by have := h.hi; omega, fun i a b => by
    by_cases e : i = u
    · rw [e]; exact hz
    · exact h.all i (by omega) b, h.fin⟩
theorem IsSp.stop {n : Nat} {Z : Nat → Int} {u : Nat} (hz : sp (Z u) = false) : IsSp n Z u u :=
  ⟨Nat.le_refl _, .inr rfl, fun i a b => by omega, fun _ => hz⟩

/-- The part before k did not run out. -/
theorem IsSp.inside {n : Nat} {Z : Nat → Int} {p k e : Nat} (hk : k ≤ n) (h : IsSp k Z p e) (he : e < k) : IsSp n Z p e :=
  ⟨h.lo, .inl (by omega), h.all, fun _ => h.fin he⟩
/-- The part before k ran out: the part behind it goes on. -/
theorem IsSp.join {n : Nat} {Z : Nat → Int} {p k e f : Nat} (hp : p ≤ k) (hk : k ≤ n) (h : IsSp k Z p e) (he : ¬ e < k) (g : IsSp (n - k) (fun i => Z (k + i)) 0 f) : IsSp n Z p (k + f) := by
  have e1 : e = k := by have := h.hi; omega
  subst e1
  have gh := g.hi
  refine ⟨by omega, .inl (by omega), fun i h1 h2 => ?_, fun h1 => g.fin (by omega)⟩
  by_cases hi : i < e
  · exact h.all i h1 hi
  · have : sp (Z (e + (i - e))) = true := g.all (i - e) (Nat.zero_le _) (by omega)
    rwa [show e + (i - e) = i from by omega] at this
/-- A start behind k. -/
theorem IsSp.behind {n : Nat} {Z : Nat → Int} {p k f : Nat} (hp : k ≤ p) (hk : k ≤ n) (g : IsSp (n - k) (fun i => Z (k + i)) (p - k) f) : IsSp n Z p (k + f) := by
  have gh := g.hi
  have gl := g.lo
  refine ⟨by omega, by omega, fun i h1 h2 => ?_, fun h1 => g.fin (by omega)⟩
  have : sp (Z (k + (i - k))) = true := g.all (i - k) (by omega) (by omega)
  rwa [show k + (i - k) = i from by omega] at this
end Go.Proofs.Qxb6627552a.Pl
