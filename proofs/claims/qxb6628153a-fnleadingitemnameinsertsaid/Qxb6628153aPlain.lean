/- THE PLAIN LAW of the seat: the leading name of a list of bytes: no Go in sight. -/
namespace Go.Proofs.Qxb6628153a.Pl
/-- A letter. -/
def le (c : Int) : Bool := decide ((97 ≤ c ∧ c ≤ 122) ∨ (65 ≤ c ∧ c ≤ 90))
/-- A name's byte. -/
def nb (c : Int) : Bool := le c || decide ((48 ≤ c ∧ c ≤ 57) ∨ c = 95)
def leB (b : UInt8) : Bool := le (b.toNat : Int)
def nbB (b : UInt8) : Bool := nb (b.toNat : Int)
theorem nb_le {c : Int} (h : le c = true) : nb c = true := by simp [nb, h]
theorem nbB_le {c : UInt8} (h : leB c = true) : nbB c = true := nb_le h

/-- The run of name bytes ahead. -/
def run (l : List UInt8) : List UInt8 := l.takeWhile nbB
/-- The leading name. -/
def lead : List UInt8 → List UInt8
  | [] => []
  | c :: r => if leB c then c :: run r else []
/-- As strings. -/
def leadS (s : ByteArray) : ByteArray := ⟨(lead s.data.toList).toArray⟩
theorem leadS_data (s : ByteArray) : (leadS s).data.toList = lead s.data.toList := by simp [leadS]

theorem ba_ext {a b : ByteArray} (h : a.data.toList = b.data.toList) : a = b := by
  cases a; cases b
  congr 1
  exact Array.toList_inj.1 h
theorem size_eq (s : ByteArray) : s.size = s.data.toList.length := by simp
theorem app_data (a b : ByteArray) : (a ++ b).data.toList = a.data.toList ++ b.data.toList := by
  rw [ByteArray.data_append, Array.toList_append]
theorem ex_data (a : ByteArray) (i j : Nat) : (a.extract i j).data.toList = (a.data.toList.drop i).take (j - i) := by
  simp [ByteArray.data_extract, Array.toList_extract, List.extract]
theorem ex_pre (a : ByteArray) (j : Nat) : (a.extract 0 j).data.toList = a.data.toList.take j := by
  rw [ex_data]; simp
theorem ex_suf (a : ByteArray) (i : Nat) : (a.extract i a.size).data.toList = a.data.toList.drop i := by
  rw [ex_data, List.take_of_length_le]
  rw [List.length_drop, ← size_eq]
  exact Nat.le_refl _
theorem get_data (s : ByteArray) (i : Nat) (h : i < s.size) : s.data.toList[i]? = some s[i] := by
  rw [List.getElem?_eq_getElem (by simpa using h)]
  rfl

theorem run_length_le (l : List UInt8) : (run l).length ≤ l.length := by
  unfold run; exact (List.takeWhile_prefix _).length_le
theorem run_prefix (l : List UInt8) : run l <+: l := List.takeWhile_prefix _
theorem run_cons_yes {c : UInt8} {r : List UInt8} (h : nbB c = true) : run (c :: r) = c :: run r := by simp [run, h]
theorem run_cons_no {c : UInt8} {r : List UInt8} (h : nbB c = false) : run (c :: r) = [] := by simp [run, h]
theorem run_all (l : List UInt8) : ∀ b ∈ run l, nbB b = true := by
  induction l with
  | nil => simp [run]
  | cons c r ih =>
    cases h : nbB c with
    | true => rw [run_cons_yes h]; intro b hb; rcases List.mem_cons.1 hb with rfl | hb; exact h; exact ih b hb
    | false => rw [run_cons_no h]; simp
/-- Behind the run stands no name byte. -/
theorem run_stop (l : List UInt8) (c : UInt8) (h : l[(run l).length]? = some c) : nbB c = false := by
  induction l with
  | nil => simp at h
  | cons d r ih =>
    cases hd : nbB d with
    | true => rw [run_cons_yes hd] at h; exact ih (by simpa using h)
    | false => rw [run_cons_no hd] at h; simp at h; rw [← h]; exact hd
/-- What the loop finds is the run. -/
theorem run_eq_take (l : List UInt8) (j : Nat) (hj : j ≤ l.length) (h1 : ∀ i c, i < j → l[i]? = some c → nbB c = true) (h2 : ∀ c, l[j]? = some c → nbB c = false) : run l = l.take j := by
  induction l generalizing j with
  | nil => simp [run]
  | cons d r ih =>
    cases j with
    | zero => rw [run_cons_no (h2 d (by simp))]; simp
    | succ j =>
      rw [run_cons_yes (h1 0 d (by omega) (by simp)), List.take_succ_cons, ih j (by simpa using hj) (fun i c hi hc => h1 (i + 1) c (by omega) (by simpa using hc)) (fun c hc => h2 c (by simpa using hc))]
theorem run_app_stop (l m : List UInt8) (h : (run l).length < l.length) : run (l ++ m) = run l := by
  induction l with
  | nil => simp at h
  | cons d r ih =>
    cases hd : nbB d with
    | true => rw [run_cons_yes hd] at h ⊢; rw [List.cons_append, run_cons_yes hd, ih (by simpa using h)]
    | false => rw [run_cons_no hd, List.cons_append, run_cons_no hd]
theorem run_app_all (l m : List UInt8) (h : (run l).length = l.length) : run (l ++ m) = l ++ run m := by
  induction l with
  | nil => rfl
  | cons d r ih =>
    cases hd : nbB d with
    | true => rw [run_cons_yes hd] at h; rw [List.cons_append, run_cons_yes hd, ih (by simpa using h), List.cons_append]
    | false => rw [run_cons_no hd] at h; simp at h

theorem lead_letter {c : UInt8} {r : List UInt8} (h : leB c = true) : lead (c :: r) = c :: run r := by simp [lead, h]
theorem lead_other {c : UInt8} {r : List UInt8} (h : leB c = false) : lead (c :: r) = [] := by simp [lead, h]
theorem lead_prefix (l : List UInt8) : lead l <+: l := by
  cases l with
  | nil => simp [lead]
  | cons c r =>
    cases h : leB c with
    | true => rw [lead_letter h]; exact List.cons_prefix_cons.2 ⟨rfl, run_prefix r⟩
    | false => rw [lead_other h]; exact List.nil_prefix
theorem lead_length_le (l : List UInt8) : (lead l).length ≤ l.length := (lead_prefix l).length_le
/-- A name: a letter, then name bytes. -/
def IsNm (l : List UInt8) : Prop := ∃ c r, l = c :: r ∧ leB c = true ∧ ∀ b ∈ r, nbB b = true
theorem lead_name (l : List UInt8) (h : lead l ≠ []) : IsNm (lead l) := by
  cases l with
  | nil => simp [lead] at h
  | cons c r =>
    by_cases hc : leB c = true
    · have e : lead (c :: r) = c :: run r := by simp [lead, hc]
      rw [e]
      exact ⟨c, run r, rfl, hc, run_all r⟩
    · simp [lead, hc] at h
/-- An empty name: the first byte is no letter. -/
theorem lead_nil (l : List UInt8) (h : lead l = []) (c : UInt8) (hc : l[0]? = some c) : leB c = false := by
  cases l with
  | nil => simp at hc
  | cons d r =>
    simp at hc
    subst hc
    cases hd : leB d with
    | false => rfl
    | true => rw [lead_letter hd] at h; cases h
/-- Behind a name stands no name byte. -/
theorem lead_stop (l : List UInt8) (h : lead l ≠ []) (c : UInt8) (hc : l[(lead l).length]? = some c) : nbB c = false := by
  cases l with
  | nil => simp at hc
  | cons d r =>
    cases hd : leB d with
    | false => rw [lead_other hd] at h; exact absurd rfl h
    | true => rw [lead_letter hd] at hc; exact run_stop r c (by simpa using hc)
theorem lead_take (c : UInt8) (r : List UInt8) (j : Nat) (hc : leB c = true) (hj : j ≤ r.length) (h1 : ∀ i b, i < j → r[i]? = some b → nbB b = true) (h2 : ∀ b, r[j]? = some b → nbB b = false) : lead (c :: r) = (c :: r).take (j + 1) := by
  rw [lead_letter hc, List.take_succ_cons, run_eq_take r j hj h1 h2]

/-! ### the join -/
theorem join_stop (s t : List UInt8) (h : (lead s).length < s.length) : lead (s ++ t) = lead s := by
  cases s with
  | nil => simp at h
  | cons d r =>
    cases hd : leB d with
    | false => rw [List.cons_append, lead_other hd, lead_other hd]
    | true =>
      rw [lead_letter hd] at h ⊢
      rw [List.cons_append, lead_letter hd, run_app_stop r t (by simpa using h)]
theorem join_all (s t : List UInt8) (h : (lead s).length = s.length) (hs : s ≠ []) : lead (s ++ t) = s ++ run t := by
  cases s with
  | nil => exact absurd rfl hs
  | cons d r =>
    cases hd : leB d with
    | false => rw [lead_other hd] at h; simp at h
    | true =>
      rw [lead_letter hd] at h
      rw [List.cons_append, lead_letter hd, run_app_all r t (by simpa using h), List.cons_append]
theorem lead_A (t : List UInt8) : lead (65 :: t) = 65 :: run t := lead_letter (by decide)

/-! ### a byte put in -/
theorem run_ins (r : List UInt8) (c : UInt8) (i : Nat) (hi : i ≤ (run r).length) :
    run (r.take i ++ c :: r.drop i) = if nbB c then (run r).take i ++ c :: (run r).drop i else (run r).take i := by
  induction r generalizing i with
  | nil =>
    cases h : nbB c with
    | true => simp [run, h]
    | false => simp [run, h]
  | cons d r ih =>
    cases i with
    | zero =>
      cases h : nbB c with
      | true => simp [run_cons_yes h]
      | false => simp [run_cons_no h]
    | succ i =>
      cases hd : nbB d with
      | false => rw [run_cons_no hd] at hi; simp at hi
      | true =>
        rw [run_cons_yes hd] at hi ⊢
        rw [List.take_succ_cons, List.drop_succ_cons, List.cons_append, run_cons_yes hd, ih i (by simpa using hi)]
        split <;> simp
theorem run_ins_past (r : List UInt8) (c : UInt8) (i : Nat) (hi : (run r).length < i) (hr : i ≤ r.length) : run (r.take i ++ c :: r.drop i) = run r := by
  induction r generalizing i with
  | nil => simp at hr; omega
  | cons d r ih =>
    cases i with
    | zero => omega
    | succ i =>
      rw [List.take_succ_cons, List.drop_succ_cons, List.cons_append]
      cases hd : nbB d with
      | true =>
        rw [run_cons_yes hd] at hi ⊢
        rw [run_cons_yes hd, ih i (by simpa using hi) (by simpa using hr)]
      | false => rw [run_cons_no hd, run_cons_no hd]
end Go.Proofs.Qxb6628153a.Pl
