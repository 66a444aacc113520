/-
  PLAIN LAWS on rows of digits: nothing of the program.
-/
namespace Go.Proofs.Qxb6617945a.Pl

def dig (z : Int) : Bool := decide (48 ≤ z) && decide (z ≤ 57)
/-- the value of a row of digits, from 'a' on -/
def vl (zs : List Int) (a : Int) : Int := zs.foldl (fun a z => 10 * a + (z - 48)) a
def allD (zs : List Int) : Bool := zs.all dig
/-- what parseLength accepts -/
def okN (zs : List Int) : Bool := decide (1 ≤ zs.length) && (decide (zs.length ≤ 18) && allD zs)
def num (zs : List Int) : Int := if okN zs then vl zs 0 else 0

theorem dig_iff (z : Int) : dig z = true ↔ 48 ≤ z ∧ z ≤ 57 := by simp [dig]

theorem vl_nil (a : Int) : vl [] a = a := rfl
theorem vl_append (l r : List Int) (a : Int) : vl (l ++ r) a = vl r (vl l a) := by simp [vl, List.foldl_append]
theorem vl_cons (z : Int) (r : List Int) (a : Int) : vl (z :: r) a = vl r (10 * a + (z - 48)) := rfl

theorem vl_shift (r : List Int) (a : Int) : vl r a = a * 10 ^ r.length + vl r 0 := by
  induction r generalizing a with
  | nil => simp [vl_nil]
  | cons z r ih =>
    rw [vl_cons, vl_cons, ih, ih (10 * 0 + (z - 48)), List.length_cons, Int.pow_succ]
    generalize (10 : Int) ^ r.length = P
    rw [Int.add_mul, Int.mul_comm P 10, ← Int.mul_assoc, Int.mul_comm 10 a]
    rw [Int.mul_zero, Int.zero_add, Int.add_assoc]

theorem pow_pos10 (n : Nat) : 1 ≤ (10 : Int) ^ n := by
  induction n with
  | zero => simp
  | succ n ih => rw [Int.pow_succ]; omega

theorem pow_le10 {m n : Nat} (h : m ≤ n) : (10 : Int) ^ m ≤ 10 ^ n := by
  induction n with
  | zero =>
    obtain rfl : m = 0 := by omega
    exact Int.le_refl _
  | succ n ih =>
    by_cases hm : m = n + 1
    · subst hm; exact Int.le_refl _
    · have := ih (by omega)
      have := pow_pos10 n
      rw [Int.pow_succ]
      omega

theorem vl_bd (r : List Int) (h : allD r = true) : 0 ≤ vl r 0 ∧ vl r 0 < 10 ^ r.length := by
  induction r with
  | nil => simp [vl_nil]
  | cons z r ih =>
    unfold allD at h
    rw [List.all_cons, Bool.and_eq_true] at h
    obtain ⟨h0, h1⟩ := (dig_iff z).1 h.1
    obtain ⟨i0, i1⟩ := ih h.2
    rw [vl_cons, vl_shift, List.length_cons, Int.pow_succ]
    have hp := pow_pos10 r.length
    generalize (10 : Int) ^ r.length = P at *
    have e : 10 * 0 + (z - 48) = z - 48 := by omega
    rw [e]
    have hq0 : 0 ≤ (z - 48) * P := Int.mul_nonneg (by omega) (by omega)
    have hq1 : (z - 48) * P ≤ 9 * P := Int.mul_le_mul_of_nonneg_right (by omega) (by omega)
    omega

theorem getD_lt {zs : List Int} {i : Nat} (h : i < zs.length) : zs.getD i 0 = zs[i] := by simp [List.getD, h]

theorem vl_take_succ (zs : List Int) (i : Nat) (h : i < zs.length) : vl (zs.take (i + 1)) 0 = 10 * vl (zs.take i) 0 + (zs.getD i 0 - 48) := by
  rw [List.take_succ_eq_append_getElem h, vl_append, getD_lt h]
  rfl

theorem vl_drop (zs : List Int) (i : Nat) (h : i < zs.length) : vl (zs.drop i) 0 = (zs.getD i 0 - 48) * 10 ^ (zs.length - i - 1) + vl (zs.drop (i + 1)) 0 := by
  rw [List.drop_eq_getElem_cons h, vl_cons, vl_shift, getD_lt h, List.length_drop, show zs.length - (i + 1) = zs.length - i - 1 from by omega]
  have e : 10 * 0 + (zs[i] - 48) = zs[i] - 48 := by omega
  rw [e]

theorem allD_get {zs : List Int} (h : allD zs = true) {i : Nat} (hi : i < zs.length) : 48 ≤ zs.getD i 0 ∧ zs.getD i 0 ≤ 57 := by
  have hm : zs.getD i 0 ∈ zs := by rw [getD_lt hi]; exact List.getElem_mem hi
  exact (dig_iff _).1 (List.all_eq_true.1 h _ hm)

theorem allD_take {zs : List Int} (h : allD zs = true) (i : Nat) : allD (zs.take i) = true :=
  List.all_eq_true.2 fun z hz => List.all_eq_true.1 h z (List.mem_of_mem_take hz)
theorem allD_drop {zs : List Int} (h : allD zs = true) (i : Nat) : allD (zs.drop i) = true :=
  List.all_eq_true.2 fun z hz => List.all_eq_true.1 h z (List.mem_of_mem_drop hz)

theorem allD_take_succ {zs : List Int} {i : Nat} (hi : i < zs.length) (h : allD (zs.take i) = true) (hd : dig (zs.getD i 0) = true) : allD (zs.take (i + 1)) = true := by
  unfold allD at *
  rw [List.take_succ_eq_append_getElem hi, List.all_append, h, Bool.true_and, ← getD_lt hi, List.all_cons, List.all_nil, hd]
  rfl

theorem allD_no {zs : List Int} {i : Nat} (hi : i < zs.length) (hd : dig (zs.getD i 0) = false) : allD zs = false := by
  cases h : allD zs
  · rfl
  · have hm : zs.getD i 0 ∈ zs := by rw [getD_lt hi]; exact List.getElem_mem hi
    rw [List.all_eq_true.1 h _ hm] at hd
    cases hd

theorem p17 : (10 : Int) ^ 17 = 100000000000000000 := by decide
theorem p18 : (10 : Int) ^ 18 = 1000000000000000000 := by decide

theorem okN_no {zs : List Int} (h : zs.length = 0 ∨ 18 < zs.length ∨ allD zs = false) : okN zs = false := by
  unfold okN
  rcases h with h | h | h
  · simp [h]
  · have : decide (zs.length ≤ 18) = false := by rw [decide_eq_false_iff_not]; omega
    rw [this]
    simp
  · rw [h]; simp
theorem okN_yes {zs : List Int} (h1 : 1 ≤ zs.length) (h2 : zs.length ≤ 18) (h : allD zs = true) : okN zs = true := by
  simp [okN, h1, h2, h]
theorem num_no {zs : List Int} (h : okN zs = false) : num zs = 0 := by simp [num, h]
theorem num_yes {zs : List Int} (h : okN zs = true) : num zs = vl zs 0 := by simp [num, h]

end Go.Proofs.Qxb6617945a.Pl
