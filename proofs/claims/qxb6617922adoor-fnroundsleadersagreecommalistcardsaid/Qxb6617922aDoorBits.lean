/-
  PLAIN LAWS on the bits of a set; the ids of a set. Nothing of the program.
-/
import Derived.Laws.BitsAllLaws
namespace Go.Proofs.Qxb6617922aDoor.Bt
open Go

/-- the ids below k + 1 -/
def ids (x k : Nat) : List Int := ((List.range k).filter (fun b => x.testBit b)).map (fun b : Nat => (b : Int) + 1)

theorem ids_zero (x : Nat) : ids x 0 = [] := rfl
theorem ids_yes (x k : Nat) (h : x.testBit k = true) : ids x (k + 1) = ids x k ++ [(k : Int) + 1] := by
  unfold ids
  rw [List.range_succ, List.filter_append]
  simp [h]
theorem ids_no (x k : Nat) (h : x.testBit k = false) : ids x (k + 1) = ids x k := by
  unfold ids
  rw [List.range_succ, List.filter_append]
  simp [h]
theorem ids_len (x k : Nat) : (ids x k).length ≤ k := by
  unfold ids
  rw [List.length_map]
  have := List.length_filter_le (fun b => x.testBit b) (List.range k)
  rw [List.length_range] at this
  exact this
theorem ids_none (k : Nat) : ids 0 k = [] := by
  unfold ids
  simp
theorem ids_bd (x k : Nat) : ∀ y ∈ ids x k, 0 ≤ y ∧ y ≤ (k : Int) := by
  intro y hy
  unfold ids at hy
  obtain ⟨b, hb, rfl⟩ := List.mem_map.1 hy
  have := (List.mem_filter.1 hb).1
  rw [List.mem_range] at this
  omega

theorem and_shl (x k : Nat) (hx : x < 18446744073709551616) (hk : k < 64) : bits .and .u64 (x : Int) (IntKind.u64.wrap (1 * 2 ^ k)) = ((x &&& 2 ^ k : Nat) : Int) := by
  have hp : 2 ^ k < 18446744073709551616 := by
    have : (2 : Nat) ^ k < 2 ^ 64 := Nat.pow_lt_pow_right (by decide) hk
    simpa using this
  have e : IntKind.u64.wrap (1 * 2 ^ k) = ((2 ^ k : Nat) : Int) := by
    rw [IntKind.wrap_u64]
    have : ((2 : Int) ^ k) = ((2 ^ k : Nat) : Int) := by simp
    rw [Int.one_mul, this]
    generalize 2 ^ k = P at *
    omega
  rw [e, u64_and_nat x (2 ^ k) hx hp]

theorem and_pow (x k : Nat) : (x &&& 2 ^ k != 0) = x.testBit k := by
  cases h : x.testBit k
  · have e : x &&& 2 ^ k = 0 := by
      apply Nat.eq_of_testBit_eq
      intro i
      rw [Nat.testBit_and, Nat.testBit_two_pow, Nat.zero_testBit]
      by_cases hi : k = i
      · subst hi; rw [h]; rfl
      · simp [hi]
    rw [e]
    rfl
  · rw [bne_iff_ne]
    intro e
    have := congrArg (fun n => n.testBit k) e
    simp [Nat.testBit_and, h] at this

theorem has_eq (x k : Nat) (hx : x < 18446744073709551616) (hk : k < 64) : (bits .and .u64 (x : Int) (IntKind.u64.wrap (1 * 2 ^ k)) != 0) = x.testBit k := by
  rw [and_shl x k hx hk, ← and_pow]
  cases h : x &&& 2 ^ k != 0
  · simp at h ⊢; exact h
  · simp at h ⊢; exact h

theorem shr_eq (x k : Nat) (hx : x < 18446744073709551616) : (bits .and .u64 ((x : Int) / 2 ^ k) 1 == 1) = x.testBit k := by
  have e : ((x : Int) / 2 ^ k) = ((x / 2 ^ k : Nat) : Int) := by simp
  have hlt : x / 2 ^ k < 18446744073709551616 := Nat.lt_of_le_of_lt (Nat.div_le_self _ _) hx
  rw [e, show (1 : Int) = ((1 : Nat) : Int) from rfl, u64_and_nat _ 1 hlt (by decide), Nat.and_one_is_mod, Nat.testBit_eq_decide_div_mod_eq]
  generalize x / 2 ^ k % 2 = m
  rw [Bool.eq_iff_iff]
  simp
  omega

end Go.Proofs.Qxb6617922aDoor.Bt
