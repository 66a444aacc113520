/-
  PLAIN LAWS: rows of digits padded on the left to eighteen places compare as their values. Nothing of the program.
-/
import Derived.Test.Qxb6617945aPlain
namespace Go.Proofs.Qxb6617945a.Pl

/-- padded on the left with '0' to eighteen places -/
def pz (zs : List Int) : List Int := List.replicate (18 - zs.length) 48 ++ zs

theorem vl_zeros (m : Nat) : vl (List.replicate m 48) 0 = 0 := by
  induction m with
  | zero => rfl
  | succ m ih => rw [List.replicate_succ, vl_cons, show (10 * 0 + (48 - 48) : Int) = 0 from by decide]; exact ih

theorem vl_pz (zs : List Int) : vl (pz zs) 0 = vl zs 0 := by
  unfold pz
  rw [vl_append, vl_zeros]

theorem pz_len {zs : List Int} (h : zs.length ≤ 18) : (pz zs).length = 18 := by
  unfold pz
  rw [List.length_append, List.length_replicate]
  omega

theorem pz_allD {zs : List Int} (h : allD zs = true) : allD (pz zs) = true := by
  unfold allD pz at *
  rw [List.all_append, h, Bool.and_true]
  refine List.all_eq_true.2 fun z hz => ?_
  rw [List.eq_of_mem_replicate hz]
  rfl

theorem pz_lo {zs : List Int} {i : Nat} (h : i < 18 - zs.length) : (pz zs).getD i 0 = 48 := by
  unfold pz List.getD
  rw [List.getElem?_append_left (by rw [List.length_replicate]; exact h), List.getElem?_replicate, if_pos h]
  rfl
theorem pz_hi {zs : List Int} {i : Nat} (h : 18 - zs.length ≤ i) : (pz zs).getD i 0 = zs.getD (i - (18 - zs.length)) 0 := by
  unfold pz List.getD
  rw [List.getElem?_append_right (by rw [List.length_replicate]; exact h), List.length_replicate]

theorem vl_parts (p : List Int) (i : Nat) (h : i < p.length) : vl p 0 = vl (p.take i) 0 * 10 ^ (p.length - i) + ((p.getD i 0 - 48) * 10 ^ (p.length - i - 1) + vl (p.drop (i + 1)) 0) := by
  conv => lhs; rw [← List.take_append_drop i p, vl_append, vl_shift, List.length_drop]
  rw [vl_drop p i h]

theorem vl_lt {p q : List Int} {n i : Nat} (hp : p.length = n) (hq : q.length = n) (ap : allD p = true) (aq : allD q = true) (hi : i < n) (ht : p.take i = q.take i) (hlt : p.getD i 0 < q.getD i 0) : vl p 0 < vl q 0 := by
  rw [vl_parts p i (by omega), vl_parts q i (by omega), ht, hp, hq]
  have b1 := (vl_bd _ (allD_drop ap (i + 1))).2
  have b2 := (vl_bd _ (allD_drop aq (i + 1))).1
  rw [List.length_drop, hp, show n - (i + 1) = n - i - 1 from by omega] at b1
  have hP := pow_pos10 (n - i - 1)
  generalize (10 : Int) ^ (n - i - 1) = P at *
  generalize vl (p.drop (i + 1)) 0 = r1 at *
  generalize vl (q.drop (i + 1)) 0 = r2 at *
  generalize vl (q.take i) 0 * 10 ^ (n - i) = X
  generalize p.getD i 0 = x at *
  generalize q.getD i 0 = y at *
  have h1 : (x - 48 + 1) * P ≤ (y - 48) * P := Int.mul_le_mul_of_nonneg_right (by omega) (by omega)
  have h2 : (x - 48 + 1) * P = (x - 48) * P + P := by rw [Int.add_mul, Int.one_mul]
  omega

/-- what the comparison knows behind i places -/
def St (p q : List Int) (i : Nat) (t : Int) : Prop := (t = 0 ∧ p.take i = q.take i) ∨ (t = -1 ∧ vl p 0 < vl q 0) ∨ (t = 1 ∧ vl q 0 < vl p 0)

theorem St.same {p q : List Int} {i : Nat} (hp : i < p.length) (hq : i < q.length) (ht : p.take i = q.take i) (h : p.getD i 0 = q.getD i 0) : p.take (i + 1) = q.take (i + 1) := by
  rw [List.take_succ_eq_append_getElem hp, List.take_succ_eq_append_getElem hq, ht, ← getD_lt hp, ← getD_lt hq, h]

end Go.Proofs.Qxb6617945a.Pl
