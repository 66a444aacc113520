/-
  PLAIN LAWS: lists and numbers alone: nothing of the program.
-/
namespace Go.Proofs.Qxb6617909a.Pl

/-- JSON whitespace. -/
def ws (z : Int) : Bool := z == 32 || (z == 9 || (z == 10 || z == 13))

/-- 'j' is the first place from 'p' on whose byte is no whitespace, or the end. -/
structure Skips (zs : List Int) (p j : Nat) : Prop where
  le : p ≤ j
  top : j ≤ zs.length
  all : ∀ i, p ≤ i → i < j → ws (zs.getD i 0) = true
  stop : j < zs.length → ws (zs.getD j 0) = false

theorem Skips.same {zs : List Int} {p j j' : Nat} (h : Skips zs p j) (h' : Skips zs p j') : j = j' := by
  rcases Nat.lt_trichotomy j j' with hlt | heq | hgt
  · have a := h'.all j h.le hlt
    have b := h.stop (Nat.lt_of_lt_of_le hlt h'.top)
    rw [a] at b
    cases b
  · exact heq
  · have a := h.all j' h'.le hgt
    have b := h'.stop (Nat.lt_of_lt_of_le hgt h.top)
    rw [a] at b
    cases b

theorem getD_drop (zs : List Int) (k i : Nat) : (zs.drop k).getD i 0 = zs.getD (k + i) 0 := by
  simp [List.getD]

/-- Over the data cut at k, every place is moved by k. -/
theorem Skips.cut {zs : List Int} {p j k : Nat} (hk : k ≤ p) (h : Skips zs p j) : Skips (zs.drop k) (p - k) (j - k) := by
  have := h.le
  have := h.top
  refine ⟨by omega, by simp; omega, ?_, ?_⟩
  · intro i h1 h2
    rw [getD_drop]
    exact h.all _ (by omega) (by omega)
  · intro h1
    rw [getD_drop, show k + (j - k) = j from by omega]
    refine h.stop ?_
    simp at h1
    omega

theorem Skips.later {zs : List Int} {p p' j : Nat} (h : Skips zs p j) (hp : p ≤ p') (hj : p' ≤ j) : Skips zs p' j :=
  ⟨hj, h.top, fun i h1 h2 => h.all i (by omega) h2, h.stop⟩

/-- Is the first item's place 'j' the closing bracket? 'i': the opening one's place. -/
def fin (zs : List Int) (i j : Nat) : Bool := decide (j < zs.length) && zs.getD j 0 == zs.getD i 0 + 2

theorem fin_cut (zs : List Int) (i j k : Nat) (hi : k ≤ i) (hj : k ≤ j) : fin (zs.drop k) (i - k) (j - k) = fin zs i j := by
  unfold fin
  rw [getD_drop, getD_drop, show k + (j - k) = j from by omega, show k + (i - k) = i from by omega]
  congr 1
  simp
  omega

/-- Where firstItem says that the first item begins, or the value ends. -/
def at1 (zs : List Int) (i j : Nat) : Nat := if fin zs i j then j + 1 else j

end Go.Proofs.Qxb6617909a.Pl
