/-
  PLAIN LAWS: where ' ranked=' first stands in the line; the line without its list.
-/
import Derived.Test.Qxb6617922aDoorPlain
namespace Go.Proofs.Qxb6617922aDoor.Pl
open Go

def c1 : List UInt8 := [107, 105, 110, 100, 61, 114, 97, 110, 107, 105, 110, 103, 32, 108, 101, 97, 100, 101, 114, 61]
def c2 : List UInt8 := [32, 108, 98, 111, 117, 110, 100, 61]
def c3 : List UInt8 := [32, 114, 97, 110, 107, 101, 100, 61]
def c4 : List UInt8 := [32, 115, 61]
def c5 : List UInt8 := [32, 119, 61]

/-- the line of a ranking message with the list's text L -/
def line (ld lb s v : Int) (L : List UInt8) : List UInt8 := ((((((((c1 ++ Lib.itoa ld) ++ c2) ++ Lib.itoa lb) ++ c3) ++ L) ++ c4) ++ Lib.itoa s) ++ c5) ++ Lib.itoa v
def lineA (ld lb : Int) : List UInt8 := ((c1 ++ Lib.itoa ld) ++ c2) ++ Lib.itoa lb
def lineB (s v : Int) : List UInt8 := ((c4 ++ Lib.itoa s) ++ c5) ++ Lib.itoa v

theorem line_eq (ld lb s v : Int) (L : List UInt8) : line ld lb s v L = (lineA ld lb ++ c3) ++ (L ++ lineB s v) := by
  unfold line lineA lineB
  simp only [List.append_assoc]

theorem hit2 {Z : List UInt8} {j : Nat} {x y : UInt8} {r : List UInt8} (h : (Z.drop j).take (r.length + 2) = x :: y :: r) : Z[j]? = some x ∧ Z[j + 1]? = some y := by
  have h0 := congrArg (fun l => l[0]?) h
  have h1 := congrArg (fun l => l[1]?) h
  simp only [List.getElem?_take, List.getElem?_drop, List.getElem?_cons_zero, List.getElem?_cons_succ] at h0 h1
  rw [if_pos (by omega)] at h0 h1
  exact ⟨by simpa using h0, h1⟩

theorem no32 (x : Int) (i : Nat) (h : (Lib.itoa x)[i]? = some 32) : False := by
  have hm := List.mem_of_getElem? h
  exact (itoa_no44 x 32 hm).2 rfl

theorem c1_hit : ∀ i : Fin 20, c1[i.val]? = some 32 → i.val = 12 := by decide
theorem c2_hit : ∀ i : Fin 8, c2[i.val]? = some 32 → i.val = 0 := by decide

theorem noHit (ld lb : Int) (R : List UInt8) (j : Nat) (hj : j < (lineA ld lb).length) : ((lineA ld lb ++ R).drop j).take 8 ≠ c3 := by
  intro h
  obtain ⟨h0, h1⟩ := hit2 (r := [97, 110, 107, 101, 100, 61]) h
  unfold lineA at h0 h1 hj
  simp only [List.append_assoc] at h0 h1 hj
  simp only [List.length_append] at hj
  have l1 : c1.length = 20 := rfl
  have l2 : c2.length = 8 := rfl
  by_cases a1 : j < 20
  · rw [List.getElem?_append_left (by omega)] at h0
    have e := c1_hit ⟨j, a1⟩ h0
    simp only at e
    subst e
    rw [List.getElem?_append_left (by omega)] at h1
    exact absurd h1 (by decide)
  rw [List.getElem?_append_right (by omega)] at h0 h1
  by_cases a2 : j - 20 < (Lib.itoa ld).length
  · rw [List.getElem?_append_left (by omega)] at h0
    exact no32 _ _ h0
  rw [List.getElem?_append_right (by omega)] at h0 h1
  rw [l1] at h0 h1
  by_cases a3 : j - 20 - (Lib.itoa ld).length < 8
  · rw [List.getElem?_append_left (by omega)] at h0
    have e := c2_hit ⟨_, a3⟩ h0
    simp only at e
    rw [List.getElem?_append_left (by omega), show j + 1 - 20 - (Lib.itoa ld).length = 1 from by omega] at h1
    exact absurd h1 (by decide)
  · rw [List.getElem?_append_right (by omega), List.getElem?_append_left (by omega)] at h0
    exact no32 _ _ h0

theorem hitAt (ld lb : Int) (R : List UInt8) : ((lineA ld lb ++ (c3 ++ R)).drop (lineA ld lb).length).take 8 = c3 := by
  rw [List.drop_left]
  rfl

end Go.Proofs.Qxb6617922aDoor.Pl
