/-
  PLAIN LAWS on decimals, comma lists and texts: nothing of the program.
-/
import Derived.Lib.ItoaNum
import Derived.Lib.Join
namespace Go.Proofs.Qxb6617922aDoor.Pl
open Go

/-- the value of a row of digits, from 'a' on -/
def val (ds : List UInt8) (a : Nat) : Nat := ds.foldl (fun a c => a * 10 + (c.toNat - 48)) a

theorem val_nil (a : Nat) : val [] a = a := rfl
theorem val_append (l r : List UInt8) (a : Nat) : val (l ++ r) a = val r (val l a) := by simp [val, List.foldl_append]
theorem val_snoc (l : List UInt8) (c : UInt8) (a : Nat) : val (l ++ [c]) a = val l a * 10 + (c.toNat - 48) := by rw [val_append]; rfl
theorem val_ge (l : List UInt8) (a : Nat) : a ≤ val l a := by
  induction l generalizing a with
  | nil => exact Nat.le_refl _
  | cons c r ih =>
    have := ih (a * 10 + (c.toNat - 48))
    show a ≤ val r (a * 10 + (c.toNat - 48))
    omega

def dig (c : UInt8) : Prop := 48 ≤ c.toNat ∧ c.toNat ≤ 57

theorem ofNat_dig (d : Nat) (h : d < 10) : (UInt8.ofNat (48 + d)).toNat = 48 + d := by
  simp; omega

theorem dd_dig (u : Nat) : ∀ c ∈ Lib.decDigits u, dig c := by
  induction u using Nat.strongRecOn with
  | _ u ih =>
    rw [Lib.decDigits]
    split
    · intro c hc
      rw [List.mem_singleton] at hc
      subst hc
      have := ofNat_dig u (by omega)
      unfold dig
      omega
    · intro c hc
      rcases List.mem_append.1 hc with h | h
      · exact ih _ (by omega) c h
      · rw [List.mem_singleton] at h
        subst h
        have := ofNat_dig (u % 10) (by omega)
        unfold dig
        omega

theorem dd_ne (u : Nat) : Lib.decDigits u ≠ [] := by
  rw [Lib.decDigits]
  split <;> simp

theorem dd_val (u : Nat) : val (Lib.decDigits u) 0 = u := by
  induction u using Nat.strongRecOn with
  | _ u ih =>
    rw [Lib.decDigits]
    split
    · rename_i h
      have := ofNat_dig u h
      show 0 * 10 + ((UInt8.ofNat (48 + u)).toNat - 48) = u
      omega
    · rw [val_snoc, ih _ (by omega), ofNat_dig _ (by omega)]
      omega

theorem dd_head (u : Nat) (h : 1 ≤ u) : ∀ c r, Lib.decDigits u = c :: r → c.toNat ≠ 48 := by
  induction u using Nat.strongRecOn with
  | _ u ih =>
    intro c r
    rw [Lib.decDigits]
    split
    · rename_i h'
      intro e
      have := ofNat_dig u h'
      injection e with e1 _
      subst e1
      omega
    · intro e
      rcases hd : Lib.decDigits (u / 10) with _ | ⟨c', r'⟩
      · exact absurd hd (dd_ne _)
      · rw [hd] at e
        injection e with e1 _
        subst e1
        exact ih (u / 10) (by omega) (by omega) c' r' hd

theorem dd_len (u : Nat) (h : u < 18446744073709551616) : (Lib.decDigits u).length ≤ 20 := by
  rw [Lib.decDigits_length]
  have h1 := Lib.nDigits_pos u
  rcases Nat.lt_or_ge 20 (Lib.nDigits u) with hgt | hle
  · exfalso
    have : ∀ k v, k + 1 ≤ Lib.nDigits v → 10 ^ k ≤ v ∨ k = 0 := by
      intro k
      induction k with
      | zero => intro v _; exact .inr rfl
      | succ k ih =>
        intro v hv
        by_cases hs : v < 10
        · rw [Lib.nDigits_small hs] at hv; omega
        · rw [Lib.nDigits_big hs] at hv
          rcases ih (v / 10) (by omega) with h2 | h2
          · refine .inl ?_
            rw [Nat.pow_succ]
            omega
          · subst h2
            refine .inl ?_
            simp
            omega
    rcases this 20 u (by omega) with h2 | h2
    · have : (10 : Nat) ^ 20 = 100000000000000000000 := by decide
      omega
    · omega
  · exact hle

/-- the sign and the digits of an int's text -/
def sgn (x : Int) : List UInt8 := if x < 0 then [45] else []
def dgs (x : Int) : List UInt8 := Lib.decDigits x.natAbs

theorem itoa_eq (x : Int) : Lib.itoa x = sgn x ++ dgs x := by
  unfold Lib.itoa sgn dgs
  split
  · rfl
  · have : x.toNat = x.natAbs := by omega
    rw [this]; rfl

theorem itoa_no44 (x : Int) : ∀ c ∈ Lib.itoa x, c.toNat ≠ 44 ∧ c.toNat ≠ 32 := by
  intro c hc
  rw [itoa_eq] at hc
  rcases List.mem_append.1 hc with h | h
  · unfold sgn at h
    split at h
    · simp at h; subst h; decide
    · simp at h
  · have := dd_dig _ c h
    unfold dig at this
    omega

theorem itoa_ne (x : Int) : Lib.itoa x ≠ [] := by
  rw [itoa_eq]
  have := dd_ne x.natAbs
  intro e
  exact this (List.append_eq_nil_iff.1 e).2

theorem itoa_len (x : Int) (h0 : -9223372036854775808 ≤ x) (h1 : x ≤ 9223372036854775807) : (Lib.itoa x).length ≤ 21 := by
  rw [itoa_eq, List.length_append]
  have := dd_len x.natAbs (by omega)
  unfold dgs
  have : (sgn x).length ≤ 1 := by unfold sgn; split <;> simp
  omega

/-- a list's text -/
def cl (xs : List Int) : List UInt8 := Lib.join (xs.map Lib.itoa) [44]

theorem cl_nil : cl [] = [] := rfl
theorem cl_one (x : Int) : cl [x] = Lib.itoa x := by simp [cl, Lib.join_one]
theorem cl_cons (x : Int) (r : List Int) : cl (x :: r) = Lib.itoa x ++ Lib.joinTail [44] (r.map Lib.itoa) := by simp [cl, Lib.join_cons]

theorem joinTail_append (sep : List UInt8) (l r : List (List UInt8)) : Lib.joinTail sep (l ++ r) = Lib.joinTail sep l ++ Lib.joinTail sep r := by simp [Lib.joinTail]
theorem joinTail_cons (sep x : List UInt8) (r : List (List UInt8)) : Lib.joinTail sep (x :: r) = sep ++ (x ++ Lib.joinTail sep r) := by simp [Lib.joinTail]

theorem cl_append (l r : List Int) (h : l ≠ []) : cl (l ++ r) = cl l ++ Lib.joinTail [44] (r.map Lib.itoa) := by
  rcases l with _ | ⟨x, l⟩
  · exact absurd rfl h
  · rw [List.cons_append, cl_cons, cl_cons, List.map_append, joinTail_append, List.append_assoc]

/-- what stands ahead of the i-th number: the comma, but for the first -/
def sepAt (i : Nat) : List UInt8 := if i = 0 then [] else [44]
/-- what stands behind the i-th number -/
def rest (xs : List Int) (i : Nat) : List UInt8 := Lib.joinTail [44] ((xs.drop (i + 1)).map Lib.itoa)

theorem take_ne {xs : List Int} {i : Nat} (hi : i < xs.length) (h0 : i ≠ 0) : xs.take i ≠ [] := by
  intro e
  have := congrArg List.length e
  rw [List.length_take, List.length_nil] at this
  omega

theorem cl_split (xs : List Int) (i : Nat) (hi : i < xs.length) : cl xs = cl (xs.take i) ++ (sepAt i ++ (Lib.itoa (xs.getD i 0) ++ rest xs i)) := by
  have hd : xs.drop i = xs.getD i 0 :: xs.drop (i + 1) := by
    rw [List.drop_eq_getElem_cons hi]
    simp [List.getD, hi]
  have hx : xs = xs.take i ++ xs.drop i := (List.take_append_drop i xs).symm
  by_cases h0 : i = 0
  · subst h0
    conv => lhs; rw [hx, hd]
    simp [cl_nil, sepAt, cl_cons, rest]
  · conv => lhs; rw [hx]
    rw [cl_append _ _ (take_ne hi h0), hd, List.map_cons, joinTail_cons]
    simp [sepAt, h0, rest]

theorem cl_take_succ (xs : List Int) (i : Nat) (hi : i < xs.length) : (cl (xs.take (i + 1))).length = (cl (xs.take i)).length + (sepAt i).length + (Lib.itoa (xs.getD i 0)).length := by
  have ht : xs.take (i + 1) = xs.take i ++ [xs.getD i 0] := by
    rw [List.take_succ_eq_append_getElem hi]
    simp [List.getD, hi]
  by_cases h0 : i = 0
  · subst h0
    rw [ht]
    simp [cl_nil, sepAt, cl_one]
  · rw [ht, cl_append _ _ (take_ne hi h0)]
    simp [sepAt, h0, Lib.joinTail]
    omega

theorem rest_cases (xs : List Int) (i : Nat) : rest xs i = [] ∨ ∃ r, rest xs i = 44 :: r := by
  unfold rest
  rcases (xs.drop (i + 1)).map Lib.itoa with _ | ⟨y, r⟩
  · exact .inl rfl
  · exact .inr ⟨_, by rw [joinTail_cons]; rfl⟩

theorem cl_take_all (xs : List Int) (i : Nat) (h : xs.length ≤ i) : cl (xs.take i) = cl xs := by rw [List.take_of_length_le h]

theorem cl_len_le (xs : List Int) (hb : ∀ x ∈ xs, -9223372036854775808 ≤ x ∧ x ≤ 9223372036854775807) : (cl xs).length ≤ 22 * xs.length := by
  have : ∀ i, i ≤ xs.length → (cl (xs.take i)).length ≤ 22 * i := by
    intro i
    induction i with
    | zero => intro _; simp [cl_nil]
    | succ i ih =>
      intro hi
      have h1 := ih (by omega)
      rw [cl_take_succ xs i (by omega)]
      have hm : xs.getD i 0 ∈ xs := by simp [List.getD, show i < xs.length by omega]
      have h2 := itoa_len (xs.getD i 0) (hb _ hm).1 (hb _ hm).2
      have h3 : (sepAt i).length ≤ 1 := by unfold sepAt; split <;> simp
      omega
  have h := this xs.length (Nat.le_refl _)
  rwa [List.take_length] at h

end Go.Proofs.Qxb6617922aDoor.Pl
