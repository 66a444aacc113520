/-
  PLAIN LAWS on number texts: nothing of the program. 'numPre': what zzNumberPrefix computes, part by part; 'cont': what continuesNumber computes; 'text': zzNumberText's texts.
-/
namespace Go.Proofs.Qxb6617909a.Nm

def dig (z : Int) : Bool := decide (48 ≤ z) && decide (z ≤ 57)

/-- digits, at least one, to the end -/
def pDig : List Int → Bool
  | [] => true
  | d :: r => dig d && ((d :: r).dropWhile dig).isEmpty
/-- behind the 'e' -/
def pExp : List Int → Bool
  | [] => true
  | c :: r => if c == 43 || c == 45 then pDig r else pDig (c :: r)
/-- at the 'e' -/
def pE : List Int → Bool
  | [] => true
  | c :: r => (c == 101 || c == 69) && pExp r
/-- behind the point -/
def pPt : List Int → Bool
  | [] => true
  | d :: r => dig d && pE ((d :: r).dropWhile dig)
/-- behind the whole part -/
def pFrac : List Int → Bool
  | [] => true
  | c :: r => if c == 46 then pPt r else pE (c :: r)
/-- at the whole part -/
def pInt : List Int → Bool
  | [] => true
  | c :: r => if c == 48 then pFrac r else (if 49 ≤ c ∧ c ≤ 57 then pFrac (r.dropWhile dig) else false)
def numPre : List Int → Bool
  | [] => true
  | c :: r => if c == 45 then pInt r else pInt (c :: r)

def cont (st c : Int) : Bool :=
  if st == 10 then c == 46 || (c == 101 || c == 69)
  else if st == 11 then dig c || (c == 46 || (c == 101 || c == 69))
  else if st == 13 then dig c || (c == 101 || c == 69)
  else dig c

def text (st : Int) (which : Nat) : List UInt8 :=
  if st == 9 then [45]
  else if st == 10 then (if which == 0 then [48] else [45, 48])
  else if st == 11 then (if which == 0 then [55] else [45, 49, 50, 48])
  else if st == 12 then (if which == 0 then [48, 46] else [45, 51, 53, 46])
  else if st == 13 then (if which == 0 then [48, 46, 53] else [49, 50, 46, 48, 48])
  else if st == 15 then (if which == 0 then [49, 101, 43] else [48, 46, 53, 69, 45])
  else if st == 16 then (if which == 0 then [49, 101, 53] else [45, 50, 46, 48, 69, 43, 48, 55])
  else []

def isState (st : Int) : Bool := st == 9 || (st == 10 || (st == 11 || (st == 12 || (st == 13 || (st == 15 || st == 16)))))

theorem isState_cases {st : Int} (h : isState st = true) : st = 9 ∨ st = 10 ∨ st = 11 ∨ st = 12 ∨ st = 13 ∨ st = 15 ∨ st = 16 := by
  simpa [isState] using h

def lawAt (st : Int) (which : Nat) (c : Nat) : Bool := cont st c == numPre ((text st which).map (fun u => (u.toNat : Int)) ++ [(c : Int)])

theorem law_all : ∀ c : Fin 256, ∀ wh : Fin 2, (lawAt 9 wh c && lawAt 10 wh c && lawAt 11 wh c && lawAt 12 wh c && lawAt 13 wh c && lawAt 15 wh c && lawAt 16 wh c) = true := by
  decide +kernel

theorem law {st : Int} {wh c : Nat} (h : isState st = true) (hw : wh < 2) (hc : c < 256) : cont st c = numPre ((text st wh).map (fun u => (u.toNat : Int)) ++ [(c : Int)]) := by
  have hl := law_all ⟨c, hc⟩ ⟨wh, hw⟩
  simp only [Bool.and_eq_true] at hl
  have : lawAt st wh c = true := by
    rcases isState_cases h with rfl | rfl | rfl | rfl | rfl | rfl | rfl
    · exact hl.1.1.1.1.1.1
    · exact hl.1.1.1.1.1.2
    · exact hl.1.1.1.1.2
    · exact hl.1.1.1.2
    · exact hl.1.1.2
    · exact hl.1.2
    · exact hl.2
  simpa [lawAt] using this

theorem text_len (st : Int) (wh : Nat) : (text st wh).length ≤ 8 := by
  unfold text
  repeat (first | (split <;> first | decide | skip) | decide)

theorem drop_cons {zs : List Int} {i : Nat} (h : i < zs.length) : zs.drop i = zs.getD i 0 :: zs.drop (i + 1) := by
  rw [List.drop_eq_getElem_cons h]
  simp [List.getD, h]

end Go.Proofs.Qxb6617909a.Nm
