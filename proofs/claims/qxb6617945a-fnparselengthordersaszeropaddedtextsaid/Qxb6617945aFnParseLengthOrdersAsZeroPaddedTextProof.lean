/-
  THE PROOF OF 'Rows.FnParseLengthOrdersAsZeroPaddedTextSaid'. The frame is the kit's shell; the walk is ours.
-/
import Derived.Test.Qxb6617945aRows
import Derived.WalkKit
import Derived.ProofKit
import Derived.OpenShut
import Derived.ShutString
import Derived.ChangeOld
import Derived.Below
import Derived.WalkSpells
import Derived.Test.Qxb6617945aParse
import Derived.Test.Qxb6617945aCopy
import Derived.Test.Qxb6617945aOrder
import Derived.Deep.DeepCutAuto
namespace Go.Proofs.Qxb6617945a.fnParseLengthOrdersAsZeroPaddedText
open Go.ChangeShapes Go.WideShapes Go.ChangeAt Go.RowKit
open Go.ChangeMaps (open_string shut_string)
set_option linter.unusedVariables false

theorem own : ownKnob Try.prog.godebug = none := by kernel_rfl
theorem laidOut : laidOutB Try.prog = true := by kernel_rfl

/-- WHAT THE WALK IS TOLD OF A SLICE OF INTEGERS THAT CAME IN: it is nil; or it leads to a row of 'cap' cells, the numbers 'zs' (the first 'len' are its elements, the rest its spare room), each fitting its kind. -/
def IsRow (k : IntKind) (w : World) (a : Option Addr) (len cap : Nat) (zs : List Int) : Prop :=
  (a = none ∧ len = 0 ∧ cap = 0 ∧ zs = []) ∨
  ∃ x, a = some x ∧ len ≤ cap ∧ cap ≤ maxLen ∧ zs.length = cap ∧ (∀ i, i < zs.length → w.cell? (x.add i) = some (.int k (zs.getD i 0))) ∧ ∀ n ∈ zs, (Lit.int k n).wf = true

open Go.Proofs.Qxb6617945a.Pl Go.Proofs.Qxb6617945a.Wk Go.Proofs.Qxb6617945a.Cp

theorem info5 : (Try.prog.info? 5).map (fun i => (i.zero, i.size, i.bytes)) = some (some (.int .u8 0), 1, 1) := by kernel_rfl
theorem size5 : (Try.prog.info? 5).map (·.size) = some 1 := by kernel_rfl
theorem q22 (w : World) (a : Option Addr) (n c : Nat) : (binOp .neq 22 (.slice a n c) (.slice none 0 0)).run Try.prog w = .ok (.bool (!a.isNone)) w := run_neq_slice_nil_any w 22 5 a n c 0 0 Try.underlying22

theorem bytes_yes (a b : Option Addr) (m n c d : Nat) (w : World) (h : m + n ≤ 1048576) : Calls Try.prog 13 #[.slice a m c, .slice b n d] w fun e w' => e = .returned (.bool true) ∧ w' = w := by
  have h1 : m ≤ 1048576 := by omega
  have h2 : n ≤ 1048576 := by omega
  go_enter Try.func13, Try.ntmps13
  go_wp2
  go_ret
  exact ⟨rfl, rfl⟩

theorem bytes_no (a b : Option Addr) (m n c d : Nat) (w : World) (h : 1048576 < m + n) (hm : m ≤ 9223372036854775807) (hn : n ≤ 9223372036854775807) : Calls Try.prog 13 #[.slice a m c, .slice b n d] w fun e w' => e = .returned (.bool false) ∧ w' = w := by
  by_cases h1 : 1048576 < m
  · go_enter Try.func13, Try.ntmps13
    go_wp2
    go_ret
    exact ⟨rfl, rfl⟩
  by_cases h2 : 1048576 < n
  · go_enter Try.func13, Try.ntmps13
    go_wp2
    go_ret
    exact ⟨rfl, rfl⟩
  · go_enter Try.func13, Try.ntmps13
    go_wp2
    go_ret
    exact ⟨rfl, rfl⟩

theorem walk_big (a b : Option Addr) (m n c d : Nat) (w : World) (h : 1048576 < m + n) (hm : m ≤ 9223372036854775807) (hn : n ≤ 9223372036854775807) : Calls Try.prog 5 #[.slice a m c, .slice b n d] w fun e w' => e = .returned (.bool true) ∧ Below w.heap.size w w' := by
  go_enter Try.func5, Try.ntmps5
  go_wp2_with fail
  refine (bytes_no _ _ _ _ _ _ _ h hm hn).mono ?_
  rintro e w' ⟨rfl, rfl⟩
  go_wp2
  go_ret
  exact ⟨rfl, Below.refl _ _⟩

theorem walk_mid (a b : Option Addr) (m n c d : Nat) (w : World) (h : m + n ≤ 1048576) (h2 : 65536 < m ∨ 65536 < n) : Calls Try.prog 5 #[.slice a m c, .slice b n d] w fun e w' => e = .returned (.bool true) ∧ Below w.heap.size w w' := by
  by_cases h1 : 65536 < m
  · have q1 : decide (65536 < (m : Int)) = true := by rw [decide_eq_true_eq]; omega
    go_enter Try.func5, Try.ntmps5
    go_wp2_with fail
    refine (bytes_yes _ _ _ _ _ _ _ h).mono ?_
    rintro e w' ⟨rfl, rfl⟩
    go_wp2
    go_ret
    exact ⟨rfl, Below.refl _ _⟩
  · have h3 : 65536 < n := by omega
    have q1 : decide (65536 < (m : Int)) = false := by rw [decide_eq_false_iff_not]; omega
    clear h2
    go_enter Try.func5, Try.ntmps5
    go_wp2_with fail
    refine (bytes_yes _ _ _ _ _ _ _ h).mono ?_
    rintro e w' ⟨rfl, rfl⟩
    go_wp2
    go_ret
    exact ⟨rfl, Below.refl _ _⟩

set_option maxHeartbeats 1000000 in
theorem walk_len (a b : Option Addr) (m n c d : Nat) (w : World) (h1 : m ≤ 65536) (h2 : n ≤ 65536) (h3 : m = 0 ∨ 18 < m ∨ n = 0 ∨ 18 < n) : Calls Try.prog 5 #[.slice a m c, .slice b n d] w fun e w' => e = .returned (.bool true) ∧ Below w.heap.size w w' := by
  have q1 : decide (65536 < (m : Int)) = false := by rw [decide_eq_false_iff_not]; omega
  have q2 : decide (65536 < (n : Int)) = false := by rw [decide_eq_false_iff_not]; omega
  by_cases a1 : m = 0
  · have t1 : ((m : Int) == 0) = true := by rw [beq_iff_eq]; omega
    clear a1 h3
    go_enter Try.func5, Try.ntmps5
    go_wp2_with fail
    refine (bytes_yes _ _ _ _ _ _ _ (by omega)).mono ?_
    rintro e w' ⟨rfl, rfl⟩
    go_wp2
    go_ret
    exact ⟨rfl, Below.refl _ _⟩
  have t1 : ((m : Int) == 0) = false := by rw [beq_eq_false_iff_ne]; omega
  by_cases a2 : 18 < m
  · have t2 : decide (18 < (m : Int)) = true := by rw [decide_eq_true_eq]; omega
    clear a1 h3
    go_enter Try.func5, Try.ntmps5
    go_wp2_with fail
    refine (bytes_yes _ _ _ _ _ _ _ (by omega)).mono ?_
    rintro e w' ⟨rfl, rfl⟩
    go_wp2
    go_ret
    exact ⟨rfl, Below.refl _ _⟩
  have t2 : decide (18 < (m : Int)) = false := by rw [decide_eq_false_iff_not]; omega
  by_cases a3 : n = 0
  · have t3 : ((n : Int) == 0) = true := by rw [beq_iff_eq]; omega
    clear a1 a3 h3
    go_enter Try.func5, Try.ntmps5
    go_wp2_with fail
    refine (bytes_yes _ _ _ _ _ _ _ (by omega)).mono ?_
    rintro e w' ⟨rfl, rfl⟩
    go_wp2
    go_ret
    exact ⟨rfl, Below.refl _ _⟩
  have t3 : ((n : Int) == 0) = false := by rw [beq_eq_false_iff_ne]; omega
  have t4 : decide (18 < (n : Int)) = true := by rw [decide_eq_true_eq]; omega
  have a4 : 18 < n := by omega
  clear a1 a3 h3
  go_enter Try.func5, Try.ntmps5
  go_wp2_with fail
  refine (bytes_yes _ _ _ _ _ _ _ (by omega)).mono ?_
  rintro e w' ⟨rfl, rfl⟩
  go_wp2
  go_ret
  exact ⟨rfl, Below.refl _ _⟩

/-- the facts that the law's own tests ask of two lengths within bounds -/
theorem lens (m : Nat) (h1 : 1 ≤ m) (h2 : m ≤ 18) : decide (65536 < (m : Int)) = false ∧ ((m : Int) == 0) = false ∧ decide (18 < (m : Int)) = false := by
  refine ⟨?_, ?_, ?_⟩
  · rw [decide_eq_false_iff_not]; omega
  · rw [beq_eq_false_iff_ne]; omega
  · rw [decide_eq_false_iff_not]; omega

set_option maxHeartbeats 1000000 in
theorem walk_dig (b1 o1 b2 o2 m n c d : Nat) (xs ys : List Int) (w : World) (m1 : 1 ≤ m) (m2 : m ≤ 18) (n1 : 1 ≤ n) (n2 : n ≤ 18)
    (HX : Hid (xs.length = m)) (HY : Hid (ys.length = n)) (HCX : Hid (∀ i, i < m → w.cell? ⟨b1, o1 + i, none⟩ = some (.int .u8 (xs.getD i 0)))) (HCY : Hid (∀ i, i < n → w.cell? ⟨b2, o2 + i, none⟩ = some (.int .u8 (ys.getD i 0))))
    (hno : allD xs = false ∨ allD ys = false) :
    Calls Try.prog 5 #[.slice (some ⟨b1, o1, none⟩) m c, .slice (some ⟨b2, o2, none⟩) n d] w fun e w' => e = .returned (.bool true) ∧ Below w.heap.size w w' := by
  obtain ⟨q1, q2, q3⟩ := lens m m1 m2
  obtain ⟨q4, q5, q6⟩ := lens n n1 n2
  cases hx : allD xs with
  | false =>
    have HA : Hid (allD xs = false) := hx
    clear hx hno
    go_enter Try.func5, Try.ntmps5
    go_wp2_with fail
    refine (bytes_yes _ _ _ _ _ _ _ (by omega)).mono ?_
    rintro e w' ⟨rfl, hw⟩
    obtain rfl := hw.symm
    clear hw
    go_wp2_with fail
    refine (allD_any b1 o1 m c xs _ HX (by omega) HCX.out).mono ?_
    rintro e w' ⟨rfl, hw⟩
    obtain rfl := hw.symm
    rw [HA.out]
    clear hw
    go_wp2
    go_ret
    exact ⟨rfl, Below.refl _ _⟩
  | true =>
    have HA : Hid (allD xs = true) := hx
    have HB : Hid (allD ys = false) := by rcases hno with h | h; rw [hx] at h; cases h; exact h
    clear hx hno
    go_enter Try.func5, Try.ntmps5
    go_wp2_with fail
    refine (bytes_yes _ _ _ _ _ _ _ (by omega)).mono ?_
    rintro e w' ⟨rfl, hw⟩
    obtain rfl := hw.symm
    clear hw
    go_wp2_with fail
    refine (allD_any b1 o1 m c xs _ HX (by omega) HCX.out).mono ?_
    rintro e w' ⟨rfl, hw⟩
    obtain rfl := hw.symm
    rw [HA.out]
    clear hw
    go_wp2_with fail
    refine (allD_any b2 o2 n d ys _ HY (by omega) HCY.out).mono ?_
    rintro e w' ⟨rfl, hw⟩
    obtain rfl := hw.symm
    rw [HB.out]
    clear hw
    go_wp2
    go_ret
    exact ⟨rfl, Below.refl _ _⟩

set_option maxRecDepth 100000 in
set_option maxHeartbeats 4000000 in
theorem walk_main (b1 o1 b2 o2 m n c d : Nat) (us vs xs ys : List Int) (w : World) (m1 : 1 ≤ m) (m2 : m ≤ 18) (n1 : 1 ≤ n) (n2 : n ≤ 18)
    (HX : Hid (xs.length = m)) (HY : Hid (ys.length = n)) (HCX : Hid (∀ i, i < m → w.cell? ⟨b1, o1 + i, none⟩ = some (.int .u8 (xs.getD i 0)))) (HCY : Hid (∀ i, i < n → w.cell? ⟨b2, o2 + i, none⟩ = some (.int .u8 (ys.getD i 0))))
    (HXU : Hid (xs = us.take m)) (HYV : Hid (ys = vs.take n)) (HU : Hid (m ≤ us.length)) (HV : Hid (n ≤ vs.length))
    (HCU : Hid (∀ i, i < us.length → w.cell? ((⟨b1, o1, none⟩ : Addr).add i) = some (.int .u8 (us.getD i 0)))) (HCV : Hid (∀ i, i < vs.length → w.cell? ((⟨b2, o2, none⟩ : Addr).add i) = some (.int .u8 (vs.getD i 0))))
    (HA : Hid (allD xs = true)) (HB : Hid (allD ys = true)) :
    Calls Try.prog 5 #[.slice (some ⟨b1, o1, none⟩) m c, .slice (some ⟨b2, o2, none⟩) n d] w fun e w' => e = .returned (.bool true) ∧ Below w.heap.size w w' := by
  have q := q22
  obtain ⟨q1, q2, q3⟩ := lens m m1 m2
  obtain ⟨q4, q5, q6⟩ := lens n n1 n2
  obtain ⟨i0, hi, hz0, hz1, hz2⟩ := info_parts info5
  go_enter Try.func5, Try.ntmps5
  go_wp2_with fail
  refine (bytes_yes _ _ _ _ _ _ _ (by omega)).mono ?_
  rintro e w' ⟨rfl, hw⟩
  obtain rfl := hw.symm
  clear hw
  go_wp2_with fail
  refine (allD_any b1 o1 m c xs _ HX (by omega) HCX.out).mono ?_
  rintro e w' ⟨rfl, hw⟩
  obtain rfl := hw.symm
  rw [HA.out]
  clear hw
  go_wp2_with fail
  refine (allD_any b2 o2 n d ys _ HY (by omega) HCY.out).mono ?_
  rintro e w' ⟨rfl, hw⟩
  obtain rfl := hw.symm
  rw [HB.out]
  clear hw HCX HCY q1 q2 q3 q4 q5 q6
  go_wp2_with (at_make; refine wpList_make_full _ rfl (.tmp 59) (.tmp 59) 22 rfl _ 5 i0 (.int .u8 0) 1 Try.underlying22 hi hz0 hz1 .i64 .i64 _ _ m rfl rfl rfl rfl (by rw [hz2]; omega) (by unfold maxLen; omega) (Nat.le_refl _) ?_)
  intro w1 hown hgrow
  obtain ⟨cur, hcur, HG, hB⟩ := made_of_owns hown hgrow
  have hlt1 : w.heap.size < w1.heap.size := (Array.getElem?_eq_some_iff.1 HG.out).1
  clear hown hgrow
  have HC1 : Hid (∀ i, i < us.length → w1.cell? ((⟨b1, o1, none⟩ : Addr).add i) = some (.int .u8 (us.getD i 0))) := fun i h => (hB.cell (World.block_lt_of_cell? w _ (HCU.out i h))).trans (HCU.out i h)
  go_wp2_with (refine wpList_copy_bytes rfl (.tmp 61) (.tmp 62) 22 22 rfl 5 Try.underlying22 size5 m c m w.heap.size ⟨b1, o1, none⟩ rfl rfl cur hcur HG .u8 us HU.out HC1 w.heap.size hB (Nat.le_refl _) ?_)
  intro w2 HD hB2 hs2 _
  have hlt2 : w.heap.size < w2.heap.size := by rw [hs2]; exact hlt1
  have HC2 : Hid (∀ i, i < vs.length → w2.cell? ((⟨b2, o2, none⟩ : Addr).add i) = some (.int .u8 (vs.getD i 0))) := fun i h => (hB2.cell (World.block_lt_of_cell? w _ (HCV.out i h))).trans (HCV.out i h)
  have HX2 : Hid (∀ i, i < m → w2.cell? ⟨w.heap.size, 0 + i, none⟩ = some (.int .u8 (xs.getD i 0))) := by
    intro i hi
    rw [Nat.zero_add, HD.out i hi, HXU.out]
    simp [List.getD, hi]
  clear HC1 HCU HCV HG hB hcur cur HD hs2 hlt1 HXU HU
  go_wp2_with (at_make; refine wpList_make_full _ rfl (.tmp 68) (.tmp 68) 22 rfl _ 5 i0 (.int .u8 0) 1 Try.underlying22 hi hz0 hz1 .i64 .i64 _ _ n rfl rfl rfl rfl (by rw [hz2]; omega) (by unfold maxLen; omega) (Nat.le_refl _) ?_)
  intro w3 hown hgrow
  obtain ⟨cur, hcur, HG, hB⟩ := made_of_owns hown hgrow
  clear hown hgrow hi hz0 hz1 hz2
  have HC3 : Hid (∀ i, i < vs.length → w3.cell? ((⟨b2, o2, none⟩ : Addr).add i) = some (.int .u8 (vs.getD i 0))) := fun i h => (hB.cell (World.block_lt_of_cell? w2 _ (HC2.out i h))).trans (HC2.out i h)
  go_wp2_with (refine wpList_copy_bytes rfl (.tmp 70) (.tmp 71) 22 22 rfl 5 Try.underlying22 size5 n d n w2.heap.size ⟨b2, o2, none⟩ rfl rfl cur hcur HG .u8 vs HV.out HC3 w2.heap.size hB (Nat.le_refl _) ?_)
  intro w4 HD hB4 _ _
  have HY4 : Hid (∀ i, i < n → w4.cell? ⟨w2.heap.size, 0 + i, none⟩ = some (.int .u8 (ys.getD i 0))) := by
    intro i hi
    rw [Nat.zero_add, HD.out i hi, HYV.out]
    simp [List.getD, hi]
  have HX4 : Hid (∀ i, i < m → w4.cell? ⟨w.heap.size, 0 + i, none⟩ = some (.int .u8 (xs.getD i 0))) := fun i hi => (hB4.cell (p := ⟨w.heap.size, 0 + i, none⟩) hlt2).trans (HX2.out i hi)
  have hBw : Below w.heap.size w w4 := hB2.trans (hB4.mono (by omega))
  clear HC3 HC2 HG hB hcur cur q HD hB4 hB2 HX2 HYV HV hlt2
  have HBw : Hid (Below w.heap.size w w4) := hBw
  obtain ⟨B1, hB1⟩ : ∃ B1, w.heap.size = B1 := ⟨_, rfl⟩
  obtain ⟨B2, hB2e⟩ : ∃ B2, w2.heap.size = B2 := ⟨_, rfl⟩
  rw [hB1] at HX4 ⊢
  rw [hB2e] at HY4 ⊢
  clear hB1 hB2e hBw
  go_wp2_with fail
  refine (zzparse_any B1 0 m m xs _ HX (by omega) HX4.out).mono ?_
  rintro e w' ⟨rfl, hw⟩
  obtain rfl := hw.symm
  clear hw
  have oX : okN xs = true := okN_yes (by rw [HX.out]; exact m1) (by rw [HX.out]; exact m2) HA.out
  have oY : okN ys = true := okN_yes (by rw [HY.out]; exact n1) (by rw [HY.out]; exact n2) HB.out
  rw [oX, num_yes oX]
  obtain ⟨U, hU⟩ : ∃ U, vl xs 0 = U := ⟨_, rfl⟩
  obtain ⟨V, hV⟩ : ∃ V, vl ys 0 = V := ⟨_, rfl⟩
  rw [hU]
  have HNY : Hid (num ys = V ∧ okN ys = true) := ⟨by rw [num_yes oY]; exact hV, oY⟩
  have HPU : Hid (vl (pz xs) 0 = U) := by show _ = _; rw [vl_pz]; exact hU
  have HPV : Hid (vl (pz ys) 0 = V) := by show _ = _; rw [vl_pz]; exact hV
  have HLX : Hid ((pz xs).length = 18) := pz_len (by rw [HX.out]; exact m2)
  have HLY : Hid ((pz ys).length = 18) := pz_len (by rw [HY.out]; exact n2)
  have HAX : Hid (allD (pz xs) = true) := pz_allD HA.out
  have HAY : Hid (allD (pz ys) = true) := pz_allD HB.out
  clear oX oY hU hV
  go_wp2_with fail
  refine (zzparse_any B2 0 n n ys _ HY (by omega) HY4.out).mono ?_
  rintro e w' ⟨rfl, hw⟩
  obtain rfl := hw.symm
  clear hw
  rw [HNY.out.1, HNY.out.2]
  clear HNY HA HB
  go_wp2
  go_loopg [11, 12, 13, 14, 15, 16] 18 (fun g t s _ _ _ _ wr => ∃ (i : Nat) (k : Int), i ≤ 18 ∧ Hid (g = 18 - i) ∧ s = .int .i64 (i : Int) ∧ t = .int .i64 k ∧ Hid (St (pz xs) (pz ys) i k) ∧ wr = w4)
  case atStart => exact ⟨0, 0, by omega, rfl, rfl, rfl, .inl ⟨rfl, rfl⟩, rfl⟩
  case round =>
    obtain ⟨i, k, hi, HG, rfl, rfl, HS, hwr⟩ := hrel
    subst hwr
    rcases HS.out with ⟨rfl, htk⟩ | ⟨rfl, hlt⟩ | ⟨rfl, hlt⟩
    · by_cases hi18 : i < 18
      · have HTK : Hid ((pz xs).take i = (pz ys).take i) := htk
        clear htk HS
        obtain ⟨x, hx⟩ : ∃ x, (pz xs).getD i 0 = x := ⟨_, rfl⟩
        obtain ⟨y, hy⟩ : ∃ y, (pz ys).getD i 0 = y := ⟨_, rfl⟩
        have HXI : Hid ((pz xs).getD i 0 = x) := hx
        have HYI : Hid ((pz ys).getD i 0 = y) := hy
        clear hx hy
        have hilt : (i : Int) < 18 := by omega
        go_upto_if 98 with fail
        go_cut [13, 14] (fun s _ w' => s = .int .u8 x ∧ w' = wr)
        case first =>
          by_cases hge : 18 - m ≤ i
          · have e : x = xs.getD (i - (18 - m)) 0 := by rw [← HXI.out, pz_hi (by rw [HX.out]; exact hge), HX.out]
            have hc := HX4.out (i - (18 - m)) (by omega)
            rw [← e, Nat.zero_add] at hc
            clear e
            have hjj : (i : Int) - (18 - (m : Int)) = ((i - (18 - m) : Nat) : Int) := by omega
            have hj0 : i - (18 - m) < m := by omega
            generalize i - (18 - m) = j at *
            rw [hjj]
            clear hjj
            go_wp2
            go_meet
            case rel => exact ⟨rfl, rfl⟩
          · have e : x = 48 := by rw [← HXI.out]; exact pz_lo (by rw [HX.out]; omega)
            subst e
            go_wp2
            go_meet
            case rel => exact ⟨rfl, rfl⟩
        case rest =>
          obtain ⟨rfl, hwc⟩ := hcut
          obtain rfl := hwc.symm
          clear hwc
          go_upto_if 109 with fail
          go_cut [15, 16] (fun s _ w' => s = .int .u8 y ∧ w' = wr)
          case first =>
            by_cases hge : 18 - n ≤ i
            · have e : y = ys.getD (i - (18 - n)) 0 := by rw [← HYI.out, pz_hi (by rw [HY.out]; exact hge), HY.out]
              have hc := HY4.out (i - (18 - n)) (by omega)
              rw [← e, Nat.zero_add] at hc
              clear e
              have hjj : (i : Int) - (18 - (n : Int)) = ((i - (18 - n) : Nat) : Int) := by omega
              have hj0 : i - (18 - n) < n := by omega
              generalize i - (18 - n) = j at *
              rw [hjj]
              clear hjj
              go_wp2
              go_meet
              case rel => exact ⟨rfl, rfl⟩
            · have e : y = 48 := by rw [← HYI.out]; exact pz_lo (by rw [HY.out]; omega)
              subst e
              go_wp2
              go_meet
              case rel => exact ⟨rfl, rfl⟩
          case rest =>
            obtain ⟨rfl, hwc⟩ := hcut
            obtain rfl := hwc.symm
            clear hwc
            rcases Int.lt_trichotomy x y with hxy | hxy | hxy
            · have HN : Hid (vl (pz xs) 0 < vl (pz ys) 0) := vl_lt HLX.out HLY.out HAX.out HAY.out hi18 HTK.out (by rw [HXI.out, HYI.out]; exact hxy)
              go_wp2
              go_roundg (18 - (i + 1))
              case measure => rw [HG.out]; omega
              case rel => exact ⟨i + 1, -1, by omega, rfl, by go_num, rfl, .inr (.inl ⟨rfl, HN.out⟩), rfl⟩
            · have HN : Hid ((pz xs).take (i + 1) = (pz ys).take (i + 1)) := St.same (by rw [HLX.out]; exact hi18) (by rw [HLY.out]; exact hi18) HTK.out (by rw [HXI.out, HYI.out]; exact hxy)
              subst hxy
              go_wp2
              go_roundg (18 - (i + 1))
              case measure => rw [HG.out]; omega
              case rel => exact ⟨i + 1, 0, by omega, rfl, by go_num, rfl, .inl ⟨rfl, HN.out⟩, rfl⟩
            · have HN : Hid (vl (pz ys) 0 < vl (pz xs) 0) := vl_lt HLY.out HLX.out HAY.out HAX.out hi18 HTK.out.symm (by rw [HXI.out, HYI.out]; exact hxy)
              have hnlt : ¬ x < y := by omega
              go_wp2
              go_roundg (18 - (i + 1))
              case measure => rw [HG.out]; omega
              case rel => exact ⟨i + 1, 1, by omega, rfl, by go_num, rfl, .inr (.inr ⟨rfl, HN.out⟩), rfl⟩
      · have e : U = V := by
          rw [List.take_of_length_le (by rw [HLX.out]; omega), List.take_of_length_le (by rw [HLY.out]; omega)] at htk
          rw [← HPU.out, ← HPV.out, htk]
        subst e
        clear HS htk
        go_wp2
        go_ret
        exact ⟨by simp, HBw.out⟩
    · rw [HPU.out, HPV.out] at hlt
      clear HS
      by_cases hi18 : i < 18
      · have hii : (i : Int) < 18 := by omega
        go_wp2
        go_ret
        exact ⟨by simp, HBw.out⟩
      · go_wp2
        go_ret
        exact ⟨by simp, HBw.out⟩
    · rw [HPU.out, HPV.out] at hlt
      clear HS
      have hnlt : ¬ U < V := by omega
      by_cases hi18 : i < 18
      · have hii : (i : Int) < 18 := by omega
        go_wp2
        go_ret
        exact ⟨by simp, HBw.out⟩
      · go_wp2
        go_ret
        exact ⟨by simp, HBw.out⟩

theorem plainAddr {w : World} {x : Addr} {v : Value} (h : w.cell? (x.add 0) = some v) : ∃ b off, x = ⟨b, off, none⟩ := by
  obtain ⟨b, off, sp⟩ := x
  cases sp with
  | none => exact ⟨b, off, rfl⟩
  | some sp => simp [World.cell?, Addr.add] at h; split at h <;> simp at h

theorem walk (a0 : Option Addr) (len0 cap0 : Nat) (z0 : List Int) (a1 : Option Addr) (len1 cap1 : Nat) (z1 : List Int) (w : World) (w0 : IsRow .u8 w a0 len0 cap0 z0) (w1 : IsRow .u8 w a1 len1 cap1 z1) :
    Calls Try.prog 5 #[.slice a0 len0 cap0, .slice a1 len1 cap1] w fun e w' => e = .returned (.bool true) ∧ Below w.heap.size w w' := by
  have hb0 : len0 ≤ 9223372036854775807 := by
    rcases w0 with ⟨_, h, _⟩ | ⟨_, _, h1, h2, _⟩
    · omega
    · unfold maxLen at h2; omega
  have hb1 : len1 ≤ 9223372036854775807 := by
    rcases w1 with ⟨_, h, _⟩ | ⟨_, _, h1, h2, _⟩
    · omega
    · unfold maxLen at h2; omega
  by_cases h1 : 1048576 < len0 + len1
  · exact walk_big _ _ _ _ _ _ _ h1 hb0 hb1
  by_cases h2 : 65536 < len0 ∨ 65536 < len1
  · exact walk_mid _ _ _ _ _ _ _ (by omega) h2
  by_cases h3 : len0 = 0 ∨ 18 < len0 ∨ len1 = 0 ∨ 18 < len1
  · exact walk_len _ _ _ _ _ _ _ (by omega) (by omega) h3
  rcases w0 with ⟨rfl, rfl, rfl, rfl⟩ | ⟨x, rfl, hl, hm, hz, hc, _⟩
  · omega
  rcases w1 with ⟨rfl, rfl, rfl, rfl⟩ | ⟨y, rfl, hl', hm', hz', hc', _⟩
  · omega
  obtain ⟨b1, o1, rfl⟩ := plainAddr (hc 0 (by omega))
  obtain ⟨b2, o2, rfl⟩ := plainAddr (hc' 0 (by omega))
  have hadd : ∀ (b o i : Nat), (⟨b, o, none⟩ : Addr).add i = ⟨b, o + i, none⟩ := by intro b o i; cases i <;> simp [Addr.add]
  have hcx : ∀ i, i < len0 → w.cell? ⟨b1, o1 + i, none⟩ = some (.int .u8 ((z0.take len0).getD i 0)) := by
    intro i hi
    have := hc i (by omega)
    rw [hadd] at this
    rw [this]
    simp [List.getD, hi]
  have hcy : ∀ i, i < len1 → w.cell? ⟨b2, o2 + i, none⟩ = some (.int .u8 ((z1.take len1).getD i 0)) := by
    intro i hi
    have := hc' i (by omega)
    rw [hadd] at this
    rw [this]
    simp [List.getD, hi]
  have hlx : (z0.take len0).length = len0 := by rw [List.length_take]; omega
  have hly : (z1.take len1).length = len1 := by rw [List.length_take]; omega
  cases hx : allD (z0.take len0) with
  | false => exact walk_dig b1 o1 b2 o2 len0 len1 cap0 cap1 (z0.take len0) (z1.take len1) w (by omega) (by omega) (by omega) (by omega) hlx hly hcx hcy (.inl hx)
  | true =>
    cases hy : allD (z1.take len1) with
    | false => exact walk_dig b1 o1 b2 o2 len0 len1 cap0 cap1 (z0.take len0) (z1.take len1) w (by omega) (by omega) (by omega) (by omega) hlx hly hcx hcy (.inr hy)
    | true => exact walk_main b1 o1 b2 o2 len0 len1 cap0 cap1 z0 z1 (z0.take len0) (z1.take len1) w (by omega) (by omega) (by omega) (by omega) hlx hly hcx hcy rfl rfl (by show _ ≤ _; omega) (by show _ ≤ _; omega) hc hc' hx hy

/-! ### THE ROW's STEP: WRITTEN OUT: LEAVE IT -/
set_option maxRecDepth 100000 in
theorem lifted (os : Os) (started : os.Started) (H : Type) (enc : TypeId × Value → H) :
    ReturnsInHanded {} Try.checked os 5 .any (Rows.fnParseLengthOrdersAsZeroPaddedTextSpec.pre6 enc Try.prog Try.f5 Rows.fnParseLengthOrdersAsZeroPaddedTextRow.domain false) (Rows.fnParseLengthOrdersAsZeroPaddedTextSpec.post enc Try.prog Try.f5 false true false false) := by
  refine returnsInHanded_of_change (C := Try.checked) own started (by kernel_rfl) Try.func5
    (ChangeSpec.witness6 (enc := enc) (C := Try.checked) false ⟨#[], #[.slice none 0 0, .slice none 0 0], []⟩ 8 (by kernel_rfl) (by kernel_rfl) (by kernel_rfl) (by kernel_rfl)) ?_
  intro W base args ds gs before hval0 hW hcnd _
  have hval : ∀ (j : Nat) t v, Try.f5.params[j]? = some t → args[j]? = some v → Value.okWide Try.prog W .any base t v := hval0
  have hW' := hW
  obtain ⟨p, q, hA0, hV, rfl, hfz, hnd⟩ := hW
  have hA : DataW.TrodAll enc Try.prog W 0 (fun _ => true) true Try.f5.params.toList args.toList ds p := hA0
  rw [Try.params5] at hA hval
  obtain ⟨v0, vs0, d0, ds0, p0, q0, hargs, rfl, rfl, h0, r0⟩ := trodAll_cons hA
  obtain ⟨v1, vs1, d1, ds1, p1, q1, rfl, rfl, rfl, h1, r1⟩ := trodAll_cons r0
  obtain ⟨rfl, rfl, rfl⟩ := trodAll_nil r1
  obtain rfl : args = #[v0, v1] := by cases args; simp_all
  obtain ⟨rfl, rfl⟩ := trodVars_none hV
  obtain ⟨a0, len0, cap0, rfl⟩ := okWide_slice Try.underlying22 (hval 0 22 v0 rfl rfl)
  have k0 := h0
  have lt0 : ∀ x ∈ p0, x.block < W.heap.size := by obtain ⟨m, hm⟩ := k0; exact DataW.trod_lt m _ _ _ hm
  obtain ⟨z0, w0⟩ : ∃ zs, IsRow .u8 W a0 len0 cap0 zs := by
    obtain ⟨fuel, hf⟩ := h0
    rcases open_ints Try.underlying22 Try.underlying5 (by kernel_rfl) hf with ⟨hcs, _⟩ | ⟨x, l, c, zs, hcs, _, hl, hm, hz, _, hcell, hwz⟩
    · simp [Value.cells] at hcs
      obtain ⟨rfl, rfl, rfl⟩ := hcs
      exact ⟨[], .inl ⟨rfl, rfl, rfl, rfl⟩⟩
    · simp [Value.cells] at hcs
      obtain ⟨rfl, rfl, rfl⟩ := hcs
      exact ⟨zs, .inr ⟨_, rfl, hl, hm, by simpa using hz, hcell, hwz⟩⟩
  obtain ⟨a1, len1, cap1, rfl⟩ := okWide_slice Try.underlying22 (hval 1 22 v1 rfl rfl)
  have k1 := h1
  have lt1 : ∀ x ∈ p1, x.block < W.heap.size := by obtain ⟨m, hm⟩ := k1; exact DataW.trod_lt m _ _ _ hm
  obtain ⟨z1, w1⟩ : ∃ zs, IsRow .u8 W a1 len1 cap1 zs := by
    obtain ⟨fuel, hf⟩ := h1
    rcases open_ints Try.underlying22 Try.underlying5 (by kernel_rfl) hf with ⟨hcs, _⟩ | ⟨x, l, c, zs, hcs, _, hl, hm, hz, _, hcell, hwz⟩
    · simp [Value.cells] at hcs
      obtain ⟨rfl, rfl, rfl⟩ := hcs
      exact ⟨[], .inl ⟨rfl, rfl, rfl, rfl⟩⟩
    · simp [Value.cells] at hcs
      obtain ⟨rfl, rfl, rfl⟩ := hcs
      exact ⟨zs, .inr ⟨_, rfl, hl, hm, by simpa using hz, hcell, hwz⟩⟩
  clear hA0 hval0
  refine (walk a0 len0 cap0 z0 a1 len1 cap1 z1 W w0 w1).mono fun e W' ⟨he, bel⟩ => ?_
  subst he
  exact ⟨_, rfl, _, _, _, [], _, [], hW', trodAll_mk1 (shut_bool Try.underlying4 _), (trodAll_cons_mk (Below.trod laidOut (by kernel_rfl) (of_decide_eq_true (by kernel_rfl)) k0 bel lt0) (trodAll_cons_mk (Below.trod laidOut (by kernel_rfl) (of_decide_eq_true (by kernel_rfl)) k1 bel lt1) trodAll_mk0)), rfl, bel.frame _, fun h => by cases h⟩

theorem over : Rows.fnParseLengthOrdersAsZeroPaddedTextRow.holds Try.pinned (OpenSpec.ofChange Rows.fnParseLengthOrdersAsZeroPaddedTextSpec) :=
  OpenClaim.holds_of_wide 5 Try.f5 rfl rfl rfl rfl rfl rfl rfl ⟨rfl, rfl, rfl, rfl, rfl⟩ rfl rfl rfl rfl rfl (by kernel_rfl) Try.func5 (by kernel_rfl)
    (of_decide_eq_true (by kernel_rfl)) (by unfold Func.isWrapper; first | (rw [if_pos (by decide +kernel)]; kernel_rfl) | (rw [if_neg (by decide +kernel)]; exact ⟨rfl, rfl⟩))
    (fun os started H enc _ => lifted os started H enc)

/-- ████ THE STATEMENT ████ -/
theorem proved : Rows.FnParseLengthOrdersAsZeroPaddedTextSaid := over
end Go.Proofs.Qxb6617945a.fnParseLengthOrdersAsZeroPaddedText
