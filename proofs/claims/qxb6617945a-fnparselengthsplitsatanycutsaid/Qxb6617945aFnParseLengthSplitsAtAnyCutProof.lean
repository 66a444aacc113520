/-
  THE PROOF OF 'Rows.FnParseLengthSplitsAtAnyCutSaid'. The frame is the kit's shell; the walk is ours.
-/
import Derived.Test.Qxb6617945aRows
import Derived.WalkKit
import Derived.ProofKit
import Derived.OpenShut
import Derived.ShutString
import Derived.ChangeOld
import Derived.Below
import Derived.WalkSpells
import Derived.Test.Qxb6617945aParse
import Derived.Test.Qxb6617945aCopy
namespace Go.Proofs.Qxb6617945a.fnParseLengthSplitsAtAnyCut
open Go.ChangeShapes Go.WideShapes Go.ChangeAt Go.RowKit
open Go.ChangeMaps (open_string shut_string)
set_option linter.unusedVariables false

theorem own : ownKnob Try.prog.godebug = none := by kernel_rfl
theorem laidOut : laidOutB Try.prog = true := by kernel_rfl

/-- WHAT THE WALK IS TOLD OF A SLICE OF INTEGERS THAT CAME IN: it is nil; or it leads to a row of 'cap' cells, the numbers 'zs' (the first 'len' are its elements, the rest its spare room), each fitting its kind. -/
def IsRow (k : IntKind) (w : World) (a : Option Addr) (len cap : Nat) (zs : List Int) : Prop :=
  (a = none ∧ len = 0 ∧ cap = 0 ∧ zs = []) ∨
  ∃ x, a = some x ∧ len ≤ cap ∧ cap ≤ maxLen ∧ zs.length = cap ∧ (∀ i, i < zs.length → w.cell? (x.add i) = some (.int k (zs.getD i 0))) ∧ ∀ n ∈ zs, (Lit.int k n).wf = true

open Go.Proofs.Qxb6617945a.Pl Go.Proofs.Qxb6617945a.Wk Go.Proofs.Qxb6617945a.Cp

theorem info5 : (Try.prog.info? 5).map (fun i => (i.zero, i.size, i.bytes)) = some (some (.int .u8 0), 1, 1) := by kernel_rfl
theorem size5 : (Try.prog.info? 5).map (·.size) = some 1 := by kernel_rfl
theorem q22 (w : World) (a : Option Addr) (n c : Nat) : (binOp .neq 22 (.slice a n c) (.slice none 0 0)).run Try.prog w = .ok (.bool (!a.isNone)) w := run_neq_slice_nil_any w 22 5 a n c 0 0 Try.underlying22

theorem bytes_yes (a : Option Addr) (n c : Nat) (k : Int) (w : World) (h : n ≤ 1048576) : Calls Try.prog 11 #[.slice a n c, .int .i64 k] w fun e w' => e = .returned (.bool true) ∧ w' = w := by
  go_enter Try.func11, Try.ntmps11
  go_wp2
  go_ret
  exact ⟨rfl, rfl⟩

theorem bytes_no (a : Option Addr) (n c : Nat) (k : Int) (w : World) (h : 1048576 < n) : Calls Try.prog 11 #[.slice a n c, .int .i64 k] w fun e w' => e = .returned (.bool false) ∧ w' = w := by
  go_enter Try.func11, Try.ntmps11
  go_wp2
  go_ret
  exact ⟨rfl, rfl⟩

theorem walk_big (a : Option Addr) (n c : Nat) (k : Int) (w : World) (h : 1048576 < n) : Calls Try.prog 4 #[.slice a n c, .int .i64 k] w fun e w' => e = .returned (.bool true) ∧ Below w.heap.size w w' := by
  go_enter Try.func4, Try.ntmps4
  go_wp2_with fail
  refine (bytes_no _ _ _ _ _ h).mono ?_
  rintro e w' ⟨rfl, rfl⟩
  go_wp2
  go_ret
  exact ⟨rfl, Below.refl _ _⟩

theorem walk_mid (a : Option Addr) (n c : Nat) (k : Int) (w : World) (h : n ≤ 1048576) (h2 : 65536 < n) : Calls Try.prog 4 #[.slice a n c, .int .i64 k] w fun e w' => e = .returned (.bool true) ∧ Below w.heap.size w w' := by
  go_enter Try.func4, Try.ntmps4
  go_wp2_with fail
  refine (bytes_yes _ _ _ _ _ h).mono ?_
  rintro e w' ⟨rfl, rfl⟩
  go_wp2
  go_ret
  exact ⟨rfl, Below.refl _ _⟩

theorem walk_out (a : Option Addr) (n c : Nat) (k : Int) (w : World) (h : n ≤ 65536) (hk : k < 1 ∨ (n : Int) ≤ k) : Calls Try.prog 4 #[.slice a n c, .int .i64 k] w fun e w' => e = .returned (.bool true) ∧ Below w.heap.size w w' := by
  rcases hk with hk | hk
  · go_enter Try.func4, Try.ntmps4
    go_wp2_with fail
    refine (bytes_yes _ _ _ _ _ (by omega)).mono ?_
    rintro e w' ⟨rfl, rfl⟩
    go_wp2
    go_ret
    exact ⟨rfl, Below.refl _ _⟩
  · by_cases h1 : k < 1
    · go_enter Try.func4, Try.ntmps4
      go_wp2_with fail
      refine (bytes_yes _ _ _ _ _ (by omega)).mono ?_
      rintro e w' ⟨rfl, rfl⟩
      go_wp2
      go_ret
      exact ⟨rfl, Below.refl _ _⟩
    · have q1 : decide (k < 1) = false := by rw [decide_eq_false_iff_not]; exact h1
      go_enter Try.func4, Try.ntmps4
      go_wp2_with fail
      refine (bytes_yes _ _ _ _ _ (by omega)).mono ?_
      rintro e w' ⟨rfl, rfl⟩
      go_wp2
      go_ret
      exact ⟨rfl, Below.refl _ _⟩

set_option maxHeartbeats 400000 in
theorem pow_any (m : Nat) (w : World) (hm : m ≤ 18) : Calls Try.prog 12 #[.int .i64 (m : Int)] w fun e w' => e = .returned (.int .i64 ((10 : Int) ^ m)) ∧ w' = w := by
  go_enter Try.func12, Try.ntmps12
  go_wp2
  go_loopg [3, 4] m (fun g p t wr => ∃ j : Nat, j ≤ m ∧ Hid (g = m - j) ∧ t = .int .i64 (j : Int) ∧ p = .int .i64 ((10 : Int) ^ j) ∧ wr = w)
  case atStart => exact ⟨0, by omega, rfl, rfl, rfl, rfl⟩
  case round =>
    obtain ⟨j, hj, HG, rfl, rfl, hwr⟩ := hrel
    subst hwr
    by_cases hlt : j < m
    · have HP : Hid ((10 : Int) ^ (j + 1) = 10 ^ j * 10) := Int.pow_succ _ _
      have hp1 := pow_pos10 j
      have hp2 : (10 : Int) ^ j ≤ 100000000000000000 := by rw [← p17]; exact pow_le10 (by omega)
      generalize (10 : Int) ^ j = P at *
      go_wp2
      go_roundg (m - (j + 1))
      case measure => rw [HG.out]; omega
      case rel => exact ⟨j + 1, by omega, rfl, by go_num, by rw [HP.out], rfl⟩
    · obtain rfl : j = m := by omega
      go_wp2
      go_ret
      exact ⟨rfl, rfl⟩

theorem vl_cut (zs : List Int) (k : Nat) : vl zs 0 = vl (zs.take k) 0 * 10 ^ (zs.length - k) + vl (zs.drop k) 0 := by
  conv => lhs; rw [← List.take_append_drop k zs, vl_append, vl_shift, List.length_drop]

theorem okN_all {zs : List Int} {m : Nat} (ha : allD zs = true) (hl : zs.length = m) (h1 : 1 ≤ m) : okN zs = decide (m ≤ 18) := by
  unfold okN
  rw [ha, hl]
  simp [h1]

theorem cut_cells {zs : List Int} {n k B : Nat} {w : World} (h : Hid (∀ i, i < n → w.cell? ⟨B, 0 + i, none⟩ = some (.int .u8 (zs.getD i 0)))) :
    ∀ i, i < n - k → w.cell? ⟨B, k + i, none⟩ = some (.int .u8 ((zs.drop k).getD i 0)) := by
  intro i hi
  have := h.out (k + i) (by omega)
  rw [Nat.zero_add] at this
  rw [this]
  simp [List.getD]
theorem head_cells {zs : List Int} {n k B : Nat} {w : World} (h : Hid (∀ i, i < n → w.cell? ⟨B, 0 + i, none⟩ = some (.int .u8 (zs.getD i 0)))) (hk : k ≤ n) :
    ∀ i, i < k → w.cell? ⟨B, 0 + i, none⟩ = some (.int .u8 ((zs.take k).getD i 0)) := by
  intro i hi
  rw [h.out i (by omega)]
  simp [List.getD, hi]

set_option maxHeartbeats 2000000 in
theorem walk_some (b off n c k : Nat) (zs : List Int) (w : World) (hn : n ≤ 65536) (hnc : n ≤ c) (hz : zs.length = c) (hcell : ∀ i, i < zs.length → w.cell? ((⟨b, off, none⟩ : Addr).add i) = some (.int .u8 (zs.getD i 0))) (hk1 : 1 ≤ k) (hk2 : k < n) :
    Calls Try.prog 4 #[.slice (some ⟨b, off, none⟩) n c, .int .i64 (k : Int)] w fun e w' => e = .returned (.bool true) ∧ Below w.heap.size w w' := by
  have q := q22
  have qk1 : decide ((k : Int) < 1) = false := by rw [decide_eq_false_iff_not]; omega
  have qk2 : decide ((n : Int) ≤ (k : Int)) = false := by rw [decide_eq_false_iff_not]; omega
  obtain ⟨i0, hi, hz0, hz1, hz2⟩ := info_parts info5
  have HZ : Hid (n ≤ zs.length) := by show n ≤ zs.length; omega
  have HC : Hid (∀ i, i < zs.length → w.cell? ((⟨b, off, none⟩ : Addr).add i) = some (.int .u8 (zs.getD i 0))) := hcell
  obtain ⟨ys, hys⟩ : ∃ ys, ys = zs.take n := ⟨_, rfl⟩
  have HN : Hid (ys.length = n) := by show ys.length = n; have := HZ.out; rw [hys]; simp; omega
  have HX : Hid (∀ i, i < n → w.cell? ⟨b, off + i, none⟩ = some (.int .u8 (ys.getD i 0))) := by
    intro i hi
    have := hcell i (by omega)
    rw [show (⟨b, off, none⟩ : Addr).add i = ⟨b, off + i, none⟩ from by cases i <;> simp [Addr.add]] at this
    rw [this, hys]
    simp [List.getD, hi]
  have HYS : Hid (ys = zs.take n) := hys
  clear hcell hz hys
  cases ha : allD ys with
  | false =>
    have HA : Hid (allD ys = false) := ha
    clear ha
    go_enter Try.func4, Try.ntmps4
    go_wp2_with fail
    refine (bytes_yes _ _ _ _ _ (by omega)).mono ?_
    rintro e w' ⟨rfl, hw⟩
    obtain rfl := hw.symm
    clear hw
    go_wp2_with fail
    refine (allD_any b off n c ys _ HN (by omega) HX.out).mono ?_
    rintro e w' ⟨rfl, hw⟩
    obtain rfl := hw.symm
    clear hw
    rw [HA.out]
    go_wp2
    go_ret
    exact ⟨rfl, Below.refl _ _⟩
  | true =>
    have HA : Hid (allD ys = true) := ha
    clear ha
    go_enter Try.func4, Try.ntmps4
    go_wp2_with fail
    refine (bytes_yes _ _ _ _ _ (by omega)).mono ?_
    rintro e w' ⟨rfl, hw⟩
    obtain rfl := hw.symm
    clear hw
    go_wp2_with fail
    refine (allD_any b off n c ys _ HN (by omega) HX.out).mono ?_
    rintro e w' ⟨rfl, hw⟩
    obtain rfl := hw.symm
    clear hw
    rw [HA.out]
    go_wp2_with (at_make; refine wpList_make_full _ rfl (.tmp 33) (.tmp 33) 22 rfl _ 5 i0 (.int .u8 0) 1 Try.underlying22 hi hz0 hz1 .i64 .i64 _ _ n rfl rfl rfl rfl (by rw [hz2]; omega) (by unfold maxLen; omega) (Nat.le_refl _) ?_)
    intro w1 hown hgrow
    obtain ⟨cur, hcur, HG, hB⟩ := made_of_owns hown hgrow
    clear hown hgrow hi hz0 hz1 hz2
    have HC1 : Hid (∀ i, i < zs.length → w1.cell? ((⟨b, off, none⟩ : Addr).add i) = some (.int .u8 (zs.getD i 0))) := fun i h => (hB.cell (World.block_lt_of_cell? w _ (HC.out i h))).trans (HC.out i h)
    go_wp2_with (refine wpList_copy_bytes rfl (.tmp 35) (.tmp 36) 22 22 rfl 5 Try.underlying22 size5 n c n w.heap.size ⟨b, off, none⟩ rfl rfl cur hcur HG .u8 zs HZ.out HC1 w.heap.size hB (Nat.le_refl _) ?_)
    intro w2 HD hB2 _ _
    clear HC1 HC HG hB hcur cur q HX
    have HY : Hid (∀ i, i < n → w2.cell? ⟨w.heap.size, 0 + i, none⟩ = some (.int .u8 (ys.getD i 0))) := by
      intro i hi
      rw [Nat.zero_add, HD.out i hi, HYS.out]
      simp [List.getD, hi]
    clear HD HYS HZ
    have oW : okN ys = decide (n ≤ 18) := okN_all HA.out HN.out (by omega)
    have oA : okN (ys.take k) = decide (k ≤ 18) := okN_all (allD_take HA.out k) (by rw [List.length_take, HN.out]; omega) hk1
    have oB : okN (ys.drop k) = decide (n - k ≤ 18) := okN_all (allD_drop HA.out k) (by rw [List.length_drop, HN.out]) (by omega)
    have HOW := (show Hid (okN ys = decide (n ≤ 18)) from oW)
    have HOA := (show Hid (okN (ys.take k) = decide (k ≤ 18)) from oA)
    have HOB := (show Hid (okN (ys.drop k) = decide (n - k ≤ 18)) from oB)
    clear oW oA oB
    go_wp2_with fail
    refine (zzparse_any w.heap.size 0 n n ys _ HN (by omega) HY.out).mono ?_
    rintro e w' ⟨rfl, hw⟩
    obtain rfl := hw.symm
    clear hw
    obtain ⟨T, hT⟩ : ∃ T, num ys = T := ⟨_, rfl⟩
    rw [hT]
    have HT : Hid (num ys = T) := hT
    clear hT
    rw [HOW.out]
    go_wp2_with fail
    refine (zzparse_any w.heap.size 0 k n (ys.take k) _ (by show _ = _; rw [List.length_take, HN.out]; omega) (by omega) (head_cells HY (by omega))).mono ?_
    rintro e w' ⟨rfl, hw⟩
    obtain rfl := hw.symm
    clear hw
    obtain ⟨A, hA⟩ : ∃ A, num (ys.take k) = A := ⟨_, rfl⟩
    rw [hA]
    have HAn : Hid (num (ys.take k) = A) := hA
    clear hA
    rw [HOA.out]
    go_wp2_with fail
    refine (zzparse_any w.heap.size k (n - k) (n - k) (ys.drop k) _ (by show _ = _; rw [List.length_drop, HN.out]) (by omega) (cut_cells HY)).mono ?_
    rintro e w' ⟨rfl, hw⟩
    obtain rfl := hw.symm
    clear hw
    obtain ⟨Bv, hBv⟩ : ∃ Bv, num (ys.drop k) = Bv := ⟨_, rfl⟩
    rw [hBv]
    have HBn : Hid (num (ys.drop k) = Bv) := hBv
    clear hBv
    rw [HOB.out]
    by_cases h18 : n ≤ 18
    · have e1 : decide (n ≤ 18) = true := decide_eq_true h18
      have e2 : decide (k ≤ 18) = true := decide_eq_true (by omega)
      have e3 : decide (n - k ≤ 18) = true := decide_eq_true (by omega)
      have q2 : decide ((k : Int) ≤ 18) = true := by rw [decide_eq_true_eq]; omega
      have q3 : decide ((n : Int) - (k : Int) ≤ 18) = true := by rw [decide_eq_true_eq]; omega
      rw [e1, e2, e3]
      have hT : T = vl ys 0 := by rw [← HT.out]; exact num_yes (by rw [HOW.out]; exact e1)
      have hA : A = vl (ys.take k) 0 := by rw [← HAn.out]; exact num_yes (by rw [HOA.out]; exact e2)
      have hBv : Bv = vl (ys.drop k) 0 := by rw [← HBn.out]; exact num_yes (by rw [HOB.out]; exact e3)
      have hcut := vl_cut ys k
      rw [← hT, ← hA, ← hBv, HN.out] at hcut
      have bA := vl_bd _ (allD_take HA.out k)
      have bB := vl_bd _ (allD_drop HA.out k)
      have bT := vl_bd _ HA.out
      rw [← hA, List.length_take, HN.out] at bA
      rw [← hBv, List.length_drop, HN.out] at bB
      rw [← hT, HN.out] at bT
      have hp18 : (10 : Int) ^ n ≤ 1000000000000000000 := by rw [← p18]; exact pow_le10 h18
      have hpp := pow_pos10 (n - k)
      have hpk : (10 : Int) ^ (n - k) ≤ 1000000000000000000 := by rw [← p18]; exact pow_le10 (by omega)
      have HPW := (show Hid (∀ w' : World, Calls Try.prog 12 #[.int .i64 ((n - k : Nat) : Int)] w' fun e w'' => e = .returned (.int .i64 ((10 : Int) ^ (n - k))) ∧ w'' = w') from fun w' => pow_any (n - k) w' (by omega))
      have hap : 0 ≤ A * 10 ^ (n - k) := Int.mul_nonneg bA.1 (by omega)
      have hT0 : 0 ≤ T := bT.1
      have hT1 : T ≤ 1000000000000000000 := by omega
      have hA0 : 0 ≤ A := bA.1
      have hB0 : 0 ≤ Bv := bB.1
      have hB1 : Bv ≤ 1000000000000000000 := by omega
      have hap2 : A * 10 ^ (n - k) ≤ 1000000000000000000 := by omega
      have HCUT : Hid (T = A * 10 ^ (n - k) + Bv) := hcut
      have hnk : ((n - k : Nat) : Int) = (n : Int) - (k : Int) := by omega
      rw [hnk] at HPW
      clear hT hA hBv hcut bA bB bT hp18 e1 e2 e3 HT HAn HBn HOW HOA HOB hnk
      generalize (10 : Int) ^ (n - k) = P at *
      go_wp2_with fail
      refine (HPW.out _).mono ?_
      rintro e w' ⟨rfl, hw⟩
      obtain rfl := hw.symm
      clear hw
      have hq : (T == A * P + Bv) = true := by rw [beq_iff_eq]; exact HCUT.out
      go_wp2
      go_ret
      exact ⟨rfl, hB2⟩
    · have e1 : decide (n ≤ 18) = false := decide_eq_false h18
      have hT : T = 0 := by rw [← HT.out]; exact num_no (by rw [HOW.out]; exact e1)
      rw [e1, hT]
      clear HT hT e1 HAn HBn HOW HOA HOB
      by_cases hk18 : k ≤ 18
      · have e2 : decide (k ≤ 18) = true := decide_eq_true hk18
        have q2 : decide ((k : Int) ≤ 18) = true := by rw [decide_eq_true_eq]; omega
        by_cases hnk18 : n - k ≤ 18
        · have e3 : decide (n - k ≤ 18) = true := decide_eq_true hnk18
          have q3 : decide ((n : Int) - (k : Int) ≤ 18) = true := by rw [decide_eq_true_eq]; omega
          rw [e2, e3]
          clear e2 e3
          go_wp2
          go_ret
          exact ⟨rfl, hB2⟩
        · have e3 : decide (n - k ≤ 18) = false := decide_eq_false hnk18
          have q3 : decide ((n : Int) - (k : Int) ≤ 18) = false := by rw [decide_eq_false_iff_not]; omega
          rw [e2, e3]
          clear e2 e3
          go_wp2
          go_ret
          exact ⟨rfl, hB2⟩
      · have e2 : decide (k ≤ 18) = false := decide_eq_false hk18
        have q2 : decide ((k : Int) ≤ 18) = false := by rw [decide_eq_false_iff_not]; omega
        by_cases hnk18 : n - k ≤ 18
        · have e3 : decide (n - k ≤ 18) = true := decide_eq_true hnk18
          have q3 : decide ((n : Int) - (k : Int) ≤ 18) = true := by rw [decide_eq_true_eq]; omega
          rw [e2, e3]
          clear e2 e3
          go_wp2
          go_ret
          exact ⟨rfl, hB2⟩
        · have e3 : decide (n - k ≤ 18) = false := decide_eq_false hnk18
          have q3 : decide ((n : Int) - (k : Int) ≤ 18) = false := by rw [decide_eq_false_iff_not]; omega
          rw [e2, e3]
          clear e2 e3
          go_wp2
          go_ret
          exact ⟨rfl, hB2⟩

theorem walk (a0 : Option Addr) (len0 cap0 : Nat) (z0 : List Int) (a1 : Int) (w : World) (w0 : IsRow .u8 w a0 len0 cap0 z0) (w1 : (Lit.int .i64 a1).wf = true) :
    Calls Try.prog 4 #[.slice a0 len0 cap0, .int .i64 a1] w fun e w' => e = .returned (.bool true) ∧ Below w.heap.size w w' := by
  by_cases h1 : 1048576 < len0
  · exact walk_big _ _ _ _ _ h1
  by_cases h2 : 65536 < len0
  · exact walk_mid _ _ _ _ _ (by omega) h2
  by_cases h3 : a1 < 1 ∨ (len0 : Int) ≤ a1
  · exact walk_out _ _ _ _ _ (by omega) h3
  obtain ⟨k, rfl⟩ := Int.eq_ofNat_of_zero_le (show 0 ≤ a1 by omega)
  rcases w0 with ⟨rfl, rfl, rfl, rfl⟩ | ⟨x, rfl, hl, hm, hz, hc, _⟩
  · omega
  · have hx0 := hc 0 (by omega)
    obtain ⟨b, off, sp⟩ := x
    have hsp : sp = none := by
      cases sp with
      | none => rfl
      | some sp => simp [World.cell?, Addr.add] at hx0; split at hx0 <;> simp at hx0
    subst hsp
    exact walk_some b off len0 cap0 k z0 w (by omega) hl hz hc (by omega) (by omega)

/-! ### THE ROW's STEP: WRITTEN OUT: LEAVE IT -/
set_option maxRecDepth 100000 in
theorem lifted (os : Os) (started : os.Started) (H : Type) (enc : TypeId × Value → H) :
    ReturnsInHanded {} Try.checked os 4 .any (Rows.fnParseLengthSplitsAtAnyCutSpec.pre6 enc Try.prog Try.f4 Rows.fnParseLengthSplitsAtAnyCutRow.domain false) (Rows.fnParseLengthSplitsAtAnyCutSpec.post enc Try.prog Try.f4 false true false false) := by
  refine returnsInHanded_of_change (C := Try.checked) own started (by kernel_rfl) Try.func4
    (ChangeSpec.witness6 (enc := enc) (C := Try.checked) false ⟨#[], #[.slice none 0 0, .int .i64 0], []⟩ 8 (by kernel_rfl) (by kernel_rfl) (by kernel_rfl) (by kernel_rfl)) ?_
  intro W base args ds gs before hval0 hW hcnd _
  have hval : ∀ (j : Nat) t v, Try.f4.params[j]? = some t → args[j]? = some v → Value.okWide Try.prog W .any base t v := hval0
  have hW' := hW
  obtain ⟨p, q, hA0, hV, rfl, hfz, hnd⟩ := hW
  have hA : DataW.TrodAll enc Try.prog W 0 (fun _ => true) true Try.f4.params.toList args.toList ds p := hA0
  rw [Try.params4] at hA hval
  obtain ⟨v0, vs0, d0, ds0, p0, q0, hargs, rfl, rfl, h0, r0⟩ := trodAll_cons hA
  obtain ⟨v1, vs1, d1, ds1, p1, q1, rfl, rfl, rfl, h1, r1⟩ := trodAll_cons r0
  obtain ⟨rfl, rfl, rfl⟩ := trodAll_nil r1
  obtain rfl : args = #[v0, v1] := by cases args; simp_all
  obtain ⟨rfl, rfl⟩ := trodVars_none hV
  obtain ⟨a0, len0, cap0, rfl⟩ := okWide_slice Try.underlying22 (hval 0 22 v0 rfl rfl)
  have k0 := h0
  have lt0 : ∀ x ∈ p0, x.block < W.heap.size := by obtain ⟨m, hm⟩ := k0; exact DataW.trod_lt m _ _ _ hm
  obtain ⟨z0, w0⟩ : ∃ zs, IsRow .u8 W a0 len0 cap0 zs := by
    obtain ⟨fuel, hf⟩ := h0
    rcases open_ints Try.underlying22 Try.underlying5 (by kernel_rfl) hf with ⟨hcs, _⟩ | ⟨x, l, c, zs, hcs, _, hl, hm, hz, _, hcell, hwz⟩
    · simp [Value.cells] at hcs
      obtain ⟨rfl, rfl, rfl⟩ := hcs
      exact ⟨[], .inl ⟨rfl, rfl, rfl, rfl⟩⟩
    · simp [Value.cells] at hcs
      obtain ⟨rfl, rfl, rfl⟩ := hcs
      exact ⟨zs, .inr ⟨_, rfl, hl, hm, by simpa using hz, hcell, hwz⟩⟩
  obtain ⟨a1, rfl, rfl, rfl, w1⟩ := open_int Try.underlying3 (hval 1 3 v1 rfl rfl) h1
  clear hA0 hval0
  refine (walk a0 len0 cap0 z0 a1 W w0 w1).mono fun e W' ⟨he, bel⟩ => ?_
  subst he
  exact ⟨_, rfl, _, _, _, [], _, [], hW', trodAll_mk1 (shut_bool Try.underlying4 _), (trodAll_cons_mk (Below.trod laidOut (by kernel_rfl) (of_decide_eq_true (by kernel_rfl)) k0 bel lt0) (trodAll_cons_mk (shut_int Try.underlying3 w1) trodAll_mk0)), rfl, bel.frame _, fun h => by cases h⟩

theorem over : Rows.fnParseLengthSplitsAtAnyCutRow.holds Try.pinned (OpenSpec.ofChange Rows.fnParseLengthSplitsAtAnyCutSpec) :=
  OpenClaim.holds_of_wide 4 Try.f4 rfl rfl rfl rfl rfl rfl rfl ⟨rfl, rfl, rfl, rfl, rfl⟩ rfl rfl rfl rfl rfl (by kernel_rfl) Try.func4 (by kernel_rfl)
    (of_decide_eq_true (by kernel_rfl)) (by unfold Func.isWrapper; first | (rw [if_pos (by decide +kernel)]; kernel_rfl) | (rw [if_neg (by decide +kernel)]; exact ⟨rfl, rfl⟩))
    (fun os started H enc _ => lifted os started H enc)

/-- ████ THE STATEMENT ████ -/
theorem proved : Rows.FnParseLengthSplitsAtAnyCutSaid := over
end Go.Proofs.Qxb6617945a.fnParseLengthSplitsAtAnyCut
