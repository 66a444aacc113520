/-
  THE PROOF OF 'Rows.FnParseLengthIsPositionalValueSaid'. The frame is the kit's shell; the walk is ours.
-/
import Derived.Test.Qxb6617945aRows
import Derived.WalkKit
import Derived.ProofKit
import Derived.OpenShut
import Derived.ShutString
import Derived.ChangeOld
import Derived.Below
import Derived.WalkSpells
import Derived.Test.Qxb6617945aParse
import Derived.Test.Qxb6617945aCopy
namespace Go.Proofs.Qxb6617945a.fnParseLengthIsPositionalValue
open Go.ChangeShapes Go.WideShapes Go.ChangeAt Go.RowKit
open Go.ChangeMaps (open_string shut_string)
set_option linter.unusedVariables false

theorem own : ownKnob Try.prog.godebug = none := by kernel_rfl
theorem laidOut : laidOutB Try.prog = true := by kernel_rfl

/-- WHAT THE WALK IS TOLD OF A SLICE OF INTEGERS THAT CAME IN: it is nil; or it leads to a row of 'cap' cells, the numbers 'zs' (the first 'len' are its elements, the rest its spare room), each fitting its kind. -/
def IsRow (k : IntKind) (w : World) (a : Option Addr) (len cap : Nat) (zs : List Int) : Prop :=
  (a = none ∧ len = 0 ∧ cap = 0 ∧ zs = []) ∨
  ∃ x, a = some x ∧ len ≤ cap ∧ cap ≤ maxLen ∧ zs.length = cap ∧ (∀ i, i < zs.length → w.cell? (x.add i) = some (.int k (zs.getD i 0))) ∧ ∀ n ∈ zs, (Lit.int k n).wf = true

open Go.Proofs.Qxb6617945a.Pl Go.Proofs.Qxb6617945a.Wk Go.Proofs.Qxb6617945a.Cp

theorem info5 : (Try.prog.info? 5).map (fun i => (i.zero, i.size, i.bytes)) = some (some (.int .u8 0), 1, 1) := by kernel_rfl
theorem size5 : (Try.prog.info? 5).map (·.size) = some 1 := by kernel_rfl
theorem q22 (w : World) (a : Option Addr) (n c : Nat) : (binOp .neq 22 (.slice a n c) (.slice none 0 0)).run Try.prog w = .ok (.bool (!a.isNone)) w := run_neq_slice_nil_any w 22 5 a n c 0 0 Try.underlying22

theorem bytes_yes (a : Option Addr) (n c : Nat) (w : World) (h : n ≤ 1048576) : Calls Try.prog 8 #[.slice a n c] w fun e w' => e = .returned (.bool true) ∧ w' = w := by
  go_enter Try.func8, Try.ntmps8
  go_wp2
  go_ret
  exact ⟨rfl, rfl⟩

theorem bytes_no (a : Option Addr) (n c : Nat) (w : World) (h : 1048576 < n) : Calls Try.prog 8 #[.slice a n c] w fun e w' => e = .returned (.bool false) ∧ w' = w := by
  go_enter Try.func8, Try.ntmps8
  go_wp2
  go_ret
  exact ⟨rfl, rfl⟩

theorem walk_big (a : Option Addr) (n c : Nat) (w : World) (h : 1048576 < n) : Calls Try.prog 3 #[.slice a n c] w fun e w' => e = .returned (.bool true) ∧ Below w.heap.size w w' := by
  go_enter Try.func3, Try.ntmps3
  go_wp2_with fail
  refine (bytes_no _ _ _ _ h).mono ?_
  rintro e w' ⟨rfl, rfl⟩
  go_wp2
  go_ret
  exact ⟨rfl, Below.refl _ _⟩

theorem walk_mid (a : Option Addr) (n c : Nat) (w : World) (h : n ≤ 1048576) (h2 : 65536 < n) : Calls Try.prog 3 #[.slice a n c] w fun e w' => e = .returned (.bool true) ∧ Below w.heap.size w w' := by
  go_enter Try.func3, Try.ntmps3
  go_wp2_with fail
  refine (bytes_yes _ _ _ _ h).mono ?_
  rintro e w' ⟨rfl, rfl⟩
  go_wp2
  go_ret
  exact ⟨rfl, Below.refl _ _⟩

theorem walk_nil (w : World) : Calls Try.prog 3 #[.slice none 0 0] w fun e w' => e = .returned (.bool true) ∧ Below w.heap.size w w' := by
  have q := q22
  go_enter Try.func3, Try.ntmps3
  go_wp2_with fail
  refine (bytes_yes _ _ _ _ (by omega)).mono ?_
  rintro e w' ⟨rfl, rfl⟩
  go_wp2_with fail
  refine (zzparse_none _ _ _).mono ?_
  rintro e w' ⟨rfl, rfl⟩
  go_wp2
  go_ret
  exact ⟨rfl, Below.refl _ _⟩

set_option maxHeartbeats 1000000 in
theorem walk_some (x : Addr) (n c : Nat) (zs : List Int) (w : World) (hn : n ≤ 65536) (hnc : n ≤ c) (hz : zs.length = c) (hcell : ∀ i, i < zs.length → w.cell? (x.add i) = some (.int .u8 (zs.getD i 0))) :
    Calls Try.prog 3 #[.slice (some x) n c] w fun e w' => e = .returned (.bool true) ∧ Below w.heap.size w w' := by
  have q := q22
  obtain ⟨i0, hi, hz0, hz1, hz2⟩ := info_parts info5
  have HZ : Hid (n ≤ zs.length) := by show n ≤ zs.length; omega
  have HC : Hid (∀ i, i < zs.length → w.cell? (x.add i) = some (.int .u8 (zs.getD i 0))) := hcell
  clear hcell hz
  go_enter Try.func3, Try.ntmps3
  go_wp2_with fail
  refine (bytes_yes _ _ _ _ (by omega)).mono ?_
  rintro e w' ⟨rfl, hw⟩
  obtain rfl := hw.symm
  clear hw
  go_wp2_with (at_make; refine wpList_make_full _ rfl (.tmp 18) (.tmp 18) 22 rfl _ 5 i0 (.int .u8 0) 1 Try.underlying22 hi hz0 hz1 .i64 .i64 _ _ n rfl rfl rfl rfl (by rw [hz2]; omega) (by unfold maxLen; omega) (Nat.le_refl _) ?_)
  intro w1 hown hgrow
  obtain ⟨cur, hcur, HG, hB⟩ := made_of_owns hown hgrow
  clear hown hgrow hi hz0 hz1 hz2
  have HC1 : Hid (∀ i, i < zs.length → w1.cell? (x.add i) = some (.int .u8 (zs.getD i 0))) := fun i h => (hB.cell (World.block_lt_of_cell? w _ (HC.out i h))).trans (HC.out i h)
  go_wp2_with (refine wpList_copy_bytes rfl (.tmp 20) (.tmp 21) 22 22 rfl 5 Try.underlying22 size5 n c n w.heap.size x rfl rfl cur hcur HG .u8 zs HZ.out HC1 w.heap.size hB (Nat.le_refl _) ?_)
  intro w2 HD hB2 _ _
  clear HC1 HC HG hB hcur cur q
  obtain ⟨ys, hys⟩ : ∃ ys, ys = zs.take n := ⟨_, rfl⟩
  have HN : Hid (ys.length = n) := by show ys.length = n; have := HZ.out; rw [hys]; simp; omega
  have HY : Hid (∀ i, i < n → w2.cell? ⟨w.heap.size, 0 + i, none⟩ = some (.int .u8 (ys.getD i 0))) := by
    intro i hi
    rw [Nat.zero_add, HD.out i hi, hys]
    simp [List.getD, hi]
  clear HD hys HZ
  go_wp2_with fail
  refine (zzparse_any w.heap.size 0 n n ys _ HN (by omega) HY.out).mono ?_
  rintro e w' ⟨rfl, hw⟩
  obtain rfl := hw.symm
  clear hw
  by_cases h0 : n = 0
  · have ho : okN ys = false := okN_no (.inl (by rw [HN.out]; exact h0))
    rw [num_no ho, ho]
    subst h0
    clear ho
    go_wp2
    go_ret
    exact ⟨rfl, hB2⟩
  have hq0 : ((n : Int) == 0) = false := by rw [beq_eq_false_iff_ne]; omega
  by_cases h1 : 18 < n
  · have ho : okN ys = false := okN_no (.inr (.inl (by rw [HN.out]; exact h1)))
    rw [num_no ho, ho]
    clear ho h0
    go_wp2
    go_ret
    exact ⟨rfl, hB2⟩
  have hq1 : decide (18 < (n : Int)) = false := by rw [decide_eq_false_iff_not]; omega
  cases ha : allD ys with
  | false =>
    have HA : Hid (allD ys = false) := ha
    have ho : okN ys = false := okN_no (.inr (.inr ha))
    rw [num_no ho, ho]
    clear ho ha h0
    go_wp2_with (go_at_call 10; refine (allD_any w.heap.size 0 n n ys _ HN (by omega) HY.out).mono ?_; rintro e w' ⟨rfl, hw⟩; obtain rfl := hw.symm; clear hw; rw [HA.out])
    go_ret
    exact ⟨rfl, hB2⟩
  | true =>
    have HA : Hid (allD ys = true) := ha
    have ho : okN ys = true := okN_yes (by rw [HN.out]; omega) (by rw [HN.out]; omega) ha
    rw [num_yes ho, ho]
    clear ho ha
    obtain ⟨T, hT⟩ : ∃ T, vl ys 0 = T := ⟨_, rfl⟩
    rw [hT]
    have HT : Hid (vl ys 0 = T) := hT
    clear hT
    have hn1 : 1 ≤ n := by omega
    have hn18 : n ≤ 18 := by omega
    clear h0 h1
    go_wp2_with (go_at_call 10; refine (allD_any w.heap.size 0 n n ys _ HN (by omega) HY.out).mono ?_; rintro e w' ⟨rfl, hw⟩; obtain rfl := hw.symm; clear hw; rw [HA.out])
    go_loopg [6, 7, 8] n (fun g a p t wr => ∃ j : Nat, j ≤ n ∧ Hid (g = n - j) ∧ t = .int .i64 ((n : Int) - 1 - (j : Int)) ∧ a = .int .i64 (vl (ys.drop (n - j)) 0) ∧ p = .int .i64 ((10 : Int) ^ j) ∧ wr = w2)
    case atStart => exact ⟨0, by omega, rfl, by go_num, by rw [Nat.sub_zero, List.drop_eq_nil_of_le (by rw [HN.out]; exact Nat.le_refl _)]; rfl, rfl, rfl⟩
    case round =>
      obtain ⟨j, hj, HG, rfl, rfl, rfl, hwr⟩ := hrel
      subst hwr
      by_cases hjn : j < n
      · have hstep := vl_drop ys (n - 1 - j) (by rw [HN.out]; omega)
        rw [HN.out, show n - (n - 1 - j) - 1 = j from by omega, show n - 1 - j + 1 = n - j from by omega] at hstep
        have hci := HY.out (n - 1 - j) (by omega)
        have hdz := allD_get HA.out (i := n - 1 - j) (by rw [HN.out]; omega)
        obtain ⟨z, hz⟩ : ∃ z, ys.getD (n - 1 - j) 0 = z := ⟨_, rfl⟩
        rw [hz] at hci hstep hdz
        clear hz
        have hb1 := vl_bd _ (allD_drop HA.out (n - j))
        rw [List.length_drop, HN.out, show n - (n - j) = j from by omega] at hb1
        have hp1 := pow_pos10 j
        have hp2 : (10 : Int) ^ j ≤ 100000000000000000 := by rw [← p17]; exact pow_le10 (by omega)
        have HP : Hid ((10 : Int) ^ (j + 1) = 10 ^ j * 10) := Int.pow_succ _ _
        rw [Nat.zero_add] at hci
        obtain ⟨A, hA⟩ : ∃ A, vl (ys.drop (n - j)) 0 = A := ⟨_, rfl⟩
        rw [hA] at hstep hb1 ⊢
        have HS : Hid (vl (ys.drop (n - (j + 1))) 0 = (z - 48) * 10 ^ j + A) := by show _ = _; rw [show n - (j + 1) = n - 1 - j from by omega]; exact hstep
        clear hA hstep
        generalize (10 : Int) ^ j = P at *
        have t0 : 0 ≤ (z - 48) * P := Int.mul_nonneg (by omega) (by omega)
        have t1 : (z - 48) * P ≤ 9 * P := Int.mul_le_mul_of_nonneg_right (by omega) (by omega)
        have hA0 : 0 ≤ A := hb1.1
        have hA1 : A ≤ 100000000000000000 := by omega
        have hz48 : 48 ≤ z := hdz.1
        have hz57 : z ≤ 57 := hdz.2
        have hge : (0 : Int) ≤ (n : Int) - 1 - (j : Int) := by omega
        obtain ⟨i, hie⟩ : ∃ i : Nat, n - 1 - j = i := ⟨_, rfl⟩
        have hii : (n : Int) - 1 - (j : Int) = (i : Int) := by omega
        have HII : Hid (n = i + j + 1) := by show n = i + j + 1; omega
        rw [hie] at hci
        rw [hii]
        have hilt : i < n := by omega
        clear hii hie hge hdz hb1
        go_wp2
        go_roundg (n - (j + 1))
        case measure => rw [HG.out]; omega
        case rel => exact ⟨j + 1, by omega, rfl, by have := HII.out; go_num, by rw [HS.out]; go_num, by rw [HP.out], rfl⟩
      · obtain rfl : j = n := by omega
        have e : vl (ys.drop (j - j)) 0 = T := by rw [Nat.sub_self, List.drop_zero]; exact HT.out
        rw [e]
        clear e
        generalize (10 : Int) ^ j = P at *
        go_wp2
        go_ret
        exact ⟨by simp, hB2⟩

theorem walk (a0 : Option Addr) (len0 cap0 : Nat) (z0 : List Int) (w : World) (w0 : IsRow .u8 w a0 len0 cap0 z0) :
    Calls Try.prog 3 #[.slice a0 len0 cap0] w fun e w' => e = .returned (.bool true) ∧ Below w.heap.size w w' := by
  rcases w0 with ⟨rfl, rfl, rfl, rfl⟩ | ⟨x, rfl, hl, hm, hz, hc, _⟩
  · exact walk_nil w
  · by_cases h1 : 1048576 < len0
    · exact walk_big _ _ _ _ h1
    by_cases h2 : 65536 < len0
    · exact walk_mid _ _ _ _ (by omega) h2
    · exact walk_some x len0 cap0 z0 w (by omega) hl hz hc

/-! ### THE ROW's STEP: WRITTEN OUT: LEAVE IT -/
set_option maxRecDepth 100000 in
theorem lifted (os : Os) (started : os.Started) (H : Type) (enc : TypeId × Value → H) :
    ReturnsInHanded {} Try.checked os 3 .any (Rows.fnParseLengthIsPositionalValueSpec.pre6 enc Try.prog Try.f3 Rows.fnParseLengthIsPositionalValueRow.domain false) (Rows.fnParseLengthIsPositionalValueSpec.post enc Try.prog Try.f3 false true false false) := by
  refine returnsInHanded_of_change (C := Try.checked) own started (by kernel_rfl) Try.func3
    (ChangeSpec.witness6 (enc := enc) (C := Try.checked) false ⟨#[], #[.slice none 0 0], []⟩ 8 (by kernel_rfl) (by kernel_rfl) (by kernel_rfl) (by kernel_rfl)) ?_
  intro W base args ds gs before hval0 hW hcnd _
  have hval : ∀ (j : Nat) t v, Try.f3.params[j]? = some t → args[j]? = some v → Value.okWide Try.prog W .any base t v := hval0
  have hW' := hW
  obtain ⟨p, q, hA0, hV, rfl, hfz, hnd⟩ := hW
  have hA : DataW.TrodAll enc Try.prog W 0 (fun _ => true) true Try.f3.params.toList args.toList ds p := hA0
  rw [Try.params3] at hA hval
  obtain ⟨v0, vs0, d0, ds0, p0, q0, hargs, rfl, rfl, h0, r0⟩ := trodAll_cons hA
  obtain ⟨rfl, rfl, rfl⟩ := trodAll_nil r0
  obtain rfl : args = #[v0] := by cases args; simp_all
  obtain ⟨rfl, rfl⟩ := trodVars_none hV
  obtain ⟨a0, len0, cap0, rfl⟩ := okWide_slice Try.underlying22 (hval 0 22 v0 rfl rfl)
  have k0 := h0
  have lt0 : ∀ x ∈ p0, x.block < W.heap.size := by obtain ⟨m, hm⟩ := k0; exact DataW.trod_lt m _ _ _ hm
  obtain ⟨z0, w0⟩ : ∃ zs, IsRow .u8 W a0 len0 cap0 zs := by
    obtain ⟨fuel, hf⟩ := h0
    rcases open_ints Try.underlying22 Try.underlying5 (by kernel_rfl) hf with ⟨hcs, _⟩ | ⟨x, l, c, zs, hcs, _, hl, hm, hz, _, hcell, hwz⟩
    · simp [Value.cells] at hcs
      obtain ⟨rfl, rfl, rfl⟩ := hcs
      exact ⟨[], .inl ⟨rfl, rfl, rfl, rfl⟩⟩
    · simp [Value.cells] at hcs
      obtain ⟨rfl, rfl, rfl⟩ := hcs
      exact ⟨zs, .inr ⟨_, rfl, hl, hm, by simpa using hz, hcell, hwz⟩⟩
  clear hA0 hval0
  refine (walk a0 len0 cap0 z0 W w0).mono fun e W' ⟨he, bel⟩ => ?_
  subst he
  exact ⟨_, rfl, _, _, _, [], _, [], hW', trodAll_mk1 (shut_bool Try.underlying4 _), (trodAll_cons_mk (Below.trod laidOut (by kernel_rfl) (of_decide_eq_true (by kernel_rfl)) k0 bel lt0) trodAll_mk0), rfl, bel.frame _, fun h => by cases h⟩

theorem over : Rows.fnParseLengthIsPositionalValueRow.holds Try.pinned (OpenSpec.ofChange Rows.fnParseLengthIsPositionalValueSpec) :=
  OpenClaim.holds_of_wide 3 Try.f3 rfl rfl rfl rfl rfl rfl rfl ⟨rfl, rfl, rfl, rfl, rfl⟩ rfl rfl rfl rfl rfl (by kernel_rfl) Try.func3 (by kernel_rfl)
    (of_decide_eq_true (by kernel_rfl)) (by unfold Func.isWrapper; first | (rw [if_pos (by decide +kernel)]; kernel_rfl) | (rw [if_neg (by decide +kernel)]; exact ⟨rfl, rfl⟩))
    (fun os started H enc _ => lifted os started H enc)

/-- ████ THE STATEMENT ████ -/
theorem proved : Rows.FnParseLengthIsPositionalValueSaid := over
end Go.Proofs.Qxb6617945a.fnParseLengthIsPositionalValue
