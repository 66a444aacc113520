/-
  THE PROOF OF 'Rows.FnFirstItemFindsBracketAndFirstItemSaid'. The frame is the kit's shell; the walk is ours.
-/
import Derived.Test.Qxb6617909aRows
import Derived.WalkKit
import Derived.ProofKit
import Derived.OpenShut
import Derived.ShutString
import Derived.ChangeOld
import Derived.Below
import Derived.WalkSpells
import Derived.Test.Qxb6617909aScan
import Derived.Test.Qxb6617909aNext
import Derived.Deep.LoopGhost
import Derived.Test.Qxb6617909aCopy
namespace Go.Proofs.Qxb6617909a.fnFirstItemFindsBracketAndFirstItem
open Go.ChangeShapes Go.WideShapes Go.ChangeAt Go.RowKit
open Go.ChangeMaps (open_string shut_string)
set_option linter.unusedVariables false

theorem own : ownKnob Try.prog.godebug = none := by kernel_rfl
theorem laidOut : laidOutB Try.prog = true := by kernel_rfl

/-- WHAT THE WALK IS TOLD OF A SLICE OF INTEGERS THAT CAME IN: it is nil; or it leads to a row of 'cap' cells, the numbers 'zs' (the first 'len' are its elements, the rest its spare room), each fitting its kind. -/
def IsRow (k : IntKind) (w : World) (a : Option Addr) (len cap : Nat) (zs : List Int) : Prop :=
  (a = none ∧ len = 0 ∧ cap = 0 ∧ zs = []) ∨
  ∃ x, a = some x ∧ len ≤ cap ∧ cap ≤ maxLen ∧ zs.length = cap ∧ (∀ i, i < zs.length → w.cell? (x.add i) = some (.int k (zs.getD i 0))) ∧ ∀ n ∈ zs, (Lit.int k n).wf = true

theorem info5 : (Try.prog.info? 5).map (fun i => (i.zero, i.size, i.bytes)) = some (some (.int .u8 0), 1, 1) := by kernel_rfl
theorem size5 : (Try.prog.info? 5).map (·.size) = some 1 := by kernel_rfl

open Go.Proofs.Qxb6617909a.Pl Go.Proofs.Qxb6617909a.Wk Go.Proofs.Qxb6617909a.Cp

theorem q25 (w : World) (a : Option Addr) (n c : Nat) : (binOp .neq 25 (.slice a n c) (.slice none 0 0)).run Try.prog w = .ok (.bool (!a.isNone)) w := run_neq_slice_nil_any w 25 5 a n c 0 0 Try.underlying25

theorem bytes_yes (a : Option Addr) (n c : Nat) (w : World) (h : n ≤ 1048576) : Calls Try.prog 12 #[.slice a n c] w fun e w' => e = .returned (.bool true) ∧ w' = w := by
  go_enter Try.func12, Try.ntmps12
  go_wp2
  go_ret
  exact ⟨rfl, rfl⟩

theorem bytes_no (a : Option Addr) (n c : Nat) (w : World) (h : 1048576 < n) : Calls Try.prog 12 #[.slice a n c] w fun e w' => e = .returned (.bool false) ∧ w' = w := by
  go_enter Try.func12, Try.ntmps12
  go_wp2
  go_ret
  exact ⟨rfl, rfl⟩

theorem walk_big (a : Option Addr) (n c : Nat) (w : World) (h : 1048576 < n) : Calls Try.prog 4 #[.slice a n c] w fun e w' => e = .returned (.bool true) ∧ Below w.heap.size w w' := by
  go_enter Try.func4, Try.ntmps4
  go_wp2_with fail
  refine (bytes_no _ _ _ _ h).mono ?_
  rintro e w' ⟨rfl, rfl⟩
  go_wp2
  go_ret
  exact ⟨rfl, Below.refl _ _⟩

theorem walk_nil (w : World) : Calls Try.prog 4 #[.slice none 0 0] w fun e w' => e = .returned (.bool true) ∧ Below w.heap.size w w' := by
  have q := q25
  go_enter Try.func4, Try.ntmps4
  go_wp2_with fail
  refine (bytes_yes _ _ _ _ (by omega)).mono ?_
  rintro e w' ⟨rfl, rfl⟩
  go_wp2
  go_loop [5] (fun t => t = .int .i64 0) (fun _ => 0)
  case atStart => rfl
  case round =>
    subst hrel
    go_wp2
    go_ret
    exact ⟨rfl, Below.refl _ _⟩

theorem at1_yes {zs : List Int} {i j : Nat} (h : fin zs i j = true) : at1 zs i j = j + 1 := by unfold at1; rw [if_pos h]
theorem at1_no {zs : List Int} {i j : Nat} (h : fin zs i j = false) : at1 zs i j = j := by unfold at1; rw [h]; rfl

set_option maxHeartbeats 2000000 in
theorem walk_some (x : Addr) (n c : Nat) (zs : List Int) (w : World) (hn : n ≤ 1048576) (hnc : n ≤ c) (hz : zs.length = c) (hcell : ∀ i, i < zs.length → w.cell? (x.add i) = some (.int .u8 (zs.getD i 0))) :
    Calls Try.prog 4 #[.slice (some x) n c] w fun e w' => e = .returned (.bool true) ∧ Below w.heap.size w w' := by
  have q := q25
  obtain ⟨i0, hi, hz0, hz1, hz2⟩ := info_parts info5
  have HZ : Hid (n ≤ zs.length) := by show n ≤ zs.length; omega
  have HC : Hid (∀ i, i < zs.length → w.cell? (x.add i) = some (.int .u8 (zs.getD i 0))) := hcell
  clear hcell hz
  go_enter Try.func4, Try.ntmps4
  go_wp2_with fail
  refine (bytes_yes _ _ _ _ hn).mono ?_
  rintro e w' ⟨rfl, hw⟩
  obtain rfl := hw.symm
  clear hw
  go_wp2_with (at_make; refine wpList_make_full _ rfl (.tmp 25) (.tmp 25) 25 rfl _ 5 i0 (.int .u8 0) 1 Try.underlying25 hi hz0 hz1 .i64 .i64 _ _ n rfl rfl rfl rfl (by rw [hz2]; omega) (by unfold maxLen; omega) (Nat.le_refl _) ?_)
  intro w1 hown hgrow
  obtain ⟨cur, hcur, HG, hB⟩ := made_of_owns hown hgrow
  clear hown hgrow hi hz0 hz1 hz2
  have HC1 : Hid (∀ i, i < zs.length → w1.cell? (x.add i) = some (.int .u8 (zs.getD i 0))) := fun i h => (hB.cell (World.block_lt_of_cell? w _ (HC.out i h))).trans (HC.out i h)
  go_wp2_with (refine wpList_copy_bytes rfl (.tmp 27) (.tmp 28) 25 25 rfl 5 Try.underlying25 size5 n c n w.heap.size x rfl rfl cur hcur HG .u8 zs HZ.out HC1 w.heap.size hB (Nat.le_refl _) ?_)
  intro w2 HD hB2 _ _
  clear HC1 HC HG hB hcur cur q
  obtain ⟨ys, hys⟩ : ∃ ys, ys = zs.take n := ⟨_, rfl⟩
  have HN : Hid (ys.length = n) := by show ys.length = n; have := HZ.out; rw [hys]; simp; omega
  have HY : Hid (∀ i, i < n → w2.cell? ⟨w.heap.size, 0 + i, none⟩ = some (.int .u8 (ys.getD i 0))) := by
    intro i hi
    rw [Nat.zero_add, HD.out i hi, hys]
    simp [List.getD, hi]
  clear HD hys HZ
  go_wp2
  go_loop [5] (fun t => ∃ m : Nat, m ≤ n ∧ t = .int .i64 (m : Int) ∧ Hid (∀ i, 0 ≤ i → i < m → ws (ys.getD i 0) = true)) (fun t => n - (intOf t).toNat)
  case atStart => exact ⟨0, Nat.zero_le _, rfl, fun i h1 h2 => by omega⟩
  case round =>
    obtain ⟨m, hm, rfl, HA⟩ := hrel
    by_cases hlt : m < n
    · have hcell := HY.out m hlt
      rw [Nat.zero_add] at hcell
      obtain ⟨z, hz⟩ : ∃ z, ys.getD m 0 = z := ⟨_, rfl⟩
      rw [hz] at hcell
      have HZ : Hid (ys.getD m 0 = z) := hz
      clear hz
      cases hw : ws z with
      | true =>
        have HW : Hid (ws z = true) := hw
        clear hw
        go_wp2_with (go_at_call 13; refine (isWS_any _ _).mono ?_; rintro e w' ⟨rfl, rfl⟩; rw [HW.out])
        go_round
        case rel =>
          refine ⟨m + 1, by omega, by go_num, ?_⟩
          intro i h1 h2
          by_cases hik : i = m
          · subst hik; rw [HZ.out]; exact HW.out
          · exact HA.out i h1 (by omega)
        case measure => simp [intOf]; omega
      | false =>
        have HW : Hid (ws z = false) := hw
        have HS : Hid (Skips ys 0 m) := ⟨Nat.zero_le _, by rw [HN.out]; exact hm, HA.out, fun _ => by rw [HZ.out]; exact hw⟩
        clear hw HA
        have hbm : ((m : Int) == (n : Int)) = false := by rw [beq_eq_false_iff_ne]; omega
        by_cases hb : z = 91 ∨ z = 123
        · rcases hb with rfl | rfl
          all_goals
            go_wp2_with (go_at_call 13; refine (isWS_any _ _).mono ?_; rintro e w' ⟨rfl, hw⟩; obtain rfl := hw.symm; clear hw; rw [HW.out])
            go_loopg [8] (n - (m + 1)) (fun g t wr => ∃ j : Nat, m + 1 ≤ j ∧ j ≤ n ∧ Hid (g = n - j) ∧ t = .int .i64 (j : Int) ∧ Hid (∀ i, m + 1 ≤ i → i < j → ws (ys.getD i 0) = true) ∧ wr = w2)
            case atStart => exact ⟨m + 1, by omega, by omega, rfl, by go_num, fun i h1 h2 => by omega, rfl⟩
            case round =>
              obtain ⟨j, hj1, hj2, HG, rfl, HA, hwr⟩ := hrel
              subst hwr
              clear hcell HW
              by_cases hjn : j < n
              · have hcj := HY.out j hjn
                rw [Nat.zero_add] at hcj
                obtain ⟨y, hy⟩ : ∃ y, ys.getD j 0 = y := ⟨_, rfl⟩
                rw [hy] at hcj
                have HYJ : Hid (ys.getD j 0 = y) := hy
                clear hy
                cases hw : ws y with
                | true =>
                  have HW : Hid (ws y = true) := hw
                  clear hw
                  go_wp2_with (go_at_call 13; refine (isWS_any _ _).mono ?_; rintro e w' ⟨rfl, rfl⟩; rw [HW.out])
                  go_roundg (n - (j + 1))
                  case measure => rw [HG.out]; omega
                  case rel =>
                    refine ⟨j + 1, by omega, by omega, rfl, by go_num, ?_, rfl⟩
                    intro i h1 h2
                    by_cases hik : i = j
                    · subst hik; rw [HYJ.out]; exact HW.out
                    · exact HA.out i h1 (by omega)
                | false =>
                  have HW : Hid (ws y = false) := hw
                  have HS1 : Hid (Skips ys (m + 1) j) := ⟨hj1, by rw [HN.out]; exact hj2, HA.out, fun _ => by rw [HYJ.out]; exact hw⟩
                  clear hw HA
                  go_wp2_with (go_at_call 13; refine (isWS_any _ _).mono ?_; rintro e w' ⟨rfl, hw⟩; obtain rfl := hw.symm; clear hw; rw [HW.out])
                  refine (zzfirst_any w.heap.size 0 n n m _ ys _ HN (by omega) hlt HS HZ (by omega) (by omega) HY.out).mono ?_
                  rintro e w' ⟨j', rfl, hs1, hw⟩
                  obtain rfl := hw.symm
                  obtain rfl : j' = j := hs1.same HS1.out
                  clear hw hs1
                  have hfe := fin_yes HN.out hjn HZ.out HYJ.out
                  cases hf : fin ys m j' with
                  | true =>
                    have HF : Hid (fin ys m j' = true) := hf
                    rw [at1_yes hf]
                    rw [hf] at hfe
                    clear hf
                    have hyb := hfe.symm
                    rw [beq_iff_eq] at hyb
                    subst hyb
                    clear hfe
                    go_wp2_with fail
                    refine (zznext_any w.heap.size 0 n n m (m + 1) j' _ _ ys _ (by omega) HN (by omega) (by omega) HS1 HZ (by omega) (by omega) HY.out).mono ?_
                    rintro e w' ⟨nx, ok, rfl, h, hw⟩
                    obtain rfl := hw.symm
                    obtain ⟨rfl, rfl⟩ := h HF.out
                    rw [HF.out]
                    clear hw h
                    go_wp2
                    go_ret
                    exact ⟨rfl, hB2⟩
                  | false =>
                    have HF : Hid (fin ys m j' = false) := hf
                    rw [at1_no hf]
                    rw [hf] at hfe
                    clear hf
                    have hyb := hfe.symm
                    clear hfe
                    simp only [Int.reduceAdd] at hyb
                    go_wp2_with fail
                    refine (zznext_any w.heap.size 0 n n m (m + 1) j' _ _ ys _ (by omega) HN (by omega) (by omega) HS1 HZ (by omega) (by omega) HY.out).mono ?_
                    rintro e w' ⟨nx, ok, rfl, _, hw⟩
                    obtain rfl := hw.symm
                    rw [HF.out]
                    clear hw
                    go_wp2
                    go_ret
                    exact ⟨rfl, hB2⟩
              · have HS1 : Hid (Skips ys (m + 1) j) := ⟨hj1, by rw [HN.out]; exact hj2, HA.out, fun h => by rw [HN.out] at h; omega⟩
                clear HA
                go_wp2_with fail
                refine (zzfirst_any w.heap.size 0 n n m _ ys _ HN (by omega) hlt HS HZ (by omega) (by omega) HY.out).mono ?_
                rintro e w' ⟨j', rfl, hs1, hw⟩
                obtain rfl := hw.symm
                obtain rfl : j' = j := hs1.same HS1.out
                clear hw hs1
                have hf : fin ys m j' = false := fin_no HN.out hjn
                have HF : Hid (fin ys m j' = false) := hf
                rw [at1_no hf]
                rw [hf]
                clear hf
                go_wp2_with fail
                refine (zznext_any w.heap.size 0 n n m (m + 1) j' _ _ ys _ (by omega) HN (by omega) (by omega) HS1 HZ (by omega) (by omega) HY.out).mono ?_
                rintro e w' ⟨nx, ok, rfl, _, hw⟩
                obtain rfl := hw.symm
                rw [HF.out]
                clear hw
                go_wp2
                go_ret
                exact ⟨rfl, hB2⟩
        · have hb1 : (z != 91) = true := by simp; omega
          have hb2 : (z != 123) = true := by simp; omega
          clear hb
          go_wp2_with (go_at_call 13; refine (isWS_any _ _).mono ?_; rintro e w' ⟨rfl, rfl⟩; rw [HW.out])
          go_ret
          exact ⟨rfl, hB2⟩
    · go_wp2
      go_ret
      exact ⟨rfl, hB2⟩

theorem walk (a0 : Option Addr) (len0 cap0 : Nat) (z0 : List Int) (w : World) (w0 : IsRow .u8 w a0 len0 cap0 z0) :
    Calls Try.prog 4 #[.slice a0 len0 cap0] w fun e w' => e = .returned (.bool true) ∧ Below w.heap.size w w' := by
  rcases w0 with ⟨rfl, rfl, rfl, rfl⟩ | ⟨x, rfl, hl, hm, hz, hc, _⟩
  · exact walk_nil w
  · by_cases hb : len0 ≤ 1048576
    · exact walk_some x len0 cap0 z0 w hb hl hz hc
    · exact walk_big _ _ _ _ (by omega)

/-! ### THE ROW's STEP: WRITTEN OUT: LEAVE IT -/
set_option maxRecDepth 100000 in
theorem lifted (os : Os) (started : os.Started) (H : Type) (enc : TypeId × Value → H) :
    ReturnsInHanded {} Try.checked os 4 .any (Rows.fnFirstItemFindsBracketAndFirstItemSpec.pre6 enc Try.prog Try.f4 Rows.fnFirstItemFindsBracketAndFirstItemRow.domain false) (Rows.fnFirstItemFindsBracketAndFirstItemSpec.post enc Try.prog Try.f4 false true false false) := by
  refine returnsInHanded_of_change (C := Try.checked) own started (by kernel_rfl) Try.func4
    (ChangeSpec.witness6 (enc := enc) (C := Try.checked) false ⟨#[], #[.slice none 0 0], []⟩ 8 (by kernel_rfl) (by kernel_rfl) (by kernel_rfl) (by kernel_rfl)) ?_
  intro W base args ds gs before hval0 hW hcnd _
  have hval : ∀ (j : Nat) t v, Try.f4.params[j]? = some t → args[j]? = some v → Value.okWide Try.prog W .any base t v := hval0
  have hW' := hW
  obtain ⟨p, q, hA0, hV, rfl, hfz, hnd⟩ := hW
  have hA : DataW.TrodAll enc Try.prog W 0 (fun _ => true) true Try.f4.params.toList args.toList ds p := hA0
  rw [Try.params4] at hA hval
  obtain ⟨v0, vs0, d0, ds0, p0, q0, hargs, rfl, rfl, h0, r0⟩ := trodAll_cons hA
  obtain ⟨rfl, rfl, rfl⟩ := trodAll_nil r0
  obtain rfl : args = #[v0] := by cases args; simp_all
  obtain ⟨rfl, rfl⟩ := trodVars_none hV
  obtain ⟨a0, len0, cap0, rfl⟩ := okWide_slice Try.underlying25 (hval 0 25 v0 rfl rfl)
  have k0 := h0
  have lt0 : ∀ x ∈ p0, x.block < W.heap.size := by obtain ⟨m, hm⟩ := k0; exact DataW.trod_lt m _ _ _ hm
  obtain ⟨z0, w0⟩ : ∃ zs, IsRow .u8 W a0 len0 cap0 zs := by
    obtain ⟨fuel, hf⟩ := h0
    rcases open_ints Try.underlying25 Try.underlying5 (by kernel_rfl) hf with ⟨hcs, _⟩ | ⟨x, l, c, zs, hcs, _, hl, hm, hz, _, hcell, hwz⟩
    · simp [Value.cells] at hcs
      obtain ⟨rfl, rfl, rfl⟩ := hcs
      exact ⟨[], .inl ⟨rfl, rfl, rfl, rfl⟩⟩
    · simp [Value.cells] at hcs
      obtain ⟨rfl, rfl, rfl⟩ := hcs
      exact ⟨zs, .inr ⟨_, rfl, hl, hm, by simpa using hz, hcell, hwz⟩⟩
  clear hA0 hval0
  refine (walk a0 len0 cap0 z0 W w0).mono fun e W' ⟨he, bel⟩ => ?_
  subst he
  exact ⟨_, rfl, _, _, _, [], _, [], hW', trodAll_mk1 (shut_bool Try.underlying4 _), (trodAll_cons_mk (Below.trod laidOut (by kernel_rfl) (of_decide_eq_true (by kernel_rfl)) k0 bel lt0) trodAll_mk0), rfl, bel.frame _, fun h => by cases h⟩

theorem over : Rows.fnFirstItemFindsBracketAndFirstItemRow.holds Try.pinned (OpenSpec.ofChange Rows.fnFirstItemFindsBracketAndFirstItemSpec) :=
  OpenClaim.holds_of_wide 4 Try.f4 rfl rfl rfl rfl rfl rfl rfl ⟨rfl, rfl, rfl, rfl, rfl⟩ rfl rfl rfl rfl rfl (by kernel_rfl) Try.func4 (by kernel_rfl)
    (of_decide_eq_true (by kernel_rfl)) (by unfold Func.isWrapper; first | (rw [if_pos (by decide +kernel)]; kernel_rfl) | (rw [if_neg (by decide +kernel)]; exact ⟨rfl, rfl⟩))
    (fun os started H enc _ => lifted os started H enc)

/-- ████ THE STATEMENT ████ -/
theorem proved : Rows.FnFirstItemFindsBracketAndFirstItemSaid := over
end Go.Proofs.Qxb6617909a.fnFirstItemFindsBracketAndFirstItem
