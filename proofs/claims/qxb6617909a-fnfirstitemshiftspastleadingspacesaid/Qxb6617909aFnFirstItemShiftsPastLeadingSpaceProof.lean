/-
  THE PROOF OF 'Rows.FnFirstItemShiftsPastLeadingSpaceSaid'. The frame is the kit's shell; the walk is ours.
-/
import Derived.Test.Qxb6617909aRows
import Derived.WalkKit
import Derived.ProofKit
import Derived.OpenShut
import Derived.ShutString
import Derived.ChangeOld
import Derived.Below
import Derived.WalkSpells
import Derived.Test.Qxb6617909aScan
import Derived.Test.Qxb6617909aCopy
namespace Go.Proofs.Qxb6617909a.fnFirstItemShiftsPastLeadingSpace
open Go.ChangeShapes Go.WideShapes Go.ChangeAt Go.RowKit
open Go.ChangeMaps (open_string shut_string)
set_option linter.unusedVariables false

theorem own : ownKnob Try.prog.godebug = none := by kernel_rfl
theorem laidOut : laidOutB Try.prog = true := by kernel_rfl

/-- WHAT THE WALK IS TOLD OF A SLICE OF INTEGERS THAT CAME IN: it is nil; or it leads to a row of 'cap' cells, the numbers 'zs' (the first 'len' are its elements, the rest its spare room), each fitting its kind. -/
def IsRow (k : IntKind) (w : World) (a : Option Addr) (len cap : Nat) (zs : List Int) : Prop :=
  (a = none ∧ len = 0 ∧ cap = 0 ∧ zs = []) ∨
  ∃ x, a = some x ∧ len ≤ cap ∧ cap ≤ maxLen ∧ zs.length = cap ∧ (∀ i, i < zs.length → w.cell? (x.add i) = some (.int k (zs.getD i 0))) ∧ ∀ n ∈ zs, (Lit.int k n).wf = true

theorem info5 : (Try.prog.info? 5).map (fun i => (i.zero, i.size, i.bytes)) = some (some (.int .u8 0), 1, 1) := by kernel_rfl
theorem size5 : (Try.prog.info? 5).map (·.size) = some 1 := by kernel_rfl

open Go.Proofs.Qxb6617909a.Pl Go.Proofs.Qxb6617909a.Wk Go.Proofs.Qxb6617909a.Cp

theorem q25 (w : World) (a : Option Addr) (n c : Nat) : (binOp .neq 25 (.slice a n c) (.slice none 0 0)).run Try.prog w = .ok (.bool (!a.isNone)) w := run_neq_slice_nil_any w 25 5 a n c 0 0 Try.underlying25

theorem bytes_yes (a : Option Addr) (n c : Nat) (k : Int) (w : World) (h : n ≤ 1048576) : Calls Try.prog 16 #[.slice a n c, .int .i64 k] w fun e w' => e = .returned (.bool true) ∧ w' = w := by
  go_enter Try.func16, Try.ntmps16
  go_wp2
  go_ret
  exact ⟨rfl, rfl⟩

theorem bytes_no (a : Option Addr) (n c : Nat) (k : Int) (w : World) (h : 1048576 < n) : Calls Try.prog 16 #[.slice a n c, .int .i64 k] w fun e w' => e = .returned (.bool false) ∧ w' = w := by
  go_enter Try.func16, Try.ntmps16
  go_wp2
  go_ret
  exact ⟨rfl, rfl⟩

theorem walk_big (a : Option Addr) (n c : Nat) (k : Int) (w : World) (h : 1048576 < n) : Calls Try.prog 5 #[.slice a n c, .int .i64 k] w fun e w' => e = .returned (.bool true) ∧ Below w.heap.size w w' := by
  go_enter Try.func5, Try.ntmps5
  go_wp2_with fail
  refine (bytes_no _ _ _ _ _ h).mono ?_
  rintro e w' ⟨rfl, rfl⟩
  go_wp2
  go_ret
  exact ⟨rfl, Below.refl _ _⟩

theorem walk_nil (k : Int) (w : World) : Calls Try.prog 5 #[.slice none 0 0, .int .i64 k] w fun e w' => e = .returned (.bool true) ∧ Below w.heap.size w w' := by
  have q := q25
  go_enter Try.func5, Try.ntmps5
  go_wp2_with fail
  refine (bytes_yes _ _ _ _ _ (by omega)).mono ?_
  rintro e w' ⟨rfl, rfl⟩
  go_wp2
  go_loop [7] (fun t => t = .int .i64 0) (fun _ => 0)
  case atStart => rfl
  case round =>
    subst hrel
    by_cases h0 : k < 0
    · go_wp2
      go_ret
      exact ⟨rfl, Below.refl _ _⟩
    · by_cases h1 : 0 < k
      · go_wp2
        go_ret
        exact ⟨rfl, Below.refl _ _⟩
      · go_wp2
        go_ret
        exact ⟨rfl, Below.refl _ _⟩

/-- WHAT THE LAW COMES TO IN PLAIN NUMBERS. -/
theorem plain (zs : List Int) (k lead j j2 : Nat) (hk : k ≤ lead) (h1 : Skips zs (lead + 1) j) (h2 : Skips (zs.drop k) (lead - k + 1) j2) :
    fin (zs.drop k) (lead - k) j2 = fin zs lead j ∧ ((at1 (zs.drop k) (lead - k) j2 : Nat) : Int) = (at1 zs lead j : Int) - k ∧ (lead : Int) < (at1 zs lead j : Int) := by
  have h3 := h1.cut (k := k) (by omega)
  rw [show lead + 1 - k = lead - k + 1 from by omega] at h3
  obtain rfl : j2 = j - k := h2.same h3
  have hj := h1.le
  have hf := fin_cut zs lead j k hk (by omega)
  refine ⟨hf, ?_, ?_⟩
  · unfold at1; rw [hf]; split <;> omega
  · unfold at1; split <;> omega

theorem at1_le (zs : List Int) (i j : Nat) (h : Skips zs (i + 1) j) : at1 zs i j ≤ zs.length + 1 := by
  have := h.top
  unfold at1
  split <;> omega
theorem cut_len {zs : List Int} {n k : Nat} (h : Hid (zs.length = n)) : Hid ((zs.drop k).length = n - k) := by
  show (zs.drop k).length = n - k
  rw [List.length_drop, h.out]
theorem cut_skips {zs : List Int} {m k : Nat} (h : Hid (Skips zs 0 m)) (hk : k ≤ m) : Hid (Skips (zs.drop k) 0 (m - k)) := by
  show Skips (zs.drop k) 0 (m - k)
  have := (h.out.later (Nat.zero_le k) hk).cut (Nat.le_refl k)
  rwa [Nat.sub_self] at this
theorem cut_at {zs : List Int} {m k : Nat} {z : Int} (h : Hid (zs.getD m 0 = z)) (hk : k ≤ m) : Hid ((zs.drop k).getD (m - k) 0 = z) := by
  show (zs.drop k).getD (m - k) 0 = z
  rw [getD_drop, show k + (m - k) = m from by omega]
  exact h.out
theorem cut_cells {zs : List Int} {n k B : Nat} {w : World} (h : Hid (∀ i, i < n → w.cell? ⟨B, 0 + i, none⟩ = some (.int .u8 (zs.getD i 0)))) (_hk : k ≤ n) :
    ∀ i, i < n - k → w.cell? ⟨B, k + i, none⟩ = some (.int .u8 ((zs.drop k).getD i 0)) := by
  intro i hi
  have := h.out (k + i) (by omega)
  rw [Nat.zero_add] at this
  rw [this, getD_drop]

set_option maxHeartbeats 1000000 in
theorem walk_some (x : Addr) (n c : Nat) (zs : List Int) (k : Int) (w : World) (hn : n ≤ 1048576) (hnc : n ≤ c) (hz : zs.length = c) (hcell : ∀ i, i < zs.length → w.cell? (x.add i) = some (.int .u8 (zs.getD i 0))) (k1 : -9223372036854775808 ≤ k) (k2 : k ≤ 9223372036854775807) :
    Calls Try.prog 5 #[.slice (some x) n c, .int .i64 k] w fun e w' => e = .returned (.bool true) ∧ Below w.heap.size w w' := by
  have q := q25
  obtain ⟨i0, hi, hz0, hz1, hz2⟩ := info_parts info5
  have HZ : Hid (n ≤ zs.length) := by show n ≤ zs.length; omega
  have HC : Hid (∀ i, i < zs.length → w.cell? (x.add i) = some (.int .u8 (zs.getD i 0))) := hcell
  clear hcell hz
  go_enter Try.func5, Try.ntmps5
  go_wp2_with fail
  refine (bytes_yes _ _ _ _ _ hn).mono ?_
  rintro e w' ⟨rfl, hw⟩
  obtain rfl := hw.symm
  clear hw
  go_wp2_with (at_make; refine wpList_make_full _ rfl (.tmp 25) (.tmp 25) 25 rfl _ 5 i0 (.int .u8 0) 1 Try.underlying25 hi hz0 hz1 .i64 .i64 _ _ n rfl rfl rfl rfl (by rw [hz2]; omega) (by unfold maxLen; omega) (Nat.le_refl _) ?_)
  intro w1 hown hgrow
  obtain ⟨cur, hcur, HG, hB⟩ := made_of_owns hown hgrow
  clear hown hgrow hi hz0 hz1 hz2
  have HC1 : Hid (∀ i, i < zs.length → w1.cell? (x.add i) = some (.int .u8 (zs.getD i 0))) := fun i h => (hB.cell (World.block_lt_of_cell? w _ (HC.out i h))).trans (HC.out i h)
  go_wp2_with (refine wpList_copy_bytes rfl (.tmp 27) (.tmp 28) 25 25 rfl 5 Try.underlying25 size5 n c n w.heap.size x rfl rfl cur hcur HG .u8 zs HZ.out HC1 w.heap.size hB (Nat.le_refl _) ?_)
  intro w2 HD hB2 _ _
  clear HC1 HC HG hB hcur cur q
  obtain ⟨ys, hys⟩ : ∃ ys, ys = zs.take n := ⟨_, rfl⟩
  have HN : Hid (ys.length = n) := by show ys.length = n; have := HZ.out; rw [hys]; simp; omega
  have HY : Hid (∀ i, i < n → w2.cell? ⟨w.heap.size, 0 + i, none⟩ = some (.int .u8 (ys.getD i 0))) := by
    intro i hi
    rw [Nat.zero_add, HD.out i hi, hys]
    simp [List.getD, hi]
  clear HD hys HZ
  go_wp2
  go_loop [7] (fun t => ∃ m : Nat, m ≤ n ∧ t = .int .i64 (m : Int) ∧ Hid (∀ i, 0 ≤ i → i < m → ws (ys.getD i 0) = true)) (fun t => n - (intOf t).toNat)
  case atStart => exact ⟨0, Nat.zero_le _, rfl, fun i h1 h2 => by omega⟩
  case round =>
    obtain ⟨m, hm, rfl, HA⟩ := hrel
    by_cases hlt : m < n
    · have hcell := HY.out m hlt
      rw [Nat.zero_add] at hcell
      obtain ⟨z, hz⟩ : ∃ z, ys.getD m 0 = z := ⟨_, rfl⟩
      rw [hz] at hcell
      have HZ : Hid (ys.getD m 0 = z) := hz
      clear hz
      cases hw : ws z with
      | true =>
        have HW : Hid (ws z = true) := hw
        clear hw
        go_wp2_with (go_at_call 13; refine (isWS_any _ _).mono ?_; rintro e w' ⟨rfl, rfl⟩; rw [HW.out])
        go_round
        case rel =>
          refine ⟨m + 1, by omega, by go_num, ?_⟩
          intro i h1 h2
          by_cases hik : i = m
          · subst hik; rw [HZ.out]; exact HW.out
          · exact HA.out i h1 (by omega)
        case measure => simp [intOf]; omega
      | false =>
        have HW : Hid (ws z = false) := hw
        have HS : Hid (Skips ys 0 m) := ⟨Nat.zero_le _, by rw [HN.out]; exact hm, HA.out, fun _ => by rw [HZ.out]; exact hw⟩
        clear hw
        by_cases h0 : k < 0
        · go_wp2_with (go_at_call 13; refine (isWS_any _ _).mono ?_; rintro e w' ⟨rfl, rfl⟩; rw [HW.out])
          go_ret
          exact ⟨rfl, hB2⟩
        by_cases h1 : (m : Int) < k
        · go_wp2_with (go_at_call 13; refine (isWS_any _ _).mono ?_; rintro e w' ⟨rfl, rfl⟩; rw [HW.out])
          go_ret
          exact ⟨rfl, hB2⟩
        obtain ⟨kn, rfl⟩ := Int.eq_ofNat_of_zero_le (show 0 ≤ k by omega)
        by_cases hb : z = 91 ∨ z = 123
        · rcases hb with rfl | rfl
          all_goals
            go_wp2_with (go_at_call 13; refine (isWS_any _ _).mono ?_; rintro e w' ⟨rfl, rfl⟩; rw [HW.out])
            refine (zzfirst_any w.heap.size 0 n n m _ ys _ HN (by omega) hlt HS HZ (by omega) (by omega) HY.out).mono ?_
            rintro e w' ⟨j, rfl, hs1, hw⟩
            obtain rfl := hw.symm
            clear hw
            have HS1 : Hid (Skips ys (m + 1) j) := hs1
            clear hs1
            go_wp2_with fail
            refine (zzfirst_any w.heap.size kn (n - kn) (n - kn) (m - kn) _ (ys.drop kn) _ (cut_len HN) (by omega) (by omega) (cut_skips HS (by omega)) (cut_at HZ (by omega)) (by omega) (by omega) (cut_cells HY (by omega))).mono ?_
            rintro e w' ⟨j2, rfl, hs2, hw⟩
            obtain rfl := hw.symm
            clear hw
            obtain ⟨hf, hp, hgt⟩ := plain ys kn m j j2 (by omega) HS1.out hs2
            have hbd := at1_le ys m j HS1.out
            rw [HN.out] at hbd
            rw [hf]
            clear hf hs2 HS1
            generalize at1 (ys.drop kn) (m - kn) j2 = P2 at *
            generalize at1 ys m j = P at *
            generalize fin ys m j = D at *
            cases D
            all_goals
              go_wp2
              go_ret
              exact ⟨rfl, hB2⟩
        · have hb1 : (z != 91) = true := by simp; omega
          have hb2 : (z != 123) = true := by simp; omega
          clear hb
          go_wp2_with (go_at_call 13; refine (isWS_any _ _).mono ?_; rintro e w' ⟨rfl, rfl⟩; rw [HW.out])
          go_ret
          exact ⟨rfl, hB2⟩
    · by_cases h0 : k < 0
      · go_wp2
        go_ret
        exact ⟨rfl, hB2⟩
      by_cases h1 : (m : Int) < k
      · go_wp2
        go_ret
        exact ⟨rfl, hB2⟩
      · go_wp2
        go_ret
        exact ⟨rfl, hB2⟩

theorem walk (a0 : Option Addr) (len0 cap0 : Nat) (z0 : List Int) (a1 : Int) (w : World) (w0 : IsRow .u8 w a0 len0 cap0 z0) (w1 : (Lit.int .i64 a1).wf = true) :
    Calls Try.prog 5 #[.slice a0 len0 cap0, .int .i64 a1] w fun e w' => e = .returned (.bool true) ∧ Below w.heap.size w w' := by
  rcases w0 with ⟨rfl, rfl, rfl, rfl⟩ | ⟨x, rfl, hl, hm, hz, hc, _⟩
  · exact walk_nil a1 w
  · by_cases hb : len0 ≤ 1048576
    · have hb1 := bounds_i64 w1
      exact walk_some x len0 cap0 z0 a1 w hb hl hz hc hb1.1 hb1.2
    · exact walk_big _ _ _ _ _ (by omega)

/-! ### THE ROW's STEP: WRITTEN OUT: LEAVE IT -/
set_option maxRecDepth 100000 in
theorem lifted (os : Os) (started : os.Started) (H : Type) (enc : TypeId × Value → H) :
    ReturnsInHanded {} Try.checked os 5 .any (Rows.fnFirstItemShiftsPastLeadingSpaceSpec.pre6 enc Try.prog Try.f5 Rows.fnFirstItemShiftsPastLeadingSpaceRow.domain false) (Rows.fnFirstItemShiftsPastLeadingSpaceSpec.post enc Try.prog Try.f5 false true false false) := by
  refine returnsInHanded_of_change (C := Try.checked) own started (by kernel_rfl) Try.func5
    (ChangeSpec.witness6 (enc := enc) (C := Try.checked) false ⟨#[], #[.slice none 0 0, .int .i64 0], []⟩ 8 (by kernel_rfl) (by kernel_rfl) (by kernel_rfl) (by kernel_rfl)) ?_
  intro W base args ds gs before hval0 hW hcnd _
  have hval : ∀ (j : Nat) t v, Try.f5.params[j]? = some t → args[j]? = some v → Value.okWide Try.prog W .any base t v := hval0
  have hW' := hW
  obtain ⟨p, q, hA0, hV, rfl, hfz, hnd⟩ := hW
  have hA : DataW.TrodAll enc Try.prog W 0 (fun _ => true) true Try.f5.params.toList args.toList ds p := hA0
  rw [Try.params5] at hA hval
  obtain ⟨v0, vs0, d0, ds0, p0, q0, hargs, rfl, rfl, h0, r0⟩ := trodAll_cons hA
  obtain ⟨v1, vs1, d1, ds1, p1, q1, rfl, rfl, rfl, h1, r1⟩ := trodAll_cons r0
  obtain ⟨rfl, rfl, rfl⟩ := trodAll_nil r1
  obtain rfl : args = #[v0, v1] := by cases args; simp_all
  obtain ⟨rfl, rfl⟩ := trodVars_none hV
  obtain ⟨a0, len0, cap0, rfl⟩ := okWide_slice Try.underlying25 (hval 0 25 v0 rfl rfl)
  have k0 := h0
  have lt0 : ∀ x ∈ p0, x.block < W.heap.size := by obtain ⟨m, hm⟩ := k0; exact DataW.trod_lt m _ _ _ hm
  obtain ⟨z0, w0⟩ : ∃ zs, IsRow .u8 W a0 len0 cap0 zs := by
    obtain ⟨fuel, hf⟩ := h0
    rcases open_ints Try.underlying25 Try.underlying5 (by kernel_rfl) hf with ⟨hcs, _⟩ | ⟨x, l, c, zs, hcs, _, hl, hm, hz, _, hcell, hwz⟩
    · simp [Value.cells] at hcs
      obtain ⟨rfl, rfl, rfl⟩ := hcs
      exact ⟨[], .inl ⟨rfl, rfl, rfl, rfl⟩⟩
    · simp [Value.cells] at hcs
      obtain ⟨rfl, rfl, rfl⟩ := hcs
      exact ⟨zs, .inr ⟨_, rfl, hl, hm, by simpa using hz, hcell, hwz⟩⟩
  obtain ⟨a1, rfl, rfl, rfl, w1⟩ := open_int Try.underlying3 (hval 1 3 v1 rfl rfl) h1
  clear hA0 hval0
  refine (walk a0 len0 cap0 z0 a1 W w0 w1).mono fun e W' ⟨he, bel⟩ => ?_
  subst he
  exact ⟨_, rfl, _, _, _, [], _, [], hW', trodAll_mk1 (shut_bool Try.underlying4 _), (trodAll_cons_mk (Below.trod laidOut (by kernel_rfl) (of_decide_eq_true (by kernel_rfl)) k0 bel lt0) (trodAll_cons_mk (shut_int Try.underlying3 w1) trodAll_mk0)), rfl, bel.frame _, fun h => by cases h⟩

theorem over : Rows.fnFirstItemShiftsPastLeadingSpaceRow.holds Try.pinned (OpenSpec.ofChange Rows.fnFirstItemShiftsPastLeadingSpaceSpec) :=
  OpenClaim.holds_of_wide 5 Try.f5 rfl rfl rfl rfl rfl rfl rfl ⟨rfl, rfl, rfl, rfl, rfl⟩ rfl rfl rfl rfl rfl (by kernel_rfl) Try.func5 (by kernel_rfl)
    (of_decide_eq_true (by kernel_rfl)) (by unfold Func.isWrapper; first | (rw [if_pos (by decide +kernel)]; kernel_rfl) | (rw [if_neg (by decide +kernel)]; exact ⟨rfl, rfl⟩))
    (fun os started H enc _ => lifted os started H enc)

/-- ████ THE STATEMENT ████ -/
theorem proved : Rows.FnFirstItemShiftsPastLeadingSpaceSaid := over
end Go.Proofs.Qxb6617909a.fnFirstItemShiftsPastLeadingSpace
