/-
  THE PROOF OF 'Rows.FnContinuesNumberExtendsANumberPrefixSaid'. The frame is the kit's shell, its closing line turned to 'Below'; the walk is ours.
-/
import Derived.Test.Qxb6617909aRows
import Derived.Test.Qxb6617909aNumPre
import Derived.Test.Qxb6617909aCopy
import Derived.WalkKit
import Derived.ProofKit
import Derived.OpenShut
import Derived.ShutString
import Derived.ChangeOld
import Derived.Below
namespace Go.Proofs.Qxb6617909a.fnContinuesNumberExtendsANumberPrefix
open Go.ChangeShapes Go.WideShapes Go.ChangeAt Go.RowKit
open Go.ChangeMaps (open_string shut_string)
open Go.Proofs.Qxb6617909a.Nm Go.Proofs.Qxb6617909a.NmW Go.Proofs.Qxb6617909a.Cp
set_option linter.unusedVariables false

theorem own : ownKnob Try.prog.godebug = none := by kernel_rfl
theorem info5 : (Try.prog.info? 5).map (fun i => (i.zero, i.size, i.bytes)) = some (some (.int .u8 0), 1, 1) := by kernel_rfl

theorem walk_no (st c : Int) (w : World) (h : isState st = false) : Calls Try.prog 3 #[.int .u8 st, .int .u8 c] w fun e w' => e = .returned (.bool true) ∧ Below w.heap.size w w' := by
  have H : Hid (isState st = false) := h
  clear h
  go_enter Try.func3, Try.ntmps3
  go_wp2_with fail
  refine (state_no _ H.out _).mono ?_
  rintro e w' ⟨rfl, rfl⟩
  go_wp2
  go_ret
  exact ⟨rfl, Below.refl _ _⟩

structure Filled (w : World) (B : Nat) (t : List UInt8) (i : Nat) : Prop where
  has : ∀ j, j < t.length + 1 → ∃ v, w.cell? ⟨B, j, none⟩ = some v
  free : ∀ j, w.frozen? ⟨B, j, none⟩ = false
  done : ∀ j, j < i → w.cell? ⟨B, j, none⟩ = some (.int .u8 ((t.getD j 0).toNat : Int))

theorem filled_start {w : World} {B : Nat} {t : List UInt8} {cur : List Value} (hl : cur.length = t.length + 1) (hg : w.heap[B]? = some (.cells cur.toArray 5 (0, 0))) : Filled w B t 0 := by
  refine ⟨fun j hj => ⟨cur[j]'(by omega), ?_⟩, fun j => ?_, fun j hj => by omega⟩
  · simp only [World.cell?, hg]
    simp [List.getElem?_eq_getElem (show j < cur.length by omega)]
  · simp only [World.frozen?, hg]
    simp

theorem filled_step {w : World} {B : Nat} {t : List UInt8} {i : Nat} (h : Filled w B t i) (hi : i < t.length + 1) (v : Value) (hv : v = .int .u8 ((t.getD i 0).toNat : Int)) : Filled (w.setCell ⟨B, i, none⟩ v) B t (i + 1) := by
  subst hv
  obtain ⟨v0, hv0⟩ := h.has i hi
  refine ⟨fun j hj => ?_, fun j => ?_, fun j hj => ?_⟩
  · by_cases hji : j = i
    · subst hji; exact ⟨_, World.cell?_setCell_same _ _ _ hv0⟩
    · obtain ⟨v, hv⟩ := h.has j hj
      exact ⟨v, by rw [World.cell?_setCell_other _ _ _ _ (by intro e; injection e; omega)]; exact hv⟩
  · rw [World.frozen?_setCell]; exact h.free j
  · by_cases hji : j = i
    · subst hji; exact World.cell?_setCell_same _ _ _ hv0
    · rw [World.cell?_setCell_other _ _ _ _ (by intro e; injection e; omega)]; exact h.done j (by omega)

theorem filled_cells {w : World} {B : Nat} {t : List UInt8} {v0 : Value} {c : Int} (h : Filled w B t t.length) (hv0 : w.cell? ⟨B, t.length, none⟩ = some v0) :
    ∀ i, i < t.length + 1 → (w.setCell ⟨B, t.length, none⟩ (.int .u8 c)).cell? ⟨B, 0 + i, none⟩ = some (.int .u8 ((t.map (fun u => (u.toNat : Int)) ++ [c]).getD i 0)) := by
  intro i hi
  rw [Nat.zero_add]
  by_cases hit : i = t.length
  · subst hit
    rw [World.cell?_setCell_same _ _ _ hv0]
    simp [List.getD]
  · rw [World.cell?_setCell_other _ _ _ _ (by intro e; injection e; omega), h.done i (by omega)]
    have : i < t.length := by omega
    simp [List.getD, this, List.getElem?_append]

theorem byte_at (t : List UInt8) (i : Nat) (h : i < t.length) : Value.int .u8 (((⟨t.toArray⟩ : ByteArray)[i]'h).toNat : Int) = .int .u8 ((t.getD i 0).toNat : Int) := by
  have e : (⟨t.toArray⟩ : ByteArray)[i]'h = t[i] := rfl
  rw [e]
  simp [List.getD, h]

set_option maxRecDepth 100000 in
set_option maxHeartbeats 2000000 in
theorem walk_yes (st : Int) (c : Nat) (w : World) (h : isState st = true) (hc : c < 256) : Calls Try.prog 3 #[.int .u8 st, .int .u8 (c : Int)] w fun e w' => e = .returned (.bool true) ∧ Below w.heap.size w w' := by
  have H : Hid (isState st = true) := h
  clear h
  obtain ⟨i0, hi, hz0, hz1, hz2⟩ := info_parts info5
  go_enter Try.func3, Try.ntmps3
  go_wp2_with fail
  refine (state_yes _ H.out _).mono ?_
  rintro e w' ⟨rfl, hw⟩
  obtain rfl := hw.symm
  clear hw
  go_wp2_with fail
  refine (zzcont_any _ _ H.out _).mono ?_
  rintro e w' ⟨rfl, hw⟩
  obtain rfl := hw.symm
  clear hw
  obtain ⟨R, hR⟩ : ∃ R, cont st c = R := ⟨_, rfl⟩
  rw [hR]
  have HR : Hid (cont st c = R) := hR
  clear hR
  go_wp2
  go_loopg [6] 2 (fun g t wr => ∃ k : Nat, k ≤ 2 ∧ Hid (g = 2 - k) ∧ t = .int .i64 (k : Int) ∧ Below w.heap.size w wr)
  case atStart => exact ⟨0, by omega, rfl, rfl, Below.refl _ _⟩
  case round =>
    obtain ⟨k, hk, HG, rfl, hB⟩ := hrel
    by_cases hlt : k < 2
    · go_wp2_with fail
      refine (text_any st k H.out hlt _).mono ?_
      rintro e w' ⟨rfl, hw⟩
      obtain rfl := hw.symm
      clear hw
      have hlen := text_len st k
      obtain ⟨t, ht⟩ : ∃ t, text st k = t := ⟨_, rfl⟩
      rw [ht] at hlen ⊢
      have HT : Hid (text st k = t) := ht
      clear ht
      go_wp2_with (at_make; go_loud (refine wpList_make_full _ rfl (.tmp 25) (.tmp 25) 25 rfl _ 5 i0 (.int .u8 0) 1 Try.underlying25 hi hz0 hz1 .i64 .i64 _ _ (t.length + 1) rfl rfl (by omega) (by omega) (by rw [hz2]; omega) (by unfold maxLen; omega) (Nat.le_refl _) ?_))
      intro w1 hown hgrow
      obtain ⟨cur, hcur, HGr, hB1⟩ := made_of_owns hown hgrow
      have hsz : wr.heap.size < w1.heap.size := by have := (Array.getElem?_eq_some_iff.1 HGr.out).1; exact this
      have hF := filled_start (t := t) hcur HGr.out
      have hB2 : Below w.heap.size w w1 := hB.trans (hB1.mono hB.size)
      have hBB : w.heap.size ≤ wr.heap.size := hB.size
      obtain ⟨B, hBe⟩ : ∃ B, B = wr.heap.size := ⟨_, rfl⟩
      rw [← hBe] at hF hBB ⊢
      clear hown hgrow hcur HGr hB1 cur hBe hsz
      have HF : Hid (Filled w1 B t 0) := hF
      clear hF
      go_wp2
      go_loopg [9] t.length (fun g s wr => ∃ i : Nat, i ≤ t.length ∧ Hid (g = t.length - i) ∧ s = .int .i64 (i : Int) ∧ Hid (Filled wr B t i) ∧ Below w.heap.size w wr)
      case atStart => exact ⟨0, by omega, rfl, rfl, HF, hB2⟩
      case round =>
        obtain ⟨i, hi9, HG2, rfl, HF2, hB3⟩ := hrel
        clear HF hB2
        by_cases hit : i < t.length
        · obtain ⟨v0, hv0⟩ := HF2.out.has i (by omega)
          have hfr := HF2.out.free i
          go_wp2
          go_roundg (t.length - (i + 1))
          case measure => rw [HG2.out]; omega
          case rel => exact ⟨i + 1, by omega, rfl, by go_num, filled_step HF2.out (by omega) _ (byte_at t i hit), hB3.setCell (by exact hBB) _⟩
        · obtain rfl : i = t.length := by omega
          obtain ⟨v0, hv0⟩ := HF2.out.has t.length (by omega)
          have hfr := HF2.out.free t.length
          go_wp2_with fail
          refine (prefix_any B 0 (t.length + 1) (t.length + 1) (t.map (fun u => (u.toNat : Int)) ++ [(c : Int)]) R _ (by show _ = _; simp) (by omega) (by omega) (filled_cells HF2.out hv0) (by show _ = _; rw [List.drop_zero, ← HR.out, law H.out hlt hc, HT.out])).mono ?_
          rintro e w' ⟨rfl, rfl⟩
          clear hv0 hfr HF2
          cases R
          all_goals
            go_wp2
            go_roundg (2 - (k + 1))
            case measure => rw [HG.out]; omega
            case rel => exact ⟨k + 1, by omega, rfl, by go_num, hB3.setCell (by exact hBB) _⟩
    · go_wp2
      go_ret
      exact ⟨rfl, hB⟩

theorem walk (a0 : Int) (a1 : Int) (w0 : (Lit.int .u8 a0).wf = true) (w1 : (Lit.int .u8 a1).wf = true) (w : World) :
    Calls Try.prog 3 #[.int .u8 a0, .int .u8 a1] w fun e w' => e = .returned (.bool true) ∧ Below w.heap.size w w' := by
  have hb := bounds_u8 w1
  obtain ⟨c, rfl⟩ := Int.eq_ofNat_of_zero_le hb.1
  cases h : isState a0
  · exact walk_no a0 c w h
  · exact walk_yes a0 c w h (by omega)

/-! ### THE ROW's STEP: WRITTEN OUT: LEAVE IT -/
set_option maxRecDepth 100000 in
theorem lifted (os : Os) (started : os.Started) (H : Type) (enc : TypeId × Value → H) :
    ReturnsInHanded {} Try.checked os 3 .any (Rows.fnContinuesNumberExtendsANumberPrefixSpec.pre6 enc Try.prog Try.f3 Rows.fnContinuesNumberExtendsANumberPrefixRow.domain false) (Rows.fnContinuesNumberExtendsANumberPrefixSpec.post enc Try.prog Try.f3 false true false false) := by
  refine returnsInHanded_of_change (C := Try.checked) own started (by kernel_rfl) Try.func3
    (ChangeSpec.witness6 (enc := enc) (C := Try.checked) false ⟨#[], #[.int .u8 0, .int .u8 0], []⟩ 8 (by kernel_rfl) (by kernel_rfl) (by kernel_rfl) (by kernel_rfl)) ?_
  intro W base args ds gs before hval0 hW hcnd _
  have hval : ∀ (j : Nat) t v, Try.f3.params[j]? = some t → args[j]? = some v → Value.okWide Try.prog W .any base t v := hval0
  have hW' := hW
  obtain ⟨p, q, hA0, hV, rfl, hfz, hnd⟩ := hW
  have hA : DataW.TrodAll enc Try.prog W 0 (fun _ => true) true Try.f3.params.toList args.toList ds p := hA0
  rw [Try.params3] at hA hval
  obtain ⟨v0, vs0, d0, ds0, p0, q0, hargs, rfl, rfl, h0, r0⟩ := trodAll_cons hA
  obtain ⟨v1, vs1, d1, ds1, p1, q1, rfl, rfl, rfl, h1, r1⟩ := trodAll_cons r0
  obtain ⟨rfl, rfl, rfl⟩ := trodAll_nil r1
  obtain rfl : args = #[v0, v1] := by cases args; simp_all
  obtain ⟨rfl, rfl⟩ := trodVars_none hV
  obtain ⟨a0, rfl, rfl, rfl, w0⟩ := open_int Try.underlying5 (hval 0 5 v0 rfl rfl) h0
  obtain ⟨a1, rfl, rfl, rfl, w1⟩ := open_int Try.underlying5 (hval 1 5 v1 rfl rfl) h1
  clear hA0 hval0
  refine (walk a0 a1 w0 w1 W).mono fun e W' ⟨he, bel⟩ => ?_
  subst he
  exact ⟨_, rfl, _, _, _, [], _, [], hW', trodAll_mk1 (shut_bool Try.underlying4 _), (trodAll_cons_mk (shut_int Try.underlying5 w0) (trodAll_cons_mk (shut_int Try.underlying5 w1) trodAll_mk0)), rfl, bel.frame _, fun h => by cases h⟩

theorem over : Rows.fnContinuesNumberExtendsANumberPrefixRow.holds Try.pinned (OpenSpec.ofChange Rows.fnContinuesNumberExtendsANumberPrefixSpec) :=
  OpenClaim.holds_of_wide 3 Try.f3 rfl rfl rfl rfl rfl rfl rfl ⟨rfl, rfl, rfl, rfl, rfl⟩ rfl rfl rfl rfl rfl (by kernel_rfl) Try.func3 (by kernel_rfl)
    (of_decide_eq_true (by kernel_rfl)) (by unfold Func.isWrapper; first | (rw [if_pos (by decide +kernel)]; kernel_rfl) | (rw [if_neg (by decide +kernel)]; exact ⟨rfl, rfl⟩))
    (fun os started H enc _ => lifted os started H enc)

/-- ████ THE STATEMENT ████ -/
theorem proved : Rows.FnContinuesNumberExtendsANumberPrefixSaid :=
  over
end Go.Proofs.Qxb6617909a.fnContinuesNumberExtendsANumberPrefix
