/-
  THE PROOF OF 'Rows.FnRoundsLeadersAgreeCommaListCardSaid'. The frame follows the kit's worked card (its toy 'mapy'); the walks are ours.
-/
import Derived.Test.Qxb6617922aDoorTie
import Derived.Test.Qxb6617922aDoorCards
import Derived.Test.Qxb6617922aDoorWalk6
import Derived.Test.Qxb6617922aDoorLaid
import Derived.Test.Qxb6617922aDoorOpen7
import Derived.ChangeOld
import Derived.Below
import Derived.SevenTiedAt
namespace Go.Proofs.Qxb6617922aDoor.fnRoundsLeadersAgreeCommaList
open Go.ChangeShapes Go.WideShapes Go.ChangeAt Go.WideMaps Go.WideElems Go.RowKit
open Go.Proofs.Qxb6617922aDoor.Ld Go.Proofs.Qxb6617922aDoor.Sh

set_option maxRecDepth 100000 in
theorem lifted (os : Os) (started : os.Started) (H : Type) (enc : TypeId × Value → H) :
    ReturnsInHanded {} Tryd.checked os 6 .any (fun w args => (Rows.fnRoundsLeadersAgreeCommaListSpec.pre enc Tryd.prog Tryd.f6 [] false w args ∧ laidMetH Tryd.prog laid w) ∧ sizedMet enc Tryd.prog Tryd.f6 (OpenSpec.ofChange Rows.fnRoundsLeadersAgreeCommaListSpec) false w args)
      (Rows.fnRoundsLeadersAgreeCommaListSpec.post enc Tryd.prog Tryd.f6 false true false false) := by
  refine returnsInHanded_of_change_and (C := Tryd.checked) (X := fun w _ => laidMetH Tryd.prog laid w) (fun _ _ _ hh h => h.of_heap hh) own started (by kernel_rfl) Tryd.func6
    (ChangeSpec.witness_shaped (enc := enc) (C := Tryd.checked) (os := os) (X := fun w _ => laidMetH Tryd.prog laid w) false (World.doorLaid Tryd.prog 400 os) #[.agg #[.int .u8 0, .int .i64 0, .int .u64 0, .bool false, .string ⟨#[]⟩]] 8 rfl (World.shaped_of_RefB (by kernel_rfl) (by kernel_rfl)) (by kernel_rfl) (by kernel_rfl) (by kernel_rfl) (door_met os _)) ?_
  intro W base args ds gs before hval0 hW _ _ hL _
  have hval : ∀ (j : Nat) t v, Tryd.f6.params[j]? = some t → args[j]? = some v → Value.okWide Tryd.prog W .any base t v := hval0
  have hW' := hW
  obtain ⟨p, q, hA0, hV, rfl, hfz, hnd⟩ := hW
  have hA : DataW.TrodAll enc Tryd.prog W 0 (fun _ => true) true Tryd.f6.params.toList args.toList ds p := hA0
  rw [Tryd.params6] at hA hval
  obtain ⟨v0, vs0, d0, ds0, p0, q0, hargs, rfl, rfl, h0, r0⟩ := trodAll_cons hA
  obtain ⟨rfl, rfl, rfl⟩ := trodAll_nil r0
  obtain rfl : args = #[v0] := by cases args; simp_all
  obtain ⟨rfl, rfl⟩ := trodVars_none hV
  have k0 := h0
  have lt0 : ∀ x ∈ p0, x.block < W.heap.size := by obtain ⟨m, hm⟩ := k0; exact DataW.trod_lt m _ _ _ hm
  obtain ⟨c0, c1, c2, c3, c4, n, rfl, y0, y1, y2, y3, y4⟩ := Op.open5 Tryd.underlying29 (by kernel_rfl) (by kernel_rfl) (hval 0 29 v0 rfl rfl) h0
  obtain ⟨kd, rfl, _⟩ := Op.int1 Tryd.underlying5 y0
  obtain ⟨rd, rfl, wr⟩ := Op.int1 Tryd.underlying3 y1
  obtain ⟨x, rfl, wx⟩ := Op.int1 Tryd.underlying27 y2
  obtain ⟨b, rfl⟩ : ∃ b, c3 = .bool b := by
    obtain ⟨y, hf⟩ := y3
    obtain ⟨b, e, _⟩ := DataW.trod_bool Tryd.underlying4 hf
    simp at e
    exact ⟨b, e⟩
  obtain ⟨s, rfl, hs⟩ : ∃ s : ByteArray, c4 = .string s ∧ s.size ≤ maxLen := by
    obtain ⟨y, hf⟩ := y4
    obtain ⟨s, e, _, hs⟩ := DataW.trod_string Tryd.underlying9 hf
    simp at e
    exact ⟨s, e, hs⟩
  have ht := of_laid hL
  clear hA0 hval0
  refine (Wk.walk6 kd rd x b s W ht wr wx hs).mono fun e W' ⟨he, bel⟩ => ?_
  subst he
  exact ⟨_, rfl, _, _, _, [], _, [], hW', trodAll_mk1 (shut_bool Tryd.underlying4 _), (trodAll_cons_mk (Below.trod laidOut (by kernel_rfl) (of_decide_eq_true (by kernel_rfl)) k0 bel lt0) trodAll_mk0), rfl, bel.frame _, fun h => by cases h⟩

theorem row_holds : Rows.FnRoundsLeadersAgreeCommaListSaid :=
  OpenClaim.holds_of_wide 6 Tryd.f6 rfl rfl rfl rfl rfl rfl rfl ⟨rfl, rfl, rfl, rfl, rfl⟩ rfl rfl rfl rfl rfl (by kernel_rfl) Tryd.func6 (by kernel_rfl)
    (of_decide_eq_true (by kernel_rfl)) (by unfold Func.isWrapper; first | (rw [if_pos (by decide +kernel)]; kernel_rfl) | (rw [if_neg (by decide +kernel)]; exact ⟨rfl, rfl⟩))
    (fun os started H enc _ => lifted os started H enc)

/-- THE STATEMENT -/
theorem proved : Rows.FnRoundsLeadersAgreeCommaListCardSaid :=
  Claim7.holds_tied_plain_at .later [] [.data, .data, .data] true Rows.fnRoundsLeadersAgreeCommaListCard.stood.harness false
    row_holds (fun _ h => by cases h) (by kernel_rfl) (fun _ h => by cases h) fnRoundsLeadersAgreeCommaList_row_tie rfl ⟨rfl, rfl⟩ (by kernel_rfl) rfl
    (fun f fn hf hfn => by
      obtain rfl : f = 6 := Option.some.inj ((show Tryd.prog.funcNamed Rows.fnRoundsLeadersAgreeCommaListRow.func = some 6 by kernel_rfl).symm.trans hf) |>.symm
      obtain rfl : fn = Tryd.f6 := (Option.some.inj (Tryd.func6.symm.trans hfn)).symm
      exact ⟨by kernel_rfl, fun j t ht => by
        rw [Tryd.params6] at ht
        have hm : t ∈ [29] := by simpa using Array.mem_of_getElem? ht
        have hall : ([29].all fun u => !Tryd.prog.wantsStandIn u) = true := by kernel_rfl
        exact (show Tryd.prog.wantsStandIn t = false by simpa using List.all_eq_true.1 hall t hm)⟩)
    (by kernel_rfl)

end Go.Proofs.Qxb6617922aDoor.fnRoundsLeadersAgreeCommaList
