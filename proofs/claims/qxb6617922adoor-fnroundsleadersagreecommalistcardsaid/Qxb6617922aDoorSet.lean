/-
  CONTRACTS of a set's methods: Has, IDs; of commaList and zzListMatches at a slice that the call itself has made.
-/
import Derived.Test.Qxb6617922aDoorBits
import Derived.Test.Qxb6617922aDoorComma
namespace Go.Proofs.Qxb6617922aDoor.Wk
open Go.RowKit
open Go.Proofs.Qxb6617922aDoor.Pl Go.Proofs.Qxb6617922aDoor.Sh Go.Proofs.Qxb6617922aDoor.Bt

theorem ret_bool {a b : Bool} (h : a = b) : Ending.returned (.bool a) = .returned (.bool b) := by rw [h]

theorem has_any (x k : Nat) (w : World) (hx : x < 18446744073709551616) (hk : k < 64) :
    Calls Tryd.prog 32 #[.int .u64 (x : Int), .int .i64 ((k : Int) + 1)] w fun e w' => e = .returned (.bool (x.testBit k)) ∧ w' = w := by
  have he := has_eq x k hx hk
  rw [Int.one_mul] at he
  have HE : Hid ((bits .and .u64 (x : Int) (IntKind.u64.wrap (2 ^ k)) != 0) = x.testBit k) := he
  clear he
  go_enter Tryd.func32, Tryd.ntmps32
  go_wp2
  go_ret
  exact ⟨ret_bool HE.out, rfl⟩

theorem info3 : (Tryd.prog.info? 3).map (fun i => (i.zero, i.size, i.bytes)) = some (some (.int .i64 0), 1, 8) := by kernel_rfl

/-- 'v' is a slice of the call's own that holds the numbers xs -/
abbrev Owns (base : Nat) (v : Value) (xs : List Int) (w : World) : Prop := w.ownsRow base 3 1 v xs.length (xs.map (Value.int .i64))

set_option maxHeartbeats 1000000 in
theorem ids_any (x : Nat) (w : World) (hx : x < 18446744073709551616) :
    Calls Tryd.prog 19 #[.int .u64 (x : Int)] w fun e w' => ∃ v, e = .returned v ∧ Owns w.heap.size v (ids x 64) w' ∧ Below w.heap.size w w' := by
  obtain ⟨i0, hi, hz0, hz1, hz2⟩ := info_parts info3
  go_enter Tryd.func19, Tryd.ntmps19
  go_wp2
  go_loopg [3, 4] 64 (fun g v s wr => ∃ k : Nat, k ≤ 64 ∧ Hid (g = 64 - k) ∧ s = .int .i64 ((k : Int) + 1) ∧ Owns w.heap.size v (ids x k) wr ∧ Below w.heap.size w wr)
  case atStart => exact ⟨0, by omega, rfl, rfl, World.ownsRow_nil _ _ _ _, Below.refl _ _⟩
  case round =>
    obtain ⟨k, hk, HK, rfl, hown, hB⟩ := hrel
    by_cases hlt : k < 64
    · have hle := ids_len x k
      cases hb : x.testBit k with
      | true =>
        have HB : Hid (x.testBit k = true) := hb
        have HI : Hid (ids x (k + 1) = ids x k ++ [(k : Int) + 1]) := ids_yes x k hb
        clear hb
        go_wp2_with fail
        refine (has_any x k _ hx hlt).mono ?_
        rintro e w' ⟨rfl, hw⟩
        obtain rfl := hw.symm
        rw [HB.out]
        clear hw
        generalize hX : ids x k = X at *
        have HX : Hid (ids x k = X) := hX
        clear hX
        go_wp2_with (at_builtin; refine wpList_append_own _ rfl _ _ 22 rfl w.heap.size 3 i0 (.int .i64 0) 1 8 Tryd.underlying22 hi hz0 hz1 hz2 rfl (by decide) _ _ _ rfl (hown.alloc _) ⟨wr.heap.size, 0, none⟩ 1 1 [.int .i64 ((k : Int) + 1)] rfl rfl (by intro j u hj; match j, hj with | 0, hj => simp at hj; subst hj; simp [Addr.add]) (by intro u hu; simp at hu; subst hu; rfl) (by unfold maxLen; omega) (by omega) (by have := hB.size; simp; omega) ?_)
        intro v' w1 hown' hgrow _
        have hB1 : Below w.heap.size w w1 := (hB.alloc hB.size _).grown hgrow (by have := hB.size; simp; omega) (fun j hj => (World.ownsRow.lt hown j hj).1)
        have ho : Owns w.heap.size v' (ids x (k + 1)) w1 := by
          rw [HI.out]
          simpa [Owns] using hown'
        clear hown' hgrow hown hB
        go_wp2
        go_roundg (64 - (k + 1))
        case measure => rw [HK.out]; omega
        case rel => exact ⟨k + 1, by omega, rfl, by go_num, ho, hB1⟩
      | false =>
        have HB : Hid (x.testBit k = false) := hb
        have HI : Hid (ids x (k + 1) = ids x k) := ids_no x k hb
        clear hb
        go_wp2_with fail
        refine (has_any x k _ hx hlt).mono ?_
        rintro e w' ⟨rfl, hw⟩
        obtain rfl := hw.symm
        rw [HB.out]
        clear hw
        go_wp2
        go_roundg (64 - (k + 1))
        case measure => rw [HK.out]; omega
        case rel => exact ⟨k + 1, by omega, rfl, by go_num, by rw [HI.out]; exact hown, hB⟩
    · obtain rfl : k = 64 := by omega
      go_wp2
      go_ret
      exact ⟨_, rfl, hown, hB⟩

end Go.Proofs.Qxb6617922aDoor.Wk
