/-
  THE CONTRACT of zzIndex: the first place at which 'sub' stands.
-/
import Derived.Test.Qxb6617922aDoorList
namespace Go.Proofs.Qxb6617922aDoor.Wk
open Go.RowKit
open Go.Proofs.Qxb6617922aDoor.Pl

set_option maxHeartbeats 1000000 in
theorem index_any (s sub : List UInt8) (k : Nat) (w : World) (hk : k + sub.length ≤ s.length) (hs : s.length ≤ 4611686018427387904) (HM : Hid ((s.drop k).take sub.length = sub)) (HNO : Hid (∀ j, j < k → (s.drop j).take sub.length ≠ sub)) :
    Calls Tryd.prog 20 #[.string ⟨s.toArray⟩, .string ⟨sub.toArray⟩] w fun e w' => e = .returned (.int .i64 (k : Int)) ∧ w' = w := by
  go_enter Tryd.func20, Tryd.ntmps20
  go_wp2
  go_loopg [5] k (fun g p w' => ∃ j : Nat, j ≤ k ∧ Hid (g = k - j) ∧ p = .int .i64 (j : Int) ∧ w' = w)
  case atStart => exact ⟨0, by omega, rfl, rfl, rfl⟩
  case round =>
    obtain ⟨j, hj, HJ, rfl, hwr⟩ := hrel
    subst hwr
    obtain ⟨X, hX⟩ : ∃ X, (s.drop j).take sub.length = X := ⟨_, rfl⟩
    have hXl : X.length = sub.length := by rw [← hX]; simp; omega
    have hsl : ∀ w : World, (Instr.slice 9 (.string ⟨s.toArray⟩) (some (.int .i64 (j : Int))) (some (.int .i64 ((j : Int) + (sub.length : Int)))) none).run Tryd.prog w = .ok (.string ⟨X.toArray⟩) w :=
      slice_str s X j _ (by rw [hXl]; exact hX) (by omega) (by omega)
    have hle : (j : Int) + (sub.length : Int) ≤ (s.length : Int) := by omega
    have HX : Hid ((s.drop j).take sub.length = X) := hX
    clear hX hXl
    by_cases hjk : j = k
    · subst hjk
      have e : X = sub := by rw [← HX.out]; exact HM.out
      subst e
      go_wp2
      go_ret
      exact ⟨rfl, rfl⟩
    · have hne : X ≠ sub := by rw [← HX.out]; exact HNO.out j (by omega)
      have hq : (X == sub) = false := by simpa using hne
      clear hne
      go_wp2
      go_roundg (k - (j + 1))
      case measure => rw [HJ.out]; omega
      case rel => exact ⟨j + 1, by omega, rfl, by go_num, rfl⟩

end Go.Proofs.Qxb6617922aDoor.Wk
