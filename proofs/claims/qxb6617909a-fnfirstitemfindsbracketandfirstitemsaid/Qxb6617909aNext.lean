/-
  THE CONTRACT of nextItem (as far as the law on firstItem asks it).
-/
import Derived.Test.Qxb6617909aScan
namespace Go.Proofs.Qxb6617909a.Wk
open Go.RowKit
open Go.Proofs.Qxb6617909a.Pl

theorem nf {a : Bool} {P : Prop} (h : a = false) : a = true → P := by
  intro h'
  rw [h] at h'
  cases h'

set_option maxHeartbeats 400000 in
theorem next_any (b off n cap i p j : Nat) (x o : Int) (zs : List Int) (w : World) (hx : x = (p : Int)) (HN : Hid (zs.length = n)) (hl : n ≤ 4611686018427387904) (hp : p ≤ n) (HS : Hid (Skips zs p j)) (HO : Hid (zs.getD i 0 = o)) (ho0 : 0 ≤ o) (ho1 : o ≤ 253)
    (HC : Hid (∀ i, i < n → w.cell? ⟨b, off + i, none⟩ = some (.int .u8 (zs.getD i 0)))) :
    Calls Try.prog 22 #[.slice (some ⟨b, off, none⟩) n cap, .int .i64 x, .int .u8 o] w fun e w' => ∃ (nx : Int) (ok : Bool), e = .returned (.tuple #[.int .i64 nx, .bool (fin zs i j), .bool ok]) ∧ (fin zs i j = true → ok = true ∧ nx = (j : Int) + 1) ∧ w' = w := by
  subst hx
  go_enter Try.func22, Try.ntmps22
  go_wp2_with fail
  refine (skip_any b off n cap p _ zs _ (by rfl) HN.out hl hp HC.out).mono ?_
  rintro e w' ⟨j0, rfl, hs0, hw⟩
  obtain rfl := hw.symm
  clear hw
  obtain rfl : j0 = j := hs0.same HS.out
  have hjn : j0 ≤ n := by have := hs0.top; rw [HN.out] at this; exact this
  clear hs0
  by_cases hj : j0 < n
  · have hcj := HC.out j0 hj
    obtain ⟨z, hz⟩ : ∃ z, zs.getD j0 0 = z := ⟨_, rfl⟩
    rw [hz] at hcj
    have HZ : Hid (zs.getD j0 0 = z) := hz
    clear hz
    by_cases hzo : z = o + 2
    · have hb : (z == o + 2) = true := by simpa using hzo
      have HF : Hid (fin zs i j0 = true) := by show fin zs i j0 = true; rw [fin_yes HN.out hj HO.out HZ.out]; exact hb
      clear hzo
      go_wp2
      go_ret3
      exact ⟨_, _, by rw [HF.out]; rfl, fun _ => ⟨rfl, rfl⟩, rfl⟩
    · have hb : (z == o + 2) = false := by simpa using hzo
      have HF : Hid (fin zs i j0 = false) := by show fin zs i j0 = false; rw [fin_yes HN.out hj HO.out HZ.out]; exact hb
      clear hzo
      have hb2 : ((j0 : Int) == (n : Int)) = false := by rw [beq_eq_false_iff_ne]; omega
      by_cases h44 : z = 44
      · subst h44
        go_wp2_with fail
        refine (skip_any b off n cap (j0 + 1) _ zs _ (by omega) HN.out hl (by omega) HC.out).mono ?_
        rintro e w' ⟨j1, rfl, _, hw⟩
        obtain rfl := hw.symm
        clear hw
        go_wp2
        go_ret3
        exact ⟨_, _, by rw [HF.out]; rfl, nf HF.out, rfl⟩
      · have h45 : (z != 44) = true := by simpa using h44
        clear h44
        go_wp2
        go_ret3
        exact ⟨_, _, by rw [HF.out]; rfl, nf HF.out, rfl⟩
  · have HF : Hid (fin zs i j0 = false) := fin_no HN.out hj
    have hb2 : ((j0 : Int) == (n : Int)) = true := by rw [beq_iff_eq]; omega
    go_wp2
    go_ret3
    exact ⟨_, _, by rw [HF.out]; rfl, nf HF.out, rfl⟩

theorem zznext_any (b off n cap i p j : Nat) (x o : Int) (zs : List Int) (w : World) (hx : x = (p : Int)) (HN : Hid (zs.length = n)) (hl : n ≤ 4611686018427387904) (hp : p ≤ n) (HS : Hid (Skips zs p j)) (HO : Hid (zs.getD i 0 = o)) (ho0 : 0 ≤ o) (ho1 : o ≤ 253)
    (HC : Hid (∀ i, i < n → w.cell? ⟨b, off + i, none⟩ = some (.int .u8 (zs.getD i 0)))) :
    Calls Try.prog 15 #[.slice (some ⟨b, off, none⟩) n cap, .int .i64 x, .int .u8 o] w fun e w' => ∃ (nx : Int) (ok : Bool), e = .returned (.tuple #[.int .i64 nx, .bool (fin zs i j), .bool ok]) ∧ (fin zs i j = true → ok = true ∧ nx = (j : Int) + 1) ∧ w' = w := by
  have HX : Hid (x = (p : Int)) := hx
  clear hx
  go_enter Try.func15, Try.ntmps15
  go_wp2_with fail
  refine (next_any b off n cap i p j x o zs _ HX.out HN hl hp HS HO ho0 ho1 HC).mono ?_
  rintro e w' ⟨nx, ok, rfl, h, hw⟩
  obtain rfl := hw.symm
  have H : Hid (fin zs i j = true → ok = true ∧ nx = (j : Int) + 1) := h
  clear hw h
  go_wp2
  go_ret3
  exact ⟨nx, ok, rfl, H.out, rfl⟩

end Go.Proofs.Qxb6617909a.Wk
