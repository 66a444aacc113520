/-
  CONTRACTS of the functions that scan (isSpace, zzIsWS, skipSpace, firstItem ..).
-/
import Derived.Test.Qxb6617909aProg
import Derived.Test.Qxb6617909aPlain
import Derived.WalkKit
namespace Go.Proofs.Qxb6617909a.Wk
open Go.RowKit
open Go.Proofs.Qxb6617909a.Pl

theorem ws_cases (z : Int) : (ws z = true ∧ (z = 32 ∨ z = 9 ∨ z = 10 ∨ z = 13)) ∨ (ws z = false ∧ (z == 32) = false ∧ (z == 9) = false ∧ (z == 10) = false ∧ (z == 13) = false) := by
  unfold ws
  by_cases h1 : z = 32
  · subst h1; exact .inl ⟨rfl, .inl rfl⟩
  by_cases h2 : z = 9
  · subst h2; exact .inl ⟨rfl, .inr (.inl rfl)⟩
  by_cases h3 : z = 10
  · subst h3; exact .inl ⟨rfl, .inr (.inr (.inl rfl))⟩
  by_cases h4 : z = 13
  · subst h4; exact .inl ⟨rfl, .inr (.inr (.inr rfl))⟩
  · exact .inr ⟨by simp [h1, h2, h3, h4], by simpa using h1, by simpa using h2, by simpa using h3, by simpa using h4⟩

theorem isSpace_any (z : Int) (w : World) : Calls Try.prog 25 #[.int .u8 z] w fun e w' => e = .returned (.bool (ws z)) ∧ w' = w := by
  rcases ws_cases z with ⟨_, rfl | rfl | rfl | rfl⟩ | ⟨h, h1, h2, h3, h4⟩
  · go_enter Try.func25, Try.ntmps25
    go_wp2
    go_ret
    exact ⟨rfl, rfl⟩
  · go_enter Try.func25, Try.ntmps25
    go_wp2
    go_ret
    exact ⟨rfl, rfl⟩
  · go_enter Try.func25, Try.ntmps25
    go_wp2
    go_ret
    exact ⟨rfl, rfl⟩
  · go_enter Try.func25, Try.ntmps25
    go_wp2
    go_ret
    exact ⟨rfl, rfl⟩
  · rw [h]
    clear h
    by_cases h5 : z ≤ 32
    · go_enter Try.func25, Try.ntmps25
      go_wp2
      go_ret
      exact ⟨rfl, rfl⟩
    · have h6 : decide (z ≤ 32) = false := by simpa using h5
      go_enter Try.func25, Try.ntmps25
      go_wp2
      go_ret
      exact ⟨rfl, rfl⟩

theorem isWS_any (z : Int) (w : World) : Calls Try.prog 13 #[.int .u8 z] w fun e w' => e = .returned (.bool (ws z)) ∧ w' = w := by
  rcases ws_cases z with ⟨_, rfl | rfl | rfl | rfl⟩ | ⟨h, h1, h2, h3, h4⟩
  · go_enter Try.func13, Try.ntmps13
    go_wp2
    go_ret
    exact ⟨rfl, rfl⟩
  · go_enter Try.func13, Try.ntmps13
    go_wp2
    go_ret
    exact ⟨rfl, rfl⟩
  · go_enter Try.func13, Try.ntmps13
    go_wp2
    go_ret
    exact ⟨rfl, rfl⟩
  · go_enter Try.func13, Try.ntmps13
    go_wp2
    go_ret
    exact ⟨rfl, rfl⟩
  · rw [h]
    clear h
    go_enter Try.func13, Try.ntmps13
    go_wp2
    go_ret
    exact ⟨rfl, rfl⟩

set_option maxHeartbeats 400000 in
theorem skip_any (b off n cap p : Nat) (x : Int) (zs : List Int) (w : World) (hx : x = (p : Int)) (hn : zs.length = n) (hl : n ≤ 4611686018427387904) (hp : p ≤ n)
    (hc : ∀ i, i < n → w.cell? ⟨b, off + i, none⟩ = some (.int .u8 (zs.getD i 0))) :
    Calls Try.prog 24 #[.slice (some ⟨b, off, none⟩) n cap, .int .i64 x] w fun e w' => ∃ j : Nat, e = .returned (.int .i64 (j : Int)) ∧ Skips zs p j ∧ w' = w := by
  subst hx
  have HN : Hid (zs.length = n) := hn
  clear hn
  go_enter Try.func24, Try.ntmps24
  go_wp2
  go_loop [1] (fun t => ∃ k : Nat, p ≤ k ∧ k ≤ n ∧ t = .int .i64 (k : Int) ∧ Hid (∀ i, p ≤ i → i < k → ws (zs.getD i 0) = true)) (fun t => n - (intOf t).toNat)
  case atStart => exact ⟨p, Nat.le_refl _, hp, rfl, fun i h1 h2 => by omega⟩
  case round =>
    obtain ⟨k, hk1, hk2, rfl, HA⟩ := hrel
    by_cases hlt : k < n
    · have hcell := hc k hlt
      clear hc
      obtain ⟨z, hz⟩ : ∃ z, zs.getD k 0 = z := ⟨_, rfl⟩
      rw [hz] at hcell
      have HZ : Hid (zs.getD k 0 = z) := hz
      clear hz
      cases hw : ws z with
      | true =>
        have HW : Hid (ws z = true) := hw
        clear hw
        go_wp2_with (go_at_call 25; refine (isSpace_any _ _).mono ?_; rintro e w' ⟨rfl, rfl⟩; rw [HW.out])
        go_round
        case rel =>
          refine ⟨k + 1, by omega, by omega, by go_num, ?_⟩
          intro i h1 h2
          by_cases hik : i = k
          · subst hik; rw [HZ.out]; exact HW.out
          · exact HA.out i h1 (by omega)
        case measure => simp [intOf]; omega
      | false =>
        have HW : Hid (ws z = false) := hw
        clear hw
        go_wp2_with (go_at_call 25; refine (isSpace_any _ _).mono ?_; rintro e w' ⟨rfl, rfl⟩; rw [HW.out])
        go_ret
        exact ⟨k, rfl, ⟨hk1, by rw [HN.out]; exact hk2, HA.out, fun _ => by rw [HZ.out]; exact HW.out⟩, rfl⟩
    · clear hc
      go_wp2
      go_ret
      exact ⟨k, rfl, ⟨hk1, by rw [HN.out]; exact hk2, HA.out, fun h => by rw [HN.out] at h; omega⟩, rfl⟩

theorem fin_no {zs : List Int} {n i j : Nat} (hn : zs.length = n) (hj : ¬ j < n) : fin zs i j = false := by
  unfold fin; rw [hn]; simp [hj]
theorem fin_yes {zs : List Int} {n i j : Nat} {o z : Int} (hn : zs.length = n) (hj : j < n) (ho : zs.getD i 0 = o) (hz : zs.getD j 0 = z) : fin zs i j = (z == o + 2) := by
  unfold fin; rw [hn, ho, hz]; simp [hj]

set_option maxHeartbeats 400000 in
theorem first_any (b off n cap i : Nat) (o : Int) (zs : List Int) (w : World) (HN : Hid (zs.length = n)) (hl : n ≤ 4611686018427387904) (hi : i < n) (HS : Hid (Skips zs 0 i)) (HO : Hid (zs.getD i 0 = o)) (ho0 : 0 ≤ o) (ho1 : o ≤ 253)
    (hc : ∀ i, i < n → w.cell? ⟨b, off + i, none⟩ = some (.int .u8 (zs.getD i 0))) :
    Calls Try.prog 21 #[.slice (some ⟨b, off, none⟩) n cap] w fun e w' => ∃ j : Nat, e = .returned (.tuple #[.int .i64 (at1 zs i j : Nat), .int .u8 o, .bool (fin zs i j)]) ∧ Skips zs (i + 1) j ∧ w' = w := by
  have hci := hc i hi
  rw [HO.out] at hci
  have HC : Hid (∀ i, i < n → w.cell? ⟨b, off + i, none⟩ = some (.int .u8 (zs.getD i 0))) := hc
  clear hc
  go_enter Try.func21, Try.ntmps21
  go_wp2_with fail
  refine (skip_any b off n cap 0 _ zs _ (by rfl) HN.out hl (Nat.zero_le _) HC.out).mono ?_
  rintro e w' ⟨j0, rfl, hs0, rfl⟩
  obtain rfl : j0 = i := hs0.same HS.out
  clear hs0
  go_wp2_with fail
  refine (skip_any b off n cap (j0 + 1) _ zs _ (by omega) HN.out hl (by omega) HC.out).mono ?_
  rintro e w' ⟨j, rfl, hs1, rfl⟩
  have HS1 : Hid (Skips zs (j0 + 1) j) := hs1
  have hjn : j ≤ n := by have := hs1.top; rw [HN.out] at this; exact this
  clear hs1
  by_cases hj : j < n
  · have hcj := HC.out j hj
    obtain ⟨z, hz⟩ : ∃ z, zs.getD j 0 = z := ⟨_, rfl⟩
    rw [hz] at hcj
    have HZ : Hid (zs.getD j 0 = z) := hz
    clear hz
    by_cases hzo : z = o + 2
    · have hb : (z == o + 2) = true := by simpa using hzo
      have HF : Hid (fin zs j0 j = true) := by show fin zs j0 j = true; rw [fin_yes HN.out hj HO.out HZ.out]; exact hb
      clear hzo
      go_wp2
      go_ret3
      exact ⟨j, by unfold at1; rw [HF.out]; rfl, HS1.out, rfl⟩
    · have hb : (z == o + 2) = false := by simpa using hzo
      have HF : Hid (fin zs j0 j = false) := by show fin zs j0 j = false; rw [fin_yes HN.out hj HO.out HZ.out]; exact hb
      clear hzo
      go_wp2
      go_ret3
      exact ⟨j, by unfold at1; rw [HF.out]; rfl, HS1.out, rfl⟩
  · have HF : Hid (fin zs j0 j = false) := fin_no HN.out hj
    go_wp2
    go_ret3
    exact ⟨j, by unfold at1; rw [HF.out]; rfl, HS1.out, rfl⟩

theorem zzfirst_any (b off n cap i : Nat) (o : Int) (zs : List Int) (w : World) (HN : Hid (zs.length = n)) (hl : n ≤ 4611686018427387904) (hi : i < n) (HS : Hid (Skips zs 0 i)) (HO : Hid (zs.getD i 0 = o)) (ho0 : 0 ≤ o) (ho1 : o ≤ 253)
    (hc : ∀ i, i < n → w.cell? ⟨b, off + i, none⟩ = some (.int .u8 (zs.getD i 0))) :
    Calls Try.prog 14 #[.slice (some ⟨b, off, none⟩) n cap] w fun e w' => ∃ j : Nat, e = .returned (.tuple #[.int .i64 (at1 zs i j : Nat), .int .u8 o, .bool (fin zs i j)]) ∧ Skips zs (i + 1) j ∧ w' = w := by
  have HC : Hid (∀ i, i < n → w.cell? ⟨b, off + i, none⟩ = some (.int .u8 (zs.getD i 0))) := hc
  clear hc
  go_enter Try.func14, Try.ntmps14
  go_wp2_with fail
  refine (first_any b off n cap i o zs _ HN hl hi HS HO ho0 ho1 HC.out).mono ?_
  rintro e w' ⟨j, rfl, hs1, rfl⟩
  have HS1 : Hid (Skips zs (i + 1) j) := hs1
  clear hs1
  go_wp2
  go_ret3
  exact ⟨j, rfl, HS1.out, rfl⟩

end Go.Proofs.Qxb6617909a.Wk
