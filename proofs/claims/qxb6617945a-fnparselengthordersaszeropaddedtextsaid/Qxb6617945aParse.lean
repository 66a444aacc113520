/-
  CONTRACTS: isDigit, allDigitsB1, parseLength, ZZparseLength.
-/
import Derived.Test.Qxb6617945aProg
import Derived.Test.Qxb6617945aPlain
import Derived.WalkKit
import Derived.Deep.LoopGhost
namespace Go.Proofs.Qxb6617945a.Wk
open Go.RowKit
open Go.Proofs.Qxb6617945a.Pl

theorem dig_cases (z : Int) : (dig z = true ∧ 48 ≤ z ∧ z ≤ 57) ∨ (dig z = false ∧ z < 48) ∨ (dig z = false ∧ 48 ≤ z ∧ 57 < z) := by
  unfold dig
  by_cases h1 : 48 ≤ z
  · by_cases h2 : z ≤ 57
    · exact .inl ⟨by simp [h1, h2], h1, h2⟩
    · exact .inr (.inr ⟨by simp [h2], h1, by omega⟩)
  · exact .inr (.inl ⟨by simp [h1], by omega⟩)

theorem isDigit_any (z : Int) (w : World) : Calls Try.prog 19 #[.int .u8 z] w fun e w' => e = .returned (.bool (dig z)) ∧ w' = w := by
  rcases dig_cases z with ⟨h, h1, h2⟩ | ⟨h, h1⟩ | ⟨h, h1, h2⟩
  all_goals rw [h]; clear h
  · go_enter Try.func19, Try.ntmps19
    go_wp2
    go_ret
    exact ⟨by simp, rfl⟩
  · have h2 : decide (48 ≤ z) = false := by simp; omega
    go_enter Try.func19, Try.ntmps19
    go_wp2
    go_ret
    exact ⟨rfl, rfl⟩
  · have h3 : decide (z ≤ 57) = false := by simp; omega
    go_enter Try.func19, Try.ntmps19
    go_wp2
    go_ret
    exact ⟨rfl, rfl⟩

theorem allD_none (a : Option Addr) (c : Nat) (w : World) : Calls Try.prog 10 #[.slice a 0 c] w fun e w' => e = .returned (.bool true) ∧ w' = w := by
  go_enter Try.func10, Try.ntmps10
  go_wp2
  go_loopg [3] 0 (fun _ t wr => t = .int .i64 0 ∧ wr = w)
  case atStart => exact ⟨rfl, rfl⟩
  case round =>
    obtain ⟨rfl, hwr⟩ := hrel
    subst hwr
    go_wp2
    go_ret
    exact ⟨rfl, rfl⟩

set_option maxHeartbeats 1000000 in
theorem allD_any (b off n cap : Nat) (zs : List Int) (w : World) (HN : Hid (zs.length = n)) (hl : n ≤ 4611686018427387904)
    (HC : Hid (∀ i, i < n → w.cell? ⟨b, off + i, none⟩ = some (.int .u8 (zs.getD i 0)))) :
    Calls Try.prog 10 #[.slice (some ⟨b, off, none⟩) n cap] w fun e w' => e = .returned (.bool (allD zs)) ∧ w' = w := by
  obtain ⟨R, hR⟩ : ∃ R, allD zs = R := ⟨_, rfl⟩
  rw [hR]
  have HR : Hid (allD zs = R) := hR
  clear hR
  go_enter Try.func10, Try.ntmps10
  go_wp2
  go_loopg [3] n (fun g t wr => ∃ i : Nat, i ≤ n ∧ Hid (g = n - i) ∧ t = .int .i64 (i : Int) ∧ Hid (allD (zs.take i) = true) ∧ wr = w)
  case atStart => exact ⟨0, by omega, rfl, rfl, rfl, rfl⟩
  case round =>
    obtain ⟨i, hi, HG, rfl, HA, hwr⟩ := hrel
    subst hwr
    by_cases hlt : i < n
    · have hci := HC.out i hlt
      obtain ⟨z, hz⟩ : ∃ z, zs.getD i 0 = z := ⟨_, rfl⟩
      rw [hz] at hci
      have HZ : Hid (zs.getD i 0 = z) := hz
      clear hz
      rcases dig_cases z with ⟨hd, h1, h2⟩ | ⟨hd, h1⟩ | ⟨hd, h1, h2⟩
      · have HD : Hid (dig z = true) := hd
        clear hd
        have q1 : decide (z < 48) = false := by rw [decide_eq_false_iff_not]; omega
        have q2 : decide (57 < z) = false := by rw [decide_eq_false_iff_not]; omega
        go_wp2
        go_roundg (n - (i + 1))
        case measure => rw [HG.out]; omega
        case rel => exact ⟨i + 1, by omega, rfl, by go_num, allD_take_succ (by rw [HN.out]; exact hlt) HA.out (by rw [HZ.out]; exact HD.out), rfl⟩
      · have e : R = false := by rw [← HR.out]; exact allD_no (by rw [HN.out]; exact hlt) (by rw [HZ.out]; exact hd)
        subst e
        clear hd
        go_wp2
        go_ret
        exact ⟨rfl, rfl⟩
      · have e : R = false := by rw [← HR.out]; exact allD_no (by rw [HN.out]; exact hlt) (by rw [HZ.out]; exact hd)
        subst e
        clear hd
        have q1 : decide (z < 48) = false := by rw [decide_eq_false_iff_not]; omega
        go_wp2
        go_ret
        exact ⟨rfl, rfl⟩
    · have e : R = true := by
        have := HA.out
        rw [List.take_of_length_le (by rw [HN.out]; omega), HR.out] at this
        exact this
      subst e
      go_wp2
      go_ret
      exact ⟨rfl, rfl⟩

theorem parse_none (a : Option Addr) (c : Nat) (w : World) : Calls Try.prog 17 #[.slice a 0 c] w fun e w' => e = .returned (.tuple #[.int .i64 0, .bool false]) ∧ w' = w := by
  go_enter Try.func17, Try.ntmps17
  go_wp2
  go_ret2
  exact ⟨rfl, rfl⟩

theorem parse_long (a : Option Addr) (n c : Nat) (w : World) (h : 18 < n) (hl : n ≤ 4611686018427387904) : Calls Try.prog 17 #[.slice a n c] w fun e w' => e = .returned (.tuple #[.int .i64 0, .bool false]) ∧ w' = w := by
  have q : ((n : Int) == 0) = false := by rw [beq_eq_false_iff_ne]; omega
  go_enter Try.func17, Try.ntmps17
  go_wp2
  go_ret2
  exact ⟨rfl, rfl⟩

set_option maxHeartbeats 1000000 in
theorem parse_short (b off n cap : Nat) (zs : List Int) (w : World) (HN : Hid (zs.length = n)) (hn1 : 1 ≤ n) (hn : n ≤ 18)
    (HC : Hid (∀ i, i < n → w.cell? ⟨b, off + i, none⟩ = some (.int .u8 (zs.getD i 0)))) :
    Calls Try.prog 17 #[.slice (some ⟨b, off, none⟩) n cap] w fun e w' => e = .returned (.tuple #[.int .i64 (num zs), .bool (okN zs)]) ∧ w' = w := by
  have q : ((n : Int) == 0) = false := by rw [beq_eq_false_iff_ne]; omega
  obtain ⟨N, hNe⟩ : ∃ N, num zs = N := ⟨_, rfl⟩
  obtain ⟨O, hOe⟩ : ∃ O, okN zs = O := ⟨_, rfl⟩
  rw [hNe, hOe]
  have HNE : Hid (num zs = N) := hNe
  have HOE : Hid (okN zs = O) := hOe
  clear hNe hOe
  go_enter Try.func17, Try.ntmps17
  go_wp2
  go_loopg [4, 6, 17] n (fun g m _ t wr => ∃ i : Nat, i ≤ n ∧ Hid (g = n - i) ∧ t = .int .i64 (i : Int) ∧ m = .int .i64 (vl (zs.take i) 0) ∧ Hid (allD (zs.take i) = true) ∧ wr = w)
  case atStart => exact ⟨0, by omega, rfl, rfl, rfl, rfl, rfl⟩
  case round =>
    obtain ⟨i, hi, HG, rfl, rfl, HA, hwr⟩ := hrel
    subst hwr
    by_cases hlt : i < n
    · have hci := HC.out i hlt
      have hst := vl_take_succ zs i (by rw [HN.out]; exact hlt)
      obtain ⟨z, hz⟩ : ∃ z, zs.getD i 0 = z := ⟨_, rfl⟩
      rw [hz] at hci hst
      have HZ : Hid (zs.getD i 0 = z) := hz
      clear hz
      have hbd := vl_bd _ HA.out
      have hp : (10 : Int) ^ (zs.take i).length ≤ 100000000000000000 := by
        rw [← p17]
        exact pow_le10 (by rw [List.length_take, HN.out]; omega)
      obtain ⟨M, hM⟩ : ∃ M, vl (zs.take i) 0 = M := ⟨_, rfl⟩
      rw [hM] at hbd hst ⊢
      have HS : Hid (vl (zs.take (i + 1)) 0 = 10 * M + (z - 48)) := hst
      have hM0 : 0 ≤ M := hbd.1
      have hM1 : M ≤ 100000000000000000 := by omega
      clear hbd hp hM hst
      cases hd : dig z with
      | true =>
        have HD : Hid (dig z = true) := hd
        obtain ⟨h1, h2⟩ := (dig_iff z).1 hd
        clear hd
        go_wp2_with (go_at_call 19; refine (isDigit_any _ _).mono ?_; rintro e w' ⟨rfl, hw⟩; obtain rfl := hw.symm; clear hw; rw [HD.out])
        go_roundg (n - (i + 1))
        case measure => rw [HG.out]; omega
        case rel => exact ⟨i + 1, by omega, rfl, by go_num, by rw [HS.out], allD_take_succ (by rw [HN.out]; exact hlt) HA.out (by rw [HZ.out]; exact HD.out), rfl⟩
      | false =>
        have HD : Hid (dig z = false) := hd
        have ho : okN zs = false := okN_no (.inr (.inr (allD_no (by rw [HN.out]; exact hlt) (by rw [HZ.out]; exact hd))))
        have e1 : O = false := by rw [← HOE.out]; exact ho
        have e2 : N = 0 := by rw [← HNE.out]; exact num_no ho
        subst e1
        subst e2
        clear hd ho
        go_wp2_with (go_at_call 19; refine (isDigit_any _ _).mono ?_; rintro e w' ⟨rfl, hw⟩; obtain rfl := hw.symm; clear hw; rw [HD.out])
        go_ret2
        exact ⟨rfl, rfl⟩
    · have hall : zs.take i = zs := List.take_of_length_le (by rw [HN.out]; omega)
      have ha := HA.out
      rw [hall] at ha
      have ho : okN zs = true := okN_yes (by rw [HN.out]; exact hn1) (by rw [HN.out]; exact hn) ha
      have e1 : O = true := by rw [← HOE.out]; exact ho
      have e2 : vl (zs.take i) 0 = N := by rw [hall, ← HNE.out, num_yes ho]
      subst e1
      rw [e2]
      clear e2 ho ha hall
      go_wp2
      go_ret2
      exact ⟨rfl, rfl⟩

theorem parse_any (b off n cap : Nat) (zs : List Int) (w : World) (HN : Hid (zs.length = n)) (hn : n ≤ 4611686018427387904)
    (HC : Hid (∀ i, i < n → w.cell? ⟨b, off + i, none⟩ = some (.int .u8 (zs.getD i 0)))) :
    Calls Try.prog 17 #[.slice (some ⟨b, off, none⟩) n cap] w fun e w' => e = .returned (.tuple #[.int .i64 (num zs), .bool (okN zs)]) ∧ w' = w := by
  by_cases h0 : n = 0
  · have ho : okN zs = false := okN_no (.inl (by rw [HN.out]; exact h0))
    subst h0
    rw [num_no ho, ho]
    exact parse_none _ _ _
  by_cases h1 : 18 < n
  · have ho : okN zs = false := okN_no (.inr (.inl (by rw [HN.out]; exact h1)))
    rw [num_no ho, ho]
    exact parse_long _ _ _ _ h1 hn
  · exact parse_short b off n cap zs w HN (by omega) (by omega) HC

theorem zzparse_any (b off n cap : Nat) (zs : List Int) (w : World) (HN : Hid (zs.length = n)) (hn : n ≤ 4611686018427387904)
    (HC : Hid (∀ i, i < n → w.cell? ⟨b, off + i, none⟩ = some (.int .u8 (zs.getD i 0)))) :
    Calls Try.prog 9 #[.slice (some ⟨b, off, none⟩) n cap] w fun e w' => e = .returned (.tuple #[.int .i64 (num zs), .bool (okN zs)]) ∧ w' = w := by
  go_enter Try.func9, Try.ntmps9
  go_wp2_with fail
  refine (parse_any b off n cap zs _ HN hn HC).mono ?_
  rintro e w' ⟨rfl, rfl⟩
  go_wp2
  go_ret2
  exact ⟨rfl, rfl⟩

theorem zzparse_none (a : Option Addr) (c : Nat) (w : World) : Calls Try.prog 9 #[.slice a 0 c] w fun e w' => e = .returned (.tuple #[.int .i64 0, .bool false]) ∧ w' = w := by
  go_enter Try.func9, Try.ntmps9
  go_wp2_with fail
  refine (parse_none _ _ _).mono ?_
  rintro e w' ⟨rfl, rfl⟩
  go_wp2
  go_ret2
  exact ⟨rfl, rfl⟩

end Go.Proofs.Qxb6617945a.Wk
