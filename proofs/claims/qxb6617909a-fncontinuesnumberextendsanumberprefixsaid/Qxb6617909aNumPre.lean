/-
  THE CONTRACT of zzNumberPrefix: it computes 'numPre'.
-/
import Derived.Test.Qxb6617909aNum
import Derived.Deep.DeepCutAuto
import Derived.Deep.Light
namespace Go.Proofs.Qxb6617909a.NmW
open Go.RowKit
open Go.Proofs.Qxb6617909a.Nm

theorem numPre_minus {zs : List Int} {i : Nat} (h : i < zs.length) (hz : zs.getD i 0 = 45) : numPre (zs.drop i) = pInt (zs.drop (i + 1)) := by
  rw [drop_cons h, hz]; rfl
theorem numPre_else {zs : List Int} {i : Nat} {z : Int} (h : i < zs.length) (hz : zs.getD i 0 = z) (hn : (z == 45) = false) : numPre (zs.drop i) = pInt (zs.drop i) := by
  rw [drop_cons h, hz]; simp [numPre, hn]
theorem pInt_zero {zs : List Int} {i : Nat} (h : i < zs.length) (hz : zs.getD i 0 = 48) : pInt (zs.drop i) = pFrac (zs.drop (i + 1)) := by
  rw [drop_cons h, hz]; rfl
theorem pInt_dig {zs : List Int} {i : Nat} {z : Int} (h : i < zs.length) (hz : zs.getD i 0 = z) (h1 : 49 ≤ z) (h2 : z ≤ 57) : pInt (zs.drop i) = pFrac ((zs.drop (i + 1)).dropWhile dig) := by
  rw [drop_cons h, hz]
  have : (z == 48) = false := by simp; omega
  simp [pInt, this, h1, h2]
theorem pInt_no {zs : List Int} {i : Nat} {z : Int} (h : i < zs.length) (hz : zs.getD i 0 = z) (h0 : (z == 48) = false) (h1 : ¬ (49 ≤ z ∧ z ≤ 57)) : pInt (zs.drop i) = false := by
  rw [drop_cons h, hz]
  simp [pInt, h0, h1]
theorem drop_end {zs : List Int} {i : Nat} (h : zs.length ≤ i) : zs.drop i = [] := List.drop_eq_nil_of_le h
theorem dw_yes {zs : List Int} {i : Nat} {z : Int} (h : i < zs.length) (hz : zs.getD i 0 = z) (hd : dig z = true) : (zs.drop i).dropWhile dig = (zs.drop (i + 1)).dropWhile dig := by
  rw [drop_cons h, hz]; simp [List.dropWhile, hd]
theorem dw_no {zs : List Int} {i : Nat} {z : Int} (h : i < zs.length) (hz : zs.getD i 0 = z) (hd : dig z = false) : (zs.drop i).dropWhile dig = zs.drop i := by
  rw [drop_cons h, hz]; simp [List.dropWhile, hd]
theorem dw_end {zs : List Int} {i : Nat} (h : zs.length ≤ i) : (zs.drop i).dropWhile dig = zs.drop i := by
  rw [drop_end h]; rfl
theorem pFrac_pt {zs : List Int} {i : Nat} (h : i < zs.length) (hz : zs.getD i 0 = 46) : pFrac (zs.drop i) = pPt (zs.drop (i + 1)) := by
  rw [drop_cons h, hz]; rfl
theorem pFrac_no {zs : List Int} {i : Nat} {z : Int} (h : i < zs.length) (hz : zs.getD i 0 = z) (h0 : (z == 46) = false) : pFrac (zs.drop i) = pE (zs.drop i) := by
  rw [drop_cons h, hz]; simp [pFrac, h0]
theorem pPt_yes {zs : List Int} {i : Nat} {z : Int} (h : i < zs.length) (hz : zs.getD i 0 = z) (hd : dig z = true) : pPt (zs.drop i) = pE ((zs.drop i).dropWhile dig) := by
  rw [drop_cons h, hz]; simp [pPt, hd]
theorem pPt_no {zs : List Int} {i : Nat} {z : Int} (h : i < zs.length) (hz : zs.getD i 0 = z) (hd : dig z = false) : pPt (zs.drop i) = false := by
  rw [drop_cons h, hz]; simp [pPt, hd]
theorem pE_yes {zs : List Int} {i : Nat} {z : Int} (h : i < zs.length) (hz : zs.getD i 0 = z) (h0 : z = 101 ∨ z = 69) : pE (zs.drop i) = pExp (zs.drop (i + 1)) := by
  rw [drop_cons h, hz]; rcases h0 with rfl | rfl <;> rfl
theorem pE_no {zs : List Int} {i : Nat} {z : Int} (h : i < zs.length) (hz : zs.getD i 0 = z) (h0 : (z == 101) = false) (h1 : (z == 69) = false) : pE (zs.drop i) = false := by
  rw [drop_cons h, hz]; simp [pE, h0, h1]
theorem pExp_sign {zs : List Int} {i : Nat} {z : Int} (h : i < zs.length) (hz : zs.getD i 0 = z) (h0 : z = 43 ∨ z = 45) : pExp (zs.drop i) = pDig (zs.drop (i + 1)) := by
  rw [drop_cons h, hz]; rcases h0 with rfl | rfl <;> rfl
theorem pExp_no {zs : List Int} {i : Nat} {z : Int} (h : i < zs.length) (hz : zs.getD i 0 = z) (h0 : (z == 43) = false) (h1 : (z == 45) = false) : pExp (zs.drop i) = pDig (zs.drop i) := by
  rw [drop_cons h, hz]; simp [pExp, h0, h1]
theorem pDig_no {zs : List Int} {i : Nat} {z : Int} (h : i < zs.length) (hz : zs.getD i 0 = z) (hd : dig z = false) : pDig (zs.drop i) = false := by
  rw [drop_cons h, hz]; simp [pDig, hd]
theorem pDig_yes {zs : List Int} {i : Nat} {z : Int} (h : i < zs.length) (hz : zs.getD i 0 = z) (hd : dig z = true) : pDig (zs.drop i) = ((zs.drop i).dropWhile dig).isEmpty := by
  rw [drop_cons h, hz]; simp [pDig, hd]
theorem ret_bool {a b : Bool} (h : a = b) : Ending.returned (.bool a) = .returned (.bool b) := by rw [h]

set_option maxRecDepth 100000 in
set_option maxHeartbeats 4000000 in
theorem prefix_any (b off n cap : Nat) (zs : List Int) (R : Bool) (w : World) (HN : Hid (zs.length = n)) (hn1 : 1 ≤ n) (hl : n ≤ 4611686018427387904)
    (HC : Hid (∀ i, i < n → w.cell? ⟨b, off + i, none⟩ = some (.int .u8 (zs.getD i 0)))) (HR : Hid (numPre (zs.drop 0) = R)) :
    Calls Try.prog 11 #[.slice (some ⟨b, off, none⟩) n cap] w fun e w' => e = .returned (.bool R) ∧ w' = w := by
  have hc0 := HC.out 0 (by omega)
  obtain ⟨z0, hz0⟩ : ∃ z, zs.getD 0 0 = z := ⟨_, rfl⟩
  rw [hz0, Nat.add_zero] at hc0
  have HZ0 : Hid (zs.getD 0 0 = z0) := hz0
  clear hz0
  go_enter Try.func11, Try.ntmps11
  go_upto_if 16 with fail
  go_cut [4] from 5 (fun s w' => ∃ i : Nat, i ≤ n ∧ s = .int .i64 (i : Int) ∧ Hid (pInt (zs.drop i) = R) ∧ w' = w)
  case first =>
    by_cases h : z0 = 45
    · subst h
      go_wp2
      go_meet
      case rel => exact ⟨1, hn1, rfl, by show _ = _; rw [← HR.out, numPre_minus (by rw [HN.out]; omega) HZ0.out], rfl⟩
    · have hb : (z0 == 45) = false := by simpa using h
      clear h
      go_wp2
      go_meet
      case rel => exact ⟨0, by omega, rfl, by show _ = _; rw [← HR.out, numPre_else (by rw [HN.out]; omega) HZ0.out hb], rfl⟩
  case rest =>
    obtain ⟨i, hi, rfl, HI, rfl⟩ := hcut
    clear hc0 HZ0
    by_cases hin : i = n
    · have e : R = true := by rw [← HI.out, drop_end (by rw [HN.out]; omega)]; rfl
      subst e
      have hb : ((i : Int) == (n : Int)) = true := by rw [beq_iff_eq]; omega
      clear hin HI HR HC
      go_wp2
      go_ret
      exact ⟨rfl, rfl⟩
    · have hlt : i < n := by omega
      have hb : ((i : Int) == (n : Int)) = false := by rw [beq_eq_false_iff_ne]; omega
      clear hin
      have hci := HC.out i hlt
      obtain ⟨z, hz⟩ : ∃ z, zs.getD i 0 = z := ⟨_, rfl⟩
      rw [hz] at hci
      have HZ : Hid (zs.getD i 0 = z) := hz
      clear hz
      go_upto_if 26 with fail
      go_cut [4] from 5 (fun s w' => ∃ k : Nat, k ≤ n ∧ s = .int .i64 (k : Int) ∧ Hid (pFrac (zs.drop k) = R) ∧ w' = wc)
      case first =>
        by_cases h48 : z = 48
        · subst h48
          have HF : Hid (pFrac (zs.drop (i + 1)) = R) := by show _ = _; rw [← HI.out, pInt_zero (by rw [HN.out]; omega) HZ.out]
          go_wp2
          go_meet
          case rel => exact ⟨i + 1, by omega, by go_num, HF, rfl⟩
        · have h0 : (z == 48) = false := by simpa using h48
          clear h48
          rw [h0]
          by_cases h49 : 49 ≤ z
          · by_cases h57 : z ≤ 57
            · have HF : Hid (pFrac ((zs.drop (i + 1)).dropWhile dig) = R) := by show _ = _; rw [← HI.out, pInt_dig (by rw [HN.out]; omega) HZ.out h49 h57]
              clear HI HR
              go_wp2
              go_loopg [4] (n - (i + 1)) (fun g t wr => ∃ k : Nat, k ≤ n ∧ Hid (g = n - k) ∧ t = .int .i64 (k : Int) ∧ Hid (pFrac ((zs.drop k).dropWhile dig) = R) ∧ wr = wc)
              case atStart => exact ⟨i + 1, by omega, rfl, by go_num, HF, rfl⟩
              case round =>
                obtain ⟨k, hk, HG, rfl, HK, hwr⟩ := hrel
                subst hwr
                clear HF hci h49 h57 h0 hb
                by_cases hkn : k < n
                · have hck := HC.out k hkn
                  obtain ⟨y, hy⟩ : ∃ y, zs.getD k 0 = y := ⟨_, rfl⟩
                  rw [hy] at hck
                  have HY : Hid (zs.getD k 0 = y) := hy
                  clear hy
                  cases hd : dig y with
                  | true =>
                    have HD : Hid (dig y = true) := hd
                    clear hd
                    go_wp2_with (go_at_call 20; refine (zzIsDigit_any _ _).mono ?_; rintro e w' ⟨rfl, rfl⟩; rw [HD.out])
                    go_roundg (n - (k + 1))
                    case measure => rw [HG.out]; omega
                    case rel => exact ⟨k + 1, by omega, rfl, by go_num, by show _ = _; rw [← HK.out, dw_yes (by rw [HN.out]; omega) HY.out HD.out], rfl⟩
                  | false =>
                    have HD : Hid (dig y = false) := hd
                    clear hd
                    go_wp2_with (go_at_call 20; refine (zzIsDigit_any _ _).mono ?_; rintro e w' ⟨rfl, rfl⟩; rw [HD.out])
                    go_meet
                    case rel => exact ⟨k, by omega, rfl, by show _ = _; rw [← HK.out, dw_no (by rw [HN.out]; omega) HY.out HD.out], rfl⟩
                · go_wp2
                  go_meet
                  case rel => exact ⟨k, by omega, rfl, by show _ = _; rw [← HK.out, dw_end (by rw [HN.out]; omega)], rfl⟩
            · have e : R = false := by rw [← HI.out, pInt_no (by rw [HN.out]; omega) HZ.out h0 (by omega)]
              subst e
              go_wp2
              go_ret
              exact ⟨rfl, rfl⟩
          · have e : R = false := by rw [← HI.out, pInt_no (by rw [HN.out]; omega) HZ.out h0 (by omega)]
            have h49' : decide (49 ≤ z) = false := by simpa using h49
            subst e
            go_wp2
            go_ret
            exact ⟨rfl, rfl⟩
      case rest =>
        obtain ⟨k, hk, rfl, HK, rfl⟩ := hcut
        clear hci HZ z hb hlt HI hi HR
        by_cases hkn : k = n
        · have e : R = true := by rw [← HK.out, drop_end (by rw [HN.out]; omega)]; rfl
          subst e
          have hb : ((k : Int) == (n : Int)) = true := by rw [beq_iff_eq]; omega
          clear hkn HK HC
          go_wp2
          go_ret
          exact ⟨rfl, rfl⟩
        · have hlt : k < n := by omega
          have hb : ((k : Int) == (n : Int)) = false := by rw [beq_eq_false_iff_ne]; omega
          clear hkn
          have hck := HC.out k hlt
          obtain ⟨z, hz⟩ : ∃ z, zs.getD k 0 = z := ⟨_, rfl⟩
          rw [hz] at hck
          have HZ : Hid (zs.getD k 0 = z) := hz
          clear hz
          go_upto_if 62 with fail
          go_cut [4] from 5 (fun s w' => ∃ m : Nat, m < n ∧ s = .int .i64 (m : Int) ∧ Hid (pE (zs.drop m) = R) ∧ w' = wc)
          case first =>
            by_cases h46 : z = 46
            · subst h46
              have HP : Hid (pPt (zs.drop (k + 1)) = R) := by show _ = _; rw [← HK.out, pFrac_pt (by rw [HN.out]; omega) HZ.out]
              clear HK
              by_cases hk1 : k + 1 = n
              · have e : R = true := by rw [← HP.out, drop_end (by rw [HN.out]; omega)]; rfl
                subst e
                have hb1 : ((k : Int) + 1 == (n : Int)) = true := by rw [beq_iff_eq]; omega
                clear hk1
                go_wp2
                go_ret
                exact ⟨rfl, rfl⟩
              · have hlt1 : k + 1 < n := by omega
                have hb1 : ((k : Int) + 1 == (n : Int)) = false := by rw [beq_eq_false_iff_ne]; omega
                clear hk1
                have hck1 := HC.out (k + 1) hlt1
                obtain ⟨y, hy⟩ : ∃ y, zs.getD (k + 1) 0 = y := ⟨_, rfl⟩
                rw [hy] at hck1
                have HY : Hid (zs.getD (k + 1) 0 = y) := hy
                clear hy
                cases hd : dig y with
                | false =>
                  have HD : Hid (dig y = false) := hd
                  clear hd
                  have e : R = false := by rw [← HP.out, pPt_no (by rw [HN.out]; omega) HY.out HD.out]
                  subst e
                  go_wp2_with (go_at_call 20; refine (zzIsDigit_any _ _).mono ?_; rintro e w' ⟨rfl, rfl⟩; rw [HD.out])
                  go_ret
                  exact ⟨rfl, rfl⟩
                | true =>
                  have HD : Hid (dig y = true) := hd
                  clear hd
                  have HF : Hid (pE ((zs.drop (k + 1)).dropWhile dig) = R) := by show _ = _; rw [← HP.out, pPt_yes (by rw [HN.out]; omega) HY.out HD.out]
                  go_wp2_with (go_at_call 20; refine (zzIsDigit_any _ _).mono ?_; rintro e w' ⟨rfl, rfl⟩; rw [HD.out])
                  go_loopg [4] (n - (k + 1)) (fun g t wr => ∃ j : Nat, j ≤ n ∧ Hid (g = n - j) ∧ t = .int .i64 (j : Int) ∧ Hid (pE ((zs.drop j).dropWhile dig) = R) ∧ wr = w')
                  case atStart => exact ⟨k + 1, by omega, rfl, by go_num, HF, rfl⟩
                  case round =>
                    obtain ⟨j, hj, HG, rfl, HK, hwr⟩ := hrel
                    subst hwr
                    clear HF HD HY hck1 hb1 HP hck hb HZ
                    by_cases hjn : j < n
                    · have hcj := HC.out j hjn
                      obtain ⟨y', hy⟩ : ∃ y, zs.getD j 0 = y := ⟨_, rfl⟩
                      rw [hy] at hcj
                      have HY : Hid (zs.getD j 0 = y') := hy
                      clear hy
                      cases hd : dig y' with
                      | true =>
                        have HD : Hid (dig y' = true) := hd
                        clear hd
                        go_wp2_with (go_at_call 20; refine (zzIsDigit_any _ _).mono ?_; rintro e w' ⟨rfl, rfl⟩; rw [HD.out])
                        go_roundg (n - (j + 1))
                        case measure => rw [HG.out]; omega
                        case rel => exact ⟨j + 1, by omega, rfl, by go_num, by show _ = _; rw [← HK.out, dw_yes (by rw [HN.out]; omega) HY.out HD.out], rfl⟩
                      | false =>
                        have HD : Hid (dig y' = false) := hd
                        clear hd
                        have hbj : ((j : Int) == (n : Int)) = false := by rw [beq_eq_false_iff_ne]; omega
                        go_wp2_with (go_at_call 20; refine (zzIsDigit_any _ _).mono ?_; rintro e w' ⟨rfl, rfl⟩; rw [HD.out])
                        go_meet
                        case rel => exact ⟨j, by omega, rfl, by show _ = _; rw [← HK.out, dw_no (by rw [HN.out]; omega) HY.out HD.out], rfl⟩
                    · have e : R = true := by rw [← HK.out, drop_end (by rw [HN.out]; omega)]; rfl
                      subst e
                      have hbj : ((j : Int) == (n : Int)) = true := by rw [beq_iff_eq]; omega
                      go_wp2
                      go_ret
                      exact ⟨rfl, rfl⟩
            · have h0 : (z == 46) = false := by simpa using h46
              clear h46
              go_wp2
              go_meet
              case rel => exact ⟨k, hlt, rfl, by show _ = _; rw [← HK.out, pFrac_no (by rw [HN.out]; omega) HZ.out h0], rfl⟩
          case rest =>
            obtain ⟨m, hm, rfl, HE, rfl⟩ := hcut
            clear hck HZ z hb hlt HK hk
            have hcm := HC.out m hm
            obtain ⟨z, hz⟩ : ∃ z, zs.getD m 0 = z := ⟨_, rfl⟩
            rw [hz] at hcm
            have HZ : Hid (zs.getD m 0 = z) := hz
            clear hz
            obtain ⟨Q, HQ⟩ : ∃ Q : Bool, Hid (Q = !(z == 101 || z == 69)) := ⟨_, rfl⟩
            go_upto_region 26 with fail
            go_cut [4, 100] from 5 (fun s t w' => s = .int .i64 (m : Int) ∧ t = .bool Q ∧ w' = wc)
            case first =>
              by_cases h1 : z = 101
              · subst h1
                obtain rfl : Q = false := HQ.out
                go_wp2
                go_meet
                case rel => exact ⟨rfl, rfl, rfl⟩
              by_cases h2 : z = 69
              · subst h2
                obtain rfl : Q = false := HQ.out
                go_wp2
                go_meet
                case rel => exact ⟨rfl, rfl, rfl⟩
              · have h3 : (z == 101) = false := by simpa using h1
                have h4 : (z == 69) = false := by simpa using h2
                have h5 : (z != 101) = true := by simpa using h1
                have h6 : (z != 69) = true := by simpa using h2
                obtain rfl : Q = true := by rw [HQ.out, h3, h4]; rfl
                clear h1 h2 h3 h4
                go_wp2
                go_meet
                case rel => exact ⟨rfl, rfl, rfl⟩
            case rest =>
              obtain ⟨rfl, rfl, rfl⟩ := hcut
              clear hcm
              cases Q with
              | true =>
                have e : R = false := by
                  have hq := HQ.out
                  rw [← HE.out]
                  refine pE_no (by rw [HN.out]; omega) HZ.out ?_ ?_
                  · cases h : z == 101
                    · rfl
                    · rw [h] at hq; cases hq
                  · cases h : z == 69
                    · rfl
                    · rw [h, Bool.or_true] at hq; cases hq
                subst e
                go_wp2
                go_ret
                exact ⟨rfl, rfl⟩
              | false =>
                have HX : Hid (pExp (zs.drop (m + 1)) = R) := by
                  have hq := HQ.out
                  show _ = _
                  rw [← HE.out, pE_yes (by rw [HN.out]; omega) HZ.out ?_]
                  by_cases h1 : z = 101
                  · exact .inl h1
                  · refine .inr ?_
                    have h2 : (z == 101) = false := by simpa using h1
                    rw [h2] at hq
                    simpa using hq
                clear HE HZ HQ
                by_cases hm1 : m + 1 = n
                · have e : R = true := by rw [← HX.out, drop_end (by rw [HN.out]; omega)]; rfl
                  subst e
                  have hb1 : ((m : Int) + 1 == (n : Int)) = true := by rw [beq_iff_eq]; omega
                  clear hm1
                  go_wp2
                  go_ret
                  exact ⟨rfl, rfl⟩
                · have hlt1 : m + 1 < n := by omega
                  have hb1 : ((m : Int) + 1 == (n : Int)) = false := by rw [beq_eq_false_iff_ne]; omega
                  clear hm1
                  have hcm := HC.out (m + 1) hlt1
                  obtain ⟨y, hy⟩ : ∃ y, zs.getD (m + 1) 0 = y := ⟨_, rfl⟩
                  rw [hy] at hcm
                  have HY : Hid (zs.getD (m + 1) 0 = y) := hy
                  clear hy
                  obtain ⟨Q2, HQ2⟩ : ∃ Q : Bool, Hid (Q = (y == 43 || y == 45)) := ⟨_, rfl⟩
                  go_upto_region 31 with fail
                  go_cut [4, 117] from 5 (fun s t w' => s = .int .i64 ((m + 1 : Nat) : Int) ∧ t = .bool Q2 ∧ w' = wc)
                  case first =>
                    by_cases h1 : y = 43
                    · subst h1
                      obtain rfl : Q2 = true := HQ2.out
                      go_wp2
                      go_meet
                      case rel => exact ⟨by go_num, rfl, rfl⟩
                    by_cases h2 : y = 45
                    · subst h2
                      obtain rfl : Q2 = true := HQ2.out
                      go_wp2
                      go_meet
                      case rel => exact ⟨by go_num, rfl, rfl⟩
                    · have h3 : (y == 43) = false := by simpa using h1
                      have h4 : (y == 45) = false := by simpa using h2
                      obtain rfl : Q2 = false := by rw [HQ2.out, h3, h4]; rfl
                      clear h1 h2
                      go_wp2
                      go_meet
                      case rel => exact ⟨by go_num, rfl, rfl⟩
                  case rest =>
                    obtain ⟨rfl, rfl, rfl⟩ := hcut
                    clear hcm hb1
                    go_upto_if 117 with fail
                    go_cut [4] from 5 (fun s w' => ∃ j : Nat, j < n ∧ s = .int .i64 (j : Int) ∧ Hid (pDig (zs.drop j) = R) ∧ w' = wc)
                    case first =>
                      cases Q2 with
                      | true =>
                        have HS : Hid (pDig (zs.drop (m + 2)) = R) := by
                          have hq := HQ2.out
                          show _ = _
                          rw [← HX.out, pExp_sign (by rw [HN.out]; omega) HY.out ?_]
                          by_cases h1 : y = 43
                          · exact .inl h1
                          · refine .inr ?_
                            have h2 : (y == 43) = false := by simpa using h1
                            rw [h2] at hq
                            simpa using hq
                        clear HQ2 HX HY
                        by_cases hm2 : m + 2 = n
                        · have e : R = true := by rw [← HS.out, drop_end (by rw [HN.out]; omega)]; rfl
                          subst e
                          go_wp2
                          go_ret
                          exact ⟨rfl, rfl⟩
                        · go_wp2
                          go_meet
                          case rel => exact ⟨m + 2, by omega, by go_num, HS, rfl⟩
                      | false =>
                        have HS : Hid (pDig (zs.drop (m + 1)) = R) := by
                          have hq := HQ2.out
                          show _ = _
                          rw [← HX.out, pExp_no (by rw [HN.out]; omega) HY.out ?_ ?_]
                          · cases h : y == 43
                            · rfl
                            · rw [h] at hq; cases hq
                          · cases h : y == 45
                            · rfl
                            · rw [h] at hq; cases h2 : y == 43 <;> (rw [h2] at hq; cases hq)
                        go_wp2
                        go_meet
                        case rel => exact ⟨m + 1, by omega, by go_num, HS, rfl⟩
                    case rest =>
                      obtain ⟨j, hj, rfl, HJ, rfl⟩ := hcut
                      clear HQ2 HX HY hlt1 hm
                      have hcj := HC.out j hj
                      obtain ⟨x, hx⟩ : ∃ y, zs.getD j 0 = y := ⟨_, rfl⟩
                      rw [hx] at hcj
                      have HX : Hid (zs.getD j 0 = x) := hx
                      clear hx
                      cases hd : dig x with
                      | false =>
                        have HD : Hid (dig x = false) := hd
                        clear hd
                        have e : R = false := by rw [← HJ.out, pDig_no (by rw [HN.out]; omega) HX.out HD.out]
                        subst e
                        go_wp2_with (go_at_call 20; refine (zzIsDigit_any _ _).mono ?_; rintro e w' ⟨rfl, rfl⟩; rw [HD.out])
                        go_ret
                        exact ⟨rfl, rfl⟩
                      | true =>
                        have HD : Hid (dig x = true) := hd
                        clear hd
                        have HF : Hid (((zs.drop j).dropWhile dig).isEmpty = R) := by show _ = _; rw [← HJ.out, pDig_yes (by rw [HN.out]; omega) HX.out HD.out]
                        clear HJ
                        go_wp2_with (go_at_call 20; refine (zzIsDigit_any _ _).mono ?_; rintro e w' ⟨rfl, rfl⟩; rw [HD.out])
                        go_loopg [4] (n - j) (fun g t wr => ∃ i : Nat, i ≤ n ∧ Hid (g = n - i) ∧ t = .int .i64 (i : Int) ∧ Hid (((zs.drop i).dropWhile dig).isEmpty = R) ∧ wr = w')
                        case atStart => exact ⟨j, by omega, rfl, rfl, HF, rfl⟩
                        case round =>
                          obtain ⟨i, hi, HG, rfl, HK, hwr⟩ := hrel
                          subst hwr
                          clear HF HD HX hcj
                          by_cases hin : i < n
                          · have hci := HC.out i hin
                            obtain ⟨x', hx⟩ : ∃ y, zs.getD i 0 = y := ⟨_, rfl⟩
                            rw [hx] at hci
                            have HX : Hid (zs.getD i 0 = x') := hx
                            clear hx
                            cases hd : dig x' with
                            | true =>
                              have HD : Hid (dig x' = true) := hd
                              clear hd
                              go_wp2_with (go_at_call 20; refine (zzIsDigit_any _ _).mono ?_; rintro e w' ⟨rfl, rfl⟩; rw [HD.out])
                              go_roundg (n - (i + 1))
                              case measure => rw [HG.out]; omega
                              case rel => exact ⟨i + 1, by omega, rfl, by go_num, by show _ = _; rw [← HK.out, dw_yes (by rw [HN.out]; omega) HX.out HD.out], rfl⟩
                            | false =>
                              have HD : Hid (dig x' = false) := hd
                              clear hd
                              have e : R = false := by rw [← HK.out, dw_no (by rw [HN.out]; omega) HX.out HD.out, drop_cons (by rw [HN.out]; omega)]; rfl
                              subst e
                              have hbi : ((i : Int) == (n : Int)) = false := by rw [beq_eq_false_iff_ne]; omega
                              go_wp2_with (go_at_call 20; refine (zzIsDigit_any _ _).mono ?_; rintro e w' ⟨rfl, rfl⟩; rw [HD.out])
                              go_ret
                              exact ⟨rfl, rfl⟩
                          · have e : R = true := by rw [← HK.out, drop_end (by rw [HN.out]; omega)]; rfl
                            subst e
                            have hbi : ((i : Int) == (n : Int)) = true := by rw [beq_iff_eq]; omega
                            go_wp2
                            go_ret
                            exact ⟨rfl, rfl⟩
end Go.Proofs.Qxb6617909a.NmW
