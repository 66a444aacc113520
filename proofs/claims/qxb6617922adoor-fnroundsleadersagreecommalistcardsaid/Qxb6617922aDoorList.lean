/-
  CONTRACTS: zzDecimal at an int's text; zzListMatches at a list's own text.
-/
import Derived.Test.Qxb6617922aDoorDec
import Derived.Deep.DeepCutAuto
namespace Go.Proofs.Qxb6617922aDoor.Wk
open Go.RowKit
open Go.Proofs.Qxb6617922aDoor.Pl

theorem dd_at (u : Nat) : Hid (∀ i, i < (Lib.decDigits u).length → 48 ≤ ((Lib.decDigits u).getD i 0).toNat ∧ ((Lib.decDigits u).getD i 0).toNat ≤ 57) := by
  intro i hi
  have hm : (Lib.decDigits u).getD i 0 ∈ Lib.decDigits u := by simp [List.getD, hi]
  exact dd_dig u _ hm

theorem dd_first (u : Nat) (h : 1 ≤ u) : ((Lib.decDigits u).getD 0 0).toNat ≠ 48 := by
  rcases hd : Lib.decDigits u with _ | ⟨c, r⟩
  · exact absurd hd (dd_ne u)
  · exact dd_head u h c r hd

theorem dd_pos (u : Nat) : 1 ≤ (Lib.decDigits u).length := by
  rcases hd : Lib.decDigits u with _ | ⟨c, r⟩
  · exact absurd hd (dd_ne u)
  · simp

theorem dec_itoa (x : Int) (w : World) (h0 : -9223372036854775808 ≤ x) (h1 : x ≤ 9223372036854775807) :
    Calls Tryd.prog 27 #[.string ⟨(Lib.itoa x).toArray⟩] w fun e w' => e = .returned (.tuple #[.bool true, .bool (decide (x < 0)), .int .u64 (x.natAbs : Int)]) ∧ w' = w := by
  have hlen := dd_len x.natAbs (by omega)
  have hv : val (Lib.decDigits x.natAbs) 0 < 18446744073709551616 := by rw [dd_val]; omega
  rcases Int.lt_trichotomy x 0 with h | h | h
  · have e : Lib.itoa x = 45 :: Lib.decDigits x.natAbs := by unfold Lib.itoa; rw [if_pos h]
    have k := dec_neg (Lib.decDigits x.natAbs) w (dd_pos _) (by omega) (dd_at _) (dd_first _ (by omega)) hv
    rw [dd_val] at k
    rw [e, decide_eq_true h]
    exact k
  · subst h
    have e : Lib.itoa 0 = [48] := by unfold Lib.itoa; rw [if_neg (by omega)]; exact Lib.decDigits_one (by omega)
    rw [e]
    exact dec_zero w
  · have e : Lib.itoa x = Lib.decDigits x.natAbs := by
      unfold Lib.itoa
      rw [if_neg (by omega), show x.toNat = x.natAbs from by omega]
    have k := dec_pos (Lib.decDigits x.natAbs) w (dd_pos _) (by omega) (dd_at _) (dd_first _ (by omega)) hv
    rw [dd_val] at k
    rw [e, decide_eq_false (by omega)]
    exact k

/-- AT THE i-th NUMBER: the text is 'A' (i numbers), the comma unless i = 0, the number's own text 'T', and 'r', which is empty or opens with a comma. -/
theorem seg_at (xs : List Int) (i : Nat) (hi : i < xs.length) :
    ∃ A T r : List UInt8, cl xs = A ++ (sepAt i ++ (T ++ r)) ∧ A.length = (cl (xs.take i)).length ∧ T = Lib.itoa (xs.getD i 0) ∧ (∀ c ∈ T, c.toNat ≠ 44) ∧ (r = [] ∨ ∃ r', r = 44 :: r') ∧ (cl (xs.take (i + 1))).length = A.length + (sepAt i).length + T.length := by
  refine ⟨cl (xs.take i), Lib.itoa (xs.getD i 0), rest xs i, cl_split xs i hi, rfl, rfl, fun c hc => (itoa_no44 _ c hc).1, rest_cases xs i, cl_take_succ xs i hi⟩

theorem get_mid (A S T r : List UInt8) (j : Nat) (hj : j < T.length) : (A ++ (S ++ (T ++ r))).getD (A.length + S.length + j) 0 = T.getD j 0 := by
  unfold List.getD
  rw [List.getElem?_append_right (by omega), List.getElem?_append_right (by omega), List.getElem?_append_left (by omega), show A.length + S.length + j - A.length - S.length = j from by omega]
theorem get_sep (A T r : List UInt8) : (A ++ ([44] ++ (T ++ r))).getD A.length 0 = 44 := by
  simp [List.getD]
theorem get_end (A S T r' : List UInt8) : (A ++ (S ++ (T ++ 44 :: r'))).getD (A.length + S.length + T.length) 0 = 44 := by
  simp [List.getD, Nat.add_assoc]
theorem cut_mid (A S T r : List UInt8) : ((A ++ (S ++ (T ++ r))).drop (A.length + S.length)).take T.length = T := by
  rw [← List.append_assoc, List.drop_append_of_le_length (by simp)]
  simp

theorem extract_eq (s T : List UInt8) (a b : Nat) (hT : (s.drop a).take (b - a) = T) : (⟨s.toArray⟩ : ByteArray).extract a b = ⟨T.toArray⟩ := by
  have h := Lib.extract_data (⟨s.toArray⟩ : ByteArray) a b
  rw [show (⟨s.toArray⟩ : ByteArray).data.toList = s from rfl, hT] at h
  apply ByteArray.ext
  apply Array.toList_inj.1
  rw [h]

theorem slice_str (s T : List UInt8) (a : Nat) (hi : Int) (hT : (s.drop a).take T.length = T) (hle : a + T.length ≤ s.length) (hhi : hi = (a : Int) + (T.length : Int)) (w : World) :
    (Instr.slice 9 (.string ⟨s.toArray⟩) (some (.int .i64 (a : Int))) (some (.int .i64 hi)) none).run Tryd.prog w = .ok (.string ⟨T.toArray⟩) w := by
  subst hhi
  rw [run_slice_string (P := Tryd.prog) w 9 ⟨s.toArray⟩ .i64 .i64 (a : Int) _ Tryd.underlying9 (by omega) (by omega) (by show _ ≤ ((s.toArray.size : Nat) : Int); simp; omega)]
  rw [extract_eq s T _ _ (by rw [show ((a : Int) + (T.length : Int)).toNat - (a : Int).toNat = T.length from by omega, Int.toNat_natCast]; exact hT)]

theorem list_none (a : Option Addr) (c : Nat) (w : World) : Calls Tryd.prog 11 #[.string ⟨#[]⟩, .slice a 0 c] w fun e w' => e = .returned (.bool true) ∧ w' = w := by
  go_enter Tryd.func11, Tryd.ntmps11
  go_wp2
  go_ret
  exact ⟨rfl, rfl⟩

set_option maxRecDepth 100000 in
set_option maxHeartbeats 2000000 in
theorem list_any (b off n c : Nat) (xs : List Int) (s : List UInt8) (w : World) (HS : Hid (cl xs = s)) (HN : Hid (xs.length = n)) (hn1 : 1 ≤ n) (hn : n ≤ 4611686018427387904) (hs : s.length ≤ 4611686018427387904)
    (HC : Hid (∀ i, i < n → w.cell? ⟨b, off + i, none⟩ = some (.int .i64 (xs.getD i 0)))) (HB : Hid (∀ i, i < n → -9223372036854775808 ≤ xs.getD i 0 ∧ xs.getD i 0 ≤ 9223372036854775807)) :
    Calls Tryd.prog 11 #[.string ⟨s.toArray⟩, .slice (some ⟨b, off, none⟩) n c] w fun e w' => e = .returned (.bool true) ∧ w' = w := by
  have hq : ((n : Int) == 0) = false := by rw [beq_eq_false_iff_ne]; omega
  go_enter Tryd.func11, Tryd.ntmps11
  go_wp2
  go_loopg [5, 6, 7, 8, 9, 10, 11, 12] n (fun g p i _ _ _ _ _ _ wr => ∃ k : Nat, k ≤ n ∧ Hid (g = n - k) ∧ i = .int .i64 (k : Int) ∧ p = .int .i64 ((cl (xs.take k)).length : Nat) ∧ wr = w)
  case atStart => exact ⟨0, by omega, rfl, rfl, rfl, rfl⟩
  case round =>
    obtain ⟨k, hk, HK, rfl, rfl, hwr⟩ := hrel
    subst hwr
    by_cases hkn : k < n
    · obtain ⟨A, T, r, hcl, hA, hT, hno, hr, hnext⟩ := seg_at xs k (by rw [HN.out]; exact hkn)
      rw [HS.out] at hcl
      have hx := HB.out k hkn
      have hck := HC.out k hkn
      obtain ⟨x, hxe⟩ : ∃ x, xs.getD k 0 = x := ⟨_, rfl⟩
      rw [hxe] at hx hck hT
      rw [← hA]
      have hsl : s.length = A.length + (sepAt k).length + T.length + r.length := by rw [hcl]; simp; omega
      have HCL : Hid (s = A ++ (sepAt k ++ (T ++ r))) := hcl
      have HT : Hid (T = Lib.itoa x) := hT
      have HNO : Hid (∀ c ∈ T, c.toNat ≠ 44) := hno
      have HR : Hid (r = [] ∨ ∃ r', r = 44 :: r') := hr
      have HNX : Hid ((cl (xs.take (k + 1))).length = A.length + (sepAt k).length + T.length) := hnext
      obtain ⟨L, hL⟩ : ∃ L, L = A.length + (sepAt k).length := ⟨_, rfl⟩
      have HLe : Hid (L = A.length + (sepAt k).length) := hL
      have hAs : A.length ≤ s.length := by omega
      have hLs : L + T.length ≤ s.length := by omega
      have hLs2 : L ≤ s.length := by omega
      clear hcl hA hT hno hr hnext hsl hL hxe
      go_upto_if 26 with fail
      go_cut [5] (fun p w' => p = .int .i64 (L : Int) ∧ w' = wr)
      case first =>
        by_cases h0 : k = 0
        · subst h0
          have e : A.length = L := by rw [HLe.out]; rfl
          rw [e]
          clear e
          go_wp2
          go_meet
          case rel => exact ⟨rfl, rfl⟩
        · have hk0 : (0 : Int) < (k : Int) := by omega
          have hLA : L = A.length + 1 := by rw [HLe.out]; simp [sepAt, h0]
          have hlt : A.length < s.length := by omega
          have hb := byte_at s A.length hlt
          have hg : s.getD A.length 0 = 44 := by
            have := HCL.out
            rw [show sepAt k = [44] from by simp [sepAt, h0]] at this
            rw [this]
            exact get_sep A T r
          rw [hg] at hb
          have HLA : Hid (L = A.length + 1) := hLA
          have hq1 : decide ((s.length : Int) ≤ (A.length : Int)) = false := by rw [decide_eq_false_iff_not]; omega
          clear hLA hg h0
          go_wp2
          go_meet
          case rel => exact ⟨by rw [HLA.out]; go_num, rfl⟩
      case rest =>
        obtain ⟨rfl, hwc⟩ := hcut
        obtain rfl := hwc.symm
        clear hwc
        go_wp2
        go_loopg [5] T.length (fun g p w' => ∃ j : Nat, j ≤ T.length ∧ Hid (g = T.length - j) ∧ p = .int .i64 ((L + j : Nat) : Int) ∧ w' = wr)
        case atStart => exact ⟨0, by omega, rfl, rfl, rfl⟩
        case round =>
          obtain ⟨j, hj, HJ, rfl, hwr2⟩ := hrel
          subst hwr2
          by_cases hjt : j < T.length
          · have hlt : L + j < s.length := by omega
            have hb := byte_at s (L + j) hlt
            have hg : s.getD (L + j) 0 = T.getD j 0 := by rw [HCL.out, HLe.out]; exact get_mid _ _ _ _ j hjt
            obtain ⟨c, hc⟩ : ∃ c, T.getD j 0 = c := ⟨_, rfl⟩
            rw [hg, hc] at hb
            have hcn : c.toNat ≠ 44 := HNO.out c (by rw [← hc]; simp [List.getD, hjt])
            have hq : ((c.toNat : Int) != 44) = true := by rw [bne_iff_ne]; omega
            have hlt2 : ((L + j : Nat) : Int) < (s.length : Int) := by omega
            clear hg hc hcn
            go_wp2
            go_roundg (T.length - (j + 1))
            case measure => rw [HJ.out]; omega
            case rel => exact ⟨j + 1, by omega, rfl, by go_num, rfl⟩
          · obtain rfl : j = T.length := by omega
            have hsl : ∀ w : World, (Instr.slice 9 (.string ⟨s.toArray⟩) (some (.int .i64 (L : Int))) (some (.int .i64 ((L : Int) + (T.length : Int)))) none).run Tryd.prog w = .ok (.string ⟨T.toArray⟩) w :=
              slice_str s T L _ (by rw [HCL.out, HLe.out]; exact cut_mid _ _ _ _) hLs rfl
            have hdec := fun w => dec_itoa x w hx.1 hx.2
            rw [← HT.out] at hdec
            have HDEC : Hid (∀ w : World, Calls Tryd.prog 27 #[.string ⟨T.toArray⟩] w fun e w' => e = .returned (.tuple #[.bool true, .bool (decide (x < 0)), .int .u64 (x.natAbs : Int)]) ∧ w' = w) := hdec
            clear hdec
            have hmb : ∀ b : Bool, (b != b) = false := by intro b; cases b <;> rfl
            rcases HR.out with hr | ⟨r', hr⟩
            · have hl : L + T.length = s.length := by have := congrArg List.length HCL.out; rw [hr] at this; simp at this; have := HLe.out; omega
              have hq : ¬ ((L + T.length : Nat) : Int) < (s.length : Int) := by omega
              clear hl hr
              go_wp2_with fail
              refine (HDEC.out _).mono ?_
              rintro e w' ⟨rfl, hw⟩
              obtain rfl := hw.symm
              clear hw
              go_wp2_with fail
              refine (mag_any x _ hx.1 hx.2).mono ?_
              rintro e w' ⟨rfl, hw⟩
              obtain rfl := hw.symm
              clear hw
              generalize decide (x < 0) = sg
              generalize (x.natAbs : Int) = mg
              cases sg
              all_goals
                go_wp2
                go_roundg (n - (k + 1))
                case measure => rw [HK.out]; omega
                case rel => exact ⟨k + 1, by omega, rfl, by go_num, by rw [HNX.out, HLe.out]; go_num, rfl⟩
            · have hlt : L + T.length < s.length := by have := congrArg List.length HCL.out; rw [hr] at this; simp at this; have := HLe.out; omega
              have hb := byte_at s (L + T.length) hlt
              have hg : s.getD (L + T.length) 0 = 44 := by rw [HCL.out, HLe.out, hr]; exact get_end _ _ _ _
              rw [hg] at hb
              have hlt2 : ((L + T.length : Nat) : Int) < (s.length : Int) := by omega
              clear hg hr
              go_wp2_with fail
              refine (HDEC.out _).mono ?_
              rintro e w' ⟨rfl, hw⟩
              obtain rfl := hw.symm
              clear hw
              go_wp2_with fail
              refine (mag_any x _ hx.1 hx.2).mono ?_
              rintro e w' ⟨rfl, hw⟩
              obtain rfl := hw.symm
              clear hw
              generalize decide (x < 0) = sg
              generalize (x.natAbs : Int) = mg
              cases sg
              all_goals
                go_wp2
                go_roundg (n - (k + 1))
                case measure => rw [HK.out]; omega
                case rel => exact ⟨k + 1, by omega, rfl, by go_num, by rw [HNX.out, HLe.out]; go_num, rfl⟩
    · have e : (cl (xs.take k)).length = s.length := by rw [cl_take_all xs k (by rw [HN.out]; omega), HS.out]
      rw [e]
      clear e
      go_wp2
      go_ret
      exact ⟨by simp, rfl⟩

end Go.Proofs.Qxb6617922aDoor.Wk
