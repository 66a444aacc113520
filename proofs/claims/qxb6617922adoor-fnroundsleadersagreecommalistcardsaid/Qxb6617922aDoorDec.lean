/-
  CONTRACTS of the law's own small readers: zzMagnitude, zzDecimal.
-/
import Derived.Test.Qxb6617922aDoorProg
import Derived.Test.Qxb6617922aDoorPlain
import Derived.WalkKit
import Derived.Deep.LoopGhost
namespace Go.Proofs.Qxb6617922aDoor.Wk
open Go.RowKit
open Go.Proofs.Qxb6617922aDoor.Pl

theorem ret_bi {b : Bool} {k : IntKind} {x y : Int} (h : x = y) : Ending.returned (.tuple #[.bool b, .int k x]) = .returned (.tuple #[.bool b, .int k y]) := by rw [h]

theorem mag_any (x : Int) (w : World) (h0 : -9223372036854775808 ≤ x) (h1 : x ≤ 9223372036854775807) :
    Calls Tryd.prog 28 #[.int .i64 x] w fun e w' => e = .returned (.tuple #[.bool (decide (x < 0)), .int .u64 (x.natAbs : Int)]) ∧ w' = w := by
  by_cases h : x < 0
  · have e : (x.natAbs : Int) = -x := by omega
    rw [e, decide_eq_true h]
    clear e
    go_enter Tryd.func28, Tryd.ntmps28
    go_wp2
    go_ret2
    exact ⟨ret_bi (by omega), rfl⟩
  · have e : (x.natAbs : Int) = x := by omega
    rw [e, decide_eq_false h]
    clear e
    go_enter Tryd.func28, Tryd.ntmps28
    go_wp2
    go_ret2
    exact ⟨rfl, rfl⟩

theorem byte_at (t : List UInt8) (i : Nat) (h : i < t.length) : (⟨t.toArray⟩ : ByteArray)[i]'h = t.getD i 0 := by
  have e : (⟨t.toArray⟩ : ByteArray)[i]'h = t[i] := rfl
  rw [e]
  simp [List.getD, h]

/-- '0' -/
theorem dec_zero (w : World) : Calls Tryd.prog 27 #[.string ⟨#[48]⟩] w fun e w' => e = .returned (.tuple #[.bool true, .bool false, .int .u64 0]) ∧ w' = w := by
  go_enter Tryd.func27, Tryd.ntmps27
  go_wp2
  go_ret3
  exact ⟨rfl, rfl⟩

theorem val_step (ds : List UInt8) (k : Nat) (h : k < ds.length) : val (ds.take (k + 1)) 0 = val (ds.take k) 0 * 10 + ((ds.getD k 0).toNat - 48) := by
  rw [List.take_succ_eq_append_getElem h, val_snoc]
  simp [List.getD, h]
theorem val_take_le (ds : List UInt8) (k : Nat) : val (ds.take k) 0 ≤ val ds 0 := by
  conv => rhs; rw [← List.take_append_drop k ds, val_append]
  exact val_ge _ _

set_option maxHeartbeats 1000000 in
theorem dec_pos (ds : List UInt8) (w : World) (hne : 1 ≤ ds.length) (hlen : ds.length ≤ 30) (hd : Hid (∀ i, i < ds.length → 48 ≤ (ds.getD i 0).toNat ∧ (ds.getD i 0).toNat ≤ 57)) (h48 : (ds.getD 0 0).toNat ≠ 48) (hv : val ds 0 < 18446744073709551616) :
    Calls Tryd.prog 27 #[.string ⟨(ds).toArray⟩] w fun e w' => e = .returned (.tuple #[.bool true, .bool false, .int .u64 (val ds 0 : Nat)]) ∧ w' = w := by
  obtain ⟨t, ht⟩ : ∃ t, ds = t := ⟨_, rfl⟩
  have hl : t.length = ds.length + 0 := by rw [← ht]; rfl
  have hget : ∀ i, t.getD i 0 = ds.getD i 0 := by intro i; rw [← ht]
  obtain ⟨V, hV⟩ : ∃ V, val ds 0 = V := ⟨_, rfl⟩
  rw [hV] at hv ⊢
  rw [ht]
  obtain ⟨n, hn⟩ : ∃ n, ds.length = n := ⟨_, rfl⟩
  rw [hn] at hl hlen hne
  have hl1 : t.length ≤ 31 := by omega
  have hl2 : 0 < t.length := by omega
  have hl3 : 0 < t.length := by omega
  obtain ⟨c0, hc0⟩ : ∃ c0, ds.getD 0 0 = c0 := ⟨_, rfl⟩
  have hb0 := byte_at t 0 hl2
  rw [show t.getD 0 0 = c0 from (hget 0).trans hc0] at hb0
  have hd0 := hd.out 0 (by omega)
  rw [hc0] at hd0 h48
  
  
  have hq1 : ((c0.toNat : Int) == 45) = false := by rw [beq_eq_false_iff_ne]; omega
  have hq2 : ((c0.toNat : Int) == 48) = false := by rw [beq_eq_false_iff_ne]; omega
  have HV : Hid (val ds 0 = V) := hV
  have HL : Hid (t.length = n + 0) := hl
  have HN : Hid (ds.length = n) := hn
  have HG : Hid (∀ i, t.getD i 0 = ds.getD i 0) := hget
  have hq3 : ((t.length : Int) == 0) = false := by rw [beq_eq_false_iff_ne]; omega
  have hq4 : decide (t = []) = false := by rw [decide_eq_false_iff_not]; intro e; rw [e, List.length_nil] at hl; omega
  clear hV hc0 hd0 h48 hl hn hget ht
  go_enter Tryd.func27, Tryd.ntmps27
  go_wp2
  go_loopg [6, 7, 8, 9] n (fun g a b c d wr => ∃ k : Nat, k ≤ n ∧ Hid (g = n - k) ∧ a = .int .i64 (k : Int) ∧ b = .int .u64 (val (ds.take k) 0 : Nat) ∧ wr = w)
  case atStart => exact ⟨0, by omega, rfl, rfl, rfl, rfl⟩
  case round =>
    obtain ⟨k, hk, HK, rfl, rfl, hwr⟩ := hrel
    subst hwr
    clear hb0  hq1 hq2
    by_cases hkn : k < n
    · obtain ⟨c, hc⟩ : ∃ c, ds.getD k 0 = c := ⟨_, rfl⟩
      have hbk := byte_at t k (by rw [HL.out]; omega)
      rw [show t.getD k 0 = c from (HG.out k).trans hc] at hbk
      have hdk := hd.out k (by rw [HN.out]; omega)
      rw [hc] at hdk
      obtain ⟨M, hM⟩ : ∃ M, val (ds.take k) 0 = M := ⟨_, rfl⟩
      have hstep := val_step ds k (by rw [HN.out]; omega)
      rw [hM, hc] at hstep
      have hle := val_take_le ds (k + 1)
      rw [hstep, HV.out] at hle
      rw [hM]
      have HS : Hid (val (ds.take (k + 1)) 0 = M * 10 + (c.toNat - 48)) := hstep
      clear hc hM hstep
      have hltk : k < t.length := by rw [HL.out]; omega
      have hlk : ((k : Int)) < (t.length : Int) := by omega
      go_wp2
      go_roundg (n - (k + 1))
      case measure => rw [HK.out]; omega
      case rel => exact ⟨k + 1, by omega, rfl, by go_num, by rw [HS.out]; go_num, rfl⟩
    · have hlk : ¬ ((k : Int)) < (t.length : Int) := by rw [HL.out]; omega
      have e : val (ds.take k) 0 = V := by rw [List.take_of_length_le (by rw [HN.out]; omega)]; exact HV.out
      rw [e]
      clear e
      go_wp2
      go_ret3
      exact ⟨rfl, rfl⟩

set_option maxHeartbeats 1000000 in
theorem dec_neg (ds : List UInt8) (w : World) (hne : 1 ≤ ds.length) (hlen : ds.length ≤ 30) (hd : Hid (∀ i, i < ds.length → 48 ≤ (ds.getD i 0).toNat ∧ (ds.getD i 0).toNat ≤ 57)) (h48 : (ds.getD 0 0).toNat ≠ 48) (hv : val ds 0 < 18446744073709551616) :
    Calls Tryd.prog 27 #[.string ⟨(45 :: ds).toArray⟩] w fun e w' => e = .returned (.tuple #[.bool true, .bool true, .int .u64 (val ds 0 : Nat)]) ∧ w' = w := by
  obtain ⟨t, ht⟩ : ∃ t, 45 :: ds = t := ⟨_, rfl⟩
  have hl : t.length = ds.length + 1 := by rw [← ht]; rfl
  have hget : ∀ i, t.getD (1 + i) 0 = ds.getD i 0 := by intro i; rw [← ht]; simp [List.getD, Nat.add_comm 1 i]
  obtain ⟨V, hV⟩ : ∃ V, val ds 0 = V := ⟨_, rfl⟩
  rw [hV] at hv ⊢
  rw [ht]
  obtain ⟨n, hn⟩ : ∃ n, ds.length = n := ⟨_, rfl⟩
  rw [hn] at hl hlen hne
  have hl1 : t.length ≤ 31 := by omega
  have hl2 : 1 < t.length := by omega
  have hl3 : 0 < t.length := by omega
  obtain ⟨c0, hc0⟩ : ∃ c0, ds.getD 0 0 = c0 := ⟨_, rfl⟩
  have hb0 := byte_at t 1 hl2
  rw [show t.getD 1 0 = c0 from (hget 0).trans hc0] at hb0
  have hd0 := hd.out 0 (by omega)
  rw [hc0] at hd0 h48
  have hbm := byte_at t 0 hl3
  rw [show t.getD 0 0 = 45 from by rw [← ht]; rfl] at hbm
  have hq1 : ((c0.toNat : Int) == 45) = false := by rw [beq_eq_false_iff_ne]; omega
  have hq2 : ((c0.toNat : Int) == 48) = false := by rw [beq_eq_false_iff_ne]; omega
  have HV : Hid (val ds 0 = V) := hV
  have HL : Hid (t.length = n + 1) := hl
  have HN : Hid (ds.length = n) := hn
  have HG : Hid (∀ i, t.getD (1 + i) 0 = ds.getD i 0) := hget
  have hq3 : ((t.length : Int) == 0) = false := by rw [beq_eq_false_iff_ne]; omega
  have hq4 : decide (t = []) = false := by rw [decide_eq_false_iff_not]; intro e; rw [e, List.length_nil] at hl; omega
  clear hV hc0 hd0 h48 hl hn hget ht
  go_enter Tryd.func27, Tryd.ntmps27
  go_wp2
  go_loopg [6, 7, 8, 9] n (fun g a b c d wr => ∃ k : Nat, k ≤ n ∧ Hid (g = n - k) ∧ a = .int .i64 ((1 + k : Nat) : Int) ∧ b = .int .u64 (val (ds.take k) 0 : Nat) ∧ wr = w)
  case atStart => exact ⟨0, by omega, rfl, rfl, rfl, rfl⟩
  case round =>
    obtain ⟨k, hk, HK, rfl, rfl, hwr⟩ := hrel
    subst hwr
    clear hb0 hbm hq1 hq2
    by_cases hkn : k < n
    · obtain ⟨c, hc⟩ : ∃ c, ds.getD k 0 = c := ⟨_, rfl⟩
      have hbk := byte_at t (1 + k) (by rw [HL.out]; omega)
      rw [show t.getD (1 + k) 0 = c from (HG.out k).trans hc] at hbk
      have hdk := hd.out k (by rw [HN.out]; omega)
      rw [hc] at hdk
      obtain ⟨M, hM⟩ : ∃ M, val (ds.take k) 0 = M := ⟨_, rfl⟩
      have hstep := val_step ds k (by rw [HN.out]; omega)
      rw [hM, hc] at hstep
      have hle := val_take_le ds (k + 1)
      rw [hstep, HV.out] at hle
      rw [hM]
      have HS : Hid (val (ds.take (k + 1)) 0 = M * 10 + (c.toNat - 48)) := hstep
      clear hc hM hstep
      have hltk : 1 + k < t.length := by rw [HL.out]; omega
      have hlk : (((1 + k : Nat) : Int)) < (t.length : Int) := by omega
      go_wp2
      go_roundg (n - (k + 1))
      case measure => rw [HK.out]; omega
      case rel => exact ⟨k + 1, by omega, rfl, by go_num, by rw [HS.out]; go_num, rfl⟩
    · have hlk : ¬ (((1 + k : Nat) : Int)) < (t.length : Int) := by rw [HL.out]; omega
      have e : val (ds.take k) 0 = V := by rw [List.take_of_length_le (by rw [HN.out]; omega)]; exact HV.out
      rw [e]
      clear e
      go_wp2
      go_ret3
      exact ⟨rfl, rfl⟩

end Go.Proofs.Qxb6617922aDoor.Wk
