/-
  THE LAW's OWN WALK: FnRoundsLeadersAgreeCommaList.
-/
import Derived.Test.Qxb6617922aDoorMsg6
import Derived.Test.Qxb6617922aDoorMain9
namespace Go.Proofs.Qxb6617922aDoor.Wk
open Go.RowKit
open Go.Proofs.Qxb6617922aDoor.Pl Go.Proofs.Qxb6617922aDoor.Sh Go.Proofs.Qxb6617922aDoor.Bt

/-- the message's box in memory -/
abbrev Five (w : World) (kd rd x : Int) (hv : Bool) (V : ByteArray) (w' : World) : Prop :=
  w'.cell? ⟨w.heap.size, 0, none⟩ = some (.int .u8 kd) ∧ w'.cell? ⟨w.heap.size, 1, none⟩ = some (.int .i64 rd) ∧ w'.cell? ⟨w.heap.size, 2, none⟩ = some (.int .u64 x) ∧ w'.cell? ⟨w.heap.size, 3, none⟩ = some (.bool hv) ∧
  w'.cell? ⟨w.heap.size, 4, none⟩ = some (.string V) ∧ w.heap.size < w'.heap.size ∧ Below w.heap.size w w'

theorem Five.keep {w : World} {kd rd x : Int} {hv : Bool} {V : ByteArray} {w1 w2 : World} (h : Five w kd rd x hv V w1) (hb : Below w1.heap.size w1 w2) : Five w kd rd x hv V w2 := by
  obtain ⟨h0, h1, h2, h3, h4, hlt, hB⟩ := h
  refine ⟨(hb.cell (p := ⟨_, _, none⟩) hlt).trans h0, (hb.cell (p := ⟨_, _, none⟩) hlt).trans h1, (hb.cell (p := ⟨_, _, none⟩) hlt).trans h2, (hb.cell (p := ⟨_, _, none⟩) hlt).trans h3, (hb.cell (p := ⟨_, _, none⟩) hlt).trans h4, ?_, ?_⟩
  · exact Nat.lt_of_lt_of_le hlt hb.size
  · exact hB.trans (hb.mono hB.size)

theorem Five.start (w : World) (kd rd x : Int) (hv : Bool) (V : ByteArray) (t : TypeId) : Five w kd rd x hv V (w.alloc (.cells #[.int .u8 kd, .int .i64 rd, .int .u64 x, .bool hv, .string V] t)) := by
  refine ⟨by simp, by simp, by simp, by simp, by simp, by simp, (Below.refl _ _).alloc (Nat.le_refl _) _⟩

set_option maxRecDepth 100000 in
set_option maxHeartbeats 3000000 in
theorem main6 (rd : Int) (x : Nat) (hv : Bool) (val : List UInt8) (w : World) (HT : Hid (Tab w)) (hx : x < 18446744073709551616) (hval : val.length ≤ 1048576)
    (r0 : -9223372036854775808 ≤ rd) (r1 : rd ≤ 9223372036854775807) :
    Calls Tryd.prog 6 #[.agg #[.int .u8 1, .int .i64 rd, .int .u64 (x : Int), .bool hv, .string ⟨val.toArray⟩]] w fun e w' => e = .returned (.bool true) ∧ Below w.heap.size w w' := by
  obtain ⟨V, HV⟩ := nm val
  obtain ⟨F, HF⟩ := nm (line2 rd (cl (ids x 64)) val)
  obtain ⟨G, HG⟩ := nm (line2 rd [] val)
  obtain ⟨E, HE⟩ := nm (cl (ids x 64))
  obtain ⟨P, HP⟩ := nm (la rd ++ d2)
  obtain ⟨Qb, HQ⟩ := nm (d3 ++ val)
  obtain ⟨Y, HY⟩ := nm ((la rd ++ d2) ++ cl (ids x 64))
  have hg : line2 rd [] val = (la rd ++ d2) ++ (d3 ++ val) := line2_eq rd [] val
  have hf : line2 rd (cl (ids x 64)) val = ((la rd ++ d2) ++ cl (ids x 64)) ++ (d3 ++ val) := by rw [line2_eq]; simp only [List.append_assoc]
  have hA : (la rd).length ≤ 100 := by
    have := itoa_len rd r0 r1
    unfold la
    simp only [List.length_append, show d1.length = 11 from rfl, show d0.length = 7 from rfl]
    omega
  have hcl := cl_ids_len x
  have hd2 : d2.length = 9 := rfl
  have hd3 : d3.length = 5 := rfl
  obtain ⟨K, hK⟩ : ∃ K, (la rd).length = K := ⟨_, rfl⟩
  have hK100 : K ≤ 100 := by omega
  have hs1 : ∀ w' : World, (Instr.slice 9 (.string G) none (some (.int .i64 ((K : Int) + 9))) none).run Tryd.prog w' = .ok (.string P) w' := by
    intro w'
    rw [HG.out, HP.out, hg]
    exact slice_to _ _ _ (by rw [List.length_append, hK, hd2]; omega) (by rw [List.take_left]) w'
  have hs2 : ∀ w' : World, (Instr.slice 9 (.string G) (some (.int .i64 ((K : Int) + 9))) none none).run Tryd.prog w' = .ok (.string Qb) w' := by
    intro w'
    rw [HG.out, HQ.out, hg]
    exact slice_from _ _ (la rd ++ d2).length _ (by rw [List.length_append, hK, hd2]; omega) (by simp only [List.length_append]; omega) (by rw [List.drop_left]) w'
  have e1 : P ++ E = Y := ln HP HE HY
  have e2 : Y ++ Qb = F := ln HY HQ (by show F = _; rw [HF.out, hf])
  have q1 : ¬ 9223372036854775807 < P.size + E.size := by rw [sz HP, sz HE, List.length_append]; omega
  have q2 : ¬ 9223372036854775807 < Y.size + Qb.size := by rw [sz HY, sz HQ, List.length_append, List.length_append, List.length_append]; omega
  have HIX : Hid (∀ w' : World, Calls Tryd.prog 20 #[.string G, .string ⟨#[32, 108, 101, 97, 100, 101, 114, 115, 61]⟩] w' fun e w'' => e = .returned (.int .i64 (K : Int)) ∧ w'' = w') := by
    intro w'
    rw [HG.out, hg, List.append_assoc, ← hK]
    exact index_any (la rd ++ (d2 ++ (d3 ++ val))) d2 (la rd).length w' (by simp only [List.length_append]; omega) (by simp only [List.length_append]; omega) (hitAt2 rd _) (fun j hj => noHit2 rd _ j hj)
  have HD : Hid (∀ w', Below w.heap.size w w' → Calls Tryd.prog 15 #[.agg #[.int .u8 1, .int .i64 rd, .int .u64 (x : Int), .bool hv, .string V]] w' fun e w'' => e = .returned (.string F) ∧ Below w'.heap.size w' w'') := by
    intro w' h
    rw [HF.out, HV.out]
    exact zzrnd rd x hv val w' (HT.out.stays h) hx hval r0 r1
  have HD0 : Hid (∀ w', Below w.heap.size w w' → Calls Tryd.prog 15 #[.agg #[.int .u8 1, .int .i64 rd, .int .u64 0, .bool hv, .string V]] w' fun e w'' => e = .returned (.string G) ∧ Below w'.heap.size w' w'') := by
    intro w' h
    have k := zzrnd rd 0 hv val w' (HT.out.stays h) (by decide) hval r0 r1
    rw [ids_none, cl_nil] at k
    rw [HG.out, HV.out]
    exact k
  have HI : Hid (∀ w', Calls Tryd.prog 19 #[.int .u64 (x : Int)] w' fun e w'' => ∃ v, e = .returned v ∧ Owns w'.heap.size v (ids x 64) w'' ∧ Below w'.heap.size w' w'') := fun w' => ids_any x w' hx
  have HC : Hid (∀ (base : Nat) (v : Value) w', Owns base v (ids x 64) w' → Below w.heap.size w w' → Calls Tryd.prog 12 #[v] w' fun e w'' => e = .returned (.string E) ∧ Below w'.heap.size w' w'') := by
    intro base v w' ho h
    rw [HE.out]
    exact zzcomma_owned x base v w' ho (HT.out.stays h)
  have HM : Hid (∀ (base : Nat) (v : Value) w', Owns base v (ids x 64) w' → Calls Tryd.prog 11 #[.string E, v] w' fun e w'' => e = .returned (.bool true) ∧ w'' = w') := by
    intro base v w' ho
    rw [HE.out]
    exact list_owned x base v w' ho
  have hVs : V.size ≤ 1048576 := by rw [sz HV]; exact hval
  have S0 := hide (Five.start w 1 rd (x : Int) hv V 29)
  rw [← HV.out]
  have HXX : Hid (x < 18446744073709551616) := hx
  clear hx HT hg hf hA hcl hd2 hd3 hK HF HG HE HP HQ HY HV r0 r1 hval
  go_enter Tryd.func6, Tryd.ntmps6
  go_wp2_with fail
  refine (bytes18 1 rd (x : Int) hv V _ hVs).mono ?_
  rintro e w1 ⟨rfl, hb⟩
  have S1 := hide (S0.out.keep hb)
  clear S0 hb
  obtain ⟨m0, m1, m2, m3, m4, _, _⟩ := S1.out
  go_wp2_with fail
  refine (msg16 1 rd (x : Int) hv V _).mono ?_
  rintro e w2 ⟨rfl, hb⟩
  have S2 := hide (S1.out.keep hb)
  clear S1 hb m0 m1 m2 m3 m4
  go_wp2_with fail
  refine (HD.out _ S2.out.2.2.2.2.2.2).mono ?_
  rintro e w3 ⟨rfl, hb⟩
  have S3 := hide (S2.out.keep hb)
  clear S2 hb HD
  obtain ⟨m0, m1, m2, m3, m4, hl3, _⟩ := S3.out
  have S4 := hide (S3.out.keep ((Below.refl _ _).alloc (Nat.le_refl _) (.cells #[.int .u8 1, .int .i64 rd, .int .u64 0, .bool hv, .string V] 29)))
  clear S3
  go_wp2_with fail
  refine (msg16 1 rd 0 hv V _).mono ?_
  rintro e w5 ⟨rfl, hb⟩
  have S5 := hide (S4.out.keep hb)
  clear S4 hb m0 m1 m2 m3 m4 hl3
  go_wp2_with fail
  refine (HD0.out _ S5.out.2.2.2.2.2.2).mono ?_
  rintro e w6 ⟨rfl, hb⟩
  have S6 := hide (S5.out.keep hb)
  clear S5 hb HD0
  have m2 := S6.out.2.2.1
  go_wp2_with fail
  refine (HI.out _).mono ?_
  rintro e w7 ⟨vv, rfl, ho7, hb⟩
  have S7 := hide (S6.out.keep hb)
  have HO7 := hide ho7
  clear S6 hb HI m2 ho7
  go_wp2_with fail
  refine (HC.out _ vv _ HO7.out S7.out.2.2.2.2.2.2).mono ?_
  rintro e w8 ⟨rfl, hb⟩
  have S8 := hide (S7.out.keep hb)
  clear S7 hb HC HO7
  go_wp2_with fail
  refine (HIX.out _).mono ?_
  rintro e w' ⟨rfl, hw⟩
  obtain rfl := hw.symm
  clear hw HIX
  go_wp2_with fail
  go_quiet (fail)
  have S9 := hide (S8.out.keep (Go.Joins.below_draws _ _ nq))
  generalize w8.drewN nq = w9 at *
  clear S8
  clear hs1 hs2 e1 e2 q1 q2
  obtain ⟨i0, hi, hz0, hz1, hz2⟩ := info_parts info3
  go_wp2
  go_loopg [9, 10] 64 (fun g v s wr => ∃ k : Nat, k ≤ 64 ∧ Hid (g = 64 - k) ∧ s = .int .i64 (k : Int) ∧ Owns w9.heap.size v (ids x k) wr ∧ Below w9.heap.size w9 wr)
  case atStart => exact ⟨0, by omega, rfl, rfl, World.ownsRow_nil _ _ _ _, Below.refl _ _⟩
  case round =>
    obtain ⟨k, hk, HK, rfl, hown, hB⟩ := hrel
    by_cases hlt : k < 64
    · have hle := ids_len x k
      have m2 : wr.cell? ⟨w.heap.size, 2, none⟩ = some (.int .u64 (x : Int)) := (hB.cell (p := ⟨w.heap.size, 2, none⟩) S9.out.2.2.2.2.2.1).trans S9.out.2.2.1
      have hsh := shr_eq x k HXX.out
      have hxk : 0 ≤ (x : Int) / 2 ^ k := Int.ediv_nonneg (by omega) (Int.pow_nonneg (by decide))
      cases hb : x.testBit k with
      | true =>
        rw [hb] at hsh
        have HI : Hid (ids x (k + 1) = ids x k ++ [(k : Int) + 1]) := ids_yes x k hb
        clear hb
        generalize hX : ids x k = X at *
        have HX : Hid (ids x k = X) := hX
        clear hX
        go_wp2_with (at_builtin; refine wpList_append_own _ rfl _ _ 22 rfl w9.heap.size 3 i0 (.int .i64 0) 1 8 Tryd.underlying22 hi hz0 hz1 hz2 rfl (by decide) _ _ _ rfl (hown.alloc _) ⟨wr.heap.size, 0, none⟩ 1 1 [.int .i64 ((k : Int) + 1)] rfl rfl (by intro j u hj; match j, hj with | 0, hj => simp at hj; subst hj; simp [Addr.add]) (by intro u hu; simp at hu; subst hu; rfl) (by unfold maxLen; omega) (by omega) (by have := hB.size; simp; omega) ?_)
        intro v' w10 hown' hgrow _
        have hB1 : Below w9.heap.size w9 w10 := (hB.alloc hB.size _).grown hgrow (by have := hB.size; simp; omega) (fun j hj => (World.ownsRow.lt hown j hj).1)
        have ho : Owns w9.heap.size v' (ids x (k + 1)) w10 := by
          rw [HI.out]
          simpa [Owns] using hown'
        clear hown' hgrow hown hB
        go_wp2
        go_roundg (64 - (k + 1))
        case measure => rw [HK.out]; omega
        case rel => exact ⟨k + 1, by omega, rfl, by go_num, ho, hB1⟩
      | false =>
        rw [hb] at hsh
        have HI : Hid (ids x (k + 1) = ids x k) := ids_no x k hb
        clear hb
        go_wp2
        go_roundg (64 - (k + 1))
        case measure => rw [HK.out]; omega
        case rel => exact ⟨k + 1, by omega, rfl, by go_num, by rw [HI.out]; exact hown, hB⟩
    · obtain rfl : k = 64 := by omega
      have HO := hide hown
      clear hown
      go_wp2_with fail
      refine (HM.out _ _ _ HO.out).mono ?_
      rintro e w' ⟨rfl, hw⟩
      obtain rfl := hw.symm
      clear hw
      go_wp2
      go_ret
      exact ⟨rfl, S9.out.2.2.2.2.2.2.trans (hB.mono S9.out.2.2.2.2.2.2.size)⟩

end Go.Proofs.Qxb6617922aDoor.Wk
