/-
  THE LAW's OWN WALK: FnConstructionRankedAgreesCommaList.
-/
import Derived.Test.Qxb6617922aDoorMsg
import Derived.Test.Qxb6617922aDoorIndex
import Derived.BigQuiet
import Derived.Deep.QuietTactic
namespace Go.Proofs.Qxb6617922aDoor.Wk
open Go.RowKit
open Go.Proofs.Qxb6617922aDoor.Pl Go.Proofs.Qxb6617922aDoor.Sh

/-- the message's box in memory -/
abbrev Seven (w : World) (kd ld lb s v q : Int) (a : Option Addr) (n c : Nat) (w' : World) : Prop :=
  w'.cell? ⟨w.heap.size, 0, none⟩ = some (.int .u8 kd) ∧ w'.cell? ⟨w.heap.size, 1, none⟩ = some (.int .i64 ld) ∧ w'.cell? ⟨w.heap.size, 2, none⟩ = some (.int .i64 lb) ∧ w'.cell? ⟨w.heap.size, 3, none⟩ = some (.slice a n c) ∧
  w'.cell? ⟨w.heap.size, 4, none⟩ = some (.int .i64 s) ∧ w'.cell? ⟨w.heap.size, 5, none⟩ = some (.int .i64 v) ∧ w'.cell? ⟨w.heap.size, 6, none⟩ = some (.int .i64 q) ∧ w.heap.size < w'.heap.size ∧ Below w.heap.size w w'

theorem Seven.keep {w : World} {kd ld lb s v q : Int} {a : Option Addr} {n c : Nat} {w1 w2 : World} (h : Seven w kd ld lb s v q a n c w1) (hb : Below w1.heap.size w1 w2) : Seven w kd ld lb s v q a n c w2 := by
  obtain ⟨h0, h1, h2, h3, h4, h5, h6, hlt, hB⟩ := h
  refine ⟨(hb.cell (p := ⟨_, _, none⟩) hlt).trans h0, (hb.cell (p := ⟨_, _, none⟩) hlt).trans h1, (hb.cell (p := ⟨_, _, none⟩) hlt).trans h2, (hb.cell (p := ⟨_, _, none⟩) hlt).trans h3, (hb.cell (p := ⟨_, _, none⟩) hlt).trans h4, (hb.cell (p := ⟨_, _, none⟩) hlt).trans h5, (hb.cell (p := ⟨_, _, none⟩) hlt).trans h6, ?_, ?_⟩
  · exact Nat.lt_of_lt_of_le hlt hb.size
  · exact hB.trans (hb.mono hB.size)

theorem Seven.start (w : World) (kd ld lb s v q : Int) (a : Option Addr) (n c : Nat) (t : TypeId) : Seven w kd ld lb s v q a n c (w.alloc (.cells #[.int .u8 kd, .int .i64 ld, .int .i64 lb, .slice a n c, .int .i64 s, .int .i64 v, .int .i64 q] t)) := by
  refine ⟨by simp, by simp, by simp, by simp, by simp, by simp, by simp, by simp, (Below.refl _ _).alloc (Nat.le_refl _) _⟩

theorem answers_none (w : World) : Answers w 29 none 0 0 [] := fun w' _ => comma_none none 0 w'

theorem slice_to (s T : List UInt8) (hi : Int) (hh : hi = (T.length : Int)) (hT : s.take T.length = T) (w : World) :
    (Instr.slice 9 (.string ⟨s.toArray⟩) none (some (.int .i64 hi)) none).run Tryd.prog w = .ok (.string ⟨T.toArray⟩) w := by
  subst hh
  have hle : T.length ≤ s.length := by have := congrArg List.length hT; rw [List.length_take] at this; omega
  rw [run_slice_string_h (P := Tryd.prog) w 9 ⟨s.toArray⟩ Tryd.underlying9 .i64 (T.length : Int) (by omega) (by show _ ≤ ((s.toArray.size : Nat) : Int); simp; omega)]
  rw [extract_eq s T _ _ (by rw [List.drop_zero, Int.toNat_natCast, Nat.sub_zero]; exact hT)]

theorem slice_from (s T : List UInt8) (a : Nat) (lo : Int) (hh : lo = (a : Int)) (ha : a ≤ s.length) (hT : s.drop a = T) (w : World) :
    (Instr.slice 9 (.string ⟨s.toArray⟩) (some (.int .i64 lo)) none none).run Tryd.prog w = .ok (.string ⟨T.toArray⟩) w := by
  subst hh
  have hz : (⟨s.toArray⟩ : ByteArray).size = s.length := by show s.toArray.size = _; simp
  rw [run_slice_string_l (P := Tryd.prog) w 9 ⟨s.toArray⟩ Tryd.underlying9 .i64 (a : Int) (by omega) (by rw [hz]; omega)]
  rw [extract_eq s T _ _ (by rw [Int.toNat_natCast, hz, List.take_of_length_le (by rw [List.length_drop]; omega)]; exact hT)]

set_option maxRecDepth 100000 in
set_option maxHeartbeats 2000000 in
theorem main_any (kd ld lb s v q : Int) (a : Option Addr) (n c : Nat) (L : List UInt8) (w : World) (HT : Hid (Tab w)) (hn : n ≤ 131072)
    (hk1 : (kd == 1) = false) (hk3 : (kd == 3) = false) (hk4 : (kd == 4) = false)
    (l0 : -9223372036854775808 ≤ ld) (l1 : ld ≤ 9223372036854775807) (b0 : -9223372036854775808 ≤ lb) (b1 : lb ≤ 9223372036854775807)
    (s0 : -9223372036854775808 ≤ s) (s1 : s ≤ 9223372036854775807) (v0 : -9223372036854775808 ≤ v) (v1 : v ≤ 9223372036854775807)
    (hLl : L.length ≤ 1073741824) (HL : Hid (Answers w 29 a n c L)) (HL12 : Hid (Answers w 12 a n c L))
    (HLM : Hid (∀ w', Below w.heap.size w w' → Calls Tryd.prog 11 #[.string ⟨L.toArray⟩, .slice a n c] w' fun e w'' => e = .returned (.bool true) ∧ w'' = w')) :
    Calls Tryd.prog 9 #[.agg #[.int .u8 kd, .int .i64 ld, .int .i64 lb, .slice a n c, .int .i64 s, .int .i64 v, .int .i64 q]] w fun e w' => e = .returned (.bool true) ∧ Below w.heap.size w w' := by
  obtain ⟨F, HF⟩ := nm (line ld lb s v L)
  obtain ⟨G, HG⟩ := nm (line ld lb s v [])
  obtain ⟨E, HE⟩ := nm L
  obtain ⟨P, HP⟩ := nm (lineA ld lb ++ c3)
  obtain ⟨Qb, HQ⟩ := nm (lineB s v)
  obtain ⟨Y, HY⟩ := nm ((lineA ld lb ++ c3) ++ L)
  have hg : line ld lb s v [] = (lineA ld lb ++ c3) ++ lineB s v := line_eq ld lb s v []
  have hf : line ld lb s v L = ((lineA ld lb ++ c3) ++ L) ++ lineB s v := by rw [line_eq]; simp only [List.append_assoc]
  have hA : (lineA ld lb).length ≤ 100 := by
    have := itoa_len ld l0 l1
    have := itoa_len lb b0 b1
    unfold lineA
    simp only [List.length_append, show c1.length = 20 from rfl, show c2.length = 8 from rfl]
    omega
  have hBl : (lineB s v).length ≤ 100 := by
    have := itoa_len s s0 s1
    have := itoa_len v v0 v1
    unfold lineB
    simp only [List.length_append, show c4.length = 3 from rfl, show c5.length = 3 from rfl]
    omega
  have hc3 : c3.length = 8 := rfl
  obtain ⟨K, hK⟩ : ∃ K, (lineA ld lb).length = K := ⟨_, rfl⟩
  have hK100 : K ≤ 100 := by omega
  have hs1 : ∀ w' : World, (Instr.slice 9 (.string G) none (some (.int .i64 ((K : Int) + 8))) none).run Tryd.prog w' = .ok (.string P) w' := by
    intro w'
    rw [HG.out, HP.out, hg]
    exact slice_to _ _ _ (by rw [List.length_append, hK, hc3]; omega) (by rw [List.take_left]) w'
  have hs2 : ∀ w' : World, (Instr.slice 9 (.string G) (some (.int .i64 ((K : Int) + 8))) none none).run Tryd.prog w' = .ok (.string Qb) w' := by
    intro w'
    rw [HG.out, HQ.out, hg]
    exact slice_from _ _ (lineA ld lb ++ c3).length _ (by rw [List.length_append, hK, hc3]; omega) (by simp only [List.length_append]; omega) (by rw [List.drop_left]) w'
  have r1 : P ++ E = Y := ln HP HE HY
  have r2 : Y ++ Qb = F := ln HY HQ (by show F = _; rw [HF.out, hf])
  have q1 : ¬ 9223372036854775807 < P.size + E.size := by rw [sz HP, sz HE, List.length_append]; omega
  have q2 : ¬ 9223372036854775807 < Y.size + Qb.size := by rw [sz HY, sz HQ, List.length_append, List.length_append]; omega
  have HIX : Hid (∀ w' : World, Calls Tryd.prog 20 #[.string G, .string ⟨#[32, 114, 97, 110, 107, 101, 100, 61]⟩] w' fun e w'' => e = .returned (.int .i64 (K : Int)) ∧ w'' = w') := by
    intro w'
    rw [HG.out, hg, List.append_assoc, ← hK]
    exact index_any (lineA ld lb ++ (c3 ++ lineB s v)) c3 (lineA ld lb).length w' (by simp only [List.length_append]; omega) (by simp only [List.length_append]; omega) (hitAt ld lb _) (fun j hj => noHit ld lb _ j hj)
  have HD : Hid (∀ w', Below w.heap.size w w' → Calls Tryd.prog 23 #[.agg #[.int .u8 kd, .int .i64 ld, .int .i64 lb, .slice a n c, .int .i64 s, .int .i64 v, .int .i64 q]] w' fun e w'' => e = .returned (.string F) ∧ Below w'.heap.size w' w'') := by
    intro w' h
    rw [HF.out]
    exact zzdesc kd ld lb s v q a n c L w' (HT.out.stays h) hk1 hk3 hk4 l0 l1 b0 b1 s0 s1 v0 v1 hLl (HL.out.later h)
  have HD0 : Hid (∀ w', Below w.heap.size w w' → Calls Tryd.prog 23 #[.agg #[.int .u8 kd, .int .i64 ld, .int .i64 lb, .slice none 0 0, .int .i64 s, .int .i64 v, .int .i64 q]] w' fun e w'' => e = .returned (.string G) ∧ Below w'.heap.size w' w'') := by
    intro w' h
    rw [HG.out]
    exact zzdesc kd ld lb s v q none 0 0 [] w' (HT.out.stays h) hk1 hk3 hk4 l0 l1 b0 b1 s0 s1 v0 v1 (by simp) (answers_none w')
  have HC : Hid (∀ w', Below w.heap.size w w' → Calls Tryd.prog 12 #[.slice a n c] w' fun e w'' => e = .returned (.string E) ∧ Below w'.heap.size w' w'') := by
    intro w' h
    rw [HE.out]
    exact HL12.out w' h
  have HM : Hid (∀ w', Below w.heap.size w w' → Calls Tryd.prog 11 #[.string E, .slice a n c] w' fun e w'' => e = .returned (.bool true) ∧ w'' = w') := by
    intro w' h
    rw [HE.out]
    exact HLM.out w' h
  have S0 := hide (Seven.start w kd ld lb s v q a n c 42)
  clear HL HT HLM HL12 hg hf hA hBl hc3 hK HF HG HE HP HQ HY l0 l1 b0 b1 s0 s1 v0 v1 hLl
  go_enter Tryd.func9, Tryd.ntmps9
  go_wp2_with fail
  refine (bytes26 kd ld lb s v q a n c _ (by omega)).mono ?_
  rintro e w1 ⟨rfl, hb⟩
  have S1 := hide (S0.out.keep hb)
  clear S0 hb
  obtain ⟨m0, m1, m2, m3, m4, m5, m6, _, _⟩ := S1.out
  go_wp2_with fail
  refine (msg24 kd ld lb s v q a n c _).mono ?_
  rintro e w2 ⟨rfl, hb⟩
  have S2 := hide (S1.out.keep hb)
  clear S1 hb m0 m1 m2 m3 m4 m5 m6
  go_wp2_with fail
  refine (HD.out _ S2.out.2.2.2.2.2.2.2.2).mono ?_
  rintro e w3 ⟨rfl, hb⟩
  have S3 := hide (S2.out.keep hb)
  clear S2 hb HD
  obtain ⟨m0, m1, m2, m3, m4, m5, m6, hl3, _⟩ := S3.out
  have S4 := hide (S3.out.keep ((Below.refl _ _).alloc (Nat.le_refl _) (.cells #[.int .u8 kd, .int .i64 ld, .int .i64 lb, .slice none 0 0, .int .i64 s, .int .i64 v, .int .i64 q] 42)))
  clear S3
  go_wp2_with fail
  refine (msg24 kd ld lb s v q none 0 0 _).mono ?_
  rintro e w5 ⟨rfl, hb⟩
  have S5 := hide (S4.out.keep hb)
  clear S4 hb m0 m1 m2 m3 m4 m5 m6 hl3
  go_wp2_with fail
  refine (HD0.out _ S5.out.2.2.2.2.2.2.2.2).mono ?_
  rintro e w6 ⟨rfl, hb⟩
  have S6 := hide (S5.out.keep hb)
  clear S5 hb HD0
  have m3 := S6.out.2.2.2.1
  go_wp2_with fail
  refine (HC.out _ S6.out.2.2.2.2.2.2.2.2).mono ?_
  rintro e w7 ⟨rfl, hb⟩
  have S7 := hide (S6.out.keep hb)
  clear S6 hb HC m3
  go_wp2_with fail
  refine (HIX.out _).mono ?_
  rintro e w' ⟨rfl, hw⟩
  obtain rfl := hw.symm
  clear hw HIX
  have m3 := S7.out.2.2.2.1
  go_wp2_with fail
  have hM := hide (fun nq => HM.out (w7.drewN nq) (S7.out.2.2.2.2.2.2.2.2.trans (Go.Joins.below_draws _ _ nq)))
  clear HM
  have hB7 := S7.out.2.2.2.2.2.2.2.2
  go_quiet ((go_at_call 11; exact Calls.quiet_of_same (hM.out _)))
  go_wp2
  go_ret
  exact ⟨rfl, hB7.trans (Go.Joins.below_draws _ _ nq)⟩

end Go.Proofs.Qxb6617922aDoor.Wk
