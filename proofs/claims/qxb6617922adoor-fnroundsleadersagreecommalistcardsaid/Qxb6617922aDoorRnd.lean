/-
  THE CONTRACT of describeRoundsMessage at a phase1 message.
-/
import Derived.Test.Qxb6617922aDoorSet
import Derived.Test.Qxb6617922aDoorCons
namespace Go.Proofs.Qxb6617922aDoor.Wk
open Go.RowKit
open Go.Proofs.Qxb6617922aDoor.Pl Go.Proofs.Qxb6617922aDoor.Sh Go.Proofs.Qxb6617922aDoor.Bt

theorem owns_cases {base : Nat} {v : Value} {xs : List Int} {w : World} (h : Owns base v xs w) :
    (∃ a c, v = .slice a 0 c ∧ xs = []) ∨ ∃ g c, v = .slice (some ⟨g, 0, none⟩) xs.length c ∧ 1 ≤ xs.length ∧ ∀ i, i < xs.length → w.cell? ⟨g, 0 + i, none⟩ = some (.int .i64 (xs.getD i 0)) := by
  obtain ⟨_, ⟨hv, h0⟩ | ⟨g, cap, cur, hv, _, hh, _, _, _, ht⟩⟩ := h
  · exact .inl ⟨none, 0, hv, List.eq_nil_of_length_eq_zero h0⟩
  · by_cases h0 : xs.length = 0
    · rw [h0] at hv
      exact .inl ⟨_, _, hv, List.eq_nil_of_length_eq_zero h0⟩
    · refine .inr ⟨g, cap, hv, by omega, ?_⟩
      intro i hi
      have e := congrArg (fun l => l[i]?) ht
      simp only [List.getElem?_take, List.getElem?_map] at e
      rw [if_pos (by omega), List.getElem?_eq_getElem hi] at e
      simp only [World.cell?, hh]
      simp [List.getD, hi]
      simpa using e

theorem ids_bd64 (x : Nat) : ∀ i, i < (ids x 64).length → -9223372036854775808 ≤ (ids x 64).getD i 0 ∧ (ids x 64).getD i 0 ≤ 9223372036854775807 := by
  intro i hi
  have hm : (ids x 64).getD i 0 ∈ ids x 64 := by simp [List.getD, hi]
  have := ids_bd x 64 _ hm
  omega

theorem comma_owned (x base : Nat) (v : Value) (w : World) (h : Owns base v (ids x 64) w) (ht : Tab w) :
    Calls Tryd.prog 29 #[v] w fun e w' => e = .returned (.string ⟨(cl (ids x 64)).toArray⟩) ∧ Below w.heap.size w w' := by
  rcases owns_cases h with ⟨a, c, rfl, he⟩ | ⟨g, c, rfl, h1, hc⟩
  · rw [he]
    exact comma_none a c w
  · exact comma_any g 0 _ c (ids x 64) w rfl h1 (by have := ids_len x 64; omega) hc (ids_bd64 x) ht

theorem zzcomma_owned (x base : Nat) (v : Value) (w : World) (h : Owns base v (ids x 64) w) (ht : Tab w) :
    Calls Tryd.prog 12 #[v] w fun e w' => e = .returned (.string ⟨(cl (ids x 64)).toArray⟩) ∧ Below w.heap.size w w' := by
  rcases owns_cases h with ⟨a, c, rfl, he⟩ | ⟨g, c, rfl, h1, hc⟩
  · rw [he]
    exact zzcomma_none a c w
  · exact zzcomma_any g 0 _ c (ids x 64) w rfl h1 (by have := ids_len x 64; omega) hc (ids_bd64 x) ht

theorem cl_ids_len (x : Nat) : (cl (ids x 64)).length ≤ 1408 := by
  have h1 := cl_len_le (ids x 64) (by
    intro y hy
    have := ids_bd x 64 y hy
    omega)
  have h2 := ids_len x 64
  omega

theorem list_owned (x base : Nat) (v : Value) (w : World) (h : Owns base v (ids x 64) w) :
    Calls Tryd.prog 11 #[.string ⟨(cl (ids x 64)).toArray⟩, v] w fun e w' => e = .returned (.bool true) ∧ w' = w := by
  rcases owns_cases h with ⟨a, c, rfl, he⟩ | ⟨g, c, rfl, h1, hc⟩
  · rw [he]
    exact list_none a c w
  · exact list_any g 0 _ c (ids x 64) _ w rfl rfl h1 (by have := ids_len x 64; omega) (by have := cl_ids_len x; omega) hc (ids_bd64 x)

def d0 : List UInt8 := [32, 114, 111, 117, 110, 100, 61]
def d1 : List UInt8 := [107, 105, 110, 100, 61, 112, 104, 97, 115, 101, 49]
def d2 : List UInt8 := [32, 108, 101, 97, 100, 101, 114, 115, 61]
def d3 : List UInt8 := [32, 101, 115, 116, 61]
/-- the line of a phase1 message with the list's text L -/
def line2 (rd : Int) (L V : List UInt8) : List UInt8 := ((((d1 ++ (d0 ++ Lib.itoa rd)) ++ d2) ++ L) ++ d3) ++ V

abbrev Held2 (w : World) (x : Nat) (V : ByteArray) (w' : World) : Prop :=
  w'.cell? ⟨w.heap.size, 0, none⟩ = some (.int .u8 1) ∧ w'.cell? ⟨w.heap.size, 2, none⟩ = some (.int .u64 (x : Int)) ∧ w'.cell? ⟨w.heap.size, 4, none⟩ = some (.string V) ∧ Hid (w.heap.size < w'.heap.size ∧ Below w.heap.size w w')

theorem held2_keep {w : World} {x : Nat} {V : ByteArray} {w1 w2 : World} (h : Held2 w x V w1) (hb : Below w1.heap.size w1 w2) : Held2 w x V w2 := by
  obtain ⟨h0, h1, h2, h6⟩ := h
  obtain ⟨hlt, hB⟩ := h6.out
  refine ⟨(hb.cell (p := ⟨_, _, none⟩) hlt).trans h0, (hb.cell (p := ⟨_, _, none⟩) hlt).trans h1, (hb.cell (p := ⟨_, _, none⟩) hlt).trans h2, ?_⟩
  exact ⟨Nat.lt_of_lt_of_le hlt hb.size, hB.trans (hb.mono hB.size)⟩

theorem hide2 {p : Prop} (h : p) : Hid p := h

set_option maxRecDepth 100000 in
set_option maxHeartbeats 2000000 in
theorem rnd_any (rd : Int) (x : Nat) (hv : Bool) (val : List UInt8) (w : World) (HT : Hid (Tab w)) (hx : x < 18446744073709551616) (hval : val.length ≤ 1048576)
    (r0 : -9223372036854775808 ≤ rd) (r1 : rd ≤ 9223372036854775807) :
    Calls Tryd.prog 30 #[.agg #[.int .u8 1, .int .i64 rd, .int .u64 (x : Int), .bool hv, .string ⟨val.toArray⟩]] w fun e w' => e = .returned (.string ⟨(line2 rd (cl (ids x 64)) val).toArray⟩) ∧ Below w.heap.size w w' := by
  have hl := itoa_len rd r0 r1
  have hcl := cl_ids_len x
  obtain ⟨A, HA⟩ := nm (Lib.itoa rd)
  obtain ⟨V, HV⟩ := nm val
  obtain ⟨E, HE⟩ := nm (cl (ids x 64))
  obtain ⟨R, HR⟩ := nm (d0 ++ Lib.itoa rd)
  obtain ⟨X1, HX1⟩ := nm (d1 ++ (d0 ++ Lib.itoa rd))
  obtain ⟨X2, HX2⟩ := nm ((d1 ++ (d0 ++ Lib.itoa rd)) ++ d2)
  obtain ⟨X3, HX3⟩ := nm (((d1 ++ (d0 ++ Lib.itoa rd)) ++ d2) ++ cl (ids x 64))
  obtain ⟨X4, HX4⟩ := nm ((((d1 ++ (d0 ++ Lib.itoa rd)) ++ d2) ++ cl (ids x 64)) ++ d3)
  obtain ⟨X5, HX5⟩ := nm (line2 rd (cl (ids x 64)) val)
  have p0 : ⟨#[32, 114, 111, 117, 110, 100, 61]⟩ ++ A = R := ln (x := d0) rfl HA HR
  have p1 : ⟨#[107, 105, 110, 100, 61, 112, 104, 97, 115, 101, 49]⟩ ++ R = X1 := ln (x := d1) rfl HR HX1
  have p2 : X1 ++ ⟨#[32, 108, 101, 97, 100, 101, 114, 115, 61]⟩ = X2 := ln (y := d2) HX1 rfl HX2
  have p3 : X2 ++ E = X3 := ln HX2 HE HX3
  have p4 : X3 ++ ⟨#[32, 101, 115, 116, 61]⟩ = X4 := ln (y := d3) HX3 rfl HX4
  have p5 : X4 ++ V = X5 := ln HX4 HV HX5
  have zA := sz HA; have zV := sz HV; have zE := sz HE; have zR := sz HR; have z1 := sz HX1; have z2 := sz HX2; have z3 := sz HX3; have z4 := sz HX4
  simp only [List.length_append, show d0.length = 7 from rfl, show d1.length = 11 from rfl, show d2.length = 9 from rfl, show d3.length = 5 from rfl] at zR z1 z2 z3 z4
  have q0 : ¬ 9223372036854775807 < 7 + A.size := by omega
  have q1 : ¬ 9223372036854775807 < 11 + R.size := by omega
  have q2 : ¬ 9223372036854775807 < X1.size + 9 := by omega
  have q3 : ¬ 9223372036854775807 < X2.size + E.size := by omega
  have q4 : ¬ 9223372036854775807 < X3.size + 5 := by omega
  have q5 : ¬ 9223372036854775807 < X4.size + V.size := by omega
  have HI : Hid (∀ w1, Held2 w x V w1 → Calls Tryd.prog 36 #[.int .i64 rd] w1 fun e w' => e = .returned (.string A) ∧ Held2 w x V w') := by
    intro w1 h
    rw [HA.out]
    refine (itoa_any rd r0 r1 w1 (HT.out.stays h.2.2.2.out.2)).mono ?_
    rintro e w' ⟨rfl, hb⟩
    exact ⟨rfl, held2_keep h hb⟩
  have HD : Hid (∀ w1, Held2 w x V w1 → Calls Tryd.prog 19 #[.int .u64 (x : Int)] w1 fun e w' => ∃ v, e = .returned v ∧ Owns w1.heap.size v (ids x 64) w' ∧ Held2 w x V w') := by
    intro w1 h
    refine (ids_any x w1 hx).mono ?_
    rintro e w' ⟨v, rfl, ho, hb⟩
    exact ⟨v, rfl, ho, held2_keep h hb⟩
  have HC : Hid (∀ (base : Nat) (v : Value) w1, Owns base v (ids x 64) w1 → Held2 w x V w1 → Calls Tryd.prog 29 #[v] w1 fun e w' => e = .returned (.string E) ∧ Held2 w x V w') := by
    intro base v w1 ho h
    rw [HE.out]
    refine (comma_owned x base v w1 ho (HT.out.stays h.2.2.2.out.2)).mono ?_
    rintro e w' ⟨rfl, hb⟩
    exact ⟨rfl, held2_keep h hb⟩
  have HS0 : Hid (Held2 w x V (w.alloc (.cells #[.int .u8 1, .int .i64 rd, .int .u64 (x : Int), .bool hv, .string V] 35))) := by
    refine ⟨by simp, by simp, by simp, ?_⟩
    exact ⟨by simp, (Below.refl _ _).alloc (Nat.le_refl _) _⟩
  rw [← HX5.out, ← HV.out]
  obtain ⟨IX, hIX⟩ : ∃ IX, ids x 64 = IX := ⟨_, rfl⟩
  rw [hIX] at HD HC
  clear hIX zA zV zE zR z1 z2 z3 z4 hl hcl HA HV HE HR HX1 HX2 HX3 HX4 HX5 hx hval r0 r1 HT
  go_enter Tryd.func30, Tryd.ntmps30
  go_wp2_with fail
  refine (HI.out _ HS0.out).mono ?_
  rintro e w1 ⟨rfl, hS⟩
  have HS1 : Hid (Held2 w x V w1.drew) := ⟨hS.1, hS.2.1, hS.2.2.1, hS.2.2.2.out.1, hS.2.2.2.out.2.drew⟩
  have m0 := hS.1
  have m2 := hS.2.1
  have m4 := hS.2.2.1
  clear hS HS0 HI
  go_wp2
  go_region_held3 (fun w' => w'.cell? ⟨w.heap.size, 0, none⟩ = some (.int .u8 1) ∧ w'.cell? ⟨w.heap.size, 2, none⟩ = some (.int .u64 (x : Int)) ∧ w'.cell? ⟨w.heap.size, 4, none⟩ = some (.string V) ∧ Hid (w.heap.size < w'.heap.size ∧ Below w.heap.size w w')) (first | exact HS1.out | assumption)
    (first | (go_at_call 19; refine (HD.out _ (by assumption)).mono ?_; rintro e w' ⟨v, rfl, hown, hS'⟩) | (go_at_call 29; refine (HC.out _ _ _ (by assumption) (by assumption)).mono ?_; rintro e w' ⟨rfl, hS'⟩))
  go_wp2
  go_ret
  exact ⟨rfl, hS'.2.2.2.out.2⟩

end Go.Proofs.Qxb6617922aDoor.Wk
