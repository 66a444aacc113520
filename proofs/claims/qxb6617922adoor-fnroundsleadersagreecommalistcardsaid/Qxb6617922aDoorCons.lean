/-
  THE CONTRACT of describeConstructionMessage at a ranking message.
-/
import Derived.Test.Qxb6617922aDoorComma
import Derived.Test.Qxb6617922aDoorHit
import Derived.Deep.RegionHeld3
import Derived.Deep.DrawnRows
namespace Go.Proofs.Qxb6617922aDoor.Wk
open Go.RowKit
open Go.Proofs.Qxb6617922aDoor.Pl Go.Proofs.Qxb6617922aDoor.Sh

/-- WHAT HOLDS all through the statement: the message's own cells, old memory, the table. -/
abbrev Held (w : World) (ld lb s v : Int) (a : Option Addr) (n c : Nat) (w' : World) : Prop :=
  w'.cell? ⟨w.heap.size, 1, none⟩ = some (.int .i64 ld) ∧ w'.cell? ⟨w.heap.size, 2, none⟩ = some (.int .i64 lb) ∧ w'.cell? ⟨w.heap.size, 3, none⟩ = some (.slice a n c) ∧
  w'.cell? ⟨w.heap.size, 4, none⟩ = some (.int .i64 s) ∧ w'.cell? ⟨w.heap.size, 5, none⟩ = some (.int .i64 v) ∧ Hid (w.heap.size < w'.heap.size ∧ Below w.heap.size w w')

theorem held_keep {w : World} {ld lb s v : Int} {a : Option Addr} {n c : Nat} {w1 w2 : World} (h : Held w ld lb s v a n c w1) (hb : Below w1.heap.size w1 w2) : Held w ld lb s v a n c w2 := by
  obtain ⟨h1, h2, h3, h4, h5, h6⟩ := h
  obtain ⟨hlt, hB⟩ := h6.out
  refine ⟨(hb.cell (p := ⟨_, _, none⟩) hlt).trans h1, (hb.cell (p := ⟨_, _, none⟩) hlt).trans h2, (hb.cell (p := ⟨_, _, none⟩) hlt).trans h3, (hb.cell (p := ⟨_, _, none⟩) hlt).trans h4, (hb.cell (p := ⟨_, _, none⟩) hlt).trans h5, ?_⟩
  exact ⟨Nat.lt_of_lt_of_le hlt hb.size, hB.trans (hb.mono hB.size)⟩

theorem held_start {w : World} {kd ld lb s v q : Int} {a : Option Addr} {n c : Nat} : Held w ld lb s v a n c (w.alloc (.cells #[.int .u8 kd, .int .i64 ld, .int .i64 lb, .slice a n c, .int .i64 s, .int .i64 v, .int .i64 q] 47)).drew := by
  refine ⟨by simp, by simp, by simp, by simp, by simp, ?_⟩
  refine ⟨by simp, ((Below.refl _ _).alloc (Nat.le_refl _) _).drew⟩

theorem itoa_held {w : World} {ld lb s v : Int} {a : Option Addr} {n c : Nat} (HT : Hid (Tab w)) (x : Int) (h0 : -9223372036854775808 ≤ x) (h1 : x ≤ 9223372036854775807) (w1 : World) (h : Held w ld lb s v a n c w1) :
    Calls Tryd.prog 36 #[.int .i64 x] w1 fun e w' => e = .returned (.string ⟨(Lib.itoa x).toArray⟩) ∧ Held w ld lb s v a n c w' := by
  have hB := h.2.2.2.2.2.out.2
  refine (itoa_any x h0 h1 w1 (HT.out.stays hB)).mono ?_
  rintro e w' ⟨rfl, hb⟩
  exact ⟨rfl, held_keep h hb⟩

theorem cat (x y : ByteArray) (h : x.size + y.size ≤ 9223372036854775807) (w : World) : (binOp .add 9 (.string x) (.string y)).run Tryd.prog w = .ok (.string (x ++ y)) w := by
  have := run_string_add_sum (P := Tryd.prog) w x y h
  simp [binOp, this]

theorem cat_list (x y : List UInt8) : (⟨x.toArray⟩ : ByteArray) ++ ⟨y.toArray⟩ = ⟨(x ++ y).toArray⟩ := by
  apply ByteArray.ext
  simp [ByteArray.data_append]

theorem nm (x : List UInt8) : ∃ X : ByteArray, Hid (X = ⟨x.toArray⟩) := ⟨_, rfl⟩
theorem sz {x : List UInt8} {X : ByteArray} (h : Hid (X = ⟨x.toArray⟩)) : X.size = x.length := by rw [h.out]; show x.toArray.size = _; simp
theorem ln {x y : List UInt8} {X Y Z : ByteArray} (hX : Hid (X = ⟨x.toArray⟩)) (hY : Hid (Y = ⟨y.toArray⟩)) (hZ : Hid (Z = ⟨(x ++ y).toArray⟩)) : X ++ Y = Z := by
  rw [hX.out, hY.out, hZ.out, cat_list]

set_option maxRecDepth 100000 in
set_option maxHeartbeats 1000000 in
theorem desc_any (kd ld lb s v q : Int) (a : Option Addr) (n c : Nat) (L : List UInt8) (w : World) (HT : Hid (Tab w))
    (hk1 : (kd == 1) = false) (hk3 : (kd == 3) = false) (hk4 : (kd == 4) = false)
    (l0 : -9223372036854775808 ≤ ld) (l1 : ld ≤ 9223372036854775807) (b0 : -9223372036854775808 ≤ lb) (b1 : lb ≤ 9223372036854775807)
    (s0 : -9223372036854775808 ≤ s) (s1 : s ≤ 9223372036854775807) (v0 : -9223372036854775808 ≤ v) (v1 : v ≤ 9223372036854775807)
    (hLl : L.length ≤ 1073741824) (HL : Hid (∀ w', Below w.heap.size w w' → Calls Tryd.prog 29 #[.slice a n c] w' fun e w'' => e = .returned (.string ⟨L.toArray⟩) ∧ Below w'.heap.size w' w'')) :
    Calls Tryd.prog 33 #[.agg #[.int .u8 kd, .int .i64 ld, .int .i64 lb, .slice a n c, .int .i64 s, .int .i64 v, .int .i64 q]] w fun e w' => e = .returned (.string ⟨(line ld lb s v L).toArray⟩) ∧ Below w.heap.size w w' := by
  unfold line
  have k1 := itoa_len ld l0 l1
  have k2 := itoa_len lb b0 b1
  have k3 := itoa_len s s0 s1
  have k4 := itoa_len v v0 v1
  obtain ⟨A, HA⟩ := nm (Lib.itoa ld)
  obtain ⟨B, HB⟩ := nm (Lib.itoa lb)
  obtain ⟨E, HE⟩ := nm L
  obtain ⟨F, HF⟩ := nm (Lib.itoa s)
  obtain ⟨G, HG⟩ := nm (Lib.itoa v)
  obtain ⟨X1, HX1⟩ := nm (c1 ++ Lib.itoa ld)
  obtain ⟨X2, HX2⟩ := nm ((c1 ++ Lib.itoa ld) ++ c2)
  obtain ⟨X3, HX3⟩ := nm (((c1 ++ Lib.itoa ld) ++ c2) ++ Lib.itoa lb)
  obtain ⟨X4, HX4⟩ := nm ((((c1 ++ Lib.itoa ld) ++ c2) ++ Lib.itoa lb) ++ c3)
  obtain ⟨X5, HX5⟩ := nm (((((c1 ++ Lib.itoa ld) ++ c2) ++ Lib.itoa lb) ++ c3) ++ L)
  obtain ⟨X6, HX6⟩ := nm ((((((c1 ++ Lib.itoa ld) ++ c2) ++ Lib.itoa lb) ++ c3) ++ L) ++ c4)
  obtain ⟨X7, HX7⟩ := nm (((((((c1 ++ Lib.itoa ld) ++ c2) ++ Lib.itoa lb) ++ c3) ++ L) ++ c4) ++ Lib.itoa s)
  obtain ⟨X8, HX8⟩ := nm ((((((((c1 ++ Lib.itoa ld) ++ c2) ++ Lib.itoa lb) ++ c3) ++ L) ++ c4) ++ Lib.itoa s) ++ c5)
  obtain ⟨X9, HX9⟩ := nm (((((((((c1 ++ Lib.itoa ld) ++ c2) ++ Lib.itoa lb) ++ c3) ++ L) ++ c4) ++ Lib.itoa s) ++ c5) ++ Lib.itoa v)
  have r1 : ⟨#[107, 105, 110, 100, 61, 114, 97, 110, 107, 105, 110, 103, 32, 108, 101, 97, 100, 101, 114, 61]⟩ ++ A = X1 := ln (x := c1) rfl HA HX1
  have r2 : X1 ++ ⟨#[32, 108, 98, 111, 117, 110, 100, 61]⟩ = X2 := ln (y := c2) HX1 rfl HX2
  have r3 : X2 ++ B = X3 := ln HX2 HB HX3
  have r4 : X3 ++ ⟨#[32, 114, 97, 110, 107, 101, 100, 61]⟩ = X4 := ln (y := c3) HX3 rfl HX4
  have r5 : X4 ++ E = X5 := ln HX4 HE HX5
  have r6 : X5 ++ ⟨#[32, 115, 61]⟩ = X6 := ln (y := c4) HX5 rfl HX6
  have r7 : X6 ++ F = X7 := ln HX6 HF HX7
  have r8 : X7 ++ ⟨#[32, 119, 61]⟩ = X8 := ln (y := c5) HX7 rfl HX8
  have r9 : X8 ++ G = X9 := ln HX8 HG HX9
  have zA := sz HA; have zB := sz HB; have zE := sz HE; have zF := sz HF; have zG := sz HG
  have z1 := sz HX1; have z2 := sz HX2; have z3 := sz HX3; have z4 := sz HX4; have z5 := sz HX5; have z6 := sz HX6; have z7 := sz HX7; have z8 := sz HX8
  simp only [List.length_append, show c1.length = 20 from rfl, show c2.length = 8 from rfl, show c3.length = 8 from rfl, show c4.length = 3 from rfl, show c5.length = 3 from rfl] at z1 z2 z3 z4 z5 z6 z7 z8
  have q1 : ¬ 9223372036854775807 < 20 + A.size := by omega
  have q2 : ¬ 9223372036854775807 < X1.size + 8 := by omega
  have q3 : ¬ 9223372036854775807 < X2.size + B.size := by omega
  have q4 : ¬ 9223372036854775807 < X3.size + 8 := by omega
  have q5 : ¬ 9223372036854775807 < X4.size + E.size := by omega
  have q6 : ¬ 9223372036854775807 < X5.size + 3 := by omega
  have q7 : ¬ 9223372036854775807 < X6.size + F.size := by omega
  have q8 : ¬ 9223372036854775807 < X7.size + 3 := by omega
  have q9 : ¬ 9223372036854775807 < X8.size + G.size := by omega
  have HI : ∀ (x : Int) (Y : ByteArray), -9223372036854775808 ≤ x → x ≤ 9223372036854775807 → Hid (Y = ⟨(Lib.itoa x).toArray⟩) → Hid (∀ w1, Held w ld lb s v a n c w1 → Calls Tryd.prog 36 #[.int .i64 x] w1 fun e w' => e = .returned (.string Y) ∧ Held w ld lb s v a n c w') := by
    intro x Y h0 h1 hY w1 h
    rw [hY.out]
    exact itoa_held HT x h0 h1 w1 h
  have I1 := HI ld A l0 l1 HA
  have I2 := HI lb B b0 b1 HB
  have I3 := HI s F s0 s1 HF
  have I4 := HI v G v0 v1 HG
  have HCM : Hid (∀ w1, Held w ld lb s v a n c w1 → Calls Tryd.prog 29 #[.slice a n c] w1 fun e w' => e = .returned (.string E) ∧ Held w ld lb s v a n c w') := by
    intro w1 h
    rw [HE.out]
    refine (HL.out w1 h.2.2.2.2.2.out.2).mono ?_
    rintro e w' ⟨rfl, hb⟩
    exact ⟨rfl, held_keep h hb⟩
  have HS0 : Hid (Held w ld lb s v a n c (w.alloc (.cells #[.int .u8 kd, .int .i64 ld, .int .i64 lb, .slice a n c, .int .i64 s, .int .i64 v, .int .i64 q] 47)).drew) := held_start
  rw [← HX9.out]
  clear zA zB zE zF zG z1 z2 z3 z4 z5 z6 z7 z8 k1 k2 k3 k4 HI HA HB HE HF HG HX1 HX2 HX3 HX4 HX5 HX6 HX7 HX8 HX9 HL HT hLl l0 l1 b0 b1 s0 s1 v0 v1
  go_enter Tryd.func33, Tryd.ntmps33
  go_wp2
  go_region_held3 (fun w' => w'.cell? ⟨w.heap.size, 1, none⟩ = some (.int .i64 ld) ∧ w'.cell? ⟨w.heap.size, 2, none⟩ = some (.int .i64 lb) ∧ w'.cell? ⟨w.heap.size, 3, none⟩ = some (.slice a n c) ∧ w'.cell? ⟨w.heap.size, 4, none⟩ = some (.int .i64 s) ∧ w'.cell? ⟨w.heap.size, 5, none⟩ = some (.int .i64 v) ∧ Hid (w.heap.size < w'.heap.size ∧ Below w.heap.size w w')) (first | exact HS0.out | assumption)
    (first | (go_at_call_of 36 ld; refine (I1.out _ (by assumption)).mono ?_; rintro e w' ⟨rfl, hS'⟩) | (go_at_call_of 36 lb; refine (I2.out _ (by assumption)).mono ?_; rintro e w' ⟨rfl, hS'⟩) | (go_at_call_of 36 s; refine (I3.out _ (by assumption)).mono ?_; rintro e w' ⟨rfl, hS'⟩) | (go_at_call_of 36 v; refine (I4.out _ (by assumption)).mono ?_; rintro e w' ⟨rfl, hS'⟩) | (go_at_call 29; refine (HCM.out _ (by assumption)).mono ?_; rintro e w' ⟨rfl, hS'⟩))
  go_wp2
  go_ret
  obtain ⟨_, _, _, _, _, hh⟩ := hS'
  exact ⟨rfl, hh.out.2⟩

end Go.Proofs.Qxb6617922aDoor.Wk
