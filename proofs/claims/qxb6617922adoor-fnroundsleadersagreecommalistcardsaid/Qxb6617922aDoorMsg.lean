/-
  CONTRACTS of the small functions that hand the message on: zzBytes.., zzConsMessage, ZZdescribeConstructionMessage.
-/
import Derived.Test.Qxb6617922aDoorCons
namespace Go.Proofs.Qxb6617922aDoor.Wk
open Go.RowKit
open Go.Proofs.Qxb6617922aDoor.Pl Go.Proofs.Qxb6617922aDoor.Sh

theorem bytes26 (kd ld lb s v q : Int) (a : Option Addr) (n c : Nat) (w : World) (h : n ≤ 1048576) :
    Calls Tryd.prog 26 #[.agg #[.int .u8 kd, .int .i64 ld, .int .i64 lb, .slice a n c, .int .i64 s, .int .i64 v, .int .i64 q]] w fun e w' => e = .returned (.bool true) ∧ Below w.heap.size w w' := by
  go_enter Tryd.func26, Tryd.ntmps26
  go_wp2
  go_ret
  exact ⟨rfl, (Below.refl _ _).alloc (Nat.le_refl _) _⟩

theorem bytes26_no (kd ld lb s v q : Int) (a : Option Addr) (n c : Nat) (w : World) (h : 1048576 < n) :
    Calls Tryd.prog 26 #[.agg #[.int .u8 kd, .int .i64 ld, .int .i64 lb, .slice a n c, .int .i64 s, .int .i64 v, .int .i64 q]] w fun e w' => e = .returned (.bool false) ∧ Below w.heap.size w w' := by
  go_enter Tryd.func26, Tryd.ntmps26
  go_wp2
  go_ret
  exact ⟨rfl, (Below.refl _ _).alloc (Nat.le_refl _) _⟩

set_option maxHeartbeats 1000000 in
theorem msg24 (kd ld lb s v q : Int) (a : Option Addr) (n c : Nat) (w : World) :
    Calls Tryd.prog 24 #[.agg #[.int .u8 kd, .int .i64 ld, .int .i64 lb, .slice a n c, .int .i64 s, .int .i64 v, .int .i64 q]] w fun e w' => e = .returned (.agg #[.int .u8 kd, .int .i64 ld, .int .i64 lb, .slice a n c, .int .i64 s, .int .i64 v, .int .i64 q]) ∧ Below w.heap.size w w' := by
  go_enter Tryd.func24, Tryd.ntmps24
  go_wp2
  exact bodyPost_ret (v := .agg #[.int .u8 kd, .int .i64 ld, .int .i64 lb, .slice a n c, .int .i64 s, .int .i64 v, .int .i64 q]) (by simp [results, Tryd.results24, go_sem]) rfl ⟨rfl, ((Below.refl _ _).alloc (Nat.le_refl _) _).alloc (by simp) _⟩

theorem hide {p : Prop} (h : p) : Hid p := h

/-- 'commaList' of this slice answers L, in whatever world old memory still lies -/
abbrev Answers (w : World) (f : FuncId) (a : Option Addr) (n c : Nat) (L : List UInt8) : Prop :=
  ∀ w', Below w.heap.size w w' → Calls Tryd.prog f #[.slice a n c] w' fun e w'' => e = .returned (.string ⟨L.toArray⟩) ∧ Below w'.heap.size w' w''

theorem Answers.later {w w1 : World} {f : FuncId} {a : Option Addr} {n c : Nat} {L : List UInt8} (h : Answers w f a n c L) (hb : Below w.heap.size w w1) : Answers w1 f a n c L :=
  fun w' hb' => h w' (hb.trans (hb'.mono hb.size))

set_option maxHeartbeats 1000000 in
theorem zzdesc (kd ld lb s v q : Int) (a : Option Addr) (n c : Nat) (L : List UInt8) (w : World) (HT : Hid (Tab w))
    (hk1 : (kd == 1) = false) (hk3 : (kd == 3) = false) (hk4 : (kd == 4) = false)
    (l0 : -9223372036854775808 ≤ ld) (l1 : ld ≤ 9223372036854775807) (b0 : -9223372036854775808 ≤ lb) (b1 : lb ≤ 9223372036854775807)
    (s0 : -9223372036854775808 ≤ s) (s1 : s ≤ 9223372036854775807) (v0 : -9223372036854775808 ≤ v) (v1 : v ≤ 9223372036854775807)
    (hLl : L.length ≤ 1073741824) (HL : Hid (Answers w 29 a n c L)) :
    Calls Tryd.prog 23 #[.agg #[.int .u8 kd, .int .i64 ld, .int .i64 lb, .slice a n c, .int .i64 s, .int .i64 v, .int .i64 q]] w fun e w' => e = .returned (.string ⟨(line ld lb s v L).toArray⟩) ∧ Below w.heap.size w w' := by
  obtain ⟨W0, hW0⟩ : ∃ W0, w.alloc (.cells #[.int .u8 kd, .int .i64 ld, .int .i64 lb, .slice a n c, .int .i64 s, .int .i64 v, .int .i64 q] 47) = W0 := ⟨_, rfl⟩
  have hb0 : Below w.heap.size w W0 := by rw [← hW0]; exact (Below.refl _ _).alloc (Nat.le_refl _) _
  have hd := desc_any kd ld lb s v q a n c L W0 (HT.out.stays hb0) hk1 hk3 hk4 l0 l1 b0 b1 s0 s1 v0 v1 hLl (HL.out.later hb0)
  have hsz : w.heap.size ≤ W0.heap.size := hb0.size
  rw [← hW0] at hd hb0 hsz
  obtain ⟨T, hT⟩ : ∃ T, line ld lb s v L = T := ⟨_, rfl⟩
  rw [hT] at hd ⊢
  have HD := hide hd
  clear hd hT hW0 hk1 hk3 hk4 l0 l1 b0 b1 s0 s1 v0 v1 hLl HL HT
  go_enter Tryd.func23, Tryd.ntmps23
  go_wp2_with fail
  refine HD.out.mono ?_
  rintro e w' ⟨rfl, hb⟩
  have hb1 := hb0.trans (hb.mono hsz)
  clear hb hb0 hsz HD
  go_wp2
  go_ret
  exact ⟨rfl, hb1⟩

end Go.Proofs.Qxb6617922aDoor.Wk
