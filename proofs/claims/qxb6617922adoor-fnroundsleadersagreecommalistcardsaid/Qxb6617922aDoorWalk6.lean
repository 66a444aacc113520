/-
  THE LAW's WALK WHOLE: every rounds message.
-/
import Derived.Test.Qxb6617922aDoorMain6
namespace Go.Proofs.Qxb6617922aDoor.Wk
open Go.RowKit
open Go.Proofs.Qxb6617922aDoor.Pl Go.Proofs.Qxb6617922aDoor.Sh

set_option maxHeartbeats 1000000 in
theorem big6 (kd rd x : Int) (hv : Bool) (V : ByteArray) (w : World) (h : 1048576 < V.size) (h2 : V.size ≤ 9223372036854775807) :
    Calls Tryd.prog 6 #[.agg #[.int .u8 kd, .int .i64 rd, .int .u64 x, .bool hv, .string V]] w fun e w' => e = .returned (.bool true) ∧ Below w.heap.size w w' := by
  have S0 := hide (Five.start w kd rd x hv V 29)
  go_enter Tryd.func6, Tryd.ntmps6
  go_wp2_with fail
  refine (bytes18_no kd rd x hv V _ h h2).mono ?_
  rintro e w1 ⟨rfl, hb⟩
  have S1 := hide (S0.out.keep hb)
  clear S0 hb
  go_wp2
  go_ret
  exact ⟨rfl, S1.out.2.2.2.2.2.2⟩

set_option maxHeartbeats 1000000 in
theorem kind6 (kd rd x : Int) (hv : Bool) (V : ByteArray) (w : World) (h : V.size ≤ 1048576) (hk : (kd != 1) = true) :
    Calls Tryd.prog 6 #[.agg #[.int .u8 kd, .int .i64 rd, .int .u64 x, .bool hv, .string V]] w fun e w' => e = .returned (.bool true) ∧ Below w.heap.size w w' := by
  have S0 := hide (Five.start w kd rd x hv V 29)
  go_enter Tryd.func6, Tryd.ntmps6
  go_wp2_with fail
  refine (bytes18 kd rd x hv V _ h).mono ?_
  rintro e w1 ⟨rfl, hb⟩
  have S1 := hide (S0.out.keep hb)
  clear S0 hb
  have m0 := S1.out.1
  have m4 := S1.out.2.2.2.2.1
  go_wp2
  go_ret
  exact ⟨rfl, S1.out.2.2.2.2.2.2⟩

theorem bdI64 {x : Int} (h : (Lit.int .i64 x).wf = true) : -9223372036854775808 ≤ x ∧ x ≤ 9223372036854775807 := by
  simp [Lit.wf, IntKind.min, IntKind.max, IntKind.signed, IntKind.bits] at h
  omega
theorem bdU64 {x : Int} (h : (Lit.int .u64 x).wf = true) : 0 ≤ x ∧ x < 18446744073709551616 := by
  simp [Lit.wf, IntKind.min, IntKind.max, IntKind.signed, IntKind.bits] at h
  omega

theorem walk6 (kd rd x : Int) (hv : Bool) (V : ByteArray) (w : World) (ht : Tab w) (wr : (Lit.int .i64 rd).wf = true) (wx : (Lit.int .u64 x).wf = true) (hV : V.size ≤ maxLen) :
    Calls Tryd.prog 6 #[.agg #[.int .u8 kd, .int .i64 rd, .int .u64 x, .bool hv, .string V]] w fun e w' => e = .returned (.bool true) ∧ Below w.heap.size w w' := by
  unfold maxLen at hV
  by_cases h1 : V.size ≤ 1048576
  · by_cases hk : kd = 1
    · subst hk
      obtain ⟨hx0, hx1⟩ := bdU64 wx
      obtain ⟨n, rfl⟩ := Int.eq_ofNat_of_zero_le hx0
      obtain ⟨⟨l⟩⟩ := V
      exact main6 rd n hv l w ht (by omega) h1 (bdI64 wr).1 (bdI64 wr).2
    · exact kind6 kd rd x hv V w h1 (by rw [bne_iff_ne]; exact hk)
  · exact big6 kd rd x hv V w (by omega) (by omega)

end Go.Proofs.Qxb6617922aDoor.Wk
