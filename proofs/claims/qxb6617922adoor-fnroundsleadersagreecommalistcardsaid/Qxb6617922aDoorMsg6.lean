/-
  CONTRACTS of the small functions that hand a rounds message on; where ' leaders=' first stands in the line.
-/
import Derived.Test.Qxb6617922aDoorRnd
import Derived.Test.Qxb6617922aDoorMsg
namespace Go.Proofs.Qxb6617922aDoor.Wk
open Go.RowKit
open Go.Proofs.Qxb6617922aDoor.Pl Go.Proofs.Qxb6617922aDoor.Sh Go.Proofs.Qxb6617922aDoor.Bt

def la (rd : Int) : List UInt8 := d1 ++ (d0 ++ Lib.itoa rd)
theorem line2_eq (rd : Int) (L V : List UInt8) : line2 rd L V = (la rd ++ d2) ++ (L ++ (d3 ++ V)) := by
  unfold line2 la
  simp only [List.append_assoc]

theorem d1_hit : ∀ i : Fin 11, d1[i.val]? ≠ some 32 := by decide
theorem d0_hit : ∀ i : Fin 7, d0[i.val]? = some 32 → i.val = 0 := by decide

theorem noHit2 (rd : Int) (R : List UInt8) (j : Nat) (hj : j < (la rd).length) : ((la rd ++ R).drop j).take 9 ≠ d2 := by
  intro h
  obtain ⟨h0, h1⟩ := hit2 (r := [101, 97, 100, 101, 114, 115, 61]) h
  unfold la at h0 h1 hj
  simp only [List.append_assoc] at h0 h1 hj
  simp only [List.length_append] at hj
  have l1 : d1.length = 11 := rfl
  have l0 : d0.length = 7 := rfl
  by_cases a1 : j < 11
  · rw [List.getElem?_append_left (by omega)] at h0
    exact d1_hit ⟨j, a1⟩ h0
  rw [List.getElem?_append_right (by omega)] at h0 h1
  rw [l1] at h0 h1
  by_cases a2 : j - 11 < 7
  · rw [List.getElem?_append_left (by omega)] at h0
    have e := d0_hit ⟨_, a2⟩ h0
    simp only at e
    rw [List.getElem?_append_left (by omega), show j + 1 - 11 = 1 from by omega] at h1
    exact absurd h1 (by decide)
  · rw [List.getElem?_append_right (by omega), List.getElem?_append_left (by omega)] at h0
    exact no32 _ _ h0

theorem hitAt2 (rd : Int) (R : List UInt8) : ((la rd ++ (d2 ++ R)).drop (la rd).length).take 9 = d2 := by
  rw [List.drop_left]
  rfl

theorem bytes18 (kd rd : Int) (x : Int) (hv : Bool) (V : ByteArray) (w : World) (h : V.size ≤ 1048576) :
    Calls Tryd.prog 18 #[.agg #[.int .u8 kd, .int .i64 rd, .int .u64 x, .bool hv, .string V]] w fun e w' => e = .returned (.bool true) ∧ Below w.heap.size w w' := by
  go_enter Tryd.func18, Tryd.ntmps18
  go_wp2
  go_ret
  exact ⟨rfl, (Below.refl _ _).alloc (Nat.le_refl _) _⟩

theorem bytes18_no (kd rd : Int) (x : Int) (hv : Bool) (V : ByteArray) (w : World) (h : 1048576 < V.size) (h2 : V.size ≤ 9223372036854775807) :
    Calls Tryd.prog 18 #[.agg #[.int .u8 kd, .int .i64 rd, .int .u64 x, .bool hv, .string V]] w fun e w' => e = .returned (.bool false) ∧ Below w.heap.size w w' := by
  go_enter Tryd.func18, Tryd.ntmps18
  go_wp2
  go_ret
  exact ⟨rfl, (Below.refl _ _).alloc (Nat.le_refl _) _⟩

set_option maxHeartbeats 1000000 in
theorem msg16 (kd rd : Int) (x : Int) (hv : Bool) (V : ByteArray) (w : World) :
    Calls Tryd.prog 16 #[.agg #[.int .u8 kd, .int .i64 rd, .int .u64 x, .bool hv, .string V]] w fun e w' => e = .returned (.agg #[.int .u8 kd, .int .i64 rd, .int .u64 x, .bool hv, .string V]) ∧ Below w.heap.size w w' := by
  go_enter Tryd.func16, Tryd.ntmps16
  go_wp2
  exact bodyPost_ret (v := .agg #[.int .u8 kd, .int .i64 rd, .int .u64 x, .bool hv, .string V]) (by simp [results, Tryd.results16, go_sem]) rfl ⟨rfl, ((Below.refl _ _).alloc (Nat.le_refl _) _).alloc (by simp) _⟩

set_option maxHeartbeats 1000000 in
theorem zzrnd (rd : Int) (x : Nat) (hv : Bool) (val : List UInt8) (w : World) (ht : Tab w) (hx : x < 18446744073709551616) (hval : val.length ≤ 1048576)
    (r0 : -9223372036854775808 ≤ rd) (r1 : rd ≤ 9223372036854775807) :
    Calls Tryd.prog 15 #[.agg #[.int .u8 1, .int .i64 rd, .int .u64 (x : Int), .bool hv, .string ⟨val.toArray⟩]] w fun e w' => e = .returned (.string ⟨(line2 rd (cl (ids x 64)) val).toArray⟩) ∧ Below w.heap.size w w' := by
  obtain ⟨W0, hW0⟩ : ∃ W0, w.alloc (.cells #[.int .u8 1, .int .i64 rd, .int .u64 (x : Int), .bool hv, .string ⟨val.toArray⟩] 35) = W0 := ⟨_, rfl⟩
  have hb0 : Below w.heap.size w W0 := by rw [← hW0]; exact (Below.refl _ _).alloc (Nat.le_refl _) _
  have hd := rnd_any rd x hv val W0 (ht.stays hb0) hx hval r0 r1
  have hsz : w.heap.size ≤ W0.heap.size := hb0.size
  rw [← hW0] at hd hb0 hsz
  obtain ⟨T, hT⟩ : ∃ T, line2 rd (cl (ids x 64)) val = T := ⟨_, rfl⟩
  rw [hT] at hd ⊢
  obtain ⟨V, hV⟩ : ∃ V, (⟨val.toArray⟩ : ByteArray) = V := ⟨_, rfl⟩
  rw [hV] at hd hb0 hsz ⊢
  have HD := hide hd
  clear hd hT hW0 hV r0 r1 hx hval
  go_enter Tryd.func15, Tryd.ntmps15
  go_wp2_with fail
  refine HD.out.mono ?_
  rintro e w' ⟨rfl, hb⟩
  have hb1 := hb0.trans (hb.mono hsz)
  clear hb hb0 hsz HD
  go_wp2
  go_ret
  exact ⟨rfl, hb1⟩

end Go.Proofs.Qxb6617922aDoor.Wk
