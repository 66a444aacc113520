/-
  THE LAW's WALK WHOLE: every message.
-/
import Derived.Test.Qxb6617922aDoorMain9
namespace Go.Proofs.Qxb6617922aDoor.Wk
open Go.RowKit
open Go.Proofs.Qxb6617922aDoor.Pl Go.Proofs.Qxb6617922aDoor.Sh

/-- WHAT THE WALK IS TOLD OF A SLICE OF INTEGERS THAT CAME IN: it is nil; or it leads to a row of 'cap' cells, the numbers 'zs', each fitting its kind. -/
def IsRow (k : IntKind) (w : World) (a : Option Addr) (len cap : Nat) (zs : List Int) : Prop :=
  (a = none ∧ len = 0 ∧ cap = 0 ∧ zs = []) ∨
  ∃ x, a = some x ∧ len ≤ cap ∧ cap ≤ maxLen ∧ zs.length = cap ∧ (∀ i, i < zs.length → w.cell? (x.add i) = some (.int k (zs.getD i 0))) ∧ ∀ n ∈ zs, (Lit.int k n).wf = true

set_option maxHeartbeats 1000000 in
theorem walk_big (kd ld lb s v q : Int) (a : Option Addr) (n c : Nat) (w : World) (hn : 1048576 < n) :
    Calls Tryd.prog 9 #[.agg #[.int .u8 kd, .int .i64 ld, .int .i64 lb, .slice a n c, .int .i64 s, .int .i64 v, .int .i64 q]] w fun e w' => e = .returned (.bool true) ∧ Below w.heap.size w w' := by
  have S0 := hide (Seven.start w kd ld lb s v q a n c 42)
  go_enter Tryd.func9, Tryd.ntmps9
  go_wp2_with fail
  refine (bytes26_no kd ld lb s v q a n c _ hn).mono ?_
  rintro e w1 ⟨rfl, hb⟩
  have S1 := hide (S0.out.keep hb)
  clear S0 hb
  go_wp2
  go_ret
  exact ⟨rfl, S1.out.2.2.2.2.2.2.2.2⟩

set_option maxHeartbeats 1000000 in
theorem walk_mid (kd ld lb s v q : Int) (a : Option Addr) (n c : Nat) (w : World) (hn : n ≤ 1048576) (hn2 : 131072 < n) :
    Calls Tryd.prog 9 #[.agg #[.int .u8 kd, .int .i64 ld, .int .i64 lb, .slice a n c, .int .i64 s, .int .i64 v, .int .i64 q]] w fun e w' => e = .returned (.bool true) ∧ Below w.heap.size w w' := by
  have S0 := hide (Seven.start w kd ld lb s v q a n c 42)
  go_enter Tryd.func9, Tryd.ntmps9
  go_wp2_with fail
  refine (bytes26 kd ld lb s v q a n c _ hn).mono ?_
  rintro e w1 ⟨rfl, hb⟩
  have S1 := hide (S0.out.keep hb)
  clear S0 hb
  have m3 := S1.out.2.2.2.1
  go_wp2
  go_ret
  exact ⟨rfl, S1.out.2.2.2.2.2.2.2.2⟩

set_option maxHeartbeats 1000000 in
theorem walk_kind (kd ld lb s v q : Int) (a : Option Addr) (n c : Nat) (w : World) (hn : n ≤ 131072) (hk : kd = 1 ∨ kd = 3 ∨ kd = 4) :
    Calls Tryd.prog 9 #[.agg #[.int .u8 kd, .int .i64 ld, .int .i64 lb, .slice a n c, .int .i64 s, .int .i64 v, .int .i64 q]] w fun e w' => e = .returned (.bool true) ∧ Below w.heap.size w w' := by
  have S0 := hide (Seven.start w kd ld lb s v q a n c 42)
  rcases hk with rfl | rfl | rfl
  all_goals
    go_enter Tryd.func9, Tryd.ntmps9
    go_wp2_with fail
    refine (bytes26 _ ld lb s v q a n c _ (by omega)).mono ?_
    rintro e w1 ⟨rfl, hb⟩
    have S1 := hide (S0.out.keep hb)
    clear S0 hb
    have m3 := S1.out.2.2.2.1
    have m0 := S1.out.1
    go_wp2
    go_ret
    exact ⟨rfl, S1.out.2.2.2.2.2.2.2.2⟩

theorem bd64 {x : Int} (h : (Lit.int .i64 x).wf = true) : -9223372036854775808 ≤ x ∧ x ≤ 9223372036854775807 := by
  simp [Lit.wf, IntKind.min, IntKind.max, IntKind.signed, IntKind.bits] at h
  omega

theorem walk (kd ld lb s v q : Int) (a : Option Addr) (n c : Nat) (zs : List Int) (w : World) (ht : Tab w) (hr : IsRow .i64 w a n c zs)
    (wl : (Lit.int .i64 ld).wf = true) (wb : (Lit.int .i64 lb).wf = true) (ws : (Lit.int .i64 s).wf = true) (wv : (Lit.int .i64 v).wf = true) :
    Calls Tryd.prog 9 #[.agg #[.int .u8 kd, .int .i64 ld, .int .i64 lb, .slice a n c, .int .i64 s, .int .i64 v, .int .i64 q]] w fun e w' => e = .returned (.bool true) ∧ Below w.heap.size w w' := by
  by_cases h1 : 1048576 < n
  · exact walk_big kd ld lb s v q a n c w h1
  by_cases h2 : 131072 < n
  · exact walk_mid kd ld lb s v q a n c w (by omega) h2
  by_cases h3 : kd = 1 ∨ kd = 3 ∨ kd = 4
  · exact walk_kind kd ld lb s v q a n c w (by omega) h3
  have k1 : (kd == 1) = false := by rw [beq_eq_false_iff_ne]; omega
  have k3 : (kd == 3) = false := by rw [beq_eq_false_iff_ne]; omega
  have k4 : (kd == 4) = false := by rw [beq_eq_false_iff_ne]; omega
  by_cases h0 : n = 0
  · subst h0
    exact main_any kd ld lb s v q a 0 c [] w ht (by omega) k1 k3 k4 (bd64 wl).1 (bd64 wl).2 (bd64 wb).1 (bd64 wb).2 (bd64 ws).1 (bd64 ws).2 (bd64 wv).1 (bd64 wv).2 (by simp)
      (fun w' _ => comma_none a c w') (fun w' _ => zzcomma_none a c w') (fun w' _ => list_none a c w')
  · rcases hr with ⟨_, hn0, _⟩ | ⟨x, rfl, hl, _, hz, hc, hwf⟩
    · exact absurd hn0 h0
    · have hx0 := hc 0 (by omega)
      obtain ⟨b, off, sp⟩ := x
      have hsp : sp = none := by
        cases sp with
        | none => rfl
        | some sp => simp [World.cell?, Addr.add] at hx0; split at hx0 <;> simp at hx0
      subst hsp
      obtain ⟨xs, hxs⟩ : ∃ xs, zs.take n = xs := ⟨_, rfl⟩
      have hxl : xs.length = n := by rw [← hxs, List.length_take]; omega
      have hget : ∀ i, i < n → xs.getD i 0 = zs.getD i 0 := by
        intro i hi
        rw [← hxs]
        simp [List.getD, hi]
      have hcells : ∀ i, i < n → w.cell? ⟨b, off + i, none⟩ = some (.int .i64 (xs.getD i 0)) := by
        intro i hi
        rw [hget i hi]
        have := hc i (by omega)
        rw [Lib.add_plain] at this
        exact this
      have hbd : ∀ i, i < n → -9223372036854775808 ≤ xs.getD i 0 ∧ xs.getD i 0 ≤ 9223372036854775807 := by
        intro i hi
        rw [hget i hi]
        refine bd64 (hwf _ ?_)
        have : i < zs.length := by omega
        simp [List.getD, this]
      have hbw : b < w.heap.size := World.block_lt_of_cell? w _ (hcells 0 (by omega))
      have hlater : ∀ w', Below w.heap.size w w' → ∀ i, i < n → w'.cell? ⟨b, off + i, none⟩ = some (.int .i64 (xs.getD i 0)) := fun w' h i hi => (h.cell (p := ⟨b, off + i, none⟩) hbw).trans (hcells i hi)
      have hlen : (cl xs).length ≤ 22 * n := by
        have := cl_len_le xs (by
          intro y hy
          obtain ⟨i, hi, rfl⟩ := List.mem_iff_getElem.1 hy
          have := hbd i (by omega)
          simpa [List.getD, hi] using this)
        rw [hxl] at this
        exact this
      exact main_any kd ld lb s v q _ n c (cl xs) w ht (by omega) k1 k3 k4 (bd64 wl).1 (bd64 wl).2 (bd64 wb).1 (bd64 wb).2 (bd64 ws).1 (bd64 ws).2 (bd64 wv).1 (bd64 wv).2 (by omega)
        (fun w' h => comma_any b off n c xs w' hxl (by omega) (by omega) (hlater w' h) hbd (ht.stays h))
        (fun w' h => zzcomma_any b off n c xs w' hxl (by omega) (by omega) (hlater w' h) hbd (ht.stays h))
        (fun w' h => list_any b off n c xs (cl xs) w' rfl hxl (by omega) (by omega) (by omega) (hlater w' h) hbd)

end Go.Proofs.Qxb6617922aDoor.Wk
