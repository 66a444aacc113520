/-
  THE CONTRACT of commaList: the list's text; old memory stays.
-/
import Derived.Test.Qxb6617922aDoorShelf
import Derived.Test.Qxb6617922aDoorList
namespace Go.Proofs.Qxb6617922aDoor.Wk
open Go.RowKit
open Go.Proofs.Qxb6617922aDoor.Pl Go.Proofs.Qxb6617922aDoor.Sh

theorem info9 : (Tryd.prog.info? 9).map (fun i => (i.zero, i.size, i.bytes)) = some (some (.string ⟨#[]⟩), 1, 16) := by kernel_rfl

/-- a new row of n cells, of which the first i hold f -/
structure Filled (w : World) (B n i : Nat) (f : Nat → Value) : Prop where
  lt : B < w.heap.size
  has : ∀ j, j < n → ∃ v, w.cell? ⟨B, j, none⟩ = some v
  free : ∀ j, w.frozen? ⟨B, j, none⟩ = false
  done : ∀ j, j < i → w.cell? ⟨B, j, none⟩ = some (f j)

theorem filled_start {w w1 : World} {n e : Nat} {f : Nat → Value} {xs : List Value} (h : w1.ownsRow w.heap.size e 1 (.slice (some ⟨w.heap.size, 0, none⟩) n n) n xs) (g : w.grownBy w1 none) :
    Filled w1 w.heap.size n 0 f ∧ Below w.heap.size w w1 := by
  have hb : Below w.heap.size w w1 := (Below.refl _ _).grown g (Nat.le_refl _) (fun k hk => by cases hk)
  obtain ⟨_, h | ⟨b, cap, cur, hv, _, hh, _, _, hs, _⟩⟩ := h
  · cases h.1
  · cases hv
    have hs' : cur.size = n := by simpa using hs
    refine ⟨⟨(Array.getElem?_eq_some_iff.1 hh).1, fun j hj => ⟨cur[j]'(by omega), ?_⟩, fun j => ?_, fun j hj => by omega⟩, hb⟩
    · simp only [World.cell?, hh]
      simp [Array.getElem?_eq_getElem (show j < cur.size by omega)]
    · simp only [World.frozen?, hh]
      simp

theorem Filled.stays {w w' : World} {B n i : Nat} {f : Nat → Value} (h : Filled w B n i f) (hb : Below w.heap.size w w') : Filled w' B n i f := by
  refine ⟨Nat.lt_of_lt_of_le h.lt hb.size, fun j hj => ?_, fun j => ?_, fun j hj => ?_⟩
  · obtain ⟨v, hv⟩ := h.has j hj
    exact ⟨v, (hb.cell (p := ⟨B, j, none⟩) h.lt).trans hv⟩
  · exact (hb.frozen (p := ⟨B, j, none⟩) h.lt).trans (h.free j)
  · exact (hb.cell (p := ⟨B, j, none⟩) h.lt).trans (h.done j hj)

theorem Filled.step {w : World} {B n i : Nat} {f : Nat → Value} (h : Filled w B n i f) (hi : i < n) (v : Value) (hv : v = f i) : Filled (w.setCell ⟨B, i, none⟩ v) B n (i + 1) f := by
  subst hv
  obtain ⟨v0, hv0⟩ := h.has i hi
  refine ⟨by simpa [World.setCell] using h.lt, fun j hj => ?_, fun j => ?_, fun j hj => ?_⟩
  · by_cases hji : j = i
    · subst hji; exact ⟨_, World.cell?_setCell_same _ _ _ hv0⟩
    · obtain ⟨v, hv⟩ := h.has j hj
      exact ⟨v, by rw [World.cell?_setCell_other _ _ _ _ (by intro e; injection e; omega)]; exact hv⟩
  · rw [World.frozen?_setCell]; exact h.free j
  · by_cases hji : j = i
    · subst hji; exact World.cell?_setCell_same _ _ _ hv0
    · rw [World.cell?_setCell_other _ _ _ _ (by intro e; injection e; omega)]; exact h.done j (by omega)

/-- the cells of the new row of texts -/
def txt (xs : List Int) (j : Nat) : Value := .string ⟨(Lib.itoa (xs.getD j 0)).toArray⟩

theorem join_cl (xs : List Int) : Lib.join ((xs.map (fun x => (⟨(Lib.itoa x).toArray⟩ : ByteArray))).map (·.data.toList)) (⟨#[44]⟩ : ByteArray).data.toList = cl xs := by
  unfold cl
  rw [List.map_map]
  rfl

theorem comma_none (a : Option Addr) (c : Nat) (w : World) : Calls Tryd.prog 29 #[.slice a 0 c] w fun e w' => e = .returned (.string ⟨#[]⟩) ∧ Below w.heap.size w w' := by
  obtain ⟨i0, hi, hz0, hz1, hz2⟩ := info_parts info9
  go_enter Tryd.func29, Tryd.ntmps29
  go_wp2_with (at_make; refine wpList_make_full _ rfl (.tmp 7) (.tmp 7) 57 rfl _ 9 i0 (.string ⟨#[]⟩) 1 Tryd.underlying57 hi hz0 hz1 .i64 .i64 _ _ 0 rfl rfl rfl rfl (by omega) (by unfold maxLen; omega) (Nat.le_refl _) ?_)
  intro w1 hown hgrow
  obtain ⟨hF, hB⟩ := filled_start (f := fun _ => undef) hown hgrow
  clear hown hgrow hi hz0 hz1 hz2 hF
  go_wp2
  go_loopg [4, 5, 11] 0 (fun g p q i w' => i = .int .i64 0 ∧ w' = w1)
  case atStart => exact ⟨rfl, rfl⟩
  case round =>
    obtain ⟨rfl, hwr⟩ := hrel
    subst hwr
    go_wp2_with fail
    refine (join_none _ _ _ _).mono ?_
    rintro e w' ⟨rfl, hw⟩
    obtain rfl := hw.symm
    clear hw
    go_wp2
    go_ret
    exact ⟨rfl, hB⟩

set_option maxHeartbeats 1000000 in
theorem comma_any (b off n c : Nat) (xs : List Int) (w : World) (HN : Hid (xs.length = n)) (hn1 : 1 ≤ n) (hn : n ≤ 1048576)
    (HC : Hid (∀ i, i < n → w.cell? ⟨b, off + i, none⟩ = some (.int .i64 (xs.getD i 0)))) (HB : Hid (∀ i, i < n → -9223372036854775808 ≤ xs.getD i 0 ∧ xs.getD i 0 ≤ 9223372036854775807)) (HT : Hid (Tab w)) :
    Calls Tryd.prog 29 #[.slice (some ⟨b, off, none⟩) n c] w fun e w' => e = .returned (.string ⟨(cl xs).toArray⟩) ∧ Below w.heap.size w w' := by
  have hbw : b < w.heap.size := World.block_lt_of_cell? w _ (HC.out 0 (by omega))
  obtain ⟨i0, hi, hz0, hz1, hz2⟩ := info_parts info9
  go_enter Tryd.func29, Tryd.ntmps29
  go_wp2_with (at_make; refine wpList_make_full _ rfl (.tmp 7) (.tmp 7) 57 rfl _ 9 i0 (.string ⟨#[]⟩) 1 Tryd.underlying57 hi hz0 hz1 .i64 .i64 _ _ n rfl rfl rfl rfl (by rw [hz2]; omega) (by unfold maxLen; omega) (Nat.le_refl _) ?_)
  intro w1 hown hgrow
  obtain ⟨hF, hB⟩ := filled_start (f := txt xs) hown hgrow
  clear hown hgrow hi hz0 hz1 hz2
  have HF : Hid (Filled w1 w.heap.size n 0 (txt xs)) := hF
  clear hF
  go_wp2
  go_loopg [4, 5, 11] n (fun g p q i wr => ∃ k : Nat, k ≤ n ∧ Hid (g = n - k) ∧ i = .int .i64 (k : Int) ∧ Hid (Filled wr w.heap.size n k (txt xs)) ∧ Below w.heap.size w wr)
  case atStart => exact ⟨0, by omega, rfl, rfl, HF, hB⟩
  case round =>
    obtain ⟨k, hk, HK, rfl, HFk, hBk⟩ := hrel
    clear HF hB
    by_cases hkn : k < n
    · have hx := HB.out k hkn
      have hck : wr.cell? ⟨b, off + k, none⟩ = some (.int .i64 (xs.getD k 0)) := (hBk.cell (p := ⟨b, off + k, none⟩) hbw).trans (HC.out k hkn)
      have HV : Hid (txt xs k = .string ⟨(Lib.itoa (xs.getD k 0)).toArray⟩) := rfl
      obtain ⟨x, hxe⟩ : ∃ x, xs.getD k 0 = x := ⟨_, rfl⟩
      rw [hxe] at hx hck HV
      clear hxe
      go_wp2_with fail
      refine (itoa_any x hx.1 hx.2 _ (HT.out.stays hBk)).mono ?_
      rintro e w' ⟨rfl, hbw'⟩
      have hF' := HFk.out.stays hbw'
      have hB' : Below w.heap.size w w' := hBk.trans (hbw'.mono hBk.size)
      obtain ⟨v0, hv0⟩ := hF'.has k hkn
      have hfr := hF'.free k
      have HF' : Hid (Filled w' w.heap.size n k (txt xs)) := hF'
      clear hF' hbw' hBk HFk hck
      generalize Lib.itoa x = T at *
      go_wp2
      go_roundg (n - (k + 1))
      case measure => rw [HK.out]; omega
      case rel => exact ⟨k + 1, by omega, rfl, by go_num, HF'.out.step hkn _ HV.out.symm, hB'.setCell (by exact Nat.le_refl _) _⟩
    · obtain rfl : k = n := by omega
      have hj := join_any w.heap.size 0 k (xs.map (fun x => (⟨(Lib.itoa x).toArray⟩ : ByteArray))) ⟨#[44]⟩ wr (by
        intro j y hy
        rw [Nat.zero_add]
        have hjl : j < xs.length := by have := (List.getElem?_eq_some_iff.1 hy).1; simpa using this
        rw [HFk.out.done j (by rw [HN.out] at hjl; exact hjl)]
        simp [hjl] at hy
        simp [txt, ← hy, hjl]) HFk.out.lt (by simp [HN.out]; omega) (by simp [HN.out]) (by
        rw [join_cl]
        have := cl_len_le xs (by
          intro x hx
          obtain ⟨i, hi, rfl⟩ := List.mem_iff_getElem.1 hx
          have := HB.out i (by rw [HN.out] at hi; exact hi)
          simpa [List.getD, hi] using this)
        rw [HN.out] at this
        omega)
      rw [join_cl, List.length_map, HN.out] at hj
      have HJ : Hid (Calls Tryd.prog 37 #[.slice (some ⟨w.heap.size, 0, none⟩) k k, .string ⟨#[44]⟩] wr fun e w' => e = .returned (.string ⟨(cl xs).toArray⟩) ∧ Below wr.heap.size wr w') := hj
      clear hj
      go_wp2_with fail
      refine HJ.out.mono ?_
      rintro e w' ⟨rfl, hbw'⟩
      have hB' : Below w.heap.size w w' := hBk.trans (hbw'.mono hBk.size)
      clear HJ hbw' hBk HFk
      go_wp2
      go_ret
      exact ⟨rfl, hB'⟩

theorem zzcomma_none (a : Option Addr) (c : Nat) (w : World) : Calls Tryd.prog 12 #[.slice a 0 c] w fun e w' => e = .returned (.string ⟨#[]⟩) ∧ Below w.heap.size w w' := by
  go_enter Tryd.func12, Tryd.ntmps12
  go_wp2_with fail
  refine (comma_none _ _ _).mono ?_
  rintro e w' ⟨rfl, hb⟩
  go_wp2
  go_ret
  exact ⟨rfl, hb⟩

theorem zzcomma_any (b off n c : Nat) (xs : List Int) (w : World) (HN : Hid (xs.length = n)) (hn1 : 1 ≤ n) (hn : n ≤ 1048576)
    (HC : Hid (∀ i, i < n → w.cell? ⟨b, off + i, none⟩ = some (.int .i64 (xs.getD i 0)))) (HB : Hid (∀ i, i < n → -9223372036854775808 ≤ xs.getD i 0 ∧ xs.getD i 0 ≤ 9223372036854775807)) (HT : Hid (Tab w)) :
    Calls Tryd.prog 12 #[.slice (some ⟨b, off, none⟩) n c] w fun e w' => e = .returned (.string ⟨(cl xs).toArray⟩) ∧ Below w.heap.size w w' := by
  go_enter Tryd.func12, Tryd.ntmps12
  go_wp2_with fail
  refine (comma_any b off n c xs _ HN hn1 hn HC HB HT).mono ?_
  rintro e w' ⟨rfl, hb⟩
  go_wp2
  go_ret
  exact ⟨rfl, hb⟩

end Go.Proofs.Qxb6617922aDoor.Wk
