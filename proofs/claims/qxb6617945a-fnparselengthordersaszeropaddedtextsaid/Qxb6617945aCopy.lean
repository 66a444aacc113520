/-
  'zzc := make([]byte, len(data)); copy(zzc, data)' AS LAWS FOR THE WALK: what lies in the new row. Nothing of the program.
-/
import Derived.WalkKit
import Derived.Laws.CopyOwn
namespace Go.Proofs.Qxb6617945a.Cp
open Go Go.RowKit

theorem made_of_owns {w w1 : World} {n e : Nat} {xs : List Value} (h : w1.ownsRow w.heap.size e 1 (.slice (some ⟨w.heap.size, 0, none⟩) n n) n xs) (g : w.grownBy w1 none) :
    ∃ cur : List Value, cur.length = n ∧ Hid (w1.heap[w.heap.size]? = some (.cells cur.toArray e (0, 0))) ∧ Below w.heap.size w w1 := by
  have hb : Below w.heap.size w w1 := (Below.refl _ _).grown g (Nat.le_refl _) (fun k hk => by cases hk)
  obtain ⟨_, h | ⟨b, cap, cur, hv, _, hh, _, _, hs, _⟩⟩ := h
  · cases h.1
  · cases hv
    exact ⟨cur.toList, by simpa using hs, by show w1.heap[w.heap.size]? = _; simpa using hh, hb⟩

theorem wpList_copy_bytes {P : Program} {W w : World} {ops : Array Oper} {rest : List Oper} {o : Oper} {a : Act} {Q : Exit → Act → World → Prop} (hgd : o.guard = none) (d s : Operand) (dT sT : TypeId)
    (ho : o.op = .call { callee := .builtin .copy, args := #[d, s], argTypes := #[dT, sT] }) (elem : TypeId) (hu : P.underlying dT = some (.slice elem)) (hsz : (P.info? elem).map (·.size) = some 1)
    (n sCap dCap g : Nat) (x : Addr) (hd : a.eval d = .slice (some ⟨g, 0, none⟩) n dCap) (hs : a.eval s = .slice (some x) n sCap)
    (cur : List Value) (hcur : cur.length = n) (hg : Hid (w.heap[g]? = some (.cells cur.toArray elem (0, 0))))
    (k : IntKind) (zs : List Int) (hn : n ≤ zs.length) (hc : Hid (∀ i, i < zs.length → w.cell? (x.add i) = some (.int k (zs.getD i 0)))) (B : Nat) (hB : Below B W w) (hBg : B ≤ g)
    (h : ∀ w', Hid (∀ i, i < n → w'.cell? ⟨g, 0 + i, none⟩ = some (.int k (zs.getD i 0))) → Below B W w' → w'.heap.size = w.heap.size → Hid (∀ b', b' ≠ g → w'.heap[b']? = w.heap[b']?) → wpList P ops Q rest (a.put o.dst (goInt n)) w') :
    wpList P ops Q (o :: rest) a w := by
  have hlen : ((zs.take n).map (Value.int k)).length = n := by simp; omega
  by_cases h0 : n = 0
  · subst h0
    refine wpList_copy_nothing hgd d s dT sT ho elem hu hsz _ _ _ _ _ _ hd hs rfl ?_
    exact h w (fun i hi => by omega) hB rfl (fun _ _ => rfl)
  · have hcell : ∀ j v, ((zs.take n).map (Value.int k))[j]? = some v → w.cell? (x.add j) = some v := by
      intro j v hv
      have hj : j < n := by
        have := (List.getElem?_eq_some_iff.1 hv).1
        omega
      rw [hc.out j (by omega)]
      simp [hj, List.getElem?_eq_getElem (show j < zs.length by omega)] at hv
      simp [← hv, List.getD, List.getElem?_eq_getElem (show j < zs.length by omega)]
    refine wpList_copy_own hgd d s dT sT ho elem hu hsz g 0 n dCap x n sCap hd hs cur.toArray elem hg.out ((zs.take n).map (Value.int k)) (by rw [hlen]; simp) hcell (by simp [hcur]; omega) (ints_oneCell k _) ?_
    have e : (cur.toArray.toList.take 0 ++ ((zs.take n).map (Value.int k) ++ cur.toArray.toList.drop (0 + ((zs.take n).map (Value.int k)).length))) = (zs.take n).map (Value.int k) := by
      have : cur.drop n = [] := List.drop_eq_nil_of_le (by omega)
      rw [hlen]; simp [this]
    rw [e, hlen]
    have hh := setRow_heap w g cur.toArray ((zs.take n).map (Value.int k)).toArray elem _ hg.out
    refine h _ ?_ (below_setRow hB hBg _) (by simp [World.setRow]) ?_
    · intro i hi
      simp only [World.cell?, hh]
      simp [hi, List.getElem?_eq_getElem (show i < zs.length by omega)]
    · intro b' hb'
      exact setRow_other w g b' _ hb'

end Go.Proofs.Qxb6617945a.Cp
