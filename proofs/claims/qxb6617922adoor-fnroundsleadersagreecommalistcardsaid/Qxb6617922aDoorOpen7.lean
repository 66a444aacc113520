/-
  A STRUCT OF SEVEN ONE-CELL FIELDS, BY VALUE, OPENED. Nothing of the program.
-/
import Derived.Lib.SmallJoins
namespace Go.Proofs.Qxb6617922aDoor.Op
open Go Go.ChangeShapes Go.WideShapes Go.RowKit Go.Deep Go.WideElems Go.Maps

theorem array7 {cs : Array Value} (h : cs.size = 7) : ∃ c0 c1 c2 c3 c4 c5 c6, cs = #[c0, c1, c2, c3, c4, c5, c6] := by
  obtain ⟨l⟩ := cs
  match l, h with
  | [c0, c1, c2, c3, c4, c5, c6], _ => exact ⟨c0, c1, c2, c3, c4, c5, c6, rfl⟩

theorem array5 {cs : Array Value} (h : cs.size = 5) : ∃ c0 c1 c2 c3 c4, cs = #[c0, c1, c2, c3, c4] := by
  obtain ⟨l⟩ := cs
  match l, h with
  | [c0, c1, c2, c3, c4], _ => exact ⟨c0, c1, c2, c3, c4, rfl⟩

section
variable {H : Type} {enc : TypeId × Value → H} {P : Program} {w : World} {base : Nat} {spare : Nat → Bool} {held : Bool}

theorem open7 {r : Reach} {b0 : Nat} {t : TypeId} {f0 f1 f2 f3 f4 f5 f6 : Field} {v : Value} {d : DataW H} {p : List MemPlace} (hs : P.underlying t = some (.struct #[f0, f1, f2, f3, f4, f5, f6])) (hone : oneCellFields P #[f0, f1, f2, f3, f4, f5, f6] = true) (hC : P.cellsOf t = 7)
    (hv : Value.okWide P w r b0 t v) (h : DataW.Trod enc P w base spare held t v d p) :
    ∃ (v0 v1 v2 v3 v4 v5 v6 : Value) (n : Nat), v = .agg #[v0, v1, v2, v3, v4, v5, v6] ∧ (∃ y, DataW.trod enc P w base spare held n f0.type [v0] = some y) ∧ (∃ y, DataW.trod enc P w base spare held n f1.type [v1] = some y) ∧ (∃ y, DataW.trod enc P w base spare held n f2.type [v2] = some y) ∧
      (∃ y, DataW.trod enc P w base spare held n f3.type [v3] = some y) ∧ (∃ y, DataW.trod enc P w base spare held n f4.type [v4] = some y) ∧ (∃ y, DataW.trod enc P w base spare held n f5.type [v5] = some y) ∧ (∃ y, DataW.trod enc P w base spare held n f6.type [v6] = some y) := by
  obtain ⟨cs, rfl, hsz⟩ := okWide_struct hs hv
  obtain ⟨c0, c1, c2, c3, c4, c5, c6, rfl⟩ := array7 (hsz.trans hC)
  obtain ⟨fuel, hf⟩ := h
  obtain ⟨xs, n, _, _, _, hlen, hx⟩ := DataW.trod_struct hs hf
  match xs, hlen with
  | [y0, y1, y2, y3, y4, y5, y6], _ =>
    obtain ⟨o0, k0⟩ := hone_of hone 0 f0 rfl
    obtain ⟨o1, k1⟩ := hone_of hone 1 f1 rfl
    obtain ⟨o2, k2⟩ := hone_of hone 2 f2 rfl
    obtain ⟨o3, k3⟩ := hone_of hone 3 f3 rfl
    obtain ⟨o4, k4⟩ := hone_of hone 4 f4 rfl
    obtain ⟨o5, k5⟩ := hone_of hone 5 f5 rfl
    obtain ⟨o6, k6⟩ := hone_of hone 6 f6 rfl
    exact ⟨c0, c1, c2, c3, c4, c5, c6, n, rfl, ⟨y0, by simpa [Value.cells, o0, k0] using hx 0 f0 rfl⟩, ⟨y1, by simpa [Value.cells, o1, k1] using hx 1 f1 rfl⟩, ⟨y2, by simpa [Value.cells, o2, k2] using hx 2 f2 rfl⟩, ⟨y3, by simpa [Value.cells, o3, k3] using hx 3 f3 rfl⟩,
      ⟨y4, by simpa [Value.cells, o4, k4] using hx 4 f4 rfl⟩, ⟨y5, by simpa [Value.cells, o5, k5] using hx 5 f5 rfl⟩, ⟨y6, by simpa [Value.cells, o6, k6] using hx 6 f6 rfl⟩⟩

theorem open5 {r : Reach} {b0 : Nat} {t : TypeId} {f0 f1 f2 f3 f4 : Field} {v : Value} {d : DataW H} {p : List MemPlace} (hs : P.underlying t = some (.struct #[f0, f1, f2, f3, f4])) (hone : oneCellFields P #[f0, f1, f2, f3, f4] = true) (hC : P.cellsOf t = 5)
    (hv : Value.okWide P w r b0 t v) (h : DataW.Trod enc P w base spare held t v d p) :
    ∃ (v0 v1 v2 v3 v4 : Value) (n : Nat), v = .agg #[v0, v1, v2, v3, v4] ∧ (∃ y, DataW.trod enc P w base spare held n f0.type [v0] = some y) ∧ (∃ y, DataW.trod enc P w base spare held n f1.type [v1] = some y) ∧ (∃ y, DataW.trod enc P w base spare held n f2.type [v2] = some y) ∧
      (∃ y, DataW.trod enc P w base spare held n f3.type [v3] = some y) ∧ (∃ y, DataW.trod enc P w base spare held n f4.type [v4] = some y) := by
  obtain ⟨cs, rfl, hsz⟩ := okWide_struct hs hv
  obtain ⟨c0, c1, c2, c3, c4, rfl⟩ := array5 (hsz.trans hC)
  obtain ⟨fuel, hf⟩ := h
  obtain ⟨xs, n, _, _, _, hlen, hx⟩ := DataW.trod_struct hs hf
  match xs, hlen with
  | [y0, y1, y2, y3, y4], _ =>
    obtain ⟨o0, k0⟩ := hone_of hone 0 f0 rfl
    obtain ⟨o1, k1⟩ := hone_of hone 1 f1 rfl
    obtain ⟨o2, k2⟩ := hone_of hone 2 f2 rfl
    obtain ⟨o3, k3⟩ := hone_of hone 3 f3 rfl
    obtain ⟨o4, k4⟩ := hone_of hone 4 f4 rfl
    exact ⟨c0, c1, c2, c3, c4, n, rfl, ⟨y0, by simpa [Value.cells, o0, k0] using hx 0 f0 rfl⟩, ⟨y1, by simpa [Value.cells, o1, k1] using hx 1 f1 rfl⟩, ⟨y2, by simpa [Value.cells, o2, k2] using hx 2 f2 rfl⟩, ⟨y3, by simpa [Value.cells, o3, k3] using hx 3 f3 rfl⟩, ⟨y4, by simpa [Value.cells, o4, k4] using hx 4 f4 rfl⟩⟩

theorem int1 {k : IntKind} {t : TypeId} {n : Nat} {v : Value} (ht : P.underlying t = some (.int k)) (h : ∃ y, DataW.trod enc P w base spare held n t [v] = some y) : ∃ x : Int, v = .int k x ∧ (Lit.int k x).wf = true := by
  obtain ⟨y, h⟩ := h
  obtain ⟨x, e, _, wx⟩ := DataW.trod_int ht h
  simp at e
  exact ⟨x, e, wx⟩
end

end Go.Proofs.Qxb6617922aDoor.Op
