/-
  THE SHELF's CONTRACTS of strings.Join and strconv.Itoa at this dump (the kit's lay-shelf.mjs, lay-plain.mjs; what is not used is struck), and in the form that our walks take.
-/
import Derived.Shelf.Strings.OnBuilder
import Derived.Shelf.LaysM
import Derived.Shelf.Strconv.Itoa3
import Derived.Lib.SmallJoins
import Derived.Test.Qxb6617922aDoorRows
namespace Go.Proofs.Qxb6617922aDoor.Sh
open Go.Shelf
def Tryd.lays156_ren : Go.Shelf.Ren := ⟨fun | 156 => 37 | 165 => 39 | 166 => 40 | 169 => 41 | 240 => 43 | 241 => 44 | 276 => 49 | 277 => 50 | n => n, fun | 31 => 57 | 9 => 9 | 3 => 3 | 4 => 4 | 0 => 0 | 20 => 20 | 72 => 63 | 76 => 67 | 70 => 60 | 37 => 61 | 75 => 66 | 127 => 71 | 164 => 77 | 5 => 5 | 80 => 69 | n => n, fun | n => n⟩
theorem Tryd.lays156 : Go.Proofs.Lays.n156 Tryd.prog Tryd.lays156_ren := {
  mixed := by kernel_rfl
  f156 := Tryd.func37.trans (congrArg some (by kernel_rfl))
  f165 := Tryd.func39.trans (congrArg some (by kernel_rfl))
  f166 := Tryd.func40.trans (congrArg some (by kernel_rfl))
  f169 := Tryd.func41.trans (congrArg some (by kernel_rfl))
  f240 := Tryd.func43.trans (congrArg some (by kernel_rfl))
  f241 := Tryd.func44.trans (congrArg some (by kernel_rfl))
  f276 := Tryd.func49.trans (congrArg some (by kernel_rfl))
  f277 := Tryd.func50.trans (congrArg some (by kernel_rfl))
  t0 := Tryd.underlying0
  a0 := Tryd.isAgg0
  z0 := Tryd.sizeOf0
  v0 := Tryd.zeroValue0
  t3 := Tryd.underlying3
  a3 := Tryd.isAgg3
  z3 := Tryd.sizeOf3
  v3 := Tryd.zeroValue3
  t4 := Tryd.underlying4
  a4 := Tryd.isAgg4
  z4 := Tryd.sizeOf4
  v4 := Tryd.zeroValue4
  t9 := Tryd.underlying9
  a9 := Tryd.isAgg9
  z9 := Tryd.sizeOf9
  v9 := Tryd.zeroValue9
  t20 := Tryd.underlying20
  a20 := Tryd.isAgg20
  z20 := Tryd.sizeOf20
  v20 := Tryd.zeroValue20
  t31 := Tryd.underlying57
  a31 := Tryd.isAgg57
  z31 := Tryd.sizeOf57
  v31 := Tryd.zeroValue57
  t37 := Tryd.underlying61
  a37 := Tryd.isAgg61
  z37 := Tryd.sizeOf61
  v37 := Tryd.zeroValue61
  t70 := Tryd.underlying60
  a70 := Tryd.isAgg60
  z70 := Tryd.sizeOf60
  v70 := Tryd.zeroValue60
  t72 := Tryd.underlying63
  a72 := Tryd.isAgg63
  z72 := Tryd.sizeOf63
  v72 := Tryd.zeroValue63
  t75 := Tryd.underlying66
  a75 := Tryd.isAgg66
  z75 := Tryd.sizeOf66
  v75 := Tryd.zeroValue66
  t76 := Tryd.underlying67
  a76 := Tryd.isAgg67
  z76 := Tryd.sizeOf67
  v76 := Tryd.zeroValue67
  t127 := Tryd.underlying71
  a127 := Tryd.isAgg71
  z127 := Tryd.sizeOf71
  v127 := Tryd.zeroValue71
  t164 := Tryd.underlying77
  a164 := Tryd.isAgg77
  z164 := Tryd.sizeOf77
  v164 := Tryd.zeroValue77 }
theorem Tryd.Builder_Extra_156 : Builder.Extra Tryd.prog Tryd.lays156_ren := {
  sizeBuilder := by kernel_rfl
  liesBuilder := by kernel_rfl
  t5 := Tryd.underlying5
  a5 := Tryd.isAgg5
  z5 := Tryd.sizeOf5
  v5 := Tryd.zeroValue5
  infoByte := by kernel_rfl
  cellsByte := by kernel_rfl
  sizeByte := by kernel_rfl
  neB5 := by decide }
def Tryd.laysM171_ren : Go.Shelf.Ren := ⟨fun | 171 => 36 | 243 => 38 | 246 => 42 | 283 => 45 | 284 => 46 | 285 => 47 | 286 => 48 | 129 => 52 | 317 => 51 | 318 => 53 | 319 => 54 | 320 => 55 | 337 => 56 | 338 => 57 | n => n, fun | 3 => 3 | 9 => 9 | 2 => 2 | 4 => 4 | 171 => 72 | 0 => 0 | 53 => 27 | 37 => 61 | 5 => 5 | 173 => 75 | 212 => 82 | 51 => 83 | 20 => 20 | 213 => 84 | 46 => 40 | 232 => 87 | 233 => 88 | n => n, fun | 17 => 0 | 18 => 2 | 19 => 3 | n => n⟩
theorem Tryd.laysM171 : Go.Proofs.LaysM.n171 Tryd.prog Tryd.laysM171_ren := {
  mixed := by kernel_rfl
  f129 := Tryd.func52.trans (congrArg some (by kernel_rfl))
  f171 := Tryd.func36.trans (congrArg some (by kernel_rfl))
  f243 := Tryd.func38.trans (congrArg some (by kernel_rfl))
  f246 := Tryd.func42.trans (congrArg some (by kernel_rfl))
  f283 := Tryd.func45.trans (congrArg some (by kernel_rfl))
  f284 := Tryd.func46.trans (congrArg some (by kernel_rfl))
  f285 := Tryd.func47.trans (congrArg some (by kernel_rfl))
  f286 := Tryd.func48.trans (congrArg some (by kernel_rfl))
  f317 := Tryd.func51.trans (congrArg some (by kernel_rfl))
  f318 := Tryd.func53.trans (congrArg some (by kernel_rfl))
  f319 := Tryd.func54.trans (congrArg some (by kernel_rfl))
  f320 := Tryd.func55.trans (congrArg some (by kernel_rfl))
  f337 := Tryd.func56.trans (congrArg some (by kernel_rfl))
  f338 := Tryd.func57.trans (congrArg some (by kernel_rfl))
  t0 := Tryd.underlying0
  a0 := Tryd.isAgg0
  z0 := Tryd.sizeOf0
  v0 := Tryd.zeroValue0
  t2 := Tryd.underlying2
  a2 := Tryd.isAgg2
  z2 := Tryd.sizeOf2
  v2 := Tryd.zeroValue2
  t3 := Tryd.underlying3
  a3 := Tryd.isAgg3
  z3 := Tryd.sizeOf3
  v3 := Tryd.zeroValue3
  t4 := Tryd.underlying4
  a4 := Tryd.isAgg4
  z4 := Tryd.sizeOf4
  v4 := Tryd.zeroValue4
  t5 := Tryd.underlying5
  a5 := Tryd.isAgg5
  z5 := Tryd.sizeOf5
  v5 := Tryd.zeroValue5
  t9 := Tryd.underlying9
  a9 := Tryd.isAgg9
  z9 := Tryd.sizeOf9
  v9 := Tryd.zeroValue9
  t20 := Tryd.underlying20
  a20 := Tryd.isAgg20
  z20 := Tryd.sizeOf20
  v20 := Tryd.zeroValue20
  t37 := Tryd.underlying61
  a37 := Tryd.isAgg61
  z37 := Tryd.sizeOf61
  v37 := Tryd.zeroValue61
  t46 := Tryd.underlying40
  a46 := Tryd.isAgg40
  z46 := Tryd.sizeOf40
  v46 := Tryd.zeroValue40
  t51 := Tryd.underlying83
  a51 := Tryd.isAgg83
  z51 := Tryd.sizeOf83
  v51 := Tryd.zeroValue83
  t53 := Tryd.underlying27
  a53 := Tryd.isAgg27
  z53 := Tryd.sizeOf27
  v53 := Tryd.zeroValue27
  t171 := Tryd.underlying72
  a171 := Tryd.isAgg72
  z171 := Tryd.sizeOf72
  v171 := Tryd.zeroValue72
  t173 := Tryd.underlying75
  a173 := Tryd.isAgg75
  z173 := Tryd.sizeOf75
  v173 := Tryd.zeroValue75
  t212 := Tryd.underlying82
  a212 := Tryd.isAgg82
  z212 := Tryd.sizeOf82
  v212 := Tryd.zeroValue82
  t213 := Tryd.underlying84
  a213 := Tryd.isAgg84
  z213 := Tryd.sizeOf84
  t232 := Tryd.underlying87
  a232 := Tryd.isAgg87
  z232 := Tryd.sizeOf87
  v232 := Tryd.zeroValue87
  t233 := Tryd.underlying88
  a233 := Tryd.isAgg88
  z233 := Tryd.sizeOf88
  v233 := Tryd.zeroValue88
  g17 := by kernel_rfl
  g18 := by kernel_rfl
  g19 := by kernel_rfl
  i0 := by kernel_rfl
  i2 := by kernel_rfl
  i3 := by kernel_rfl
  i4 := by kernel_rfl
  i5 := by kernel_rfl
  i9 := by kernel_rfl
  i20 := by kernel_rfl
  i37 := by kernel_rfl
  i46 := by kernel_rfl
  i51 := by kernel_rfl
  i53 := by kernel_rfl
  i171 := by kernel_rfl
  i173 := by kernel_rfl
  i212 := by kernel_rfl
  i232 := by kernel_rfl
  i233 := by kernel_rfl
  m17 := by kernel_rfl
  m18 := by kernel_rfl
  m19 := by kernel_rfl }

/-- the library's table of powers reads as it is laid -/
def Tab (w : World) : Prop := Lib.TabIs Tryd.prog w (Rows.fnConstructionRankedAgreesCommaListRow.named.headD "") .u64 Lib.pow10Tab

theorem tabVar : Tryd.prog.globalNamed (Rows.fnConstructionRankedAgreesCommaListRow.named.headD "") = some 0 := by kernel_rfl

open Go.RowKit

theorem Tab.stays {w w' : World} (h : Tab w) (hb : Below w.heap.size w w') : Tab w' := Go.Joins.tab_stays tabVar h hb (Nat.le_refl _)

theorem below_grow (w : World) (k : Nat) (os : Array Obj) : Below w.heap.size w (Go.Sort.grow (w.drewN k) os) := by
  refine ⟨rfl, rfl, rfl, ?_, ?_⟩
  · simp [Go.Sort.grow, World.drewN]
  · intro j hj
    simp [Go.Sort.grow, World.drewN]
    rw [Array.getElem?_append_left hj]

theorem itoa_any (n : Int) (h0 : -9223372036854775808 ≤ n) (h1 : n ≤ 9223372036854775807) (w : World) (ht : Tab w) :
    Calls Tryd.prog 36 #[.int .i64 n] w fun e w' => e = .returned (.string ⟨(Lib.itoa n).toArray⟩) ∧ Below w.heap.size w w' := by
  refine (Any.strconv_Itoa Tryd.laysM171 n h0 h1 w ht).mono ?_
  rintro e w' ⟨rfl, k, os, rfl⟩
  exact ⟨rfl, below_grow w k os⟩

theorem join_none (a : Option Addr) (c : Nat) (sep : ByteArray) (w : World) :
    Calls Tryd.prog 37 #[.slice a 0 c, .string sep] w fun e w' => e = .returned (.string ⟨#[]⟩) ∧ w' = w := Any.strings_Join_none Tryd.lays156 Tryd.Builder_Extra_156 a c sep w

theorem join_any (bk o c : Nat) (xs : List ByteArray) (sep : ByteArray) (w : World) (hcells : ∀ (j : Nat) x, xs[j]? = some x → w.cell? ⟨bk, o + j, none⟩ = some (.string x)) (hbk : bk < w.heap.size) (hN : xs.length ≤ 140737488355328) (hcap : xs.length ≤ c) (hlen : (Lib.join (xs.map (·.data.toList)) sep.data.toList).length ≤ 140737488355328) :
    Calls Tryd.prog 37 #[.slice (some ⟨bk, o, none⟩) xs.length c, .string sep] w fun e w' => e = .returned (.string ⟨(Lib.join (xs.map (·.data.toList)) sep.data.toList).toArray⟩) ∧ Below w.heap.size w w' := Any.strings_Join Tryd.lays156 Tryd.Builder_Extra_156 bk o c xs sep w hcells hbk hN hcap hlen

end Go.Proofs.Qxb6617922aDoor.Sh
