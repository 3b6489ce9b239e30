import Derived.Shelf.Strings.OnBuilder
import Derived.Test.Qxb6600390aProg
namespace Go.Proofs.Qxb6600390a
open Go.Shelf Go.RowKit
def Try.laysJoin_ren : Go.Shelf.Ren := ⟨fun | 156 => 25 | 165 => 26 | 166 => 27 | 169 => 28 | 240 => 29 | 241 => 30 | 276 => 31 | 277 => 32 | n => n, fun | 31 => 22 | 9 => 9 | 3 => 3 | 4 => 4 | 0 => 0 | 20 => 20 | 72 => 48 | 76 => 52 | 70 => 46 | 37 => 39 | 75 => 51 | 127 => 55 | 164 => 56 | 5 => 5 | 80 => 54 | n => n, fun | n => n⟩
theorem Try.laysJoin : Go.Proofs.Lays.n156 Try.prog Try.laysJoin_ren := {
  mixed := by kernel_rfl
  f156 := Try.func25.trans (congrArg some (by kernel_rfl))
  f165 := Try.func26.trans (congrArg some (by kernel_rfl))
  f166 := Try.func27.trans (congrArg some (by kernel_rfl))
  f169 := Try.func28.trans (congrArg some (by kernel_rfl))
  f240 := Try.func29.trans (congrArg some (by kernel_rfl))
  f241 := Try.func30.trans (congrArg some (by kernel_rfl))
  f276 := Try.func31.trans (congrArg some (by kernel_rfl))
  f277 := Try.func32.trans (congrArg some (by kernel_rfl))
  t0 := Try.underlying0
  a0 := Try.isAgg0
  z0 := Try.sizeOf0
  v0 := Try.zeroValue0
  t3 := Try.underlying3
  a3 := Try.isAgg3
  z3 := Try.sizeOf3
  v3 := Try.zeroValue3
  t4 := Try.underlying4
  a4 := Try.isAgg4
  z4 := Try.sizeOf4
  v4 := Try.zeroValue4
  t9 := Try.underlying9
  a9 := Try.isAgg9
  z9 := Try.sizeOf9
  v9 := Try.zeroValue9
  t20 := Try.underlying20
  a20 := Try.isAgg20
  z20 := Try.sizeOf20
  v20 := Try.zeroValue20
  t31 := Try.underlying22
  a31 := Try.isAgg22
  z31 := Try.sizeOf22
  v31 := Try.zeroValue22
  t37 := Try.underlying39
  a37 := Try.isAgg39
  z37 := Try.sizeOf39
  v37 := Try.zeroValue39
  t70 := Try.underlying46
  a70 := Try.isAgg46
  z70 := Try.sizeOf46
  v70 := Try.zeroValue46
  t72 := Try.underlying48
  a72 := Try.isAgg48
  z72 := Try.sizeOf48
  v72 := Try.zeroValue48
  t75 := Try.underlying51
  a75 := Try.isAgg51
  z75 := Try.sizeOf51
  v75 := Try.zeroValue51
  t76 := Try.underlying52
  a76 := Try.isAgg52
  z76 := Try.sizeOf52
  v76 := Try.zeroValue52
  t127 := Try.underlying55
  a127 := Try.isAgg55
  z127 := Try.sizeOf55
  v127 := Try.zeroValue55
  t164 := Try.underlying56
  a164 := Try.isAgg56
  z164 := Try.sizeOf56
  v164 := Try.zeroValue56 }
theorem Try.extraJoin : Builder.Extra Try.prog Try.laysJoin_ren := {
  sizeBuilder := by kernel_rfl
  liesBuilder := by kernel_rfl
  t5 := Try.underlying5
  a5 := Try.isAgg5
  z5 := Try.sizeOf5
  v5 := Try.zeroValue5
  infoByte := by kernel_rfl
  cellsByte := by kernel_rfl
  sizeByte := by kernel_rfl
  neB5 := by decide }
/-- strings.Join, at this dump. -/
theorem join_calls (bk o c : Nat) (xs : List ByteArray) (sep : ByteArray) (w : World)
    (hcells : ∀ (j : Nat) x, xs[j]? = some x → w.cell? ⟨bk, o + j, none⟩ = some (.string x))
    (hbk : bk < w.heap.size) (hN : xs.length ≤ 140737488355328) (hcap : xs.length ≤ c)
    (hlen : (Lib.join (xs.map (·.data.toList)) sep.data.toList).length ≤ 140737488355328) :
    Calls Try.prog 25 #[.slice (some ⟨bk, o, none⟩) xs.length c, .string sep] w fun e w' => e = .returned (.string ⟨(Lib.join (xs.map (·.data.toList)) sep.data.toList).toArray⟩) ∧ Below w.heap.size w w' :=
  Any.strings_Join Try.laysJoin Try.extraJoin bk o c xs sep w hcells hbk hN hcap hlen
end Go.Proofs.Qxb6600390a
