/-
  The library's contract of strings.Join at this translation.
-/
import Derived.Shelf.Strings.OnBuilder
import Derived.Test.YtdapcnhgbmicoaaProg
namespace Go.Proofs.Ytdapcnhgbmicoaa
open Go.Shelf Go.RowKit

def laysJoinRen : Go.Shelf.Ren := ⟨fun | 156 => 40 | 165 => 45 | 166 => 46 | 169 => 47 | 240 => 50 | 241 => 51 | 276 => 53 | 277 => 54 | n => n, fun | 31 => 27 | 9 => 9 | 3 => 3 | 4 => 4 | 0 => 0 | 20 => 20 | 72 => 50 | 76 => 54 | 70 => 48 | 37 => 26 | 75 => 53 | 127 => 57 | 164 => 58 | 5 => 5 | 80 => 56 | n => n, fun | n => n⟩
theorem laysJoin : Go.Proofs.Lays.n156 Try.prog laysJoinRen := {
  mixed := by kernel_rfl
  f156 := Try.func40.trans (congrArg some (by kernel_rfl))
  f165 := Try.func45.trans (congrArg some (by kernel_rfl))
  f166 := Try.func46.trans (congrArg some (by kernel_rfl))
  f169 := Try.func47.trans (congrArg some (by kernel_rfl))
  f240 := Try.func50.trans (congrArg some (by kernel_rfl))
  f241 := Try.func51.trans (congrArg some (by kernel_rfl))
  f276 := Try.func53.trans (congrArg some (by kernel_rfl))
  f277 := Try.func54.trans (congrArg some (by kernel_rfl))
  t0 := Try.underlying0
  a0 := Try.isAgg0
  z0 := Try.sizeOf0
  v0 := Try.zeroValue0
  t3 := Try.underlying3
  a3 := Try.isAgg3
  z3 := Try.sizeOf3
  v3 := Try.zeroValue3
  t4 := Try.underlying4
  a4 := Try.isAgg4
  z4 := Try.sizeOf4
  v4 := Try.zeroValue4
  t9 := Try.underlying9
  a9 := Try.isAgg9
  z9 := Try.sizeOf9
  v9 := Try.zeroValue9
  t20 := Try.underlying20
  a20 := Try.isAgg20
  z20 := Try.sizeOf20
  v20 := Try.zeroValue20
  t31 := Try.underlying27
  a31 := Try.isAgg27
  z31 := Try.sizeOf27
  v31 := Try.zeroValue27
  t37 := Try.underlying26
  a37 := Try.isAgg26
  z37 := Try.sizeOf26
  v37 := Try.zeroValue26
  t70 := Try.underlying48
  a70 := Try.isAgg48
  z70 := Try.sizeOf48
  v70 := Try.zeroValue48
  t72 := Try.underlying50
  a72 := Try.isAgg50
  z72 := Try.sizeOf50
  v72 := Try.zeroValue50
  t75 := Try.underlying53
  a75 := Try.isAgg53
  z75 := Try.sizeOf53
  v75 := Try.zeroValue53
  t76 := Try.underlying54
  a76 := Try.isAgg54
  z76 := Try.sizeOf54
  v76 := Try.zeroValue54
  t127 := Try.underlying57
  a127 := Try.isAgg57
  z127 := Try.sizeOf57
  v127 := Try.zeroValue57
  t164 := Try.underlying58
  a164 := Try.isAgg58
  z164 := Try.sizeOf58
  v164 := Try.zeroValue58 }
theorem extraJoin : Builder.Extra Try.prog laysJoinRen := {
  sizeBuilder := by kernel_rfl
  liesBuilder := by kernel_rfl
  t5 := Try.underlying5
  a5 := Try.isAgg5
  z5 := Try.sizeOf5
  v5 := Try.zeroValue5
  infoByte := by kernel_rfl
  cellsByte := by kernel_rfl
  sizeByte := by kernel_rfl
  neB5 := by decide }
theorem strJoinNone (a : Option Addr) (c : Nat) (sep : ByteArray) (w : World) :
    Calls Try.prog 40 #[.slice a 0 c, .string sep] w fun e w' => e = .returned (.string ⟨#[]⟩) ∧ w' = w := Any.strings_Join_none laysJoin extraJoin a c sep w
theorem strJoin (bk o c : Nat) (xs : List ByteArray) (sep : ByteArray) (w : World) (hcells : ∀ (j : Nat) x, xs[j]? = some x → w.cell? ⟨bk, o + j, none⟩ = some (.string x)) (hbk : bk < w.heap.size) (hN : xs.length ≤ 140737488355328) (hcap : xs.length ≤ c) (hlen : (Lib.join (xs.map (·.data.toList)) sep.data.toList).length ≤ 140737488355328) :
    Calls Try.prog 40 #[.slice (some ⟨bk, o, none⟩) xs.length c, .string sep] w fun e w' => e = .returned (.string ⟨(Lib.join (xs.map (·.data.toList)) sep.data.toList).toArray⟩) ∧ Below w.heap.size w w' := Any.strings_Join laysJoin extraJoin bk o c xs sep w hcells hbk hN hcap hlen

end Go.Proofs.Ytdapcnhgbmicoaa
