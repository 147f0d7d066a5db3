/-
  THE SORT's CONTRACTS, laid at this program.
-/
import Derived.Test.Qxb6614456aStable
import Derived.Shelf.Lay
import Derived.Ground.SlsfProg
namespace Go.Proofs
open Go.Shelf Go.RowKit Go.Lib Go.Sort
shelf_lay_g SlLaysF0.n20 Slsf 20 at Try 40 as Try.insLay

namespace Qxb6614456a
open Go
theorem lz : Lz Try.prog 6 where
  mixed := by kernel_rfl
  f39 := Try.func39
  f40 := Try.func40
  f41 := Try.func41
  f42 := Try.func42
  f43 := Try.func43
  e40 := enters_of Try.func40 (by kernel_rfl) rfl
  e41 := enters_of Try.func41 (by kernel_rfl) rfl
  e42 := enters_of Try.func42 (by kernel_rfl) rfl
  e43 := enters_of Try.func43 (by kernel_rfl) rfl
  t0 := Try.underlying0
  a0 := Try.isAgg0
  z0 := Try.sizeOf0
  v0 := Try.zeroValue0
  t3 := Try.underlying3
  a3 := Try.isAgg3
  z3 := Try.sizeOf3
  v3 := Try.zeroValue3
  t4 := Try.underlying4
  a4 := Try.isAgg4
  z4 := Try.sizeOf4
  v4 := Try.zeroValue4
  t61 := Try.underlying61
  a61 := Try.isAgg61
  z61 := Try.sizeOf61
  v61 := Try.zeroValue61
  t120 := Try.underlying120
  a120 := Try.isAgg120
  z120 := Try.sizeOf120
  v120 := Try.zeroValue120
  t130 := Try.underlying130
  a130 := Try.isAgg130
  z130 := Try.sizeOf130
  v130 := Try.zeroValue130
  aE := Try.isAgg65
  zE := Try.sizeOf65
end Qxb6614456a
end Go.Proofs
