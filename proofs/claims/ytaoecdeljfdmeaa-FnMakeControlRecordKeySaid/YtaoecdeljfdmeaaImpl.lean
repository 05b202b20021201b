/- The thin package's trees as the program has them: sizes, places. -/
import Derived.Test.YtaoecdeljfdmeaaTypes
import Derived.Test.YtaoecdeljfdmeaaRowD
namespace Go.Proofs.Ytaoecdeljfdmeaa.Impl
open Go Go.RowKit

def tbl : Tbl := ⟨[(26, 0, 0), (26, 1, 1), (26, 2, 2), (26, 3, 3), (26, 4, 4), (56, 0, 0), (56, 1, 1), (37, 0, 0), (37, 1, 1), (37, 2, 2), (37, 3, 3), (37, 4, 4), (57, 0, 0), (57, 1, 1)],
  [22, 23, 24, 34, 35]⟩
theorem tbl_ok : tbl.ok Try.prog = true := by kernel_rfl
theorem ws {ops : Array Oper} {Q : Exit → Act → World → Prop} {N : Nat} {rest : List Oper} {L : Sl} {w : World} {d : Nat} {ty : TypeId} {pos : String} {aft : Array Edge} {o : Op} {v : Value}
    (hs : stepOp tbl L o = some v) (hd : Nat.blt d N = true) (h : WL rest Try.prog ops Q N ((d, v) :: L) w) : WL (⟨some d, o, ty, pos, aft, none⟩ :: rest) Try.prog ops Q N L w := wl_step tbl tbl_ok hs hd h
theorem fo_tree3 : fieldOff Try.prog 37 3 = some 3 := by kernel_rfl
theorem to_trees : tyOne Try.prog 34 = true := by kernel_rfl
theorem to_tags : tyOne Try.prog 35 = true := by kernel_rfl
theorem ta_tree : tyAgg Try.prog 37 = some 5 := by kernel_rfl
theorem tz_tree : (Try.prog.info? 37).map (·.size) = some 5 := by kernel_rfl
theorem ta_tag : tyAgg Try.prog 57 = some 2 := by kernel_rfl
theorem tz_tag : (Try.prog.info? 57).map (·.size) = some 2 := by kernel_rfl
theorem es_trees : elemSize Try.prog 34 = some 5 := by kernel_rfl
theorem rt_trees : rowTy Try.prog 34 37 5 = true := by kernel_rfl
theorem rt_tags : rowTy Try.prog 35 57 2 = true := by kernel_rfl
theorem zv_tree (w : World) : (zeroValue 37).run Try.prog w = .ok (.agg #[.int .i64 0, .slice none 0 0, .bool false, .slice none 0 0, .slice none 0 0]) w := by kernel_rfl
end Go.Proofs.Ytaoecdeljfdmeaa.Impl
