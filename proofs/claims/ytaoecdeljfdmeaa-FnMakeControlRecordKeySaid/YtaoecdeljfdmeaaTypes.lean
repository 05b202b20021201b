/- The numbers of the program's types, and what they are. -/
import Derived.Test.YtaoecdeljfdmeaaProg
import Derived.Test.YtaoecdeljfdmeaaAuto
import Derived.Test.YtaoecdeljfdmeaaBits
namespace Go.Proofs.Ytaoecdeljfdmeaa
open Go Go.RowKit
theorem ti_u8 : isInt Try.prog 5 .u8 = true := by kernel_rfl
theorem ti_i64 : isInt Try.prog 3 .i64 = true := by kernel_rfl
theorem ti_i32 : isInt Try.prog 21 .i32 = true := by kernel_rfl
theorem ti_i16 : isInt Try.prog 48 .i16 = true := by kernel_rfl
theorem ti_u16 : isInt Try.prog 104 .u16 = true := by kernel_rfl
theorem ti_u32 : isInt Try.prog 54 .u32 = true := by kernel_rfl
theorem tb_bytes : byteSl Try.prog 22 5 = true := by kernel_rfl
theorem ts_str : (match Try.prog.underlying 9 with | some .string => true | _ => false) = true := by kernel_rfl
theorem ti_u64 : isInt Try.prog 95 .u64 = true := by kernel_rfl
theorem ti_l64 : isInt Try.prog 2 .i64 = true := by kernel_rfl
theorem fo_tree0 : fieldOff Try.prog 26 0 = some 0 := by kernel_rfl
theorem fo_tree1 : fieldOff Try.prog 26 1 = some 1 := by kernel_rfl
theorem fo_tree2 : fieldOff Try.prog 26 2 = some 2 := by kernel_rfl
theorem fo_tree3 : fieldOff Try.prog 26 3 = some 3 := by kernel_rfl
theorem fo_tree4 : fieldOff Try.prog 26 4 = some 4 := by kernel_rfl
theorem fo_fld0 : fieldOff Try.prog 46 0 = some 0 := by kernel_rfl
theorem fo_fld1 : fieldOff Try.prog 46 1 = some 1 := by kernel_rfl
theorem fo_fld2 : fieldOff Try.prog 46 2 = some 2 := by kernel_rfl
theorem fo_fld3 : fieldOff Try.prog 46 3 = some 3 := by kernel_rfl
theorem fo_fld4 : fieldOff Try.prog 46 4 = some 4 := by kernel_rfl
theorem fo_fld5 : fieldOff Try.prog 46 5 = some 5 := by kernel_rfl
theorem fo_fld6 : fieldOff Try.prog 46 6 = some 6 := by kernel_rfl
theorem fo_fld7 : fieldOff Try.prog 46 7 = some 7 := by kernel_rfl
theorem fo_tag0 : fieldOff Try.prog 56 0 = some 0 := by kernel_rfl
theorem fo_tag1 : fieldOff Try.prog 56 1 = some 1 := by kernel_rfl
theorem fo_msg0 : fieldOff Try.prog 30 0 = some 0 := by kernel_rfl
theorem fo_msg1 : fieldOff Try.prog 30 1 = some 1 := by kernel_rfl
theorem to_int : tyOne Try.prog 3 = true := by kernel_rfl
theorem to_bool : tyOne Try.prog 4 = true := by kernel_rfl
theorem to_str : tyOne Try.prog 9 = true := by kernel_rfl
theorem to_bytes : tyOne Try.prog 22 = true := by kernel_rfl
theorem to_trees : tyOne Try.prog 23 = true := by kernel_rfl
theorem to_tags : tyOne Try.prog 24 = true := by kernel_rfl
theorem to_flds : tyOne Try.prog 28 = true := by kernel_rfl
theorem to_u32 : tyOne Try.prog 54 = true := by kernel_rfl
theorem to_i64 : tyOne Try.prog 2 = true := by kernel_rfl
theorem to_u8 : tyOne Try.prog 5 = true := by kernel_rfl
theorem ta_tree : tyAgg Try.prog 26 = some 5 := by kernel_rfl
theorem tz_tree : (Try.prog.info? 26).map (·.size) = some 5 := by kernel_rfl
theorem ta_fld : tyAgg Try.prog 46 = some 8 := by kernel_rfl
theorem tz_fld : (Try.prog.info? 46).map (·.size) = some 8 := by kernel_rfl
theorem ta_tag : tyAgg Try.prog 56 = some 2 := by kernel_rfl
theorem tz_tag : (Try.prog.info? 56).map (·.size) = some 2 := by kernel_rfl
theorem ta_msg : tyAgg Try.prog 30 = some 2 := by kernel_rfl
theorem tz_msg : (Try.prog.info? 30).map (·.size) = some 2 := by kernel_rfl
theorem es_bytes : elemSize Try.prog 22 = some 1 := by kernel_rfl
theorem el_bytes : (elemSize Try.prog 22).isSome = true := by kernel_rfl
theorem es_trees : elemSize Try.prog 23 = some 5 := by kernel_rfl
theorem el_trees : (elemSize Try.prog 23).isSome = true := by kernel_rfl
theorem es_tags : elemSize Try.prog 24 = some 2 := by kernel_rfl
theorem el_tags : (elemSize Try.prog 24).isSome = true := by kernel_rfl
theorem es_flds : elemSize Try.prog 28 = some 8 := by kernel_rfl
theorem el_flds : (elemSize Try.prog 28).isSome = true := by kernel_rfl
theorem mixed : Try.prog.follows .mixedOrders = true := by kernel_rfl
theorem zv_tree (w : World) : (zeroValue 26).run Try.prog w = .ok (.agg #[.int .i64 0, .slice none 0 0, .bool false, .slice none 0 0, .slice none 0 0]) w := by kernel_rfl
theorem zv_fld (w : World) : (zeroValue 46).run Try.prog w = .ok (.agg #[.int .i64 0, .int .i64 0, .int .i64 0, .int .i64 0, .int .i64 0, .int .i64 0, .int .i64 0, .slice none 0 0]) w := by kernel_rfl
theorem zv_tag (w : World) : (zeroValue 56).run Try.prog w = .ok (.agg #[.int .u32 0, .slice none 0 0]) w := by kernel_rfl
/-- Where the reference's fields lie, and which types are of slices. -/
def tbl : Tbl := ⟨[(26, 0, 0), (26, 1, 1), (26, 2, 2), (26, 3, 3), (26, 4, 4), (46, 0, 0), (46, 1, 1), (46, 2, 2), (46, 3, 3), (46, 4, 4), (46, 5, 5), (46, 6, 6), (46, 7, 7), (56, 0, 0), (56, 1, 1), (30, 0, 0), (30, 1, 1)], [22, 23, 24, 28]⟩
theorem tbl_ok : tbl.ok Try.prog = true := by kernel_rfl
theorem ws {ops : Array Oper} {Q : Exit → Act → World → Prop} {N : Nat} {rest : List Oper} {L : Sl} {w : World} {d : Nat} {ty : TypeId} {pos : String} {aft : Array Edge} {o : Op} {v : Value}
    (hs : stepOp tbl L o = some v) (hd : Nat.blt d N = true) (h : WL rest Try.prog ops Q N ((d, v) :: L) w) : WL (⟨some d, o, ty, pos, aft, none⟩ :: rest) Try.prog ops Q N L w := wl_step tbl tbl_ok hs hd h
end Go.Proofs.Ytaoecdeljfdmeaa
