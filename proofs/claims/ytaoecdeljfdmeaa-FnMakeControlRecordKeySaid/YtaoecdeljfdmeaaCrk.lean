/- What a ControlRecordKey comes to: its table, how it is filled, how it is written. -/
import Derived.Test.YtaoecdeljfdmeaaLawA
import Derived.Test.YtaoecdeljfdmeaaGiven
import Derived.Test.YtaoecdeljfdmeaaField
namespace Go.Proofs.Ytaoecdeljfdmeaa.Crk
open Go Go.RowKit

def m : Msg := ⟨[.mk 2 0 (-1) (-1) (-1) 0 0 []], -1⟩
theorem m_ok : fsok m.fields = true := by decide
def tbl : Tbl := ⟨[(30, 0, 0), (30, 1, 1), (37, 3, 3), (51, 0, 0), (51, 1, 1)], [22, 34]⟩
theorem tbl_ok : tbl.ok Try.prog = true := by kernel_rfl
theorem ws {ops : Array Oper} {Q : Exit → Act → World → Prop} {N : Nat} {rest : List Oper} {L : Sl} {w : World} {d : Nat} {ty : TypeId} {pos : String} {aft : Array Edge} {o : Op} {v : Value}
    (hs : stepOp tbl L o = some v) (hd : Nat.blt d N = true) (h : WL rest Try.prog ops Q N ((d, v) :: L) w) : WL (⟨some d, o, ty, pos, aft, none⟩ :: rest) Try.prog ops Q N L w := wl_step tbl tbl_ok hs hd h
theorem zv_msg (w : World) : (zeroValue 30).run Try.prog w = .ok (.agg #[.slice none 0 0, .int .i64 0]) w := by kernel_rfl
theorem rt_flds : rowTy Try.prog 28 46 8 = true := by kernel_rfl
theorem ti_i16 : isInt Try.prog 48 .i16 = true := by kernel_rfl
theorem ti_crk : isInt Try.prog 49 .i16 = true := by kernel_rfl
theorem to_i16 : tyOne Try.prog 48 = true := by kernel_rfl
theorem to_crk : tyOne Try.prog 49 = true := by kernel_rfl
theorem po_tree0 : partOff Try.prog 37 0 = some 0 := by kernel_rfl

section
set_option maxRecDepth 100000
theorem fn_table (w : World) : Fn 7 [] w fun v w' => ∃ fv, v = .agg #[fv, .int .i64 m.flex] ∧ Sq w'.heap.size w' fv (m.fields.map fldD) := by
  refine enter Try.func7 rfl Try.ntmps7 rfl ?_
  repeat first|(with_reducible first|apply wc_seq|apply wc_region|apply wl_nil|apply qk_thn|apply wc_block|apply wc_skip|apply wc_ret|apply wc_exit|apply qk_thn_ret|apply qk_in_ret|apply qk_in|apply qk_thn_exit|apply qk_in_exit|apply qk_round_ret|apply qk_round_exit)|((with_reducible apply ws);exact rfl;exact rfl)|((with_reducible apply wl_yes);exact rfl;exact rfl;exact rfl)|((with_reducible apply wl_no);exact rfl;exact rfl;exact rfl;exact rfl)|((with_reducible apply wl_noU);exact rfl;exact rfl;exact rfl)
  refine wl_alloc zv_msg rfl rfl (fun w1 hb1 hg1 hs1 => ?_)
  repeat first|(with_reducible first|apply wc_seq|apply wc_region|apply wl_nil|apply qk_thn|apply wc_block|apply wc_skip|apply wc_ret|apply wc_exit|apply qk_thn_ret|apply qk_in_ret|apply qk_in|apply qk_thn_exit|apply qk_in_exit|apply qk_round_ret|apply qk_round_exit)|((with_reducible apply ws);exact rfl;exact rfl)|((with_reducible apply wl_yes);exact rfl;exact rfl;exact rfl)|((with_reducible apply wl_no);exact rfl;exact rfl;exact rfl;exact rfl)|((with_reducible apply wl_noU);exact rfl;exact rfl;exact rfl)
  refine wl_build rfl (cs := [.int .i64 2, .int .i64 0, .int .i64 (-1), .int .i64 (-1), .int .i64 (-1), .int .i64 0, .int .i64 0, .slice none 0 0]) (by kernel_rfl) rfl ?_
  refine wl_slice1 rt_flds rfl rfl rfl rfl rfl (fun w2 hb2 hg2 hs2 => ?_)
  refine wl_build rfl (cs := [.slice (some ⟨w1.heap.size, 0, none⟩) 1 1, .int .i64 (-1)]) (by kernel_rfl) rfl ?_
  refine wl_storeBAgg (vs := [.slice (some ⟨w1.heap.size, 0, none⟩) 1 1, .int .i64 (-1)]) rfl rfl rfl tz_msg rfl (hb1.kept hg2 (by simp)) rfl (fun w3 hb3 hg3 hs3 => ?_)
  repeat first|(with_reducible first|apply wc_seq|apply wc_region|apply wl_nil|apply qk_thn|apply wc_block|apply wc_skip|apply wc_ret|apply wc_exit|apply qk_thn_ret|apply qk_in_ret|apply qk_in|apply qk_thn_exit|apply qk_in_exit|apply qk_round_ret|apply qk_round_exit)|((with_reducible apply ws);exact rfl;exact rfl)|((with_reducible apply wl_yes);exact rfl;exact rfl;exact rfl)|((with_reducible apply wl_no);exact rfl;exact rfl;exact rfl;exact rfl)|((with_reducible apply wl_noU);exact rfl;exact rfl;exact rfl)
  have hb23 := hb2.kept hg3 (by simp; omega)
  refine qk_retCell (cs := [.slice (some ⟨w1.heap.size, 0, none⟩) 1 1, .int .i64 (-1)]) rfl rfl ta_msg hb3 ⟨_, rfl, ((below_of hg1 (Nat.le_refl _) (by simp)).trans (below_of hg2 (by omega) (by simp))).trans (below_of hg3 (by omega) (by intro q hq; simp at hq; omega)), _, rfl, ?_⟩
  simp only [m, List.map_cons, List.map_nil, Sq, Rep]
  refine ⟨_, 1, rfl, by simp, .inr ⟨w1.heap.size, 0, [.int .i64 2, .int .i64 0, .int .i64 (-1), .int .i64 (-1), .int .i64 (-1), .int .i64 0, .int .i64 0, .slice none 0 0], rfl, by simp only [Lo]; omega, hb23.cells, ?_⟩⟩
  simp only [Reps, fldD, Rep, fldDs]
  exact ⟨[.int .i64 2, .int .i64 0, .int .i64 (-1), .int .i64 (-1), .int .i64 (-1), .int .i64 0, .int .i64 0, .slice none 0 0], [], rfl, ⟨[_], _, rfl, rfl, [_], _, rfl, rfl, [_], _, rfl, rfl, [_], _, rfl, rfl, [_], _, rfl, rfl, [_], _, rfl, rfl, [_], _, rfl, rfl, [_], _, rfl, ⟨none, 0, rfl, by simp, .inl (by simp)⟩, rfl⟩, rfl⟩
/-- The thin package's own look at a tree's thing. -/
theorem fn_at (t : Tree) (i : Nat) (B : Nat) (w : World) (hB : B ≤ w.heap.size) (ts : List Value) (ht : Rep (Lo B) w (treeD t) ts) :
    Fn 42 [.agg ts.toArray, .int .i64 (i : Int)] w fun v w' => ∃ cs : List Value, v = .agg cs.toArray ∧ Rep (Lo B) w' (treeD (att t i)) cs := by
  obtain ⟨sv2, lv, uv, rfl, _, hl, _⟩ := tree_cells ht
  obtain ⟨la, lc, rfl, _⟩ := hl.shape
  refine enter Try.func42 rfl Try.ntmps42 rfl ?_
  repeat first|(with_reducible first|apply wc_seq|apply wc_region|apply wl_nil|apply qk_thn|apply wc_block|apply wc_skip|apply wc_ret|apply wc_exit|apply qk_thn_ret|apply qk_in_ret|apply qk_in|apply qk_thn_exit|apply qk_in_exit|apply qk_round_ret|apply qk_round_exit)|((with_reducible apply ws);exact rfl;exact rfl)|((with_reducible apply wl_yes);exact rfl;exact rfl;exact rfl)|((with_reducible apply wl_no);exact rfl;exact rfl;exact rfl;exact rfl)|((with_reducible apply wl_noU);exact rfl;exact rfl;exact rfl)
  refine wl_box1 rfl rfl rfl (fun w1 hb1 hg1 hs1 => wl_alloc Impl.zv_tree rfl rfl (fun w2 hb2 hg2 hs2 => ?_))
  have hb := hb1.kept hg2 (by simp)
  have hw2 : Below w.heap.size w w2 := (below_of hg1 (Nat.le_refl _) (by simp)).trans (below_of hg2 (by omega) (by simp))
  repeat first|(with_reducible first|apply wc_seq|apply wc_region|apply wl_nil|apply qk_thn|apply wc_block|apply wc_skip|apply wc_ret|apply wc_exit|apply qk_thn_ret|apply qk_in_ret|apply qk_in|apply qk_thn_exit|apply qk_in_exit|apply qk_round_ret|apply qk_round_exit)|((with_reducible apply ws);exact rfl;exact rfl)|((with_reducible apply wl_yes);exact rfl;exact rfl;exact rfl)|((with_reducible apply wl_no);exact rfl;exact rfl;exact rfl;exact rfl)|((with_reducible apply wl_noU);exact rfl;exact rfl;exact rfl)
  refine wl_loadB rfl Impl.to_trees rfl hb rfl ?_
  repeat first|(with_reducible first|apply wc_seq|apply wc_region|apply wl_nil|apply qk_thn|apply wc_block|apply wc_skip|apply wc_ret|apply wc_exit|apply qk_thn_ret|apply qk_in_ret|apply qk_in|apply qk_thn_exit|apply qk_in_exit|apply qk_round_ret|apply qk_round_exit)|((with_reducible apply ws);exact rfl;exact rfl)|((with_reducible apply wl_yes);exact rfl;exact rfl;exact rfl)|((with_reducible apply wl_no);exact rfl;exact rfl;exact rfl;exact rfl)|((with_reducible apply wl_noU);exact rfl;exact rfl;exact rfl)
  by_cases h : i < t.l.length
  · refine wc_yes rfl (by simpa using h) ?_
    have hl2 := hl.below (hw2.mono hB) (Nat.le_refl _)
    obtain ⟨b, off, c, cs, hv, hbB, hcs, hlen, hr⟩ := hl2.get (sz := 5) (i := i) (by intro d hd; obtain ⟨x, _, rfl⟩ := List.mem_map.1 hd; exact treeD_width x) (by simpa using h)
    simp only [Value.slice.injEq, List.length_map] at hv
    obtain ⟨rfl, _, rfl⟩ := hv
    simp only [List.getElem_map] at hr
    repeat first|(with_reducible first|apply wc_seq|apply wc_region|apply wl_nil|apply qk_thn|apply wc_block|apply wc_skip|apply wc_ret|apply wc_exit|apply qk_thn_ret|apply qk_in_ret|apply qk_in|apply qk_thn_exit|apply qk_in_exit|apply qk_round_ret|apply qk_round_exit)|((with_reducible apply ws);exact rfl;exact rfl)|((with_reducible apply wl_yes);exact rfl;exact rfl;exact rfl)|((with_reducible apply wl_no);exact rfl;exact rfl;exact rfl;exact rfl)|((with_reducible apply wl_noU);exact rfl;exact rfl;exact rfl)
    refine wl_loadB rfl Impl.to_trees rfl hb rfl ?_
    repeat first|(with_reducible first|apply wc_seq|apply wc_region|apply wl_nil|apply qk_thn|apply wc_block|apply wc_skip|apply wc_ret|apply wc_exit|apply qk_thn_ret|apply qk_in_ret|apply qk_in|apply qk_thn_exit|apply qk_in_exit|apply qk_round_ret|apply qk_round_exit)|((with_reducible apply ws);exact rfl;exact rfl)|((with_reducible apply wl_yes);exact rfl;exact rfl;exact rfl)|((with_reducible apply wl_no);exact rfl;exact rfl;exact rfl;exact rfl)|((with_reducible apply wl_noU);exact rfl;exact rfl;exact rfl)
    refine wl_indexAddr rfl rfl Impl.es_trees rfl (by simpa using h) ?_
    refine wl_loadAgg rfl (by rw [hlen]; exact Impl.ta_tree) rfl (fun j v e => hcs.cell e) ?_
    obtain ⟨hone, hlen5⟩ := tree_one hr
    refine wl_storeBAgg rfl rfl rfl (by rw [hlen5]; exact Impl.tz_tree) hone hb2 (by rw [hlen5]; rfl) (fun w3 hb3 hg3 hs3 => ?_)
    repeat first|(with_reducible first|apply wc_seq|apply wc_region|apply wl_nil|apply qk_thn|apply wc_block|apply wc_skip|apply wc_ret|apply wc_exit|apply qk_thn_ret|apply qk_in_ret|apply qk_in|apply qk_thn_exit|apply qk_in_exit|apply qk_round_ret|apply qk_round_exit)|((with_reducible apply ws);exact rfl;exact rfl)|((with_reducible apply wl_yes);exact rfl;exact rfl;exact rfl)|((with_reducible apply wl_no);exact rfl;exact rfl;exact rfl;exact rfl)|((with_reducible apply wl_noU);exact rfl;exact rfl;exact rfl)
    have hw3 : Below w.heap.size w w3 := hw2.trans (below_of hg3 (by omega) (by intro k hk; simp at hk; omega))
    refine qk_retCell rfl rfl (by rw [hlen5]; exact Impl.ta_tree) hb3 ⟨_, rfl, hw3, cs, rfl, ?_⟩
    have : att t i = t.l[i] := by simp [att, h]
    rw [this]
    exact hr.below (below_of hg3 (by omega) (by intro k hk; simp at hk; omega)) (Nat.le_refl _)
  · refine wc_no rfl (by simpa using h) ?_
    repeat first|(with_reducible first|apply wc_seq|apply wc_region|apply wl_nil|apply qk_thn|apply wc_block|apply wc_skip|apply wc_ret|apply wc_exit|apply qk_thn_ret|apply qk_in_ret|apply qk_in|apply qk_thn_exit|apply qk_in_exit|apply qk_round_ret|apply qk_round_exit)|((with_reducible apply ws);exact rfl;exact rfl)|((with_reducible apply wl_yes);exact rfl;exact rfl;exact rfl)|((with_reducible apply wl_no);exact rfl;exact rfl;exact rfl;exact rfl)|((with_reducible apply wl_noU);exact rfl;exact rfl;exact rfl)
    refine wl_build rfl (cs := [.int .i64 0, .slice none 0 0, .bool false, .slice none 0 0, .slice none 0 0]) (by kernel_rfl) rfl ?_
    refine wl_storeBAgg rfl rfl rfl Impl.tz_tree rfl hb2 rfl (fun w3 hb3 hg3 hs3 => ?_)
    repeat first|(with_reducible first|apply wc_seq|apply wc_region|apply wl_nil|apply qk_thn|apply wc_block|apply wc_skip|apply wc_ret|apply wc_exit|apply qk_thn_ret|apply qk_in_ret|apply qk_in|apply qk_thn_exit|apply qk_in_exit|apply qk_round_ret|apply qk_round_exit)|((with_reducible apply ws);exact rfl;exact rfl)|((with_reducible apply wl_yes);exact rfl;exact rfl;exact rfl)|((with_reducible apply wl_no);exact rfl;exact rfl;exact rfl;exact rfl)|((with_reducible apply wl_noU);exact rfl;exact rfl;exact rfl)
    have hw3 : Below w.heap.size w w3 := hw2.trans (below_of hg3 (by omega) (by intro k hk; simp at hk; omega))
    refine qk_retCell (cs := [.int .i64 0, .slice none 0 0, .bool false, .slice none 0 0, .slice none 0 0]) rfl rfl Impl.ta_tree hb3 ⟨_, rfl, hw3, _, rfl, ?_⟩
    have : att t i = Tree.none := by simp [att, List.getD, List.getElem?_eq_none (by omega : t.l.length ≤ i)]
    rw [this]
    exact tree_none _ _
/-- Filled: the version as it was, the type as the tree says. -/
theorem fn_fill (t : Tree) (ver : Int) (bx B : Nat) (w : World) (ts : List Value) (hB : B ≤ w.heap.size) (hbx : B ≤ bx) (hb : Box w bx [.int .i16 ver, .int .i16 0] 51) (ht : Rep (Lo B) w (treeD t) ts) :
    Calls Try.prog 22 #[.pointer (some ⟨bx, 0, none⟩), .agg ts.toArray] w fun e w' => e = .returned (.tuple #[]) ∧ Below B w w' ∧ w.heap.size ≤ w'.heap.size ∧ Box w' bx [.int .i16 ver, .int .i16 (IntKind.i16.wrap (att t 0).n)] 51 := by
  obtain ⟨sv2, lv, uv, rfl, _, _, _⟩ := tree_cells ht
  refine enter Try.func22 rfl Try.ntmps22 rfl ?_
  repeat first|(with_reducible first|apply wc_seq|apply wc_region|apply wl_nil|apply qk_thn|apply wc_block|apply wc_skip|apply wc_ret|apply wc_exit|apply qk_thn_ret|apply qk_in_ret|apply qk_in|apply qk_thn_exit|apply qk_in_exit|apply qk_round_ret|apply qk_round_exit)|((with_reducible apply ws);exact rfl;exact rfl)|((with_reducible apply wl_yes);exact rfl;exact rfl;exact rfl)|((with_reducible apply wl_no);exact rfl;exact rfl;exact rfl;exact rfl)|((with_reducible apply wl_noU);exact rfl;exact rfl;exact rfl)
  refine wl_box1 rfl rfl rfl (fun w1 hb1 hg1 hs1 => ?_)
  have hbl := hb.lt
  have hw1 : Below w.heap.size w w1 := below_of hg1 (Nat.le_refl _) (by simp)
  repeat first|(with_reducible first|apply wc_seq|apply wc_region|apply wl_nil|apply qk_thn|apply wc_block|apply wc_skip|apply wc_ret|apply wc_exit|apply qk_thn_ret|apply qk_in_ret|apply qk_in|apply qk_thn_exit|apply qk_in_exit|apply qk_round_ret|apply qk_round_exit)|((with_reducible apply ws);exact rfl;exact rfl)|((with_reducible apply wl_yes);exact rfl;exact rfl;exact rfl)|((with_reducible apply wl_no);exact rfl;exact rfl;exact rfl;exact rfl)|((with_reducible apply wl_noU);exact rfl;exact rfl;exact rfl)
  refine wl_loadBAgg (cs := [.int .i64 t.n, sv2, .bool t.nul, lv, uv]) rfl Impl.ta_tree rfl hb1 ?_
  refine wl_call rfl (by kernel_rfl) rfl ((fn_at t 0 B w1 (by omega) _ (ht.below (hw1.mono hB) (Nat.le_refl _))).mono ?_)
  rintro e w2 ⟨v, rfl, hw2, cs, rfl, hr⟩
  refine ⟨_, rfl, ?_⟩
  obtain ⟨sv, lv3, uv3, rfl, _, _, _⟩ := tree_cells hr
  refine wl_field (cs := [.int .i64 (att t 0).n, sv, .bool (att t 0).nul, lv3, uv3]) rfl po_tree0 rfl rfl ?_
  refine wl_conv .i16 rfl ti_i64 ti_crk rfl rfl ?_
  repeat first|(with_reducible first|apply wc_seq|apply wc_region|apply wl_nil|apply qk_thn|apply wc_block|apply wc_skip|apply wc_ret|apply wc_exit|apply qk_thn_ret|apply qk_in_ret|apply qk_in|apply qk_thn_exit|apply qk_in_exit|apply qk_round_ret|apply qk_round_exit)|((with_reducible apply ws);exact rfl;exact rfl)|((with_reducible apply wl_yes);exact rfl;exact rfl;exact rfl)|((with_reducible apply wl_no);exact rfl;exact rfl;exact rfl;exact rfl)|((with_reducible apply wl_noU);exact rfl;exact rfl;exact rfl)
  have hb2 := (hb.kept hg1 (by simp)).below hw2 (by omega)
  refine wl_storeB rfl rfl to_crk rfl hb2 rfl (fun w3 hb3 hg3 hs3 => ?_)
  repeat first|(with_reducible first|apply wc_seq|apply wc_region|apply wl_nil|apply qk_thn|apply wc_block|apply wc_skip|apply wc_ret|apply wc_exit|apply qk_thn_ret|apply qk_in_ret|apply qk_in|apply qk_thn_exit|apply qk_in_exit|apply qk_round_ret|apply qk_round_exit)|((with_reducible apply ws);exact rfl;exact rfl)|((with_reducible apply wl_yes);exact rfl;exact rfl;exact rfl)|((with_reducible apply wl_no);exact rfl;exact rfl;exact rfl;exact rfl)|((with_reducible apply wl_noU);exact rfl;exact rfl;exact rfl)
  have hs2 := hw2.size
  exact qk_end0 rfl ⟨rfl, ((hw1.mono hB).trans (hw2.mono (by omega))).trans (below_of hg3 (by omega) (by intro q hq; simp at hq; omega)), by omega, hb3⟩
end
end Go.Proofs.Ytaoecdeljfdmeaa.Crk
