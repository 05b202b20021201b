/- FnBehindOffsetDeleteRequest: the row, and its card, its one listed variable tied to the program's text (the tie is given). Conditions: those of the row, no others. -/
import Derived.Test.YtgblofcjkgbojaaDoorPartE
import Derived.Test.YtgblofcjkgbojaaDoorPartA
import Derived.ProofKit
import Derived.OpenShut
import Derived.Test.YtgblofcjkgbojaaDoorPartB
import Derived.Test.YtgblofcjkgbojaaDoorPartD
import Derived.Test.YtgblofcjkgbojaaDoorRows
import Derived.Test.YtgblofcjkgbojaaDoorCards
import Derived.Test.YtgblofcjkgbojaaDoorTie
import Derived.ChangeSame
import Derived.ChangeVars
import Derived.JoinedOf
import Derived.RowKit
import Derived.RowKitTokens
import Derived.LaidLaws
import Derived.LaidHandle
import Derived.Stop.Joined
import Derived.SevenTiedAt
set_option linter.all false
/- What a OffsetDeleteRequest comes to: its table, a new one, how it is read and written; and the law: written behind octets it leaves these as they are, and follows them. -/
namespace Go.Proofs.YtgblofcjkgbojaaDoor.BOffsetDeleteRequest
open Go Go.RowKit

def sOffsetDeleteRequestTopicPartition : List Fld := [.mk 3 0 (-1) (-1) (-1) 0 0 []]
def sOffsetDeleteRequestTopic : List Fld := [.mk 8 0 (-1) (-1) (-1) 0 0 [], .mk 11 0 (-1) (-1) (-1) 0 10 sOffsetDeleteRequestTopicPartition]
def m : Msg := ⟨[.mk 8 0 (-1) (-1) (-1) 0 0 [], .mk 11 0 (-1) (-1) (-1) 0 10 sOffsetDeleteRequestTopic], (-1)⟩
theorem m_ok : fsok m.fields = true := by decide
def most : Nat := 0
def tbl : Tbl := ⟨[(31, 0, 0), (31, 1, 1), (59, 0, 0)], [22]⟩
theorem tbl_ok : tbl.ok Tryd.prog = true := by kernel_rfl
theorem ws {ops : Array Oper} {Q : Exit → Act → World → Prop} {N : Nat} {rest : List Oper} {L : Sl} {w : World} {d : Nat} {ty : TypeId} {pos : String} {aft : Array Edge} {o : Op} {v : Value}
    (hs : stepOp tbl L o = some v) (hd : Nat.blt d N = true) (h : WL rest Tryd.prog ops Q N ((d, v) :: L) w) : WL (⟨some d, o, ty, pos, aft, none⟩ :: rest) Tryd.prog ops Q N L w := wl_step tbl tbl_ok hs hd h
theorem zv_msg (w : World) : (zeroValue 31).run Tryd.prog w = .ok (.agg #[.slice none 0 0, .int .i64 0]) w := by kernel_rfl
theorem rt_flds : rowTy Tryd.prog 29 45 8 = true := by kernel_rfl
theorem to_i16 : tyOne Tryd.prog 40 = true := by kernel_rfl
section
set_option maxRecDepth 100000
set_option maxHeartbeats 4000000
theorem fn_tsOffsetDeleteRequestTopicPartition (w : World) : Fn 21 [] w fun v w' => Rep (Frs w.heap.size w'.heap.size) w' (.sq (sOffsetDeleteRequestTopicPartition.map fldD)) [v] := by
  refine enter Tryd.func21 rfl Tryd.ntmps21 rfl ?_
  repeat first|(with_reducible first|apply wc_seq|apply wc_region|apply wl_nil|apply qk_thn|apply wc_block|apply wc_skip|apply wc_ret|apply wc_exit|apply qk_thn_ret|apply qk_in_ret|apply qk_in|apply qk_thn_exit|apply qk_in_exit|apply qk_round_ret|apply qk_round_exit)|((with_reducible apply ws);exact rfl;exact rfl)|((with_reducible apply wl_yes);exact rfl;exact rfl;exact rfl)|((with_reducible apply wl_no);exact rfl;exact rfl;exact rfl;exact rfl)|((with_reducible apply wl_noU);exact rfl;exact rfl;exact rfl)
  have hW : Below w.heap.size w w := ⟨rfl, rfl, rfl, Nat.le_refl _, fun _ _ => rfl⟩
  refine wl_build rfl (cs := [.int .i64 3, .int .i64 0, .int .i64 (-1), .int .i64 (-1), .int .i64 (-1), .int .i64 0, .int .i64 0, .slice none 0 0]) (by kernel_rfl) rfl ?_
  refine wl_sliceN [[.int .i64 3, .int .i64 0, .int .i64 (-1), .int .i64 (-1), .int .i64 (-1), .int .i64 0, .int .i64 0, .slice none 0 0]] rt_flds rfl rfl (by simp) rfl rfl rfl (fun w2 hbS hgS hsS => ?_)
  have hs_2 := below_of hgS (Nat.le_refl _) (by simp)
  have hz := hW.size
  replace hW := hW.trans (hs_2.mono hW.size)
  have hfin : Rep (Frs w.heap.size w2.heap.size) w2 (.sq (sOffsetDeleteRequestTopicPartition.map fldD)) [.slice (some ⟨w.heap.size, 0, none⟩) 1 1] := by
    simp only [Rep]
    exact ⟨_, 1, rfl, Nat.le_refl _, .inr ⟨w.heap.size, 0, _, rfl, ⟨hz, hbS.lt⟩, hbS.cells, (reps_fcons (rep_fld0 _ _ (.mk 3 0 (-1) (-1) (-1) 0 0 []) rfl) reps_fnil)⟩⟩
  repeat first|(with_reducible first|apply wc_seq|apply wc_region|apply wl_nil|apply qk_thn|apply wc_block|apply wc_skip|apply wc_ret|apply wc_exit|apply qk_thn_ret|apply qk_in_ret|apply qk_in|apply qk_thn_exit|apply qk_in_exit|apply qk_round_ret|apply qk_round_exit)|((with_reducible apply ws);exact rfl;exact rfl)|((with_reducible apply wl_yes);exact rfl;exact rfl;exact rfl)|((with_reducible apply wl_no);exact rfl;exact rfl;exact rfl;exact rfl)|((with_reducible apply wl_noU);exact rfl;exact rfl;exact rfl)
  exact qk_ret1 rfl rfl ⟨_, rfl, hW, hfin⟩
theorem fn_tsOffsetDeleteRequestTopic (w : World) : Fn 14 [] w fun v w' => Rep (Frs w.heap.size w'.heap.size) w' (.sq (sOffsetDeleteRequestTopic.map fldD)) [v] := by
  refine enter Tryd.func14 rfl Tryd.ntmps14 rfl ?_
  repeat first|(with_reducible first|apply wc_seq|apply wc_region|apply wl_nil|apply qk_thn|apply wc_block|apply wc_skip|apply wc_ret|apply wc_exit|apply qk_thn_ret|apply qk_in_ret|apply qk_in|apply qk_thn_exit|apply qk_in_exit|apply qk_round_ret|apply qk_round_exit)|((with_reducible apply ws);exact rfl;exact rfl)|((with_reducible apply wl_yes);exact rfl;exact rfl;exact rfl)|((with_reducible apply wl_no);exact rfl;exact rfl;exact rfl;exact rfl)|((with_reducible apply wl_noU);exact rfl;exact rfl;exact rfl)
  have hW : Below w.heap.size w w := ⟨rfl, rfl, rfl, Nat.le_refl _, fun _ _ => rfl⟩
  refine wl_build rfl (cs := [.int .i64 8, .int .i64 0, .int .i64 (-1), .int .i64 (-1), .int .i64 (-1), .int .i64 0, .int .i64 0, .slice none 0 0]) (by kernel_rfl) rfl ?_
  refine wl_call rfl (by kernel_rfl) rfl ((fn_tsOffsetDeleteRequestTopicPartition w).mono ?_)
  rintro e w2 ⟨sv, rfl, hs_2, hsq1⟩
  obtain ⟨a1, c1, rfl⟩ := rep_sqshape hsq1
  refine ⟨_, rfl, ?_⟩
  replace hsq1 := rep_frw hsq1 hW.size
  replace hW := hW.trans (hs_2.mono hW.size)
  refine wl_build rfl (cs := [.int .i64 11, .int .i64 0, .int .i64 (-1), .int .i64 (-1), .int .i64 (-1), .int .i64 0, .int .i64 10, .slice a1 (sOffsetDeleteRequestTopicPartition.map fldD).length c1]) (by kernel_rfl) rfl ?_
  refine wl_sliceN [[.int .i64 8, .int .i64 0, .int .i64 (-1), .int .i64 (-1), .int .i64 (-1), .int .i64 0, .int .i64 0, .slice none 0 0], [.int .i64 11, .int .i64 0, .int .i64 (-1), .int .i64 (-1), .int .i64 (-1), .int .i64 0, .int .i64 10, .slice a1 (sOffsetDeleteRequestTopicPartition.map fldD).length c1]] rt_flds rfl rfl (by simp) rfl rfl rfl (fun w3 hbS hgS hsS => ?_)
  have hs_3 := below_of hgS (Nat.le_refl _) (by simp)
  have hz := hW.size
  replace hsq1 := rep_fr hsq1 hs_3 (Nat.le_refl _)
  replace hW := hW.trans (hs_3.mono hW.size)
  have hfin : Rep (Frs w.heap.size w3.heap.size) w3 (.sq (sOffsetDeleteRequestTopic.map fldD)) [.slice (some ⟨w2.heap.size, 0, none⟩) 2 2] := by
    simp only [Rep]
    exact ⟨_, 2, rfl, Nat.le_refl _, .inr ⟨w2.heap.size, 0, _, rfl, ⟨hz, hbS.lt⟩, hbS.cells, (reps_fcons (rep_fld0 _ _ (.mk 8 0 (-1) (-1) (-1) 0 0 []) rfl) (reps_fcons (rep_fldS hsq1) reps_fnil))⟩⟩
  repeat first|(with_reducible first|apply wc_seq|apply wc_region|apply wl_nil|apply qk_thn|apply wc_block|apply wc_skip|apply wc_ret|apply wc_exit|apply qk_thn_ret|apply qk_in_ret|apply qk_in|apply qk_thn_exit|apply qk_in_exit|apply qk_round_ret|apply qk_round_exit)|((with_reducible apply ws);exact rfl;exact rfl)|((with_reducible apply wl_yes);exact rfl;exact rfl;exact rfl)|((with_reducible apply wl_no);exact rfl;exact rfl;exact rfl;exact rfl)|((with_reducible apply wl_noU);exact rfl;exact rfl;exact rfl)
  exact qk_ret1 rfl rfl ⟨_, rfl, hW, hfin⟩
theorem fn_table (w : World) : Fn 6 [] w fun v w' => ∃ fv, v = .agg #[fv, .int .i64 m.flex] ∧ Sq w'.heap.size w' fv (m.fields.map fldD) := by
  refine enter Tryd.func6 rfl Tryd.ntmps6 rfl ?_
  repeat first|(with_reducible first|apply wc_seq|apply wc_region|apply wl_nil|apply qk_thn|apply wc_block|apply wc_skip|apply wc_ret|apply wc_exit|apply qk_thn_ret|apply qk_in_ret|apply qk_in|apply qk_thn_exit|apply qk_in_exit|apply qk_round_ret|apply qk_round_exit)|((with_reducible apply ws);exact rfl;exact rfl)|((with_reducible apply wl_yes);exact rfl;exact rfl;exact rfl)|((with_reducible apply wl_no);exact rfl;exact rfl;exact rfl;exact rfl)|((with_reducible apply wl_noU);exact rfl;exact rfl;exact rfl)
  refine wl_alloc zv_msg rfl rfl (fun w1 hb1 hg1 hs1 => ?_)
  have hs_1 := below_of hg1 (Nat.le_refl _) (by simp)
  repeat first|(with_reducible first|apply wc_seq|apply wc_region|apply wl_nil|apply qk_thn|apply wc_block|apply wc_skip|apply wc_ret|apply wc_exit|apply qk_thn_ret|apply qk_in_ret|apply qk_in|apply qk_thn_exit|apply qk_in_exit|apply qk_round_ret|apply qk_round_exit)|((with_reducible apply ws);exact rfl;exact rfl)|((with_reducible apply wl_yes);exact rfl;exact rfl;exact rfl)|((with_reducible apply wl_no);exact rfl;exact rfl;exact rfl;exact rfl)|((with_reducible apply wl_noU);exact rfl;exact rfl;exact rfl)
  have hW : Below w1.heap.size w1 w1 := ⟨rfl, rfl, rfl, Nat.le_refl _, fun _ _ => rfl⟩
  refine wl_build rfl (cs := [.int .i64 8, .int .i64 0, .int .i64 (-1), .int .i64 (-1), .int .i64 (-1), .int .i64 0, .int .i64 0, .slice none 0 0]) (by kernel_rfl) rfl ?_
  refine wl_call rfl (by kernel_rfl) rfl ((fn_tsOffsetDeleteRequestTopic w1).mono ?_)
  rintro e w2 ⟨sv, rfl, hs_2, hsq1⟩
  obtain ⟨a1, c1, rfl⟩ := rep_sqshape hsq1
  refine ⟨_, rfl, ?_⟩
  replace hsq1 := rep_frw hsq1 hW.size
  replace hW := hW.trans (hs_2.mono hW.size)
  replace hb1 := hb1.below hs_2 hb1.lt
  refine wl_build rfl (cs := [.int .i64 11, .int .i64 0, .int .i64 (-1), .int .i64 (-1), .int .i64 (-1), .int .i64 0, .int .i64 10, .slice a1 (sOffsetDeleteRequestTopic.map fldD).length c1]) (by kernel_rfl) rfl ?_
  refine wl_sliceN [[.int .i64 8, .int .i64 0, .int .i64 (-1), .int .i64 (-1), .int .i64 (-1), .int .i64 0, .int .i64 0, .slice none 0 0], [.int .i64 11, .int .i64 0, .int .i64 (-1), .int .i64 (-1), .int .i64 (-1), .int .i64 0, .int .i64 10, .slice a1 (sOffsetDeleteRequestTopic.map fldD).length c1]] rt_flds rfl rfl (by simp) rfl rfl rfl (fun w3 hbS hgS hsS => ?_)
  have hs_3 := below_of hgS (Nat.le_refl _) (by simp)
  have hz := hW.size
  replace hsq1 := rep_fr hsq1 hs_3 (Nat.le_refl _)
  replace hW := hW.trans (hs_3.mono hW.size)
  replace hb1 := hb1.below hs_3 hb1.lt
  have hfin : Rep (Frs w1.heap.size w3.heap.size) w3 (.sq (m.fields.map fldD)) [.slice (some ⟨w2.heap.size, 0, none⟩) 2 2] := by
    simp only [Rep]
    exact ⟨_, 2, rfl, Nat.le_refl _, .inr ⟨w2.heap.size, 0, _, rfl, ⟨hz, hbS.lt⟩, hbS.cells, (reps_fcons (rep_fld0 _ _ (.mk 8 0 (-1) (-1) (-1) 0 0 []) rfl) (reps_fcons (rep_fldS hsq1) reps_fnil))⟩⟩
  refine wl_build rfl (cs := [.slice (some ⟨w2.heap.size, 0, none⟩) 2 2, .int .i64 (-1)]) (by kernel_rfl) rfl ?_
  refine wl_storeBAgg (vs := [.slice (some ⟨w2.heap.size, 0, none⟩) 2 2, .int .i64 (-1)]) rfl rfl rfl tz_msg rfl hb1 rfl (fun wz hbz hgz hsz => ?_)
  repeat first|(with_reducible first|apply wc_seq|apply wc_region|apply wl_nil|apply qk_thn|apply wc_block|apply wc_skip|apply wc_ret|apply wc_exit|apply qk_thn_ret|apply qk_in_ret|apply qk_in|apply qk_thn_exit|apply qk_in_exit|apply qk_round_ret|apply qk_round_exit)|((with_reducible apply ws);exact rfl;exact rfl)|((with_reducible apply wl_yes);exact rfl;exact rfl;exact rfl)|((with_reducible apply wl_no);exact rfl;exact rfl;exact rfl;exact rfl)|((with_reducible apply wl_noU);exact rfl;exact rfl;exact rfl)
  have hW0 := hs_1.trans (hW.mono hs_1.size)
  refine qk_retCell (cs := [.slice (some ⟨w2.heap.size, 0, none⟩) 2 2, .int .i64 (-1)]) rfl rfl ta_msg hbz ⟨_, rfl, hW0.trans (below_of hgz hW0.size (by intro q hq; simp at hq; omega)), _, rfl, ?_⟩
  exact Rep.mono (fun b hb => ⟨by have := hb.2; simp only [Lo]; omega, hgz.block b hb.2 (by have := hb.1; simp; omega)⟩) _ _ hfin
/-- Its cells, at nought; by default; at a version. -/
noncomputable def z0 : List Value := match Tryd.prog.info? 59 with | some i => (match i.zero with | some z => z.cells.toList | none => []) | none => []
noncomputable def d0 : List Value := match (defF Tryd.prog 20).bind fun l => setAll l z0 with | some cs => cs | none => []
noncomputable def cs0 (ver : Int) : List Value := .int .i16 ver :: d0.drop 1
theorem d0_eq : (defF Tryd.prog 20).bind (fun l => setAll l z0) = some d0 := by kernel_rfl
theorem d0_hd : d0 = .int .i16 0 :: d0.drop 1 := by kernel_rfl
theorem zv (w : World) : (zeroValue 59).run Tryd.prog w = .ok (.agg z0.toArray) w := by kernel_rfl
theorem fn_new (w : World) : Calls Tryd.prog 12 #[] w fun e w' => e = .returned (.pointer (some ⟨w.heap.size, 0, none⟩)) ∧ Box w' w.heap.size d0 59 ∧ Below w.heap.size w w' := by
  obtain ⟨l, hl, hset⟩ := Option.bind_eq_some_iff.1 d0_eq
  refine enter (vs := []) Tryd.func12 rfl Tryd.ntmps12 rfl ?_
  repeat first|(with_reducible first|apply wc_seq|apply wc_region|apply wl_nil|apply qk_thn|apply wc_block|apply wc_skip|apply wc_ret|apply wc_exit|apply qk_thn_ret|apply qk_in_ret|apply qk_in|apply qk_thn_exit|apply qk_in_exit|apply qk_round_ret|apply qk_round_exit)|((with_reducible apply ws);exact rfl;exact rfl)|((with_reducible apply wl_yes);exact rfl;exact rfl;exact rfl)|((with_reducible apply wl_no);exact rfl;exact rfl;exact rfl;exact rfl)|((with_reducible apply wl_noU);exact rfl;exact rfl;exact rfl)
  refine wl_alloc zv rfl rfl (fun w1 hb1 hg1 hs1 => ?_)
  repeat first|(with_reducible first|apply wc_seq|apply wc_region|apply wl_nil|apply qk_thn|apply wc_block|apply wc_skip|apply wc_ret|apply wc_exit|apply qk_thn_ret|apply qk_in_ret|apply qk_in|apply qk_thn_exit|apply qk_in_exit|apply qk_round_ret|apply qk_round_exit)|((with_reducible apply ws);exact rfl;exact rfl)|((with_reducible apply wl_yes);exact rfl;exact rfl;exact rfl)|((with_reducible apply wl_no);exact rfl;exact rfl;exact rfl;exact rfl)|((with_reducible apply wl_noU);exact rfl;exact rfl;exact rfl)
  have hdef := defF_ok (w := w1) hl (b := w.heap.size) (pre := []) (cs := z0) (post := []) (cs' := d0) (e := 59) (by simpa using hb1) hset
  refine wl_call rfl hdef.1 rfl (hdef.2.mono ?_)
  rintro e w2 ⟨rfl, hb2, hc2⟩
  refine ⟨_, rfl, ?_⟩
  repeat first|(with_reducible first|apply wc_seq|apply wc_region|apply wl_nil|apply qk_thn|apply wc_block|apply wc_skip|apply wc_ret|apply wc_exit|apply qk_thn_ret|apply qk_in_ret|apply qk_in|apply qk_thn_exit|apply qk_in_exit|apply qk_round_ret|apply qk_round_exit)|((with_reducible apply ws);exact rfl;exact rfl)|((with_reducible apply wl_yes);exact rfl;exact rfl;exact rfl)|((with_reducible apply wl_no);exact rfl;exact rfl;exact rfl;exact rfl)|((with_reducible apply wl_noU);exact rfl;exact rfl;exact rfl)
  exact qk_ret1 rfl rfl ⟨rfl, by simpa using hb2, (below_of hg1 (Nat.le_refl _) (by simp)).trans (chg_below hc2 (fun j hj h => by have : j = w.heap.size := h; omega) (by omega))⟩
theorem fn_max (w : World) : Calls Tryd.prog 5 #[] w fun e w' => e = .returned (.int .i64 (most : Int)) ∧ Below w.heap.size w w' := by
  refine enter (vs := []) Tryd.func5 rfl Tryd.ntmps5 rfl ?_
  repeat first|(with_reducible first|apply wc_seq|apply wc_region|apply wl_nil|apply qk_thn|apply wc_block|apply wc_skip|apply wc_ret|apply wc_exit|apply qk_thn_ret|apply qk_in_ret|apply qk_in|apply qk_thn_exit|apply qk_in_exit|apply qk_round_ret|apply qk_round_exit)|((with_reducible apply ws);exact rfl;exact rfl)|((with_reducible apply wl_yes);exact rfl;exact rfl;exact rfl)|((with_reducible apply wl_no);exact rfl;exact rfl;exact rfl;exact rfl)|((with_reducible apply wl_noU);exact rfl;exact rfl;exact rfl)
  refine wl_call rfl (by kernel_rfl) rfl ((fn_new w).mono ?_)
  rintro e w1 ⟨rfl, hb1, hw1⟩
  refine ⟨_, rfl, ?_⟩
  repeat first|(with_reducible first|apply wc_seq|apply wc_region|apply wl_nil|apply qk_thn|apply wc_block|apply wc_skip|apply wc_ret|apply wc_exit|apply qk_thn_ret|apply qk_in_ret|apply qk_in|apply qk_thn_exit|apply qk_in_exit|apply qk_round_ret|apply qk_round_exit)|((with_reducible apply ws);exact rfl;exact rfl)|((with_reducible apply wl_yes);exact rfl;exact rfl;exact rfl)|((with_reducible apply wl_no);exact rfl;exact rfl;exact rfl;exact rfl)|((with_reducible apply wl_noU);exact rfl;exact rfl;exact rfl)
  have hmax : Calls Tryd.prog 13 #[.pointer (some ⟨w.heap.size, 0, none⟩)] w1 fun e w' => e = .returned (.int .i16 (most : Int)) ∧ w' = w1 := by
    refine enter (vs := [.pointer (some ⟨w.heap.size, 0, none⟩)]) Tryd.func13 rfl Tryd.ntmps13 rfl ?_
    repeat first|(with_reducible first|apply wc_seq|apply wc_region|apply wl_nil|apply qk_thn|apply wc_block|apply wc_skip|apply wc_ret|apply wc_exit|apply qk_thn_ret|apply qk_in_ret|apply qk_in|apply qk_thn_exit|apply qk_in_exit|apply qk_round_ret|apply qk_round_exit)|((with_reducible apply ws);exact rfl;exact rfl)|((with_reducible apply wl_yes);exact rfl;exact rfl;exact rfl)|((with_reducible apply wl_no);exact rfl;exact rfl;exact rfl;exact rfl)|((with_reducible apply wl_noU);exact rfl;exact rfl;exact rfl)
    exact qk_ret1 rfl rfl ⟨rfl, rfl⟩
  refine wl_call rfl (by kernel_rfl) rfl ((hmax).mono ?_)
  rintro e w2 ⟨rfl, rfl⟩
  refine ⟨_, rfl, ?_⟩
  refine wl_conv .i64 rfl ti_i16 ti_i64 rfl (r := (most : Int)) rfl ?_
  repeat first|(with_reducible first|apply wc_seq|apply wc_region|apply wl_nil|apply qk_thn|apply wc_block|apply wc_skip|apply wc_ret|apply wc_exit|apply qk_thn_ret|apply qk_in_ret|apply qk_in|apply qk_thn_exit|apply qk_in_exit|apply qk_round_ret|apply qk_round_exit)|((with_reducible apply ws);exact rfl;exact rfl)|((with_reducible apply wl_yes);exact rfl;exact rfl;exact rfl)|((with_reducible apply wl_no);exact rfl;exact rfl;exact rfl;exact rfl)|((with_reducible apply wl_noU);exact rfl;exact rfl;exact rfl)
  exact qk_ret1 rfl rfl ⟨rfl, hw1⟩
theorem fn_set (w : World) (b : Nat) (x : Value) (r : List Value) (ver : Int) (hb : Box w b (x :: r) 59) : Calls Tryd.prog 16 #[.pointer (some ⟨b, 0, none⟩), .int .i16 ver] w fun e w' => e = .returned (.tuple #[]) ∧ Box w' b (.int .i16 ver :: r) 59 ∧ w.grownBy w' (some b) := by
  refine enter (vs := [.pointer (some ⟨b, 0, none⟩), .int .i16 ver]) Tryd.func16 rfl Tryd.ntmps16 rfl ?_
  repeat first|(with_reducible first|apply wc_seq|apply wc_region|apply wl_nil|apply qk_thn|apply wc_block|apply wc_skip|apply wc_ret|apply wc_exit|apply qk_thn_ret|apply qk_in_ret|apply qk_in|apply qk_thn_exit|apply qk_in_exit|apply qk_round_ret|apply qk_round_exit)|((with_reducible apply ws);exact rfl;exact rfl)|((with_reducible apply wl_yes);exact rfl;exact rfl;exact rfl)|((with_reducible apply wl_no);exact rfl;exact rfl;exact rfl;exact rfl)|((with_reducible apply wl_noU);exact rfl;exact rfl;exact rfl)
  refine wl_storeB (i := 0) rfl rfl to_i16 rfl hb rfl (fun w1 hb1 hg1 _ => ?_)
  exact wl_nil (qk_end0 rfl ⟨rfl, hb1, hg1⟩)
theorem rd_all : (List.range (most + 1)).all (fun v => readOk Tryd.prog Rdk.kr 30 (v : Int) false (m.flexible (v : Int)) m.fields (cs0 (v : Int)) && tabFs (v : Int) m.fields) = true := by kernel_rfl
theorem rd (v : Nat) (h : v ≤ most) : readOk Tryd.prog Rdk.kr 30 (v : Int) false (m.flexible (v : Int)) m.fields (cs0 (v : Int)) = true ∧ tabFs (v : Int) m.fields = true := by
  have := List.all_eq_true.1 rd_all v (List.mem_range.2 (by omega))
  simpa only [Bool.and_eq_true] using this
theorem ap : ∀ v : Nat, v ≤ most → appRun Tryd.prog (kt 999999 999999 (v : Int)) 5 18 (.int .i16 :: shP false m.fields) = some (some .dst, exP (v : Int) false (m.flexible (v : Int)) 1 0 1 m.fields, true)
  | 0, _ => by kernel_rfl
  | n + 1, h => absurd h (by simp only [most]; omega)
theorem tg_ok (v : Int) : m.flexible v = true → false = true := (fun h => by simp [Msg.flexible, m] at h)
/-- It is read. -/
theorem fn_read (v : Nat) (hv : v ≤ most) (t : Tree) (ht : t.ok) (w : World) (ev sv : Value) (b sb : Nat) (hb : Box w b (cs0 (v : Int)) 59) (hs : SrcAt w sb sv (wPart (v : Int) (m.flexible (v : Int)) m.fields t)) (hsb : sb < w.heap.size) (hne : b ≠ sb)
    (hg : w.cell? ⟨0, 0, none⟩ = some ev) (hgb : 0 ≠ b) (hgl : 0 < w.heap.size) :
    Calls Tryd.prog 17 #[.pointer (some ⟨b, 0, none⟩), sv] w fun en w' => en = .returned .nilIface ∧ ∃ cs' lo new, w.heap.size ≤ lo ∧ Box w' b cs' 59 ∧ Reps (Dk sb lo w') w' (.lit (.int .i16 (v : Int)) :: new) cs' ∧ HoldP (v : Int) false (m.flexible (v : Int)) m.fields ((fitP (v : Int) m.fields t).withNull false) new ∧ Chg (fun j => j = b ∨ w.heap.size ≤ j) w w' := by
  obtain ⟨hread, htab⟩ := rd v hv
  obtain ⟨hfit, hwire⟩ := fitt_ok htab ht (m.flexible (v : Int))
  have hr := read_ok (Rdk.kr_ok ev) Rdk.kr_ty (tg_ok (v : Int)) hread hfit hb (by rw [hwire]; exact hs) hsb hne hg hgb hgl
  refine enter (vs := [.pointer (some ⟨b, 0, none⟩), sv]) Tryd.func17 rfl Tryd.ntmps17 rfl ?_
  repeat first|(with_reducible first|apply wc_seq|apply wc_region|apply wl_nil|apply qk_thn|apply wc_block|apply wc_skip|apply wc_ret|apply wc_exit|apply qk_thn_ret|apply qk_in_ret|apply qk_in|apply qk_thn_exit|apply qk_in_exit|apply qk_round_ret|apply qk_round_exit)|((with_reducible apply ws);exact rfl;exact rfl)|((with_reducible apply wl_yes);exact rfl;exact rfl;exact rfl)|((with_reducible apply wl_no);exact rfl;exact rfl;exact rfl;exact rfl)|((with_reducible apply wl_noU);exact rfl;exact rfl;exact rfl)
  refine wl_call rfl hr.1 rfl (hr.2.mono ?_)
  rintro en w1 ⟨rfl, h⟩
  refine ⟨_, rfl, ?_⟩
  repeat first|(with_reducible first|apply wc_seq|apply wc_region|apply wl_nil|apply qk_thn|apply wc_block|apply wc_skip|apply wc_ret|apply wc_exit|apply qk_thn_ret|apply qk_in_ret|apply qk_in|apply qk_thn_exit|apply qk_in_exit|apply qk_round_ret|apply qk_round_exit)|((with_reducible apply ws);exact rfl;exact rfl)|((with_reducible apply wl_yes);exact rfl;exact rfl;exact rfl)|((with_reducible apply wl_no);exact rfl;exact rfl;exact rfl;exact rfl)|((with_reducible apply wl_noU);exact rfl;exact rfl;exact rfl)
  exact qk_ret1 rfl rfl ⟨rfl, h⟩
/-- What was read is appended. -/
theorem fn_app (v : Nat) (hv : v ≤ most) (t : Tree) (ht : t.ok) (w : World) (b B : Nat) (cs : List Value) (new : List D) (d : Value) (xs : List UInt8) (e : TypeId) (hb : Box w b cs e) (hbB : b < B) (hr : Reps (Lo B) w (.lit (.int .i16 (v : Int)) :: new) cs) (hh : HoldP (v : Int) false (m.flexible (v : Int)) m.fields ((fitP (v : Int) m.fields t).withNull false) new)
    (ho : Own w B 5 d xs) (hB : B ≤ w.heap.size) (hl : xs.length + (wPart (v : Int) (m.flexible (v : Int)) m.fields t).length ≤ lim) :
    isFn Tryd.prog 18 = true ∧ Calls Tryd.prog 18 #[.pointer (some ⟨b, 0, none⟩), d] w fun en w' => ∃ d', en = .returned d' ∧ Own w' B 5 d' (xs ++ wPart (v : Int) (m.flexible (v : Int)) m.fields t) ∧ Grew w w' d d' := by
  obtain ⟨_, htab⟩ := rd v hv
  obtain ⟨hfit, hwire⟩ := fitt_ok htab ht (m.flexible (v : Int))
  have hsem := exP_ok (tg_ok (v : Int)) (m := 1) (k := 0) (off := 1) (E := [.lit (.int .i16 (v : Int)) :: new]) (pre := [.lit (.int .i16 (v : Int))]) (post := []) hh (by simp) (by intro d hd; simp at hd; subst hd; simp [D.width]) rfl rfl hfit
  rw [hwire] at hsem
  have hw : IntKind.i16.wrap (v : Int) = (v : Int) := be2_ver v (by simp only [most] at hv; omega)
  refine app_ok (fun _ _ _ _ _ _ h => Bool.noConfusion (h.symm.trans (show isFn Tryd.prog 999999 = false by kernel_rfl))) (fnsOk _ _ _) (fun h => Bool.noConfusion (h.symm.trans (show isFn Tryd.prog 999999 = false by kernel_rfl))) (ap v hv) (ds := .lit (.int .i16 (v : Int)) :: new) (cs := cs) ⟨hb.cells, hbB, hr⟩ ?_ (lits_head hr) ho hB hsem hl
  simp only [shDs, shD, hw, if_true, hh.sh.1]
  rfl
set_option maxHeartbeats 4000000 in
theorem fn_door (v : Nat) (hv : v ≤ most) (t : Tree) (ht : t.ok) (w : World) (ev dv sv : Value) (xs : List UInt8) (hd : BytesAt w dv xs) (hs : BytesAt w sv (wPart (v : Int) (m.flexible (v : Int)) m.fields t)) (hg : w.cell? ⟨0, 0, none⟩ = some ev)
    (hl : xs.length + (wPart (v : Int) (m.flexible (v : Int)) m.fields t).length ≤ lim) :
    Calls Tryd.prog 9 #[.int .i64 (v : Int), dv, sv] w fun e w' => ∃ d', e = .returned (.tuple #[d', .bool true]) ∧ Own w' w.heap.size 5 d' (xs ++ wPart (v : Int) (m.flexible (v : Int)) m.fields t) ∧ Below w.heap.size w w' := by
  have hvm : v < 32768 := by simp only [most] at hv; omega
  obtain ⟨da, dc, hdv⟩ := hd.shape
  obtain ⟨sa, sc, hsv⟩ := hs.shape
  refine enter (vs := [.int .i64 (v : Int), dv, sv]) Tryd.func9 rfl Tryd.ntmps9 rfl ?_
  repeat first|(with_reducible first|apply wc_seq|apply wc_region|apply wl_nil|apply qk_thn|apply wc_block|apply wc_skip|apply wc_ret|apply wc_exit|apply qk_thn_ret|apply qk_in_ret|apply qk_in|apply qk_thn_exit|apply qk_in_exit|apply qk_round_ret|apply qk_round_exit)|((with_reducible apply ws);exact rfl;exact rfl)|((with_reducible apply wl_yes);exact rfl;exact rfl;exact rfl)|((with_reducible apply wl_no);exact rfl;exact rfl;exact rfl;exact rfl)|((with_reducible apply wl_noU);exact rfl;exact rfl;exact rfl)
  refine wl_call rfl (by kernel_rfl) rfl ((fn_new w).mono ?_)
  rintro e w1 ⟨rfl, hb1, hw1⟩
  refine ⟨_, rfl, ?_⟩
  repeat first|(with_reducible first|apply wc_seq|apply wc_region|apply wl_nil|apply qk_thn|apply wc_block|apply wc_skip|apply wc_ret|apply wc_exit|apply qk_thn_ret|apply qk_in_ret|apply qk_in|apply qk_thn_exit|apply qk_in_exit|apply qk_round_ret|apply qk_round_exit)|((with_reducible apply ws);exact rfl;exact rfl)|((with_reducible apply wl_yes);exact rfl;exact rfl;exact rfl)|((with_reducible apply wl_no);exact rfl;exact rfl;exact rfl;exact rfl)|((with_reducible apply wl_noU);exact rfl;exact rfl;exact rfl)
  refine wl_conv .i16 rfl ti_i64 ti_i16 rfl (r := (v : Int)) (be2_ver v hvm) ?_
  rw [d0_hd] at hb1
  refine wl_call rfl (by kernel_rfl) rfl ((fn_set w1 w.heap.size _ _ (v : Int) hb1).mono ?_)
  rintro e w2 ⟨rfl, hb2, hg2⟩
  refine ⟨_, rfl, ?_⟩
  have hlt := hb1.lt
  have hw2 := hw1.trans (below_of hg2 (by omega) (by intro q hq; simp at hq; omega))
  have hs2 := hs.below hw2
  have hz2 := hg2.size
  repeat first|(with_reducible first|apply wc_seq|apply wc_region|apply wl_nil|apply qk_thn|apply wc_block|apply wc_skip|apply wc_ret|apply wc_exit|apply qk_thn_ret|apply qk_in_ret|apply qk_in|apply qk_thn_exit|apply qk_in_exit|apply qk_round_ret|apply qk_round_exit)|((with_reducible apply ws);exact rfl;exact rfl)|((with_reducible apply wl_yes);exact rfl;exact rfl;exact rfl)|((with_reducible apply wl_no);exact rfl;exact rfl;exact rfl;exact rfl)|((with_reducible apply wl_noU);exact rfl;exact rfl;exact rfl)
  refine wl_appSl tb_bytes tb_bytes rfl rfl rfl hs2 (Own.nil w2 w2.heap.size 5) (Nat.le_refl _) (by simp only [List.length_nil]; omega) (fun d3 w3 ho3 hg3 => ?_)
  have hw23 : Below w2.heap.size w2 w3 := hg3.below (Nat.le_refl _) (by simp [Value.ownBlock])
  have hw3 := hw2.trans (hw23.mono (by omega))
  have hb3 := hb2.below hw23 (by omega)
  have hz3 := hw23.size
  have hgl : 0 < w.heap.size := World.block_lt_of_cell? _ _ hg
  have hg3' : w3.cell? ⟨0, 0, none⟩ = some ev := by rw [← hg]; simp only [World.cell?, hw3.block _ hgl]
  rw [List.nil_append] at ho3
  obtain ⟨sb, hsb, hsbx, hsrc⟩ := own_src ho3 (by simp only [srcLim]; simp only [lim] at hl; omega) (x0 := 0) (by omega)
  refine wl_call rfl (by kernel_rfl) rfl ((fn_read v hv t ht w3 ev d3 w.heap.size sb hb3 hsrc hsb (by omega) hg3' (by omega) (by omega)).mono ?_)
  rintro e w4 ⟨rfl, cs4, lo4, new4, hlo4, hb4, hr4, hh4, hc4⟩
  refine ⟨_, rfl, ?_⟩
  have hw34 : Below w.heap.size w3 w4 := chg_below hc4 (fun j hj h => by rcases h with h | h <;> omega) (by omega)
  have hw4 := hw3.trans hw34
  have hz4 := hw34.size
  refine wl_ifNeNil rfl (by kernel_rfl) rfl ?_
  repeat first|(with_reducible first|apply wc_seq|apply wc_region|apply wl_nil|apply qk_thn|apply wc_block|apply wc_skip|apply wc_ret|apply wc_exit|apply qk_thn_ret|apply qk_in_ret|apply qk_in|apply qk_thn_exit|apply qk_in_exit|apply qk_round_ret|apply qk_round_exit)|((with_reducible apply ws);exact rfl;exact rfl)|((with_reducible apply wl_yes);exact rfl;exact rfl;exact rfl)|((with_reducible apply wl_no);exact rfl;exact rfl;exact rfl;exact rfl)|((with_reducible apply wl_noU);exact rfl;exact rfl;exact rfl)
  refine wc_no rfl rfl ?_
  repeat first|(with_reducible first|apply wc_seq|apply wc_region|apply wl_nil|apply qk_thn|apply wc_block|apply wc_skip|apply wc_ret|apply wc_exit|apply qk_thn_ret|apply qk_in_ret|apply qk_in|apply qk_thn_exit|apply qk_in_exit|apply qk_round_ret|apply qk_round_exit)|((with_reducible apply ws);exact rfl;exact rfl)|((with_reducible apply wl_yes);exact rfl;exact rfl;exact rfl)|((with_reducible apply wl_no);exact rfl;exact rfl;exact rfl;exact rfl)|((with_reducible apply wl_noU);exact rfl;exact rfl;exact rfl)
  refine wl_appSl tb_bytes tb_bytes rfl rfl rfl (hd.below hw4) (Own.nil w4 w4.heap.size 5) (Nat.le_refl _) (by simp only [List.length_nil]; omega) (fun d5 w5 ho5 hg5 => ?_)
  have hw45 : Below w4.heap.size w4 w5 := hg5.below (Nat.le_refl _) (by simp [Value.ownBlock])
  have hz5 := hw45.size
  rw [List.nil_append] at ho5
  have hr5 : Reps (Lo w4.heap.size) w5 (.lit (.int .i16 (v : Int)) :: new4) cs4 := Reps.mono (fun j hj => ⟨hj.2, hw45.block j hj.2⟩) _ _ hr4
  have hcall := fn_app v hv t ht w5 w.heap.size w4.heap.size cs4 new4 d5 xs _ (hb4.below hw45 hb4.lt) hb4.lt hr5 hh4 ho5 hz5 hl
  refine wl_call rfl hcall.1 rfl (hcall.2.mono ?_)
  rintro e w6 ⟨d6, rfl, ho6, hg6⟩
  refine ⟨_, rfl, ?_⟩
  have hw56 : Below w4.heap.size w5 w6 := hg6.below hz5 ho5.ge
  repeat first|(with_reducible first|apply wc_seq|apply wc_region|apply wl_nil|apply qk_thn|apply wc_block|apply wc_skip|apply wc_ret|apply wc_exit|apply qk_thn_ret|apply qk_in_ret|apply qk_in|apply qk_thn_exit|apply qk_in_exit|apply qk_round_ret|apply qk_round_exit)|((with_reducible apply ws);exact rfl;exact rfl)|((with_reducible apply wl_yes);exact rfl;exact rfl;exact rfl)|((with_reducible apply wl_no);exact rfl;exact rfl;exact rfl;exact rfl)|((with_reducible apply wl_noU);exact rfl;exact rfl;exact rfl)
  exact qk_ret2 rfl rfl rfl ⟨d6, rfl, ho6.mono (by omega), (hw4.trans (hw45.mono (by omega))).trans (hw56.mono (by omega))⟩
end
end Go.Proofs.YtgblofcjkgbojaaDoor.BOffsetDeleteRequest

/- FnBehindOffsetDeleteRequest: whatever stands in the arguments, the statement's function returns true and leaves them as they were. Conditions: those of the row (the card ties its one listed variable to the program's text), no others. -/
namespace Go.Proofs.YtgblofcjkgbojaaDoor.BOffsetDeleteRequest
open Go Go.RowKit
section
set_option maxRecDepth 100000
theorem len_ok (t : Tree) (ht : t.ok) (ver : Int) (flex : Bool) (hfx : flex = false) : 1000 + (wPart ver flex m.fields t).length ≤ lim := by
  subst hfx
  have h1 := wPart_most ver false m.fields t ht
  have h2 : 1000 + partMost false m.fields ≤ lim := by decide
  omega
set_option maxHeartbeats 4000000 in
theorem fn_law (n : Nat) (hn : n < 256) (xs : List UInt8) (t : Tree) (ht : t.ok) (w : World) (ev dv : Value) (ts : List Value) (hd : BytesAt w dv xs) (hrep : Rep (Lo w.heap.size) w (treeD t) ts) (hg : w.cell? ⟨0, 0, none⟩ = some ev) :
    Fn 3 [.int .u8 (n : Int), dv, .agg ts.toArray] w fun v _ => v = .bool true := by
  obtain ⟨sv2, lv, uv, rfl, _, _, _⟩ := tree_cells hrep
  obtain ⟨da, dc, hdv⟩ := hd.shape
  subst hdv
  refine enter Tryd.func3 rfl Tryd.ntmps3 rfl ?_
  repeat first|(with_reducible first|apply wc_seq|apply wc_region|apply wl_nil|apply qk_thn|apply wc_block|apply wc_skip|apply wc_ret|apply wc_exit|apply qk_thn_ret|apply qk_in_ret|apply qk_in|apply qk_thn_exit|apply qk_in_exit|apply qk_round_ret|apply qk_round_exit)|((with_reducible apply ws);exact rfl;exact rfl)|((with_reducible apply wl_yes);exact rfl;exact rfl;exact rfl)|((with_reducible apply wl_no);exact rfl;exact rfl;exact rfl;exact rfl)|((with_reducible apply wl_noU);exact rfl;exact rfl;exact rfl)
  refine wl_box1 rfl rfl rfl (fun w1 hb1 hg1 hs1 => ?_)
  have hw1 : Below w.heap.size w w1 := below_of hg1 (Nat.le_refl _) (by simp)
  repeat first|(with_reducible first|apply wc_seq|apply wc_region|apply wl_nil|apply qk_thn|apply wc_block|apply wc_skip|apply wc_ret|apply wc_exit|apply qk_thn_ret|apply qk_in_ret|apply qk_in|apply qk_thn_exit|apply qk_in_exit|apply qk_round_ret|apply qk_round_exit)|((with_reducible apply ws);exact rfl;exact rfl)|((with_reducible apply wl_yes);exact rfl;exact rfl;exact rfl)|((with_reducible apply wl_no);exact rfl;exact rfl;exact rfl;exact rfl)|((with_reducible apply wl_noU);exact rfl;exact rfl;exact rfl)
  by_cases h0 : (2147483647 : Int) < (xs.length : Int)
  · have e0 : decide ((2147483647 : Int) < (xs.length : Int)) = true := decide_eq_true h0
    rw [e0]
    repeat first|(with_reducible first|apply wc_seq|apply wc_region|apply wl_nil|apply qk_thn|apply wc_block|apply wc_skip|apply wc_ret|apply wc_exit|apply qk_thn_ret|apply qk_in_ret|apply qk_in|apply qk_thn_exit|apply qk_in_exit|apply qk_round_ret|apply qk_round_exit)|((with_reducible apply ws);exact rfl;exact rfl)|((with_reducible apply wl_yes);exact rfl;exact rfl;exact rfl)|((with_reducible apply wl_no);exact rfl;exact rfl;exact rfl;exact rfl)|((with_reducible apply wl_noU);exact rfl;exact rfl;exact rfl)
    refine wc_yes rfl rfl ?_
    repeat first|(with_reducible first|apply wc_seq|apply wc_region|apply wl_nil|apply qk_thn|apply wc_block|apply wc_skip|apply wc_ret|apply wc_exit|apply qk_thn_ret|apply qk_in_ret|apply qk_in|apply qk_thn_exit|apply qk_in_exit|apply qk_round_ret|apply qk_round_exit)|((with_reducible apply ws);exact rfl;exact rfl)|((with_reducible apply wl_yes);exact rfl;exact rfl;exact rfl)|((with_reducible apply wl_no);exact rfl;exact rfl;exact rfl;exact rfl)|((with_reducible apply wl_noU);exact rfl;exact rfl;exact rfl)
    exact qk_ret1 rfl rfl ⟨_, rfl, hw1, rfl⟩
  have e0 : decide ((2147483647 : Int) < (xs.length : Int)) = false := decide_eq_false h0
  rw [e0]
  repeat first|(with_reducible first|apply wc_seq|apply wc_region|apply wl_nil|apply qk_thn|apply wc_block|apply wc_skip|apply wc_ret|apply wc_exit|apply qk_thn_ret|apply qk_in_ret|apply qk_in|apply qk_thn_exit|apply qk_in_exit|apply qk_round_ret|apply qk_round_exit)|((with_reducible apply ws);exact rfl;exact rfl)|((with_reducible apply wl_yes);exact rfl;exact rfl;exact rfl)|((with_reducible apply wl_no);exact rfl;exact rfl;exact rfl;exact rfl)|((with_reducible apply wl_noU);exact rfl;exact rfl;exact rfl)
  refine wl_loadBAgg (cs := [.int .i64 t.n, sv2, .bool t.nul, lv, uv]) rfl ta_tree rfl hb1 ?_
  repeat first|(with_reducible first|apply wc_seq|apply wc_region|apply wl_nil|apply qk_thn|apply wc_block|apply wc_skip|apply wc_ret|apply wc_exit|apply qk_thn_ret|apply qk_in_ret|apply qk_in|apply qk_thn_exit|apply qk_in_exit|apply qk_round_ret|apply qk_round_exit)|((with_reducible apply ws);exact rfl;exact rfl)|((with_reducible apply wl_yes);exact rfl;exact rfl;exact rfl)|((with_reducible apply wl_no);exact rfl;exact rfl;exact rfl;exact rfl)|((with_reducible apply wl_noU);exact rfl;exact rfl;exact rfl)
  refine wl_call rfl (by kernel_rfl) rfl ((fn_fits1 t w.heap.size w1 _ (by omega) (hrep.below hw1 (Nat.le_refl _))).mono ?_)
  rintro e w2 ⟨v, rfl, hw12, q, rfl⟩
  refine ⟨_, rfl, ?_⟩
  have hz12 := hw12.size
  have hw2 := hw1.trans (hw12.mono (by omega))
  repeat first|(with_reducible first|apply wc_seq|apply wc_region|apply wl_nil|apply qk_thn|apply wc_block|apply wc_skip|apply wc_ret|apply wc_exit|apply qk_thn_ret|apply qk_in_ret|apply qk_in|apply qk_thn_exit|apply qk_in_exit|apply qk_round_ret|apply qk_round_exit)|((with_reducible apply ws);exact rfl;exact rfl)|((with_reducible apply wl_yes);exact rfl;exact rfl;exact rfl)|((with_reducible apply wl_no);exact rfl;exact rfl;exact rfl;exact rfl)|((with_reducible apply wl_noU);exact rfl;exact rfl;exact rfl)
  cases q
  · refine wc_yes rfl rfl ?_
    repeat first|(with_reducible first|apply wc_seq|apply wc_region|apply wl_nil|apply qk_thn|apply wc_block|apply wc_skip|apply wc_ret|apply wc_exit|apply qk_thn_ret|apply qk_in_ret|apply qk_in|apply qk_thn_exit|apply qk_in_exit|apply qk_round_ret|apply qk_round_exit)|((with_reducible apply ws);exact rfl;exact rfl)|((with_reducible apply wl_yes);exact rfl;exact rfl;exact rfl)|((with_reducible apply wl_no);exact rfl;exact rfl;exact rfl;exact rfl)|((with_reducible apply wl_noU);exact rfl;exact rfl;exact rfl)
    exact qk_ret1 rfl rfl ⟨_, rfl, hw2, rfl⟩
  refine wc_no rfl rfl ?_
  repeat first|(with_reducible first|apply wc_seq|apply wc_region|apply wl_nil|apply qk_thn|apply wc_block|apply wc_skip|apply wc_ret|apply wc_exit|apply qk_thn_ret|apply qk_in_ret|apply qk_in|apply qk_thn_exit|apply qk_in_exit|apply qk_round_ret|apply qk_round_exit)|((with_reducible apply ws);exact rfl;exact rfl)|((with_reducible apply wl_yes);exact rfl;exact rfl;exact rfl)|((with_reducible apply wl_no);exact rfl;exact rfl;exact rfl;exact rfl)|((with_reducible apply wl_noU);exact rfl;exact rfl;exact rfl)
  refine wl_call rfl (by kernel_rfl) rfl ((fn_max w2).mono ?_)
  rintro e w3 ⟨rfl, hw23⟩
  refine ⟨_, rfl, ?_⟩
  have hz23 := hw23.size
  have hw13 := hw12.trans (hw23.mono (by omega))
  have hw3 := hw2.trans (hw23.mono (by omega))
  repeat first|(with_reducible first|apply wc_seq|apply wc_region|apply wl_nil|apply qk_thn|apply wc_block|apply wc_skip|apply wc_ret|apply wc_exit|apply qk_thn_ret|apply qk_in_ret|apply qk_in|apply qk_thn_exit|apply qk_in_exit|apply qk_round_ret|apply qk_round_exit)|((with_reducible apply ws);exact rfl;exact rfl)|((with_reducible apply wl_yes);exact rfl;exact rfl;exact rfl)|((with_reducible apply wl_no);exact rfl;exact rfl;exact rfl;exact rfl)|((with_reducible apply wl_noU);exact rfl;exact rfl;exact rfl)
  refine wc_no rfl (by decide) ?_
  repeat first|(with_reducible first|apply wc_seq|apply wc_region|apply wl_nil|apply qk_thn|apply wc_block|apply wc_skip|apply wc_ret|apply wc_exit|apply qk_thn_ret|apply qk_in_ret|apply qk_in|apply qk_thn_exit|apply qk_in_exit|apply qk_round_ret|apply qk_round_exit)|((with_reducible apply ws);exact rfl;exact rfl)|((with_reducible apply wl_yes);exact rfl;exact rfl;exact rfl)|((with_reducible apply wl_no);exact rfl;exact rfl;exact rfl;exact rfl)|((with_reducible apply wl_noU);exact rfl;exact rfl;exact rfl)
  refine wl_call rfl (by kernel_rfl) rfl ((fn_table w3).mono ?_)
  rintro e w4 ⟨v, rfl, hw34, fv, rfl, hsq⟩
  refine ⟨_, rfl, ?_⟩
  have hz34 := hw34.size
  have hw14 := hw13.trans (hw34.mono (by omega))
  have hw4 := hw3.trans (hw34.mono (by omega))
  repeat first|(with_reducible first|apply wc_seq|apply wc_region|apply wl_nil|apply qk_thn|apply wc_block|apply wc_skip|apply wc_ret|apply wc_exit|apply qk_thn_ret|apply qk_in_ret|apply qk_in|apply qk_thn_exit|apply qk_in_exit|apply qk_round_ret|apply qk_round_exit)|((with_reducible apply ws);exact rfl;exact rfl)|((with_reducible apply wl_yes);exact rfl;exact rfl;exact rfl)|((with_reducible apply wl_no);exact rfl;exact rfl;exact rfl;exact rfl)|((with_reducible apply wl_noU);exact rfl;exact rfl;exact rfl)
  refine wl_call rfl (by kernel_rfl) rfl ((fn_version n most hn (by decide) w4).mono ?_)
  rintro e w4' ⟨v, rfl, _, hww, rfl⟩
  obtain rfl : w4 = w4' := hww.symm
  refine ⟨_, rfl, ?_⟩
  refine wl_alloc zv_msg rfl rfl (fun w5 hb5 hg5 hs5 => ?_)
  obtain ⟨fa, fc, rfl, _⟩ := hsq.shape
  refine wl_storeBAgg (vs := [.slice fa (m.fields.map fldD).length fc, .int .i64 m.flex]) rfl rfl rfl tz_msg rfl hb5 rfl (fun w6 hb6 hg6 hs6 => ?_)
  have hw46 : Below w4.heap.size w4 w6 := (below_of hg5 (Nat.le_refl _) (by simp)).trans (below_of hg6 (by omega) (by intro q hq; simp at hq; omega))
  have hz46 := hw46.size
  have hw16 := hw14.trans (hw46.mono (by omega))
  have hw6 := hw4.trans (hw46.mono (by omega))
  repeat first|(with_reducible first|apply wc_seq|apply wc_region|apply wl_nil|apply qk_thn|apply wc_block|apply wc_skip|apply wc_ret|apply wc_exit|apply qk_thn_ret|apply qk_in_ret|apply qk_in|apply qk_thn_exit|apply qk_in_exit|apply qk_round_ret|apply qk_round_exit)|((with_reducible apply ws);exact rfl;exact rfl)|((with_reducible apply wl_yes);exact rfl;exact rfl;exact rfl)|((with_reducible apply wl_no);exact rfl;exact rfl;exact rfl;exact rfl)|((with_reducible apply wl_noU);exact rfl;exact rfl;exact rfl)
  by_cases h1 : (1000 : Int) < (xs.length : Int)
  · have e1 : decide ((1000 : Int) < (xs.length : Int)) = true := decide_eq_true h1
    rw [e1]
    refine wc_yes rfl rfl ?_
    repeat first|(with_reducible first|apply wc_seq|apply wc_region|apply wl_nil|apply qk_thn|apply wc_block|apply wc_skip|apply wc_ret|apply wc_exit|apply qk_thn_ret|apply qk_in_ret|apply qk_in|apply qk_thn_exit|apply qk_in_exit|apply qk_round_ret|apply qk_round_exit)|((with_reducible apply ws);exact rfl;exact rfl)|((with_reducible apply wl_yes);exact rfl;exact rfl;exact rfl)|((with_reducible apply wl_no);exact rfl;exact rfl;exact rfl;exact rfl)|((with_reducible apply wl_noU);exact rfl;exact rfl;exact rfl)
    exact qk_ret1 rfl rfl ⟨_, rfl, hw6, rfl⟩
  have e1 : decide ((1000 : Int) < (xs.length : Int)) = false := decide_eq_false h1
  rw [e1]
  refine wc_no rfl rfl ?_
  repeat first|(with_reducible first|apply wc_seq|apply wc_region|apply wl_nil|apply qk_thn|apply wc_block|apply wc_skip|apply wc_ret|apply wc_exit|apply qk_thn_ret|apply qk_in_ret|apply qk_in|apply qk_thn_exit|apply qk_in_exit|apply qk_round_ret|apply qk_round_exit)|((with_reducible apply ws);exact rfl;exact rfl)|((with_reducible apply wl_yes);exact rfl;exact rfl;exact rfl)|((with_reducible apply wl_no);exact rfl;exact rfl;exact rfl;exact rfl)|((with_reducible apply wl_noU);exact rfl;exact rfl;exact rfl)
  have hv : n % (most + 1) ≤ most := by have := Nat.mod_lt n (show most + 1 > 0 by omega); omega
  generalize n % (most + 1) = v at hv ⊢
  have hll := len_ok t ht (v : Int) (m.flexible (v : Int)) (by simp [Msg.flexible, m])
  refine wl_loadBAgg (cs := [.slice fa (m.fields.map fldD).length fc, .int .i64 m.flex]) rfl ta_msg rfl hb6 ?_
  repeat first|(with_reducible first|apply wc_seq|apply wc_region|apply wl_nil|apply qk_thn|apply wc_block|apply wc_skip|apply wc_ret|apply wc_exit|apply qk_thn_ret|apply qk_in_ret|apply qk_in|apply qk_thn_exit|apply qk_in_exit|apply qk_round_ret|apply qk_round_exit)|((with_reducible apply ws);exact rfl;exact rfl)|((with_reducible apply wl_yes);exact rfl;exact rfl;exact rfl)|((with_reducible apply wl_no);exact rfl;exact rfl;exact rfl;exact rfl)|((with_reducible apply wl_noU);exact rfl;exact rfl;exact rfl)
  refine wl_loadBAgg (cs := [.int .i64 t.n, sv2, .bool t.nul, lv, uv]) rfl ta_tree rfl (hb1.below hw16 hb1.lt) ?_
  refine wl_call rfl (by kernel_rfl) rfl ((fn_write m m_ok (v : Int) t w6.heap.size w6 _ _ ht (Nat.le_refl _) (hsq.below hw46 hz46) ((hrep.below hw6 hw6.size)) (by show (wPart _ _ _ _).length ≤ lim; omega)).mono ?_)
  rintro e w7 ⟨bv7, rfl, hw67, ho7⟩
  refine ⟨_, rfl, ?_⟩
  have ho7' : Own w7 w6.heap.size 5 bv7 (wPart (v : Int) (m.flexible (v : Int)) m.fields t) := ho7
  have hz67 := hw67.size
  have hz6 := hw6.size
  have hw7 := hw6.trans (hw67.mono (by omega))
  have hg7 : w7.cell? ⟨0, 0, none⟩ = some ev := by rw [← hg]; simp only [World.cell?, hw7.block _ (World.block_lt_of_cell? _ _ hg)]
  repeat first|(with_reducible first|apply wc_seq|apply wc_region|apply wl_nil|apply qk_thn|apply wc_block|apply wc_skip|apply wc_ret|apply wc_exit|apply qk_thn_ret|apply qk_in_ret|apply qk_in|apply qk_thn_exit|apply qk_in_exit|apply qk_round_ret|apply qk_round_exit)|((with_reducible apply ws);exact rfl;exact rfl)|((with_reducible apply wl_yes);exact rfl;exact rfl;exact rfl)|((with_reducible apply wl_no);exact rfl;exact rfl;exact rfl;exact rfl)|((with_reducible apply wl_noU);exact rfl;exact rfl;exact rfl)
  refine wl_call rfl (by kernel_rfl) rfl ((fn_door v hv t ht w7 ev _ _ xs (hd.below hw7) ho7'.bytes hg7 (by omega)).mono ?_)
  rintro e w8 ⟨d8, rfl, ho8, hw78⟩
  refine ⟨_, rfl, ?_⟩
  have hz78 := hw78.size
  have hw8 := hw7.trans (hw78.mono (by omega))
  repeat first|(with_reducible first|apply wc_seq|apply wc_region|apply wl_nil|apply qk_thn|apply wc_block|apply wc_skip|apply wc_ret|apply wc_exit|apply qk_thn_ret|apply qk_in_ret|apply qk_in|apply qk_thn_exit|apply qk_in_exit|apply qk_round_ret|apply qk_round_exit)|((with_reducible apply ws);exact rfl;exact rfl)|((with_reducible apply wl_yes);exact rfl;exact rfl;exact rfl)|((with_reducible apply wl_no);exact rfl;exact rfl;exact rfl;exact rfl)|((with_reducible apply wl_noU);exact rfl;exact rfl;exact rfl)
  refine wl_extract rfl rfl rfl ?_
  refine wl_extract rfl rfl rfl ?_
  repeat first|(with_reducible first|apply wc_seq|apply wc_region|apply wl_nil|apply qk_thn|apply wc_block|apply wc_skip|apply wc_ret|apply wc_exit|apply qk_thn_ret|apply qk_in_ret|apply qk_in|apply qk_thn_exit|apply qk_in_exit|apply qk_round_ret|apply qk_round_exit)|((with_reducible apply ws);exact rfl;exact rfl)|((with_reducible apply wl_yes);exact rfl;exact rfl;exact rfl)|((with_reducible apply wl_no);exact rfl;exact rfl;exact rfl;exact rfl)|((with_reducible apply wl_noU);exact rfl;exact rfl;exact rfl)
  refine wl_lit (ps := []) (ys := []) tb_bytes rfl rfl rfl rfl rfl (fun w9 ho9 hw89 => ?_)
  have hz89 := hw89.size
  have hw9 := hw8.trans (hw89.mono (by omega))
  repeat first|(with_reducible first|apply wc_seq|apply wc_region|apply wl_nil|apply qk_thn|apply wc_block|apply wc_skip|apply wc_ret|apply wc_exit|apply qk_thn_ret|apply qk_in_ret|apply qk_in|apply qk_thn_exit|apply qk_in_exit|apply qk_round_ret|apply qk_round_exit)|((with_reducible apply ws);exact rfl;exact rfl)|((with_reducible apply wl_yes);exact rfl;exact rfl;exact rfl)|((with_reducible apply wl_no);exact rfl;exact rfl;exact rfl;exact rfl)|((with_reducible apply wl_noU);exact rfl;exact rfl;exact rfl)
  refine wl_appSl tb_bytes tb_bytes rfl rfl rfl (hd.below hw9) ho9 hz89 (by simp only [List.length_nil]; omega) (fun d10 w10 ho10 hg10 => ?_)
  have hw910 : Below w8.heap.size w9 w10 := hg10.below hz89 ho9.ge
  have hz910 := hw910.size
  have hw810 := hw89.trans hw910
  repeat first|(with_reducible first|apply wc_seq|apply wc_region|apply wl_nil|apply qk_thn|apply wc_block|apply wc_skip|apply wc_ret|apply wc_exit|apply qk_thn_ret|apply qk_in_ret|apply qk_in|apply qk_thn_exit|apply qk_in_exit|apply qk_round_ret|apply qk_round_exit)|((with_reducible apply ws);exact rfl;exact rfl)|((with_reducible apply wl_yes);exact rfl;exact rfl;exact rfl)|((with_reducible apply wl_no);exact rfl;exact rfl;exact rfl;exact rfl)|((with_reducible apply wl_noU);exact rfl;exact rfl;exact rfl)
  rw [List.nil_append] at ho10
  refine wl_appSl tb_bytes tb_bytes rfl rfl rfl (ho7'.bytes.below ((hw78.trans (hw810.mono (by omega))))) ho10 (by omega) (by omega) (fun d11 w11 ho11 hg11 => ?_)
  have hw1011 : Below w8.heap.size w10 w11 := hg11.below (by omega) ho10.ge
  have hz1011 := hw1011.size
  have hw811 := hw810.trans hw1011
  have hw11 := hw8.trans (hw811.mono (by omega))
  repeat first|(with_reducible first|apply wc_seq|apply wc_region|apply wl_nil|apply qk_thn|apply wc_block|apply wc_skip|apply wc_ret|apply wc_exit|apply qk_thn_ret|apply qk_in_ret|apply qk_in|apply qk_thn_exit|apply qk_in_exit|apply qk_round_ret|apply qk_round_exit)|((with_reducible apply ws);exact rfl;exact rfl)|((with_reducible apply wl_yes);exact rfl;exact rfl;exact rfl)|((with_reducible apply wl_no);exact rfl;exact rfl;exact rfl;exact rfl)|((with_reducible apply wl_noU);exact rfl;exact rfl;exact rfl)
  refine wl_call rfl (by kernel_rfl) rfl ((fn_same _ _ _ _ w11 (ho8.bytes.below hw811) ho11.bytes (by rw [List.length_append]; omega) (by rw [List.length_append]; omega)).mono ?_)
  rintro e w12 ⟨v, rfl, hw1112, rfl⟩
  refine ⟨_, rfl, ?_⟩
  repeat first|(with_reducible first|apply wc_seq|apply wc_region|apply wl_nil|apply qk_thn|apply wc_block|apply wc_skip|apply wc_ret|apply wc_exit|apply qk_thn_ret|apply qk_in_ret|apply qk_in|apply qk_thn_exit|apply qk_in_exit|apply qk_round_ret|apply qk_round_exit)|((with_reducible apply ws);exact rfl;exact rfl)|((with_reducible apply wl_yes);exact rfl;exact rfl;exact rfl)|((with_reducible apply wl_no);exact rfl;exact rfl;exact rfl;exact rfl)|((with_reducible apply wl_noU);exact rfl;exact rfl;exact rfl)
  have hz11 := hw11.size
  exact qk_ret1 rfl rfl ⟨_, rfl, hw11.trans (hw1112.mono (by omega)), by simp⟩
end
end Go.Proofs.YtgblofcjkgbojaaDoor.BOffsetDeleteRequest

/- An argument that is a tree, as the row hands it: what it says, as memory holds it. -/
namespace Go.Proofs.YtgblofcjkgbojaaDoor
open Go Go.RowKit Go.ChangeShapes Go.WideShapes Go.ChangeAt

/-- Cells side by side, element by element. -/
theorem row_at {W : World} {a : Addr} {sz len : Nat} {f : Nat → List Value} (hsz : 0 < sz) (hlen : 0 < len)
    (hf : ∀ i, i < len → (f i).length = sz ∧ ∀ j v, (f i)[j]? = some v → W.cell? ((a.add (i * sz)).add j) = some v) :
    ∃ b off, a = ⟨b, off, none⟩ ∧ b < W.heap.size ∧ CellsAt W b off ((List.range len).flatMap f) := by
  have h0 := hf 0 hlen
  obtain ⟨b, off, spot⟩ := a
  have hx : ∃ v, (f 0)[0]? = some v := by
    cases hv : (f 0)[0]? with
    | none => rw [List.getElem?_eq_none_iff] at hv; omega
    | some v => exact ⟨v, rfl⟩
  obtain ⟨v0, hv0⟩ := hx
  have hc0 := h0.2 0 v0 hv0
  have hspot : spot = none := by simpa [Addr.add] using World.cell?_spot hc0
  subst hspot
  simp only [Nat.zero_mul] at hc0
  have hadd : ∀ n m, (Addr.add (Addr.add ⟨b, off, none⟩ n) m) = ⟨b, off + n + m, none⟩ := fun n m => by rw [add_plain ⟨b, off, none⟩ n rfl]; rw [add_plain _ _ rfl]
  rw [hadd] at hc0
  -- the block itself
  have hobj : ∃ arr e fz, W.heap[b]? = some (.cells arr e fz) := by
    unfold World.cell? at hc0
    split at hc0
    · rename_i c e fz hh; exact ⟨c, e, fz, hh⟩
    · cases hc0
  obtain ⟨arr, e, fz, hh⟩ := hobj
  have hall : ∀ i j v, i < len → (f i)[j]? = some v → arr[off + i * sz + j]? = some v := by
    intro i j v hi hv
    have := (hf i hi).2 j v hv
    rw [hadd] at this
    simpa [World.cell?, hh] using this
  have hflat : ∀ n, n ≤ len → ((List.range n).flatMap f).length = n * sz ∧ ∀ q v, ((List.range n).flatMap f)[q]? = some v → arr[off + q]? = some v := by
    intro n
    induction n with
    | zero => intro _; simp
    | succ n ih =>
      intro hn
      obtain ⟨hl, hq⟩ := ih (by omega)
      rw [List.range_succ, List.flatMap_append]
      simp only [List.flatMap_cons, List.flatMap_nil, List.append_nil]
      refine ⟨by rw [List.length_append, hl, (hf n (by omega)).1, Nat.succ_mul], fun q v hv => ?_⟩
      by_cases hlt : q < n * sz
      · rw [List.getElem?_append_left (by omega)] at hv; exact hq q v hv
      · rw [List.getElem?_append_right (by omega), hl] at hv
        have := hall n (q - n * sz) v (by omega) hv
        rwa [show off + n * sz + (q - n * sz) = off + q from by omega] at this
  obtain ⟨hl, hq⟩ := hflat len (Nat.le_refl _)
  refine ⟨b, off, rfl, (Array.getElem?_eq_some_iff.1 hh).1, arr, e, fz, hh, ?_, hq⟩
  have hpos : 0 < len * sz := Nat.mul_pos hlen hsz
  have hlast : ∃ v, ((List.range len).flatMap f)[len * sz - 1]? = some v := by
    cases hv : ((List.range len).flatMap f)[len * sz - 1]? with
    | none => rw [List.getElem?_eq_none_iff] at hv; omega
    | some v => exact ⟨v, rfl⟩
  obtain ⟨v, hv⟩ := hlast
  have := (Array.getElem?_eq_some_iff.1 (hq _ v hv)).1
  rw [hl]; omega

theorem sum_le : ∀ (a b : List Nat), a.length = b.length → (∀ i (h : i < a.length) (h' : i < b.length), a[i] ≤ b[i]) → a.sum ≤ b.sum
  | [], b, _, _ => by simp
  | x :: a, [], h, _ => by simp at h
  | x :: a, y :: b, h, hall => by
    have h0 := hall 0 (by simp) (by simp)
    have h1 := sum_le a b (by simpa using h) (fun i hi hi' => by have := hall (i + 1) (by simpa using hi) (by simpa using hi'); simpa using this)
    simp only [List.getElem_cons_zero] at h0
    simp only [List.sum_cons]; omega
section
variable {H : Type} {enc : TypeId × Value → H} {P : Program} {W : World} {base : Nat} {spare : Nat → Bool} {held : Bool}
/-- A slice, its elements opened by 'hel'. -/
theorem open_sq {α : Type} {t e sz : Nat} (ht : P.underlying t = some (.slice e)) (hc : P.cellsOf e = sz) (hsz : 0 < sz) (g : α → D) (φ : α → Prop) (f0 : α → Nat) (bk : DataW H → Nat) (hnil : 1 ≤ bk .nil) (hsl : ∀ es sp : List (DataW H), (es.map bk).sum + 1 ≤ bk (.slice es sp)) {fuel : Nat} {cs : List Value} {x : DataW H × List MemPlace}
    (h : DataW.trod enc P W base spare held fuel t cs = some x)
    (hel : ∀ n cs' x', n < fuel → DataW.trod enc P W base spare held n e cs' = some x' → ∃ y : α, Rep (Lo W.heap.size) W (g y) cs' ∧ φ y ∧ f0 y ≤ bk x'.1) :
    ∃ (l : List α) (v : Value), cs = [v] ∧ l.length ≤ maxLen ∧ Sq W.heap.size W v (l.map g) ∧ (∀ y ∈ l, φ y) ∧ (l.map f0).sum + 1 ≤ bk x.1 := by
  rcases DataW.trod_slice ht h with ⟨rfl, rfl⟩ | ⟨a, len, cap, elems, rest, n, hfu, rfl, rfl, hb, hle, hcap, hlen, hels, _, _⟩
  · exact ⟨[], _, rfl, by simp, rep_nil _ _, by simp, by simpa using hnil⟩
  · have hone : ∀ i : Fin len, ∃ p : List Value × α, W.cells? base (a.add (i.1 * sz)) sz = some p.1 ∧ Rep (Lo W.heap.size) W (g p.2) p.1 ∧ φ p.2 ∧ f0 p.2 ≤ bk (elems[i.1]'(by have := i.2; omega)).1 := by
      intro ⟨i, hi⟩
      have h1 := hels i hi
      rw [List.getElem?_eq_getElem (by omega), hc] at h1
      obtain ⟨cs', h2, h3⟩ := Option.bind_eq_some_iff.1 h1
      obtain ⟨y, hy, hφ⟩ := hel n cs' _ (by omega) h3
      exact ⟨(cs', y), h2, hy, hφ⟩
    let F : Fin len → List Value × α := fun i => Classical.choose (hone i)
    have hF : ∀ i : Fin len, W.cells? base (a.add (i.1 * sz)) sz = some (F i).1 ∧ Rep (Lo W.heap.size) W (g (F i).2) (F i).1 ∧ φ (F i).2 ∧ f0 (F i).2 ≤ bk (elems[i.1]'(by have := i.2; omega)).1 := fun i => Classical.choose_spec (hone i)
    let f : Nat → List Value := fun i => if hi : i < len then (F ⟨i, hi⟩).1 else []
    let l : List α := List.ofFn fun i => (F i).2
    have hll : l.length = len := by simp [l]
    have hφ : ∀ y ∈ l, φ y := by
      intro y hy
      obtain ⟨i, hi⟩ := (List.mem_ofFn).1 hy
      rw [← hi]; exact (hF i).2.2.1
    have hsum : (l.map f0).sum + 1 ≤ bk (.slice (elems.map (·.1)) (rest.map (·.1))) := by
      refine Nat.le_trans (Nat.succ_le_succ (sum_le (l.map f0) ((elems.map (·.1)).map bk) (by simp [hll, hlen]) (fun i hi hi' => ?_))) (hsl _ _)
      have hi2 : i < len := by simpa [hll] using hi
      have := (hF ⟨i, hi2⟩).2.2.2
      simpa [l] using this
    refine ⟨l, _, rfl, by rw [hll]; omega, ?_, hφ, hsum⟩
    simp only [Sq, Rep]
    refine ⟨some a, cap, by simp [hll], by simpa [hll] using hle, ?_⟩
    by_cases hpos : 0 < len
    · have hfi : ∀ i, i < len → (f i).length = sz ∧ ∀ j v, (f i)[j]? = some v → W.cell? ((a.add (i * sz)).add j) = some v := by
        intro i hi
        have h1 := (hF ⟨i, hi⟩).1
        have h2 := World.cells?_some h1
        simp only [f, dif_pos hi]
        refine ⟨h2.2.1, fun j v hj => ?_⟩
        have := h2.2.2 j (by have := (List.getElem?_eq_some_iff.1 hj).1; omega)
        rw [this]; exact hj
      obtain ⟨b, off, rfl, hlt, hcells⟩ := row_at hsz hpos hfi
      refine .inr ⟨b, off, _, rfl, hlt, hcells, ?_⟩
      have hreps : ∀ n, n ≤ len → Reps (Lo W.heap.size) W ((l.take n).map g) ((List.range n).flatMap f) := by
        intro n
        induction n with
        | zero => intro _; simp [Reps]
        | succ n ih =>
          intro hn
          have hnl : n < l.length := by omega
          rw [List.take_succ_eq_append_getElem hnl, List.map_append, List.range_succ, List.flatMap_append]
          refine (Reps.app _ _ _).2 ⟨_, _, rfl, ih (by omega), ?_⟩
          simp only [List.map_cons, List.map_nil, List.flatMap_cons, List.flatMap_nil, List.append_nil, Reps]
          refine ⟨f n, [], by simp, ?_, rfl⟩
          have hln : l[n] = (F ⟨n, by omega⟩).2 := by simp [l]
          have hfn : f n = (F ⟨n, by omega⟩).1 := by simp only [f]; rw [dif_pos (by omega)]
          rw [hln, hfn]; exact (hF ⟨n, by omega⟩).2.1
      have := hreps len (Nat.le_refl _)
      rwa [List.take_of_length_le (by omega)] at this
    · have : l = [] := List.length_eq_zero_iff.1 (by omega)
      left; rw [this]; rfl
end
end Go.Proofs.YtgblofcjkgbojaaDoor

/- A tree among the arguments: what it says. -/
namespace Go.Proofs.YtgblofcjkgbojaaDoor
open Go Go.RowKit Go.ChangeShapes Go.WideShapes Go.ChangeAt

theorem co_i64 : Tryd.prog.cellsOf 2 = 1 := by kernel_rfl
theorem co_u8 : Tryd.prog.cellsOf 5 = 1 := by kernel_rfl
theorem co_u32 : Tryd.prog.cellsOf 53 = 1 := by kernel_rfl
theorem co_bool : Tryd.prog.cellsOf 4 = 1 := by kernel_rfl
theorem co_bytes : Tryd.prog.cellsOf 22 = 1 := by kernel_rfl
theorem co_trees : Tryd.prog.cellsOf 23 = 1 := by kernel_rfl
theorem co_tags : Tryd.prog.cellsOf 24 = 1 := by kernel_rfl
theorem co_tree : Tryd.prog.cellsOf 26 = 5 := by kernel_rfl
theorem co_tag : Tryd.prog.cellsOf 55 = 2 := by kernel_rfl
theorem len2 {α : Type} {l : List α} (h : l.length = 2) : ∃ a b, l = [a, b] := by
  match l, h with
  | [a, b], _ => exact ⟨a, b, rfl⟩
theorem len5 {α : Type} {l : List α} (h : l.length = 5) : ∃ a b c d e, l = [a, b, c, d, e] := by
  match l, h with
  | [a, b, c, d, e], _ => exact ⟨a, b, c, d, e, rfl⟩
section
set_option maxRecDepth 100000
variable {H : Type} {enc : TypeId × Value → H} {W : World} {base : Nat} {spare : Nat → Bool} {held : Bool}
theorem bk_all {l : List (DataW H)} : Rows.uptoBulkAll l = (l.map Rows.uptoBulk).sum := by
  induction l with
  | nil => rfl
  | cons x l ih => simp only [Rows.uptoBulkAll, List.map_cons, List.sum_cons, ih]
theorem bk_sl (es sp : List (DataW H)) : (es.map Rows.uptoBulk).sum + 1 ≤ Rows.uptoBulk (.slice es sp) := by
  simp only [Rows.uptoBulk, bk_all]; omega
theorem bk_agg (es : List (DataW H)) : (es.map Rows.uptoBulk).sum + 1 ≤ Rows.uptoBulk (.agg es) := by
  simp only [Rows.uptoBulk, bk_all]; omega
theorem bk_int (k : IntKind) (n : Int) : 1 ≤ Rows.uptoBulk (H := H) (.lit (.int k n)) := by simp [Rows.uptoBulk]
theorem bk_nil : 1 ≤ Rows.uptoBulk (H := H) .nil := by simp [Rows.uptoBulk]
theorem wts_sum (l : List Tree) : Tree.wts l = (l.map Tree.wt).sum := by
  induction l with
  | nil => rfl
  | cons x l ih => simp only [Tree.wts, List.map_cons, List.sum_cons, ih]
theorem ones_sum {α : Type} (l : List α) : (l.map fun _ => 1).sum = l.length := by
  induction l with
  | nil => rfl
  | cons x l ih => simp only [List.map_cons, List.sum_cons, List.length_cons, ih]; omega
theorem open_bytes {fuel : Nat} {cs : List Value} {x : DataW H × List MemPlace} (h : DataW.trod enc Tryd.prog W base spare held fuel 22 cs = some x) :
    ∃ (s : List UInt8) (v : Value), cs = [v] ∧ s.length ≤ maxLen ∧ Sq W.heap.size W v (s.map byteD) ∧ s.length + 1 ≤ Rows.uptoBulk x.1 := by
  obtain ⟨l, v, h1, h2, h3, _, h5⟩ := open_sq (e := 5) (sz := 1) Tryd.underlying22 co_u8 (by omega) byteD (fun _ => True) (fun _ => 1) Rows.uptoBulk bk_nil bk_sl h (fun n cs' x' _ hx => by
    obtain ⟨m, rfl, hxe, hw⟩ := DataW.trod_int Tryd.underlying5 hx
    have hm : 0 ≤ m ∧ m ≤ 255 := by simpa [Lit.wf, IntKind.min, IntKind.max, IntKind.signed, IntKind.bits] using hw
    refine ⟨UInt8.ofNat m.toNat, ?_, trivial, by rw [hxe]; exact bk_int _ _⟩
    simp only [byteD, Rep]
    rw [byteNat _ (by omega)]
    congr 2
    omega)
  rw [ones_sum] at h5
  exact ⟨l, v, h1, h2, h3, h5⟩
theorem open_tags {fuel : Nat} {cs : List Value} {x : DataW H × List MemPlace} (h : DataW.trod enc Tryd.prog W base spare held fuel 24 cs = some x) :
    ∃ (u : List (Nat × List UInt8)) (v : Value), cs = [v] ∧ u.length ≤ maxLen ∧ Sq W.heap.size W v (u.map tagD) ∧ (∀ kv ∈ u, kv.1 < 4294967296) ∧ tagsW u + 1 ≤ Rows.uptoBulk x.1 := by
  refine open_sq (e := 55) (sz := 2) Tryd.underlying24 co_tag (by omega) tagD (fun kv => kv.1 < 4294967296) (fun kv => kv.2.length + 1) Rows.uptoBulk bk_nil bk_sl h (fun n cs' x' _ hx => ?_)
  obtain ⟨xs, k, _, rfl, hl, hlen, hf⟩ := DataW.trod_struct Tryd.underlying55 hx
  rw [co_tag] at hl
  obtain ⟨v0, v1, rfl⟩ := len2 hl
  · have hxl : xs.length = 2 := hlen
    have h0 := hf 0 _ rfl
    have h1 := hf 1 _ rfl
    rw [List.getElem?_eq_getElem (by omega)] at h0 h1
    simp [co_u32, co_bytes] at h0 h1
    obtain ⟨m, hv0, _, hw⟩ := DataW.trod_int Tryd.underlying53 h0
    obtain ⟨s, v, hv1, _, hs, hsb⟩ := open_bytes h1
    have hm : 0 ≤ m ∧ m ≤ 4294967295 := by simpa [Lit.wf, IntKind.min, IntKind.max, IntKind.signed, IntKind.bits] using hw
    simp only [List.cons.injEq, and_true] at hv0 hv1
    subst hv0; subst hv1
    refine ⟨(m.toNat, s), ?_, by simp only []; omega, ?_⟩
    rotate_left
    · obtain ⟨a, b, rfl⟩ := len2 hxl
      · have := bk_agg [a.1, b.1]
        simp only [List.map_cons, List.map_nil, List.sum_cons, List.sum_nil, List.getElem_cons_succ, List.getElem_cons_zero] at this hsb ⊢
        omega
    have : (.int .u32 m : Value) = .int .u32 ((m.toNat : Nat) : Int) := by congr 1; omega
    rw [this]
    exact rep_tag hs
theorem open_tree : ∀ (fuel : Nat) (cs : List Value) (x : DataW H × List MemPlace), DataW.trod enc Tryd.prog W base spare held fuel 26 cs = some x →
    ∃ t : Tree, Rep (Lo W.heap.size) W (treeD t) cs ∧ t.ok ∧ t.wt ≤ Rows.uptoBulk x.1 := by
  intro fuel
  induction fuel using Nat.strongRecOn with
  | _ fuel ih =>
    intro cs x h
    obtain ⟨xs, k, hfu, rfl, hl, hlen, hf⟩ := DataW.trod_struct Tryd.underlying26 h
    rw [co_tree] at hl
    obtain ⟨v0, v1, v2, v3, v4, rfl⟩ := len5 hl
    · have hxl : xs.length = 5 := hlen
      have h0 := hf 0 _ rfl
      have h1 := hf 1 _ rfl
      have h2 := hf 2 _ rfl
      have h3 := hf 3 _ rfl
      have h4 := hf 4 _ rfl
      rw [List.getElem?_eq_getElem (by omega)] at h0 h1 h2 h3 h4
      simp [co_i64, co_bytes, co_bool, co_trees, co_tags] at h0 h1 h2 h3 h4
      obtain ⟨n, hv0, hb0, _⟩ := DataW.trod_int Tryd.underlying2 h0
      obtain ⟨s, sv, hv1, hsl, hs, hb1⟩ := open_bytes h1
      obtain ⟨b, hv2, hb2⟩ := DataW.trod_bool Tryd.underlying4 h2
      obtain ⟨l, lv, hv3, _, hl3, hok, hb3⟩ := open_sq (e := 26) (sz := 5) Tryd.underlying23 co_tree (by omega) treeD (fun t => t.ok) Tree.wt Rows.uptoBulk bk_nil bk_sl h3 (fun n cs' x' hn hx => ih n (by omega) cs' x' hx)
      obtain ⟨u, uv, hv4, _, hu, huk, hb4⟩ := open_tags h4
      simp only [List.cons.injEq, and_true] at hv0 hv1 hv2 hv3 hv4
      subst hv0; subst hv1; subst hv2; subst hv3; subst hv4
      refine ⟨.mk n s b l u, rep_tree hs hl3 hu, ?_, ?_⟩
      rotate_left
      · obtain ⟨a0, a1, a2, a3, a4, rfl⟩ := len5 hxl
        · have := bk_agg [a0.1, a1.1, a2.1, a3.1, a4.1]
          simp only [List.map_cons, List.map_nil, List.sum_cons, List.sum_nil, List.getElem_cons_succ, List.getElem_cons_zero] at this hb0 hb1 hb2 hb3 hb4 ⊢
          simp only [Tree.wt, wts_sum]
          omega
      simp only [Tree.ok]
      refine ⟨by simp only [maxLen] at hsl; omega, huk, ?_⟩
      have : ∀ l : List Tree, (∀ t ∈ l, t.ok) → Tree.oks l := by
        intro l
        induction l with
        | nil => intro _; simp [Tree.oks]
        | cons y l ih2 => intro h; simp only [Tree.oks]; exact ⟨h y (by simp), ih2 (fun t ht => h t (by simp [ht]))⟩
      exact this l hok
end
end Go.Proofs.YtgblofcjkgbojaaDoor

/- FnBehindOffsetDeleteRequest: the row, and its card, its one listed variable tied to the program's text (the tie is given). Conditions: those of the row, no others. -/
namespace Go.Proofs.YtgblofcjkgbojaaDoor.BOffsetDeleteRequest
open Go Go.RowKit Go.ChangeShapes Go.WideShapes Go.ChangeAt

theorem own : ownKnob Tryd.prog.godebug = none := by kernel_rfl
theorem laidOut : laidOutB Tryd.prog = true := by kernel_rfl
theorem gErr : Tryd.prog.globalNamed "pub-mailsack/pub/kmsg/inner/kbin.ErrNotEnoughData" = some 0 := by kernel_rfl
theorem gErrT : (Tryd.prog.globals[(0 : Nat)]?).map (·.type) = some 50 := by kernel_rfl
/-- What the condition gives the walk: the variable's one cell. -/
theorem err_of_laid {W : World} (h : laidMetH Tryd.prog Rows.fnBehindOffsetDeleteRequestRow.laid W) : ∃ ev, W.cell? ⟨0, 0, none⟩ = some ev := by
  have h' : laidMet Tryd.prog Rows.fnBehindOffsetDeleteRequestRow.laid W := h
  obtain ⟨ps, ⟨g0, t0, cs0, f0, p0, q0, hg0, ht0, hv0, hd0, _⟩, _⟩ := h'
  obtain rfl := Option.some.inj (gErr.symm.trans hg0)
  obtain rfl := Option.some.inj (gErrT.symm.trans ht0)
  obtain ⟨l0⟩ := cs0
  obtain ⟨fu, u, v, e, _, _⟩ := iface_of_trod Tryd.underlying50 hd0
  have e' : l0 = [.iface u v] := e
  subst e'
  exact ⟨_, by simpa using World.var?_cell hg0 hv0 0⟩
abbrev errText : ByteArray := ⟨#[114, 101, 115, 112, 111, 110, 115, 101, 32, 100, 105, 100, 32, 110, 111, 116, 32, 99, 111, 110, 116, 97, 105, 110, 32, 101, 110, 111, 117, 103, 104, 32, 100, 97, 116, 97, 32, 116, 111, 32, 98, 101, 32, 118, 97, 108, 105, 100]⟩
noncomputable def low : Nat := (World.holding Tryd.prog default ⟨#[], #[], []⟩).heap.size
/-- A world that meets the condition. -/
noncomputable def laidWorld (os : Os) : World :=
  let w0 := World.holding Tryd.prog os ⟨#[.cells #[.string errText] 118], #[], []⟩
  { w0 with heap := w0.heap.modify 0 fun
      | .cells _ t frozen => .cells #[.iface 103 (.pointer (some ⟨low, 0, none⟩))] t frozen
      | o => o }
theorem laidWorld_met (os : Os) (args : Array Value) : laidMetH Tryd.prog Rows.fnBehindOffsetDeleteRequestRow.laid ((laidWorld os).forCall (fun _ _ => 0) ⟨#[], args, []⟩).memory :=
  show laidMet Tryd.prog Rows.fnBehindOffsetDeleteRequestRow.laid _ from laidMet_of_run' 8 (by kernel_rfl) (by kernel_rfl)
set_option maxRecDepth 100000 in
theorem lifted (os : Os) (started : os.Started) (H : Type) (enc : TypeId × Value → H) :
    ReturnsInHanded {} Tryd.checked os 3 .any (fun w args => (Rows.fnBehindOffsetDeleteRequestSpec.pre enc Tryd.prog Tryd.f3 [] false w args ∧ laidMetH Tryd.prog Rows.fnBehindOffsetDeleteRequestRow.laid w) ∧ sizedMet enc Tryd.prog Tryd.f3 (OpenSpec.ofChange Rows.fnBehindOffsetDeleteRequestSpec) false w args)
      (Rows.fnBehindOffsetDeleteRequestSpec.post enc Tryd.prog Tryd.f3 false true false false) := by
  refine returnsInHanded_of_change_and (C := Tryd.checked) (X := fun w _ => laidMetH Tryd.prog Rows.fnBehindOffsetDeleteRequestRow.laid w) (fun _ _ _ hh h => h.of_heap hh) own started (by kernel_rfl) Tryd.func3
    (ChangeSpec.witness_at (enc := enc) (C := Tryd.checked) (os := os) (X := fun w _ => laidMetH Tryd.prog Rows.fnBehindOffsetDeleteRequestRow.laid w) false (laidWorld os) #[.int .u8 0, .slice none 0 0, .agg #[.int .i64 0, .slice none 0 0, .bool false, .slice none 0 0, .slice none 0 0]] 8 rfl (by kernel_rfl) (by kernel_rfl) (by kernel_rfl) (by kernel_rfl) (by kernel_rfl) (laidWorld_met os _)) ?_
  intro W base args ds gs before hval0 hW _ _ hL _
  have hval : ∀ (j : Nat) t v, Tryd.f3.params[j]? = some t → args[j]? = some v → Value.okWide Tryd.prog W .any base t v := hval0
  have hW' := hW
  obtain ⟨p, q, hA0, hV, rfl, hfz, hnd⟩ := hW
  have hA : DataW.TrodAll enc Tryd.prog W 0 (fun _ => true) true Tryd.f3.params.toList args.toList ds p := hA0
  rw [Tryd.params3] at hA hval
  obtain ⟨v0, v1, v2, d0, d1, d2, p0, p1, p2, rfl, rfl, rfl, h0, h1, h2⟩ := trodAll_three hA
  obtain ⟨rfl, rfl⟩ := trodVars_none hV
  obtain ⟨a, rfl, rfl, rfl, wa⟩ := open_int Tryd.underlying5 (hval 0 5 v0 rfl rfl) h0
  obtain ⟨sa, sl, sc, rfl⟩ := okWide_slice Tryd.underlying22 (hval 1 22 v1 rfl rfl)
  have hv2 := hval 2 26 v2 rfl rfl
  unfold Value.okWide at hv2
  rw [Tryd.underlying26] at hv2
  obtain ⟨cs, rfl, _⟩ := hv2
  obtain ⟨fuel1, hf1⟩ := id h1
  obtain ⟨xs, xv, hxv, _, hxs, _⟩ := open_bytes hf1
  have hxv' : Value.slice sa sl sc = xv := by
    have h : [Value.slice sa sl sc] = [xv] := hxv
    simpa using h
  subst hxv'
  obtain ⟨fuel, hfu⟩ := id h2
  obtain ⟨t, hrep, hok, hwt⟩ := open_tree fuel _ _ hfu
  obtain ⟨ev, hev⟩ := err_of_laid hL
  clear hA0 hval0
  simp only [List.append_nil, List.nil_append] at hW'
  have ha : 0 ≤ a ∧ a ≤ 255 := by simpa [Lit.wf, IntKind.min, IntKind.max, IntKind.signed, IntKind.bits] using wa
  have hlaw := fn_law a.toNat (by omega) xs t hok W ev (.slice sa sl sc) cs.toList hxs.bytes hrep hev
  rw [show ((a.toNat : Nat) : Int) = a from by omega] at hlaw
  simp only [Array.toArray_toList] at hlaw
  refine Calls.mono hlaw fun e W' he => ?_
  obtain ⟨v, rfl, hb, rfl⟩ := he
  refine ⟨_, rfl, _, _, _, [], ([] ++ p1 ++ p2), [], hW', trodAll_mk1 (shut_bool Tryd.underlying4 _), ?_, ?_, hb.frame _, fun h => by cases h⟩
  · exact trodAll_mk3 (shut_int Tryd.underlying5 wa) (Below.trod laidOut (by kernel_rfl) (Nat.le_of_ble_eq_true (by kernel_rfl)) h1 hb (fun x hx => hW'.lt x (List.mem_append_left _ hx))) (Below.trod laidOut (by kernel_rfl) (Nat.le_of_ble_eq_true (by kernel_rfl)) h2 hb (fun x hx => hW'.lt x (List.mem_append_right _ hx)))
  · rfl


theorem said : Rows.FnBehindOffsetDeleteRequestSaid :=
  OpenClaim.holds_of_wide 3 Tryd.f3 rfl rfl rfl rfl rfl rfl rfl ⟨rfl, rfl, rfl, rfl, rfl⟩ rfl rfl rfl rfl rfl (by kernel_rfl) Tryd.func3 (by kernel_rfl)
    (of_decide_eq_true (by kernel_rfl)) (by unfold Func.isWrapper; first | (rw [if_pos (by decide +kernel)]; kernel_rfl) | (rw [if_neg (by decide +kernel)]; exact ⟨rfl, rfl⟩))
    (fun os started H enc _ => lifted os started H enc)

theorem row_tie : Rows.fnBehindOffsetDeleteRequestRow.laidByTextAt .later Tryd.pinned [.sentinel] true :=
  OpenClaim.laidByTextAt_later rfl rfl tie (by kernel_rfl)
theorem holds : Rows.FnBehindOffsetDeleteRequestCardSaid :=
  Claim7.holds_tied_plain_at .later [] [.sentinel] true (true, "252c71df929817d6b479804d8f75f83de0fe952f532f69e0d5bd2e49c2ebe5fe") false
    said (fun _ h => by cases h) (by kernel_rfl) (fun _ h => by cases h) row_tie rfl ⟨rfl, rfl⟩ (by kernel_rfl) rfl
    (fun f fn hf hfn => by
      obtain rfl : f = 3 := Option.some.inj ((show Tryd.prog.funcNamed "pub-mailsack/laws.FnBehindOffsetDeleteRequest" = some 3 by kernel_rfl).symm.trans hf) |>.symm
      obtain rfl : fn = Tryd.f3 := (Option.some.inj (Tryd.func3.symm.trans hfn)).symm
      exact ⟨by kernel_rfl, fun j t ht => by
        rw [Tryd.params3] at ht
        have hh : Tryd.prog.wantsStandIn 5 = false ∧ Tryd.prog.wantsStandIn 22 = false ∧ Tryd.prog.wantsStandIn 26 = false := ⟨by kernel_rfl, by kernel_rfl, by kernel_rfl⟩
        match j, ht with
        | 0, ht => obtain rfl : 5 = t := by simpa using ht
                   exact hh.1
        | 1, ht => obtain rfl : 22 = t := by simpa using ht
                   exact hh.2.1
        | 2, ht => obtain rfl : 26 = t := by simpa using ht
                   exact hh.2.2
        | j + 3, ht => simp at ht⟩)
    (by kernel_rfl)
end Go.Proofs.YtgblofcjkgbojaaDoor.BOffsetDeleteRequest
