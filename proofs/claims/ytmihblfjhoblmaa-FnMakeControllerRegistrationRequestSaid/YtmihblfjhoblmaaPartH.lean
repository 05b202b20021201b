/- FnMakeControllerRegistrationRequest: for every number and every tree the statement's function returns true and leaves its arguments as they were. Conditions: those of the row, no others. -/
import Derived.Test.YtmihblfjhoblmaaPartF
import Derived.Test.YtmihblfjhoblmaaPartG
import Derived.Test.YtmihblfjhoblmaaPartA
import Derived.ProofKit
import Derived.OpenShut
import Derived.Test.YtmihblfjhoblmaaPartC
import Derived.Test.YtmihblfjhoblmaaPartD
import Derived.Test.YtmihblfjhoblmaaRows
set_option linter.all false
/- What a ControllerRegistrationRequest comes to: its table, a new one, how it is read and written; how it is filled out of a tree; and what is made of it. -/
namespace Go.Proofs.Ytmihblfjhoblmaa.BControllerRegistrationRequest
open Go Go.RowKit

def sControllerRegistrationRequestListener : List Fld := [.mk 8 0 (-1) (-1) (-1) 0 0 [], .mk 8 0 (-1) (-1) (-1) 0 0 [], .mk 5 0 (-1) (-1) (-1) 0 0 [], .mk 2 0 (-1) (-1) (-1) 0 0 []]
def sControllerRegistrationRequestFeature : List Fld := [.mk 8 0 (-1) (-1) (-1) 0 0 [], .mk 2 0 (-1) (-1) (-1) 0 0 [], .mk 2 0 (-1) (-1) (-1) 0 0 []]
def m : Msg := ⟨[.mk 3 0 (-1) (-1) (-1) 0 0 [], .mk 7 0 (-1) (-1) (-1) 0 0 [], .mk 0 0 (-1) (-1) (-1) 0 0 [], .mk 11 0 (-1) (-1) (-1) 0 10 sControllerRegistrationRequestListener, .mk 11 0 (-1) (-1) (-1) 0 10 sControllerRegistrationRequestFeature], 0⟩
theorem m_ok : fsok m.fields = true := by decide
def most : Nat := 0
def tbl : Tbl := ⟨[(31, 0, 0), (31, 1, 1), (96, 0, 0), (39, 0, 0), (39, 1, 1), (39, 2, 2), (39, 3, 3), (39, 4, 4)], [22]⟩
theorem tbl_ok : tbl.ok Try.prog = true := by kernel_rfl
theorem ws {ops : Array Oper} {Q : Exit → Act → World → Prop} {N : Nat} {rest : List Oper} {L : Sl} {w : World} {d : Nat} {ty : TypeId} {pos : String} {aft : Array Edge} {o : Op} {v : Value}
    (hs : stepOp tbl L o = some v) (hd : Nat.blt d N = true) (h : WL rest Try.prog ops Q N ((d, v) :: L) w) : WL (⟨some d, o, ty, pos, aft, none⟩ :: rest) Try.prog ops Q N L w := wl_step tbl tbl_ok hs hd h
theorem zv_msg (w : World) : (zeroValue 31).run Try.prog w = .ok (.agg #[.slice none 0 0, .int .i64 0]) w := by kernel_rfl
theorem rt_flds : rowTy Try.prog 29 50 8 = true := by kernel_rfl
theorem to_i16 : tyOne Try.prog 45 = true := by kernel_rfl
section
set_option maxRecDepth 100000
set_option maxHeartbeats 4000000
theorem fn_tsControllerRegistrationRequestListener (w : World) : Fn 66 [] w fun v w' => Rep (Frs w.heap.size w'.heap.size) w' (.sq (sControllerRegistrationRequestListener.map fldD)) [v] := by
  refine enter Try.func66 rfl Try.ntmps66 rfl ?_
  repeat first|(with_reducible first|apply wc_seq|apply wc_region|apply wl_nil|apply qk_thn|apply wc_block|apply wc_skip|apply wc_ret|apply wc_exit|apply qk_thn_ret|apply qk_in_ret|apply qk_in|apply qk_thn_exit|apply qk_in_exit|apply qk_round_ret|apply qk_round_exit)|((with_reducible apply ws);exact rfl;exact rfl)|((with_reducible apply wl_yes);exact rfl;exact rfl;exact rfl)|((with_reducible apply wl_no);exact rfl;exact rfl;exact rfl;exact rfl)|((with_reducible apply wl_noU);exact rfl;exact rfl;exact rfl)
  have hW : Below w.heap.size w w := ⟨rfl, rfl, rfl, Nat.le_refl _, fun _ _ => rfl⟩
  refine wl_build rfl (cs := [.int .i64 8, .int .i64 0, .int .i64 (-1), .int .i64 (-1), .int .i64 (-1), .int .i64 0, .int .i64 0, .slice none 0 0]) (by kernel_rfl) rfl ?_
  refine wl_build rfl (cs := [.int .i64 8, .int .i64 0, .int .i64 (-1), .int .i64 (-1), .int .i64 (-1), .int .i64 0, .int .i64 0, .slice none 0 0]) (by kernel_rfl) rfl ?_
  refine wl_build rfl (cs := [.int .i64 5, .int .i64 0, .int .i64 (-1), .int .i64 (-1), .int .i64 (-1), .int .i64 0, .int .i64 0, .slice none 0 0]) (by kernel_rfl) rfl ?_
  refine wl_build rfl (cs := [.int .i64 2, .int .i64 0, .int .i64 (-1), .int .i64 (-1), .int .i64 (-1), .int .i64 0, .int .i64 0, .slice none 0 0]) (by kernel_rfl) rfl ?_
  refine wl_sliceN [[.int .i64 8, .int .i64 0, .int .i64 (-1), .int .i64 (-1), .int .i64 (-1), .int .i64 0, .int .i64 0, .slice none 0 0], [.int .i64 8, .int .i64 0, .int .i64 (-1), .int .i64 (-1), .int .i64 (-1), .int .i64 0, .int .i64 0, .slice none 0 0], [.int .i64 5, .int .i64 0, .int .i64 (-1), .int .i64 (-1), .int .i64 (-1), .int .i64 0, .int .i64 0, .slice none 0 0], [.int .i64 2, .int .i64 0, .int .i64 (-1), .int .i64 (-1), .int .i64 (-1), .int .i64 0, .int .i64 0, .slice none 0 0]] rt_flds rfl rfl (by simp) rfl rfl rfl (fun w2 hbS hgS hsS => ?_)
  have hs_2 := below_of hgS (Nat.le_refl _) (by simp)
  have hz := hW.size
  replace hW := hW.trans (hs_2.mono hW.size)
  have hfin : Rep (Frs w.heap.size w2.heap.size) w2 (.sq (sControllerRegistrationRequestListener.map fldD)) [.slice (some ⟨w.heap.size, 0, none⟩) 4 4] := by
    simp only [Rep]
    exact ⟨_, 4, rfl, Nat.le_refl _, .inr ⟨w.heap.size, 0, _, rfl, ⟨hz, hbS.lt⟩, hbS.cells, (reps_fcons (rep_fld0 _ _ (.mk 8 0 (-1) (-1) (-1) 0 0 []) rfl) (reps_fcons (rep_fld0 _ _ (.mk 8 0 (-1) (-1) (-1) 0 0 []) rfl) (reps_fcons (rep_fld0 _ _ (.mk 5 0 (-1) (-1) (-1) 0 0 []) rfl) (reps_fcons (rep_fld0 _ _ (.mk 2 0 (-1) (-1) (-1) 0 0 []) rfl) reps_fnil))))⟩⟩
  repeat first|(with_reducible first|apply wc_seq|apply wc_region|apply wl_nil|apply qk_thn|apply wc_block|apply wc_skip|apply wc_ret|apply wc_exit|apply qk_thn_ret|apply qk_in_ret|apply qk_in|apply qk_thn_exit|apply qk_in_exit|apply qk_round_ret|apply qk_round_exit)|((with_reducible apply ws);exact rfl;exact rfl)|((with_reducible apply wl_yes);exact rfl;exact rfl;exact rfl)|((with_reducible apply wl_no);exact rfl;exact rfl;exact rfl;exact rfl)|((with_reducible apply wl_noU);exact rfl;exact rfl;exact rfl)
  exact qk_ret1 rfl rfl ⟨_, rfl, hW, hfin⟩
theorem fn_tsControllerRegistrationRequestFeature (w : World) : Fn 67 [] w fun v w' => Rep (Frs w.heap.size w'.heap.size) w' (.sq (sControllerRegistrationRequestFeature.map fldD)) [v] := by
  refine enter Try.func67 rfl Try.ntmps67 rfl ?_
  repeat first|(with_reducible first|apply wc_seq|apply wc_region|apply wl_nil|apply qk_thn|apply wc_block|apply wc_skip|apply wc_ret|apply wc_exit|apply qk_thn_ret|apply qk_in_ret|apply qk_in|apply qk_thn_exit|apply qk_in_exit|apply qk_round_ret|apply qk_round_exit)|((with_reducible apply ws);exact rfl;exact rfl)|((with_reducible apply wl_yes);exact rfl;exact rfl;exact rfl)|((with_reducible apply wl_no);exact rfl;exact rfl;exact rfl;exact rfl)|((with_reducible apply wl_noU);exact rfl;exact rfl;exact rfl)
  have hW : Below w.heap.size w w := ⟨rfl, rfl, rfl, Nat.le_refl _, fun _ _ => rfl⟩
  refine wl_build rfl (cs := [.int .i64 8, .int .i64 0, .int .i64 (-1), .int .i64 (-1), .int .i64 (-1), .int .i64 0, .int .i64 0, .slice none 0 0]) (by kernel_rfl) rfl ?_
  refine wl_build rfl (cs := [.int .i64 2, .int .i64 0, .int .i64 (-1), .int .i64 (-1), .int .i64 (-1), .int .i64 0, .int .i64 0, .slice none 0 0]) (by kernel_rfl) rfl ?_
  refine wl_build rfl (cs := [.int .i64 2, .int .i64 0, .int .i64 (-1), .int .i64 (-1), .int .i64 (-1), .int .i64 0, .int .i64 0, .slice none 0 0]) (by kernel_rfl) rfl ?_
  refine wl_sliceN [[.int .i64 8, .int .i64 0, .int .i64 (-1), .int .i64 (-1), .int .i64 (-1), .int .i64 0, .int .i64 0, .slice none 0 0], [.int .i64 2, .int .i64 0, .int .i64 (-1), .int .i64 (-1), .int .i64 (-1), .int .i64 0, .int .i64 0, .slice none 0 0], [.int .i64 2, .int .i64 0, .int .i64 (-1), .int .i64 (-1), .int .i64 (-1), .int .i64 0, .int .i64 0, .slice none 0 0]] rt_flds rfl rfl (by simp) rfl rfl rfl (fun w2 hbS hgS hsS => ?_)
  have hs_2 := below_of hgS (Nat.le_refl _) (by simp)
  have hz := hW.size
  replace hW := hW.trans (hs_2.mono hW.size)
  have hfin : Rep (Frs w.heap.size w2.heap.size) w2 (.sq (sControllerRegistrationRequestFeature.map fldD)) [.slice (some ⟨w.heap.size, 0, none⟩) 3 3] := by
    simp only [Rep]
    exact ⟨_, 3, rfl, Nat.le_refl _, .inr ⟨w.heap.size, 0, _, rfl, ⟨hz, hbS.lt⟩, hbS.cells, (reps_fcons (rep_fld0 _ _ (.mk 8 0 (-1) (-1) (-1) 0 0 []) rfl) (reps_fcons (rep_fld0 _ _ (.mk 2 0 (-1) (-1) (-1) 0 0 []) rfl) (reps_fcons (rep_fld0 _ _ (.mk 2 0 (-1) (-1) (-1) 0 0 []) rfl) reps_fnil)))⟩⟩
  repeat first|(with_reducible first|apply wc_seq|apply wc_region|apply wl_nil|apply qk_thn|apply wc_block|apply wc_skip|apply wc_ret|apply wc_exit|apply qk_thn_ret|apply qk_in_ret|apply qk_in|apply qk_thn_exit|apply qk_in_exit|apply qk_round_ret|apply qk_round_exit)|((with_reducible apply ws);exact rfl;exact rfl)|((with_reducible apply wl_yes);exact rfl;exact rfl;exact rfl)|((with_reducible apply wl_no);exact rfl;exact rfl;exact rfl;exact rfl)|((with_reducible apply wl_noU);exact rfl;exact rfl;exact rfl)
  exact qk_ret1 rfl rfl ⟨_, rfl, hW, hfin⟩
theorem fn_table (w : World) : Fn 28 [] w fun v w' => ∃ fv, v = .agg #[fv, .int .i64 m.flex] ∧ Sq w'.heap.size w' fv (m.fields.map fldD) := by
  refine enter Try.func28 rfl Try.ntmps28 rfl ?_
  repeat first|(with_reducible first|apply wc_seq|apply wc_region|apply wl_nil|apply qk_thn|apply wc_block|apply wc_skip|apply wc_ret|apply wc_exit|apply qk_thn_ret|apply qk_in_ret|apply qk_in|apply qk_thn_exit|apply qk_in_exit|apply qk_round_ret|apply qk_round_exit)|((with_reducible apply ws);exact rfl;exact rfl)|((with_reducible apply wl_yes);exact rfl;exact rfl;exact rfl)|((with_reducible apply wl_no);exact rfl;exact rfl;exact rfl;exact rfl)|((with_reducible apply wl_noU);exact rfl;exact rfl;exact rfl)
  refine wl_alloc zv_msg rfl rfl (fun w1 hb1 hg1 hs1 => ?_)
  have hs_1 := below_of hg1 (Nat.le_refl _) (by simp)
  repeat first|(with_reducible first|apply wc_seq|apply wc_region|apply wl_nil|apply qk_thn|apply wc_block|apply wc_skip|apply wc_ret|apply wc_exit|apply qk_thn_ret|apply qk_in_ret|apply qk_in|apply qk_thn_exit|apply qk_in_exit|apply qk_round_ret|apply qk_round_exit)|((with_reducible apply ws);exact rfl;exact rfl)|((with_reducible apply wl_yes);exact rfl;exact rfl;exact rfl)|((with_reducible apply wl_no);exact rfl;exact rfl;exact rfl;exact rfl)|((with_reducible apply wl_noU);exact rfl;exact rfl;exact rfl)
  have hW : Below w1.heap.size w1 w1 := ⟨rfl, rfl, rfl, Nat.le_refl _, fun _ _ => rfl⟩
  refine wl_build rfl (cs := [.int .i64 3, .int .i64 0, .int .i64 (-1), .int .i64 (-1), .int .i64 (-1), .int .i64 0, .int .i64 0, .slice none 0 0]) (by kernel_rfl) rfl ?_
  refine wl_build rfl (cs := [.int .i64 7, .int .i64 0, .int .i64 (-1), .int .i64 (-1), .int .i64 (-1), .int .i64 0, .int .i64 0, .slice none 0 0]) (by kernel_rfl) rfl ?_
  refine wl_build rfl (cs := [.int .i64 0, .int .i64 0, .int .i64 (-1), .int .i64 (-1), .int .i64 (-1), .int .i64 0, .int .i64 0, .slice none 0 0]) (by kernel_rfl) rfl ?_
  refine wl_call rfl (by kernel_rfl) rfl ((fn_tsControllerRegistrationRequestListener w1).mono ?_)
  rintro e w2 ⟨sv, rfl, hs_2, hsq3⟩
  obtain ⟨a3, c3, rfl⟩ := rep_sqshape hsq3
  refine ⟨_, rfl, ?_⟩
  replace hsq3 := rep_frw hsq3 hW.size
  replace hW := hW.trans (hs_2.mono hW.size)
  replace hb1 := hb1.below hs_2 hb1.lt
  refine wl_build rfl (cs := [.int .i64 11, .int .i64 0, .int .i64 (-1), .int .i64 (-1), .int .i64 (-1), .int .i64 0, .int .i64 10, .slice a3 (sControllerRegistrationRequestListener.map fldD).length c3]) (by kernel_rfl) rfl ?_
  refine wl_call rfl (by kernel_rfl) rfl ((fn_tsControllerRegistrationRequestFeature w2).mono ?_)
  rintro e w3 ⟨sv, rfl, hs_3, hsq4⟩
  obtain ⟨a4, c4, rfl⟩ := rep_sqshape hsq4
  refine ⟨_, rfl, ?_⟩
  replace hsq4 := rep_frw hsq4 hW.size
  replace hsq3 := rep_fr hsq3 hs_3 (Nat.le_refl _)
  replace hW := hW.trans (hs_3.mono hW.size)
  replace hb1 := hb1.below hs_3 hb1.lt
  refine wl_build rfl (cs := [.int .i64 11, .int .i64 0, .int .i64 (-1), .int .i64 (-1), .int .i64 (-1), .int .i64 0, .int .i64 10, .slice a4 (sControllerRegistrationRequestFeature.map fldD).length c4]) (by kernel_rfl) rfl ?_
  refine wl_sliceN [[.int .i64 3, .int .i64 0, .int .i64 (-1), .int .i64 (-1), .int .i64 (-1), .int .i64 0, .int .i64 0, .slice none 0 0], [.int .i64 7, .int .i64 0, .int .i64 (-1), .int .i64 (-1), .int .i64 (-1), .int .i64 0, .int .i64 0, .slice none 0 0], [.int .i64 0, .int .i64 0, .int .i64 (-1), .int .i64 (-1), .int .i64 (-1), .int .i64 0, .int .i64 0, .slice none 0 0], [.int .i64 11, .int .i64 0, .int .i64 (-1), .int .i64 (-1), .int .i64 (-1), .int .i64 0, .int .i64 10, .slice a3 (sControllerRegistrationRequestListener.map fldD).length c3], [.int .i64 11, .int .i64 0, .int .i64 (-1), .int .i64 (-1), .int .i64 (-1), .int .i64 0, .int .i64 10, .slice a4 (sControllerRegistrationRequestFeature.map fldD).length c4]] rt_flds rfl rfl (by simp) rfl rfl rfl (fun w4 hbS hgS hsS => ?_)
  have hs_4 := below_of hgS (Nat.le_refl _) (by simp)
  have hz := hW.size
  replace hsq3 := rep_fr hsq3 hs_4 (Nat.le_refl _)
  replace hsq4 := rep_fr hsq4 hs_4 (Nat.le_refl _)
  replace hW := hW.trans (hs_4.mono hW.size)
  replace hb1 := hb1.below hs_4 hb1.lt
  have hfin : Rep (Frs w1.heap.size w4.heap.size) w4 (.sq (m.fields.map fldD)) [.slice (some ⟨w3.heap.size, 0, none⟩) 5 5] := by
    simp only [Rep]
    exact ⟨_, 5, rfl, Nat.le_refl _, .inr ⟨w3.heap.size, 0, _, rfl, ⟨hz, hbS.lt⟩, hbS.cells, (reps_fcons (rep_fld0 _ _ (.mk 3 0 (-1) (-1) (-1) 0 0 []) rfl) (reps_fcons (rep_fld0 _ _ (.mk 7 0 (-1) (-1) (-1) 0 0 []) rfl) (reps_fcons (rep_fld0 _ _ (.mk 0 0 (-1) (-1) (-1) 0 0 []) rfl) (reps_fcons (rep_fldS hsq3) (reps_fcons (rep_fldS hsq4) reps_fnil)))))⟩⟩
  refine wl_build rfl (cs := [.slice (some ⟨w3.heap.size, 0, none⟩) 5 5, .int .i64 0]) (by kernel_rfl) rfl ?_
  refine wl_storeBAgg (vs := [.slice (some ⟨w3.heap.size, 0, none⟩) 5 5, .int .i64 0]) rfl rfl rfl tz_msg rfl hb1 rfl (fun wz hbz hgz hsz => ?_)
  repeat first|(with_reducible first|apply wc_seq|apply wc_region|apply wl_nil|apply qk_thn|apply wc_block|apply wc_skip|apply wc_ret|apply wc_exit|apply qk_thn_ret|apply qk_in_ret|apply qk_in|apply qk_thn_exit|apply qk_in_exit|apply qk_round_ret|apply qk_round_exit)|((with_reducible apply ws);exact rfl;exact rfl)|((with_reducible apply wl_yes);exact rfl;exact rfl;exact rfl)|((with_reducible apply wl_no);exact rfl;exact rfl;exact rfl;exact rfl)|((with_reducible apply wl_noU);exact rfl;exact rfl;exact rfl)
  have hW0 := hs_1.trans (hW.mono hs_1.size)
  refine qk_retCell (cs := [.slice (some ⟨w3.heap.size, 0, none⟩) 5 5, .int .i64 0]) rfl rfl ta_msg hbz ⟨_, rfl, hW0.trans (below_of hgz hW0.size (by intro q hq; simp at hq; omega)), _, rfl, ?_⟩
  exact Rep.mono (fun b hb => ⟨by have := hb.2; simp only [Lo]; omega, hgz.block b hb.2 (by have := hb.1; simp; omega)⟩) _ _ hfin
/-- Its cells, at nought; by default; at a version. -/
noncomputable def z0 : List Value := match Try.prog.info? 96 with | some i => (match i.zero with | some z => z.cells.toList | none => []) | none => []
noncomputable def d0 : List Value := match (defF Try.prog 117).bind fun l => setAll l z0 with | some cs => cs | none => []
noncomputable def cs0 (ver : Int) : List Value := .int .i16 ver :: d0.drop 1
theorem d0_eq : (defF Try.prog 117).bind (fun l => setAll l z0) = some d0 := by kernel_rfl
theorem zv (w : World) : (zeroValue 96).run Try.prog w = .ok (.agg z0.toArray) w := by kernel_rfl
theorem fn_new (w : World) : Calls Try.prog 64 #[] w fun e w' => e = .returned (.pointer (some ⟨w.heap.size, 0, none⟩)) ∧ Box w' w.heap.size d0 96 ∧ Below w.heap.size w w' := by
  obtain ⟨l, hl, hset⟩ := Option.bind_eq_some_iff.1 d0_eq
  refine enter (vs := []) Try.func64 rfl Try.ntmps64 rfl ?_
  repeat first|(with_reducible first|apply wc_seq|apply wc_region|apply wl_nil|apply qk_thn|apply wc_block|apply wc_skip|apply wc_ret|apply wc_exit|apply qk_thn_ret|apply qk_in_ret|apply qk_in|apply qk_thn_exit|apply qk_in_exit|apply qk_round_ret|apply qk_round_exit)|((with_reducible apply ws);exact rfl;exact rfl)|((with_reducible apply wl_yes);exact rfl;exact rfl;exact rfl)|((with_reducible apply wl_no);exact rfl;exact rfl;exact rfl;exact rfl)|((with_reducible apply wl_noU);exact rfl;exact rfl;exact rfl)
  refine wl_alloc zv rfl rfl (fun w1 hb1 hg1 hs1 => ?_)
  repeat first|(with_reducible first|apply wc_seq|apply wc_region|apply wl_nil|apply qk_thn|apply wc_block|apply wc_skip|apply wc_ret|apply wc_exit|apply qk_thn_ret|apply qk_in_ret|apply qk_in|apply qk_thn_exit|apply qk_in_exit|apply qk_round_ret|apply qk_round_exit)|((with_reducible apply ws);exact rfl;exact rfl)|((with_reducible apply wl_yes);exact rfl;exact rfl;exact rfl)|((with_reducible apply wl_no);exact rfl;exact rfl;exact rfl;exact rfl)|((with_reducible apply wl_noU);exact rfl;exact rfl;exact rfl)
  have hdef := defF_ok (w := w1) hl (b := w.heap.size) (pre := []) (cs := z0) (post := []) (cs' := d0) (e := 96) (by simpa using hb1) hset
  refine wl_call rfl hdef.1 rfl (hdef.2.mono ?_)
  rintro e w2 ⟨rfl, hb2, hc2⟩
  refine ⟨_, rfl, ?_⟩
  repeat first|(with_reducible first|apply wc_seq|apply wc_region|apply wl_nil|apply qk_thn|apply wc_block|apply wc_skip|apply wc_ret|apply wc_exit|apply qk_thn_ret|apply qk_in_ret|apply qk_in|apply qk_thn_exit|apply qk_in_exit|apply qk_round_ret|apply qk_round_exit)|((with_reducible apply ws);exact rfl;exact rfl)|((with_reducible apply wl_yes);exact rfl;exact rfl;exact rfl)|((with_reducible apply wl_no);exact rfl;exact rfl;exact rfl;exact rfl)|((with_reducible apply wl_noU);exact rfl;exact rfl;exact rfl)
  exact qk_ret1 rfl rfl ⟨rfl, by simpa using hb2, (below_of hg1 (Nat.le_refl _) (by simp)).trans (chg_below hc2 (fun j hj h => by have : j = w.heap.size := h; omega) (by omega))⟩
theorem fn_max (w : World) : Calls Try.prog 27 #[] w fun e w' => e = .returned (.int .i64 (most : Int)) ∧ Below w.heap.size w w' := by
  refine enter (vs := []) Try.func27 rfl Try.ntmps27 rfl ?_
  repeat first|(with_reducible first|apply wc_seq|apply wc_region|apply wl_nil|apply qk_thn|apply wc_block|apply wc_skip|apply wc_ret|apply wc_exit|apply qk_thn_ret|apply qk_in_ret|apply qk_in|apply qk_thn_exit|apply qk_in_exit|apply qk_round_ret|apply qk_round_exit)|((with_reducible apply ws);exact rfl;exact rfl)|((with_reducible apply wl_yes);exact rfl;exact rfl;exact rfl)|((with_reducible apply wl_no);exact rfl;exact rfl;exact rfl;exact rfl)|((with_reducible apply wl_noU);exact rfl;exact rfl;exact rfl)
  refine wl_call rfl (by kernel_rfl) rfl ((fn_new w).mono ?_)
  rintro e w1 ⟨rfl, hb1, hw1⟩
  refine ⟨_, rfl, ?_⟩
  repeat first|(with_reducible first|apply wc_seq|apply wc_region|apply wl_nil|apply qk_thn|apply wc_block|apply wc_skip|apply wc_ret|apply wc_exit|apply qk_thn_ret|apply qk_in_ret|apply qk_in|apply qk_thn_exit|apply qk_in_exit|apply qk_round_ret|apply qk_round_exit)|((with_reducible apply ws);exact rfl;exact rfl)|((with_reducible apply wl_yes);exact rfl;exact rfl;exact rfl)|((with_reducible apply wl_no);exact rfl;exact rfl;exact rfl;exact rfl)|((with_reducible apply wl_noU);exact rfl;exact rfl;exact rfl)
  have hmax : Calls Try.prog 65 #[.pointer (some ⟨w.heap.size, 0, none⟩)] w1 fun e w' => e = .returned (.int .i16 (most : Int)) ∧ w' = w1 := by
    refine enter (vs := [.pointer (some ⟨w.heap.size, 0, none⟩)]) Try.func65 rfl Try.ntmps65 rfl ?_
    repeat first|(with_reducible first|apply wc_seq|apply wc_region|apply wl_nil|apply qk_thn|apply wc_block|apply wc_skip|apply wc_ret|apply wc_exit|apply qk_thn_ret|apply qk_in_ret|apply qk_in|apply qk_thn_exit|apply qk_in_exit|apply qk_round_ret|apply qk_round_exit)|((with_reducible apply ws);exact rfl;exact rfl)|((with_reducible apply wl_yes);exact rfl;exact rfl;exact rfl)|((with_reducible apply wl_no);exact rfl;exact rfl;exact rfl;exact rfl)|((with_reducible apply wl_noU);exact rfl;exact rfl;exact rfl)
    exact qk_ret1 rfl rfl ⟨rfl, rfl⟩
  refine wl_call rfl (by kernel_rfl) rfl ((hmax).mono ?_)
  rintro e w2 ⟨rfl, rfl⟩
  refine ⟨_, rfl, ?_⟩
  refine wl_conv .i64 rfl ti_i16 ti_i64 rfl (r := (most : Int)) rfl ?_
  repeat first|(with_reducible first|apply wc_seq|apply wc_region|apply wl_nil|apply qk_thn|apply wc_block|apply wc_skip|apply wc_ret|apply wc_exit|apply qk_thn_ret|apply qk_in_ret|apply qk_in|apply qk_thn_exit|apply qk_in_exit|apply qk_round_ret|apply qk_round_exit)|((with_reducible apply ws);exact rfl;exact rfl)|((with_reducible apply wl_yes);exact rfl;exact rfl;exact rfl)|((with_reducible apply wl_no);exact rfl;exact rfl;exact rfl;exact rfl)|((with_reducible apply wl_noU);exact rfl;exact rfl;exact rfl)
  exact qk_ret1 rfl rfl ⟨rfl, hw1⟩
theorem fn_set (w : World) (b : Nat) (x : Value) (r : List Value) (ver : Int) (hb : Box w b (x :: r) 96) : Calls Try.prog 68 #[.pointer (some ⟨b, 0, none⟩), .int .i16 ver] w fun e w' => e = .returned (.tuple #[]) ∧ Box w' b (.int .i16 ver :: r) 96 ∧ w.grownBy w' (some b) := by
  refine enter (vs := [.pointer (some ⟨b, 0, none⟩), .int .i16 ver]) Try.func68 rfl Try.ntmps68 rfl ?_
  repeat first|(with_reducible first|apply wc_seq|apply wc_region|apply wl_nil|apply qk_thn|apply wc_block|apply wc_skip|apply wc_ret|apply wc_exit|apply qk_thn_ret|apply qk_in_ret|apply qk_in|apply qk_thn_exit|apply qk_in_exit|apply qk_round_ret|apply qk_round_exit)|((with_reducible apply ws);exact rfl;exact rfl)|((with_reducible apply wl_yes);exact rfl;exact rfl;exact rfl)|((with_reducible apply wl_no);exact rfl;exact rfl;exact rfl;exact rfl)|((with_reducible apply wl_noU);exact rfl;exact rfl;exact rfl)
  refine wl_storeB (i := 0) rfl rfl to_i16 rfl hb rfl (fun w1 hb1 hg1 _ => ?_)
  exact wl_nil (qk_end0 rfl ⟨rfl, hb1, hg1⟩)
theorem z0_hd : z0 = .int .i16 0 :: z0.drop 1 := by kernel_rfl
theorem zf_ok : zfsB true m.fields (z0.drop 1) = true := by kernel_rfl
theorem tab_all : (List.range (most + 1)).all (fun v => tabFs (v : Int) m.fields) = true := by kernel_rfl
theorem tab_ok (v : Nat) (h : v ≤ most) : tabFs (v : Int) m.fields = true := List.all_eq_true.1 tab_all v (List.mem_range.2 (by omega))
theorem tabG_ok : tabGs m.fields = true := by kernel_rfl
theorem len_ok1 : m.fields.length ≤ 1000 := by decide
theorem ap : ∀ v : Nat, v ≤ most → appRun Try.prog (kt 92 93 (v : Int)) 5 70 (.int .i16 :: shP true m.fields) = some (some .dst, exP (v : Int) true (m.flexible (v : Int)) 1 0 1 m.fields, true)
  | 0, _ => by kernel_rfl
  | n + 1, h => absurd h (by simp only [most]; omega)
abbrev txF : Nat := 999999
abbrev sxF : Nat := 113
def k0 : Fk := ⟨80, txF, 999999, sxF, [], []⟩
theorem no_fn : isFn Try.prog 999999 = true → False := fun h => Bool.noConfusion (h.symm.trans (show isFn Try.prog 999999 = false by kernel_rfl))
theorem txP : isFn Try.prog txF = true → CvP Try.prog txF (fun _ => True) fun t => [valK 8 0 t] := fun h => (no_fn h).elim
theorem sxP : isFn Try.prog sxF = true → SxP Try.prog sxF := fun _ => Impl.sixP
theorem k0_ok : FkOk Try.prog k0 true := ⟨Impl.atP, txP, fun h => (no_fn h).elim, sxP, (fun _ _ h => by cases h), (fun _ _ h => by cases h)⟩
theorem mk_sControllerRegistrationRequestListener : CvP Try.prog 118 (GiveP true sControllerRegistrationRequestListener) (partK true sControllerRegistrationRequestListener) := makeFn_ok k0_ok Impl.setP mixed (by kernel_rfl)
def k1 : Fk := { k0 with mks := (118, sControllerRegistrationRequestListener) :: k0.mks }
theorem k1_ok : FkOk Try.prog k1 true := k0_ok.add mk_sControllerRegistrationRequestListener
theorem mk_sControllerRegistrationRequestFeature : CvP Try.prog 119 (GiveP true sControllerRegistrationRequestFeature) (partK true sControllerRegistrationRequestFeature) := makeFn_ok k1_ok Impl.setP mixed (by kernel_rfl)
def k2 : Fk := { k1 with mks := (119, sControllerRegistrationRequestFeature) :: k1.mks }
theorem k2_ok : FkOk Try.prog k2 true := k1_ok.add mk_sControllerRegistrationRequestFeature

theorem fillP : FillP Try.prog 69 true m.fields := fillFn_ok k2_ok Impl.setP mixed (by kernel_rfl)
/-- A message made of what the tree says. -/
theorem fn_make (v : Nat) (hv : v ≤ most) (t : Tree) (ht : t.ok) (w : World) (ts : List Value) (hrep : Rep (Lo w.heap.size) w (treeD (fitP (v : Int) m.fields t)) ts) (hl : (wPart (v : Int) (m.flexible (v : Int)) m.fields t).length ≤ lim) :
    Fn 29 [.int .i64 (v : Int), .agg ts.toArray] w fun d w' => Own w' w.heap.size 5 d (wPart (v : Int) (m.flexible (v : Int)) m.fields t) := by
  obtain ⟨t', ht'⟩ : ∃ t', t' = fitP (v : Int) m.fields t := ⟨_, rfl⟩
  have hgive : GiveP true m.fields t' := by rw [ht']; exact give_ok (v : Int) true tabG_ok ht false
  obtain ⟨hfit, hwire⟩ := fitt_ok (tab_ok v hv) ht (m.flexible (v : Int))
  replace hfit : FitT (v : Int) m.fields t' := by rw [ht']; exact hfit
  replace hwire : wPart (v : Int) (m.flexible (v : Int)) m.fields t' = wPart (v : Int) (m.flexible (v : Int)) m.fields t := by rw [ht']; exact hwire
  rw [← ht'] at hrep
  have hvm : v < 32768 := by simp only [most] at hv; omega
  refine enter (vs := [.int .i64 (v : Int), .agg ts.toArray]) Try.func29 rfl Try.ntmps29 rfl ?_
  obtain ⟨sv, lv, uv, rfl, _, _, _⟩ := tree_cells hrep
  repeat first|(with_reducible first|apply wc_seq|apply wc_region|apply wl_nil|apply qk_thn|apply wc_block|apply wc_skip|apply wc_ret|apply wc_exit|apply qk_thn_ret|apply qk_in_ret|apply qk_in|apply qk_thn_exit|apply qk_in_exit|apply qk_round_ret|apply qk_round_exit)|((with_reducible apply ws);exact rfl;exact rfl)|((with_reducible apply wl_yes);exact rfl;exact rfl;exact rfl)|((with_reducible apply wl_no);exact rfl;exact rfl;exact rfl;exact rfl)|((with_reducible apply wl_noU);exact rfl;exact rfl;exact rfl)
  refine wl_box1 (cs := [.int .i64 t'.n, sv, .bool t'.nul, lv, uv]) rfl rfl rfl (fun w1 hb1 hg1 hs1 => ?_)
  repeat first|(with_reducible first|apply wc_seq|apply wc_region|apply wl_nil|apply qk_thn|apply wc_block|apply wc_skip|apply wc_ret|apply wc_exit|apply qk_thn_ret|apply qk_in_ret|apply qk_in|apply qk_thn_exit|apply qk_in_exit|apply qk_round_ret|apply qk_round_exit)|((with_reducible apply ws);exact rfl;exact rfl)|((with_reducible apply wl_yes);exact rfl;exact rfl;exact rfl)|((with_reducible apply wl_no);exact rfl;exact rfl;exact rfl;exact rfl)|((with_reducible apply wl_noU);exact rfl;exact rfl;exact rfl)
  refine wl_build (ps := []) (vs := []) (cs := z0) rfl (by kernel_rfl) rfl ?_
  refine wl_box1 (v := .agg z0.toArray) (cs := z0) rfl rfl rfl (fun w2 hb2 hg2 hs2 => ?_)
  repeat first|(with_reducible first|apply wc_seq|apply wc_region|apply wl_nil|apply qk_thn|apply wc_block|apply wc_skip|apply wc_ret|apply wc_exit|apply qk_thn_ret|apply qk_in_ret|apply qk_in|apply qk_thn_exit|apply qk_in_exit|apply qk_round_ret|apply qk_round_exit)|((with_reducible apply ws);exact rfl;exact rfl)|((with_reducible apply wl_yes);exact rfl;exact rfl;exact rfl)|((with_reducible apply wl_no);exact rfl;exact rfl;exact rfl;exact rfl)|((with_reducible apply wl_noU);exact rfl;exact rfl;exact rfl)
  refine wl_conv .i16 rfl ti_i64 ti_i16 rfl (r := (v : Int)) (be2_ver v hvm) ?_
  rw [z0_hd] at hb2
  refine wl_call rfl (by kernel_rfl) rfl ((fn_set w2 w1.heap.size _ _ (v : Int) hb2).mono ?_)
  rintro e w3 ⟨rfl, hb3, hg3⟩
  refine ⟨_, rfl, ?_⟩
  have hz3 := hg3.size
  have hw13 : Below w1.heap.size w1 w3 := (below_of hg2 (Nat.le_refl _) (by simp)).trans (below_of hg3 (by omega) (by intro q hq; simp at hq; omega))
  have hw3 : Below w.heap.size w w3 := (below_of hg1 (Nat.le_refl _) (by simp)).trans (hw13.mono (by omega))
  have hbt3 := hb1.below hw13 hb1.lt
  repeat first|(with_reducible first|apply wc_seq|apply wc_region|apply wl_nil|apply qk_thn|apply wc_block|apply wc_skip|apply wc_ret|apply wc_exit|apply qk_thn_ret|apply qk_in_ret|apply qk_in|apply qk_thn_exit|apply qk_in_exit|apply qk_round_ret|apply qk_round_exit)|((with_reducible apply ws);exact rfl;exact rfl)|((with_reducible apply wl_yes);exact rfl;exact rfl;exact rfl)|((with_reducible apply wl_no);exact rfl;exact rfl;exact rfl;exact rfl)|((with_reducible apply wl_noU);exact rfl;exact rfl;exact rfl)
  refine wl_loadBAgg (cs := [.int .i64 t'.n, sv, .bool t'.nul, lv, uv]) rfl Impl.ta_tree rfl hbt3 ?_
  obtain ⟨zs, ze, hz⟩ := zfsB_out zf_ok
  have hS : FSt w.heap.size (w1.heap.size + 1) w1.heap.size 96 w3 (.lit (.int .i16 (v : Int)) :: zs ++ [.lit (.map none)]) := ⟨_, hb3, by
    rw [List.cons_append, ← ze]
    simp only [Reps]
    exact ⟨[_], _, rfl, by simp [Rep], zDs_rep _ _ _⟩⟩
  refine wl_call rfl (by kernel_rfl) rfl ((fillP.2 w3 w.heap.size (w1.heap.size + 1) w1.heap.size _ _ zs t' _ hS hz (hrep.below hw3 (Nat.le_refl _)) hgive ⟨by omega, by omega⟩ (by omega)).mono ?_)
  rintro e w4 ⟨rfl, hS4, hc4⟩
  refine ⟨_, rfl, ?_⟩
  repeat first|(with_reducible first|apply wc_seq|apply wc_region|apply wl_nil|apply qk_thn|apply wc_block|apply wc_skip|apply wc_ret|apply wc_exit|apply qk_thn_ret|apply qk_in_ret|apply qk_in|apply qk_thn_exit|apply qk_in_exit|apply qk_round_ret|apply qk_round_exit)|((with_reducible apply ws);exact rfl;exact rfl)|((with_reducible apply wl_yes);exact rfl;exact rfl;exact rfl)|((with_reducible apply wl_no);exact rfl;exact rfl;exact rfl;exact rfl)|((with_reducible apply wl_noU);exact rfl;exact rfl;exact rfl)
  obtain ⟨cs4, hb4, hr4⟩ := hS4
  have hz4 := hc4.size
  have hb4l := hb4.lt
  have hr4' : Reps (Lo w4.heap.size) w4 (.lit (.int .i16 (v : Int)) :: partK true m.fields t') cs4 := Reps.mono (fun b hb => ⟨hb.2, rfl⟩) _ _ hr4
  have hsem : semL [.lit (.int .i16 (v : Int)) :: partK true m.fields t'] (exP (v : Int) true (m.flexible (v : Int)) 1 0 1 m.fields) = some (wPart (v : Int) (m.flexible (v : Int)) m.fields t) := by
    rw [← hwire]
    exact exP_of (ver := (v : Int)) (tg := true) (flex := m.flexible (v : Int)) (fs := m.fields) (m := 1) (k := 0) (off := 1) (t := t') (E := [.lit (.int .i16 (v : Int)) :: partK true m.fields t']) (pre := [.lit (.int .i16 (v : Int))]) (post := []) (fun _ => rfl)
      (fun pre' post' h1 h2 h3 => exFs_ok (v : Int) true (m.flexible (v : Int)) (fun _ => rfl) m.fields 0 t' _ 1 0 1 pre' post' h1 h2 h3 rfl hfit.1) (by simp) (by intro d hd; simp at hd; subst hd; simp [D.width]) rfl hfit.1 hfit.2
  have hw : IntKind.i16.wrap (v : Int) = (v : Int) := be2_ver v hvm
  have hcall := app_ok (Rdk.tlenOk _ _) (fnsOk _ _ _) (Rdk.teachOk _ _) (ap v hv) (B := w4.heap.size) (b := w1.heap.size) (w := w4) (ds := .lit (.int .i16 (v : Int)) :: partK true m.fields t') (cs := cs4) (d := .slice none 0 0) (xs := []) ⟨hb4.cells, hb4l, hr4'⟩ (by
    simp only [shDs, shD, hw, if_true, sh_partK]
    rfl) (lits_head hr4') (Own.nil w4 w4.heap.size 5) (Nat.le_refl _) hsem (by simp only [List.length_nil]; omega)
  refine wl_call rfl hcall.1 rfl (hcall.2.mono ?_)
  rintro e w5 ⟨d5, rfl, ho5, hg5⟩
  refine ⟨_, rfl, ?_⟩
  have hw45 : Below w4.heap.size w4 w5 := hg5.below (Nat.le_refl _) (by simp [Value.ownBlock])
  have hw34 : Below w.heap.size w3 w4 := chg_below hc4 (fun j hj h => by rcases h with h | h <;> omega) (by omega)
  repeat first|(with_reducible first|apply wc_seq|apply wc_region|apply wl_nil|apply qk_thn|apply wc_block|apply wc_skip|apply wc_ret|apply wc_exit|apply qk_thn_ret|apply qk_in_ret|apply qk_in|apply qk_thn_exit|apply qk_in_exit|apply qk_round_ret|apply qk_round_exit)|((with_reducible apply ws);exact rfl;exact rfl)|((with_reducible apply wl_yes);exact rfl;exact rfl;exact rfl)|((with_reducible apply wl_no);exact rfl;exact rfl;exact rfl;exact rfl)|((with_reducible apply wl_noU);exact rfl;exact rfl;exact rfl)
  rw [List.nil_append] at ho5
  exact qk_ret1 rfl rfl ⟨_, rfl, (hw3.trans hw34).trans (hw45.mono (by omega)), ho5.mono (by omega)⟩
end
end Go.Proofs.Ytmihblfjhoblmaa.BControllerRegistrationRequest

/- A tree handed to the thin package says what it said. -/
namespace Go.Proofs.Ytmihblfjhoblmaa.Impl
open Go Go.RowKit

def GivenOK (t : Tree) : Prop := ∀ (B : Nat) (w : World) (ts : List Value), t.ok → t.small → B ≤ w.heap.size → Rep (Lo B) w (treeD t) ts →
  Fn 15 [.agg ts.toArray] w fun v w' => ∃ cs : List Value, v = .agg cs.toArray ∧ Rep (In B w.heap.size w') w' (treeD t) cs

section
set_option maxRecDepth 100000
theorem given_of (t : Tree) (hF : ∀ x ∈ t.l, GivenOK x) : GivenOK t := by
  intro B w ts hok hsm hB ht
  obtain ⟨sv, lv, uv, rfl, hs, hl, hu⟩ := tree_cells ht
  obtain ⟨la, lc, rfl, _⟩ := hl.shape
  obtain ⟨sa, sc, rfl, _⟩ := hs.shape
  obtain ⟨ua, uc, rfl, _⟩ := hu.shape
  have hln := hsm.lens
  refine enter Try.func15 rfl Try.ntmps15 rfl ?_
  repeat first|(with_reducible first|apply wc_seq|apply wc_region|apply wl_nil|apply qk_thn|apply wc_block|apply wc_skip|apply wc_ret|apply wc_exit|apply qk_thn_ret|apply qk_in_ret|apply qk_in|apply qk_thn_exit|apply qk_in_exit|apply qk_round_ret|apply qk_round_exit)|((with_reducible apply ws);exact rfl;exact rfl)|((with_reducible apply wl_yes);exact rfl;exact rfl;exact rfl)|((with_reducible apply wl_no);exact rfl;exact rfl;exact rfl;exact rfl)|((with_reducible apply wl_noU);exact rfl;exact rfl;exact rfl)
  refine wl_box1 rfl rfl rfl (fun w1 hb1 hg1 hs1 => wl_alloc zv_tree rfl rfl (fun w2 hb2 hg2 hs2 => ?_))
  have hbt2 : Box w2 w.heap.size [.int .i64 t.n, .slice sa (t.s.map byteD).length sc, .bool t.nul, .slice la (t.l.map treeD).length lc, .slice ua (t.u.map tagD).length uc] 26 := hb1.kept hg2 (by simp)
  have hw2 : Below w.heap.size w w2 := (below_of hg1 (Nat.le_refl _) (by simp)).trans (below_of hg2 (by omega) (by simp))
  refine wl_nil (qk_thn (wc_seq (wc_region ?_)))
  repeat first|((with_reducible apply ws);exact rfl;exact rfl)|((with_reducible apply wl_yes);exact rfl;exact rfl;exact rfl)|((with_reducible apply wl_no);exact rfl;exact rfl;exact rfl;exact rfl)|((with_reducible apply wl_noU);exact rfl;exact rfl;exact rfl)
  refine wl_loadB rfl to_i64 rfl hbt2 rfl ?_
  repeat first|((with_reducible apply ws);exact rfl;exact rfl)|((with_reducible apply wl_yes);exact rfl;exact rfl;exact rfl)|((with_reducible apply wl_no);exact rfl;exact rfl;exact rfl;exact rfl)|((with_reducible apply wl_noU);exact rfl;exact rfl;exact rfl)
  refine wl_loadB rfl to_bytes rfl hbt2 rfl ?_
  repeat first|((with_reducible apply ws);exact rfl;exact rfl)|((with_reducible apply wl_yes);exact rfl;exact rfl;exact rfl)|((with_reducible apply wl_no);exact rfl;exact rfl;exact rfl;exact rfl)|((with_reducible apply wl_noU);exact rfl;exact rfl;exact rfl)
  refine wl_loadB rfl to_bool rfl hbt2 rfl ?_
  refine wl_build rfl (cs := [.int .i64 t.n, .slice sa (t.s.map byteD).length sc, .bool t.nul, .slice none 0 0, .slice none 0 0]) (by kernel_rfl) rfl ?_
  refine wl_alloc zv_tree rfl rfl (fun w3 hb3 hg3 hs3 => ?_)
  refine wl_storeBAgg (vs := [.int .i64 t.n, .slice sa (t.s.map byteD).length sc, .bool t.nul, .slice none 0 0, .slice none 0 0]) rfl rfl rfl tz_tree rfl hb3 rfl (fun w4 hb4 hg4 hs4 => ?_)
  have hbt4 := (hbt2.kept hg3 (by simp)).kept hg4 (by simp; omega)
  have hbz4 := (hb2.kept hg3 (by simp)).kept hg4 (by simp; omega)
  have hw4 : Below w.heap.size w w4 := (hw2.trans (below_of hg3 (by omega) (by simp))).trans (below_of hg4 (by omega) (by intro k hk; simp at hk; omega))
  refine wl_nil (qk_thn ?_)
  refine wc_cut (α := Value) (fun d => [(3, .pointer (some ⟨w2.heap.size, 0, none⟩)), (2, .pointer (some ⟨w1.heap.size, 0, none⟩)), (1, .pointer (some ⟨w.heap.size, 0, none⟩))])
    (fun d w' => Below w.heap.size w w' ∧ w4.heap.size ≤ w'.heap.size ∧ Box w' w.heap.size [.int .i64 t.n, .slice sa (t.s.map byteD).length sc, .bool t.nul, .slice la (t.l.map treeD).length lc, .slice ua (t.u.map tagD).length uc] 26 ∧ Box w' w1.heap.size [.int .i64 0, .slice none 0 0, .bool false, .slice none 0 0, .slice none 0 0] 39 ∧ Box w' w2.heap.size [.int .i64 t.n, .slice sa (t.s.map byteD).length sc, .bool t.nul, d, .slice none 0 0] 39 ∧ RowD B w4.heap.size w2.heap.size 39 5 w' d (t.l.map treeD)) ?_ ?_
  · repeat first|(with_reducible first|apply wc_seq|apply wc_region|apply wl_nil|apply qk_thn|apply wc_block|apply wc_skip|apply wc_ret|apply wc_exit|apply qk_thn_ret|apply qk_in_ret|apply qk_in|apply qk_thn_exit|apply qk_in_exit|apply qk_round_ret|apply qk_round_exit)|((with_reducible apply ws);exact rfl;exact rfl)|((with_reducible apply wl_yes);exact rfl;exact rfl;exact rfl)|((with_reducible apply wl_no);exact rfl;exact rfl;exact rfl;exact rfl)|((with_reducible apply wl_noU);exact rfl;exact rfl;exact rfl)
    refine wl_loadB rfl Go.Proofs.Ytmihblfjhoblmaa.to_trees rfl hbt4 rfl ?_
    repeat first|(with_reducible first|apply wc_seq|apply wc_region|apply wl_nil|apply qk_thn|apply wc_block|apply wc_skip|apply wc_ret|apply wc_exit|apply qk_thn_ret|apply qk_in_ret|apply qk_in|apply qk_thn_exit|apply qk_in_exit|apply qk_round_ret|apply qk_round_exit)|((with_reducible apply ws);exact rfl;exact rfl)|((with_reducible apply wl_yes);exact rfl;exact rfl;exact rfl)|((with_reducible apply wl_no);exact rfl;exact rfl;exact rfl;exact rfl)|((with_reducible apply wl_noU);exact rfl;exact rfl;exact rfl)
    refine wc_loop (α := PtS) (fun s => [(18, .int .i64 (s.i : Int)), (17, .int .i64 ((t.l.map treeD).length : Int)), (16, .slice la (t.l.map treeD).length lc), (3, .pointer (some ⟨w2.heap.size, 0, none⟩)), (2, .pointer (some ⟨w1.heap.size, 0, none⟩)), (1, .pointer (some ⟨w.heap.size, 0, none⟩))])
      (fun s w' => s.i ≤ t.l.length ∧ Below w.heap.size w w' ∧ w4.heap.size ≤ w'.heap.size ∧ Box w' w.heap.size [.int .i64 t.n, .slice sa (t.s.map byteD).length sc, .bool t.nul, .slice la (t.l.map treeD).length lc, .slice ua (t.u.map tagD).length uc] 26 ∧ Box w' w1.heap.size [.int .i64 0, .slice none 0 0, .bool false, .slice none 0 0, .slice none 0 0] 39 ∧ Box w' w2.heap.size [.int .i64 t.n, .slice sa (t.s.map byteD).length sc, .bool t.nul, s.d, .slice none 0 0] 39 ∧ RowD B w4.heap.size w2.heap.size 39 5 w' s.d ((t.l.take s.i).map treeD)) (fun s => t.l.length - s.i) ⟨0, .slice none 0 0, []⟩ ⟨rfl, rfl, rfl, rfl, rfl, rfl, trivial⟩ ⟨Nat.zero_le _, hw4, Nat.le_refl _, hbt4, hbz4, hb4, RowD.nil _ _ _ _ _ _⟩ ?_
    rintro ⟨i, d, _⟩ w12 ⟨hi, hw12, hs1012, hbt12, hbr12, hbq12, hrd12⟩
    simp only [] at hi hbq12 hrd12
    change WC _ _ _ _ [(18, .int .i64 (i : Int)), (17, .int .i64 ((t.l.map treeD).length : Int)), (16, .slice la (t.l.map treeD).length lc), (3, .pointer (some ⟨w2.heap.size, 0, none⟩)), (2, .pointer (some ⟨w1.heap.size, 0, none⟩)), (1, .pointer (some ⟨w.heap.size, 0, none⟩))] _
    repeat first|(with_reducible first|apply wc_seq|apply wc_region|apply wl_nil|apply qk_thn|apply wc_block|apply wc_skip|apply wc_ret|apply wc_exit|apply qk_thn_ret|apply qk_in_ret|apply qk_in|apply qk_thn_exit|apply qk_in_exit|apply qk_round_ret|apply qk_round_exit)|((with_reducible apply ws);exact rfl;exact rfl)|((with_reducible apply wl_yes);exact rfl;exact rfl;exact rfl)|((with_reducible apply wl_no);exact rfl;exact rfl;exact rfl;exact rfl)|((with_reducible apply wl_noU);exact rfl;exact rfl;exact rfl)
    by_cases hlt : i < t.l.length
    · refine wc_yes rfl (by simpa using hlt) ?_
      obtain ⟨b, off, c', cs, hv, hbB, hcs, hlen, hr⟩ := (hl.below (hw12.mono hB) (Nat.le_refl _)).get (sz := 5) (i := i) (by intro d hd; obtain ⟨x, _, rfl⟩ := List.mem_map.1 hd; exact treeD_width x) (by simpa using hlt)
      simp only [Value.slice.injEq, List.length_map] at hv
      obtain ⟨rfl, _, rfl⟩ := hv
      simp only [List.getElem_map] at hr
      obtain ⟨hcone, _⟩ := treeG_one hr
      repeat first|(with_reducible first|apply wc_seq|apply wc_region|apply wl_nil|apply qk_thn|apply wc_block|apply wc_skip|apply wc_ret|apply wc_exit|apply qk_thn_ret|apply qk_in_ret|apply qk_in|apply qk_thn_exit|apply qk_in_exit|apply qk_round_ret|apply qk_round_exit)|((with_reducible apply ws);exact rfl;exact rfl)|((with_reducible apply wl_yes);exact rfl;exact rfl;exact rfl)|((with_reducible apply wl_no);exact rfl;exact rfl;exact rfl;exact rfl)|((with_reducible apply wl_noU);exact rfl;exact rfl;exact rfl)
      refine wl_indexAddr rfl rfl Go.Proofs.Ytmihblfjhoblmaa.es_trees rfl (by simpa using hlt) ?_
      refine wl_loadAgg rfl (by rw [hlen]; exact Go.Proofs.Ytmihblfjhoblmaa.ta_tree) rfl (fun j v e => hcs.cell e) ?_
      refine wl_alloc Go.Proofs.Ytmihblfjhoblmaa.zv_tree rfl rfl (fun w13 hb13 hg13 hs13 => ?_)
      refine wl_storeBAgg rfl rfl rfl (by rw [hlen]; exact Go.Proofs.Ytmihblfjhoblmaa.tz_tree) hcone hb13 (by rw [hlen]; rfl) (fun w14 hb14 hg14 hs14 => ?_)
      have hw1214 : Below w12.heap.size w12 w14 := (below_of hg13 (Nat.le_refl _) (by simp)).trans (below_of hg14 (by omega) (by intro k hk; simp at hk; omega))
      have hw14 : Below w.heap.size w w14 := hw12.trans (hw1214.mono (by omega))
      have hrd14 := hrd12.below hw1214
      have hbr14 := hbr12.below hw1214 hbr12.lt
      have hbt14 := hbt12.below hw1214 hbt12.lt
      have hbq14 := hbq12.below hw1214 hbq12.lt
      have hdl : ∀ g, d.ownBlock = some g → w4.heap.size ≤ g ∧ g < w12.heap.size := hrd12.low
      repeat first|(with_reducible first|apply wc_seq|apply wc_region|apply wl_nil|apply qk_thn|apply wc_block|apply wc_skip|apply wc_ret|apply wc_exit|apply qk_thn_ret|apply qk_in_ret|apply qk_in|apply qk_thn_exit|apply qk_in_exit|apply qk_round_ret|apply qk_round_exit)|((with_reducible apply ws);exact rfl;exact rfl)|((with_reducible apply wl_yes);exact rfl;exact rfl;exact rfl)|((with_reducible apply wl_no);exact rfl;exact rfl;exact rfl;exact rfl)|((with_reducible apply wl_noU);exact rfl;exact rfl;exact rfl)
      refine wc_parS [(0, .pointer (some ⟨w2.heap.size, 0 + 3, none⟩)), (1, d), (2, .agg cs.toArray), (6, .pointer (some ⟨w2.heap.size, 0 + 3, none⟩))] [7, 5, 4, 3]
        (fun vals w' => Below w.heap.size w w' ∧ w14.heap.size ≤ w'.heap.size ∧ Box w' w.heap.size [.int .i64 t.n, .slice sa (t.s.map byteD).length sc, .bool t.nul, .slice (some ⟨b, off, none⟩) (t.l.map treeD).length lc, .slice ua (t.u.map tagD).length uc] 26 ∧ Box w' w1.heap.size [.int .i64 0, .slice none 0 0, .bool false, .slice none 0 0, .slice none 0 0] 39 ∧ Box w' w12.heap.size cs 26 ∧ match vals with
          | [] => Below w14.heap.size w14 w'
          | [v] => Below w14.heap.size w14 w' ∧ ∃ xs' : List Value, v = .agg xs'.toArray ∧ Rep (In B w14.heap.size w') w' (treeD t.l[i]) xs'
          | [v, _] => Below w14.heap.size w14 w' ∧ ∃ (b8 : Nat) (xs' : List Value), v = .slice (some ⟨b8, 0, none⟩) 1 1 ∧ Box w' b8 xs' 39 ∧ xs'.length = 5 ∧ (xs'.all fun v => v.oneCell') = true ∧ Rep (In B w14.heap.size w') w' (treeD t.l[i]) xs'
          | [v, _, _] => Box w' w2.heap.size [.int .i64 t.n, .slice sa (t.s.map byteD).length sc, .bool t.nul, d, .slice none 0 0] 39 ∧ RowD B w4.heap.size w2.heap.size 39 5 w' v ((t.l.take (i + 1)).map treeD)
          | _ :: v :: _ => Box w' w2.heap.size [.int .i64 t.n, .slice sa (t.s.map byteD).length sc, .bool t.nul, v, .slice none 0 0] 39 ∧ RowD B w4.heap.size w2.heap.size 39 5 w' v ((t.l.take (i + 1)).map treeD))
        mixed rfl rfl rfl rfl rfl (by show ([0,1,2,6] : List Nat).Nodup; decide) rfl rfl (by decide) rfl rfl rfl rfl ⟨hw14.drew, Nat.le_refl _, hbt14, hbr14, hb14, (Below.refl _ w14).drew⟩ ?_ ⟨?_, ?_, ?_, ?_, trivial⟩ ?_
      · intro p hp vals w' hC hnp a k
        obtain ⟨hC1, hC2, hC3, hC4, hC5, hC6⟩ := hC
        simp only [List.mem_cons, List.not_mem_nil, or_false] at hp
        rcases hp with rfl | rfl | rfl | rfl
        · exact gv rfl rfl (rn_fieldAddr k rfl fo_tree3)
        · have hbx : Box w' w2.heap.size [.int .i64 t.n, .slice sa (t.s.map byteD).length sc, .bool t.nul, d, .slice none 0 0] 39 := by
            match vals, hC6, hnp with
            | [], h, _ => exact hbq14.below h hbq14.lt
            | [_], h, _ => exact hbq14.below h.1 hbq14.lt
            | [_, _], h, _ => exact hbq14.below h.1 hbq14.lt
            | [_, _, _], h, _ => exact h.1
            | _ :: _ :: _ :: _ :: r, _, hnp =>
              have := hnp 7 (by rw [show ([7, 5, 4, 3] : List Nat).length - (_ :: _ :: _ :: _ :: r).length = 0 from by simp only [List.length_cons, List.length_nil]; omega]; simp)
              exact absurd (show true = false from this) (by simp)
          exact gv rfl rfl (rn_load k rfl to_trees (hbx.cell0 (i := 3) rfl))
        · exact gv rfl rfl (rn_loadBAgg k rfl (by rw [hlen]; exact Go.Proofs.Ytmihblfjhoblmaa.ta_tree) hC5)
        · exact gv rfl rfl (rn_fieldAddr k rfl fo_tree3)
      · rintro vals w' hvl ⟨hC1, hC2, hC3, hC4, hC5, hC6⟩ a k
        match vals, hvl with
        | [v9, v8, v7], _ =>
          obtain ⟨hbx, hrd⟩ := hC6
          obtain ⟨a9, c9, rfl⟩ := hrd.shape
          refine ⟨_, rfl, does_storeB k rfl rfl to_trees rfl hbx rfl (fun w'' hbx'' hg'' hs'' => ⟨hC1.trans (below_of hg'' (by omega) (by intro q hq; simp at hq; omega)), by omega, hC3.kept hg'' (by simp; omega), hC4.kept hg'' (by simp; omega), hC5.kept hg'' (by simp; omega), hbx'', hrd.stored hg''⟩)⟩
      · rintro vals w' hvl ⟨hC1, hC2, hC3, hC4, hC5, hC6⟩ a k
        match vals, hvl with
        | [v8, v7], _ =>
          obtain ⟨hb7', b8, xs', rfl, hb8, hl5, hone'', hrep⟩ := hC6
          have hrdw := hrd14.below hb7'
          obtain ⟨xs0, hrow0, hreps0⟩ := hrdw.row
          refine ⟨_, rfl, does_app1 k rt_trees rfl rfl hb8 hl5 hone'' hrow0 (by omega) (by simp only [List.length_map, List.length_take, many]; omega) (fun d' w'' hrow'' hg'' => ?_)⟩
          have hs'' := hg''.grown.size
          have hne : ∀ q, q < w4.heap.size ∨ w12.heap.size ≤ q → some q ≠ d.ownBlock := fun q hq e => by have := hdl q e.symm; omega
          refine ⟨hC1.trans (hg''.below (by omega) (fun g hg => by have := hdl g hg; omega)), by omega, hC3.kept hg''.grown (hne _ (by omega)), hC4.kept hg''.grown (hne _ (by omega)), hC5.kept hg''.grown (hne _ (by omega)), (hbq14.below hb7' hbq14.lt).kept hg''.grown (hne _ (by omega)), ?_⟩
          have hsn := hrdw.snoc (by omega) (by omega) hreps0 (hrep.off (by omega) ⟨by omega, by omega⟩ (fun g hg => by have := hdl g hg; omega)) hrow'' hg''
          rw [List.take_succ_eq_append_getElem hlt, List.map_append]
          exact hsn
      · rintro vals w' hvl ⟨hC1, hC2, hC3, hC4, hC5, hC6⟩ a k
        match vals, hvl with
        | [v7], _ =>
          obtain ⟨hb7', xs', rfl, hrep⟩ := hC6
          obtain ⟨hone'', hl5⟩ := treeG_one hrep
          have hga := grown_alloc w' (.cells xs'.toArray 39)
          refine ⟨_, rfl, does_slice1 k rt_trees rfl rfl hl5 rfl ⟨hC1.trans (below_of hga (by omega) (by simp)), by simp; omega, hC3.kept hga (by simp), hC4.kept hga (by simp), hC5.kept hga (by simp), hb7'.trans (below_of hga (by omega) (by simp)), _, xs', rfl, box_alloc _ _ _, hl5, hone'', hrep.up (In.up (Nat.le_refl _) (by simp)) (fun r hr => hga.block r hr.2 (by simp))⟩⟩
      · rintro vals w' hvl ⟨hC1, hC2, hC3, hC4, hC5, hC6⟩ a k
        match vals, hvl with
        | [], _ =>
          simp only [] at hC6
          refine ⟨_, rfl, does_call k rfl (by kernel_rfl) ((hF t.l[i] (List.getElem_mem hlt) B w' _ (hok.l _ (List.getElem_mem hlt)) (hsm.l _ (List.getElem_mem hlt)) (by omega) (Rep.below hr ((hw1214.trans (hC6.mono (by omega))).mono (by omega)) (Nat.le_refl _))).mono ?_)⟩
          rintro e w'' ⟨v, rfl, hb'', cs'', rfl, hrep⟩
          exact ⟨_, rfl, hC1.trans (hb''.mono (by omega)), by have := hb''.size; omega, hC3.below hb'' hC3.lt, hC4.below hb'' hC4.lt, hC5.below hb'' hC5.lt, hC6.trans (hb''.mono (by omega)), cs'', rfl, hrep.up (In.up (by omega) (Nat.le_refl _)) (fun _ _ => rfl)⟩
      · rintro vals w' hvl ⟨hC1, hC2, hC3, hC4, hC5, hC6⟩
        match vals, hvl with
        | [v11, v9, v8, v7], _ =>
          refine qk_thn ?_
          repeat first|(with_reducible first|apply wc_seq|apply wc_region|apply wl_nil|apply qk_thn|apply wc_block|apply wc_skip|apply wc_ret|apply wc_exit|apply qk_thn_ret|apply qk_in_ret|apply qk_in|apply qk_thn_exit|apply qk_in_exit|apply qk_round_ret|apply qk_round_exit)|((with_reducible apply ws);exact rfl;exact rfl)|((with_reducible apply wl_yes);exact rfl;exact rfl;exact rfl)|((with_reducible apply wl_no);exact rfl;exact rfl;exact rfl;exact rfl)|((with_reducible apply wl_noU);exact rfl;exact rfl;exact rfl)
          refine wl_add rfl rfl rfl (r := ((i + 1 : Nat) : Int)) (by rw [IntKind.wrap_i64]; omega) ?_
          repeat first|(with_reducible first|apply wc_seq|apply wc_region|apply wl_nil|apply qk_thn|apply wc_block|apply wc_skip|apply wc_ret|apply wc_exit|apply qk_thn_ret|apply qk_in_ret|apply qk_in|apply qk_thn_exit|apply qk_in_exit|apply qk_round_ret|apply qk_round_exit)|((with_reducible apply ws);exact rfl;exact rfl)|((with_reducible apply wl_yes);exact rfl;exact rfl;exact rfl)|((with_reducible apply wl_no);exact rfl;exact rfl;exact rfl;exact rfl)|((with_reducible apply wl_noU);exact rfl;exact rfl;exact rfl)
          exact qk_round ⟨i + 1, v9, []⟩ ⟨rfl, rfl, rfl, rfl, rfl, rfl, trivial⟩ ⟨by simp only []; omega, hC1, by omega, hC3, hC4, hC6.1, hC6.2⟩ (by simp only []; omega)
    · refine wc_no rfl (by simpa using hlt) ?_
      repeat first|(with_reducible first|apply wc_seq|apply wc_region|apply wl_nil|apply qk_thn|apply wc_block|apply wc_skip|apply wc_ret|apply wc_exit|apply qk_thn_ret|apply qk_in_ret|apply qk_in|apply qk_thn_exit|apply qk_in_exit|apply qk_round_ret|apply qk_round_exit)|((with_reducible apply ws);exact rfl;exact rfl)|((with_reducible apply wl_yes);exact rfl;exact rfl;exact rfl)|((with_reducible apply wl_no);exact rfl;exact rfl;exact rfl;exact rfl)|((with_reducible apply wl_noU);exact rfl;exact rfl;exact rfl)
      rw [List.take_of_length_le (by omega)] at hrd12
      exact qk_cut d ⟨rfl, rfl, rfl, trivial⟩ ⟨hw12, hs1012, hbt12, hbr12, hbq12, hrd12⟩
  rintro d w5 ⟨hw5, hs45, hbt5, hbz5, hbo5, hrd5⟩
  have hdone := hrd5.sqb
  obtain ⟨da, dc, rfl⟩ := hrd5.shape
  refine wc_cut (α := Value) (fun e => [(3, .pointer (some ⟨w2.heap.size, 0, none⟩)), (2, .pointer (some ⟨w1.heap.size, 0, none⟩))])
    (fun e w' => Below w.heap.size w w' ∧ w5.grownBy w' (some w2.heap.size) ∧ Box w' w1.heap.size [.int .i64 0, .slice none 0 0, .bool false, .slice none 0 0, .slice none 0 0] 39 ∧ Box w' w2.heap.size [.int .i64 t.n, .slice sa (t.s.map byteD).length sc, .bool t.nul, .slice da (t.l.map treeD).length dc, e] 39 ∧ RowD B w5.heap.size w2.heap.size 65 2 w' e (t.u.map tagD)) ?_ ?_
  · repeat first|(with_reducible first|apply wc_seq|apply wc_region|apply wl_nil|apply qk_thn|apply wc_block|apply wc_skip|apply wc_ret|apply wc_exit|apply qk_thn_ret|apply qk_in_ret|apply qk_in|apply qk_thn_exit|apply qk_in_exit|apply qk_round_ret|apply qk_round_exit)|((with_reducible apply ws);exact rfl;exact rfl)|((with_reducible apply wl_yes);exact rfl;exact rfl;exact rfl)|((with_reducible apply wl_no);exact rfl;exact rfl;exact rfl;exact rfl)|((with_reducible apply wl_noU);exact rfl;exact rfl;exact rfl)
    refine wl_loadB rfl Go.Proofs.Ytmihblfjhoblmaa.to_tags rfl hbt5 rfl ?_
    rw [show (t.u.map tagD).length = t.u.length from List.length_map ..]
    repeat first|(with_reducible first|apply wc_seq|apply wc_region|apply wl_nil|apply qk_thn|apply wc_block|apply wc_skip|apply wc_ret|apply wc_exit|apply qk_thn_ret|apply qk_in_ret|apply qk_in|apply qk_thn_exit|apply qk_in_exit|apply qk_round_ret|apply qk_round_exit)|((with_reducible apply ws);exact rfl;exact rfl)|((with_reducible apply wl_yes);exact rfl;exact rfl;exact rfl)|((with_reducible apply wl_no);exact rfl;exact rfl;exact rfl;exact rfl)|((with_reducible apply wl_noU);exact rfl;exact rfl;exact rfl)
    refine wc_loop (α := PtS) (fun s => [(33, .int .i64 (s.i : Int)), (32, .int .i64 (t.u.length : Int)), (31, .slice ua t.u.length uc), (3, .pointer (some ⟨w2.heap.size, 0, none⟩)), (2, .pointer (some ⟨w1.heap.size, 0, none⟩)), (1, .pointer (some ⟨w.heap.size, 0, none⟩))])
      (fun s w' => s.i ≤ t.u.length ∧ Below w.heap.size w w' ∧ w5.grownBy w' (some w2.heap.size) ∧ Box w' w1.heap.size [.int .i64 0, .slice none 0 0, .bool false, .slice none 0 0, .slice none 0 0] 39 ∧ Box w' w2.heap.size [.int .i64 t.n, .slice sa (t.s.map byteD).length sc, .bool t.nul, .slice da (t.l.map treeD).length dc, s.d] 39 ∧ RowD B w5.heap.size w2.heap.size 65 2 w' s.d ((t.u.take s.i).map tagD)) (fun s => t.u.length - s.i) ⟨0, .slice none 0 0, []⟩ ⟨rfl, rfl, rfl, rfl, rfl, rfl, trivial⟩ ⟨Nat.zero_le _, hw5, ⟨rfl, rfl, rfl, Nat.le_refl _, fun _ _ _ => rfl⟩, hbz5, hbo5, RowD.nil _ _ _ _ _ _⟩ ?_
    rintro ⟨i, e, _⟩ w7 ⟨hi, hw7, hgb7, hbz7, hbo7, hrd7⟩
    simp only [] at hi hbo7 hrd7
    change WC _ _ _ _ [(33, .int .i64 (i : Int)), (32, .int .i64 (t.u.length : Int)), (31, .slice ua t.u.length uc), (3, .pointer (some ⟨w2.heap.size, 0, none⟩)), (2, .pointer (some ⟨w1.heap.size, 0, none⟩)), (1, .pointer (some ⟨w.heap.size, 0, none⟩))] _
    repeat first|(with_reducible first|apply wc_seq|apply wc_region|apply wl_nil|apply qk_thn|apply wc_block|apply wc_skip|apply wc_ret|apply wc_exit|apply qk_thn_ret|apply qk_in_ret|apply qk_in|apply qk_thn_exit|apply qk_in_exit|apply qk_round_ret|apply qk_round_exit)|((with_reducible apply ws);exact rfl;exact rfl)|((with_reducible apply wl_yes);exact rfl;exact rfl;exact rfl)|((with_reducible apply wl_no);exact rfl;exact rfl;exact rfl;exact rfl)|((with_reducible apply wl_noU);exact rfl;exact rfl;exact rfl)
    by_cases hlt : i < t.u.length
    · refine wc_yes rfl (by simpa using hlt) ?_
      obtain ⟨b, off, c', cs, hv, hbB, hcs, hlen, hr⟩ := (hu.below (hw7.mono hB) (Nat.le_refl _)).get (sz := 2) (i := i) (by intro d hd; obtain ⟨x, _, rfl⟩ := List.mem_map.1 hd; exact tagD_width x) (by simpa using hlt)
      simp only [Value.slice.injEq, List.length_map] at hv
      obtain ⟨rfl, _, rfl⟩ := hv
      simp only [List.getElem_map] at hr
      obtain ⟨hcone, _⟩ := tag_one hr
      obtain ⟨qv, hce, hqv⟩ := tag_cells hr
      subst hce
      obtain ⟨qa, qc, rfl, _⟩ := hqv.shape
      repeat first|(with_reducible first|apply wc_seq|apply wc_region|apply wl_nil|apply qk_thn|apply wc_block|apply wc_skip|apply wc_ret|apply wc_exit|apply qk_thn_ret|apply qk_in_ret|apply qk_in|apply qk_thn_exit|apply qk_in_exit|apply qk_round_ret|apply qk_round_exit)|((with_reducible apply ws);exact rfl;exact rfl)|((with_reducible apply wl_yes);exact rfl;exact rfl;exact rfl)|((with_reducible apply wl_no);exact rfl;exact rfl;exact rfl;exact rfl)|((with_reducible apply wl_noU);exact rfl;exact rfl;exact rfl)
      refine wl_indexAddr rfl rfl es_tags rfl hlt ?_
      refine wl_loadAgg (cs := [.int .u32 (t.u[i].1 : Nat), .slice qa (t.u[i].2.map byteD).length qc]) rfl Go.Proofs.Ytmihblfjhoblmaa.ta_tag rfl (fun j v e => hcs.cell e) ?_
      refine wl_alloc zv_tag rfl rfl (fun w8 hb8 hg8 hs8 => ?_)
      refine wl_storeBAgg (vs := [.int .u32 (t.u[i].1 : Nat), .slice qa (t.u[i].2.map byteD).length qc]) rfl rfl rfl Go.Proofs.Ytmihblfjhoblmaa.tz_tag hcone hb8 rfl (fun w9 hb9 hg9 hs9 => ?_)
      have hw79 : Below w7.heap.size w7 w9 := (below_of hg8 (Nat.le_refl _) (by simp)).trans (below_of hg9 (by omega) (by intro k hk; simp at hk; omega))
      have hs57 := hgb7.size
      have hw9 : Below w.heap.size w w9 := hw7.trans (hw79.mono (by omega))
      have hgb9 : w5.grownBy w9 (some w2.heap.size) := grown_but hgb7 (grown_of hw79) (fun g h => by cases h)
      have hbz9 := hbz7.below hw79 hbz7.lt
      have hbo9 := hbo7.below hw79 hbo7.lt
      have hrd9 := hrd7.below hw79
      obtain ⟨ea, ec, hes⟩ := hrd9.shape
      obtain ⟨xs0, hrow0, hreps0⟩ := hrd9.row
      have hel : ∀ g, e.ownBlock = some g → w5.heap.size ≤ g ∧ g < w7.heap.size := hrd7.low
      have hs79 := hw79.size
      repeat first|(with_reducible first|apply wc_seq|apply wc_region|apply wl_nil|apply qk_thn|apply wc_block|apply wc_skip|apply wc_ret|apply wc_exit|apply qk_thn_ret|apply qk_in_ret|apply qk_in|apply qk_thn_exit|apply qk_in_exit|apply qk_round_ret|apply qk_round_exit)|((with_reducible apply ws);exact rfl;exact rfl)|((with_reducible apply wl_yes);exact rfl;exact rfl;exact rfl)|((with_reducible apply wl_no);exact rfl;exact rfl;exact rfl;exact rfl)|((with_reducible apply wl_noU);exact rfl;exact rfl;exact rfl)
      refine wl_loadB rfl to_tags rfl hbo9 rfl ?_
      repeat first|(with_reducible first|apply wc_seq|apply wc_region|apply wl_nil|apply qk_thn|apply wc_block|apply wc_skip|apply wc_ret|apply wc_exit|apply qk_thn_ret|apply qk_in_ret|apply qk_in|apply qk_thn_exit|apply qk_in_exit|apply qk_round_ret|apply qk_round_exit)|((with_reducible apply ws);exact rfl;exact rfl)|((with_reducible apply wl_yes);exact rfl;exact rfl;exact rfl)|((with_reducible apply wl_no);exact rfl;exact rfl;exact rfl;exact rfl)|((with_reducible apply wl_noU);exact rfl;exact rfl;exact rfl)
      refine wl_loadB rfl to_u32 rfl hb9 rfl ?_
      repeat first|(with_reducible first|apply wc_seq|apply wc_region|apply wl_nil|apply qk_thn|apply wc_block|apply wc_skip|apply wc_ret|apply wc_exit|apply qk_thn_ret|apply qk_in_ret|apply qk_in|apply qk_thn_exit|apply qk_in_exit|apply qk_round_ret|apply qk_round_exit)|((with_reducible apply ws);exact rfl;exact rfl)|((with_reducible apply wl_yes);exact rfl;exact rfl;exact rfl)|((with_reducible apply wl_no);exact rfl;exact rfl;exact rfl;exact rfl)|((with_reducible apply wl_noU);exact rfl;exact rfl;exact rfl)
      refine wl_loadB rfl to_bytes rfl hb9 rfl ?_
      refine wl_build rfl (cs := [.int .u32 (t.u[i].1 : Nat), .slice qa (t.u[i].2.map byteD).length qc]) (by kernel_rfl) rfl ?_
      refine wl_app1 (cs := [.int .u32 (t.u[i].1 : Nat), .slice qa (t.u[i].2.map byteD).length qc]) rt_tags rfl rfl rfl hcone rfl rfl rfl rfl hrow0 (by omega) (by simp only [List.length_map, List.length_take, many]; omega) (fun d' w10 hrow10 hg10 => ?_)
      have hs10 := hg10.grown.size
      have hne : ∀ q, q < w5.heap.size ∨ w7.heap.size ≤ q → some q ≠ e.ownBlock := fun q hq h => by have := hel q h.symm; omega
      have hr9 : Rep (Lo B) w9 (tagD t.u[i]) [.int .u32 (t.u[i].1 : Nat), .slice qa (t.u[i].2.map byteD).length qc] := Rep.below hr (hw79.mono (by omega)) (Nat.le_refl _)
      have hsn := hrd9.snoc (by omega) (by omega) hreps0 (hr9.offLo (by omega) (by omega) (fun g hg => by have := hel g hg; omega)) hrow10 hg10
      have hbo10 := hbo9.kept hg10.grown (hne _ (by omega))
      have hbz10 := hbz9.kept hg10.grown (hne _ (by omega))
      obtain ⟨fa, fc, hfs⟩ := hsn.shape
      subst hfs
      repeat first|(with_reducible first|apply wc_seq|apply wc_region|apply wl_nil|apply qk_thn|apply wc_block|apply wc_skip|apply wc_ret|apply wc_exit|apply qk_thn_ret|apply qk_in_ret|apply qk_in|apply qk_thn_exit|apply qk_in_exit|apply qk_round_ret|apply qk_round_exit)|((with_reducible apply ws);exact rfl;exact rfl)|((with_reducible apply wl_yes);exact rfl;exact rfl;exact rfl)|((with_reducible apply wl_no);exact rfl;exact rfl;exact rfl;exact rfl)|((with_reducible apply wl_noU);exact rfl;exact rfl;exact rfl)
      refine wl_storeB rfl rfl to_tags rfl hbo10 rfl (fun w11 hbo11 hg11 hs11 => ?_)
      repeat first|(with_reducible first|apply wc_seq|apply wc_region|apply wl_nil|apply qk_thn|apply wc_block|apply wc_skip|apply wc_ret|apply wc_exit|apply qk_thn_ret|apply qk_in_ret|apply qk_in|apply qk_thn_exit|apply qk_in_exit|apply qk_round_ret|apply qk_round_exit)|((with_reducible apply ws);exact rfl;exact rfl)|((with_reducible apply wl_yes);exact rfl;exact rfl;exact rfl)|((with_reducible apply wl_no);exact rfl;exact rfl;exact rfl;exact rfl)|((with_reducible apply wl_noU);exact rfl;exact rfl;exact rfl)
      refine wl_add rfl rfl rfl (r := ((i + 1 : Nat) : Int)) (by rw [IntKind.wrap_i64]; omega) ?_
      repeat first|(with_reducible first|apply wc_seq|apply wc_region|apply wl_nil|apply qk_thn|apply wc_block|apply wc_skip|apply wc_ret|apply wc_exit|apply qk_thn_ret|apply qk_in_ret|apply qk_in|apply qk_thn_exit|apply qk_in_exit|apply qk_round_ret|apply qk_round_exit)|((with_reducible apply ws);exact rfl;exact rfl)|((with_reducible apply wl_yes);exact rfl;exact rfl;exact rfl)|((with_reducible apply wl_no);exact rfl;exact rfl;exact rfl;exact rfl)|((with_reducible apply wl_noU);exact rfl;exact rfl;exact rfl)
      refine qk_round ⟨i + 1, _, []⟩ ⟨rfl, rfl, rfl, rfl, rfl, rfl, trivial⟩ ⟨by simp only []; omega, (hw9.trans (hg10.below (by omega) (fun g hg => by have := hel g hg; omega))).trans (below_of hg11 (by omega) (by intro q hq; simp at hq; omega)), grown_but (grown_but hgb9 hg10.grown (fun q hq => .inr (by have := hel q hq; omega))) hg11 (fun q hq => .inl (by simpa using hq.symm)), hbz10.kept hg11 (by simp; omega), hbo11, ?_⟩ (by simp only []; omega)
      simp only []
      rw [List.take_succ_eq_append_getElem hlt, List.map_append]
      exact hsn.stored hg11
    · refine wc_no rfl (by simpa using hlt) ?_
      repeat first|(with_reducible first|apply wc_seq|apply wc_region|apply wl_nil|apply qk_thn|apply wc_block|apply wc_skip|apply wc_ret|apply wc_exit|apply qk_thn_ret|apply qk_in_ret|apply qk_in|apply qk_thn_exit|apply qk_in_exit|apply qk_round_ret|apply qk_round_exit)|((with_reducible apply ws);exact rfl;exact rfl)|((with_reducible apply wl_yes);exact rfl;exact rfl;exact rfl)|((with_reducible apply wl_no);exact rfl;exact rfl;exact rfl;exact rfl)|((with_reducible apply wl_noU);exact rfl;exact rfl;exact rfl)
      rw [List.take_of_length_le (by omega)] at hrd7
      exact qk_cut e ⟨rfl, rfl, trivial⟩ ⟨hw7, hgb7, hbz7, hbo7, hrd7⟩
  rintro e w6 ⟨hw6, hgb6, hbz6, hbo6, hrd6⟩
  obtain ⟨ea, ec, hes⟩ := hrd6.shape
  subst hes
  repeat first|(with_reducible first|apply wc_seq|apply wc_region|apply wl_nil|apply qk_thn|apply wc_block|apply wc_skip|apply wc_ret|apply wc_exit|apply qk_thn_ret|apply qk_in_ret|apply qk_in|apply qk_thn_exit|apply qk_in_exit|apply qk_round_ret|apply qk_round_exit)|((with_reducible apply ws);exact rfl;exact rfl)|((with_reducible apply wl_yes);exact rfl;exact rfl;exact rfl)|((with_reducible apply wl_no);exact rfl;exact rfl;exact rfl;exact rfl)|((with_reducible apply wl_noU);exact rfl;exact rfl;exact rfl)
  refine wl_loadBAgg (cs := [.int .i64 t.n, .slice sa (t.s.map byteD).length sc, .bool t.nul, .slice da (t.l.map treeD).length dc, .slice ea (t.u.map tagD).length ec]) rfl ta_tree rfl hbo6 ?_
  refine wl_storeBAgg (vs := [.int .i64 t.n, .slice sa (t.s.map byteD).length sc, .bool t.nul, .slice da (t.l.map treeD).length dc, .slice ea (t.u.map tagD).length ec]) rfl rfl rfl tz_tree rfl hbz6 rfl (fun w7 hbz7 hg7 hs7 => ?_)
  repeat first|(with_reducible first|apply wc_seq|apply wc_region|apply wl_nil|apply qk_thn|apply wc_block|apply wc_skip|apply wc_ret|apply wc_exit|apply qk_thn_ret|apply qk_in_ret|apply qk_in|apply qk_thn_exit|apply qk_in_exit|apply qk_round_ret|apply qk_round_exit)|((with_reducible apply ws);exact rfl;exact rfl)|((with_reducible apply wl_yes);exact rfl;exact rfl;exact rfl)|((with_reducible apply wl_no);exact rfl;exact rfl;exact rfl;exact rfl)|((with_reducible apply wl_noU);exact rfl;exact rfl;exact rfl)
  have hs56 := hgb6.size
  have hw7 := hw6.trans (below_of hg7 (by have := hw6.size; omega) (by intro q hq; simp at hq; omega))
  refine qk_retCell (cs := [.int .i64 t.n, .slice sa (t.s.map byteD).length sc, .bool t.nul, .slice da (t.l.map treeD).length dc, .slice ea (t.u.map tagD).length ec]) rfl rfl ta_tree hbz7 ⟨_, rfl, hw7, _, rfl, ?_⟩
  have hse := hrd6.sqb
  have e0 : t = .mk t.n t.s t.nul t.l t.u := by cases t; rfl
  rw [e0]
  refine rep_tree ((hs.below (hw7.mono hB) (Nat.le_refl _)).up (fun r hr => ⟨.inl hr, by simp only [Lo] at hr; omega⟩) (fun _ _ => rfl)) ?_ ?_
  · refine hdone.up (fun r hr => In.up (by omega) (by omega) r hr.1) (fun r hr => ?_)
    have h1 : r ≠ w1.heap.size := by
      rcases hr.1.1 with h | h <;> omega
    rw [hg7.block r (by have := hr.1.2; omega) (by simp; omega), hgb6.block r hr.1.2 (by simpa using hr.2)]
  · refine hse.up (fun r hr => In.up (by omega) (by omega) r hr.1) (fun r hr => ?_)
    have h1 : r ≠ w1.heap.size := by
      rcases hr.1.1 with h | h <;> omega
    rw [hg7.block r hr.1.2 (by simp; omega)]
end
mutual
theorem given_ok : ∀ t : Tree, GivenOK t
  | .mk _ _ _ l _ => given_of _ (givens_ok l)
theorem givens_ok : ∀ l : List Tree, ∀ x ∈ l, GivenOK x
  | [], x, hx => by cases hx
  | y :: l, x, hx => by
    have hy := given_ok y
    have hl := givens_ok l
    rcases List.mem_cons.1 hx with h0 | h1
    · rw [h0]; exact hy
    · exact hl x h1
end
end Go.Proofs.Ytmihblfjhoblmaa.Impl

/- FnMakeControllerRegistrationRequest: whatever stands in the arguments, the statement's function returns true and leaves them as they were. Conditions: those of the row, no others. -/
namespace Go.Proofs.Ytmihblfjhoblmaa.BControllerRegistrationRequest
open Go Go.RowKit
section
set_option maxRecDepth 100000
theorem len_ok (t : Tree) (ht : t.ok) (ver : Int) (flex : Bool) : 1000 + (wPart ver flex m.fields t).length ≤ lim := by
  have h1 := wPart_most ver flex m.fields t ht
  have h2 : ∀ b : Bool, 1000 + partMost b m.fields ≤ lim := by decide
  have h3 := h2 flex
  omega
set_option maxHeartbeats 4000000 in
theorem fn_law (n : Nat) (hn : n < 256) (t : Tree) (ht : t.ok) (w : World) (ts : List Value) (hrep : Rep (Lo w.heap.size) w (treeD t) ts) :
    Fn 7 [.int .u8 (n : Int), .agg ts.toArray] w fun v _ => v = .bool true := by
  obtain ⟨sv2, lv, uv, rfl, _, _, _⟩ := tree_cells hrep
  refine enter Try.func7 rfl Try.ntmps7 rfl ?_
  repeat first|(with_reducible first|apply wc_seq|apply wc_region|apply wl_nil|apply qk_thn|apply wc_block|apply wc_skip|apply wc_ret|apply wc_exit|apply qk_thn_ret|apply qk_in_ret|apply qk_in|apply qk_thn_exit|apply qk_in_exit|apply qk_round_ret|apply qk_round_exit)|((with_reducible apply ws);exact rfl;exact rfl)|((with_reducible apply wl_yes);exact rfl;exact rfl;exact rfl)|((with_reducible apply wl_no);exact rfl;exact rfl;exact rfl;exact rfl)|((with_reducible apply wl_noU);exact rfl;exact rfl;exact rfl)
  refine wl_box1 rfl rfl rfl (fun w1 hb1 hg1 hs1 => ?_)
  have hw1 : Below w.heap.size w w1 := below_of hg1 (Nat.le_refl _) (by simp)
  repeat first|(with_reducible first|apply wc_seq|apply wc_region|apply wl_nil|apply qk_thn|apply wc_block|apply wc_skip|apply wc_ret|apply wc_exit|apply qk_thn_ret|apply qk_in_ret|apply qk_in|apply qk_thn_exit|apply qk_in_exit|apply qk_round_ret|apply qk_round_exit)|((with_reducible apply ws);exact rfl;exact rfl)|((with_reducible apply wl_yes);exact rfl;exact rfl;exact rfl)|((with_reducible apply wl_no);exact rfl;exact rfl;exact rfl;exact rfl)|((with_reducible apply wl_noU);exact rfl;exact rfl;exact rfl)
  refine wl_loadBAgg (cs := [.int .i64 t.n, sv2, .bool t.nul, lv, uv]) rfl ta_tree rfl hb1 ?_
  repeat first|(with_reducible first|apply wc_seq|apply wc_region|apply wl_nil|apply qk_thn|apply wc_block|apply wc_skip|apply wc_ret|apply wc_exit|apply qk_thn_ret|apply qk_in_ret|apply qk_in|apply qk_thn_exit|apply qk_in_exit|apply qk_round_ret|apply qk_round_exit)|((with_reducible apply ws);exact rfl;exact rfl)|((with_reducible apply wl_yes);exact rfl;exact rfl;exact rfl)|((with_reducible apply wl_no);exact rfl;exact rfl;exact rfl;exact rfl)|((with_reducible apply wl_noU);exact rfl;exact rfl;exact rfl)
  refine wl_call rfl (by kernel_rfl) rfl ((fn_fits1 t w.heap.size w1 _ (by omega) (hrep.below hw1 (Nat.le_refl _))).mono ?_)
  rintro e w2 ⟨v, rfl, hw12, q, rfl⟩
  refine ⟨_, rfl, ?_⟩
  have hz12 := hw12.size
  have hw2 := hw1.trans (hw12.mono (by omega))
  repeat first|(with_reducible first|apply wc_seq|apply wc_region|apply wl_nil|apply qk_thn|apply wc_block|apply wc_skip|apply wc_ret|apply wc_exit|apply qk_thn_ret|apply qk_in_ret|apply qk_in|apply qk_thn_exit|apply qk_in_exit|apply qk_round_ret|apply qk_round_exit)|((with_reducible apply ws);exact rfl;exact rfl)|((with_reducible apply wl_yes);exact rfl;exact rfl;exact rfl)|((with_reducible apply wl_no);exact rfl;exact rfl;exact rfl;exact rfl)|((with_reducible apply wl_noU);exact rfl;exact rfl;exact rfl)
  cases q
  · refine wc_yes rfl rfl ?_
    repeat first|(with_reducible first|apply wc_seq|apply wc_region|apply wl_nil|apply qk_thn|apply wc_block|apply wc_skip|apply wc_ret|apply wc_exit|apply qk_thn_ret|apply qk_in_ret|apply qk_in|apply qk_thn_exit|apply qk_in_exit|apply qk_round_ret|apply qk_round_exit)|((with_reducible apply ws);exact rfl;exact rfl)|((with_reducible apply wl_yes);exact rfl;exact rfl;exact rfl)|((with_reducible apply wl_no);exact rfl;exact rfl;exact rfl;exact rfl)|((with_reducible apply wl_noU);exact rfl;exact rfl;exact rfl)
    exact qk_ret1 rfl rfl ⟨_, rfl, hw2, rfl⟩
  refine wc_no rfl rfl ?_
  repeat first|(with_reducible first|apply wc_seq|apply wc_region|apply wl_nil|apply qk_thn|apply wc_block|apply wc_skip|apply wc_ret|apply wc_exit|apply qk_thn_ret|apply qk_in_ret|apply qk_in|apply qk_thn_exit|apply qk_in_exit|apply qk_round_ret|apply qk_round_exit)|((with_reducible apply ws);exact rfl;exact rfl)|((with_reducible apply wl_yes);exact rfl;exact rfl;exact rfl)|((with_reducible apply wl_no);exact rfl;exact rfl;exact rfl;exact rfl)|((with_reducible apply wl_noU);exact rfl;exact rfl;exact rfl)
  refine wl_call rfl (by kernel_rfl) rfl ((fn_max w2).mono ?_)
  rintro e w3 ⟨rfl, hw23⟩
  refine ⟨_, rfl, ?_⟩
  have hz23 := hw23.size
  have hw13 := hw12.trans (hw23.mono (by omega))
  have hw3 := hw2.trans (hw23.mono (by omega))
  repeat first|(with_reducible first|apply wc_seq|apply wc_region|apply wl_nil|apply qk_thn|apply wc_block|apply wc_skip|apply wc_ret|apply wc_exit|apply qk_thn_ret|apply qk_in_ret|apply qk_in|apply qk_thn_exit|apply qk_in_exit|apply qk_round_ret|apply qk_round_exit)|((with_reducible apply ws);exact rfl;exact rfl)|((with_reducible apply wl_yes);exact rfl;exact rfl;exact rfl)|((with_reducible apply wl_no);exact rfl;exact rfl;exact rfl;exact rfl)|((with_reducible apply wl_noU);exact rfl;exact rfl;exact rfl)
  refine wc_no rfl (by decide) ?_
  repeat first|(with_reducible first|apply wc_seq|apply wc_region|apply wl_nil|apply qk_thn|apply wc_block|apply wc_skip|apply wc_ret|apply wc_exit|apply qk_thn_ret|apply qk_in_ret|apply qk_in|apply qk_thn_exit|apply qk_in_exit|apply qk_round_ret|apply qk_round_exit)|((with_reducible apply ws);exact rfl;exact rfl)|((with_reducible apply wl_yes);exact rfl;exact rfl;exact rfl)|((with_reducible apply wl_no);exact rfl;exact rfl;exact rfl;exact rfl)|((with_reducible apply wl_noU);exact rfl;exact rfl;exact rfl)
  refine wl_call rfl (by kernel_rfl) rfl ((fn_table w3).mono ?_)
  rintro e w4 ⟨v, rfl, hw34, fv, rfl, hsq⟩
  refine ⟨_, rfl, ?_⟩
  have hz34 := hw34.size
  have hw14 := hw13.trans (hw34.mono (by omega))
  have hw4 := hw3.trans (hw34.mono (by omega))
  repeat first|(with_reducible first|apply wc_seq|apply wc_region|apply wl_nil|apply qk_thn|apply wc_block|apply wc_skip|apply wc_ret|apply wc_exit|apply qk_thn_ret|apply qk_in_ret|apply qk_in|apply qk_thn_exit|apply qk_in_exit|apply qk_round_ret|apply qk_round_exit)|((with_reducible apply ws);exact rfl;exact rfl)|((with_reducible apply wl_yes);exact rfl;exact rfl;exact rfl)|((with_reducible apply wl_no);exact rfl;exact rfl;exact rfl;exact rfl)|((with_reducible apply wl_noU);exact rfl;exact rfl;exact rfl)
  refine wl_call rfl (by kernel_rfl) rfl ((fn_version n most hn (by decide) w4).mono ?_)
  rintro e w4' ⟨v, rfl, _, hww, rfl⟩
  obtain rfl : w4 = w4' := hww.symm
  refine ⟨_, rfl, ?_⟩
  refine wl_alloc zv_msg rfl rfl (fun w5 hb5 hg5 hs5 => ?_)
  obtain ⟨fa, fc, rfl, _⟩ := hsq.shape
  refine wl_storeBAgg (vs := [.slice fa (m.fields.map fldD).length fc, .int .i64 m.flex]) rfl rfl rfl tz_msg rfl hb5 rfl (fun w6 hb6 hg6 hs6 => ?_)
  have hw46 : Below w4.heap.size w4 w6 := (below_of hg5 (Nat.le_refl _) (by simp)).trans (below_of hg6 (by omega) (by intro q hq; simp at hq; omega))
  have hz46 := hw46.size
  have hw16 := hw14.trans (hw46.mono (by omega))
  have hw6 := hw4.trans (hw46.mono (by omega))
  have hz6 := hw6.size
  have hv : n % (most + 1) ≤ most := by have := Nat.mod_lt n (show most + 1 > 0 by omega); omega
  generalize n % (most + 1) = v at hv ⊢
  have hll := len_ok t ht (v : Int) (m.flexible (v : Int))
  have hsq6 := hsq.below hw46 hz46
  have ht6 := hrep.below hw6 (Nat.le_refl _)
  have hb16 : Box w6 w.heap.size [.int .i64 t.n, sv2, .bool t.nul, lv, uv] 26 := hb1.below hw16 hb1.lt
  obtain ⟨W, hW⟩ : ∃ W, W = wPart (v : Int) (m.flexible (v : Int)) m.fields t := ⟨_, rfl⟩
  have hWl : W.length ≤ lim := by rw [hW]; omega
  repeat first|(with_reducible first|apply wc_seq|apply wc_region|apply wl_nil|apply qk_thn|apply wc_block|apply wc_skip|apply wc_ret|apply wc_exit|apply qk_thn_ret|apply qk_in_ret|apply qk_in|apply qk_thn_exit|apply qk_in_exit|apply qk_round_ret|apply qk_round_exit)|((with_reducible apply ws);exact rfl;exact rfl)|((with_reducible apply wl_yes);exact rfl;exact rfl;exact rfl)|((with_reducible apply wl_no);exact rfl;exact rfl;exact rfl;exact rfl)|((with_reducible apply wl_noU);exact rfl;exact rfl;exact rfl)
  have hbt : ∀ w', Below w6.heap.size w6 w' → Box w' w.heap.size [.int .i64 t.n, sv2, .bool t.nul, lv, uv] 26 := fun w' h => hb16.below h hb16.lt
  have hbm : ∀ w', Below w6.heap.size w6 w' → Box w' w4.heap.size [.slice fa (m.fields.map fldD).length fc, .int .i64 m.flex] 31 := fun w' h => hb6.below h hb6.lt
  refine wc_par [(0, .int .i64 (v : Int)), (1, .pointer (some ⟨w4.heap.size, 0 + 0, none⟩)), (2, .slice fa (m.fields.map fldD).length fc), (3, .int .i64 (v : Int)), (4, .agg ([.int .i64 t.n, sv2, .bool t.nul, lv, uv] : List Value).toArray), (8, .agg ([.slice fa (m.fields.map fldD).length fc, .int .i64 m.flex] : List Value).toArray), (9, .int .i64 (v : Int)), (10, .agg ([.int .i64 t.n, sv2, .bool t.nul, lv, uv] : List Value).toArray)] [13, 12, 11, 7, 6, 5]
    (fun vals w' => Below w6.heap.size w6 w' ∧ match vals with
      | [] => True
      | [u] => ∃ cs : List Value, u = .agg cs.toArray ∧ Rep (Lo w'.heap.size) w' (treeD (fitP (v : Int) m.fields t)) cs
      | [u, _] => ∃ cs : List Value, u = .agg cs.toArray ∧ Rep (Lo w'.heap.size) w' (treeD (fitP (v : Int) m.fields t)) cs
      | [u, _, _] => Own w' w6.heap.size 5 u W
      | [u, u7, _, _] => Own w' w6.heap.size 5 u7 W ∧ Own w' w6.heap.size 5 u W
      | u :: _ => u = .bool true)
    mixed rfl rfl rfl rfl rfl (by show ([0,1,2,3,4,8,9,10] : List Nat).Nodup; decide) rfl rfl (by decide) rfl rfl rfl rfl ⟨(Below.refl _ w6).drew, trivial⟩ ?_ ⟨?_, ?_, ?_, ?_, ?_, ?_, trivial⟩ ?_
  · intro p hp vals w' hC a k
    simp only [List.mem_cons, List.not_mem_nil, or_false] at hp
    rcases hp with rfl | rfl | rfl | rfl | rfl | rfl | rfl | rfl
    · exact gv rfl rfl (rn_move k rfl)
    · exact gv rfl rfl (rn_fieldAddr k rfl fo_msg0)
    · exact gv rfl rfl (rn_load k rfl to_flds ((hbm _ hC.1).cell0 (i := 0) rfl))
    · exact gv rfl rfl (rn_move k rfl)
    · exact gv rfl rfl (rn_loadBAgg k rfl ta_tree (hbt _ hC.1))
    · exact gv rfl rfl (rn_loadBAgg k rfl ta_msg (hbm _ hC.1))
    · exact gv rfl rfl (rn_move k rfl)
    · exact gv rfl rfl (rn_loadBAgg k rfl ta_tree (hbt _ hC.1))
  · rintro vals w' hvl ⟨hb', hC⟩ a k
    match vals, hvl with
    | [v12, v11, v7, v6, v5], _ => exact ⟨_, rfl, does_assign k rfl ⟨hb', hC⟩⟩
  · rintro vals w' hvl ⟨hb', hC⟩ a k
    match vals, hvl with
    | [v11, v7, v6, v5], _ =>
      obtain ⟨ho7, ho11⟩ := hC
      refine ⟨_, rfl, does_call k rfl (by kernel_rfl) ((fn_same _ _ _ _ w' ho7.bytes ho11.bytes hWl hWl).mono ?_)⟩
      rintro e w'' ⟨v, rfl, hb'', rfl⟩
      exact ⟨_, rfl, hb'.trans (hb''.mono hb'.size), by simp⟩
  · rintro vals w' hvl ⟨hb', hC⟩ a k
    match vals, hvl with
    | [v7, v6, v5], _ =>
      simp only [] at hC
      have hs' := hb'.size
      refine ⟨_, rfl, does_call k rfl (by kernel_rfl) ((fn_write m m_ok (v : Int) t w6.heap.size w' _ _ ht (by omega) (hsq6.below hb' (Nat.le_refl _)) (Rep.below (hrep.below hw6 hz6) hb' (Nat.le_refl _)) (by show (wPart _ _ _ _).length ≤ lim; rw [← hW]; exact hWl)).mono ?_)⟩
      rintro e w'' ⟨u, rfl, hb'', ho⟩
      have ho' : Own w'' w'.heap.size 5 u W := by rw [hW]; exact ho
      exact ⟨u, rfl, hb'.trans (hb''.mono hs'), Own.below hC hb'', ho'.mono hs'⟩
  · rintro vals w' hvl ⟨hb', hC⟩ a k
    match vals, hvl with
    | [v6, v5], _ =>
      obtain ⟨cs, rfl, hr⟩ := hC
      have hs' := hb'.size
      refine ⟨_, rfl, does_call k rfl (by kernel_rfl) ((fn_make v hv t ht w' cs hr (by rw [← hW]; exact hWl)).mono ?_)⟩
      rintro e w'' ⟨u, rfl, hb'', ho⟩
      have ho' : Own w'' w'.heap.size 5 u W := by rw [hW]; exact ho
      exact ⟨u, rfl, hb'.trans (hb''.mono hs'), ho'.mono hs'⟩
  · rintro vals w' hvl ⟨hb', hC⟩ a k
    match vals, hvl with
    | [v5], _ =>
      obtain ⟨cs, rfl, hr⟩ := hC
      have hbig := fitP_big (v : Int) m.fields tabG_ok len_ok1 t ht false
      refine ⟨_, rfl, does_call k rfl (by kernel_rfl) ((Impl.given_ok (fitP (v : Int) m.fields t) w'.heap.size w' cs hbig.1 hbig.2 (Nat.le_refl _) hr).mono ?_)⟩
      rintro e w'' ⟨u, rfl, hb'', cs', rfl, hr'⟩
      exact ⟨_, rfl, hb'.trans (hb''.mono hb'.size), cs', rfl, hr'.up (fun r h => h.2) (fun _ _ => rfl)⟩
  · rintro vals w' hvl ⟨hb', hC⟩ a k
    match vals, hvl with
    | [], _ =>
      have hs' := hb'.size
      refine ⟨_, rfl, does_call k rfl (by kernel_rfl) ((fit_ok m.fields m_ok (v : Int) t w6.heap.size w' _ _ ht (by omega) (hsq6.below hb' (Nat.le_refl _)) (Rep.below (hrep.below hw6 hz6) hb' (Nat.le_refl _))).mono ?_)⟩
      rintro e w'' ⟨u, rfl, hb'', cs', rfl, hr'⟩
      exact ⟨_, rfl, hb'.trans (hb''.mono hs'), cs', rfl, hr'.up (fun r h => h.2) (fun _ _ => rfl)⟩
  · rintro vals w' hvl ⟨hb', hC⟩
    match vals, hvl with
    | [v13, v12, v11, v7, v6, v5], _ =>
      simp only [] at hC
      subst hC
      refine qk_thn ?_
      repeat first|(with_reducible first|apply wc_seq|apply wc_region|apply wl_nil|apply qk_thn|apply wc_block|apply wc_skip|apply wc_ret|apply wc_exit|apply qk_thn_ret|apply qk_in_ret|apply qk_in|apply qk_thn_exit|apply qk_in_exit|apply qk_round_ret|apply qk_round_exit)|((with_reducible apply ws);exact rfl;exact rfl)|((with_reducible apply wl_yes);exact rfl;exact rfl;exact rfl)|((with_reducible apply wl_no);exact rfl;exact rfl;exact rfl;exact rfl)|((with_reducible apply wl_noU);exact rfl;exact rfl;exact rfl)
      exact qk_ret1 rfl rfl ⟨_, rfl, hw6.trans (hb'.mono hw6.size), rfl⟩
end
end Go.Proofs.Ytmihblfjhoblmaa.BControllerRegistrationRequest

/- An argument that is a tree, as the row hands it: what it says, as memory holds it. -/
namespace Go.Proofs.Ytmihblfjhoblmaa
open Go Go.RowKit Go.ChangeShapes Go.WideShapes Go.ChangeAt

/-- Cells side by side, element by element. -/
theorem row_at {W : World} {a : Addr} {sz len : Nat} {f : Nat → List Value} (hsz : 0 < sz) (hlen : 0 < len)
    (hf : ∀ i, i < len → (f i).length = sz ∧ ∀ j v, (f i)[j]? = some v → W.cell? ((a.add (i * sz)).add j) = some v) :
    ∃ b off, a = ⟨b, off, none⟩ ∧ b < W.heap.size ∧ CellsAt W b off ((List.range len).flatMap f) := by
  have h0 := hf 0 hlen
  obtain ⟨b, off, spot⟩ := a
  have hx : ∃ v, (f 0)[0]? = some v := by
    cases hv : (f 0)[0]? with
    | none => rw [List.getElem?_eq_none_iff] at hv; omega
    | some v => exact ⟨v, rfl⟩
  obtain ⟨v0, hv0⟩ := hx
  have hc0 := h0.2 0 v0 hv0
  have hspot : spot = none := by simpa [Addr.add] using World.cell?_spot hc0
  subst hspot
  simp only [Nat.zero_mul] at hc0
  have hadd : ∀ n m, (Addr.add (Addr.add ⟨b, off, none⟩ n) m) = ⟨b, off + n + m, none⟩ := fun n m => by rw [add_plain ⟨b, off, none⟩ n rfl]; rw [add_plain _ _ rfl]
  rw [hadd] at hc0
  -- the block itself
  have hobj : ∃ arr e fz, W.heap[b]? = some (.cells arr e fz) := by
    unfold World.cell? at hc0
    split at hc0
    · rename_i c e fz hh; exact ⟨c, e, fz, hh⟩
    · cases hc0
  obtain ⟨arr, e, fz, hh⟩ := hobj
  have hall : ∀ i j v, i < len → (f i)[j]? = some v → arr[off + i * sz + j]? = some v := by
    intro i j v hi hv
    have := (hf i hi).2 j v hv
    rw [hadd] at this
    simpa [World.cell?, hh] using this
  have hflat : ∀ n, n ≤ len → ((List.range n).flatMap f).length = n * sz ∧ ∀ q v, ((List.range n).flatMap f)[q]? = some v → arr[off + q]? = some v := by
    intro n
    induction n with
    | zero => intro _; simp
    | succ n ih =>
      intro hn
      obtain ⟨hl, hq⟩ := ih (by omega)
      rw [List.range_succ, List.flatMap_append]
      simp only [List.flatMap_cons, List.flatMap_nil, List.append_nil]
      refine ⟨by rw [List.length_append, hl, (hf n (by omega)).1, Nat.succ_mul], fun q v hv => ?_⟩
      by_cases hlt : q < n * sz
      · rw [List.getElem?_append_left (by omega)] at hv; exact hq q v hv
      · rw [List.getElem?_append_right (by omega), hl] at hv
        have := hall n (q - n * sz) v (by omega) hv
        rwa [show off + n * sz + (q - n * sz) = off + q from by omega] at this
  obtain ⟨hl, hq⟩ := hflat len (Nat.le_refl _)
  refine ⟨b, off, rfl, (Array.getElem?_eq_some_iff.1 hh).1, arr, e, fz, hh, ?_, hq⟩
  have hpos : 0 < len * sz := Nat.mul_pos hlen hsz
  have hlast : ∃ v, ((List.range len).flatMap f)[len * sz - 1]? = some v := by
    cases hv : ((List.range len).flatMap f)[len * sz - 1]? with
    | none => rw [List.getElem?_eq_none_iff] at hv; omega
    | some v => exact ⟨v, rfl⟩
  obtain ⟨v, hv⟩ := hlast
  have := (Array.getElem?_eq_some_iff.1 (hq _ v hv)).1
  rw [hl]; omega

theorem sum_le : ∀ (a b : List Nat), a.length = b.length → (∀ i (h : i < a.length) (h' : i < b.length), a[i] ≤ b[i]) → a.sum ≤ b.sum
  | [], b, _, _ => by simp
  | x :: a, [], h, _ => by simp at h
  | x :: a, y :: b, h, hall => by
    have h0 := hall 0 (by simp) (by simp)
    have h1 := sum_le a b (by simpa using h) (fun i hi hi' => by have := hall (i + 1) (by simpa using hi) (by simpa using hi'); simpa using this)
    simp only [List.getElem_cons_zero] at h0
    simp only [List.sum_cons]; omega
section
variable {H : Type} {enc : TypeId × Value → H} {P : Program} {W : World} {base : Nat} {spare : Nat → Bool} {held : Bool}
/-- A slice, its elements opened by 'hel'. -/
theorem open_sq {α : Type} {t e sz : Nat} (ht : P.underlying t = some (.slice e)) (hc : P.cellsOf e = sz) (hsz : 0 < sz) (g : α → D) (φ : α → Prop) (f0 : α → Nat) (bk : DataW H → Nat) (hnil : 1 ≤ bk .nil) (hsl : ∀ es sp : List (DataW H), (es.map bk).sum + 1 ≤ bk (.slice es sp)) {fuel : Nat} {cs : List Value} {x : DataW H × List MemPlace}
    (h : DataW.trod enc P W base spare held fuel t cs = some x)
    (hel : ∀ n cs' x', n < fuel → DataW.trod enc P W base spare held n e cs' = some x' → ∃ y : α, Rep (Lo W.heap.size) W (g y) cs' ∧ φ y ∧ f0 y ≤ bk x'.1) :
    ∃ (l : List α) (v : Value), cs = [v] ∧ l.length ≤ maxLen ∧ Sq W.heap.size W v (l.map g) ∧ (∀ y ∈ l, φ y) ∧ (l.map f0).sum + 1 ≤ bk x.1 := by
  rcases DataW.trod_slice ht h with ⟨rfl, rfl⟩ | ⟨a, len, cap, elems, rest, n, hfu, rfl, rfl, hb, hle, hcap, hlen, hels, _, _⟩
  · exact ⟨[], _, rfl, by simp, rep_nil _ _, by simp, by simpa using hnil⟩
  · have hone : ∀ i : Fin len, ∃ p : List Value × α, W.cells? base (a.add (i.1 * sz)) sz = some p.1 ∧ Rep (Lo W.heap.size) W (g p.2) p.1 ∧ φ p.2 ∧ f0 p.2 ≤ bk (elems[i.1]'(by have := i.2; omega)).1 := by
      intro ⟨i, hi⟩
      have h1 := hels i hi
      rw [List.getElem?_eq_getElem (by omega), hc] at h1
      obtain ⟨cs', h2, h3⟩ := Option.bind_eq_some_iff.1 h1
      obtain ⟨y, hy, hφ⟩ := hel n cs' _ (by omega) h3
      exact ⟨(cs', y), h2, hy, hφ⟩
    let F : Fin len → List Value × α := fun i => Classical.choose (hone i)
    have hF : ∀ i : Fin len, W.cells? base (a.add (i.1 * sz)) sz = some (F i).1 ∧ Rep (Lo W.heap.size) W (g (F i).2) (F i).1 ∧ φ (F i).2 ∧ f0 (F i).2 ≤ bk (elems[i.1]'(by have := i.2; omega)).1 := fun i => Classical.choose_spec (hone i)
    let f : Nat → List Value := fun i => if hi : i < len then (F ⟨i, hi⟩).1 else []
    let l : List α := List.ofFn fun i => (F i).2
    have hll : l.length = len := by simp [l]
    have hφ : ∀ y ∈ l, φ y := by
      intro y hy
      obtain ⟨i, hi⟩ := (List.mem_ofFn).1 hy
      rw [← hi]; exact (hF i).2.2.1
    have hsum : (l.map f0).sum + 1 ≤ bk (.slice (elems.map (·.1)) (rest.map (·.1))) := by
      refine Nat.le_trans (Nat.succ_le_succ (sum_le (l.map f0) ((elems.map (·.1)).map bk) (by simp [hll, hlen]) (fun i hi hi' => ?_))) (hsl _ _)
      have hi2 : i < len := by simpa [hll] using hi
      have := (hF ⟨i, hi2⟩).2.2.2
      simpa [l] using this
    refine ⟨l, _, rfl, by rw [hll]; omega, ?_, hφ, hsum⟩
    simp only [Sq, Rep]
    refine ⟨some a, cap, by simp [hll], by simpa [hll] using hle, ?_⟩
    by_cases hpos : 0 < len
    · have hfi : ∀ i, i < len → (f i).length = sz ∧ ∀ j v, (f i)[j]? = some v → W.cell? ((a.add (i * sz)).add j) = some v := by
        intro i hi
        have h1 := (hF ⟨i, hi⟩).1
        have h2 := World.cells?_some h1
        simp only [f, dif_pos hi]
        refine ⟨h2.2.1, fun j v hj => ?_⟩
        have := h2.2.2 j (by have := (List.getElem?_eq_some_iff.1 hj).1; omega)
        rw [this]; exact hj
      obtain ⟨b, off, rfl, hlt, hcells⟩ := row_at hsz hpos hfi
      refine .inr ⟨b, off, _, rfl, hlt, hcells, ?_⟩
      have hreps : ∀ n, n ≤ len → Reps (Lo W.heap.size) W ((l.take n).map g) ((List.range n).flatMap f) := by
        intro n
        induction n with
        | zero => intro _; simp [Reps]
        | succ n ih =>
          intro hn
          have hnl : n < l.length := by omega
          rw [List.take_succ_eq_append_getElem hnl, List.map_append, List.range_succ, List.flatMap_append]
          refine (Reps.app _ _ _).2 ⟨_, _, rfl, ih (by omega), ?_⟩
          simp only [List.map_cons, List.map_nil, List.flatMap_cons, List.flatMap_nil, List.append_nil, Reps]
          refine ⟨f n, [], by simp, ?_, rfl⟩
          have hln : l[n] = (F ⟨n, by omega⟩).2 := by simp [l]
          have hfn : f n = (F ⟨n, by omega⟩).1 := by simp only [f]; rw [dif_pos (by omega)]
          rw [hln, hfn]; exact (hF ⟨n, by omega⟩).2.1
      have := hreps len (Nat.le_refl _)
      rwa [List.take_of_length_le (by omega)] at this
    · have : l = [] := List.length_eq_zero_iff.1 (by omega)
      left; rw [this]; rfl
end
end Go.Proofs.Ytmihblfjhoblmaa

/- A tree among the arguments: what it says. -/
namespace Go.Proofs.Ytmihblfjhoblmaa
open Go Go.RowKit Go.ChangeShapes Go.WideShapes Go.ChangeAt

theorem co_i64 : Try.prog.cellsOf 2 = 1 := by kernel_rfl
theorem co_u8 : Try.prog.cellsOf 5 = 1 := by kernel_rfl
theorem co_u32 : Try.prog.cellsOf 62 = 1 := by kernel_rfl
theorem co_bool : Try.prog.cellsOf 4 = 1 := by kernel_rfl
theorem co_bytes : Try.prog.cellsOf 22 = 1 := by kernel_rfl
theorem co_trees : Try.prog.cellsOf 23 = 1 := by kernel_rfl
theorem co_tags : Try.prog.cellsOf 24 = 1 := by kernel_rfl
theorem co_tree : Try.prog.cellsOf 26 = 5 := by kernel_rfl
theorem co_tag : Try.prog.cellsOf 64 = 2 := by kernel_rfl
theorem len2 {α : Type} {l : List α} (h : l.length = 2) : ∃ a b, l = [a, b] := by
  match l, h with
  | [a, b], _ => exact ⟨a, b, rfl⟩
theorem len5 {α : Type} {l : List α} (h : l.length = 5) : ∃ a b c d e, l = [a, b, c, d, e] := by
  match l, h with
  | [a, b, c, d, e], _ => exact ⟨a, b, c, d, e, rfl⟩
section
set_option maxRecDepth 100000
variable {H : Type} {enc : TypeId × Value → H} {W : World} {base : Nat} {spare : Nat → Bool} {held : Bool}
theorem bk_all {l : List (DataW H)} : Rows.uptoBulkAll l = (l.map Rows.uptoBulk).sum := by
  induction l with
  | nil => rfl
  | cons x l ih => simp only [Rows.uptoBulkAll, List.map_cons, List.sum_cons, ih]
theorem bk_sl (es sp : List (DataW H)) : (es.map Rows.uptoBulk).sum + 1 ≤ Rows.uptoBulk (.slice es sp) := by
  simp only [Rows.uptoBulk, bk_all]; omega
theorem bk_agg (es : List (DataW H)) : (es.map Rows.uptoBulk).sum + 1 ≤ Rows.uptoBulk (.agg es) := by
  simp only [Rows.uptoBulk, bk_all]; omega
theorem bk_int (k : IntKind) (n : Int) : 1 ≤ Rows.uptoBulk (H := H) (.lit (.int k n)) := by simp [Rows.uptoBulk]
theorem bk_nil : 1 ≤ Rows.uptoBulk (H := H) .nil := by simp [Rows.uptoBulk]
theorem wts_sum (l : List Tree) : Tree.wts l = (l.map Tree.wt).sum := by
  induction l with
  | nil => rfl
  | cons x l ih => simp only [Tree.wts, List.map_cons, List.sum_cons, ih]
theorem ones_sum {α : Type} (l : List α) : (l.map fun _ => 1).sum = l.length := by
  induction l with
  | nil => rfl
  | cons x l ih => simp only [List.map_cons, List.sum_cons, List.length_cons, ih]; omega
theorem open_bytes {fuel : Nat} {cs : List Value} {x : DataW H × List MemPlace} (h : DataW.trod enc Try.prog W base spare held fuel 22 cs = some x) :
    ∃ (s : List UInt8) (v : Value), cs = [v] ∧ s.length ≤ maxLen ∧ Sq W.heap.size W v (s.map byteD) ∧ s.length + 1 ≤ Rows.uptoBulk x.1 := by
  obtain ⟨l, v, h1, h2, h3, _, h5⟩ := open_sq (e := 5) (sz := 1) Try.underlying22 co_u8 (by omega) byteD (fun _ => True) (fun _ => 1) Rows.uptoBulk bk_nil bk_sl h (fun n cs' x' _ hx => by
    obtain ⟨m, rfl, hxe, hw⟩ := DataW.trod_int Try.underlying5 hx
    have hm : 0 ≤ m ∧ m ≤ 255 := by simpa [Lit.wf, IntKind.min, IntKind.max, IntKind.signed, IntKind.bits] using hw
    refine ⟨UInt8.ofNat m.toNat, ?_, trivial, by rw [hxe]; exact bk_int _ _⟩
    simp only [byteD, Rep]
    rw [byteNat _ (by omega)]
    congr 2
    omega)
  rw [ones_sum] at h5
  exact ⟨l, v, h1, h2, h3, h5⟩
theorem open_tags {fuel : Nat} {cs : List Value} {x : DataW H × List MemPlace} (h : DataW.trod enc Try.prog W base spare held fuel 24 cs = some x) :
    ∃ (u : List (Nat × List UInt8)) (v : Value), cs = [v] ∧ u.length ≤ maxLen ∧ Sq W.heap.size W v (u.map tagD) ∧ (∀ kv ∈ u, kv.1 < 4294967296) ∧ tagsW u + 1 ≤ Rows.uptoBulk x.1 := by
  refine open_sq (e := 64) (sz := 2) Try.underlying24 co_tag (by omega) tagD (fun kv => kv.1 < 4294967296) (fun kv => kv.2.length + 1) Rows.uptoBulk bk_nil bk_sl h (fun n cs' x' _ hx => ?_)
  obtain ⟨xs, k, _, rfl, hl, hlen, hf⟩ := DataW.trod_struct Try.underlying64 hx
  rw [co_tag] at hl
  obtain ⟨v0, v1, rfl⟩ := len2 hl
  · have hxl : xs.length = 2 := hlen
    have h0 := hf 0 _ rfl
    have h1 := hf 1 _ rfl
    rw [List.getElem?_eq_getElem (by omega)] at h0 h1
    simp [co_u32, co_bytes] at h0 h1
    obtain ⟨m, hv0, _, hw⟩ := DataW.trod_int Try.underlying62 h0
    obtain ⟨s, v, hv1, _, hs, hsb⟩ := open_bytes h1
    have hm : 0 ≤ m ∧ m ≤ 4294967295 := by simpa [Lit.wf, IntKind.min, IntKind.max, IntKind.signed, IntKind.bits] using hw
    simp only [List.cons.injEq, and_true] at hv0 hv1
    subst hv0; subst hv1
    refine ⟨(m.toNat, s), ?_, by simp only []; omega, ?_⟩
    rotate_left
    · obtain ⟨a, b, rfl⟩ := len2 hxl
      · have := bk_agg [a.1, b.1]
        simp only [List.map_cons, List.map_nil, List.sum_cons, List.sum_nil, List.getElem_cons_succ, List.getElem_cons_zero] at this hsb ⊢
        omega
    have : (.int .u32 m : Value) = .int .u32 ((m.toNat : Nat) : Int) := by congr 1; omega
    rw [this]
    exact rep_tag hs
theorem open_tree : ∀ (fuel : Nat) (cs : List Value) (x : DataW H × List MemPlace), DataW.trod enc Try.prog W base spare held fuel 26 cs = some x →
    ∃ t : Tree, Rep (Lo W.heap.size) W (treeD t) cs ∧ t.ok ∧ t.wt ≤ Rows.uptoBulk x.1 := by
  intro fuel
  induction fuel using Nat.strongRecOn with
  | _ fuel ih =>
    intro cs x h
    obtain ⟨xs, k, hfu, rfl, hl, hlen, hf⟩ := DataW.trod_struct Try.underlying26 h
    rw [co_tree] at hl
    obtain ⟨v0, v1, v2, v3, v4, rfl⟩ := len5 hl
    · have hxl : xs.length = 5 := hlen
      have h0 := hf 0 _ rfl
      have h1 := hf 1 _ rfl
      have h2 := hf 2 _ rfl
      have h3 := hf 3 _ rfl
      have h4 := hf 4 _ rfl
      rw [List.getElem?_eq_getElem (by omega)] at h0 h1 h2 h3 h4
      simp [co_i64, co_bytes, co_bool, co_trees, co_tags] at h0 h1 h2 h3 h4
      obtain ⟨n, hv0, hb0, hw0⟩ := DataW.trod_int Try.underlying2 h0
      obtain ⟨s, sv, hv1, hsl, hs, hb1⟩ := open_bytes h1
      obtain ⟨b, hv2, hb2⟩ := DataW.trod_bool Try.underlying4 h2
      obtain ⟨l, lv, hv3, _, hl3, hok, hb3⟩ := open_sq (e := 26) (sz := 5) Try.underlying23 co_tree (by omega) treeD (fun t => t.ok) Tree.wt Rows.uptoBulk bk_nil bk_sl h3 (fun n cs' x' hn hx => ih n (by omega) cs' x' hx)
      obtain ⟨u, uv, hv4, _, hu, huk, hb4⟩ := open_tags h4
      simp only [List.cons.injEq, and_true] at hv0 hv1 hv2 hv3 hv4
      subst hv0; subst hv1; subst hv2; subst hv3; subst hv4
      refine ⟨.mk n s b l u, rep_tree hs hl3 hu, ?_, ?_⟩
      rotate_left
      · obtain ⟨a0, a1, a2, a3, a4, rfl⟩ := len5 hxl
        · have := bk_agg [a0.1, a1.1, a2.1, a3.1, a4.1]
          simp only [List.map_cons, List.map_nil, List.sum_cons, List.sum_nil, List.getElem_cons_succ, List.getElem_cons_zero] at this hb0 hb1 hb2 hb3 hb4 ⊢
          simp only [Tree.wt, wts_sum]
          omega
      simp only [Tree.ok]
      refine ⟨by simp only [maxLen] at hsl; omega, huk, ?_, by simpa [Lit.wf, IntKind.min, IntKind.max, IntKind.signed, IntKind.bits] using hw0⟩
      have : ∀ l : List Tree, (∀ t ∈ l, t.ok) → Tree.oks l := by
        intro l
        induction l with
        | nil => intro _; simp [Tree.oks]
        | cons y l ih2 => intro h; simp only [Tree.oks]; exact ⟨h y (by simp), ih2 (fun t ht => h t (by simp [ht]))⟩
      exact this l hok
end
end Go.Proofs.Ytmihblfjhoblmaa

/- FnMakeControllerRegistrationRequest: for every number and every tree the statement's function returns true and leaves its arguments as they were. Conditions: those of the row, no others. -/
namespace Go.Proofs.Ytmihblfjhoblmaa.BControllerRegistrationRequest
open Go Go.RowKit Go.ChangeShapes Go.WideShapes Go.ChangeAt

theorem own : ownKnob Try.prog.godebug = none := by kernel_rfl
theorem laidOut : laidOutB Try.prog = true := by kernel_rfl
set_option maxRecDepth 100000 in
theorem lifted (os : Os) (started : os.Started) (H : Type) (enc : TypeId × Value → H) :
    ReturnsInHanded {} Try.checked os 7 .any (Rows.fnMakeControllerRegistrationRequestSpec.pre6 enc Try.prog Try.f7 Rows.fnMakeControllerRegistrationRequestRow.domain false) (Rows.fnMakeControllerRegistrationRequestSpec.post enc Try.prog Try.f7 false true false false) := by
  refine returnsInHanded_of_change (C := Try.checked) own started (by kernel_rfl) Try.func7
    (ChangeSpec.witness6 (enc := enc) (C := Try.checked) false ⟨#[], #[.int .u8 0, .agg #[.int .i64 0, .slice none 0 0, .bool false, .slice none 0 0, .slice none 0 0]], []⟩ 8 (by kernel_rfl) (by kernel_rfl) (by kernel_rfl) (by kernel_rfl)) ?_
  intro W base args ds gs before hval0 hW hcnd _
  have hval : ∀ (j : Nat) t v, Try.f7.params[j]? = some t → args[j]? = some v → Value.okWide Try.prog W .any base t v := hval0
  have hW' := hW
  obtain ⟨p, q, hA0, hV, rfl, hfz, hnd⟩ := hW
  have hA : DataW.TrodAll enc Try.prog W 0 (fun _ => true) true Try.f7.params.toList args.toList ds p := hA0
  rw [Try.params7] at hA hval
  obtain ⟨v0, v1, d0, d1, p0, p1, rfl, rfl, rfl, h0, h1⟩ := trodAll_two hA
  obtain ⟨rfl, rfl⟩ := trodVars_none hV
  obtain ⟨a, rfl, rfl, rfl, wa⟩ := open_int Try.underlying5 (hval 0 5 v0 rfl rfl) h0
  have hv1 := hval 1 26 v1 rfl rfl
  unfold Value.okWide at hv1
  rw [Try.underlying26] at hv1
  obtain ⟨cs, rfl, _⟩ := hv1
  obtain ⟨fuel, hfu⟩ := id h1
  obtain ⟨t, hrep, hok, hwt⟩ := open_tree fuel _ _ hfu
  clear hA0 hval0
  simp only [List.append_nil, List.nil_append] at hW'
  have ha : 0 ≤ a ∧ a ≤ 255 := by simpa [Lit.wf, IntKind.min, IntKind.max, IntKind.signed, IntKind.bits] using wa
  have hlaw := fn_law a.toNat (by omega) t hok W cs.toList hrep
  rw [show ((a.toNat : Nat) : Int) = a from by omega] at hlaw
  simp only [Array.toArray_toList] at hlaw
  refine Calls.mono hlaw fun e W' he => ?_
  obtain ⟨v, rfl, hb, rfl⟩ := he
  refine ⟨_, rfl, _, _, _, [], p1, [], hW', trodAll_mk1 (shut_bool Try.underlying4 _), ?_, ?_, hb.frame _, fun h => by cases h⟩
  · exact trodAll_mk2 (shut_int Try.underlying5 wa) (Below.trod laidOut (by kernel_rfl) (Nat.le_of_ble_eq_true (by kernel_rfl)) h1 hb (fun x hx => hW'.lt x hx))
  · rfl

set_option maxHeartbeats 400000000 in
theorem holds : Rows.FnMakeControllerRegistrationRequestSaid :=
  OpenClaim.holds_of_wide 7 Try.f7 rfl rfl rfl rfl rfl rfl rfl ⟨rfl, rfl, rfl, rfl, rfl⟩ rfl rfl rfl rfl rfl (by kernel_rfl) Try.func7 (by unfold joinedFacts; simp only [Bool.and_eq_true]; and_intros <;> as_aux_lemma => kernel_rfl)
    (of_decide_eq_true (by kernel_rfl)) (by unfold Func.isWrapper; first | (rw [if_pos (by decide +kernel)]; kernel_rfl) | (rw [if_neg (by decide +kernel)]; exact ⟨rfl, rfl⟩))
    (fun os started H enc _ => lifted os started H enc)
end Go.Proofs.Ytmihblfjhoblmaa.BControllerRegistrationRequest
