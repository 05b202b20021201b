/- A part of the proof of FnDefaultMetadataResponseUptoCardSaid: what its texts prove stands at the head of each. Conditions: those that each theorem names. -/
import Derived.Test.YtlmnaffhadeolaaGreatDoorPartF
import Derived.Test.YtlmnaffhadeolaaGreatDoorPartC
import Derived.Test.YtlmnaffhadeolaaGreatDoorPartA
import Derived.Laws.Small
import Derived.Test.YtlmnaffhadeolaaGreatDoorPartE
import Derived.Test.YtlmnaffhadeolaaGreatDoorPartD
set_option linter.all false
namespace Go.Proofs.YtlmnaffhadeolaaGreatDoor.Got
open Go Go.RowKit
theorem ws {ops : Array Oper} {Q : Exit → Act → World → Prop} {N : Nat} {rest : List Oper} {L : Sl} {w : World} {d : Nat} {ty : TypeId} {pos : String} {aft : Array Edge} {o : Op} {v : Value}
  (hs : stepOp Impl.tbl L o = some v) (hd : Nat.blt d N = true) (h : WL rest Tryz.prog ops Q N ((d, v) :: L) w) : WL (⟨some d, o, ty, pos, aft, none⟩ :: rest) Tryz.prog ops Q N L w := wl_step Impl.tbl Impl.tbl_ok hs hd h
theorem S_zv_tree (w : World) : (zeroValue 35).run Tryz.prog w = .ok (.agg #[.int .i64 0, .slice none 0 0, .bool false, .slice none 0 0, .slice none 0 0]) w := by kernel_rfl
theorem S_zv_tag (w : World) : (zeroValue 81).run Tryz.prog w = .ok (.agg #[.int .u32 0, .slice none 0 0]) w := by kernel_rfl
theorem S_ta_tree : tyAgg Tryz.prog 35 = some 5 := by kernel_rfl
theorem S_tz_tree : (Tryz.prog.info? 35).map (·.size) = some 5 := by kernel_rfl
theorem S_ta_tag : tyAgg Tryz.prog 81 = some 2 := by kernel_rfl
theorem S_tz_tag : (Tryz.prog.info? 81).map (·.size) = some 2 := by kernel_rfl
theorem S_es_trees : elemSize Tryz.prog 32 = some 5 := by kernel_rfl
theorem S_es_tags : elemSize Tryz.prog 33 = some 2 := by kernel_rfl
theorem S_to_trees : tyOne Tryz.prog 32 = true := by kernel_rfl
theorem S_to_tags : tyOne Tryz.prog 33 = true := by kernel_rfl
theorem D_zv_tree (w : World) : (zeroValue 26).run Tryz.prog w = .ok (.agg #[.int .i64 0, .slice none 0 0, .bool false, .slice none 0 0, .slice none 0 0]) w := by kernel_rfl
theorem D_ta_tree : tyAgg Tryz.prog 26 = some 5 := by kernel_rfl
theorem D_tz_tree : (Tryz.prog.info? 26).map (·.size) = some 5 := by kernel_rfl
theorem D_to_trees : tyOne Tryz.prog 23 = true := by kernel_rfl
theorem D_to_tags : tyOne Tryz.prog 24 = true := by kernel_rfl
theorem D_fo_tree3 : fieldOff Tryz.prog 26 3 = some 3 := by kernel_rfl
theorem D_rt_trees : rowTy Tryz.prog 23 26 5 = true := by kernel_rfl
theorem D_rt_tags : rowTy Tryz.prog 24 79 2 = true := by kernel_rfl
def GotOK (t : Tree) : Prop := ∀ (B : Nat) (w : World) (ts : List Value), t.small → B ≤ w.heap.size → Rep (Lo B) w (treeD t) ts →
 Fn 13 [.agg ts.toArray] w fun v w' => ∃ cs : List Value, v = .agg cs.toArray ∧ Rep (In B w.heap.size w') w' (treeD t) cs
section
set_option maxRecDepth 100000
theorem got_of (t : Tree) (hF : ∀ x ∈ t.l, GotOK x) : GotOK t := by
 intro B w ts hsm hB ht
 obtain ⟨sv, lv, uv, rfl, hs, hl, hu⟩ := tree_cells ht
 obtain ⟨la, lc, rfl, _⟩ := hl.shape
 obtain ⟨sa, sc, rfl, _⟩ := hs.shape
 obtain ⟨ua, uc, rfl, _⟩ := hu.shape
 have hln := hsm.lens
 refine enter Tryz.func13 rfl Tryz.ntmps13 rfl ?_
 repeat (with_reducible first|apply wc_seq|apply wc_region)
 refine wl_box1 rfl rfl rfl (fun w1 hb1 hg1 hs1 => wl_alloc D_zv_tree rfl rfl (fun w2 hb2 hg2 hs2 => ?_))
 have hbt2 : Box w2 w.heap.size [.int .i64 t.n, .slice sa (t.s.map byteD).length sc, .bool t.nul, .slice la (t.l.map treeD).length lc, .slice ua (t.u.map tagD).length uc] 35 := hb1.kept hg2 (by simp)
 have hw2 : Below w.heap.size w w2 := (below_of hg1 (Nat.le_refl _) (by simp)).trans (below_of hg2 (by omega) (by simp))
 refine wl_nil (qk_thn (wc_seq (wc_region ?_)))
 repeat ((with_reducible apply ws);exact rfl;exact rfl)
 refine wl_loadB rfl to_i64 rfl hbt2 rfl ?_
 repeat ((with_reducible apply ws);exact rfl;exact rfl)
 refine wl_loadB rfl to_bytes rfl hbt2 rfl ?_
 repeat ((with_reducible apply ws);exact rfl;exact rfl)
 refine wl_loadB rfl to_bool rfl hbt2 rfl ?_
 refine wl_build rfl (cs := [.int .i64 t.n, .slice sa (t.s.map byteD).length sc, .bool t.nul, .slice none 0 0, .slice none 0 0]) (by kernel_rfl) rfl ?_
 refine wl_alloc D_zv_tree rfl rfl (fun w3 hb3 hg3 hs3 => ?_)
 refine wl_storeBAgg (vs := [.int .i64 t.n, .slice sa (t.s.map byteD).length sc, .bool t.nul, .slice none 0 0, .slice none 0 0]) rfl rfl rfl D_tz_tree rfl hb3 rfl (fun w4 hb4 hg4 hs4 => ?_)
 have hbt4 := (hbt2.kept hg3 (by simp)).kept hg4 (by simp; omega)
 have hbz4 := (hb2.kept hg3 (by simp)).kept hg4 (by simp; omega)
 have hw4 : Below w.heap.size w w4 := (hw2.trans (below_of hg3 (by omega) (by simp))).trans (below_of hg4 (by omega) (by intro k hk; simp at hk; omega))
 refine wl_nil (qk_thn ?_)
 refine wc_cut (α := Value) (fun d => [(3, .pointer (some ⟨w2.heap.size, 0, none⟩)), (2, .pointer (some ⟨w1.heap.size, 0, none⟩)), (1, .pointer (some ⟨w.heap.size, 0, none⟩))])
  (fun d w' => Below w.heap.size w w' ∧ w4.heap.size ≤ w'.heap.size ∧ Box w' w.heap.size [.int .i64 t.n, .slice sa (t.s.map byteD).length sc, .bool t.nul, .slice la (t.l.map treeD).length lc, .slice ua (t.u.map tagD).length uc] 35 ∧ Box w' w1.heap.size [.int .i64 0, .slice none 0 0, .bool false, .slice none 0 0, .slice none 0 0] 26 ∧ Box w' w2.heap.size [.int .i64 t.n, .slice sa (t.s.map byteD).length sc, .bool t.nul, d, .slice none 0 0] 26 ∧ RowD B w4.heap.size w2.heap.size 26 5 w' d (t.l.map treeD)) ?_ ?_
 ·repeat first|(with_reducible first|apply wc_seq|apply wc_region)|((with_reducible apply ws);exact rfl;exact rfl)
  refine wl_loadB rfl S_to_trees rfl hbt4 rfl ?_
  repeat first|(with_reducible first|apply wl_nil|apply qk_thn|apply wc_block)|((with_reducible apply ws);exact rfl;exact rfl)
  refine wc_loop (α := PtS) (fun s => [(18, .int .i64 (s.i : Int)), (17, .int .i64 ((t.l.map treeD).length : Int)), (16, .slice la (t.l.map treeD).length lc), (3, .pointer (some ⟨w2.heap.size, 0, none⟩)), (2, .pointer (some ⟨w1.heap.size, 0, none⟩)), (1, .pointer (some ⟨w.heap.size, 0, none⟩))])
   (fun s w' => s.i ≤ t.l.length ∧ Below w.heap.size w w' ∧ w4.heap.size ≤ w'.heap.size ∧ Box w' w.heap.size [.int .i64 t.n, .slice sa (t.s.map byteD).length sc, .bool t.nul, .slice la (t.l.map treeD).length lc, .slice ua (t.u.map tagD).length uc] 35 ∧ Box w' w1.heap.size [.int .i64 0, .slice none 0 0, .bool false, .slice none 0 0, .slice none 0 0] 26 ∧ Box w' w2.heap.size [.int .i64 t.n, .slice sa (t.s.map byteD).length sc, .bool t.nul, s.d, .slice none 0 0] 26 ∧ RowD B w4.heap.size w2.heap.size 26 5 w' s.d ((t.l.take s.i).map treeD)) (fun s => t.l.length - s.i) ⟨0, .slice none 0 0, []⟩ ⟨rfl, rfl, rfl, rfl, rfl, rfl, trivial⟩ ⟨Nat.zero_le _, hw4, Nat.le_refl _, hbt4, hbz4, hb4, RowD.nil _ _ _ _ _ _⟩ ?_
  rintro ⟨i, d, _⟩ w12 ⟨hi, hw12, hs1012, hbt12, hbr12, hbq12, hrd12⟩
  simp only [] at hi hbq12 hrd12
  change WC _ _ _ _ [(18, .int .i64 (i : Int)), (17, .int .i64 ((t.l.map treeD).length : Int)), (16, .slice la (t.l.map treeD).length lc), (3, .pointer (some ⟨w2.heap.size, 0, none⟩)), (2, .pointer (some ⟨w1.heap.size, 0, none⟩)), (1, .pointer (some ⟨w.heap.size, 0, none⟩))] _
  repeat first|(with_reducible first|apply wc_seq|apply wc_region|apply wl_nil|apply qk_thn)|((with_reducible apply ws);exact rfl;exact rfl)
  by_cases hlt : i < t.l.length
  ·refine wc_yes rfl (by simpa using hlt) ?_
   obtain ⟨b, off, c', cs, hv, hbB, hcs, hlen, hr⟩ := (hl.below (hw12.mono hB) (Nat.le_refl _)).get (sz := 5) (i := i) (by intro d hd; obtain ⟨x, _, rfl⟩ := List.mem_map.1 hd; exact treeD_width x) (by simpa using hlt)
   simp only [Value.slice.injEq, List.length_map] at hv
   obtain ⟨rfl, _, rfl⟩ := hv
   simp only [List.getElem_map] at hr
   obtain ⟨hcone, _⟩ := treeG_one hr
   repeat (with_reducible first|apply wc_seq|apply wc_region|apply qk_thn|apply wc_block|apply wc_skip)
   refine wl_indexAddr rfl rfl S_es_trees rfl (by simpa using hlt) ?_
   refine wl_loadAgg rfl (by rw [hlen]; exact S_ta_tree) rfl (fun j v e => hcs.cell e) ?_
   refine wl_alloc S_zv_tree rfl rfl (fun w13 hb13 hg13 hs13 => ?_)
   refine wl_storeBAgg rfl rfl rfl (by rw [hlen]; exact S_tz_tree) hcone hb13 (by rw [hlen]; rfl) (fun w14 hb14 hg14 hs14 => ?_)
   have hw1214 : Below w12.heap.size w12 w14 := (below_of hg13 (Nat.le_refl _) (by simp)).trans (below_of hg14 (by omega) (by intro k hk; simp at hk; omega))
   have hw14 : Below w.heap.size w w14 := hw12.trans (hw1214.mono (by omega))
   have hrd14 := hrd12.below hw1214
   have hbr14 := hbr12.below hw1214 hbr12.lt
   have hbt14 := hbt12.below hw1214 hbt12.lt
   have hbq14 := hbq12.below hw1214 hbq12.lt
   have hdl : ∀ g, d.ownBlock = some g → w4.heap.size ≤ g ∧ g < w12.heap.size := hrd12.low
   repeat (with_reducible first|apply wl_nil|apply qk_thn)
   refine wc_parS [(0, .pointer (some ⟨w2.heap.size, 0 + 3, none⟩)), (1, d), (2, .agg cs.toArray), (6, .pointer (some ⟨w2.heap.size, 0 + 3, none⟩))] [7, 5, 4, 3]
    (fun vals w' => Below w.heap.size w w' ∧ w14.heap.size ≤ w'.heap.size ∧ Box w' w.heap.size [.int .i64 t.n, .slice sa (t.s.map byteD).length sc, .bool t.nul, .slice (some ⟨b, off, none⟩) (t.l.map treeD).length lc, .slice ua (t.u.map tagD).length uc] 35 ∧ Box w' w1.heap.size [.int .i64 0, .slice none 0 0, .bool false, .slice none 0 0, .slice none 0 0] 26 ∧ Box w' w12.heap.size cs 35 ∧ match vals with
     | [] => Below w14.heap.size w14 w'
     | [v] => Below w14.heap.size w14 w' ∧ ∃ xs' : List Value, v = .agg xs'.toArray ∧ Rep (In B w14.heap.size w') w' (treeD t.l[i]) xs'
     | [v, _] => Below w14.heap.size w14 w' ∧ ∃ (b8 : Nat) (xs' : List Value), v = .slice (some ⟨b8, 0, none⟩) 1 1 ∧ Box w' b8 xs' 26 ∧ xs'.length = 5 ∧ (xs'.all fun v => v.oneCell') = true ∧ Rep (In B w14.heap.size w') w' (treeD t.l[i]) xs'
     | [v, _, _] => Box w' w2.heap.size [.int .i64 t.n, .slice sa (t.s.map byteD).length sc, .bool t.nul, d, .slice none 0 0] 26 ∧ RowD B w4.heap.size w2.heap.size 26 5 w' v ((t.l.take (i + 1)).map treeD)
     | _ :: v :: _ => Box w' w2.heap.size [.int .i64 t.n, .slice sa (t.s.map byteD).length sc, .bool t.nul, v, .slice none 0 0] 26 ∧ RowD B w4.heap.size w2.heap.size 26 5 w' v ((t.l.take (i + 1)).map treeD))
    mixed rfl rfl rfl rfl rfl (by show ([0,1,2,6] : List Nat).Nodup; decide) rfl rfl (by decide) rfl rfl rfl rfl ⟨hw14.drew, Nat.le_refl _, hbt14, hbr14, hb14, (Below.refl _ w14).drew⟩ ?_ ⟨?_, ?_, ?_, ?_, trivial⟩ ?_
   ·intro p hp vals w' hC hnp a k
    obtain ⟨hC1, hC2, hC3, hC4, hC5, hC6⟩ := hC
    simp only [List.mem_cons, List.not_mem_nil, or_false] at hp
    rcases hp with rfl | rfl | rfl | rfl
    ·exact gv rfl rfl (rn_fieldAddr k rfl D_fo_tree3)
    ·have hbx : Box w' w2.heap.size [.int .i64 t.n, .slice sa (t.s.map byteD).length sc, .bool t.nul, d, .slice none 0 0] 26 := by
      match vals, hC6, hnp with
      | [], h, _ => exact hbq14.below h hbq14.lt
      | [_], h, _ => exact hbq14.below h.1 hbq14.lt
      | [_, _], h, _ => exact hbq14.below h.1 hbq14.lt
      | [_, _, _], h, _ => exact h.1
      | _ :: _ :: _ :: _ :: r, _, hnp =>
       have := hnp 7 (by rw [show ([7, 5, 4, 3] : List Nat).length - (_ :: _ :: _ :: _ :: r).length = 0 from by simp only [List.length_cons, List.length_nil]; omega]; simp)
       exact absurd (show true = false from this) (by simp)
     exact gv rfl rfl (rn_load k rfl D_to_trees (hbx.cell0 (i := 3) rfl))
    ·exact gv rfl rfl (rn_loadBAgg k rfl (by rw [hlen]; exact S_ta_tree) hC5)
    ·exact gv rfl rfl (rn_fieldAddr k rfl D_fo_tree3)
   ·rintro vals w' hvl ⟨hC1, hC2, hC3, hC4, hC5, hC6⟩ a k
    match vals, hvl with
    | [v9, v8, v7], _ =>
     obtain ⟨hbx, hrd⟩ := hC6
     obtain ⟨a9, c9, rfl⟩ := hrd.shape
     refine ⟨_, rfl, does_storeB k rfl rfl D_to_trees rfl hbx rfl (fun w'' hbx'' hg'' hs'' => ⟨hC1.trans (below_of hg'' (by omega) (by intro q hq; simp at hq; omega)), by omega, hC3.kept hg'' (by simp; omega), hC4.kept hg'' (by simp; omega), hC5.kept hg'' (by simp; omega), hbx'', hrd.stored hg''⟩)⟩
   ·rintro vals w' hvl ⟨hC1, hC2, hC3, hC4, hC5, hC6⟩ a k
    match vals, hvl with
    | [v8, v7], _ =>
     obtain ⟨hb7', b8, xs', rfl, hb8, hl5, hone'', hrep⟩ := hC6
     have hrdw := hrd14.below hb7'
     obtain ⟨xs0, hrow0, hreps0⟩ := hrdw.row
     refine ⟨_, rfl, does_app1 k D_rt_trees rfl rfl hb8 hl5 hone'' hrow0 (by omega) (by simp only [List.length_map, List.length_take, many]; omega) (fun d' w'' hrow'' hg'' => ?_)⟩
     have hs'' := hg''.grown.size
     have hne : ∀ q, q < w4.heap.size ∨ w12.heap.size ≤ q → some q ≠ d.ownBlock := fun q hq e => by have := hdl q e.symm; omega
     refine ⟨hC1.trans (hg''.below (by omega) (fun g hg => by have := hdl g hg; omega)), by omega, hC3.kept hg''.grown (hne _ (by omega)), hC4.kept hg''.grown (hne _ (by omega)), hC5.kept hg''.grown (hne _ (by omega)), (hbq14.below hb7' hbq14.lt).kept hg''.grown (hne _ (by omega)), ?_⟩
     have hsn := hrdw.snoc (by omega) (by omega) hreps0 (hrep.off (by omega) ⟨by omega, by omega⟩ (fun g hg => by have := hdl g hg; omega)) hrow'' hg''
     rw [List.take_succ_eq_append_getElem hlt, List.map_append]
     exact hsn
   ·rintro vals w' hvl ⟨hC1, hC2, hC3, hC4, hC5, hC6⟩ a k
    match vals, hvl with
    | [v7], _ =>
     obtain ⟨hb7', xs', rfl, hrep⟩ := hC6
     obtain ⟨hone'', hl5⟩ := treeG_one hrep
     have hga := grown_alloc w' (.cells xs'.toArray 26)
     refine ⟨_, rfl, does_slice1 k D_rt_trees rfl rfl hl5 rfl ⟨hC1.trans (below_of hga (by omega) (by simp)), by simp; omega, hC3.kept hga (by simp), hC4.kept hga (by simp), hC5.kept hga (by simp), hb7'.trans (below_of hga (by omega) (by simp)), _, xs', rfl, box_alloc _ _ _, hl5, hone'', hrep.up (In.up (Nat.le_refl _) (by simp)) (fun r hr => hga.block r hr.2 (by simp))⟩⟩
   ·rintro vals w' hvl ⟨hC1, hC2, hC3, hC4, hC5, hC6⟩ a k
    match vals, hvl with
    | [], _ =>
     simp only [] at hC6
     refine ⟨_, rfl, does_call k rfl (by kernel_rfl) ((hF t.l[i] (List.getElem_mem hlt) B w' _ (hsm.l _ (List.getElem_mem hlt)) (by omega) (Rep.below hr ((hw1214.trans (hC6.mono (by omega))).mono (by omega)) (Nat.le_refl _))).mono ?_)⟩
     rintro e w'' ⟨v, rfl, hb'', cs'', rfl, hrep⟩
     exact ⟨_, rfl, hC1.trans (hb''.mono (by omega)), by have := hb''.size; omega, hC3.below hb'' hC3.lt, hC4.below hb'' hC4.lt, hC5.below hb'' hC5.lt, hC6.trans (hb''.mono (by omega)), cs'', rfl, hrep.up (In.up (by omega) (Nat.le_refl _)) (fun _ _ => rfl)⟩
   ·rintro vals w' hvl ⟨hC1, hC2, hC3, hC4, hC5, hC6⟩
    match vals, hvl with
    | [v11, v9, v8, v7], _ =>
     refine qk_thn ?_
     repeat (with_reducible apply wc_region)
     refine wl_add rfl rfl rfl (r := ((i + 1 : Nat) : Int)) (by rw [IntKind.wrap_i64]; omega) ?_
     repeat first|(with_reducible apply wl_nil)|((with_reducible apply ws);exact rfl;exact rfl)
     exact qk_round ⟨i + 1, v9, []⟩ ⟨rfl, rfl, rfl, rfl, rfl, rfl, trivial⟩ ⟨by simp only []; omega, hC1, by omega, hC3, hC4, hC6.1, hC6.2⟩ (by simp only []; omega)
  ·refine wc_no rfl (by simpa using hlt) ?_
   repeat (with_reducible first|apply wc_exit|apply qk_thn_exit|apply qk_in_exit|apply qk_round_exit)
   rw [List.take_of_length_le (by omega)] at hrd12
   exact qk_cut d ⟨rfl, rfl, rfl, trivial⟩ ⟨hw12, hs1012, hbt12, hbr12, hbq12, hrd12⟩
 rintro d w5 ⟨hw5, hs45, hbt5, hbz5, hbo5, hrd5⟩
 have hdone := hrd5.sqb
 obtain ⟨da, dc, rfl⟩ := hrd5.shape
 refine wc_cut (α := Value) (fun e => [(3, .pointer (some ⟨w2.heap.size, 0, none⟩)), (2, .pointer (some ⟨w1.heap.size, 0, none⟩))])
  (fun e w' => Below w.heap.size w w' ∧ w5.grownBy w' (some w2.heap.size) ∧ Box w' w1.heap.size [.int .i64 0, .slice none 0 0, .bool false, .slice none 0 0, .slice none 0 0] 26 ∧ Box w' w2.heap.size [.int .i64 t.n, .slice sa (t.s.map byteD).length sc, .bool t.nul, .slice da (t.l.map treeD).length dc, e] 26 ∧ RowD B w5.heap.size w2.heap.size 79 2 w' e (t.u.map tagD)) ?_ ?_
 ·repeat first|(with_reducible first|apply wc_seq|apply wc_region)|((with_reducible apply ws);exact rfl;exact rfl)
  refine wl_loadB rfl S_to_tags rfl hbt5 rfl ?_
  rw [show (t.u.map tagD).length = t.u.length from List.length_map ..]
  repeat first|(with_reducible first|apply wl_nil|apply qk_thn|apply wc_block)|((with_reducible apply ws);exact rfl;exact rfl)
  refine wc_loop (α := PtS) (fun s => [(33, .int .i64 (s.i : Int)), (32, .int .i64 (t.u.length : Int)), (31, .slice ua t.u.length uc), (3, .pointer (some ⟨w2.heap.size, 0, none⟩)), (2, .pointer (some ⟨w1.heap.size, 0, none⟩)), (1, .pointer (some ⟨w.heap.size, 0, none⟩))])
   (fun s w' => s.i ≤ t.u.length ∧ Below w.heap.size w w' ∧ w5.grownBy w' (some w2.heap.size) ∧ Box w' w1.heap.size [.int .i64 0, .slice none 0 0, .bool false, .slice none 0 0, .slice none 0 0] 26 ∧ Box w' w2.heap.size [.int .i64 t.n, .slice sa (t.s.map byteD).length sc, .bool t.nul, .slice da (t.l.map treeD).length dc, s.d] 26 ∧ RowD B w5.heap.size w2.heap.size 79 2 w' s.d ((t.u.take s.i).map tagD)) (fun s => t.u.length - s.i) ⟨0, .slice none 0 0, []⟩ ⟨rfl, rfl, rfl, rfl, rfl, rfl, trivial⟩ ⟨Nat.zero_le _, hw5, ⟨rfl, rfl, rfl, Nat.le_refl _, fun _ _ _ => rfl⟩, hbz5, hbo5, RowD.nil _ _ _ _ _ _⟩ ?_
  rintro ⟨i, e, _⟩ w7 ⟨hi, hw7, hgb7, hbz7, hbo7, hrd7⟩
  simp only [] at hi hbo7 hrd7
  change WC _ _ _ _ [(33, .int .i64 (i : Int)), (32, .int .i64 (t.u.length : Int)), (31, .slice ua t.u.length uc), (3, .pointer (some ⟨w2.heap.size, 0, none⟩)), (2, .pointer (some ⟨w1.heap.size, 0, none⟩)), (1, .pointer (some ⟨w.heap.size, 0, none⟩))] _
  repeat first|(with_reducible first|apply wc_seq|apply wc_region|apply wl_nil|apply qk_thn)|((with_reducible apply ws);exact rfl;exact rfl)
  by_cases hlt : i < t.u.length
  ·refine wc_yes rfl (by simpa using hlt) ?_
   obtain ⟨b, off, c', cs, hv, hbB, hcs, hlen, hr⟩ := (hu.below (hw7.mono hB) (Nat.le_refl _)).get (sz := 2) (i := i) (by intro d hd; obtain ⟨x, _, rfl⟩ := List.mem_map.1 hd; exact tagD_width x) (by simpa using hlt)
   simp only [Value.slice.injEq, List.length_map] at hv
   obtain ⟨rfl, _, rfl⟩ := hv
   simp only [List.getElem_map] at hr
   obtain ⟨hcone, _⟩ := tag_one hr
   obtain ⟨qv, hce, hqv⟩ := tag_cells hr
   subst hce
   obtain ⟨qa, qc, rfl, _⟩ := hqv.shape
   repeat (with_reducible first|apply wc_seq|apply wc_region|apply qk_thn|apply wc_block|apply wc_skip)
   refine wl_indexAddr rfl rfl S_es_tags rfl hlt ?_
   refine wl_loadAgg (cs := [.int .u32 (t.u[i].1 : Nat), .slice qa (t.u[i].2.map byteD).length qc]) rfl S_ta_tag rfl (fun j v e => hcs.cell e) ?_
   refine wl_alloc S_zv_tag rfl rfl (fun w8 hb8 hg8 hs8 => ?_)
   refine wl_storeBAgg (vs := [.int .u32 (t.u[i].1 : Nat), .slice qa (t.u[i].2.map byteD).length qc]) rfl rfl rfl S_tz_tag hcone hb8 rfl (fun w9 hb9 hg9 hs9 => ?_)
   have hw79 : Below w7.heap.size w7 w9 := (below_of hg8 (Nat.le_refl _) (by simp)).trans (below_of hg9 (by omega) (by intro k hk; simp at hk; omega))
   have hs57 := hgb7.size
   have hw9 : Below w.heap.size w w9 := hw7.trans (hw79.mono (by omega))
   have hgb9 : w5.grownBy w9 (some w2.heap.size) := grown_but hgb7 (grown_of hw79) (fun g h => by cases h)
   have hbz9 := hbz7.below hw79 hbz7.lt
   have hbo9 := hbo7.below hw79 hbo7.lt
   have hrd9 := hrd7.below hw79
   obtain ⟨ea, ec, hes⟩ := hrd9.shape
   obtain ⟨xs0, hrow0, hreps0⟩ := hrd9.row
   have hel : ∀ g, e.ownBlock = some g → w5.heap.size ≤ g ∧ g < w7.heap.size := hrd7.low
   have hs79 := hw79.size
   repeat first|(with_reducible first|apply wc_region|apply wl_nil|apply qk_thn)|((with_reducible apply ws);exact rfl;exact rfl)
   refine wl_loadB rfl D_to_tags rfl hbo9 rfl ?_
   repeat ((with_reducible apply ws);exact rfl;exact rfl)
   refine wl_loadB rfl to_u32 rfl hb9 rfl ?_
   repeat ((with_reducible apply ws);exact rfl;exact rfl)
   refine wl_loadB rfl to_bytes rfl hb9 rfl ?_
   refine wl_build rfl (cs := [.int .u32 (t.u[i].1 : Nat), .slice qa (t.u[i].2.map byteD).length qc]) (by kernel_rfl) rfl ?_
   refine wl_app1 (cs := [.int .u32 (t.u[i].1 : Nat), .slice qa (t.u[i].2.map byteD).length qc]) D_rt_tags rfl rfl rfl hcone rfl rfl rfl rfl hrow0 (by omega) (by simp only [List.length_map, List.length_take, many]; omega) (fun d' w10 hrow10 hg10 => ?_)
   have hs10 := hg10.grown.size
   have hne : ∀ q, q < w5.heap.size ∨ w7.heap.size ≤ q → some q ≠ e.ownBlock := fun q hq h => by have := hel q h.symm; omega
   have hr9 : Rep (Lo B) w9 (tagD t.u[i]) [.int .u32 (t.u[i].1 : Nat), .slice qa (t.u[i].2.map byteD).length qc] := Rep.below hr (hw79.mono (by omega)) (Nat.le_refl _)
   have hsn := hrd9.snoc (by omega) (by omega) hreps0 (hr9.offLo (by omega) (by omega) (fun g hg => by have := hel g hg; omega)) hrow10 hg10
   have hbo10 := hbo9.kept hg10.grown (hne _ (by omega))
   have hbz10 := hbz9.kept hg10.grown (hne _ (by omega))
   obtain ⟨fa, fc, hfs⟩ := hsn.shape
   subst hfs
   repeat ((with_reducible apply ws);exact rfl;exact rfl)
   refine wl_storeB rfl rfl D_to_tags rfl hbo10 rfl (fun w11 hbo11 hg11 hs11 => ?_)
   repeat (with_reducible first|apply wc_region|apply wl_nil|apply qk_thn|apply qk_in)
   refine wl_add rfl rfl rfl (r := ((i + 1 : Nat) : Int)) (by rw [IntKind.wrap_i64]; omega) ?_
   repeat first|(with_reducible apply wl_nil)|((with_reducible apply ws);exact rfl;exact rfl)
   refine qk_round ⟨i + 1, _, []⟩ ⟨rfl, rfl, rfl, rfl, rfl, rfl, trivial⟩ ⟨by simp only []; omega, (hw9.trans (hg10.below (by omega) (fun g hg => by have := hel g hg; omega))).trans (below_of hg11 (by omega) (by intro q hq; simp at hq; omega)), grown_but (grown_but hgb9 hg10.grown (fun q hq => .inr (by have := hel q hq; omega))) hg11 (fun q hq => .inl (by simpa using hq.symm)), hbz10.kept hg11 (by simp; omega), hbo11, ?_⟩ (by simp only []; omega)
   simp only []
   rw [List.take_succ_eq_append_getElem hlt, List.map_append]
   exact hsn.stored hg11
  ·refine wc_no rfl (by simpa using hlt) ?_
   repeat (with_reducible first|apply wc_exit|apply qk_thn_exit|apply qk_in_exit|apply qk_round_exit)
   rw [List.take_of_length_le (by omega)] at hrd7
   exact qk_cut e ⟨rfl, rfl, trivial⟩ ⟨hw7, hgb7, hbz7, hbo7, hrd7⟩
 rintro e w6 ⟨hw6, hgb6, hbz6, hbo6, hrd6⟩
 obtain ⟨ea, ec, hes⟩ := hrd6.shape
 subst hes
 repeat (with_reducible first|apply wc_seq|apply wc_region)
 refine wl_loadBAgg (cs := [.int .i64 t.n, .slice sa (t.s.map byteD).length sc, .bool t.nul, .slice da (t.l.map treeD).length dc, .slice ea (t.u.map tagD).length ec]) rfl D_ta_tree rfl hbo6 ?_
 refine wl_storeBAgg (vs := [.int .i64 t.n, .slice sa (t.s.map byteD).length sc, .bool t.nul, .slice da (t.l.map treeD).length dc, .slice ea (t.u.map tagD).length ec]) rfl rfl rfl D_tz_tree rfl hbz6 rfl (fun w7 hbz7 hg7 hs7 => ?_)
 repeat (with_reducible first|apply wl_nil|apply qk_thn|apply wc_ret)
 have hs56 := hgb6.size
 have hw7 := hw6.trans (below_of hg7 (by have := hw6.size; omega) (by intro q hq; simp at hq; omega))
 refine qk_retCell (cs := [.int .i64 t.n, .slice sa (t.s.map byteD).length sc, .bool t.nul, .slice da (t.l.map treeD).length dc, .slice ea (t.u.map tagD).length ec]) rfl rfl D_ta_tree hbz7 ⟨_, rfl, hw7, _, rfl, ?_⟩
 have hse := hrd6.sqb
 have e0 : t = .mk t.n t.s t.nul t.l t.u := by cases t; rfl
 rw [e0]
 refine rep_tree ((hs.below (hw7.mono hB) (Nat.le_refl _)).up (fun r hr => ⟨.inl hr, by simp only [Lo] at hr; omega⟩) (fun _ _ => rfl)) ?_ ?_
 ·refine hdone.up (fun r hr => In.up (by omega) (by omega) r hr.1) (fun r hr => ?_)
  have h1 : r ≠ w1.heap.size := by
   rcases hr.1.1 with h | h <;> omega
  rw [hg7.block r (by have := hr.1.2; omega) (by simp; omega), hgb6.block r hr.1.2 (by simpa using hr.2)]
 ·refine hse.up (fun r hr => In.up (by omega) (by omega) r hr.1) (fun r hr => ?_)
  have h1 : r ≠ w1.heap.size := by
   rcases hr.1.1 with h | h <;> omega
  rw [hg7.block r hr.1.2 (by simp; omega)]
end
mutual
theorem got_ok : ∀ t : Tree, GotOK t
 | .mk _ _ _ l _ => got_of _ (gots_ok l)
theorem gots_ok : ∀ l : List Tree, ∀ x ∈ l, GotOK x
 | [], x, hx => by cases hx
 | y :: l, x, hx => by
  have hy := got_ok y
  have hl := gots_ok l
  rcases List.mem_cons.1 hx with h0 | h1
  ·rw [h0]; exact hy
  ·exact hl x h1
end
end Go.Proofs.YtlmnaffhadeolaaGreatDoor.Got

namespace Go.Proofs.YtlmnaffhadeolaaGreatDoor
open Go Go.RowKit
section
variable {P : Program} {N : Nat} {L : Sl} {a : Act} {w : World} {d : Nat} {ty : TypeId} {pos : String} {aft : Array Edge}
theorem rn_gtr {d : Option Nat} {gd : Option (Nat × Bool)} {x y : Operand} {t u : TypeId} {kk : IntKind} {m n : Int} (k : Kn N a L) (hx : ev L x = some (.int kk m)) (hy : ev L y = some (.int kk n)) : (execOp a.eval ⟨d, .binOp .gtr t x y u, ty, pos, aft, gd⟩).run P w = .ok (.value (.bool (decide (n < m)))) w := by
 simp only [execOp, k.eval hx, k.eval hy]; simp [go_sem]
theorem rn_sub {d : Option Nat} {gd : Option (Nat × Bool)} {x y : Operand} {t u : TypeId} {kk : IntKind} {m n r : Int} (k : Kn N a L) (hx : ev L x = some (.int kk m)) (hy : ev L y = some (.int kk n)) (hr : kk.wrap (m - n) = r) : (execOp a.eval ⟨d, .binOp .sub t x y u, ty, pos, aft, gd⟩).run P w = .ok (.value (.int kk r)) w := by
 simp only [execOp, k.eval hx, k.eval hy]; simp [go_sem, hr]
end
section
variable {P : Program} {N : Nat} {L : Sl} {w : World}
theorem qk_retCell2 {fn : Func} {R : Ending → World → Prop} {t u b : Nat} {tt e : TypeId} {cs : List Value} {x : Value} (hr : fn.results = #[.cell t tt, .tmp u]) (hv : lk L t = some (.pointer (some ⟨b, 0, none⟩))) (ht : tyAgg P tt = some cs.length) (hB : Box w b cs e) (hx : lk L u = some x) (h : R (.returned (.tuple #[.agg cs.toArray, x])) w) : QK .ret (bodyPost P fn R) N L w := by
 intro a k
 have h1 := k.at_ t _ hv
 have h2 := k.at_ u _ hx
 refine ⟨k.defers, .tuple #[.agg cs.toArray, x], ?_, h⟩
 have hl := run_loadCells_list (P := P) w ⟨b, 0, none⟩ cs (fun j v e => by rw [add_plain _ _ rfl]; simp only [Nat.zero_add]; exact hB.cell e)
 unfold tyAgg at ht
 simp only [gt] at h1 h2
 rw [Array.getD_eq_getD_getElem?] at h1 h2
 split at ht
 ·rename_i u hu
  cases hi : P.info? tt with
  | none => simp [hi] at ht
  | some i => simp [hi] at ht; simp [results, hr, h1, h2, loadVar, isAgg, run_underlying hu, sizeOf, typeInfo, hi, ht, hl, asAddr]
 ·rename_i u hu
  cases hi : P.info? tt with
  | none => simp [hi] at ht
  | some i => simp [hi] at ht; simp [results, hr, h1, h2, loadVar, isAgg, run_underlying hu, sizeOf, typeInfo, hi, ht, hl, asAddr]
 ·cases ht
end
end Go.Proofs.YtlmnaffhadeolaaGreatDoor

namespace Go.Proofs.YtlmnaffhadeolaaGreatDoor.Tlk
open Go Go.RowKit
section
variable {P : Program} {ops : Array Oper} {Q : Exit → Act → World → Prop} {N : Nat} {rest : List Oper} {L : Sl} {w : World} {d : Nat} {op : Op} {ty : TypeId} {pos : String} {aft : Array Edge}
theorem wl_does (hd : Nat.blt d N = true) (h : ∀ a, Kn N a L → Does P ⟨some d, op, ty, pos, aft, none⟩ a w fun v w' => WL rest P ops Q N ((d, v) :: L) w') : WL (⟨some d, op, ty, pos, aft, none⟩ :: rest) P ops Q N L w := by
 intro a k
 refine wpList_plain rfl (fun K hK => h a k K Q (fun v w' hv => hK _ _ (hv _ (k.put v hd))))
end
theorem ws {ops : Array Oper} {Q : Exit → Act → World → Prop} {N : Nat} {rest : List Oper} {L : Sl} {w : World} {d : Nat} {ty : TypeId} {pos : String} {aft : Array Edge} {o : Op} {v : Value}
  (hs : stepOp Impl.tbl L o = some v) (hd : Nat.blt d N = true) (h : WL rest Tryz.prog ops Q N ((d, v) :: L) w) : WL (⟨some d, o, ty, pos, aft, none⟩ :: rest) Tryz.prog ops Q N L w := wl_step Impl.tbl Impl.tbl_ok hs hd h
set_option maxRecDepth 100000
theorem b0 (n : Int) : Tryz.prog.built 35 [(0, .int .i64 n)] = some #[.int .i64 n, .slice none 0 0, .bool false, .slice none 0 0, .slice none 0 0] := by kernel_rfl
theorem b1 (a : Option Addr) (n c : Nat) : Tryz.prog.built 35 [(1, .slice a n c)] = some #[.int .i64 0, .slice a n c, .bool false, .slice none 0 0, .slice none 0 0] := by kernel_rfl
theorem b3 (a : Option Addr) (n c : Nat) : Tryz.prog.built 35 [(3, .slice a n c)] = some #[.int .i64 0, .slice none 0 0, .bool false, .slice a n c, .slice none 0 0] := by kernel_rfl
theorem sz5 : sizeIs Tryz.prog 35 5 = true := by kernel_rfl
theorem tty : TTy Tryz.prog 35 := ⟨b0, b1, b3, sz5, Impl.ta_tree, Impl.zv_tree⟩
theorem rep_flagC {ok : Nat → Prop} {w : World} : Rep ok w (treeD nullT) (flagC true) := by
 have := rep_text (ok := ok) (w := w) (s := []) (sv := .slice none 0 0) (b := true) rep_nilS
 exact this
theorem pt_str : (match Tryz.prog.underlying 82 with | some (.pointer _) => true | _ => false) = true := by kernel_rfl
theorem is_str : isStr Tryz.prog 9 = true := by kernel_rfl
theorem is_bytes : isBytes Tryz.prog 22 = true := by kernel_rfl
theorem boolP : TlC Tryz.prog 149 0 (-1) := by
 refine ⟨by kernel_rfl, fun B w d c T hr hB hT => ?_⟩
 have hT' : ∃ b : Bool, d = .lit (.bool b) ∧ T = leafT (if b then 1 else 0) := hT
 obtain ⟨b, rfl, rfl⟩ := hT'
 simp only [Rep, List.cons.injEq, and_true] at hr
 subst hr
 refine enter (vs := [.bool b]) Tryz.func149 rfl Tryz.ntmps149 rfl ?_
 repeat (with_reducible first|apply wc_seq|apply wc_region)
 refine wl_alloc Impl.zv_tree rfl rfl (fun w1 hb1 hg1 hs1 => ?_)
 repeat first|(with_reducible first|apply wc_seq|apply wc_region|apply wl_nil|apply qk_thn)|((with_reducible apply ws);exact rfl;exact rfl)
 cases b with
 | true =>
  refine wc_yes rfl rfl ?_
  repeat (with_reducible first|apply wc_seq|apply wc_region)
  refine wl_build rfl (cs := [.int .i64 1, .slice none 0 0, .bool false, .slice none 0 0, .slice none 0 0]) (by kernel_rfl) rfl ?_
  refine wl_storeBAgg (vs := [.int .i64 1, .slice none 0 0, .bool false, .slice none 0 0, .slice none 0 0]) rfl rfl rfl Impl.tz_tree rfl hb1 rfl (fun w2 hb2 hg2 hs2 => ?_)
  repeat (with_reducible first|apply wl_nil|apply qk_thn|apply wc_ret|apply qk_thn_ret)
  refine qk_retCell (cs := [.int .i64 1, .slice none 0 0, .bool false, .slice none 0 0, .slice none 0 0]) rfl rfl Impl.ta_tree hb2 ⟨_, leafT 1, rfl, rep_leaf 1, ⟨true, rfl, rfl⟩, ?_⟩
  exact ⟨hg2.os.trans hg1.os, hg2.tape.trans hg1.tape, hg2.output.trans hg1.output, by omega, fun j hj _ => by rw [hg2.block j (by omega) (by simp; omega), hg1.block j hj (by simp)]⟩
 | false =>
  refine wc_no rfl rfl ?_
  repeat (with_reducible first|apply wc_seq|apply wc_region|apply qk_thn|apply wc_skip)
  refine wl_build rfl (cs := [.int .i64 0, .slice none 0 0, .bool false, .slice none 0 0, .slice none 0 0]) (by kernel_rfl) rfl ?_
  refine wl_storeBAgg (vs := [.int .i64 0, .slice none 0 0, .bool false, .slice none 0 0, .slice none 0 0]) rfl rfl rfl Impl.tz_tree rfl hb1 rfl (fun w2 hb2 hg2 hs2 => ?_)
  repeat (with_reducible first|apply wl_nil|apply qk_thn|apply wc_ret)
  refine qk_retCell (cs := [.int .i64 0, .slice none 0 0, .bool false, .slice none 0 0, .slice none 0 0]) rfl rfl Impl.ta_tree hb2 ⟨_, leafT 0, rfl, rep_leaf 0, ⟨false, rfl, rfl⟩, ?_⟩
  exact ⟨hg2.os.trans hg1.os, hg2.tape.trans hg1.tape, hg2.output.trans hg1.output, by omega, fun j hj _ => by rw [hg2.block j (by omega) (by simp; omega), hg1.block j hj (by simp)]⟩
theorem textP : TlC Tryz.prog 75 8 0 := by
 refine ⟨by kernel_rfl, fun B w d c T hr hB hT => ?_⟩
 have hT' : (d = .lit (.pointer none) ∧ T = nullT) ∨ (∃ s, d = .ptr (.lit (strV s)) ∧ T = textT s) := hT
 rcases hT' with ⟨rfl, rfl⟩ | ⟨s, rfl, rfl⟩
 ·simp only [Rep, List.cons.injEq, and_true] at hr
  subst hr
  refine enter (vs := [.pointer none]) Tryz.func75 rfl Tryz.ntmps75 rfl ?_
  repeat (with_reducible first|apply wc_seq|apply wc_region)
  refine wl_alloc Impl.zv_tree rfl rfl (fun w1 hb1 hg1 hs1 => ?_)
  repeat first|(with_reducible first|apply wc_seq|apply wc_region|apply wl_nil|apply qk_thn)|((with_reducible apply ws);exact rfl;exact rfl)
  refine wl_ptrNil rfl pt_str rfl ?_
  repeat (with_reducible first|apply wl_nil|apply qk_thn)
  refine wc_yes rfl rfl ?_
  repeat (with_reducible first|apply wc_seq|apply wc_region)
  refine wl_build rfl (cs := flagC true) (by kernel_rfl) rfl ?_
  refine wl_storeBAgg (vs := flagC true) rfl rfl rfl Impl.tz_tree rfl hb1 rfl (fun w2 hb2 hg2 hs2 => ?_)
  repeat (with_reducible first|apply wl_nil|apply qk_thn|apply wc_ret|apply qk_thn_ret)
  refine qk_retCell (cs := flagC true) rfl rfl Impl.ta_tree hb2 ⟨_, nullT, rfl, rep_flagC, .inl ⟨rfl, rfl⟩, ?_⟩
  exact ⟨hg2.os.trans hg1.os, hg2.tape.trans hg1.tape, hg2.output.trans hg1.output, by omega, fun j hj _ => by rw [hg2.block j (by omega) (by simp; omega), hg1.block j hj (by simp)]⟩
 ·simp only [Rep] at hr
  obtain ⟨b, cs', hc, hbB, hcs, hr⟩ := hr
  simp only [List.cons.injEq, and_true] at hc
  subst hc
  subst hr
  have hbB' : b < B := hbB
  refine enter (vs := [.pointer (some ⟨b, 0, none⟩)]) Tryz.func75 rfl Tryz.ntmps75 rfl ?_
  repeat (with_reducible first|apply wc_seq|apply wc_region)
  refine wl_alloc Impl.zv_tree rfl rfl (fun w1 hb1 hg1 hs1 => ?_)
  have hcs1 : CellsAt w1 b 0 [strV s] := hcs.of_block (hg1.block b (by omega) (by simp))
  repeat first|(with_reducible first|apply wc_seq|apply wc_region|apply wl_nil|apply qk_thn)|((with_reducible apply ws);exact rfl;exact rfl)
  refine wl_ptrNil rfl pt_str rfl ?_
  repeat (with_reducible first|apply wl_nil|apply qk_thn)
  refine wc_no rfl rfl ?_
  repeat first|(with_reducible first|apply wc_seq|apply wc_region|apply qk_thn|apply wc_skip)|((with_reducible apply ws);exact rfl;exact rfl)
  refine wl_load rfl to_str rfl (v := strV s) (by have := hcs1.cell (i := 0) (v := strV s) rfl; simpa using this) ?_
  refine wl_does rfl (fun a k => do_toBytes (l0 := w1.heap.size) rfl (k.at_ _ _ rfl) is_str is_bytes (Nat.le_refl _) (fun v w2 hv hrv hc2 => ?_))
  obtain ⟨va, vn, vc, rfl⟩ := hv
  have hs2 := hc2.size
  refine wl_build rfl (cs := [.int .i64 0, .slice va vn vc, .bool false, .slice none 0 0, .slice none 0 0]) (by kernel_rfl) rfl ?_
  have hb2 := hb1.chg hc2 (fun h => h)
  refine wl_storeBAgg (vs := [.int .i64 0, .slice va vn vc, .bool false, .slice none 0 0, .slice none 0 0]) rfl rfl rfl Impl.tz_tree rfl hb2 rfl (fun w3 hb3 hg3 hs3 => ?_)
  repeat (with_reducible first|apply wl_nil|apply qk_thn|apply wc_ret)
  refine qk_retCell (cs := [.int .i64 0, .slice va vn vc, .bool false, .slice none 0 0, .slice none 0 0]) rfl rfl Impl.ta_tree hb3 ⟨_, textT s, rfl, rep_text (hrv.up (fun r hr => ⟨.inr (by rcases hr.1 with h | h; exact absurd h (Nat.not_lt_zero _); omega), by have := hr.2; omega⟩) (fun r hr => hg3.block r hr.2 (by rcases hr.1 with h | h; exact absurd h (Nat.not_lt_zero _); simp; omega))), .inr ⟨s, rfl, rfl⟩, ?_⟩
  refine ⟨hg3.os.trans (hc2.os.trans hg1.os), hg3.tape.trans (hc2.tape.trans hg1.tape), hg3.output.trans (hc2.output.trans hg1.output), by omega, fun j hj _ => ?_⟩
  rw [hg3.block j (by omega) (by simp; omega), hc2.block j (by omega) (fun h => h), hg1.block j hj (by simp)]
theorem octsP : TlC Tryz.prog 129 9 (-1) := by
 refine ⟨by kernel_rfl, fun B w d c T hr hB hT => ?_⟩
 have hT' : ∃ (s : List UInt8) (b : Bool), (T = .mk 0 s b [] [] ∧ s.length ≤ lim) ∧ (d = .sl b (s.map byteD) ∨ (d = .sq (s.map byteD) ∧ (s ≠ [] → b = false))) := hT
 obtain ⟨s, b, ⟨rfl, hlen⟩, hd⟩ := hT'
 have hsq : Sq B w c (s.map byteD) := by
  rcases hd with rfl | ⟨rfl, _⟩
  ·exact sl_sq hr
  ·exact hr
 obtain ⟨ca, cc, rfl, _⟩ := hsq.shape
 have hfl : TellV 9 (-1) d (.mk 0 s ca.isNone [] []) := by
  refine ⟨s, ca.isNone, ⟨rfl, hlen⟩, ?_⟩
  rcases hd with rfl | ⟨rfl, _⟩
  ·simp only [Rep] at hr
   obtain ⟨a', c', e, _, h1, h2⟩ := hr
   simp only [List.cons.injEq, Value.slice.injEq, and_true] at e
   obtain ⟨rfl, _, rfl⟩ := e
   cases b with
   | true => rw [(h1 rfl).1]; exact .inl rfl
   | false => obtain ⟨b', o', cs', ha, _⟩ := h2 rfl; rw [ha]; exact .inl rfl
  ·refine .inr ⟨rfl, fun hne => ?_⟩
   simp only [Rep] at hr
   obtain ⟨a', c', e, _, h2⟩ := hr
   simp only [List.cons.injEq, Value.slice.injEq, and_true] at e
   obtain ⟨rfl, _, rfl⟩ := e
   rcases h2 with h2 | ⟨b', o', cs', ha, _⟩
   ·exact absurd (List.map_eq_nil_iff.1 h2) hne
   ·rw [ha]; rfl
 refine enter (vs := [.slice ca (s.map byteD).length cc]) Tryz.func129 rfl Tryz.ntmps129 rfl ?_
 repeat (with_reducible first|apply wc_seq|apply wc_region)
 refine wl_alloc Impl.zv_tree rfl rfl (fun w1 hb1 hg1 hs1 => ?_)
 have hw1 : Below w.heap.size w w1 := below_of hg1 (Nat.le_refl _) (by simp)
 repeat first|(with_reducible first|apply wc_seq|apply wc_region|apply wl_nil|apply qk_thn)|((with_reducible apply ws);exact rfl;exact rfl)
 refine wl_appSl tb_bytes tb_bytes rfl rfl rfl (hsq.below (hw1.mono hB) (Nat.le_refl _)).bytes (Own.nil w1 w1.heap.size 5) (Nat.le_refl _) (by simpa using hlen) (fun d2 w2 ho2 hg2 => ?_)
 rw [List.nil_append] at ho2
 obtain ⟨da, dc, rfl⟩ := ho2.shape
 have hb2 := hb1.kept hg2.grown (by simp [Value.ownBlock])
 have hs2 := hg2.grown.size
 repeat ((with_reducible apply ws);exact rfl;exact rfl)
 refine wl_sliceNil rfl el_bytes rfl ?_
 refine wl_build rfl (cs := [.int .i64 0, .slice da s.length dc, .bool ca.isNone, .slice none 0 0, .slice none 0 0]) (by kernel_rfl) rfl ?_
 refine wl_storeBAgg (vs := [.int .i64 0, .slice da s.length dc, .bool ca.isNone, .slice none 0 0, .slice none 0 0]) rfl rfl rfl Impl.tz_tree rfl hb2 rfl (fun w3 hb3 hg3 hs3 => ?_)
 repeat (with_reducible first|apply wl_nil|apply qk_thn|apply wc_ret)
 have ho3 := ho2.kept hg3 (by
  cases hob : (Value.slice da s.length dc).ownBlock with
  | none => exact .inl rfl
  | some g => exact .inr (fun e => by have := ho2.ge g hob; simp only [Option.some.injEq] at e; omega))
 refine qk_retCell (cs := [.int .i64 0, .slice da s.length dc, .bool ca.isNone, .slice none 0 0, .slice none 0 0]) rfl rfl Impl.ta_tree hb3 ⟨_, .mk 0 s ca.isNone [] [], rfl, rep_text (own_rep (l0 := w.heap.size) ho3 (by omega)), hfl, ?_⟩
 refine ⟨hg3.os.trans (hg2.grown.os.trans hg1.os), hg3.tape.trans (hg2.grown.tape.trans hg1.tape), hg3.output.trans (hg2.grown.output.trans hg1.output), by omega, fun j hj _ => ?_⟩
 rw [hg3.block j (by omega) (by simp; omega), hg2.grown.block j (by omega) (by simp [Value.ownBlock]), hg1.block j hj (by simp)]
theorem eachP : EachC Tryz.prog 66 := ⟨by kernel_rfl, fun w B b off g bs kvs v S Inv h1 h2 h3 h4 h5 h6 h7 h8 h9 => Ea.fn_eachG w B b off g bs kvs v S Inv h1 h2 h3 h4 h5 h6 h7 h8 h9⟩
theorem es_tagsI : elemSize Tryz.prog 33 = some 2 := by kernel_rfl
theorem fo_tag0 : fieldOff Tryz.prog 81 0 = some 0 := by kernel_rfl
set_option maxHeartbeats 2000000 in
theorem sortP : SoC Tryz.prog 68 := by
 refine ⟨by kernel_rfl, fun w v u hsq hok hmany => ?_⟩
 obtain ⟨ua, uc, rfl, _⟩ := hsq.shape
 rw [List.length_map] at hsq ⊢
 refine enter (vs := [.slice ua u.length uc]) Tryz.func68 rfl Tryz.ntmps68 rfl ?_
 repeat first|(with_reducible first|apply wc_seq|apply wc_region|apply wl_nil|apply qk_thn|apply wc_block)|((with_reducible apply ws);exact rfl;exact rfl)
 refine wc_loop (α := Nat) (fun i => [(6, .int .i64 (i : Int)), (5, .int .i64 (u.length : Int)), (0, .slice ua u.length uc)]) (fun i w' => i ≤ u.length ∧ Chg (fun _ => False) w w') (fun i => u.length - i) 0 ⟨rfl, rfl, rfl, trivial⟩ ⟨Nat.zero_le _, Chg.refl _ _⟩ ?_
 rintro i w1 ⟨hi, hc1⟩
 have hmany' : u.length ≤ 68719476736 := hmany
 repeat first|(with_reducible first|apply wc_seq|apply wc_region|apply wl_nil|apply qk_thn)|((with_reducible apply ws);exact rfl;exact rfl)
 by_cases hlt : i < u.length
 ·refine wc_yes rfl (by simpa using hlt) ?_
  repeat first|(with_reducible first|apply wc_seq|apply wc_region|apply wl_nil|apply qk_thn|apply wc_block|apply wc_skip)|((with_reducible apply ws);exact rfl;exact rfl)
  refine wc_loop (α := Unit) (fun _ => [(6, .int .i64 (i : Int)), (5, .int .i64 (u.length : Int)), (0, .slice ua u.length uc), (3, .int .i64 (i : Int))]) (fun _ w' => Chg (fun _ => False) w w') (fun _ => 0) () ⟨rfl, rfl, rfl, rfl, trivial⟩ hc1 ?_
  rintro _ w2 hc2
  repeat (with_reducible apply wc_seq)
  by_cases h0 : i = 0
  ·subst h0
   refine wc_par [(0, .int .i64 ((0 : Nat) : Int)), (1, .bool false), (2, .bool false), (3, undef), (4, undef), (5, undef), (6, undef), (7, undef), (8, undef), (9, undef), (10, undef), (11, undef), (12, undef), (13, undef), (14, undef), (15, .bool false)] []
    (fun _ w' => Chg (fun _ => False) w w') mixed rfl rfl rfl rfl rfl (by show ([0,1,2,3,4,5,6,7,8,9,10,11,12,13,14,15] : List Nat).Nodup; decide) rfl rfl (by decide) rfl rfl rfl rfl (hc2.trans (chg_drew _ _)) ?_ trivial ?_
   ·intro p hp vals w' hC a k
    simp only [List.mem_cons, List.not_mem_nil, or_false] at hp
    rcases hp with rfl | rfl | rfl | rfl | rfl | rfl | rfl | rfl | rfl | rfl | rfl | rfl | rfl | rfl | rfl | rfl
    ·exact gv rfl rfl (rn_move k rfl)
    ·exact gv rfl rfl ((rn_gtr k rfl rfl).trans rfl)
    ·exact gv rfl rfl (rn_move k rfl)
    iterate 12 (exact gv_no rfl rfl rfl k rfl rfl)
    ·exact gv rfl rfl (rn_pick k rfl rfl)
   ·rintro vals w3 hvl hC
    refine qk_thn ?_
    refine wc_no rfl rfl ?_
    repeat (with_reducible first|apply wc_region|apply qk_thn|apply wc_exit|apply qk_in|apply qk_thn_exit|apply qk_in_exit|apply qk_round_exit)
    refine wl_add rfl rfl rfl (r := ((0 + 1 : Nat) : Int)) (by decide) ?_
    repeat first|(with_reducible apply wl_nil)|((with_reducible apply ws);exact rfl;exact rfl)
    exact qk_round (0 + 1) ⟨rfl, rfl, rfl, trivial⟩ ⟨by omega, hC⟩ (by omega)
  ·have hpos : 0 < i := Nat.pos_of_ne_zero h0
   obtain ⟨b, off, c1, cs, hv, hbB, hcs, hcl, hr⟩ := hsq.get (sz := 2) (i := i) (by intro d hd; obtain ⟨x, _, rfl⟩ := List.mem_map.1 hd; exact tagD_width x) (by simpa using hlt)
   obtain ⟨b2, off2, c2, cs2, hv2, _, hcs2, hcl2, hr2⟩ := hsq.get (sz := 2) (i := i - 1) (by intro d hd; obtain ⟨x, _, rfl⟩ := List.mem_map.1 hd; exact tagD_width x) (by simp; omega)
   rw [hv] at hv2
   simp only [Value.slice.injEq, List.length_map, Option.some.injEq, Addr.mk.injEq, and_true, true_and] at hv hv2
   obtain ⟨rfl, _, rfl⟩ := hv
   obtain ⟨⟨rfl, rfl⟩, rfl⟩ := hv2
   simp only [List.getElem_map] at hr hr2
   obtain ⟨q1, rfl, _⟩ := tag_cells hr
   obtain ⟨q2, rfl, _⟩ := tag_cells hr2
   have hrise : ((u[i - 1]'(by omega)).1 : Nat) < (u[i]).1 := List.pairwise_iff_getElem.1 hok.1 (i - 1) i (by omega) hlt (by omega)
   have hbw : b < w.heap.size := hcs.lt
   refine wc_par [(0, .int .i64 (i : Int)), (1, .bool true), (2, .bool true), (3, .slice (some ⟨b, off, none⟩) u.length uc), (4, .int .i64 (i : Int)), (5, .pointer (some ⟨b, off + i * 2, none⟩)), (6, .pointer (some ⟨b, off + i * 2 + 0, none⟩)), (7, .int .u32 (u[i].1 : Nat)), (8, .slice (some ⟨b, off, none⟩) u.length uc), (9, .int .i64 (i : Int)), (10, .int .i64 ((i - 1 : Nat) : Int)), (11, .pointer (some ⟨b, off + (i - 1) * 2, none⟩)), (12, .pointer (some ⟨b, off + (i - 1) * 2 + 0, none⟩)), (13, .int .u32 ((u[i - 1]'(by omega)).1 : Nat)), (14, .bool false), (15, .bool false)] []
    (fun _ w' => Chg (fun _ => False) w w') mixed rfl rfl rfl rfl rfl (by show ([0,1,2,3,4,5,6,7,8,9,10,11,12,13,14,15] : List Nat).Nodup; decide) rfl rfl (by decide) rfl rfl rfl rfl (hc2.trans (chg_drew _ _)) ?_ trivial ?_
   ·intro p hp vals w' hC a k
    have hck := hcs.chg hC (fun h => h)
    have hck2 := hcs2.chg hC (fun h => h)
    simp only [List.mem_cons, List.not_mem_nil, or_false] at hp
    rcases hp with rfl | rfl | rfl | rfl | rfl | rfl | rfl | rfl | rfl | rfl | rfl | rfl | rfl | rfl | rfl | rfl
    ·exact gv rfl rfl (rn_move k rfl)
    ·exact gv rfl rfl ((rn_gtr k rfl rfl).trans (by rw [show decide ((0 : Int) < (i : Int)) = true from by simp; omega]))
    ·exact gv rfl rfl (rn_move k rfl)
    ·exact gv_yes rfl rfl rfl k rfl rfl (rn_move k rfl)
    ·exact gv_yes rfl rfl rfl k rfl rfl (rn_move k rfl)
    ·exact gv_yes rfl rfl rfl k rfl rfl (rn_indexAddr k rfl rfl es_tagsI hlt)
    ·exact gv_yes rfl rfl rfl k rfl rfl (rn_fieldAddr k rfl fo_tag0)
    ·exact gv_yes rfl rfl rfl k rfl rfl (rn_load k rfl to_u32 (hck.cell (i := 0) rfl))
    ·exact gv_yes rfl rfl rfl k rfl rfl (rn_move k rfl)
    ·exact gv_yes rfl rfl rfl k rfl rfl (rn_move k rfl)
    ·exact gv_yes rfl rfl rfl k rfl rfl (rn_sub k rfl rfl (by rw [IntKind.wrap_i64]; omega))
    ·exact gv_yes rfl rfl rfl k rfl rfl (rn_indexAddr k rfl rfl es_tagsI (by omega))
    ·exact gv_yes rfl rfl rfl k rfl rfl (rn_fieldAddr k rfl fo_tag0)
    ·exact gv_yes rfl rfl rfl k rfl rfl (rn_load k rfl to_u32 (hck2.cell (i := 0) rfl))
    ·exact gv_yes rfl rfl rfl k rfl rfl ((rn_lss k rfl rfl).trans (by rw [show decide (((u[i].1 : Nat) : Int) < (((u[i - 1]'(by omega)).1 : Nat) : Int)) = false from by simp; omega]))
    ·exact gv rfl rfl (rn_pick k rfl rfl)
   ·rintro vals w3 hvl hC
    refine qk_thn ?_
    refine wc_no rfl rfl ?_
    repeat (with_reducible first|apply wc_region|apply qk_thn|apply wc_exit|apply qk_in|apply qk_thn_exit|apply qk_in_exit|apply qk_round_exit)
    refine wl_add rfl rfl rfl (r := ((i + 1 : Nat) : Int)) (by rw [IntKind.wrap_i64]; omega) ?_
    repeat first|(with_reducible apply wl_nil)|((with_reducible apply ws);exact rfl;exact rfl)
    exact qk_round (i + 1) ⟨rfl, rfl, rfl, trivial⟩ ⟨by omega, hC⟩ (by omega)
 ·refine wc_no rfl (by simpa using hlt) ?_
  repeat (with_reducible first|apply wc_exit|apply qk_thn_exit|apply qk_in_exit|apply qk_round_exit)
  exact qk_end0 rfl ⟨rfl, hc1⟩
end Go.Proofs.YtlmnaffhadeolaaGreatDoor.Tlk

namespace Go.Proofs.YtlmnaffhadeolaaGreatDoor
open Go Go.RowKit
theorem endR_out {flex : Bool} {off : Nat} {a r : List Ra} (h : endR flex off a = some r) : (flex = true ∧ a = .tags off :: r) ∨ (flex = false ∧ a = r) := by
 unfold endR at h
 cases flex with
 | false => simp only [Bool.false_eq_true, if_false, Option.some.injEq] at h; exact .inr ⟨rfl, h⟩
 | true =>
  simp only [if_true] at h
  split at h
  ·rename_i o r'
   cases hb : Nat.beq o off with
   | false => rw [hb] at h; cases h
   | true =>
    rw [hb] at h
    simp only [cond_true, Option.some.injEq] at h
    subst h
    rw [beq_out hb]
    exact .inl ⟨rfl, rfl⟩
  ·cases h
theorem isEnd_out {flex : Bool} {off : Nat} {a : List Ra} (h : isEnd flex off a = true) : endR flex off a = some [] := by
 unfold isEnd at h
 split at h
 ·assumption
 ·cases h
theorem isPrim_out {p : Rp} {a : List Ra} (h : isPrim p a = true) : a = [.prim p 0] := by
 unfold isPrim at h
 split at h
 ·rw [rpEq_out h]
 ·cases h
def Reads (_ver : Int) (_tg _flex : Bool) (sh : List Ck) (H : List D → Prop) (a r : List Ra) (off : Nat) (ys : List UInt8) : Prop :=
 ∀ (pre mid post : List D) (s : List UInt8), shDs mid = sh → unit pre → unit mid → D.widths pre = off →
  ∃ new new', rdAs a (pre ++ mid ++ post) (ys ++ s) = rdAs r (pre ++ new ++ post) s ∧ shDs new = sh ∧ unit new ∧ H new' ∧ shDs new' = sh ∧ pos new' ∧ Imp new new'
theorem Reads.weak {ver : Int} {tg flex : Bool} {sh : List Ck} {H H' : List D → Prop} {a r : List Ra} {off : Nat} {ys : List UInt8} (h : Reads ver tg flex sh H a r off ys) (k : ∀ ds, H ds → H' ds) : Reads ver tg flex sh H' a r off ys := by
 intro pre mid post s hsh hpre hmid hw
 obtain ⟨n1, n1', e1, e2, e3, e4, e5⟩ := h pre mid post s hsh hpre hmid hw
 exact ⟨n1, n1', e1, e2, e3, k _ e4, e5⟩
theorem unit_lits (l : List Value) : unit (litsD l) := by
 intro d hd
 simp only [litsD, List.mem_map] at hd
 obtain ⟨u, _, rfl⟩ := hd
 rfl
end Go.Proofs.YtlmnaffhadeolaaGreatDoor

namespace Go.Proofs.YtlmnaffhadeolaaGreatDoor
open Go Go.RowKit
def isVer (ver : Int) (v : Value) : Bool := match v with
 | .int .i16 n => decide (n = ver) && decide (IntKind.i16.wrap n = n)
 | _ => false
def headVer (ver : Int) : List Value → Bool
 | v :: _ => isVer ver v
 | [] => false
end Go.Proofs.YtlmnaffhadeolaaGreatDoor

namespace Go.Proofs.YtlmnaffhadeolaaGreatDoor
open Go Go.RowKit
def HzU (tg flex : Bool) (t : Tree) (b : List D) : Prop := if tg then b = [tagsK (if flex then t.u else [])] else b = []
mutual
def HzF (ver : Int) (tg flex : Bool) : Fld → Tree → List D → Prop
  | .mk kind _ _ nul _ _ of sub, t, ds =>
    if kind = 11 then ∃ d, ds = [d] ∧ HoldS ver nul t (fun els =>
      (if of = 10 then ∀ i, i < t.l.length → ∃ a b, els[i]? = some (.agg (a ++ b)) ∧ HzFs ver tg flex sub 0 (att t i) a ∧ HzU tg flex (att t i) b
       else els = t.l.map (valK of (-1)))) d
    else if kind = 10 then ∃ a b, ds = a ++ b ∧ HzFs ver tg flex sub 0 t a ∧ HzU tg flex t b
    else ∃ d, ds = [d] ∧ HoldV ver kind nul t d
def HzFs (ver : Int) (tg flex : Bool) : List Fld → Nat → Tree → List D → Prop
  | [], _, _, ds => ds = []
  | f :: fs, i, t, ds => ∃ a b, ds = a ++ b ∧ shDs a = shF tg f ∧ pos a ∧ (if f.has ver = true then HzF ver tg flex f (att t i) a else a = dfF tg f) ∧ HzFs ver tg flex fs (i + 1) t b
end
def HzP (ver : Int) (tg flex : Bool) (fs : List Fld) (t : Tree) (ds : List D) : Prop := ∃ a b, ds = a ++ b ∧ HzFs ver tg flex fs 0 t a ∧ HzU tg flex t b
theorem HzF_mk (ver : Int) (tg flex : Bool) (kind fr upto nul tag df of : Int) (sub : List Fld) (t : Tree) (ds : List D) : HzF ver tg flex (.mk kind fr upto nul tag df of sub) t ds ↔
    if kind = 11 then ∃ d, ds = [d] ∧ HoldS ver nul t (fun els => if of = 10 then ∀ i, i < t.l.length → ∃ ps, els[i]? = some (.agg ps) ∧ HzP ver tg flex sub (att t i) ps else els = t.l.map (valK of (-1))) d
    else if kind = 10 then HzP ver tg flex sub t ds
    else ∃ d, ds = [d] ∧ HoldV ver kind nul t d := by
  simp only [HzF, HzP]
  by_cases h11 : kind = 11
  · simp only [h11, if_true]
    by_cases h10 : of = 10
    · simp only [h10, if_true]
      have e : ∀ els : List D, (∀ i, i < t.l.length → ∃ a b, els[i]? = some (.agg (a ++ b)) ∧ HzFs ver tg flex sub 0 (att t i) a ∧ HzU tg flex (att t i) b) ↔ (∀ i, i < t.l.length → ∃ ps, els[i]? = some (.agg ps) ∧ ∃ a b, ps = a ++ b ∧ HzFs ver tg flex sub 0 (att t i) a ∧ HzU tg flex (att t i) b) := by
        intro els
        constructor
        · intro h i hi
          obtain ⟨a, b, k1, k2, k3⟩ := h i hi
          exact ⟨a ++ b, k1, a, b, rfl, k2, k3⟩
        · intro h i hi
          obtain ⟨ps, k1, a, b, rfl, k2, k3⟩ := h i hi
          exact ⟨a, b, k1, k2, k3⟩
      simp only [e]
    · simp only [h10, if_false]
  · simp only [h11, if_false]
def ziE : Value → Value → Bool
  | .int k n, .int l m => decide (k = l) && decide (n = m)
  | .bool a, .bool b => a == b
  | .string a, .string b => decide (a.data.toList = b.data.toList)
  | .pointer none, .pointer none => true
  | .slice none 0 0, .slice none 0 0 => true
  | .map none, .map none => true
  | _, _ => false
theorem ziE_out {a b : Value} (h : ziE a b = true) : a = b := by
  unfold ziE at h
  split at h
  · simp only [Bool.and_eq_true, decide_eq_true_eq] at h; rw [h.1, h.2]
  · simp only [beq_iff_eq] at h; rw [h]
  · simp only [decide_eq_true_eq] at h
    rename_i x y
    have : x.data = y.data := Array.ext' h
    cases x; cases y; simp only at this; rw [this]
  · rfl
  · rfl
  · rfl
  · cases h
def ziEs : List Value → List Value → Bool
  | [], [] => true
  | a :: r, b :: s => ziE a b && ziEs r s
  | _, _ => false
theorem ziEs_out : ∀ {a b : List Value}, ziEs a b = true → a = b
  | [], [], _ => rfl
  | a :: r, b :: s, h => by
    simp only [ziEs, Bool.and_eq_true] at h
    rw [ziE_out h.1, ziEs_out h.2]
  | [], _ :: _, h => by cases h
  | _ :: _, [], h => by cases h
def ZmU (tg : Bool) (y : List D) : Prop := tg = true → y = [.lit (.map none)]
mutual
def ZmF (ver : Int) (tg : Bool) : Fld → List D → Prop
  | .mk kind _ _ _ _ _ _ sub, mid => if kind = 10 then ∃ x y, mid = x ++ y ∧ shDs x = shFs tg sub ∧ ZmFs ver tg sub x ∧ ZmU tg y else True
def ZmFs (ver : Int) (tg : Bool) : List Fld → List D → Prop
  | [], _ => True
  | f :: fs, mid => ∃ x y, mid = x ++ y ∧ shDs x = shF tg f ∧ (if f.has ver = true then ZmF ver tg f x else x = litsD (ziF tg f)) ∧ ZmFs ver tg fs y
end
def ZmP (ver : Int) (tg : Bool) (fs : List Fld) (mid : List D) : Prop := ∃ x y, mid = x ++ y ∧ shDs x = shFs tg fs ∧ ZmFs ver tg fs x ∧ ZmU tg y
mutual
def zbF (ver : Int) (tg : Bool) : Fld → List Value → Bool
  | .mk kind _ _ _ _ _ _ sub, vs => if kind = 10 then zbFs ver tg sub (vs.take (shFs tg sub).length) && (!tg || ziEs (vs.drop (shFs tg sub).length) [.map none]) else true
def zbFs (ver : Int) (tg : Bool) : List Fld → List Value → Bool
  | [], _ => true
  | f :: fs, vs => (if f.has ver then zbF ver tg f (vs.take (shF tg f).length) else ziEs (vs.take (shF tg f).length) (ziF tg f)) && zbFs ver tg fs (vs.drop (shF tg f).length)
end
def zbP (ver : Int) (tg : Bool) (fs : List Fld) (vs : List Value) : Bool := zbFs ver tg fs (vs.take (shFs tg fs).length) && (!tg || ziEs (vs.drop (shFs tg fs).length) [.map none])
theorem lits_split {vs : List Value} {x y : List Ck} (h : shDs (litsD vs) = x ++ y) : shDs (litsD (vs.take x.length)) = x ∧ shDs (litsD (vs.drop x.length)) = y ∧ litsD vs = litsD (vs.take x.length) ++ litsD (vs.drop x.length) := by
  have e : litsD vs = litsD (vs.take x.length) ++ litsD (vs.drop x.length) := by
    unfold litsD; rw [← List.map_append, List.take_append_drop]
  have hu : ∀ l : List Value, (shDs (litsD l)).length = l.length := fun l => by rw [unit_len (unit_lits l)]; simp [litsD]
  have hl : x.length ≤ vs.length := by rw [← hu vs, h]; simp
  rw [e, shDs_append] at h
  have h2 := List.append_inj h (by rw [hu]; simp; omega)
  exact ⟨h2.1, h2.2, e⟩
mutual
theorem zbF_out {ver : Int} {tg : Bool} : ∀ {f : Fld} {vs : List Value}, noPt f = true → zbF ver tg f vs = true → shDs (litsD vs) = shF tg f → ZmF ver tg f (litsD vs)
  | .mk kind fr upto nul tag df of sub, vs, hn, h, hs => by
    simp only [noPt, Bool.and_eq_true, Bool.or_eq_true, Bool.not_eq_true', decide_eq_true_eq, decide_eq_false_iff_not] at hn
    simp only [zbF] at h
    simp only [ZmF]
    by_cases h10 : kind = 10
    · simp only [h10, if_true, Bool.and_eq_true, Bool.or_eq_true, Bool.not_eq_true'] at h ⊢
      have hnn : ¬ 0 ≤ nul := by omega
      have hs' : shDs (litsD vs) = shFs tg sub ++ (if tg then [.mp] else []) := by rw [hs]; simp [shF, h10, hnn]
      obtain ⟨k1, k2, k3⟩ := lits_split hs'
      refine ⟨_, _, k3, k1, zbFs_out hn.2 h.1 k1, fun ht => ?_⟩
      rcases h.2 with h2 | h2
      · rw [ht] at h2; cases h2
      · rw [ziEs_out h2]; rfl
    · simp only [h10, if_false]
theorem zbFs_out {ver : Int} {tg : Bool} : ∀ {fs : List Fld} {vs : List Value}, noPts fs = true → zbFs ver tg fs vs = true → shDs (litsD vs) = shFs tg fs → ZmFs ver tg fs (litsD vs)
  | [], _, _, _, _ => by simp only [ZmFs]
  | f :: fs, vs, hn, h, hs => by
    simp only [noPts, Bool.and_eq_true] at hn
    simp only [zbFs, Bool.and_eq_true] at h
    simp only [shFs] at hs
    obtain ⟨k1, k2, k3⟩ := lits_split hs
    simp only [ZmFs]
    refine ⟨_, _, k3, k1, ?_, zbFs_out hn.2 h.2 k2⟩
    by_cases hx : f.has ver = true
    · rw [if_pos hx]; rw [if_pos hx] at h; exact zbF_out hn.1 h.1 k1
    · rw [if_neg hx]; rw [if_neg hx] at h; rw [ziEs_out h.1]
end
theorem zbP_out {ver : Int} {tg : Bool} {fs : List Fld} {vs : List Value} (hn : noPts fs = true) (h : zbP ver tg fs vs = true) (hs : shDs (litsD vs) = shP tg fs) : ZmP ver tg fs (litsD vs) := by
  unfold zbP at h
  simp only [Bool.and_eq_true, Bool.or_eq_true, Bool.not_eq_true'] at h
  obtain ⟨k1, k2, k3⟩ := lits_split hs
  refine ⟨_, _, k3, k1, zbFs_out hn h.1 k1, fun ht => ?_⟩
  rcases h.2 with h2 | h2
  · rw [ht] at h2; cases h2
  · rw [ziEs_out h2]; rfl
mutual
def mFz (ver : Int) (tg flex : Bool) (off : Nat) : Fld → List Ra → Option (List Ra)
  | .mk kind _ _ nul _ _ of sub, ra =>
    if kind = 11 then (match ra with
      | .row c nb o st dfl body :: r =>
        bif (c == flex) && (nb == decide (0 ≤ nul ∧ nul ≤ ver)) && Nat.beq o off && (st == decide (of = 10)) && decide (shDs (litsD dfl) = shE tg of sub) && (if of = 10 then noPts sub && zbP ver tg sub dfl else true) &&
          (if of = 10 then (flex || ne1 ver sub) && endsO flex (shFs tg sub).length (mFsz ver tg flex 0 sub body) else isPrim (rpV of (-1) ver flex) body) then some r else none
      | _ => none)
    else if kind = 10 then (if 0 ≤ nul then none else match mFsz ver tg flex off sub ra with | some r => endR flex (off + (shFs tg sub).length) r | none => none)
    else (match ra with
      | .prim p o :: r => bif rpEq p (rpV kind nul ver flex) && Nat.beq o off then some r else none
      | _ => none)
def mFsz (ver : Int) (tg flex : Bool) (off : Nat) : List Fld → List Ra → Option (List Ra)
  | [], ra => some ra
  | f :: fs, ra => match (if f.has ver then mFz ver tg flex off f ra else some ra) with
    | some r => mFsz ver tg flex (off + (shF tg f).length) fs r
    | none => none
end
def mPz (ver : Int) (tg flex : Bool) (off : Nat) (fs : List Fld) (ra : List Ra) : Option (List Ra) := match mFsz ver tg flex off fs ra with
  | some r => endR flex (off + (shFs tg fs).length) r
  | none => none
def ReadsZ (sh : List Ck) (Z H : List D → Prop) (a r : List Ra) (off : Nat) (ys : List UInt8) : Prop :=
  ∀ (pre mid post : List D) (s : List UInt8), shDs mid = sh → Z mid → unit pre → unit mid → D.widths pre = off →
    ∃ new new', rdAs a (pre ++ mid ++ post) (ys ++ s) = rdAs r (pre ++ new ++ post) s ∧ shDs new = sh ∧ unit new ∧ H new' ∧ shDs new' = sh ∧ pos new' ∧ Imp new new'
theorem readsZ_tags {tg flex : Bool} (htg : flex = true → tg = true) {a r : List Ra} {off : Nat} {t : Tree} {fs : List Fld} (h : endR flex off a = some r) (hu : FitU fs t) :
    ReadsZ (if tg then [.mp] else []) (ZmU tg) (HzU tg flex t) a r off (if flex then uvar t.u.length ++ t.u.flatMap (fun kv => wTag kv.1 kv.2) else []) := by
  intro pre mid post s hsh hz hpre hmid hw
  rcases endR_out h with ⟨rfl, rfl⟩ | ⟨rfl, rfl⟩
  · have := htg rfl
    subst this
    simp only [if_true] at hsh ⊢
    have hr : Rising t.u := by rw [← hu.1]; exact unknown_rising _ _
    refine ⟨[tagsK t.u], [tagsK t.u], ?_, by simp [shDs, tagsK, shD], fun d hd => by simp at hd; subst hd; rfl, by simp [HzU], by simp [shDs, tagsK, shD], fun d hd => by simp at hd; subst hd; simp [tagsK, D.width], Imp.refl _⟩
    simp only [rdAs, rdA]
    rw [tagsP_ok t.u s hr hu.2.1 hu.2.2]
    simp only [Option.bind_some]
    subst hw
    rw [putD_in (unit_pos hpre) (unit_pos hmid) (by rw [hsh]; simp [shDs, tagsK, shD])]
    rfl
  · cases tg with
    | false =>
      simp only [Bool.false_eq_true, if_false] at hsh ⊢
      have : mid = [] := by
        have := unit_len hmid
        rw [hsh] at this
        exact List.length_eq_zero_iff.1 this.symm
      subst this
      exact ⟨[], [], by simp, rfl, hmid, by simp [HzU], rfl, fun d hd => by (cases hd), Imp.refl _⟩
    | true =>
      have hm := hz rfl
      subst hm
      refine ⟨[.lit (.map none)], [tagsK []], by simp, hsh, hmid, by simp [HzU], by simp [shDs, tagsK, shD], fun d hd => by rw [List.mem_singleton] at hd; subst hd; exact Nat.one_pos, imp_nilMp⟩
theorem readsZ_app {sh1 sh2 : List Ck} {Z1 Z2 H1 H2 : List D → Prop} {a b r : List Ra} {off : Nat} {y1 y2 : List UInt8} (h1 : ReadsZ sh1 Z1 H1 a b off y1) (h2 : ReadsZ sh2 Z2 H2 b r (off + sh1.length) y2) :
    ReadsZ (sh1 ++ sh2) (fun mid => ∃ x y, mid = x ++ y ∧ shDs x = sh1 ∧ Z1 x ∧ Z2 y) (fun ds => ∃ x y, ds = x ++ y ∧ H1 x ∧ H2 y ∧ shDs x = sh1 ∧ pos x) a r off (y1 ++ y2) := by
  rintro pre mid post s hsh ⟨m1, m2, rfl, k1, z1, z2⟩ hpre hmid hw
  have k2 : shDs m2 = sh2 := by rw [shDs_append, k1] at hsh; exact List.append_cancel_left hsh
  have u1 : unit m1 := fun d hd => hmid d (by simp [hd])
  have u2 : unit m2 := fun d hd => hmid d (by simp [hd])
  obtain ⟨n1, n1', e1, e2, e3, e4, e5, e6, e7⟩ := h1 pre m1 (m2 ++ post) (y2 ++ s) k1 z1 hpre u1 hw
  obtain ⟨n2, n2', g1, g2, g3, g4, g5, g6, g7⟩ := h2 (pre ++ n1) m2 post s k2 z2 (unit_app hpre e3) u2 (by rw [widths_append, hw, ← shs_width, e2])
  refine ⟨n1 ++ n2, n1' ++ n2', ?_, by rw [shDs_append, e2, g2], unit_app e3 g3, ⟨n1', n2', rfl, e4, g4, e5, e6⟩, by rw [shDs_append, e5, g5], pos_append e6 g6, Imp.app e7 g7⟩
  have a1 : pre ++ (m1 ++ m2) ++ post = pre ++ m1 ++ (m2 ++ post) := by simp [List.append_assoc]
  have a2 : pre ++ n1 ++ (m2 ++ post) = pre ++ n1 ++ m2 ++ post := by simp [List.append_assoc]
  have a3 : pre ++ (n1 ++ n2) ++ post = pre ++ n1 ++ n2 ++ post := by simp [List.append_assoc]
  rw [a1, List.append_assoc y1, e1, a2, g1, a3]
theorem ReadsZ.weak {sh : List Ck} {Z Z' H H' : List D → Prop} {a r : List Ra} {off : Nat} {ys : List UInt8} (h : ReadsZ sh Z H a r off ys) (z : ∀ ds, Z' ds → Z ds) (k : ∀ ds, H ds → H' ds) : ReadsZ sh Z' H' a r off ys := by
  intro pre mid post s hsh hz hpre hmid hw
  obtain ⟨n1, n1', e1, e2, e3, e4, e5⟩ := h pre mid post s hsh (z _ hz) hpre hmid hw
  exact ⟨n1, n1', e1, e2, e3, k _ e4, e5⟩
theorem readsZ_part {ver : Int} {tg flex : Bool} (htg : flex = true → tg = true) {a b r : List Ra} {off : Nat} {t : Tree} {fs : List Fld} (h1 : ReadsZ (shFs tg fs) (ZmFs ver tg fs) (HzFs ver tg flex fs 0 t) a b off (wFs ver flex fs 0 t)) (h : endR flex (off + (shFs tg fs).length) b = some r) (hf : FitT ver fs t) :
    ReadsZ (shP tg fs) (ZmP ver tg fs) (HzP ver tg flex fs t) a r off (wPart ver flex fs t) := by
  have e : wPart ver flex fs t = wFs ver flex fs 0 t ++ (if flex then uvar t.u.length ++ t.u.flatMap (fun kv => wTag kv.1 kv.2) else []) := by
    unfold wPart
    rw [allTagsK_eq hf.1 hf.2]
    cases flex <;> simp [asm]
  rw [e]
  exact (readsZ_app h1 (readsZ_tags htg h hf.2)).weak (fun _ h => h) (fun ds ⟨x, y, e1, e2, e3, _⟩ => ⟨x, y, e1, e2, e3⟩)
mutual
theorem mFz_ok (ver : Int) (tg flex : Bool) (htg : flex = true → tg = true) : ∀ (f : Fld) (a r : List Ra) (off : Nat), noPt f = true → mFz ver tg flex off f a = some r → ∀ t, FitF ver f t → ReadsZ (shF tg f) (ZmF ver tg f) (HzF ver tg flex f t) a r off (wField ver flex f t)
  | .mk kind fr upto nul tag df of sub, a, r, off, hno, h, t, hfit => by
    have hns : noPts sub = true := by simp only [noPt, Bool.and_eq_true] at hno; exact hno.2
    have hM : Most = 32767 := rfl
    simp only [mFz] at h
    simp only [FitF] at hfit
    obtain ⟨hnul, hfit⟩ := hfit
    have hH : ∀ ds, HzF ver tg flex (.mk kind fr upto nul tag df of sub) t ds ↔ _ := fun ds => HzF_mk ver tg flex kind fr upto nul tag df of sub t ds
    rw [wField_mk ver flex kind fr upto nul tag df of sub t _ rfl]
    by_cases h11 : kind = 11
    · simp only [h11, if_true] at h hfit hH ⊢
      obtain ⟨hlen, hst, hpr⟩ := hfit
      have hth := things_of hlen
      split at h
      · rename_i c nb o st dfl body rr
        cases hc : (c == flex) && (nb == decide (0 ≤ nul ∧ nul ≤ ver)) && Nat.beq o off && (st == decide (of = 10)) && decide (shDs (litsD dfl) = shE tg of sub) && (if of = 10 then noPts sub && zbP ver tg sub dfl else true) &&
          (if of = 10 then (flex || ne1 ver sub) && endsO flex (shFs tg sub).length (mFsz ver tg flex 0 sub body) else isPrim (rpV of (-1) ver flex) body) with
        | false => rw [hc] at h; cases h
        | true =>
          rw [hc] at h
          simp only [cond_true, Option.some.injEq] at h
          subst h
          simp only [Bool.and_eq_true, beq_iff_eq, decide_eq_true_eq] at hc
          obtain ⟨⟨⟨⟨⟨⟨g1, g2⟩, g3⟩, g4⟩, g5⟩, gz⟩, g6⟩ := hc
          subst g1
          have := beq_out g3; subst this
          have hel : ∀ s, ∃ dss els, rdRow body (litsD dfl) t.l.length (t.l.flatMap (wVal of c false (wPart ver c sub)) ++ s) = some (dss, s) ∧ dss.length = t.l.length ∧ els.length = t.l.length ∧ Imp (dss.map (elD st)) els ∧
              (if of = 10 then ∀ i, i < t.l.length → ∃ ps, els[i]? = some (.agg ps) ∧ HzP ver tg c sub (att t i) ps else els = t.l.map (valK of (-1))) := by
            intro s
            by_cases h10 : of = 10
            · simp only [h10, if_true, decide_true, Bool.and_eq_true] at g4 g5 g6 gz ⊢
              subst g4
              obtain ⟨g6, g7⟩ := g6
              unfold endsO at g7
              split at g7
              · rename_i r' hr'
                have hend := isEnd_out g7
                rw [show wVal 10 c false (wPart ver c sub) = wPart ver c sub from funext fun x => by simp [wVal]]
                obtain ⟨dss, e1, e2, e3⟩ := rdRow_ok body (litsD dfl) (wPart ver c sub) (fun x nd => ∃ nd', HzP ver tg c sub x nd' ∧ Imp nd nd') t.l (fun x hx s => by
                  obtain ⟨hf, hu⟩ := hst h10 x hx
                  have hR := readsZ_part (off := 0) htg (mFsz_ok ver tg c htg sub body r' 0 hns hr' 0 x hf) (by rw [Nat.zero_add]; exact hend) ⟨hf, hu⟩
                  obtain ⟨new, new', k1, k2, k3, k4, k5, k6, k7⟩ := hR [] (litsD dfl) [] s (by rw [g5]; simp [shE]) (zbP_out gz.1 gz.2 (by rw [g5]; simp [shE])) (fun d hd => by cases hd) (unit_lits _) rfl
                  simp only [List.nil_append, List.append_nil, rdAs] at k1
                  exact ⟨new, k1, new', k4, k7⟩) s
                have hch : ∀ i (hi : i < t.l.length), ∃ ps, HzP ver tg c sub t.l[i] ps ∧ ∃ nd, dss[i]? = some nd ∧ Imp nd ps := by
                  intro i hi
                  obtain ⟨nd, k1, nd', k2, k3⟩ := e3 i hi
                  exact ⟨nd', k2, nd, k1, k3⟩
                let g : Nat → List D := fun i => if hi : i < t.l.length then Classical.choose (hch i hi) else []
                have hg : ∀ i (hi : i < t.l.length), HzP ver tg c sub t.l[i] (g i) ∧ ∃ nd, dss[i]? = some nd ∧ Imp nd (g i) := by
                  intro i hi
                  simp only [g, dif_pos hi]
                  exact Classical.choose_spec (hch i hi)
                refine ⟨dss, (List.range t.l.length).map (fun i => .agg (g i)), e1, e2, by simp, ?_, fun i hi => ⟨g i, by simp [hi], by rw [att_get hi]; exact (hg i hi).1⟩⟩
                refine imp_list (by simp [e2]) (fun i x y hx hy => ?_)
                simp only [List.getElem?_map, Option.map_eq_some_iff] at hx hy
                obtain ⟨nd, hnd, rfl⟩ := hx
                obtain ⟨j, hj, rfl⟩ := hy
                have hi : i < t.l.length := by rw [← e2]; exact (List.getElem?_eq_some_iff.1 hnd).1
                have hji : j = i := by
                  rw [List.getElem?_range hi] at hj
                  simpa using hj.symm
                subst hji
                obtain ⟨_, nd', hnd', him⟩ := hg j hi
                rw [hnd] at hnd'
                simp only [Option.some.injEq] at hnd'
                subst hnd'
                simp only [elD, if_true]
                refine Imp.one (fun ok w cs hr => ?_)
                simp only [Rep] at hr ⊢
                exact him ok w cs hr
              · cases g7
            · simp only [h10, if_false, decide_false] at g4 g5 g6 ⊢
              subst g4
              obtain ⟨⟨h11', h7⟩, hv⟩ := hpr h10
              have hb := isPrim_out g6
              subst hb
              obtain ⟨dss, e1, e2, e3⟩ := rdRow_ok [.prim (rpV of (-1) ver c) 0] (litsD dfl) (wVal of c false (wPart ver c sub)) (fun x nd => ∃ e, nd = [e] ∧ Imp [e] [valK of (-1) x]) t.l (fun x hx s => by
                obtain ⟨nd, d, k1, k2, k3, k4, k5, k6⟩ := rdP_ok of (-1) ver c x (wPart ver c sub) s (hv x hx) (by omega) h10
                have hd : d = valK of (-1) x ∨ of = 9 := by
                  unfold HoldV at k4
                  split at k4
                  · rename_i hh; exact .inr hh.1
                  · exact .inl k4
                have hnd := k6 h7
                simp only [rdAs_one, rdA]
                have e : (x.nul && decide ((0 : Int) ≤ -1) && decide ((-1 : Int) ≤ ver)) = false := by simp
                rw [e] at k1
                rw [k1]
                simp only [Option.bind_some]
                have hput := putD_in (a := []) (m := litsD dfl) (b := []) (new := nd) (fun d hd => by cases hd) (unit_pos (unit_lits _)) (by rw [g5, k2]; simp [shE, h10])
                simp only [D.widths, List.nil_append, List.append_nil] at hput
                rw [hput]
                refine ⟨nd, rfl, ?_⟩
                rcases hd with hd | hd
                · exact ⟨_, hnd, by rw [hd]; exact Imp.refl _⟩
                · subst hd
                  have : rdP (rpV 9 (-1) ver c) (wVal 9 c false (wPart ver c sub) x ++ s) = some ([.sl false (x.s.map byteD)], s) := by
                    have hs := hv x hx (.inr rfl)
                    have hwh := whole_of hs
                    have er : rpV 9 (-1) ver c = (if c then .cbytes else .bytes) := by simp [rpV]
                    rw [er]
                    cases c
                    · simp only [wVal, counted]
                      simp [rdP, hwh]
                      rw [intP_be .i32 4 32 rfl rfl]
                      have hw : IntKind.i32.wrap (x.s.length : Int) = x.s.length := by rw [IntKind.wrap_i32]; omega
                      simp only [Option.bind_some, hw]
                      rw [if_neg (by omega), spanP_app _ _ _ rfl]; rfl
                    · simp only [wVal, counted]
                      simp [rdP, hwh]
                      rw [uvarP_uvar _ _ (by omega)]
                      simp only [Option.bind_some]
                      rw [if_neg (by omega), spanP_app _ _ _ (by omega)]; rfl
                  rw [this] at k1
                  simp only [Option.some.injEq, Prod.mk.injEq, and_true] at k1
                  refine ⟨_, k1.symm, ?_⟩
                  rw [show valK 9 (-1) x = .sq (x.s.map byteD) by simp [valK]]
                  exact imp_slsq rfl (Imp.refl _)) s
              refine ⟨dss, t.l.map (valK of (-1)), e1, e2, by simp, ?_, rfl⟩
              refine imp_list (by simp [e2]) (fun i x y hx hy => ?_)
              simp only [List.getElem?_map, Option.map_eq_some_iff] at hx hy
              obtain ⟨nd, hnd, rfl⟩ := hx
              obtain ⟨z, hz, rfl⟩ := hy
              have hi : i < t.l.length := (List.getElem?_eq_some_iff.1 hz).1
              obtain ⟨nd', h1, h2⟩ := e3 i hi
              rw [hnd] at h1
              simp only [Option.some.injEq] at h1
              subst h1
              rw [List.getElem?_eq_getElem hi] at hz
              simp only [Option.some.injEq] at hz
              subst hz
              obtain ⟨e, rfl, h2⟩ := h2
              simp only [elD, Bool.false_eq_true, if_false]
              exact h2
          have hpos : ∀ x ∈ t.l, 1 ≤ (wVal of c false (wPart ver c sub) x).length := by
            intro x hx
            by_cases h10 : of = 10
            · simp only [h10, if_true, Bool.and_eq_true] at g6
              have := wPart_pos ver c sub x g6.1
              simpa [h10, wVal] using this
            · exact wVal_pos _ _ _ _ _ h10
          have hfl := flatMap_len (wVal of c false (wPart ver c sub)) t.l hpos
          intro pre mid post s hsh _ hpre hmid hw
          have shx : shF tg (.mk 11 fr upto nul tag df of sub) = [.sl] := by simp [shF]
          rw [shx] at hsh ⊢
          obtain ⟨dss, els, e1, e2, e3, e4, e5⟩ := hel s
          obtain ⟨nulb, hnb⟩ : ∃ nulb, (t.nul && decide (0 ≤ nul) && decide (nul ≤ ver)) = nulb := ⟨_, rfl⟩
          rw [hnb]
          have hput : ∀ d : D, shD d = [.sl] → putD (pre ++ mid ++ post) o [d] = some (pre ++ [d] ++ post) := by
            intro d hd
            subst hw
            exact putD_in (unit_pos hpre) (unit_pos hmid) (by rw [hsh]; simp [shDs, hd])
          have fin : ∀ d d', rowP c nb st dfl body ((counted c nulb (if nulb then [] else things t.l).length 4 ++ (if nulb then [] else things t.l).flatMap (wVal of c false (wPart ver c sub))) ++ s) = some (d, s) → shD d = [.sl] → shD d' = [.sl] → d.width = 1 → d'.width = 1 → HzF ver tg c (.mk 11 fr upto nul tag df of sub) t [d'] → Imp [d] [d'] →
              ∃ new new', rdAs (.row c nb o st dfl body :: rr) (pre ++ mid ++ post) ((counted c nulb (if nulb then [] else things t.l).length 4 ++ (if nulb then [] else things t.l).flatMap (wVal of c false (wPart ver c sub))) ++ s) = rdAs rr (pre ++ new ++ post) s ∧ shDs new = [.sl] ∧ unit new ∧ HzF ver tg c (.mk 11 fr upto nul tag df of sub) t new' ∧ shDs new' = [.sl] ∧ pos new' ∧ Imp new new' := by
            intro d d' k1 k2 k3 k4 k5 k6 k7
            refine ⟨[d], [d'], ?_, by simp [shDs, k2], fun x hx => by simp at hx; subst hx; exact k4, k6, by simp [shDs, k3], fun x hx => by simp at hx; subst hx; rw [k5]; omega, k7⟩
            simp only [rdAs]
            rw [rdA_row, k1]
            simp only [Option.bind_some]
            rw [hput d k2]
            rfl
          cases nulb with
          | true =>
            simp only [Bool.and_eq_true, decide_eq_true_eq] at hnb
            have hnbt : nb = true := by rw [g2]; simp [hnb.1.2, hnb.2]
            refine fin (.sl true []) (.sl true []) ?_ rfl rfl rfl rfl ((hH _).2 ⟨_, rfl, .inl ⟨hnb.1.2, hnb.1.1, rfl⟩⟩) (Imp.refl _)
            simp only [if_true, List.length_nil, List.flatMap_nil, List.append_nil]
            rw [rowP, lenP_ok c true 0 s (by omega) (.inl rfl)]
            simp [rdRow, hnbt]
          | false =>
            have hnn : ¬ (0 ≤ nul ∧ t.nul = true) := by
              rintro ⟨a1, a2⟩
              have a3 := hnul a1 a2
              rw [a2] at hnb
              simp [a1, a3] at hnb
            have hrow : rowP c nb st dfl body ((counted c false t.l.length 4 ++ t.l.flatMap (wVal of c false (wPart ver c sub))) ++ s) = some (if nb then .sl false (dss.map (elD st)) else .sl (decide ((t.l.length : Int) ≤ 0)) (dss.map (elD st)), s) := by
              rw [rowP, List.append_assoc, lenP_ok c false t.l.length _ hlen (.inr (by rw [List.length_append]; omega))]
              simp only [Bool.false_eq_true, if_false, Option.bind_some, Int.toNat_natCast]
              rw [e1]
              simp only [Option.map_some]
              rw [if_neg (by omega : ¬ ((t.l.length : Int) < 0))]
            have hlm : (dss.map (elD st)).length = els.length := by simp [e2, e3]
            simp only [Bool.false_eq_true, if_false, hth] at fin ⊢
            cases hnb2 : nb with
            | true =>
              rw [hnb2] at hrow
              rw [hnb2] at fin
              exact fin _ (.sl false els) hrow rfl rfl rfl rfl ((hH _).2 ⟨_, rfl, .inr ⟨hnn, rfl, rfl, false, els, rfl, fun _ _ => rfl, e3, e5⟩⟩) (imp_sl hlm e4)
            | false =>
              rw [hnb2] at hrow g2
              rw [hnb2] at fin
              refine fin _ (.sq els) hrow rfl rfl rfl rfl ((hH _).2 ⟨_, rfl, .inr ⟨hnn, rfl, rfl, false, els, rfl, fun a1 a2 => ?_, e3, e5⟩⟩) (imp_slsq hlm e4)
              simp [a1, a2] at g2
      · cases h
    · simp only [h11, if_false] at h hfit hH ⊢
      by_cases h10 : kind = 10
      · simp only [h10, if_true] at h hfit hH ⊢
        by_cases hn : 0 ≤ nul
        · simp only [hn, if_true] at h
          cases h
        · simp only [hn, if_false, and_false] at h hH ⊢
          split at h
          · rename_i r1 hr1
            have hR := readsZ_part htg (mFsz_ok ver tg flex htg sub a r1 off hns hr1 0 t hfit.1) h hfit
            have es : shF tg (.mk 10 fr upto nul tag df of sub) = shP tg sub := by simp [shF, hn, shP]
            rw [es]
            simp only [wVal]
            exact hR.weak (fun ds hz => by simp only [ZmF, if_true] at hz; exact hz) (fun ds hd => (hH ds).2 hd)
          · cases h
      · simp only [h10, if_false, false_and] at h hfit hH ⊢
        split at h
        · rename_i p o rr
          cases hb : rpEq p (rpV kind nul ver flex) && Nat.beq o off with
          | false => rw [hb] at h; cases h
          | true =>
            rw [hb] at h
            simp only [cond_true, Option.some.injEq] at h
            subst h
            rw [Bool.and_eq_true] at hb
            have := rpEq_out hb.1; subst this
            have := beq_out hb.2; subst this
            have es : shF tg (.mk kind fr upto nul tag df of sub) = shV kind nul := by simp [shF, h11, h10]
            rw [es]
            intro pre mid post s hsh _ hpre hmid hw
            obtain ⟨nd, d, k1, k2, k3, k4, k5, _⟩ := rdP_ok kind nul ver flex t (wPart ver flex sub) s hfit hnul h10
            have hsd : shDs [d] = shV kind nul := by
              unfold HoldV at k4
              split at k4
              · rename_i hh
                rw [hh.1]
                simp [shDs, k4.2.1, shV]
              · rw [k4]; simp only [shDs, List.append_nil, sh_valK]
            refine ⟨nd, [d], ?_, k2, k3, (hH _).2 ⟨d, rfl, k4⟩, hsd, fun x hx => ?_, k5⟩
            · simp only [rdAs, rdA]
              rw [k1]
              simp only [Option.bind_some]
              subst hw
              rw [putD_in (unit_pos hpre) (unit_pos hmid) (by rw [hsh, k2])]
              rfl
            · simp at hx; subst hx
              have h1 : (shDs [x]).length = (shV kind nul).length := by rw [hsd]
              rw [shs_width] at h1
              simp only [D.widths, Nat.add_zero] at h1
              rw [h1]
              unfold shV
              repeat' split
              all_goals simp
        · cases h
theorem mFsz_ok (ver : Int) (tg flex : Bool) (htg : flex = true → tg = true) : ∀ (fs : List Fld) (a r : List Ra) (off : Nat), noPts fs = true → mFsz ver tg flex off fs a = some r → ∀ i t, FitFs ver fs i t → ReadsZ (shFs tg fs) (ZmFs ver tg fs) (HzFs ver tg flex fs i t) a r off (wFs ver flex fs i t)
  | [], a, r, off, _, h, i, t, hfit => by
    simp only [mFsz, Option.some.injEq] at h
    subst h
    intro pre mid post s hsh _ hpre hmid hw
    have : mid = [] := by
      have := unit_len hmid
      rw [hsh] at this
      exact List.length_eq_zero_iff.1 this.symm
    subst this
    exact ⟨[], [], by simp [wFs], rfl, hmid, by simp [HzFs], rfl, (fun d hd => by cases hd), Imp.refl _⟩
  | f :: fs, a, r, off, hno, h, i, t, hfit => by
    simp only [noPts, Bool.and_eq_true] at hno
    simp only [mFsz] at h
    simp only [FitFs] at hfit
    obtain ⟨htag, hff, hrest⟩ := hfit
    split at h
    · rename_i b hb
      have h2 := mFsz_ok ver tg flex htg fs b r (off + (shF tg f).length) hno.2 h (i + 1) t hrest
      have key : ReadsZ (shF tg f) (fun x => if f.has ver = true then ZmF ver tg f x else x = litsD (ziF tg f)) (fun ds => if f.has ver = true then HzF ver tg flex f (att t i) ds else ds = dfF tg f) a b off (if f.tag < 0 ∧ f.has ver = true then wField ver flex f (att t i) else []) := by
        by_cases hx : f.has ver = true
        · rw [if_pos hx] at hb
          rw [if_pos ⟨htag, hx⟩]
          simp only [if_pos hx]
          exact mFz_ok ver tg flex htg f a b off hno.1 hb (att t i) (hff hx)
        · rw [if_neg hx] at hb
          rw [if_neg (fun e => hx e.2)]
          simp only [if_neg hx]
          simp only [Option.some.injEq] at hb
          subst hb
          intro pre mid post s hsh hz hpre hmid hw
          subst hz
          obtain ⟨q1, q2⟩ := shDs_dfF tg f hno.1
          exact ⟨_, dfF tg f, by simp, hsh, hmid, rfl, q1, q2, imp_ziF tg f⟩
      have := readsZ_app key h2
      simp only [wFs, shFs]
      exact this.weak (fun ds hz => by
        simp only [ZmFs] at hz
        exact hz) (fun ds ⟨x, y, e1, e2, e3, e4, e5⟩ => by simp only [HzFs]; exact ⟨x, y, e1, e4, e5, e2, e3⟩)
    · cases h
end
theorem mPz_ok {ver : Int} {tg flex : Bool} (htg : flex = true → tg = true) {fs : List Fld} {a r : List Ra} {off : Nat} (hno : noPts fs = true) (h : mPz ver tg flex off fs a = some r) {t : Tree} (hf : FitT ver fs t) : ReadsZ (shP tg fs) (ZmP ver tg fs) (HzP ver tg flex fs t) a r off (wPart ver flex fs t) := by
  unfold mPz at h
  split at h
  · rename_i b hb
    exact readsZ_part htg (mFsz_ok ver tg flex htg fs a b off hno hb 0 t hf.1) h hf
  · cases h
end Go.Proofs.YtlmnaffhadeolaaGreatDoor

namespace Go.Proofs.YtlmnaffhadeolaaGreatDoor
open Go Go.RowKit
def readOkZ (P : Program) (K : Kr) (f : Nat) (ver : Int) (tg flex : Bool) (fs : List Fld) (cs : List Value) : Bool := match readF P K f cs with
 | some x => headVer ver x.1 && decide (shDs (litsD x.1) = .int .i16 :: shP tg fs) && noPts fs && zbP ver tg fs (x.1.drop 1) && endsA (mPz ver tg flex 1 fs x.2)
 | none => false
where endsA : Option (List Ra) → Bool
 | some [] => true
 | _ => false
theorem readZ_ok {P : Program} {K : Kr} {g : Nat} {ev : Value} {w : World} (hK : KrOk P K g ev) (hT : KrTy P K) {f : Nat} {ver : Int} {tg flex : Bool} (htg : flex = true → tg = true) {fs : List Fld} {cs : List Value} (h : readOkZ P K f ver tg flex fs cs = true) {t : Tree} (hf : FitT ver fs t)
  {b sb : Nat} {e : TypeId} {v : Value} (hb : Box w b cs e) (hv : SrcAt w sb v (wPart ver flex fs t)) (hsb : sb < w.heap.size) (hne : b ≠ sb) (hg : w.cell? ⟨g, 0, none⟩ = some ev) (hgb : g ≠ b) (hgl : g < w.heap.size) :
  isFn P f = true ∧ Calls P f #[.pointer (some ⟨b, 0, none⟩), v, .bool false] w fun en w' => en = .returned .nilIface ∧ ∃ cs' lo new, w.heap.size ≤ lo ∧ Box w' b cs' e ∧ Reps (Dk sb lo w') w' (.lit (.int .i16 ver) :: new) cs' ∧ HzP ver tg flex fs t new ∧ Chg (fun j => j = b ∨ w.heap.size ≤ j) w w' := by
 unfold readOkZ at h
 split at h
 ·rename_i x hx
  simp only [Bool.and_eq_true, decide_eq_true_eq] at h
  obtain ⟨⟨⟨⟨h1, h2⟩, hno⟩, hzb⟩, h3⟩ := h
  have hm : mPz ver tg flex 1 fs x.2 = some [] := by
   unfold readOkZ.endsA at h3
   split at h3
   ·assumption
   ·cases h3
  obtain ⟨rest, hdfl⟩ : ∃ rest, x.1 = .int .i16 ver :: rest := by
   unfold headVer at h1
   split at h1
   ·rename_i v0 r hx1
    unfold isVer at h1
    split at h1
    ·rename_i n
     simp only [Bool.and_eq_true, decide_eq_true_eq] at h1
     exact ⟨r, by rw [hx1, h1.1]⟩
    ·cases h1
   ·cases h1
  have hlit : litsD x.1 = .lit (.int .i16 ver) :: litsD rest := by rw [hdfl]; rfl
  have hsh : shDs (litsD rest) = shP tg fs := by
   rw [hlit] at h2
   simp only [shDs, shD] at h2
   split at h2
   ·simpa using h2
   ·simp at h2
  obtain ⟨new, new', k1, k2, k3, k4, k5, k6, k7⟩ := mPz_ok htg hno hm hf [.lit (.int .i16 ver)] (litsD rest) [] [] hsh (zbP_out hno (by rw [hdfl] at hzb; exact hzb) hsh) (unit_lits [_]) (unit_lits _) rfl
  simp only [List.append_nil, List.cons_append, List.nil_append] at k1
  have hs : rdAs x.2 (litsD x.1) (wPart ver flex fs t) = some (.lit (.int .i16 ver) :: new, []) := by
   rw [hlit, k1]; simp [rdAs]
  obtain ⟨r1, r2⟩ := readF_ok hK hT (dfl := x.1) (acts := x.2) hx hb hv hsb hne hg hgb hgl hs
  refine ⟨r1, r2.mono (fun en w' he => ?_)⟩
  obtain ⟨e1, cs', lo, e2, e3, e4, e5, e6⟩ := he
  exact ⟨e1, cs', lo, new', e2, e3, Imp.app (Imp.refl [.lit (.int .i16 ver)]) k7 _ _ _ e4, k4, e6⟩
 ·cases h
end Go.Proofs.YtlmnaffhadeolaaGreatDoor

namespace Go.Proofs.YtlmnaffhadeolaaGreatDoor
open Go Go.RowKit
mutual
def tabF (ver : Int) : Fld → Bool
 | .mk kind _ _ _ _ _ of sub => (if kind = 11 then (if of = 10 then tabFs ver sub else !decide (of = 11) && !decide (of = 7)) else if kind = 10 then tabFs ver sub else true)
def tabFs (ver : Int) : List Fld → Bool
 | [] => true
 | f :: fs => decide (f.tag < 0) && (!f.has ver || tabF ver f) && tabFs ver fs
end
theorem att_fitL (ver : Int) : ∀ (fs : List Fld) (i0 : Nat) (t t' : Tree) (k : Nat), (∀ j, j < fs.length → att t' (k + j) = (fitL ver fs i0 t).getD j Tree.none) → ∀ j (h : j < fs.length), att t' (k + j) = fitF ver fs[j] (att t (i0 + j)) := by
 intro fs i0 t t' k h j hj
 rw [h j hj, List.getD_eq_getElem?_getD, List.getElem?_eq_getElem (by rw [fitL_length]; exact hj)]
 simp only [Option.getD_some]
 exact fitL_get ver fs i0 t j hj
theorem att_fitP (ver : Int) (fs : List Fld) (t : Tree) (j : Nat) (h : j < fs.length) : att (fitP ver fs t) j = fitF ver fs[j] (att t j) := by
 have := att_fitL ver fs 0 t (fitP ver fs t) 0 (fun j hj => by simp [fitP, att, Tree.l]) j h
 simpa using this
theorem withNull_att (b : Bool) (t : Tree) (i : Nat) : att (t.withNull b) i = att t i := by cases t; rfl
theorem withNull_u (b : Bool) (t : Tree) : (t.withNull b).u = t.u := by cases t; rfl
theorem withNull_nul (b : Bool) (t : Tree) : (t.withNull b).nul = b := by cases t; rfl
theorem wFs_congr (ver : Int) (flex : Bool) : ∀ (fs : List Fld) (i k : Nat) (t t' : Tree), (∀ j (h : j < fs.length), fs[j].has ver = true → wField ver flex fs[j] (att t' (k + j)) = wField ver flex fs[j] (att t (i + j))) → wFs ver flex fs k t' = wFs ver flex fs i t
 | [], _, _, _, _, _ => by simp [wFs]
 | f :: fs, i, k, t, t', h => by
  simp only [wFs]
  have h0 := h 0 (by simp)
  simp only [List.getElem_cons_zero, Nat.add_zero] at h0
  have e : (if f.tag < 0 ∧ f.has ver = true then wField ver flex f (att t' k) else []) = (if f.tag < 0 ∧ f.has ver = true then wField ver flex f (att t i) else []) := by
   split
   ·rename_i hh; rw [h0 hh.2]
   ·rfl
  rw [e]
  congr 1
  exact wFs_congr ver flex fs (i + 1) (k + 1) t t' (fun j hj hh => by
   have := h (j + 1) (by simpa using hj)
   simp only [List.getElem_cons_succ] at this
   rw [show k + 1 + j = k + (j + 1) by omega, show i + 1 + j = i + (j + 1) by omega]
   exact this hh)
theorem known_zero {fs : List Fld} (h : ∀ f ∈ fs, f.tag < 0) : known fs = 0 := known_none fs 0 h
theorem tab_tags {ver : Int} : ∀ {fs : List Fld}, tabFs ver fs = true → ∀ f ∈ fs, f.tag < 0
 | [], _, f, hf => by cases hf
 | g :: fs, h, f, hf => by
  simp only [tabFs, Bool.and_eq_true, decide_eq_true_eq] at h
  rcases List.mem_cons.1 hf with rfl | hm
  ·exact h.1.1
  ·exact tab_tags h.2 f hm
theorem putTag_end (k : Nat) (v : List UInt8) : ∀ (u : List (Nat × List UInt8)), (∀ kv ∈ u, kv.1 < k) → putTag k v u = u ++ [(k, v)]
 | [], _ => rfl
 | x :: u, h => by
  have := h x (by simp)
  simp only [putTag, if_pos this, putTag_end k v u (fun y hy => h y (by simp [hy])), List.cons_append]
theorem fold_rising : ∀ (u acc : List (Nat × List UInt8)), Rising (acc ++ u) → u.foldl (fun out kv => if kv.1 < 0 then out else putTag kv.1 kv.2 out) acc = acc ++ u
 | [], acc, _ => by simp
 | x :: u, acc, h => by
  simp only [List.foldl_cons, Nat.not_lt_zero, if_false]
  rw [putTag_end x.1 x.2 acc (fun kv hkv => (List.pairwise_append.1 h).2.2 kv hkv x (by simp))]
  have ih := fold_rising u (acc ++ [x]) (by simpa [List.append_assoc] using h)
  simp only [Nat.not_lt_zero, if_false] at ih
  rw [ih]; simp
theorem unknown_self {fs : List Fld} {u : List (Nat × List UInt8)} (hk : known fs = 0) (hr : Rising u) (hl : u.length ≤ Most) : unknown fs u = u := by
 unfold unknown
 rw [List.take_of_length_le hl, hk]
 have := fold_rising u [] (by simpa using hr)
 simpa using this
theorem putTag_len (k : Nat) (v : List UInt8) : ∀ (u : List (Nat × List UInt8)), (putTag k v u).length ≤ u.length + 1
 | [] => by simp [putTag]
 | x :: u => by
  simp only [putTag]
  have := putTag_len k v u
  split
  ·simp; omega
  ·split <;> simp
theorem unknownLen (fs : List Fld) (u : List (Nat × List UInt8)) : (unknown fs u).length ≤ Most := by
 unfold unknown
 have : ∀ (l out : List (Nat × List UInt8)), (l.foldl (fun out kv => if kv.1 < known fs then out else putTag kv.1 kv.2 out) out).length ≤ out.length + l.length := by
  intro l
  induction l with
  | nil => intro out; simp
  | cons x l ih =>
   intro out
   simp only [List.foldl_cons, List.length_cons]
   split
   ·have := ih out; omega
   ·have := ih (putTag x.1 x.2 out); have := putTag_len x.1 x.2 out; omega
 have h := this (u.take Most) []
 have : (u.take Most).length ≤ Most := by simp; omega
 simp only [List.length_nil] at h
 omega
theorem whole_whole (s : List UInt8) : whole (whole s) = whole s := by simp [whole, List.take_take]
theorem whole_len (s : List UInt8) : (whole s).length ≤ Most := by simp [whole]; omega
theorem others_rising (fs : List Fld) (u : List (Nat × List UInt8)) : Rising (others fs u) := by
 unfold others Rising
 exact List.pairwise_map.2 (unknown_rising fs u)
theorem others_self {fs : List Fld} (hk : known fs = 0) (u : List (Nat × List UInt8)) : unknown fs (others fs u) = others fs u := unknown_self hk (others_rising fs u) (by simp [others, unknownLen])
theorem allTags_fit {ver : Int} {flex : Bool} {fs : List Fld} (hk : known fs = 0) (t t' : Tree) (h : t'.u = others fs t.u) : allTags ver flex fs t' = allTags ver flex fs t := by
 unfold allTags
 rw [hk, h, others_self hk]
 simp only [List.range_zero, List.flatMap_nil, List.nil_append, others, List.map_map]
 refine List.map_congr_left (fun kv _ => ?_)
 simp [whole_whole]
theorem fitVal_w (kind : Int) (flex : Bool) (p q : Tree → Tree) (wp : Tree → List UInt8) (null : Bool) (t : Tree) (h10 : kind = 10 → wp ((p t).withNull null) = wp t) : wVal kind flex null wp (fitVal kind null p t) = wVal kind flex null wp t := by
 unfold fitVal
 by_cases h8 : kind = 8 ∨ kind = 9
 ·rw [if_pos h8]
  rcases h8 with rfl | rfl <;> simp [wVal, Tree.s, whole_whole]
 ·rw [if_neg h8]
  by_cases h : kind = 10
  ·rw [if_pos h]; subst h; simp only [wVal]; simpa using h10 rfl
  ·rw [if_neg h]
   have h8' : kind ≠ 8 := fun e => h8 (.inl e)
   have h9' : kind ≠ 9 := fun e => h8 (.inr e)
   simp [wVal, h8', h9', h, Tree.n, Tree.s]
theorem fitVal_nul (kind : Int) (null : Bool) (p : Tree → Tree) (t : Tree) (h : kind = 8 ∨ kind = 9 ∨ kind = 10) : (fitVal kind null p t).nul = null := by
 unfold fitVal
 rcases h with rfl | rfl | rfl
 ·simp [Tree.nul]
 ·simp [Tree.nul]
 ·simp [withNull_nul]
theorem fld_null (kind fr upto nul tag df of : Int) (sub : List Fld) (ver : Int) (t : Tree) : (Fld.mk kind fr upto nul tag df of sub).null ver t = (t.nul && decide (0 ≤ nul) && decide (nul ≤ ver)) := rfl
theorem mk_nul (n : Int) (s : List UInt8) (b : Bool) (l : List Tree) (u : List (Nat × List UInt8)) : (Tree.mk n s b l u).nul = b := rfl
theorem mk_l (n : Int) (s : List UInt8) (b : Bool) (l : List Tree) (u : List (Nat × List UInt8)) : (Tree.mk n s b l u).l = l := rfl
theorem wPart_fit_of {ver : Int} {flex : Bool} {fs : List Fld} (ht : ∀ f ∈ fs, f.tag < 0) (h : ∀ j (hj : j < fs.length), fs[j].has ver = true → ∀ x, wField ver flex fs[j] (fitF ver fs[j] x) = wField ver flex fs[j] x) (t : Tree) (b : Bool) :
  wPart ver flex fs ((fitP ver fs t).withNull b) = wPart ver flex fs t := by
 unfold wPart
 have e1 : wFs ver flex fs 0 ((fitP ver fs t).withNull b) = wFs ver flex fs 0 t := wFs_congr ver flex fs 0 0 t _ (fun j hj hh => by
  rw [withNull_att]
  simp only [Nat.zero_add]
  rw [att_fitP ver fs t j hj]
  exact h j hj hh _)
 rw [e1, allTags_fit (known_zero ht) t _ (by rw [withNull_u]; rfl)]
mutual
theorem wField_fit (ver : Int) (flex : Bool) : ∀ (f : Fld), f.tag < 0 → tabF ver f = true → ∀ x, wField ver flex f (fitF ver f x) = wField ver flex f x
 | .mk kind fr upto nul tag df of sub, htag, htab, x => by
  have htag' : ¬ (0 ≤ tag) := by have : tag < 0 := htag; omega
  simp only [tabF] at htab
  rw [fitF_eq]
  rw [fld_null]
  simp only [Fld.kind, Fld.tag, Fld.of, Fld.sub]
  by_cases h11 : kind = 11
  ·simp only [h11, if_true] at htab ⊢
   rw [wField_mk ver flex 11 fr upto nul tag df of sub _ _ rfl, wField_mk ver flex 11 fr upto nul tag df of sub x _ rfl]
   simp only [htag', decide_false, Bool.false_and, Bool.or_false, mk_nul, mk_l, if_true]
   have en : (x.nul && decide (0 ≤ nul) && decide (nul ≤ ver) && decide (0 ≤ nul) && decide (nul ≤ ver)) = (x.nul && decide (0 ≤ nul) && decide (nul ≤ ver)) := by
    cases x.nul <;> cases decide (0 ≤ nul) <;> cases decide (nul ≤ ver) <;> rfl
   rw [en]
   have el : things ((things x.l).map (fitVal of false (fitP ver sub))) = (things x.l).map (fitVal of false (fitP ver sub)) := things_of (by simp [things]; omega)
   rw [el]
   generalize (x.nul && decide (0 ≤ nul) && decide (nul ≤ ver)) = nb
   cases nb with
   | true => rfl
   | false =>
    simp only [Bool.false_eq_true, if_false, List.length_map, List.flatMap_map]
    congr 1
    refine congrArg (fun g => (things x.l).flatMap g) (funext fun y => ?_)
    refine fitVal_w of flex _ (fitP ver sub) _ false y (fun h10 => ?_)
    rw [if_pos h10] at htab
    exact wFsub_fit ver flex sub htab y false
  ·simp only [h11, if_false] at htab ⊢
   rw [wField_mk ver flex kind fr upto nul tag df of sub _ _ rfl, wField_mk ver flex kind fr upto nul tag df of sub x _ rfl]
   simp only [h11, if_false]
   by_cases h10 : kind = 10
   ·simp only [h10, if_true] at htab
    subst h10
    rw [fitVal_nul 10 _ _ _ (.inr (.inr rfl))]
    have en : (x.nul && decide (0 ≤ nul) && decide (nul ≤ ver) && decide (0 ≤ nul) && decide (nul ≤ ver)) = (x.nul && decide (0 ≤ nul) && decide (nul ≤ ver)) := by
     cases x.nul <;> cases decide (0 ≤ nul) <;> cases decide (nul ≤ ver) <;> rfl
    rw [en]
    have ew : wPart ver flex sub (fitVal 10 (x.nul && decide (0 ≤ nul) && decide (nul ≤ ver)) (fitP ver sub) x) = wPart ver flex sub x := by
     simp only [fitVal]
     exact wFsub_fit ver flex sub htab x _
    simp only [wVal, ew]
    rfl
   ·simp only [h10, false_and, if_false]
    by_cases h89 : kind = 8 ∨ kind = 9
    ·rw [fitVal_nul kind _ _ _ (by rcases h89 with h | h; exact .inl h; exact .inr (.inl h))]
     have en : (x.nul && decide (0 ≤ nul) && decide (nul ≤ ver) && decide (0 ≤ nul) && decide (nul ≤ ver)) = (x.nul && decide (0 ≤ nul) && decide (nul ≤ ver)) := by
      cases x.nul <;> cases decide (0 ≤ nul) <;> cases decide (nul ≤ ver) <;> rfl
     rw [en]
     exact fitVal_w kind flex _ (fitP ver sub) _ _ x (fun h => absurd h h10)
    ·have a8 : kind ≠ 8 := fun e => h89 (.inl e)
     have a9 : kind ≠ 9 := fun e => h89 (.inr e)
     simp [fitVal, wVal, a8, a9, h10, Tree.n, Tree.s]
theorem wFsub_fit (ver : Int) (flex : Bool) : ∀ (fs : List Fld), tabFs ver fs = true → ∀ (t : Tree) (b : Bool), wPart ver flex fs ((fitP ver fs t).withNull b) = wPart ver flex fs t
 | fs, h, t, b => wPart_fit_of (tab_tags h) (wEach_fit ver flex fs h) t b
theorem wEach_fit (ver : Int) (flex : Bool) : ∀ (fs : List Fld), tabFs ver fs = true → ∀ j (hj : j < fs.length), fs[j].has ver = true → ∀ x, wField ver flex fs[j] (fitF ver fs[j] x) = wField ver flex fs[j] x
 | [], _, j, hj, _ => by cases hj
 | f :: fs, h, j, hj, hh => by
  simp only [tabFs, Bool.and_eq_true, Bool.or_eq_true, Bool.not_eq_true', decide_eq_true_eq] at h
  cases j with
  | zero =>
   intro x
   simp only [List.getElem_cons_zero] at hh ⊢
   refine wField_fit ver flex f h.1.1 ?_ x
   rcases h.1.2 with h1 | h1
   ·rw [hh] at h1; cases h1
   ·exact h1
  | succ j => exact wEach_fit ver flex fs h.2 j (by simpa using hj) hh
end
end Go.Proofs.YtlmnaffhadeolaaGreatDoor

namespace Go.Proofs.YtlmnaffhadeolaaGreatDoor
open Go Go.RowKit
theorem fitU_fit {fs : List Fld} (hk : known fs = 0) {t t' : Tree} (ho : ∀ kv ∈ t.u, kv.1 < 4294967296) (h : t'.u = others fs t.u) : FitU fs t' := by
 have sub : ∀ kv ∈ unknown fs t.u, ∃ x ∈ t.u, x.1 = kv.1 := by
  unfold unknown
  have put : ∀ (k : Nat) (v : List UInt8) (u : List (Nat × List UInt8)), ∀ kv ∈ putTag k v u, kv.1 = k ∨ kv ∈ u := by
   intro k v u
   induction u with
   | nil => intro kv h; simp [putTag] at h; subst h; exact .inl rfl
   | cons x u ih =>
    intro kv h
    simp only [putTag] at h
    split at h
    ·rcases List.mem_cons.1 h with rfl | h
     ·exact .inr (by simp)
     ·rcases ih kv h with h | h
      ·exact .inl h
      ·exact .inr (by simp [h])
    ·split at h
     ·exact .inr h
     ·rcases List.mem_cons.1 h with rfl | h
      ·exact .inl rfl
      ·exact .inr h
  have : ∀ (l out : List (Nat × List UInt8)), ∀ kv ∈ l.foldl (fun out kv => if kv.1 < known fs then out else putTag kv.1 kv.2 out) out, (∃ x ∈ l, x.1 = kv.1) ∨ kv ∈ out := by
   intro l
   induction l with
   | nil => intro out kv h; exact .inr h
   | cons x l ih =>
    intro out kv h
    simp only [List.foldl_cons] at h
    rcases ih _ kv h with ⟨y, hy, e⟩ | h
    ·exact .inl ⟨y, by simp [hy], e⟩
    ·split at h
     ·exact .inr h
     ·rcases put _ _ _ kv h with h | h
      ·exact .inl ⟨x, by simp, h.symm⟩
      ·exact .inr h
  intro kv hkv
  rcases this _ _ kv hkv with ⟨x, hx, e⟩ | h
  ·exact ⟨x, List.mem_of_mem_take hx, e⟩
  ·cases h
 refine ⟨by rw [h, others_self hk], ?_, by rw [h]; simp [others, unknownLen]⟩
 intro kv hkv
 rw [h] at hkv
 simp only [others, List.mem_map] at hkv
 obtain ⟨x, hx, rfl⟩ := hkv
 obtain ⟨y, hy, e⟩ := sub x hx
 have := ho y hy
 exact ⟨by show x.1 < _; omega, whole_len _⟩
theorem fitV_fit (kind : Int) (null : Bool) (p : Tree → Tree) (t : Tree) (h10 : kind ≠ 10) : FitV kind (fitVal kind null p t) := by
 intro h
 unfold fitVal
 rw [if_pos h]
 exact whole_len _
mutual
theorem fitF_ok (ver : Int) : ∀ (f : Fld), f.tag < 0 → tabF ver f = true → ∀ x : Tree, x.ok → FitF ver f (fitF ver f x)
 | .mk kind fr upto nul tag df of sub, htag, htab, x, hx => by
  have htag' : ¬ (0 ≤ tag) := by have : tag < 0 := htag; omega
  simp only [tabF] at htab
  have hnn : ∀ b : Bool, b = (x.nul && decide (0 ≤ nul) && decide (nul ≤ ver)) → b = true → nul ≤ ver := by
   intro b e1 e2
   rw [e1] at e2
   simp only [Bool.and_eq_true, decide_eq_true_eq] at e2
   exact e2.2
  rw [fitF_eq]
  rw [fld_null]
  simp only [Fld.kind, Fld.tag, Fld.of, Fld.sub, FitF]
  by_cases h11 : kind = 11
  ·simp only [h11, if_true] at htab ⊢
   simp only [htag', decide_false, Bool.false_and, Bool.or_false, mk_nul, mk_l]
   refine ⟨fun _ e => hnn _ rfl e, by simp [things]; omega, fun h10 => ?_, fun h10 => ?_⟩
   ·rw [if_pos h10] at htab
    intro y hy
    obtain ⟨z, hz, rfl⟩ := List.mem_map.1 hy
    have hzo := hx.l z (List.mem_of_mem_take hz)
    subst h10
    simp only [fitVal]
    exact ⟨fitPart_ok ver sub htab z hzo false, fitU_fit (known_zero (tab_tags htab)) hzo.u (by show ((fitP ver sub z).withNull false).u = _; rw [withNull_u]; rfl)⟩
   ·rw [if_neg h10] at htab
    simp at htab
    refine ⟨htab, fun y hy => ?_⟩
    obtain ⟨z, hz, rfl⟩ := List.mem_map.1 hy
    exact fitV_fit of false _ z h10
  ·simp only [h11, if_false] at htab ⊢
   by_cases h10 : kind = 10
   ·simp only [h10, if_true] at htab ⊢
    refine ⟨fun _ e => ?_, ?_, ?_⟩
    ·rw [fitVal_nul 10 _ _ _ (.inr (.inr rfl))] at e
     exact hnn _ rfl e
    ·simp only [fitVal]
     exact fitPart_ok ver sub htab x hx _
    ·exact fitU_fit (known_zero (tab_tags htab)) hx.u (by subst h10; show ((fitP ver sub x).withNull _).u = _; rw [withNull_u]; rfl)
   ·simp only [h10, if_false]
    refine ⟨fun _ e => ?_, fitV_fit kind _ _ x h10⟩
    by_cases h89 : kind = 8 ∨ kind = 9
    ·rw [fitVal_nul kind _ _ _ (by rcases h89 with h | h; exact .inl h; exact .inr (.inl h))] at e
     exact hnn _ rfl e
    ·unfold fitVal at e
     rw [if_neg h89, if_neg h10] at e
     cases e
theorem fitPart_ok (ver : Int) : ∀ (fs : List Fld), tabFs ver fs = true → ∀ (t : Tree), t.ok → ∀ b, FitFs ver fs 0 ((fitP ver fs t).withNull b)
 | fs, h, t, ht, b => fitFs_ok ver fs h 0 _ (fun j hj => ⟨att t j, ht.at j, by rw [withNull_att, Nat.zero_add, att_fitP ver fs t j hj]⟩)
theorem fitFs_ok (ver : Int) : ∀ (fs : List Fld), tabFs ver fs = true → ∀ (i : Nat) (t' : Tree), (∀ j (hj : j < fs.length), ∃ x : Tree, x.ok ∧ att t' (i + j) = fitF ver fs[j] x) → FitFs ver fs i t'
 | [], _, _, _, _ => by simp [FitFs]
 | f :: fs, h, i, t', hall => by
  simp only [tabFs, Bool.and_eq_true, Bool.or_eq_true, Bool.not_eq_true', decide_eq_true_eq] at h
  simp only [FitFs]
  refine ⟨h.1.1, fun hh => ?_, fitFs_ok ver fs h.2 (i + 1) t' (fun j hj => ?_)⟩
  ·obtain ⟨x, hx, e⟩ := hall 0 (by simp)
   simp only [Nat.add_zero, List.getElem_cons_zero] at e
   rw [e]
   refine fitF_ok ver f h.1.1 ?_ x hx
   rcases h.1.2 with h1 | h1
   ·rw [hh] at h1; cases h1
   ·exact h1
  ·obtain ⟨x, hx, e⟩ := hall (j + 1) (by simpa using hj)
   exact ⟨x, hx, by rw [show i + 1 + j = i + (j + 1) by omega, e]; simp⟩
end
theorem fitt_ok {ver : Int} {fs : List Fld} (h : tabFs ver fs = true) {t : Tree} (ht : t.ok) (flex : Bool) : FitT ver fs ((fitP ver fs t).withNull false) ∧ wPart ver flex fs ((fitP ver fs t).withNull false) = wPart ver flex fs t :=
 ⟨⟨fitPart_ok ver fs h t ht false, fitU_fit (known_zero (tab_tags h)) ht.u (by rw [withNull_u]; rfl)⟩, wFsub_fit ver flex fs h t false⟩
end Go.Proofs.YtlmnaffhadeolaaGreatDoor

namespace Go.Proofs.YtlmnaffhadeolaaGreatDoor
open Go Go.RowKit
def number (kind n : Int) : Int := if kind = 0 then n % 2 else if kind = 1 then IntKind.i8.wrap n else if kind = 2 then IntKind.i16.wrap n else if kind = 3 then IntKind.i32.wrap n else if kind = 5 then IntKind.u16.wrap n else n
mutual
def UsF : Fld → Tree → Prop
  | .mk kind _ _ nul _ df _ sub, x =>
    if kind = 8 then x.nul = decide (0 ≤ nul) ∧ x.s = []
    else if kind = 7 then x.s = List.replicate 16 0
    else if kind = 9 ∨ kind = 11 then x.s = [] ∧ x.l = []
    else if kind = 10 then x.u = [] ∧ UsFs sub x.l
    else x.n = number kind df
def UsFs : List Fld → List Tree → Prop
  | [], l => l = []
  | f :: fs, l => ∃ x r, l = x :: r ∧ UsF f x ∧ UsFs fs r
end
def ToV (kind : Int) (t g : Tree) : Prop := if kind = 8 ∨ kind = 9 then g.s = whole t.s else if kind = 7 then g.s = sixteen t.s else g.n = number kind t.n
mutual
def ToF (ver : Int) (flex : Bool) : Fld → Tree → Tree → Prop
  | .mk kind _ _ nul _ _ of sub, t, g =>
    ((kind = 8 ∨ kind = 10 ∨ (0 ≤ nul ∧ nul ≤ ver)) → g.nul = (t.nul && decide (0 ≤ nul) && decide (nul ≤ ver))) ∧
    ((t.nul && decide (0 ≤ nul) && decide (nul ≤ ver)) = false →
      if kind = 10 then ToFs ver flex sub 0 t g.l ∧ g.u = (if flex then others sub t.u else [])
      else if kind = 11 then g.l.length = (things t.l).length ∧ ∀ (i : Nat) (x y : Tree), (things t.l)[i]? = some x → g.l[i]? = some y →
        ((of = 8 ∨ of = 10) → y.nul = false) ∧ (if of = 10 then ToFs ver flex sub 0 x y.l ∧ y.u = (if flex then others sub x.u else []) else ToV of x y)
      else ToV kind t g)
def ToFs (ver : Int) (flex : Bool) : List Fld → Nat → Tree → List Tree → Prop
  | [], _, _, l => l = []
  | f :: fs, i, t, l => ∃ x r, l = x :: r ∧ (if f.has ver = true then ToF ver flex f (att t i) x else UsF f x) ∧ ToFs ver flex fs (i + 1) t r
end
mutual
def tabT : Fld → Bool
  | .mk kind _ _ nul tag df of sub => decide (tag < 0) && (decide (nul < 0) || decide (kind = 8) || decide (kind = 9) || decide (kind = 11)) && (!decide (kind = 0) || (decide (df = 0) || decide (df = 1))) && decide (IntKind.i64.wrap df = df) && decide (of ≠ 11) && tabTs sub
def tabTs : List Fld → Bool
  | [] => true
  | f :: fs => tabT f && tabTs fs
end
mutual
def cntF (tg : Bool) : Fld → Nat
  | .mk kind _ _ _ _ _ _ sub => if kind = 11 then 1 else if kind = 10 then cntFs tg sub + (if tg then 1 else 0) else 1
def cntFs (tg : Bool) : List Fld → Nat
  | [] => 0
  | f :: fs => cntF tg f + cntFs tg fs
end
theorem tellTags_cnt (tg : Bool) (u : List (Nat × List UInt8)) : (TellTags tg u).length = if tg then 1 else 0 := by cases tg <;> rfl
mutual
theorem tellF_cnt {tg : Bool} : ∀ {f : Fld} {ds : List D} {T : Tree}, TellF tg f ds T → ds.length = cntF tg f
  | .mk kind fr upto nul tag df of sub, ds, T, h => by
    simp only [TellF] at h
    simp only [cntF]
    by_cases h11 : kind = 11
    · simp only [h11, if_true] at h ⊢
      obtain ⟨d, els, rfl, _⟩ := h; rfl
    · simp only [h11, if_false] at h ⊢
      by_cases h10 : kind = 10
      · simp only [h10, if_true] at h ⊢
        obtain ⟨a, u, rfl, _, _, hs⟩ := h
        rw [List.length_append, tellFs_cnt hs, tellTags_cnt]
      · simp only [h10, if_false] at h ⊢
        obtain ⟨d, rfl, _⟩ := h; rfl
theorem tellFs_cnt {tg : Bool} : ∀ {fs : List Fld} {ds : List D} {l : List Tree}, TellFs tg fs ds l → ds.length = cntFs tg fs
  | [], ds, l, h => by simp only [TellFs] at h; rw [h.1]; rfl
  | f :: fs, ds, l, h => by
    simp only [TellFs] at h
    obtain ⟨a, b, x, r, rfl, _, h1, h2⟩ := h
    rw [List.length_append, tellF_cnt h1, tellFs_cnt h2]; rfl
end
theorem byteD_inj {a b : UInt8} (h : byteD a = byteD b) : a = b := by
  simp only [byteD, D.lit.injEq, Value.int.injEq, true_and] at h
  exact UInt8.toNat_inj.1 (by omega)
theorem strV_inj {a b : List UInt8} (h : strV a = strV b) : a = b := by
  simpa [strV] using h
end Go.Proofs.YtlmnaffhadeolaaGreatDoor

namespace Go.Proofs.YtlmnaffhadeolaaGreatDoor
open Go Go.RowKit
theorem wrap64 {k : IntKind} (h : k = .i8 ∨ k = .i16 ∨ k = .i32 ∨ k = .u16) (n : Int) : IntKind.i64.wrap (k.wrap n) = k.wrap n := by
 rcases h with rfl | rfl | rfl | rfl <;> simp only [IntKind.wrap, IntKind.bits, IntKind.signed] <;> simp <;> (try split) <;> (try split) <;> omega
structure TabT (kind nul tag df of : Int) (sub : List Fld) : Prop where
 tag : tag < 0
 nul : nul < 0 ∨ kind = 8 ∨ kind = 9 ∨ kind = 11
 df0 : kind = 0 → df = 0 ∨ df = 1
 df : IntKind.i64.wrap df = df
 of : of ≠ 11
 sub : tabTs sub = true
theorem tabT_out {kind fr upto nul tag df of : Int} {sub : List Fld} (h : tabT (.mk kind fr upto nul tag df of sub) = true) : TabT kind nul tag df of sub := by
 simp only [tabT, Bool.and_eq_true, Bool.or_eq_true, Bool.not_eq_true', decide_eq_true_eq, decide_eq_false_iff_not] at h
 obtain ⟨⟨⟨⟨⟨h1, h2⟩, h3⟩, h4⟩, h5⟩, h6⟩ := h
 exact ⟨h1, by rcases h2 with ((h | h) | h) | h <;> simp [h], fun e => h3.resolve_left (fun hn => hn e), h4, h5, h6⟩
theorem us_defV {kind nul tag df of : Int} {sub : List Fld} (H : TabT kind nul tag df of sub) (h10 : kind ≠ 10) (h11 : kind ≠ 11) {T : Tree} (h : TellV kind nul (defV kind nul df) T) (fr upto : Int) : UsF (.mk kind fr upto nul tag df of sub) T := by
 simp only [UsF]
 by_cases h8 : kind = 8
 ·subst h8
  simp only [if_true]
  simp only [TellV, defV] at h
  simp at h
  by_cases hn : 0 ≤ nul
  ·simp only [hn, if_true] at h ⊢
   rcases h with ⟨_, rfl⟩ | ⟨s, hs, _⟩
   ·simp [nullT, Tree.nul, Tree.s]
   ·simp at hs
  ·simp only [hn, if_false] at h ⊢
   obtain ⟨s, hs, rfl⟩ := h
   have := strV_inj (by simpa using hs)
   subst this
   simp [textT, Tree.nul, Tree.s]
 by_cases h7 : kind = 7
 ·subst h7
  simp only [h8, if_false, if_true]
  have h' : ∃ s : List UInt8, s.length = 16 ∧ D.agg ((List.replicate 16 (0 : UInt8)).map byteD) = .agg (s.map byteD) ∧ T = textT s := h
  obtain ⟨s, _, hb, rfl⟩ := h'
  simp only [D.agg.injEq] at hb
  exact ((List.map_inj_right (fun _ _ => byteD_inj)).1 hb).symm
 by_cases h9 : kind = 9
 ·subst h9
  simp only [h8, h7, if_false, true_or, if_true]
  have h' : ∃ (s : List UInt8) (b : Bool), (T = .mk 0 s b [] [] ∧ s.length ≤ lim) ∧ (D.sl true [] = .sl b (s.map byteD) ∨ (D.sl true [] = .sq (s.map byteD) ∧ (s ≠ [] → b = false))) := h
  obtain ⟨s, b, ⟨rfl, _⟩, hs | ⟨hs, _⟩⟩ := h'
  ·simp only [D.sl.injEq] at hs
   have : s = [] := List.map_eq_nil_iff.1 hs.2.symm
   exact ⟨this, rfl⟩
  ·cases hs
 simp only [h8, h7, h9, h11, h10, if_false, or_self]
 by_cases h0 : kind = 0
 ·subst h0
  simp only [TellV, defV] at h
  simp at h
  subst h
  rcases H.df0 rfl with rfl | rfl <;> simp [leafT, Tree.n, number]
 unfold TellV at h
 simp only [h0, h7, h8, h9, if_false] at h
 by_cases h1 : kind = 1
 ·subst h1
  simp [kindInt, defV] at h
  subst h
  simp [leafT, Tree.n, number, wrap64]
 by_cases h2 : kind = 2
 ·subst h2
  simp [kindInt, defV] at h
  subst h
  simp [leafT, Tree.n, number, wrap64]
 by_cases h3 : kind = 3
 ·subst h3
  simp [kindInt, defV] at h
  subst h
  simp [leafT, Tree.n, number, wrap64]
 by_cases h5 : kind = 5
 ·subst h5
  simp [kindInt, defV] at h
  subst h
  simp [leafT, Tree.n, number, wrap64]
 have hk : kindInt kind = none := by simp [kindInt, h1, h2, h3, h5]
 rw [hk] at h
 simp only [defV, h0, h1, h2, h3, h5, h7, h8, h9, if_false, D.lit.injEq, Value.int.injEq, true_and] at h
 obtain ⟨n, hn, rfl⟩ := h
 simp only [leafT, Tree.n, number, h0, h1, h2, h3, h5, if_false]
 rw [← hn]; exact H.df
theorem split_cnt {a b c d : List D} (h : a ++ b = c ++ d) (hl : a.length = c.length) : a = c ∧ b = d := List.append_inj h hl
end Go.Proofs.YtlmnaffhadeolaaGreatDoor

namespace Go.Proofs.YtlmnaffhadeolaaGreatDoor
open Go Go.RowKit
theorem sliceOf_cases {d : D} {n : Bool} {ds : List D} (h : sliceOf d = some (n, ds)) : d = .sl n ds ∨ d = .sq ds := by
 unfold sliceOf at h
 split at h <;> simp_all
theorem exV_of {kind nul ver : Int} {t : Tree} (h10 : kind ≠ 10) (h11 : kind ≠ 11) (hf : FitV kind t) {d : D} (hd : HoldV ver kind nul t d) : ∃ T, TellV kind nul d T := by
 by_cases h8 : kind = 8
 ·subst h8
  have hd' : d = (if 0 ≤ nul then (if t.nul then .lit (.pointer none) else .ptr (.lit (strV t.s))) else .lit (strV t.s)) := hd
  subst hd'
  by_cases hnn : 0 ≤ nul
  ·cases hb : t.nul with
   | true => exact ⟨nullT, by simp [TellV, hnn]⟩
   | false => exact ⟨textT t.s, by simp [TellV, hnn]; exact ⟨t.s, rfl, rfl⟩⟩
  ·exact ⟨textT t.s, by simp [TellV, hnn]; exact ⟨t.s, rfl, rfl⟩⟩
 by_cases h9 : kind = 9
 ·subst h9
  have hs : t.s.length ≤ lim := by have := hf (.inr rfl); simp only [Most] at this; simp only [lim]; omega
  have mk : ∀ (s : List UInt8) (b : Bool), s.length ≤ lim → (d = .sl b (s.map byteD) ∨ (d = .sq (s.map byteD) ∧ (s ≠ [] → b = false))) → ∃ T, TellV 9 nul d T := fun s b h1 h2 => ⟨.mk 0 s b [] [], s, b, ⟨rfl, h1⟩, h2⟩
  unfold HoldV at hd
  split at hd
  ·obtain ⟨_, _, n, hsl⟩ := hd
   rcases sliceOf_cases hsl with rfl | rfl
   ·exact mk t.s n hs (.inl rfl)
   ·exact mk t.s false hs (.inr ⟨rfl, fun _ => rfl⟩)
  ·have hd' : d = (if 0 ≤ nul then .sl t.nul (if t.nul then [] else t.s.map byteD) else .sq (t.s.map byteD)) := hd
   subst hd'
   by_cases hnn : 0 ≤ nul
   ·rw [if_pos hnn]
    rw [if_pos hnn] at mk
    cases hb : t.nul with
    | true => rw [hb] at mk; exact mk [] true (by simp) (.inl rfl)
    | false => rw [hb] at mk; exact mk t.s false hs (.inl rfl)
   ·rw [if_neg hnn]
    rw [if_neg hnn] at mk
    exact mk t.s false hs (.inr ⟨rfl, fun _ => rfl⟩)
 have hd' : d = valK kind nul t := by
  unfold HoldV at hd
  rw [if_neg (fun h => h9 h.1)] at hd
  exact hd
 subst hd'
 by_cases h7 : kind = 7
 ·subst h7; exact ⟨textT (sixteen t.s), sixteen t.s, sixteen_len t.s, rfl, rfl⟩
 by_cases h0 : kind = 0
 ·subst h0; exact ⟨_, _, rfl, rfl⟩
 unfold TellV
 simp only [h0, h7, h8, h9, if_false]
 by_cases h1 : kind = 1
 ·subst h1; exact ⟨_, _, rfl, rfl⟩
 by_cases h2 : kind = 2
 ·subst h2; exact ⟨_, _, rfl, rfl⟩
 by_cases h3 : kind = 3
 ·subst h3; exact ⟨_, _, rfl, rfl⟩
 by_cases h5 : kind = 5
 ·subst h5; exact ⟨_, _, rfl, rfl⟩
 have hk : kindInt kind = none := by simp [kindInt, h1, h2, h3, h5]
 rw [hk]
 simp only [valK, h0, h1, h2, h3, h5, h7, h8, h9, if_false]
 exact ⟨_, _, rfl, rfl⟩
theorem hold_valK (ver kind : Int) (t : Tree) : HoldV ver kind (-1) t (valK kind (-1) t) := by
 unfold HoldV
 split
 ·rename_i h
  rw [h.1]
  exact ⟨rfl, rfl, false, rfl⟩
 ·rfl
end Go.Proofs.YtlmnaffhadeolaaGreatDoor

namespace Go.Proofs.YtlmnaffhadeolaaGreatDoor
open Go Go.RowKit
theorem okTags_nil : OkTags [] := ⟨List.Pairwise.nil, fun kv h => by (cases h), by simp⟩
theorem okTags_fit {fs : List Fld} {t : Tree} (h : FitU fs t) : OkTags t.u := by
 refine ⟨by rw [← h.1]; exact unknown_rising _ _, fun kv hkv => ⟨(h.2.1 kv hkv).1, ?_⟩, ?_⟩
 ·have := (h.2.1 kv hkv).2
  simp only [Most] at this
  simp only [lim]; omega
 ·have := h.2.2
  simp only [Most] at this
  omega
theorem ex_list {P : Nat → Tree → Prop} : ∀ (n : Nat), (∀ i, i < n → ∃ x, P i x) → ∃ l : List Tree, l.length = n ∧ ∀ (i : Nat) (x : Tree), l[i]? = some x → P i x
 | 0, _ => ⟨[], rfl, fun i x h => by simp at h⟩
 | n + 1, h => by
  obtain ⟨l, hl, hp⟩ := ex_list n (fun i hi => h i (by omega))
  obtain ⟨x, hx⟩ := h n (by omega)
  refine ⟨l ++ [x], by simp [hl], fun i y hy => ?_⟩
  by_cases hi : i < n
  ·rw [List.getElem?_append_left (by omega)] at hy; exact hp i y hy
  ·have hin : i = n := by
    have := (List.getElem?_eq_some_iff.1 hy).1
    simp at this; omega
   subst hin
   rw [List.getElem?_append_right (by omega)] at hy
   simp [hl] at hy
   rw [← hy]; exact hx
theorem ex_defV (kind nul df : Int) : ∃ T, TellV kind nul (defV kind nul df) T := by
 by_cases h8 : kind = 8
 ·subst h8
  by_cases hn : 0 ≤ nul
  ·exact ⟨nullT, by simp [TellV, defV, hn]⟩
  ·exact ⟨textT [], by simp [TellV, defV, hn]; exact ⟨[], rfl, rfl⟩⟩
 by_cases h9 : kind = 9
 ·subst h9; exact ⟨.mk 0 [] true [] [], [], true, ⟨rfl, by simp [lim]⟩, .inl rfl⟩
 by_cases h7 : kind = 7
 ·subst h7; exact ⟨_, List.replicate 16 0, by simp, rfl, rfl⟩
 by_cases h0 : kind = 0
 ·subst h0; exact ⟨_, _, rfl, rfl⟩
 unfold TellV
 simp only [h0, h7, h8, h9, if_false]
 by_cases h1 : kind = 1
 ·subst h1; exact ⟨_, _, rfl, rfl⟩
 by_cases h2 : kind = 2
 ·subst h2; exact ⟨_, _, rfl, rfl⟩
 by_cases h3 : kind = 3
 ·subst h3; exact ⟨_, _, rfl, rfl⟩
 by_cases h5 : kind = 5
 ·subst h5; exact ⟨_, _, rfl, rfl⟩
 have hk : kindInt kind = none := by simp [kindInt, h1, h2, h3, h5]
 rw [hk]
 simp only [defV, h0, h1, h2, h3, h5, h7, h8, h9, if_false]
 exact ⟨_, _, rfl, rfl⟩
mutual
theorem ex_df (tg : Bool) : ∀ (f : Fld), ∃ T, TellF tg f (dfF tg f) T
 | .mk kind fr upto nul tag df of sub => by
  by_cases h11 : kind = 11
  ·subst h11
   refine ⟨.mk 0 [] true [] [], ?_⟩
   simp only [TellF, dfF, if_true]
   exact ⟨_, [], rfl, rfl, .inl rfl, rfl, Nat.zero_le _, fun i e x h => by simp at h⟩
  by_cases h10 : kind = 10
  ·subst h10
   obtain ⟨l, hl⟩ := exs_df tg sub
   refine ⟨.mk 0 [] false l [], ?_⟩
   simp only [TellF, dfF, h11, if_false, if_true]
   exact ⟨_, [], rfl, by cases tg <;> rfl, fun _ => okTags_nil, hl⟩
  ·obtain ⟨T, hT⟩ := ex_defV kind nul df
   refine ⟨T, ?_⟩
   simp only [TellF, dfF, h11, h10, if_false]
   exact ⟨_, rfl, hT⟩
theorem exs_df (tg : Bool) : ∀ (fs : List Fld), ∃ l, TellFs tg fs (dfFs tg fs) l
 | [] => ⟨[], by simp [TellFs, dfFs]⟩
 | f :: fs => by
  obtain ⟨x, hx⟩ := ex_df tg f
  obtain ⟨r, hr⟩ := exs_df tg fs
  refine ⟨x :: r, ?_⟩
  simp only [TellFs, dfFs]
  exact ⟨_, _, x, r, rfl, rfl, hx, hr⟩
end
theorem hzU_tags {tg flex : Bool} {t : Tree} {b : List D} (htg : flex = true → tg = true) (h : HzU tg flex t b) : b = TellTags tg (if flex then t.u else []) := by
 unfold HzU at h
 unfold TellTags
 cases tg with
 | true => simpa using h
 | false => simpa using h
theorem exP_of0 {ver : Int} {tg flex : Bool} (htg : flex = true → tg = true) {fs : List Fld} {t : Tree} {ds : List D} (hu : FitU fs t) (hs : ∀ a, HzFs ver tg flex fs 0 t a → ∃ l, TellFs tg fs a l) (h : HzP ver tg flex fs t ds) : ∃ T, TellP tg fs ds T := by
 obtain ⟨a, b, rfl, ha, hb⟩ := h
 obtain ⟨l, hl⟩ := hs a ha
 refine ⟨.mk 0 [] false l (if tg then (if flex then t.u else []) else []), a, if flex then t.u else [], by rw [hzU_tags htg hb], rfl, fun _ => ?_, hl⟩
 cases flex with
 | true => exact okTags_fit hu
 | false => exact okTags_nil
mutual
theorem ex_of {ver : Int} {tg flex : Bool} (htg : flex = true → tg = true) : ∀ {f : Fld} {t : Tree} {ds : List D}, tabT f = true → FitF ver f t → HzF ver tg flex f t ds → ∃ T, TellF tg f ds T
 | .mk kind fr upto nul tag df of sub, t, ds, ht, hf, h => by
  have H := tabT_out ht
  simp only [FitF] at hf
  obtain ⟨_, hf⟩ := hf
  rw [HzF_mk] at h
  by_cases h11 : kind = 11
  ·subst h11
   simp only [if_true] at h hf
   obtain ⟨hlen, hst, hpr⟩ := hf
   obtain ⟨d, rfl, h⟩ := h
   have hmany : t.l.length ≤ 1000000000 := by simp only [Most] at hlen; omega
   rcases h with ⟨_, _, rfl⟩ | ⟨_, _, _, n, els, hsl, _, hel, hE⟩
   ·refine ⟨.mk 0 [] true [] [], ?_⟩
    simp only [TellF, if_true]
    exact ⟨_, [], rfl, rfl, .inl rfl, rfl, Nat.zero_le _, fun i e x h => by simp at h⟩
   ·-- the elements
    obtain ⟨l, hl, hP⟩ := ex_list (P := fun i x => ∀ e, els[i]? = some e → (if of = 10 then ∃ ps, e = .agg ps ∧ TellP tg sub ps x else TellV of (-1) e x)) els.length (fun i hi => by
     have hit : i < t.l.length := by omega
     by_cases h10 : of = 10
     ·simp only [h10, if_true] at hE ⊢
      obtain ⟨ps, hps, hz⟩ := hE i hit
      have hx := hst h10 t.l[i] (List.getElem_mem hit)
      rw [att_get hit] at hz
      obtain ⟨T, hT⟩ := exP_of0 htg hx.2 (fun a ha => exs_of htg H.sub hx.1 ha) hz
      exact ⟨T, fun e he => ⟨ps, by rw [hps] at he; exact (Option.some.inj he).symm, hT⟩⟩
     ·simp only [h10, if_false] at hE ⊢
      obtain ⟨⟨o1, o2⟩, hv⟩ := hpr h10
      obtain ⟨T, hT⟩ := exV_of (ver := ver) h10 o1 (hv t.l[i] (List.getElem_mem hit)) (hold_valK ver of t.l[i])
      refine ⟨T, fun e he => ?_⟩
      rw [hE, List.getElem?_map, List.getElem?_eq_getElem hit] at he
      simp only [Option.map_some, Option.some.injEq] at he
      rw [← he]; exact hT)
    have key : ∀ (b : Bool), (d = .sl b els ∨ (d = .sq els ∧ (els ≠ [] → b = false))) → ∃ T, TellF tg (.mk 11 fr upto nul tag df of sub) [d] T := by
     intro b hb
     refine ⟨.mk 0 [] b l [], ?_⟩
     rw [TellF_mk]
     simp only [if_true]
     exact ⟨d, els, rfl, rfl, hb, hl, by omega, fun i e x he hx => hP i x hx e he⟩
    rcases sliceOf_cases hsl with rfl | rfl
    ·exact key n (.inl rfl)
    ·exact key false (.inr ⟨rfl, fun _ => rfl⟩)
  ·simp only [h11, if_false] at h hf
   by_cases h10 : kind = 10
   ·subst h10
    simp only [if_true] at h hf
    obtain ⟨T, hT⟩ := exP_of0 htg hf.2 (fun a ha => exs_of htg H.sub hf.1 ha) h
    refine ⟨T, ?_⟩
    rw [TellF_mk]
    simp only [h11, if_false, if_true]
    exact hT
   ·simp only [h10, if_false] at h hf
    obtain ⟨d, rfl, hv⟩ := h
    obtain ⟨T, hT⟩ := exV_of h10 h11 hf hv
    refine ⟨T, ?_⟩
    rw [TellF_mk]
    simp only [h11, h10, if_false]
    exact ⟨d, rfl, hT⟩
theorem exs_of {ver : Int} {tg flex : Bool} (htg : flex = true → tg = true) : ∀ {fs : List Fld} {i : Nat} {t : Tree} {ds : List D}, tabTs fs = true → FitFs ver fs i t → HzFs ver tg flex fs i t ds → ∃ l, TellFs tg fs ds l
 | [], i, t, ds, _, _, h => by
  simp only [HzFs] at h
  exact ⟨[], by simp [TellFs, h]⟩
 | f :: fs, i, t, ds, ht, hf, h => by
  simp only [tabTs, Bool.and_eq_true] at ht
  simp only [FitFs] at hf
  simp only [HzFs] at h
  obtain ⟨a, b, rfl, _, _, h1, h2⟩ := h
  obtain ⟨r, hr⟩ := exs_of htg ht.2 hf.2.2 h2
  have hx : ∃ x, TellF tg f a x := by
   by_cases hh : f.has ver = true
   ·rw [if_pos hh] at h1; exact ex_of htg ht.1 (hf.2.1 hh) h1
   ·rw [if_neg hh] at h1; rw [h1]; exact ex_df tg f
  obtain ⟨x, hx⟩ := hx
  refine ⟨x :: r, ?_⟩
  simp only [TellFs]
  exact ⟨a, b, x, r, rfl, rfl, hx, hr⟩
end
theorem exP_of' {ver : Int} {tg flex : Bool} (htg : flex = true → tg = true) {fs : List Fld} {t : Tree} {ds : List D} (ht : tabTs fs = true) (hf : FitT ver fs t) (h : HzP ver tg flex fs t ds) : ∃ T, TellP tg fs ds T := exP_of0 htg hf.2 (fun _ ha => exs_of htg ht hf.1 ha) h
end Go.Proofs.YtlmnaffhadeolaaGreatDoor

namespace Go.Proofs.YtlmnaffhadeolaaGreatDoor
open Go Go.RowKit
theorem smalls_all : ∀ {l : List Tree}, (∀ x ∈ l, x.small) → Tree.smalls l
 | [], _ => by simp [Tree.smalls]
 | x :: l, h => by simp only [Tree.smalls]; exact ⟨h x (by simp), smalls_all (fun y hy => h y (by simp [hy]))⟩
theorem small_V {kind nul : Int} {d : D} {T : Tree} (h : TellV kind nul d T) : T.small := by
 unfold TellV at h
 split at h
 ·obtain ⟨b, _, rfl⟩ := h; simp [leafT, Tree.small, Tree.smalls]
 split at h
 ·obtain ⟨s, _, _, rfl⟩ := h; simp [textT, Tree.small, Tree.smalls]
 split at h
 ·split at h
  ·rcases h with ⟨_, rfl⟩ | ⟨s, _, rfl⟩ <;> simp [nullT, textT, Tree.small, Tree.smalls]
  ·obtain ⟨s, _, rfl⟩ := h; simp [textT, Tree.small, Tree.smalls]
 split at h
 ·obtain ⟨s, b, ⟨rfl, _⟩, _⟩ := h; simp [Tree.small, Tree.smalls]
 split at h
 ·obtain ⟨n, _, rfl⟩ := h; simp [leafT, Tree.small, Tree.smalls]
 ·obtain ⟨n, _, rfl⟩ := h; simp [leafT, Tree.small, Tree.smalls]
theorem small_P0 {tg : Bool} {fs : List Fld} {ds : List D} {T : Tree} (hl : fs.length ≤ 1000) (hs : ∀ a l, TellFs tg fs a l → l.length = fs.length ∧ Tree.smalls l) (h : TellP tg fs ds T) : T.small := by
 obtain ⟨a, u, _, hTe, hu, hs'⟩ := h
 obtain ⟨k1, k2⟩ := hs a T.l hs'
 rw [hTe]
 simp only [Tree.small]
 refine ⟨⟨by omega, ?_⟩, k2⟩
 cases tg with
 | true => exact (hu rfl).2.2
 | false => simp
mutual
theorem small_F {tg : Bool} : ∀ {f : Fld} {ds : List D} {T : Tree}, f.okb = true → TellF tg f ds T → T.small
 | .mk kind fr upto nul tag df of sub, ds, T, hk, h => by
  simp only [Fld.okb, Bool.and_eq_true] at hk
  have hl : sub.length ≤ 1000 := Nat.le_of_ble_eq_true hk.1.2
  rw [TellF_mk] at h
  by_cases h11 : kind = 11
  ·simp only [h11, if_true] at h
   obtain ⟨d, els, _, hT, _, hlen, hle, hel⟩ := h
   rw [hT]
   simp only [Tree.small]
   refine ⟨⟨by omega, by simp⟩, smalls_all (fun x hx => ?_)⟩
   obtain ⟨i, hi⟩ := List.mem_iff_getElem?.1 hx
   have hlt := (List.getElem?_eq_some_iff.1 hi).1
   have he := hel i (els[i]'(by omega)) x (List.getElem?_eq_getElem (by omega)) hi
   by_cases h10 : of = 10
   ·simp only [h10, if_true] at he
    obtain ⟨ps, _, he⟩ := he
    exact small_P0 hl (fun a l hs => small_Fs hk.2 hs) he
   ·simp only [h10, if_false] at he
    exact small_V he
  ·simp only [h11, if_false] at h
   by_cases h10 : kind = 10
   ·simp only [h10, if_true] at h
    exact small_P0 hl (fun a l hs => small_Fs hk.2 hs) h
   ·simp only [h10, if_false] at h
    obtain ⟨d, _, hv⟩ := h
    exact small_V hv
theorem small_Fs {tg : Bool} : ∀ {fs : List Fld} {ds : List D} {l : List Tree}, Fld.oksb fs = true → TellFs tg fs ds l → l.length = fs.length ∧ Tree.smalls l
 | [], ds, l, _, h => by simp only [TellFs] at h; rw [h.2]; simp [Tree.smalls]
 | f :: fs, ds, l, hk, h => by
  simp only [Fld.oksb, Bool.and_eq_true] at hk
  simp only [TellFs] at h
  obtain ⟨a, b, x, r, _, rfl, h1, h2⟩ := h
  obtain ⟨k1, k2⟩ := small_Fs hk.2 h2
  refine ⟨by simp [k1], ?_⟩
  simp only [Tree.smalls]
  exact ⟨small_F hk.1 h1, k2⟩
end
theorem small_P {tg : Bool} {fs : List Fld} {ds : List D} {T : Tree} (hk : fsok fs = true) (h : TellP tg fs ds T) : T.small := by
 unfold fsok at hk
 rw [Bool.and_eq_true] at hk
 exact small_P0 (Nat.le_of_ble_eq_true hk.2) (fun a l hs => small_Fs hk.1 hs) h
end Go.Proofs.YtlmnaffhadeolaaGreatDoor

namespace Go.Proofs.YtlmnaffhadeolaaGreatDoor
open Go Go.RowKit
section
set_option maxRecDepth 100000
theorem ti_i8 : isInt Tryz.prog 58 .i8 = true := by kernel_rfl
theorem fn_number (kind n : Int) (w : World) : Fn 61 [.int .i64 kind, .int .i64 n] w fun v w' => w' = w ∧ v = .int .i64 (number kind n) := by
 refine enter Tryz.func61 rfl Tryz.ntmps61 rfl ?_
 repeat first|(with_reducible first|apply wc_seq|apply wc_region|apply wl_nil|apply qk_thn|apply wc_block)|((with_reducible apply ws);exact rfl;exact rfl)
 by_cases h0 : kind = 0
 ·subst h0
  refine wc_yes rfl (by decide) ?_
  repeat first|(with_reducible first|apply wc_seq|apply wc_region)|((with_reducible apply ws);exact rfl;exact rfl)
  refine wl_and rfl rfl rfl (and1 n) ?_
  repeat first|(with_reducible first|apply wl_nil|apply qk_thn|apply wc_ret|apply qk_thn_ret|apply qk_in_ret)|((with_reducible apply ws);exact rfl;exact rfl)
  exact qk_ret1 rfl rfl ⟨_, rfl, Below.refl _ _, rfl, rfl⟩
 ·refine wc_no rfl (by simpa using h0) ?_
  repeat first|(with_reducible first|apply wc_seq|apply wc_region|apply wl_nil|apply qk_thn)|((with_reducible apply ws);exact rfl;exact rfl)
  by_cases h1 : kind = 1
  ·subst h1
   refine wc_yes rfl (by decide) ?_
   repeat first|(with_reducible first|apply wc_seq|apply wc_region)|((with_reducible apply ws);exact rfl;exact rfl)
   refine wl_conv .i8 rfl ti_l64 ti_i8 rfl rfl ?_
   refine wl_conv .i64 rfl ti_i8 ti_l64 rfl (wrap64 (.inl rfl) n) ?_
   repeat first|(with_reducible first|apply wl_nil|apply qk_thn|apply wc_ret|apply qk_thn_ret|apply qk_in_ret)|((with_reducible apply ws);exact rfl;exact rfl)
   exact qk_ret1 rfl rfl ⟨_, rfl, Below.refl _ _, rfl, rfl⟩
  ·refine wc_no rfl (by simpa using h1) ?_
   repeat first|(with_reducible first|apply wc_seq|apply wc_region|apply wl_nil|apply qk_thn)|((with_reducible apply ws);exact rfl;exact rfl)
   by_cases h2 : kind = 2
   ·subst h2
    refine wc_yes rfl (by decide) ?_
    repeat first|(with_reducible first|apply wc_seq|apply wc_region)|((with_reducible apply ws);exact rfl;exact rfl)
    refine wl_conv .i16 rfl ti_l64 ti_i16 rfl rfl ?_
    refine wl_conv .i64 rfl ti_i16 ti_l64 rfl (wrap64 (.inr (.inl rfl)) n) ?_
    repeat first|(with_reducible first|apply wl_nil|apply qk_thn|apply wc_ret|apply qk_thn_ret|apply qk_in_ret)|((with_reducible apply ws);exact rfl;exact rfl)
    exact qk_ret1 rfl rfl ⟨_, rfl, Below.refl _ _, rfl, rfl⟩
   ·refine wc_no rfl (by simpa using h2) ?_
    repeat first|(with_reducible first|apply wc_seq|apply wc_region|apply wl_nil|apply qk_thn)|((with_reducible apply ws);exact rfl;exact rfl)
    by_cases h3 : kind = 3
    ·subst h3
     refine wc_yes rfl (by decide) ?_
     repeat first|(with_reducible first|apply wc_seq|apply wc_region)|((with_reducible apply ws);exact rfl;exact rfl)
     refine wl_conv .i32 rfl ti_l64 ti_i32 rfl rfl ?_
     refine wl_conv .i64 rfl ti_i32 ti_l64 rfl (wrap64 (.inr (.inr (.inl rfl))) n) ?_
     repeat first|(with_reducible first|apply wl_nil|apply qk_thn|apply wc_ret|apply qk_thn_ret|apply qk_in_ret)|((with_reducible apply ws);exact rfl;exact rfl)
     exact qk_ret1 rfl rfl ⟨_, rfl, Below.refl _ _, rfl, rfl⟩
    ·refine wc_no rfl (by simpa using h3) ?_
     repeat first|(with_reducible first|apply wc_seq|apply wc_region|apply wl_nil|apply qk_thn)|((with_reducible apply ws);exact rfl;exact rfl)
     by_cases h5 : kind = 5
     ·subst h5
      refine wc_yes rfl (by decide) ?_
      repeat first|(with_reducible first|apply wc_seq|apply wc_region)|((with_reducible apply ws);exact rfl;exact rfl)
      refine wl_conv .u16 rfl ti_l64 ti_u16 rfl rfl ?_
      refine wl_conv .i64 rfl ti_u16 ti_l64 rfl (wrap64 (.inr (.inr (.inr rfl))) n) ?_
      repeat first|(with_reducible first|apply wl_nil|apply qk_thn|apply wc_ret|apply qk_thn_ret|apply qk_in_ret)|((with_reducible apply ws);exact rfl;exact rfl)
      exact qk_ret1 rfl rfl ⟨_, rfl, Below.refl _ _, rfl, rfl⟩
     ·refine wc_no rfl (by simpa using h5) ?_
      repeat first|(with_reducible first|apply wc_seq|apply wc_region|apply wl_nil|apply qk_thn|apply wc_skip|apply wc_ret|apply qk_in)|((with_reducible apply ws);exact rfl;exact rfl)
      exact qk_ret1 rfl rfl ⟨_, rfl, Below.refl _ _, rfl, by simp [number, h0, h1, h2, h3, h5]⟩
end
end Go.Proofs.YtlmnaffhadeolaaGreatDoor

namespace Go.Proofs.YtlmnaffhadeolaaGreatDoor
def tagsW (u : List (Nat × List UInt8)) : Nat := (u.map fun kv => kv.2.length + 1).sum
mutual
def Tree.wt : Tree → Nat
 | .mk _ s _ l u => 1 + s.length + tagsW u + Tree.wts l
def Tree.wts : List Tree → Nat
 | [] => 0
 | t :: l => t.wt + Tree.wts l
end
mutual
def Fld.cost : Fld → Nat
 | .mk _ _ _ _ _ _ _ sub => 60 + ((1 + known sub) * Fld.costs sub + 60)
def Fld.costs : List Fld → Nat
 | [] => 0
 | f :: l => f.cost + 30 + Fld.costs l
end
theorem Tree.wt_pos (t : Tree) : 1 ≤ t.wt := by cases t; simp only [Tree.wt]; omega
theorem wts_mem : ∀ {l : List Tree} {t : Tree}, t ∈ l → t.wt ≤ Tree.wts l
 | x :: l, t, h => by
  simp only [Tree.wts]
  rcases List.mem_cons.1 h with rfl | h1
  ·omega
  ·have := wts_mem h1; omega
theorem wts_take : ∀ (l : List Tree) (n : Nat), Tree.wts (l.take n) ≤ Tree.wts l
 | [], n => by simp
 | x :: l, 0 => by simp [Tree.wts]
 | x :: l, n + 1 => by simp only [List.take_succ_cons, Tree.wts]; have := wts_take l n; omega
theorem att_wt (t : Tree) (i : Nat) : (att t i).wt ≤ t.wt := by
 cases t with
 | mk n s nul l u =>
  unfold att
  by_cases hi : i < l.length
  ·have e : (Tree.mk n s nul l u).l.getD i Tree.none = l[i] := by simp [Tree.l, hi]
   rw [e]
   have := wts_mem (List.getElem_mem hi)
   simp only [Tree.wt]; omega
  ·have e : (Tree.mk n s nul l u).l.getD i Tree.none = Tree.none := by simp [Tree.l, List.getD, List.getElem?_eq_none (by omega : l.length ≤ i)]
   rw [e]
   simp only [Tree.none, Tree.wt, tagsW, Tree.wts]; simp; omega
theorem s_wt (t : Tree) : t.s.length + 1 ≤ t.wt := by cases t; simp only [Tree.wt, Tree.s]; omega
theorem l_wt (t : Tree) : Tree.wts t.l + 1 ≤ t.wt := by cases t; simp only [Tree.wt, Tree.l]; omega
theorem u_wt (t : Tree) : tagsW t.u + 1 ≤ t.wt := by cases t; simp only [Tree.wt, Tree.u]; omega
theorem uvar_le6 (n : Nat) (h : n < 34359738368) : (uvar n).length ≤ 6 := by
 rw [uvar]; split
 ·simp
 ·rw [uvar]; split
  ·simp
  ·rw [uvar]; split
   ·simp
   ·rw [uvar]; split
    ·simp
    ·rw [uvar]; split
     ·simp
     ·omega
theorem be_len : ∀ (k : Nat) (n : Int), (be k n).length = k
 | 0, _ => rfl
 | k + 1, n => by simp only [be, List.length_cons, be_len k n]
theorem counted_le (flex null : Bool) (n size : Nat) (hn : n ≤ 1000000) (hs : size ≤ 8) : (counted flex null n size).length ≤ 8 := by
 unfold counted
 split
 ·split
  ·simp
  ·exact Nat.le_trans (uvar_le6 _ (by omega)) (by omega)
 ·split <;> rw [be_len] <;> exact hs
theorem whole_le (s : List UInt8) : (whole s).length ≤ s.length ∧ (whole s).length ≤ 32767 := by
 unfold whole Most; rw [List.length_take]; omega
theorem width8 (k : Int) : width k ≤ 8 := by
 unfold width
 split
 ·omega
 ·split
  ·omega
  ·split <;> omega
theorem wVal_le (kind : Int) (flex null : Bool) (p : Tree → List UInt8) (t : Tree) (c : Nat) (hp : (p t).length ≤ c * t.wt) : (wVal kind flex null p t).length ≤ (c + 24) * t.wt := by
 have h1 := t.wt_pos
 have hs := s_wt t
 have hw := whole_le t.s
 have hif : (if null then ([] : List UInt8) else whole t.s).length ≤ t.s.length ∧ (if null then ([] : List UInt8) else whole t.s).length ≤ 32767 := by
  cases null
  ·exact hw
  ·simp
 have hmul : (c + 24) * t.wt = c * t.wt + 24 * t.wt := by rw [Nat.add_mul]
 unfold wVal
 split
 ·simp; omega
 ·split
  ·simp only [sixteen, List.length_take]; omega
  ·split
   ·have := counted_le flex null (if null then ([] : List UInt8) else whole t.s).length 2 (by omega) (by omega)
    rw [List.length_append]; omega
   ·split
    ·have := counted_le flex null (if null then ([] : List UInt8) else whole t.s).length 4 (by omega) (by omega)
     rw [List.length_append]; omega
    ·split
     ·omega
     ·rw [be_len]
      have := width8 kind
      omega
def tagsB (l : List (Nat × List UInt8)) : Nat := (l.map fun kv => (wTag kv.1 kv.2).length).sum
theorem tagsB_append (a b : List (Nat × List UInt8)) : tagsB (a ++ b) = tagsB a + tagsB b := by simp [tagsB]
theorem flat_tagsB (l : List (Nat × List UInt8)) : (l.flatMap fun kv => wTag kv.1 kv.2).length = tagsB l := by
 induction l with
 | nil => rfl
 | cons a l ih => simp [tagsB]
theorem tagsW_append (a b : List (Nat × List UInt8)) : tagsW (a ++ b) = tagsW a + tagsW b := by simp [tagsW]
theorem putTag_W (k : Nat) (v : List UInt8) (l : List (Nat × List UInt8)) : tagsW (putTag k v l) ≤ tagsW l + v.length + 1 := by
 induction l with
 | nil => simp [putTag, tagsW]
 | cons a l ih =>
  simp only [putTag]
  split
  ·simp only [tagsW, List.map_cons, List.sum_cons] at *; omega
  ·split
   ·omega
   ·simp only [tagsW, List.map_cons, List.sum_cons]; omega
theorem unknown_W (fs : List Fld) (u : List (Nat × List UInt8)) : tagsW (unknown fs u) ≤ tagsW u := by
 have gen : ∀ (l out : List (Nat × List UInt8)), tagsW (l.foldl (fun out kv => if kv.1 < known fs then out else putTag kv.1 kv.2 out) out) ≤ tagsW out + tagsW l := by
  intro l
  induction l with
  | nil => intro out; simp [tagsW]
  | cons a l ih =>
   intro out
   have h1 := ih (if a.1 < known fs then out else putTag a.1 a.2 out)
   have h2 : tagsW (if a.1 < known fs then out else putTag a.1 a.2 out) ≤ tagsW out + a.2.length + 1 := by
    split
    ·omega
    ·exact putTag_W _ _ _
   simp only [List.foldl_cons]
   simp only [tagsW, List.map_cons, List.sum_cons] at *
   omega
 have ht : tagsW (u.take Most) ≤ tagsW u := by
  have : tagsW u = tagsW (u.take Most) + tagsW (u.drop Most) := by rw [← tagsW_append, List.take_append_drop]
  omega
 have h0 : tagsW ([] : List (Nat × List UInt8)) = 0 := rfl
 have := gen (u.take Most) []
 unfold unknown
 omega
theorem putTag_key (k : Nat) (v : List UInt8) (l : List (Nat × List UInt8)) : ∀ x ∈ putTag k v l, x = (k, v) ∨ x ∈ l := by
 induction l with
 | nil => intro x hx; simp [putTag] at hx; exact .inl hx
 | cons a l ih =>
  intro x hx
  simp only [putTag] at hx
  split at hx
  ·rcases List.mem_cons.1 hx with rfl | h
   ·exact .inr (by simp)
   ·rcases ih x h with h | h
    ·exact .inl h
    ·exact .inr (by simp [h])
  ·split at hx
   ·exact .inr hx
   ·rcases List.mem_cons.1 hx with rfl | h
    ·exact .inl rfl
    ·exact .inr h
theorem unknown_in (fs : List Fld) (u : List (Nat × List UInt8)) : ∀ x ∈ unknown fs u, x ∈ u := by
 have gen : ∀ (l out : List (Nat × List UInt8)), ∀ x ∈ l.foldl (fun out kv => if kv.1 < known fs then out else putTag kv.1 kv.2 out) out, x ∈ out ∨ x ∈ l := by
  intro l
  induction l with
  | nil => intro out x hx; exact .inl hx
  | cons a l ih =>
   intro out x hx
   rcases ih _ x hx with h | h
   ·simp only [] at h
    split at h
    ·exact .inl h
    ·rcases putTag_key _ _ _ x h with rfl | h
     ·exact .inr (by simp)
     ·exact .inl h
   ·exact .inr (by simp [h])
 intro x hx
 rcases gen (u.take Most) [] x hx with h | h
 ·cases h
 ·exact List.mem_of_mem_take h
theorem others_le (fs : List Fld) (t : Tree) (hok : t.ok) : tagsB (others fs t.u) ≤ 14 * t.wt := by
 have h1 := unknown_W fs t.u
 have h2 := u_wt t
 have h3 : tagsB (others fs t.u) ≤ 13 * tagsW (unknown fs t.u) := by
  have gen : ∀ l : List (Nat × List UInt8), (∀ kv ∈ l, kv.1 < 4294967296) → tagsB (l.map fun kv => (kv.1, whole kv.2)) ≤ 13 * tagsW l := by
   intro l
   induction l with
   | nil => intro _; simp [tagsB]
   | cons a l ih =>
    intro h
    have := ih (fun x hx => h x (by simp [hx]))
    have ha := uvar_le6 a.1 (by have := h a (by simp); omega)
    have hb := uvar_le6 (whole a.2).length (by have := (whole_le a.2).2; omega)
    have hc := (whole_le a.2).1
    simp only [tagsB, tagsW, List.map_cons, List.sum_cons, wTag, List.length_append] at *
    omega
  exact gen _ (fun kv hkv => hok.u kv (unknown_in fs t.u kv hkv))
 omega
theorem things_le (g : Tree → List UInt8) (c : Nat) : ∀ (l : List Tree), (∀ x ∈ l, (g x).length ≤ c * x.wt) → (l.flatMap g).length ≤ c * Tree.wts l
 | [], _ => by simp
 | x :: l, h => by
  have h1 := h x (by simp)
  have h2 := things_le g c l (fun y hy => h y (by simp [hy]))
  simp only [List.flatMap_cons, List.length_append, Tree.wts, Nat.mul_add]; omega
end Go.Proofs.YtlmnaffhadeolaaGreatDoor

namespace Go.Proofs.YtlmnaffhadeolaaGreatDoor
theorem uvar_le1 (n : Nat) : (uvar n).length ≤ n + 1 := by
 induction n using Nat.strongRecOn with
 | _ n ih =>
  rw [uvar]; split
  ·simp
  ·have := ih (n / 128) (by omega)
   simp only [List.length_cons]; omega
theorem uvar_few (a b : Nat) (h : b ≤ 32767) : (uvar (a + b)).length ≤ a + 258 := by
 rw [uvar]; split
 ·simp
 ·have := uvar_le1 ((a + b) / 128)
  simp only [List.length_cons]; omega
def tagsC (l : List (Nat × List UInt8)) : Nat := (l.map fun kv => 1 + (wTag kv.1 kv.2).length).sum
theorem tagsC_eq (l : List (Nat × List UInt8)) : tagsC l = l.length + tagsB l := by
 induction l with
 | nil => rfl
 | cons a l ih => simp only [tagsC, tagsB, List.map_cons, List.sum_cons, List.length_cons] at *; omega
theorem tagsC_append (a b : List (Nat × List UInt8)) : tagsC (a ++ b) = tagsC a + tagsC b := by simp [tagsC]
theorem tagsC_range (g : Nat → List (Nat × List UInt8)) (M : Nat) : ∀ n, (∀ k, tagsC (g k) ≤ M) → tagsC ((List.range n).flatMap g) ≤ n * M
 | 0, _ => by simp [tagsC]
 | n + 1, h => by
  rw [List.range_succ, List.flatMap_append, tagsC_append, Nat.succ_mul]
  have := tagsC_range g M n h
  have := h n
  simp only [List.flatMap_cons, List.flatMap_nil, List.append_nil]; omega
theorem unknown_few (fs : List Fld) (u : List (Nat × List UInt8)) : (unknown fs u).length ≤ 32767 := by
 have put : ∀ (k : Nat) (v : List UInt8) (l : List (Nat × List UInt8)), (putTag k v l).length ≤ l.length + 1 := by
  intro k v l
  induction l with
  | nil => simp [putTag]
  | cons a l ih =>
   simp only [putTag]
   split
   ·simp; omega
   ·split
    ·simp
    ·simp
 have gen : ∀ (l out : List (Nat × List UInt8)), (l.foldl (fun out kv => if kv.1 < known fs then out else putTag kv.1 kv.2 out) out).length ≤ out.length + l.length := by
  intro l
  induction l with
  | nil => intro out; simp
  | cons a l ih =>
   intro out
   have h1 := ih (if a.1 < known fs then out else putTag a.1 a.2 out)
   have h2 : (if a.1 < known fs then out else putTag a.1 a.2 out).length ≤ out.length + 1 := by
    split
    ·omega
    ·exact put _ _ _
   simp only [List.foldl_cons, List.length_cons]; omega
 have h := gen (u.take Most) []
 have hM : (u.take Most).length ≤ 32767 := by rw [List.length_take]; exact Nat.min_le_left _ _
 unfold unknown
 simp only [List.length_nil] at h; omega
theorem others_few (fs : List Fld) (u : List (Nat × List UInt8)) : (others fs u).length ≤ 32767 := by
 simp only [others, List.length_map]; exact unknown_few fs u
theorem part_leF (ver : Int) (flex : Bool) (fs : List Fld) (t : Tree) (M O : Nat) (hF : (wFs ver flex fs 0 t).length ≤ M) (hT : ∀ k, tagsC (wTs ver flex fs 0 k t) ≤ M) (hO : tagsB (others fs t.u) ≤ O) :
  (wPart ver flex fs t).length ≤ (1 + known fs) * M + (bif flex then O + 258 else 0) := by
 unfold wPart asm
 rw [Nat.add_mul]
 cases flex with
 | false => simp only [Bool.false_eq_true, if_false, cond_false]; omega
 | true =>
  simp only [if_true, cond_true, List.length_append, flat_tagsB]
  have h1 := tagsC_range (fun k => wTs ver true fs 0 k t) M (known fs) hT
  have h2 : allTags ver true fs t = (List.range (known fs)).flatMap (fun k => wTs ver true fs 0 k t) ++ others fs t.u := rfl
  rw [h2, tagsB_append, List.length_append]
  have h3 := uvar_few ((List.range (known fs)).flatMap (fun k => wTs ver true fs 0 k t)).length (others fs t.u).length (others_few fs t.u)
  have h4 := tagsC_eq ((List.range (known fs)).flatMap (fun k => wTs ver true fs 0 k t))
  omega
theorem part_le (ver : Int) (flex : Bool) (fs : List Fld) (t : Tree) (M O : Nat) (hF : (wFs ver flex fs 0 t).length ≤ M) (hT : ∀ k, tagsC (wTs ver flex fs 0 k t) ≤ M) (hO : tagsB (others fs t.u) ≤ O) :
  (wPart ver flex fs t).length ≤ (1 + known fs) * M + (O + 258) := Nat.le_trans (part_leF ver flex fs t M O hF hT hO) (by cases flex <;> simp)
def tagged (tag : Int) (n : Nat) : Nat := if tag < 0 then n else n + n + tag.toNat + 3
theorem le_tagged (tag : Int) (n : Nat) : n ≤ tagged tag n := by unfold tagged; split <;> omega
theorem tag_le (k : Nat) (b : List UInt8) (n : Nat) (h : b.length ≤ n) : 1 + (wTag k b).length ≤ n + n + k + 3 := by
 have h1 := uvar_le1 k
 have h2 := uvar_le1 b.length
 simp only [wTag, List.length_append]; omega
def oF (fl : Bool) : Nat := bif fl then 1074069751 else 0
mutual
def Fld.most (fl : Bool) : Fld → Nat
 | .mk kind _ _ _ _ _ of sub =>
  if kind = 11 then 8 + 32767 * (if of = 10 then (1 + known sub) * Fld.mosts fl sub + oF fl else 32783)
  else if kind = 10 then 1 + ((1 + known sub) * Fld.mosts fl sub + oF fl) else 32783
def Fld.mosts (fl : Bool) : List Fld → Nat
 | [] => 0
 | f :: fs => tagged f.tag (f.most fl) + Fld.mosts fl fs
end
theorem wVal_part (flex null : Bool) (p : Tree → List UInt8) (t : Tree) : wVal 10 flex null p t = p t := by simp [wVal]
theorem things_few (l : List Tree) : (things l).length ≤ 32767 := by unfold things Most; rw [List.length_take]; omega
mutual
def Fld.price : Fld → Nat
 | .mk _ _ _ _ _ _ _ sub => ((1 + known sub) * Fld.prices sub + 272) + 24 + 9
def Fld.prices : List Fld → Nat
 | [] => 0
 | f :: fs => tagged f.tag f.price + Fld.prices fs
end
def partPrice (fs : List Fld) : Nat := (1 + known fs) * Fld.prices fs + 272
theorem tagged_mul (tag : Int) (n k w : Nat) (ht : tag = (k : Int)) (hw : 1 ≤ w) : n * w + n * w + k + 3 ≤ tagged tag n * w := by
 unfold tagged
 rw [if_neg (by omega)]
 have : tag.toNat = k := by omega
 rw [this, Nat.add_mul, Nat.add_mul, Nat.add_mul]
 have : k * 1 ≤ k * w := Nat.mul_le_mul_left _ hw
 omega
mutual
theorem wField_price (ver : Int) (flex : Bool) : ∀ (f : Fld) (t : Tree), t.ok → (wField ver flex f t).length ≤ f.price * t.wt
 | .mk kind fr upto nul tag df of sub, t, ht => by
  have hw := t.wt_pos
  have hp : ∀ x : Tree, x.ok → (wPart ver flex sub x).length ≤ ((1 + known sub) * Fld.prices sub + 272) * x.wt := fun x hx => by
   have hx1 := x.wt_pos
   have := part_le ver flex sub x (Fld.prices sub * x.wt) (14 * x.wt) (wFs_price ver flex sub 0 x hx) (fun k => wTs_price ver flex sub 0 k x hx) (others_le sub x hx)
   rw [Nat.add_mul, Nat.mul_assoc]
   omega
  rw [wField_mk ver flex kind fr upto nul tag df of sub t _ rfl]
  simp only [Fld.price]
  generalize (1 + known sub) * Fld.prices sub + 272 = c at hp ⊢
  have hc : (c + 24 + 9) * t.wt = (c + 24) * t.wt + 9 * t.wt := Nat.add_mul _ _ _
  by_cases h11 : kind = 11
  ·simp only [h11, if_true]
   generalize (t.nul && decide (0 ≤ nul) && decide (nul ≤ ver)) = null
   have hlen : (if null then ([] : List Tree) else things t.l).length ≤ 32767 := by
    cases null
    ·exact things_few t.l
    ·simp
   have hmem : ∀ x ∈ (if null then ([] : List Tree) else things t.l), x.ok := by
    intro x hx
    cases null
    ·exact ht.l x (List.mem_of_mem_take hx)
    ·simp at hx
   have hwt : Tree.wts (if null then ([] : List Tree) else things t.l) ≤ t.wt := by
    have := l_wt t
    have := wts_take t.l Most
    cases null
    ·show Tree.wts (t.l.take Most) ≤ _; omega
    ·simp [Tree.wts]
   have h8 := counted_le flex null (if null then ([] : List Tree) else things t.l).length 4 (by omega) (by omega)
   rw [List.length_append]
   have h9 := things_le (wVal of flex false (wPart ver flex sub)) (c + 24) (if null then ([] : List Tree) else things t.l) (fun x hx => wVal_le of flex false _ x c (hp x (hmem x hx)))
   have h10 : (c + 24) * Tree.wts (if null then ([] : List Tree) else things t.l) ≤ (c + 24) * t.wt := Nat.mul_le_mul_left _ hwt
   omega
  ·simp only [h11, if_false]
   by_cases h10 : kind = 10
   ·simp only [h10, true_and]
    have h1 := hp t ht
    have h2 : c * t.wt ≤ (c + 24) * t.wt := Nat.mul_le_mul_right _ (by omega)
    split
    ·split
     ·rw [be_len]; omega
     ·rw [List.length_append, be_len]; omega
    ·rw [wVal_part]; omega
   ·simp only [h10, false_and, if_false]
    have := wVal_le kind flex (t.nul && decide (0 ≤ nul) && decide (nul ≤ ver)) (wPart ver flex sub) t c (hp t ht)
    omega
theorem wFs_price (ver : Int) (flex : Bool) : ∀ (fs : List Fld) (i : Nat) (t : Tree), t.ok → (wFs ver flex fs i t).length ≤ Fld.prices fs * t.wt
 | [], _, _, _ => by simp [wFs]
 | f :: fs, i, t, ht => by
  have h1 := wField_price ver flex f (att t i) (ht.at i)
  have h2 := wFs_price ver flex fs (i + 1) t ht
  have h3 : f.price * (att t i).wt ≤ tagged f.tag f.price * t.wt := Nat.mul_le_mul (le_tagged _ _) (att_wt t i)
  simp only [wFs, Fld.prices, List.length_append, Nat.add_mul]
  split
  ·omega
  ·simp only [List.length_nil]; omega
theorem wTs_price (ver : Int) (flex : Bool) : ∀ (fs : List Fld) (i k : Nat) (t : Tree), t.ok → tagsC (wTs ver flex fs i k t) ≤ Fld.prices fs * t.wt
 | [], _, _, _, _ => by simp [wTs, tagsC]
 | f :: fs, i, k, t, ht => by
  have h1 := wField_price ver flex f (att t i) (ht.at i)
  have h2 := wTs_price ver flex fs (i + 1) k t ht
  simp only [wTs, Fld.prices, tagsC_append, Nat.add_mul]
  split
  ·rename_i h
   have h0 : f.price * (att t i).wt ≤ f.price * t.wt := Nat.mul_le_mul_left _ (att_wt t i)
   have h3 := tag_le k (wField ver flex f (att t i)) (f.price * t.wt) (by omega)
   have h4 := tagged_mul f.tag f.price k t.wt h.1 t.wt_pos
   simp only [tagsC, List.map_cons, List.map_nil, List.sum_cons, List.sum_nil] at h2 ⊢; omega
  ·have : tagsC ([] : List (Nat × List UInt8)) = 0 := rfl
   omega
end
theorem wPart_price (ver : Int) (flex : Bool) (fs : List Fld) (t : Tree) (ht : t.ok) : (wPart ver flex fs t).length ≤ partPrice fs * t.wt := by
 have hx1 := t.wt_pos
 have := part_le ver flex fs t (Fld.prices fs * t.wt) (14 * t.wt) (wFs_price ver flex fs 0 t ht) (fun k => wTs_price ver flex fs 0 k t ht) (others_le fs t ht)
 unfold partPrice
 rw [Nat.add_mul, Nat.mul_assoc]
 omega
end Go.Proofs.YtlmnaffhadeolaaGreatDoor

namespace Go.Proofs.YtlmnaffhadeolaaGreatDoor
open Go Go.RowKit
section
set_option maxRecDepth 100000
theorem fn_fits3 (kv : Nat × List UInt8) (B : Nat) (w : World) (ts : List Value) (ht : Rep (Lo B) w (tagD kv) ts) : Fn 62 [.agg ts.toArray] w fun v _ => ∃ b : Bool, v = .bool b := by
 obtain ⟨sv, rfl, hs⟩ := tag_cells ht
 obtain ⟨sa, sc, rfl, _⟩ := hs.shape
 refine enter Tryz.func62 rfl Tryz.ntmps62 rfl ?_
 repeat (with_reducible first|apply wc_seq|apply wc_region)
 refine wl_box1 rfl rfl rfl (fun w1 hb1 hg1 hs1 => ?_)
 have hw1 : Below w.heap.size w w1 := below_of hg1 (Nat.le_refl _) (by simp)
 repeat first|(with_reducible first|apply wc_seq|apply wc_region|apply wl_nil|apply qk_thn)|((with_reducible apply ws);exact rfl;exact rfl)
 refine wl_loadB rfl to_bytes rfl hb1 rfl ?_
 repeat first|(with_reducible first|apply wl_nil|apply qk_thn)|((with_reducible apply ws);exact rfl;exact rfl)
 by_cases h : (2147483647 : Int) < ((kv.2.map byteD).length : Int)
 ·refine wc_yes rfl (by simpa using h) ?_
  repeat first|(with_reducible first|apply wc_seq|apply wc_region|apply wl_nil|apply qk_thn|apply wc_ret|apply qk_thn_ret)|((with_reducible apply ws);exact rfl;exact rfl)
  exact qk_ret1 rfl rfl ⟨_, rfl, hw1, _, rfl⟩
 ·refine wc_no rfl (by simpa using h) ?_
  repeat first|(with_reducible first|apply wc_seq|apply wc_region|apply wl_nil|apply qk_thn|apply wc_skip|apply wc_ret)|((with_reducible apply ws);exact rfl;exact rfl)
  exact qk_ret1 rfl rfl ⟨_, rfl, hw1, _, rfl⟩
theorem fn_fits2 (u : List (Nat × List UInt8)) (B : Nat) (w : World) (uv : Value) (hB : B ≤ w.heap.size) (hu : Sq B w uv (u.map tagD)) : Fn 28 [uv] w fun v _ => ∃ b : Bool, v = .bool b := by
 obtain ⟨ua, uc, rfl, _⟩ := hu.shape
 refine enter Tryz.func28 rfl Tryz.ntmps28 rfl ?_
 repeat first|(with_reducible first|apply wc_seq|apply wc_region|apply wl_nil|apply qk_thn)|((with_reducible apply ws);exact rfl;exact rfl)
 by_cases h : (2147483647 : Int) < ((u.map tagD).length : Int)
 ·refine wc_yes rfl (by simpa using h) ?_
  repeat first|(with_reducible first|apply wc_seq|apply wc_region|apply wl_nil|apply qk_thn|apply wc_ret|apply qk_thn_ret)|((with_reducible apply ws);exact rfl;exact rfl)
  exact qk_ret1 rfl rfl ⟨_, rfl, Below.refl _ _, _, rfl⟩
 ·refine wc_no rfl (by simpa using h) ?_
  repeat first|(with_reducible first|apply wc_seq|apply wc_region|apply wl_nil|apply qk_thn|apply wc_block|apply wc_skip)|((with_reducible apply ws);exact rfl;exact rfl)
  rw [List.length_map] at *
  refine wc_loop (α := Nat) (fun i => [(10, .int .i64 (i : Int)), (9, .int .i64 (u.length : Int)), (8, .slice ua u.length uc)]) (fun i w' => i ≤ u.length ∧ Below w.heap.size w w') (fun i => u.length - i) 0 ⟨rfl, rfl, rfl, trivial⟩ ⟨Nat.zero_le _, Below.refl _ _⟩ ?_
  rintro i w1 ⟨hi, hw1⟩
  repeat first|(with_reducible first|apply wc_seq|apply wc_region|apply wl_nil|apply qk_thn)|((with_reducible apply ws);exact rfl;exact rfl)
  by_cases hlt : i < u.length
  ·refine wc_yes rfl (by simpa using hlt) ?_
   obtain ⟨b, off, c', cs, hv, hbB, hcs, hlen, hr⟩ := (hu.below (hw1.mono hB) (Nat.le_refl _)).get (sz := 2) (i := i) (by intro d hd; obtain ⟨x, _, rfl⟩ := List.mem_map.1 hd; exact tagD_width x) (by simpa using hlt)
   simp only [Value.slice.injEq, List.length_map] at hv
   obtain ⟨rfl, _, rfl⟩ := hv
   simp only [List.getElem_map] at hr
   obtain ⟨hcone, _⟩ := tag_one hr
   repeat (with_reducible first|apply wc_seq|apply wc_region|apply qk_thn|apply wc_block|apply wc_skip)
   refine wl_indexAddr rfl rfl es_tags rfl hlt ?_
   refine wl_loadAgg rfl (by rw [hlen]; exact ta_tag) rfl (fun j v e => hcs.cell e) ?_
   refine wl_alloc zv_tag rfl rfl (fun w8 hb8 hg8 hs8 => ?_)
   refine wl_storeBAgg rfl rfl rfl (by rw [hlen]; exact tz_tag) hcone hb8 (by rw [hlen]; rfl) (fun w9 hb9 hg9 hs9 => ?_)
   have hs1 := hw1.size
   have hw19 : Below w1.heap.size w1 w9 := (below_of hg8 (Nat.le_refl _) (by simp)).trans (below_of hg9 (by omega) (by intro k hk; simp at hk; omega))
   have hs19 := hw19.size
   repeat (with_reducible first|apply wc_seq|apply wc_region|apply wl_nil|apply qk_thn)
   refine wl_loadBAgg rfl (by rw [hlen]; exact ta_tag) rfl hb9 ?_
   refine wl_call rfl (by kernel_rfl) rfl ((fn_fits3 u[i] B w9 _ (Rep.below hr (hw19.mono (by omega)) (Nat.le_refl _))).mono ?_)
   rintro e w10 ⟨v, rfl, hw10, q, rfl⟩
   refine ⟨_, rfl, ?_⟩
   repeat first|(with_reducible first|apply wl_nil|apply qk_thn)|((with_reducible apply ws);exact rfl;exact rfl)
   cases q
   ·refine wc_yes rfl rfl ?_
    repeat first|(with_reducible first|apply wc_seq|apply wc_region|apply wl_nil|apply qk_thn|apply wc_ret|apply qk_thn_ret|apply qk_in_ret|apply qk_round_ret)|((with_reducible apply ws);exact rfl;exact rfl)
    exact qk_ret1 rfl rfl ⟨_, rfl, (hw1.trans (hw19.mono hs1)).trans (hw10.mono (by omega)), _, rfl⟩
   ·refine wc_no rfl rfl ?_
    repeat (with_reducible first|apply wc_region|apply qk_thn|apply wc_skip|apply qk_in)
    refine wl_add rfl rfl rfl (r := ((i + 1 : Nat) : Int)) (by rw [IntKind.wrap_i64]; omega) ?_
    repeat first|(with_reducible apply wl_nil)|((with_reducible apply ws);exact rfl;exact rfl)
    exact qk_round (i + 1) ⟨rfl, rfl, rfl, trivial⟩ ⟨by omega, (hw1.trans (hw19.mono hs1)).trans (hw10.mono (by omega))⟩ (by omega)
  ·refine wc_no rfl (by simpa using hlt) ?_
   repeat first|(with_reducible first|apply wc_seq|apply wc_region|apply wl_nil|apply qk_thn|apply wc_ret|apply wc_exit|apply qk_thn_exit|apply qk_in_exit|apply qk_round_exit)|((with_reducible apply ws);exact rfl;exact rfl)
   exact qk_ret1 rfl rfl ⟨_, rfl, hw1, _, rfl⟩
theorem fn_fits1 (t : Tree) (B : Nat) (w : World) (ts : List Value) (hB : B ≤ w.heap.size) (ht : Rep (Lo B) w (treeD t) ts) : Fn 7 [.agg ts.toArray] w fun v _ => ∃ b : Bool, v = .bool b := by
 obtain ⟨sv, lv, uv, rfl, hs, hl, hu⟩ := tree_cells ht
 obtain ⟨la, lc, rfl, _⟩ := hl.shape
 obtain ⟨sa, sc, rfl, _⟩ := hs.shape
 refine enter Tryz.func7 rfl Tryz.ntmps7 rfl ?_
 repeat (with_reducible first|apply wc_seq|apply wc_region)
 refine wl_box1 rfl rfl rfl (fun w1 hb1 hg1 hs1 => ?_)
 have hw1 : Below w.heap.size w w1 := below_of hg1 (Nat.le_refl _) (by simp)
 repeat first|(with_reducible first|apply wc_seq|apply wc_region|apply wl_nil|apply qk_thn)|((with_reducible apply ws);exact rfl;exact rfl)
 refine wl_loadB rfl to_bytes rfl hb1 rfl ?_
 repeat first|(with_reducible first|apply wl_nil|apply qk_thn)|((with_reducible apply ws);exact rfl;exact rfl)
 by_cases h : (2147483647 : Int) < ((t.s.map byteD).length : Int)
 ·refine wc_yes rfl (by simpa using h) ?_
  repeat first|(with_reducible first|apply wc_seq|apply wc_region|apply wl_nil|apply qk_thn|apply wc_ret|apply qk_thn_ret)|((with_reducible apply ws);exact rfl;exact rfl)
  exact qk_ret1 rfl rfl ⟨_, rfl, hw1, _, rfl⟩
 ·refine wc_no rfl (by simpa using h) ?_
  repeat first|(with_reducible first|apply wc_seq|apply wc_region|apply qk_thn|apply wc_skip)|((with_reducible apply ws);exact rfl;exact rfl)
  refine wl_loadB rfl to_trees rfl hb1 rfl ?_
  repeat first|(with_reducible first|apply wl_nil|apply qk_thn)|((with_reducible apply ws);exact rfl;exact rfl)
  by_cases h : (2147483647 : Int) < ((t.l.map treeD).length : Int)
  ·refine wc_yes rfl (by simpa using h) ?_
   repeat first|(with_reducible first|apply wc_seq|apply wc_region|apply wl_nil|apply qk_thn|apply wc_ret|apply qk_thn_ret)|((with_reducible apply ws);exact rfl;exact rfl)
   exact qk_ret1 rfl rfl ⟨_, rfl, hw1, _, rfl⟩
  ·refine wc_no rfl (by simpa using h) ?_
   repeat first|(with_reducible first|apply wc_seq|apply wc_region|apply qk_thn|apply wc_skip)|((with_reducible apply ws);exact rfl;exact rfl)
   refine wl_loadB rfl to_tags rfl hb1 rfl ?_
   refine wl_call rfl (by kernel_rfl) rfl ((fn_fits2 t.u B w1 _ (by omega) (hu.below (hw1.mono hB) (Nat.le_refl _))).mono ?_)
   rintro e w2 ⟨v, rfl, hw2, q, rfl⟩
   refine ⟨_, rfl, ?_⟩
   repeat first|(with_reducible first|apply wl_nil|apply qk_thn)|((with_reducible apply ws);exact rfl;exact rfl)
   cases q
   ·refine wc_yes rfl rfl ?_
    repeat first|(with_reducible first|apply wc_seq|apply wc_region|apply wl_nil|apply qk_thn|apply wc_ret|apply qk_thn_ret)|((with_reducible apply ws);exact rfl;exact rfl)
    exact qk_ret1 rfl rfl ⟨_, rfl, hw1.trans (hw2.mono (by omega)), _, rfl⟩
   ·refine wc_no rfl rfl ?_
    repeat first|(with_reducible first|apply wc_seq|apply wc_region|apply wl_nil|apply qk_thn|apply wc_skip|apply wc_ret)|((with_reducible apply ws);exact rfl;exact rfl)
    exact qk_ret1 rfl rfl ⟨_, rfl, hw1.trans (hw2.mono (by omega)), _, rfl⟩
theorem fn_write (m : Msg) (hm : fsok m.fields = true) (ver : Int) (t : Tree) (B : Nat) (w : World) (fv : Value) (ts : List Value) (hok : t.ok) (hB : B ≤ w.heap.size) (hf : Sq B w fv (m.fields.map fldD)) (ht : Rep (Lo B) w (treeD t) ts) (hlim : (write m ver t).length ≤ lim) :
  Fn 21 [.agg #[fv, .int .i64 m.flex], .int .i64 ver, .agg ts.toArray] w fun v w' => Own w' w.heap.size 5 v (write m ver t) := by
 obtain ⟨sv, lv, uv, rfl, _, _, _⟩ := tree_cells ht
 obtain ⟨fa, fc, rfl, _⟩ := hf.shape
 refine enter Tryz.func21 rfl Tryz.ntmps21 rfl ?_
 repeat (with_reducible first|apply wc_seq|apply wc_region)
 refine wl_box1 (cs := [.slice fa (m.fields.map fldD).length fc, .int .i64 m.flex]) rfl rfl rfl (fun w1 hb1 hg1 hs1 => wl_box1 rfl rfl rfl (fun w2 hb2 hg2 hs2 => ?_))
 have hb12 := hb1.kept hg2 (by simp)
 have hw2 : Below w.heap.size w w2 := (below_of hg1 (Nat.le_refl _) (by simp)).trans (below_of hg2 (by omega) (by simp))
 have hcall : ∀ flex, m.flexible ver = flex → _ := fun flex hfx => part_ok m.fields hm flex ver t B w2 _ _ hok (by omega) (hf.below (hw2.mono hB) (Nat.le_refl _)) (ht.below (hw2.mono hB) (Nat.le_refl _)) (by rw [← hfx]; exact hlim)
 repeat first|(with_reducible first|apply wc_seq|apply wc_region|apply wl_nil|apply qk_thn)|((with_reducible apply ws);exact rfl;exact rfl)
 refine wl_loadB rfl to_flds rfl hb12 rfl ?_
 repeat ((with_reducible apply ws);exact rfl;exact rfl)
 refine wl_loadB rfl to_int rfl hb12 rfl ?_
 repeat ((with_reducible apply ws);exact rfl;exact rfl)
 by_cases h0 : 0 ≤ m.flex
 ·have e1 : decide (0 ≤ m.flex) = true := by simpa using h0
  rw [e1]
  repeat first|((with_reducible apply ws);exact rfl;exact rfl)|((with_reducible apply wl_yes);exact rfl;exact rfl;exact rfl)
  refine wl_loadB rfl to_int rfl hb12 rfl ?_
  repeat first|((with_reducible apply ws);exact rfl;exact rfl)|((with_reducible apply wl_yes);exact rfl;exact rfl;exact rfl)
  refine wl_loadBAgg (cs := [.int .i64 t.n, sv, .bool t.nul, lv, uv]) rfl ta_tree rfl hb2 ?_
  refine wl_call rfl (by kernel_rfl) rfl ((hcall (decide (m.flex ≤ ver)) (by simp [Msg.flexible, h0])).mono ?_)
  rintro e w3 ⟨v, rfl, hw3, ho⟩
  refine ⟨v, rfl, ?_⟩
  repeat first|(with_reducible first|apply wl_nil|apply qk_thn|apply wc_ret)|((with_reducible apply ws);exact rfl;exact rfl)
  have e2 : m.flexible ver = decide (m.flex ≤ ver) := by simp [Msg.flexible, h0]
  refine qk_ret1 rfl rfl ⟨_, rfl, hw2.trans (hw3.mono (by omega)), ?_⟩
  rw [write, e2]
  exact ho.mono (by omega)
 ·have e1 : decide (0 ≤ m.flex) = false := by simpa using h0
  rw [e1]
  repeat first|((with_reducible apply ws);exact rfl;exact rfl)|((with_reducible apply wl_no);exact rfl;exact rfl;exact rfl;exact rfl)
  refine wl_loadBAgg (cs := [.int .i64 t.n, sv, .bool t.nul, lv, uv]) rfl ta_tree rfl hb2 ?_
  refine wl_call rfl (by kernel_rfl) rfl ((hcall false (by simp [Msg.flexible, h0])).mono ?_)
  rintro e w3 ⟨v, rfl, hw3, ho⟩
  refine ⟨v, rfl, ?_⟩
  repeat first|(with_reducible first|apply wl_nil|apply qk_thn|apply wc_ret)|((with_reducible apply ws);exact rfl;exact rfl)
  have e2 : m.flexible ver = false := by simp [Msg.flexible, h0]
  refine qk_ret1 rfl rfl ⟨_, rfl, hw2.trans (hw3.mono (by omega)), ?_⟩
  rw [write, e2]
  exact ho.mono (by omega)
end
end Go.Proofs.YtlmnaffhadeolaaGreatDoor

namespace Go.Proofs.YtlmnaffhadeolaaGreatDoor
open Go Go.RowKit
theorem fill_many (sz : Nat) : ∀ (css : List (List Value)) (k : Nat) (pre post : List Value), pre.length = k * sz → (∀ cs ∈ css, cs.length = sz) → post.length = css.length * sz →
  Instr.fill (fun i => some (i * sz, sz)) (pre ++ post).toArray ((css.zipIdx k).map fun p => (p.2, Value.agg p.1.toArray)) = some (pre ++ css.flatten).toArray
 | [], k, pre, post, _, _, hl => by
  have : post = [] := List.length_eq_zero_iff.1 (by simpa using hl)
  subst this; simp [Instr.fill]
 | cs :: css, k, pre, post, hp, hc, hl => by
  have hcs := hc cs (by simp)
  simp only [List.length_cons, Nat.succ_mul] at hl
  obtain ⟨a, b, rfl, ha⟩ : ∃ a b, post = a ++ b ∧ a.length = sz := ⟨post.take sz, post.drop sz, (List.take_append_drop _ _).symm, by rw [List.length_take]; omega⟩
  have hb : b.length = css.length * sz := by rw [List.length_append] at hl; omega
  simp only [List.zipIdx_cons, List.map_cons, Instr.fill]
  have h1 : ¬ ((Value.agg cs.toArray).cells.size ≠ sz) := by simp [Value.cells, hcs]
  have h2 : ¬ (k * sz + (Value.agg cs.toArray).cells.size > (pre ++ (a ++ b)).toArray.size) := by simp [Value.cells, hcs, hp, ha]
  simp only [h1, h2, decide_false, Bool.or_false, Bool.false_eq_true, if_false]
  have hf := fold_sets (k * sz) cs 0 pre a (by simpa using hp) (by rw [ha, hcs])
  have hf2 : ((Value.agg cs.toArray).cells.zipIdx.foldl (fun cs p => cs.setIfInBounds (k * sz + p.2) p.1) (pre ++ (a ++ b)).toArray) = (pre ++ cs ++ b).toArray := by
   have hz : cs.toArray.zipIdx = (cs.zipIdx).toArray := by apply Array.ext'; simp
   simp only [Value.cells]
   rw [hz]
   simp only [List.foldl_toArray]
   have gen : ∀ (l : List Value) (j : Nat) (p q r : List Value), p.length = k * sz + j → q.length = l.length →
     (l.zipIdx j).foldl (fun cs p => cs.setIfInBounds (k * sz + p.2) p.1) (p ++ (q ++ r)).toArray = (p ++ (l ++ r)).toArray := by
    intro l
    induction l with
    | nil => intro j p q r _ hq; have : q = [] := List.length_eq_zero_iff.1 (by simpa using hq); subst this; rfl
    | cons v l ih =>
     intro j p q r hp hq
     cases q with
     | nil => cases hq
     | cons x q =>
      simp only [List.zipIdx_cons, List.foldl_cons]
      have hset : (p ++ (x :: q ++ r)).toArray.setIfInBounds (k * sz + j) v = ((p ++ [v]) ++ (q ++ r)).toArray := by
       rw [List.setIfInBounds_toArray, ← hp]; simp
      rw [hset, ih (j + 1) (p ++ [v]) q r (by simp [hp]; omega) (by simpa using hq)]
      simp
   have := gen cs 0 pre a b (by simpa using hp) (by rw [ha, hcs])
   simpa [List.append_assoc] using this
  rw [hf2]
  have ih := fill_many sz css (k + 1) (pre ++ cs) b (by simp [hp, hcs, Nat.succ_mul]) (fun c h => hc c (by simp [h])) hb
  rw [ih]
  simp
section
variable {P : Program} {ops : Array Oper} {Q : Exit → Act → World → Prop} {N : Nat} {rest : List Oper} {L : Sl} {w : World} {d : Nat} {ty : TypeId} {pos : String} {aft : Array Edge}
theorem wl_sliceN {t e sz n : Nat} {ps : List (Nat × Operand)} {vs : List Value} (css : List (List Value)) (hT : rowTy P t e sz = true) (hps : evp L 0 ps = some vs) (hvs : vs = css.map fun cs => Value.agg cs.toArray) (hlen : ∀ cs ∈ css, cs.length = sz) (hn : n = css.length) (hsz : (Nat.blt 0 sz && Nat.ble (n * sz) 16777216 && Nat.blt 0 n) = true) (hd : Nat.blt d N = true)
  (h : ∀ w', Box w' w.heap.size css.flatten e → w.grownBy w' none → w'.heap.size = w.heap.size + 1 → WL rest P ops Q N ((d, .slice (some ⟨w.heap.size, 0, none⟩) n n) :: L) w') :
  WL (⟨some d, .buildSlice t n ps.toArray, ty, pos, aft, none⟩ :: rest) P ops Q N L w := by
 intro a k
 obtain ⟨hu, i, z, hi, hs1, hb1, hz, hzc⟩ := rowTy_out hT
 simp only [Bool.and_eq_true] at hsz
 have hsz1 : 0 < sz := Nat.le_of_ble_eq_true hsz.1.1
 have hsz2 := Nat.le_of_ble_eq_true hsz.1.2
 have hn0 : 0 < n := Nat.le_of_ble_eq_true hsz.2
 refine st_of (o := ⟨some d, .buildSlice t n ps.toArray, ty, pos, aft, none⟩) (v := .slice (some ⟨w.heap.size, 0, none⟩) n n) (w' := w.alloc (.cells css.flatten.toArray e)) rfl ?_ (h _ (box_alloc w _ e) (grown_alloc w _) (by simp) _ (k.put _ hd))
 have hparts := evp_spec k ps 0 _ hps
 have hm : (ps.toArray.map fun x => (x.1, a.eval x.2)).toList = (css.zipIdx 0).map fun p => (p.2, Value.agg p.1.toArray) := by
  rw [hvs] at hparts
  have e1 : (ps.toArray.map fun x => (x.1, a.eval x.2)).toList = ps.map fun p => (p.1, a.eval p.2) := by simp
  rw [e1, hparts]
  rw [List.zipIdx_map, List.map_map]
  rfl
 have hfill := fill_many sz css 0 [] ((List.range (n * sz)).map (z.cells[· % z.cells.size]!)) (by simp) hlen (by simp [hn])
 simp only [List.nil_append] at hfill
 have hmul : 0 < n * sz := Nat.mul_pos hn0 hsz1
 simp only [execOp, Instr.buildSlice]
 simp only [Sem.run_bind, run_underlying hu, Result.andThen_ok, sizeOf, typeInfo, run_program, hi, Sem.run_pure, hs1]
 rw [show ((2 : Nat) ^ 24) = 16777216 from rfl, if_neg (by omega), if_neg (by omega)]
 simp only [zeroValue, typeInfo, Sem.run_bind, run_program, Result.andThen_ok, hi, Sem.run_pure, hz]
 rw [hm, ← List.toArray_range, List.map_toArray, hfill]
 simp [newRow]
end
end Go.Proofs.YtlmnaffhadeolaaGreatDoor

namespace Go.Proofs.YtlmnaffhadeolaaGreatDoor.Rdk
open Go Go.RowKit
set_option maxRecDepth 100000
def TInv (st : Option (List UInt8)) (j : Nat) (u : List (Nat × List UInt8)) (st' : Option (List UInt8)) : Prop := match st with
 | none => st' = none
 | some s => match st' with
  | some s' => tagsP s = tagsR j u s'
  | none => tagsP s = none
theorem tinv_start {st st1 : Option (List UInt8)} {n : Nat} (h : UvRel st n st1) : TInv st n [] st1 := by
 have h2 := h.2
 cases st with
 | none => exact h2
 | some s =>
  simp only [TInv, tagsP] at h2 ⊢
  cases hx : uvarP s with
  | none => rw [hx] at h2; simp only [] at h2; subst h2; rfl
  | some x => rw [hx] at h2; obtain ⟨rfl, rfl⟩ := h2; rfl
theorem tinv_step {st s1 s2 s3 s4 : Option (List UInt8)} {j k l : Nat} {u : List (Nat × List UInt8)} {bs : List UInt8} (h : TInv st (j + 1) u s1) (h1 : UvRel s1 k s2) (h2 : UvRel s2 l s3) (h3 : SpanRel l s3 bs s4) : TInv st j (setTag k bs u) s4 := by
 have e1 := h1.2
 have e2 := h2.2
 cases st with
 | none =>
  simp only [TInv] at h ⊢
  subst h
  simp only [] at e1
  subst e1
  simp only [] at e2
  subst e2
  exact h3
 | some s =>
  cases s1 with
  | none =>
   simp only [TInv] at h
   simp only [] at e1
   subst e1
   simp only [] at e2
   subst e2
   have h4 : s4 = none := h3
   subst h4
   exact h
  | some t1 =>
   simp only [TInv, tagsR] at h
   simp only [] at e1
   cases hx : uvarP t1 with
   | none =>
    rw [hx] at h e1
    simp only [] at e1
    subst e1
    simp only [] at e2
    subst e2
    have h4 : s4 = none := h3
    subst h4
    exact h
   | some x =>
    rw [hx] at h e1
    obtain ⟨rfl, rfl⟩ := e1
    simp only [Option.bind_some] at h e2
    cases hy : uvarP x.2 with
    | none =>
     rw [hy] at h e2
     simp only [] at e2
     subst e2
     have h4 : s4 = none := h3
     subst h4
     exact h
    | some y =>
     rw [hy] at h e2
     obtain ⟨rfl, rfl⟩ := e2
     simp only [Option.bind_some] at h
     simp only [SpanRel, spanP] at h3
     rw [if_neg (by omega), Int.toNat_natCast] at h3
     cases hz : takeN y.1 y.2 with
     | none => rw [hz] at h h3; simp only [] at h3; subst h3; exact h
     | some z => rw [hz] at h h3; obtain ⟨rfl, rfl⟩ := h3; exact h
theorem tinv_end {st st' : Option (List UInt8)} {u : List (Nat × List UInt8)} (h : TInv st 0 u st') : TagRel st u st' := by
 unfold TagRel
 cases st with
 | none => exact h
 | some s =>
  cases st' with
  | none => simp only [TInv] at h; simp only [h]
  | some s' => simp only [TInv, tagsR] at h; simp only [h, and_self]
theorem chg_cut {w w' : World} {rb : Nat} (h : Chg (fun j => j = rb ∨ w.heap.size ≤ j) w w') : Chg (· = rb) w w' := ⟨h.os, h.tape, h.output, h.size, fun k hk hn => h.block k hk (by rintro (e | e); exact hn e; omega)⟩
theorem fn_tags (w : World) (rb sb lo : Nat) (st : Option (List UInt8)) (hr : Rdr w rb sb st) (h1 : rb < lo) (h2 : sb < lo) (h3 : lo ≤ w.heap.size) (h4 : rb ≠ sb) :
  Calls Tryz.prog 115 #[.pointer (some ⟨rb, 0, none⟩)] w fun e w' => ∃ m u st', e = .returned (.agg #[m]) ∧ Chg (· = rb) w w' ∧ Rdr w' rb sb st' ∧ m.oneCell' = true ∧ Rep (Dk sb lo w') w' (tagsK u) [m] ∧ TagRel st u st' := by
 refine enter Tryz.func115 rfl Tryz.ntmps115 rfl ?_
 refine wc_seq (wc_region (wl_alloc zv_tags rfl rfl (fun w1 hb1 hg1 hs1 => wl_nil (qk_thn ?_))))
 refine wc_seq (wc_region (wl_alloc zv_tags rfl rfl (fun w2 hb2 hg2 hs2 => wl_nil (qk_thn ?_))))
 have c1 : Chg (fun _ => False) w w1 := Chg.grown0 hg1
 have c2 : Chg (fun _ => False) w1 w2 := Chg.grown0 hg2
 have hb1' := hb1.chg c2 id
 have hr2 := (hr.chg c1 id id).chg c2 id id
 obtain ⟨B, hB⟩ : ∃ B, B = w.heap.size := ⟨_, rfl⟩
 rw [← hB] at hs1 hb1' h3
 rw [hs1] at hb2
 rw [hs1] at hs2
 refine wc_seq (wc_seq (wc_region ?_))
 refine wt rfl rfl ?_
 refine wl_call rfl (by kernel_rfl) rfl ((fn_ruv w2 rb sb st hr2 h4).mono ?_)
 rintro en w3 ⟨n, st1, rfl, hc3, hr3, hrel⟩
 refine ⟨_, rfl, ?_⟩
 refine wt rfl rfl ?_
 refine wl_nil (qk_thn ?_)
 have hrb1 : ¬ (fun j => j = rb) B := fun e => by have : B = rb := e; omega
 have hrb2 : ¬ (fun j => j = rb) (B + 1) := fun e => by have : B + 1 = rb := e; omega
 have hs3 := hc3.size
 have c03 : Chg (fun j => j = rb ∨ B ≤ j) w w3 := ((c1.trans c2).wide (fun _ h => h.elim)).trans (hc3.wide (fun j hj => .inl hj))
 refine wc_block (wc_loop (α := Nat) (fun j => [(0, .pointer (some ⟨rb, 0, none⟩)), (2, .pointer (some ⟨B, 0, none⟩)), (3, .pointer (some ⟨B + 1, 0, none⟩)), (4, .int .u32 (j : Int))])
  (fun j w' => ∃ st' u m, j < 4294967296 ∧ Chg (fun j => j = rb ∨ B ≤ j) w w' ∧ Rdr w' rb sb st' ∧ Box w' B [.map none] 63 ∧ Box w' (B + 1) [m] 63 ∧ TagsAt w' sb (B + 2) m u ∧ TInv st j u st') (fun j => j) n
  ⟨rfl, by subst hB; rfl, by rw [← hs1]; rfl, rfl, trivial⟩ ⟨st1, [], .map none, hrel.1, c03, hr3, hb1'.chg hc3 hrb1, hb2.chg hc3 hrb2, .inl ⟨rfl, rfl⟩, tinv_start hrel⟩ ?_)
 rintro j w4 ⟨s1, u, m, hj, hc4, hr4, hbA, hbB, htm, hinv⟩
 have hs4 := hc4.size
 have nrb : ∀ r, B + 2 ≤ r → r < w4.heap.size → ¬ (fun j => j = rb) r := fun r h _ e => by have : r = rb := e; omega
 cases j with
 | zero =>
  refine wc_seq (wc_seq (wc_region ?_))
  refine wt rfl rfl ?_
  refine wt rfl rfl ?_
  refine wl_nil (qk_thn (wc_no rfl (by simp) (wc_exit (qk_thn_exit (qk_round_exit (qk_in_exit (qk_thn ?_)))))))
  refine wc_seq (wc_region ?_)
  refine wl_loadBAgg (cs := [m]) rfl ta_tags rfl hbB ?_
  refine wl_storeBAgg (vs := [m]) rfl rfl rfl tz_tags (by
   rcases htm with ⟨rfl, _⟩ | ⟨r, rfl, _⟩ <;> rfl) hbA rfl (fun w5 hb5 hg5 hs5 => ?_)
  refine wl_nil (qk_thn (wc_ret (qk_retCell (cs := [m]) rfl rfl ta_tags hb5 ?_)))
  have hc5 : Chg (· = B) w4 w5 := Chg.grown hg5
  have n5 : ∀ x : Nat, x < B ∨ B < x → ¬ (fun j => j = B) x := fun x h e => by have : x = B := e; omega
  have htm5 := htm.keep hc5 (fun r h _ => n5 r (by omega)) (n5 sb (by omega)) (by omega)
  refine ⟨m, u, s1, rfl, chg_cut (by rw [← hB]; exact hc4.trans (hc5.wide (fun j hj => .inr (by have : j = B := hj; omega)))), hr4.chg hc5 (n5 rb (by omega)) (n5 sb (by omega)), ?_, ?_, tinv_end hinv⟩
  ·rcases htm with ⟨rfl, _⟩ | ⟨r, rfl, _⟩ <;> rfl
  ·rcases htm5 with ⟨rfl, rfl⟩ | ⟨r, rfl, hlo, ht⟩
   ·exact .inl ⟨rfl, rfl⟩
   ·exact ht.rep (by omega) (by have := hc5.size; omega)
 | succ j =>
  refine wc_seq (wc_seq (wc_region ?_))
  refine wt rfl rfl ?_
  refine wt rfl rfl ?_
  refine wl_nil (qk_thn (wc_yes rfl (by simp) (wc_skip (qk_thn ?_))))
  refine wc_seq (wc_block (wc_seq (wc_region ?_)))
  refine wt rfl rfl ?_
  refine wl_call rfl (by kernel_rfl) rfl ((fn_ruv w4 rb sb s1 hr4 h4).mono ?_)
  rintro en w5 ⟨key, s2, rfl, hc5, hr5, hrel5⟩
  refine ⟨_, rfl, ?_⟩
  refine wt rfl rfl ?_
  refine wl_call rfl (by kernel_rfl) rfl ((fn_ruv w5 rb sb s2 hr5 h4).mono ?_)
  rintro en w6 ⟨len, s3, rfl, hc6, hr6, hrel6⟩
  refine ⟨_, rfl, ?_⟩
  refine wt rfl rfl ?_
  refine wt rfl rfl ?_
  refine wl_nil (qk_thn (wc_region ?_))
  refine wt rfl rfl ?_
  refine wt rfl rfl ?_
  refine wt rfl rfl ?_
  have hlen := hrel6.1
  refine wl_conv .i64 (r := (len : Int)) rfl (by kernel_rfl) (by kernel_rfl) rfl (by rw [IntKind.wrap_i64]; omega) ?_
  refine wl_call rfl (by kernel_rfl) rfl ((fn_span w6 rb sb s3 (len : Int) hr6 h4).mono ?_)
  rintro en w7 ⟨v, bs, s4, rfl, hc7, hr7, hsv, _, hspan⟩
  refine ⟨_, rfl, ?_⟩
  have c47 : Chg (· = rb) w4 w7 := hc5.trans (hc6.trans hc7)
  have hs7 := c47.size
  have nB : ∀ x : Nat, B ≤ x → ¬ (fun j => j = rb) x := fun x h e => by have : x = rb := e; omega
  have hb7 := hbB.chg c47 (nB _ (by omega))
  have ht7 := htm.keep c47 nrb (fun e => h4 e.symm) (by omega)
  have hlt : B + 1 < w7.heap.size := hb7.lt
  refine wl_call rfl (by kernel_rfl) rfl ((fn_set w7 (B + 1) sb (B + 2) key v m u _ bs hb7 ht7 hsv (by omega) (by omega) (by omega) (by omega)).mono ?_)
  rintro en w8 ⟨rfl, m', hb8, ht8, hc8⟩
  refine ⟨_, rfl, ?_⟩
  refine wl_nil (qk_in (qk_thn (wc_region ?_)))
  refine wt rfl rfl ?_
  refine wl_sub' (r := (j : Int)) rfl rfl rfl (by rw [IntKind.wrap_u32]; omega) ?_
  refine wt rfl rfl ?_
  have n8 : ∀ x : Nat, x < B + 1 → ¬ (fun j => j = B + 1 ∨ B + 2 ≤ j) x := fun x h e => by have : x = B + 1 ∨ B + 2 ≤ x := e; omega
  refine wl_nil (qk_round j ⟨rfl, rfl, rfl, rfl, trivial⟩ ⟨s4, setTag key bs u, m', by omega, ?_, hr7.chg hc8 (n8 rb (by omega)) (n8 sb (by omega)), (hbA.chg c47 (nB B (by omega))).chg hc8 (n8 B (by omega)), hb8, ht8, tinv_step hinv hrel5 hrel6 hspan⟩ (by omega))
  exact hc4.trans ((c47.wide (fun j hj => .inl hj)).trans (hc8.wide (fun j hj => .inr (by have : j = B + 1 ∨ B + 2 ≤ j := hj; omega))))
end Go.Proofs.YtlmnaffhadeolaaGreatDoor.Rdk

namespace Go.Proofs.YtlmnaffhadeolaaGreatDoor.Rdk
open Go Go.RowKit
set_option maxRecDepth 100000
theorem uuid_spans {l : Int} {st st' : Option (List UInt8)} {s1 r : List UInt8} (hl : l = 16) (h : SpanRel l st s1 st') (hr : r = s1.take 16 ++ (List.replicate 16 (0 : UInt8)).drop (min s1.length 16)) : r.length = 16 ∧ RdRel .uuid st (r.map byteD) st' := by
 subst hl
 have hlen : r.length = 16 := by
  subst hr
  simp only [List.length_append, List.length_take, List.length_drop, List.length_replicate]
  omega
 refine ⟨hlen, by rw [shDs_bytes, hlen]; rfl, fun d hd => ?_, ?_⟩
 ·obtain ⟨c, _, rfl⟩ := List.mem_map.1 hd
  rfl
 ·unfold SpanRel at h
  cases st with
  | none => exact h
  | some s =>
   simp only [spanP, rdP] at h ⊢
   rw [if_neg (by omega)] at h
   simp only [show (16 : Int).toNat = 16 from rfl] at h
   unfold takeN at h ⊢
   by_cases h16 : 16 ≤ s.length
   ·rw [if_pos h16] at h ⊢
    obtain ⟨h1, h2⟩ := h
    simp only [] at h1 h2
    have e16 : (s.take 16).length = 16 := by rw [List.length_take]; omega
    have hr2 : r = s.take 16 := by
     rw [hr, h2, e16, List.take_of_length_le (by omega)]
     simp
    rw [hr2]
    exact ⟨h1, rfl⟩
   ·rw [if_neg h16] at h ⊢
    exact h
theorem srcv_bytes {w : World} {sb : Nat} {v : Value} {s : List UInt8} (h : SrcV w sb v s) : BytesAt w v s := by
 rcases h with ⟨rfl, rfl⟩ | ⟨o, c, rfl, _, h, _⟩
 ·exact .inl ⟨none, 0, rfl, rfl⟩
 ·exact .inr ⟨_, o, c, rfl, h⟩
theorem rd_Uuid : RdC Tryz.prog 134 .uuid := by
 intro w rb sb lo st hr h1 h2 h3 h4
 have hz : ∀ w : World, (zeroValue 128).run Tryz.prog w = .ok (.agg (bv (List.replicate 16 0)).toArray) w := fun w => by kernel_rfl
 refine enter Tryz.func134 rfl Tryz.ntmps134 rfl ?_
 refine wc_seq (wc_region (wl_alloc (cs := bv (List.replicate 16 0)) hz rfl rfl (fun w1 hb1 g1 z1 => wl_nil (qk_thn ?_))))
 refine wc_seq (wc_region (wl_alloc (cs := bv (List.replicate 16 0)) hz rfl rfl (fun w2 hb2 g2 z2 => wl_nil (qk_thn ?_))))
 have c2 : Chg (fun _ => False) w w2 := (Chg.grown0 g1).trans (Chg.grown0 g2)
 have hb12 : Box w2 w.heap.size (bv (List.replicate 16 0)) 128 := hb1.kept g2 (by simp)
 refine wc_seq (wc_par [(0, .slice (some ⟨w1.heap.size, 0, none⟩) 16 16), (1, .pointer (some ⟨rb, 0, none⟩))] [3, 2] (fun vals w' => Chg (fun j => j = rb ∨ w.heap.size ≤ j) w w' ∧ Box w' w.heap.size (bv (List.replicate 16 0)) 128 ∧ match vals with
   | [] => Rdr w' rb sb st ∧ Box w' w1.heap.size (bv (List.replicate 16 0)) 128
   | [v] => ∃ s1 st', Rdr w' rb sb st' ∧ Box w' w1.heap.size (bv (List.replicate 16 0)) 128 ∧ SrcV w' sb v s1 ∧ SpanRel 16 st s1 st'
   | _ :: _ => ∃ s1 st', Rdr w' rb sb st' ∧ Box w' w1.heap.size (bv (s1.take 16 ++ (List.replicate 16 0).drop (min s1.length 16))) 128 ∧ SpanRel 16 st s1 st')
  mixed rfl rfl rfl rfl rfl (by show ([0,1] : List Nat).Nodup; decide) rfl rfl (by decide) rfl rfl rfl rfl
  ⟨(c2.trans (chg_drew w2 _)).wide (fun _ h => h.elim), hb12.chg (chg_drew w2 (fun _ => False)) id, (hr.chg (c2.trans (chg_drew w2 _)) id id), hb2.chg (chg_drew w2 (fun _ => False)) id⟩ ?_ ⟨?_, ?_, trivial⟩ ?_)
 ·intro p hp vals w' hC a' k
  simp only [List.mem_cons, List.not_mem_nil, or_false] at hp
  rcases hp with rfl | rfl
  ·exact gv rfl rfl (rn_arrSl k rfl (by kernel_rfl))
  ·exact gv rfl rfl (rn_move k rfl)
 ·rintro vals w' hvl ⟨hw', hb', hC⟩ a' k
  match vals, hvl with
  | [v2], _ =>
   obtain ⟨s1, st', hrd, hbx, hsv, hrel⟩ := hC
   refine ⟨_, rfl, does_copyBox k tb_bytes rfl rfl hbx (by simp) (srcv_bytes hsv) (fun w'' hb'' hg'' => ?_)⟩
   have hc := Chg.grown hg''
   exact ⟨hw'.trans (hc.wide (fun j hj => .inr (by omega))), hb'.chg hc (by omega), s1, st', hrd.chg hc (by omega) (by omega), hb'', hrel⟩
 ·rintro vals w' hvl ⟨hw', hb', hC⟩ a' k
  match vals, hvl with
  | [], _ =>
   refine ⟨_, rfl, does_call k rfl (by kernel_rfl) ((fn_span w' rb sb st 16 hC.1 h4).mono ?_)⟩
   rintro e w'' ⟨v, s1, st', rfl, hc, hrd, hsv, _, hrel⟩
   exact ⟨_, rfl, hw'.trans (hc.wide (fun j hj => .inl hj)), hb'.chg hc (by omega), s1, st', hrd, hC.2.chg hc (by omega), hsv, hrel⟩
 ·rintro vals w' hvl ⟨hw', hb', hC⟩
  match vals, hvl with
  | [v3, v2], _ =>
   obtain ⟨s1, st', hrd, hbx, hrel⟩ := hC
   obtain ⟨hlen, hrr⟩ := uuid_spans rfl hrel rfl
   generalize s1.take 16 ++ (List.replicate 16 (0 : UInt8)).drop (min s1.length 16) = r at hbx hlen hrr
   refine qk_thn (wc_seq (wc_region ?_))
   refine wl_loadBAgg rfl (by rw [bv_length, hlen]; kernel_rfl) rfl hbx ?_
   refine wl_storeBAgg (vs := bv r) rfl rfl rfl (by rw [bv_length, hlen]; kernel_rfl) (List.all_eq_true.2 (bv_one r)) hb' (by rw [bv_length, bv_length, hlen]; rfl) (fun w3 hb3 g3 z3 => ?_)
   have hc := Chg.grown g3
   refine wl_nil (qk_thn (wc_ret (qk_retCell rfl rfl (by rw [bv_length, hlen]; kernel_rfl) hb3 ?_)))
   refine ⟨_, _, st', rfl, chg_cut (hw'.trans (hc.wide (fun j hj => .inr (by omega)))), hrd.chg hc (by omega) (by omega), (reps_bytes r _).2 rfl, List.all_eq_true.2 (bv_one r), fun h => by simp [shR] at h, hrr⟩
end Go.Proofs.YtlmnaffhadeolaaGreatDoor.Rdk
