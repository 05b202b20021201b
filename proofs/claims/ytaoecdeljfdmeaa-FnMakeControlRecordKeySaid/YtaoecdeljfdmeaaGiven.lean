/- A tree handed to the thin package says what it said. -/
import Derived.Test.YtaoecdeljfdmeaaFitB
import Derived.Test.YtaoecdeljfdmeaaImpl
namespace Go.Proofs.Ytaoecdeljfdmeaa.Impl
open Go Go.RowKit

def GivenOK (t : Tree) : Prop := ∀ (B : Nat) (w : World) (ts : List Value), t.ok → t.small → B ≤ w.heap.size → Rep (Lo B) w (treeD t) ts →
  Fn 10 [.agg ts.toArray] w fun v w' => ∃ cs : List Value, v = .agg cs.toArray ∧ Rep (In B w.heap.size w') w' (treeD t) cs

section
set_option maxRecDepth 100000
theorem given_of (t : Tree) (hF : ∀ x ∈ t.l, GivenOK x) : GivenOK t := by
  intro B w ts hok hsm hB ht
  obtain ⟨sv, lv, uv, rfl, hs, hl, hu⟩ := tree_cells ht
  obtain ⟨la, lc, rfl, _⟩ := hl.shape
  obtain ⟨sa, sc, rfl, _⟩ := hs.shape
  obtain ⟨ua, uc, rfl, _⟩ := hu.shape
  have hln := hsm.lens
  refine enter Try.func10 rfl Try.ntmps10 rfl ?_
  repeat first|(with_reducible first|apply wc_seq|apply wc_region|apply wl_nil|apply qk_thn|apply wc_block|apply wc_skip|apply wc_ret|apply wc_exit|apply qk_thn_ret|apply qk_in_ret|apply qk_in|apply qk_thn_exit|apply qk_in_exit|apply qk_round_ret|apply qk_round_exit)|((with_reducible apply ws);exact rfl;exact rfl)|((with_reducible apply wl_yes);exact rfl;exact rfl;exact rfl)|((with_reducible apply wl_no);exact rfl;exact rfl;exact rfl;exact rfl)|((with_reducible apply wl_noU);exact rfl;exact rfl;exact rfl)
  refine wl_box1 rfl rfl rfl (fun w1 hb1 hg1 hs1 => wl_alloc zv_tree rfl rfl (fun w2 hb2 hg2 hs2 => ?_))
  have hbt2 : Box w2 w.heap.size [.int .i64 t.n, .slice sa (t.s.map byteD).length sc, .bool t.nul, .slice la (t.l.map treeD).length lc, .slice ua (t.u.map tagD).length uc] 26 := hb1.kept hg2 (by simp)
  have hw2 : Below w.heap.size w w2 := (below_of hg1 (Nat.le_refl _) (by simp)).trans (below_of hg2 (by omega) (by simp))
  refine wl_nil (qk_thn (wc_seq (wc_region ?_)))
  repeat first|((with_reducible apply ws);exact rfl;exact rfl)|((with_reducible apply wl_yes);exact rfl;exact rfl;exact rfl)|((with_reducible apply wl_no);exact rfl;exact rfl;exact rfl;exact rfl)|((with_reducible apply wl_noU);exact rfl;exact rfl;exact rfl)
  refine wl_loadB rfl to_i64 rfl hbt2 rfl ?_
  repeat first|((with_reducible apply ws);exact rfl;exact rfl)|((with_reducible apply wl_yes);exact rfl;exact rfl;exact rfl)|((with_reducible apply wl_no);exact rfl;exact rfl;exact rfl;exact rfl)|((with_reducible apply wl_noU);exact rfl;exact rfl;exact rfl)
  refine wl_loadB rfl to_bytes rfl hbt2 rfl ?_
  repeat first|((with_reducible apply ws);exact rfl;exact rfl)|((with_reducible apply wl_yes);exact rfl;exact rfl;exact rfl)|((with_reducible apply wl_no);exact rfl;exact rfl;exact rfl;exact rfl)|((with_reducible apply wl_noU);exact rfl;exact rfl;exact rfl)
  refine wl_loadB rfl to_bool rfl hbt2 rfl ?_
  refine wl_build rfl (cs := [.int .i64 t.n, .slice sa (t.s.map byteD).length sc, .bool t.nul, .slice none 0 0, .slice none 0 0]) (by kernel_rfl) rfl ?_
  refine wl_alloc zv_tree rfl rfl (fun w3 hb3 hg3 hs3 => ?_)
  refine wl_storeBAgg (vs := [.int .i64 t.n, .slice sa (t.s.map byteD).length sc, .bool t.nul, .slice none 0 0, .slice none 0 0]) rfl rfl rfl tz_tree rfl hb3 rfl (fun w4 hb4 hg4 hs4 => ?_)
  have hbt4 := (hbt2.kept hg3 (by simp)).kept hg4 (by simp; omega)
  have hbz4 := (hb2.kept hg3 (by simp)).kept hg4 (by simp; omega)
  have hw4 : Below w.heap.size w w4 := (hw2.trans (below_of hg3 (by omega) (by simp))).trans (below_of hg4 (by omega) (by intro k hk; simp at hk; omega))
  refine wl_nil (qk_thn ?_)
  refine wc_cut (α := Value) (fun d => [(3, .pointer (some ⟨w2.heap.size, 0, none⟩)), (2, .pointer (some ⟨w1.heap.size, 0, none⟩)), (1, .pointer (some ⟨w.heap.size, 0, none⟩))])
    (fun d w' => Below w.heap.size w w' ∧ w4.heap.size ≤ w'.heap.size ∧ Box w' w.heap.size [.int .i64 t.n, .slice sa (t.s.map byteD).length sc, .bool t.nul, .slice la (t.l.map treeD).length lc, .slice ua (t.u.map tagD).length uc] 26 ∧ Box w' w1.heap.size [.int .i64 0, .slice none 0 0, .bool false, .slice none 0 0, .slice none 0 0] 37 ∧ Box w' w2.heap.size [.int .i64 t.n, .slice sa (t.s.map byteD).length sc, .bool t.nul, d, .slice none 0 0] 37 ∧ RowD B w4.heap.size w2.heap.size 37 5 w' d (t.l.map treeD)) ?_ ?_
  · repeat first|(with_reducible first|apply wc_seq|apply wc_region|apply wl_nil|apply qk_thn|apply wc_block|apply wc_skip|apply wc_ret|apply wc_exit|apply qk_thn_ret|apply qk_in_ret|apply qk_in|apply qk_thn_exit|apply qk_in_exit|apply qk_round_ret|apply qk_round_exit)|((with_reducible apply ws);exact rfl;exact rfl)|((with_reducible apply wl_yes);exact rfl;exact rfl;exact rfl)|((with_reducible apply wl_no);exact rfl;exact rfl;exact rfl;exact rfl)|((with_reducible apply wl_noU);exact rfl;exact rfl;exact rfl)
    refine wl_loadB rfl Go.Proofs.Ytaoecdeljfdmeaa.to_trees rfl hbt4 rfl ?_
    repeat first|(with_reducible first|apply wc_seq|apply wc_region|apply wl_nil|apply qk_thn|apply wc_block|apply wc_skip|apply wc_ret|apply wc_exit|apply qk_thn_ret|apply qk_in_ret|apply qk_in|apply qk_thn_exit|apply qk_in_exit|apply qk_round_ret|apply qk_round_exit)|((with_reducible apply ws);exact rfl;exact rfl)|((with_reducible apply wl_yes);exact rfl;exact rfl;exact rfl)|((with_reducible apply wl_no);exact rfl;exact rfl;exact rfl;exact rfl)|((with_reducible apply wl_noU);exact rfl;exact rfl;exact rfl)
    refine wc_loop (α := PtS) (fun s => [(18, .int .i64 (s.i : Int)), (17, .int .i64 ((t.l.map treeD).length : Int)), (16, .slice la (t.l.map treeD).length lc), (3, .pointer (some ⟨w2.heap.size, 0, none⟩)), (2, .pointer (some ⟨w1.heap.size, 0, none⟩)), (1, .pointer (some ⟨w.heap.size, 0, none⟩))])
      (fun s w' => s.i ≤ t.l.length ∧ Below w.heap.size w w' ∧ w4.heap.size ≤ w'.heap.size ∧ Box w' w.heap.size [.int .i64 t.n, .slice sa (t.s.map byteD).length sc, .bool t.nul, .slice la (t.l.map treeD).length lc, .slice ua (t.u.map tagD).length uc] 26 ∧ Box w' w1.heap.size [.int .i64 0, .slice none 0 0, .bool false, .slice none 0 0, .slice none 0 0] 37 ∧ Box w' w2.heap.size [.int .i64 t.n, .slice sa (t.s.map byteD).length sc, .bool t.nul, s.d, .slice none 0 0] 37 ∧ RowD B w4.heap.size w2.heap.size 37 5 w' s.d ((t.l.take s.i).map treeD)) (fun s => t.l.length - s.i) ⟨0, .slice none 0 0, []⟩ ⟨rfl, rfl, rfl, rfl, rfl, rfl, trivial⟩ ⟨Nat.zero_le _, hw4, Nat.le_refl _, hbt4, hbz4, hb4, RowD.nil _ _ _ _ _ _⟩ ?_
    rintro ⟨i, d, _⟩ w12 ⟨hi, hw12, hs1012, hbt12, hbr12, hbq12, hrd12⟩
    simp only [] at hi hbq12 hrd12
    change WC _ _ _ _ [(18, .int .i64 (i : Int)), (17, .int .i64 ((t.l.map treeD).length : Int)), (16, .slice la (t.l.map treeD).length lc), (3, .pointer (some ⟨w2.heap.size, 0, none⟩)), (2, .pointer (some ⟨w1.heap.size, 0, none⟩)), (1, .pointer (some ⟨w.heap.size, 0, none⟩))] _
    repeat first|(with_reducible first|apply wc_seq|apply wc_region|apply wl_nil|apply qk_thn|apply wc_block|apply wc_skip|apply wc_ret|apply wc_exit|apply qk_thn_ret|apply qk_in_ret|apply qk_in|apply qk_thn_exit|apply qk_in_exit|apply qk_round_ret|apply qk_round_exit)|((with_reducible apply ws);exact rfl;exact rfl)|((with_reducible apply wl_yes);exact rfl;exact rfl;exact rfl)|((with_reducible apply wl_no);exact rfl;exact rfl;exact rfl;exact rfl)|((with_reducible apply wl_noU);exact rfl;exact rfl;exact rfl)
    by_cases hlt : i < t.l.length
    · refine wc_yes rfl (by simpa using hlt) ?_
      obtain ⟨b, off, c', cs, hv, hbB, hcs, hlen, hr⟩ := (hl.below (hw12.mono hB) (Nat.le_refl _)).get (sz := 5) (i := i) (by intro d hd; obtain ⟨x, _, rfl⟩ := List.mem_map.1 hd; exact treeD_width x) (by simpa using hlt)
      simp only [Value.slice.injEq, List.length_map] at hv
      obtain ⟨rfl, _, rfl⟩ := hv
      simp only [List.getElem_map] at hr
      obtain ⟨hcone, _⟩ := treeG_one hr
      repeat first|(with_reducible first|apply wc_seq|apply wc_region|apply wl_nil|apply qk_thn|apply wc_block|apply wc_skip|apply wc_ret|apply wc_exit|apply qk_thn_ret|apply qk_in_ret|apply qk_in|apply qk_thn_exit|apply qk_in_exit|apply qk_round_ret|apply qk_round_exit)|((with_reducible apply ws);exact rfl;exact rfl)|((with_reducible apply wl_yes);exact rfl;exact rfl;exact rfl)|((with_reducible apply wl_no);exact rfl;exact rfl;exact rfl;exact rfl)|((with_reducible apply wl_noU);exact rfl;exact rfl;exact rfl)
      refine wl_indexAddr rfl rfl Go.Proofs.Ytaoecdeljfdmeaa.es_trees rfl (by simpa using hlt) ?_
      refine wl_loadAgg rfl (by rw [hlen]; exact Go.Proofs.Ytaoecdeljfdmeaa.ta_tree) rfl (fun j v e => hcs.cell e) ?_
      refine wl_alloc Go.Proofs.Ytaoecdeljfdmeaa.zv_tree rfl rfl (fun w13 hb13 hg13 hs13 => ?_)
      refine wl_storeBAgg rfl rfl rfl (by rw [hlen]; exact Go.Proofs.Ytaoecdeljfdmeaa.tz_tree) hcone hb13 (by rw [hlen]; rfl) (fun w14 hb14 hg14 hs14 => ?_)
      have hw1214 : Below w12.heap.size w12 w14 := (below_of hg13 (Nat.le_refl _) (by simp)).trans (below_of hg14 (by omega) (by intro k hk; simp at hk; omega))
      have hw14 : Below w.heap.size w w14 := hw12.trans (hw1214.mono (by omega))
      have hrd14 := hrd12.below hw1214
      have hbr14 := hbr12.below hw1214 hbr12.lt
      have hbt14 := hbt12.below hw1214 hbt12.lt
      have hbq14 := hbq12.below hw1214 hbq12.lt
      have hdl : ∀ g, d.ownBlock = some g → w4.heap.size ≤ g ∧ g < w12.heap.size := hrd12.low
      repeat first|(with_reducible first|apply wc_seq|apply wc_region|apply wl_nil|apply qk_thn|apply wc_block|apply wc_skip|apply wc_ret|apply wc_exit|apply qk_thn_ret|apply qk_in_ret|apply qk_in|apply qk_thn_exit|apply qk_in_exit|apply qk_round_ret|apply qk_round_exit)|((with_reducible apply ws);exact rfl;exact rfl)|((with_reducible apply wl_yes);exact rfl;exact rfl;exact rfl)|((with_reducible apply wl_no);exact rfl;exact rfl;exact rfl;exact rfl)|((with_reducible apply wl_noU);exact rfl;exact rfl;exact rfl)
      refine wc_parS [(0, .pointer (some ⟨w2.heap.size, 0 + 3, none⟩)), (1, d), (2, .agg cs.toArray), (6, .pointer (some ⟨w2.heap.size, 0 + 3, none⟩))] [7, 5, 4, 3]
        (fun vals w' => Below w.heap.size w w' ∧ w14.heap.size ≤ w'.heap.size ∧ Box w' w.heap.size [.int .i64 t.n, .slice sa (t.s.map byteD).length sc, .bool t.nul, .slice (some ⟨b, off, none⟩) (t.l.map treeD).length lc, .slice ua (t.u.map tagD).length uc] 26 ∧ Box w' w1.heap.size [.int .i64 0, .slice none 0 0, .bool false, .slice none 0 0, .slice none 0 0] 37 ∧ Box w' w12.heap.size cs 26 ∧ match vals with
          | [] => Below w14.heap.size w14 w'
          | [v] => Below w14.heap.size w14 w' ∧ ∃ xs' : List Value, v = .agg xs'.toArray ∧ Rep (In B w14.heap.size w') w' (treeD t.l[i]) xs'
          | [v, _] => Below w14.heap.size w14 w' ∧ ∃ (b8 : Nat) (xs' : List Value), v = .slice (some ⟨b8, 0, none⟩) 1 1 ∧ Box w' b8 xs' 37 ∧ xs'.length = 5 ∧ (xs'.all fun v => v.oneCell') = true ∧ Rep (In B w14.heap.size w') w' (treeD t.l[i]) xs'
          | [v, _, _] => Box w' w2.heap.size [.int .i64 t.n, .slice sa (t.s.map byteD).length sc, .bool t.nul, d, .slice none 0 0] 37 ∧ RowD B w4.heap.size w2.heap.size 37 5 w' v ((t.l.take (i + 1)).map treeD)
          | _ :: v :: _ => Box w' w2.heap.size [.int .i64 t.n, .slice sa (t.s.map byteD).length sc, .bool t.nul, v, .slice none 0 0] 37 ∧ RowD B w4.heap.size w2.heap.size 37 5 w' v ((t.l.take (i + 1)).map treeD))
        mixed rfl rfl rfl rfl rfl (by show ([0,1,2,6] : List Nat).Nodup; decide) rfl rfl (by decide) rfl rfl rfl rfl ⟨hw14.drew, Nat.le_refl _, hbt14, hbr14, hb14, (Below.refl _ w14).drew⟩ ?_ ⟨?_, ?_, ?_, ?_, trivial⟩ ?_
      · intro p hp vals w' hC hnp a k
        obtain ⟨hC1, hC2, hC3, hC4, hC5, hC6⟩ := hC
        simp only [List.mem_cons, List.not_mem_nil, or_false] at hp
        rcases hp with rfl | rfl | rfl | rfl
        · exact gv rfl rfl (rn_fieldAddr k rfl fo_tree3)
        · have hbx : Box w' w2.heap.size [.int .i64 t.n, .slice sa (t.s.map byteD).length sc, .bool t.nul, d, .slice none 0 0] 37 := by
            match vals, hC6, hnp with
            | [], h, _ => exact hbq14.below h hbq14.lt
            | [_], h, _ => exact hbq14.below h.1 hbq14.lt
            | [_, _], h, _ => exact hbq14.below h.1 hbq14.lt
            | [_, _, _], h, _ => exact h.1
            | _ :: _ :: _ :: _ :: r, _, hnp =>
              have := hnp 7 (by rw [show ([7, 5, 4, 3] : List Nat).length - (_ :: _ :: _ :: _ :: r).length = 0 from by simp only [List.length_cons, List.length_nil]; omega]; simp)
              exact absurd (show true = false from this) (by simp)
          exact gv rfl rfl (rn_load k rfl to_trees (hbx.cell0 (i := 3) rfl))
        · exact gv rfl rfl (rn_loadBAgg k rfl (by rw [hlen]; exact Go.Proofs.Ytaoecdeljfdmeaa.ta_tree) hC5)
        · exact gv rfl rfl (rn_fieldAddr k rfl fo_tree3)
      · rintro vals w' hvl ⟨hC1, hC2, hC3, hC4, hC5, hC6⟩ a k
        match vals, hvl with
        | [v9, v8, v7], _ =>
          obtain ⟨hbx, hrd⟩ := hC6
          obtain ⟨a9, c9, rfl⟩ := hrd.shape
          refine ⟨_, rfl, does_storeB k rfl rfl to_trees rfl hbx rfl (fun w'' hbx'' hg'' hs'' => ⟨hC1.trans (below_of hg'' (by omega) (by intro q hq; simp at hq; omega)), by omega, hC3.kept hg'' (by simp; omega), hC4.kept hg'' (by simp; omega), hC5.kept hg'' (by simp; omega), hbx'', hrd.stored hg''⟩)⟩
      · rintro vals w' hvl ⟨hC1, hC2, hC3, hC4, hC5, hC6⟩ a k
        match vals, hvl with
        | [v8, v7], _ =>
          obtain ⟨hb7', b8, xs', rfl, hb8, hl5, hone'', hrep⟩ := hC6
          have hrdw := hrd14.below hb7'
          obtain ⟨xs0, hrow0, hreps0⟩ := hrdw.row
          refine ⟨_, rfl, does_app1 k rt_trees rfl rfl hb8 hl5 hone'' hrow0 (by omega) (by simp only [List.length_map, List.length_take, many]; omega) (fun d' w'' hrow'' hg'' => ?_)⟩
          have hs'' := hg''.grown.size
          have hne : ∀ q, q < w4.heap.size ∨ w12.heap.size ≤ q → some q ≠ d.ownBlock := fun q hq e => by have := hdl q e.symm; omega
          refine ⟨hC1.trans (hg''.below (by omega) (fun g hg => by have := hdl g hg; omega)), by omega, hC3.kept hg''.grown (hne _ (by omega)), hC4.kept hg''.grown (hne _ (by omega)), hC5.kept hg''.grown (hne _ (by omega)), (hbq14.below hb7' hbq14.lt).kept hg''.grown (hne _ (by omega)), ?_⟩
          have hsn := hrdw.snoc (by omega) (by omega) hreps0 (hrep.off (by omega) ⟨by omega, by omega⟩ (fun g hg => by have := hdl g hg; omega)) hrow'' hg''
          rw [List.take_succ_eq_append_getElem hlt, List.map_append]
          exact hsn
      · rintro vals w' hvl ⟨hC1, hC2, hC3, hC4, hC5, hC6⟩ a k
        match vals, hvl with
        | [v7], _ =>
          obtain ⟨hb7', xs', rfl, hrep⟩ := hC6
          obtain ⟨hone'', hl5⟩ := treeG_one hrep
          have hga := grown_alloc w' (.cells xs'.toArray 37)
          refine ⟨_, rfl, does_slice1 k rt_trees rfl rfl hl5 rfl ⟨hC1.trans (below_of hga (by omega) (by simp)), by simp; omega, hC3.kept hga (by simp), hC4.kept hga (by simp), hC5.kept hga (by simp), hb7'.trans (below_of hga (by omega) (by simp)), _, xs', rfl, box_alloc _ _ _, hl5, hone'', hrep.up (In.up (Nat.le_refl _) (by simp)) (fun r hr => hga.block r hr.2 (by simp))⟩⟩
      · rintro vals w' hvl ⟨hC1, hC2, hC3, hC4, hC5, hC6⟩ a k
        match vals, hvl with
        | [], _ =>
          simp only [] at hC6
          refine ⟨_, rfl, does_call k rfl (by kernel_rfl) ((hF t.l[i] (List.getElem_mem hlt) B w' _ (hok.l _ (List.getElem_mem hlt)) (hsm.l _ (List.getElem_mem hlt)) (by omega) (Rep.below hr ((hw1214.trans (hC6.mono (by omega))).mono (by omega)) (Nat.le_refl _))).mono ?_)⟩
          rintro e w'' ⟨v, rfl, hb'', cs'', rfl, hrep⟩
          exact ⟨_, rfl, hC1.trans (hb''.mono (by omega)), by have := hb''.size; omega, hC3.below hb'' hC3.lt, hC4.below hb'' hC4.lt, hC5.below hb'' hC5.lt, hC6.trans (hb''.mono (by omega)), cs'', rfl, hrep.up (In.up (by omega) (Nat.le_refl _)) (fun _ _ => rfl)⟩
      · rintro vals w' hvl ⟨hC1, hC2, hC3, hC4, hC5, hC6⟩
        match vals, hvl with
        | [v11, v9, v8, v7], _ =>
          refine qk_thn ?_
          repeat first|(with_reducible first|apply wc_seq|apply wc_region|apply wl_nil|apply qk_thn|apply wc_block|apply wc_skip|apply wc_ret|apply wc_exit|apply qk_thn_ret|apply qk_in_ret|apply qk_in|apply qk_thn_exit|apply qk_in_exit|apply qk_round_ret|apply qk_round_exit)|((with_reducible apply ws);exact rfl;exact rfl)|((with_reducible apply wl_yes);exact rfl;exact rfl;exact rfl)|((with_reducible apply wl_no);exact rfl;exact rfl;exact rfl;exact rfl)|((with_reducible apply wl_noU);exact rfl;exact rfl;exact rfl)
          refine wl_add rfl rfl rfl (r := ((i + 1 : Nat) : Int)) (by rw [IntKind.wrap_i64]; omega) ?_
          repeat first|(with_reducible first|apply wc_seq|apply wc_region|apply wl_nil|apply qk_thn|apply wc_block|apply wc_skip|apply wc_ret|apply wc_exit|apply qk_thn_ret|apply qk_in_ret|apply qk_in|apply qk_thn_exit|apply qk_in_exit|apply qk_round_ret|apply qk_round_exit)|((with_reducible apply ws);exact rfl;exact rfl)|((with_reducible apply wl_yes);exact rfl;exact rfl;exact rfl)|((with_reducible apply wl_no);exact rfl;exact rfl;exact rfl;exact rfl)|((with_reducible apply wl_noU);exact rfl;exact rfl;exact rfl)
          exact qk_round ⟨i + 1, v9, []⟩ ⟨rfl, rfl, rfl, rfl, rfl, rfl, trivial⟩ ⟨by simp only []; omega, hC1, by omega, hC3, hC4, hC6.1, hC6.2⟩ (by simp only []; omega)
    · refine wc_no rfl (by simpa using hlt) ?_
      repeat first|(with_reducible first|apply wc_seq|apply wc_region|apply wl_nil|apply qk_thn|apply wc_block|apply wc_skip|apply wc_ret|apply wc_exit|apply qk_thn_ret|apply qk_in_ret|apply qk_in|apply qk_thn_exit|apply qk_in_exit|apply qk_round_ret|apply qk_round_exit)|((with_reducible apply ws);exact rfl;exact rfl)|((with_reducible apply wl_yes);exact rfl;exact rfl;exact rfl)|((with_reducible apply wl_no);exact rfl;exact rfl;exact rfl;exact rfl)|((with_reducible apply wl_noU);exact rfl;exact rfl;exact rfl)
      rw [List.take_of_length_le (by omega)] at hrd12
      exact qk_cut d ⟨rfl, rfl, rfl, trivial⟩ ⟨hw12, hs1012, hbt12, hbr12, hbq12, hrd12⟩
  rintro d w5 ⟨hw5, hs45, hbt5, hbz5, hbo5, hrd5⟩
  have hdone := hrd5.sqb
  obtain ⟨da, dc, rfl⟩ := hrd5.shape
  refine wc_cut (α := Value) (fun e => [(3, .pointer (some ⟨w2.heap.size, 0, none⟩)), (2, .pointer (some ⟨w1.heap.size, 0, none⟩))])
    (fun e w' => Below w.heap.size w w' ∧ w5.grownBy w' (some w2.heap.size) ∧ Box w' w1.heap.size [.int .i64 0, .slice none 0 0, .bool false, .slice none 0 0, .slice none 0 0] 37 ∧ Box w' w2.heap.size [.int .i64 t.n, .slice sa (t.s.map byteD).length sc, .bool t.nul, .slice da (t.l.map treeD).length dc, e] 37 ∧ RowD B w5.heap.size w2.heap.size 57 2 w' e (t.u.map tagD)) ?_ ?_
  · repeat first|(with_reducible first|apply wc_seq|apply wc_region|apply wl_nil|apply qk_thn|apply wc_block|apply wc_skip|apply wc_ret|apply wc_exit|apply qk_thn_ret|apply qk_in_ret|apply qk_in|apply qk_thn_exit|apply qk_in_exit|apply qk_round_ret|apply qk_round_exit)|((with_reducible apply ws);exact rfl;exact rfl)|((with_reducible apply wl_yes);exact rfl;exact rfl;exact rfl)|((with_reducible apply wl_no);exact rfl;exact rfl;exact rfl;exact rfl)|((with_reducible apply wl_noU);exact rfl;exact rfl;exact rfl)
    refine wl_loadB rfl Go.Proofs.Ytaoecdeljfdmeaa.to_tags rfl hbt5 rfl ?_
    rw [show (t.u.map tagD).length = t.u.length from List.length_map ..]
    repeat first|(with_reducible first|apply wc_seq|apply wc_region|apply wl_nil|apply qk_thn|apply wc_block|apply wc_skip|apply wc_ret|apply wc_exit|apply qk_thn_ret|apply qk_in_ret|apply qk_in|apply qk_thn_exit|apply qk_in_exit|apply qk_round_ret|apply qk_round_exit)|((with_reducible apply ws);exact rfl;exact rfl)|((with_reducible apply wl_yes);exact rfl;exact rfl;exact rfl)|((with_reducible apply wl_no);exact rfl;exact rfl;exact rfl;exact rfl)|((with_reducible apply wl_noU);exact rfl;exact rfl;exact rfl)
    refine wc_loop (α := PtS) (fun s => [(33, .int .i64 (s.i : Int)), (32, .int .i64 (t.u.length : Int)), (31, .slice ua t.u.length uc), (3, .pointer (some ⟨w2.heap.size, 0, none⟩)), (2, .pointer (some ⟨w1.heap.size, 0, none⟩)), (1, .pointer (some ⟨w.heap.size, 0, none⟩))])
      (fun s w' => s.i ≤ t.u.length ∧ Below w.heap.size w w' ∧ w5.grownBy w' (some w2.heap.size) ∧ Box w' w1.heap.size [.int .i64 0, .slice none 0 0, .bool false, .slice none 0 0, .slice none 0 0] 37 ∧ Box w' w2.heap.size [.int .i64 t.n, .slice sa (t.s.map byteD).length sc, .bool t.nul, .slice da (t.l.map treeD).length dc, s.d] 37 ∧ RowD B w5.heap.size w2.heap.size 57 2 w' s.d ((t.u.take s.i).map tagD)) (fun s => t.u.length - s.i) ⟨0, .slice none 0 0, []⟩ ⟨rfl, rfl, rfl, rfl, rfl, rfl, trivial⟩ ⟨Nat.zero_le _, hw5, ⟨rfl, rfl, rfl, Nat.le_refl _, fun _ _ _ => rfl⟩, hbz5, hbo5, RowD.nil _ _ _ _ _ _⟩ ?_
    rintro ⟨i, e, _⟩ w7 ⟨hi, hw7, hgb7, hbz7, hbo7, hrd7⟩
    simp only [] at hi hbo7 hrd7
    change WC _ _ _ _ [(33, .int .i64 (i : Int)), (32, .int .i64 (t.u.length : Int)), (31, .slice ua t.u.length uc), (3, .pointer (some ⟨w2.heap.size, 0, none⟩)), (2, .pointer (some ⟨w1.heap.size, 0, none⟩)), (1, .pointer (some ⟨w.heap.size, 0, none⟩))] _
    repeat first|(with_reducible first|apply wc_seq|apply wc_region|apply wl_nil|apply qk_thn|apply wc_block|apply wc_skip|apply wc_ret|apply wc_exit|apply qk_thn_ret|apply qk_in_ret|apply qk_in|apply qk_thn_exit|apply qk_in_exit|apply qk_round_ret|apply qk_round_exit)|((with_reducible apply ws);exact rfl;exact rfl)|((with_reducible apply wl_yes);exact rfl;exact rfl;exact rfl)|((with_reducible apply wl_no);exact rfl;exact rfl;exact rfl;exact rfl)|((with_reducible apply wl_noU);exact rfl;exact rfl;exact rfl)
    by_cases hlt : i < t.u.length
    · refine wc_yes rfl (by simpa using hlt) ?_
      obtain ⟨b, off, c', cs, hv, hbB, hcs, hlen, hr⟩ := (hu.below (hw7.mono hB) (Nat.le_refl _)).get (sz := 2) (i := i) (by intro d hd; obtain ⟨x, _, rfl⟩ := List.mem_map.1 hd; exact tagD_width x) (by simpa using hlt)
      simp only [Value.slice.injEq, List.length_map] at hv
      obtain ⟨rfl, _, rfl⟩ := hv
      simp only [List.getElem_map] at hr
      obtain ⟨hcone, _⟩ := tag_one hr
      obtain ⟨qv, hce, hqv⟩ := tag_cells hr
      subst hce
      obtain ⟨qa, qc, rfl, _⟩ := hqv.shape
      repeat first|(with_reducible first|apply wc_seq|apply wc_region|apply wl_nil|apply qk_thn|apply wc_block|apply wc_skip|apply wc_ret|apply wc_exit|apply qk_thn_ret|apply qk_in_ret|apply qk_in|apply qk_thn_exit|apply qk_in_exit|apply qk_round_ret|apply qk_round_exit)|((with_reducible apply ws);exact rfl;exact rfl)|((with_reducible apply wl_yes);exact rfl;exact rfl;exact rfl)|((with_reducible apply wl_no);exact rfl;exact rfl;exact rfl;exact rfl)|((with_reducible apply wl_noU);exact rfl;exact rfl;exact rfl)
      refine wl_indexAddr rfl rfl es_tags rfl hlt ?_
      refine wl_loadAgg (cs := [.int .u32 (t.u[i].1 : Nat), .slice qa (t.u[i].2.map byteD).length qc]) rfl Go.Proofs.Ytaoecdeljfdmeaa.ta_tag rfl (fun j v e => hcs.cell e) ?_
      refine wl_alloc zv_tag rfl rfl (fun w8 hb8 hg8 hs8 => ?_)
      refine wl_storeBAgg (vs := [.int .u32 (t.u[i].1 : Nat), .slice qa (t.u[i].2.map byteD).length qc]) rfl rfl rfl Go.Proofs.Ytaoecdeljfdmeaa.tz_tag hcone hb8 rfl (fun w9 hb9 hg9 hs9 => ?_)
      have hw79 : Below w7.heap.size w7 w9 := (below_of hg8 (Nat.le_refl _) (by simp)).trans (below_of hg9 (by omega) (by intro k hk; simp at hk; omega))
      have hs57 := hgb7.size
      have hw9 : Below w.heap.size w w9 := hw7.trans (hw79.mono (by omega))
      have hgb9 : w5.grownBy w9 (some w2.heap.size) := grown_but hgb7 (grown_of hw79) (fun g h => by cases h)
      have hbz9 := hbz7.below hw79 hbz7.lt
      have hbo9 := hbo7.below hw79 hbo7.lt
      have hrd9 := hrd7.below hw79
      obtain ⟨ea, ec, hes⟩ := hrd9.shape
      obtain ⟨xs0, hrow0, hreps0⟩ := hrd9.row
      have hel : ∀ g, e.ownBlock = some g → w5.heap.size ≤ g ∧ g < w7.heap.size := hrd7.low
      have hs79 := hw79.size
      repeat first|(with_reducible first|apply wc_seq|apply wc_region|apply wl_nil|apply qk_thn|apply wc_block|apply wc_skip|apply wc_ret|apply wc_exit|apply qk_thn_ret|apply qk_in_ret|apply qk_in|apply qk_thn_exit|apply qk_in_exit|apply qk_round_ret|apply qk_round_exit)|((with_reducible apply ws);exact rfl;exact rfl)|((with_reducible apply wl_yes);exact rfl;exact rfl;exact rfl)|((with_reducible apply wl_no);exact rfl;exact rfl;exact rfl;exact rfl)|((with_reducible apply wl_noU);exact rfl;exact rfl;exact rfl)
      refine wl_loadB rfl to_tags rfl hbo9 rfl ?_
      repeat first|(with_reducible first|apply wc_seq|apply wc_region|apply wl_nil|apply qk_thn|apply wc_block|apply wc_skip|apply wc_ret|apply wc_exit|apply qk_thn_ret|apply qk_in_ret|apply qk_in|apply qk_thn_exit|apply qk_in_exit|apply qk_round_ret|apply qk_round_exit)|((with_reducible apply ws);exact rfl;exact rfl)|((with_reducible apply wl_yes);exact rfl;exact rfl;exact rfl)|((with_reducible apply wl_no);exact rfl;exact rfl;exact rfl;exact rfl)|((with_reducible apply wl_noU);exact rfl;exact rfl;exact rfl)
      refine wl_loadB rfl to_u32 rfl hb9 rfl ?_
      repeat first|(with_reducible first|apply wc_seq|apply wc_region|apply wl_nil|apply qk_thn|apply wc_block|apply wc_skip|apply wc_ret|apply wc_exit|apply qk_thn_ret|apply qk_in_ret|apply qk_in|apply qk_thn_exit|apply qk_in_exit|apply qk_round_ret|apply qk_round_exit)|((with_reducible apply ws);exact rfl;exact rfl)|((with_reducible apply wl_yes);exact rfl;exact rfl;exact rfl)|((with_reducible apply wl_no);exact rfl;exact rfl;exact rfl;exact rfl)|((with_reducible apply wl_noU);exact rfl;exact rfl;exact rfl)
      refine wl_loadB rfl to_bytes rfl hb9 rfl ?_
      refine wl_build rfl (cs := [.int .u32 (t.u[i].1 : Nat), .slice qa (t.u[i].2.map byteD).length qc]) (by kernel_rfl) rfl ?_
      refine wl_app1 (cs := [.int .u32 (t.u[i].1 : Nat), .slice qa (t.u[i].2.map byteD).length qc]) rt_tags rfl rfl rfl hcone rfl rfl rfl rfl hrow0 (by omega) (by simp only [List.length_map, List.length_take, many]; omega) (fun d' w10 hrow10 hg10 => ?_)
      have hs10 := hg10.grown.size
      have hne : ∀ q, q < w5.heap.size ∨ w7.heap.size ≤ q → some q ≠ e.ownBlock := fun q hq h => by have := hel q h.symm; omega
      have hr9 : Rep (Lo B) w9 (tagD t.u[i]) [.int .u32 (t.u[i].1 : Nat), .slice qa (t.u[i].2.map byteD).length qc] := Rep.below hr (hw79.mono (by omega)) (Nat.le_refl _)
      have hsn := hrd9.snoc (by omega) (by omega) hreps0 (hr9.offLo (by omega) (by omega) (fun g hg => by have := hel g hg; omega)) hrow10 hg10
      have hbo10 := hbo9.kept hg10.grown (hne _ (by omega))
      have hbz10 := hbz9.kept hg10.grown (hne _ (by omega))
      obtain ⟨fa, fc, hfs⟩ := hsn.shape
      subst hfs
      repeat first|(with_reducible first|apply wc_seq|apply wc_region|apply wl_nil|apply qk_thn|apply wc_block|apply wc_skip|apply wc_ret|apply wc_exit|apply qk_thn_ret|apply qk_in_ret|apply qk_in|apply qk_thn_exit|apply qk_in_exit|apply qk_round_ret|apply qk_round_exit)|((with_reducible apply ws);exact rfl;exact rfl)|((with_reducible apply wl_yes);exact rfl;exact rfl;exact rfl)|((with_reducible apply wl_no);exact rfl;exact rfl;exact rfl;exact rfl)|((with_reducible apply wl_noU);exact rfl;exact rfl;exact rfl)
      refine wl_storeB rfl rfl to_tags rfl hbo10 rfl (fun w11 hbo11 hg11 hs11 => ?_)
      repeat first|(with_reducible first|apply wc_seq|apply wc_region|apply wl_nil|apply qk_thn|apply wc_block|apply wc_skip|apply wc_ret|apply wc_exit|apply qk_thn_ret|apply qk_in_ret|apply qk_in|apply qk_thn_exit|apply qk_in_exit|apply qk_round_ret|apply qk_round_exit)|((with_reducible apply ws);exact rfl;exact rfl)|((with_reducible apply wl_yes);exact rfl;exact rfl;exact rfl)|((with_reducible apply wl_no);exact rfl;exact rfl;exact rfl;exact rfl)|((with_reducible apply wl_noU);exact rfl;exact rfl;exact rfl)
      refine wl_add rfl rfl rfl (r := ((i + 1 : Nat) : Int)) (by rw [IntKind.wrap_i64]; omega) ?_
      repeat first|(with_reducible first|apply wc_seq|apply wc_region|apply wl_nil|apply qk_thn|apply wc_block|apply wc_skip|apply wc_ret|apply wc_exit|apply qk_thn_ret|apply qk_in_ret|apply qk_in|apply qk_thn_exit|apply qk_in_exit|apply qk_round_ret|apply qk_round_exit)|((with_reducible apply ws);exact rfl;exact rfl)|((with_reducible apply wl_yes);exact rfl;exact rfl;exact rfl)|((with_reducible apply wl_no);exact rfl;exact rfl;exact rfl;exact rfl)|((with_reducible apply wl_noU);exact rfl;exact rfl;exact rfl)
      refine qk_round ⟨i + 1, _, []⟩ ⟨rfl, rfl, rfl, rfl, rfl, rfl, trivial⟩ ⟨by simp only []; omega, (hw9.trans (hg10.below (by omega) (fun g hg => by have := hel g hg; omega))).trans (below_of hg11 (by omega) (by intro q hq; simp at hq; omega)), grown_but (grown_but hgb9 hg10.grown (fun q hq => .inr (by have := hel q hq; omega))) hg11 (fun q hq => .inl (by simpa using hq.symm)), hbz10.kept hg11 (by simp; omega), hbo11, ?_⟩ (by simp only []; omega)
      simp only []
      rw [List.take_succ_eq_append_getElem hlt, List.map_append]
      exact hsn.stored hg11
    · refine wc_no rfl (by simpa using hlt) ?_
      repeat first|(with_reducible first|apply wc_seq|apply wc_region|apply wl_nil|apply qk_thn|apply wc_block|apply wc_skip|apply wc_ret|apply wc_exit|apply qk_thn_ret|apply qk_in_ret|apply qk_in|apply qk_thn_exit|apply qk_in_exit|apply qk_round_ret|apply qk_round_exit)|((with_reducible apply ws);exact rfl;exact rfl)|((with_reducible apply wl_yes);exact rfl;exact rfl;exact rfl)|((with_reducible apply wl_no);exact rfl;exact rfl;exact rfl;exact rfl)|((with_reducible apply wl_noU);exact rfl;exact rfl;exact rfl)
      rw [List.take_of_length_le (by omega)] at hrd7
      exact qk_cut e ⟨rfl, rfl, trivial⟩ ⟨hw7, hgb7, hbz7, hbo7, hrd7⟩
  rintro e w6 ⟨hw6, hgb6, hbz6, hbo6, hrd6⟩
  obtain ⟨ea, ec, hes⟩ := hrd6.shape
  subst hes
  repeat first|(with_reducible first|apply wc_seq|apply wc_region|apply wl_nil|apply qk_thn|apply wc_block|apply wc_skip|apply wc_ret|apply wc_exit|apply qk_thn_ret|apply qk_in_ret|apply qk_in|apply qk_thn_exit|apply qk_in_exit|apply qk_round_ret|apply qk_round_exit)|((with_reducible apply ws);exact rfl;exact rfl)|((with_reducible apply wl_yes);exact rfl;exact rfl;exact rfl)|((with_reducible apply wl_no);exact rfl;exact rfl;exact rfl;exact rfl)|((with_reducible apply wl_noU);exact rfl;exact rfl;exact rfl)
  refine wl_loadBAgg (cs := [.int .i64 t.n, .slice sa (t.s.map byteD).length sc, .bool t.nul, .slice da (t.l.map treeD).length dc, .slice ea (t.u.map tagD).length ec]) rfl ta_tree rfl hbo6 ?_
  refine wl_storeBAgg (vs := [.int .i64 t.n, .slice sa (t.s.map byteD).length sc, .bool t.nul, .slice da (t.l.map treeD).length dc, .slice ea (t.u.map tagD).length ec]) rfl rfl rfl tz_tree rfl hbz6 rfl (fun w7 hbz7 hg7 hs7 => ?_)
  repeat first|(with_reducible first|apply wc_seq|apply wc_region|apply wl_nil|apply qk_thn|apply wc_block|apply wc_skip|apply wc_ret|apply wc_exit|apply qk_thn_ret|apply qk_in_ret|apply qk_in|apply qk_thn_exit|apply qk_in_exit|apply qk_round_ret|apply qk_round_exit)|((with_reducible apply ws);exact rfl;exact rfl)|((with_reducible apply wl_yes);exact rfl;exact rfl;exact rfl)|((with_reducible apply wl_no);exact rfl;exact rfl;exact rfl;exact rfl)|((with_reducible apply wl_noU);exact rfl;exact rfl;exact rfl)
  have hs56 := hgb6.size
  have hw7 := hw6.trans (below_of hg7 (by have := hw6.size; omega) (by intro q hq; simp at hq; omega))
  refine qk_retCell (cs := [.int .i64 t.n, .slice sa (t.s.map byteD).length sc, .bool t.nul, .slice da (t.l.map treeD).length dc, .slice ea (t.u.map tagD).length ec]) rfl rfl ta_tree hbz7 ⟨_, rfl, hw7, _, rfl, ?_⟩
  have hse := hrd6.sqb
  have e0 : t = .mk t.n t.s t.nul t.l t.u := by cases t; rfl
  rw [e0]
  refine rep_tree ((hs.below (hw7.mono hB) (Nat.le_refl _)).up (fun r hr => ⟨.inl hr, by simp only [Lo] at hr; omega⟩) (fun _ _ => rfl)) ?_ ?_
  · refine hdone.up (fun r hr => In.up (by omega) (by omega) r hr.1) (fun r hr => ?_)
    have h1 : r ≠ w1.heap.size := by
      rcases hr.1.1 with h | h <;> omega
    rw [hg7.block r (by have := hr.1.2; omega) (by simp; omega), hgb6.block r hr.1.2 (by simpa using hr.2)]
  · refine hse.up (fun r hr => In.up (by omega) (by omega) r hr.1) (fun r hr => ?_)
    have h1 : r ≠ w1.heap.size := by
      rcases hr.1.1 with h | h <;> omega
    rw [hg7.block r hr.1.2 (by simp; omega)]
end
mutual
theorem given_ok : ∀ t : Tree, GivenOK t
  | .mk _ _ _ l _ => given_of _ (givens_ok l)
theorem givens_ok : ∀ l : List Tree, ∀ x ∈ l, GivenOK x
  | [], x, hx => by cases hx
  | y :: l, x, hx => by
    have hy := given_ok y
    have hl := givens_ok l
    rcases List.mem_cons.1 hx with h0 | h1
    · rw [h0]; exact hy
    · exact hl x h1
end
end Go.Proofs.Ytaoecdeljfdmeaa.Impl
