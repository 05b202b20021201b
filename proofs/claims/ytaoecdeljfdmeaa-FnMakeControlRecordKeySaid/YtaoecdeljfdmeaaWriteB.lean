/- What the reference writes of a field, given what it writes of a value and of a part. -/
import Derived.Test.YtaoecdeljfdmeaaWriteA
namespace Go.Proofs.Ytaoecdeljfdmeaa
open Go Go.RowKit

theorem flatMap_take_le {α β : Type} (g : α → List β) (l : List α) (i : Nat) : ((l.take i).flatMap g).length ≤ (l.flatMap g).length := by
  have : l.flatMap g = (l.take i).flatMap g ++ (l.drop i).flatMap g := by rw [← List.flatMap_append, List.take_append_drop]
  rw [this, List.length_append]; omega
theorem flatMap_take_succ {α β : Type} (g : α → List β) (l : List α) {i : Nat} (hi : i < l.length) : (l.take (i + 1)).flatMap g = (l.take i).flatMap g ++ g l[i] := by
  rw [List.take_succ_eq_append_getElem hi, List.flatMap_append]; simp
structure FdS where
  i : Nat
  d : Value
section
set_option maxRecDepth 100000
/-- The loop over a list's things, and the end behind it. -/
theorem field_of (f : Fld) (hv : ∀ k, ValueOK k f.sub) (hp : PartOK f.sub) : FieldOK f := by
  intro flex ver t B w cs ts hok hB hf ht hlim
  obtain ⟨sv, rfl, hsub⟩ := fld_cells hf
  obtain ⟨sv2, lv, uv, rfl, hs, hl, hu⟩ := tree_cells ht
  obtain ⟨la, lc, rfl, _⟩ := hl.shape
  rw [wField_eq] at hlim ⊢
  refine enter Try.func57 rfl Try.ntmps57 rfl ?_
  repeat first|(with_reducible first|apply wc_seq|apply wc_region|apply wl_nil|apply qk_thn|apply wc_block|apply wc_skip|apply wc_ret|apply wc_exit|apply qk_thn_ret|apply qk_in_ret|apply qk_in|apply qk_thn_exit|apply qk_in_exit|apply qk_round_ret|apply qk_round_exit)|((with_reducible apply ws);exact rfl;exact rfl)|((with_reducible apply wl_yes);exact rfl;exact rfl;exact rfl)|((with_reducible apply wl_no);exact rfl;exact rfl;exact rfl;exact rfl)|((with_reducible apply wl_noU);exact rfl;exact rfl;exact rfl)
  refine wl_box1 rfl rfl rfl (fun w1 hb1 hg1 hs1 => wl_box1 rfl rfl rfl (fun w2 hb2 hg2 hs2 => ?_))
  have hb4 := hb1.kept hg2 (by simp)
  have hw2 : Below w.heap.size w w2 := (below_of hg1 (Nat.le_refl _) (by simp)).trans (below_of hg2 (by omega) (by simp))
  have hB2 : B ≤ w2.heap.size := by omega
  have hbt : ∀ w', Below w2.heap.size w2 w' → Box w' w1.heap.size [.int .i64 t.n, sv2, .bool t.nul, .slice la (t.l.map treeD).length lc, uv] 26 := fun w' h => hb2.below h (by omega)
  have hbf : ∀ w', Below w2.heap.size w2 w' → Box w' w.heap.size [.int .i64 f.kind, .int .i64 f.fr, .int .i64 f.upto, .int .i64 f.nul, .int .i64 f.tag, .int .i64 f.df, .int .i64 f.of, sv] 46 := fun w' h => hb4.below h (by omega)
  repeat first|(with_reducible first|apply wc_seq|apply wc_region|apply wl_nil|apply qk_thn|apply wc_block|apply wc_skip|apply wc_ret|apply wc_exit|apply qk_thn_ret|apply qk_in_ret|apply qk_in|apply qk_thn_exit|apply qk_in_exit|apply qk_round_ret|apply qk_round_exit)|((with_reducible apply ws);exact rfl;exact rfl)|((with_reducible apply wl_yes);exact rfl;exact rfl;exact rfl)|((with_reducible apply wl_no);exact rfl;exact rfl;exact rfl;exact rfl)|((with_reducible apply wl_noU);exact rfl;exact rfl;exact rfl)
  refine wl_loadBAgg (cs := [.int .i64 f.kind, .int .i64 f.fr, .int .i64 f.upto, .int .i64 f.nul, .int .i64 f.tag, .int .i64 f.df, .int .i64 f.of, sv]) rfl ta_fld rfl hb4 ?_
  repeat first|(with_reducible first|apply wc_seq|apply wc_region|apply wl_nil|apply qk_thn|apply wc_block|apply wc_skip|apply wc_ret|apply wc_exit|apply qk_thn_ret|apply qk_in_ret|apply qk_in|apply qk_thn_exit|apply qk_in_exit|apply qk_round_ret|apply qk_round_exit)|((with_reducible apply ws);exact rfl;exact rfl)|((with_reducible apply wl_yes);exact rfl;exact rfl;exact rfl)|((with_reducible apply wl_no);exact rfl;exact rfl;exact rfl;exact rfl)|((with_reducible apply wl_noU);exact rfl;exact rfl;exact rfl)
  refine wl_loadBAgg (cs := [.int .i64 t.n, sv2, .bool t.nul, .slice la (t.l.map treeD).length lc, uv]) rfl ta_tree rfl hb2 ?_
  refine wl_call rfl (by kernel_rfl) rfl ((fn_null f ver t B w2 hB2 _ _ (hf.below (hw2.mono hB) (Nat.le_refl _)) (ht.below (hw2.mono hB) (Nat.le_refl _))).mono ?_)
  rintro e w3 ⟨v, rfl, hw3, rfl⟩
  refine ⟨_, rfl, ?_⟩
  have hB3 : B ≤ w3.heap.size := by have := hw3.size; omega
  have hw03 : Below w.heap.size w w3 := hw2.trans (hw3.mono (by omega))
  repeat first|(with_reducible first|apply wc_seq|apply wc_region|apply wl_nil|apply qk_thn|apply wc_block|apply wc_skip|apply wc_ret|apply wc_exit|apply qk_thn_ret|apply qk_in_ret|apply qk_in|apply qk_thn_exit|apply qk_in_exit|apply qk_round_ret|apply qk_round_exit)|((with_reducible apply ws);exact rfl;exact rfl)|((with_reducible apply wl_yes);exact rfl;exact rfl;exact rfl)|((with_reducible apply wl_no);exact rfl;exact rfl;exact rfl;exact rfl)|((with_reducible apply wl_noU);exact rfl;exact rfl;exact rfl)
  refine wl_loadB rfl to_int rfl (hbf _ hw3) rfl ?_
  repeat first|(with_reducible first|apply wc_seq|apply wc_region|apply wl_nil|apply qk_thn|apply wc_block|apply wc_skip|apply wc_ret|apply wc_exit|apply qk_thn_ret|apply qk_in_ret|apply qk_in|apply qk_thn_exit|apply qk_in_exit|apply qk_round_ret|apply qk_round_exit)|((with_reducible apply ws);exact rfl;exact rfl)|((with_reducible apply wl_yes);exact rfl;exact rfl;exact rfl)|((with_reducible apply wl_no);exact rfl;exact rfl;exact rfl;exact rfl)|((with_reducible apply wl_noU);exact rfl;exact rfl;exact rfl)
  by_cases h11 : f.kind = 11
  · refine wc_yes rfl (by simpa using h11) ?_
    rw [if_pos h11] at hlim ⊢
    repeat first|(with_reducible first|apply wc_seq|apply wc_region|apply wl_nil|apply qk_thn|apply wc_block|apply wc_skip|apply wc_ret|apply wc_exit|apply qk_thn_ret|apply qk_in_ret|apply qk_in|apply qk_thn_exit|apply qk_in_exit|apply qk_round_ret|apply qk_round_exit)|((with_reducible apply ws);exact rfl;exact rfl)|((with_reducible apply wl_yes);exact rfl;exact rfl;exact rfl)|((with_reducible apply wl_no);exact rfl;exact rfl;exact rfl;exact rfl)|((with_reducible apply wl_noU);exact rfl;exact rfl;exact rfl)
    refine wl_loadB rfl to_trees rfl (hbt _ hw3) rfl ?_
    have hl3 : Sq B w3 (.slice la (t.l.map treeD).length lc) (t.l.map treeD) := hl.below (hw03.mono hB) (Nat.le_refl _)
    refine wl_call rfl (by kernel_rfl) rfl ((fn_things _ _ _ _ hl3).mono ?_)
    rintro e w4 ⟨v, rfl, hb4', rfl, hsq⟩
    refine ⟨v, rfl, ?_⟩
    have hsq' : Sq B w4 v ((things t.l).map treeD) := by simpa [things] using hsq
    refine wl_assign rfl rfl (wl_nil (qk_thn ?_))
    -- both ways: a slice that says the list
    refine wc_cut (α := Value) (fun x => [(10, x), (9, .bool (f.null ver t)), (7, .pointer (some ⟨w1.heap.size, 0, none⟩)), (4, .pointer (some ⟨w.heap.size, 0, none⟩)), (2, .bool flex), (1, .int .i64 ver)])
      (fun x w' => w' = w4 ∧ Sq B w4 x ((if f.null ver t then [] else things t.l).map treeD)) ?_ ?_
    · repeat first|(with_reducible first|apply wc_seq|apply wc_region|apply wl_nil|apply qk_thn|apply wc_block|apply wc_skip|apply wc_ret|apply wc_exit|apply qk_thn_ret|apply qk_in_ret|apply qk_in|apply qk_thn_exit|apply qk_in_exit|apply qk_round_ret|apply qk_round_exit)|((with_reducible apply ws);exact rfl;exact rfl)|((with_reducible apply wl_yes);exact rfl;exact rfl;exact rfl)|((with_reducible apply wl_no);exact rfl;exact rfl;exact rfl;exact rfl)|((with_reducible apply wl_noU);exact rfl;exact rfl;exact rfl)
      cases hn : f.null ver t
      · refine wc_no rfl rfl ?_
        repeat first|(with_reducible first|apply wc_seq|apply wc_region|apply wl_nil|apply qk_thn|apply wc_block|apply wc_skip|apply wc_ret|apply wc_exit|apply qk_thn_ret|apply qk_in_ret|apply qk_in|apply qk_thn_exit|apply qk_in_exit|apply qk_round_ret|apply qk_round_exit)|((with_reducible apply ws);exact rfl;exact rfl)|((with_reducible apply wl_yes);exact rfl;exact rfl;exact rfl)|((with_reducible apply wl_no);exact rfl;exact rfl;exact rfl;exact rfl)|((with_reducible apply wl_noU);exact rfl;exact rfl;exact rfl)
        exact qk_cut v ⟨rfl, rfl, rfl, rfl, rfl, rfl, trivial⟩ ⟨rfl, by simpa using hsq'⟩
      · refine wc_yes rfl rfl ?_
        repeat first|(with_reducible first|apply wc_seq|apply wc_region|apply wl_nil|apply qk_thn|apply wc_block|apply wc_skip|apply wc_ret|apply wc_exit|apply qk_thn_ret|apply qk_in_ret|apply qk_in|apply qk_thn_exit|apply qk_in_exit|apply qk_round_ret|apply qk_round_exit)|((with_reducible apply ws);exact rfl;exact rfl)|((with_reducible apply wl_yes);exact rfl;exact rfl;exact rfl)|((with_reducible apply wl_no);exact rfl;exact rfl;exact rfl;exact rfl)|((with_reducible apply wl_noU);exact rfl;exact rfl;exact rfl)
        exact qk_cut (.slice none 0 0) ⟨rfl, rfl, rfl, rfl, rfl, rfl, trivial⟩ ⟨rfl, by simp only [Sq, Rep]; exact ⟨none, 0, rfl, by simp, .inl (by simp)⟩⟩
    rintro x w5 ⟨rfl, hx⟩
    generalize hxl : (if f.null ver t then [] else things t.l) = xs at hx hlim ⊢
    have hxs : ∀ y ∈ xs, y.ok := by
      intro y hy; subst hxl
      split at hy
      · cases hy
      · exact hok.l y (List.mem_of_mem_take hy)
    have hxn : xs.length ≤ 32767 := by
      subst hxl; split
      · simp
      · simp only [things, Most, List.length_take]; omega
    obtain ⟨xa, xc, rfl, _⟩ := hx.shape
    rw [List.length_map] at *
    repeat first|(with_reducible first|apply wc_seq|apply wc_region|apply wl_nil|apply qk_thn|apply wc_block|apply wc_skip|apply wc_ret|apply wc_exit|apply qk_thn_ret|apply qk_in_ret|apply qk_in|apply qk_thn_exit|apply qk_in_exit|apply qk_round_ret|apply qk_round_exit)|((with_reducible apply ws);exact rfl;exact rfl)|((with_reducible apply wl_yes);exact rfl;exact rfl;exact rfl)|((with_reducible apply wl_no);exact rfl;exact rfl;exact rfl;exact rfl)|((with_reducible apply wl_noU);exact rfl;exact rfl;exact rfl)
    refine wl_call rfl (by kernel_rfl) rfl ((fn_counted flex (f.null ver t) xs.length 4 (by omega) (by omega) w5).mono ?_)
    rintro e w6 ⟨v6, rfl, hb6, ho6⟩
    refine ⟨v6, rfl, ?_⟩
    repeat first|(with_reducible first|apply wc_seq|apply wc_region|apply wl_nil|apply qk_thn|apply wc_block|apply wc_skip|apply wc_ret|apply wc_exit|apply qk_thn_ret|apply qk_in_ret|apply qk_in|apply qk_thn_exit|apply qk_in_exit|apply qk_round_ret|apply qk_round_exit)|((with_reducible apply ws);exact rfl;exact rfl)|((with_reducible apply wl_yes);exact rfl;exact rfl;exact rfl)|((with_reducible apply wl_no);exact rfl;exact rfl;exact rfl;exact rfl)|((with_reducible apply wl_noU);exact rfl;exact rfl;exact rfl)
    have hw5 := hw3.size
    refine wc_loop (α := FdS) (fun s => [(31, .int .i64 (s.i : Int)), (30, .int .i64 (xs.length : Int)), (11, s.d), (10, .slice xa xs.length xc), (7, .pointer (some ⟨w1.heap.size, 0, none⟩)), (4, .pointer (some ⟨w.heap.size, 0, none⟩)), (2, .bool flex), (1, .int .i64 ver)])
      (fun s w' => s.i ≤ xs.length ∧ Below w5.heap.size w5 w' ∧ Own w' w5.heap.size 5 s.d (counted flex (f.null ver t) xs.length 4 ++ (xs.take s.i).flatMap (wVal f.of flex false (wPart ver flex f.sub)))) (fun s => xs.length - s.i) ⟨0, v6⟩ ⟨rfl, rfl, rfl, rfl, rfl, rfl, rfl, rfl, trivial⟩ ⟨Nat.zero_le _, hb6, by simpa using ho6⟩ ?_
    rintro ⟨i, d⟩ w7 ⟨hi, hw7, ho7⟩
    simp only [] at hi ho7
    change WC _ _ _ _ [(31, .int .i64 (i : Int)), (30, .int .i64 (xs.length : Int)), (11, d), (10, .slice xa xs.length xc), (7, .pointer (some ⟨w1.heap.size, 0, none⟩)), (4, .pointer (some ⟨w.heap.size, 0, none⟩)), (2, .bool flex), (1, .int .i64 ver)] _
    repeat first|(with_reducible first|apply wc_seq|apply wc_region|apply wl_nil|apply qk_thn|apply wc_block|apply wc_skip|apply wc_ret|apply wc_exit|apply qk_thn_ret|apply qk_in_ret|apply qk_in|apply qk_thn_exit|apply qk_in_exit|apply qk_round_ret|apply qk_round_exit)|((with_reducible apply ws);exact rfl;exact rfl)|((with_reducible apply wl_yes);exact rfl;exact rfl;exact rfl)|((with_reducible apply wl_no);exact rfl;exact rfl;exact rfl;exact rfl)|((with_reducible apply wl_noU);exact rfl;exact rfl;exact rfl)
    by_cases hlt : i < xs.length
    · refine wc_yes rfl (by simpa using hlt) ?_
      repeat first|(with_reducible first|apply wc_seq|apply wc_region|apply wl_nil|apply qk_thn|apply wc_block|apply wc_skip|apply wc_ret|apply wc_exit|apply qk_thn_ret|apply qk_in_ret|apply qk_in|apply qk_thn_exit|apply qk_in_exit|apply qk_round_ret|apply qk_round_exit)|((with_reducible apply ws);exact rfl;exact rfl)|((with_reducible apply wl_yes);exact rfl;exact rfl;exact rfl)|((with_reducible apply wl_no);exact rfl;exact rfl;exact rfl;exact rfl)|((with_reducible apply wl_noU);exact rfl;exact rfl;exact rfl)
      obtain ⟨b, off, c', cs, hv2, hbB, hcs, hlen, hr⟩ := hx.get (sz := 5) (i := i) (by intro d hd; obtain ⟨x, _, rfl⟩ := List.mem_map.1 hd; exact treeD_width x) (by simpa using hlt)
      simp only [Value.slice.injEq, List.length_map] at hv2
      obtain ⟨rfl, _, rfl⟩ := hv2
      simp only [List.getElem_map] at hr
      have hcsw : ∀ w', Below w5.heap.size w5 w' → CellsAt w' b (off + i * 5) cs := fun w' h => hcs.of_block (h.block b (by omega))
      have h25 : ∀ w', Below w5.heap.size w5 w' → Below w2.heap.size w2 w' := fun w' h => hw3.trans (h.mono hw5)
      have htk := flatMap_take_succ (wVal f.of flex false (wPart ver flex f.sub)) xs hlt
      have hle := flatMap_take_le (wVal f.of flex false (wPart ver flex f.sub)) xs (i + 1)
      rw [htk] at hle
      simp only [List.length_append] at hle hlim
      refine wc_par [(0, d), (1, .pointer (some ⟨w.heap.size, 0 + 6, none⟩)), (2, .int .i64 f.of), (3, .pointer (some ⟨w.heap.size, 0 + 7, none⟩)), (4, sv), (5, .int .i64 ver), (6, .bool flex), (7, .slice (some ⟨b, off, none⟩) xs.length xc), (8, .int .i64 (i : Int)), (9, .pointer (some ⟨b, off + i * 5, none⟩)), (10, .agg cs.toArray)] [13, 12, 11]
        (fun vals w' => Below w5.heap.size w5 w' ∧ match vals with
          | [] => w' = w7.drew
          | [v] => Below w7.heap.size w7 w' ∧ Own w' w7.heap.size 5 v (wVal f.of flex false (wPart ver flex f.sub) xs[i])
          | v :: _ => Own w' w5.heap.size 5 v (counted flex (f.null ver t) xs.length 4 ++ (xs.take (i + 1)).flatMap (wVal f.of flex false (wPart ver flex f.sub))))
        mixed rfl rfl rfl rfl rfl (by show ([0,1,2,3,4,5,6,7,8,9,10] : List Nat).Nodup; decide) rfl rfl (by decide) rfl rfl rfl rfl ⟨hw7.drew, rfl⟩ ?_ ⟨?_, ?_, ?_, trivial⟩ ?_
      · intro p hp vals w' hC a k
        simp only [List.mem_cons, List.not_mem_nil, or_false] at hp
        rcases hp with rfl | rfl | rfl | rfl | rfl | rfl | rfl | rfl | rfl | rfl | rfl
        · exact gv rfl rfl (rn_move k rfl)
        · exact gv rfl rfl (rn_fieldAddr k rfl fo_fld6)
        · exact gv rfl rfl (rn_load k rfl to_int ((hbf _ (h25 _ hC.1)).cell0 (i := 6) rfl))
        · exact gv rfl rfl (rn_fieldAddr k rfl fo_fld7)
        · exact gv rfl rfl (rn_load k rfl to_flds ((hbf _ (h25 _ hC.1)).cell0 (i := 7) rfl))
        · exact gv rfl rfl (rn_move k rfl)
        · exact gv rfl rfl (rn_move k rfl)
        · exact gv rfl rfl (rn_move k rfl)
        · exact gv rfl rfl (rn_move k rfl)
        · exact gv rfl rfl (rn_indexAddr k rfl rfl es_trees hlt)
        · exact gv rfl rfl (rn_loadAgg k rfl (by rw [hlen]; exact ta_tree) (fun j v e => (hcsw _ hC.1).cell e))
      · rintro vals w' hvl ⟨hb', hC⟩ a k
        match vals, hvl with
        | [v12, v11], _ => exact ⟨_, rfl, does_assign k rfl ⟨hb', hC⟩⟩
      · rintro vals w' hvl ⟨hb', hC⟩ a k
        match vals, hvl with
        | [v11], _ =>
          obtain ⟨hb7, hov⟩ := hC
          refine ⟨_, rfl, does_appSl k tb_bytes tb_bytes rfl rfl hov.bytes (ho7.below hb7) hb'.size (by simp only [List.length_append]; omega) (fun d' w'' ho'' hg'' => ⟨hb'.trans (hg''.below hb'.size ho7.ge), ?_⟩)⟩
          simp only []
          rw [htk, ← List.append_assoc]; exact ho''
      · rintro vals w' hvl ⟨hb', hC⟩ a k
        match vals, hvl with
        | [], _ =>
          simp only [] at hC
          subst hC
          have hw70 := hw7.size
          exact ⟨_, rfl, does_call k rfl (by kernel_rfl) ((hv f.of false flex ver xs[i] w5.heap.size w7.drew _ _ (hxs _ (List.getElem_mem hlt)) hw70 (hsub.below (((hw03.trans (hw7.mono (by omega))).drew).mono hB) (by omega)) (Rep.below hr ((hw7.drew).mono (by omega)) (by omega)) (by omega)).mono (by rintro e w'' ⟨v, rfl, hb'', ho⟩; exact ⟨v, rfl, hb'.trans (hb''.mono hw70), (Below.refl _ w7).drew.trans hb'', ho⟩))⟩
      · rintro vals w' hvl ⟨hb', hC⟩
        match vals, hvl with
        | [v13, v12, v11], _ =>
          refine qk_thn ?_
          repeat first|(with_reducible first|apply wc_seq|apply wc_region|apply wl_nil|apply qk_thn|apply wc_block|apply wc_skip|apply wc_ret|apply wc_exit|apply qk_thn_ret|apply qk_in_ret|apply qk_in|apply qk_thn_exit|apply qk_in_exit|apply qk_round_ret|apply qk_round_exit)|((with_reducible apply ws);exact rfl;exact rfl)|((with_reducible apply wl_yes);exact rfl;exact rfl;exact rfl)|((with_reducible apply wl_no);exact rfl;exact rfl;exact rfl;exact rfl)|((with_reducible apply wl_noU);exact rfl;exact rfl;exact rfl)
          refine wl_add rfl rfl rfl (r := ((i + 1 : Nat) : Int)) (by rw [IntKind.wrap_i64]; omega) ?_
          repeat first|(with_reducible first|apply wc_seq|apply wc_region|apply wl_nil|apply qk_thn|apply wc_block|apply wc_skip|apply wc_ret|apply wc_exit|apply qk_thn_ret|apply qk_in_ret|apply qk_in|apply qk_thn_exit|apply qk_in_exit|apply qk_round_ret|apply qk_round_exit)|((with_reducible apply ws);exact rfl;exact rfl)|((with_reducible apply wl_yes);exact rfl;exact rfl;exact rfl)|((with_reducible apply wl_no);exact rfl;exact rfl;exact rfl;exact rfl)|((with_reducible apply wl_noU);exact rfl;exact rfl;exact rfl)
          exact qk_round ⟨i + 1, v13⟩ ⟨rfl, rfl, rfl, rfl, rfl, rfl, rfl, rfl, trivial⟩ ⟨by simp only []; omega, hb', hC⟩ (by simp only []; omega)
    · refine wc_no rfl (by simpa using hlt) ?_
      repeat first|(with_reducible first|apply wc_seq|apply wc_region|apply wl_nil|apply qk_thn|apply wc_block|apply wc_skip|apply wc_ret|apply wc_exit|apply qk_thn_ret|apply qk_in_ret|apply qk_in|apply qk_thn_exit|apply qk_in_exit|apply qk_round_ret|apply qk_round_exit)|((with_reducible apply ws);exact rfl;exact rfl)|((with_reducible apply wl_yes);exact rfl;exact rfl;exact rfl)|((with_reducible apply wl_no);exact rfl;exact rfl;exact rfl;exact rfl)|((with_reducible apply wl_noU);exact rfl;exact rfl;exact rfl)
      refine qk_ret1 rfl rfl ⟨_, rfl, hw03.trans (hw7.mono (by omega)), ?_⟩
      rw [List.take_of_length_le (by omega)] at ho7
      exact ho7.mono (by omega)
  · refine wc_no rfl (by simpa using h11) ?_
    rw [if_neg h11] at hlim ⊢
    refine wc_skip (qk_thn ?_)
    refine wc_cut (α := Unit) (fun _ => [(9, .bool (f.null ver t)), (7, .pointer (some ⟨w1.heap.size, 0, none⟩)), (4, .pointer (some ⟨w.heap.size, 0, none⟩)), (2, .bool flex), (1, .int .i64 ver)]) (fun _ w' => w' = w3 ∧ ¬ (f.kind = 10 ∧ 0 ≤ f.nul)) ?_ ?_
    · repeat first|(with_reducible first|apply wc_seq|apply wc_region|apply wl_nil|apply qk_thn|apply wc_block|apply wc_skip|apply wc_ret|apply wc_exit|apply qk_thn_ret|apply qk_in_ret|apply qk_in|apply qk_thn_exit|apply qk_in_exit|apply qk_round_ret|apply qk_round_exit)|((with_reducible apply ws);exact rfl;exact rfl)|((with_reducible apply wl_yes);exact rfl;exact rfl;exact rfl)|((with_reducible apply wl_no);exact rfl;exact rfl;exact rfl;exact rfl)|((with_reducible apply wl_noU);exact rfl;exact rfl;exact rfl)
      refine wl_loadB rfl to_int rfl (hbf _ hw3) rfl ?_
      repeat first|(with_reducible first|apply wc_seq|apply wc_region|apply wl_nil|apply qk_thn|apply wc_block|apply wc_skip|apply wc_ret|apply wc_exit|apply qk_thn_ret|apply qk_in_ret|apply qk_in|apply qk_thn_exit|apply qk_in_exit|apply qk_round_ret|apply qk_round_exit)|((with_reducible apply ws);exact rfl;exact rfl)|((with_reducible apply wl_yes);exact rfl;exact rfl;exact rfl)|((with_reducible apply wl_no);exact rfl;exact rfl;exact rfl;exact rfl)|((with_reducible apply wl_noU);exact rfl;exact rfl;exact rfl)
      by_cases h10 : f.kind = 10
      · have e10 : (f.kind == 10) = true := by simpa using h10
        rw [e10]
        repeat first|(with_reducible first|apply wc_seq|apply wc_region|apply wl_nil|apply qk_thn|apply wc_block|apply wc_skip|apply wc_ret|apply wc_exit|apply qk_thn_ret|apply qk_in_ret|apply qk_in|apply qk_thn_exit|apply qk_in_exit|apply qk_round_ret|apply qk_round_exit)|((with_reducible apply ws);exact rfl;exact rfl)|((with_reducible apply wl_yes);exact rfl;exact rfl;exact rfl)|((with_reducible apply wl_no);exact rfl;exact rfl;exact rfl;exact rfl)|((with_reducible apply wl_noU);exact rfl;exact rfl;exact rfl)
        refine wl_loadB rfl to_int rfl (hbf _ hw3) rfl ?_
        repeat first|(with_reducible first|apply wc_seq|apply wc_region|apply wl_nil|apply qk_thn|apply wc_block|apply wc_skip|apply wc_ret|apply wc_exit|apply qk_thn_ret|apply qk_in_ret|apply qk_in|apply qk_thn_exit|apply qk_in_exit|apply qk_round_ret|apply qk_round_exit)|((with_reducible apply ws);exact rfl;exact rfl)|((with_reducible apply wl_yes);exact rfl;exact rfl;exact rfl)|((with_reducible apply wl_no);exact rfl;exact rfl;exact rfl;exact rfl)|((with_reducible apply wl_noU);exact rfl;exact rfl;exact rfl)
        by_cases hnl : 0 ≤ f.nul
        · refine wc_yes rfl (by simpa using hnl) ?_
          rw [if_pos ⟨h10, hnl⟩] at hlim ⊢
          repeat first|(with_reducible first|apply wc_seq|apply wc_region|apply wl_nil|apply qk_thn|apply wc_block|apply wc_skip|apply wc_ret|apply wc_exit|apply qk_thn_ret|apply qk_in_ret|apply qk_in|apply qk_thn_exit|apply qk_in_exit|apply qk_round_ret|apply qk_round_exit)|((with_reducible apply ws);exact rfl;exact rfl)|((with_reducible apply wl_yes);exact rfl;exact rfl;exact rfl)|((with_reducible apply wl_no);exact rfl;exact rfl;exact rfl;exact rfl)|((with_reducible apply wl_noU);exact rfl;exact rfl;exact rfl)
          cases hn : f.null ver t
          · refine wc_no rfl rfl ?_
            rw [hn] at hlim
            simp only [Bool.false_eq_true, if_false] at hlim ⊢
            repeat first|(with_reducible first|apply wc_seq|apply wc_region|apply wl_nil|apply qk_thn|apply wc_block|apply wc_skip|apply wc_ret|apply wc_exit|apply qk_thn_ret|apply qk_in_ret|apply qk_in|apply qk_thn_exit|apply qk_in_exit|apply qk_round_ret|apply qk_round_exit)|((with_reducible apply ws);exact rfl;exact rfl)|((with_reducible apply wl_yes);exact rfl;exact rfl;exact rfl)|((with_reducible apply wl_no);exact rfl;exact rfl;exact rfl;exact rfl)|((with_reducible apply wl_noU);exact rfl;exact rfl;exact rfl)
            refine wc_par [(1, .pointer (some ⟨w.heap.size, 0 + 7, none⟩)), (2, sv), (3, .int .i64 ver), (4, .bool flex), (5, .agg ([.int .i64 t.n, sv2, .bool t.nul, .slice la (t.l.map treeD).length lc, uv] : List Value).toArray)] [8, 7, 6, 0]
              (fun vals w' => Below w3.heap.size w3 w' ∧ match vals with
                | [] => True
                | [v] => Own w' w3.heap.size 5 v (be 1 1)
                | [v, v0] => Own w' w3.heap.size 5 v0 (be 1 1) ∧ Own w' w3.heap.size 5 v (wPart ver flex f.sub t)
                | v :: _ => Own w' w3.heap.size 5 v (be 1 1 ++ wPart ver flex f.sub t))
              mixed rfl rfl rfl rfl rfl (by show ([1,2,3,4,5] : List Nat).Nodup; decide) rfl rfl (by decide) rfl rfl rfl rfl ⟨(Below.refl _ w3).drew, trivial⟩ ?_ ⟨?_, ?_, ?_, ?_, trivial⟩ ?_
            · intro p hp vals w' hC a k
              simp only [List.mem_cons, List.not_mem_nil, or_false] at hp
              have hb2' : Below w2.heap.size w2 w' := hw3.trans (hC.1.mono hw3.size)
              rcases hp with rfl | rfl | rfl | rfl | rfl
              · exact gv rfl rfl (rn_fieldAddr k rfl fo_fld7)
              · exact gv rfl rfl (rn_load k rfl to_flds ((hbf _ hb2').cell0 (i := 7) rfl))
              · exact gv rfl rfl (rn_move k rfl)
              · exact gv rfl rfl (rn_move k rfl)
              · exact gv rfl rfl (rn_loadBAgg k rfl ta_tree (hbt _ hb2'))
            · rintro vals w' hvl ⟨hb', hC⟩ a k
              match vals, hvl with
              | [v7, v6, v0], _ => exact ⟨_, rfl, does_assign k rfl ⟨hb', hC⟩⟩
            · rintro vals w' hvl ⟨hb', hC⟩ a k
              match vals, hvl with
              | [v6, v0], _ =>
                obtain ⟨ho0, ho6⟩ := hC
                exact ⟨_, rfl, does_appSl k tb_bytes tb_bytes rfl rfl ho6.bytes ho0 hb'.size (by simpa using hlim) (fun d' w'' ho'' hg'' => ⟨hb'.trans (hg''.below hb'.size ho0.ge), ho''⟩)⟩
            · rintro vals w' hvl ⟨hb', hC⟩ a k
              match vals, hvl with
              | [v0], _ =>
                simp only [] at hC
                have hs3 := hb'.size
                refine ⟨_, rfl, does_call k rfl (by kernel_rfl) ((hp flex ver t w3.heap.size w' _ _ hok hs3 (hsub.below ((hw03.trans (hb'.mono hw03.size)).mono hB) (by omega)) (Rep.below ht ((hw03.trans (hb'.mono hw03.size)).mono hB) (by omega)) (by simp only [List.length_append] at hlim; omega)).mono ?_)⟩
                rintro e w'' ⟨v, rfl, hb'', ho⟩
                exact ⟨v, rfl, hb'.trans (hb''.mono hs3), Own.below hC hb'', ho.mono hs3⟩
            · rintro vals w' hvl ⟨hb', hC⟩ a k
              match vals, hvl with
              | [], _ =>
                exact ⟨_, rfl, does_call k rfl (by kernel_rfl) ((fn_fixed 1 1 (by omega) w').mono (by rintro e w'' ⟨v, rfl, hb'', ho⟩; exact ⟨v, rfl, hb'.trans (hb''.mono hb'.size), ho.mono hb'.size⟩))⟩
            · rintro vals w' hvl ⟨hb', hC⟩
              match vals, hvl with
              | [v8, v7, v6, v0], _ =>
                refine qk_thn ?_
                repeat first|(with_reducible first|apply wc_seq|apply wc_region|apply wl_nil|apply qk_thn|apply wc_block|apply wc_skip|apply wc_ret|apply wc_exit|apply qk_thn_ret|apply qk_in_ret|apply qk_in|apply qk_thn_exit|apply qk_in_exit|apply qk_round_ret|apply qk_round_exit)|((with_reducible apply ws);exact rfl;exact rfl)|((with_reducible apply wl_yes);exact rfl;exact rfl;exact rfl)|((with_reducible apply wl_no);exact rfl;exact rfl;exact rfl;exact rfl)|((with_reducible apply wl_noU);exact rfl;exact rfl;exact rfl)
                exact qk_ret1 rfl rfl ⟨_, rfl, hw03.trans (hb'.mono (by have := hw03.size; omega)), Own.mono hC (by have := hw03.size; omega)⟩
          · refine wc_yes rfl rfl ?_
            repeat first|(with_reducible first|apply wc_seq|apply wc_region|apply wl_nil|apply qk_thn|apply wc_block|apply wc_skip|apply wc_ret|apply wc_exit|apply qk_thn_ret|apply qk_in_ret|apply qk_in|apply qk_thn_exit|apply qk_in_exit|apply qk_round_ret|apply qk_round_exit)|((with_reducible apply ws);exact rfl;exact rfl)|((with_reducible apply wl_yes);exact rfl;exact rfl;exact rfl)|((with_reducible apply wl_no);exact rfl;exact rfl;exact rfl;exact rfl)|((with_reducible apply wl_noU);exact rfl;exact rfl;exact rfl)
            refine wl_call rfl (by kernel_rfl) rfl ((fn_fixed (-1) 1 (by omega) w3).mono ?_)
            rintro e w' ⟨v, rfl, hb, ho⟩
            refine ⟨v, rfl, ?_⟩
            repeat first|(with_reducible first|apply wc_seq|apply wc_region|apply wl_nil|apply qk_thn|apply wc_block|apply wc_skip|apply wc_ret|apply wc_exit|apply qk_thn_ret|apply qk_in_ret|apply qk_in|apply qk_thn_exit|apply qk_in_exit|apply qk_round_ret|apply qk_round_exit)|((with_reducible apply ws);exact rfl;exact rfl)|((with_reducible apply wl_yes);exact rfl;exact rfl;exact rfl)|((with_reducible apply wl_no);exact rfl;exact rfl;exact rfl;exact rfl)|((with_reducible apply wl_noU);exact rfl;exact rfl;exact rfl)
            exact qk_ret1 rfl rfl ⟨_, rfl, hw03.trans (hb.mono hw03.size), by simpa using ho.mono hw03.size⟩
        · refine wc_no rfl (by simpa using hnl) ?_
          repeat first|(with_reducible first|apply wc_seq|apply wc_region|apply wl_nil|apply qk_thn|apply wc_block|apply wc_skip|apply wc_ret|apply wc_exit|apply qk_thn_ret|apply qk_in_ret|apply qk_in|apply qk_thn_exit|apply qk_in_exit|apply qk_round_ret|apply qk_round_exit)|((with_reducible apply ws);exact rfl;exact rfl)|((with_reducible apply wl_yes);exact rfl;exact rfl;exact rfl)|((with_reducible apply wl_no);exact rfl;exact rfl;exact rfl;exact rfl)|((with_reducible apply wl_noU);exact rfl;exact rfl;exact rfl)
          exact qk_cut () ⟨rfl, rfl, rfl, rfl, rfl, trivial⟩ ⟨rfl, fun h => hnl h.2⟩
      · have e10 : (f.kind == 10) = false := by simpa using h10
        rw [e10]
        repeat first|(with_reducible first|apply wc_seq|apply wc_region|apply wl_nil|apply qk_thn|apply wc_block|apply wc_skip|apply wc_ret|apply wc_exit|apply qk_thn_ret|apply qk_in_ret|apply qk_in|apply qk_thn_exit|apply qk_in_exit|apply qk_round_ret|apply qk_round_exit)|((with_reducible apply ws);exact rfl;exact rfl)|((with_reducible apply wl_yes);exact rfl;exact rfl;exact rfl)|((with_reducible apply wl_no);exact rfl;exact rfl;exact rfl;exact rfl)|((with_reducible apply wl_noU);exact rfl;exact rfl;exact rfl)
        refine wc_no rfl rfl ?_
        repeat first|(with_reducible first|apply wc_seq|apply wc_region|apply wl_nil|apply qk_thn|apply wc_block|apply wc_skip|apply wc_ret|apply wc_exit|apply qk_thn_ret|apply qk_in_ret|apply qk_in|apply qk_thn_exit|apply qk_in_exit|apply qk_round_ret|apply qk_round_exit)|((with_reducible apply ws);exact rfl;exact rfl)|((with_reducible apply wl_yes);exact rfl;exact rfl;exact rfl)|((with_reducible apply wl_no);exact rfl;exact rfl;exact rfl;exact rfl)|((with_reducible apply wl_noU);exact rfl;exact rfl;exact rfl)
        exact qk_cut () ⟨rfl, rfl, rfl, rfl, rfl, trivial⟩ ⟨rfl, fun h => h10 h.1⟩
    rintro _ w4 ⟨rfl, hno⟩
    rw [if_neg hno] at hlim ⊢
    repeat first|(with_reducible first|apply wc_seq|apply wc_region|apply wl_nil|apply qk_thn|apply wc_block|apply wc_skip|apply wc_ret|apply wc_exit|apply qk_thn_ret|apply qk_in_ret|apply qk_in|apply qk_thn_exit|apply qk_in_exit|apply qk_round_ret|apply qk_round_exit)|((with_reducible apply ws);exact rfl;exact rfl)|((with_reducible apply wl_yes);exact rfl;exact rfl;exact rfl)|((with_reducible apply wl_no);exact rfl;exact rfl;exact rfl;exact rfl)|((with_reducible apply wl_noU);exact rfl;exact rfl;exact rfl)
    refine wl_loadB rfl to_int rfl (hbf _ hw3) rfl ?_
    repeat first|(with_reducible first|apply wc_seq|apply wc_region|apply wl_nil|apply qk_thn|apply wc_block|apply wc_skip|apply wc_ret|apply wc_exit|apply qk_thn_ret|apply qk_in_ret|apply qk_in|apply qk_thn_exit|apply qk_in_exit|apply qk_round_ret|apply qk_round_exit)|((with_reducible apply ws);exact rfl;exact rfl)|((with_reducible apply wl_yes);exact rfl;exact rfl;exact rfl)|((with_reducible apply wl_no);exact rfl;exact rfl;exact rfl;exact rfl)|((with_reducible apply wl_noU);exact rfl;exact rfl;exact rfl)
    refine wl_loadB rfl to_flds rfl (hbf _ hw3) rfl ?_
    repeat first|(with_reducible first|apply wc_seq|apply wc_region|apply wl_nil|apply qk_thn|apply wc_block|apply wc_skip|apply wc_ret|apply wc_exit|apply qk_thn_ret|apply qk_in_ret|apply qk_in|apply qk_thn_exit|apply qk_in_exit|apply qk_round_ret|apply qk_round_exit)|((with_reducible apply ws);exact rfl;exact rfl)|((with_reducible apply wl_yes);exact rfl;exact rfl;exact rfl)|((with_reducible apply wl_no);exact rfl;exact rfl;exact rfl;exact rfl)|((with_reducible apply wl_noU);exact rfl;exact rfl;exact rfl)
    refine wl_loadBAgg (cs := [.int .i64 t.n, sv2, .bool t.nul, .slice la (t.l.map treeD).length lc, uv]) rfl ta_tree rfl (hbt _ hw3) ?_
    refine wl_call rfl (by kernel_rfl) rfl ((hv f.kind (f.null ver t) flex ver t B w4 _ _ hok hB3 (hsub.below (hw03.mono hB) (Nat.le_refl _)) (Rep.below ht (hw03.mono hB) (Nat.le_refl _)) hlim).mono ?_)
    rintro e w' ⟨v, rfl, hb, ho⟩
    refine ⟨v, rfl, ?_⟩
    repeat first|(with_reducible first|apply wc_seq|apply wc_region|apply wl_nil|apply qk_thn|apply wc_block|apply wc_skip|apply wc_ret|apply wc_exit|apply qk_thn_ret|apply qk_in_ret|apply qk_in|apply qk_thn_exit|apply qk_in_exit|apply qk_round_ret|apply qk_round_exit)|((with_reducible apply ws);exact rfl;exact rfl)|((with_reducible apply wl_yes);exact rfl;exact rfl;exact rfl)|((with_reducible apply wl_no);exact rfl;exact rfl;exact rfl;exact rfl)|((with_reducible apply wl_noU);exact rfl;exact rfl;exact rfl)
    exact qk_ret1 rfl rfl ⟨_, rfl, hw03.trans (hb.mono hw03.size), ho.mono hw03.size⟩
end
end Go.Proofs.Ytaoecdeljfdmeaa
