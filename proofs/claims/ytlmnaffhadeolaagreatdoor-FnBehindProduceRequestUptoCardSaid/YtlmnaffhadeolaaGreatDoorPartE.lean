/- A part of the proof of FnBehindProduceRequestUptoCardSaid: what its texts prove stands at the head of each. Conditions: those that each theorem names. -/
import Derived.Test.YtlmnaffhadeolaaGreatDoorPartD
import Derived.Test.YtlmnaffhadeolaaGreatDoorPartA
import Derived.Test.YtlmnaffhadeolaaGreatDoorPartC
import Derived.ScopeJumps
import Derived.Laws.BytesString
set_option linter.all false
namespace Go.Proofs.YtlmnaffhadeolaaGreatDoor
open Go Go.RowKit
theorem flatMap_take_le {α β : Type} (g : α → List β) (l : List α) (i : Nat) : ((l.take i).flatMap g).length ≤ (l.flatMap g).length := by
 have : l.flatMap g = (l.take i).flatMap g ++ (l.drop i).flatMap g := by rw [← List.flatMap_append, List.take_append_drop]
 rw [this, List.length_append]; omega
theorem flatMap_take_succ {α β : Type} (g : α → List β) (l : List α) {i : Nat} (hi : i < l.length) : (l.take (i + 1)).flatMap g = (l.take i).flatMap g ++ g l[i] := by
 rw [List.take_succ_eq_append_getElem hi, List.flatMap_append]; simp
structure FdS where
 i : Nat
 d : Value
section
set_option maxRecDepth 100000
theorem field_of (f : Fld) (hv : ∀ k, ValueOK k f.sub) (hp : PartOK f.sub) : FieldOK f := by
 intro flex ver t B w cs ts hok hB hf ht hlim
 obtain ⟨sv, rfl, hsub⟩ := fld_cells hf
 obtain ⟨sv2, lv, uv, rfl, hs, hl, hu⟩ := tree_cells ht
 obtain ⟨la, lc, rfl, _⟩ := hl.shape
 rw [wField_eq] at hlim ⊢
 refine enter Tryz.func80 rfl Tryz.ntmps80 rfl ?_
 repeat first|(with_reducible first|apply wc_seq|apply wc_region|apply wl_nil|apply qk_thn|apply wc_block|apply wc_skip|apply wc_ret|apply wc_exit|apply qk_thn_ret|apply qk_in_ret|apply qk_in|apply qk_thn_exit|apply qk_in_exit|apply qk_round_ret|apply qk_round_exit)|((with_reducible apply ws);exact rfl;exact rfl)|((with_reducible apply wl_yes);exact rfl;exact rfl;exact rfl)|((with_reducible apply wl_no);exact rfl;exact rfl;exact rfl;exact rfl)|((with_reducible apply wl_noU);exact rfl;exact rfl;exact rfl)
 refine wl_box1 rfl rfl rfl (fun w1 hb1 hg1 hs1 => wl_box1 rfl rfl rfl (fun w2 hb2 hg2 hs2 => ?_))
 have hb4 := hb1.kept hg2 (by simp)
 have hw2 : Below w.heap.size w w2 := (below_of hg1 (Nat.le_refl _) (by simp)).trans (below_of hg2 (by omega) (by simp))
 have hB2 : B ≤ w2.heap.size := by omega
 have hbt : ∀ w', Below w2.heap.size w2 w' → Box w' w1.heap.size [.int .i64 t.n, sv2, .bool t.nul, .slice la (t.l.map treeD).length lc, uv] 26 := fun w' h => hb2.below h (by omega)
 have hbf : ∀ w', Below w2.heap.size w2 w' → Box w' w.heap.size [.int .i64 f.kind, .int .i64 f.fr, .int .i64 f.upto, .int .i64 f.nul, .int .i64 f.tag, .int .i64 f.df, .int .i64 f.of, sv] 55 := fun w' h => hb4.below h (by omega)
 repeat first|(with_reducible first|apply wc_seq|apply wc_region|apply wl_nil|apply qk_thn|apply wc_block|apply wc_skip|apply wc_ret|apply wc_exit|apply qk_thn_ret|apply qk_in_ret|apply qk_in|apply qk_thn_exit|apply qk_in_exit|apply qk_round_ret|apply qk_round_exit)|((with_reducible apply ws);exact rfl;exact rfl)|((with_reducible apply wl_yes);exact rfl;exact rfl;exact rfl)|((with_reducible apply wl_no);exact rfl;exact rfl;exact rfl;exact rfl)|((with_reducible apply wl_noU);exact rfl;exact rfl;exact rfl)
 refine wl_loadBAgg (cs := [.int .i64 f.kind, .int .i64 f.fr, .int .i64 f.upto, .int .i64 f.nul, .int .i64 f.tag, .int .i64 f.df, .int .i64 f.of, sv]) rfl ta_fld rfl hb4 ?_
 repeat first|(with_reducible first|apply wc_seq|apply wc_region|apply wl_nil|apply qk_thn|apply wc_block|apply wc_skip|apply wc_ret|apply wc_exit|apply qk_thn_ret|apply qk_in_ret|apply qk_in|apply qk_thn_exit|apply qk_in_exit|apply qk_round_ret|apply qk_round_exit)|((with_reducible apply ws);exact rfl;exact rfl)|((with_reducible apply wl_yes);exact rfl;exact rfl;exact rfl)|((with_reducible apply wl_no);exact rfl;exact rfl;exact rfl;exact rfl)|((with_reducible apply wl_noU);exact rfl;exact rfl;exact rfl)
 refine wl_loadBAgg (cs := [.int .i64 t.n, sv2, .bool t.nul, .slice la (t.l.map treeD).length lc, uv]) rfl ta_tree rfl hb2 ?_
 refine wl_call rfl (by kernel_rfl) rfl ((fn_null f ver t B w2 hB2 _ _ (hf.below (hw2.mono hB) (Nat.le_refl _)) (ht.below (hw2.mono hB) (Nat.le_refl _))).mono ?_)
 rintro e w3 ⟨v, rfl, hw3, rfl⟩
 refine ⟨_, rfl, ?_⟩
 have hB3 : B ≤ w3.heap.size := by have := hw3.size; omega
 have hw03 : Below w.heap.size w w3 := hw2.trans (hw3.mono (by omega))
 repeat first|(with_reducible first|apply wc_seq|apply wc_region|apply wl_nil|apply qk_thn|apply wc_block|apply wc_skip|apply wc_ret|apply wc_exit|apply qk_thn_ret|apply qk_in_ret|apply qk_in|apply qk_thn_exit|apply qk_in_exit|apply qk_round_ret|apply qk_round_exit)|((with_reducible apply ws);exact rfl;exact rfl)|((with_reducible apply wl_yes);exact rfl;exact rfl;exact rfl)|((with_reducible apply wl_no);exact rfl;exact rfl;exact rfl;exact rfl)|((with_reducible apply wl_noU);exact rfl;exact rfl;exact rfl)
 refine wl_loadB rfl to_int rfl (hbf _ hw3) rfl ?_
 repeat first|(with_reducible first|apply wc_seq|apply wc_region|apply wl_nil|apply qk_thn|apply wc_block|apply wc_skip|apply wc_ret|apply wc_exit|apply qk_thn_ret|apply qk_in_ret|apply qk_in|apply qk_thn_exit|apply qk_in_exit|apply qk_round_ret|apply qk_round_exit)|((with_reducible apply ws);exact rfl;exact rfl)|((with_reducible apply wl_yes);exact rfl;exact rfl;exact rfl)|((with_reducible apply wl_no);exact rfl;exact rfl;exact rfl;exact rfl)|((with_reducible apply wl_noU);exact rfl;exact rfl;exact rfl)
 by_cases h11 : f.kind = 11
 ·refine wc_yes rfl (by simpa using h11) ?_
  rw [if_pos h11] at hlim ⊢
  repeat first|(with_reducible first|apply wc_seq|apply wc_region|apply wl_nil|apply qk_thn|apply wc_block|apply wc_skip|apply wc_ret|apply wc_exit|apply qk_thn_ret|apply qk_in_ret|apply qk_in|apply qk_thn_exit|apply qk_in_exit|apply qk_round_ret|apply qk_round_exit)|((with_reducible apply ws);exact rfl;exact rfl)|((with_reducible apply wl_yes);exact rfl;exact rfl;exact rfl)|((with_reducible apply wl_no);exact rfl;exact rfl;exact rfl;exact rfl)|((with_reducible apply wl_noU);exact rfl;exact rfl;exact rfl)
  refine wl_loadB rfl to_trees rfl (hbt _ hw3) rfl ?_
  have hl3 : Sq B w3 (.slice la (t.l.map treeD).length lc) (t.l.map treeD) := hl.below (hw03.mono hB) (Nat.le_refl _)
  refine wl_call rfl (by kernel_rfl) rfl ((fn_things _ _ _ _ hl3).mono ?_)
  rintro e w4 ⟨v, rfl, hb4', rfl, hsq⟩
  refine ⟨v, rfl, ?_⟩
  have hsq' : Sq B w4 v ((things t.l).map treeD) := by simpa [things] using hsq
  refine wl_assign rfl rfl (wl_nil (qk_thn ?_))
  refine wc_cut (α := Value) (fun x => [(10, x), (9, .bool (f.null ver t)), (7, .pointer (some ⟨w1.heap.size, 0, none⟩)), (4, .pointer (some ⟨w.heap.size, 0, none⟩)), (2, .bool flex), (1, .int .i64 ver)])
   (fun x w' => w' = w4 ∧ Sq B w4 x ((if f.null ver t then [] else things t.l).map treeD)) ?_ ?_
  ·repeat first|(with_reducible first|apply wc_seq|apply wc_region|apply wl_nil|apply qk_thn|apply wc_block|apply wc_skip|apply wc_ret|apply wc_exit|apply qk_thn_ret|apply qk_in_ret|apply qk_in|apply qk_thn_exit|apply qk_in_exit|apply qk_round_ret|apply qk_round_exit)|((with_reducible apply ws);exact rfl;exact rfl)|((with_reducible apply wl_yes);exact rfl;exact rfl;exact rfl)|((with_reducible apply wl_no);exact rfl;exact rfl;exact rfl;exact rfl)|((with_reducible apply wl_noU);exact rfl;exact rfl;exact rfl)
   cases hn : f.null ver t
   ·refine wc_no rfl rfl ?_
    repeat first|(with_reducible first|apply wc_seq|apply wc_region|apply wl_nil|apply qk_thn|apply wc_block|apply wc_skip|apply wc_ret|apply wc_exit|apply qk_thn_ret|apply qk_in_ret|apply qk_in|apply qk_thn_exit|apply qk_in_exit|apply qk_round_ret|apply qk_round_exit)|((with_reducible apply ws);exact rfl;exact rfl)|((with_reducible apply wl_yes);exact rfl;exact rfl;exact rfl)|((with_reducible apply wl_no);exact rfl;exact rfl;exact rfl;exact rfl)|((with_reducible apply wl_noU);exact rfl;exact rfl;exact rfl)
    exact qk_cut v ⟨rfl, rfl, rfl, rfl, rfl, rfl, trivial⟩ ⟨rfl, by simpa using hsq'⟩
   ·refine wc_yes rfl rfl ?_
    repeat first|(with_reducible first|apply wc_seq|apply wc_region|apply wl_nil|apply qk_thn|apply wc_block|apply wc_skip|apply wc_ret|apply wc_exit|apply qk_thn_ret|apply qk_in_ret|apply qk_in|apply qk_thn_exit|apply qk_in_exit|apply qk_round_ret|apply qk_round_exit)|((with_reducible apply ws);exact rfl;exact rfl)|((with_reducible apply wl_yes);exact rfl;exact rfl;exact rfl)|((with_reducible apply wl_no);exact rfl;exact rfl;exact rfl;exact rfl)|((with_reducible apply wl_noU);exact rfl;exact rfl;exact rfl)
    exact qk_cut (.slice none 0 0) ⟨rfl, rfl, rfl, rfl, rfl, rfl, trivial⟩ ⟨rfl, by simp only [Sq, Rep]; exact ⟨none, 0, rfl, by simp, .inl (by simp)⟩⟩
  rintro x w5 ⟨rfl, hx⟩
  generalize hxl : (if f.null ver t then [] else things t.l) = xs at hx hlim ⊢
  have hxs : ∀ y ∈ xs, y.ok := by
   intro y hy; subst hxl
   split at hy
   ·cases hy
   ·exact hok.l y (List.mem_of_mem_take hy)
  have hxn : xs.length ≤ 32767 := by
   subst hxl; split
   ·simp
   ·simp only [things, Most, List.length_take]; omega
  obtain ⟨xa, xc, rfl, _⟩ := hx.shape
  rw [List.length_map] at *
  repeat first|(with_reducible first|apply wc_seq|apply wc_region|apply wl_nil|apply qk_thn|apply wc_block|apply wc_skip|apply wc_ret|apply wc_exit|apply qk_thn_ret|apply qk_in_ret|apply qk_in|apply qk_thn_exit|apply qk_in_exit|apply qk_round_ret|apply qk_round_exit)|((with_reducible apply ws);exact rfl;exact rfl)|((with_reducible apply wl_yes);exact rfl;exact rfl;exact rfl)|((with_reducible apply wl_no);exact rfl;exact rfl;exact rfl;exact rfl)|((with_reducible apply wl_noU);exact rfl;exact rfl;exact rfl)
  refine wl_call rfl (by kernel_rfl) rfl ((fn_counted flex (f.null ver t) xs.length 4 (by omega) (by omega) w5).mono ?_)
  rintro e w6 ⟨v6, rfl, hb6, ho6⟩
  refine ⟨v6, rfl, ?_⟩
  repeat first|(with_reducible first|apply wc_seq|apply wc_region|apply wl_nil|apply qk_thn|apply wc_block|apply wc_skip|apply wc_ret|apply wc_exit|apply qk_thn_ret|apply qk_in_ret|apply qk_in|apply qk_thn_exit|apply qk_in_exit|apply qk_round_ret|apply qk_round_exit)|((with_reducible apply ws);exact rfl;exact rfl)|((with_reducible apply wl_yes);exact rfl;exact rfl;exact rfl)|((with_reducible apply wl_no);exact rfl;exact rfl;exact rfl;exact rfl)|((with_reducible apply wl_noU);exact rfl;exact rfl;exact rfl)
  have hw5 := hw3.size
  refine wc_loop (α := FdS) (fun s => [(31, .int .i64 (s.i : Int)), (30, .int .i64 (xs.length : Int)), (11, s.d), (10, .slice xa xs.length xc), (7, .pointer (some ⟨w1.heap.size, 0, none⟩)), (4, .pointer (some ⟨w.heap.size, 0, none⟩)), (2, .bool flex), (1, .int .i64 ver)])
   (fun s w' => s.i ≤ xs.length ∧ Below w5.heap.size w5 w' ∧ Own w' w5.heap.size 5 s.d (counted flex (f.null ver t) xs.length 4 ++ (xs.take s.i).flatMap (wVal f.of flex false (wPart ver flex f.sub)))) (fun s => xs.length - s.i) ⟨0, v6⟩ ⟨rfl, rfl, rfl, rfl, rfl, rfl, rfl, rfl, trivial⟩ ⟨Nat.zero_le _, hb6, by simpa using ho6⟩ ?_
  rintro ⟨i, d⟩ w7 ⟨hi, hw7, ho7⟩
  simp only [] at hi ho7
  change WC _ _ _ _ [(31, .int .i64 (i : Int)), (30, .int .i64 (xs.length : Int)), (11, d), (10, .slice xa xs.length xc), (7, .pointer (some ⟨w1.heap.size, 0, none⟩)), (4, .pointer (some ⟨w.heap.size, 0, none⟩)), (2, .bool flex), (1, .int .i64 ver)] _
  repeat first|(with_reducible first|apply wc_seq|apply wc_region|apply wl_nil|apply qk_thn|apply wc_block|apply wc_skip|apply wc_ret|apply wc_exit|apply qk_thn_ret|apply qk_in_ret|apply qk_in|apply qk_thn_exit|apply qk_in_exit|apply qk_round_ret|apply qk_round_exit)|((with_reducible apply ws);exact rfl;exact rfl)|((with_reducible apply wl_yes);exact rfl;exact rfl;exact rfl)|((with_reducible apply wl_no);exact rfl;exact rfl;exact rfl;exact rfl)|((with_reducible apply wl_noU);exact rfl;exact rfl;exact rfl)
  by_cases hlt : i < xs.length
  ·refine wc_yes rfl (by simpa using hlt) ?_
   repeat first|(with_reducible first|apply wc_seq|apply wc_region|apply wl_nil|apply qk_thn|apply wc_block|apply wc_skip|apply wc_ret|apply wc_exit|apply qk_thn_ret|apply qk_in_ret|apply qk_in|apply qk_thn_exit|apply qk_in_exit|apply qk_round_ret|apply qk_round_exit)|((with_reducible apply ws);exact rfl;exact rfl)|((with_reducible apply wl_yes);exact rfl;exact rfl;exact rfl)|((with_reducible apply wl_no);exact rfl;exact rfl;exact rfl;exact rfl)|((with_reducible apply wl_noU);exact rfl;exact rfl;exact rfl)
   obtain ⟨b, off, c', cs, hv2, hbB, hcs, hlen, hr⟩ := hx.get (sz := 5) (i := i) (by intro d hd; obtain ⟨x, _, rfl⟩ := List.mem_map.1 hd; exact treeD_width x) (by simpa using hlt)
   simp only [Value.slice.injEq, List.length_map] at hv2
   obtain ⟨rfl, _, rfl⟩ := hv2
   simp only [List.getElem_map] at hr
   have hcsw : ∀ w', Below w5.heap.size w5 w' → CellsAt w' b (off + i * 5) cs := fun w' h => hcs.of_block (h.block b (by omega))
   have h25 : ∀ w', Below w5.heap.size w5 w' → Below w2.heap.size w2 w' := fun w' h => hw3.trans (h.mono hw5)
   have htk := flatMap_take_succ (wVal f.of flex false (wPart ver flex f.sub)) xs hlt
   have hle := flatMap_take_le (wVal f.of flex false (wPart ver flex f.sub)) xs (i + 1)
   rw [htk] at hle
   simp only [List.length_append] at hle hlim
   refine wc_par [(0, d), (1, .pointer (some ⟨w.heap.size, 0 + 6, none⟩)), (2, .int .i64 f.of), (3, .pointer (some ⟨w.heap.size, 0 + 7, none⟩)), (4, sv), (5, .int .i64 ver), (6, .bool flex), (7, .slice (some ⟨b, off, none⟩) xs.length xc), (8, .int .i64 (i : Int)), (9, .pointer (some ⟨b, off + i * 5, none⟩)), (10, .agg cs.toArray)] [13, 12, 11]
    (fun vals w' => Below w5.heap.size w5 w' ∧ match vals with
     | [] => w' = w7.drew
     | [v] => Below w7.heap.size w7 w' ∧ Own w' w7.heap.size 5 v (wVal f.of flex false (wPart ver flex f.sub) xs[i])
     | v :: _ => Own w' w5.heap.size 5 v (counted flex (f.null ver t) xs.length 4 ++ (xs.take (i + 1)).flatMap (wVal f.of flex false (wPart ver flex f.sub))))
    mixed rfl rfl rfl rfl rfl (by show ([0,1,2,3,4,5,6,7,8,9,10] : List Nat).Nodup; decide) rfl rfl (by decide) rfl rfl rfl rfl ⟨hw7.drew, rfl⟩ ?_ ⟨?_, ?_, ?_, trivial⟩ ?_
   ·intro p hp vals w' hC a k
    simp only [List.mem_cons, List.not_mem_nil, or_false] at hp
    rcases hp with rfl | rfl | rfl | rfl | rfl | rfl | rfl | rfl | rfl | rfl | rfl
    ·exact gv rfl rfl (rn_move k rfl)
    ·exact gv rfl rfl (rn_fieldAddr k rfl fo_fld6)
    ·exact gv rfl rfl (rn_load k rfl to_int ((hbf _ (h25 _ hC.1)).cell0 (i := 6) rfl))
    ·exact gv rfl rfl (rn_fieldAddr k rfl fo_fld7)
    ·exact gv rfl rfl (rn_load k rfl to_flds ((hbf _ (h25 _ hC.1)).cell0 (i := 7) rfl))
    ·exact gv rfl rfl (rn_move k rfl)
    ·exact gv rfl rfl (rn_move k rfl)
    ·exact gv rfl rfl (rn_move k rfl)
    ·exact gv rfl rfl (rn_move k rfl)
    ·exact gv rfl rfl (rn_indexAddr k rfl rfl es_trees hlt)
    ·exact gv rfl rfl (rn_loadAgg k rfl (by rw [hlen]; exact ta_tree) (fun j v e => (hcsw _ hC.1).cell e))
   ·rintro vals w' hvl ⟨hb', hC⟩ a k
    match vals, hvl with
    | [v12, v11], _ => exact ⟨_, rfl, does_assign k rfl ⟨hb', hC⟩⟩
   ·rintro vals w' hvl ⟨hb', hC⟩ a k
    match vals, hvl with
    | [v11], _ =>
     obtain ⟨hb7, hov⟩ := hC
     refine ⟨_, rfl, does_appSl k tb_bytes tb_bytes rfl rfl hov.bytes (ho7.below hb7) hb'.size (by simp only [List.length_append]; omega) (fun d' w'' ho'' hg'' => ⟨hb'.trans (hg''.below hb'.size ho7.ge), ?_⟩)⟩
     simp only []
     rw [htk, ← List.append_assoc]; exact ho''
   ·rintro vals w' hvl ⟨hb', hC⟩ a k
    match vals, hvl with
    | [], _ =>
     simp only [] at hC
     subst hC
     have hw70 := hw7.size
     exact ⟨_, rfl, does_call k rfl (by kernel_rfl) ((hv f.of false flex ver xs[i] w5.heap.size w7.drew _ _ (hxs _ (List.getElem_mem hlt)) hw70 (hsub.below (((hw03.trans (hw7.mono (by omega))).drew).mono hB) (by omega)) (Rep.below hr ((hw7.drew).mono (by omega)) (by omega)) (by omega)).mono (by rintro e w'' ⟨v, rfl, hb'', ho⟩; exact ⟨v, rfl, hb'.trans (hb''.mono hw70), (Below.refl _ w7).drew.trans hb'', ho⟩))⟩
   ·rintro vals w' hvl ⟨hb', hC⟩
    match vals, hvl with
    | [v13, v12, v11], _ =>
     refine qk_thn ?_
     repeat first|(with_reducible first|apply wc_seq|apply wc_region|apply wl_nil|apply qk_thn|apply wc_block|apply wc_skip|apply wc_ret|apply wc_exit|apply qk_thn_ret|apply qk_in_ret|apply qk_in|apply qk_thn_exit|apply qk_in_exit|apply qk_round_ret|apply qk_round_exit)|((with_reducible apply ws);exact rfl;exact rfl)|((with_reducible apply wl_yes);exact rfl;exact rfl;exact rfl)|((with_reducible apply wl_no);exact rfl;exact rfl;exact rfl;exact rfl)|((with_reducible apply wl_noU);exact rfl;exact rfl;exact rfl)
     refine wl_add rfl rfl rfl (r := ((i + 1 : Nat) : Int)) (by rw [IntKind.wrap_i64]; omega) ?_
     repeat first|(with_reducible first|apply wc_seq|apply wc_region|apply wl_nil|apply qk_thn|apply wc_block|apply wc_skip|apply wc_ret|apply wc_exit|apply qk_thn_ret|apply qk_in_ret|apply qk_in|apply qk_thn_exit|apply qk_in_exit|apply qk_round_ret|apply qk_round_exit)|((with_reducible apply ws);exact rfl;exact rfl)|((with_reducible apply wl_yes);exact rfl;exact rfl;exact rfl)|((with_reducible apply wl_no);exact rfl;exact rfl;exact rfl;exact rfl)|((with_reducible apply wl_noU);exact rfl;exact rfl;exact rfl)
     exact qk_round ⟨i + 1, v13⟩ ⟨rfl, rfl, rfl, rfl, rfl, rfl, rfl, rfl, trivial⟩ ⟨by simp only []; omega, hb', hC⟩ (by simp only []; omega)
  ·refine wc_no rfl (by simpa using hlt) ?_
   repeat first|(with_reducible first|apply wc_seq|apply wc_region|apply wl_nil|apply qk_thn|apply wc_block|apply wc_skip|apply wc_ret|apply wc_exit|apply qk_thn_ret|apply qk_in_ret|apply qk_in|apply qk_thn_exit|apply qk_in_exit|apply qk_round_ret|apply qk_round_exit)|((with_reducible apply ws);exact rfl;exact rfl)|((with_reducible apply wl_yes);exact rfl;exact rfl;exact rfl)|((with_reducible apply wl_no);exact rfl;exact rfl;exact rfl;exact rfl)|((with_reducible apply wl_noU);exact rfl;exact rfl;exact rfl)
   refine qk_ret1 rfl rfl ⟨_, rfl, hw03.trans (hw7.mono (by omega)), ?_⟩
   rw [List.take_of_length_le (by omega)] at ho7
   exact ho7.mono (by omega)
 ·refine wc_no rfl (by simpa using h11) ?_
  rw [if_neg h11] at hlim ⊢
  refine wc_skip (qk_thn ?_)
  refine wc_cut (α := Unit) (fun _ => [(9, .bool (f.null ver t)), (7, .pointer (some ⟨w1.heap.size, 0, none⟩)), (4, .pointer (some ⟨w.heap.size, 0, none⟩)), (2, .bool flex), (1, .int .i64 ver)]) (fun _ w' => w' = w3 ∧ ¬ (f.kind = 10 ∧ 0 ≤ f.nul)) ?_ ?_
  ·repeat first|(with_reducible first|apply wc_seq|apply wc_region|apply wl_nil|apply qk_thn|apply wc_block|apply wc_skip|apply wc_ret|apply wc_exit|apply qk_thn_ret|apply qk_in_ret|apply qk_in|apply qk_thn_exit|apply qk_in_exit|apply qk_round_ret|apply qk_round_exit)|((with_reducible apply ws);exact rfl;exact rfl)|((with_reducible apply wl_yes);exact rfl;exact rfl;exact rfl)|((with_reducible apply wl_no);exact rfl;exact rfl;exact rfl;exact rfl)|((with_reducible apply wl_noU);exact rfl;exact rfl;exact rfl)
   refine wl_loadB rfl to_int rfl (hbf _ hw3) rfl ?_
   repeat first|(with_reducible first|apply wc_seq|apply wc_region|apply wl_nil|apply qk_thn|apply wc_block|apply wc_skip|apply wc_ret|apply wc_exit|apply qk_thn_ret|apply qk_in_ret|apply qk_in|apply qk_thn_exit|apply qk_in_exit|apply qk_round_ret|apply qk_round_exit)|((with_reducible apply ws);exact rfl;exact rfl)|((with_reducible apply wl_yes);exact rfl;exact rfl;exact rfl)|((with_reducible apply wl_no);exact rfl;exact rfl;exact rfl;exact rfl)|((with_reducible apply wl_noU);exact rfl;exact rfl;exact rfl)
   by_cases h10 : f.kind = 10
   ·have e10 : (f.kind == 10) = true := by simpa using h10
    rw [e10]
    repeat first|(with_reducible first|apply wc_seq|apply wc_region|apply wl_nil|apply qk_thn|apply wc_block|apply wc_skip|apply wc_ret|apply wc_exit|apply qk_thn_ret|apply qk_in_ret|apply qk_in|apply qk_thn_exit|apply qk_in_exit|apply qk_round_ret|apply qk_round_exit)|((with_reducible apply ws);exact rfl;exact rfl)|((with_reducible apply wl_yes);exact rfl;exact rfl;exact rfl)|((with_reducible apply wl_no);exact rfl;exact rfl;exact rfl;exact rfl)|((with_reducible apply wl_noU);exact rfl;exact rfl;exact rfl)
    refine wl_loadB rfl to_int rfl (hbf _ hw3) rfl ?_
    repeat first|(with_reducible first|apply wc_seq|apply wc_region|apply wl_nil|apply qk_thn|apply wc_block|apply wc_skip|apply wc_ret|apply wc_exit|apply qk_thn_ret|apply qk_in_ret|apply qk_in|apply qk_thn_exit|apply qk_in_exit|apply qk_round_ret|apply qk_round_exit)|((with_reducible apply ws);exact rfl;exact rfl)|((with_reducible apply wl_yes);exact rfl;exact rfl;exact rfl)|((with_reducible apply wl_no);exact rfl;exact rfl;exact rfl;exact rfl)|((with_reducible apply wl_noU);exact rfl;exact rfl;exact rfl)
    by_cases hnl : 0 ≤ f.nul
    ·refine wc_yes rfl (by simpa using hnl) ?_
     rw [if_pos ⟨h10, hnl⟩] at hlim ⊢
     repeat first|(with_reducible first|apply wc_seq|apply wc_region|apply wl_nil|apply qk_thn|apply wc_block|apply wc_skip|apply wc_ret|apply wc_exit|apply qk_thn_ret|apply qk_in_ret|apply qk_in|apply qk_thn_exit|apply qk_in_exit|apply qk_round_ret|apply qk_round_exit)|((with_reducible apply ws);exact rfl;exact rfl)|((with_reducible apply wl_yes);exact rfl;exact rfl;exact rfl)|((with_reducible apply wl_no);exact rfl;exact rfl;exact rfl;exact rfl)|((with_reducible apply wl_noU);exact rfl;exact rfl;exact rfl)
     cases hn : f.null ver t
     ·refine wc_no rfl rfl ?_
      rw [hn] at hlim
      simp only [Bool.false_eq_true, if_false] at hlim ⊢
      repeat first|(with_reducible first|apply wc_seq|apply wc_region|apply wl_nil|apply qk_thn|apply wc_block|apply wc_skip|apply wc_ret|apply wc_exit|apply qk_thn_ret|apply qk_in_ret|apply qk_in|apply qk_thn_exit|apply qk_in_exit|apply qk_round_ret|apply qk_round_exit)|((with_reducible apply ws);exact rfl;exact rfl)|((with_reducible apply wl_yes);exact rfl;exact rfl;exact rfl)|((with_reducible apply wl_no);exact rfl;exact rfl;exact rfl;exact rfl)|((with_reducible apply wl_noU);exact rfl;exact rfl;exact rfl)
      refine wc_par [(1, .pointer (some ⟨w.heap.size, 0 + 7, none⟩)), (2, sv), (3, .int .i64 ver), (4, .bool flex), (5, .agg ([.int .i64 t.n, sv2, .bool t.nul, .slice la (t.l.map treeD).length lc, uv] : List Value).toArray)] [8, 7, 6, 0]
       (fun vals w' => Below w3.heap.size w3 w' ∧ match vals with
        | [] => True
        | [v] => Own w' w3.heap.size 5 v (be 1 1)
        | [v, v0] => Own w' w3.heap.size 5 v0 (be 1 1) ∧ Own w' w3.heap.size 5 v (wPart ver flex f.sub t)
        | v :: _ => Own w' w3.heap.size 5 v (be 1 1 ++ wPart ver flex f.sub t))
       mixed rfl rfl rfl rfl rfl (by show ([1,2,3,4,5] : List Nat).Nodup; decide) rfl rfl (by decide) rfl rfl rfl rfl ⟨(Below.refl _ w3).drew, trivial⟩ ?_ ⟨?_, ?_, ?_, ?_, trivial⟩ ?_
      ·intro p hp vals w' hC a k
       simp only [List.mem_cons, List.not_mem_nil, or_false] at hp
       have hb2' : Below w2.heap.size w2 w' := hw3.trans (hC.1.mono hw3.size)
       rcases hp with rfl | rfl | rfl | rfl | rfl
       ·exact gv rfl rfl (rn_fieldAddr k rfl fo_fld7)
       ·exact gv rfl rfl (rn_load k rfl to_flds ((hbf _ hb2').cell0 (i := 7) rfl))
       ·exact gv rfl rfl (rn_move k rfl)
       ·exact gv rfl rfl (rn_move k rfl)
       ·exact gv rfl rfl (rn_loadBAgg k rfl ta_tree (hbt _ hb2'))
      ·rintro vals w' hvl ⟨hb', hC⟩ a k
       match vals, hvl with
       | [v7, v6, v0], _ => exact ⟨_, rfl, does_assign k rfl ⟨hb', hC⟩⟩
      ·rintro vals w' hvl ⟨hb', hC⟩ a k
       match vals, hvl with
       | [v6, v0], _ =>
        obtain ⟨ho0, ho6⟩ := hC
        exact ⟨_, rfl, does_appSl k tb_bytes tb_bytes rfl rfl ho6.bytes ho0 hb'.size (by simpa using hlim) (fun d' w'' ho'' hg'' => ⟨hb'.trans (hg''.below hb'.size ho0.ge), ho''⟩)⟩
      ·rintro vals w' hvl ⟨hb', hC⟩ a k
       match vals, hvl with
       | [v0], _ =>
        simp only [] at hC
        have hs3 := hb'.size
        refine ⟨_, rfl, does_call k rfl (by kernel_rfl) ((hp flex ver t w3.heap.size w' _ _ hok hs3 (hsub.below ((hw03.trans (hb'.mono hw03.size)).mono hB) (by omega)) (Rep.below ht ((hw03.trans (hb'.mono hw03.size)).mono hB) (by omega)) (by simp only [List.length_append] at hlim; omega)).mono ?_)⟩
        rintro e w'' ⟨v, rfl, hb'', ho⟩
        exact ⟨v, rfl, hb'.trans (hb''.mono hs3), Own.below hC hb'', ho.mono hs3⟩
      ·rintro vals w' hvl ⟨hb', hC⟩ a k
       match vals, hvl with
       | [], _ =>
        exact ⟨_, rfl, does_call k rfl (by kernel_rfl) ((fn_fixed 1 1 (by omega) w').mono (by rintro e w'' ⟨v, rfl, hb'', ho⟩; exact ⟨v, rfl, hb'.trans (hb''.mono hb'.size), ho.mono hb'.size⟩))⟩
      ·rintro vals w' hvl ⟨hb', hC⟩
       match vals, hvl with
       | [v8, v7, v6, v0], _ =>
        refine qk_thn ?_
        repeat first|(with_reducible first|apply wc_seq|apply wc_region|apply wl_nil|apply qk_thn|apply wc_block|apply wc_skip|apply wc_ret|apply wc_exit|apply qk_thn_ret|apply qk_in_ret|apply qk_in|apply qk_thn_exit|apply qk_in_exit|apply qk_round_ret|apply qk_round_exit)|((with_reducible apply ws);exact rfl;exact rfl)|((with_reducible apply wl_yes);exact rfl;exact rfl;exact rfl)|((with_reducible apply wl_no);exact rfl;exact rfl;exact rfl;exact rfl)|((with_reducible apply wl_noU);exact rfl;exact rfl;exact rfl)
        exact qk_ret1 rfl rfl ⟨_, rfl, hw03.trans (hb'.mono (by have := hw03.size; omega)), Own.mono hC (by have := hw03.size; omega)⟩
     ·refine wc_yes rfl rfl ?_
      repeat first|(with_reducible first|apply wc_seq|apply wc_region|apply wl_nil|apply qk_thn|apply wc_block|apply wc_skip|apply wc_ret|apply wc_exit|apply qk_thn_ret|apply qk_in_ret|apply qk_in|apply qk_thn_exit|apply qk_in_exit|apply qk_round_ret|apply qk_round_exit)|((with_reducible apply ws);exact rfl;exact rfl)|((with_reducible apply wl_yes);exact rfl;exact rfl;exact rfl)|((with_reducible apply wl_no);exact rfl;exact rfl;exact rfl;exact rfl)|((with_reducible apply wl_noU);exact rfl;exact rfl;exact rfl)
      refine wl_call rfl (by kernel_rfl) rfl ((fn_fixed (-1) 1 (by omega) w3).mono ?_)
      rintro e w' ⟨v, rfl, hb, ho⟩
      refine ⟨v, rfl, ?_⟩
      repeat first|(with_reducible first|apply wc_seq|apply wc_region|apply wl_nil|apply qk_thn|apply wc_block|apply wc_skip|apply wc_ret|apply wc_exit|apply qk_thn_ret|apply qk_in_ret|apply qk_in|apply qk_thn_exit|apply qk_in_exit|apply qk_round_ret|apply qk_round_exit)|((with_reducible apply ws);exact rfl;exact rfl)|((with_reducible apply wl_yes);exact rfl;exact rfl;exact rfl)|((with_reducible apply wl_no);exact rfl;exact rfl;exact rfl;exact rfl)|((with_reducible apply wl_noU);exact rfl;exact rfl;exact rfl)
      exact qk_ret1 rfl rfl ⟨_, rfl, hw03.trans (hb.mono hw03.size), by simpa using ho.mono hw03.size⟩
    ·refine wc_no rfl (by simpa using hnl) ?_
     repeat first|(with_reducible first|apply wc_seq|apply wc_region|apply wl_nil|apply qk_thn|apply wc_block|apply wc_skip|apply wc_ret|apply wc_exit|apply qk_thn_ret|apply qk_in_ret|apply qk_in|apply qk_thn_exit|apply qk_in_exit|apply qk_round_ret|apply qk_round_exit)|((with_reducible apply ws);exact rfl;exact rfl)|((with_reducible apply wl_yes);exact rfl;exact rfl;exact rfl)|((with_reducible apply wl_no);exact rfl;exact rfl;exact rfl;exact rfl)|((with_reducible apply wl_noU);exact rfl;exact rfl;exact rfl)
     exact qk_cut () ⟨rfl, rfl, rfl, rfl, rfl, trivial⟩ ⟨rfl, fun h => hnl h.2⟩
   ·have e10 : (f.kind == 10) = false := by simpa using h10
    rw [e10]
    repeat first|(with_reducible first|apply wc_seq|apply wc_region|apply wl_nil|apply qk_thn|apply wc_block|apply wc_skip|apply wc_ret|apply wc_exit|apply qk_thn_ret|apply qk_in_ret|apply qk_in|apply qk_thn_exit|apply qk_in_exit|apply qk_round_ret|apply qk_round_exit)|((with_reducible apply ws);exact rfl;exact rfl)|((with_reducible apply wl_yes);exact rfl;exact rfl;exact rfl)|((with_reducible apply wl_no);exact rfl;exact rfl;exact rfl;exact rfl)|((with_reducible apply wl_noU);exact rfl;exact rfl;exact rfl)
    refine wc_no rfl rfl ?_
    repeat first|(with_reducible first|apply wc_seq|apply wc_region|apply wl_nil|apply qk_thn|apply wc_block|apply wc_skip|apply wc_ret|apply wc_exit|apply qk_thn_ret|apply qk_in_ret|apply qk_in|apply qk_thn_exit|apply qk_in_exit|apply qk_round_ret|apply qk_round_exit)|((with_reducible apply ws);exact rfl;exact rfl)|((with_reducible apply wl_yes);exact rfl;exact rfl;exact rfl)|((with_reducible apply wl_no);exact rfl;exact rfl;exact rfl;exact rfl)|((with_reducible apply wl_noU);exact rfl;exact rfl;exact rfl)
    exact qk_cut () ⟨rfl, rfl, rfl, rfl, rfl, trivial⟩ ⟨rfl, fun h => h10 h.1⟩
  rintro _ w4 ⟨rfl, hno⟩
  rw [if_neg hno] at hlim ⊢
  repeat first|(with_reducible first|apply wc_seq|apply wc_region|apply wl_nil|apply qk_thn|apply wc_block|apply wc_skip|apply wc_ret|apply wc_exit|apply qk_thn_ret|apply qk_in_ret|apply qk_in|apply qk_thn_exit|apply qk_in_exit|apply qk_round_ret|apply qk_round_exit)|((with_reducible apply ws);exact rfl;exact rfl)|((with_reducible apply wl_yes);exact rfl;exact rfl;exact rfl)|((with_reducible apply wl_no);exact rfl;exact rfl;exact rfl;exact rfl)|((with_reducible apply wl_noU);exact rfl;exact rfl;exact rfl)
  refine wl_loadB rfl to_int rfl (hbf _ hw3) rfl ?_
  repeat first|(with_reducible first|apply wc_seq|apply wc_region|apply wl_nil|apply qk_thn|apply wc_block|apply wc_skip|apply wc_ret|apply wc_exit|apply qk_thn_ret|apply qk_in_ret|apply qk_in|apply qk_thn_exit|apply qk_in_exit|apply qk_round_ret|apply qk_round_exit)|((with_reducible apply ws);exact rfl;exact rfl)|((with_reducible apply wl_yes);exact rfl;exact rfl;exact rfl)|((with_reducible apply wl_no);exact rfl;exact rfl;exact rfl;exact rfl)|((with_reducible apply wl_noU);exact rfl;exact rfl;exact rfl)
  refine wl_loadB rfl to_flds rfl (hbf _ hw3) rfl ?_
  repeat first|(with_reducible first|apply wc_seq|apply wc_region|apply wl_nil|apply qk_thn|apply wc_block|apply wc_skip|apply wc_ret|apply wc_exit|apply qk_thn_ret|apply qk_in_ret|apply qk_in|apply qk_thn_exit|apply qk_in_exit|apply qk_round_ret|apply qk_round_exit)|((with_reducible apply ws);exact rfl;exact rfl)|((with_reducible apply wl_yes);exact rfl;exact rfl;exact rfl)|((with_reducible apply wl_no);exact rfl;exact rfl;exact rfl;exact rfl)|((with_reducible apply wl_noU);exact rfl;exact rfl;exact rfl)
  refine wl_loadBAgg (cs := [.int .i64 t.n, sv2, .bool t.nul, .slice la (t.l.map treeD).length lc, uv]) rfl ta_tree rfl (hbt _ hw3) ?_
  refine wl_call rfl (by kernel_rfl) rfl ((hv f.kind (f.null ver t) flex ver t B w4 _ _ hok hB3 (hsub.below (hw03.mono hB) (Nat.le_refl _)) (Rep.below ht (hw03.mono hB) (Nat.le_refl _)) hlim).mono ?_)
  rintro e w' ⟨v, rfl, hb, ho⟩
  refine ⟨v, rfl, ?_⟩
  repeat first|(with_reducible first|apply wc_seq|apply wc_region|apply wl_nil|apply qk_thn|apply wc_block|apply wc_skip|apply wc_ret|apply wc_exit|apply qk_thn_ret|apply qk_in_ret|apply qk_in|apply qk_thn_exit|apply qk_in_exit|apply qk_round_ret|apply qk_round_exit)|((with_reducible apply ws);exact rfl;exact rfl)|((with_reducible apply wl_yes);exact rfl;exact rfl;exact rfl)|((with_reducible apply wl_no);exact rfl;exact rfl;exact rfl;exact rfl)|((with_reducible apply wl_noU);exact rfl;exact rfl;exact rfl)
  exact qk_ret1 rfl rfl ⟨_, rfl, hw03.trans (hb.mono hw03.size), ho.mono hw03.size⟩
end
end Go.Proofs.YtlmnaffhadeolaaGreatDoor

namespace Go.Proofs.YtlmnaffhadeolaaGreatDoor
open Go Go.RowKit
theorem usual_eq (f : Fld) (t : Tree) : usual f t =
  if f.kind = 0 then decide (t.n % 2 = f.df)
  else if f.kind = 7 then (t.s.take 16).all (· == 0)
  else if f.kind = 8 ∨ f.kind = 9 then (if 0 ≤ f.nul then t.nul else t.s.isEmpty)
  else if f.kind = 11 then t.l.isEmpty
  else if f.kind = 10 then usuals f.sub 0 t && (unknown f.sub t.u).isEmpty
  else be (width f.kind) t.n == be (width f.kind) f.df := by
 cases f
 simp only [usual, Fld.kind, Fld.nul, Fld.df, Fld.sub]
 rfl
theorem usuals_drop (fs : List Fld) (t : Tree) {i : Nat} (hi : i < fs.length) : usuals (fs.drop i) i t = (usual fs[i] (att t i) && usuals (fs.drop (i + 1)) (i + 1) t) := by
 rw [List.drop_eq_getElem_cons hi]
 simp only [usuals]
def UsualOK (f : Fld) : Prop := ∀ (t : Tree) (B : Nat) (w : World) (cs ts : List Value), t.ok → B ≤ w.heap.size → Rep (Lo B) w (fldD f) cs → Rep (Lo B) w (treeD t) ts →
 Fn 36 [.agg cs.toArray, .agg ts.toArray] w fun v _ => v = .bool (usual f t)
section
variable {P : Program} {N : Nat} {L : Sl} {a : Act} {w : World} {d : Option Nat} {ty : TypeId} {pos : String} {aft : Array Edge} {g : Option (Nat × Bool)}
theorem does_not {x : Operand} {t : TypeId} {b : Bool} {R : Value → World → Prop} (k : Kn N a L) (hx : ev L x = some (.bool b)) (h : R (.bool (!b)) w) : Does P ⟨d, .unOp .not t x, ty, pos, aft, g⟩ a w R := does_of (rn_not k hx) h
end
section
set_option maxRecDepth 100000
theorem usual_of (f : Fld) (hsubOK : fsok f.sub = true) (hu : ∀ g ∈ f.sub, UsualOK g) : UsualOK f := by
 intro t B w cs ts hok hB hf ht
 obtain ⟨sv, rfl, hsub⟩ := fld_cells hf
 obtain ⟨sv2, lv, uv, rfl, hs, hl, huu⟩ := tree_cells ht
 obtain ⟨la, lc, rfl, _⟩ := hl.shape
 obtain ⟨sa, sc, rfl, _⟩ := hs.shape
 rw [usual_eq]
 refine enter Tryz.func36 rfl Tryz.ntmps36 rfl ?_
 repeat first|(with_reducible first|apply wc_seq|apply wc_region|apply wl_nil|apply qk_thn|apply wc_block|apply wc_skip|apply wc_ret|apply wc_exit|apply qk_thn_ret|apply qk_in_ret|apply qk_in|apply qk_thn_exit|apply qk_in_exit|apply qk_round_ret|apply qk_round_exit)|((with_reducible apply ws);exact rfl;exact rfl)|((with_reducible apply wl_yes);exact rfl;exact rfl;exact rfl)|((with_reducible apply wl_no);exact rfl;exact rfl;exact rfl;exact rfl)|((with_reducible apply wl_noU);exact rfl;exact rfl;exact rfl)
 refine wl_box1 rfl rfl rfl (fun w1 hb1 hg1 hs1 => wl_box1 rfl rfl rfl (fun w2 hb2 hg2 hs2 => ?_))
 have hb4 := hb1.kept hg2 (by simp)
 have hw2 : Below w.heap.size w w2 := (below_of hg1 (Nat.le_refl _) (by simp)).trans (below_of hg2 (by omega) (by simp))
 have hB2 : B ≤ w2.heap.size := by omega
 have hbt : ∀ w', Below w2.heap.size w2 w' → Box w' w1.heap.size [.int .i64 t.n, .slice sa (t.s.map byteD).length sc, .bool t.nul, .slice la (t.l.map treeD).length lc, uv] 26 := fun w' h => hb2.below h (by omega)
 have hbf : ∀ w', Below w2.heap.size w2 w' → Box w' w.heap.size [.int .i64 f.kind, .int .i64 f.fr, .int .i64 f.upto, .int .i64 f.nul, .int .i64 f.tag, .int .i64 f.df, .int .i64 f.of, sv] 55 := fun w' h => hb4.below h (by omega)
 repeat first|(with_reducible first|apply wc_seq|apply wc_region|apply wl_nil|apply qk_thn|apply wc_block|apply wc_skip|apply wc_ret|apply wc_exit|apply qk_thn_ret|apply qk_in_ret|apply qk_in|apply qk_thn_exit|apply qk_in_exit|apply qk_round_ret|apply qk_round_exit)|((with_reducible apply ws);exact rfl;exact rfl)|((with_reducible apply wl_yes);exact rfl;exact rfl;exact rfl)|((with_reducible apply wl_no);exact rfl;exact rfl;exact rfl;exact rfl)|((with_reducible apply wl_noU);exact rfl;exact rfl;exact rfl)
 refine wl_loadB rfl to_int rfl hb4 rfl ?_
 repeat first|(with_reducible first|apply wc_seq|apply wc_region|apply wl_nil|apply qk_thn|apply wc_block|apply wc_skip|apply wc_ret|apply wc_exit|apply qk_thn_ret|apply qk_in_ret|apply qk_in|apply qk_thn_exit|apply qk_in_exit|apply qk_round_ret|apply qk_round_exit)|((with_reducible apply ws);exact rfl;exact rfl)|((with_reducible apply wl_yes);exact rfl;exact rfl;exact rfl)|((with_reducible apply wl_no);exact rfl;exact rfl;exact rfl;exact rfl)|((with_reducible apply wl_noU);exact rfl;exact rfl;exact rfl)
 by_cases h0 : f.kind = 0
 ·refine wc_yes rfl (by simpa using h0) ?_
  rw [if_pos h0]
  repeat first|(with_reducible first|apply wc_seq|apply wc_region|apply wl_nil|apply qk_thn|apply wc_block|apply wc_skip|apply wc_ret|apply wc_exit|apply qk_thn_ret|apply qk_in_ret|apply qk_in|apply qk_thn_exit|apply qk_in_exit|apply qk_round_ret|apply qk_round_exit)|((with_reducible apply ws);exact rfl;exact rfl)|((with_reducible apply wl_yes);exact rfl;exact rfl;exact rfl)|((with_reducible apply wl_no);exact rfl;exact rfl;exact rfl;exact rfl)|((with_reducible apply wl_noU);exact rfl;exact rfl;exact rfl)
  refine wl_loadB rfl to_i64 rfl hb2 rfl ?_
  refine wl_and rfl rfl rfl (and1 t.n) ?_
  repeat first|(with_reducible first|apply wc_seq|apply wc_region|apply wl_nil|apply qk_thn|apply wc_block|apply wc_skip|apply wc_ret|apply wc_exit|apply qk_thn_ret|apply qk_in_ret|apply qk_in|apply qk_thn_exit|apply qk_in_exit|apply qk_round_ret|apply qk_round_exit)|((with_reducible apply ws);exact rfl;exact rfl)|((with_reducible apply wl_yes);exact rfl;exact rfl;exact rfl)|((with_reducible apply wl_no);exact rfl;exact rfl;exact rfl;exact rfl)|((with_reducible apply wl_noU);exact rfl;exact rfl;exact rfl)
  refine wl_loadB rfl to_i64 rfl hb4 rfl ?_
  repeat first|(with_reducible first|apply wc_seq|apply wc_region|apply wl_nil|apply qk_thn|apply wc_block|apply wc_skip|apply wc_ret|apply wc_exit|apply qk_thn_ret|apply qk_in_ret|apply qk_in|apply qk_thn_exit|apply qk_in_exit|apply qk_round_ret|apply qk_round_exit)|((with_reducible apply ws);exact rfl;exact rfl)|((with_reducible apply wl_yes);exact rfl;exact rfl;exact rfl)|((with_reducible apply wl_no);exact rfl;exact rfl;exact rfl;exact rfl)|((with_reducible apply wl_noU);exact rfl;exact rfl;exact rfl)
  exact qk_ret1 rfl rfl ⟨_, rfl, hw2, by rw [Bool.beq_eq_decide_eq]⟩
 ·refine wc_no rfl (by simpa using h0) ?_
  rw [if_neg h0]
  repeat first|(with_reducible first|apply wc_seq|apply wc_region|apply wl_nil|apply qk_thn|apply wc_block|apply wc_skip|apply wc_ret|apply wc_exit|apply qk_thn_ret|apply qk_in_ret|apply qk_in|apply qk_thn_exit|apply qk_in_exit|apply qk_round_ret|apply qk_round_exit)|((with_reducible apply ws);exact rfl;exact rfl)|((with_reducible apply wl_yes);exact rfl;exact rfl;exact rfl)|((with_reducible apply wl_no);exact rfl;exact rfl;exact rfl;exact rfl)|((with_reducible apply wl_noU);exact rfl;exact rfl;exact rfl)
  by_cases h7 : f.kind = 7
  ·refine wc_yes rfl (by simpa using h7) ?_
   rw [if_pos h7]
   repeat first|(with_reducible first|apply wc_seq|apply wc_region|apply wl_nil|apply qk_thn|apply wc_block|apply wc_skip|apply wc_ret|apply wc_exit|apply qk_thn_ret|apply qk_in_ret|apply qk_in|apply qk_thn_exit|apply qk_in_exit|apply qk_round_ret|apply qk_round_exit)|((with_reducible apply ws);exact rfl;exact rfl)|((with_reducible apply wl_yes);exact rfl;exact rfl;exact rfl)|((with_reducible apply wl_no);exact rfl;exact rfl;exact rfl;exact rfl)|((with_reducible apply wl_noU);exact rfl;exact rfl;exact rfl)
   refine wl_loadB rfl to_bytes rfl hb2 rfl ?_
   repeat first|(with_reducible first|apply wc_seq|apply wc_region|apply wl_nil|apply qk_thn|apply wc_block|apply wc_skip|apply wc_ret|apply wc_exit|apply qk_thn_ret|apply qk_in_ret|apply qk_in|apply qk_thn_exit|apply qk_in_exit|apply qk_round_ret|apply qk_round_exit)|((with_reducible apply ws);exact rfl;exact rfl)|((with_reducible apply wl_yes);exact rfl;exact rfl;exact rfl)|((with_reducible apply wl_no);exact rfl;exact rfl;exact rfl;exact rfl)|((with_reducible apply wl_noU);exact rfl;exact rfl;exact rfl)
   rw [List.length_map] at *
   refine wc_loop (α := Nat) (fun i => [(24, .int .i64 (i : Int)), (23, .int .i64 (t.s.length : Int)), (22, .slice sa t.s.length sc)]) (fun i w' => i ≤ t.s.length ∧ ((t.s.take i).take 16).all (· == 0) = true ∧ Below w2.heap.size w2 w') (fun i => t.s.length - i) 0 ⟨rfl, rfl, rfl, trivial⟩ ⟨Nat.zero_le _, rfl, Below.refl _ _⟩ ?_
   rintro i w3 ⟨hi, hall, hw3⟩
   have hsl := hok.s
   repeat first|(with_reducible first|apply wc_seq|apply wc_region|apply wl_nil|apply qk_thn|apply wc_block|apply wc_skip|apply wc_ret|apply wc_exit|apply qk_thn_ret|apply qk_in_ret|apply qk_in|apply qk_thn_exit|apply qk_in_exit|apply qk_round_ret|apply qk_round_exit)|((with_reducible apply ws);exact rfl;exact rfl)|((with_reducible apply wl_yes);exact rfl;exact rfl;exact rfl)|((with_reducible apply wl_no);exact rfl;exact rfl;exact rfl;exact rfl)|((with_reducible apply wl_noU);exact rfl;exact rfl;exact rfl)
   by_cases hlt : i < t.s.length
   ·refine wc_yes rfl (by simpa using hlt) ?_
    repeat first|(with_reducible first|apply wc_seq|apply wc_region|apply wl_nil|apply qk_thn|apply wc_block|apply wc_skip|apply wc_ret|apply wc_exit|apply qk_thn_ret|apply qk_in_ret|apply qk_in|apply qk_thn_exit|apply qk_in_exit|apply qk_round_ret|apply qk_round_exit)|((with_reducible apply ws);exact rfl;exact rfl)|((with_reducible apply wl_yes);exact rfl;exact rfl;exact rfl)|((with_reducible apply wl_no);exact rfl;exact rfl;exact rfl;exact rfl)|((with_reducible apply wl_noU);exact rfl;exact rfl;exact rfl)
    have hs3 : Sq B w3 (.slice sa t.s.length sc) (t.s.map byteD) := hs.below ((hw2.trans (hw3.mono (by omega))).mono hB) (Nat.le_refl _)
    obtain ⟨b1, o1, c1, hv1, hc1⟩ := hs3.bytes.get hlt
    simp only [Value.slice.injEq] at hv1
    obtain ⟨rfl, _, rfl⟩ := hv1
    refine wl_indexAddr rfl rfl es_bytes rfl hlt ?_
    refine wl_load rfl to_u8 rfl hc1 ?_
    repeat first|(with_reducible first|apply wc_seq|apply wc_region|apply wl_nil|apply qk_thn|apply wc_block|apply wc_skip|apply wc_ret|apply wc_exit|apply qk_thn_ret|apply qk_in_ret|apply qk_in|apply qk_thn_exit|apply qk_in_exit|apply qk_round_ret|apply qk_round_exit)|((with_reducible apply ws);exact rfl;exact rfl)|((with_reducible apply wl_yes);exact rfl;exact rfl;exact rfl)|((with_reducible apply wl_no);exact rfl;exact rfl;exact rfl;exact rfl)|((with_reducible apply wl_noU);exact rfl;exact rfl;exact rfl)
    by_cases h16 : i < 16
    ·have e16 : decide ((i : Int) < 16) = true := by simp; omega
     rw [e16]
     repeat first|(with_reducible first|apply wc_seq|apply wc_region|apply wl_nil|apply qk_thn|apply wc_block|apply wc_skip|apply wc_ret|apply wc_exit|apply qk_thn_ret|apply qk_in_ret|apply qk_in|apply qk_thn_exit|apply qk_in_exit|apply qk_round_ret|apply qk_round_exit)|((with_reducible apply ws);exact rfl;exact rfl)|((with_reducible apply wl_yes);exact rfl;exact rfl;exact rfl)|((with_reducible apply wl_no);exact rfl;exact rfl;exact rfl;exact rfl)|((with_reducible apply wl_noU);exact rfl;exact rfl;exact rfl)
     by_cases hz : t.s[i] = 0
     ·refine wc_no rfl (by rw [hz]; rfl) ?_
      repeat first|(with_reducible first|apply wc_seq|apply wc_region|apply wl_nil|apply qk_thn|apply wc_block|apply wc_skip|apply wc_ret|apply wc_exit|apply qk_thn_ret|apply qk_in_ret|apply qk_in|apply qk_thn_exit|apply qk_in_exit|apply qk_round_ret|apply qk_round_exit)|((with_reducible apply ws);exact rfl;exact rfl)|((with_reducible apply wl_yes);exact rfl;exact rfl;exact rfl)|((with_reducible apply wl_no);exact rfl;exact rfl;exact rfl;exact rfl)|((with_reducible apply wl_noU);exact rfl;exact rfl;exact rfl)
      refine wl_add rfl rfl rfl (r := ((i + 1 : Nat) : Int)) (by rw [IntKind.wrap_i64]; omega) ?_
      repeat first|(with_reducible first|apply wc_seq|apply wc_region|apply wl_nil|apply qk_thn|apply wc_block|apply wc_skip|apply wc_ret|apply wc_exit|apply qk_thn_ret|apply qk_in_ret|apply qk_in|apply qk_thn_exit|apply qk_in_exit|apply qk_round_ret|apply qk_round_exit)|((with_reducible apply ws);exact rfl;exact rfl)|((with_reducible apply wl_yes);exact rfl;exact rfl;exact rfl)|((with_reducible apply wl_no);exact rfl;exact rfl;exact rfl;exact rfl)|((with_reducible apply wl_noU);exact rfl;exact rfl;exact rfl)
      refine qk_round (i + 1) ⟨rfl, rfl, rfl, trivial⟩ ⟨by omega, ?_, hw3⟩ (by omega)
      rw [List.take_succ_eq_append_getElem hlt, List.take_of_length_le (by simp; omega)]
      rw [List.take_of_length_le (by simp; omega)] at hall
      simp [hall, hz]
     ·refine wc_yes rfl (by simp only [bne_iff_ne, ne_eq]; intro e; exact hz (UInt8.toNat_inj.1 (by simpa using e))) ?_
      repeat first|(with_reducible first|apply wc_seq|apply wc_region|apply wl_nil|apply qk_thn|apply wc_block|apply wc_skip|apply wc_ret|apply wc_exit|apply qk_thn_ret|apply qk_in_ret|apply qk_in|apply qk_thn_exit|apply qk_in_exit|apply qk_round_ret|apply qk_round_exit)|((with_reducible apply ws);exact rfl;exact rfl)|((with_reducible apply wl_yes);exact rfl;exact rfl;exact rfl)|((with_reducible apply wl_no);exact rfl;exact rfl;exact rfl;exact rfl)|((with_reducible apply wl_noU);exact rfl;exact rfl;exact rfl)
      refine qk_ret1 rfl rfl ⟨_, rfl, hw2.trans (hw3.mono (by omega)), ?_⟩
      show Value.bool false = Value.bool _
      congr 1
      symm
      rw [List.all_eq_false]
      refine ⟨t.s[i], ?_, by simpa using hz⟩
      rw [List.mem_iff_getElem]
      exact ⟨i, by simp; omega, by simp⟩
    ·have e16 : decide ((i : Int) < 16) = false := by simp; omega
     rw [e16]
     repeat first|(with_reducible first|apply wc_seq|apply wc_region|apply wl_nil|apply qk_thn|apply wc_block|apply wc_skip|apply wc_ret|apply wc_exit|apply qk_thn_ret|apply qk_in_ret|apply qk_in|apply qk_thn_exit|apply qk_in_exit|apply qk_round_ret|apply qk_round_exit)|((with_reducible apply ws);exact rfl;exact rfl)|((with_reducible apply wl_yes);exact rfl;exact rfl;exact rfl)|((with_reducible apply wl_no);exact rfl;exact rfl;exact rfl;exact rfl)|((with_reducible apply wl_noU);exact rfl;exact rfl;exact rfl)
     refine wc_no rfl rfl ?_
     repeat first|(with_reducible first|apply wc_seq|apply wc_region|apply wl_nil|apply qk_thn|apply wc_block|apply wc_skip|apply wc_ret|apply wc_exit|apply qk_thn_ret|apply qk_in_ret|apply qk_in|apply qk_thn_exit|apply qk_in_exit|apply qk_round_ret|apply qk_round_exit)|((with_reducible apply ws);exact rfl;exact rfl)|((with_reducible apply wl_yes);exact rfl;exact rfl;exact rfl)|((with_reducible apply wl_no);exact rfl;exact rfl;exact rfl;exact rfl)|((with_reducible apply wl_noU);exact rfl;exact rfl;exact rfl)
     refine wl_add rfl rfl rfl (r := ((i + 1 : Nat) : Int)) (by rw [IntKind.wrap_i64]; omega) ?_
     repeat first|(with_reducible first|apply wc_seq|apply wc_region|apply wl_nil|apply qk_thn|apply wc_block|apply wc_skip|apply wc_ret|apply wc_exit|apply qk_thn_ret|apply qk_in_ret|apply qk_in|apply qk_thn_exit|apply qk_in_exit|apply qk_round_ret|apply qk_round_exit)|((with_reducible apply ws);exact rfl;exact rfl)|((with_reducible apply wl_yes);exact rfl;exact rfl;exact rfl)|((with_reducible apply wl_no);exact rfl;exact rfl;exact rfl;exact rfl)|((with_reducible apply wl_noU);exact rfl;exact rfl;exact rfl)
     refine qk_round (i + 1) ⟨rfl, rfl, rfl, trivial⟩ ⟨by omega, ?_, hw3⟩ (by omega)
     rw [List.take_take, Nat.min_eq_left (by omega)]
     rw [List.take_take, Nat.min_eq_left (by omega)] at hall
     exact hall
   ·refine wc_no rfl (by simpa using hlt) ?_
    repeat first|(with_reducible first|apply wc_seq|apply wc_region|apply wl_nil|apply qk_thn|apply wc_block|apply wc_skip|apply wc_ret|apply wc_exit|apply qk_thn_ret|apply qk_in_ret|apply qk_in|apply qk_thn_exit|apply qk_in_exit|apply qk_round_ret|apply qk_round_exit)|((with_reducible apply ws);exact rfl;exact rfl)|((with_reducible apply wl_yes);exact rfl;exact rfl;exact rfl)|((with_reducible apply wl_no);exact rfl;exact rfl;exact rfl;exact rfl)|((with_reducible apply wl_noU);exact rfl;exact rfl;exact rfl)
    refine qk_ret1 rfl rfl ⟨_, rfl, hw2.trans (hw3.mono (by omega)), ?_⟩
    have hi2 : i = t.s.length := by omega
    rw [hi2, List.take_length] at hall
    show Value.bool true = Value.bool _
    rw [hall]
  ·refine wc_no rfl (by simpa using h7) ?_
   rw [if_neg h7]
   repeat first|(with_reducible first|apply wc_seq|apply wc_region|apply wl_nil|apply qk_thn|apply wc_block|apply wc_skip|apply wc_ret|apply wc_exit|apply qk_thn_ret|apply qk_in_ret|apply qk_in|apply qk_thn_exit|apply qk_in_exit|apply qk_round_ret|apply qk_round_exit)|((with_reducible apply ws);exact rfl;exact rfl)|((with_reducible apply wl_yes);exact rfl;exact rfl;exact rfl)|((with_reducible apply wl_no);exact rfl;exact rfl;exact rfl;exact rfl)|((with_reducible apply wl_noU);exact rfl;exact rfl;exact rfl)
   by_cases h89 : f.kind = 8 ∨ f.kind = 9
   ·rw [if_pos h89]
    refine wc_cutT (α := Unit) (fun _ => [(36, .bool true), (2, .pointer (some ⟨w.heap.size, 0, none⟩)), (3, .pointer (some ⟨w1.heap.size, 0, none⟩))]) (fun _ w' => w' = w2) ?_ ?_
    ·by_cases h8 : f.kind = 8
     ·refine wc_yes rfl (by simpa using h8) ?_
      repeat first|(with_reducible first|apply wc_seq|apply wc_region|apply wl_nil|apply qk_thn|apply wc_block|apply wc_skip|apply wc_ret|apply wc_exit|apply qk_thn_ret|apply qk_in_ret|apply qk_in|apply qk_thn_exit|apply qk_in_exit|apply qk_round_ret|apply qk_round_exit)|((with_reducible apply ws);exact rfl;exact rfl)|((with_reducible apply wl_yes);exact rfl;exact rfl;exact rfl)|((with_reducible apply wl_no);exact rfl;exact rfl;exact rfl;exact rfl)|((with_reducible apply wl_noU);exact rfl;exact rfl;exact rfl)
      refine qk_cut () ⟨by rw [h8]; rfl, rfl, rfl, trivial⟩ rfl
     ·have h9 : f.kind = 9 := by rcases h89 with h | h; exact absurd h h8; exact h
      refine wc_no rfl (by simpa using h8) ?_
      repeat first|(with_reducible first|apply wc_seq|apply wc_region|apply wl_nil|apply qk_thn|apply wc_block|apply wc_skip|apply wc_ret|apply wc_exit|apply qk_thn_ret|apply qk_in_ret|apply qk_in|apply qk_thn_exit|apply qk_in_exit|apply qk_round_ret|apply qk_round_exit)|((with_reducible apply ws);exact rfl;exact rfl)|((with_reducible apply wl_yes);exact rfl;exact rfl;exact rfl)|((with_reducible apply wl_no);exact rfl;exact rfl;exact rfl;exact rfl)|((with_reducible apply wl_noU);exact rfl;exact rfl;exact rfl)
      refine qk_cut () ⟨by rw [h9]; rfl, rfl, rfl, trivial⟩ rfl
    rintro _ w3 rfl
    refine wc_yes rfl rfl ?_
    repeat first|(with_reducible first|apply wc_seq|apply wc_region|apply wl_nil|apply qk_thn|apply wc_block|apply wc_skip|apply wc_ret|apply wc_exit|apply qk_thn_ret|apply qk_in_ret|apply qk_in|apply qk_thn_exit|apply qk_in_exit|apply qk_round_ret|apply qk_round_exit)|((with_reducible apply ws);exact rfl;exact rfl)|((with_reducible apply wl_yes);exact rfl;exact rfl;exact rfl)|((with_reducible apply wl_no);exact rfl;exact rfl;exact rfl;exact rfl)|((with_reducible apply wl_noU);exact rfl;exact rfl;exact rfl)
    refine wl_loadB rfl to_int rfl hb4 rfl ?_
    repeat first|(with_reducible first|apply wc_seq|apply wc_region|apply wl_nil|apply qk_thn|apply wc_block|apply wc_skip|apply wc_ret|apply wc_exit|apply qk_thn_ret|apply qk_in_ret|apply qk_in|apply qk_thn_exit|apply qk_in_exit|apply qk_round_ret|apply qk_round_exit)|((with_reducible apply ws);exact rfl;exact rfl)|((with_reducible apply wl_yes);exact rfl;exact rfl;exact rfl)|((with_reducible apply wl_no);exact rfl;exact rfl;exact rfl;exact rfl)|((with_reducible apply wl_noU);exact rfl;exact rfl;exact rfl)
    by_cases hnl : 0 ≤ f.nul
    ·refine wc_yes rfl (by simpa using hnl) ?_
     rw [if_pos hnl]
     repeat first|(with_reducible first|apply wc_seq|apply wc_region|apply wl_nil|apply qk_thn|apply wc_block|apply wc_skip|apply wc_ret|apply wc_exit|apply qk_thn_ret|apply qk_in_ret|apply qk_in|apply qk_thn_exit|apply qk_in_exit|apply qk_round_ret|apply qk_round_exit)|((with_reducible apply ws);exact rfl;exact rfl)|((with_reducible apply wl_yes);exact rfl;exact rfl;exact rfl)|((with_reducible apply wl_no);exact rfl;exact rfl;exact rfl;exact rfl)|((with_reducible apply wl_noU);exact rfl;exact rfl;exact rfl)
     refine wl_loadB rfl to_bool rfl hb2 rfl ?_
     repeat first|(with_reducible first|apply wc_seq|apply wc_region|apply wl_nil|apply qk_thn|apply wc_block|apply wc_skip|apply wc_ret|apply wc_exit|apply qk_thn_ret|apply qk_in_ret|apply qk_in|apply qk_thn_exit|apply qk_in_exit|apply qk_round_ret|apply qk_round_exit)|((with_reducible apply ws);exact rfl;exact rfl)|((with_reducible apply wl_yes);exact rfl;exact rfl;exact rfl)|((with_reducible apply wl_no);exact rfl;exact rfl;exact rfl;exact rfl)|((with_reducible apply wl_noU);exact rfl;exact rfl;exact rfl)
     exact qk_ret1 rfl rfl ⟨_, rfl, hw2, rfl⟩
    ·refine wc_no rfl (by simpa using hnl) ?_
     rw [if_neg hnl]
     repeat first|(with_reducible first|apply wc_seq|apply wc_region|apply wl_nil|apply qk_thn|apply wc_block|apply wc_skip|apply wc_ret|apply wc_exit|apply qk_thn_ret|apply qk_in_ret|apply qk_in|apply qk_thn_exit|apply qk_in_exit|apply qk_round_ret|apply qk_round_exit)|((with_reducible apply ws);exact rfl;exact rfl)|((with_reducible apply wl_yes);exact rfl;exact rfl;exact rfl)|((with_reducible apply wl_no);exact rfl;exact rfl;exact rfl;exact rfl)|((with_reducible apply wl_noU);exact rfl;exact rfl;exact rfl)
     refine wl_loadB rfl to_bytes rfl hb2 rfl ?_
     repeat first|(with_reducible first|apply wc_seq|apply wc_region|apply wl_nil|apply qk_thn|apply wc_block|apply wc_skip|apply wc_ret|apply wc_exit|apply qk_thn_ret|apply qk_in_ret|apply qk_in|apply qk_thn_exit|apply qk_in_exit|apply qk_round_ret|apply qk_round_exit)|((with_reducible apply ws);exact rfl;exact rfl)|((with_reducible apply wl_yes);exact rfl;exact rfl;exact rfl)|((with_reducible apply wl_no);exact rfl;exact rfl;exact rfl;exact rfl)|((with_reducible apply wl_noU);exact rfl;exact rfl;exact rfl)
     refine qk_ret1 rfl rfl ⟨_, rfl, hw2, ?_⟩
     show Value.bool _ = Value.bool _
     congr 1
     cases t.s <;> simp
     omega
   ·rw [if_neg h89]
    have h8 : f.kind ≠ 8 := fun h => h89 (.inl h)
    have h9 : f.kind ≠ 9 := fun h => h89 (.inr h)
    refine wc_cutT (α := Unit) (fun _ => [(36, .bool false), (10, .int .i64 f.kind), (2, .pointer (some ⟨w.heap.size, 0, none⟩)), (3, .pointer (some ⟨w1.heap.size, 0, none⟩))]) (fun _ w' => w' = w2) ?_ ?_
    ·refine wc_no rfl (by simpa using h8) ?_
     repeat first|(with_reducible first|apply wc_seq|apply wc_region|apply wl_nil|apply qk_thn|apply wc_block|apply wc_skip|apply wc_ret|apply wc_exit|apply qk_thn_ret|apply qk_in_ret|apply qk_in|apply qk_thn_exit|apply qk_in_exit|apply qk_round_ret|apply qk_round_exit)|((with_reducible apply ws);exact rfl;exact rfl)|((with_reducible apply wl_yes);exact rfl;exact rfl;exact rfl)|((with_reducible apply wl_no);exact rfl;exact rfl;exact rfl;exact rfl)|((with_reducible apply wl_noU);exact rfl;exact rfl;exact rfl)
     refine qk_cut () ⟨?_, rfl, rfl, rfl, trivial⟩ rfl
     show some (Value.bool (f.kind == 9)) = some (Value.bool false)
     rw [show (f.kind == 9) = false from by simpa using h9]
    rintro _ w3 h3
    obtain rfl := h3.symm
    refine wc_no rfl rfl ?_
    repeat first|(with_reducible first|apply wc_seq|apply wc_region|apply wl_nil|apply qk_thn|apply wc_block|apply wc_skip|apply wc_ret|apply wc_exit|apply qk_thn_ret|apply qk_in_ret|apply qk_in|apply qk_thn_exit|apply qk_in_exit|apply qk_round_ret|apply qk_round_exit)|((with_reducible apply ws);exact rfl;exact rfl)|((with_reducible apply wl_yes);exact rfl;exact rfl;exact rfl)|((with_reducible apply wl_no);exact rfl;exact rfl;exact rfl;exact rfl)|((with_reducible apply wl_noU);exact rfl;exact rfl;exact rfl)
    by_cases h11 : f.kind = 11
    ·refine wc_yes rfl (by simpa using h11) ?_
     rw [if_pos h11]
     repeat first|(with_reducible first|apply wc_seq|apply wc_region|apply wl_nil|apply qk_thn|apply wc_block|apply wc_skip|apply wc_ret|apply wc_exit|apply qk_thn_ret|apply qk_in_ret|apply qk_in|apply qk_thn_exit|apply qk_in_exit|apply qk_round_ret|apply qk_round_exit)|((with_reducible apply ws);exact rfl;exact rfl)|((with_reducible apply wl_yes);exact rfl;exact rfl;exact rfl)|((with_reducible apply wl_no);exact rfl;exact rfl;exact rfl;exact rfl)|((with_reducible apply wl_noU);exact rfl;exact rfl;exact rfl)
     refine wl_loadB rfl to_trees rfl hb2 rfl ?_
     repeat first|(with_reducible first|apply wc_seq|apply wc_region|apply wl_nil|apply qk_thn|apply wc_block|apply wc_skip|apply wc_ret|apply wc_exit|apply qk_thn_ret|apply qk_in_ret|apply qk_in|apply qk_thn_exit|apply qk_in_exit|apply qk_round_ret|apply qk_round_exit)|((with_reducible apply ws);exact rfl;exact rfl)|((with_reducible apply wl_yes);exact rfl;exact rfl;exact rfl)|((with_reducible apply wl_no);exact rfl;exact rfl;exact rfl;exact rfl)|((with_reducible apply wl_noU);exact rfl;exact rfl;exact rfl)
     refine qk_ret1 rfl rfl ⟨_, rfl, hw2, ?_⟩
     show Value.bool _ = Value.bool _
     congr 1
     cases t.l <;> simp
     omega
    ·refine wc_no rfl (by simpa using h11) ?_
     rw [if_neg h11]
     repeat first|(with_reducible first|apply wc_seq|apply wc_region|apply wl_nil|apply qk_thn|apply wc_block|apply wc_skip|apply wc_ret|apply wc_exit|apply qk_thn_ret|apply qk_in_ret|apply qk_in|apply qk_thn_exit|apply qk_in_exit|apply qk_round_ret|apply qk_round_exit)|((with_reducible apply ws);exact rfl;exact rfl)|((with_reducible apply wl_yes);exact rfl;exact rfl;exact rfl)|((with_reducible apply wl_no);exact rfl;exact rfl;exact rfl;exact rfl)|((with_reducible apply wl_noU);exact rfl;exact rfl;exact rfl)
     by_cases h10 : f.kind = 10
     ·refine wc_yes rfl (by simpa using h10) ?_
      rw [if_pos h10]
      repeat first|(with_reducible first|apply wc_seq|apply wc_region|apply wl_nil|apply qk_thn|apply wc_block|apply wc_skip|apply wc_ret|apply wc_exit|apply qk_thn_ret|apply qk_in_ret|apply qk_in|apply qk_thn_exit|apply qk_in_exit|apply qk_round_ret|apply qk_round_exit)|((with_reducible apply ws);exact rfl;exact rfl)|((with_reducible apply wl_yes);exact rfl;exact rfl;exact rfl)|((with_reducible apply wl_no);exact rfl;exact rfl;exact rfl;exact rfl)|((with_reducible apply wl_noU);exact rfl;exact rfl;exact rfl)
      refine wl_loadB rfl to_flds rfl hb4 rfl ?_
      obtain ⟨fa, fc, rfl, _⟩ := hsub.shape
      rw [List.length_map] at *
      repeat first|(with_reducible first|apply wc_seq|apply wc_region|apply wl_nil|apply qk_thn|apply wc_block|apply wc_skip|apply wc_ret|apply wc_exit|apply qk_thn_ret|apply qk_in_ret|apply qk_in|apply qk_thn_exit|apply qk_in_exit|apply qk_round_ret|apply qk_round_exit)|((with_reducible apply ws);exact rfl;exact rfl)|((with_reducible apply wl_yes);exact rfl;exact rfl;exact rfl)|((with_reducible apply wl_no);exact rfl;exact rfl;exact rfl;exact rfl)|((with_reducible apply wl_noU);exact rfl;exact rfl;exact rfl)
      refine wc_loop (α := Nat) (fun i => [(59, .int .i64 (i : Int)), (58, .int .i64 (f.sub.length : Int)), (57, .slice fa f.sub.length fc), (2, .pointer (some ⟨w.heap.size, 0, none⟩)), (3, .pointer (some ⟨w1.heap.size, 0, none⟩))]) (fun i w' => i ≤ f.sub.length ∧ usuals f.sub 0 t = usuals (f.sub.drop i) i t ∧ Below w2.heap.size w2 w') (fun i => f.sub.length - i) 0 ⟨rfl, rfl, rfl, rfl, rfl, trivial⟩ ⟨Nat.zero_le _, rfl, Below.refl _ _⟩ ?_
      rintro i w3 ⟨hi, hall, hw3⟩
      have hfl := fsok.len hsubOK
      have hw03 : Below w.heap.size w w3 := hw2.trans (hw3.mono (by omega))
      have hB3 : B ≤ w3.heap.size := by have := hw3.size; omega
      have hs23 := hw3.size
      repeat first|(with_reducible first|apply wc_seq|apply wc_region|apply wl_nil|apply qk_thn|apply wc_block|apply wc_skip|apply wc_ret|apply wc_exit|apply qk_thn_ret|apply qk_in_ret|apply qk_in|apply qk_thn_exit|apply qk_in_exit|apply qk_round_ret|apply qk_round_exit)|((with_reducible apply ws);exact rfl;exact rfl)|((with_reducible apply wl_yes);exact rfl;exact rfl;exact rfl)|((with_reducible apply wl_no);exact rfl;exact rfl;exact rfl;exact rfl)|((with_reducible apply wl_noU);exact rfl;exact rfl;exact rfl)
      by_cases hlt : i < f.sub.length
      ·refine wc_yes rfl (by simpa using hlt) ?_
       obtain ⟨b, off, c', cs, hv, _, hcs, hlen, hr⟩ := (hsub.below (hw03.mono hB) (Nat.le_refl _)).get (sz := 8) (i := i) (by intro d hd; obtain ⟨x, _, rfl⟩ := List.mem_map.1 hd; exact fldD_width x) (by simpa using hlt)
       simp only [Value.slice.injEq, List.length_map] at hv
       obtain ⟨rfl, _, rfl⟩ := hv
       simp only [List.getElem_map] at hr
       obtain ⟨hone, _⟩ := fld_one hr
       repeat first|(with_reducible first|apply wc_seq|apply wc_region|apply wl_nil|apply qk_thn|apply wc_block|apply wc_skip|apply wc_ret|apply wc_exit|apply qk_thn_ret|apply qk_in_ret|apply qk_in|apply qk_thn_exit|apply qk_in_exit|apply qk_round_ret|apply qk_round_exit)|((with_reducible apply ws);exact rfl;exact rfl)|((with_reducible apply wl_yes);exact rfl;exact rfl;exact rfl)|((with_reducible apply wl_no);exact rfl;exact rfl;exact rfl;exact rfl)|((with_reducible apply wl_noU);exact rfl;exact rfl;exact rfl)
       refine wl_indexAddr rfl rfl es_flds rfl hlt ?_
       refine wl_loadAgg rfl (by rw [hlen]; exact ta_fld) rfl (fun j v e => hcs.cell e) ?_
       refine wl_alloc zv_fld rfl rfl (fun w4 hbx4 hg4 hs4 => ?_)
       repeat first|(with_reducible first|apply wc_seq|apply wc_region|apply wl_nil|apply qk_thn|apply wc_block|apply wc_skip|apply wc_ret|apply wc_exit|apply qk_thn_ret|apply qk_in_ret|apply qk_in|apply qk_thn_exit|apply qk_in_exit|apply qk_round_ret|apply qk_round_exit)|((with_reducible apply ws);exact rfl;exact rfl)|((with_reducible apply wl_yes);exact rfl;exact rfl;exact rfl)|((with_reducible apply wl_no);exact rfl;exact rfl;exact rfl;exact rfl)|((with_reducible apply wl_noU);exact rfl;exact rfl;exact rfl)
       refine wl_storeBAgg rfl rfl rfl (by rw [hlen]; exact tz_fld) hone hbx4 (by rw [hlen]; rfl) (fun w5 hbx5 hg5 hs5 => ?_)
       have hw35 : Below w3.heap.size w3 w5 := (below_of hg4 (Nat.le_refl _) (by simp)).trans (below_of hg5 (by omega) (by intro k hk; simp at hk; omega))
       have hw05 : Below w.heap.size w w5 := hw03.trans (hw35.mono (by omega))
       have hw25 : Below w2.heap.size w2 w5 := hw3.trans (hw35.mono (by omega))
       repeat first|(with_reducible first|apply wc_seq|apply wc_region|apply wl_nil|apply qk_thn|apply wc_block|apply wc_skip|apply wc_ret|apply wc_exit|apply qk_thn_ret|apply qk_in_ret|apply qk_in|apply qk_thn_exit|apply qk_in_exit|apply qk_round_ret|apply qk_round_exit)|((with_reducible apply ws);exact rfl;exact rfl)|((with_reducible apply wl_yes);exact rfl;exact rfl;exact rfl)|((with_reducible apply wl_no);exact rfl;exact rfl;exact rfl;exact rfl)|((with_reducible apply wl_noU);exact rfl;exact rfl;exact rfl)
       refine wc_par [(0, .agg cs.toArray), (1, .agg ([.int .i64 t.n, .slice sa t.s.length sc, .bool t.nul, .slice la t.l.length lc, uv] : List Value).toArray), (2, .int .i64 (i : Int))] [5, 4, 3]
        (fun vals w' => Below w5.heap.size w5 w' ∧ match vals with
         | [] => True
         | [v] => ∃ xs : List Value, v = .agg xs.toArray ∧ Rep (Lo B) w' (treeD (att t i)) xs
         | [v, _] => v = .bool (usual f.sub[i] (att t i))
         | v :: _ => v = .bool (!usual f.sub[i] (att t i)))
        mixed rfl rfl rfl rfl rfl (by show ([0,1,2] : List Nat).Nodup; decide) rfl rfl (by decide) rfl rfl rfl rfl ⟨(Below.refl _ w5).drew, trivial⟩ ?_ ⟨?_, ?_, ?_, trivial⟩ ?_
       ·intro p hp vals w' hC a k
        simp only [List.mem_cons, List.not_mem_nil, or_false] at hp
        rcases hp with rfl | rfl | rfl
        ·exact gv rfl rfl (rn_loadBAgg k rfl (by rw [hlen]; exact ta_fld) (hbx5.below hC.1 (by omega)))
        ·exact gv rfl rfl (rn_loadBAgg k rfl (by rw [show ([.int .i64 t.n, .slice sa t.s.length sc, .bool t.nul, .slice la t.l.length lc, uv] : List Value).length = 5 from rfl]; exact ta_tree) (by have := hbt _ (hw25.trans (hC.1.mono (by omega))); rw [List.length_map] at this; exact this))
        ·exact gv rfl rfl (rn_move k rfl)
       ·rintro vals w' hvl ⟨hb', hC⟩ a k
        match vals, hvl with
        | [v4, v3], _ =>
         simp only [] at hC
         subst hC
         exact ⟨_, rfl, does_not k rfl ⟨hb', rfl⟩⟩
       ·rintro vals w' hvl ⟨hb', hC⟩ a k
        match vals, hvl with
        | [v3], _ =>
         obtain ⟨xs, rfl, hxr⟩ := hC
         refine ⟨_, rfl, does_call k rfl (by kernel_rfl) ((hu f.sub[i] (List.getElem_mem hlt) (att t i) B w' _ _ (hok.at i) (by have := hb'.size; omega) (Rep.below hr ((hw35.trans (hb'.mono (by omega))).mono hB3) (Nat.le_refl _)) hxr).mono ?_)⟩
         rintro e w'' ⟨v, rfl, hb'', rfl⟩
         exact ⟨_, rfl, hb'.trans (hb''.mono hb'.size), rfl⟩
       ·rintro vals w' hvl ⟨hb', hC⟩ a k
        match vals, hvl with
        | [], _ =>
         refine ⟨_, rfl, does_call k rfl (by kernel_rfl) ((fn_at t i B w' (by have := hb'.size; omega) _ (by have := Rep.below ht ((hw05.trans (hb'.mono (by omega))).mono hB) (Nat.le_refl _); rw [List.length_map] at this; exact this)).mono ?_)⟩
         rintro e w'' ⟨v, rfl, hb'', xs, rfl, hxr⟩
         exact ⟨_, rfl, hb'.trans (hb''.mono hb'.size), xs, rfl, hxr⟩
       ·rintro vals w' hvl ⟨hb', hC⟩
        match vals, hvl with
        | [v5, v4, v3], _ =>
         simp only [] at hC
         subst hC
         refine qk_thn ?_
         have hdr := usuals_drop f.sub t hlt
         cases hus : usual f.sub[i] (att t i)
         ·refine wc_yes rfl rfl ?_
          repeat first|(with_reducible first|apply wc_seq|apply wc_region|apply wl_nil|apply qk_thn|apply wc_block|apply wc_skip|apply wc_ret|apply wc_exit|apply qk_thn_ret|apply qk_in_ret|apply qk_in|apply qk_thn_exit|apply qk_in_exit|apply qk_round_ret|apply qk_round_exit)|((with_reducible apply ws);exact rfl;exact rfl)|((with_reducible apply wl_yes);exact rfl;exact rfl;exact rfl)|((with_reducible apply wl_no);exact rfl;exact rfl;exact rfl;exact rfl)|((with_reducible apply wl_noU);exact rfl;exact rfl;exact rfl)
          refine qk_ret1 rfl rfl ⟨_, rfl, hw05.trans (hb'.mono (by omega)), ?_⟩
          rw [hall, hdr, hus]; simp
         ·refine wc_no rfl rfl ?_
          repeat first|(with_reducible first|apply wc_seq|apply wc_region|apply wl_nil|apply qk_thn|apply wc_block|apply wc_skip|apply wc_ret|apply wc_exit|apply qk_thn_ret|apply qk_in_ret|apply qk_in|apply qk_thn_exit|apply qk_in_exit|apply qk_round_ret|apply qk_round_exit)|((with_reducible apply ws);exact rfl;exact rfl)|((with_reducible apply wl_yes);exact rfl;exact rfl;exact rfl)|((with_reducible apply wl_no);exact rfl;exact rfl;exact rfl;exact rfl)|((with_reducible apply wl_noU);exact rfl;exact rfl;exact rfl)
          refine wl_add rfl rfl rfl (r := ((i + 1 : Nat) : Int)) (by rw [IntKind.wrap_i64]; omega) ?_
          repeat first|(with_reducible first|apply wc_seq|apply wc_region|apply wl_nil|apply qk_thn|apply wc_block|apply wc_skip|apply wc_ret|apply wc_exit|apply qk_thn_ret|apply qk_in_ret|apply qk_in|apply qk_thn_exit|apply qk_in_exit|apply qk_round_ret|apply qk_round_exit)|((with_reducible apply ws);exact rfl;exact rfl)|((with_reducible apply wl_yes);exact rfl;exact rfl;exact rfl)|((with_reducible apply wl_no);exact rfl;exact rfl;exact rfl;exact rfl)|((with_reducible apply wl_noU);exact rfl;exact rfl;exact rfl)
          refine qk_round (i + 1) ⟨rfl, rfl, rfl, rfl, rfl, trivial⟩ ⟨by omega, ?_, hw25.trans (hb'.mono (by omega))⟩ (by omega)
          rw [hall, hdr, hus]; simp
      ·refine wc_no rfl (by simpa using hlt) ?_
       repeat first|(with_reducible first|apply wc_seq|apply wc_region|apply wl_nil|apply qk_thn|apply wc_block|apply wc_skip|apply wc_ret|apply wc_exit|apply qk_thn_ret|apply qk_in_ret|apply qk_in|apply qk_thn_exit|apply qk_in_exit|apply qk_round_ret|apply qk_round_exit)|((with_reducible apply ws);exact rfl;exact rfl)|((with_reducible apply wl_yes);exact rfl;exact rfl;exact rfl)|((with_reducible apply wl_no);exact rfl;exact rfl;exact rfl;exact rfl)|((with_reducible apply wl_noU);exact rfl;exact rfl;exact rfl)
       refine wl_loadB rfl to_flds rfl (hbf _ hw3) rfl ?_
       repeat first|(with_reducible first|apply wc_seq|apply wc_region|apply wl_nil|apply qk_thn|apply wc_block|apply wc_skip|apply wc_ret|apply wc_exit|apply qk_thn_ret|apply qk_in_ret|apply qk_in|apply qk_thn_exit|apply qk_in_exit|apply qk_round_ret|apply qk_round_exit)|((with_reducible apply ws);exact rfl;exact rfl)|((with_reducible apply wl_yes);exact rfl;exact rfl;exact rfl)|((with_reducible apply wl_no);exact rfl;exact rfl;exact rfl;exact rfl)|((with_reducible apply wl_noU);exact rfl;exact rfl;exact rfl)
       refine wl_loadB rfl to_tags rfl (hbt _ hw3) rfl ?_
       refine wl_call rfl (by kernel_rfl) rfl ((fn_unknown _ _ f.sub t.u B w3 hB3 (hsub.below (hw03.mono hB) (Nat.le_refl _)) (huu.below (hw03.mono hB) (Nat.le_refl _)) (fsok.tag hsubOK) (by omega)).mono ?_)
       rintro e w4 ⟨v, rfl, hw4, hsq⟩
       refine ⟨_, rfl, ?_⟩
       obtain ⟨va, vc, rfl, _⟩ := hsq.shape
       rw [List.length_map]
       repeat first|(with_reducible first|apply wc_seq|apply wc_region|apply wl_nil|apply qk_thn|apply wc_block|apply wc_skip|apply wc_ret|apply wc_exit|apply qk_thn_ret|apply qk_in_ret|apply qk_in|apply qk_thn_exit|apply qk_in_exit|apply qk_round_ret|apply qk_round_exit)|((with_reducible apply ws);exact rfl;exact rfl)|((with_reducible apply wl_yes);exact rfl;exact rfl;exact rfl)|((with_reducible apply wl_no);exact rfl;exact rfl;exact rfl;exact rfl)|((with_reducible apply wl_noU);exact rfl;exact rfl;exact rfl)
       refine qk_ret1 rfl rfl ⟨_, rfl, hw03.trans (hw4.mono hw03.size), ?_⟩
       show Value.bool _ = Value.bool _
       congr 1
       rw [hall, List.drop_of_length_le (by omega)]
       simp only [usuals, Bool.true_and]
       cases unknown f.sub t.u <;> simp
       omega
     ·refine wc_no rfl (by simpa using h10) ?_
      rw [if_neg h10]
      repeat first|(with_reducible first|apply wc_seq|apply wc_region|apply wl_nil|apply qk_thn|apply wc_block|apply wc_skip|apply wc_ret|apply wc_exit|apply qk_thn_ret|apply qk_in_ret|apply qk_in|apply qk_thn_exit|apply qk_in_exit|apply qk_round_ret|apply qk_round_exit)|((with_reducible apply ws);exact rfl;exact rfl)|((with_reducible apply wl_yes);exact rfl;exact rfl;exact rfl)|((with_reducible apply wl_no);exact rfl;exact rfl;exact rfl;exact rfl)|((with_reducible apply wl_noU);exact rfl;exact rfl;exact rfl)
      refine wc_par [(0, .pointer (some ⟨w1.heap.size, 0 + 0, none⟩)), (1, .int .i64 t.n), (2, .pointer (some ⟨w.heap.size, 0 + 0, none⟩)), (3, .int .i64 f.kind), (6, .pointer (some ⟨w.heap.size, 0 + 5, none⟩)), (7, .int .i64 f.df), (8, .pointer (some ⟨w.heap.size, 0 + 0, none⟩)), (9, .int .i64 f.kind)] [13, 12, 11, 10, 5, 4]
       (fun vals w' => Below w2.heap.size w2 w' ∧ match vals with
        | [] => True
        | [v4] => v4 = .int .i64 (width f.kind : Nat)
        | [v5, _] => Own w' w2.heap.size 5 v5 (be (width f.kind) t.n)
        | [v10, v5, _] => Own w' w2.heap.size 5 v5 (be (width f.kind) t.n) ∧ v10 = .int .i64 (width f.kind : Nat)
        | [v11, _, v5, _] => Own w' w2.heap.size 5 v5 (be (width f.kind) t.n) ∧ Own w' w2.heap.size 5 v11 (be (width f.kind) f.df)
        | v :: _ => v = .bool (be (width f.kind) t.n == be (width f.kind) f.df))
       mixed rfl rfl rfl rfl rfl (by show ([0,1,2,3,6,7,8,9] : List Nat).Nodup; decide) rfl rfl (by decide) rfl rfl rfl rfl ⟨(Below.refl _ w2).drew, trivial⟩ ?_ ⟨?_, ?_, ?_, ?_, ?_, ?_, trivial⟩ ?_
      ·intro p hp vals w' hC a k
       simp only [List.mem_cons, List.not_mem_nil, or_false] at hp
       rcases hp with rfl | rfl | rfl | rfl | rfl | rfl | rfl | rfl
       ·exact gv rfl rfl (rn_fieldAddr k rfl fo_tree0)
       ·exact gv rfl rfl (rn_load k rfl to_i64 ((hbt _ hC.1).cell0 (i := 0) rfl))
       ·exact gv rfl rfl (rn_fieldAddr k rfl fo_fld0)
       ·exact gv rfl rfl (rn_load k rfl to_int ((hbf _ hC.1).cell0 (i := 0) rfl))
       ·exact gv rfl rfl (rn_fieldAddr k rfl fo_fld5)
       ·exact gv rfl rfl (rn_load k rfl to_i64 ((hbf _ hC.1).cell0 (i := 5) rfl))
       ·exact gv rfl rfl (rn_fieldAddr k rfl fo_fld0)
       ·exact gv rfl rfl (rn_load k rfl to_int ((hbf _ hC.1).cell0 (i := 0) rfl))
      ·rintro vals w' hvl ⟨hb', hC⟩ a k
       match vals, hvl with
       | [v12, v11, v10, v5, v4], _ => exact ⟨_, rfl, does_assign k rfl ⟨hb', hC⟩⟩
      ·rintro vals w' hvl ⟨hb', hC⟩ a k
       match vals, hvl with
       | [v11, v10, v5, v4], _ =>
        obtain ⟨ho5, ho11⟩ := hC
        refine ⟨_, rfl, does_call k rfl (by kernel_rfl) ((fn_same _ _ _ _ w' ho5.bytes ho11.bytes (by rw [be_length]; exact Nat.le_trans (width_le _) (by decide)) (by rw [be_length]; exact Nat.le_trans (width_le _) (by decide))).mono ?_)⟩
        rintro e w'' ⟨v, rfl, hb'', rfl⟩
        exact ⟨_, rfl, hb'.trans (hb''.mono hb'.size), rfl⟩
      ·rintro vals w' hvl ⟨hb', hC⟩ a k
       match vals, hvl with
       | [v10, v5, v4], _ =>
        obtain ⟨ho5, rfl⟩ := hC
        refine ⟨_, rfl, does_call k rfl (by kernel_rfl) ((fn_fixed f.df (width f.kind) (width_le _) w').mono ?_)⟩
        rintro e w'' ⟨v, rfl, hb'', ho⟩
        exact ⟨_, rfl, hb'.trans (hb''.mono hb'.size), ho5.below hb'', ho.mono hb'.size⟩
      ·rintro vals w' hvl ⟨hb', hC⟩ a k
       match vals, hvl with
       | [v5, v4], _ =>
        simp only [] at hC
        refine ⟨_, rfl, does_call k rfl (by kernel_rfl) ((fn_width f.kind w').mono ?_)⟩
        rintro e w'' ⟨v, rfl, hb'', rfl, rfl⟩
        exact ⟨_, rfl, hb', hC, rfl⟩
      ·rintro vals w' hvl ⟨hb', hC⟩ a k
       match vals, hvl with
       | [v4], _ =>
        simp only [] at hC
        subst hC
        refine ⟨_, rfl, does_call k rfl (by kernel_rfl) ((fn_fixed t.n (width f.kind) (width_le _) w').mono ?_)⟩
        rintro e w'' ⟨v, rfl, hb'', ho⟩
        exact ⟨_, rfl, hb'.trans (hb''.mono hb'.size), ho.mono hb'.size⟩
      ·rintro vals w' hvl ⟨hb', hC⟩ a k
       match vals, hvl with
       | [], _ =>
        refine ⟨_, rfl, does_call k rfl (by kernel_rfl) ((fn_width f.kind w').mono ?_)⟩
        rintro e w'' ⟨v, rfl, hb'', rfl, rfl⟩
        exact ⟨_, rfl, hb', rfl⟩
      ·rintro vals w' hvl ⟨hb', hC⟩
       match vals, hvl with
       | [v13, v12, v11, v10, v5, v4], _ =>
        simp only [] at hC
        subst hC
        refine qk_thn ?_
        repeat first|(with_reducible first|apply wc_seq|apply wc_region|apply wl_nil|apply qk_thn|apply wc_block|apply wc_skip|apply wc_ret|apply wc_exit|apply qk_thn_ret|apply qk_in_ret|apply qk_in|apply qk_thn_exit|apply qk_in_exit|apply qk_round_ret|apply qk_round_exit)|((with_reducible apply ws);exact rfl;exact rfl)|((with_reducible apply wl_yes);exact rfl;exact rfl;exact rfl)|((with_reducible apply wl_no);exact rfl;exact rfl;exact rfl;exact rfl)|((with_reducible apply wl_noU);exact rfl;exact rfl;exact rfl)
        exact qk_ret1 rfl rfl ⟨_, rfl, hw2.trans (hb'.mono (by omega)), rfl⟩
end
end Go.Proofs.YtlmnaffhadeolaaGreatDoor

namespace Go.Proofs.YtlmnaffhadeolaaGreatDoor
open Go Go.RowKit
theorem wFs_drop (ver : Int) (flex : Bool) (fs : List Fld) (t : Tree) {i : Nat} (hi : i < fs.length) : wFs ver flex (fs.drop i) i t =
    (if fs[i].tag < 0 ∧ fs[i].has ver = true then wField ver flex fs[i] (att t i) else []) ++ wFs ver flex (fs.drop (i + 1)) (i + 1) t := by
  rw [List.drop_eq_getElem_cons hi]
  simp only [wFs]
theorem wTs_drop (ver : Int) (flex : Bool) (fs : List Fld) (k : Nat) (t : Tree) {i : Nat} (hi : i < fs.length) : wTs ver flex (fs.drop i) i k t =
    (if fs[i].tag = (k : Int) ∧ usual fs[i] (att t i) = false then [(k, wField ver flex fs[i] (att t i))] else []) ++ wTs ver flex (fs.drop (i + 1)) (i + 1) k t := by
  rw [List.drop_eq_getElem_cons hi]
  simp only [wTs]
def tagB (l : List (Nat × List UInt8)) : List UInt8 := l.flatMap fun kv => wTag kv.1 kv.2
theorem tagB_append (a b : List (Nat × List UInt8)) : tagB (a ++ b) = tagB a ++ tagB b := by simp [tagB]
theorem tagB_one (k : Nat) (b : List UInt8) : tagB [(k, b)] = wTag k b := by simp [tagB]
theorem tagB_len (l : List (Nat × List UInt8)) : l.length ≤ (tagB l).length := by
  induction l with
  | nil => simp
  | cons a l ih =>
    have : tagB (a :: l) = wTag a.1 a.2 ++ tagB l := by simp [tagB]
    rw [this]
    have := uvar_pos a.1
    simp only [List.length_cons, List.length_append, wTag]; omega
theorem wTag_len (k : Nat) (b : List UInt8) : b.length ≤ (wTag k b).length := by simp [wTag]; omega
def below (ver : Int) (flex : Bool) (fs : List Fld) (t : Tree) (m : Nat) : List (Nat × List UInt8) := (List.range m).flatMap fun k => wTs ver flex fs 0 k t
theorem below_succ (ver : Int) (flex : Bool) (fs : List Fld) (t : Tree) (m : Nat) : below ver flex fs t (m + 1) = below ver flex fs t m ++ wTs ver flex fs 0 m t := by
  simp [below, List.range_succ]
theorem below_le (ver : Int) (flex : Bool) (fs : List Fld) (t : Tree) {m n : Nat} (h : m ≤ n) : (tagB (below ver flex fs t m)).length ≤ (tagB (below ver flex fs t n)).length := by
  induction n with
  | zero => have : m = 0 := by omega
            subst this; exact Nat.le_refl _
  | succ n ih =>
    by_cases h1 : m = n + 1
    · subst h1; exact Nat.le_refl _
    · have := ih (by omega)
      rw [below_succ, tagB_append, List.length_append]; omega
theorem allTags_eq (ver : Int) (flex : Bool) (fs : List Fld) (t : Tree) : allTags ver flex fs t = below ver flex fs t (known fs) ++ others fs t.u := rfl
theorem wPart_false (ver : Int) (fs : List Fld) (t : Tree) : wPart ver false fs t = wFs ver false fs 0 t := rfl
theorem wPart_true (ver : Int) (fs : List Fld) (t : Tree) : wPart ver true fs t = wFs ver true fs 0 t ++ (uvar (allTags ver true fs t).length ++ tagB (allTags ver true fs t)) := rfl
theorem putTag_mem (k : Nat) (v : List UInt8) (l : List (Nat × List UInt8)) : ∀ x ∈ putTag k v l, x = (k, v) ∨ x ∈ l := by
  induction l with
  | nil => intro x hx; simp [putTag] at hx; exact .inl hx
  | cons a l ih =>
    intro x hx
    simp only [putTag] at hx
    split at hx
    · rcases List.mem_cons.1 hx with rfl | h
      · exact .inr (by simp)
      · rcases ih x h with h | h
        · exact .inl h
        · exact .inr (by simp [h])
    · split at hx
      · exact .inr hx
      · rcases List.mem_cons.1 hx with rfl | h
        · exact .inl rfl
        · exact .inr h
theorem unknown_mem (fs : List Fld) (u : List (Nat × List UInt8)) : ∀ x ∈ unknown fs u, x ∈ u := by
  have : ∀ (l out : List (Nat × List UInt8)), ∀ x ∈ l.foldl (step (known fs)) out, x ∈ out ∨ x ∈ l := by
    intro l
    induction l with
    | nil => intro out x hx; exact .inl hx
    | cons a l ih =>
      intro out x hx
      rcases ih _ x hx with h | h
      · unfold step at h
        split at h
        · exact .inl h
        · rcases putTag_mem _ _ _ x h with rfl | h
          · exact .inr (by simp)
          · exact .inl h
      · exact .inr (by simp [h])
  intro x hx
  rcases this (u.take Most) [] x hx with h | h
  · cases h
  · exact List.mem_of_mem_take h
theorem unknown_len (fs : List Fld) (u : List (Nat × List UInt8)) : (unknown fs u).length ≤ 32767 := by
  have := step_fold_length (known fs) (u.take Most) []
  simp only [List.length_nil, List.length_take, Nat.zero_add] at this
  exact Nat.le_trans this (Nat.min_le_left _ _)
theorem apart_of {v d : Value} {n : Nat} (hv : ∀ g, v.ownBlock = some g → n ≤ g) (hd : ∀ g, d.ownBlock = some g → g < n) : v.ownBlock = none ∨ v.ownBlock ≠ d.ownBlock := by
  cases h : v.ownBlock with
  | none => exact .inl rfl
  | some g => exact .inr (fun e => by have h1 := hv g h; have h2 := hd g e.symm; omega)
theorem Own.apart {w w' : World} {B u8 : Nat} {v d d' : Value} {ys : List UInt8} (hv : Own w B u8 v ys) (hd : v.ownBlock = none ∨ v.ownBlock ≠ d.ownBlock) (hg : Grew w w' d d') : Own w' B u8 v ys ∧ (v.ownBlock = none ∨ v.ownBlock ≠ d'.ownBlock) := by
  refine ⟨hv.kept hg.grown hd, ?_⟩
  rcases hd with h | h
  · exact .inl h
  · rcases hg.fresh with hf | hf
    · exact .inr (by rw [hf]; exact h)
    · cases hvb : v.ownBlock with
      | none => exact .inl rfl
      | some g => exact .inr (fun e => by have h1 := hf g e.symm; have h2 := hv.lt g hvb; omega)
theorem does_pick {P : Program} {N : Nat} {L : Sl} {a : Act} {w : World} {d : Option Nat} {ty : TypeId} {pos : String} {aft : Array Edge} {g : Option (Nat × Bool)} {c x y : Operand} {b : Bool} {v : Value} {R : Value → World → Prop} (k : Kn N a L) (hc : ev L c = some (.bool b)) (hv : ev L (bif b then x else y) = some v) (h : R v w) : Does P ⟨d, .pick c x y, ty, pos, aft, g⟩ a w R := does_of (rn_pick k hc hv) h
theorem Below.between {n : Nat} {a b c : World} (h : Below n a b) (k : Below n a c) (hs : b.heap.size ≤ c.heap.size) : Below n b c :=
  ⟨k.os.trans h.os.symm, k.tape.trans h.tape.symm, k.output.trans h.output.symm, hs, fun i hi => (k.block i hi).trans (h.block i hi).symm⟩
structure PtS where
  i : Nat
  d : Value
  xs : List UInt8
structure PtT where
  k : Nat
  d : Value
  l : List (Nat × List UInt8)
section
set_option maxRecDepth 100000
theorem part_of (fs : List Fld) (hfs : fsok fs = true) (hF : ∀ f ∈ fs, FieldOK f) (hU : ∀ f ∈ fs, UsualOK f) : PartOK fs := by
  intro flex ver t B w fv ts hok hB hf ht hlim
  obtain ⟨sv2, lv, uv, rfl, hs, hl, hu⟩ := tree_cells ht
  obtain ⟨fa, fc, rfl, _⟩ := hf.shape
  have hn := fsok.len hfs
  rw [List.length_map] at *
  have hFs : (wFs ver flex fs 0 t).length ≤ lim := by
    cases flex
    · exact hlim
    · rw [wPart_true, List.length_append] at hlim; omega
  refine enter Tryz.func49 rfl Tryz.ntmps49 rfl ?_
  repeat first|(with_reducible first|apply wc_seq|apply wc_region|apply wl_nil|apply qk_thn|apply wc_block|apply wc_skip|apply wc_ret|apply wc_exit|apply qk_thn_ret|apply qk_in_ret|apply qk_in|apply qk_thn_exit|apply qk_in_exit|apply qk_round_ret|apply qk_round_exit)|((with_reducible apply ws);exact rfl;exact rfl)|((with_reducible apply wl_yes);exact rfl;exact rfl;exact rfl)|((with_reducible apply wl_no);exact rfl;exact rfl;exact rfl;exact rfl)|((with_reducible apply wl_noU);exact rfl;exact rfl;exact rfl)
  refine wl_box1 rfl rfl rfl (fun w1 hb1 hg1 hs1 => ?_)
  have hw1 : Below w.heap.size w w1 := below_of hg1 (Nat.le_refl _) (by simp)
  refine wl_assign rfl rfl (wl_nil (qk_thn ?_))
  refine wc_seq (wc_region ?_)
  repeat first|((with_reducible apply ws);exact rfl;exact rfl)|((with_reducible apply wl_yes);exact rfl;exact rfl;exact rfl)|((with_reducible apply wl_no);exact rfl;exact rfl;exact rfl;exact rfl)|((with_reducible apply wl_noU);exact rfl;exact rfl;exact rfl)
  refine wl_nil (qk_thn (wc_seq (wc_region ?_)))
  repeat first|((with_reducible apply ws);exact rfl;exact rfl)|((with_reducible apply wl_yes);exact rfl;exact rfl;exact rfl)|((with_reducible apply wl_no);exact rfl;exact rfl;exact rfl;exact rfl)|((with_reducible apply wl_noU);exact rfl;exact rfl;exact rfl)
  refine wl_nil (qk_thn ?_)
  refine wc_cut (α := PtS) (fun s => [(9, s.d), (10, .slice none 0 0), (11, .int .i64 0), (7, .pointer (some ⟨w.heap.size, 0, none⟩)), (2, .bool flex), (1, .int .i64 ver), (0, .slice fa fs.length fc)])
    (fun s w' => Below w1.heap.size w1 w' ∧ Own w' w1.heap.size 5 s.d (wFs ver flex fs 0 t)) ?_ ?_
  · repeat first|(with_reducible first|apply wc_seq|apply wc_region|apply wl_nil|apply qk_thn|apply wc_block|apply wc_skip|apply wc_ret|apply wc_exit|apply qk_thn_ret|apply qk_in_ret|apply qk_in|apply qk_thn_exit|apply qk_in_exit|apply qk_round_ret|apply qk_round_exit)|((with_reducible apply ws);exact rfl;exact rfl)|((with_reducible apply wl_yes);exact rfl;exact rfl;exact rfl)|((with_reducible apply wl_no);exact rfl;exact rfl;exact rfl;exact rfl)|((with_reducible apply wl_noU);exact rfl;exact rfl;exact rfl)
    refine wc_loop (α := PtS) (fun s => [(23, .int .i64 (s.i : Int)), (22, .int .i64 (fs.length : Int)), (21, .slice fa fs.length fc), (9, s.d), (10, .slice none 0 0), (11, .int .i64 0), (7, .pointer (some ⟨w.heap.size, 0, none⟩)), (2, .bool flex), (1, .int .i64 ver), (0, .slice fa fs.length fc)])
      (fun s w' => s.i ≤ fs.length ∧ Below w1.heap.size w1 w' ∧ Own w' w1.heap.size 5 s.d s.xs ∧ s.xs ++ wFs ver flex (fs.drop s.i) s.i t = wFs ver flex fs 0 t) (fun s => fs.length - s.i) ⟨0, .slice none 0 0, []⟩ ⟨rfl, rfl, rfl, rfl, rfl, rfl, rfl, rfl, rfl, rfl, trivial⟩ ⟨Nat.zero_le _, Below.refl _ _, Own.nil _ _ _, rfl⟩ ?_
    rintro ⟨i, d, xs⟩ w2 ⟨hi, hw2, ho2, hx⟩
    simp only [] at hi ho2 hx
    change WC _ _ _ _ [(23, .int .i64 (i : Int)), (22, .int .i64 (fs.length : Int)), (21, .slice fa fs.length fc), (9, d), (10, .slice none 0 0), (11, .int .i64 0), (7, .pointer (some ⟨w.heap.size, 0, none⟩)), (2, .bool flex), (1, .int .i64 ver), (0, .slice fa fs.length fc)] _
    have hw02 : Below w.heap.size w w2 := hw1.trans (hw2.mono (by omega))
    repeat first|(with_reducible first|apply wc_seq|apply wc_region|apply wl_nil|apply qk_thn|apply wc_block|apply wc_skip|apply wc_ret|apply wc_exit|apply qk_thn_ret|apply qk_in_ret|apply qk_in|apply qk_thn_exit|apply qk_in_exit|apply qk_round_ret|apply qk_round_exit)|((with_reducible apply ws);exact rfl;exact rfl)|((with_reducible apply wl_yes);exact rfl;exact rfl;exact rfl)|((with_reducible apply wl_no);exact rfl;exact rfl;exact rfl;exact rfl)|((with_reducible apply wl_noU);exact rfl;exact rfl;exact rfl)
    by_cases hlt : i < fs.length
    · refine wc_yes rfl (by simpa using hlt) ?_
      obtain ⟨b, off, c', cs, hv, _, hcs, hlen, hr⟩ := (hf.below (hw02.mono hB) (Nat.le_refl _)).get (sz := 8) (i := i) (by intro d hd; obtain ⟨x, _, rfl⟩ := List.mem_map.1 hd; exact fldD_width x) (by simpa using hlt)
      simp only [Value.slice.injEq, List.length_map] at hv
      obtain ⟨rfl, _, rfl⟩ := hv
      simp only [List.getElem_map] at hr
      obtain ⟨hone, _⟩ := fld_one hr
      obtain ⟨sv, hce, _⟩ := fld_cells hr
      subst hce
      have hdr := wFs_drop ver flex fs t hlt
      repeat first|(with_reducible first|apply wc_seq|apply wc_region|apply wl_nil|apply qk_thn|apply wc_block|apply wc_skip|apply wc_ret|apply wc_exit|apply qk_thn_ret|apply qk_in_ret|apply qk_in|apply qk_thn_exit|apply qk_in_exit|apply qk_round_ret|apply qk_round_exit)|((with_reducible apply ws);exact rfl;exact rfl)|((with_reducible apply wl_yes);exact rfl;exact rfl;exact rfl)|((with_reducible apply wl_no);exact rfl;exact rfl;exact rfl;exact rfl)|((with_reducible apply wl_noU);exact rfl;exact rfl;exact rfl)
      refine wl_indexAddr rfl rfl es_flds rfl hlt ?_
      refine wl_loadAgg (cs := [.int .i64 fs[i].kind, .int .i64 fs[i].fr, .int .i64 fs[i].upto, .int .i64 fs[i].nul, .int .i64 fs[i].tag, .int .i64 fs[i].df, .int .i64 fs[i].of, sv]) rfl ta_fld rfl (fun j v e => hcs.cell e) ?_
      refine wl_alloc zv_fld rfl rfl (fun w3 hb3 hg3 hs3 => ?_)
      repeat first|(with_reducible first|apply wc_seq|apply wc_region|apply wl_nil|apply qk_thn|apply wc_block|apply wc_skip|apply wc_ret|apply wc_exit|apply qk_thn_ret|apply qk_in_ret|apply qk_in|apply qk_thn_exit|apply qk_in_exit|apply qk_round_ret|apply qk_round_exit)|((with_reducible apply ws);exact rfl;exact rfl)|((with_reducible apply wl_yes);exact rfl;exact rfl;exact rfl)|((with_reducible apply wl_no);exact rfl;exact rfl;exact rfl;exact rfl)|((with_reducible apply wl_noU);exact rfl;exact rfl;exact rfl)
      refine wl_storeBAgg (vs := [.int .i64 fs[i].kind, .int .i64 fs[i].fr, .int .i64 fs[i].upto, .int .i64 fs[i].nul, .int .i64 fs[i].tag, .int .i64 fs[i].df, .int .i64 fs[i].of, sv]) rfl rfl rfl tz_fld hone hb3 rfl (fun w4 hb4 hg4 hs4 => ?_)
      have hw24 : Below w2.heap.size w2 w4 := (below_of hg3 (Nat.le_refl _) (by simp)).trans (below_of hg4 (by omega) (by intro k hk; simp at hk; omega))
      have hs12 := hw2.size
      have hw14 : Below w1.heap.size w1 w4 := hw2.trans (hw24.mono hs12)
      have hw04 : Below w.heap.size w w4 := hw02.trans (hw24.mono (by omega))
      have ho4 := ho2.below hw24
      have hB4 : B ≤ w4.heap.size := by omega
      repeat first|(with_reducible first|apply wc_seq|apply wc_region|apply wl_nil|apply qk_thn|apply wc_block|apply wc_skip|apply wc_ret|apply wc_exit|apply qk_thn_ret|apply qk_in_ret|apply qk_in|apply qk_thn_exit|apply qk_in_exit|apply qk_round_ret|apply qk_round_exit)|((with_reducible apply ws);exact rfl;exact rfl)|((with_reducible apply wl_yes);exact rfl;exact rfl;exact rfl)|((with_reducible apply wl_no);exact rfl;exact rfl;exact rfl;exact rfl)|((with_reducible apply wl_noU);exact rfl;exact rfl;exact rfl)
      refine wl_loadB rfl to_int rfl hb4 rfl ?_
      repeat first|(with_reducible first|apply wc_seq|apply wc_region|apply wl_nil|apply qk_thn|apply wc_block|apply wc_skip|apply wc_ret|apply wc_exit|apply qk_thn_ret|apply qk_in_ret|apply qk_in|apply qk_thn_exit|apply qk_in_exit|apply qk_round_ret|apply qk_round_exit)|((with_reducible apply ws);exact rfl;exact rfl)|((with_reducible apply wl_yes);exact rfl;exact rfl;exact rfl)|((with_reducible apply wl_no);exact rfl;exact rfl;exact rfl;exact rfl)|((with_reducible apply wl_noU);exact rfl;exact rfl;exact rfl)
      by_cases htag : fs[i].tag < 0
      · have e1 : decide (fs[i].tag < 0) = true := by simpa using htag
        rw [e1]
        repeat first|(with_reducible first|apply wc_seq|apply wc_region|apply wl_nil|apply qk_thn|apply wc_block|apply wc_skip|apply wc_ret|apply wc_exit|apply qk_thn_ret|apply qk_in_ret|apply qk_in|apply qk_thn_exit|apply qk_in_exit|apply qk_round_ret|apply qk_round_exit)|((with_reducible apply ws);exact rfl;exact rfl)|((with_reducible apply wl_yes);exact rfl;exact rfl;exact rfl)|((with_reducible apply wl_no);exact rfl;exact rfl;exact rfl;exact rfl)|((with_reducible apply wl_noU);exact rfl;exact rfl;exact rfl)
        refine wl_loadBAgg (cs := [.int .i64 fs[i].kind, .int .i64 fs[i].fr, .int .i64 fs[i].upto, .int .i64 fs[i].nul, .int .i64 fs[i].tag, .int .i64 fs[i].df, .int .i64 fs[i].of, sv]) rfl ta_fld rfl hb4 ?_
        repeat first|(with_reducible first|apply wc_seq|apply wc_region|apply wl_nil|apply qk_thn|apply wc_block|apply wc_skip|apply wc_ret|apply wc_exit|apply qk_thn_ret|apply qk_in_ret|apply qk_in|apply qk_thn_exit|apply qk_in_exit|apply qk_round_ret|apply qk_round_exit)|((with_reducible apply ws);exact rfl;exact rfl)|((with_reducible apply wl_yes);exact rfl;exact rfl;exact rfl)|((with_reducible apply wl_no);exact rfl;exact rfl;exact rfl;exact rfl)|((with_reducible apply wl_noU);exact rfl;exact rfl;exact rfl)
        refine wl_call rfl (by kernel_rfl) rfl ((fn_has fs[i] ver B w4 hB4 _ (Rep.below hr (hw24.mono (by omega)) (Nat.le_refl _))).mono ?_)
        rintro e w5 ⟨v, rfl, hw5, rfl⟩
        refine ⟨_, rfl, ?_⟩
        have hb5 := hb4.below hw5 hb4.lt
        have hs45 := hw5.size
        have hw15 := hw14.trans (hw5.mono (by omega))
        have hw05 := hw04.trans (hw5.mono (by omega))
        have ho5 := ho4.below hw5
        repeat first|(with_reducible first|apply wc_seq|apply wc_region|apply wl_nil|apply qk_thn|apply wc_block|apply wc_skip|apply wc_ret|apply wc_exit|apply qk_thn_ret|apply qk_in_ret|apply qk_in|apply qk_thn_exit|apply qk_in_exit|apply qk_round_ret|apply qk_round_exit)|((with_reducible apply ws);exact rfl;exact rfl)|((with_reducible apply wl_yes);exact rfl;exact rfl;exact rfl)|((with_reducible apply wl_no);exact rfl;exact rfl;exact rfl;exact rfl)|((with_reducible apply wl_noU);exact rfl;exact rfl;exact rfl)
        cases hh : fs[i].has ver
        · refine wc_no rfl rfl ?_
          repeat first|(with_reducible first|apply wc_seq|apply wc_region|apply wl_nil|apply qk_thn|apply wc_block|apply wc_skip|apply wc_ret|apply wc_exit|apply qk_thn_ret|apply qk_in_ret|apply qk_in|apply qk_thn_exit|apply qk_in_exit|apply qk_round_ret|apply qk_round_exit)|((with_reducible apply ws);exact rfl;exact rfl)|((with_reducible apply wl_yes);exact rfl;exact rfl;exact rfl)|((with_reducible apply wl_no);exact rfl;exact rfl;exact rfl;exact rfl)|((with_reducible apply wl_noU);exact rfl;exact rfl;exact rfl)
          refine wl_add rfl rfl rfl (r := ((i + 1 : Nat) : Int)) (by rw [IntKind.wrap_i64]; omega) ?_
          repeat first|(with_reducible first|apply wc_seq|apply wc_region|apply wl_nil|apply qk_thn|apply wc_block|apply wc_skip|apply wc_ret|apply wc_exit|apply qk_thn_ret|apply qk_in_ret|apply qk_in|apply qk_thn_exit|apply qk_in_exit|apply qk_round_ret|apply qk_round_exit)|((with_reducible apply ws);exact rfl;exact rfl)|((with_reducible apply wl_yes);exact rfl;exact rfl;exact rfl)|((with_reducible apply wl_no);exact rfl;exact rfl;exact rfl;exact rfl)|((with_reducible apply wl_noU);exact rfl;exact rfl;exact rfl)
          refine qk_round ⟨i + 1, d, xs⟩ ⟨rfl, rfl, rfl, rfl, rfl, rfl, rfl, rfl, rfl, rfl, trivial⟩ ⟨by simp only []; omega, hw15, ho5, ?_⟩ (by simp only []; omega)
          rw [hdr, if_neg (by rw [hh]; simp)] at hx
          exact hx
        · refine wc_yes rfl rfl ?_
          rw [hdr, if_pos ⟨htag, hh⟩] at hx
          have hxl := congrArg List.length hx
          simp only [List.length_append] at hxl
          repeat first|(with_reducible first|apply wc_seq|apply wc_region|apply wl_nil|apply qk_thn|apply wc_block|apply wc_skip|apply wc_ret|apply wc_exit|apply qk_thn_ret|apply qk_in_ret|apply qk_in|apply qk_thn_exit|apply qk_in_exit|apply qk_round_ret|apply qk_round_exit)|((with_reducible apply ws);exact rfl;exact rfl)|((with_reducible apply wl_yes);exact rfl;exact rfl;exact rfl)|((with_reducible apply wl_no);exact rfl;exact rfl;exact rfl;exact rfl)|((with_reducible apply wl_noU);exact rfl;exact rfl;exact rfl)
          have hw25 : Below w2.heap.size w2 w5 := hw24.trans (hw5.mono (by omega))
          refine wc_par [(0, d), (1, .agg ([.int .i64 fs[i].kind, .int .i64 fs[i].fr, .int .i64 fs[i].upto, .int .i64 fs[i].nul, .int .i64 fs[i].tag, .int .i64 fs[i].df, .int .i64 fs[i].of, sv] : List Value).toArray), (2, .int .i64 ver), (3, .bool flex), (4, .agg ([.int .i64 t.n, sv2, .bool t.nul, lv, uv] : List Value).toArray), (5, .int .i64 (i : Int))] [9, 8, 7, 6]
            (fun vals w' => Below w1.heap.size w1 w' ∧ Box w' w2.heap.size [.int .i64 fs[i].kind, .int .i64 fs[i].fr, .int .i64 fs[i].upto, .int .i64 fs[i].nul, .int .i64 fs[i].tag, .int .i64 fs[i].df, .int .i64 fs[i].of, sv] 55 ∧ match vals with
              | [] => Below w5.heap.size w5 w'
              | [v] => Below w5.heap.size w5 w' ∧ ∃ xs' : List Value, v = .agg xs'.toArray ∧ Rep (Lo B) w' (treeD (att t i)) xs'
              | [v, _] => Below w5.heap.size w5 w' ∧ Own w' w5.heap.size 5 v (wField ver flex fs[i] (att t i))
              | v :: _ => Own w' w1.heap.size 5 v (xs ++ wField ver flex fs[i] (att t i)))
            mixed rfl rfl rfl rfl rfl (by show ([0,1,2,3,4,5] : List Nat).Nodup; decide) rfl rfl (by decide) rfl rfl rfl rfl ⟨hw15.drew, hb5, (Below.refl _ w5).drew⟩ ?_ ⟨?_, ?_, ?_, ?_, trivial⟩ ?_
          · intro p hp vals w' hC a k
            simp only [List.mem_cons, List.not_mem_nil, or_false] at hp
            rcases hp with rfl | rfl | rfl | rfl | rfl | rfl
            · exact gv rfl rfl (rn_move k rfl)
            · exact gv rfl rfl (rn_loadBAgg k rfl ta_fld hC.2.1)
            · exact gv rfl rfl (rn_move k rfl)
            · exact gv rfl rfl (rn_move k rfl)
            · exact gv rfl rfl (rn_loadBAgg k rfl ta_tree (hb1.below hC.1 (by omega)))
            · exact gv rfl rfl (rn_move k rfl)
          · rintro vals w' hvl ⟨hb', hbx', hC⟩ a k
            match vals, hvl with
            | [v8, v7, v6], _ => exact ⟨_, rfl, does_assign k rfl ⟨hb', hbx', hC⟩⟩
          · rintro vals w' hvl ⟨hb', hbx', hC⟩ a k
            match vals, hvl with
            | [v7, v6], _ =>
              obtain ⟨hb5', ho7⟩ := hC
              have hod := ho5.below hb5'
              refine ⟨_, rfl, does_appSl k tb_bytes tb_bytes rfl rfl ho7.bytes hod (by have := hb'.size; omega) (by omega) (fun d' w'' ho'' hg'' => ⟨hb'.trans (hg''.below hb'.size hod.ge), hbx'.kept hg''.grown ?_, ho''⟩)⟩
              intro e
              have := ho2.lt _ e.symm
              omega
          · rintro vals w' hvl ⟨hb', hbx', hC⟩ a k
            match vals, hvl with
            | [v6], _ =>
              obtain ⟨hb5', xs', rfl, hxr⟩ := hC
              have hs5' := hb5'.size
              refine ⟨_, rfl, does_call k rfl (by kernel_rfl) ((hF fs[i] (List.getElem_mem hlt) flex ver (att t i) B w' _ _ (hok.at i) (by omega) (Rep.below hr ((hw25.trans (hb5'.mono (by omega))).mono (by omega)) (Nat.le_refl _)) hxr (by omega)).mono ?_)⟩
              rintro e w'' ⟨v, rfl, hb'', ho⟩
              exact ⟨_, rfl, hb'.trans (hb''.mono hb'.size), hbx'.below hb'' hbx'.lt, hb5'.trans (hb''.mono hs5'), ho.mono hs5'⟩
          · rintro vals w' hvl ⟨hb', hbx', hC⟩ a k
            match vals, hvl with
            | [], _ =>
              simp only [] at hC
              have hs5' := hC.size
              refine ⟨_, rfl, does_call k rfl (by kernel_rfl) ((fn_at t i B w' (by omega) _ (Rep.below ht ((hw05.trans (hC.mono (by omega))).mono hB) (Nat.le_refl _))).mono ?_)⟩
              rintro e w'' ⟨v, rfl, hb'', xs', rfl, hxr⟩
              exact ⟨_, rfl, hb'.trans (hb''.mono hb'.size), hbx'.below hb'' hbx'.lt, hC.trans (hb''.mono hs5'), xs', rfl, hxr⟩
          · rintro vals w' hvl ⟨hb', hbx', hC⟩
            match vals, hvl with
            | [v9, v8, v7, v6], _ =>
              refine qk_thn ?_
              repeat first|(with_reducible first|apply wc_seq|apply wc_region|apply wl_nil|apply qk_thn|apply wc_block|apply wc_skip|apply wc_ret|apply wc_exit|apply qk_thn_ret|apply qk_in_ret|apply qk_in|apply qk_thn_exit|apply qk_in_exit|apply qk_round_ret|apply qk_round_exit)|((with_reducible apply ws);exact rfl;exact rfl)|((with_reducible apply wl_yes);exact rfl;exact rfl;exact rfl)|((with_reducible apply wl_no);exact rfl;exact rfl;exact rfl;exact rfl)|((with_reducible apply wl_noU);exact rfl;exact rfl;exact rfl)
              refine wl_add rfl rfl rfl (r := ((i + 1 : Nat) : Int)) (by rw [IntKind.wrap_i64]; omega) ?_
              repeat first|(with_reducible first|apply wc_seq|apply wc_region|apply wl_nil|apply qk_thn|apply wc_block|apply wc_skip|apply wc_ret|apply wc_exit|apply qk_thn_ret|apply qk_in_ret|apply qk_in|apply qk_thn_exit|apply qk_in_exit|apply qk_round_ret|apply qk_round_exit)|((with_reducible apply ws);exact rfl;exact rfl)|((with_reducible apply wl_yes);exact rfl;exact rfl;exact rfl)|((with_reducible apply wl_no);exact rfl;exact rfl;exact rfl;exact rfl)|((with_reducible apply wl_noU);exact rfl;exact rfl;exact rfl)
              refine qk_round ⟨i + 1, v9, xs ++ wField ver flex fs[i] (att t i)⟩ ⟨rfl, rfl, rfl, rfl, rfl, rfl, rfl, rfl, rfl, rfl, trivial⟩ ⟨by simp only []; omega, hb', hC, ?_⟩ (by simp only []; omega)
              rw [List.append_assoc]; exact hx
      · have e1 : decide (fs[i].tag < 0) = false := by simpa using htag
        rw [e1]
        repeat first|(with_reducible first|apply wc_seq|apply wc_region|apply wl_nil|apply qk_thn|apply wc_block|apply wc_skip|apply wc_ret|apply wc_exit|apply qk_thn_ret|apply qk_in_ret|apply qk_in|apply qk_thn_exit|apply qk_in_exit|apply qk_round_ret|apply qk_round_exit)|((with_reducible apply ws);exact rfl;exact rfl)|((with_reducible apply wl_yes);exact rfl;exact rfl;exact rfl)|((with_reducible apply wl_no);exact rfl;exact rfl;exact rfl;exact rfl)|((with_reducible apply wl_noU);exact rfl;exact rfl;exact rfl)
        refine wc_no rfl rfl ?_
        repeat first|(with_reducible first|apply wc_seq|apply wc_region|apply wl_nil|apply qk_thn|apply wc_block|apply wc_skip|apply wc_ret|apply wc_exit|apply qk_thn_ret|apply qk_in_ret|apply qk_in|apply qk_thn_exit|apply qk_in_exit|apply qk_round_ret|apply qk_round_exit)|((with_reducible apply ws);exact rfl;exact rfl)|((with_reducible apply wl_yes);exact rfl;exact rfl;exact rfl)|((with_reducible apply wl_no);exact rfl;exact rfl;exact rfl;exact rfl)|((with_reducible apply wl_noU);exact rfl;exact rfl;exact rfl)
        refine wl_add rfl rfl rfl (r := ((i + 1 : Nat) : Int)) (by rw [IntKind.wrap_i64]; omega) ?_
        repeat first|(with_reducible first|apply wc_seq|apply wc_region|apply wl_nil|apply qk_thn|apply wc_block|apply wc_skip|apply wc_ret|apply wc_exit|apply qk_thn_ret|apply qk_in_ret|apply qk_in|apply qk_thn_exit|apply qk_in_exit|apply qk_round_ret|apply qk_round_exit)|((with_reducible apply ws);exact rfl;exact rfl)|((with_reducible apply wl_yes);exact rfl;exact rfl;exact rfl)|((with_reducible apply wl_no);exact rfl;exact rfl;exact rfl;exact rfl)|((with_reducible apply wl_noU);exact rfl;exact rfl;exact rfl)
        refine qk_round ⟨i + 1, d, xs⟩ ⟨rfl, rfl, rfl, rfl, rfl, rfl, rfl, rfl, rfl, rfl, trivial⟩ ⟨by simp only []; omega, hw14, ho4, ?_⟩ (by simp only []; omega)
        rw [hdr, if_neg (fun h => htag h.1)] at hx
        exact hx
    · refine wc_no rfl (by simpa using hlt) ?_
      repeat first|(with_reducible first|apply wc_seq|apply wc_region|apply wl_nil|apply qk_thn|apply wc_block|apply wc_skip|apply wc_ret|apply wc_exit|apply qk_thn_ret|apply qk_in_ret|apply qk_in|apply qk_thn_exit|apply qk_in_exit|apply qk_round_ret|apply qk_round_exit)|((with_reducible apply ws);exact rfl;exact rfl)|((with_reducible apply wl_yes);exact rfl;exact rfl;exact rfl)|((with_reducible apply wl_no);exact rfl;exact rfl;exact rfl;exact rfl)|((with_reducible apply wl_noU);exact rfl;exact rfl;exact rfl)
      refine qk_cut ⟨0, d, xs⟩ ⟨rfl, rfl, rfl, rfl, rfl, rfl, rfl, trivial⟩ ⟨hw2, ?_⟩
      rw [List.drop_of_length_le (by omega)] at hx
      simp only [wFs, List.append_nil] at hx
      rw [← hx]; exact ho2
  rintro ⟨_, out, _⟩ w2 ⟨hw2, ho2⟩
  simp only [] at ho2
  have hs12 := hw2.size
  have hw02 : Below w.heap.size w w2 := hw1.trans (hw2.mono (by omega))
  refine wc_seq (wc_seq (wc_region ?_))
  repeat first|((with_reducible apply ws);exact rfl;exact rfl)|((with_reducible apply wl_yes);exact rfl;exact rfl;exact rfl)|((with_reducible apply wl_no);exact rfl;exact rfl;exact rfl;exact rfl)|((with_reducible apply wl_noU);exact rfl;exact rfl;exact rfl)
  refine wl_nil (qk_thn ?_)
  cases flex
  · refine wc_yes rfl rfl ?_
    repeat first|(with_reducible first|apply wc_seq|apply wc_region|apply wl_nil|apply qk_thn|apply wc_block|apply wc_skip|apply wc_ret|apply wc_exit|apply qk_thn_ret|apply qk_in_ret|apply qk_in|apply qk_thn_exit|apply qk_in_exit|apply qk_round_ret|apply qk_round_exit)|((with_reducible apply ws);exact rfl;exact rfl)|((with_reducible apply wl_yes);exact rfl;exact rfl;exact rfl)|((with_reducible apply wl_no);exact rfl;exact rfl;exact rfl;exact rfl)|((with_reducible apply wl_noU);exact rfl;exact rfl;exact rfl)
    exact qk_ret1 rfl rfl ⟨_, rfl, hw02, by rw [wPart_false]; exact ho2.mono (by omega)⟩
  refine wc_no rfl rfl ?_
  refine wc_skip (qk_thn ?_)
  have hKn := known_le (fsok.tag hfs)
  have hlimA := hlim
  rw [wPart_true, allTags_eq] at hlimA
  simp only [List.length_append, tagB_append] at hlimA
  refine wc_cut (α := PtT) (fun s => [(10, s.d), (11, .int .i64 (s.l.length : Int)), (9, out), (7, .pointer (some ⟨w.heap.size, 0, none⟩)), (2, .bool true), (1, .int .i64 ver), (0, .slice fa fs.length fc)])
    (fun s w' => Below w2.heap.size w2 w' ∧ Own w' w2.heap.size 5 s.d (tagB s.l) ∧ s.l = below ver true fs t (known fs)) ?_ ?_
  · repeat first|(with_reducible first|apply wc_seq|apply wc_region|apply wl_nil|apply qk_thn|apply wc_block|apply wc_skip|apply wc_ret|apply wc_exit|apply qk_thn_ret|apply qk_in_ret|apply qk_in|apply qk_thn_exit|apply qk_in_exit|apply qk_round_ret|apply qk_round_exit)|((with_reducible apply ws);exact rfl;exact rfl)|((with_reducible apply wl_yes);exact rfl;exact rfl;exact rfl)|((with_reducible apply wl_no);exact rfl;exact rfl;exact rfl;exact rfl)|((with_reducible apply wl_noU);exact rfl;exact rfl;exact rfl)
    refine wl_call rfl (by kernel_rfl) rfl ((fn_known _ fs B w2 (by omega) (hf.below (hw02.mono hB) (Nat.le_refl _)) (fsok.tag hfs) (by omega)).mono ?_)
    rintro e w3 ⟨v, rfl, hw3, rfl⟩
    refine ⟨_, rfl, ?_⟩
    refine wl_conv .i64 rfl ti_u32 ti_i64 rfl (r := (known fs : Int)) (by rw [IntKind.wrap_i64]; omega) ?_
    repeat first|(with_reducible first|apply wc_seq|apply wc_region|apply wl_nil|apply qk_thn|apply wc_block|apply wc_skip|apply wc_ret|apply wc_exit|apply qk_thn_ret|apply qk_in_ret|apply qk_in|apply qk_thn_exit|apply qk_in_exit|apply qk_round_ret|apply qk_round_exit)|((with_reducible apply ws);exact rfl;exact rfl)|((with_reducible apply wl_yes);exact rfl;exact rfl;exact rfl)|((with_reducible apply wl_no);exact rfl;exact rfl;exact rfl;exact rfl)|((with_reducible apply wl_noU);exact rfl;exact rfl;exact rfl)
    refine wc_loop (α := PtT) (fun s => [(52, .int .i64 (s.k : Int)), (51, .int .i64 (known fs : Int)), (10, s.d), (11, .int .i64 (s.l.length : Int)), (9, out), (7, .pointer (some ⟨w.heap.size, 0, none⟩)), (2, .bool true), (1, .int .i64 ver), (0, .slice fa fs.length fc)])
      (fun s w' => s.k ≤ known fs ∧ Below w2.heap.size w2 w' ∧ Own w' w2.heap.size 5 s.d (tagB s.l) ∧ s.l = below ver true fs t s.k) (fun s => known fs - s.k) ⟨0, .slice none 0 0, []⟩ ⟨rfl, rfl, rfl, rfl, rfl, rfl, rfl, rfl, rfl, trivial⟩ ⟨Nat.zero_le _, hw3, Own.nil _ _ _, rfl⟩ ?_
    rintro ⟨k, d, l⟩ w4 ⟨hk, hw4, hd4, hl⟩
    simp only [] at hk hd4 hl
    change WC _ _ _ _ [(52, .int .i64 (k : Int)), (51, .int .i64 (known fs : Int)), (10, d), (11, .int .i64 (l.length : Int)), (9, out), (7, .pointer (some ⟨w.heap.size, 0, none⟩)), (2, .bool true), (1, .int .i64 ver), (0, .slice fa fs.length fc)] _
    repeat first|(with_reducible first|apply wc_seq|apply wc_region|apply wl_nil|apply qk_thn|apply wc_block|apply wc_skip|apply wc_ret|apply wc_exit|apply qk_thn_ret|apply qk_in_ret|apply qk_in|apply qk_thn_exit|apply qk_in_exit|apply qk_round_ret|apply qk_round_exit)|((with_reducible apply ws);exact rfl;exact rfl)|((with_reducible apply wl_yes);exact rfl;exact rfl;exact rfl)|((with_reducible apply wl_no);exact rfl;exact rfl;exact rfl;exact rfl)|((with_reducible apply wl_noU);exact rfl;exact rfl;exact rfl)
    by_cases hkl : k < known fs
    · refine wc_yes rfl (by simpa using hkl) ?_
      repeat first|(with_reducible first|apply wc_seq|apply wc_region|apply wl_nil|apply qk_thn|apply wc_block|apply wc_skip|apply wc_ret|apply wc_exit|apply qk_thn_ret|apply qk_in_ret|apply qk_in|apply qk_thn_exit|apply qk_in_exit|apply qk_round_ret|apply qk_round_exit)|((with_reducible apply ws);exact rfl;exact rfl)|((with_reducible apply wl_yes);exact rfl;exact rfl;exact rfl)|((with_reducible apply wl_no);exact rfl;exact rfl;exact rfl;exact rfl)|((with_reducible apply wl_noU);exact rfl;exact rfl;exact rfl)
      have hbl := below_le ver true fs t (m := k + 1) (n := known fs) hkl
      rw [below_succ, tagB_append, List.length_append] at hbl
      refine wc_loop (α := PtT) (fun s => [(57, .int .i64 (s.k : Int)), (56, .int .i64 (fs.length : Int)), (55, .slice fa fs.length fc), (14, .int .i64 (k : Int)), (52, .int .i64 (k : Int)), (51, .int .i64 (known fs : Int)), (10, s.d), (11, .int .i64 (s.l.length : Int)), (9, out), (7, .pointer (some ⟨w.heap.size, 0, none⟩)), (2, .bool true), (1, .int .i64 ver), (0, .slice fa fs.length fc)])
        (fun s w' => s.k ≤ fs.length ∧ Below w2.heap.size w2 w' ∧ Own w' w2.heap.size 5 s.d (tagB s.l) ∧ s.l ++ wTs ver true (fs.drop s.k) s.k k t = below ver true fs t k ++ wTs ver true fs 0 k t) (fun s => fs.length - s.k) ⟨0, d, l⟩ ⟨rfl, rfl, rfl, rfl, rfl, rfl, rfl, rfl, rfl, rfl, rfl, rfl, rfl, trivial⟩ ⟨Nat.zero_le _, hw4, hd4, by rw [hl]; rfl⟩ ?_
      rintro ⟨i, d, l⟩ w5 ⟨hi, hw5, hd5, hl⟩
      simp only [] at hi hd5 hl
      change WC _ _ _ _ [(57, .int .i64 (i : Int)), (56, .int .i64 (fs.length : Int)), (55, .slice fa fs.length fc), (14, .int .i64 (k : Int)), (52, .int .i64 (k : Int)), (51, .int .i64 (known fs : Int)), (10, d), (11, .int .i64 (l.length : Int)), (9, out), (7, .pointer (some ⟨w.heap.size, 0, none⟩)), (2, .bool true), (1, .int .i64 ver), (0, .slice fa fs.length fc)] _
      have hs25 := hw5.size
      have hw05 : Below w.heap.size w w5 := hw02.trans (hw5.mono (by omega))
      have hll := congrArg (fun x => (tagB x).length) hl
      simp only [tagB_append, List.length_append] at hll
      have hln := tagB_len l
      simp only [lim] at hlimA
      repeat first|(with_reducible first|apply wc_seq|apply wc_region|apply wl_nil|apply qk_thn|apply wc_block|apply wc_skip|apply wc_ret|apply wc_exit|apply qk_thn_ret|apply qk_in_ret|apply qk_in|apply qk_thn_exit|apply qk_in_exit|apply qk_round_ret|apply qk_round_exit)|((with_reducible apply ws);exact rfl;exact rfl)|((with_reducible apply wl_yes);exact rfl;exact rfl;exact rfl)|((with_reducible apply wl_no);exact rfl;exact rfl;exact rfl;exact rfl)|((with_reducible apply wl_noU);exact rfl;exact rfl;exact rfl)
      by_cases hlt : i < fs.length
      · refine wc_yes rfl (by simpa using hlt) ?_
        obtain ⟨b, off, c', cs, hv, _, hcs, hlen, hr⟩ := (hf.below (hw05.mono hB) (Nat.le_refl _)).get (sz := 8) (i := i) (by intro d hd; obtain ⟨x, _, rfl⟩ := List.mem_map.1 hd; exact fldD_width x) (by simpa using hlt)
        simp only [Value.slice.injEq, List.length_map] at hv
        obtain ⟨rfl, _, rfl⟩ := hv
        simp only [List.getElem_map] at hr
        obtain ⟨hone, _⟩ := fld_one hr
        obtain ⟨sv, hce, _⟩ := fld_cells hr
        subst hce
        have hdr := wTs_drop ver true fs k t hlt
        repeat first|(with_reducible first|apply wc_seq|apply wc_region|apply wl_nil|apply qk_thn|apply wc_block|apply wc_skip|apply wc_ret|apply wc_exit|apply qk_thn_ret|apply qk_in_ret|apply qk_in|apply qk_thn_exit|apply qk_in_exit|apply qk_round_ret|apply qk_round_exit)|((with_reducible apply ws);exact rfl;exact rfl)|((with_reducible apply wl_yes);exact rfl;exact rfl;exact rfl)|((with_reducible apply wl_no);exact rfl;exact rfl;exact rfl;exact rfl)|((with_reducible apply wl_noU);exact rfl;exact rfl;exact rfl)
        refine wl_indexAddr rfl rfl es_flds rfl hlt ?_
        refine wl_loadAgg (cs := [.int .i64 fs[i].kind, .int .i64 fs[i].fr, .int .i64 fs[i].upto, .int .i64 fs[i].nul, .int .i64 fs[i].tag, .int .i64 fs[i].df, .int .i64 fs[i].of, sv]) rfl ta_fld rfl (fun j v e => hcs.cell e) ?_
        refine wl_alloc zv_fld rfl rfl (fun w6 hb6 hg6 hs6 => ?_)
        repeat first|(with_reducible first|apply wc_seq|apply wc_region|apply wl_nil|apply qk_thn|apply wc_block|apply wc_skip|apply wc_ret|apply wc_exit|apply qk_thn_ret|apply qk_in_ret|apply qk_in|apply qk_thn_exit|apply qk_in_exit|apply qk_round_ret|apply qk_round_exit)|((with_reducible apply ws);exact rfl;exact rfl)|((with_reducible apply wl_yes);exact rfl;exact rfl;exact rfl)|((with_reducible apply wl_no);exact rfl;exact rfl;exact rfl;exact rfl)|((with_reducible apply wl_noU);exact rfl;exact rfl;exact rfl)
        refine wl_storeBAgg (vs := [.int .i64 fs[i].kind, .int .i64 fs[i].fr, .int .i64 fs[i].upto, .int .i64 fs[i].nul, .int .i64 fs[i].tag, .int .i64 fs[i].df, .int .i64 fs[i].of, sv]) rfl rfl rfl tz_fld hone hb6 rfl (fun w7 hb7 hg7 hs7 => ?_)
        have hw57 : Below w5.heap.size w5 w7 := (below_of hg6 (Nat.le_refl _) (by simp)).trans (below_of hg7 (by omega) (by intro k hk; simp at hk; omega))
        have hw27 : Below w2.heap.size w2 w7 := hw5.trans (hw57.mono hs25)
        have hw07 : Below w.heap.size w w7 := hw02.trans (hw27.mono (by omega))
        have hd7 := hd5.below hw57
        have hs57 := hw57.size
        have hB7 : B ≤ w7.heap.size := by omega
        have htc : ∀ w', Below w7.heap.size w7 w' → Box w' w.heap.size [.int .i64 t.n, sv2, .bool t.nul, lv, uv] 26 := fun w' h => hb1.below (hw2.trans ((hw27.trans (h.mono (by omega))).mono (by omega))) (by omega)
        repeat first|(with_reducible first|apply wc_seq|apply wc_region|apply wl_nil|apply qk_thn|apply wc_block|apply wc_skip|apply wc_ret|apply wc_exit|apply qk_thn_ret|apply qk_in_ret|apply qk_in|apply qk_thn_exit|apply qk_in_exit|apply qk_round_ret|apply qk_round_exit)|((with_reducible apply ws);exact rfl;exact rfl)|((with_reducible apply wl_yes);exact rfl;exact rfl;exact rfl)|((with_reducible apply wl_no);exact rfl;exact rfl;exact rfl;exact rfl)|((with_reducible apply wl_noU);exact rfl;exact rfl;exact rfl)
        have hrw : ∀ w', Below w7.heap.size w7 w' → Rep (Lo B) w' (fldD fs[i]) [.int .i64 fs[i].kind, .int .i64 fs[i].fr, .int .i64 fs[i].upto, .int .i64 fs[i].nul, .int .i64 fs[i].tag, .int .i64 fs[i].df, .int .i64 fs[i].of, sv] := fun w' h => Rep.below hr ((hw57.trans (h.mono hs57)).mono (by omega)) (Nat.le_refl _)
        have htw : ∀ w', Below w7.heap.size w7 w' → Rep (Lo B) w' (treeD t) [.int .i64 t.n, sv2, .bool t.nul, lv, uv] := fun w' h => Rep.below ht ((hw07.trans (h.mono (by omega))).mono hB) (Nat.le_refl _)
        by_cases htk : fs[i].tag = (k : Int)
        · have e1 : (fs[i].tag == (k : Int)) = true := by simpa using htk
          refine wc_par [(0, .pointer (some ⟨w5.heap.size, 0 + 4, none⟩)), (1, .int .i64 fs[i].tag), (2, .int .i64 (k : Int)), (3, .bool true), (4, .bool true), (5, .agg ([.int .i64 fs[i].kind, .int .i64 fs[i].fr, .int .i64 fs[i].upto, .int .i64 fs[i].nul, .int .i64 fs[i].tag, .int .i64 fs[i].df, .int .i64 fs[i].of, sv] : List Value).toArray), (6, .agg ([.int .i64 t.n, sv2, .bool t.nul, lv, uv] : List Value).toArray), (7, .int .i64 (i : Int))] [11, 10, 9, 8]
            (fun vals w' => Below w7.heap.size w7 w' ∧ match vals with
              | [] => True
              | [v] => ∃ xs' : List Value, v = .agg xs'.toArray ∧ Rep (Lo B) w' (treeD (att t i)) xs'
              | [v, _] => v = .bool (usual fs[i] (att t i))
              | v :: _ => v = .bool (!usual fs[i] (att t i)))
            mixed rfl rfl rfl rfl rfl (by show ([0,1,2,3,4,5,6,7] : List Nat).Nodup; decide) rfl rfl (by decide) rfl rfl rfl rfl ⟨(Below.refl _ w7).drew, trivial⟩ ?_ ⟨?_, ?_, ?_, ?_, trivial⟩ ?_
          · intro p hp vals w' hC a k
            simp only [List.mem_cons, List.not_mem_nil, or_false] at hp
            rcases hp with rfl | rfl | rfl | rfl | rfl | rfl | rfl | rfl
            · exact gv rfl rfl (rn_fieldAddr k rfl fo_fld4)
            · exact gv rfl rfl (rn_load k rfl to_int ((hb7.below hC.1 hb7.lt).cell0 (i := 4) rfl))
            · exact gv rfl rfl (rn_move k rfl)
            · refine gv rfl rfl ?_
              rw [← e1]
              exact rn_eql k rfl rfl
            · exact gv rfl rfl (rn_move k rfl)
            · exact gv_yes rfl rfl rfl k rfl rfl (rn_loadBAgg k rfl ta_fld (hb7.below hC.1 hb7.lt))
            · exact gv_yes rfl rfl rfl k rfl rfl (rn_loadBAgg k rfl ta_tree (htc _ hC.1))
            · exact gv_yes rfl rfl rfl k rfl rfl (rn_move k rfl)
          · rintro vals w' hvl ⟨hb', hC⟩ a k
            match vals, hvl with
            | [v10, v9, v8], _ =>
              simp only [] at hC
              subst hC
              exact ⟨_, rfl, does_pick k rfl rfl ⟨hb', rfl⟩⟩
          · rintro vals w' hvl ⟨hb', hC⟩ a k
            match vals, hvl with
            | [v9, v8], _ =>
              simp only [] at hC
              subst hC
              exact ⟨_, rfl, does_not k rfl ⟨hb', rfl⟩⟩
          · rintro vals w' hvl ⟨hb', hC⟩ a k
            match vals, hvl with
            | [v8], _ =>
              obtain ⟨xs', rfl, hxr⟩ := hC
              refine ⟨_, rfl, does_call k rfl (by kernel_rfl) ((hU fs[i] (List.getElem_mem hlt) (att t i) B w' _ _ (hok.at i) (by have := hb'.size; omega) (hrw _ hb') hxr).mono ?_)⟩
              rintro e w'' ⟨v, rfl, hb'', rfl⟩
              exact ⟨_, rfl, hb'.trans (hb''.mono hb'.size), rfl⟩
          · rintro vals w' hvl ⟨hb', hC⟩ a k
            match vals, hvl with
            | [], _ =>
              refine ⟨_, rfl, does_call k rfl (by kernel_rfl) ((fn_at t i B w' (by have := hb'.size; omega) _ (htw _ hb')).mono ?_)⟩
              rintro e w'' ⟨v, rfl, hb'', xs', rfl, hxr⟩
              exact ⟨_, rfl, hb'.trans (hb''.mono hb'.size), xs', rfl, hxr⟩
          · rintro vals w8 hvl ⟨hw78, hC⟩
            match vals, hvl with
            | [v11, v10, v9, v8], _ =>
              simp only [] at hC
              subst hC
              refine qk_thn ?_
              have hs78 := hw78.size
              have hd8 := hd7.below hw78
              have hw28 := hw27.trans (hw78.mono (by omega))
              cases hus : usual fs[i] (att t i)
              · refine wc_yes rfl rfl ?_
                rw [if_pos ⟨htk, hus⟩] at hdr
                rw [hdr] at hl hll
                simp only [tagB_append, tagB_one, List.length_append] at hll
                have hwl := wTag_len k (wField ver true fs[i] (att t i))
                refine wc_seq ?_
                refine wc_par [(0, .agg ([.int .i64 fs[i].kind, .int .i64 fs[i].fr, .int .i64 fs[i].upto, .int .i64 fs[i].nul, .int .i64 fs[i].tag, .int .i64 fs[i].df, .int .i64 fs[i].of, sv] : List Value).toArray), (1, .int .i64 ver), (2, .bool true), (3, .agg ([.int .i64 t.n, sv2, .bool t.nul, lv, uv] : List Value).toArray), (4, .int .i64 (i : Int))] [7, 6, 5]
                  (fun vals w' => Below w8.heap.size w8 w' ∧ match vals with
                    | [] => True
                    | [v] => ∃ xs' : List Value, v = .agg xs'.toArray ∧ Rep (Lo B) w' (treeD (att t i)) xs'
                    | v :: _ => Own w' w8.heap.size 5 v (wField ver true fs[i] (att t i)))
                  mixed rfl rfl rfl rfl rfl (by show ([0,1,2,3,4] : List Nat).Nodup; decide) rfl rfl (by decide) rfl rfl rfl rfl ⟨(Below.refl _ w8).drew, trivial⟩ ?_ ⟨?_, ?_, ?_, trivial⟩ ?_
                · intro p hp vals w' hC a k
                  have h7' := hw78.trans (hC.1.mono hs78)
                  simp only [List.mem_cons, List.not_mem_nil, or_false] at hp
                  rcases hp with rfl | rfl | rfl | rfl | rfl
                  · exact gv rfl rfl (rn_loadBAgg k rfl ta_fld (hb7.below h7' hb7.lt))
                  · exact gv rfl rfl (rn_move k rfl)
                  · exact gv rfl rfl (rn_move k rfl)
                  · exact gv rfl rfl (rn_loadBAgg k rfl ta_tree (htc _ h7'))
                  · exact gv rfl rfl (rn_move k rfl)
                · rintro vals w' hvl ⟨hb', hC⟩ a k
                  match vals, hvl with
                  | [v6, v5], _ => exact ⟨_, rfl, does_assign k rfl ⟨hb', hC⟩⟩
                · rintro vals w' hvl ⟨hb', hC⟩ a k
                  match vals, hvl with
                  | [v5], _ =>
                    obtain ⟨xs', rfl, hxr⟩ := hC
                    have h7' := hw78.trans (hb'.mono hs78)
                    refine ⟨_, rfl, does_call k rfl (by kernel_rfl) ((hF fs[i] (List.getElem_mem hlt) true ver (att t i) B w' _ _ (hok.at i) (by have := hb'.size; omega) (hrw _ h7') hxr (by simp only [lim]; omega)).mono ?_)⟩
                    rintro e w'' ⟨v, rfl, hb'', ho⟩
                    exact ⟨_, rfl, hb'.trans (hb''.mono hb'.size), ho.mono hb'.size⟩
                · rintro vals w' hvl ⟨hb', hC⟩ a k
                  match vals, hvl with
                  | [], _ =>
                    refine ⟨_, rfl, does_call k rfl (by kernel_rfl) ((fn_at t i B w' (by have := hb'.size; omega) _ (htw _ (hw78.trans (hb'.mono hs78)))).mono ?_)⟩
                    rintro e w'' ⟨v, rfl, hb'', xs', rfl, hxr⟩
                    exact ⟨_, rfl, hb'.trans (hb''.mono hb'.size), xs', rfl, hxr⟩
                rintro vals w9 hvl ⟨hw89, hC⟩
                match vals, hvl with
                | [v7, v6, v5], _ =>
                  refine qk_thn ?_
                  simp only [] at hC
                  have hs89 := hw89.size
                  have hd9 := hd8.below hw89
                  have hw29 := hw28.trans (hw89.mono (by omega))
                  have hap := apart_of hC.ge hd8.lt
                  obtain ⟨va, vc, rfl⟩ := hC.shape
                  repeat first|(with_reducible first|apply wc_seq|apply wc_region|apply wl_nil|apply qk_thn|apply wc_block|apply wc_skip|apply wc_ret|apply wc_exit|apply qk_thn_ret|apply qk_in_ret|apply qk_in|apply qk_thn_exit|apply qk_in_exit|apply qk_round_ret|apply qk_round_exit)|((with_reducible apply ws);exact rfl;exact rfl)|((with_reducible apply wl_yes);exact rfl;exact rfl;exact rfl)|((with_reducible apply wl_no);exact rfl;exact rfl;exact rfl;exact rfl)|((with_reducible apply wl_noU);exact rfl;exact rfl;exact rfl)
                  refine wl_conv .u64 rfl ti_i64 ti_u64 rfl (r := (k : Int)) (by rw [IntKind.wrap_u64]; omega) ?_
                  refine wl_call rfl (by kernel_rfl) rfl ((fn_uvarint k (by omega) w9).mono ?_)
                  rintro e w10 ⟨u1, rfl, hw10, hu1⟩
                  refine ⟨u1, rfl, ?_⟩
                  have hs10 := hw10.size
                  have hd10 := hd9.below hw10
                  have hv10 := Own.below hC hw10
                  refine wl_appSl tb_bytes tb_bytes rfl rfl rfl hu1.bytes hd10 (by omega) (by simp only [lim]; simp only [wTag, List.length_append] at hll; omega) (fun d1 w11 hd11 hg11 => ?_)
                  obtain ⟨hv11, hap11⟩ := hv10.apart hap hg11
                  have hs11 := hg11.grown.size
                  repeat first|(with_reducible first|apply wc_seq|apply wc_region|apply wl_nil|apply qk_thn|apply wc_block|apply wc_skip|apply wc_ret|apply wc_exit|apply qk_thn_ret|apply qk_in_ret|apply qk_in|apply qk_thn_exit|apply qk_in_exit|apply qk_round_ret|apply qk_round_exit)|((with_reducible apply ws);exact rfl;exact rfl)|((with_reducible apply wl_yes);exact rfl;exact rfl;exact rfl)|((with_reducible apply wl_no);exact rfl;exact rfl;exact rfl;exact rfl)|((with_reducible apply wl_noU);exact rfl;exact rfl;exact rfl)
                  refine wl_conv .u64 rfl ti_i64 ti_u64 rfl (r := ((wField ver true fs[i] (att t i)).length : Int)) (by rw [IntKind.wrap_u64]; simp only [wTag, List.length_append] at hll; omega) ?_
                  refine wl_call rfl (by kernel_rfl) rfl ((fn_uvarint (wField ver true fs[i] (att t i)).length (by simp only [wTag, List.length_append] at hll; omega) w11).mono ?_)
                  rintro e w12 ⟨u2, rfl, hw12, hu2⟩
                  refine ⟨u2, rfl, ?_⟩
                  have hs12' := hw12.size
                  have hd12 := hd11.below hw12
                  have hv12 := hv11.below hw12
                  refine wl_appSl tb_bytes tb_bytes rfl rfl rfl hu2.bytes hd12 (by omega) (by simp only [lim, List.length_append]; simp only [wTag, List.length_append] at hll; omega) (fun d2 w13 hd13 hg13 => ?_)
                  obtain ⟨hv13, hap13⟩ := hv12.apart hap11 hg13
                  have hs13 := hg13.grown.size
                  repeat first|(with_reducible first|apply wc_seq|apply wc_region|apply wl_nil|apply qk_thn|apply wc_block|apply wc_skip|apply wc_ret|apply wc_exit|apply qk_thn_ret|apply qk_in_ret|apply qk_in|apply qk_thn_exit|apply qk_in_exit|apply qk_round_ret|apply qk_round_exit)|((with_reducible apply ws);exact rfl;exact rfl)|((with_reducible apply wl_yes);exact rfl;exact rfl;exact rfl)|((with_reducible apply wl_no);exact rfl;exact rfl;exact rfl;exact rfl)|((with_reducible apply wl_noU);exact rfl;exact rfl;exact rfl)
                  refine wl_appSl tb_bytes tb_bytes rfl rfl rfl hv13.bytes hd13 (by omega) (by simp only [lim, List.length_append]; simp only [wTag, List.length_append] at hll; omega) (fun d3 w14 hd14 hg14 => ?_)
                  have hw2e : Below w2.heap.size w2 w14 :=
                    (((((hw29.trans (hw10.mono (by omega))).trans (hg11.below (by omega) hd10.ge)).trans (hw12.mono (by omega))).trans (hg13.below (by omega) hd12.ge)).trans (hg14.below (by omega) hd13.ge))
                  repeat first|(with_reducible first|apply wc_seq|apply wc_region|apply wl_nil|apply qk_thn|apply wc_block|apply wc_skip|apply wc_ret|apply wc_exit|apply qk_thn_ret|apply qk_in_ret|apply qk_in|apply qk_thn_exit|apply qk_in_exit|apply qk_round_ret|apply qk_round_exit)|((with_reducible apply ws);exact rfl;exact rfl)|((with_reducible apply wl_yes);exact rfl;exact rfl;exact rfl)|((with_reducible apply wl_no);exact rfl;exact rfl;exact rfl;exact rfl)|((with_reducible apply wl_noU);exact rfl;exact rfl;exact rfl)
                  refine wl_add rfl rfl rfl (r := ((l ++ [(k, wField ver true fs[i] (att t i))]).length : Int)) (by rw [IntKind.wrap_i64]; simp only [List.length_append, List.length_cons, List.length_nil]; omega) ?_
                  repeat first|(with_reducible first|apply wc_seq|apply wc_region|apply wl_nil|apply qk_thn|apply wc_block|apply wc_skip|apply wc_ret|apply wc_exit|apply qk_thn_ret|apply qk_in_ret|apply qk_in|apply qk_thn_exit|apply qk_in_exit|apply qk_round_ret|apply qk_round_exit)|((with_reducible apply ws);exact rfl;exact rfl)|((with_reducible apply wl_yes);exact rfl;exact rfl;exact rfl)|((with_reducible apply wl_no);exact rfl;exact rfl;exact rfl;exact rfl)|((with_reducible apply wl_noU);exact rfl;exact rfl;exact rfl)
                  refine wl_add rfl rfl rfl (r := ((i + 1 : Nat) : Int)) (by rw [IntKind.wrap_i64]; omega) ?_
                  repeat first|(with_reducible first|apply wc_seq|apply wc_region|apply wl_nil|apply qk_thn|apply wc_block|apply wc_skip|apply wc_ret|apply wc_exit|apply qk_thn_ret|apply qk_in_ret|apply qk_in|apply qk_thn_exit|apply qk_in_exit|apply qk_round_ret|apply qk_round_exit)|((with_reducible apply ws);exact rfl;exact rfl)|((with_reducible apply wl_yes);exact rfl;exact rfl;exact rfl)|((with_reducible apply wl_no);exact rfl;exact rfl;exact rfl;exact rfl)|((with_reducible apply wl_noU);exact rfl;exact rfl;exact rfl)
                  refine qk_round ⟨i + 1, d3, l ++ [(k, wField ver true fs[i] (att t i))]⟩ ⟨rfl, rfl, rfl, rfl, rfl, rfl, rfl, rfl, rfl, rfl, rfl, rfl, rfl, trivial⟩ ⟨by simp only []; omega, hw2e, ?_, ?_⟩ (by simp only []; omega)
                  · simp only [tagB_append, tagB_one, wTag]
                    simpa only [List.append_assoc] using hd14
                  · simp only []
                    rw [List.append_assoc]; exact hl
              · refine wc_no rfl rfl ?_
                rw [if_neg (by rw [hus]; simp)] at hdr
                rw [hdr] at hl
                repeat first|(with_reducible first|apply wc_seq|apply wc_region|apply wl_nil|apply qk_thn|apply wc_block|apply wc_skip|apply wc_ret|apply wc_exit|apply qk_thn_ret|apply qk_in_ret|apply qk_in|apply qk_thn_exit|apply qk_in_exit|apply qk_round_ret|apply qk_round_exit)|((with_reducible apply ws);exact rfl;exact rfl)|((with_reducible apply wl_yes);exact rfl;exact rfl;exact rfl)|((with_reducible apply wl_no);exact rfl;exact rfl;exact rfl;exact rfl)|((with_reducible apply wl_noU);exact rfl;exact rfl;exact rfl)
                refine wl_add rfl rfl rfl (r := ((i + 1 : Nat) : Int)) (by rw [IntKind.wrap_i64]; omega) ?_
                repeat first|(with_reducible first|apply wc_seq|apply wc_region|apply wl_nil|apply qk_thn|apply wc_block|apply wc_skip|apply wc_ret|apply wc_exit|apply qk_thn_ret|apply qk_in_ret|apply qk_in|apply qk_thn_exit|apply qk_in_exit|apply qk_round_ret|apply qk_round_exit)|((with_reducible apply ws);exact rfl;exact rfl)|((with_reducible apply wl_yes);exact rfl;exact rfl;exact rfl)|((with_reducible apply wl_no);exact rfl;exact rfl;exact rfl;exact rfl)|((with_reducible apply wl_noU);exact rfl;exact rfl;exact rfl)
                exact qk_round ⟨i + 1, d, l⟩ ⟨rfl, rfl, rfl, rfl, rfl, rfl, rfl, rfl, rfl, rfl, rfl, rfl, rfl, trivial⟩ ⟨by simp only []; omega, hw28, hd8, hl⟩ (by simp only []; omega)
        · have e1 : (fs[i].tag == (k : Int)) = false := by simpa using htk
          refine wc_par [(0, .pointer (some ⟨w5.heap.size, 0 + 4, none⟩)), (1, .int .i64 fs[i].tag), (2, .int .i64 (k : Int)), (3, .bool false), (4, .bool false), (5, undef), (6, undef), (7, undef), (8, undef), (9, undef), (10, undef), (11, .bool false)] []
            (fun vals w' => w' = w7.drew)
            mixed rfl rfl rfl rfl rfl (by show ([0,1,2,3,4,5,6,7,8,9,10,11] : List Nat).Nodup; decide) rfl rfl (by decide) rfl rfl rfl rfl rfl ?_ trivial ?_
          · intro p hp vals w' hC a k
            subst hC
            simp only [List.mem_cons, List.not_mem_nil, or_false] at hp
            rcases hp with rfl | rfl | rfl | rfl | rfl | rfl | rfl | rfl | rfl | rfl | rfl | rfl
            · exact gv rfl rfl (rn_fieldAddr k rfl fo_fld4)
            · exact gv rfl rfl (rn_load k rfl to_int (hb7.cell0 (i := 4) rfl))
            · exact gv rfl rfl (rn_move k rfl)
            · refine gv rfl rfl ?_
              rw [← e1]
              exact rn_eql k rfl rfl
            · exact gv rfl rfl (rn_move k rfl)
            iterate 6 (exact gv_no rfl rfl rfl k rfl rfl)
            · exact gv rfl rfl (rn_pick k rfl rfl)
          · rintro vals w8 hvl rfl
            refine qk_thn ?_
            refine wc_no rfl rfl ?_
            rw [if_neg (fun h => htk h.1)] at hdr
            rw [hdr] at hl
            repeat first|(with_reducible first|apply wc_seq|apply wc_region|apply wl_nil|apply qk_thn|apply wc_block|apply wc_skip|apply wc_ret|apply wc_exit|apply qk_thn_ret|apply qk_in_ret|apply qk_in|apply qk_thn_exit|apply qk_in_exit|apply qk_round_ret|apply qk_round_exit)|((with_reducible apply ws);exact rfl;exact rfl)|((with_reducible apply wl_yes);exact rfl;exact rfl;exact rfl)|((with_reducible apply wl_no);exact rfl;exact rfl;exact rfl;exact rfl)|((with_reducible apply wl_noU);exact rfl;exact rfl;exact rfl)
            refine wl_add rfl rfl rfl (r := ((i + 1 : Nat) : Int)) (by rw [IntKind.wrap_i64]; omega) ?_
            repeat first|(with_reducible first|apply wc_seq|apply wc_region|apply wl_nil|apply qk_thn|apply wc_block|apply wc_skip|apply wc_ret|apply wc_exit|apply qk_thn_ret|apply qk_in_ret|apply qk_in|apply qk_thn_exit|apply qk_in_exit|apply qk_round_ret|apply qk_round_exit)|((with_reducible apply ws);exact rfl;exact rfl)|((with_reducible apply wl_yes);exact rfl;exact rfl;exact rfl)|((with_reducible apply wl_no);exact rfl;exact rfl;exact rfl;exact rfl)|((with_reducible apply wl_noU);exact rfl;exact rfl;exact rfl)
            exact qk_round ⟨i + 1, d, l⟩ ⟨rfl, rfl, rfl, rfl, rfl, rfl, rfl, rfl, rfl, rfl, rfl, rfl, rfl, trivial⟩ ⟨by simp only []; omega, hw27.drew, hd7, hl⟩ (by simp only []; omega)
      · refine wc_no rfl (by simpa using hlt) ?_
        repeat first|(with_reducible first|apply wc_seq|apply wc_region|apply wl_nil|apply qk_thn|apply wc_block|apply wc_skip|apply wc_ret|apply wc_exit|apply qk_thn_ret|apply qk_in_ret|apply qk_in|apply qk_thn_exit|apply qk_in_exit|apply qk_round_ret|apply qk_round_exit)|((with_reducible apply ws);exact rfl;exact rfl)|((with_reducible apply wl_yes);exact rfl;exact rfl;exact rfl)|((with_reducible apply wl_no);exact rfl;exact rfl;exact rfl;exact rfl)|((with_reducible apply wl_noU);exact rfl;exact rfl;exact rfl)
        refine wl_add rfl rfl rfl (r := ((k + 1 : Nat) : Int)) (by rw [IntKind.wrap_i64]; omega) ?_
        repeat first|(with_reducible first|apply wc_seq|apply wc_region|apply wl_nil|apply qk_thn|apply wc_block|apply wc_skip|apply wc_ret|apply wc_exit|apply qk_thn_ret|apply qk_in_ret|apply qk_in|apply qk_thn_exit|apply qk_in_exit|apply qk_round_ret|apply qk_round_exit)|((with_reducible apply ws);exact rfl;exact rfl)|((with_reducible apply wl_yes);exact rfl;exact rfl;exact rfl)|((with_reducible apply wl_no);exact rfl;exact rfl;exact rfl;exact rfl)|((with_reducible apply wl_noU);exact rfl;exact rfl;exact rfl)
        refine qk_round ⟨k + 1, d, l⟩ ⟨rfl, rfl, rfl, rfl, rfl, rfl, rfl, rfl, rfl, trivial⟩ ⟨by simp only []; omega, hw5, hd5, ?_⟩ (by simp only []; omega)
        simp only []
        rw [below_succ, ← hl, List.drop_of_length_le (by omega)]
        simp [wTs]
    · refine wc_no rfl (by simpa using hkl) ?_
      repeat first|(with_reducible first|apply wc_seq|apply wc_region|apply wl_nil|apply qk_thn|apply wc_block|apply wc_skip|apply wc_ret|apply wc_exit|apply qk_thn_ret|apply qk_in_ret|apply qk_in|apply qk_thn_exit|apply qk_in_exit|apply qk_round_ret|apply qk_round_exit)|((with_reducible apply ws);exact rfl;exact rfl)|((with_reducible apply wl_yes);exact rfl;exact rfl;exact rfl)|((with_reducible apply wl_no);exact rfl;exact rfl;exact rfl;exact rfl)|((with_reducible apply wl_noU);exact rfl;exact rfl;exact rfl)
      have hke : k = known fs := by omega
      subst hke
      exact qk_cut ⟨0, d, l⟩ ⟨rfl, rfl, rfl, rfl, rfl, rfl, rfl, trivial⟩ ⟨hw4, hd4, hl⟩
  rintro ⟨_, d, l⟩ w3 ⟨hw3, hd3, hl⟩
  simp only [] at hd3 hl
  have hs23 := hw3.size
  have hw03 : Below w.heap.size w w3 := hw02.trans (hw3.mono (by omega))
  have hbx3 : Box w3 w.heap.size [.int .i64 t.n, sv2, .bool t.nul, lv, uv] 26 := hb1.below (hw2.trans (hw3.mono (by omega))) (by omega)
  have hll := tagB_len (below ver true fs t (known fs) ++ others fs t.u)
  rw [tagB_append, List.length_append, List.length_append] at hll
  refine wc_cut (α := PtT) (fun s => [(10, s.d), (11, .int .i64 ((allTags ver true fs t).length : Int)), (9, out)])
    (fun s w' => Below w2.heap.size w2 w' ∧ Own w' w2.heap.size 5 s.d (tagB (allTags ver true fs t))) ?_ ?_
  · repeat first|(with_reducible first|apply wc_seq|apply wc_region|apply wl_nil|apply qk_thn|apply wc_block|apply wc_skip|apply wc_ret|apply wc_exit|apply qk_thn_ret|apply qk_in_ret|apply qk_in|apply qk_thn_exit|apply qk_in_exit|apply qk_round_ret|apply qk_round_exit)|((with_reducible apply ws);exact rfl;exact rfl)|((with_reducible apply wl_yes);exact rfl;exact rfl;exact rfl)|((with_reducible apply wl_no);exact rfl;exact rfl;exact rfl;exact rfl)|((with_reducible apply wl_noU);exact rfl;exact rfl;exact rfl)
    refine wl_loadB rfl to_tags rfl hbx3 rfl ?_
    refine wl_call rfl (by kernel_rfl) rfl ((fn_unknownR _ _ fs t.u B w3 (by omega) (hf.below (hw03.mono hB) (Nat.le_refl _)) (hu.below (hw03.mono hB) (Nat.le_refl _)) (fsok.tag hfs) (by omega)).mono ?_)
    rintro e w4 ⟨v, rfl, hw4, qs, hrow, hsay, hat⟩
    refine ⟨_, rfl, ?_⟩
    have hs34 := hw4.size
    have hd4 := hd3.below hw4
    have hqn : qs.length ≤ 32767 := by have := unknown_len fs t.u; rw [← hsay] at this; simpa using this
    have hoth : others fs t.u = qs.map fun q => (q.1.1, whole q.1.2) := by simp only [others, ← hsay, List.map_map]; rfl
    have hkeys : ∀ q ∈ qs, q.1.1 < 4294967296 := by
      intro q hq
      have : q.1 ∈ unknown fs t.u := by rw [← hsay]; exact List.mem_map_of_mem hq
      exact hok.u _ (unknown_mem fs t.u _ this)
    obtain ⟨va, vc, rfl⟩ := Row.shape hrow
    have hvb := fun g hg => World.ownsRow.lt hrow g hg
    repeat first|(with_reducible first|apply wc_seq|apply wc_region|apply wl_nil|apply qk_thn|apply wc_block|apply wc_skip|apply wc_ret|apply wc_exit|apply qk_thn_ret|apply qk_in_ret|apply qk_in|apply qk_thn_exit|apply qk_in_exit|apply qk_round_ret|apply qk_round_exit)|((with_reducible apply ws);exact rfl;exact rfl)|((with_reducible apply wl_yes);exact rfl;exact rfl;exact rfl)|((with_reducible apply wl_no);exact rfl;exact rfl;exact rfl;exact rfl)|((with_reducible apply wl_noU);exact rfl;exact rfl;exact rfl)
    refine wc_loop (α := PtT) (fun s => [(102, .int .i64 (s.k : Int)), (101, .int .i64 (qs.length : Int)), (100, .slice va qs.length vc), (10, s.d), (11, .int .i64 (s.l.length : Int)), (9, out), (7, .pointer (some ⟨w.heap.size, 0, none⟩))])
      (fun s w' => s.k ≤ qs.length ∧ Below w2.heap.size w2 w' ∧ w4.heap.size ≤ w'.heap.size ∧ Own w' w2.heap.size 5 s.d (tagB s.l) ∧ s.l = below ver true fs t (known fs) ++ (qs.take s.k).map (fun q => (q.1.1, whole q.1.2)) ∧ w'.ownsRow w3.heap.size 79 2 (.slice va qs.length vc) qs.length (tcells qs) ∧ (∀ g, s.d.ownBlock = some g → g < w3.heap.size ∨ w4.heap.size ≤ g)) (fun s => qs.length - s.k) ⟨0, d, l⟩ ⟨rfl, rfl, rfl, rfl, rfl, rfl, rfl, trivial⟩ ⟨Nat.zero_le _, hw3.trans (hw4.mono hs23), Nat.le_refl _, hd4, by rw [hl]; simp, hrow, fun g hg => .inl (hd3.lt g hg)⟩ ?_
    rintro ⟨i, d, l⟩ w5 ⟨hi, hw5, hs45, hd5, hl, hrow5, hdb⟩
    simp only [] at hi hd5 hl hdb
    change WC _ _ _ _ [(102, .int .i64 (i : Int)), (101, .int .i64 (qs.length : Int)), (100, .slice va qs.length vc), (10, d), (11, .int .i64 (l.length : Int)), (9, out), (7, .pointer (some ⟨w.heap.size, 0, none⟩))] _
    have hs25 := hw5.size
    have hll5 : (tagB (below ver true fs t (known fs))).length + (tagB (others fs t.u)).length ≤ 140737488355328 := by simp only [lim] at hlimA; omega
    repeat first|(with_reducible first|apply wc_seq|apply wc_region|apply wl_nil|apply qk_thn|apply wc_block|apply wc_skip|apply wc_ret|apply wc_exit|apply qk_thn_ret|apply qk_in_ret|apply qk_in|apply qk_thn_exit|apply qk_in_exit|apply qk_round_ret|apply qk_round_exit)|((with_reducible apply ws);exact rfl;exact rfl)|((with_reducible apply wl_yes);exact rfl;exact rfl;exact rfl)|((with_reducible apply wl_no);exact rfl;exact rfl;exact rfl;exact rfl)|((with_reducible apply wl_noU);exact rfl;exact rfl;exact rfl)
    by_cases hlt : i < qs.length
    · refine wc_yes rfl (by simpa using hlt) ?_
      obtain ⟨g, cap, hde, hg1, hg2', hca⟩ := Row.cells hrow5 (by omega)
      simp only [Value.slice.injEq, true_and] at hde
      obtain ⟨rfl, rfl⟩ := hde
      have hcj := tcells_at hca hlt
      have hsq := hat qs[i] (List.getElem_mem hlt)
      have hone : (([.int .u32 (qs[i].1.1 : Nat), qs[i].2] : List Value).all fun v => v.oneCell') = true := by
        obtain ⟨a3, c3, h3, _⟩ := hsq.shape
        rw [h3]; rfl
      have hle : (tagB l).length + (wTag qs[i].1.1 (whole qs[i].1.2)).length ≤ 140737488355328 := by
        have h1 : (tagB (others fs t.u)).length ≥ (tagB ((qs.take (i + 1)).map fun q => (q.1.1, whole q.1.2))).length := by
          rw [hoth]
          have : qs.map (fun q => (q.1.1, whole q.1.2)) = (qs.take (i + 1)).map (fun q => (q.1.1, whole q.1.2)) ++ (qs.drop (i + 1)).map (fun q => (q.1.1, whole q.1.2)) := by rw [← List.map_append, List.take_append_drop]
          rw [this, tagB_append, List.length_append]; omega
        rw [List.take_succ_eq_append_getElem hlt, List.map_append, tagB_append, List.length_append] at h1
        simp only [List.map_cons, List.map_nil, tagB_one] at h1
        rw [hl, tagB_append, List.length_append]
        omega
      have hln := tagB_len l
      repeat first|(with_reducible first|apply wc_seq|apply wc_region|apply wl_nil|apply qk_thn|apply wc_block|apply wc_skip|apply wc_ret|apply wc_exit|apply qk_thn_ret|apply qk_in_ret|apply qk_in|apply qk_thn_exit|apply qk_in_exit|apply qk_round_ret|apply qk_round_exit)|((with_reducible apply ws);exact rfl;exact rfl)|((with_reducible apply wl_yes);exact rfl;exact rfl;exact rfl)|((with_reducible apply wl_no);exact rfl;exact rfl;exact rfl;exact rfl)|((with_reducible apply wl_noU);exact rfl;exact rfl;exact rfl)
      refine wl_indexAddr rfl rfl es_tags rfl hlt ?_
      refine wl_loadAgg (cs := [.int .u32 (qs[i].1.1 : Nat), qs[i].2]) rfl ta_tag rfl (fun j v e => hcj.cell e) ?_
      refine wl_alloc zv_tag rfl rfl (fun w6 hb6 hg6 hs6 => ?_)
      refine wl_storeBAgg (vs := [.int .u32 (qs[i].1.1 : Nat), qs[i].2]) rfl rfl rfl tz_tag hone hb6 rfl (fun w7 hb7 hg7 hs7 => ?_)
      have hw57 : Below w5.heap.size w5 w7 := (below_of hg6 (Nat.le_refl _) (by simp)).trans (below_of hg7 (by omega) (by intro k hk; simp at hk; omega))
      have hw27 : Below w2.heap.size w2 w7 := hw5.trans (hw57.mono hs25)
      have hd7 := hd5.below hw57
      have hs57 := hw57.size
      have hrow7 := Row.kept hrow5 (grown_of hw57) (fun g _ => by simp)
      have hsq7 : Sq B w7 qs[i].2 (qs[i].1.2.map byteD) := hsq.below ((Below.between hw3 hw27 (by omega)).mono (by omega)) (Nat.le_refl _)
      repeat first|(with_reducible first|apply wc_seq|apply wc_region|apply wl_nil|apply qk_thn|apply wc_block|apply wc_skip|apply wc_ret|apply wc_exit|apply qk_thn_ret|apply qk_in_ret|apply qk_in|apply qk_thn_exit|apply qk_in_exit|apply qk_round_ret|apply qk_round_exit)|((with_reducible apply ws);exact rfl;exact rfl)|((with_reducible apply wl_yes);exact rfl;exact rfl;exact rfl)|((with_reducible apply wl_no);exact rfl;exact rfl;exact rfl;exact rfl)|((with_reducible apply wl_noU);exact rfl;exact rfl;exact rfl)
      refine wl_loadB rfl to_bytes rfl hb7 rfl ?_
      refine wl_call rfl (by kernel_rfl) rfl ((fn_whole _ _ _ _ hsq7).mono ?_)
      rintro e w8 ⟨vb, rfl, _, rfl, hsb⟩
      refine ⟨vb, rfl, ?_⟩
      rw [whole_map] at hsb
      have hby := hsb
      obtain ⟨ba, bc, rfl, _⟩ := hsb.shape
      rw [List.length_map] at *
      repeat first|(with_reducible first|apply wc_seq|apply wc_region|apply wl_nil|apply qk_thn|apply wc_block|apply wc_skip|apply wc_ret|apply wc_exit|apply qk_thn_ret|apply qk_in_ret|apply qk_in|apply qk_thn_exit|apply qk_in_exit|apply qk_round_ret|apply qk_round_exit)|((with_reducible apply ws);exact rfl;exact rfl)|((with_reducible apply wl_yes);exact rfl;exact rfl;exact rfl)|((with_reducible apply wl_no);exact rfl;exact rfl;exact rfl;exact rfl)|((with_reducible apply wl_noU);exact rfl;exact rfl;exact rfl)
      refine wl_loadB rfl to_u32 rfl hb7 rfl ?_
      have hk32 := hkeys qs[i] (List.getElem_mem hlt)
      refine wl_conv .u64 rfl ti_u32 ti_u64 rfl (r := (qs[i].1.1 : Int)) (by rw [IntKind.wrap_u64]; omega) ?_
      refine wl_call rfl (by kernel_rfl) rfl ((fn_uvarint qs[i].1.1 (by omega) w8).mono ?_)
      rintro e w9 ⟨u1, rfl, hw9, hu1⟩
      refine ⟨u1, rfl, ?_⟩
      have hs89 := hw9.size
      have hd9 := hd7.below hw9
      have hrow9 := Row.kept hrow7 (grown_of hw9) (fun g _ => by simp)
      have hBw : ∀ w', Below w2.heap.size w8 w' → Sq B w' (.slice ba (whole qs[i].1.2).length bc) ((whole qs[i].1.2).map byteD) := fun w' h => hby.below (h.mono (by omega)) (Nat.le_refl _)
      have hwl : (whole qs[i].1.2).length ≤ 32767 := by simp [whole, Most]; omega
      simp only [wTag, List.length_append] at hle
      refine wl_appSl tb_bytes tb_bytes rfl rfl rfl hu1.bytes hd9 (by omega) (by simp only [lim]; omega) (fun d1 w10 hd10 hg10 => ?_)
      have hs10 := hg10.grown.size
      have hb89 : Below w2.heap.size w8 w9 := hw9.mono (by omega)
      have hb810 := hb89.trans (hg10.below (by omega) hd9.ge)
      have hrow10 := Row.kept hrow9 hg10.grown (fun g hg e => by have h1 := hvb g hg; have h2 := hdb g e; omega)
      have hdb10 : ∀ g, d1.ownBlock = some g → g < w3.heap.size ∨ w4.heap.size ≤ g := by
        intro g hg
        rcases hg10.fresh with h | h
        · exact hdb g (by rw [← h]; exact hg)
        · have := h g hg; right; omega
      repeat first|(with_reducible first|apply wc_seq|apply wc_region|apply wl_nil|apply qk_thn|apply wc_block|apply wc_skip|apply wc_ret|apply wc_exit|apply qk_thn_ret|apply qk_in_ret|apply qk_in|apply qk_thn_exit|apply qk_in_exit|apply qk_round_ret|apply qk_round_exit)|((with_reducible apply ws);exact rfl;exact rfl)|((with_reducible apply wl_yes);exact rfl;exact rfl;exact rfl)|((with_reducible apply wl_no);exact rfl;exact rfl;exact rfl;exact rfl)|((with_reducible apply wl_noU);exact rfl;exact rfl;exact rfl)
      refine wl_conv .u64 rfl ti_i64 ti_u64 rfl (r := ((whole qs[i].1.2).length : Int)) (by rw [IntKind.wrap_u64]; omega) ?_
      refine wl_call rfl (by kernel_rfl) rfl ((fn_uvarint (whole qs[i].1.2).length (by omega) w10).mono ?_)
      rintro e w11 ⟨u2, rfl, hw11, hu2⟩
      refine ⟨u2, rfl, ?_⟩
      have hs11 := hw11.size
      have hd11 := hd10.below hw11
      have hrow11 := Row.kept hrow10 (grown_of hw11) (fun g _ => by simp)
      have hb811 := hb810.trans (hw11.mono (by omega))
      refine wl_appSl tb_bytes tb_bytes rfl rfl rfl hu2.bytes hd11 (by omega) (by simp only [lim, List.length_append]; omega) (fun d2 w12 hd12 hg12 => ?_)
      have hs12' := hg12.grown.size
      have hb812 := hb811.trans (hg12.below (by omega) hd11.ge)
      have hrow12 := Row.kept hrow11 hg12.grown (fun g hg e => by have h1 := hvb g hg; have h2 := hdb10 g e; omega)
      have hdb12 : ∀ g, d2.ownBlock = some g → g < w3.heap.size ∨ w4.heap.size ≤ g := by
        intro g hg
        rcases hg12.fresh with h | h
        · exact hdb10 g (by rw [← h]; exact hg)
        · have := h g hg; right; omega
      repeat first|(with_reducible first|apply wc_seq|apply wc_region|apply wl_nil|apply qk_thn|apply wc_block|apply wc_skip|apply wc_ret|apply wc_exit|apply qk_thn_ret|apply qk_in_ret|apply qk_in|apply qk_thn_exit|apply qk_in_exit|apply qk_round_ret|apply qk_round_exit)|((with_reducible apply ws);exact rfl;exact rfl)|((with_reducible apply wl_yes);exact rfl;exact rfl;exact rfl)|((with_reducible apply wl_no);exact rfl;exact rfl;exact rfl;exact rfl)|((with_reducible apply wl_noU);exact rfl;exact rfl;exact rfl)
      refine wl_appSl tb_bytes tb_bytes rfl rfl rfl (hBw _ hb812).bytes hd12 (by omega) (by simp only [lim, List.length_append]; omega) (fun d3 w13 hd13 hg13 => ?_)
      have hs13 := hg13.grown.size
      have hb813 := hb812.trans (hg13.below (by omega) hd12.ge)
      have hrow13 := Row.kept hrow12 hg13.grown (fun g hg e => by have h1 := hvb g hg; have h2 := hdb12 g e; omega)
      have hdb13 : ∀ g, d3.ownBlock = some g → g < w3.heap.size ∨ w4.heap.size ≤ g := by
        intro g hg
        rcases hg13.fresh with h | h
        · exact hdb12 g (by rw [← h]; exact hg)
        · have := h g hg; right; omega
      repeat first|(with_reducible first|apply wc_seq|apply wc_region|apply wl_nil|apply qk_thn|apply wc_block|apply wc_skip|apply wc_ret|apply wc_exit|apply qk_thn_ret|apply qk_in_ret|apply qk_in|apply qk_thn_exit|apply qk_in_exit|apply qk_round_ret|apply qk_round_exit)|((with_reducible apply ws);exact rfl;exact rfl)|((with_reducible apply wl_yes);exact rfl;exact rfl;exact rfl)|((with_reducible apply wl_no);exact rfl;exact rfl;exact rfl;exact rfl)|((with_reducible apply wl_noU);exact rfl;exact rfl;exact rfl)
      refine wl_add rfl rfl rfl (r := ((l ++ [(qs[i].1.1, whole qs[i].1.2)]).length : Int)) (by rw [IntKind.wrap_i64]; simp only [List.length_append, List.length_cons, List.length_nil]; omega) ?_
      repeat first|(with_reducible first|apply wc_seq|apply wc_region|apply wl_nil|apply qk_thn|apply wc_block|apply wc_skip|apply wc_ret|apply wc_exit|apply qk_thn_ret|apply qk_in_ret|apply qk_in|apply qk_thn_exit|apply qk_in_exit|apply qk_round_ret|apply qk_round_exit)|((with_reducible apply ws);exact rfl;exact rfl)|((with_reducible apply wl_yes);exact rfl;exact rfl;exact rfl)|((with_reducible apply wl_no);exact rfl;exact rfl;exact rfl;exact rfl)|((with_reducible apply wl_noU);exact rfl;exact rfl;exact rfl)
      refine wl_add rfl rfl rfl (r := ((i + 1 : Nat) : Int)) (by rw [IntKind.wrap_i64]; omega) ?_
      repeat first|(with_reducible first|apply wc_seq|apply wc_region|apply wl_nil|apply qk_thn|apply wc_block|apply wc_skip|apply wc_ret|apply wc_exit|apply qk_thn_ret|apply qk_in_ret|apply qk_in|apply qk_thn_exit|apply qk_in_exit|apply qk_round_ret|apply qk_round_exit)|((with_reducible apply ws);exact rfl;exact rfl)|((with_reducible apply wl_yes);exact rfl;exact rfl;exact rfl)|((with_reducible apply wl_no);exact rfl;exact rfl;exact rfl;exact rfl)|((with_reducible apply wl_noU);exact rfl;exact rfl;exact rfl)
      refine qk_round ⟨i + 1, d3, l ++ [(qs[i].1.1, whole qs[i].1.2)]⟩ ⟨rfl, rfl, rfl, rfl, rfl, rfl, rfl, trivial⟩ ⟨by simp only []; omega, hw27.trans hb813, by omega, ?_, ?_, hrow13, hdb13⟩ (by simp only []; omega)
      · simp only [tagB_append, tagB_one, wTag]
        simpa only [List.append_assoc] using hd13
      · simp only []
        rw [hl, List.take_succ_eq_append_getElem hlt, List.map_append, List.append_assoc]; rfl
    · refine wc_no rfl (by simpa using hlt) ?_
      repeat first|(with_reducible first|apply wc_seq|apply wc_region|apply wl_nil|apply qk_thn|apply wc_block|apply wc_skip|apply wc_ret|apply wc_exit|apply qk_thn_ret|apply qk_in_ret|apply qk_in|apply qk_thn_exit|apply qk_in_exit|apply qk_round_ret|apply qk_round_exit)|((with_reducible apply ws);exact rfl;exact rfl)|((with_reducible apply wl_yes);exact rfl;exact rfl;exact rfl)|((with_reducible apply wl_no);exact rfl;exact rfl;exact rfl;exact rfl)|((with_reducible apply wl_noU);exact rfl;exact rfl;exact rfl)
      have hla : l = allTags ver true fs t := by
        rw [hl, List.take_of_length_le (by omega), allTags_eq, hoth]
      subst hla
      exact qk_cut ⟨0, d, []⟩ ⟨rfl, rfl, rfl, trivial⟩ ⟨hw5, hd5⟩
  rintro ⟨_, d, _⟩ w4 ⟨hw4, hd4⟩
  simp only [] at hd4
  have hs24 := hw4.size
  have ho4 := ho2.below hw4
  have hal : (allTags ver true fs t).length = (below ver true fs t (known fs)).length + (others fs t.u).length := by rw [allTags_eq, List.length_append]
  have htl : (tagB (allTags ver true fs t)).length = (tagB (below ver true fs t (known fs))).length + (tagB (others fs t.u)).length := by rw [allTags_eq, tagB_append, List.length_append]
  rw [← hal] at hlimA
  have hap := apart_of hd4.ge ho2.lt
  repeat first|(with_reducible first|apply wc_seq|apply wc_region|apply wl_nil|apply qk_thn|apply wc_block|apply wc_skip|apply wc_ret|apply wc_exit|apply qk_thn_ret|apply qk_in_ret|apply qk_in|apply qk_thn_exit|apply qk_in_exit|apply qk_round_ret|apply qk_round_exit)|((with_reducible apply ws);exact rfl;exact rfl)|((with_reducible apply wl_yes);exact rfl;exact rfl;exact rfl)|((with_reducible apply wl_no);exact rfl;exact rfl;exact rfl;exact rfl)|((with_reducible apply wl_noU);exact rfl;exact rfl;exact rfl)
  refine wl_conv .u64 rfl ti_i64 ti_u64 rfl (r := ((allTags ver true fs t).length : Int)) (by rw [IntKind.wrap_u64]; simp only [lim] at hlimA; omega) ?_
  refine wl_call rfl (by kernel_rfl) rfl ((fn_uvarint (allTags ver true fs t).length (by simp only [lim] at hlimA; omega) w4).mono ?_)
  rintro e w5 ⟨u1, rfl, hw5, hu1⟩
  refine ⟨u1, rfl, ?_⟩
  have hs5 := hw5.size
  have hd5 := hd4.below hw5
  have ho5 := ho4.below hw5
  refine wl_appSl tb_bytes tb_bytes rfl rfl rfl hu1.bytes ho5 (by omega) (by omega) (fun o1 w6 ho6 hg6 => ?_)
  obtain ⟨hd6, hap6⟩ := hd5.apart hap hg6
  have hs6 := hg6.grown.size
  obtain ⟨da, dc, rfl⟩ := hd6.shape
  repeat first|(with_reducible first|apply wc_seq|apply wc_region|apply wl_nil|apply qk_thn|apply wc_block|apply wc_skip|apply wc_ret|apply wc_exit|apply qk_thn_ret|apply qk_in_ret|apply qk_in|apply qk_thn_exit|apply qk_in_exit|apply qk_round_ret|apply qk_round_exit)|((with_reducible apply ws);exact rfl;exact rfl)|((with_reducible apply wl_yes);exact rfl;exact rfl;exact rfl)|((with_reducible apply wl_no);exact rfl;exact rfl;exact rfl;exact rfl)|((with_reducible apply wl_noU);exact rfl;exact rfl;exact rfl)
  refine wl_appSl tb_bytes tb_bytes rfl rfl rfl hd6.bytes ho6 (by omega) (by rw [List.length_append]; omega) (fun o2 w7 ho7 hg7 => ?_)
  have hs7 := hg7.grown.size
  repeat first|(with_reducible first|apply wc_seq|apply wc_region|apply wl_nil|apply qk_thn|apply wc_block|apply wc_skip|apply wc_ret|apply wc_exit|apply qk_thn_ret|apply qk_in_ret|apply qk_in|apply qk_thn_exit|apply qk_in_exit|apply qk_round_ret|apply qk_round_exit)|((with_reducible apply ws);exact rfl;exact rfl)|((with_reducible apply wl_yes);exact rfl;exact rfl;exact rfl)|((with_reducible apply wl_no);exact rfl;exact rfl;exact rfl;exact rfl)|((with_reducible apply wl_noU);exact rfl;exact rfl;exact rfl)
  refine qk_ret1 rfl rfl ⟨_, rfl, ((((hw02.trans (hw4.mono (by omega))).trans (hw5.mono (by omega))).trans (hg6.below (by omega) (fun g hg => by have := ho5.ge g hg; omega))).trans (hg7.below (by omega) (fun g hg => by have := ho6.ge g hg; omega))), ?_⟩
  rw [wPart_true, ← List.append_assoc]
  exact ho7.mono (by omega)
end
mutual
theorem field_ok : ∀ f : Fld, f.okb = true → FieldOK f ∧ UsualOK f
  | .mk kind fr upto nul tag df of sub, h => by
    have hs : fsok sub = true := fsok.sub h
    have ih := fields_ok sub (by simp only [fsok, Bool.and_eq_true] at hs; exact hs.1)
    have hp := part_of sub hs (fun f hf => (ih f hf).1) (fun f hf => (ih f hf).2)
    exact ⟨field_of _ (fun k => value_of k _ hp) hp, usual_of _ hs (fun g hg => (ih g hg).2)⟩
theorem fields_ok : ∀ fs : List Fld, Fld.oksb fs = true → ∀ f ∈ fs, FieldOK f ∧ UsualOK f
  | [], _, f, hf => by cases hf
  | g :: fs, h, f, hf => by
    simp only [Fld.oksb, Bool.and_eq_true] at h
    have hg := field_ok g h.1
    have hr := fields_ok fs h.2
    rcases List.mem_cons.1 hf with h0 | h1
    · rw [h0]; exact hg
    · exact hr f h1
end
theorem part_ok (fs : List Fld) (h : fsok fs = true) : PartOK fs := by
  have ih := fields_ok fs (by simp only [fsok, Bool.and_eq_true] at h; exact h.1)
  exact part_of fs h (fun f hf => (ih f hf).1) (fun f hf => (ih f hf).2)
end Go.Proofs.YtlmnaffhadeolaaGreatDoor

namespace Go.Proofs.YtlmnaffhadeolaaGreatDoor
open Go Go.RowKit
section
set_option maxRecDepth 100000
theorem fn_fits3 (kv : Nat × List UInt8) (B : Nat) (w : World) (ts : List Value) (ht : Rep (Lo B) w (tagD kv) ts) : Fn 62 [.agg ts.toArray] w fun v _ => ∃ b : Bool, v = .bool b := by
 obtain ⟨sv, rfl, hs⟩ := tag_cells ht
 obtain ⟨sa, sc, rfl, _⟩ := hs.shape
 refine enter Tryz.func62 rfl Tryz.ntmps62 rfl ?_
 repeat first|(with_reducible first|apply wc_seq|apply wc_region|apply wl_nil|apply qk_thn|apply wc_block|apply wc_skip|apply wc_ret|apply wc_exit|apply qk_thn_ret|apply qk_in_ret|apply qk_in|apply qk_thn_exit|apply qk_in_exit|apply qk_round_ret|apply qk_round_exit)|((with_reducible apply ws);exact rfl;exact rfl)|((with_reducible apply wl_yes);exact rfl;exact rfl;exact rfl)|((with_reducible apply wl_no);exact rfl;exact rfl;exact rfl;exact rfl)|((with_reducible apply wl_noU);exact rfl;exact rfl;exact rfl)
 refine wl_box1 rfl rfl rfl (fun w1 hb1 hg1 hs1 => ?_)
 have hw1 : Below w.heap.size w w1 := below_of hg1 (Nat.le_refl _) (by simp)
 repeat first|(with_reducible first|apply wc_seq|apply wc_region|apply wl_nil|apply qk_thn|apply wc_block|apply wc_skip|apply wc_ret|apply wc_exit|apply qk_thn_ret|apply qk_in_ret|apply qk_in|apply qk_thn_exit|apply qk_in_exit|apply qk_round_ret|apply qk_round_exit)|((with_reducible apply ws);exact rfl;exact rfl)|((with_reducible apply wl_yes);exact rfl;exact rfl;exact rfl)|((with_reducible apply wl_no);exact rfl;exact rfl;exact rfl;exact rfl)|((with_reducible apply wl_noU);exact rfl;exact rfl;exact rfl)
 refine wl_loadB rfl to_bytes rfl hb1 rfl ?_
 repeat first|(with_reducible first|apply wc_seq|apply wc_region|apply wl_nil|apply qk_thn|apply wc_block|apply wc_skip|apply wc_ret|apply wc_exit|apply qk_thn_ret|apply qk_in_ret|apply qk_in|apply qk_thn_exit|apply qk_in_exit|apply qk_round_ret|apply qk_round_exit)|((with_reducible apply ws);exact rfl;exact rfl)|((with_reducible apply wl_yes);exact rfl;exact rfl;exact rfl)|((with_reducible apply wl_no);exact rfl;exact rfl;exact rfl;exact rfl)|((with_reducible apply wl_noU);exact rfl;exact rfl;exact rfl)
 by_cases h : (2147483647 : Int) < ((kv.2.map byteD).length : Int)
 ·refine wc_yes rfl (by simpa using h) ?_
  repeat first|(with_reducible first|apply wc_seq|apply wc_region|apply wl_nil|apply qk_thn|apply wc_block|apply wc_skip|apply wc_ret|apply wc_exit|apply qk_thn_ret|apply qk_in_ret|apply qk_in|apply qk_thn_exit|apply qk_in_exit|apply qk_round_ret|apply qk_round_exit)|((with_reducible apply ws);exact rfl;exact rfl)|((with_reducible apply wl_yes);exact rfl;exact rfl;exact rfl)|((with_reducible apply wl_no);exact rfl;exact rfl;exact rfl;exact rfl)|((with_reducible apply wl_noU);exact rfl;exact rfl;exact rfl)
  exact qk_ret1 rfl rfl ⟨_, rfl, hw1, _, rfl⟩
 ·refine wc_no rfl (by simpa using h) ?_
  repeat first|(with_reducible first|apply wc_seq|apply wc_region|apply wl_nil|apply qk_thn|apply wc_block|apply wc_skip|apply wc_ret|apply wc_exit|apply qk_thn_ret|apply qk_in_ret|apply qk_in|apply qk_thn_exit|apply qk_in_exit|apply qk_round_ret|apply qk_round_exit)|((with_reducible apply ws);exact rfl;exact rfl)|((with_reducible apply wl_yes);exact rfl;exact rfl;exact rfl)|((with_reducible apply wl_no);exact rfl;exact rfl;exact rfl;exact rfl)|((with_reducible apply wl_noU);exact rfl;exact rfl;exact rfl)
  exact qk_ret1 rfl rfl ⟨_, rfl, hw1, _, rfl⟩
theorem fn_fits2 (u : List (Nat × List UInt8)) (B : Nat) (w : World) (uv : Value) (hB : B ≤ w.heap.size) (hu : Sq B w uv (u.map tagD)) : Fn 28 [uv] w fun v _ => ∃ b : Bool, v = .bool b := by
 obtain ⟨ua, uc, rfl, _⟩ := hu.shape
 refine enter Tryz.func28 rfl Tryz.ntmps28 rfl ?_
 repeat first|(with_reducible first|apply wc_seq|apply wc_region|apply wl_nil|apply qk_thn|apply wc_block|apply wc_skip|apply wc_ret|apply wc_exit|apply qk_thn_ret|apply qk_in_ret|apply qk_in|apply qk_thn_exit|apply qk_in_exit|apply qk_round_ret|apply qk_round_exit)|((with_reducible apply ws);exact rfl;exact rfl)|((with_reducible apply wl_yes);exact rfl;exact rfl;exact rfl)|((with_reducible apply wl_no);exact rfl;exact rfl;exact rfl;exact rfl)|((with_reducible apply wl_noU);exact rfl;exact rfl;exact rfl)
 by_cases h : (2147483647 : Int) < ((u.map tagD).length : Int)
 ·refine wc_yes rfl (by simpa using h) ?_
  repeat first|(with_reducible first|apply wc_seq|apply wc_region|apply wl_nil|apply qk_thn|apply wc_block|apply wc_skip|apply wc_ret|apply wc_exit|apply qk_thn_ret|apply qk_in_ret|apply qk_in|apply qk_thn_exit|apply qk_in_exit|apply qk_round_ret|apply qk_round_exit)|((with_reducible apply ws);exact rfl;exact rfl)|((with_reducible apply wl_yes);exact rfl;exact rfl;exact rfl)|((with_reducible apply wl_no);exact rfl;exact rfl;exact rfl;exact rfl)|((with_reducible apply wl_noU);exact rfl;exact rfl;exact rfl)
  exact qk_ret1 rfl rfl ⟨_, rfl, Below.refl _ _, _, rfl⟩
 ·refine wc_no rfl (by simpa using h) ?_
  repeat first|(with_reducible first|apply wc_seq|apply wc_region|apply wl_nil|apply qk_thn|apply wc_block|apply wc_skip|apply wc_ret|apply wc_exit|apply qk_thn_ret|apply qk_in_ret|apply qk_in|apply qk_thn_exit|apply qk_in_exit|apply qk_round_ret|apply qk_round_exit)|((with_reducible apply ws);exact rfl;exact rfl)|((with_reducible apply wl_yes);exact rfl;exact rfl;exact rfl)|((with_reducible apply wl_no);exact rfl;exact rfl;exact rfl;exact rfl)|((with_reducible apply wl_noU);exact rfl;exact rfl;exact rfl)
  rw [List.length_map] at *
  refine wc_loop (α := Nat) (fun i => [(10, .int .i64 (i : Int)), (9, .int .i64 (u.length : Int)), (8, .slice ua u.length uc)]) (fun i w' => i ≤ u.length ∧ Below w.heap.size w w') (fun i => u.length - i) 0 ⟨rfl, rfl, rfl, trivial⟩ ⟨Nat.zero_le _, Below.refl _ _⟩ ?_
  rintro i w1 ⟨hi, hw1⟩
  repeat first|(with_reducible first|apply wc_seq|apply wc_region|apply wl_nil|apply qk_thn|apply wc_block|apply wc_skip|apply wc_ret|apply wc_exit|apply qk_thn_ret|apply qk_in_ret|apply qk_in|apply qk_thn_exit|apply qk_in_exit|apply qk_round_ret|apply qk_round_exit)|((with_reducible apply ws);exact rfl;exact rfl)|((with_reducible apply wl_yes);exact rfl;exact rfl;exact rfl)|((with_reducible apply wl_no);exact rfl;exact rfl;exact rfl;exact rfl)|((with_reducible apply wl_noU);exact rfl;exact rfl;exact rfl)
  by_cases hlt : i < u.length
  ·refine wc_yes rfl (by simpa using hlt) ?_
   obtain ⟨b, off, c', cs, hv, hbB, hcs, hlen, hr⟩ := (hu.below (hw1.mono hB) (Nat.le_refl _)).get (sz := 2) (i := i) (by intro d hd; obtain ⟨x, _, rfl⟩ := List.mem_map.1 hd; exact tagD_width x) (by simpa using hlt)
   simp only [Value.slice.injEq, List.length_map] at hv
   obtain ⟨rfl, _, rfl⟩ := hv
   simp only [List.getElem_map] at hr
   obtain ⟨hcone, _⟩ := tag_one hr
   repeat first|(with_reducible first|apply wc_seq|apply wc_region|apply wl_nil|apply qk_thn|apply wc_block|apply wc_skip|apply wc_ret|apply wc_exit|apply qk_thn_ret|apply qk_in_ret|apply qk_in|apply qk_thn_exit|apply qk_in_exit|apply qk_round_ret|apply qk_round_exit)|((with_reducible apply ws);exact rfl;exact rfl)|((with_reducible apply wl_yes);exact rfl;exact rfl;exact rfl)|((with_reducible apply wl_no);exact rfl;exact rfl;exact rfl;exact rfl)|((with_reducible apply wl_noU);exact rfl;exact rfl;exact rfl)
   refine wl_indexAddr rfl rfl es_tags rfl hlt ?_
   refine wl_loadAgg rfl (by rw [hlen]; exact ta_tag) rfl (fun j v e => hcs.cell e) ?_
   refine wl_alloc zv_tag rfl rfl (fun w8 hb8 hg8 hs8 => ?_)
   refine wl_storeBAgg rfl rfl rfl (by rw [hlen]; exact tz_tag) hcone hb8 (by rw [hlen]; rfl) (fun w9 hb9 hg9 hs9 => ?_)
   have hs1 := hw1.size
   have hw19 : Below w1.heap.size w1 w9 := (below_of hg8 (Nat.le_refl _) (by simp)).trans (below_of hg9 (by omega) (by intro k hk; simp at hk; omega))
   have hs19 := hw19.size
   repeat first|(with_reducible first|apply wc_seq|apply wc_region|apply wl_nil|apply qk_thn|apply wc_block|apply wc_skip|apply wc_ret|apply wc_exit|apply qk_thn_ret|apply qk_in_ret|apply qk_in|apply qk_thn_exit|apply qk_in_exit|apply qk_round_ret|apply qk_round_exit)|((with_reducible apply ws);exact rfl;exact rfl)|((with_reducible apply wl_yes);exact rfl;exact rfl;exact rfl)|((with_reducible apply wl_no);exact rfl;exact rfl;exact rfl;exact rfl)|((with_reducible apply wl_noU);exact rfl;exact rfl;exact rfl)
   refine wl_loadBAgg rfl (by rw [hlen]; exact ta_tag) rfl hb9 ?_
   refine wl_call rfl (by kernel_rfl) rfl ((fn_fits3 u[i] B w9 _ (Rep.below hr (hw19.mono (by omega)) (Nat.le_refl _))).mono ?_)
   rintro e w10 ⟨v, rfl, hw10, q, rfl⟩
   refine ⟨_, rfl, ?_⟩
   repeat first|(with_reducible first|apply wc_seq|apply wc_region|apply wl_nil|apply qk_thn|apply wc_block|apply wc_skip|apply wc_ret|apply wc_exit|apply qk_thn_ret|apply qk_in_ret|apply qk_in|apply qk_thn_exit|apply qk_in_exit|apply qk_round_ret|apply qk_round_exit)|((with_reducible apply ws);exact rfl;exact rfl)|((with_reducible apply wl_yes);exact rfl;exact rfl;exact rfl)|((with_reducible apply wl_no);exact rfl;exact rfl;exact rfl;exact rfl)|((with_reducible apply wl_noU);exact rfl;exact rfl;exact rfl)
   cases q
   ·refine wc_yes rfl rfl ?_
    repeat first|(with_reducible first|apply wc_seq|apply wc_region|apply wl_nil|apply qk_thn|apply wc_block|apply wc_skip|apply wc_ret|apply wc_exit|apply qk_thn_ret|apply qk_in_ret|apply qk_in|apply qk_thn_exit|apply qk_in_exit|apply qk_round_ret|apply qk_round_exit)|((with_reducible apply ws);exact rfl;exact rfl)|((with_reducible apply wl_yes);exact rfl;exact rfl;exact rfl)|((with_reducible apply wl_no);exact rfl;exact rfl;exact rfl;exact rfl)|((with_reducible apply wl_noU);exact rfl;exact rfl;exact rfl)
    exact qk_ret1 rfl rfl ⟨_, rfl, (hw1.trans (hw19.mono hs1)).trans (hw10.mono (by omega)), _, rfl⟩
   ·refine wc_no rfl rfl ?_
    repeat first|(with_reducible first|apply wc_seq|apply wc_region|apply wl_nil|apply qk_thn|apply wc_block|apply wc_skip|apply wc_ret|apply wc_exit|apply qk_thn_ret|apply qk_in_ret|apply qk_in|apply qk_thn_exit|apply qk_in_exit|apply qk_round_ret|apply qk_round_exit)|((with_reducible apply ws);exact rfl;exact rfl)|((with_reducible apply wl_yes);exact rfl;exact rfl;exact rfl)|((with_reducible apply wl_no);exact rfl;exact rfl;exact rfl;exact rfl)|((with_reducible apply wl_noU);exact rfl;exact rfl;exact rfl)
    refine wl_add rfl rfl rfl (r := ((i + 1 : Nat) : Int)) (by rw [IntKind.wrap_i64]; omega) ?_
    repeat first|(with_reducible first|apply wc_seq|apply wc_region|apply wl_nil|apply qk_thn|apply wc_block|apply wc_skip|apply wc_ret|apply wc_exit|apply qk_thn_ret|apply qk_in_ret|apply qk_in|apply qk_thn_exit|apply qk_in_exit|apply qk_round_ret|apply qk_round_exit)|((with_reducible apply ws);exact rfl;exact rfl)|((with_reducible apply wl_yes);exact rfl;exact rfl;exact rfl)|((with_reducible apply wl_no);exact rfl;exact rfl;exact rfl;exact rfl)|((with_reducible apply wl_noU);exact rfl;exact rfl;exact rfl)
    exact qk_round (i + 1) ⟨rfl, rfl, rfl, trivial⟩ ⟨by omega, (hw1.trans (hw19.mono hs1)).trans (hw10.mono (by omega))⟩ (by omega)
  ·refine wc_no rfl (by simpa using hlt) ?_
   repeat first|(with_reducible first|apply wc_seq|apply wc_region|apply wl_nil|apply qk_thn|apply wc_block|apply wc_skip|apply wc_ret|apply wc_exit|apply qk_thn_ret|apply qk_in_ret|apply qk_in|apply qk_thn_exit|apply qk_in_exit|apply qk_round_ret|apply qk_round_exit)|((with_reducible apply ws);exact rfl;exact rfl)|((with_reducible apply wl_yes);exact rfl;exact rfl;exact rfl)|((with_reducible apply wl_no);exact rfl;exact rfl;exact rfl;exact rfl)|((with_reducible apply wl_noU);exact rfl;exact rfl;exact rfl)
   exact qk_ret1 rfl rfl ⟨_, rfl, hw1, _, rfl⟩
theorem fn_fits1 (t : Tree) (B : Nat) (w : World) (ts : List Value) (hB : B ≤ w.heap.size) (ht : Rep (Lo B) w (treeD t) ts) : Fn 7 [.agg ts.toArray] w fun v _ => ∃ b : Bool, v = .bool b := by
 obtain ⟨sv, lv, uv, rfl, hs, hl, hu⟩ := tree_cells ht
 obtain ⟨la, lc, rfl, _⟩ := hl.shape
 obtain ⟨sa, sc, rfl, _⟩ := hs.shape
 refine enter Tryz.func7 rfl Tryz.ntmps7 rfl ?_
 repeat first|(with_reducible first|apply wc_seq|apply wc_region|apply wl_nil|apply qk_thn|apply wc_block|apply wc_skip|apply wc_ret|apply wc_exit|apply qk_thn_ret|apply qk_in_ret|apply qk_in|apply qk_thn_exit|apply qk_in_exit|apply qk_round_ret|apply qk_round_exit)|((with_reducible apply ws);exact rfl;exact rfl)|((with_reducible apply wl_yes);exact rfl;exact rfl;exact rfl)|((with_reducible apply wl_no);exact rfl;exact rfl;exact rfl;exact rfl)|((with_reducible apply wl_noU);exact rfl;exact rfl;exact rfl)
 refine wl_box1 rfl rfl rfl (fun w1 hb1 hg1 hs1 => ?_)
 have hw1 : Below w.heap.size w w1 := below_of hg1 (Nat.le_refl _) (by simp)
 repeat first|(with_reducible first|apply wc_seq|apply wc_region|apply wl_nil|apply qk_thn|apply wc_block|apply wc_skip|apply wc_ret|apply wc_exit|apply qk_thn_ret|apply qk_in_ret|apply qk_in|apply qk_thn_exit|apply qk_in_exit|apply qk_round_ret|apply qk_round_exit)|((with_reducible apply ws);exact rfl;exact rfl)|((with_reducible apply wl_yes);exact rfl;exact rfl;exact rfl)|((with_reducible apply wl_no);exact rfl;exact rfl;exact rfl;exact rfl)|((with_reducible apply wl_noU);exact rfl;exact rfl;exact rfl)
 refine wl_loadB rfl to_bytes rfl hb1 rfl ?_
 repeat first|(with_reducible first|apply wc_seq|apply wc_region|apply wl_nil|apply qk_thn|apply wc_block|apply wc_skip|apply wc_ret|apply wc_exit|apply qk_thn_ret|apply qk_in_ret|apply qk_in|apply qk_thn_exit|apply qk_in_exit|apply qk_round_ret|apply qk_round_exit)|((with_reducible apply ws);exact rfl;exact rfl)|((with_reducible apply wl_yes);exact rfl;exact rfl;exact rfl)|((with_reducible apply wl_no);exact rfl;exact rfl;exact rfl;exact rfl)|((with_reducible apply wl_noU);exact rfl;exact rfl;exact rfl)
 by_cases h : (2147483647 : Int) < ((t.s.map byteD).length : Int)
 ·refine wc_yes rfl (by simpa using h) ?_
  repeat first|(with_reducible first|apply wc_seq|apply wc_region|apply wl_nil|apply qk_thn|apply wc_block|apply wc_skip|apply wc_ret|apply wc_exit|apply qk_thn_ret|apply qk_in_ret|apply qk_in|apply qk_thn_exit|apply qk_in_exit|apply qk_round_ret|apply qk_round_exit)|((with_reducible apply ws);exact rfl;exact rfl)|((with_reducible apply wl_yes);exact rfl;exact rfl;exact rfl)|((with_reducible apply wl_no);exact rfl;exact rfl;exact rfl;exact rfl)|((with_reducible apply wl_noU);exact rfl;exact rfl;exact rfl)
  exact qk_ret1 rfl rfl ⟨_, rfl, hw1, _, rfl⟩
 ·refine wc_no rfl (by simpa using h) ?_
  repeat first|(with_reducible first|apply wc_seq|apply wc_region|apply wl_nil|apply qk_thn|apply wc_block|apply wc_skip|apply wc_ret|apply wc_exit|apply qk_thn_ret|apply qk_in_ret|apply qk_in|apply qk_thn_exit|apply qk_in_exit|apply qk_round_ret|apply qk_round_exit)|((with_reducible apply ws);exact rfl;exact rfl)|((with_reducible apply wl_yes);exact rfl;exact rfl;exact rfl)|((with_reducible apply wl_no);exact rfl;exact rfl;exact rfl;exact rfl)|((with_reducible apply wl_noU);exact rfl;exact rfl;exact rfl)
  refine wl_loadB rfl to_trees rfl hb1 rfl ?_
  repeat first|(with_reducible first|apply wc_seq|apply wc_region|apply wl_nil|apply qk_thn|apply wc_block|apply wc_skip|apply wc_ret|apply wc_exit|apply qk_thn_ret|apply qk_in_ret|apply qk_in|apply qk_thn_exit|apply qk_in_exit|apply qk_round_ret|apply qk_round_exit)|((with_reducible apply ws);exact rfl;exact rfl)|((with_reducible apply wl_yes);exact rfl;exact rfl;exact rfl)|((with_reducible apply wl_no);exact rfl;exact rfl;exact rfl;exact rfl)|((with_reducible apply wl_noU);exact rfl;exact rfl;exact rfl)
  by_cases h : (2147483647 : Int) < ((t.l.map treeD).length : Int)
  ·refine wc_yes rfl (by simpa using h) ?_
   repeat first|(with_reducible first|apply wc_seq|apply wc_region|apply wl_nil|apply qk_thn|apply wc_block|apply wc_skip|apply wc_ret|apply wc_exit|apply qk_thn_ret|apply qk_in_ret|apply qk_in|apply qk_thn_exit|apply qk_in_exit|apply qk_round_ret|apply qk_round_exit)|((with_reducible apply ws);exact rfl;exact rfl)|((with_reducible apply wl_yes);exact rfl;exact rfl;exact rfl)|((with_reducible apply wl_no);exact rfl;exact rfl;exact rfl;exact rfl)|((with_reducible apply wl_noU);exact rfl;exact rfl;exact rfl)
   exact qk_ret1 rfl rfl ⟨_, rfl, hw1, _, rfl⟩
  ·refine wc_no rfl (by simpa using h) ?_
   repeat first|(with_reducible first|apply wc_seq|apply wc_region|apply wl_nil|apply qk_thn|apply wc_block|apply wc_skip|apply wc_ret|apply wc_exit|apply qk_thn_ret|apply qk_in_ret|apply qk_in|apply qk_thn_exit|apply qk_in_exit|apply qk_round_ret|apply qk_round_exit)|((with_reducible apply ws);exact rfl;exact rfl)|((with_reducible apply wl_yes);exact rfl;exact rfl;exact rfl)|((with_reducible apply wl_no);exact rfl;exact rfl;exact rfl;exact rfl)|((with_reducible apply wl_noU);exact rfl;exact rfl;exact rfl)
   refine wl_loadB rfl to_tags rfl hb1 rfl ?_
   refine wl_call rfl (by kernel_rfl) rfl ((fn_fits2 t.u B w1 _ (by omega) (hu.below (hw1.mono hB) (Nat.le_refl _))).mono ?_)
   rintro e w2 ⟨v, rfl, hw2, q, rfl⟩
   refine ⟨_, rfl, ?_⟩
   repeat first|(with_reducible first|apply wc_seq|apply wc_region|apply wl_nil|apply qk_thn|apply wc_block|apply wc_skip|apply wc_ret|apply wc_exit|apply qk_thn_ret|apply qk_in_ret|apply qk_in|apply qk_thn_exit|apply qk_in_exit|apply qk_round_ret|apply qk_round_exit)|((with_reducible apply ws);exact rfl;exact rfl)|((with_reducible apply wl_yes);exact rfl;exact rfl;exact rfl)|((with_reducible apply wl_no);exact rfl;exact rfl;exact rfl;exact rfl)|((with_reducible apply wl_noU);exact rfl;exact rfl;exact rfl)
   cases q
   ·refine wc_yes rfl rfl ?_
    repeat first|(with_reducible first|apply wc_seq|apply wc_region|apply wl_nil|apply qk_thn|apply wc_block|apply wc_skip|apply wc_ret|apply wc_exit|apply qk_thn_ret|apply qk_in_ret|apply qk_in|apply qk_thn_exit|apply qk_in_exit|apply qk_round_ret|apply qk_round_exit)|((with_reducible apply ws);exact rfl;exact rfl)|((with_reducible apply wl_yes);exact rfl;exact rfl;exact rfl)|((with_reducible apply wl_no);exact rfl;exact rfl;exact rfl;exact rfl)|((with_reducible apply wl_noU);exact rfl;exact rfl;exact rfl)
    exact qk_ret1 rfl rfl ⟨_, rfl, hw1.trans (hw2.mono (by omega)), _, rfl⟩
   ·refine wc_no rfl rfl ?_
    repeat first|(with_reducible first|apply wc_seq|apply wc_region|apply wl_nil|apply qk_thn|apply wc_block|apply wc_skip|apply wc_ret|apply wc_exit|apply qk_thn_ret|apply qk_in_ret|apply qk_in|apply qk_thn_exit|apply qk_in_exit|apply qk_round_ret|apply qk_round_exit)|((with_reducible apply ws);exact rfl;exact rfl)|((with_reducible apply wl_yes);exact rfl;exact rfl;exact rfl)|((with_reducible apply wl_no);exact rfl;exact rfl;exact rfl;exact rfl)|((with_reducible apply wl_noU);exact rfl;exact rfl;exact rfl)
    exact qk_ret1 rfl rfl ⟨_, rfl, hw1.trans (hw2.mono (by omega)), _, rfl⟩
theorem fn_write (m : Msg) (hm : fsok m.fields = true) (ver : Int) (t : Tree) (B : Nat) (w : World) (fv : Value) (ts : List Value) (hok : t.ok) (hB : B ≤ w.heap.size) (hf : Sq B w fv (m.fields.map fldD)) (ht : Rep (Lo B) w (treeD t) ts) (hlim : (write m ver t).length ≤ lim) :
  Fn 21 [.agg #[fv, .int .i64 m.flex], .int .i64 ver, .agg ts.toArray] w fun v w' => Own w' w.heap.size 5 v (write m ver t) := by
 obtain ⟨sv, lv, uv, rfl, _, _, _⟩ := tree_cells ht
 obtain ⟨fa, fc, rfl, _⟩ := hf.shape
 refine enter Tryz.func21 rfl Tryz.ntmps21 rfl ?_
 repeat first|(with_reducible first|apply wc_seq|apply wc_region|apply wl_nil|apply qk_thn|apply wc_block|apply wc_skip|apply wc_ret|apply wc_exit|apply qk_thn_ret|apply qk_in_ret|apply qk_in|apply qk_thn_exit|apply qk_in_exit|apply qk_round_ret|apply qk_round_exit)|((with_reducible apply ws);exact rfl;exact rfl)|((with_reducible apply wl_yes);exact rfl;exact rfl;exact rfl)|((with_reducible apply wl_no);exact rfl;exact rfl;exact rfl;exact rfl)|((with_reducible apply wl_noU);exact rfl;exact rfl;exact rfl)
 refine wl_box1 (cs := [.slice fa (m.fields.map fldD).length fc, .int .i64 m.flex]) rfl rfl rfl (fun w1 hb1 hg1 hs1 => wl_box1 rfl rfl rfl (fun w2 hb2 hg2 hs2 => ?_))
 have hb12 := hb1.kept hg2 (by simp)
 have hw2 : Below w.heap.size w w2 := (below_of hg1 (Nat.le_refl _) (by simp)).trans (below_of hg2 (by omega) (by simp))
 have hcall : ∀ flex, m.flexible ver = flex → _ := fun flex hfx => part_ok m.fields hm flex ver t B w2 _ _ hok (by omega) (hf.below (hw2.mono hB) (Nat.le_refl _)) (ht.below (hw2.mono hB) (Nat.le_refl _)) (by rw [← hfx]; exact hlim)
 repeat first|(with_reducible first|apply wc_seq|apply wc_region|apply wl_nil|apply qk_thn|apply wc_block|apply wc_skip|apply wc_ret|apply wc_exit|apply qk_thn_ret|apply qk_in_ret|apply qk_in|apply qk_thn_exit|apply qk_in_exit|apply qk_round_ret|apply qk_round_exit)|((with_reducible apply ws);exact rfl;exact rfl)|((with_reducible apply wl_yes);exact rfl;exact rfl;exact rfl)|((with_reducible apply wl_no);exact rfl;exact rfl;exact rfl;exact rfl)|((with_reducible apply wl_noU);exact rfl;exact rfl;exact rfl)
 refine wl_loadB rfl to_flds rfl hb12 rfl ?_
 repeat first|(with_reducible first|apply wc_seq|apply wc_region|apply wl_nil|apply qk_thn|apply wc_block|apply wc_skip|apply wc_ret|apply wc_exit|apply qk_thn_ret|apply qk_in_ret|apply qk_in|apply qk_thn_exit|apply qk_in_exit|apply qk_round_ret|apply qk_round_exit)|((with_reducible apply ws);exact rfl;exact rfl)|((with_reducible apply wl_yes);exact rfl;exact rfl;exact rfl)|((with_reducible apply wl_no);exact rfl;exact rfl;exact rfl;exact rfl)|((with_reducible apply wl_noU);exact rfl;exact rfl;exact rfl)
 refine wl_loadB rfl to_int rfl hb12 rfl ?_
 repeat first|(with_reducible first|apply wc_seq|apply wc_region|apply wl_nil|apply qk_thn|apply wc_block|apply wc_skip|apply wc_ret|apply wc_exit|apply qk_thn_ret|apply qk_in_ret|apply qk_in|apply qk_thn_exit|apply qk_in_exit|apply qk_round_ret|apply qk_round_exit)|((with_reducible apply ws);exact rfl;exact rfl)|((with_reducible apply wl_yes);exact rfl;exact rfl;exact rfl)|((with_reducible apply wl_no);exact rfl;exact rfl;exact rfl;exact rfl)|((with_reducible apply wl_noU);exact rfl;exact rfl;exact rfl)
 by_cases h0 : 0 ≤ m.flex
 ·have e1 : decide (0 ≤ m.flex) = true := by simpa using h0
  rw [e1]
  repeat first|(with_reducible first|apply wc_seq|apply wc_region|apply wl_nil|apply qk_thn|apply wc_block|apply wc_skip|apply wc_ret|apply wc_exit|apply qk_thn_ret|apply qk_in_ret|apply qk_in|apply qk_thn_exit|apply qk_in_exit|apply qk_round_ret|apply qk_round_exit)|((with_reducible apply ws);exact rfl;exact rfl)|((with_reducible apply wl_yes);exact rfl;exact rfl;exact rfl)|((with_reducible apply wl_no);exact rfl;exact rfl;exact rfl;exact rfl)|((with_reducible apply wl_noU);exact rfl;exact rfl;exact rfl)
  refine wl_loadB rfl to_int rfl hb12 rfl ?_
  repeat first|(with_reducible first|apply wc_seq|apply wc_region|apply wl_nil|apply qk_thn|apply wc_block|apply wc_skip|apply wc_ret|apply wc_exit|apply qk_thn_ret|apply qk_in_ret|apply qk_in|apply qk_thn_exit|apply qk_in_exit|apply qk_round_ret|apply qk_round_exit)|((with_reducible apply ws);exact rfl;exact rfl)|((with_reducible apply wl_yes);exact rfl;exact rfl;exact rfl)|((with_reducible apply wl_no);exact rfl;exact rfl;exact rfl;exact rfl)|((with_reducible apply wl_noU);exact rfl;exact rfl;exact rfl)
  refine wl_loadBAgg (cs := [.int .i64 t.n, sv, .bool t.nul, lv, uv]) rfl ta_tree rfl hb2 ?_
  refine wl_call rfl (by kernel_rfl) rfl ((hcall (decide (m.flex ≤ ver)) (by simp [Msg.flexible, h0])).mono ?_)
  rintro e w3 ⟨v, rfl, hw3, ho⟩
  refine ⟨v, rfl, ?_⟩
  repeat first|(with_reducible first|apply wc_seq|apply wc_region|apply wl_nil|apply qk_thn|apply wc_block|apply wc_skip|apply wc_ret|apply wc_exit|apply qk_thn_ret|apply qk_in_ret|apply qk_in|apply qk_thn_exit|apply qk_in_exit|apply qk_round_ret|apply qk_round_exit)|((with_reducible apply ws);exact rfl;exact rfl)|((with_reducible apply wl_yes);exact rfl;exact rfl;exact rfl)|((with_reducible apply wl_no);exact rfl;exact rfl;exact rfl;exact rfl)|((with_reducible apply wl_noU);exact rfl;exact rfl;exact rfl)
  have e2 : m.flexible ver = decide (m.flex ≤ ver) := by simp [Msg.flexible, h0]
  refine qk_ret1 rfl rfl ⟨_, rfl, hw2.trans (hw3.mono (by omega)), ?_⟩
  rw [write, e2]
  exact ho.mono (by omega)
 ·have e1 : decide (0 ≤ m.flex) = false := by simpa using h0
  rw [e1]
  repeat first|(with_reducible first|apply wc_seq|apply wc_region|apply wl_nil|apply qk_thn|apply wc_block|apply wc_skip|apply wc_ret|apply wc_exit|apply qk_thn_ret|apply qk_in_ret|apply qk_in|apply qk_thn_exit|apply qk_in_exit|apply qk_round_ret|apply qk_round_exit)|((with_reducible apply ws);exact rfl;exact rfl)|((with_reducible apply wl_yes);exact rfl;exact rfl;exact rfl)|((with_reducible apply wl_no);exact rfl;exact rfl;exact rfl;exact rfl)|((with_reducible apply wl_noU);exact rfl;exact rfl;exact rfl)
  refine wl_loadBAgg (cs := [.int .i64 t.n, sv, .bool t.nul, lv, uv]) rfl ta_tree rfl hb2 ?_
  refine wl_call rfl (by kernel_rfl) rfl ((hcall false (by simp [Msg.flexible, h0])).mono ?_)
  rintro e w3 ⟨v, rfl, hw3, ho⟩
  refine ⟨v, rfl, ?_⟩
  repeat first|(with_reducible first|apply wc_seq|apply wc_region|apply wl_nil|apply qk_thn|apply wc_block|apply wc_skip|apply wc_ret|apply wc_exit|apply qk_thn_ret|apply qk_in_ret|apply qk_in|apply qk_thn_exit|apply qk_in_exit|apply qk_round_ret|apply qk_round_exit)|((with_reducible apply ws);exact rfl;exact rfl)|((with_reducible apply wl_yes);exact rfl;exact rfl;exact rfl)|((with_reducible apply wl_no);exact rfl;exact rfl;exact rfl;exact rfl)|((with_reducible apply wl_noU);exact rfl;exact rfl;exact rfl)
  have e2 : m.flexible ver = false := by simp [Msg.flexible, h0]
  refine qk_ret1 rfl rfl ⟨_, rfl, hw2.trans (hw3.mono (by omega)), ?_⟩
  rw [write, e2]
  exact ho.mono (by omega)
end
end Go.Proofs.YtlmnaffhadeolaaGreatDoor

namespace Go.Proofs.YtlmnaffhadeolaaGreatDoor
open Go Go.RowKit
section
variable {P : Program} {ops : Array Oper} {Q : Exit → Act → World → Prop} {N : Nat} {rest : List Oper} {L : Sl} {w : World} {d : Nat} {ty : TypeId} {pos : String} {aft : Array Edge}
end
end Go.Proofs.YtlmnaffhadeolaaGreatDoor

namespace Go.Proofs.YtlmnaffhadeolaaGreatDoor
open Go Go.RowKit
theorem fill_many (sz : Nat) : ∀ (css : List (List Value)) (k : Nat) (pre post : List Value), pre.length = k * sz → (∀ cs ∈ css, cs.length = sz) → post.length = css.length * sz →
  Instr.fill (fun i => some (i * sz, sz)) (pre ++ post).toArray ((css.zipIdx k).map fun p => (p.2, Value.agg p.1.toArray)) = some (pre ++ css.flatten).toArray
 | [], k, pre, post, _, _, hl => by
  have : post = [] := List.length_eq_zero_iff.1 (by simpa using hl)
  subst this; simp [Instr.fill]
 | cs :: css, k, pre, post, hp, hc, hl => by
  have hcs := hc cs (by simp)
  simp only [List.length_cons, Nat.succ_mul] at hl
  obtain ⟨a, b, rfl, ha⟩ : ∃ a b, post = a ++ b ∧ a.length = sz := ⟨post.take sz, post.drop sz, (List.take_append_drop _ _).symm, by rw [List.length_take]; omega⟩
  have hb : b.length = css.length * sz := by rw [List.length_append] at hl; omega
  simp only [List.zipIdx_cons, List.map_cons, Instr.fill]
  have h1 : ¬ ((Value.agg cs.toArray).cells.size ≠ sz) := by simp [Value.cells, hcs]
  have h2 : ¬ (k * sz + (Value.agg cs.toArray).cells.size > (pre ++ (a ++ b)).toArray.size) := by simp [Value.cells, hcs, hp, ha]
  simp only [h1, h2, decide_false, Bool.or_false, Bool.false_eq_true, if_false]
  have hf := fold_sets (k * sz) cs 0 pre a (by simpa using hp) (by rw [ha, hcs])
  have hf2 : ((Value.agg cs.toArray).cells.zipIdx.foldl (fun cs p => cs.setIfInBounds (k * sz + p.2) p.1) (pre ++ (a ++ b)).toArray) = (pre ++ cs ++ b).toArray := by
   have hz : cs.toArray.zipIdx = (cs.zipIdx).toArray := by apply Array.ext'; simp
   simp only [Value.cells]
   rw [hz]
   simp only [List.foldl_toArray]
   have gen : ∀ (l : List Value) (j : Nat) (p q r : List Value), p.length = k * sz + j → q.length = l.length →
     (l.zipIdx j).foldl (fun cs p => cs.setIfInBounds (k * sz + p.2) p.1) (p ++ (q ++ r)).toArray = (p ++ (l ++ r)).toArray := by
    intro l
    induction l with
    | nil => intro j p q r _ hq; have : q = [] := List.length_eq_zero_iff.1 (by simpa using hq); subst this; rfl
    | cons v l ih =>
     intro j p q r hp hq
     cases q with
     | nil => cases hq
     | cons x q =>
      simp only [List.zipIdx_cons, List.foldl_cons]
      have hset : (p ++ (x :: q ++ r)).toArray.setIfInBounds (k * sz + j) v = ((p ++ [v]) ++ (q ++ r)).toArray := by
       rw [List.setIfInBounds_toArray, ← hp]; simp
      rw [hset, ih (j + 1) (p ++ [v]) q r (by simp [hp]; omega) (by simpa using hq)]
      simp
   have := gen cs 0 pre a b (by simpa using hp) (by rw [ha, hcs])
   simpa [List.append_assoc] using this
  rw [hf2]
  have ih := fill_many sz css (k + 1) (pre ++ cs) b (by simp [hp, hcs, Nat.succ_mul]) (fun c h => hc c (by simp [h])) hb
  rw [ih]
  simp
section
variable {P : Program} {ops : Array Oper} {Q : Exit → Act → World → Prop} {N : Nat} {rest : List Oper} {L : Sl} {w : World} {d : Nat} {ty : TypeId} {pos : String} {aft : Array Edge}
theorem wl_sliceN {t e sz n : Nat} {ps : List (Nat × Operand)} {vs : List Value} (css : List (List Value)) (hT : rowTy P t e sz = true) (hps : evp L 0 ps = some vs) (hvs : vs = css.map fun cs => Value.agg cs.toArray) (hlen : ∀ cs ∈ css, cs.length = sz) (hn : n = css.length) (hsz : (Nat.blt 0 sz && Nat.ble (n * sz) 16777216 && Nat.blt 0 n) = true) (hd : Nat.blt d N = true)
  (h : ∀ w', Box w' w.heap.size css.flatten e → w.grownBy w' none → w'.heap.size = w.heap.size + 1 → WL rest P ops Q N ((d, .slice (some ⟨w.heap.size, 0, none⟩) n n) :: L) w') :
  WL (⟨some d, .buildSlice t n ps.toArray, ty, pos, aft, none⟩ :: rest) P ops Q N L w := by
 intro a k
 obtain ⟨hu, i, z, hi, hs1, hb1, hz, hzc⟩ := rowTy_out hT
 simp only [Bool.and_eq_true] at hsz
 have hsz1 : 0 < sz := Nat.le_of_ble_eq_true hsz.1.1
 have hsz2 := Nat.le_of_ble_eq_true hsz.1.2
 have hn0 : 0 < n := Nat.le_of_ble_eq_true hsz.2
 refine st_of (o := ⟨some d, .buildSlice t n ps.toArray, ty, pos, aft, none⟩) (v := .slice (some ⟨w.heap.size, 0, none⟩) n n) (w' := w.alloc (.cells css.flatten.toArray e)) rfl ?_ (h _ (box_alloc w _ e) (grown_alloc w _) (by simp) _ (k.put _ hd))
 have hparts := evp_spec k ps 0 _ hps
 have hm : (ps.toArray.map fun x => (x.1, a.eval x.2)).toList = (css.zipIdx 0).map fun p => (p.2, Value.agg p.1.toArray) := by
  rw [hvs] at hparts
  have e1 : (ps.toArray.map fun x => (x.1, a.eval x.2)).toList = ps.map fun p => (p.1, a.eval p.2) := by simp
  rw [e1, hparts]
  rw [List.zipIdx_map, List.map_map]
  rfl
 have hfill := fill_many sz css 0 [] ((List.range (n * sz)).map (z.cells[· % z.cells.size]!)) (by simp) hlen (by simp [hn])
 simp only [List.nil_append] at hfill
 have hmul : 0 < n * sz := Nat.mul_pos hn0 hsz1
 simp only [execOp, Instr.buildSlice]
 simp only [Sem.run_bind, run_underlying hu, Result.andThen_ok, sizeOf, typeInfo, run_program, hi, Sem.run_pure, hs1]
 rw [show ((2 : Nat) ^ 24) = 16777216 from rfl, if_neg (by omega), if_neg (by omega)]
 simp only [zeroValue, typeInfo, Sem.run_bind, run_program, Result.andThen_ok, hi, Sem.run_pure, hz]
 rw [hm, ← List.toArray_range, List.map_toArray, hfill]
 simp [newRow]
end
end Go.Proofs.YtlmnaffhadeolaaGreatDoor

namespace Go.Proofs.YtlmnaffhadeolaaGreatDoor.Rdk
open Go Go.RowKit
def tbl : Tbl := ⟨[(154, 0, 0), (154, 1, 1)], [22]⟩
theorem tbl_ok : tbl.ok Tryz.prog = true := by kernel_rfl
theorem ws {ops : Array Oper} {Q : Exit → Act → World → Prop} {N : Nat} {rest : List Oper} {L : Sl} {w : World} {d : Nat} {ty : TypeId} {pos : String} {aft : Array Edge} {o : Op} {v : Value}
  (hs : stepOp tbl L o = some v) (hd : Nat.blt d N = true) (h : WL rest Tryz.prog ops Q N ((d, v) :: L) w) : WL (⟨some d, o, ty, pos, aft, none⟩ :: rest) Tryz.prog ops Q N L w := wl_step tbl tbl_ok hs hd h
theorem to_bytes : tyOne Tryz.prog 22 = true := by kernel_rfl
theorem to_bool : tyOne Tryz.prog 4 = true := by kernel_rfl
theorem to_u8 : tyOne Tryz.prog 5 = true := by kernel_rfl
theorem es_bytes : elemSize Tryz.prog 22 = some 1 := by kernel_rfl
theorem fail_out {X : Prop} {p : Rp} {v : Value} {st : Option (List UInt8)} {s : List UInt8} {w w1 w2 : World} {rb sb lo : Nat} {e : TypeId} (hsh : shDs [D.lit v] = shR p) (h1 : v.cells = #[v]) (ho : v.oneCell' = true) (hst : (st = none ∧ X) ∨ st = some s) (hp : rdP p s = none)
  (g1 : w.grownBy w1 (some rb)) (g2 : w1.grownBy w2 (some rb)) (hb : Box w2 rb [.slice none 0 0, .bool true] e) :
  ∃ v' nd st', Ending.returned v = .returned v' ∧ Chg (· = rb) w w2 ∧ Rdr w2 rb sb st' ∧ Reps (Dk sb lo w2) w2 nd v'.cells.toList ∧ (v'.cells.toList.all fun v => v.oneCell') = true ∧ ((shR p).length = 1 → v'.cells = #[v']) ∧ RdRel p st nd st' := by
 refine ⟨v, [.lit v], none, rfl, (Chg.grown g1).trans (Chg.grown g2), ⟨e, hb⟩, ?_, by rw [h1]; simp [ho], fun _ => h1, hsh, fun d hd => by simp at hd; subst hd; rfl, ?_⟩
 ·rw [h1]; exact reps_lits [v]
 ·rcases hst with ⟨rfl, _⟩ | rfl
  ·rfl
  ·simp only [hp]
theorem ok_out {p : Rp} {v : Value} {s s' : List UInt8} {w w1 : World} {rb sb lo : Nat} {e : TypeId} {sv : Value} (hsh : shDs [D.lit v] = shR p) (h1 : v.cells = #[v]) (ho : v.oneCell' = true) (hp : rdP p s = some ([.lit v], s'))
  (g1 : w.grownBy w1 (some rb)) (hb : Box w1 rb [sv, .bool false] e) (hv : SrcV w sb sv s') (hn : sv ≠ .slice none 0 0) (hl : s'.length ≤ srcLim) (hne : rb ≠ sb) :
  ∃ v' nd st', Ending.returned v = .returned v' ∧ Chg (· = rb) w w1 ∧ Rdr w1 rb sb st' ∧ Reps (Dk sb lo w1) w1 nd v'.cells.toList ∧ (v'.cells.toList.all fun v => v.oneCell') = true ∧ ((shR p).length = 1 → v'.cells = #[v']) ∧ RdRel p (some s) nd st' := by
 refine ⟨v, [.lit v], some s', rfl, Chg.grown g1, (hv.chg (Chg.grown g1) (fun e => hne e.symm)).rdr hb (fun _ => hn) hl, ?_, by rw [h1]; simp [ho], fun _ => h1, hsh, fun d hd => by simp at hd; subst hd; rfl, ?_⟩
 ·rw [h1]; exact reps_lits [v]
 ·simp only [hp, and_self]
end Go.Proofs.YtlmnaffhadeolaaGreatDoor.Rdk

namespace Go.Proofs.YtlmnaffhadeolaaGreatDoor.Rdk
open Go Go.RowKit
section
variable {P : Program} {a : Act} {w : World} {N : Nat} {L : Sl} {d : Option Tmp} {ty : TypeId} {pos : String} {aft : Array Edge} {g : Option (Nat × Bool)}
theorem rn_conv (k' : IntKind) {x : Operand} {s t : TypeId} {kk : IntKind} {n r : Int} (k : Kn N a L) (hx : ev L x = some (.int kk n)) (hs : isInt P s kk = true) (ht : isInt P t k' = true) (hr : k'.wrap n = r) :
  (execOp a.eval ⟨d, .convert s t x, ty, pos, aft, g⟩).run P w = .ok (.value (.int k' r)) w := by
 have hs' := isInt_out hs
 have ht' := isInt_out ht
 simp [execOp, k.eval hx, convert, run_underlying hs', run_underlying ht', Conv.intToInt, hr]
theorem rn_shl {x : Operand} {t u : TypeId} {kk yk : IntKind} {m s r : Int} (k : Kn N a L) (hx : ev L x = some (.int kk m)) (h0 : 0 ≤ s) (h1 : s ≤ kk.bits) (hr : kk.wrap (m * 2 ^ s.toNat) = r) :
  (execOp a.eval ⟨d, .binOp .shl t x (.const (.int yk s)) u, ty, pos, aft, g⟩).run P w = .ok (.value (.int kk r)) w := by
 simp only [execOp, k.eval hx, eval_const]
 simp [eqGuard, binOp, shift_shl kk yk m s h0 h1, hr]
theorem rn_or {x y : Operand} {t u : TypeId} {kk : IntKind} {m n r : Int} (k : Kn N a L) (hx : ev L x = some (.int kk m)) (hy : ev L y = some (.int kk n)) (hr : bits .or kk m n = r) :
  (execOp a.eval ⟨d, .binOp .or t x y u, ty, pos, aft, g⟩).run P w = .ok (.value (.int kk r)) w := by
 simp only [execOp, k.eval hx, k.eval hy]
 simp [eqGuard, binOp, intBits_or, hr]
end
theorem or_add (k : IntKind) (j : Nat) (hj : j ≤ k.bits) (hk : ∀ n : Int, 0 ≤ n → n < 2 ^ j → k.wrap n = n) (a x s : Nat) (ha : a < 2 ^ s) (ha2 : a < 2 ^ j) (hx : x * 2 ^ s < 2 ^ j) : bits .or k (a : Int) ((x * 2 ^ s : Nat) : Int) = ((a + x * 2 ^ s : Nat) : Int) := by
 rw [(bits_nat k j hj hk a (x * 2 ^ s) ha2 hx).2, Nat.mul_comm x (2 ^ s), Nat.or_comm, ← Nat.two_pow_add_eq_or_of_lt ha, Nat.add_comm]
theorem be16 (w : World) (sb : Nat) (a : Option Addr) (c : Nat) (s : List UInt8) (hsv : SrcV w sb (.slice a s.length c) s) (h : 2 ≤ s.length) : Calls Tryz.prog 152 #[.agg #[], .slice a s.length c] w fun e w' => e = .returned (.int .u16 (unbe (s.take 2))) ∧ Chg (fun _ => False) w w' := by
 obtain ⟨b0, b1, r, rfl⟩ : ∃ b0 b1 r, s = b0 :: b1 :: r := by
  obtain ⟨b0, s, rfl⟩ : ∃ x y, s = x :: y := by cases s with | nil => simp at h | cons x y => exact ⟨x, y, rfl⟩
  obtain ⟨b1, s, rfl⟩ : ∃ x y, s = x :: y := by cases s with | nil => simp at h | cons x y => exact ⟨x, y, rfl⟩
  exact ⟨b0, b1, s, rfl⟩
 obtain ⟨o, rfl, hc0⟩ := hsv.cell (i := 0) (by simp)
 have hc1 : w.cell? ⟨sb, o + 1 * 1, none⟩ = some (.int .u8 b1.toNat) := by obtain ⟨o', e, hc⟩ := hsv.cell (i := 1) (by simp); cases e; exact hc
 simp only [List.getElem_cons_zero] at hc0
 have l0 := b0.toNat_lt
 have l1 := b1.toNat_lt
 have eu : unbe ((b0 :: b1 :: r).take 2) = b1.toNat + b0.toNat * 2 ^ 8 := by
  simp only [List.take_succ_cons, List.take_zero, unbe, List.foldl_cons, List.foldl_nil]; omega
 rw [eu]
 generalize hx0 : b0.toNat = x0 at *
 generalize hx1 : b1.toNat = x1 at *
 have hlen : 2 ≤ (b0 :: b1 :: r).length := h
 generalize hn : (b0 :: b1 :: r).length = m at *
 refine enter Tryz.func152 rfl Tryz.ntmps152 rfl ?_
 refine wc_seq (wc_region (wl_box rfl rfl (wl_assign rfl rfl (wl_nil (qk_thn ?_)))))
 have hal : Chg (fun _ => False) w (w.alloc (.cells (Value.agg #[]).cells 184)) := chg_alloc w _ _
 have cell : ∀ (i : Nat) (v : Value), w.cell? ⟨sb, o + i * 1, none⟩ = some v → (w.alloc (.cells (Value.agg #[]).cells 184)).cell? ⟨sb, o + i * 1, none⟩ = some v := by
  intro i v hv
  have : sb < w.heap.size := by
   simp only [World.cell?] at hv
   cases hx : w.heap[sb]? with
   | none => rw [hx] at hv; simp at hv
   | some _ => exact (Array.getElem?_eq_some_iff.1 hx).1
  simp only [World.cell?] at hv ⊢
  rw [hal.block sb this id]; exact hv
 replace hc0 := cell 0 _ hc0
 replace hc1 := cell 1 _ hc1
 clear cell
 generalize w.alloc (.cells (Value.agg #[]).cells 184) = w1 at *
 refine wc_seq (wc_region (wl_move rfl rfl (wl_indexAddr (i := 1) rfl rfl es_bytes rfl (by omega) (wl_load rfl to_u8 rfl hc1 (wl_nil (qk_thn ?_))))))
 refine wc_seq (wc_sub (L' := [(1, .slice (some ⟨sb, o, none⟩) m c)]) ⟨rfl, trivial⟩ (wc_par [(0, .slice (some ⟨sb, o, none⟩) m c), (1, .pointer (some ⟨sb, o + 1 * 1, none⟩)), (2, .int .u8 (x1 : Nat)), (3, .int .u16 (x1 : Nat)), (4, .slice (some ⟨sb, o, none⟩) m c), (5, .pointer (some ⟨sb, o + 0 * 1, none⟩)), (6, .int .u8 (x0 : Nat)), (7, .int .u16 (x0 : Nat)), (8, .int .u16 ((x0 * 2 ^ 8 : Nat) : Int)), (9, .int .u16 ((x1 + x0 * 2 ^ 8 : Nat) : Int)), (10, .int .u16 ((x1 + x0 * 2 ^ 8 : Nat) : Int))] [] (fun _ w' => Chg (fun _ => False) w w' ∧ w'.cell? ⟨sb, o + 0 * 1, none⟩ = some (.int .u8 (x0 : Nat)) ∧ w'.cell? ⟨sb, o + 1 * 1, none⟩ = some (.int .u8 (x1 : Nat)))
  mixed rfl rfl rfl rfl rfl (by show ([0,1,2,3,4,5,6,7,8,9,10] : List Nat).Nodup; decide) rfl rfl (by decide) rfl rfl rfl rfl ⟨hal.trans (chg_drew w1 _), hc0, hc1⟩ ?_ trivial ?_))
 ·intro p hp vals w' hC a k
  simp only [List.mem_cons, List.not_mem_nil, or_false] at hp
  rcases hp with rfl | rfl | rfl | rfl | rfl | rfl | rfl | rfl | rfl | rfl | rfl
  ·exact gv rfl rfl (rn_move k rfl)
  ·exact gv rfl rfl (rn_indexAddr k rfl rfl es_bytes (by omega))
  ·exact gv rfl rfl (rn_load k rfl to_u8 hC.2.2)
  ·exact gv rfl rfl (rn_conv .u16 k rfl (by kernel_rfl) (by kernel_rfl) (by rw [IntKind.wrap_u16]; omega))
  ·exact gv rfl rfl (rn_move k rfl)
  ·exact gv rfl rfl (rn_indexAddr k rfl rfl es_bytes (by omega))
  ·exact gv rfl rfl (rn_load k rfl to_u8 hC.2.1)
  ·exact gv rfl rfl (rn_conv .u16 k rfl (by kernel_rfl) (by kernel_rfl) (by rw [IntKind.wrap_u16]; omega))
  ·exact gv rfl rfl (rn_shl k rfl (by decide) (by decide) (by rw [IntKind.wrap_u16]; simp; omega))
  ·exact gv rfl rfl (rn_or k rfl rfl (or_add .u16 16 (by decide) (fun n h0 h1 => by rw [IntKind.wrap_u16]; omega) _ _ _ (by omega) (by omega) (by omega)))
  ·exact gv rfl rfl (rn_assign k rfl)
 ·rintro vals w' hvl ⟨hw', _⟩
  exact qk_thn (wc_ret (qk_ret1 rfl rfl ⟨rfl, hw'⟩))
theorem be32 (w : World) (sb : Nat) (a : Option Addr) (c : Nat) (s : List UInt8) (hsv : SrcV w sb (.slice a s.length c) s) (h : 4 ≤ s.length) : Calls Tryz.prog 154 #[.agg #[], .slice a s.length c] w fun e w' => e = .returned (.int .u32 (unbe (s.take 4))) ∧ Chg (fun _ => False) w w' := by
 obtain ⟨b0, b1, b2, b3, r, rfl⟩ : ∃ b0 b1 b2 b3 r, s = b0 :: b1 :: b2 :: b3 :: r := by
  obtain ⟨b0, s, rfl⟩ : ∃ x y, s = x :: y := by cases s with | nil => simp at h | cons x y => exact ⟨x, y, rfl⟩
  obtain ⟨b1, s, rfl⟩ : ∃ x y, s = x :: y := by cases s with | nil => simp at h | cons x y => exact ⟨x, y, rfl⟩
  obtain ⟨b2, s, rfl⟩ : ∃ x y, s = x :: y := by cases s with | nil => simp at h | cons x y => exact ⟨x, y, rfl⟩
  obtain ⟨b3, s, rfl⟩ : ∃ x y, s = x :: y := by cases s with | nil => simp at h | cons x y => exact ⟨x, y, rfl⟩
  exact ⟨b0, b1, b2, b3, s, rfl⟩
 obtain ⟨o, rfl, hc0⟩ := hsv.cell (i := 0) (by simp)
 have hc1 : w.cell? ⟨sb, o + 1 * 1, none⟩ = some (.int .u8 b1.toNat) := by obtain ⟨o', e, hc⟩ := hsv.cell (i := 1) (by simp); cases e; exact hc
 have hc2 : w.cell? ⟨sb, o + 2 * 1, none⟩ = some (.int .u8 b2.toNat) := by obtain ⟨o', e, hc⟩ := hsv.cell (i := 2) (by simp); cases e; exact hc
 have hc3 : w.cell? ⟨sb, o + 3 * 1, none⟩ = some (.int .u8 b3.toNat) := by obtain ⟨o', e, hc⟩ := hsv.cell (i := 3) (by simp); cases e; exact hc
 simp only [List.getElem_cons_zero] at hc0
 have l0 := b0.toNat_lt
 have l1 := b1.toNat_lt
 have l2 := b2.toNat_lt
 have l3 := b3.toNat_lt
 have eu : unbe ((b0 :: b1 :: b2 :: b3 :: r).take 4) = b3.toNat + b2.toNat * 2 ^ 8 + b1.toNat * 2 ^ 16 + b0.toNat * 2 ^ 24 := by
  simp only [List.take_succ_cons, List.take_zero, unbe, List.foldl_cons, List.foldl_nil]; omega
 rw [eu]
 generalize hx0 : b0.toNat = x0 at *
 generalize hx1 : b1.toNat = x1 at *
 generalize hx2 : b2.toNat = x2 at *
 generalize hx3 : b3.toNat = x3 at *
 have hlen : 4 ≤ (b0 :: b1 :: b2 :: b3 :: r).length := h
 generalize hn : (b0 :: b1 :: b2 :: b3 :: r).length = m at *
 refine enter Tryz.func154 rfl Tryz.ntmps154 rfl ?_
 refine wc_seq (wc_region (wl_box rfl rfl (wl_assign rfl rfl (wl_nil (qk_thn ?_)))))
 have hal : Chg (fun _ => False) w (w.alloc (.cells (Value.agg #[]).cells 184)) := chg_alloc w _ _
 have cell : ∀ (i : Nat) (v : Value), w.cell? ⟨sb, o + i * 1, none⟩ = some v → (w.alloc (.cells (Value.agg #[]).cells 184)).cell? ⟨sb, o + i * 1, none⟩ = some v := by
  intro i v hv
  have : sb < w.heap.size := by
   simp only [World.cell?] at hv
   cases hx : w.heap[sb]? with
   | none => rw [hx] at hv; simp at hv
   | some _ => exact (Array.getElem?_eq_some_iff.1 hx).1
  simp only [World.cell?] at hv ⊢
  rw [hal.block sb this id]; exact hv
 replace hc0 := cell 0 _ hc0
 replace hc1 := cell 1 _ hc1
 replace hc2 := cell 2 _ hc2
 replace hc3 := cell 3 _ hc3
 clear cell
 generalize w.alloc (.cells (Value.agg #[]).cells 184) = w1 at *
 refine wc_seq (wc_region (wl_move rfl rfl (wl_indexAddr (i := 3) rfl rfl es_bytes rfl (by omega) (wl_load rfl to_u8 rfl hc3 (wl_nil (qk_thn ?_))))))
 refine wc_seq (wc_sub (L' := [(1, .slice (some ⟨sb, o, none⟩) m c)]) ⟨rfl, trivial⟩ (wc_par [(0, .slice (some ⟨sb, o, none⟩) m c), (1, .pointer (some ⟨sb, o + 3 * 1, none⟩)), (2, .int .u8 (x3 : Nat)), (3, .int .u32 (x3 : Nat)), (4, .slice (some ⟨sb, o, none⟩) m c), (5, .pointer (some ⟨sb, o + 2 * 1, none⟩)), (6, .int .u8 (x2 : Nat)), (7, .int .u32 (x2 : Nat)), (8, .int .u32 ((x2 * 2 ^ 8 : Nat) : Int)), (9, .int .u32 ((x3 + x2 * 2 ^ 8 : Nat) : Int)), (10, .slice (some ⟨sb, o, none⟩) m c), (11, .pointer (some ⟨sb, o + 1 * 1, none⟩)), (12, .int .u8 (x1 : Nat)), (13, .int .u32 (x1 : Nat)), (14, .int .u32 ((x1 * 2 ^ 16 : Nat) : Int)), (15, .int .u32 ((x3 + x2 * 2 ^ 8 + x1 * 2 ^ 16 : Nat) : Int)), (16, .slice (some ⟨sb, o, none⟩) m c), (17, .pointer (some ⟨sb, o + 0 * 1, none⟩)), (18, .int .u8 (x0 : Nat)), (19, .int .u32 (x0 : Nat)), (20, .int .u32 ((x0 * 2 ^ 24 : Nat) : Int)), (21, .int .u32 ((x3 + x2 * 2 ^ 8 + x1 * 2 ^ 16 + x0 * 2 ^ 24 : Nat) : Int)), (22, .int .u32 ((x3 + x2 * 2 ^ 8 + x1 * 2 ^ 16 + x0 * 2 ^ 24 : Nat) : Int))] [] (fun _ w' => Chg (fun _ => False) w w' ∧ w'.cell? ⟨sb, o + 0 * 1, none⟩ = some (.int .u8 (x0 : Nat)) ∧ w'.cell? ⟨sb, o + 1 * 1, none⟩ = some (.int .u8 (x1 : Nat)) ∧ w'.cell? ⟨sb, o + 2 * 1, none⟩ = some (.int .u8 (x2 : Nat)) ∧ w'.cell? ⟨sb, o + 3 * 1, none⟩ = some (.int .u8 (x3 : Nat)))
  mixed rfl rfl rfl rfl rfl (by show ([0,1,2,3,4,5,6,7,8,9,10,11,12,13,14,15,16,17,18,19,20,21,22] : List Nat).Nodup; decide) rfl rfl (by decide) rfl rfl rfl rfl ⟨hal.trans (chg_drew w1 _), hc0, hc1, hc2, hc3⟩ ?_ trivial ?_))
 ·intro p hp vals w' hC a k
  simp only [List.mem_cons, List.not_mem_nil, or_false] at hp
  rcases hp with rfl | rfl | rfl | rfl | rfl | rfl | rfl | rfl | rfl | rfl | rfl | rfl | rfl | rfl | rfl | rfl | rfl | rfl | rfl | rfl | rfl | rfl | rfl
  ·exact gv rfl rfl (rn_move k rfl)
  ·exact gv rfl rfl (rn_indexAddr k rfl rfl es_bytes (by omega))
  ·exact gv rfl rfl (rn_load k rfl to_u8 hC.2.2.2.2)
  ·exact gv rfl rfl (rn_conv .u32 k rfl (by kernel_rfl) (by kernel_rfl) (by rw [IntKind.wrap_u32]; omega))
  ·exact gv rfl rfl (rn_move k rfl)
  ·exact gv rfl rfl (rn_indexAddr k rfl rfl es_bytes (by omega))
  ·exact gv rfl rfl (rn_load k rfl to_u8 hC.2.2.2.1)
  ·exact gv rfl rfl (rn_conv .u32 k rfl (by kernel_rfl) (by kernel_rfl) (by rw [IntKind.wrap_u32]; omega))
  ·exact gv rfl rfl (rn_shl k rfl (by decide) (by decide) (by rw [IntKind.wrap_u32]; simp; omega))
  ·exact gv rfl rfl (rn_or k rfl rfl (or_add .u32 32 (by decide) (fun n h0 h1 => by rw [IntKind.wrap_u32]; omega) _ _ _ (by omega) (by omega) (by omega)))
  ·exact gv rfl rfl (rn_move k rfl)
  ·exact gv rfl rfl (rn_indexAddr k rfl rfl es_bytes (by omega))
  ·exact gv rfl rfl (rn_load k rfl to_u8 hC.2.2.1)
  ·exact gv rfl rfl (rn_conv .u32 k rfl (by kernel_rfl) (by kernel_rfl) (by rw [IntKind.wrap_u32]; omega))
  ·exact gv rfl rfl (rn_shl k rfl (by decide) (by decide) (by rw [IntKind.wrap_u32]; simp; omega))
  ·exact gv rfl rfl (rn_or k rfl rfl (or_add .u32 32 (by decide) (fun n h0 h1 => by rw [IntKind.wrap_u32]; omega) _ _ _ (by omega) (by omega) (by omega)))
  ·exact gv rfl rfl (rn_move k rfl)
  ·exact gv rfl rfl (rn_indexAddr k rfl rfl es_bytes (by omega))
  ·exact gv rfl rfl (rn_load k rfl to_u8 hC.2.1)
  ·exact gv rfl rfl (rn_conv .u32 k rfl (by kernel_rfl) (by kernel_rfl) (by rw [IntKind.wrap_u32]; omega))
  ·exact gv rfl rfl (rn_shl k rfl (by decide) (by decide) (by rw [IntKind.wrap_u32]; simp; omega))
  ·exact gv rfl rfl (rn_or k rfl rfl (or_add .u32 32 (by decide) (fun n h0 h1 => by rw [IntKind.wrap_u32]; omega) _ _ _ (by omega) (by omega) (by omega)))
  ·exact gv rfl rfl (rn_assign k rfl)
 ·rintro vals w' hvl ⟨hw', _⟩
  exact qk_thn (wc_ret (qk_ret1 rfl rfl ⟨rfl, hw'⟩))
end Go.Proofs.YtlmnaffhadeolaaGreatDoor.Rdk

namespace Go.Proofs.YtlmnaffhadeolaaGreatDoor.Rdk
open Go Go.RowKit
set_option maxRecDepth 100000
theorem does_conv {P : Program} {N : Nat} {L : Sl} {a : Act} {w : World} {d : Option Nat} {ty : TypeId} {pos : String} {aft : Array Edge} {g : Option (Nat × Bool)} (k' : IntKind) {x : Operand} {s t : TypeId} {kk : IntKind} {n : Int} {R : Value → World → Prop} (k : Kn N a L) (hx : ev L x = some (.int kk n)) (hs : isInt P s kk = true) (ht : isInt P t k' = true) (h : R (.int k' (k'.wrap n)) w) : Does P ⟨d, .convert s t x, ty, pos, aft, g⟩ a w R :=
 does_of (rn_conv k' k hx hs ht rfl) h
theorem intP_none {k : IntKind} {n : Nat} {s : List UInt8} (h : s.length < n) : intP k n s = none := by simp only [intP, takeN]; rw [if_neg (by omega)]; rfl
theorem intP_some {k : IntKind} {n : Nat} {s : List UInt8} (h : n ≤ s.length) : intP k n s = some (k.wrap (unbe (s.take n)), s.drop n) := by simp only [intP, takeN]; rw [if_pos h]; rfl
theorem ta_be : tyAgg Tryz.prog 184 = some 0 := by kernel_rfl
theorem fo_rd0 : fieldOff Tryz.prog 154 0 = some 0 := by kernel_rfl
theorem ok_outC {p : Rp} {v : Value} {s s' : List UInt8} {w0 w w1 : World} {rb sb lo : Nat} {e : TypeId} {sv : Value} (h0 : Chg (fun _ => False) w0 w) (hsh : shDs [D.lit v] = shR p) (h1 : v.cells = #[v]) (ho : v.oneCell' = true) (hp : rdP p s = some ([.lit v], s'))
  (g1 : w.grownBy w1 (some rb)) (hb : Box w1 rb [sv, .bool false] e) (hv : SrcV w0 sb sv s') (hn : sv ≠ .slice none 0 0) (hl : s'.length ≤ srcLim) (hne : rb ≠ sb) :
  ∃ v' nd st', Ending.returned v = .returned v' ∧ Chg (· = rb) w0 w1 ∧ Rdr w1 rb sb st' ∧ Reps (Dk sb lo w1) w1 nd v'.cells.toList ∧ (v'.cells.toList.all fun v => v.oneCell') = true ∧ ((shR p).length = 1 → v'.cells = #[v']) ∧ RdRel p (some s) nd st' := by
 obtain ⟨v', nd, st', a1, a2, a3⟩ := ok_out (lo := lo) hsh h1 ho hp g1 hb (hv.chg h0 id) hn hl hne
 exact ⟨v', nd, st', a1, (h0.wide (fun _ h => h.elim)).trans a2, a3⟩
theorem rd_Int16 : RdC Tryz.prog 102 .i16 := by
 intro w rb sb lo st hr h1 h2 h3 h4
 obtain ⟨a, c, s, e, hb, hle, hlim, hsv, hst⟩ := hr.view
 refine enter Tryz.func102 rfl Tryz.ntmps102 rfl ?_
 refine wc_seq (wc_region (wl_assign rfl rfl (wl_nil (qk_thn ?_))))
 refine wc_seq (wc_seq (wc_region ?_))
 refine ws rfl rfl ?_
 refine ws rfl rfl ?_
 refine ws rfl rfl ?_
 refine wl_loadB rfl to_bytes rfl hb rfl ?_
 refine ws rfl rfl ?_
 refine ws rfl rfl ?_
 refine wl_nil (qk_thn ?_)
 refine wc_cond rfl (fun hc => ?_) (fun hc => ?_)
 ·refine wc_seq (wc_region ?_)
  refine ws rfl rfl ?_
  refine ws rfl rfl ?_
  refine ws rfl rfl ?_
  refine wl_storeB rfl rfl to_bool rfl hb rfl (fun w1 hb1 g1 _ => ?_)
  refine wl_nil (qk_thn ?_)
  refine wc_seq (wc_region ?_)
  refine ws rfl rfl ?_
  refine ws rfl rfl ?_
  refine ws rfl rfl ?_
  refine wl_storeB rfl rfl to_bytes rfl hb1 rfl (fun w2 hb2 g2 _ => ?_)
  refine wl_nil (qk_thn ?_)
  refine wc_seq (wc_region ?_)
  refine ws rfl rfl ?_
  refine wl_nil (qk_thn (wc_ret (qk_thn_ret (qk_ret1 rfl rfl ?_))))
  have hs : s.length < 2 := by simp at hc; omega
  exact fail_out rfl rfl rfl hst (by simp only [rdP, intP_none hs, Option.map_none]) g1 g2 hb2
 ·have hs : 2 ≤ s.length := by simp at hc; omega
  obtain rfl : st = some s := by
   rcases hst with ⟨_, h, _⟩ | h
   ·rw [h] at hs; simp at hs
   ·exact h
  refine wc_skip (qk_thn (wc_seq ?_))
  refine wc_par [(0, .agg (([] : List Value).toArray)), (1, .pointer (some ⟨rb, 0, none⟩)), (2, .pointer (some ⟨rb, 0, none⟩)), (3, .pointer (some ⟨rb, 0 + 0, none⟩)), (4, .slice a s.length c)] [7, 6, 5] (fun vals w' => Chg (fun _ => False) w w' ∧ match vals with | [] => True | [v] => v = .int .u16 (unbe (s.take 2)) | v :: _ => v = .int .i16 (IntKind.i16.wrap (unbe (s.take 2)))) mixed rfl rfl rfl rfl rfl (by show ([0,1,2,3,4] : List Nat).Nodup; decide) rfl rfl (by decide) rfl rfl rfl rfl ⟨chg_drew w _, trivial⟩ ?_ ⟨?_, ?_, ?_, trivial⟩ ?_
  ·intro p hp vals w' hC a' k
   simp only [List.mem_cons, List.not_mem_nil, or_false] at hp
   rcases hp with rfl | rfl | rfl | rfl | rfl
   ·exact gv rfl rfl (rn_loadAgg (cs := []) k rfl ta_be (fun j v h => by simp at h))
   ·exact gv rfl rfl (rn_move k rfl)
   ·exact gv rfl rfl (rn_nilCheck k rfl)
   ·exact gv rfl rfl (rn_fieldAddr k rfl fo_rd0)
   ·exact gv rfl rfl (rn_load k rfl to_bytes ((hb.chg hC.1 id).cell rfl))
  ·rintro vals w' hvl ⟨hw', hC⟩ a' k
   match vals, hvl with
   | [v6, v5], _ => exact ⟨_, rfl, does_assign k rfl ⟨hw', hC⟩⟩
  ·rintro vals w' hvl ⟨hw', hC⟩ a' k
   match vals, hvl with
   | [v5], _ =>
    simp only [] at hC
    subst hC
    exact ⟨_, rfl, does_conv .i16 k rfl (by kernel_rfl) (by kernel_rfl) ⟨hw', rfl⟩⟩
  ·rintro vals w' hvl hC a' k
   match vals, hvl with
   | [], _ =>
    refine ⟨_, rfl, does_call k rfl (by kernel_rfl) ((be16 w' sb a c s (hsv.chg hC.1 id) hs).mono ?_)⟩
    rintro e w'' ⟨rfl, hc''⟩
    exact ⟨_, rfl, hC.1.trans hc'', rfl⟩
  ·rintro vals w' hvl ⟨hw', hC⟩
   match vals, hvl with
   | [v7, v6, v5], _ =>
    simp only [] at hC
    subst hC
    have hb' := hb.chg hw' id
    refine qk_thn (wc_seq (wc_region ?_))
    refine ws rfl rfl ?_
    refine ws rfl rfl ?_
    refine ws rfl rfl ?_
    refine ws rfl rfl ?_
    refine wl_loadB rfl to_bytes rfl hb' rfl ?_
    refine wl_sliceLo (m := 2) rfl rfl es_bytes rfl hs ?_
    refine ws rfl rfl ?_
    refine ws rfl rfl ?_
    refine wl_storeB rfl rfl to_bytes rfl hb' rfl (fun w1 hb1 g1 _ => ?_)
    refine wl_nil (qk_thn (wc_seq (wc_region ?_)))
    refine ws rfl rfl ?_
    refine ws rfl rfl ?_
    refine wl_nil (qk_thn (wc_ret (qk_ret1 rfl rfl ?_)))
    exact ok_outC (v := .int .i16 (IntKind.i16.wrap (unbe (s.take 2)))) hw' (by simp [shDs, shD, shR, wrap_wrap]) rfl rfl (by rw [rdP, intP_some hs]; rfl) g1 hb1 (hsv.drop hs) (hr.nn_drop hb hsv (hr.nz (by rintro rfl; simp at hs))) (by simp; omega) h4
theorem rd_Int32 : RdC Tryz.prog 104 .i32 := by
 intro w rb sb lo st hr h1 h2 h3 h4
 obtain ⟨a, c, s, e, hb, hle, hlim, hsv, hst⟩ := hr.view
 refine enter Tryz.func104 rfl Tryz.ntmps104 rfl ?_
 refine wc_seq (wc_region (wl_assign rfl rfl (wl_nil (qk_thn ?_))))
 refine wc_seq (wc_seq (wc_region ?_))
 refine ws rfl rfl ?_
 refine ws rfl rfl ?_
 refine ws rfl rfl ?_
 refine wl_loadB rfl to_bytes rfl hb rfl ?_
 refine ws rfl rfl ?_
 refine ws rfl rfl ?_
 refine wl_nil (qk_thn ?_)
 refine wc_cond rfl (fun hc => ?_) (fun hc => ?_)
 ·refine wc_seq (wc_region ?_)
  refine ws rfl rfl ?_
  refine ws rfl rfl ?_
  refine ws rfl rfl ?_
  refine wl_storeB rfl rfl to_bool rfl hb rfl (fun w1 hb1 g1 _ => ?_)
  refine wl_nil (qk_thn ?_)
  refine wc_seq (wc_region ?_)
  refine ws rfl rfl ?_
  refine ws rfl rfl ?_
  refine ws rfl rfl ?_
  refine wl_storeB rfl rfl to_bytes rfl hb1 rfl (fun w2 hb2 g2 _ => ?_)
  refine wl_nil (qk_thn ?_)
  refine wc_seq (wc_region ?_)
  refine ws rfl rfl ?_
  refine wl_nil (qk_thn (wc_ret (qk_thn_ret (qk_ret1 rfl rfl ?_))))
  have hs : s.length < 4 := by simp at hc; omega
  exact fail_out rfl rfl rfl hst (by simp only [rdP, intP_none hs, Option.map_none]) g1 g2 hb2
 ·have hs : 4 ≤ s.length := by simp at hc; omega
  obtain rfl : st = some s := by
   rcases hst with ⟨_, h, _⟩ | h
   ·rw [h] at hs; simp at hs
   ·exact h
  refine wc_skip (qk_thn (wc_seq ?_))
  refine wc_par [(0, .agg (([] : List Value).toArray)), (1, .pointer (some ⟨rb, 0, none⟩)), (2, .pointer (some ⟨rb, 0, none⟩)), (3, .pointer (some ⟨rb, 0 + 0, none⟩)), (4, .slice a s.length c)] [7, 6, 5] (fun vals w' => Chg (fun _ => False) w w' ∧ match vals with | [] => True | [v] => v = .int .u32 (unbe (s.take 4)) | v :: _ => v = .int .i32 (IntKind.i32.wrap (unbe (s.take 4)))) mixed rfl rfl rfl rfl rfl (by show ([0,1,2,3,4] : List Nat).Nodup; decide) rfl rfl (by decide) rfl rfl rfl rfl ⟨chg_drew w _, trivial⟩ ?_ ⟨?_, ?_, ?_, trivial⟩ ?_
  ·intro p hp vals w' hC a' k
   simp only [List.mem_cons, List.not_mem_nil, or_false] at hp
   rcases hp with rfl | rfl | rfl | rfl | rfl
   ·exact gv rfl rfl (rn_loadAgg (cs := []) k rfl ta_be (fun j v h => by simp at h))
   ·exact gv rfl rfl (rn_move k rfl)
   ·exact gv rfl rfl (rn_nilCheck k rfl)
   ·exact gv rfl rfl (rn_fieldAddr k rfl fo_rd0)
   ·exact gv rfl rfl (rn_load k rfl to_bytes ((hb.chg hC.1 id).cell rfl))
  ·rintro vals w' hvl ⟨hw', hC⟩ a' k
   match vals, hvl with
   | [v6, v5], _ => exact ⟨_, rfl, does_assign k rfl ⟨hw', hC⟩⟩
  ·rintro vals w' hvl ⟨hw', hC⟩ a' k
   match vals, hvl with
   | [v5], _ =>
    simp only [] at hC
    subst hC
    exact ⟨_, rfl, does_conv .i32 k rfl (by kernel_rfl) (by kernel_rfl) ⟨hw', rfl⟩⟩
  ·rintro vals w' hvl hC a' k
   match vals, hvl with
   | [], _ =>
    refine ⟨_, rfl, does_call k rfl (by kernel_rfl) ((be32 w' sb a c s (hsv.chg hC.1 id) hs).mono ?_)⟩
    rintro e w'' ⟨rfl, hc''⟩
    exact ⟨_, rfl, hC.1.trans hc'', rfl⟩
  ·rintro vals w' hvl ⟨hw', hC⟩
   match vals, hvl with
   | [v7, v6, v5], _ =>
    simp only [] at hC
    subst hC
    have hb' := hb.chg hw' id
    refine qk_thn (wc_seq (wc_region ?_))
    refine ws rfl rfl ?_
    refine ws rfl rfl ?_
    refine ws rfl rfl ?_
    refine ws rfl rfl ?_
    refine wl_loadB rfl to_bytes rfl hb' rfl ?_
    refine wl_sliceLo (m := 4) rfl rfl es_bytes rfl hs ?_
    refine ws rfl rfl ?_
    refine ws rfl rfl ?_
    refine wl_storeB rfl rfl to_bytes rfl hb' rfl (fun w1 hb1 g1 _ => ?_)
    refine wl_nil (qk_thn (wc_seq (wc_region ?_)))
    refine ws rfl rfl ?_
    refine ws rfl rfl ?_
    refine wl_nil (qk_thn (wc_ret (qk_ret1 rfl rfl ?_)))
    exact ok_outC (v := .int .i32 (IntKind.i32.wrap (unbe (s.take 4)))) hw' (by simp [shDs, shD, shR, wrap_wrap]) rfl rfl (by rw [rdP, intP_some hs]; rfl) g1 hb1 (hsv.drop hs) (hr.nn_drop hb hsv (hr.nz (by rintro rfl; simp at hs))) (by simp; omega) h4
end Go.Proofs.YtlmnaffhadeolaaGreatDoor.Rdk

namespace Go.Proofs.YtlmnaffhadeolaaGreatDoor.Rdk
open Go Go.RowKit
set_option maxRecDepth 100000
def SpanRel (l : Int) (st : Option (List UInt8)) (s1 : List UInt8) (st' : Option (List UInt8)) : Prop := match st with
 | none => st' = none
 | some s => match spanP l s with
  | some x => st' = some x.2 ∧ s1 = x.1
  | none => st' = none
theorem fn_spanN (w : World) (rb sb : Nat) (st : Option (List UInt8)) (l : Int) (hr : Rdr w rb sb st) (hne : rb ≠ sb) :
  Calls Tryz.prog 118 #[.pointer (some ⟨rb, 0, none⟩), .int .i64 l] w fun e w' => ∃ v s1 st', e = .returned v ∧ Chg (· = rb) w w' ∧ Rdr w' rb sb st' ∧ SrcV w' sb v s1 ∧ s1.length ≤ srcLim ∧ SpanRel l st s1 st' ∧ (st'.isSome = true → sb ≠ 0 → v ≠ .slice none 0 0) := by
 obtain ⟨a, c, s, e, hb, hle, hlim, hsv, hst⟩ := hr.view
 refine enter Tryz.func118 rfl Tryz.ntmps118 rfl ?_
 refine wc_seq (wc_region (wl_assign rfl rfl (wl_nil (qk_thn ?_))))
 refine wc_seq (wc_seq (wc_region ?_))
 refine ws rfl rfl ?_
 refine ws rfl rfl ?_
 refine ws rfl rfl ?_
 refine wl_loadB rfl to_bytes rfl hb rfl ?_
 refine ws rfl rfl ?_
 refine ws rfl rfl ?_
 refine ws rfl rfl ?_
 have fail : ∀ (w2 : World) (g : Chg (· = rb) w w2) (hb2 : Box w2 rb [.slice none 0 0, .bool true] e), spanP l s = none → ∃ v s1 st', Ending.returned (.slice none 0 0) = .returned v ∧ Chg (· = rb) w w2 ∧ Rdr w2 rb sb st' ∧ SrcV w2 sb v s1 ∧ s1.length ≤ srcLim ∧ SpanRel l st s1 st' ∧ (st'.isSome = true → sb ≠ 0 → v ≠ .slice none 0 0) := by
  intro w2 g hb2 hp
  refine ⟨_, [], none, rfl, g, ⟨e, hb2⟩, .inl ⟨rfl, rfl⟩, Nat.zero_le _, ?_, fun h => by cases h⟩
  rcases hst with ⟨rfl, _⟩ | rfl
  ·rfl
  ·simp only [SpanRel, hp]
 by_cases hlt : (s.length : Int) < l
 ·rw [show decide ((s.length : Int) < l) = true from decide_eq_true hlt]
  refine ws rfl rfl ?_
  refine wl_no rfl rfl rfl rfl ?_
  refine wl_no rfl rfl rfl rfl ?_
  refine ws rfl rfl ?_
  refine wl_nil (qk_thn ?_)
  refine wc_cond rfl (fun _ => ?_) (fun h => by cases h)
  refine wc_seq (wc_region ?_)
  refine ws rfl rfl ?_
  refine ws rfl rfl ?_
  refine ws rfl rfl ?_
  refine wl_storeB rfl rfl to_bool rfl hb rfl (fun w1 hb1 g1 _ => ?_)
  refine wl_nil (qk_thn ?_)
  refine wc_seq (wc_region ?_)
  refine ws rfl rfl ?_
  refine ws rfl rfl ?_
  refine ws rfl rfl ?_
  refine wl_storeB rfl rfl to_bytes rfl hb1 rfl (fun w2 hb2 g2 _ => ?_)
  refine wl_nil (qk_thn ?_)
  refine wc_seq (wc_region ?_)
  refine ws rfl rfl ?_
  refine wl_nil (qk_thn (wc_ret (qk_thn_ret (qk_ret1 rfl rfl ?_))))
  refine fail _ ((Chg.grown g1).trans (Chg.grown g2)) hb2 ?_
  simp only [spanP, takeN]
  split
  ·rfl
  ·rw [if_neg (by omega)]
 ·rw [show decide ((s.length : Int) < l) = false from decide_eq_false hlt]
  refine ws rfl rfl ?_
  refine wl_yes rfl rfl rfl ?_
  refine ws rfl rfl ?_
  refine wl_yes rfl rfl rfl ?_
  refine ws rfl rfl ?_
  refine ws rfl rfl ?_
  refine wl_nil (qk_thn ?_)
  refine wc_cond rfl (fun hc => ?_) (fun hc => ?_)
  ·refine wc_seq (wc_region ?_)
   refine ws rfl rfl ?_
   refine ws rfl rfl ?_
   refine ws rfl rfl ?_
   refine wl_storeB rfl rfl to_bool rfl hb rfl (fun w1 hb1 g1 _ => ?_)
   refine wl_nil (qk_thn ?_)
   refine wc_seq (wc_region ?_)
   refine ws rfl rfl ?_
   refine ws rfl rfl ?_
   refine ws rfl rfl ?_
   refine wl_storeB rfl rfl to_bytes rfl hb1 rfl (fun w2 hb2 g2 _ => ?_)
   refine wl_nil (qk_thn ?_)
   refine wc_seq (wc_region ?_)
   refine ws rfl rfl ?_
   refine wl_nil (qk_thn (wc_ret (qk_thn_ret (qk_ret1 rfl rfl ?_))))
   refine fail _ ((Chg.grown g1).trans (Chg.grown g2)) hb2 ?_
   simp only [spanP]
   rw [if_pos (by simpa using hc)]
  ·have h0 : ¬ l < 0 := by simpa using hc
   obtain ⟨m, rfl⟩ : ∃ m : Nat, l = m := ⟨l.toNat, by omega⟩
   have hm : m ≤ s.length := by omega
   refine wc_skip (qk_thn (wc_seq (wc_region ?_)))
   refine ws rfl rfl ?_
   refine ws rfl rfl ?_
   refine ws rfl rfl ?_
   refine wl_loadB rfl to_bytes rfl hb rfl ?_
   refine ws rfl rfl ?_
   refine ws rfl rfl ?_
   refine wl_slice3 (m := m) rfl rfl rfl es_bytes rfl (by omega) ?_
   refine ws rfl rfl ?_
   refine wl_nil (qk_thn (wc_seq (wc_region ?_)))
   refine ws rfl rfl ?_
   refine ws rfl rfl ?_
   refine ws rfl rfl ?_
   refine ws rfl rfl ?_
   refine wl_loadB rfl to_bytes rfl hb rfl ?_
   refine ws rfl rfl ?_
   refine wl_sliceLo (m := m) rfl rfl es_bytes rfl hm ?_
   refine ws rfl rfl ?_
   refine ws rfl rfl ?_
   refine wl_storeB rfl rfl to_bytes rfl hb rfl (fun w1 hb1 g1 _ => ?_)
   refine wl_nil (qk_thn (wc_seq (wc_region ?_)))
   refine ws rfl rfl ?_
   refine ws rfl rfl ?_
   refine wl_nil (qk_thn (wc_ret (qk_ret1 rfl rfl ?_)))
   have hg := Chg.grown g1
   have hns : ¬ (fun x => x = rb) sb := fun e => hne e.symm
   have hd := (hsv.drop hm).chg hg hns
   have ht := (hsv.take hm).chg hg hns
   rcases hst with ⟨rfl, hs0, ha0, hc0⟩ | rfl
   ·refine ⟨_, s.take m, none, rfl, hg, ?_, ht, by simp; omega, rfl, fun h => by cases h⟩
    subst hs0 ha0 hc0
    have : m = 0 := by simpa using hm
    subst this
    exact ⟨e, hb1⟩
   ·refine ⟨_, s.take m, some (s.drop m), rfl, hg, hd.rdr hb1 (fun hz => hr.nn_drop hb hsv hz) (by simp; omega), ht, by simp; omega, ?_, fun _ hz => hr.nn_take hb hsv hz⟩
    simp only [SpanRel, spanP, takeN]
    rw [if_neg (by omega)]
    simp only [Int.toNat_natCast]
    rw [if_pos hm]
    exact ⟨rfl, rfl⟩
theorem fn_span (w : World) (rb sb : Nat) (st : Option (List UInt8)) (l : Int) (hr : Rdr w rb sb st) (hne : rb ≠ sb) :
  Calls Tryz.prog 118 #[.pointer (some ⟨rb, 0, none⟩), .int .i64 l] w fun e w' => ∃ v s1 st', e = .returned v ∧ Chg (· = rb) w w' ∧ Rdr w' rb sb st' ∧ SrcV w' sb v s1 ∧ s1.length ≤ srcLim ∧ SpanRel l st s1 st' :=
 (fn_spanN w rb sb st l hr hne).mono fun e w' ⟨v, s1, st', h1, h2, h3, h4, h5, h6, _⟩ => ⟨v, s1, st', h1, h2, h3, h4, h5, h6⟩
theorem fn_ok (w : World) (rb sb : Nat) (st : Option (List UInt8)) (hr : Rdr w rb sb st) :
  Calls Tryz.prog 108 #[.pointer (some ⟨rb, 0, none⟩)] w fun e w' => e = .returned (.bool st.isSome) ∧ w' = w := by
 obtain ⟨a, c, s, e, hb, hle, hlim, hsv, hst⟩ := hr.view
 refine enter Tryz.func108 rfl Tryz.ntmps108 rfl ?_
 refine wc_seq (wc_region (wl_assign rfl rfl (wl_nil (qk_thn ?_))))
 refine wc_seq (wc_region ?_)
 refine ws rfl rfl ?_
 refine ws rfl rfl ?_
 refine ws rfl rfl ?_
 refine wl_loadB rfl to_bool rfl hb rfl ?_
 refine ws rfl rfl ?_
 refine ws rfl rfl ?_
 refine wl_nil (qk_thn (wc_ret (qk_ret1 rfl rfl ⟨?_, rfl⟩)))
 cases st <;> rfl
theorem fn_complete (w : World) (rb sb : Nat) (st : Option (List UInt8)) (ev : Value) (hr : Rdr w rb sb st) (hg : w.cell? ⟨1, 0, none⟩ = some ev) :
  Calls Tryz.prog 109 #[.pointer (some ⟨rb, 0, none⟩)] w fun e w' => e = .returned (endV ev st) ∧ w' = w := by
 obtain ⟨a, c, s, e, hb, hle, hlim, hsv, hst⟩ := hr.view
 refine enter Tryz.func109 rfl Tryz.ntmps109 rfl ?_
 refine wc_seq (wc_region (wl_assign rfl rfl (wl_nil (qk_thn ?_))))
 refine wc_seq (wc_seq (wc_region ?_))
 refine ws rfl rfl ?_
 refine ws rfl rfl ?_
 refine ws rfl rfl ?_
 refine wl_loadB rfl to_bool rfl hb rfl ?_
 refine wl_nil (qk_thn ?_)
 cases st with
 | none =>
  refine wc_cond rfl (fun _ => ?_) (fun h => by cases h)
  refine wc_seq (wc_region ?_)
  refine wl_load rfl (by kernel_rfl) rfl hg ?_
  refine ws rfl rfl ?_
  exact wl_nil (qk_thn (wc_ret (qk_thn_ret (qk_ret1 rfl rfl ⟨rfl, rfl⟩))))
 | some s' =>
  refine wc_cond rfl (fun h => by cases h) (fun _ => ?_)
  refine wc_skip (qk_thn (wc_seq (wc_region ?_)))
  refine ws rfl rfl ?_
  exact wl_nil (qk_thn (wc_ret (qk_ret1 rfl rfl ⟨rfl, rfl⟩)))
end Go.Proofs.YtlmnaffhadeolaaGreatDoor.Rdk

namespace Go.Proofs.YtlmnaffhadeolaaGreatDoor.Rdk
open Go Go.RowKit
set_option maxRecDepth 100000
section
variable {P : Program} {Q : Exit → Act → World → Prop} {N : Nat} {L : Sl} {w : World}
def Jmp (l N : Nat) (Lj : Sl) (Q : Exit → Act → World → Prop) (w0 : World) (X : Prop) : Exit → Act → World → Prop := Exit.jump l (fun a w => Kn N a Lj ∧ w = w0 ∧ X) Q
theorem wc_scope {c rest : Code} (l : Nat) (Lj : Sl) (X : Prop) (hf : findLabel c l = some rest) (h1 : WC c P (Jmp l N Lj Q w X) N L w) (h2 : X → WC rest P (Exit.jump l (fun _ _ => False) Q) N Lj w) : WC (.scope c) P Q N L w := by
 intro a k
 refine wp_scope_jumps l (fun a' w' => Kn N a' Lj ∧ w' = w ∧ X) (fun _ _ => 0) hf (h1 a k) (fun a' w' hJ => ?_)
 obtain ⟨hk, rfl, hx⟩ := hJ
 refine wp_mono (h2 hx a' hk) (fun e a'' w'' hq => ?_)
 cases e with
 | goto l' => exact hq.2.elim
 | _ => exact hq
theorem wc_goto {l : Nat} (h : QK (.goto l) Q N L w) : WC (.goto l) P Q N L w := fun a k => wp_goto (h a k)
theorem wc_label {l : Nat} (h : QK .normal Q N L w) : WC (.label l) P Q N L w := fun a k => wp_label (h a k)
theorem qk_goto {l : Nat} {Lj : Sl} {X : Prop} (hs : Sub Lj L) (hx : X) : QK (.goto l) (Jmp l N Lj Q w X) N L w := fun _ k => ⟨rfl, k.weaken hs, rfl, hx⟩
theorem qk_thn_goto {l : Nat} {y : Code} (h : QK (.goto l) Q N L w) : QK (.goto l) (Thn P y Q) N L w := fun a k => h a k
theorem qk_jmp_ret {l : Nat} {J : Act → World → Prop} (h : QK .ret Q N L w) : QK .ret (Exit.jump l J Q) N L w := fun a k => h a k
theorem wl_shl {ops : Array Oper} {rest : List Oper} {d : Nat} {ty : TypeId} {pos : String} {aft : Array Edge} {x : Operand} {t u : TypeId} {kk yk : IntKind} {m s r : Int} (hx : ev L x = some (.int kk m)) (hd : Nat.blt d N = true) (h0 : 0 ≤ s) (h1 : s ≤ kk.bits) (hr : kk.wrap (m * 2 ^ s.toNat) = r) (h : WL rest P ops Q N ((d, .int kk r) :: L) w) :
  WL (⟨some d, .binOp .shl t x (.const (.int yk s)) u, ty, pos, aft, none⟩ :: rest) P ops Q N L w := by
 intro a k
 exact st_of (o := ⟨some d, .binOp .shl t x (.const (.int yk s)) u, ty, pos, aft, none⟩) rfl (rn_shl k hx h0 h1 hr) (h _ (k.put _ hd))
end
theorem and127b (b : Nat) (h : b < 256) : bits .and .u8 (b : Int) 127 = ((b % 128 : Nat) : Int) := by
 have := (bits_nat .u8 8 (by decide) (fun n h0 h1 => by rw [IntKind.wrap_u8]; omega) b 127 (by omega) (by omega)).1
 rw [show ((127 : Nat) : Int) = 127 from rfl] at this
 rw [this, show (127 : Nat) = 2 ^ 7 - 1 from rfl, Nat.and_two_pow_sub_one_eq_mod]
theorem and128b : ∀ b : Nat, b < 256 → bits .and .u8 (b : Int) 128 = if b < 128 then 0 else 128 := by
 intro b h
 have := (bits_nat .u8 8 (by decide) (fun n h0 h1 => by rw [IntKind.wrap_u8]; omega) b 128 (by omega) (by omega)).1
 rw [show ((128 : Nat) : Int) = 128 from rfl] at this
 rw [this]
 have key : ∀ x : Fin 256, x.val &&& 128 = if x.val < 128 then 0 else 128 := by decide
 have := key ⟨b, h⟩
 simp only [] at this
 rw [this]
 split <;> rfl
theorem or32 (a x s : Nat) (ha : a < 2 ^ s) (ha2 : a < 4294967296) (hx : x * 2 ^ s < 4294967296) : bits .or .u32 (a : Int) ((x * 2 ^ s : Nat) : Int) = ((a + x * 2 ^ s : Nat) : Int) :=
 or_add .u32 32 (by decide) (fun n h0 h1 => by rw [IntKind.wrap_u32]; omega) a x s ha ha2 hx
theorem uvarR_nil (k : Nat) : uvarR k [] = none := by cases k <;> rfl
theorem cell_at {w : World} {sb o c : Nat} {s : List UInt8} (h : SrcV w sb (.slice (some ⟨sb, o, none⟩) s.length c) s) {i : Nat} (hi : i < s.length) : w.cell? ⟨sb, o + i * 1, none⟩ = some (.int .u8 s[i].toNat) := by
 obtain ⟨o', e, hc⟩ := h.cell hi
 cases e; exact hc
def UvarRel (s : List UInt8) (u n : Int) : Prop := match uvarP s with
 | some x => u = (x.1 : Int) ∧ ∃ m : Nat, n = (m : Int) ∧ 0 < m ∧ m ≤ s.length ∧ x.2 = s.drop m
 | none => n ≤ 0
theorem fn_uvarint (w : World) (sb : Nat) (a : Option Addr) (c : Nat) (s : List UInt8) (hsv : SrcV w sb (.slice a s.length c) s) :
  Calls Tryz.prog 156 #[.slice a s.length c] w fun e w' => w' = w ∧ ∃ u n : Int, e = .returned (.tuple #[.int .u32 u, .int .i64 n]) ∧ UvarRel s u n := by
 refine enter Tryz.func156 rfl Tryz.ntmps156 rfl ?_
 refine wc_seq (wc_region (wl_assign rfl rfl (wl_assign rfl rfl (wl_nil (qk_thn ?_)))))
 refine wc_sub (L' := [(0, .slice a s.length c)]) ⟨rfl, trivial⟩ ?_
 refine wc_scope 0 [(5, .int .i64 0)] (uvarP s = none) rfl ?_ ?_
 ·refine wc_seq (wc_region (wl_assign rfl rfl (wl_nil (qk_thn ?_))))
  refine wc_seq (wc_region (wl_assign rfl rfl (wl_nil (qk_thn ?_))))
  refine wc_seq (wc_seq (wc_region ?_))
  refine ws rfl rfl ?_
  refine ws rfl rfl ?_
  refine ws rfl rfl ?_
  refine wl_nil (qk_thn ?_)
  cases s with
  | nil =>
   refine wc_yes rfl (by simp) (wc_goto (qk_thn_goto (qk_goto ⟨rfl, trivial⟩ ?_)))
   simp only [uvarP, uvarR_cons, uvarR_nil]
  | cons b0 s =>
   have l0 := b0.toNat_lt
   refine wc_no rfl (by simp; omega) (wc_skip (qk_thn ?_))
   obtain ⟨o0, rfl, hc0⟩ := hsv.cell (i := 0) (by simp)
   simp only [List.getElem_cons_zero] at hc0
   refine wc_seq (wc_region ?_)
   refine ws rfl rfl ?_
   refine wl_indexAddr (i := 0) rfl rfl es_bytes rfl (by simp) ?_
   refine wl_load rfl to_u8 rfl hc0 ?_
   refine wl_and (r := ((b0.toNat % 128 : Nat) : Int)) rfl rfl rfl (and127b _ l0) ?_
   refine wl_conv .u32 (r := ((b0.toNat % 128 : Nat) : Int)) rfl (by kernel_rfl) (by kernel_rfl) rfl (by rw [IntKind.wrap_u32]; omega) ?_
   refine ws rfl rfl ?_
   refine wl_nil (qk_thn ?_)
   refine wc_seq (wc_seq (wc_region ?_))
   refine ws rfl rfl ?_
   refine wl_indexAddr (i := 0) rfl rfl es_bytes rfl (by simp) ?_
   refine wl_load rfl to_u8 rfl hc0 ?_
   by_cases n0 : b0.toNat < 128
   ·refine wl_and (r := 0) rfl rfl rfl (by rw [and128b _ l0, if_pos n0]) ?_
    refine ws rfl rfl ?_
    refine wl_nil (qk_thn (wc_yes rfl (by decide) (wc_seq (wc_region ?_))))
    refine ws rfl rfl ?_
    refine ws rfl rfl ?_
    refine ws rfl rfl ?_
    refine wl_nil (qk_thn (wc_ret (qk_thn_ret (qk_jmp_ret (qk_ret2 rfl rfl rfl ⟨rfl, _, _, rfl, ?_⟩)))))
    have hu : uvarP (b0 :: s) = some (b0.toNat % 128, s) := by
     simp only [uvarP, uvarR_cons]
     simp [n0]
     omega
    unfold UvarRel
    rw [hu]
    exact ⟨rfl, 1, rfl, by omega, by simp, rfl⟩
   refine wl_and (r := 128) rfl rfl rfl (by rw [and128b _ l0, if_neg n0]) ?_
   refine ws rfl rfl ?_
   refine wl_nil (qk_thn (wc_no rfl (by decide) ?_))
   refine wc_seq (wc_region ?_)
   refine ws rfl rfl ?_
   refine ws rfl rfl ?_
   refine ws rfl rfl ?_
   refine wl_nil (qk_thn ?_)
   cases s with
   | nil =>
    refine wc_yes rfl (by simp) (wc_goto (qk_thn_goto (qk_goto ⟨rfl, trivial⟩ ?_)))
    simp only [uvarP, uvarR_cons, uvarR_nil]; simp [n0]
   | cons b1 s =>
    have l1 := b1.toNat_lt
    refine wc_no rfl (by simp; omega) (wc_skip (qk_thn ?_))
    have hc1 := cell_at hsv (i := 1) (by simp)
    simp only [List.getElem_cons_succ, List.getElem_cons_zero] at hc1
    refine wc_seq (wc_region ?_)
    refine ws rfl rfl ?_
    refine ws rfl rfl ?_
    refine wl_indexAddr (i := 1) rfl rfl es_bytes rfl (by simp) ?_
    refine wl_load rfl to_u8 rfl hc1 ?_
    refine wl_and (r := ((b1.toNat % 128 : Nat) : Int)) rfl rfl rfl (and127b _ l1) ?_
    refine wl_conv .u32 (r := ((b1.toNat % 128 : Nat) : Int)) rfl (by kernel_rfl) (by kernel_rfl) rfl (by rw [IntKind.wrap_u32]; omega) ?_
    refine wl_shl (r := ((b1.toNat % 128 * 2 ^ 7 : Nat) : Int)) rfl rfl (by decide) (by decide) (by rw [IntKind.wrap_u32]; simp; omega) ?_
    refine wl_or (r := ((b0.toNat % 128 + b1.toNat % 128 * 2 ^ 7 : Nat) : Int)) rfl rfl rfl (or32 _ _ _ (by omega) (by omega) (by omega)) ?_
    refine ws rfl rfl ?_
    refine wl_nil (qk_thn ?_)
    refine wc_seq (wc_seq (wc_region ?_))
    refine ws rfl rfl ?_
    refine wl_indexAddr (i := 1) rfl rfl es_bytes rfl (by simp) ?_
    refine wl_load rfl to_u8 rfl hc1 ?_
    by_cases n1 : b1.toNat < 128
    ·refine wl_and (r := 0) rfl rfl rfl (by rw [and128b _ l1, if_pos n1]) ?_
     refine ws rfl rfl ?_
     refine wl_nil (qk_thn (wc_yes rfl (by decide) (wc_seq (wc_region ?_))))
     refine ws rfl rfl ?_
     refine ws rfl rfl ?_
     refine ws rfl rfl ?_
     refine wl_nil (qk_thn (wc_ret (qk_thn_ret (qk_jmp_ret (qk_ret2 rfl rfl rfl ⟨rfl, _, _, rfl, ?_⟩)))))
     have hu : uvarP (b0 :: b1 :: s) = some (b0.toNat % 128 + b1.toNat % 128 * 2 ^ 7, s) := by
      simp only [uvarP, uvarR_cons]
      simp [n0, n1]
      omega
     unfold UvarRel
     rw [hu]
     exact ⟨rfl, 2, rfl, by omega, by simp, rfl⟩
    refine wl_and (r := 128) rfl rfl rfl (by rw [and128b _ l1, if_neg n1]) ?_
    refine ws rfl rfl ?_
    refine wl_nil (qk_thn (wc_no rfl (by decide) ?_))
    refine wc_seq (wc_region ?_)
    refine ws rfl rfl ?_
    refine ws rfl rfl ?_
    refine ws rfl rfl ?_
    refine wl_nil (qk_thn ?_)
    cases s with
    | nil =>
     refine wc_yes rfl (by simp) (wc_goto (qk_thn_goto (qk_goto ⟨rfl, trivial⟩ ?_)))
     simp only [uvarP, uvarR_cons, uvarR_nil]; simp [n0, n1]
    | cons b2 s =>
     have l2 := b2.toNat_lt
     refine wc_no rfl (by simp; omega) (wc_skip (qk_thn ?_))
     have hc2 := cell_at hsv (i := 2) (by simp)
     simp only [List.getElem_cons_succ, List.getElem_cons_zero] at hc2
     refine wc_seq (wc_region ?_)
     refine ws rfl rfl ?_
     refine ws rfl rfl ?_
     refine wl_indexAddr (i := 2) rfl rfl es_bytes rfl (by simp) ?_
     refine wl_load rfl to_u8 rfl hc2 ?_
     refine wl_and (r := ((b2.toNat % 128 : Nat) : Int)) rfl rfl rfl (and127b _ l2) ?_
     refine wl_conv .u32 (r := ((b2.toNat % 128 : Nat) : Int)) rfl (by kernel_rfl) (by kernel_rfl) rfl (by rw [IntKind.wrap_u32]; omega) ?_
     refine wl_shl (r := ((b2.toNat % 128 * 2 ^ 14 : Nat) : Int)) rfl rfl (by decide) (by decide) (by rw [IntKind.wrap_u32]; simp; omega) ?_
     refine wl_or (r := ((b0.toNat % 128 + b1.toNat % 128 * 2 ^ 7 + b2.toNat % 128 * 2 ^ 14 : Nat) : Int)) rfl rfl rfl (or32 _ _ _ (by omega) (by omega) (by omega)) ?_
     refine ws rfl rfl ?_
     refine wl_nil (qk_thn ?_)
     refine wc_seq (wc_seq (wc_region ?_))
     refine ws rfl rfl ?_
     refine wl_indexAddr (i := 2) rfl rfl es_bytes rfl (by simp) ?_
     refine wl_load rfl to_u8 rfl hc2 ?_
     by_cases n2 : b2.toNat < 128
     ·refine wl_and (r := 0) rfl rfl rfl (by rw [and128b _ l2, if_pos n2]) ?_
      refine ws rfl rfl ?_
      refine wl_nil (qk_thn (wc_yes rfl (by decide) (wc_seq (wc_region ?_))))
      refine ws rfl rfl ?_
      refine ws rfl rfl ?_
      refine ws rfl rfl ?_
      refine wl_nil (qk_thn (wc_ret (qk_thn_ret (qk_jmp_ret (qk_ret2 rfl rfl rfl ⟨rfl, _, _, rfl, ?_⟩)))))
      have hu : uvarP (b0 :: b1 :: b2 :: s) = some (b0.toNat % 128 + b1.toNat % 128 * 2 ^ 7 + b2.toNat % 128 * 2 ^ 14, s) := by
       simp only [uvarP, uvarR_cons]
       simp [n0, n1, n2]
       omega
      unfold UvarRel
      rw [hu]
      exact ⟨rfl, 3, rfl, by omega, by simp, rfl⟩
     refine wl_and (r := 128) rfl rfl rfl (by rw [and128b _ l2, if_neg n2]) ?_
     refine ws rfl rfl ?_
     refine wl_nil (qk_thn (wc_no rfl (by decide) ?_))
     refine wc_seq (wc_region ?_)
     refine ws rfl rfl ?_
     refine ws rfl rfl ?_
     refine ws rfl rfl ?_
     refine wl_nil (qk_thn ?_)
     cases s with
     | nil =>
      refine wc_yes rfl (by simp) (wc_goto (qk_thn_goto (qk_goto ⟨rfl, trivial⟩ ?_)))
      simp only [uvarP, uvarR_cons, uvarR_nil]; simp [n0, n1, n2]
     | cons b3 s =>
      have l3 := b3.toNat_lt
      refine wc_no rfl (by simp; omega) (wc_skip (qk_thn ?_))
      have hc3 := cell_at hsv (i := 3) (by simp)
      simp only [List.getElem_cons_succ, List.getElem_cons_zero] at hc3
      refine wc_seq (wc_region ?_)
      refine ws rfl rfl ?_
      refine ws rfl rfl ?_
      refine wl_indexAddr (i := 3) rfl rfl es_bytes rfl (by simp) ?_
      refine wl_load rfl to_u8 rfl hc3 ?_
      refine wl_and (r := ((b3.toNat % 128 : Nat) : Int)) rfl rfl rfl (and127b _ l3) ?_
      refine wl_conv .u32 (r := ((b3.toNat % 128 : Nat) : Int)) rfl (by kernel_rfl) (by kernel_rfl) rfl (by rw [IntKind.wrap_u32]; omega) ?_
      refine wl_shl (r := ((b3.toNat % 128 * 2 ^ 21 : Nat) : Int)) rfl rfl (by decide) (by decide) (by rw [IntKind.wrap_u32]; simp; omega) ?_
      refine wl_or (r := ((b0.toNat % 128 + b1.toNat % 128 * 2 ^ 7 + b2.toNat % 128 * 2 ^ 14 + b3.toNat % 128 * 2 ^ 21 : Nat) : Int)) rfl rfl rfl (or32 _ _ _ (by omega) (by omega) (by omega)) ?_
      refine ws rfl rfl ?_
      refine wl_nil (qk_thn ?_)
      refine wc_seq (wc_seq (wc_region ?_))
      refine ws rfl rfl ?_
      refine wl_indexAddr (i := 3) rfl rfl es_bytes rfl (by simp) ?_
      refine wl_load rfl to_u8 rfl hc3 ?_
      by_cases n3 : b3.toNat < 128
      ·refine wl_and (r := 0) rfl rfl rfl (by rw [and128b _ l3, if_pos n3]) ?_
       refine ws rfl rfl ?_
       refine wl_nil (qk_thn (wc_yes rfl (by decide) (wc_seq (wc_region ?_))))
       refine ws rfl rfl ?_
       refine ws rfl rfl ?_
       refine ws rfl rfl ?_
       refine wl_nil (qk_thn (wc_ret (qk_thn_ret (qk_jmp_ret (qk_ret2 rfl rfl rfl ⟨rfl, _, _, rfl, ?_⟩)))))
       have hu : uvarP (b0 :: b1 :: b2 :: b3 :: s) = some (b0.toNat % 128 + b1.toNat % 128 * 2 ^ 7 + b2.toNat % 128 * 2 ^ 14 + b3.toNat % 128 * 2 ^ 21, s) := by
        simp only [uvarP, uvarR_cons]
        simp [n0, n1, n2, n3]
        omega
       unfold UvarRel
       rw [hu]
       exact ⟨rfl, 4, rfl, by omega, by simp, rfl⟩
      refine wl_and (r := 128) rfl rfl rfl (by rw [and128b _ l3, if_neg n3]) ?_
      refine ws rfl rfl ?_
      refine wl_nil (qk_thn (wc_no rfl (by decide) ?_))
      refine wc_seq (wc_region ?_)
      refine ws rfl rfl ?_
      refine ws rfl rfl ?_
      refine ws rfl rfl ?_
      refine wl_nil (qk_thn ?_)
      cases s with
      | nil =>
       refine wc_yes rfl (by simp) (wc_goto (qk_thn_goto (qk_goto ⟨rfl, trivial⟩ ?_)))
       simp only [uvarP, uvarR_cons, uvarR_nil]; simp [n0, n1, n2, n3]
      | cons b4 s =>
       have l4 := b4.toNat_lt
       refine wc_no rfl (by simp; omega) (wc_skip (qk_thn ?_))
       have hc4 := cell_at hsv (i := 4) (by simp)
       simp only [List.getElem_cons_succ, List.getElem_cons_zero] at hc4
       refine wc_seq (wc_region ?_)
       refine ws rfl rfl ?_
       refine ws rfl rfl ?_
       refine wl_indexAddr (i := 4) rfl rfl es_bytes rfl (by simp) ?_
       refine wl_load rfl to_u8 rfl hc4 ?_
       refine wl_conv .u32 (r := (b4.toNat : Int)) rfl (by kernel_rfl) (by kernel_rfl) rfl (by rw [IntKind.wrap_u32]; omega) ?_
       refine wl_shl (r := ((b4.toNat % 16 * 2 ^ 28 : Nat) : Int)) rfl rfl (by decide) (by decide) (by rw [IntKind.wrap_u32]; simp; omega) ?_
       refine wl_or (r := ((b0.toNat % 128 + b1.toNat % 128 * 2 ^ 7 + b2.toNat % 128 * 2 ^ 14 + b3.toNat % 128 * 2 ^ 21 + b4.toNat % 16 * 2 ^ 28 : Nat) : Int)) rfl rfl rfl (or32 _ _ _ (by omega) (by omega) (by omega)) ?_
       refine ws rfl rfl ?_
       refine wl_nil (qk_thn ?_)
       refine wc_seq (wc_seq (wc_region ?_))
       refine ws rfl rfl ?_
       refine wl_indexAddr (i := 4) rfl rfl es_bytes rfl (by simp) ?_
       refine wl_load rfl to_u8 rfl hc4 ?_
       refine ws rfl rfl ?_
       refine wl_nil (qk_thn ?_)
       by_cases n4 : b4.toNat ≤ 15
       ·refine wc_yes rfl (by simp; omega) (wc_seq (wc_region ?_))
        refine ws rfl rfl ?_
        refine ws rfl rfl ?_
        refine ws rfl rfl ?_
        refine wl_nil (qk_thn (wc_ret (qk_thn_ret (qk_jmp_ret (qk_ret2 rfl rfl rfl ⟨rfl, _, _, rfl, ?_⟩)))))
        have hu : uvarP (b0 :: b1 :: b2 :: b3 :: b4 :: s) = some (b0.toNat % 128 + b1.toNat % 128 * 2 ^ 7 + b2.toNat % 128 * 2 ^ 14 + b3.toNat % 128 * 2 ^ 21 + b4.toNat % 16 * 2 ^ 28, s) := by
         simp only [uvarP, uvarR_cons]
         simp [n0, n1, n2, n3, n4]
         omega
        unfold UvarRel
        rw [hu]
        exact ⟨rfl, 5, rfl, by omega, by simp, rfl⟩
       ·refine wc_no rfl (by simp; omega) (wc_skip (qk_thn ?_))
        refine wc_seq (wc_region (wl_assign rfl rfl (wl_nil (qk_thn ?_))))
        refine wc_seq (wc_label (qk_thn ?_))
        refine wc_seq (wc_region ?_)
        refine ws rfl rfl ?_
        refine ws rfl rfl ?_
        refine ws rfl rfl ?_
        refine wl_nil (qk_thn (wc_ret (qk_jmp_ret (qk_ret2 rfl rfl rfl ⟨rfl, _, _, rfl, ?_⟩))))
        have hu : uvarP (b0 :: b1 :: b2 :: b3 :: b4 :: s) = none := by simp only [uvarP, uvarR_cons]; simp [n0, n1, n2, n3, n4]
        unfold UvarRel
        rw [hu]
        show (-5 : Int) ≤ 0; decide
 ·intro hu
  refine wc_seq (wc_skip (qk_thn ?_))
  refine wc_seq (wc_region ?_)
  refine ws rfl rfl ?_
  refine ws rfl rfl ?_
  refine ws rfl rfl ?_
  refine wl_nil (qk_thn (wc_ret (qk_jmp_ret (qk_ret2 rfl rfl rfl ⟨rfl, _, _, rfl, ?_⟩))))
  unfold UvarRel
  rw [hu]
  exact Int.le_refl 0
end Go.Proofs.YtlmnaffhadeolaaGreatDoor.Rdk

namespace Go.Proofs.YtlmnaffhadeolaaGreatDoor.Rdk
open Go Go.RowKit
set_option maxRecDepth 100000
theorem foldl_push (ns : List UInt8) : ∀ (s : List UInt8), (ns.map fun c => (c.toNat : Int)).foldl (fun (r : ByteArray) n => r.push (UInt8.ofNat n.toNat)) ⟨s.toArray⟩ = ⟨(s ++ ns).toArray⟩ := by
 induction ns with
 | nil => intro s; simp
 | cons c ns ih =>
  intro s
  simp only [List.map_cons, List.foldl_cons]
  have : (ByteArray.mk s.toArray).push (UInt8.ofNat (c.toNat : Int).toNat) = ⟨(s ++ [c]).toArray⟩ := by
   simp [ByteArray.push]
  rw [this, ih]
  simp
section
variable {P : Program} {ops : Array Oper} {Q : Exit → Act → World → Prop} {N : Nat} {rest : List Oper} {L : Sl} {w : World} {d : Nat} {ty : TypeId} {pos : String} {aft : Array Edge}
theorem wl_extract {x : Operand} {i : Nat} {cs : Array Value} {v : Value} (hx : ev L x = some (.tuple cs)) (hv : cs[i]? = some v) (hd : Nat.blt d N = true) (h : WL rest P ops Q N ((d, v) :: L) w) : WL (⟨some d, .extract x i, ty, pos, aft, none⟩ :: rest) P ops Q N L w := by
 intro a k
 refine st_of (o := ⟨some d, .extract x i, ty, pos, aft, none⟩) rfl ?_ (h _ (k.put _ hd))
 simp [execOp, k.eval hx, Instr.extract, hv]
theorem wl_toStr {x : Operand} {s t : TypeId} {sb : Nat} {v : Value} {bs : List UInt8} (hx : ev L x = some v) (hv : SrcV w sb v bs) (hs : (match P.underlying s with | some (.slice e) => (match P.underlying e with | some (.int .u8) => true | _ => false) | _ => false) = true) (ht : (match P.underlying t with | some .string => true | _ => false) = true) (hd : Nat.blt d N = true)
  (h : WL rest P ops Q N ((d, strV bs) :: L) w) : WL (⟨some d, .convert s t x, ty, pos, aft, none⟩ :: rest) P ops Q N L w := by
 intro a k
 refine st_of (o := ⟨some d, .convert s t x, ty, pos, aft, none⟩) (v := strV bs) (w' := w) rfl ?_ (h _ (k.put _ hd))
 split at hs
 ·rename_i e he
  split at hs
  ·rename_i he8
   split at ht
   ·rename_i hst
    have key : (Conv.bytesToString v).run P w = .ok (strV bs) w := by
     rcases hv with ⟨rfl, rfl⟩ | ⟨o, c, rfl, hle, hcs, _⟩
     ·simp [Conv.bytesToString, strV]; rfl
     ·have hl := run_loadCells_list (P := P) w ⟨sb, o, none⟩ (bv bs) (fun j v e => by rw [add_plain _ _ rfl]; exact hcs.cell e)
      rw [bv_len] at hl
      have hb : bv bs = (bs.map fun c => (c.toNat : Int)).map (Value.int .u8) := by simp [bv]
      rw [hb] at hl
      rw [run_bytesToString w ⟨sb, o, none⟩ bs.length c _ hl]
      have := foldl_push bs []
      simp only [List.nil_append] at this
      rw [strV, ← this]; rfl
    obtain ⟨a', l', c', rfl⟩ : ∃ a' l' c', v = .slice a' l' c' := by
     rcases hv with ⟨rfl, _⟩ | ⟨o, c, rfl, _⟩ <;> exact ⟨_, _, _, rfl⟩
    simp only [execOp, k.eval hx, Sem.run_bind, run_convert_bytes_string w s t e a' l' c' he he8 hst, key, Result.andThen_ok, Sem.run_pure]
   ·cases ht
  ·cases hs
 ·cases hs
end
theorem uvarR_lt : ∀ (k : Nat) (s : List UInt8) (x : Nat × List UInt8), uvarR (k + 1) s = some x → x.1 < 16 * 128 ^ k ∧ x.2.length ≤ s.length
 | k, [], x, h => by rw [uvarR_nil] at h; cases h
 | 0, c :: r, x, h => by
  rw [uvarR_cons, if_pos rfl] at h
  split at h
  ·cases h; exact ⟨by simp; omega, by simp⟩
  ·cases h
 | k + 1, c :: r, x, h => by
  rw [uvarR_cons, if_neg (by omega)] at h
  have hp : 1 ≤ 128 ^ k := Nat.pow_pos (by omega)
  split at h
  ·cases h; exact ⟨by simp only [Nat.pow_succ]; omega, by simp⟩
  ·split at h
   ·rename_i n r' hr
    cases h
    obtain ⟨h1, h2⟩ := uvarR_lt k r (n, r') hr
    have := c.toNat_lt
    simp only [] at h1 h2 ⊢
    exact ⟨by simp only [Nat.pow_succ]; omega, by simp; omega⟩
   ·cases h
theorem uvarP_lt {s : List UInt8} {x : Nat × List UInt8} (h : uvarP s = some x) : x.1 < 4294967296 ∧ x.2.length ≤ s.length := by
 have := uvarR_lt 4 s x h
 exact ⟨by omega, this.2⟩
def UvRel (st : Option (List UInt8)) (u : Nat) (st' : Option (List UInt8)) : Prop := u < 4294967296 ∧ match st with
 | none => st' = none
 | some s => match uvarP s with
  | some x => st' = some x.2 ∧ u = x.1
  | none => st' = none
theorem fn_ruv (w : World) (rb sb : Nat) (st : Option (List UInt8)) (hr : Rdr w rb sb st) (hne : rb ≠ sb) :
  Calls Tryz.prog 116 #[.pointer (some ⟨rb, 0, none⟩)] w fun e w' => ∃ (u : Nat) (st' : Option (List UInt8)), e = .returned (.int .u32 (u : Int)) ∧ Chg (· = rb) w w' ∧ Rdr w' rb sb st' ∧ UvRel st u st' := by
 obtain ⟨a, c, s, e, hb, hle, hlim, hsv, hst⟩ := hr.view
 refine enter Tryz.func116 rfl Tryz.ntmps116 rfl ?_
 refine wc_seq (wc_region (wl_assign rfl rfl (wl_nil (qk_thn ?_))))
 refine wc_seq (wc_region ?_)
 refine ws rfl rfl ?_
 refine ws rfl rfl ?_
 refine ws rfl rfl ?_
 refine wl_loadB rfl to_bytes rfl hb rfl ?_
 refine wl_call rfl (by kernel_rfl) rfl ((fn_uvarint w sb a c s hsv).mono ?_)
 rintro en w' ⟨rfl, u, n, rfl, hrel⟩
 refine ⟨_, rfl, ?_⟩
 refine wl_move rfl rfl ?_
 refine wl_extract rfl rfl rfl ?_
 refine wl_extract rfl rfl rfl ?_
 refine ws rfl rfl ?_
 refine ws rfl rfl ?_
 refine wl_nil (qk_thn ?_)
 refine wc_seq (wc_seq (wc_region ?_))
 refine ws rfl rfl ?_
 refine ws rfl rfl ?_
 refine wl_nil (qk_thn ?_)
 unfold UvarRel at hrel
 cases hp : uvarP s with
 | none =>
  rw [hp] at hrel
  simp only [] at hrel
  refine wc_yes rfl (by simpa using hrel) ?_
  refine wc_seq (wc_region ?_)
  refine ws rfl rfl ?_
  refine ws rfl rfl ?_
  refine ws rfl rfl ?_
  refine wl_storeB rfl rfl to_bool rfl hb rfl (fun w1 hb1 g1 _ => ?_)
  refine wl_nil (qk_thn ?_)
  refine wc_seq (wc_region ?_)
  refine ws rfl rfl ?_
  refine ws rfl rfl ?_
  refine ws rfl rfl ?_
  refine wl_storeB rfl rfl to_bytes rfl hb1 rfl (fun w2 hb2 g2 _ => ?_)
  refine wl_nil (qk_thn ?_)
  refine wc_seq (wc_region ?_)
  refine ws rfl rfl ?_
  refine wl_nil (qk_thn (wc_ret (qk_thn_ret (qk_ret1 rfl rfl ?_))))
  refine ⟨0, none, rfl, (Chg.grown g1).trans (Chg.grown g2), ⟨e, hb2⟩, by decide, ?_⟩
  rcases hst with ⟨rfl, _⟩ | rfl
  ·rfl
  ·simp only [hp]
 | some x =>
  rw [hp] at hrel
  simp only [] at hrel
  obtain ⟨rfl, m, rfl, hm0, hm, hx2⟩ := hrel
  obtain rfl : st = some s := by
   rcases hst with ⟨_, rfl, _⟩ | h
   ·simp at hm; omega
   ·exact h
  refine wc_no rfl (by simp; omega) (wc_skip (qk_thn (wc_seq (wc_region ?_))))
  refine ws rfl rfl ?_
  refine ws rfl rfl ?_
  refine ws rfl rfl ?_
  refine ws rfl rfl ?_
  refine wl_loadB rfl to_bytes rfl hb rfl ?_
  refine ws rfl rfl ?_
  refine wl_sliceLo (m := m) rfl rfl es_bytes rfl hm ?_
  refine ws rfl rfl ?_
  refine ws rfl rfl ?_
  refine wl_storeB rfl rfl to_bytes rfl hb rfl (fun w1 hb1 g1 _ => ?_)
  refine wl_nil (qk_thn (wc_seq (wc_region ?_)))
  refine ws rfl rfl ?_
  refine ws rfl rfl ?_
  refine wl_nil (qk_thn (wc_ret (qk_ret1 rfl rfl ?_)))
  have hg := Chg.grown g1
  refine ⟨x.1, some (s.drop m), rfl, hg, ((hsv.drop hm).chg hg (fun e => hne e.symm)).rdr hb1 (fun hz => hr.nn_drop hb hsv hz) (by simp; omega), (uvarP_lt hp).1, ?_⟩
  simp only [hp, hx2, and_self]
end Go.Proofs.YtlmnaffhadeolaaGreatDoor.Rdk
