/- The statement's own walk: whatever is set of a ControlRecordKey, its octets are those of the protocol. -/
import Derived.Test.YtaoecdeljfdmeaaCrk
namespace Go.Proofs.Ytaoecdeljfdmeaa.Crk
open Go Go.RowKit

section
set_option maxRecDepth 100000
theorem fn_append (ver ty : Int) (bx B : Nat) (w : World) (d : Value) (xs : List UInt8) (hb : Box w bx [.int .i16 ver, .int .i16 ty] 51) (hown : Own w B 5 d xs) (hB : B ≤ w.heap.size) (hne : d.ownBlock ≠ some bx) (hlim : xs.length + 4 ≤ lim) :
    Calls Try.prog 23 #[.pointer (some ⟨bx, 0, none⟩), d] w fun e w' => ∃ d', e = .returned d' ∧ Own w' B 5 d' (xs ++ be 2 ver ++ be 2 ty) ∧ Grew w w' d d' := by
  refine enter (vs := [.pointer (some ⟨bx, 0, none⟩), d]) Try.func23 rfl Try.ntmps23 rfl ?_
  repeat first|(with_reducible first|apply wc_seq|apply wc_region|apply wl_nil|apply qk_thn|apply wc_block|apply wc_skip|apply wc_ret|apply wc_exit|apply qk_thn_ret|apply qk_in_ret|apply qk_in|apply qk_thn_exit|apply qk_in_exit|apply qk_round_ret|apply qk_round_exit)|((with_reducible apply ws);exact rfl;exact rfl)|((with_reducible apply wl_yes);exact rfl;exact rfl;exact rfl)|((with_reducible apply wl_no);exact rfl;exact rfl;exact rfl;exact rfl)|((with_reducible apply wl_noU);exact rfl;exact rfl;exact rfl)
  refine wl_loadB rfl to_i16 rfl hb rfl ?_
  repeat first|(with_reducible first|apply wc_seq|apply wc_region|apply wl_nil|apply qk_thn|apply wc_block|apply wc_skip|apply wc_ret|apply wc_exit|apply qk_thn_ret|apply qk_in_ret|apply qk_in|apply qk_thn_exit|apply qk_in_exit|apply qk_round_ret|apply qk_round_exit)|((with_reducible apply ws);exact rfl;exact rfl)|((with_reducible apply wl_yes);exact rfl;exact rfl;exact rfl)|((with_reducible apply wl_no);exact rfl;exact rfl;exact rfl;exact rfl)|((with_reducible apply wl_noU);exact rfl;exact rfl;exact rfl)
  refine wl_loadB rfl to_i16 rfl hb rfl ?_
  repeat first|(with_reducible first|apply wc_seq|apply wc_region|apply wl_nil|apply qk_thn|apply wc_block|apply wc_skip|apply wc_ret|apply wc_exit|apply qk_thn_ret|apply qk_in_ret|apply qk_in|apply qk_thn_exit|apply qk_in_exit|apply qk_round_ret|apply qk_round_exit)|((with_reducible apply ws);exact rfl;exact rfl)|((with_reducible apply wl_yes);exact rfl;exact rfl;exact rfl)|((with_reducible apply wl_no);exact rfl;exact rfl;exact rfl;exact rfl)|((with_reducible apply wl_noU);exact rfl;exact rfl;exact rfl)
  refine wl_call rfl (by kernel_rfl) rfl ((appendInt16 ver d w B xs trivial hown hB (by rw [be_length]; omega)).mono ?_)
  rintro e w1 ⟨d1, rfl, ho1, hg1⟩
  refine ⟨d1, rfl, ?_⟩
  have hb1 := hb.kept hg1.grown (fun e => hne e.symm)
  repeat first|(with_reducible first|apply wc_seq|apply wc_region|apply wl_nil|apply qk_thn|apply wc_block|apply wc_skip|apply wc_ret|apply wc_exit|apply qk_thn_ret|apply qk_in_ret|apply qk_in|apply qk_thn_exit|apply qk_in_exit|apply qk_round_ret|apply qk_round_exit)|((with_reducible apply ws);exact rfl;exact rfl)|((with_reducible apply wl_yes);exact rfl;exact rfl;exact rfl)|((with_reducible apply wl_no);exact rfl;exact rfl;exact rfl;exact rfl)|((with_reducible apply wl_noU);exact rfl;exact rfl;exact rfl)
  refine wl_loadB rfl to_crk rfl hb1 rfl ?_
  repeat first|(with_reducible first|apply wc_seq|apply wc_region|apply wl_nil|apply qk_thn|apply wc_block|apply wc_skip|apply wc_ret|apply wc_exit|apply qk_thn_ret|apply qk_in_ret|apply qk_in|apply qk_thn_exit|apply qk_in_exit|apply qk_round_ret|apply qk_round_exit)|((with_reducible apply ws);exact rfl;exact rfl)|((with_reducible apply wl_yes);exact rfl;exact rfl;exact rfl)|((with_reducible apply wl_no);exact rfl;exact rfl;exact rfl;exact rfl)|((with_reducible apply wl_noU);exact rfl;exact rfl;exact rfl)
  refine wl_call rfl (by kernel_rfl) rfl ((appendInt16 ty d1 w1 B _ trivial ho1 (Nat.le_trans hB hg1.grown.size) (by rw [List.length_append, be_length, be_length]; omega)).mono ?_)
  rintro e w2 ⟨d2, rfl, ho2, hg2⟩
  refine ⟨d2, rfl, ?_⟩
  repeat first|(with_reducible first|apply wc_seq|apply wc_region|apply wl_nil|apply qk_thn|apply wc_block|apply wc_skip|apply wc_ret|apply wc_exit|apply qk_thn_ret|apply qk_in_ret|apply qk_in|apply qk_thn_exit|apply qk_in_exit|apply qk_round_ret|apply qk_round_exit)|((with_reducible apply ws);exact rfl;exact rfl)|((with_reducible apply wl_yes);exact rfl;exact rfl;exact rfl)|((with_reducible apply wl_no);exact rfl;exact rfl;exact rfl;exact rfl)|((with_reducible apply wl_noU);exact rfl;exact rfl;exact rfl)
  exact qk_ret1 rfl rfl ⟨_, rfl, ho2, hg1.trans hg2⟩
theorem fn_make (ver : Int) (t : Tree) (B : Nat) (w : World) (ts : List Value) (hB : B ≤ w.heap.size) (ht : Rep (Lo B) w (treeD t) ts) :
    Calls Try.prog 9 #[.int .i64 ver, .agg ts.toArray] w fun e w' => ∃ v, e = .returned v ∧ Below B w w' ∧ w.heap.size ≤ w'.heap.size ∧ Own w' w.heap.size 5 v (be 2 (IntKind.i16.wrap ver) ++ be 2 (IntKind.i16.wrap (att t 0).n)) ∧ Below w.heap.size w w' := by
  obtain ⟨sv2, lv, uv, rfl, _, _, _⟩ := tree_cells ht
  refine enter (vs := [.int .i64 ver, .agg #[.int .i64 t.n, sv2, .bool t.nul, lv, uv]]) Try.func9 rfl Try.ntmps9 rfl ?_
  repeat first|(with_reducible first|apply wc_seq|apply wc_region|apply wl_nil|apply qk_thn|apply wc_block|apply wc_skip|apply wc_ret|apply wc_exit|apply qk_thn_ret|apply qk_in_ret|apply qk_in|apply qk_thn_exit|apply qk_in_exit|apply qk_round_ret|apply qk_round_exit)|((with_reducible apply ws);exact rfl;exact rfl)|((with_reducible apply wl_yes);exact rfl;exact rfl;exact rfl)|((with_reducible apply wl_no);exact rfl;exact rfl;exact rfl;exact rfl)|((with_reducible apply wl_noU);exact rfl;exact rfl;exact rfl)
  refine wl_box1 (cs := [.int .i64 t.n, sv2, .bool t.nul, lv, uv]) rfl rfl rfl (fun w1 hb1 hg1 hs1 => ?_)
  have hw1 : Below w.heap.size w w1 := below_of hg1 (Nat.le_refl _) (by simp)
  repeat first|(with_reducible first|apply wc_seq|apply wc_region|apply wl_nil|apply qk_thn|apply wc_block|apply wc_skip|apply wc_ret|apply wc_exit|apply qk_thn_ret|apply qk_in_ret|apply qk_in|apply qk_thn_exit|apply qk_in_exit|apply qk_round_ret|apply qk_round_exit)|((with_reducible apply ws);exact rfl;exact rfl)|((with_reducible apply wl_yes);exact rfl;exact rfl;exact rfl)|((with_reducible apply wl_no);exact rfl;exact rfl;exact rfl;exact rfl)|((with_reducible apply wl_noU);exact rfl;exact rfl;exact rfl)
  refine wl_conv .i16 rfl ti_i64 ti_i16 rfl rfl ?_
  refine wl_build rfl (cs := [.int .i16 (IntKind.i16.wrap ver), .int .i16 0]) (by kernel_rfl) rfl ?_
  refine wl_box1 rfl rfl rfl (fun w2 hb2 hg2 hs2 => ?_)
  have hw2 := hw1.trans (below_of hg2 (by omega) (by simp))
  have hb12 := hb1.kept hg2 (by simp)
  repeat first|(with_reducible first|apply wc_seq|apply wc_region|apply wl_nil|apply qk_thn|apply wc_block|apply wc_skip|apply wc_ret|apply wc_exit|apply qk_thn_ret|apply qk_in_ret|apply qk_in|apply qk_thn_exit|apply qk_in_exit|apply qk_round_ret|apply qk_round_exit)|((with_reducible apply ws);exact rfl;exact rfl)|((with_reducible apply wl_yes);exact rfl;exact rfl;exact rfl)|((with_reducible apply wl_no);exact rfl;exact rfl;exact rfl;exact rfl)|((with_reducible apply wl_noU);exact rfl;exact rfl;exact rfl)
  refine wl_loadBAgg (cs := [.int .i64 t.n, sv2, .bool t.nul, lv, uv]) rfl Impl.ta_tree rfl hb12 ?_
  refine wl_call rfl (by kernel_rfl) rfl ((fn_fill t (IntKind.i16.wrap ver) w1.heap.size w.heap.size w2 _ (by omega) (by omega) hb2 (ht.below (hw2.mono hB) hB)).mono ?_)
  rintro e w3 ⟨rfl, hw3, hs3, hb3⟩
  refine ⟨_, rfl, ?_⟩
  repeat first|(with_reducible first|apply wc_seq|apply wc_region|apply wl_nil|apply qk_thn|apply wc_block|apply wc_skip|apply wc_ret|apply wc_exit|apply qk_thn_ret|apply qk_in_ret|apply qk_in|apply qk_thn_exit|apply qk_in_exit|apply qk_round_ret|apply qk_round_exit)|((with_reducible apply ws);exact rfl;exact rfl)|((with_reducible apply wl_yes);exact rfl;exact rfl;exact rfl)|((with_reducible apply wl_no);exact rfl;exact rfl;exact rfl;exact rfl)|((with_reducible apply wl_noU);exact rfl;exact rfl;exact rfl)
  refine wl_call rfl (by kernel_rfl) rfl ((fn_append (IntKind.i16.wrap ver) (IntKind.i16.wrap (att t 0).n) w1.heap.size w3.heap.size w3 (.slice none 0 0) [] hb3 (Own.nil _ _ _) (Nat.le_refl _) (by simp [Value.ownBlock]) (by simp [lim])).mono ?_)
  rintro e w4 ⟨d, rfl, ho, hg⟩
  refine ⟨d, rfl, ?_⟩
  repeat first|(with_reducible first|apply wc_seq|apply wc_region|apply wl_nil|apply qk_thn|apply wc_block|apply wc_skip|apply wc_ret|apply wc_exit|apply qk_thn_ret|apply qk_in_ret|apply qk_in|apply qk_thn_exit|apply qk_in_exit|apply qk_round_ret|apply qk_round_exit)|((with_reducible apply ws);exact rfl;exact rfl)|((with_reducible apply wl_yes);exact rfl;exact rfl;exact rfl)|((with_reducible apply wl_no);exact rfl;exact rfl;exact rfl;exact rfl)|((with_reducible apply wl_noU);exact rfl;exact rfl;exact rfl)
  have hw4 : Below w.heap.size w w4 := (hw2.trans hw3).trans (hg.below (by omega) (by simp [Value.ownBlock]))
  exact qk_ret1 rfl rfl ⟨_, rfl, hw4.mono hB, hw4.size, by simpa using ho.mono (by omega), hw4⟩

theorem be2_wrap (n : Int) : be 2 (IntKind.i16.wrap n) = be 2 n := by
  have e : IntKind.i16.wrap n % 65536 = n % 65536 := by
    simp only [IntKind.wrap, IntKind.bits, IntKind.signed]
    simp
    split <;> omega
  rw [← be_mod 2 16 (IntKind.i16.wrap n) (by omega), ← be_mod 2 16 n (by omega)]
  congr 1
theorem write_eq (t : Tree) : write m 0 t = be 2 (att t 0).n := by
  simp [write, Msg.flexible, m, wPart, asm, wFs, Fld.tag, Fld.has, Fld.fr, Fld.upto, wField, wVal, width]
theorem fit_eq (t : Tree) : (att (fitP 0 m.fields t) 0).n = (att t 0).n := by
  simp [fitP, m, fitL, fitF, att, Tree.l, fitVal, Tree.n]
theorem ok_fit (t : Tree) (h : t.ok) : (fitP 0 m.fields t).ok ∧ (fitP 0 m.fields t).small := by
  have h0 := (h.at 0).s
  have hu : ∀ kv ∈ others m.fields t.u, kv.1 < 4294967296 := by
    intro kv hkv
    simp only [others, List.mem_map] at hkv
    obtain ⟨x, hx, rfl⟩ := hkv
    exact h.u x (unknown_mem _ _ x hx)
  have hl : (others m.fields t.u).length ≤ 1000000000 := by
    simp only [others, List.length_map]
    exact Nat.le_trans (unknown_len _ _) (by omega)
  constructor
  · simp only [fitP, Tree.ok]
    refine ⟨by simp, hu, ?_⟩
    simp [m, fitL, fitF, fitVal, Tree.ok, Tree.oks]
    exact h0
  · simp only [fitP, Tree.small]
    refine ⟨⟨by rw [fitL_length]; decide, hl⟩, ?_⟩
    simp [m, fitL, fitF, fitVal, Tree.small, Tree.smalls]
theorem fn_law (n : Nat) (hn : n < 256) (t : Tree) (B : Nat) (w : World) (ts : List Value) (hok : t.ok) (hB : B ≤ w.heap.size) (ht : Rep (Lo B) w (treeD t) ts) :
    Fn 3 [.int .u8 (n : Int), .agg ts.toArray] w fun v _ => v = .bool true := by
  obtain ⟨sv2, lv, uv, rfl, _, _, _⟩ := tree_cells ht
  refine enter Try.func3 rfl Try.ntmps3 rfl ?_
  repeat first|(with_reducible first|apply wc_seq|apply wc_region|apply wl_nil|apply qk_thn|apply wc_block|apply wc_skip|apply wc_ret|apply wc_exit|apply qk_thn_ret|apply qk_in_ret|apply qk_in|apply qk_thn_exit|apply qk_in_exit|apply qk_round_ret|apply qk_round_exit)|((with_reducible apply ws);exact rfl;exact rfl)|((with_reducible apply wl_yes);exact rfl;exact rfl;exact rfl)|((with_reducible apply wl_no);exact rfl;exact rfl;exact rfl;exact rfl)|((with_reducible apply wl_noU);exact rfl;exact rfl;exact rfl)
  refine wl_box1 rfl rfl rfl (fun w1 hb1 hg1 hs1 => ?_)
  have hw1 : Below w.heap.size w w1 := below_of hg1 (Nat.le_refl _) (by simp)
  repeat first|(with_reducible first|apply wc_seq|apply wc_region|apply wl_nil|apply qk_thn|apply wc_block|apply wc_skip|apply wc_ret|apply wc_exit|apply qk_thn_ret|apply qk_in_ret|apply qk_in|apply qk_thn_exit|apply qk_in_exit|apply qk_round_ret|apply qk_round_exit)|((with_reducible apply ws);exact rfl;exact rfl)|((with_reducible apply wl_yes);exact rfl;exact rfl;exact rfl)|((with_reducible apply wl_no);exact rfl;exact rfl;exact rfl;exact rfl)|((with_reducible apply wl_noU);exact rfl;exact rfl;exact rfl)
  refine wl_loadBAgg (cs := [.int .i64 t.n, sv2, .bool t.nul, lv, uv]) rfl ta_tree rfl hb1 ?_
  refine wl_call rfl (by kernel_rfl) rfl ((fn_fits1 t B w1 _ (by omega) (ht.below (hw1.mono hB) (Nat.le_refl _))).mono ?_)
  rintro e w2 ⟨v, rfl, hw2, q, rfl⟩
  refine ⟨_, rfl, ?_⟩
  have hs2 := hw2.size
  have hw02 := hw1.trans (hw2.mono (by omega))
  repeat first|(with_reducible first|apply wc_seq|apply wc_region|apply wl_nil|apply qk_thn|apply wc_block|apply wc_skip|apply wc_ret|apply wc_exit|apply qk_thn_ret|apply qk_in_ret|apply qk_in|apply qk_thn_exit|apply qk_in_exit|apply qk_round_ret|apply qk_round_exit)|((with_reducible apply ws);exact rfl;exact rfl)|((with_reducible apply wl_yes);exact rfl;exact rfl;exact rfl)|((with_reducible apply wl_no);exact rfl;exact rfl;exact rfl;exact rfl)|((with_reducible apply wl_noU);exact rfl;exact rfl;exact rfl)
  cases q
  · refine wc_yes rfl rfl ?_
    repeat first|(with_reducible first|apply wc_seq|apply wc_region|apply wl_nil|apply qk_thn|apply wc_block|apply wc_skip|apply wc_ret|apply wc_exit|apply qk_thn_ret|apply qk_in_ret|apply qk_in|apply qk_thn_exit|apply qk_in_exit|apply qk_round_ret|apply qk_round_exit)|((with_reducible apply ws);exact rfl;exact rfl)|((with_reducible apply wl_yes);exact rfl;exact rfl;exact rfl)|((with_reducible apply wl_no);exact rfl;exact rfl;exact rfl;exact rfl)|((with_reducible apply wl_noU);exact rfl;exact rfl;exact rfl)
    exact qk_ret1 rfl rfl ⟨_, rfl, hw02, rfl⟩
  · refine wc_no rfl rfl ?_
    repeat first|(with_reducible first|apply wc_seq|apply wc_region|apply wl_nil|apply qk_thn|apply wc_block|apply wc_skip|apply wc_ret|apply wc_exit|apply qk_thn_ret|apply qk_in_ret|apply qk_in|apply qk_thn_exit|apply qk_in_exit|apply qk_round_ret|apply qk_round_exit)|((with_reducible apply ws);exact rfl;exact rfl)|((with_reducible apply wl_yes);exact rfl;exact rfl;exact rfl)|((with_reducible apply wl_no);exact rfl;exact rfl;exact rfl;exact rfl)|((with_reducible apply wl_noU);exact rfl;exact rfl;exact rfl)
    refine wl_call rfl (by kernel_rfl) rfl ((fn_table w2).mono ?_)
    rintro e w3 ⟨v, rfl, hw3, fv, rfl, hsq⟩
    refine ⟨_, rfl, ?_⟩
    have hs3 := hw3.size
    have hw03 := hw02.trans (hw3.mono (by omega))
    repeat first|(with_reducible first|apply wc_seq|apply wc_region|apply wl_nil|apply qk_thn|apply wc_block|apply wc_skip|apply wc_ret|apply wc_exit|apply qk_thn_ret|apply qk_in_ret|apply qk_in|apply qk_thn_exit|apply qk_in_exit|apply qk_round_ret|apply qk_round_exit)|((with_reducible apply ws);exact rfl;exact rfl)|((with_reducible apply wl_yes);exact rfl;exact rfl;exact rfl)|((with_reducible apply wl_no);exact rfl;exact rfl;exact rfl;exact rfl)|((with_reducible apply wl_noU);exact rfl;exact rfl;exact rfl)
    refine wl_conv .i64 rfl ti_u8 ti_i64 rfl (r := (n : Int)) (by rw [IntKind.wrap_i64]; omega) ?_
    refine wl_rem rfl rfl rfl (by omega) (by omega) (r := 0) (by omega) ?_
    refine wl_alloc zv_msg rfl rfl (fun w4 hb4 hg4 hs4 => ?_)
    obtain ⟨fa, fc, rfl, _⟩ := hsq.shape
    refine wl_storeBAgg (vs := [.slice fa (m.fields.map fldD).length fc, .int .i64 m.flex]) rfl rfl rfl tz_msg rfl hb4 rfl (fun w5 hb5 hg5 hs5 => ?_)
    have hw35 : Below w3.heap.size w3 w5 := (below_of hg4 (Nat.le_refl _) (by simp)).trans (below_of hg5 (by omega) (by intro q hq; simp at hq; omega))
    have hw05 := hw03.trans (hw35.mono (by omega))
    have hsq5 := hsq.below hw35 (Nat.le_refl _)
    have ht5 := ht.below (hw05.mono hB) (Nat.le_refl _)
    have hb15 : Box w5 w.heap.size [.int .i64 t.n, sv2, .bool t.nul, lv, uv] 26 := ((hb1.below hw2 hb1.lt).below hw3 (by omega)).below hw35 (by omega)
    have hs35 := hw35.size
    repeat first|(with_reducible first|apply wc_seq|apply wc_region|apply wl_nil|apply qk_thn|apply wc_block|apply wc_skip|apply wc_ret|apply wc_exit|apply qk_thn_ret|apply qk_in_ret|apply qk_in|apply qk_thn_exit|apply qk_in_exit|apply qk_round_ret|apply qk_round_exit)|((with_reducible apply ws);exact rfl;exact rfl)|((with_reducible apply wl_yes);exact rfl;exact rfl;exact rfl)|((with_reducible apply wl_no);exact rfl;exact rfl;exact rfl;exact rfl)|((with_reducible apply wl_noU);exact rfl;exact rfl;exact rfl)
    have hbt : ∀ w', Below w5.heap.size w5 w' → Box w' w.heap.size [.int .i64 t.n, sv2, .bool t.nul, lv, uv] 26 := fun w' h => hb15.below h hb15.lt
    have hbm : ∀ w', Below w5.heap.size w5 w' → Box w' w3.heap.size [.slice fa (m.fields.map fldD).length fc, .int .i64 m.flex] 30 := fun w' h => hb5.below h hb5.lt
    have hfl : m.fields.length ≤ 1000 := by decide
    refine wc_par [(0, .int .i64 0), (1, .pointer (some ⟨w3.heap.size, 0 + 0, none⟩)), (2, .slice fa (m.fields.map fldD).length fc), (3, .int .i64 0), (4, .agg ([.int .i64 t.n, sv2, .bool t.nul, lv, uv] : List Value).toArray), (8, .agg ([.slice fa (m.fields.map fldD).length fc, .int .i64 m.flex] : List Value).toArray), (9, .int .i64 0), (10, .agg ([.int .i64 t.n, sv2, .bool t.nul, lv, uv] : List Value).toArray)] [13, 12, 11, 7, 6, 5]
      (fun vals w' => Below w5.heap.size w5 w' ∧ match vals with
        | [] => True
        | [v] => ∃ cs : List Value, v = .agg cs.toArray ∧ Rep (Lo w'.heap.size) w' (treeD (fitP 0 m.fields t)) cs
        | [v, _] => ∃ cs : List Value, v = .agg cs.toArray ∧ Rep (Lo w'.heap.size) w' (treeD (fitP 0 m.fields t)) cs
        | [v, _, _] => Own w' w5.heap.size 5 v (be 2 0 ++ be 2 (att t 0).n)
        | [v, v7, _, _] => Own w' w5.heap.size 5 v7 (be 2 0 ++ be 2 (att t 0).n) ∧ Own w' w5.heap.size 5 v (be 2 0 ++ be 2 (att t 0).n)
        | v :: _ => v = .bool true)
      mixed rfl rfl rfl rfl rfl (by show ([0,1,2,3,4,8,9,10] : List Nat).Nodup; decide) rfl rfl (by decide) rfl rfl rfl rfl ⟨(Below.refl _ w5).drew, trivial⟩ ?_ ⟨?_, ?_, ?_, ?_, ?_, ?_, trivial⟩ ?_
    · intro p hp vals w' hC a k
      simp only [List.mem_cons, List.not_mem_nil, or_false] at hp
      rcases hp with rfl | rfl | rfl | rfl | rfl | rfl | rfl | rfl
      · exact gv rfl rfl (rn_move k rfl)
      · exact gv rfl rfl (rn_fieldAddr k rfl fo_msg0)
      · exact gv rfl rfl (rn_load k rfl to_flds ((hbm _ hC.1).cell0 (i := 0) rfl))
      · exact gv rfl rfl (rn_move k rfl)
      · exact gv rfl rfl (rn_loadBAgg k rfl ta_tree (hbt _ hC.1))
      · exact gv rfl rfl (rn_loadBAgg k rfl ta_msg (hbm _ hC.1))
      · exact gv rfl rfl (rn_move k rfl)
      · exact gv rfl rfl (rn_loadBAgg k rfl ta_tree (hbt _ hC.1))
    · rintro vals w' hvl ⟨hb', hC⟩ a k
      match vals, hvl with
      | [v12, v11, v7, v6, v5], _ => exact ⟨_, rfl, does_assign k rfl ⟨hb', hC⟩⟩
    · rintro vals w' hvl ⟨hb', hC⟩ a k
      match vals, hvl with
      | [v11, v7, v6, v5], _ =>
        obtain ⟨ho7, ho11⟩ := hC
        refine ⟨_, rfl, does_call k rfl (by kernel_rfl) ((fn_same _ _ _ _ w' ho7.bytes ho11.bytes (by simp [be_length, lim]) (by simp [be_length, lim])).mono ?_)⟩
        rintro e w'' ⟨v, rfl, hb'', rfl⟩
        exact ⟨_, rfl, hb'.trans (hb''.mono hb'.size), by simp⟩
    · rintro vals w' hvl ⟨hb', hC⟩ a k
      match vals, hvl with
      | [v7, v6, v5], _ =>
        simp only [] at hC
        have hs' := hb'.size
        refine ⟨_, rfl, does_call k rfl (by kernel_rfl) ((fn_kept m m_ok 0 t w3.heap.size w' _ _ hok (by omega) (hsq5.below (hb'.mono hs35) (Nat.le_refl _)) ((ht5.below (hb'.mono (by omega)) (Nat.le_refl _)).below (Below.refl _ _) (by omega)) (by rw [write_eq]; simp [be_length, lim])).mono ?_)⟩
        rintro e w'' ⟨v, rfl, hb'', ho⟩
        rw [write_eq] at ho
        exact ⟨v, rfl, hb'.trans (hb''.mono hs'), Own.below hC hb'', ho.mono hs'⟩
    · rintro vals w' hvl ⟨hb', hC⟩ a k
      match vals, hvl with
      | [v6, v5], _ =>
        obtain ⟨cs, rfl, hr⟩ := hC
        have hs' := hb'.size
        refine ⟨_, rfl, does_call k rfl (by kernel_rfl) ((fn_make 0 (fitP 0 m.fields t) w'.heap.size w' cs (Nat.le_refl _) hr).mono ?_)⟩
        rintro e w'' ⟨v, rfl, _, _, ho, hb''⟩
        rw [be2_wrap, be2_wrap, fit_eq] at ho
        exact ⟨v, rfl, hb'.trans (hb''.mono hs'), ho.mono hs'⟩
    · rintro vals w' hvl ⟨hb', hC⟩ a k
      match vals, hvl with
      | [v5], _ =>
        obtain ⟨cs, rfl, hr⟩ := hC
        refine ⟨_, rfl, does_call k rfl (by kernel_rfl) ((Impl.given_ok (fitP 0 m.fields t) w'.heap.size w' cs (ok_fit t hok).1 (ok_fit t hok).2 (Nat.le_refl _) hr).mono ?_)⟩
        rintro e w'' ⟨v, rfl, hb'', cs', rfl, hr'⟩
        exact ⟨_, rfl, hb'.trans (hb''.mono hb'.size), cs', rfl, hr'.up (fun r h => h.2) (fun _ _ => rfl)⟩
    · rintro vals w' hvl ⟨hb', hC⟩ a k
      match vals, hvl with
      | [], _ =>
        have hs' := hb'.size
        refine ⟨_, rfl, does_call k rfl (by kernel_rfl) ((fit_ok m.fields m_ok 0 t w3.heap.size w' _ _ hok (by omega) (hsq5.below (hb'.mono hs35) (Nat.le_refl _)) ((ht5.below (hb'.mono (by omega)) (Nat.le_refl _)).below (Below.refl _ _) (by omega))).mono ?_)⟩
        rintro e w'' ⟨v, rfl, hb'', cs', rfl, hr'⟩
        exact ⟨_, rfl, hb'.trans (hb''.mono hs'), cs', rfl, hr'.up (fun r h => h.2) (fun _ _ => rfl)⟩
    · rintro vals w' hvl ⟨hb', hC⟩
      match vals, hvl with
      | [v13, v12, v11, v7, v6, v5], _ =>
        simp only [] at hC
        subst hC
        refine qk_thn ?_
        repeat first|(with_reducible first|apply wc_seq|apply wc_region|apply wl_nil|apply qk_thn|apply wc_block|apply wc_skip|apply wc_ret|apply wc_exit|apply qk_thn_ret|apply qk_in_ret|apply qk_in|apply qk_thn_exit|apply qk_in_exit|apply qk_round_ret|apply qk_round_exit)|((with_reducible apply ws);exact rfl;exact rfl)|((with_reducible apply wl_yes);exact rfl;exact rfl;exact rfl)|((with_reducible apply wl_no);exact rfl;exact rfl;exact rfl;exact rfl)|((with_reducible apply wl_noU);exact rfl;exact rfl;exact rfl)
        exact qk_ret1 rfl rfl ⟨_, rfl, hw05.trans (hb'.mono hw05.size), rfl⟩
end
end Go.Proofs.Ytaoecdeljfdmeaa.Crk
