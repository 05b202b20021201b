/- What a field says as far as it can be set: the reference's own walk; and all of it together. -/
import Derived.Test.YtaoecdeljfdmeaaFitA
namespace Go.Proofs.Ytaoecdeljfdmeaa
open Go Go.RowKit

/-- The field as its list's one thing is set. -/
def Fld.one : Fld → Fld | .mk _ fr upto _ _ df of sub => .mk of fr upto (-1) (-1) df of sub
theorem one_fit (f : Fld) (ver : Int) (x : Tree) (h : f.of ≠ 11) : fitF ver f.one x = fitVal f.of false (fitP ver f.sub) x := by
  have hk : f.one.kind = f.of := by cases f; rfl
  have hs : f.one.sub = f.sub := by cases f; rfl
  have hn : f.one.null ver x = false := by cases f; simp [Fld.one, Fld.null, Fld.nul]
  rw [fitF_eq, if_neg (by rw [hk]; exact h), hk, hs, hn]
theorem one_rep {ok : Nat → Prop} {w : World} {f : Fld} {sv : Value} (h : Rep ok w (.sq (f.sub.map fldD)) [sv]) :
    Rep ok w (fldD f.one) [.int .i64 f.of, .int .i64 f.fr, .int .i64 f.upto, .int .i64 (-1), .int .i64 (-1), .int .i64 f.df, .int .i64 f.of, sv] := by
  cases f with
  | mk kind fr upto nul tag df of sub =>
    simp only [Rep, Fld.sub] at h
    simp only [Fld.one, fldD, Rep, Reps, fldDs_map, Fld.fr, Fld.upto, Fld.df, Fld.of]
    exact ⟨[_], _, rfl, rfl, [_], _, rfl, rfl, [_], _, rfl, rfl, [_], _, rfl, rfl, [_], _, rfl, rfl, [_], _, rfl, rfl, [_], _, rfl, rfl, [_], _, rfl, h, rfl⟩
theorem fitVal_text {k : Int} (h : k = 8 ∨ k = 9) (null : Bool) (p : Tree → Tree) (t : Tree) : fitVal k null p t = .mk 0 (whole t.s) null [] [] := by simp only [fitVal, if_pos h]

section
set_option maxRecDepth 100000
theorem fitted_of (f : Fld) (hp : FitOK f.sub) (hone : f.kind = 11 → FittedOK f.one) (hof : f.of ≠ 11) : FittedOK f := by
  intro ver t B w cs ts hok hB hf ht
  obtain ⟨sv, rfl, hsub⟩ := fld_cells hf
  obtain ⟨sv2, lv, uv, rfl, hs, hl, hu⟩ := tree_cells ht
  obtain ⟨la, lc, rfl, _⟩ := hl.shape
  obtain ⟨sa, sc, rfl, _⟩ := hs.shape
  rw [fitF_eq]
  refine enter Try.func24 rfl Try.ntmps24 rfl ?_
  repeat first|(with_reducible first|apply wc_seq|apply wc_region|apply wl_nil|apply qk_thn|apply wc_block|apply wc_skip|apply wc_ret|apply wc_exit|apply qk_thn_ret|apply qk_in_ret|apply qk_in|apply qk_thn_exit|apply qk_in_exit|apply qk_round_ret|apply qk_round_exit)|((with_reducible apply ws);exact rfl;exact rfl)|((with_reducible apply wl_yes);exact rfl;exact rfl;exact rfl)|((with_reducible apply wl_no);exact rfl;exact rfl;exact rfl;exact rfl)|((with_reducible apply wl_noU);exact rfl;exact rfl;exact rfl)
  refine wl_box1 rfl rfl rfl (fun w1 hb1 hg1 hs1 => wl_box1 rfl rfl rfl (fun w2 hb2 hg2 hs2 => wl_alloc zv_tree rfl rfl (fun w3 hb3 hg3 hs3 => ?_)))
  have hbf3 : Box w3 w.heap.size [.int .i64 f.kind, .int .i64 f.fr, .int .i64 f.upto, .int .i64 f.nul, .int .i64 f.tag, .int .i64 f.df, .int .i64 f.of, sv] 46 := (hb1.kept hg2 (by simp)).kept hg3 (by simp)
  have hbt3 : Box w3 w1.heap.size [.int .i64 t.n, .slice sa (t.s.map byteD).length sc, .bool t.nul, .slice la (t.l.map treeD).length lc, uv] 26 := hb2.kept hg3 (by simp)
  have hw3 : Below w.heap.size w w3 := ((below_of hg1 (Nat.le_refl _) (by simp)).trans (below_of hg2 (by omega) (by simp))).trans (below_of hg3 (by omega) (by simp))
  have hB3 : B ≤ w3.heap.size := by omega
  repeat first|(with_reducible first|apply wc_seq|apply wc_region|apply wl_nil|apply qk_thn|apply wc_block|apply wc_skip|apply wc_ret|apply wc_exit|apply qk_thn_ret|apply qk_in_ret|apply qk_in|apply qk_thn_exit|apply qk_in_exit|apply qk_round_ret|apply qk_round_exit)|((with_reducible apply ws);exact rfl;exact rfl)|((with_reducible apply wl_yes);exact rfl;exact rfl;exact rfl)|((with_reducible apply wl_no);exact rfl;exact rfl;exact rfl;exact rfl)|((with_reducible apply wl_noU);exact rfl;exact rfl;exact rfl)
  refine wl_loadBAgg (cs := [.int .i64 f.kind, .int .i64 f.fr, .int .i64 f.upto, .int .i64 f.nul, .int .i64 f.tag, .int .i64 f.df, .int .i64 f.of, sv]) rfl ta_fld rfl hbf3 ?_
  repeat first|(with_reducible first|apply wc_seq|apply wc_region|apply wl_nil|apply qk_thn|apply wc_block|apply wc_skip|apply wc_ret|apply wc_exit|apply qk_thn_ret|apply qk_in_ret|apply qk_in|apply qk_thn_exit|apply qk_in_exit|apply qk_round_ret|apply qk_round_exit)|((with_reducible apply ws);exact rfl;exact rfl)|((with_reducible apply wl_yes);exact rfl;exact rfl;exact rfl)|((with_reducible apply wl_no);exact rfl;exact rfl;exact rfl;exact rfl)|((with_reducible apply wl_noU);exact rfl;exact rfl;exact rfl)
  refine wl_loadBAgg (cs := [.int .i64 t.n, .slice sa (t.s.map byteD).length sc, .bool t.nul, .slice la (t.l.map treeD).length lc, uv]) rfl ta_tree rfl hbt3 ?_
  refine wl_call rfl (by kernel_rfl) rfl ((fn_null f ver t B w3 hB3 _ _ (hf.below (hw3.mono hB) (Nat.le_refl _)) (ht.below (hw3.mono hB) (Nat.le_refl _))).mono ?_)
  rintro e w4 ⟨v, rfl, hw34, rfl⟩
  refine ⟨_, rfl, ?_⟩
  have hs34 := hw34.size
  have hB4 : B ≤ w4.heap.size := by omega
  have hw4 : Below w.heap.size w w4 := hw3.trans (hw34.mono (by omega))
  have hbf4 := hbf3.below hw34 hbf3.lt
  have hbt4 := hbt3.below hw34 hbt3.lt
  have hbr4 := hb3.below hw34 hb3.lt
  have hsub4 := hsub.below (hw4.mono hB) (Nat.le_refl _)
  have hs4 := hs.below (hw4.mono hB) (Nat.le_refl _)
  have hl4 := hl.below (hw4.mono hB) (Nat.le_refl _)
  repeat first|(with_reducible first|apply wc_seq|apply wc_region|apply wl_nil|apply qk_thn|apply wc_block|apply wc_skip|apply wc_ret|apply wc_exit|apply qk_thn_ret|apply qk_in_ret|apply qk_in|apply qk_thn_exit|apply qk_in_exit|apply qk_round_ret|apply qk_round_exit)|((with_reducible apply ws);exact rfl;exact rfl)|((with_reducible apply wl_yes);exact rfl;exact rfl;exact rfl)|((with_reducible apply wl_no);exact rfl;exact rfl;exact rfl;exact rfl)|((with_reducible apply wl_noU);exact rfl;exact rfl;exact rfl)
  refine wl_loadB rfl to_int rfl hbf4 rfl ?_
  repeat first|(with_reducible first|apply wc_seq|apply wc_region|apply wl_nil|apply qk_thn|apply wc_block|apply wc_skip|apply wc_ret|apply wc_exit|apply qk_thn_ret|apply qk_in_ret|apply qk_in|apply qk_thn_exit|apply qk_in_exit|apply qk_round_ret|apply qk_round_exit)|((with_reducible apply ws);exact rfl;exact rfl)|((with_reducible apply wl_yes);exact rfl;exact rfl;exact rfl)|((with_reducible apply wl_no);exact rfl;exact rfl;exact rfl;exact rfl)|((with_reducible apply wl_noU);exact rfl;exact rfl;exact rfl)
  by_cases h89 : f.kind = 8 ∨ f.kind = 9
  · have h11 : f.kind ≠ 11 := by rcases h89 with h | h <;> omega
    rw [if_neg h11, fitVal_text h89]
    refine wc_cutT (α := Unit) (fun _ => [(19, .bool true), (7, .bool (f.null ver t)), (6, .pointer (some ⟨w2.heap.size, 0, none⟩)), (5, .pointer (some ⟨w1.heap.size, 0, none⟩))]) (fun _ w' => w' = w4) ?_ ?_
    · by_cases h8 : f.kind = 8
      · refine wc_yes rfl (by simpa using h8) ?_
        repeat first|(with_reducible first|apply wc_seq|apply wc_region|apply wl_nil|apply qk_thn|apply wc_block|apply wc_skip|apply wc_ret|apply wc_exit|apply qk_thn_ret|apply qk_in_ret|apply qk_in|apply qk_thn_exit|apply qk_in_exit|apply qk_round_ret|apply qk_round_exit)|((with_reducible apply ws);exact rfl;exact rfl)|((with_reducible apply wl_yes);exact rfl;exact rfl;exact rfl)|((with_reducible apply wl_no);exact rfl;exact rfl;exact rfl;exact rfl)|((with_reducible apply wl_noU);exact rfl;exact rfl;exact rfl)
        refine qk_cut () ⟨by rw [h8]; rfl, rfl, rfl, rfl, trivial⟩ rfl
      · have h9 : f.kind = 9 := by rcases h89 with h | h; exact absurd h h8; exact h
        refine wc_no rfl (by simpa using h8) ?_
        repeat first|(with_reducible first|apply wc_seq|apply wc_region|apply wl_nil|apply qk_thn|apply wc_block|apply wc_skip|apply wc_ret|apply wc_exit|apply qk_thn_ret|apply qk_in_ret|apply qk_in|apply qk_thn_exit|apply qk_in_exit|apply qk_round_ret|apply qk_round_exit)|((with_reducible apply ws);exact rfl;exact rfl)|((with_reducible apply wl_yes);exact rfl;exact rfl;exact rfl)|((with_reducible apply wl_no);exact rfl;exact rfl;exact rfl;exact rfl)|((with_reducible apply wl_noU);exact rfl;exact rfl;exact rfl)
        refine qk_cut () ⟨by rw [h9]; rfl, rfl, rfl, rfl, trivial⟩ rfl
    rintro _ w5 h5
    obtain rfl := h5.symm
    refine wc_yes rfl rfl ?_
    repeat first|(with_reducible first|apply wc_seq|apply wc_region|apply wl_nil|apply qk_thn|apply wc_block|apply wc_skip|apply wc_ret|apply wc_exit|apply qk_thn_ret|apply qk_in_ret|apply qk_in|apply qk_thn_exit|apply qk_in_exit|apply qk_round_ret|apply qk_round_exit)|((with_reducible apply ws);exact rfl;exact rfl)|((with_reducible apply wl_yes);exact rfl;exact rfl;exact rfl)|((with_reducible apply wl_no);exact rfl;exact rfl;exact rfl;exact rfl)|((with_reducible apply wl_noU);exact rfl;exact rfl;exact rfl)
    refine wl_loadB rfl to_bytes rfl hbt4 rfl ?_
    refine wl_call rfl (by kernel_rfl) rfl ((fn_whole _ _ _ _ hs4).mono ?_)
    rintro e w6 ⟨v, rfl, _, h6, hsq⟩
    obtain rfl := h6.symm
    refine ⟨v, rfl, ?_⟩
    rw [whole_map] at hsq
    obtain ⟨a3, c3, rfl, _⟩ := hsq.shape
    repeat first|(with_reducible first|apply wc_seq|apply wc_region|apply wl_nil|apply qk_thn|apply wc_block|apply wc_skip|apply wc_ret|apply wc_exit|apply qk_thn_ret|apply qk_in_ret|apply qk_in|apply qk_thn_exit|apply qk_in_exit|apply qk_round_ret|apply qk_round_exit)|((with_reducible apply ws);exact rfl;exact rfl)|((with_reducible apply wl_yes);exact rfl;exact rfl;exact rfl)|((with_reducible apply wl_no);exact rfl;exact rfl;exact rfl;exact rfl)|((with_reducible apply wl_noU);exact rfl;exact rfl;exact rfl)
    refine wl_build rfl (cs := [.int .i64 0, .slice a3 ((whole t.s).map byteD).length c3, .bool (f.null ver t), .slice none 0 0, .slice none 0 0]) (by kernel_rfl) rfl ?_
    refine wl_storeBAgg (vs := [.int .i64 0, .slice a3 ((whole t.s).map byteD).length c3, .bool (f.null ver t), .slice none 0 0, .slice none 0 0]) rfl rfl rfl tz_tree rfl hbr4 rfl (fun w7 hbr7 hg7 hs7 => ?_)
    repeat first|(with_reducible first|apply wc_seq|apply wc_region|apply wl_nil|apply qk_thn|apply wc_block|apply wc_skip|apply wc_ret|apply wc_exit|apply qk_thn_ret|apply qk_in_ret|apply qk_in|apply qk_thn_exit|apply qk_in_exit|apply qk_round_ret|apply qk_round_exit)|((with_reducible apply ws);exact rfl;exact rfl)|((with_reducible apply wl_yes);exact rfl;exact rfl;exact rfl)|((with_reducible apply wl_no);exact rfl;exact rfl;exact rfl;exact rfl)|((with_reducible apply wl_noU);exact rfl;exact rfl;exact rfl)
    refine qk_retCell (cs := [.int .i64 0, .slice a3 ((whole t.s).map byteD).length c3, .bool (f.null ver t), .slice none 0 0, .slice none 0 0]) rfl rfl ta_tree hbr7 ⟨_, rfl, hw4.trans (below_of hg7 (by omega) (by intro q hq; simp at hq; omega)), _, rfl, ?_⟩
    refine rep_tree ?_ (rep_nil _ _) (rep_nil _ _)
    exact (hsq.below (below_of hg7 (by omega) (by intro q hq; simp at hq; omega)) (Nat.le_refl _)).up (fun r hr => ⟨.inl hr, by simp only [Lo] at hr; omega⟩) (fun _ _ => rfl)
  · have h8 : f.kind ≠ 8 := fun h => h89 (.inl h)
    have h9 : f.kind ≠ 9 := fun h => h89 (.inr h)
    refine wc_cutT (α := Unit) (fun _ => [(19, .bool false), (18, .int .i64 f.kind), (7, .bool (f.null ver t)), (6, .pointer (some ⟨w2.heap.size, 0, none⟩)), (5, .pointer (some ⟨w1.heap.size, 0, none⟩)), (3, .pointer (some ⟨w.heap.size, 0, none⟩)), (1, .int .i64 ver)]) (fun _ w' => w' = w4) ?_ ?_
    · refine wc_no rfl (by simpa using h8) ?_
      repeat first|(with_reducible first|apply wc_seq|apply wc_region|apply wl_nil|apply qk_thn|apply wc_block|apply wc_skip|apply wc_ret|apply wc_exit|apply qk_thn_ret|apply qk_in_ret|apply qk_in|apply qk_thn_exit|apply qk_in_exit|apply qk_round_ret|apply qk_round_exit)|((with_reducible apply ws);exact rfl;exact rfl)|((with_reducible apply wl_yes);exact rfl;exact rfl;exact rfl)|((with_reducible apply wl_no);exact rfl;exact rfl;exact rfl;exact rfl)|((with_reducible apply wl_noU);exact rfl;exact rfl;exact rfl)
      refine qk_cut () ⟨?_, rfl, rfl, rfl, rfl, rfl, rfl, trivial⟩ rfl
      show some (Value.bool (f.kind == 9)) = some (Value.bool false)
      rw [show (f.kind == 9) = false from by simpa using h9]
    rintro _ w5 h5
    obtain rfl := h5.symm
    refine wc_no rfl rfl ?_
    repeat first|(with_reducible first|apply wc_seq|apply wc_region|apply wl_nil|apply qk_thn|apply wc_block|apply wc_skip|apply wc_ret|apply wc_exit|apply qk_thn_ret|apply qk_in_ret|apply qk_in|apply qk_thn_exit|apply qk_in_exit|apply qk_round_ret|apply qk_round_exit)|((with_reducible apply ws);exact rfl;exact rfl)|((with_reducible apply wl_yes);exact rfl;exact rfl;exact rfl)|((with_reducible apply wl_no);exact rfl;exact rfl;exact rfl;exact rfl)|((with_reducible apply wl_noU);exact rfl;exact rfl;exact rfl)
    by_cases h10 : f.kind = 10
    · have e10 : fitVal f.kind (f.null ver t) (fitP ver f.sub) t = (fitP ver f.sub t).withNull (f.null ver t) := by simp [fitVal, h10]
      rw [if_neg (by omega), e10]
      refine wc_yes rfl (by simpa using h10) ?_
      repeat first|(with_reducible first|apply wc_seq|apply wc_region|apply wl_nil|apply qk_thn|apply wc_block|apply wc_skip|apply wc_ret|apply wc_exit|apply qk_thn_ret|apply qk_in_ret|apply qk_in|apply qk_thn_exit|apply qk_in_exit|apply qk_round_ret|apply qk_round_exit)|((with_reducible apply ws);exact rfl;exact rfl)|((with_reducible apply wl_yes);exact rfl;exact rfl;exact rfl)|((with_reducible apply wl_no);exact rfl;exact rfl;exact rfl;exact rfl)|((with_reducible apply wl_noU);exact rfl;exact rfl;exact rfl)
      refine wl_loadB rfl to_flds rfl hbf4 rfl ?_
      repeat first|(with_reducible first|apply wc_seq|apply wc_region|apply wl_nil|apply qk_thn|apply wc_block|apply wc_skip|apply wc_ret|apply wc_exit|apply qk_thn_ret|apply qk_in_ret|apply qk_in|apply qk_thn_exit|apply qk_in_exit|apply qk_round_ret|apply qk_round_exit)|((with_reducible apply ws);exact rfl;exact rfl)|((with_reducible apply wl_yes);exact rfl;exact rfl;exact rfl)|((with_reducible apply wl_no);exact rfl;exact rfl;exact rfl;exact rfl)|((with_reducible apply wl_noU);exact rfl;exact rfl;exact rfl)
      refine wl_loadBAgg (cs := [.int .i64 t.n, .slice sa (t.s.map byteD).length sc, .bool t.nul, .slice la (t.l.map treeD).length lc, uv]) rfl ta_tree rfl hbt4 ?_
      refine wl_call rfl (by kernel_rfl) rfl ((hp ver t B w4 _ _ hok hB4 hsub4 (ht.below (hw4.mono hB) (Nat.le_refl _))).mono ?_)
      rintro e w6 ⟨v, rfl, hw46, cs6, rfl, hrep⟩
      refine ⟨_, rfl, ?_⟩
      have hs46 := hw46.size
      obtain ⟨s6, l6, u6, rfl, hr1, hr2, hr3⟩ := tree_out hrep
      obtain ⟨a1, c1, rfl⟩ := sq_one hr1
      obtain ⟨a2, c2, rfl⟩ := sq_one hr2
      obtain ⟨a3, c3, rfl⟩ := sq_one hr3
      have hbr6 := hbr4.below hw46 hbr4.lt
      refine wl_alloc zv_tree rfl rfl (fun w7 hb7 hg7 hs7 => ?_)
      refine wl_storeBAgg rfl rfl rfl tz_tree rfl hb7 rfl (fun w8 hb8 hg8 hs8 => ?_)
      repeat first|(with_reducible first|apply wc_seq|apply wc_region|apply wl_nil|apply qk_thn|apply wc_block|apply wc_skip|apply wc_ret|apply wc_exit|apply qk_thn_ret|apply qk_in_ret|apply qk_in|apply qk_thn_exit|apply qk_in_exit|apply qk_round_ret|apply qk_round_exit)|((with_reducible apply ws);exact rfl;exact rfl)|((with_reducible apply wl_yes);exact rfl;exact rfl;exact rfl)|((with_reducible apply wl_no);exact rfl;exact rfl;exact rfl;exact rfl)|((with_reducible apply wl_noU);exact rfl;exact rfl;exact rfl)
      refine wl_storeB rfl rfl to_bool rfl hb8 rfl (fun w9 hb9 hg9 hs9 => ?_)
      repeat first|(with_reducible first|apply wc_seq|apply wc_region|apply wl_nil|apply qk_thn|apply wc_block|apply wc_skip|apply wc_ret|apply wc_exit|apply qk_thn_ret|apply qk_in_ret|apply qk_in|apply qk_thn_exit|apply qk_in_exit|apply qk_round_ret|apply qk_round_exit)|((with_reducible apply ws);exact rfl;exact rfl)|((with_reducible apply wl_yes);exact rfl;exact rfl;exact rfl)|((with_reducible apply wl_no);exact rfl;exact rfl;exact rfl;exact rfl)|((with_reducible apply wl_noU);exact rfl;exact rfl;exact rfl)
      refine wl_loadBAgg (cs := [.int .i64 (fitP ver f.sub t).n, .slice a1 ((fitP ver f.sub t).s.map byteD).length c1, .bool (f.null ver t), .slice a2 ((fitP ver f.sub t).l.map treeD).length c2, .slice a3 ((fitP ver f.sub t).u.map tagD).length c3]) rfl ta_tree rfl hb9 ?_
      have hbr9 := ((hbr6.kept hg7 (by simp)).kept hg8 (by simp; omega)).kept hg9 (by simp; omega)
      refine wl_storeBAgg rfl rfl rfl tz_tree rfl hbr9 rfl (fun w10 hb10 hg10 hs10 => ?_)
      repeat first|(with_reducible first|apply wc_seq|apply wc_region|apply wl_nil|apply qk_thn|apply wc_block|apply wc_skip|apply wc_ret|apply wc_exit|apply qk_thn_ret|apply qk_in_ret|apply qk_in|apply qk_thn_exit|apply qk_in_exit|apply qk_round_ret|apply qk_round_exit)|((with_reducible apply ws);exact rfl;exact rfl)|((with_reducible apply wl_yes);exact rfl;exact rfl;exact rfl)|((with_reducible apply wl_no);exact rfl;exact rfl;exact rfl;exact rfl)|((with_reducible apply wl_noU);exact rfl;exact rfl;exact rfl)
      have hw69 : Below w6.heap.size w6 w9 := ((below_of hg7 (Nat.le_refl _) (by simp)).trans (below_of hg8 (by omega) (by intro q hq; simp at hq; omega))).trans (below_of hg9 (by omega) (by intro q hq; simp at hq; omega))
      refine qk_retCell (cs := [.int .i64 (fitP ver f.sub t).n, .slice a1 ((fitP ver f.sub t).s.map byteD).length c1, .bool (f.null ver t), .slice a2 ((fitP ver f.sub t).l.map treeD).length c2, .slice a3 ((fitP ver f.sub t).u.map tagD).length c3]) rfl rfl ta_tree hb10 ⟨_, rfl, ((hw4.trans (hw46.mono (by omega))).trans (hw69.mono (by omega))).trans (below_of hg10 (by omega) (by intro q hq; simp at hq; omega)), _, rfl, ?_⟩
      have hblk : ∀ r, In B w4.heap.size w6 r → w10.heap[r]? = w6.heap[r]? := fun r hr => by
        have hne : r ≠ w2.heap.size := by rcases hr.1 with h | h <;> omega
        rw [hg10.block r (by have := hr.2; omega) (by simp; omega), hw69.block r hr.2]
      have hin : ∀ r, In B w4.heap.size w6 r → In B w.heap.size w10 r := In.up (by omega) (by omega)
      have e1 : (fitP ver f.sub t).withNull (f.null ver t) = .mk (fitP ver f.sub t).n (fitP ver f.sub t).s (f.null ver t) (fitP ver f.sub t).l (fitP ver f.sub t).u := by cases fitP ver f.sub t; rfl
      rw [e1]
      exact rep_tree (hr1.up hin hblk) (hr2.up hin hblk) (hr3.up hin hblk)
    · refine wc_no rfl (by simpa using h10) ?_
      repeat first|(with_reducible first|apply wc_seq|apply wc_region|apply wl_nil|apply qk_thn|apply wc_block|apply wc_skip|apply wc_ret|apply wc_exit|apply qk_thn_ret|apply qk_in_ret|apply qk_in|apply qk_thn_exit|apply qk_in_exit|apply qk_round_ret|apply qk_round_exit)|((with_reducible apply ws);exact rfl;exact rfl)|((with_reducible apply wl_yes);exact rfl;exact rfl;exact rfl)|((with_reducible apply wl_no);exact rfl;exact rfl;exact rfl;exact rfl)|((with_reducible apply wl_noU);exact rfl;exact rfl;exact rfl)
      by_cases h11 : f.kind = 11
      · refine wc_yes rfl (by simpa using h11) ?_
        rw [if_pos h11]
        have hone' := hone h11
        generalize hq : (f.null ver t || (decide (0 ≤ f.tag) && t.l.isEmpty)) = q
        refine wc_cut (α := Unit) (fun _ => [(9, .pointer (some ⟨w4.heap.size, 0, none⟩)), (7, .bool (f.null ver t)), (6, .pointer (some ⟨w2.heap.size, 0, none⟩)), (5, .pointer (some ⟨w1.heap.size, 0, none⟩)), (3, .pointer (some ⟨w.heap.size, 0, none⟩)), (1, .int .i64 ver)]) (fun _ w' => Below w4.heap.size w4 w' ∧ w'.heap.size = w4.heap.size + 1 ∧ Box w' w4.heap.size [.int .i64 0, .slice none 0 0, .bool q, .slice none 0 0, .slice none 0 0] 26) ?_ ?_
        · refine wc_region ?_
          cases hn : f.null ver t
          · rw [hn, Bool.false_or] at hq
            repeat first|(with_reducible first|apply wc_seq|apply wc_region|apply wl_nil|apply qk_thn|apply wc_block|apply wc_skip|apply wc_ret|apply wc_exit|apply qk_thn_ret|apply qk_in_ret|apply qk_in|apply qk_thn_exit|apply qk_in_exit|apply qk_round_ret|apply qk_round_exit)|((with_reducible apply ws);exact rfl;exact rfl)|((with_reducible apply wl_yes);exact rfl;exact rfl;exact rfl)|((with_reducible apply wl_no);exact rfl;exact rfl;exact rfl;exact rfl)|((with_reducible apply wl_noU);exact rfl;exact rfl;exact rfl)
            refine wl_loadB rfl to_int rfl hbf4 rfl ?_
            repeat first|(with_reducible first|apply wc_seq|apply wc_region|apply wl_nil|apply qk_thn|apply wc_block|apply wc_skip|apply wc_ret|apply wc_exit|apply qk_thn_ret|apply qk_in_ret|apply qk_in|apply qk_thn_exit|apply qk_in_exit|apply qk_round_ret|apply qk_round_exit)|((with_reducible apply ws);exact rfl;exact rfl)|((with_reducible apply wl_yes);exact rfl;exact rfl;exact rfl)|((with_reducible apply wl_no);exact rfl;exact rfl;exact rfl;exact rfl)|((with_reducible apply wl_noU);exact rfl;exact rfl;exact rfl)
            by_cases htg : 0 ≤ f.tag
            · have e1 : decide (0 ≤ f.tag) = true := by simpa using htg
              rw [e1]
              rw [e1, Bool.true_and] at hq
              repeat first|(with_reducible first|apply wc_seq|apply wc_region|apply wl_nil|apply qk_thn|apply wc_block|apply wc_skip|apply wc_ret|apply wc_exit|apply qk_thn_ret|apply qk_in_ret|apply qk_in|apply qk_thn_exit|apply qk_in_exit|apply qk_round_ret|apply qk_round_exit)|((with_reducible apply ws);exact rfl;exact rfl)|((with_reducible apply wl_yes);exact rfl;exact rfl;exact rfl)|((with_reducible apply wl_no);exact rfl;exact rfl;exact rfl;exact rfl)|((with_reducible apply wl_noU);exact rfl;exact rfl;exact rfl)
              refine wl_loadB rfl to_trees rfl hbt4 rfl ?_
              repeat first|(with_reducible first|apply wc_seq|apply wc_region|apply wl_nil|apply qk_thn|apply wc_block|apply wc_skip|apply wc_ret|apply wc_exit|apply qk_thn_ret|apply qk_in_ret|apply qk_in|apply qk_thn_exit|apply qk_in_exit|apply qk_round_ret|apply qk_round_exit)|((with_reducible apply ws);exact rfl;exact rfl)|((with_reducible apply wl_yes);exact rfl;exact rfl;exact rfl)|((with_reducible apply wl_no);exact rfl;exact rfl;exact rfl;exact rfl)|((with_reducible apply wl_noU);exact rfl;exact rfl;exact rfl)
              have e2 : (((t.l.map treeD).length : Int) == 0) = q := by
                rw [← hq]; cases t.l <;> simp
                omega
              rw [e2]
              refine wl_build rfl (cs := [.int .i64 0, .slice none 0 0, .bool q, .slice none 0 0, .slice none 0 0]) (by kernel_rfl) rfl ?_
              refine wl_alloc zv_tree rfl rfl (fun w6 hb6 hg6 hs6 => ?_)
              refine wl_storeBAgg (vs := [.int .i64 0, .slice none 0 0, .bool q, .slice none 0 0, .slice none 0 0]) rfl rfl rfl tz_tree rfl hb6 rfl (fun w7 hb7 hg7 hs7 => ?_)
              exact wl_nil (qk_cut () ⟨rfl, rfl, rfl, rfl, rfl, rfl, trivial⟩ ⟨(below_of hg6 (Nat.le_refl _) (by simp)).trans (below_of hg7 (by omega) (by intro q hq; simp at hq; omega)), by omega, hb7⟩)
            · have e1 : decide (0 ≤ f.tag) = false := by simpa using htg
              rw [e1]
              rw [e1, Bool.false_and] at hq
              subst hq
              repeat first|(with_reducible first|apply wc_seq|apply wc_region|apply wl_nil|apply qk_thn|apply wc_block|apply wc_skip|apply wc_ret|apply wc_exit|apply qk_thn_ret|apply qk_in_ret|apply qk_in|apply qk_thn_exit|apply qk_in_exit|apply qk_round_ret|apply qk_round_exit)|((with_reducible apply ws);exact rfl;exact rfl)|((with_reducible apply wl_yes);exact rfl;exact rfl;exact rfl)|((with_reducible apply wl_no);exact rfl;exact rfl;exact rfl;exact rfl)|((with_reducible apply wl_noU);exact rfl;exact rfl;exact rfl)
              refine wl_build rfl (cs := [.int .i64 0, .slice none 0 0, .bool false, .slice none 0 0, .slice none 0 0]) (by kernel_rfl) rfl ?_
              refine wl_alloc zv_tree rfl rfl (fun w6 hb6 hg6 hs6 => ?_)
              refine wl_storeBAgg (vs := [.int .i64 0, .slice none 0 0, .bool false, .slice none 0 0, .slice none 0 0]) rfl rfl rfl tz_tree rfl hb6 rfl (fun w7 hb7 hg7 hs7 => ?_)
              exact wl_nil (qk_cut () ⟨rfl, rfl, rfl, rfl, rfl, rfl, trivial⟩ ⟨(below_of hg6 (Nat.le_refl _) (by simp)).trans (below_of hg7 (by omega) (by intro q hq; simp at hq; omega)), by omega, hb7⟩)
          · rw [hn, Bool.true_or] at hq
            subst hq
            repeat first|(with_reducible first|apply wc_seq|apply wc_region|apply wl_nil|apply qk_thn|apply wc_block|apply wc_skip|apply wc_ret|apply wc_exit|apply qk_thn_ret|apply qk_in_ret|apply qk_in|apply qk_thn_exit|apply qk_in_exit|apply qk_round_ret|apply qk_round_exit)|((with_reducible apply ws);exact rfl;exact rfl)|((with_reducible apply wl_yes);exact rfl;exact rfl;exact rfl)|((with_reducible apply wl_no);exact rfl;exact rfl;exact rfl;exact rfl)|((with_reducible apply wl_noU);exact rfl;exact rfl;exact rfl)
            refine wl_build rfl (cs := [.int .i64 0, .slice none 0 0, .bool true, .slice none 0 0, .slice none 0 0]) (by kernel_rfl) rfl ?_
            refine wl_alloc zv_tree rfl rfl (fun w6 hb6 hg6 hs6 => ?_)
            refine wl_storeBAgg (vs := [.int .i64 0, .slice none 0 0, .bool true, .slice none 0 0, .slice none 0 0]) rfl rfl rfl tz_tree rfl hb6 rfl (fun w7 hb7 hg7 hs7 => ?_)
            exact wl_nil (qk_cut () ⟨rfl, rfl, rfl, rfl, rfl, rfl, trivial⟩ ⟨(below_of hg6 (Nat.le_refl _) (by simp)).trans (below_of hg7 (by omega) (by intro q hq; simp at hq; omega)), by omega, hb7⟩)
        rintro _ w5 ⟨hw45, hs45, hbq5⟩
        have hbf5 := hbf4.below hw45 hbf4.lt
        have hbt5 := hbt4.below hw45 hbt4.lt
        have hbr5 := hbr4.below hw45 hbr4.lt
        have hw5 : Below w.heap.size w w5 := hw4.trans (hw45.mono (by omega))
        obtain ⟨hfone, _⟩ := fld_one hf
        repeat first|(with_reducible first|apply wc_seq|apply wc_region|apply wl_nil|apply qk_thn|apply wc_block|apply wc_skip|apply wc_ret|apply wc_exit|apply qk_thn_ret|apply qk_in_ret|apply qk_in|apply qk_thn_exit|apply qk_in_exit|apply qk_round_ret|apply qk_round_exit)|((with_reducible apply ws);exact rfl;exact rfl)|((with_reducible apply wl_yes);exact rfl;exact rfl;exact rfl)|((with_reducible apply wl_no);exact rfl;exact rfl;exact rfl;exact rfl)|((with_reducible apply wl_noU);exact rfl;exact rfl;exact rfl)
        refine wl_loadBAgg (cs := [.int .i64 f.kind, .int .i64 f.fr, .int .i64 f.upto, .int .i64 f.nul, .int .i64 f.tag, .int .i64 f.df, .int .i64 f.of, sv]) rfl ta_fld rfl hbf5 ?_
        refine wl_alloc zv_fld rfl rfl (fun w6 hb6 hg6 hs6 => ?_)
        refine wl_storeBAgg (vs := [.int .i64 f.kind, .int .i64 f.fr, .int .i64 f.upto, .int .i64 f.nul, .int .i64 f.tag, .int .i64 f.df, .int .i64 f.of, sv]) rfl rfl rfl tz_fld hfone hb6 rfl (fun w7 hb7 hg7 hs7 => ?_)
        repeat first|(with_reducible first|apply wc_seq|apply wc_region|apply wl_nil|apply qk_thn|apply wc_block|apply wc_skip|apply wc_ret|apply wc_exit|apply qk_thn_ret|apply qk_in_ret|apply qk_in|apply qk_thn_exit|apply qk_in_exit|apply qk_round_ret|apply qk_round_exit)|((with_reducible apply ws);exact rfl;exact rfl)|((with_reducible apply wl_yes);exact rfl;exact rfl;exact rfl)|((with_reducible apply wl_no);exact rfl;exact rfl;exact rfl;exact rfl)|((with_reducible apply wl_noU);exact rfl;exact rfl;exact rfl)
        refine wl_loadB rfl to_int rfl ((hbf5.kept hg6 (by simp)).kept hg7 (by simp; omega)) rfl ?_
        repeat first|(with_reducible first|apply wc_seq|apply wc_region|apply wl_nil|apply qk_thn|apply wc_block|apply wc_skip|apply wc_ret|apply wc_exit|apply qk_thn_ret|apply qk_in_ret|apply qk_in|apply qk_thn_exit|apply qk_in_exit|apply qk_round_ret|apply qk_round_exit)|((with_reducible apply ws);exact rfl;exact rfl)|((with_reducible apply wl_yes);exact rfl;exact rfl;exact rfl)|((with_reducible apply wl_no);exact rfl;exact rfl;exact rfl;exact rfl)|((with_reducible apply wl_noU);exact rfl;exact rfl;exact rfl)
        refine wl_storeB rfl rfl to_int rfl hb7 rfl (fun w8 hb8 hg8 hs8 => ?_)
        repeat first|(with_reducible first|apply wc_seq|apply wc_region|apply wl_nil|apply qk_thn|apply wc_block|apply wc_skip|apply wc_ret|apply wc_exit|apply qk_thn_ret|apply qk_in_ret|apply qk_in|apply qk_thn_exit|apply qk_in_exit|apply qk_round_ret|apply qk_round_exit)|((with_reducible apply ws);exact rfl;exact rfl)|((with_reducible apply wl_yes);exact rfl;exact rfl;exact rfl)|((with_reducible apply wl_no);exact rfl;exact rfl;exact rfl;exact rfl)|((with_reducible apply wl_noU);exact rfl;exact rfl;exact rfl)
        refine wl_storeB rfl rfl to_int rfl hb8 rfl (fun w9 hb9 hg9 hs9 => ?_)
        repeat first|(with_reducible first|apply wc_seq|apply wc_region|apply wl_nil|apply qk_thn|apply wc_block|apply wc_skip|apply wc_ret|apply wc_exit|apply qk_thn_ret|apply qk_in_ret|apply qk_in|apply qk_thn_exit|apply qk_in_exit|apply qk_round_ret|apply qk_round_exit)|((with_reducible apply ws);exact rfl;exact rfl)|((with_reducible apply wl_yes);exact rfl;exact rfl;exact rfl)|((with_reducible apply wl_no);exact rfl;exact rfl;exact rfl;exact rfl)|((with_reducible apply wl_noU);exact rfl;exact rfl;exact rfl)
        refine wl_storeB rfl rfl to_int rfl hb9 rfl (fun w10 hb10 hg10 hs10 => ?_)
        have hb10' : Box w10 w5.heap.size [.int .i64 f.of, .int .i64 f.fr, .int .i64 f.upto, .int .i64 (-1), .int .i64 (-1), .int .i64 f.df, .int .i64 f.of, sv] 46 := hb10
        have hw510 : Below w5.heap.size w5 w10 := ((((below_of hg6 (Nat.le_refl _) (by simp)).trans (below_of hg7 (by omega) (by intro q hq; simp at hq; omega))).trans (below_of hg8 (by omega) (by intro q hq; simp at hq; omega))).trans (below_of hg9 (by omega) (by intro q hq; simp at hq; omega))).trans (below_of hg10 (by omega) (by intro q hq; simp at hq; omega))
        have hw10 : Below w.heap.size w w10 := hw5.trans (hw510.mono (by omega))
        have hbt10 := hbt5.below hw510 hbt5.lt
        have hbr10 := hbr5.below hw510 hbr5.lt
        have hbq10 := hbq5.below hw510 hbq5.lt
        have hsz10 : w10.heap.size = w5.heap.size + 1 := by omega
        repeat first|(with_reducible first|apply wc_seq|apply wc_region|apply wl_nil|apply qk_thn|apply wc_block|apply wc_skip|apply wc_ret|apply wc_exit|apply qk_thn_ret|apply qk_in_ret|apply qk_in|apply qk_thn_exit|apply qk_in_exit|apply qk_round_ret|apply qk_round_exit)|((with_reducible apply ws);exact rfl;exact rfl)|((with_reducible apply wl_yes);exact rfl;exact rfl;exact rfl)|((with_reducible apply wl_no);exact rfl;exact rfl;exact rfl;exact rfl)|((with_reducible apply wl_noU);exact rfl;exact rfl;exact rfl)
        refine wl_loadB rfl to_trees rfl hbt10 rfl ?_
        refine wl_call rfl (by kernel_rfl) rfl ((fn_things _ _ _ _ (hl.below (hw10.mono hB) (Nat.le_refl _))).mono ?_)
        rintro e w11 ⟨v, rfl, _, h11', hsq⟩
        obtain rfl := h11'.symm
        refine ⟨v, rfl, ?_⟩
        have hsq' : Sq B w10 v ((things t.l).map treeD) := by simpa [things] using hsq
        have hxok : ∀ x ∈ things t.l, x.ok := fun x hx => hok.l x (List.mem_of_mem_take hx)
        generalize hxs : things t.l = xs at hsq' hxok ⊢
        have hxn : xs.length ≤ 32767 := by subst hxs; simp only [things, Most, List.length_take]; omega
        obtain ⟨xa, xc, rfl, _⟩ := hsq'.shape
        rw [List.length_map] at hsq' ⊢
        repeat first|(with_reducible first|apply wc_seq|apply wc_region|apply wl_nil|apply qk_thn|apply wc_block|apply wc_skip|apply wc_ret|apply wc_exit|apply qk_thn_ret|apply qk_in_ret|apply qk_in|apply qk_thn_exit|apply qk_in_exit|apply qk_round_ret|apply qk_round_exit)|((with_reducible apply ws);exact rfl;exact rfl)|((with_reducible apply wl_yes);exact rfl;exact rfl;exact rfl)|((with_reducible apply wl_no);exact rfl;exact rfl;exact rfl;exact rfl)|((with_reducible apply wl_noU);exact rfl;exact rfl;exact rfl)
        refine wc_loop (α := PtS) (fun s => [(62, .int .i64 (s.i : Int)), (61, .int .i64 (xs.length : Int)), (60, .slice xa xs.length xc), (10, .pointer (some ⟨w5.heap.size, 0, none⟩)), (9, .pointer (some ⟨w4.heap.size, 0, none⟩)), (6, .pointer (some ⟨w2.heap.size, 0, none⟩)), (1, .int .i64 ver)])
          (fun s w' => s.i ≤ xs.length ∧ Below w.heap.size w w' ∧ w10.heap.size ≤ w'.heap.size ∧ Box w' w2.heap.size [.int .i64 0, .slice none 0 0, .bool false, .slice none 0 0, .slice none 0 0] 26 ∧ Box w' w5.heap.size [.int .i64 f.of, .int .i64 f.fr, .int .i64 f.upto, .int .i64 (-1), .int .i64 (-1), .int .i64 f.df, .int .i64 f.of, sv] 46 ∧ Box w' w4.heap.size [.int .i64 0, .slice none 0 0, .bool q, s.d, .slice none 0 0] 26 ∧ RowD B w10.heap.size w4.heap.size 26 5 w' s.d ((xs.take s.i).map fun x => treeD (fitVal f.of false (fitP ver f.sub) x))) (fun s => xs.length - s.i) ⟨0, .slice none 0 0, []⟩ ⟨rfl, rfl, rfl, rfl, rfl, rfl, rfl, trivial⟩ ⟨Nat.zero_le _, hw10, Nat.le_refl _, hbr10, hb10', hbq10, RowD.nil _ _ _ _ _ _⟩ ?_
        rintro ⟨i, d, _⟩ w12 ⟨hi, hw12, hs1012, hbr12, hbo12, hbq12, hrd12⟩
        simp only [] at hi hbq12 hrd12
        change WC _ _ _ _ [(62, .int .i64 (i : Int)), (61, .int .i64 (xs.length : Int)), (60, .slice xa xs.length xc), (10, .pointer (some ⟨w5.heap.size, 0, none⟩)), (9, .pointer (some ⟨w4.heap.size, 0, none⟩)), (6, .pointer (some ⟨w2.heap.size, 0, none⟩)), (1, .int .i64 ver)] _
        repeat first|(with_reducible first|apply wc_seq|apply wc_region|apply wl_nil|apply qk_thn|apply wc_block|apply wc_skip|apply wc_ret|apply wc_exit|apply qk_thn_ret|apply qk_in_ret|apply qk_in|apply qk_thn_exit|apply qk_in_exit|apply qk_round_ret|apply qk_round_exit)|((with_reducible apply ws);exact rfl;exact rfl)|((with_reducible apply wl_yes);exact rfl;exact rfl;exact rfl)|((with_reducible apply wl_no);exact rfl;exact rfl;exact rfl;exact rfl)|((with_reducible apply wl_noU);exact rfl;exact rfl;exact rfl)
        by_cases hlt : i < xs.length
        · refine wc_yes rfl (by simpa using hlt) ?_
          obtain ⟨b, off, c', cs, hv, hbB, hcs, hlen, hr⟩ := (hsq'.below (Below.between (hw10.mono hB) (hw12.mono hB) hs1012) (Nat.le_refl _)).get (sz := 5) (i := i) (by intro d hd; obtain ⟨x, _, rfl⟩ := List.mem_map.1 hd; exact treeD_width x) (by simpa using hlt)
          simp only [Value.slice.injEq, List.length_map] at hv
          obtain ⟨rfl, _, rfl⟩ := hv
          simp only [List.getElem_map] at hr
          obtain ⟨hcone, _⟩ := treeG_one hr
          repeat first|(with_reducible first|apply wc_seq|apply wc_region|apply wl_nil|apply qk_thn|apply wc_block|apply wc_skip|apply wc_ret|apply wc_exit|apply qk_thn_ret|apply qk_in_ret|apply qk_in|apply qk_thn_exit|apply qk_in_exit|apply qk_round_ret|apply qk_round_exit)|((with_reducible apply ws);exact rfl;exact rfl)|((with_reducible apply wl_yes);exact rfl;exact rfl;exact rfl)|((with_reducible apply wl_no);exact rfl;exact rfl;exact rfl;exact rfl)|((with_reducible apply wl_noU);exact rfl;exact rfl;exact rfl)
          refine wl_indexAddr rfl rfl es_trees rfl hlt ?_
          refine wl_loadAgg rfl (by rw [hlen]; exact ta_tree) rfl (fun j v e => hcs.cell e) ?_
          refine wl_alloc zv_tree rfl rfl (fun w13 hb13 hg13 hs13 => ?_)
          refine wl_storeBAgg rfl rfl rfl (by rw [hlen]; exact tz_tree) hcone hb13 (by rw [hlen]; rfl) (fun w14 hb14 hg14 hs14 => ?_)
          have hw1214 : Below w12.heap.size w12 w14 := (below_of hg13 (Nat.le_refl _) (by simp)).trans (below_of hg14 (by omega) (by intro k hk; simp at hk; omega))
          have hw14 : Below w.heap.size w w14 := hw12.trans (hw1214.mono (by omega))
          have hrd14 := hrd12.below hw1214
          have hbr14 := hbr12.below hw1214 hbr12.lt
          have hbo14 := hbo12.below hw1214 hbo12.lt
          have hbq14 := hbq12.below hw1214 hbq12.lt
          have hdl : ∀ g, d.ownBlock = some g → w10.heap.size ≤ g ∧ g < w12.heap.size := hrd12.low
          repeat first|(with_reducible first|apply wc_seq|apply wc_region|apply wl_nil|apply qk_thn|apply wc_block|apply wc_skip|apply wc_ret|apply wc_exit|apply qk_thn_ret|apply qk_in_ret|apply qk_in|apply qk_thn_exit|apply qk_in_exit|apply qk_round_ret|apply qk_round_exit)|((with_reducible apply ws);exact rfl;exact rfl)|((with_reducible apply wl_yes);exact rfl;exact rfl;exact rfl)|((with_reducible apply wl_no);exact rfl;exact rfl;exact rfl;exact rfl)|((with_reducible apply wl_noU);exact rfl;exact rfl;exact rfl)
          refine wc_parS [(0, .pointer (some ⟨w4.heap.size, 0 + 3, none⟩)), (1, d), (2, .agg ([.int .i64 f.of, .int .i64 f.fr, .int .i64 f.upto, .int .i64 (-1), .int .i64 (-1), .int .i64 f.df, .int .i64 f.of, sv] : List Value).toArray), (3, .int .i64 ver), (4, .agg cs.toArray), (8, .pointer (some ⟨w4.heap.size, 0 + 3, none⟩))] [9, 7, 6, 5]
            (fun vals w' => Below w.heap.size w w' ∧ w14.heap.size ≤ w'.heap.size ∧ Box w' w2.heap.size [.int .i64 0, .slice none 0 0, .bool false, .slice none 0 0, .slice none 0 0] 26 ∧ Box w' w5.heap.size [.int .i64 f.of, .int .i64 f.fr, .int .i64 f.upto, .int .i64 (-1), .int .i64 (-1), .int .i64 f.df, .int .i64 f.of, sv] 46 ∧ Box w' w12.heap.size cs 26 ∧ match vals with
              | [] => Below w14.heap.size w14 w'
              | [v] => Below w14.heap.size w14 w' ∧ ∃ xs' : List Value, v = .agg xs'.toArray ∧ Rep (In B w14.heap.size w') w' (treeD (fitVal f.of false (fitP ver f.sub) xs[i])) xs'
              | [v, _] => Below w14.heap.size w14 w' ∧ ∃ (b8 : Nat) (xs' : List Value), v = .slice (some ⟨b8, 0, none⟩) 1 1 ∧ Box w' b8 xs' 26 ∧ xs'.length = 5 ∧ (xs'.all fun v => v.oneCell') = true ∧ Rep (In B w14.heap.size w') w' (treeD (fitVal f.of false (fitP ver f.sub) xs[i])) xs'
              | [v, _, _] => Box w' w4.heap.size [.int .i64 0, .slice none 0 0, .bool q, d, .slice none 0 0] 26 ∧ RowD B w10.heap.size w4.heap.size 26 5 w' v ((xs.take (i + 1)).map fun x => treeD (fitVal f.of false (fitP ver f.sub) x))
              | _ :: v :: _ => Box w' w4.heap.size [.int .i64 0, .slice none 0 0, .bool q, v, .slice none 0 0] 26 ∧ RowD B w10.heap.size w4.heap.size 26 5 w' v ((xs.take (i + 1)).map fun x => treeD (fitVal f.of false (fitP ver f.sub) x)))
            mixed rfl rfl rfl rfl rfl (by show ([0,1,2,3,4,8] : List Nat).Nodup; decide) rfl rfl (by decide) rfl rfl rfl rfl ⟨hw14.drew, Nat.le_refl _, hbr14, hbo14, hb14, (Below.refl _ w14).drew⟩ ?_ ⟨?_, ?_, ?_, ?_, trivial⟩ ?_
          · intro p hp vals w' hC hnp a k
            obtain ⟨hC1, hC2, hC3, hC4, hC5, hC6⟩ := hC
            simp only [List.mem_cons, List.not_mem_nil, or_false] at hp
            rcases hp with rfl | rfl | rfl | rfl | rfl | rfl
            · exact gv rfl rfl (rn_fieldAddr k rfl fo_tree3)
            · have hbx : Box w' w4.heap.size [.int .i64 0, .slice none 0 0, .bool q, d, .slice none 0 0] 26 := by
                match vals, hC6, hnp with
                | [], h, _ => exact hbq14.below h hbq14.lt
                | [_], h, _ => exact hbq14.below h.1 hbq14.lt
                | [_, _], h, _ => exact hbq14.below h.1 hbq14.lt
                | [_, _, _], h, _ => exact h.1
                | _ :: _ :: _ :: _ :: r, _, hnp =>
                  have := hnp 9 (by rw [show ([9, 7, 6, 5] : List Nat).length - (_ :: _ :: _ :: _ :: r).length = 0 from by simp only [List.length_cons, List.length_nil]; omega]; simp)
                  exact absurd (show true = false from this) (by simp)
              exact gv rfl rfl (rn_load k rfl to_trees (hbx.cell0 (i := 3) rfl))
            · exact gv rfl rfl (rn_loadBAgg k rfl ta_fld hC4)
            · exact gv rfl rfl (rn_move k rfl)
            · exact gv rfl rfl (rn_loadBAgg k rfl (by rw [hlen]; exact ta_tree) hC5)
            · exact gv rfl rfl (rn_fieldAddr k rfl fo_tree3)
          · rintro vals w' hvl ⟨hC1, hC2, hC3, hC4, hC5, hC6⟩ a k
            match vals, hvl with
            | [v9, v8, v7], _ =>
              obtain ⟨hbx, hrd⟩ := hC6
              obtain ⟨a9, c9, rfl⟩ := hrd.shape
              refine ⟨_, rfl, does_storeB k rfl rfl to_trees rfl hbx rfl (fun w'' hbx'' hg'' hs'' => ⟨hC1.trans (below_of hg'' (by omega) (by intro q hq; simp at hq; omega)), by omega, hC3.kept hg'' (by simp; omega), hC4.kept hg'' (by simp; omega), hC5.kept hg'' (by simp; omega), hbx'', hrd.stored hg''⟩)⟩
          · rintro vals w' hvl ⟨hC1, hC2, hC3, hC4, hC5, hC6⟩ a k
            match vals, hvl with
            | [v8, v7], _ =>
              obtain ⟨hb7', b8, xs', rfl, hb8, hl5, hone'', hrep⟩ := hC6
              have hrdw := hrd14.below hb7'
              obtain ⟨xs0, hrow0, hreps0⟩ := hrdw.row
              refine ⟨_, rfl, does_app1 k rt_trees rfl rfl hb8 hl5 hone'' hrow0 (by omega) (by simp only [List.length_map, List.length_take, many]; omega) (fun d' w'' hrow'' hg'' => ?_)⟩
              have hs'' := hg''.grown.size
              have hne : ∀ q, q < w10.heap.size ∨ w12.heap.size ≤ q → some q ≠ d.ownBlock := fun q hq e => by have := hdl q e.symm; omega
              refine ⟨hC1.trans (hg''.below (by omega) (fun g hg => by have := hdl g hg; omega)), by omega, hC3.kept hg''.grown (hne _ (by omega)), hC4.kept hg''.grown (hne _ (by omega)), hC5.kept hg''.grown (hne _ (by omega)), (hbq14.below hb7' hbq14.lt).kept hg''.grown (hne _ (by omega)), ?_⟩
              have hsn := hrdw.snoc (by omega) (by omega) hreps0 (hrep.off (by omega) ⟨by omega, by omega⟩ (fun g hg => by have := hdl g hg; omega)) hrow'' hg''
              rw [List.take_succ_eq_append_getElem hlt, List.map_append]
              exact hsn
          · rintro vals w' hvl ⟨hC1, hC2, hC3, hC4, hC5, hC6⟩ a k
            match vals, hvl with
            | [v7], _ =>
              obtain ⟨hb7', xs', rfl, hrep⟩ := hC6
              obtain ⟨hone'', hl5⟩ := treeG_one hrep
              have hga := grown_alloc w' (.cells xs'.toArray 26)
              refine ⟨_, rfl, does_slice1 k rt_trees rfl rfl hl5 rfl ⟨hC1.trans (below_of hga (by omega) (by simp)), by simp; omega, hC3.kept hga (by simp), hC4.kept hga (by simp), hC5.kept hga (by simp), hb7'.trans (below_of hga (by omega) (by simp)), _, xs', rfl, box_alloc _ _ _, hl5, hone'', hrep.up (In.up (Nat.le_refl _) (by simp)) (fun r hr => hga.block r hr.2 (by simp))⟩⟩
          · rintro vals w' hvl ⟨hC1, hC2, hC3, hC4, hC5, hC6⟩ a k
            match vals, hvl with
            | [], _ =>
              simp only [] at hC6
              refine ⟨_, rfl, does_call k rfl (by kernel_rfl) ((hone' ver xs[i] B w' [.int .i64 f.of, .int .i64 f.fr, .int .i64 f.upto, .int .i64 (-1), .int .i64 (-1), .int .i64 f.df, .int .i64 f.of, sv] _ (hxok _ (List.getElem_mem hlt)) (by omega) (one_rep (hsub.below (hC1.mono hB) (Nat.le_refl _))) (Rep.below hr ((hw1214.trans (hC6.mono (by omega))).mono (by omega)) (Nat.le_refl _))).mono ?_)⟩
              rintro e w'' ⟨v, rfl, hb'', cs'', rfl, hrep⟩
              rw [one_fit f ver xs[i] hof] at hrep
              exact ⟨_, rfl, hC1.trans (hb''.mono (by omega)), by have := hb''.size; omega, hC3.below hb'' hC3.lt, hC4.below hb'' hC4.lt, hC5.below hb'' hC5.lt, hC6.trans (hb''.mono (by omega)), cs'', rfl, hrep.up (In.up (by omega) (Nat.le_refl _)) (fun _ _ => rfl)⟩
          · rintro vals w' hvl ⟨hC1, hC2, hC3, hC4, hC5, hC6⟩
            match vals, hvl with
            | [v11, v9, v8, v7], _ =>
              refine qk_thn ?_
              repeat first|(with_reducible first|apply wc_seq|apply wc_region|apply wl_nil|apply qk_thn|apply wc_block|apply wc_skip|apply wc_ret|apply wc_exit|apply qk_thn_ret|apply qk_in_ret|apply qk_in|apply qk_thn_exit|apply qk_in_exit|apply qk_round_ret|apply qk_round_exit)|((with_reducible apply ws);exact rfl;exact rfl)|((with_reducible apply wl_yes);exact rfl;exact rfl;exact rfl)|((with_reducible apply wl_no);exact rfl;exact rfl;exact rfl;exact rfl)|((with_reducible apply wl_noU);exact rfl;exact rfl;exact rfl)
              refine wl_add rfl rfl rfl (r := ((i + 1 : Nat) : Int)) (by rw [IntKind.wrap_i64]; omega) ?_
              repeat first|(with_reducible first|apply wc_seq|apply wc_region|apply wl_nil|apply qk_thn|apply wc_block|apply wc_skip|apply wc_ret|apply wc_exit|apply qk_thn_ret|apply qk_in_ret|apply qk_in|apply qk_thn_exit|apply qk_in_exit|apply qk_round_ret|apply qk_round_exit)|((with_reducible apply ws);exact rfl;exact rfl)|((with_reducible apply wl_yes);exact rfl;exact rfl;exact rfl)|((with_reducible apply wl_no);exact rfl;exact rfl;exact rfl;exact rfl)|((with_reducible apply wl_noU);exact rfl;exact rfl;exact rfl)
              exact qk_round ⟨i + 1, v9, []⟩ ⟨rfl, rfl, rfl, rfl, rfl, rfl, rfl, trivial⟩ ⟨by simp only []; omega, hC1, by omega, hC3, hC4, hC6.1, hC6.2⟩ (by simp only []; omega)
        · refine wc_no rfl (by simpa using hlt) ?_
          repeat first|(with_reducible first|apply wc_seq|apply wc_region|apply wl_nil|apply qk_thn|apply wc_block|apply wc_skip|apply wc_ret|apply wc_exit|apply qk_thn_ret|apply qk_in_ret|apply qk_in|apply qk_thn_exit|apply qk_in_exit|apply qk_round_ret|apply qk_round_exit)|((with_reducible apply ws);exact rfl;exact rfl)|((with_reducible apply wl_yes);exact rfl;exact rfl;exact rfl)|((with_reducible apply wl_no);exact rfl;exact rfl;exact rfl;exact rfl)|((with_reducible apply wl_noU);exact rfl;exact rfl;exact rfl)
          rw [List.take_of_length_le (by omega)] at hrd12
          have hdone := hrd12.sqb
          obtain ⟨da, dc, rfl⟩ := hrd12.shape
          refine wl_loadBAgg (cs := [.int .i64 0, .slice none 0 0, .bool q, .slice da (xs.map fun x => treeD (fitVal f.of false (fitP ver f.sub) x)).length dc, .slice none 0 0]) rfl ta_tree rfl hbq12 ?_
          refine wl_storeBAgg (vs := [.int .i64 0, .slice none 0 0, .bool q, .slice da (xs.map fun x => treeD (fitVal f.of false (fitP ver f.sub) x)).length dc, .slice none 0 0]) rfl rfl rfl tz_tree rfl hbr12 rfl (fun w13 hb13 hg13 hs13 => ?_)
          repeat first|(with_reducible first|apply wc_seq|apply wc_region|apply wl_nil|apply qk_thn|apply wc_block|apply wc_skip|apply wc_ret|apply wc_exit|apply qk_thn_ret|apply qk_in_ret|apply qk_in|apply qk_thn_exit|apply qk_in_exit|apply qk_round_ret|apply qk_round_exit)|((with_reducible apply ws);exact rfl;exact rfl)|((with_reducible apply wl_yes);exact rfl;exact rfl;exact rfl)|((with_reducible apply wl_no);exact rfl;exact rfl;exact rfl;exact rfl)|((with_reducible apply wl_noU);exact rfl;exact rfl;exact rfl)
          refine qk_retCell (cs := [.int .i64 0, .slice none 0 0, .bool q, .slice da (xs.map fun x => treeD (fitVal f.of false (fitP ver f.sub) x)).length dc, .slice none 0 0]) rfl rfl ta_tree hb13 ⟨_, rfl, hw12.trans (below_of hg13 (by omega) (by intro q hq; simp at hq; omega)), _, rfl, ?_⟩
          refine rep_tree (rep_nil _ _) ?_ (rep_nil _ _)
          rw [List.map_map]
          refine hdone.up (fun r hr => In.up (by omega) (by omega) r hr.1) (fun r hr => ?_)
          have h1 : r ≠ w2.heap.size := by
            rcases hr.1.1 with h | h <;> omega
          rw [hg13.block r hr.1.2 (by simp; omega)]
      · refine wc_no rfl (by simpa using h11) ?_
        have ed : fitVal f.kind (f.null ver t) (fitP ver f.sub) t = .mk t.n t.s false [] [] := by simp [fitVal, h8, h9, h10]
        rw [if_neg h11, ed]
        repeat first|(with_reducible first|apply wc_seq|apply wc_region|apply wl_nil|apply qk_thn|apply wc_block|apply wc_skip|apply wc_ret|apply wc_exit|apply qk_thn_ret|apply qk_in_ret|apply qk_in|apply qk_thn_exit|apply qk_in_exit|apply qk_round_ret|apply qk_round_exit)|((with_reducible apply ws);exact rfl;exact rfl)|((with_reducible apply wl_yes);exact rfl;exact rfl;exact rfl)|((with_reducible apply wl_no);exact rfl;exact rfl;exact rfl;exact rfl)|((with_reducible apply wl_noU);exact rfl;exact rfl;exact rfl)
        refine wl_loadB rfl to_i64 rfl hbt4 rfl ?_
        repeat first|(with_reducible first|apply wc_seq|apply wc_region|apply wl_nil|apply qk_thn|apply wc_block|apply wc_skip|apply wc_ret|apply wc_exit|apply qk_thn_ret|apply qk_in_ret|apply qk_in|apply qk_thn_exit|apply qk_in_exit|apply qk_round_ret|apply qk_round_exit)|((with_reducible apply ws);exact rfl;exact rfl)|((with_reducible apply wl_yes);exact rfl;exact rfl;exact rfl)|((with_reducible apply wl_no);exact rfl;exact rfl;exact rfl;exact rfl)|((with_reducible apply wl_noU);exact rfl;exact rfl;exact rfl)
        refine wl_loadB rfl to_bytes rfl hbt4 rfl ?_
        refine wl_build rfl (cs := [.int .i64 t.n, .slice sa (t.s.map byteD).length sc, .bool false, .slice none 0 0, .slice none 0 0]) (by kernel_rfl) rfl ?_
        refine wl_storeBAgg (vs := [.int .i64 t.n, .slice sa (t.s.map byteD).length sc, .bool false, .slice none 0 0, .slice none 0 0]) rfl rfl rfl tz_tree rfl hbr4 rfl (fun w7 hbr7 hg7 hs7 => ?_)
        repeat first|(with_reducible first|apply wc_seq|apply wc_region|apply wl_nil|apply qk_thn|apply wc_block|apply wc_skip|apply wc_ret|apply wc_exit|apply qk_thn_ret|apply qk_in_ret|apply qk_in|apply qk_thn_exit|apply qk_in_exit|apply qk_round_ret|apply qk_round_exit)|((with_reducible apply ws);exact rfl;exact rfl)|((with_reducible apply wl_yes);exact rfl;exact rfl;exact rfl)|((with_reducible apply wl_no);exact rfl;exact rfl;exact rfl;exact rfl)|((with_reducible apply wl_noU);exact rfl;exact rfl;exact rfl)
        refine qk_retCell (cs := [.int .i64 t.n, .slice sa (t.s.map byteD).length sc, .bool false, .slice none 0 0, .slice none 0 0]) rfl rfl ta_tree hbr7 ⟨_, rfl, hw4.trans (below_of hg7 (by omega) (by intro q hq; simp at hq; omega)), _, rfl, ?_⟩
        refine rep_tree ?_ (rep_nil _ _) (rep_nil _ _)
        exact (hs4.below (below_of hg7 (by omega) (by intro q hq; simp at hq; omega)) (Nat.le_refl _)).up (fun r hr => ⟨.inl hr, by simp only [Lo] at hr; omega⟩) (fun _ _ => rfl)
end
mutual
theorem fitted_ok : ∀ f : Fld, f.okb = true → FittedOK f
  | .mk kind fr upto nul tag df of sub, h => by
    have hs : fsok sub = true := fsok.sub h
    have hof : (Fld.mk kind fr upto nul tag df of sub).of ≠ 11 := Fld.okb_of h
    have ih := fitteds_ok sub (by simp only [fsok, Bool.and_eq_true] at hs; exact hs.1)
    have hp := fit_of sub hs ih
    refine fitted_of _ hp (fun _ => fitted_of _ hp (fun h11 => absurd h11 hof) hof) hof
theorem fitteds_ok : ∀ fs : List Fld, Fld.oksb fs = true → ∀ f ∈ fs, FittedOK f
  | [], _, f, hf => by cases hf
  | g :: fs, h, f, hf => by
    simp only [Fld.oksb, Bool.and_eq_true] at h
    have hg := fitted_ok g h.1
    have hr := fitteds_ok fs h.2
    rcases List.mem_cons.1 hf with h0 | h1
    · rw [h0]; exact hg
    · exact hr f h1
end
theorem fit_ok (fs : List Fld) (h : fsok fs = true) : FitOK fs := by
  have ih := fitteds_ok fs (by simp only [fsok, Bool.and_eq_true] at h; exact h.1)
  exact fit_of fs h ih
end Go.Proofs.Ytaoecdeljfdmeaa
