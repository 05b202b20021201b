/- What a part says as far as it can be set: the reference's own walk. -/
import Derived.Test.YtaoecdeljfdmeaaWriteD
import Derived.Test.YtaoecdeljfdmeaaRowD
namespace Go.Proofs.Ytaoecdeljfdmeaa
open Go Go.RowKit

theorem rt_trees : rowTy Try.prog 23 26 5 = true := by kernel_rfl
theorem rt_tags : rowTy Try.prog 24 56 2 = true := by kernel_rfl
theorem rep_nil (ok : Nat → Prop) (w : World) : Rep ok w (.sq []) [.slice none 0 0] := by
  simp only [Rep]
  exact ⟨none, 0, rfl, Nat.le_refl _, .inl (by simp)⟩
theorem rep_tree {ok : Nat → Prop} {w : World} {n : Int} {s : List UInt8} {nul : Bool} {l : List Tree} {u : List (Nat × List UInt8)} {sv lv uv : Value}
    (hs : Rep ok w (.sq (s.map byteD)) [sv]) (hl : Rep ok w (.sq (l.map treeD)) [lv]) (hu : Rep ok w (.sq (u.map tagD)) [uv]) : Rep ok w (treeD (.mk n s nul l u)) [.int .i64 n, sv, .bool nul, lv, uv] := by
  simp only [Rep] at hs hl hu
  simp only [treeD, bytesD, Rep, Reps, treeDs_map]
  exact ⟨[_], _, rfl, rfl, [_], _, rfl, hs, [_], _, rfl, rfl, [_], _, rfl, hl, [_], _, rfl, hu, rfl⟩
theorem tree_out {ok : Nat → Prop} {w : World} {t : Tree} {cs : List Value} (h : Rep ok w (treeD t) cs) :
    ∃ sv lv uv, cs = [.int .i64 t.n, sv, .bool t.nul, lv, uv] ∧ Rep ok w (.sq (t.s.map byteD)) [sv] ∧ Rep ok w (.sq (t.l.map treeD)) [lv] ∧ Rep ok w (.sq (t.u.map tagD)) [uv] := by
  cases t with
  | mk n s nul l u =>
    simp only [treeD, bytesD, Rep, Reps, treeDs_map] at h
    obtain ⟨c1, r1, rfl, rfl, c2, r2, rfl, h2, c3, r3, rfl, rfl, c4, r4, rfl, h4, c5, r5, rfl, h5, rfl⟩ := h
    obtain ⟨a2, b2, rfl, h2'⟩ := h2
    obtain ⟨a4, b4, rfl, h4'⟩ := h4
    obtain ⟨a5, b5, rfl, h5'⟩ := h5
    refine ⟨_, _, _, rfl, ?_, ?_, ?_⟩ <;> simp only [Rep]
    · exact ⟨_, _, rfl, h2'⟩
    · exact ⟨_, _, rfl, h4'⟩
    · exact ⟨_, _, rfl, h5'⟩
theorem sq_one {ok : Nat → Prop} {w : World} {ds : List D} {v : Value} (h : Rep ok w (.sq ds) [v]) : ∃ a c, v = .slice a ds.length c := by
  simp only [Rep] at h
  obtain ⟨a, c, e, _⟩ := h
  exact ⟨a, c, by simpa using e⟩

def FitOK (fs : List Fld) : Prop := ∀ (ver : Int) (t : Tree) (B : Nat) (w : World) (fv : Value) (ts : List Value), t.ok → B ≤ w.heap.size → Sq B w fv (fs.map fldD) → Rep (Lo B) w (treeD t) ts →
  Fn 11 [fv, .int .i64 ver, .agg ts.toArray] w fun v w' => ∃ cs : List Value, v = .agg cs.toArray ∧ Rep (In B w.heap.size w') w' (treeD (fitP ver fs t)) cs
def FittedOK (f : Fld) : Prop := ∀ (ver : Int) (t : Tree) (B : Nat) (w : World) (cs ts : List Value), t.ok → B ≤ w.heap.size → Rep (Lo B) w (fldD f) cs → Rep (Lo B) w (treeD t) ts →
  Fn 24 [.agg cs.toArray, .int .i64 ver, .agg ts.toArray] w fun v w' => ∃ cs : List Value, v = .agg cs.toArray ∧ Rep (In B w.heap.size w') w' (treeD (fitF ver f t)) cs

theorem treeG_one {ok : Nat → Prop} {w : World} {t : Tree} {cs : List Value} (h : Rep ok w (treeD t) cs) : (cs.all fun v => v.oneCell') = true ∧ cs.length = 5 := by
  obtain ⟨sv, lv, uv, rfl, h1, h2, h3⟩ := tree_out h
  obtain ⟨a, b, rfl⟩ := sq_one h1
  obtain ⟨c, d, rfl⟩ := sq_one h2
  obtain ⟨e, f, rfl⟩ := sq_one h3
  exact ⟨rfl, rfl⟩
/-- What a done row says, apart from the struct's own block. -/
theorem RowD.sqb {B lo bx e sz : Nat} {w : World} {d : Value} {ds : List D} (h : RowD B lo bx e sz w d ds) : Rep (fun r => In B lo w r ∧ r ≠ bx) w (.sq ds) [d] := by
  obtain ⟨ha, hl, xs, hr, hx⟩ := h
  simp only [Rep]
  have hx' : Reps (fun r => In B lo w r ∧ r ≠ bx) w ds xs := hx.up (fun _ hr => ⟨⟨hr.1, hr.2.1⟩, hr.2.2.1⟩) (fun _ _ => rfl)
  by_cases hn : 0 < ds.length
  · obtain ⟨g, cap, hd, hg1, hg2, hc⟩ := Row.cells hr hn
    subst hd
    obtain ⟨_, ⟨he, _⟩ | ⟨g', cap', cur, he, _, _, hle, _⟩⟩ := hr
    · cases he
    · cases he
      exact ⟨_, cap, rfl, hle, .inr ⟨g, 0, xs, rfl, ⟨⟨.inr hg1, hg2⟩, fun e => ha (by rw [← e]; rfl)⟩, hc, hx'⟩⟩
  · have h0 : ds = [] := List.length_eq_zero_iff.1 (by omega)
    subst h0
    obtain ⟨hxl, ⟨rfl, _⟩ | ⟨g, cap, cur, rfl, hBg, hheap, hle, hcap, hcs, htake⟩⟩ := hr
    · exact ⟨none, 0, rfl, Nat.le_refl _, .inl (by simp)⟩
    · have hx0 : xs = [] := List.length_eq_zero_iff.1 (by simpa using hxl)
      subst hx0
      exact ⟨some ⟨g, 0, none⟩, cap, rfl, hle, .inr ⟨g, 0, [], rfl, ⟨⟨.inr hBg, (Array.getElem?_eq_some_iff.1 hheap).1⟩, fun e => ha (by rw [← e]; rfl)⟩, ⟨cur, e, (0, 0), hheap, by simp, by simp⟩, hx'⟩⟩
theorem grown_but {a b c : World} {bx : Nat} {row : Option Nat} (h : a.grownBy b (some bx)) (k : b.grownBy c row) (hr : ∀ g, row = some g → g = bx ∨ a.heap.size ≤ g) : a.grownBy c (some bx) :=
  ⟨k.os.trans h.os, k.tape.trans h.tape, k.output.trans h.output, Nat.le_trans h.size k.size, fun i hi hne => by
    rw [← h.block i hi hne]
    refine k.block i (Nat.lt_of_lt_of_le hi h.size) (fun e => ?_)
    rcases hr i e.symm with rfl | h2
    · exact hne rfl
    · omega⟩
theorem Rep.offLo {B lo bx : Nat} {w : World} {d : Value} {x : D} {cs : List Value} (h : Rep (Lo B) w x cs) (hs : B ≤ w.heap.size) (hb : B ≤ bx) (hd : ∀ g, d.ownBlock = some g → B ≤ g) : Rep (Off B lo bx d w) w x cs := by
  refine h.up (fun r hr => ⟨.inl hr, Nat.lt_of_lt_of_le hr hs, fun e => ?_, fun e => ?_⟩) (fun _ _ => rfl)
  · simp only [Lo] at hr; omega
  · have := hd r e; simp only [Lo] at hr; omega
theorem rep_tag {ok : Nat → Prop} {w : World} {k : Nat} {s : List UInt8} {sv : Value} (hs : Rep ok w (.sq (s.map byteD)) [sv]) : Rep ok w (tagD (k, s)) [.int .u32 k, sv] := by
  simp only [Rep] at hs
  simp only [tagD, bytesD, Rep, Reps]
  exact ⟨[_], _, rfl, rfl, [_], _, rfl, hs, rfl⟩
theorem In.up {B lo lo' : Nat} {w w' : World} (hlo : lo' ≤ lo) (hs : w.heap.size ≤ w'.heap.size) : ∀ r, In B lo w r → In B lo' w' r :=
  fun _ h => ⟨h.1.elim .inl (fun x => .inr (Nat.le_trans hlo x)), Nat.lt_of_lt_of_le h.2 hs⟩

section
set_option maxRecDepth 100000
theorem fit_of (fs : List Fld) (hfs : fsok fs = true) (hF : ∀ f ∈ fs, FittedOK f) : FitOK fs := by
  intro ver t B w fv ts hok hB hf ht
  obtain ⟨sv2, lv, uv, rfl, hs, hl, hu⟩ := tree_cells ht
  obtain ⟨fa, fc, rfl, _⟩ := hf.shape
  have hn := fsok.len hfs
  rw [List.length_map] at *
  refine enter Try.func11 rfl Try.ntmps11 rfl ?_
  repeat first|(with_reducible first|apply wc_seq|apply wc_region|apply wl_nil|apply qk_thn|apply wc_block|apply wc_skip|apply wc_ret|apply wc_exit|apply qk_thn_ret|apply qk_in_ret|apply qk_in|apply qk_thn_exit|apply qk_in_exit|apply qk_round_ret|apply qk_round_exit)|((with_reducible apply ws);exact rfl;exact rfl)|((with_reducible apply wl_yes);exact rfl;exact rfl;exact rfl)|((with_reducible apply wl_no);exact rfl;exact rfl;exact rfl;exact rfl)|((with_reducible apply wl_noU);exact rfl;exact rfl;exact rfl)
  refine wl_box1 rfl rfl rfl (fun w1 hb1 hg1 hs1 => wl_alloc zv_tree rfl rfl (fun w2 hb2 hg2 hs2 => ?_))
  have hb12 := hb1.kept hg2 (by simp)
  have hw2 : Below w.heap.size w w2 := (below_of hg1 (Nat.le_refl _) (by simp)).trans (below_of hg2 (by omega) (by simp))
  refine wl_nil (qk_thn (wc_seq (wc_region ?_)))
  refine wl_build rfl (cs := [.int .i64 0, .slice none 0 0, .bool false, .slice none 0 0, .slice none 0 0]) (by kernel_rfl) rfl ?_
  refine wl_alloc zv_tree rfl rfl (fun w3 hb3 hg3 hs3 => ?_)
  refine wl_storeBAgg (vs := [.int .i64 0, .slice none 0 0, .bool false, .slice none 0 0, .slice none 0 0]) rfl rfl rfl tz_tree rfl hb3 rfl (fun w4 hb4 hg4 hs4 => ?_)
  have hb14 := (hb12.kept hg3 (by simp)).kept hg4 (by simp; omega)
  have hb24 := (hb2.kept hg3 (by simp)).kept hg4 (by simp; omega)
  have hw4 : Below w.heap.size w w4 := (hw2.trans (below_of hg3 (by omega) (by simp))).trans (below_of hg4 (by omega) (by intro k hk; simp at hk; omega))
  refine wl_nil (qk_thn ?_)
  refine wc_cut (α := Value) (fun d => [(7, .pointer (some ⟨w2.heap.size, 0, none⟩)), (6, .pointer (some ⟨w1.heap.size, 0, none⟩)), (5, .pointer (some ⟨w.heap.size, 0, none⟩)), (1, .int .i64 ver), (0, .slice fa fs.length fc)])
    (fun d w' => Below w.heap.size w w' ∧ w4.heap.size ≤ w'.heap.size ∧ Box w' w.heap.size [.int .i64 t.n, sv2, .bool t.nul, lv, uv] 26 ∧ Box w' w1.heap.size [.int .i64 0, .slice none 0 0, .bool false, .slice none 0 0, .slice none 0 0] 26 ∧ Box w' w2.heap.size [.int .i64 0, .slice none 0 0, .bool false, d, .slice none 0 0] 26 ∧ RowD B w4.heap.size w2.heap.size 26 5 w' d ((fitL ver fs 0 t).map treeD)) ?_ ?_
  · repeat first|(with_reducible first|apply wc_seq|apply wc_region|apply wl_nil|apply qk_thn|apply wc_block|apply wc_skip|apply wc_ret|apply wc_exit|apply qk_thn_ret|apply qk_in_ret|apply qk_in|apply qk_thn_exit|apply qk_in_exit|apply qk_round_ret|apply qk_round_exit)|((with_reducible apply ws);exact rfl;exact rfl)|((with_reducible apply wl_yes);exact rfl;exact rfl;exact rfl)|((with_reducible apply wl_no);exact rfl;exact rfl;exact rfl;exact rfl)|((with_reducible apply wl_noU);exact rfl;exact rfl;exact rfl)
    refine wc_loop (α := PtS) (fun s => [(15, .int .i64 (s.i : Int)), (14, .int .i64 (fs.length : Int)), (13, .slice fa fs.length fc), (7, .pointer (some ⟨w2.heap.size, 0, none⟩)), (6, .pointer (some ⟨w1.heap.size, 0, none⟩)), (5, .pointer (some ⟨w.heap.size, 0, none⟩)), (1, .int .i64 ver), (0, .slice fa fs.length fc)])
      (fun s w' => s.i ≤ fs.length ∧ Below w.heap.size w w' ∧ w4.heap.size ≤ w'.heap.size ∧ Box w' w.heap.size [.int .i64 t.n, sv2, .bool t.nul, lv, uv] 26 ∧ Box w' w1.heap.size [.int .i64 0, .slice none 0 0, .bool false, .slice none 0 0, .slice none 0 0] 26 ∧ Box w' w2.heap.size [.int .i64 0, .slice none 0 0, .bool false, s.d, .slice none 0 0] 26 ∧ RowD B w4.heap.size w2.heap.size 26 5 w' s.d (((fitL ver fs 0 t).take s.i).map treeD)) (fun s => fs.length - s.i) ⟨0, .slice none 0 0, []⟩ ⟨rfl, rfl, rfl, rfl, rfl, rfl, rfl, rfl, trivial⟩ ⟨Nat.zero_le _, hw4, Nat.le_refl _, hb14, hb24, hb4, RowD.nil _ _ _ _ _ _⟩ ?_
    rintro ⟨i, d, _⟩ w5 ⟨hi, hw5, hs45, hbt5, hbz5, hbo5, hrd5⟩
    simp only [] at hi hbo5 hrd5
    change WC _ _ _ _ [(15, .int .i64 (i : Int)), (14, .int .i64 (fs.length : Int)), (13, .slice fa fs.length fc), (7, .pointer (some ⟨w2.heap.size, 0, none⟩)), (6, .pointer (some ⟨w1.heap.size, 0, none⟩)), (5, .pointer (some ⟨w.heap.size, 0, none⟩)), (1, .int .i64 ver), (0, .slice fa fs.length fc)] _
    repeat first|(with_reducible first|apply wc_seq|apply wc_region|apply wl_nil|apply qk_thn|apply wc_block|apply wc_skip|apply wc_ret|apply wc_exit|apply qk_thn_ret|apply qk_in_ret|apply qk_in|apply qk_thn_exit|apply qk_in_exit|apply qk_round_ret|apply qk_round_exit)|((with_reducible apply ws);exact rfl;exact rfl)|((with_reducible apply wl_yes);exact rfl;exact rfl;exact rfl)|((with_reducible apply wl_no);exact rfl;exact rfl;exact rfl;exact rfl)|((with_reducible apply wl_noU);exact rfl;exact rfl;exact rfl)
    by_cases hlt : i < fs.length
    · refine wc_yes rfl (by simpa using hlt) ?_
      obtain ⟨b, off, c', cs, hv, _, hcs, hlen, hr⟩ := (hf.below (hw5.mono hB) (Nat.le_refl _)).get (sz := 8) (i := i) (by intro d hd; obtain ⟨x, _, rfl⟩ := List.mem_map.1 hd; exact fldD_width x) (by simpa using hlt)
      simp only [Value.slice.injEq, List.length_map] at hv
      obtain ⟨rfl, _, rfl⟩ := hv
      simp only [List.getElem_map] at hr
      obtain ⟨hone, _⟩ := fld_one hr
      repeat first|(with_reducible first|apply wc_seq|apply wc_region|apply wl_nil|apply qk_thn|apply wc_block|apply wc_skip|apply wc_ret|apply wc_exit|apply qk_thn_ret|apply qk_in_ret|apply qk_in|apply qk_thn_exit|apply qk_in_exit|apply qk_round_ret|apply qk_round_exit)|((with_reducible apply ws);exact rfl;exact rfl)|((with_reducible apply wl_yes);exact rfl;exact rfl;exact rfl)|((with_reducible apply wl_no);exact rfl;exact rfl;exact rfl;exact rfl)|((with_reducible apply wl_noU);exact rfl;exact rfl;exact rfl)
      refine wl_indexAddr rfl rfl es_flds rfl hlt ?_
      refine wl_loadAgg rfl (by rw [hlen]; exact ta_fld) rfl (fun j v e => hcs.cell e) ?_
      refine wl_alloc zv_fld rfl rfl (fun w6 hb6 hg6 hs6 => ?_)
      repeat first|(with_reducible first|apply wc_seq|apply wc_region|apply wl_nil|apply qk_thn|apply wc_block|apply wc_skip|apply wc_ret|apply wc_exit|apply qk_thn_ret|apply qk_in_ret|apply qk_in|apply qk_thn_exit|apply qk_in_exit|apply qk_round_ret|apply qk_round_exit)|((with_reducible apply ws);exact rfl;exact rfl)|((with_reducible apply wl_yes);exact rfl;exact rfl;exact rfl)|((with_reducible apply wl_no);exact rfl;exact rfl;exact rfl;exact rfl)|((with_reducible apply wl_noU);exact rfl;exact rfl;exact rfl)
      refine wl_storeBAgg rfl rfl rfl (by rw [hlen]; exact tz_fld) hone hb6 (by rw [hlen]; rfl) (fun w7 hb7 hg7 hs7 => ?_)
      have hw57 : Below w5.heap.size w5 w7 := (below_of hg6 (Nat.le_refl _) (by simp)).trans (below_of hg7 (by omega) (by intro k hk; simp at hk; omega))
      have hw7 : Below w.heap.size w w7 := hw5.trans (hw57.mono (by omega))
      have hrd7 := hrd5.below hw57
      have hbt7 := hbt5.below hw57 hbt5.lt
      have hbz7 := hbz5.below hw57 hbz5.lt
      have hbo7 := hbo5.below hw57 hbo5.lt
      have hdl : ∀ g, d.ownBlock = some g → w4.heap.size ≤ g ∧ g < w5.heap.size := hrd5.low
      obtain ⟨da, dc, hds⟩ := hrd5.shape
      repeat first|(with_reducible first|apply wc_seq|apply wc_region|apply wl_nil|apply qk_thn|apply wc_block|apply wc_skip|apply wc_ret|apply wc_exit|apply qk_thn_ret|apply qk_in_ret|apply qk_in|apply qk_thn_exit|apply qk_in_exit|apply qk_round_ret|apply qk_round_exit)|((with_reducible apply ws);exact rfl;exact rfl)|((with_reducible apply wl_yes);exact rfl;exact rfl;exact rfl)|((with_reducible apply wl_no);exact rfl;exact rfl;exact rfl;exact rfl)|((with_reducible apply wl_noU);exact rfl;exact rfl;exact rfl)
      refine wc_parS [(0, .pointer (some ⟨w2.heap.size, 0 + 3, none⟩)), (1, d), (2, .agg cs.toArray), (3, .int .i64 ver), (4, .agg ([.int .i64 t.n, sv2, .bool t.nul, lv, uv] : List Value).toArray), (5, .int .i64 (i : Int)), (10, .pointer (some ⟨w2.heap.size, 0 + 3, none⟩))] [11, 9, 8, 7, 6]
        (fun vals w' => Below w.heap.size w w' ∧ w7.heap.size ≤ w'.heap.size ∧ Box w' w.heap.size [.int .i64 t.n, sv2, .bool t.nul, lv, uv] 26 ∧ Box w' w1.heap.size [.int .i64 0, .slice none 0 0, .bool false, .slice none 0 0, .slice none 0 0] 26 ∧ Box w' w5.heap.size cs 46 ∧ match vals with
          | [] => Below w7.heap.size w7 w'
          | [v] => Below w7.heap.size w7 w' ∧ ∃ xs' : List Value, v = .agg xs'.toArray ∧ Rep (Lo B) w' (treeD (att t i)) xs'
          | [v, _] => Below w7.heap.size w7 w' ∧ ∃ xs' : List Value, v = .agg xs'.toArray ∧ Rep (In B w7.heap.size w') w' (treeD (fitF ver fs[i] (att t i))) xs'
          | [v, _, _] => Below w7.heap.size w7 w' ∧ ∃ (b8 : Nat) (xs' : List Value), v = .slice (some ⟨b8, 0, none⟩) 1 1 ∧ Box w' b8 xs' 26 ∧ xs'.length = 5 ∧ (xs'.all fun v => v.oneCell') = true ∧ Rep (In B w7.heap.size w') w' (treeD (fitF ver fs[i] (att t i))) xs'
          | [v, _, _, _] => Box w' w2.heap.size [.int .i64 0, .slice none 0 0, .bool false, d, .slice none 0 0] 26 ∧ RowD B w4.heap.size w2.heap.size 26 5 w' v (((fitL ver fs 0 t).take (i + 1)).map treeD)
          | _ :: v :: _ => Box w' w2.heap.size [.int .i64 0, .slice none 0 0, .bool false, v, .slice none 0 0] 26 ∧ RowD B w4.heap.size w2.heap.size 26 5 w' v (((fitL ver fs 0 t).take (i + 1)).map treeD))
        mixed rfl rfl rfl rfl rfl (by show ([0,1,2,3,4,5,10] : List Nat).Nodup; decide) rfl rfl (by decide) rfl rfl rfl rfl ⟨hw7.drew, Nat.le_refl _, hbt7, hbz7, hb7, (Below.refl _ w7).drew⟩ ?_ ⟨?_, ?_, ?_, ?_, ?_, trivial⟩ ?_
      · intro p hp vals w' hC hnp a k
        obtain ⟨hC1, hC2, hC3, hC4, hC5, hC6⟩ := hC
        simp only [List.mem_cons, List.not_mem_nil, or_false] at hp
        rcases hp with rfl | rfl | rfl | rfl | rfl | rfl | rfl
        · exact gv rfl rfl (rn_fieldAddr k rfl fo_tree3)
        · have hbx : Box w' w2.heap.size [.int .i64 0, .slice none 0 0, .bool false, d, .slice none 0 0] 26 := by
            match vals, hC6, hnp with
            | [], h, _ => exact hbo7.below h hbo7.lt
            | [_], h, _ => exact hbo7.below h.1 hbo7.lt
            | [_, _], h, _ => exact hbo7.below h.1 hbo7.lt
            | [_, _, _], h, _ => exact hbo7.below h.1 hbo7.lt
            | [_, _, _, _], h, _ => exact h.1
            | _ :: _ :: _ :: _ :: _ :: r, _, hnp =>
              have := hnp 11 (by rw [show ([11, 9, 8, 7, 6] : List Nat).length - (_ :: _ :: _ :: _ :: _ :: r).length = 0 from by simp only [List.length_cons, List.length_nil]; omega]; simp)
              exact absurd (show true = false from this) (by simp)
          exact gv rfl rfl (rn_load k rfl to_trees (hbx.cell0 (i := 3) rfl))
        · exact gv rfl rfl (rn_loadBAgg k rfl (by rw [hlen]; exact ta_fld) hC5)
        · exact gv rfl rfl (rn_move k rfl)
        · exact gv rfl rfl (rn_loadBAgg k rfl ta_tree hC3)
        · exact gv rfl rfl (rn_move k rfl)
        · exact gv rfl rfl (rn_fieldAddr k rfl fo_tree3)
      · rintro vals w' hvl ⟨hC1, hC2, hC3, hC4, hC5, hC6⟩ a k
        match vals, hvl with
        | [v9, v8, v7, v6], _ =>
          obtain ⟨hbx, hrd⟩ := hC6
          obtain ⟨a9, c9, rfl⟩ := hrd.shape
          refine ⟨_, rfl, does_storeB k rfl rfl to_trees rfl hbx rfl (fun w'' hbx'' hg'' hs'' => ⟨hC1.trans (below_of hg'' (by have := hC1.size; omega) (by intro q hq; simp at hq; omega)), by omega, hC3.kept hg'' (by simp; omega), hC4.kept hg'' (by simp; omega), hC5.kept hg'' (by simp; omega), hbx'', hrd.stored hg''⟩)⟩
      · rintro vals w' hvl ⟨hC1, hC2, hC3, hC4, hC5, hC6⟩ a k
        match vals, hvl with
        | [v8, v7, v6], _ =>
          obtain ⟨hb7', b8, xs', rfl, hb8, hl5, hone', hrep⟩ := hC6
          have hrdw := hrd7.below hb7'
          obtain ⟨xs0, hrow0, hreps0⟩ := hrdw.row
          refine ⟨_, rfl, does_app1 k rt_trees rfl rfl hb8 hl5 hone' hrow0 (by omega) (by simp only [List.length_map, List.length_take, fitL_length, many]; omega) (fun d' w'' hrow'' hg'' => ?_)⟩
          have hs'' := hg''.grown.size
          have hne : ∀ q, q < w4.heap.size ∨ w5.heap.size ≤ q → some q ≠ d.ownBlock := fun q hq e => by have := hdl q e.symm; omega
          refine ⟨hC1.trans (hg''.below (by omega) (fun g hg => by have := hdl g hg; omega)), by omega, hC3.kept hg''.grown (hne _ (by omega)), hC4.kept hg''.grown (hne _ (by omega)), hC5.kept hg''.grown (hne _ (by omega)), (hbo7.below hb7' hbo7.lt).kept hg''.grown (hne _ (by omega)), ?_⟩
          have hsn := hrdw.snoc (by omega) (by omega) hreps0 (hrep.off (by omega) ⟨by omega, by omega⟩ (fun g hg => by have := hdl g hg; omega)) hrow'' hg''
          rw [fitL_take ver fs t hlt, List.map_append]
          exact hsn
      · rintro vals w' hvl ⟨hC1, hC2, hC3, hC4, hC5, hC6⟩ a k
        match vals, hvl with
        | [v7, v6], _ =>
          obtain ⟨hb7', xs', rfl, hrep⟩ := hC6
          obtain ⟨hone', hl5⟩ := treeG_one hrep
          have hga := grown_alloc w' (.cells xs'.toArray 26)
          refine ⟨_, rfl, does_slice1 k rt_trees rfl rfl hl5 rfl ⟨hC1.trans (below_of hga (by omega) (by simp)), by simp; omega, hC3.kept hga (by simp), hC4.kept hga (by simp), hC5.kept hga (by simp), hb7'.trans (below_of hga (by omega) (by simp)), _, xs', rfl, box_alloc _ _ _, hl5, hone', hrep.up (In.up (Nat.le_refl _) (by simp)) (fun r hr => hga.block r hr.2 (by simp))⟩⟩
      · rintro vals w' hvl ⟨hC1, hC2, hC3, hC4, hC5, hC6⟩ a k
        match vals, hvl with
        | [v6], _ =>
          obtain ⟨hb7', xs', rfl, hxr⟩ := hC6
          refine ⟨_, rfl, does_call k rfl (by kernel_rfl) ((hF fs[i] (List.getElem_mem hlt) ver (att t i) B w' _ _ (hok.at i) (by omega) (Rep.below hr ((hw57.trans (hb7'.mono (by omega))).mono (by omega)) (Nat.le_refl _)) hxr).mono ?_)⟩
          rintro e w'' ⟨v, rfl, hb'', cs'', rfl, hrep⟩
          exact ⟨_, rfl, hC1.trans (hb''.mono (by omega)), by have := hb''.size; omega, hC3.below hb'' hC3.lt, hC4.below hb'' hC4.lt, hC5.below hb'' hC5.lt, hb7'.trans (hb''.mono (by omega)), cs'', rfl, hrep.up (In.up (by omega) (Nat.le_refl _)) (fun _ _ => rfl)⟩
      · rintro vals w' hvl ⟨hC1, hC2, hC3, hC4, hC5, hC6⟩ a k
        match vals, hvl with
        | [], _ =>
          refine ⟨_, rfl, does_call k rfl (by kernel_rfl) ((fn_at t i B w' (by omega) _ (Rep.below ht (hC1.mono hB) (Nat.le_refl _))).mono ?_)⟩
          rintro e w'' ⟨v, rfl, hb'', xs', rfl, hxr⟩
          exact ⟨_, rfl, hC1.trans (hb''.mono (by omega)), by have := hb''.size; omega, hC3.below hb'' hC3.lt, hC4.below hb'' hC4.lt, hC5.below hb'' hC5.lt, hC6.trans (hb''.mono (by omega)), xs', rfl, hxr⟩
      · rintro vals w' hvl ⟨hC1, hC2, hC3, hC4, hC5, hC6⟩
        match vals, hvl with
        | [v11, v9, v8, v7, v6], _ =>
          refine qk_thn ?_
          repeat first|(with_reducible first|apply wc_seq|apply wc_region|apply wl_nil|apply qk_thn|apply wc_block|apply wc_skip|apply wc_ret|apply wc_exit|apply qk_thn_ret|apply qk_in_ret|apply qk_in|apply qk_thn_exit|apply qk_in_exit|apply qk_round_ret|apply qk_round_exit)|((with_reducible apply ws);exact rfl;exact rfl)|((with_reducible apply wl_yes);exact rfl;exact rfl;exact rfl)|((with_reducible apply wl_no);exact rfl;exact rfl;exact rfl;exact rfl)|((with_reducible apply wl_noU);exact rfl;exact rfl;exact rfl)
          refine wl_add rfl rfl rfl (r := ((i + 1 : Nat) : Int)) (by rw [IntKind.wrap_i64]; omega) ?_
          repeat first|(with_reducible first|apply wc_seq|apply wc_region|apply wl_nil|apply qk_thn|apply wc_block|apply wc_skip|apply wc_ret|apply wc_exit|apply qk_thn_ret|apply qk_in_ret|apply qk_in|apply qk_thn_exit|apply qk_in_exit|apply qk_round_ret|apply qk_round_exit)|((with_reducible apply ws);exact rfl;exact rfl)|((with_reducible apply wl_yes);exact rfl;exact rfl;exact rfl)|((with_reducible apply wl_no);exact rfl;exact rfl;exact rfl;exact rfl)|((with_reducible apply wl_noU);exact rfl;exact rfl;exact rfl)
          exact qk_round ⟨i + 1, v9, []⟩ ⟨rfl, rfl, rfl, rfl, rfl, rfl, rfl, rfl, trivial⟩ ⟨by simp only []; omega, hC1, by omega, hC3, hC4, hC6.1, hC6.2⟩ (by simp only []; omega)
    · refine wc_no rfl (by simpa using hlt) ?_
      repeat first|(with_reducible first|apply wc_seq|apply wc_region|apply wl_nil|apply qk_thn|apply wc_block|apply wc_skip|apply wc_ret|apply wc_exit|apply qk_thn_ret|apply qk_in_ret|apply qk_in|apply qk_thn_exit|apply qk_in_exit|apply qk_round_ret|apply qk_round_exit)|((with_reducible apply ws);exact rfl;exact rfl)|((with_reducible apply wl_yes);exact rfl;exact rfl;exact rfl)|((with_reducible apply wl_no);exact rfl;exact rfl;exact rfl;exact rfl)|((with_reducible apply wl_noU);exact rfl;exact rfl;exact rfl)
      rw [List.take_of_length_le (by rw [fitL_length]; omega)] at hrd5
      exact qk_cut d ⟨rfl, rfl, rfl, rfl, rfl, trivial⟩ ⟨hw5, hs45, hbt5, hbz5, hbo5, hrd5⟩
  rintro d w5 ⟨hw5, hs45, hbt5, hbz5, hbo5, hrd5⟩
  have hdone := hrd5.sqb
  have hdlt := hrd5.low
  obtain ⟨da, dc, rfl⟩ := hrd5.shape
  rw [List.length_map, fitL_length] at *
  refine wc_cut (α := Value) (fun _ => [(7, .pointer (some ⟨w2.heap.size, 0, none⟩)), (6, .pointer (some ⟨w1.heap.size, 0, none⟩))])
    (fun e w' => Below w.heap.size w w' ∧ w5.grownBy w' (some w2.heap.size) ∧ Box w' w1.heap.size [.int .i64 0, .slice none 0 0, .bool false, .slice none 0 0, .slice none 0 0] 26 ∧ Box w' w2.heap.size [.int .i64 0, .slice none 0 0, .bool false, .slice da fs.length dc, e] 26 ∧ RowD B w5.heap.size w2.heap.size 56 2 w' e ((others fs t.u).map tagD)) ?_ ?_
  · repeat first|(with_reducible first|apply wc_seq|apply wc_region|apply wl_nil|apply qk_thn|apply wc_block|apply wc_skip|apply wc_ret|apply wc_exit|apply qk_thn_ret|apply qk_in_ret|apply qk_in|apply qk_thn_exit|apply qk_in_exit|apply qk_round_ret|apply qk_round_exit)|((with_reducible apply ws);exact rfl;exact rfl)|((with_reducible apply wl_yes);exact rfl;exact rfl;exact rfl)|((with_reducible apply wl_no);exact rfl;exact rfl;exact rfl;exact rfl)|((with_reducible apply wl_noU);exact rfl;exact rfl;exact rfl)
    refine wl_loadB rfl to_tags rfl hbt5 rfl ?_
    refine wl_call rfl (by kernel_rfl) rfl ((fn_unknownR _ _ fs t.u B w5 (by omega) (hf.below (hw5.mono hB) (Nat.le_refl _)) (hu.below (hw5.mono hB) (Nat.le_refl _)) (fsok.tag hfs) (by omega)).mono ?_)
    rintro e w6 ⟨v, rfl, hw6, qs, hrow, hsay, hat⟩
    refine ⟨_, rfl, ?_⟩
    have hs56 := hw6.size
    have hqn : qs.length ≤ 32767 := by have := unknown_len fs t.u; rw [← hsay] at this; simpa using this
    have hoth : others fs t.u = qs.map fun q => (q.1.1, whole q.1.2) := by simp only [others, ← hsay, List.map_map]; rfl
    obtain ⟨va, vc, rfl⟩ := Row.shape hrow
    have hvb := fun g hg => World.ownsRow.lt hrow g hg
    repeat first|(with_reducible first|apply wc_seq|apply wc_region|apply wl_nil|apply qk_thn|apply wc_block|apply wc_skip|apply wc_ret|apply wc_exit|apply qk_thn_ret|apply qk_in_ret|apply qk_in|apply qk_thn_exit|apply qk_in_exit|apply qk_round_ret|apply qk_round_exit)|((with_reducible apply ws);exact rfl;exact rfl)|((with_reducible apply wl_yes);exact rfl;exact rfl;exact rfl)|((with_reducible apply wl_no);exact rfl;exact rfl;exact rfl;exact rfl)|((with_reducible apply wl_noU);exact rfl;exact rfl;exact rfl)
    refine wc_loop (α := PtS) (fun s => [(37, .int .i64 (s.i : Int)), (36, .int .i64 (qs.length : Int)), (35, .slice va qs.length vc), (7, .pointer (some ⟨w2.heap.size, 0, none⟩)), (6, .pointer (some ⟨w1.heap.size, 0, none⟩)), (5, .pointer (some ⟨w.heap.size, 0, none⟩))])
      (fun s w' => s.i ≤ qs.length ∧ Below w.heap.size w w' ∧ w6.heap.size ≤ w'.heap.size ∧ w5.grownBy w' (some w2.heap.size) ∧ Box w' w.heap.size [.int .i64 t.n, sv2, .bool t.nul, lv, uv] 26 ∧ Box w' w1.heap.size [.int .i64 0, .slice none 0 0, .bool false, .slice none 0 0, .slice none 0 0] 26 ∧ Box w' w2.heap.size [.int .i64 0, .slice none 0 0, .bool false, .slice da fs.length dc, s.d] 26 ∧ RowD B w6.heap.size w2.heap.size 56 2 w' s.d ((qs.take s.i).map fun q => tagD (q.1.1, whole q.1.2)) ∧ w'.ownsRow w5.heap.size 56 2 (.slice va qs.length vc) qs.length (tcells qs)) (fun s => qs.length - s.i) ⟨0, .slice none 0 0, []⟩ ⟨rfl, rfl, rfl, rfl, rfl, rfl, trivial⟩ ⟨Nat.zero_le _, hw5.trans (hw6.mono (by omega)), Nat.le_refl _, ⟨hw6.os, hw6.tape, hw6.output, hw6.size, fun k hk _ => hw6.block k hk⟩, hbt5.below hw6 hbt5.lt, hbz5.below hw6 hbz5.lt, hbo5.below hw6 hbo5.lt, RowD.nil _ _ _ _ _ _, hrow⟩ ?_
    rintro ⟨i, e, _⟩ w7 ⟨hi, hw7, hs67, hgb7, hbt7, hbz7, hbo7, hrd7, hrow7⟩
    simp only [] at hi hbo7 hrd7
    change WC _ _ _ _ [(37, .int .i64 (i : Int)), (36, .int .i64 (qs.length : Int)), (35, .slice va qs.length vc), (7, .pointer (some ⟨w2.heap.size, 0, none⟩)), (6, .pointer (some ⟨w1.heap.size, 0, none⟩)), (5, .pointer (some ⟨w.heap.size, 0, none⟩))] _
    repeat first|(with_reducible first|apply wc_seq|apply wc_region|apply wl_nil|apply qk_thn|apply wc_block|apply wc_skip|apply wc_ret|apply wc_exit|apply qk_thn_ret|apply qk_in_ret|apply qk_in|apply qk_thn_exit|apply qk_in_exit|apply qk_round_ret|apply qk_round_exit)|((with_reducible apply ws);exact rfl;exact rfl)|((with_reducible apply wl_yes);exact rfl;exact rfl;exact rfl)|((with_reducible apply wl_no);exact rfl;exact rfl;exact rfl;exact rfl)|((with_reducible apply wl_noU);exact rfl;exact rfl;exact rfl)
    by_cases hlt : i < qs.length
    · refine wc_yes rfl (by simpa using hlt) ?_
      obtain ⟨g, cap, hde, hg1, hg2', hca⟩ := Row.cells hrow7 (by omega)
      simp only [Value.slice.injEq, true_and] at hde
      obtain ⟨rfl, rfl⟩ := hde
      have hvg := hvb g rfl
      have hcj := tcells_at hca hlt
      have hsq5 := hat qs[i] (List.getElem_mem hlt)
      have hone : (([.int .u32 (qs[i].1.1 : Nat), qs[i].2] : List Value).all fun v => v.oneCell') = true := by
        obtain ⟨a3, c3, h3, _⟩ := hsq5.shape
        rw [h3]; rfl
      repeat first|(with_reducible first|apply wc_seq|apply wc_region|apply wl_nil|apply qk_thn|apply wc_block|apply wc_skip|apply wc_ret|apply wc_exit|apply qk_thn_ret|apply qk_in_ret|apply qk_in|apply qk_thn_exit|apply qk_in_exit|apply qk_round_ret|apply qk_round_exit)|((with_reducible apply ws);exact rfl;exact rfl)|((with_reducible apply wl_yes);exact rfl;exact rfl;exact rfl)|((with_reducible apply wl_no);exact rfl;exact rfl;exact rfl;exact rfl)|((with_reducible apply wl_noU);exact rfl;exact rfl;exact rfl)
      refine wl_indexAddr rfl rfl es_tags rfl hlt ?_
      refine wl_loadAgg (cs := [.int .u32 (qs[i].1.1 : Nat), qs[i].2]) rfl ta_tag rfl (fun j v e => hcj.cell e) ?_
      refine wl_alloc zv_tag rfl rfl (fun w8 hb8 hg8 hs8 => ?_)
      refine wl_storeBAgg (vs := [.int .u32 (qs[i].1.1 : Nat), qs[i].2]) rfl rfl rfl tz_tag hone hb8 rfl (fun w9 hb9 hg9 hs9 => ?_)
      have hw79 : Below w7.heap.size w7 w9 := (below_of hg8 (Nat.le_refl _) (by simp)).trans (below_of hg9 (by omega) (by intro k hk; simp at hk; omega))
      have hw9 : Below w.heap.size w w9 := hw7.trans (hw79.mono (by omega))
      have hgb9 : w5.grownBy w9 (some w2.heap.size) := grown_but hgb7 (grown_of hw79) (fun g h => by cases h)
      have hbt9 := hbt7.below hw79 hbt7.lt
      have hbz9 := hbz7.below hw79 hbz7.lt
      have hbo9 := hbo7.below hw79 hbo7.lt
      have hrd9 := hrd7.below hw79
      have hrow9 := Row.kept hrow7 (grown_of hw79) (fun g _ => by simp)
      have hel : ∀ g, e.ownBlock = some g → w6.heap.size ≤ g ∧ g < w7.heap.size := hrd7.low
      have hsq9 : Sq B w9 qs[i].2 (qs[i].1.2.map byteD) := hsq5.below (Below.between (hw5.mono hB) (hw9.mono hB) (by omega)) (Nat.le_refl _)
      have hs79 := hw79.size
      repeat first|(with_reducible first|apply wc_seq|apply wc_region|apply wl_nil|apply qk_thn|apply wc_block|apply wc_skip|apply wc_ret|apply wc_exit|apply qk_thn_ret|apply qk_in_ret|apply qk_in|apply qk_thn_exit|apply qk_in_exit|apply qk_round_ret|apply qk_round_exit)|((with_reducible apply ws);exact rfl;exact rfl)|((with_reducible apply wl_yes);exact rfl;exact rfl;exact rfl)|((with_reducible apply wl_no);exact rfl;exact rfl;exact rfl;exact rfl)|((with_reducible apply wl_noU);exact rfl;exact rfl;exact rfl)
      refine wc_parS [(0, .pointer (some ⟨w2.heap.size, 0 + 4, none⟩)), (1, e), (2, .pointer (some ⟨w7.heap.size, 0 + 0, none⟩)), (3, .int .u32 (qs[i].1.1 : Nat)), (4, .pointer (some ⟨w7.heap.size, 0 + 1, none⟩)), (5, qs[i].2), (10, .pointer (some ⟨w2.heap.size, 0 + 4, none⟩))] [11, 9, 8, 7, 6]
        (fun vals w' => Below w.heap.size w w' ∧ w9.heap.size ≤ w'.heap.size ∧ w5.grownBy w' (some w2.heap.size) ∧ Box w' w.heap.size [.int .i64 t.n, sv2, .bool t.nul, lv, uv] 26 ∧ Box w' w1.heap.size [.int .i64 0, .slice none 0 0, .bool false, .slice none 0 0, .slice none 0 0] 26 ∧ Box w' w7.heap.size [.int .u32 (qs[i].1.1 : Nat), qs[i].2] 56 ∧ w'.ownsRow w5.heap.size 56 2 (.slice (some ⟨g, 0, none⟩) qs.length vc) qs.length (tcells qs) ∧ match vals with
          | [] => Below w9.heap.size w9 w'
          | [v] => Below w9.heap.size w9 w' ∧ Sq B w' v ((whole qs[i].1.2).map byteD)
          | [v, _] => Below w9.heap.size w9 w' ∧ ∃ xs' : List Value, v = .agg xs'.toArray ∧ Rep (Lo B) w' (tagD (qs[i].1.1, whole qs[i].1.2)) xs'
          | [v, _, _] => Below w9.heap.size w9 w' ∧ ∃ (b8 : Nat) (xs' : List Value), v = .slice (some ⟨b8, 0, none⟩) 1 1 ∧ Box w' b8 xs' 56 ∧ xs'.length = 2 ∧ (xs'.all fun v => v.oneCell') = true ∧ Rep (Lo B) w' (tagD (qs[i].1.1, whole qs[i].1.2)) xs'
          | [v, _, _, _] => Box w' w2.heap.size [.int .i64 0, .slice none 0 0, .bool false, .slice da fs.length dc, e] 26 ∧ RowD B w6.heap.size w2.heap.size 56 2 w' v ((qs.take (i + 1)).map fun q => tagD (q.1.1, whole q.1.2))
          | _ :: v :: _ => Box w' w2.heap.size [.int .i64 0, .slice none 0 0, .bool false, .slice da fs.length dc, v] 26 ∧ RowD B w6.heap.size w2.heap.size 56 2 w' v ((qs.take (i + 1)).map fun q => tagD (q.1.1, whole q.1.2)))
        mixed rfl rfl rfl rfl rfl (by show ([0,1,2,3,4,5,10] : List Nat).Nodup; decide) rfl rfl (by decide) rfl rfl rfl rfl ⟨hw9.drew, Nat.le_refl _, grown_but hgb9 (grown_drew w9 none) (fun g h => by cases h), hbt9, hbz9, hb9, hrow9, (Below.refl _ w9).drew⟩ ?_ ⟨?_, ?_, ?_, ?_, ?_, trivial⟩ ?_
      · intro p hp vals w' hC hnp a k
        obtain ⟨hC1, hC2, hC3, hC4, hC5, hC6, hC7, hC8⟩ := hC
        simp only [List.mem_cons, List.not_mem_nil, or_false] at hp
        rcases hp with rfl | rfl | rfl | rfl | rfl | rfl | rfl
        · exact gv rfl rfl (rn_fieldAddr k rfl fo_tree4)
        · have hbx : Box w' w2.heap.size [.int .i64 0, .slice none 0 0, .bool false, .slice da fs.length dc, e] 26 := by
            match vals, hC8, hnp with
            | [], h, _ => exact hbo9.below h hbo9.lt
            | [_], h, _ => exact hbo9.below h.1 hbo9.lt
            | [_, _], h, _ => exact hbo9.below h.1 hbo9.lt
            | [_, _, _], h, _ => exact hbo9.below h.1 hbo9.lt
            | [_, _, _, _], h, _ => exact h.1
            | _ :: _ :: _ :: _ :: _ :: r, _, hnp =>
              have := hnp 11 (by rw [show ([11, 9, 8, 7, 6] : List Nat).length - (_ :: _ :: _ :: _ :: _ :: r).length = 0 from by simp only [List.length_cons, List.length_nil]; omega]; simp)
              exact absurd (show true = false from this) (by simp)
          exact gv rfl rfl (rn_load k rfl to_tags (hbx.cell0 (i := 4) rfl))
        · exact gv rfl rfl (rn_fieldAddr k rfl fo_tag0)
        · exact gv rfl rfl (rn_load k rfl to_u32 (hC6.cell0 (i := 0) rfl))
        · exact gv rfl rfl (rn_fieldAddr k rfl fo_tag1)
        · exact gv rfl rfl (rn_load k rfl to_bytes (hC6.cell0 (i := 1) rfl))
        · exact gv rfl rfl (rn_fieldAddr k rfl fo_tree4)
      · rintro vals w' hvl ⟨hC1, hC2, hC3, hC4, hC5, hC6, hC7, hC8⟩ a k
        match vals, hvl with
        | [v9, v8, v7, v6], _ =>
          obtain ⟨hbx, hrd⟩ := hC8
          obtain ⟨a9, c9, rfl⟩ := hrd.shape
          refine ⟨_, rfl, does_storeB k rfl rfl to_tags rfl hbx rfl (fun w'' hbx'' hg'' hs'' => ⟨hC1.trans (below_of hg'' (by omega) (by intro q hq; simp at hq; omega)), by omega, grown_but hC3 hg'' (fun g h => .inl (by simpa using h.symm)), hC4.kept hg'' (by simp; omega), hC5.kept hg'' (by simp; omega), hC6.kept hg'' (by simp; omega), Row.kept hC7 hg'' (fun q hq e => by have := hvb q hq; simp at e; omega), hbx'', hrd.stored hg''⟩)⟩
      · rintro vals w' hvl ⟨hC1, hC2, hC3, hC4, hC5, hC6, hC7, hC8⟩ a k
        match vals, hvl with
        | [v8, v7, v6], _ =>
          obtain ⟨hb9', b8, xs', rfl, hb8', hl2, hone', hrep⟩ := hC8
          have hrdw := hrd9.below hb9'
          obtain ⟨xs0, hrow0, hreps0⟩ := hrdw.row
          refine ⟨_, rfl, does_app1 k rt_tags rfl rfl hb8' hl2 hone' hrow0 (by omega) (by simp only [List.length_map, List.length_take, many]; omega) (fun d' w'' hrow'' hg'' => ?_)⟩
          have hs'' := hg''.grown.size
          have hne : ∀ q, q < w6.heap.size ∨ w7.heap.size ≤ q → some q ≠ e.ownBlock := fun q hq h => by have := hel q h.symm; omega
          refine ⟨hC1.trans (hg''.below (by omega) (fun g hg => by have := hel g hg; omega)), by omega, grown_but hC3 hg''.grown (fun q hq => .inr (by have := hel q hq; omega)), hC4.kept hg''.grown (hne _ (by omega)), hC5.kept hg''.grown (hne _ (by omega)), hC6.kept hg''.grown (hne _ (by omega)), Row.kept hC7 hg''.grown (fun q hq h => by have h1 := hvb q hq; have h2 := hel q h; omega), (hbo9.below hb9' hbo9.lt).kept hg''.grown (hne _ (by omega)), ?_⟩
          have hsn := hrdw.snoc (by omega) (by omega) hreps0 (hrep.offLo (by omega) (by omega) (fun g hg => by have := hel g hg; omega)) hrow'' hg''
          rw [List.take_succ_eq_append_getElem hlt, List.map_append]
          exact hsn
      · rintro vals w' hvl ⟨hC1, hC2, hC3, hC4, hC5, hC6, hC7, hC8⟩ a k
        match vals, hvl with
        | [v7, v6], _ =>
          obtain ⟨hb9', xs', rfl, hrep⟩ := hC8
          obtain ⟨hone', hl2⟩ := tag_one hrep
          have hga := grown_alloc w' (.cells xs'.toArray 56)
          refine ⟨_, rfl, does_slice1 k rt_tags rfl rfl hl2 rfl ⟨hC1.trans (below_of hga (by omega) (by simp)), by simp; omega, grown_but hC3 hga (fun g h => by cases h), hC4.kept hga (by simp), hC5.kept hga (by simp), hC6.kept hga (by simp), Row.kept hC7 hga (fun q _ => by simp), hb9'.trans (below_of hga (by omega) (by simp)), _, xs', rfl, box_alloc _ _ _, hl2, hone', hrep.up (fun _ h => h) (fun r hr => hga.block r (by simp only [Lo] at hr; omega) (by simp))⟩⟩
      · rintro vals w' hvl ⟨hC1, hC2, hC3, hC4, hC5, hC6, hC7, hC8⟩ a k
        match vals, hvl with
        | [v6], _ =>
          obtain ⟨hb9', hsq6⟩ := hC8
          obtain ⟨a6, c6, rfl, _⟩ := hsq6.shape
          refine ⟨_, rfl, does_build (cs := [.int .u32 (qs[i].1.1 : Nat), .slice a6 ((whole qs[i].1.2).map byteD).length c6]) k rfl (by kernel_rfl) ⟨hC1, hC2, hC3, hC4, hC5, hC6, hC7, hb9', _, rfl, rep_tag hsq6⟩⟩
      · rintro vals w' hvl ⟨hC1, hC2, hC3, hC4, hC5, hC6, hC7, hC8⟩ a k
        match vals, hvl with
        | [], _ =>
          simp only [] at hC8
          have hsqw := hsq9.below (hC8.mono (by omega)) (Nat.le_refl _)
          refine ⟨_, rfl, does_call k rfl (by kernel_rfl) ((fn_whole _ _ _ _ hsqw).mono ?_)⟩
          rintro e' w'' ⟨v, rfl, hb'', rfl, hsq'⟩
          rw [whole_map] at hsq'
          exact ⟨_, rfl, hC1, hC2, hC3, hC4, hC5, hC6, hC7, hC8, hsq'⟩
      · rintro vals w' hvl ⟨hC1, hC2, hC3, hC4, hC5, hC6, hC7, hC8⟩
        match vals, hvl with
        | [v11, v9, v8, v7, v6], _ =>
          refine qk_thn ?_
          repeat first|(with_reducible first|apply wc_seq|apply wc_region|apply wl_nil|apply qk_thn|apply wc_block|apply wc_skip|apply wc_ret|apply wc_exit|apply qk_thn_ret|apply qk_in_ret|apply qk_in|apply qk_thn_exit|apply qk_in_exit|apply qk_round_ret|apply qk_round_exit)|((with_reducible apply ws);exact rfl;exact rfl)|((with_reducible apply wl_yes);exact rfl;exact rfl;exact rfl)|((with_reducible apply wl_no);exact rfl;exact rfl;exact rfl;exact rfl)|((with_reducible apply wl_noU);exact rfl;exact rfl;exact rfl)
          refine wl_add rfl rfl rfl (r := ((i + 1 : Nat) : Int)) (by rw [IntKind.wrap_i64]; omega) ?_
          repeat first|(with_reducible first|apply wc_seq|apply wc_region|apply wl_nil|apply qk_thn|apply wc_block|apply wc_skip|apply wc_ret|apply wc_exit|apply qk_thn_ret|apply qk_in_ret|apply qk_in|apply qk_thn_exit|apply qk_in_exit|apply qk_round_ret|apply qk_round_exit)|((with_reducible apply ws);exact rfl;exact rfl)|((with_reducible apply wl_yes);exact rfl;exact rfl;exact rfl)|((with_reducible apply wl_no);exact rfl;exact rfl;exact rfl;exact rfl)|((with_reducible apply wl_noU);exact rfl;exact rfl;exact rfl)
          exact qk_round ⟨i + 1, v9, []⟩ ⟨rfl, rfl, rfl, rfl, rfl, rfl, trivial⟩ ⟨by simp only []; omega, hC1, by omega, hC3, hC4, hC5, hC8.1, hC8.2, hC7⟩ (by simp only []; omega)
    · refine wc_no rfl (by simpa using hlt) ?_
      repeat first|(with_reducible first|apply wc_seq|apply wc_region|apply wl_nil|apply qk_thn|apply wc_block|apply wc_skip|apply wc_ret|apply wc_exit|apply qk_thn_ret|apply qk_in_ret|apply qk_in|apply qk_thn_exit|apply qk_in_exit|apply qk_round_ret|apply qk_round_exit)|((with_reducible apply ws);exact rfl;exact rfl)|((with_reducible apply wl_yes);exact rfl;exact rfl;exact rfl)|((with_reducible apply wl_no);exact rfl;exact rfl;exact rfl;exact rfl)|((with_reducible apply wl_noU);exact rfl;exact rfl;exact rfl)
      rw [List.take_of_length_le (by omega)] at hrd7
      refine qk_cut e ⟨rfl, rfl, trivial⟩ ⟨hw7, hgb7, hbz7, hbo7, ?_⟩
      rw [hoth, List.map_map]
      obtain ⟨ha, hlo, xs, hr, hx⟩ := hrd7
      refine ⟨ha, fun g hg => by have := hlo g hg; omega, xs, Row.mono hr hs56, hx.up (fun r hr => ⟨hr.1.elim .inl (fun x => .inr (by omega)), hr.2⟩) (fun _ _ => rfl)⟩
  rintro e w6 ⟨hw6, hgb6, hbz6, hbo6, hrd6⟩
  obtain ⟨ea, ec, hes⟩ := hrd6.shape
  subst hes
  repeat first|(with_reducible first|apply wc_seq|apply wc_region|apply wl_nil|apply qk_thn|apply wc_block|apply wc_skip|apply wc_ret|apply wc_exit|apply qk_thn_ret|apply qk_in_ret|apply qk_in|apply qk_thn_exit|apply qk_in_exit|apply qk_round_ret|apply qk_round_exit)|((with_reducible apply ws);exact rfl;exact rfl)|((with_reducible apply wl_yes);exact rfl;exact rfl;exact rfl)|((with_reducible apply wl_no);exact rfl;exact rfl;exact rfl;exact rfl)|((with_reducible apply wl_noU);exact rfl;exact rfl;exact rfl)
  refine wl_loadBAgg (cs := [.int .i64 0, .slice none 0 0, .bool false, .slice da fs.length dc, .slice ea ((others fs t.u).map tagD).length ec]) rfl ta_tree rfl hbo6 ?_
  refine wl_storeBAgg (vs := [.int .i64 0, .slice none 0 0, .bool false, .slice da fs.length dc, .slice ea ((others fs t.u).map tagD).length ec]) rfl rfl rfl tz_tree rfl hbz6 rfl (fun w7 hbz7 hg7 hs7 => ?_)
  repeat first|(with_reducible first|apply wc_seq|apply wc_region|apply wl_nil|apply qk_thn|apply wc_block|apply wc_skip|apply wc_ret|apply wc_exit|apply qk_thn_ret|apply qk_in_ret|apply qk_in|apply qk_thn_exit|apply qk_in_exit|apply qk_round_ret|apply qk_round_exit)|((with_reducible apply ws);exact rfl;exact rfl)|((with_reducible apply wl_yes);exact rfl;exact rfl;exact rfl)|((with_reducible apply wl_no);exact rfl;exact rfl;exact rfl;exact rfl)|((with_reducible apply wl_noU);exact rfl;exact rfl;exact rfl)
  have hs56 := hgb6.size
  refine qk_retCell (cs := [.int .i64 0, .slice none 0 0, .bool false, .slice da fs.length dc, .slice ea ((others fs t.u).map tagD).length ec]) rfl rfl ta_tree hbz7 ⟨_, rfl, hw6.trans (below_of hg7 (by have := hw6.size; omega) (by intro q hq; simp at hq; omega)), _, rfl, ?_⟩
  have hse := hrd6.sqb
  refine rep_tree (rep_nil _ _) ?_ ?_
  · refine hdone.up (fun r hr => In.up (by omega) (by omega) r hr.1) (fun r hr => ?_)
    have h1 : r ≠ w1.heap.size := by
      rcases hr.1.1 with h | h <;> omega
    rw [hg7.block r (by have := hr.1.2; omega) (by simp; omega), hgb6.block r hr.1.2 (by simpa using hr.2)]
  · refine hse.up (fun r hr => In.up (by omega) (by omega) r hr.1) (fun r hr => ?_)
    have h1 : r ≠ w1.heap.size := by
      rcases hr.1.1 with h | h <;> omega
    rw [hg7.block r hr.1.2 (by simp; omega)]
end
end Go.Proofs.Ytaoecdeljfdmeaa
