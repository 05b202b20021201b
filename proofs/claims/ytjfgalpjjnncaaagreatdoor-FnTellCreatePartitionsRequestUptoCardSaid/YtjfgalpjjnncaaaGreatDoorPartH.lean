/- FnTellCreatePartitionsRequest: the row, and its card, its one listed variable tied to the program's text (the tie is given). Conditions: those of the row, no others. -/
import Derived.Test.YtjfgalpjjnncaaaGreatDoorPartG
import Derived.Test.YtjfgalpjjnncaaaGreatDoorPartA
import Derived.Test.YtjfgalpjjnncaaaGreatDoorPartD
import Derived.Test.YtjfgalpjjnncaaaGreatDoorPartF
import Derived.ProofKit
import Derived.OpenShut
import Derived.Test.YtjfgalpjjnncaaaGreatDoorPartE
import Derived.Test.YtjfgalpjjnncaaaGreatDoorRows
import Derived.Test.YtjfgalpjjnncaaaGreatDoorCards
import Derived.Test.YtjfgalpjjnncaaaGreatDoorTie
import Derived.ChangeSame
import Derived.ChangeVars
import Derived.JoinedOf
import Derived.RowKit
import Derived.RowKitTokens
import Derived.LaidLaws
import Derived.LaidHandle
import Derived.Stop.Joined
import Derived.SevenTiedAt
import Derived.Deep.DeepHandedRow
import Derived.Deep.DeepWitnessRowRef
set_option linter.all false
namespace Go.Proofs.YtjfgalpjjnncaaaGreatDoor
open Go Go.RowKit
theorem toFs_get {ver : Int} {flex : Bool} : ∀ {fs : List Fld} {k : Nat} {t : Tree} {l : List Tree}, ToFs ver flex fs k t l → l.length = fs.length ∧ ∀ (i : Nat) (h : i < fs.length) (h' : i < l.length), if fs[i].has ver = true then ToF ver flex fs[i] (att t (k + i)) l[i] else UsF fs[i] l[i]
 | [], k, t, l, h => by simp only [ToFs] at h; subst h; exact ⟨rfl, fun i h => by simp at h⟩
 | f :: fs, k, t, l, h => by
  simp only [ToFs] at h
  obtain ⟨x, r, rfl, h1, h2⟩ := h
  obtain ⟨k1, k2⟩ := toFs_get h2
  refine ⟨by simp [k1], fun i hi hi' => ?_⟩
  cases i with
  | zero => exact h1
  | succ i =>
   have := k2 i (by simpa using hi) (by simpa using hi')
   rw [show k + 1 + i = k + (i + 1) by omega] at this
   exact this
def PF (f : Fld) (y : Tree) (j : Nat) (v : Value) (w : World) : Prop := match j with
 | 1 => Sq w.heap.size w v ([f].map fldD)
 | 7 => Sq w.heap.size w v ([y].map treeD)
 | 8 => ∃ cs : List Value, v = .agg cs.toArray ∧ Rep (Lo w.heap.size) w (treeD (.mk 0 [] false [y] [])) cs
 | 9 => v = .bool true
 | 10 => v = .bool false
 | _ => True
theorem PF.up {f : Fld} {y : Tree} {j : Nat} {v : Value} {w w' : World} (h : PF f y j v w) (hb : Below w.heap.size w w') : PF f y j v w' := by
 unfold PF at *
 split at h
 ·exact h.below hb hb.size
 ·exact h.below hb hb.size
 ·obtain ⟨cs, rfl, hr⟩ := h; exact ⟨cs, rfl, Rep.below hr hb hb.size⟩
 ·exact h
 ·exact h
 ·trivial
theorem qk_at {Q : Exit → Act → World → Prop} {N : Nat} {L : Sl} {w : World} {a : Act} {e : Exit} (k : Kn N a L) (h : QK e Q N L w) : Q e a w := h a k
theorem sq_new {w : World} {e : TypeId} {cs : List Value} {d : D} (h : Rep (Lo w.heap.size) w d cs) : Sq (w.alloc (.cells cs.toArray e)).heap.size (w.alloc (.cells cs.toArray e)) (.slice (some ⟨w.heap.size, 0, none⟩) 1 1) [d] := by
 simp only [Sq, Rep]
 have hb : Below w.heap.size w (w.alloc (.cells cs.toArray e)) := below_of (grown_alloc w _) (Nat.le_refl _) (by simp)
 refine ⟨_, _, rfl, Nat.le_refl _, .inr ⟨w.heap.size, 0, cs, rfl, ?_, (box_alloc w cs e).cells, ?_⟩⟩
 ·show w.heap.size < _
  simp
 ·simp only [Reps]
  exact ⟨cs, [], by simp, Rep.below h hb (by simp), rfl⟩
theorem tree_of_list {ok : Nat → Prop} {w : World} {l : List Tree} {lv : Value} (h : Rep ok w (.sq (l.map treeD)) [lv]) : Rep ok w (treeD (.mk 0 [] false l [])) [.int .i64 0, .slice none 0 0, .bool false, lv, .slice none 0 0] := by
 simp only [treeD, treeDs_map, Rep, Reps, bytesD, List.map_nil] at h ⊢
 exact ⟨[_], _, rfl, rfl, [_], _, rfl, ⟨none, 0, rfl, by simp, .inl trivial⟩, [_], _, rfl, rfl, [_], _, rfl, h, [_], _, rfl, ⟨none, 0, rfl, by simp, .inl trivial⟩, rfl⟩
section
set_option maxRecDepth 100000
theorem rtF : rowTy Tryz.prog 29 53 8 = true := by kernel_rfl
theorem rtT : rowTy Tryz.prog 23 26 5 = true := by kernel_rfl
set_option maxHeartbeats 8000000 in
theorem told_part (ver : Int) (flex : Bool) (fs : List Fld) (hfs : fsok fs = true) (htab : tabTs fs = true) (hF : ∀ f ∈ fs, ToFOK ver flex f) : ToOK ver flex fs := by
 intro t g B w fv ts gs hok hB hf ht hg hto
 have hfl := fsok.len hfs
 obtain ⟨fa, fc, rfl, _⟩ := hf.shape
 obtain ⟨sv2, lv, uv, rfl, _, _, huu⟩ := tree_cells ht
 obtain ⟨ua, uc, rfl, _⟩ := huu.shape
 obtain ⟨gsv, glv, guv, rfl, _, hgl, hgu⟩ := tree_cells hg
 obtain ⟨gla, glc, rfl, _⟩ := hgl.shape
 obtain ⟨gua, guc, rfl, _⟩ := hgu.shape
 obtain ⟨hto1, hto2⟩ := hto
 obtain ⟨hlen, hget⟩ := toFs_get hto1
 simp only [List.length_map] at *
 refine enter Tryz.func16 rfl Tryz.ntmps16 rfl ?_
 repeat (with_reducible first|apply wc_seq|apply wc_region)
 refine wl_box1 rfl rfl rfl (fun w1 hb1 hg1 hs1 => wl_box1 rfl rfl rfl (fun w2 hb2 hg2 hs2 => ?_))
 have hw2 : Below w.heap.size w w2 := (below_of hg1 (Nat.le_refl _) (by simp)).trans (below_of hg2 (by omega) (by simp))
 have hbT : ∀ w', Below w2.heap.size w2 w' → Box w' w.heap.size [.int .i64 t.n, sv2, .bool t.nul, lv, .slice ua t.u.length uc] 26 := fun w' h => (hb1.kept hg2 (by simp)).below h (by omega)
 have hbG : ∀ w', Below w2.heap.size w2 w' → Box w' w1.heap.size [.int .i64 g.n, gsv, .bool g.nul, .slice gla g.l.length glc, .slice gua g.u.length guc] 26 := fun w' h => hb2.below h (by omega)
 repeat first|(with_reducible first|apply wc_seq|apply wc_region|apply wl_nil|apply qk_thn)|((with_reducible apply ws);exact rfl;exact rfl)
 refine wl_loadB rfl to_trees rfl hb2 rfl ?_
 repeat first|(with_reducible first|apply wl_nil|apply qk_thn)|((with_reducible apply ws);exact rfl;exact rfl)
 refine wc_no rfl (by rw [hlen]; simp) ?_
 refine wc_skip (qk_thn ?_)
 refine wc_cut (α := Unit) (fun _ => [(0, .slice fa fs.length fc), (1, .int .i64 ver), (2, .bool flex), (8, .pointer (some ⟨w.heap.size, 0, none⟩)), (9, .pointer (some ⟨w1.heap.size, 0, none⟩))]) (fun _ w' => Below w2.heap.size w2 w') ?_ ?_
 ·repeat first|(with_reducible first|apply wc_seq|apply wc_region|apply wl_nil|apply qk_thn|apply wc_block)|((with_reducible apply ws);exact rfl;exact rfl)
  refine wc_loop (α := Nat) (fun i => [(25, .int .i64 (i : Int)), (24, .int .i64 (fs.length : Int)), (23, .slice fa fs.length fc), (0, .slice fa fs.length fc), (1, .int .i64 ver), (2, .bool flex), (8, .pointer (some ⟨w.heap.size, 0, none⟩)), (9, .pointer (some ⟨w1.heap.size, 0, none⟩))]) (fun i w' => i ≤ fs.length ∧ Below w2.heap.size w2 w') (fun i => fs.length - i) 0 ⟨rfl, rfl, rfl, rfl, rfl, rfl, rfl, rfl, trivial⟩ ⟨Nat.zero_le _, Below.refl _ _⟩ ?_
  rintro i w3 ⟨hi, hw3⟩
  have hs23 := hw3.size
  have hw03 : Below w.heap.size w w3 := hw2.trans (hw3.mono (by omega))
  repeat first|(with_reducible first|apply wc_seq|apply wc_region|apply wl_nil|apply qk_thn)|((with_reducible apply ws);exact rfl;exact rfl)
  by_cases hlt : i < fs.length
  ·refine wc_yes rfl (by simpa using hlt) ?_
   obtain ⟨b, off, c', cs, hv, _, hcs, hcl, hr⟩ := (hf.below (hw03.mono hB) (Nat.le_refl _)).get (sz := 8) (i := i) (by intro d hd; obtain ⟨x, _, rfl⟩ := List.mem_map.1 hd; exact fldD_width x) (by simpa using hlt)
   simp only [Value.slice.injEq, List.length_map] at hv
   obtain ⟨rfl, _, rfl⟩ := hv
   simp only [List.getElem_map] at hr
   obtain ⟨hone, _⟩ := fld_one hr
   have hfin : fs[i] ∈ fs := List.getElem_mem hlt
   have hfT := tabTs_get htab fs[i] hfin
   have hFi := hF fs[i] hfin
   have hfk := fsok.mem hfs fs[i] hfin
   have hti := hget i hlt (by omega)
   rw [Nat.zero_add] at hti
   generalize hff : fs[i] = f at *
   obtain ⟨sv, rfl, hsub⟩ := fld_cells hr
   have htag := tabT_tag hfT
   repeat first|(with_reducible first|apply wc_seq|apply wc_region|apply qk_thn|apply wc_block|apply wc_skip)|((with_reducible apply ws);exact rfl;exact rfl)
   refine wl_indexAddr rfl rfl es_flds rfl hlt ?_
   refine wl_loadAgg (cs := [.int .i64 f.kind, .int .i64 f.fr, .int .i64 f.upto, .int .i64 f.nul, .int .i64 f.tag, .int .i64 f.df, .int .i64 f.of, sv]) rfl ta_fld rfl (fun j v e => hcs.cell e) ?_
   refine wl_alloc zv_fld rfl rfl (fun w4 hbx4 hg4 hs4 => ?_)
   repeat ((with_reducible apply ws);exact rfl;exact rfl)
   refine wl_storeBAgg (vs := [.int .i64 f.kind, .int .i64 f.fr, .int .i64 f.upto, .int .i64 f.nul, .int .i64 f.tag, .int .i64 f.df, .int .i64 f.of, sv]) rfl rfl rfl tz_fld hone hbx4 rfl (fun w5 hbx5 hg5 hs5 => ?_)
   have hw35 : Below w3.heap.size w3 w5 := (below_of hg4 (Nat.le_refl _) (by simp)).trans (below_of hg5 (by omega) (by intro k hk; simp at hk; omega))
   have hw05 : Below w.heap.size w w5 := hw03.trans (hw35.mono (by omega))
   have hw25 : Below w2.heap.size w2 w5 := hw3.trans (hw35.mono (by omega))
   repeat (with_reducible first|apply wc_seq|apply wc_region|apply wl_nil|apply qk_thn)
   refine wl_loadBAgg (cs := [.int .i64 t.n, sv2, .bool t.nul, lv, .slice ua t.u.length uc]) rfl ta_tree rfl (hbT _ hw25) ?_
   repeat ((with_reducible apply ws);exact rfl;exact rfl)
   refine wl_call rfl (by kernel_rfl) rfl ((fn_at t i B w5 (by omega) _ (Rep.below ht (hw05.mono hB) (Nat.le_refl _))).mono ?_)
   rintro e w6 ⟨v, rfl, hw56, xs, rfl, hxr⟩
   refine ⟨_, rfl, ?_⟩
   have hxok : (att t i).ok := hok.at i
   generalize hxx : att t i = x at *
   obtain ⟨honex, hxl5⟩ := tree_one hxr
   refine wl_alloc zv_tree rfl rfl (fun w7 hbx7 hg7 hs7 => ?_)
   skip
   refine wl_storeBAgg (vs := xs) rfl rfl rfl (by rw [hxl5]; exact tz_tree) honex hbx7 (by rw [hxl5]; rfl) (fun w8 hbx8 hg8 hs8 => ?_)
   have hs56 := hw56.size
   have hw68 : Below w6.heap.size w6 w8 := (below_of hg7 (Nat.le_refl _) (by simp)).trans (below_of hg8 (by omega) (by intro k hk; simp at hk; omega))
   have hw58 : Below w5.heap.size w5 w8 := hw56.trans (hw68.mono (by omega))
   have hw28 : Below w2.heap.size w2 w8 := hw25.trans (hw58.mono (by omega))
   have hw08 : Below w.heap.size w w8 := hw05.trans (hw58.mono (by omega))
   have hbf := hbx5.below hw58 (by omega)
   have hr8 : Rep (Lo B) w8 (fldD f) [.int .i64 f.kind, .int .i64 f.fr, .int .i64 f.upto, .int .i64 f.nul, .int .i64 f.tag, .int .i64 f.df, .int .i64 f.of, sv] := Rep.below hr ((hw35.mono (show B ≤ w3.heap.size by omega)).trans (hw58.mono (by omega))) (Nat.le_refl _)
   have hx8 : Rep (Lo B) w8 (treeD x) xs := Rep.below hxr (hw68.mono (by omega)) (Nat.le_refl _)
   obtain ⟨b2, off2, c2, ycs, hv2, _, hycs, hyl, hyr⟩ := (hgl.below (hw08.mono hB) (Nat.le_refl _)).get (sz := 5) (i := i) (by intro d hd; obtain ⟨x, _, rfl⟩ := List.mem_map.1 hd; exact treeD_width x) (by simp; omega)
   simp only [Value.slice.injEq, List.length_map] at hv2
   obtain ⟨rfl, _, rfl⟩ := hv2
   simp only [List.getElem_map] at hyr
   have hgi : i < g.l.length := by omega
   generalize hyy : g.l[i]'(by omega) = y at *
   obtain ⟨honey, hyl5⟩ := tree_one hyr
   repeat first|(with_reducible first|apply wc_seq|apply wc_region|apply wl_nil|apply qk_thn)|((with_reducible apply ws);exact rfl;exact rfl)
   refine wl_loadB rfl to_int rfl hbf rfl ?_
   repeat ((with_reducible apply ws);exact rfl;exact rfl)
   rw [show decide (f.tag < 0) = true from by simpa using htag]
   repeat ((with_reducible apply wl_yes);exact rfl;exact rfl;exact rfl)
   refine wl_loadBAgg (cs := [.int .i64 f.kind, .int .i64 f.fr, .int .i64 f.upto, .int .i64 f.nul, .int .i64 f.tag, .int .i64 f.df, .int .i64 f.of, sv]) rfl ta_fld rfl hbf ?_
   repeat first|((with_reducible apply ws);exact rfl;exact rfl)|((with_reducible apply wl_yes);exact rfl;exact rfl;exact rfl)
   refine wl_call rfl (by kernel_rfl) rfl ((fn_has f ver B w8 (by omega) _ hr8).mono ?_)
   rintro e w9 ⟨v, rfl, hw89, rfl⟩
   refine ⟨_, rfl, ?_⟩
   have hs89 := hw89.size
   have hw59 : Below w5.heap.size w5 w9 := hw58.trans (hw89.mono (by omega))
   have hw29 : Below w2.heap.size w2 w9 := hw28.trans (hw89.mono (by omega))
   have hbf9 := hbx5.below hw59 (by omega)
   have hw9B : Below B w8 w9 := hw89.mono (by omega)
   cases hh : f.has ver with
   | true =>
    rw [if_pos hh] at hti
    repeat first|(with_reducible first|apply wl_nil|apply qk_thn)|((with_reducible apply ws);exact rfl;exact rfl)|((with_reducible apply wl_no);exact rfl;exact rfl;exact rfl;exact rfl)|((with_reducible apply wl_noU);exact rfl;exact rfl;exact rfl)
    refine wc_yes rfl rfl ?_
    repeat (with_reducible apply wc_seq)
    refine wc_par [(0, .agg ([.int .i64 f.kind, .int .i64 f.fr, .int .i64 f.upto, .int .i64 f.nul, .int .i64 f.tag, .int .i64 f.df, .int .i64 f.of, sv] : List Value).toArray), (1, .int .i64 ver), (2, .bool flex), (3, .agg xs.toArray), (4, .pointer (some ⟨w1.heap.size, 0 + 3, none⟩)), (5, .slice (some ⟨b2, off2, none⟩) g.l.length glc), (6, .int .i64 (i : Int)), (7, .pointer (some ⟨b2, off2 + i * 5, none⟩)), (8, .agg ycs.toArray)] [10, 9]
     (fun vals w' => Below w9.heap.size w9 w' ∧ match vals with
      | [] => True
      | [v] => v = .bool true
      | v :: _ => v = .bool false)
     mixed rfl rfl rfl rfl rfl (by show ([0,1,2,3,4,5,6,7,8] : List Nat).Nodup; decide) rfl rfl (by decide) rfl rfl rfl rfl ⟨(Below.refl _ w9).drew, trivial⟩ ?_ ⟨?_, ?_, trivial⟩ ?_
    ·intro p hp vals w' hC a k
     have hc2 : Below w2.heap.size w2 w' := hw29.trans (hC.1.mono (by omega))
     simp only [List.mem_cons, List.not_mem_nil, or_false] at hp
     rcases hp with rfl | rfl | rfl | rfl | rfl | rfl | rfl | rfl | rfl
     ·exact gv rfl rfl (rn_loadBAgg k rfl ta_fld (hbf9.below hC.1 (by omega)))
     ·exact gv rfl rfl (rn_move k rfl)
     ·exact gv rfl rfl (rn_move k rfl)
     ·exact gv rfl rfl (rn_loadBAgg k rfl (by rw [hxl5]; exact ta_tree) (hbx8.below (hw89.trans (hC.1.mono (by omega))) (by omega)))
     ·exact gv rfl rfl (rn_fieldAddr k rfl fo_tree3)
     ·exact gv rfl rfl (rn_load k rfl to_trees ((hbG _ hc2).cell0 (i := 3) rfl))
     ·exact gv rfl rfl (rn_move k rfl)
     ·exact gv rfl rfl (rn_indexAddr k rfl rfl es_trees hgi)
     ·exact gv rfl rfl (rn_loadAgg k rfl (by rw [hyl5]; exact ta_tree) (fun j v e => (hycs.of_block ((hw89.trans (hC.1.mono (by omega))).block b2 (by have := hycs.lt; omega))).cell e))
    ·rintro vals w' hvl ⟨hb', hC⟩ a k
     match vals, hvl with
     | [v9], _ =>
      simp only [] at hC
      subst hC
      exact ⟨_, rfl, does_not k rfl ⟨hb', rfl⟩⟩
    ·rintro vals w' hvl ⟨hb', hC⟩ a k
     match vals, hvl with
     | [], _ =>
      have hB9 : Below B w8 w' := hw9B.trans (hb'.mono (by omega))
      refine ⟨_, rfl, does_call k rfl (by kernel_rfl) ((hFi x y B w' _ _ _ hxok (by have := hb'.size; omega) (Rep.below hr8 hB9 (Nat.le_refl _)) (Rep.below hx8 hB9 (Nat.le_refl _)) (Rep.below hyr hB9 (Nat.le_refl _)) hti).mono ?_)⟩
      rintro e w'' ⟨v, rfl, hb'', rfl⟩
      exact ⟨_, rfl, hb'.trans (hb''.mono hb'.size), rfl⟩
    ·rintro vals w' hvl ⟨hb', hC⟩
     match vals, hvl with
     | [v10, v9], _ =>
      simp only [] at hC
      subst hC
      refine qk_thn ?_
      refine wc_no rfl rfl ?_
      repeat (with_reducible first|apply wc_region|apply qk_thn|apply wc_skip|apply wc_exit|apply qk_thn_exit|apply qk_in_exit)
      refine wl_add rfl rfl rfl (r := ((i + 1 : Nat) : Int)) (by rw [IntKind.wrap_i64]; omega) ?_
      repeat first|(with_reducible apply wl_nil)|((with_reducible apply ws);exact rfl;exact rfl)
      exact qk_round (i + 1) ⟨rfl, rfl, rfl, rfl, rfl, rfl, rfl, rfl, trivial⟩ ⟨by omega, hw29.trans (hb'.mono (by omega))⟩ (by omega)
   | false =>
    rw [if_neg (by rw [hh]; decide)] at hti
    repeat first|((with_reducible apply ws);exact rfl;exact rfl)|((with_reducible apply wl_yes);exact rfl;exact rfl;exact rfl)
    refine wl_loadB rfl to_int rfl hbf9 rfl ?_
    repeat first|((with_reducible apply ws);exact rfl;exact rfl)|((with_reducible apply wl_yes);exact rfl;exact rfl;exact rfl)
    rw [show decide (0 ≤ f.tag) = false from by simp; omega]
    repeat first|(with_reducible first|apply wl_nil|apply qk_thn)|((with_reducible apply ws);exact rfl;exact rfl)|((with_reducible apply wl_yes);exact rfl;exact rfl;exact rfl)|((with_reducible apply wl_no);exact rfl;exact rfl;exact rfl;exact rfl)
    refine wc_no rfl rfl ?_
    repeat (with_reducible first|apply wc_seq|apply qk_thn|apply wc_skip)
    refine wc_po [(0, .agg ([.int .i64 f.kind, .int .i64 f.fr, .int .i64 f.upto, .int .i64 f.nul, .int .i64 f.tag, .int .i64 f.df, .int .i64 f.of, sv] : List Value).toArray), (2, .pointer (some ⟨w1.heap.size, 0 + 3, none⟩)), (3, .slice (some ⟨b2, off2, none⟩) g.l.length glc), (4, .int .i64 (i : Int)), (5, .pointer (some ⟨b2, off2 + i * 5, none⟩)), (6, .agg ycs.toArray)] [1, 7, 8, 9, 10]
     (fun dn w' => Below w9.heap.size w9 w' ∧ ∀ j v, (j, v) ∈ dn → PF f y j v w')
     mixed rfl rfl rfl rfl rfl rfl (by show ([0,2,3,4,5,6] : List Nat).Nodup; decide) rfl rfl rfl ⟨(Below.refl _ w9).drew, fun j v h => by cases h⟩ ?_ ?_ ?_
    ·intro p hp dn w' hC a k
     have hc2 : Below w2.heap.size w2 w' := hw29.trans (hC.1.mono (by omega))
     simp only [List.mem_cons, List.not_mem_nil, or_false] at hp
     rcases hp with rfl | rfl | rfl | rfl | rfl | rfl
     ·exact gv rfl rfl (rn_loadBAgg k rfl ta_fld (hbf9.below hC.1 (by omega)))
     ·exact gv rfl rfl (rn_fieldAddr k rfl fo_tree3)
     ·exact gv rfl rfl (rn_load k rfl to_trees ((hbG _ hc2).cell0 (i := 3) rfl))
     ·exact gv rfl rfl (rn_move k rfl)
     ·exact gv rfl rfl (rn_indexAddr k rfl rfl es_trees hgi)
     ·exact gv rfl rfl (rn_loadAgg k rfl (by rw [hyl5]; exact ta_tree) (fun j v e => (hycs.of_block ((hw89.trans (hC.1.mono (by omega))).block b2 (by have := hycs.lt; omega))).cell e))
    ·rintro c hc dn w' ⟨hb', hdn⟩ hpr a k hgt
     have hs9 := hb'.size
     have hB9 : Below B w8 w' := hw9B.trans (hb'.mono (by omega))
     have next : ∀ {v : Value} {w'' : World} {c : Nat}, Below w'.heap.size w' w'' → PF f y c v w'' → Below w9.heap.size w9 w'' ∧ ∀ j u, (j, u) ∈ (c, v) :: dn → PF f y j u w'' := by
      intro v w'' c hb'' hp
      refine ⟨hb'.trans (hb''.mono hs9), fun j u hj => ?_⟩
      rcases List.mem_cons.1 hj with h | h
      ·cases h; exact hp
      ·exact (hdn j u h).up hb''
     have hfw : Rep (Lo w'.heap.size) w' (fldD f) [.int .i64 f.kind, .int .i64 f.fr, .int .i64 f.upto, .int .i64 f.nul, .int .i64 f.tag, .int .i64 f.df, .int .i64 f.of, sv] := Rep.below hr8 hB9 (by omega)
     have hyw : Rep (Lo w'.heap.size) w' (treeD y) ycs := Rep.below hyr hB9 (by omega)
     simp only [List.mem_cons, List.not_mem_nil, or_false] at hc
     rcases hc with rfl | rfl | rfl | rfl | rfl
     ·refine ⟨_, rfl, does_slice1 (cs := [.int .i64 f.kind, .int .i64 f.fr, .int .i64 f.upto, .int .i64 f.nul, .int .i64 f.tag, .int .i64 f.df, .int .i64 f.of, sv]) k rtF rfl rfl rfl rfl (next (below_of (grown_alloc w' _) (Nat.le_refl _) (by simp)) ?_)⟩
      exact sq_new hfw
     ·refine ⟨_, rfl, does_slice1 (cs := ycs) k rtT rfl rfl hyl5 rfl (next (below_of (grown_alloc w' _) (Nat.le_refl _) (by simp)) ?_)⟩
      exact sq_new hyw
     ·obtain ⟨v7, h7⟩ := hpr 7 (by decide) rfl
      have k7 := k.with (hgt 7 v7 73 h7 rfl)
      have hp7 : Sq w'.heap.size w' v7 ([y].map treeD) := hdn 7 v7 h7
      obtain ⟨a7, c7, rfl, _⟩ := hp7.shape
      refine ⟨_, rfl, does_build (ps := [(3, .tmp 73)]) (cs := [.int .i64 0, .slice none 0 0, .bool false, .slice a7 ([y].map treeD).length c7, .slice none 0 0]) k7 rfl (by kernel_rfl) (next (Below.refl _ _) ⟨_, rfl, tree_of_list hp7⟩)⟩
     ·obtain ⟨v1, h1⟩ := hpr 1 (by decide) rfl
      obtain ⟨v8, h8⟩ := hpr 8 (by decide) rfl
      have k8 := (k.with (hgt 1 v1 67 h1 rfl)).with (hgt 8 v8 74 h8 rfl)
      have hp1 : Sq w'.heap.size w' v1 ([f].map fldD) := hdn 1 v1 h1
      obtain ⟨cs8, rfl, hp8⟩ : ∃ cs : List Value, v8 = .agg cs.toArray ∧ Rep (Lo w'.heap.size) w' (treeD (.mk 0 [] false [y] [])) cs := hdn 8 v8 h8
      refine ⟨_, rfl, does_call (args := [.tmp 67, .tmp 74]) k8 rfl (by kernel_rfl) ((us_ok [f] (by simp only [Fld.oksb, hfk, Bool.and_self]) (by simp) (by simp only [tabTs, hfT, Bool.and_self]) _ w'.heap.size w' v1 cs8 (Nat.le_refl _) hp1 hp8 rfl ?_).mono ?_)⟩
      ·simp only [UsFs]
       exact ⟨y, [], rfl, hti, rfl⟩
      ·rintro e w'' ⟨v, rfl, hb'', rfl⟩
       exact ⟨_, rfl, next hb'' rfl⟩
     ·obtain ⟨v9, h9⟩ := hpr 9 (by decide) rfl
      have hp9 : v9 = .bool true := hdn 9 v9 h9
      subst hp9
      have k9 := k.with (hgt 9 _ 75 h9 rfl)
      exact ⟨_, rfl, does_not k9 rfl (next (Below.refl _ _) rfl)⟩
    ·rintro dn w' ⟨hb', hdn⟩ hall a k hgt
     obtain ⟨v10, h10⟩ := hall 10 (by decide)
     have hp10 : v10 = .bool false := hdn 10 v10 h10
     subst hp10
     have k10 := k.with (hgt 10 _ 76 h10 rfl)
     refine qk_at k10 (qk_thn ?_)
     refine wc_no rfl rfl ?_
     repeat (with_reducible first|apply wc_region|apply qk_thn|apply wc_skip|apply qk_in)
     refine wl_add rfl rfl rfl (r := ((i + 1 : Nat) : Int)) (by rw [IntKind.wrap_i64]; omega) ?_
     repeat first|(with_reducible apply wl_nil)|((with_reducible apply ws);exact rfl;exact rfl)
     exact qk_round (i + 1) ⟨rfl, rfl, rfl, rfl, rfl, rfl, rfl, rfl, trivial⟩ ⟨by omega, hw29.trans (hb'.mono (by omega))⟩ (by omega)
  ·refine wc_no rfl (by simpa using hlt) ?_
   repeat (with_reducible first|apply wc_exit|apply qk_thn_exit|apply qk_in_exit|apply qk_round_exit)
   exact qk_cut () ⟨rfl, rfl, rfl, rfl, rfl, trivial⟩ hw3
 rintro _ w3 hw3
 have hs23 := hw3.size
 have hw03 : Below w.heap.size w w3 := hw2.trans (hw3.mono (by omega))
 repeat first|(with_reducible first|apply wc_seq|apply wc_region)|((with_reducible apply ws);exact rfl;exact rfl)
 refine wl_loadB rfl to_tags rfl (hbT _ hw3) rfl ?_
 refine wl_call rfl (by kernel_rfl) rfl ((fn_unknown (.slice fa fs.length fc) (.slice ua t.u.length uc) fs t.u B w3 (by omega) (hf.below (hw03.mono hB) (Nat.le_refl _)) (huu.below (hw03.mono hB) (Nat.le_refl _)) (fsok.tag hfs) (by omega)).mono ?_)
 rintro e w4 ⟨v, rfl, hw34, hsq⟩
 refine ⟨_, rfl, ?_⟩
 have hs34 := hw34.size
 have hw24 : Below w2.heap.size w2 w4 := hw3.trans (hw34.mono (by omega))
 have hw04 : Below w.heap.size w w4 := hw03.trans (hw34.mono (by omega))
 refine wl_assign rfl rfl (wl_nil (qk_thn ?_))
 refine wc_cut (α := Value) (fun v => [(14, v), (9, .pointer (some ⟨w1.heap.size, 0, none⟩))]) (fun v w' => w' = w4 ∧ Sq w4.heap.size w4 v ((if flex then unknown fs t.u else []).map tagD)) ?_ ?_
 ·repeat first|(with_reducible first|apply wc_seq|apply wc_region|apply wl_nil|apply qk_thn)|((with_reducible apply ws);exact rfl;exact rfl)
  cases flex with
  | true =>
   refine wc_no rfl rfl ?_
   repeat (with_reducible apply wc_skip)
   exact qk_cut v ⟨rfl, rfl, trivial⟩ ⟨rfl, hsq⟩
  | false =>
   refine wc_yes rfl rfl ?_
   repeat first|(with_reducible first|apply wc_region|apply wl_nil)|((with_reducible apply ws);exact rfl;exact rfl)
   refine qk_cut (.slice none 0 0) ⟨rfl, rfl, trivial⟩ ⟨rfl, ?_⟩
   simp only [Bool.false_eq_true, if_false, List.map_nil, Sq, Rep]
   exact ⟨none, 0, rfl, by simp, .inl trivial⟩
 rintro v' w5 ⟨hw5, hsv⟩
 obtain rfl := hw5.symm
 obtain ⟨us, hus⟩ : ∃ us, us = (if flex then unknown fs t.u else []) := ⟨_, rfl⟩
 have hgu' : g.u = us.map fun kv => (kv.1, whole kv.2) := by
  rw [hto2, hus]
  cases flex <;> simp [others]
 rw [← hus] at hsv
 obtain ⟨ka, kc, rfl, _⟩ := hsv.shape
 simp only [List.length_map] at *
 have hgul : g.u.length = us.length := by rw [hgu']; simp
 repeat first|(with_reducible first|apply wc_seq|apply wc_region)|((with_reducible apply ws);exact rfl;exact rfl)
 refine wl_loadB rfl to_tags rfl (hbG _ hw24) rfl ?_
 repeat first|(with_reducible first|apply wl_nil|apply qk_thn)|((with_reducible apply ws);exact rfl;exact rfl)
 refine wc_no rfl (by rw [hgul]; simp) ?_
 repeat first|(with_reducible first|apply wc_seq|apply wc_region|apply wl_nil|apply qk_thn|apply wc_block|apply wc_skip)|((with_reducible apply ws);exact rfl;exact rfl)
 refine wc_loop (α := Nat) (fun i => [(92, .int .i64 (i : Int)), (91, .int .i64 (us.length : Int)), (90, .slice ka us.length kc), (9, .pointer (some ⟨w1.heap.size, 0, none⟩))]) (fun i w' => i ≤ us.length ∧ Below w4.heap.size w4 w') (fun i => us.length - i) 0 ⟨rfl, rfl, rfl, rfl, trivial⟩ ⟨Nat.zero_le _, Below.refl _ _⟩ ?_
 have husl : us.length ≤ 100000 := by
  rw [hus]
  cases flex with
  | true =>
   simp only [if_true, unknown]
   have h1 := step_fold_length (known fs) (t.u.take Most) []
   simp only [List.length_take, List.length_nil, Most] at h1
   have h2 : ((t.u.take Most).foldl (fun out kv => if kv.1 < known fs then out else putTag kv.1 kv.2 out) []).length ≤ 32767 := by
    refine Nat.le_trans h1 ?_
    omega
   simp only [Most] at h2 ⊢
   omega
  | false => simp
 rintro i w6 ⟨hi, hw6⟩
 have hs46 := hw6.size
 have hw06 : Below w.heap.size w w6 := hw04.trans (hw6.mono (by omega))
 have hw26 : Below w2.heap.size w2 w6 := hw24.trans (hw6.mono (by omega))
 repeat first|(with_reducible first|apply wc_seq|apply wc_region|apply wl_nil|apply qk_thn)|((with_reducible apply ws);exact rfl;exact rfl)
 by_cases hlt : i < us.length
 ·refine wc_yes rfl (by simpa using hlt) ?_
  obtain ⟨b, off, c', cs, hv, hbB, hcs, hcl, hr⟩ := (hsv.below hw6 (Nat.le_refl _)).get (sz := 2) (i := i) (by intro d hd; obtain ⟨x, _, rfl⟩ := List.mem_map.1 hd; exact tagD_width x) (by simpa using hlt)
  simp only [Value.slice.injEq, List.length_map] at hv
  obtain ⟨rfl, _, rfl⟩ := hv
  simp only [List.getElem_map] at hr
  obtain ⟨hone, _⟩ := tag_one hr
  obtain ⟨qv, rfl, hqv⟩ := tag_cells hr
  obtain ⟨qa, qc, rfl, _⟩ := hqv.shape
  repeat first|(with_reducible first|apply wc_seq|apply wc_region|apply qk_thn|apply wc_block|apply wc_skip)|((with_reducible apply ws);exact rfl;exact rfl)
  refine wl_indexAddr rfl rfl es_tags rfl hlt ?_
  refine wl_loadAgg (cs := [.int .u32 (us[i].1 : Nat), .slice qa (us[i].2.map byteD).length qc]) rfl Go.Proofs.YtjfgalpjjnncaaaGreatDoor.ta_tag rfl (fun j v e => hcs.cell e) ?_
  refine wl_alloc zv_tag rfl rfl (fun w7 hb7 hg7 hs7 => ?_)
  repeat ((with_reducible apply ws);exact rfl;exact rfl)
  refine wl_storeBAgg (vs := [.int .u32 (us[i].1 : Nat), .slice qa (us[i].2.map byteD).length qc]) rfl rfl rfl Go.Proofs.YtjfgalpjjnncaaaGreatDoor.tz_tag hone hb7 rfl (fun w8 hb8 hg8 hs8 => ?_)
  have hw68 : Below w6.heap.size w6 w8 := (below_of hg7 (Nat.le_refl _) (by simp)).trans (below_of hg8 (by omega) (by intro k hk; simp at hk; omega))
  have hw08 : Below w.heap.size w w8 := hw06.trans (hw68.mono (by omega))
  have hw28 : Below w2.heap.size w2 w8 := hw26.trans (hw68.mono (by omega))
  have hw48 : Below w4.heap.size w4 w8 := hw6.trans (hw68.mono (by omega))
  have hgi : i < g.u.length := by omega
  obtain ⟨b2, off2, c2, ycs, hv2, hb2B, hycs, hyl, hyr⟩ := (hgu.below (hw08.mono hB) (Nat.le_refl _)).get (sz := 2) (i := i) (by intro d hd; obtain ⟨x, _, rfl⟩ := List.mem_map.1 hd; exact tagD_width x) (by simpa using hgi)
  simp only [Value.slice.injEq, List.length_map] at hv2
  obtain ⟨rfl, _, rfl⟩ := hv2
  simp only [List.getElem_map] at hyr
  have hgue : g.u[i] = (us[i].1, whole us[i].2) := by simp only [hgu', List.getElem_map]
  rw [hgue] at hyr
  obtain ⟨yv, rfl, hyv⟩ := tag_cells hyr
  obtain ⟨ya, yc, rfl, _⟩ := hyv.shape
  simp only [List.length_map] at *
  repeat (with_reducible first|apply wc_seq|apply wl_nil|apply qk_thn)
  refine wc_par [(0, .pointer (some ⟨w1.heap.size, 0 + 4, none⟩)), (1, .slice (some ⟨b2, off2, none⟩) g.u.length guc), (2, .int .i64 (i : Int)), (3, .pointer (some ⟨b2, off2 + i * 2, none⟩)), (4, .pointer (some ⟨b2, off2 + i * 2 + 0, none⟩)), (5, .int .u32 (us[i].1 : Nat)), (6, .pointer (some ⟨w6.heap.size, 0 + 0, none⟩)), (7, .int .u32 (us[i].1 : Nat)), (8, .bool false), (9, .bool false),
    (10, .pointer (some ⟨w1.heap.size, 0 + 4, none⟩)), (11, .slice (some ⟨b2, off2, none⟩) g.u.length guc), (12, .int .i64 (i : Int)), (13, .pointer (some ⟨b2, off2 + i * 2, none⟩)), (14, .pointer (some ⟨b2, off2 + i * 2 + 1, none⟩)), (15, .slice ya (whole us[i].2).length yc), (16, .pointer (some ⟨w6.heap.size, 0 + 1, none⟩)), (17, .slice qa us[i].2.length qc)] [21, 20, 19, 18]
   (fun vals w' => Below w8.heap.size w8 w' ∧ match vals with
    | [] => True
    | [v] => Sq w4.heap.size w' v ((whole us[i].2).map byteD)
    | [v, _] => v = .bool true
    | v :: _ => v = .bool false)
   mixed rfl rfl rfl rfl rfl (by show ([0,1,2,3,4,5,6,7,8,9,10,11,12,13,14,15,16,17] : List Nat).Nodup; decide) rfl rfl (by decide) rfl rfl rfl rfl ⟨(Below.refl _ w8).drew, trivial⟩ ?_ ⟨?_, ?_, ?_, ?_, trivial⟩ ?_
  ·intro p hp vals w' hC a k
   have hc2 : Below w2.heap.size w2 w' := hw28.trans (hC.1.mono (by omega))
   have hyc : CellsAt w' b2 (off2 + i * 2) [.int .u32 (us[i].1 : Nat), .slice ya (whole us[i].2).length yc] := hycs.of_block (hC.1.block b2 (by have := hycs.lt; omega))
   have hbu := hb8.below hC.1 (by omega)
   simp only [List.mem_cons, List.not_mem_nil, or_false] at hp
   rcases hp with rfl | rfl | rfl | rfl | rfl | rfl | rfl | rfl | rfl | rfl | rfl | rfl | rfl | rfl | rfl | rfl | rfl | rfl
   ·exact gv rfl rfl (rn_fieldAddr k rfl fo_tree4)
   ·exact gv rfl rfl (rn_load k rfl to_tags ((hbG _ hc2).cell0 (i := 4) rfl))
   ·exact gv rfl rfl (rn_move k rfl)
   ·exact gv rfl rfl (rn_indexAddr k rfl rfl es_tags hgi)
   ·exact gv rfl rfl (rn_fieldAddr k rfl fo_tag0)
   ·exact gv rfl rfl (rn_load k rfl to_u32 (hyc.cell (i := 0) rfl))
   ·exact gv rfl rfl (rn_fieldAddr k rfl fo_tag0)
   ·exact gv rfl rfl (rn_load k rfl to_u32 (hbu.cell0 (i := 0) rfl))
   ·exact gv rfl rfl ((rn_neq k rfl rfl).trans (by simp))
   ·exact gv rfl rfl (rn_move k rfl)
   ·exact gv_yes rfl rfl rfl k rfl rfl (rn_fieldAddr k rfl fo_tree4)
   ·exact gv_yes rfl rfl rfl k rfl rfl (rn_load k rfl to_tags ((hbG _ hc2).cell0 (i := 4) rfl))
   ·exact gv_yes rfl rfl rfl k rfl rfl (rn_move k rfl)
   ·exact gv_yes rfl rfl rfl k rfl rfl (rn_indexAddr k rfl rfl es_tags hgi)
   ·exact gv_yes rfl rfl rfl k rfl rfl (rn_fieldAddr k rfl fo_tag1)
   ·exact gv_yes rfl rfl rfl k rfl rfl (rn_load k rfl to_bytes (hyc.cell (i := 1) rfl))
   ·exact gv_yes rfl rfl rfl k rfl rfl (rn_fieldAddr k rfl fo_tag1)
   ·exact gv_yes rfl rfl rfl k rfl rfl (rn_load k rfl to_bytes (hbu.cell0 (i := 1) rfl))
  ·rintro vals w' hvl ⟨hb', hC⟩ a k
   match vals, hvl with
   | [v20, v19, v18], _ =>
    simp only [] at hC
    subst hC
    exact ⟨_, rfl, does_pick (b := false) (v := .bool false) k rfl rfl ⟨hb', rfl⟩⟩
  ·rintro vals w' hvl ⟨hb', hC⟩ a k
   match vals, hvl with
   | [v19, v18], _ =>
    simp only [] at hC
    subst hC
    exact ⟨_, rfl, does_not k rfl ⟨hb', rfl⟩⟩
  ·rintro vals w' hvl ⟨hb', hC⟩ a k
   match vals, hvl with
   | [v18], _ =>
    have hyb := (hyv.below (hb'.mono (show B ≤ w8.heap.size by omega)) (Nat.le_refl _)).bytes
    have hlw : (whole us[i].2).length ≤ lim := by simp only [whole, List.length_take, lim, Most]; omega
    refine ⟨_, rfl, does_call k rfl (by kernel_rfl) ((fn_same _ _ _ _ w' hyb hC.bytes hlw hlw).mono ?_)⟩
    rintro e w'' ⟨v, rfl, hb'', rfl⟩
    exact ⟨_, rfl, hb'.trans (hb''.mono hb'.size), by simp⟩
  ·rintro vals w' hvl ⟨hb', hC⟩ a k
   match vals, hvl with
   | [], _ =>
    have hsb := hqv.below ((hw68.mono (show w4.heap.size ≤ w6.heap.size by omega)).trans (hb'.mono (by omega))) (Nat.le_refl _)
    have := fn_whole (.slice qa us[i].2.length qc) (us[i].2.map byteD) w4.heap.size w' hsb
    refine ⟨_, rfl, does_call k rfl (by kernel_rfl) (this.mono ?_)⟩
    rintro e w'' ⟨v, rfl, hb'', rfl, hsq⟩
    exact ⟨_, rfl, hb', by rw [← List.map_take] at hsq; exact hsq⟩
  ·rintro vals w' hvl ⟨hb', hC⟩
   match vals, hvl with
   | [v21, v20, v19, v18], _ =>
    simp only [] at hC
    subst hC
    refine qk_thn ?_
    refine wc_no rfl rfl ?_
    repeat (with_reducible first|apply wc_region|apply qk_thn|apply wc_skip|apply qk_in)
    refine wl_add rfl rfl rfl (r := ((i + 1 : Nat) : Int)) (by rw [IntKind.wrap_i64]; omega) ?_
    repeat first|(with_reducible apply wl_nil)|((with_reducible apply ws);exact rfl;exact rfl)
    exact qk_round (i + 1) ⟨rfl, rfl, rfl, rfl, trivial⟩ ⟨by omega, hw48.trans (hb'.mono (by omega))⟩ (by omega)
 ·refine wc_no rfl (by simpa using hlt) ?_
  repeat first|(with_reducible first|apply wc_seq|apply wc_region|apply wl_nil|apply qk_thn|apply wc_ret|apply wc_exit|apply qk_thn_exit|apply qk_in_exit|apply qk_round_exit)|((with_reducible apply ws);exact rfl;exact rfl)
  exact qk_ret1 rfl rfl ⟨_, rfl, hw06, rfl⟩
mutual
theorem toF_all (ver : Int) (flex : Bool) : ∀ f : Fld, f.okb = true → tabT f = true → ToFOK ver flex f
 | .mk kind fr upto nul tag df of sub, h, ht => by
  have hk := h
  simp only [Fld.okb, Bool.and_eq_true, decide_eq_true_eq] at hk
  have hts : tabTs sub = true := tabT_sub ht
  have hsub : ToOK ver flex sub := told_part ver flex sub (by unfold fsok; rw [hk.2, hk.1.2]; rfl) hts (toFs_all ver flex sub hk.2 hts)
  have hof : of ≠ 11 := hk.1.1.2
  exact told_walk ver flex _ hof hsub (fun _ => told_walk ver flex (oneF (.mk kind fr upto nul tag df of sub)) hof hsub (fun e => absurd e hof))
theorem toFs_all (ver : Int) (flex : Bool) : ∀ fs : List Fld, Fld.oksb fs = true → tabTs fs = true → ∀ f ∈ fs, ToFOK ver flex f
 | [], _, _, f, hf => by cases hf
 | g :: fs, h, ht, f, hf => by
  simp only [Fld.oksb, Bool.and_eq_true] at h
  simp only [tabTs, Bool.and_eq_true] at ht
  rcases List.mem_cons.1 hf with e | hf
  ·rw [e]; exact toF_all ver flex g h.1 ht.1
  ·exact toFs_all ver flex fs h.2 ht.2 f hf
end
theorem to_ok (ver : Int) (flex : Bool) (fs : List Fld) (h : fsok fs = true) (ht : tabTs fs = true) : ToOK ver flex fs :=
 told_part ver flex fs h ht (toFs_all ver flex fs (by unfold fsok at h; rw [Bool.and_eq_true] at h; exact h.1) ht)
end
end Go.Proofs.YtjfgalpjjnncaaaGreatDoor

namespace Go.Proofs.YtjfgalpjjnncaaaGreatDoor.Tlk
open Go Go.RowKit
theorem tk_cons {P : Program} {K : Tk} {tg : Bool} (h : TkOk P K tg) {f : Nat} {fs : List Fld} (hf : TlP P f tg fs) : TkOk P ⟨K.tT, K.bool, K.text, K.octs, K.each, K.sorted, K.clos, K.gT, (f, fs) :: K.tells⟩ tg := by
 refine ⟨h.ty, h.bool, h.text, h.octs, fun g gs hg => ?_⟩
 simp only [lkM] at hg
 cases hb : Nat.beq f g with
 | true =>
  rw [hb] at hg
  simp only [cond_true, Option.some.injEq] at hg
  rw [← beq_out hb, ← hg]; exact hf
 | false => rw [hb] at hg; exact h.tells g gs hg
theorem tg_cons {P : Program} {K : Tk} (h : TgOk P K) (f : Nat) (fs : List Fld) : TgOk P ⟨K.tT, K.bool, K.text, K.octs, K.each, K.sorted, K.clos, K.gT, (f, fs) :: K.tells⟩ := ⟨h.each, h.sorted, h.clos⟩
end Go.Proofs.YtjfgalpjjnncaaaGreatDoor.Tlk
namespace Go.Proofs.YtjfgalpjjnncaaaGreatDoor
open Go Go.RowKit
section
set_option maxRecDepth 100000
theorem fn_flexM (m : Msg) (ver : Int) (fv : Value) (w : World) : Fn 17 [.agg #[fv, .int .i64 m.flex], .int .i64 ver] w fun v _ => v = .bool (m.flexible ver) := by
 refine enter Tryz.func17 rfl Tryz.ntmps17 rfl ?_
 refine wc_seq (wc_region (wl_box1 (cs := [fv, .int .i64 m.flex]) rfl rfl rfl (fun w1 hb1 hg1 hs1 => ?_)))
 have hw1 : Below w.heap.size w w1 := below_of hg1 (Nat.le_refl _) (by simp)
 repeat first|(with_reducible first|apply wc_seq|apply wc_region|apply wl_nil|apply qk_thn)|((with_reducible apply ws);exact rfl;exact rfl)
 refine wl_loadB (i := 1) rfl to_int rfl hb1 rfl ?_
 repeat ((with_reducible apply ws);exact rfl;exact rfl)
 by_cases h0 : (0 : Int) ≤ m.flex
 ·rw [show decide ((0 : Int) ≤ m.flex) = true from decide_eq_true h0]
  repeat first|((with_reducible apply ws);exact rfl;exact rfl)|((with_reducible apply wl_yes);exact rfl;exact rfl;exact rfl)
  refine wl_loadB (i := 1) rfl to_int rfl hb1 rfl ?_
  repeat first|(with_reducible first|apply wl_nil|apply qk_thn|apply wc_ret)|((with_reducible apply ws);exact rfl;exact rfl)|((with_reducible apply wl_yes);exact rfl;exact rfl;exact rfl)
  refine qk_ret1 rfl rfl ⟨_, rfl, hw1, ?_⟩
  simp [Msg.flexible, h0]
 ·rw [show decide ((0 : Int) ≤ m.flex) = false from decide_eq_false h0]
  repeat first|(with_reducible first|apply wl_nil|apply qk_thn|apply wc_ret)|((with_reducible apply ws);exact rfl;exact rfl)|((with_reducible apply wl_no);exact rfl;exact rfl;exact rfl;exact rfl)
  refine qk_ret1 rfl rfl ⟨_, rfl, hw1, ?_⟩
  simp [Msg.flexible, h0]
end
end Go.Proofs.YtjfgalpjjnncaaaGreatDoor

namespace Go.Proofs.YtjfgalpjjnncaaaGreatDoor.BCreatePartitionsRequest
open Go Go.RowKit
def sCreatePartitionsRequestTopicAssignment : List Fld := [.mk 11 0 (-1) (-1) (-1) 0 3 []]
def sCreatePartitionsRequestTopic : List Fld := [.mk 8 0 (-1) (-1) (-1) 0 0 [], .mk 3 0 (-1) (-1) (-1) 0 0 [], .mk 11 0 (-1) 0 (-1) 0 10 sCreatePartitionsRequestTopicAssignment]
def m : Msg := ⟨[.mk 11 0 (-1) (-1) (-1) 0 10 sCreatePartitionsRequestTopic, .mk 3 0 (-1) (-1) (-1) 15000 0 [], .mk 0 0 (-1) (-1) (-1) 0 0 []], 2⟩
theorem m_ok : fsok m.fields = true := by decide
def most : Nat := 3
def tbl : Tbl := ⟨[(31, 0, 0), (31, 1, 1), (137, 0, 0)], [22]⟩
theorem tbl_ok : tbl.ok Tryz.prog = true := by kernel_rfl
theorem ws {ops : Array Oper} {Q : Exit → Act → World → Prop} {N : Nat} {rest : List Oper} {L : Sl} {w : World} {d : Nat} {ty : TypeId} {pos : String} {aft : Array Edge} {o : Op} {v : Value}
  (hs : stepOp tbl L o = some v) (hd : Nat.blt d N = true) (h : WL rest Tryz.prog ops Q N ((d, v) :: L) w) : WL (⟨some d, o, ty, pos, aft, none⟩ :: rest) Tryz.prog ops Q N L w := wl_step tbl tbl_ok hs hd h
theorem zv_msg (w : World) : (zeroValue 31).run Tryz.prog w = .ok (.agg #[.slice none 0 0, .int .i64 0]) w := by kernel_rfl
theorem rt_flds : rowTy Tryz.prog 29 53 8 = true := by kernel_rfl
theorem to_i16 : tyOne Tryz.prog 48 = true := by kernel_rfl
section
set_option maxRecDepth 100000
set_option maxHeartbeats 4000000
theorem fn_tsCreatePartitionsRequestTopicAssignment (w : World) : Fn 114 [] w fun v w' => Rep (Frs w.heap.size w'.heap.size) w' (.sq (sCreatePartitionsRequestTopicAssignment.map fldD)) [v] := by
 refine enter Tryz.func114 rfl Tryz.ntmps114 rfl ?_
 repeat first|(with_reducible first|apply wc_seq|apply wc_region|apply wl_nil|apply qk_thn)|((with_reducible apply ws);exact rfl;exact rfl)
 have hW : Below w.heap.size w w := ⟨rfl, rfl, rfl, Nat.le_refl _, fun _ _ => rfl⟩
 refine wl_build rfl (cs := [.int .i64 11, .int .i64 0, .int .i64 (-1), .int .i64 (-1), .int .i64 (-1), .int .i64 0, .int .i64 3, .slice none 0 0]) (by kernel_rfl) rfl ?_
 refine wl_sliceN [[.int .i64 11, .int .i64 0, .int .i64 (-1), .int .i64 (-1), .int .i64 (-1), .int .i64 0, .int .i64 3, .slice none 0 0]] rt_flds rfl rfl (by simp) rfl rfl rfl (fun w2 hbS hgS hsS => ?_)
 have hs_2 := below_of hgS (Nat.le_refl _) (by simp)
 have hz := hW.size
 replace hW := hW.trans (hs_2.mono hW.size)
 have hfin : Rep (Frs w.heap.size w2.heap.size) w2 (.sq (sCreatePartitionsRequestTopicAssignment.map fldD)) [.slice (some ⟨w.heap.size, 0, none⟩) 1 1] := by
  simp only [Rep]
  exact ⟨_, 1, rfl, Nat.le_refl _, .inr ⟨w.heap.size, 0, _, rfl, ⟨hz, hbS.lt⟩, hbS.cells, (reps_fcons (rep_fld0 _ _ (.mk 11 0 (-1) (-1) (-1) 0 3 []) rfl) reps_fnil)⟩⟩
 repeat first|(with_reducible first|apply wl_nil|apply qk_thn|apply wc_ret)|((with_reducible apply ws);exact rfl;exact rfl)
 exact qk_ret1 rfl rfl ⟨_, rfl, hW, hfin⟩
theorem fn_tsCreatePartitionsRequestTopic (w : World) : Fn 68 [] w fun v w' => Rep (Frs w.heap.size w'.heap.size) w' (.sq (sCreatePartitionsRequestTopic.map fldD)) [v] := by
 refine enter Tryz.func68 rfl Tryz.ntmps68 rfl ?_
 repeat first|(with_reducible first|apply wc_seq|apply wc_region|apply wl_nil|apply qk_thn)|((with_reducible apply ws);exact rfl;exact rfl)
 have hW : Below w.heap.size w w := ⟨rfl, rfl, rfl, Nat.le_refl _, fun _ _ => rfl⟩
 refine wl_build rfl (cs := [.int .i64 8, .int .i64 0, .int .i64 (-1), .int .i64 (-1), .int .i64 (-1), .int .i64 0, .int .i64 0, .slice none 0 0]) (by kernel_rfl) rfl ?_
 refine wl_build rfl (cs := [.int .i64 3, .int .i64 0, .int .i64 (-1), .int .i64 (-1), .int .i64 (-1), .int .i64 0, .int .i64 0, .slice none 0 0]) (by kernel_rfl) rfl ?_
 refine wl_call rfl (by kernel_rfl) rfl ((fn_tsCreatePartitionsRequestTopicAssignment w).mono ?_)
 rintro e w2 ⟨sv, rfl, hs_2, hsq2⟩
 obtain ⟨a2, c2, rfl⟩ := rep_sqshape hsq2
 refine ⟨_, rfl, ?_⟩
 replace hsq2 := rep_frw hsq2 hW.size
 replace hW := hW.trans (hs_2.mono hW.size)
 refine wl_build rfl (cs := [.int .i64 11, .int .i64 0, .int .i64 (-1), .int .i64 0, .int .i64 (-1), .int .i64 0, .int .i64 10, .slice a2 (sCreatePartitionsRequestTopicAssignment.map fldD).length c2]) (by kernel_rfl) rfl ?_
 refine wl_sliceN [[.int .i64 8, .int .i64 0, .int .i64 (-1), .int .i64 (-1), .int .i64 (-1), .int .i64 0, .int .i64 0, .slice none 0 0], [.int .i64 3, .int .i64 0, .int .i64 (-1), .int .i64 (-1), .int .i64 (-1), .int .i64 0, .int .i64 0, .slice none 0 0], [.int .i64 11, .int .i64 0, .int .i64 (-1), .int .i64 0, .int .i64 (-1), .int .i64 0, .int .i64 10, .slice a2 (sCreatePartitionsRequestTopicAssignment.map fldD).length c2]] rt_flds rfl rfl (by simp) rfl rfl rfl (fun w3 hbS hgS hsS => ?_)
 have hs_3 := below_of hgS (Nat.le_refl _) (by simp)
 have hz := hW.size
 replace hsq2 := rep_fr hsq2 hs_3 (Nat.le_refl _)
 replace hW := hW.trans (hs_3.mono hW.size)
 have hfin : Rep (Frs w.heap.size w3.heap.size) w3 (.sq (sCreatePartitionsRequestTopic.map fldD)) [.slice (some ⟨w2.heap.size, 0, none⟩) 3 3] := by
  simp only [Rep]
  exact ⟨_, 3, rfl, Nat.le_refl _, .inr ⟨w2.heap.size, 0, _, rfl, ⟨hz, hbS.lt⟩, hbS.cells, (reps_fcons (rep_fld0 _ _ (.mk 8 0 (-1) (-1) (-1) 0 0 []) rfl) (reps_fcons (rep_fld0 _ _ (.mk 3 0 (-1) (-1) (-1) 0 0 []) rfl) (reps_fcons (rep_fldS hsq2) reps_fnil)))⟩⟩
 repeat first|(with_reducible first|apply wl_nil|apply qk_thn|apply wc_ret)|((with_reducible apply ws);exact rfl;exact rfl)
 exact qk_ret1 rfl rfl ⟨_, rfl, hW, hfin⟩
theorem fn_table (w : World) : Fn 26 [] w fun v w' => ∃ fv, v = .agg #[fv, .int .i64 m.flex] ∧ Sq w'.heap.size w' fv (m.fields.map fldD) := by
 refine enter Tryz.func26 rfl Tryz.ntmps26 rfl ?_
 repeat (with_reducible first|apply wc_seq|apply wc_region)
 refine wl_alloc zv_msg rfl rfl (fun w1 hb1 hg1 hs1 => ?_)
 have hs_1 := below_of hg1 (Nat.le_refl _) (by simp)
 repeat (with_reducible first|apply wc_seq|apply wc_region|apply wl_nil|apply qk_thn)
 have hW : Below w1.heap.size w1 w1 := ⟨rfl, rfl, rfl, Nat.le_refl _, fun _ _ => rfl⟩
 refine wl_call rfl (by kernel_rfl) rfl ((fn_tsCreatePartitionsRequestTopic w1).mono ?_)
 rintro e w2 ⟨sv, rfl, hs_2, hsq0⟩
 obtain ⟨a0, c0, rfl⟩ := rep_sqshape hsq0
 refine ⟨_, rfl, ?_⟩
 replace hsq0 := rep_frw hsq0 hW.size
 replace hW := hW.trans (hs_2.mono hW.size)
 replace hb1 := hb1.below hs_2 hb1.lt
 refine wl_build rfl (cs := [.int .i64 11, .int .i64 0, .int .i64 (-1), .int .i64 (-1), .int .i64 (-1), .int .i64 0, .int .i64 10, .slice a0 (sCreatePartitionsRequestTopic.map fldD).length c0]) (by kernel_rfl) rfl ?_
 refine wl_build rfl (cs := [.int .i64 3, .int .i64 0, .int .i64 (-1), .int .i64 (-1), .int .i64 (-1), .int .i64 15000, .int .i64 0, .slice none 0 0]) (by kernel_rfl) rfl ?_
 refine wl_build rfl (cs := [.int .i64 0, .int .i64 0, .int .i64 (-1), .int .i64 (-1), .int .i64 (-1), .int .i64 0, .int .i64 0, .slice none 0 0]) (by kernel_rfl) rfl ?_
 refine wl_sliceN [[.int .i64 11, .int .i64 0, .int .i64 (-1), .int .i64 (-1), .int .i64 (-1), .int .i64 0, .int .i64 10, .slice a0 (sCreatePartitionsRequestTopic.map fldD).length c0], [.int .i64 3, .int .i64 0, .int .i64 (-1), .int .i64 (-1), .int .i64 (-1), .int .i64 15000, .int .i64 0, .slice none 0 0], [.int .i64 0, .int .i64 0, .int .i64 (-1), .int .i64 (-1), .int .i64 (-1), .int .i64 0, .int .i64 0, .slice none 0 0]] rt_flds rfl rfl (by simp) rfl rfl rfl (fun w3 hbS hgS hsS => ?_)
 have hs_3 := below_of hgS (Nat.le_refl _) (by simp)
 have hz := hW.size
 replace hsq0 := rep_fr hsq0 hs_3 (Nat.le_refl _)
 replace hW := hW.trans (hs_3.mono hW.size)
 replace hb1 := hb1.below hs_3 hb1.lt
 have hfin : Rep (Frs w1.heap.size w3.heap.size) w3 (.sq (m.fields.map fldD)) [.slice (some ⟨w2.heap.size, 0, none⟩) 3 3] := by
  simp only [Rep]
  exact ⟨_, 3, rfl, Nat.le_refl _, .inr ⟨w2.heap.size, 0, _, rfl, ⟨hz, hbS.lt⟩, hbS.cells, (reps_fcons (rep_fldS hsq0) (reps_fcons (rep_fld0 _ _ (.mk 3 0 (-1) (-1) (-1) 15000 0 []) rfl) (reps_fcons (rep_fld0 _ _ (.mk 0 0 (-1) (-1) (-1) 0 0 []) rfl) reps_fnil)))⟩⟩
 refine wl_build rfl (cs := [.slice (some ⟨w2.heap.size, 0, none⟩) 3 3, .int .i64 2]) (by kernel_rfl) rfl ?_
 refine wl_storeBAgg (vs := [.slice (some ⟨w2.heap.size, 0, none⟩) 3 3, .int .i64 2]) rfl rfl rfl tz_msg rfl hb1 rfl (fun wz hbz hgz hsz => ?_)
 repeat (with_reducible first|apply wl_nil|apply qk_thn|apply wc_ret)
 have hW0 := hs_1.trans (hW.mono hs_1.size)
 refine qk_retCell (cs := [.slice (some ⟨w2.heap.size, 0, none⟩) 3 3, .int .i64 2]) rfl rfl ta_msg hbz ⟨_, rfl, hW0.trans (below_of hgz hW0.size (by intro q hq; simp at hq; omega)), _, rfl, ?_⟩
 exact Rep.mono (fun b hb => ⟨by have := hb.2; simp only [Lo]; omega, hgz.block b hb.2 (by have := hb.1; simp; omega)⟩) _ _ hfin
noncomputable def z0 : List Value := match Tryz.prog.info? 137 with | some i => (match i.zero with | some z => z.cells.toList | none => []) | none => []
noncomputable def d0 : List Value := match (defF Tryz.prog 113).bind fun l => setAll l z0 with | some cs => cs | none => []
noncomputable def cs0 (ver : Int) : List Value := .int .i16 ver :: d0.drop 1
theorem d0_eq : (defF Tryz.prog 113).bind (fun l => setAll l z0) = some d0 := by kernel_rfl
theorem d0_hd : d0 = .int .i16 0 :: d0.drop 1 := by kernel_rfl
theorem zv (w : World) : (zeroValue 137).run Tryz.prog w = .ok (.agg z0.toArray) w := by kernel_rfl
theorem fn_new (w : World) : Calls Tryz.prog 66 #[] w fun e w' => e = .returned (.pointer (some ⟨w.heap.size, 0, none⟩)) ∧ Box w' w.heap.size d0 137 ∧ Below w.heap.size w w' := by
 obtain ⟨l, hl, hset⟩ := Option.bind_eq_some_iff.1 d0_eq
 refine enter (vs := []) Tryz.func66 rfl Tryz.ntmps66 rfl ?_
 repeat first|(with_reducible first|apply wc_seq|apply wc_region|apply wl_nil|apply qk_thn)|((with_reducible apply ws);exact rfl;exact rfl)
 refine wl_alloc zv rfl rfl (fun w1 hb1 hg1 hs1 => ?_)
 repeat (with_reducible first|apply wc_seq|apply wc_region|apply wl_nil|apply qk_thn)
 have hdef := defF_ok (w := w1) hl (b := w.heap.size) (pre := []) (cs := z0) (post := []) (cs' := d0) (e := 137) (by simpa using hb1) hset
 refine wl_call rfl hdef.1 rfl (hdef.2.mono ?_)
 rintro e w2 ⟨rfl, hb2, hc2⟩
 refine ⟨_, rfl, ?_⟩
 repeat first|(with_reducible first|apply wc_seq|apply wc_region|apply wl_nil|apply qk_thn|apply wc_ret)|((with_reducible apply ws);exact rfl;exact rfl)
 exact qk_ret1 rfl rfl ⟨rfl, by simpa using hb2, (below_of hg1 (Nat.le_refl _) (by simp)).trans (chg_below hc2 (fun j hj h => by have : j = w.heap.size := h; omega) (by omega))⟩
theorem fn_max (w : World) : Calls Tryz.prog 25 #[] w fun e w' => e = .returned (.int .i64 (most : Int)) ∧ Below w.heap.size w w' := by
 refine enter (vs := []) Tryz.func25 rfl Tryz.ntmps25 rfl ?_
 repeat first|(with_reducible first|apply wc_seq|apply wc_region|apply wl_nil|apply qk_thn)|((with_reducible apply ws);exact rfl;exact rfl)
 refine wl_call rfl (by kernel_rfl) rfl ((fn_new w).mono ?_)
 rintro e w1 ⟨rfl, hb1, hw1⟩
 refine ⟨_, rfl, ?_⟩
 skip
 have hmax : Calls Tryz.prog 67 #[.pointer (some ⟨w.heap.size, 0, none⟩)] w1 fun e w' => e = .returned (.int .i16 (most : Int)) ∧ w' = w1 := by
  refine enter (vs := [.pointer (some ⟨w.heap.size, 0, none⟩)]) Tryz.func67 rfl Tryz.ntmps67 rfl ?_
  repeat first|(with_reducible first|apply wc_seq|apply wc_region|apply wl_nil|apply qk_thn|apply wc_ret)|((with_reducible apply ws);exact rfl;exact rfl)
  exact qk_ret1 rfl rfl ⟨rfl, rfl⟩
 refine wl_call rfl (by kernel_rfl) rfl ((hmax).mono ?_)
 rintro e w2 ⟨rfl, rfl⟩
 refine ⟨_, rfl, ?_⟩
 refine wl_conv .i64 rfl ti_i16 ti_i64 rfl (r := (most : Int)) rfl ?_
 repeat first|(with_reducible first|apply wl_nil|apply qk_thn|apply wc_ret)|((with_reducible apply ws);exact rfl;exact rfl)
 exact qk_ret1 rfl rfl ⟨rfl, hw1⟩
theorem fn_set (w : World) (b : Nat) (x : Value) (r : List Value) (ver : Int) (hb : Box w b (x :: r) 137) : Calls Tryz.prog 69 #[.pointer (some ⟨b, 0, none⟩), .int .i16 ver] w fun e w' => e = .returned (.tuple #[]) ∧ Box w' b (.int .i16 ver :: r) 137 ∧ w.grownBy w' (some b) := by
 refine enter (vs := [.pointer (some ⟨b, 0, none⟩), .int .i16 ver]) Tryz.func69 rfl Tryz.ntmps69 rfl ?_
 repeat first|(with_reducible apply wc_region)|((with_reducible apply ws);exact rfl;exact rfl)
 refine wl_storeB (i := 0) rfl rfl to_i16 rfl hb rfl (fun w1 hb1 hg1 _ => ?_)
 exact wl_nil (qk_end0 rfl ⟨rfl, hb1, hg1⟩)
theorem tabT_m : tabTs m.fields = true := by decide
theorem rd_all : (List.range (most + 1)).all (fun v => readOkZ Tryz.prog Rdk.kr 115 (v : Int) true (m.flexible (v : Int)) m.fields (cs0 (v : Int)) && tabFs (v : Int) m.fields) = true := by kernel_rfl
theorem rd (v : Nat) (h : v ≤ most) : readOkZ Tryz.prog Rdk.kr 115 (v : Int) true (m.flexible (v : Int)) m.fields (cs0 (v : Int)) = true ∧ tabFs (v : Int) m.fields = true := by
 have := List.all_eq_true.1 rd_all v (List.mem_range.2 (by omega))
 simpa only [Bool.and_eq_true] using this
theorem tg_ok (v : Int) : m.flexible v = true → true = true := fun _ => rfl
theorem fn_read (v : Nat) (hv : v ≤ most) (t : Tree) (ht : t.ok) (w : World) (ev sv : Value) (b sb : Nat) (hb : Box w b (cs0 (v : Int)) 137) (hs : SrcAt w sb sv (wPart (v : Int) (m.flexible (v : Int)) m.fields t)) (hsb : sb < w.heap.size) (hne : b ≠ sb)
  (hg : w.cell? ⟨1, 0, none⟩ = some ev) (hgb : 1 ≠ b) (hgl : 1 < w.heap.size) :
  Calls Tryz.prog 70 #[.pointer (some ⟨b, 0, none⟩), sv] w fun en w' => en = .returned .nilIface ∧ ∃ cs' lo new, w.heap.size ≤ lo ∧ Box w' b cs' 137 ∧ Reps (Dk sb lo w') w' (.lit (.int .i16 (v : Int)) :: new) cs' ∧ HzP (v : Int) true (m.flexible (v : Int)) m.fields ((fitP (v : Int) m.fields t).withNull false) new ∧ Chg (fun j => j = b ∨ w.heap.size ≤ j) w w' := by
 obtain ⟨hread, htab⟩ := rd v hv
 obtain ⟨hfit, hwire⟩ := fitt_ok htab ht (m.flexible (v : Int))
 have hr := readZ_ok (Rdk.kr_ok ev) Rdk.kr_ty (tg_ok (v : Int)) hread hfit hb (by rw [hwire]; exact hs) hsb hne hg hgb hgl
 refine enter (vs := [.pointer (some ⟨b, 0, none⟩), sv]) Tryz.func70 rfl Tryz.ntmps70 rfl ?_
 repeat first|(with_reducible first|apply wc_seq|apply wc_region|apply wl_nil|apply qk_thn)|((with_reducible apply ws);exact rfl;exact rfl)
 refine wl_call rfl hr.1 rfl (hr.2.mono ?_)
 rintro en w1 ⟨rfl, h⟩
 refine ⟨_, rfl, ?_⟩
 repeat first|(with_reducible first|apply wl_nil|apply qk_thn|apply wc_ret)|((with_reducible apply ws);exact rfl;exact rfl)
 exact qk_ret1 rfl rfl ⟨rfl, h⟩
theorem fo_t4 : fieldOff Tryz.prog 37 4 = some 4 := by kernel_rfl
set_option maxHeartbeats 4000000 in
theorem clo_CreatePartitionsRequestTopicAssignment : ClC Tryz.prog 37 70 189 := by
 refine ⟨by kernel_rfl, fun w lo tb B hd d us k s val hU hhd hval hBt hk hs hmany => ?_⟩
 obtain ⟨a0, a1, a2, a3, rfl⟩ : ∃ a0 a1 a2 a3, hd = [a0, a1, a2, a3] := by
  match hd, hhd with
  | [a0, a1, a2, a3], _ => exact ⟨a0, a1, a2, a3, rfl⟩
 have hsq : Sq B w val (s.map byteD) := hval
 obtain ⟨va, vc, rfl, _⟩ := hsq.shape
 obtain ⟨da, dc, hds⟩ := hU.row.shape
 have hlo := hU.lt
 have hlw := hU.low
 have hdl := hU.row.low
 have hbx0 : Box w tb [a0, a1, a2, a3, d] 37 := hU.box
 refine enter (vs := [.int .u32 (k : Int), .slice va (s.map byteD).length vc, .pointer (some ⟨tb, 0, none⟩)]) Tryz.func189 rfl Tryz.ntmps189 rfl ?_
 refine wc_parS [(0, .pointer (some ⟨tb, 0 + 4, none⟩)), (1, d), (2, .int .u32 (k : Int)), (3, .slice va (s.map byteD).length vc), (8, .pointer (some ⟨tb, 0 + 4, none⟩))] [9, 7, 6, 5, 4]
  (fun vals w' => match vals with
   | [] => Chg (fun _ => False) w w'
   | [v] => Chg (fun _ => False) w w' ∧ (∃ a n c, v = .slice a n c) ∧ Rep (In 0 w.heap.size w') w' (bytesD s) [v]
   | [v, _] => Chg (fun _ => False) w w' ∧ ∃ sv, (∃ a n c, sv = .slice a n c) ∧ v = .agg ([.int .u32 (k : Int), sv] : List Value).toArray ∧ Rep (In 0 w.heap.size w') w' (bytesD s) [sv]
   | [v, _, _] => Chg (fun _ => False) w w' ∧ ∃ (b8 : Nat) (sv : Value), (∃ a n c, sv = .slice a n c) ∧ v = .slice (some ⟨b8, 0, none⟩) 1 1 ∧ Box w' b8 [.int .u32 (k : Int), sv] 70 ∧ Rep (In 0 w.heap.size w') w' (bytesD s) [sv]
   | [v, _, _, _] => Chg (fun j => d.ownBlock = some j) w w' ∧ Box w' tb [a0, a1, a2, a3, d] 37 ∧ RowD 0 lo tb 70 2 w' v ((us ++ [(k, s)]).map tagD)
   | _ :: v :: _ => Chg (fun j => j = tb ∨ d.ownBlock = some j) w w' ∧ Box w' tb [a0, a1, a2, a3, v] 37 ∧ RowD 0 lo tb 70 2 w' v ((us ++ [(k, s)]).map tagD))
  mixed rfl rfl rfl rfl rfl (by show ([0,1,2,3,8] : List Nat).Nodup; decide) rfl rfl (by decide) rfl rfl rfl rfl (chg_drew _ _) ?_ ⟨?_, ?_, ?_, ?_, ?_, trivial⟩ ?_
 ·intro p hp vals w' hC hnp a kn
  simp only [List.mem_cons, List.not_mem_nil, or_false] at hp
  rcases hp with rfl | rfl | rfl | rfl | rfl
  ·exact gv rfl rfl (rn_fieldAddr kn rfl fo_t4)
  ·have hbx : Box w' tb [a0, a1, a2, a3, d] 37 := by
    match vals, hC, hnp with
    | [], h, _ => exact hbx0.chg h (fun h => h)
    | [_], h, _ => exact hbx0.chg h.1 (fun h => h)
    | [_, _], h, _ => exact hbx0.chg h.1 (fun h => h)
    | [_, _, _], h, _ => exact hbx0.chg h.1 (fun h => h)
    | [_, _, _, _], h, _ => exact h.2.1
    | _ :: _ :: _ :: _ :: _ :: r, _, hnp =>
     have := hnp 9 (by rw [show ([9, 7, 6, 5, 4] : List Nat).length - (_ :: _ :: _ :: _ :: _ :: r).length = 0 from by simp only [List.length_cons, List.length_nil]; omega]; simp)
     exact absurd (show true = false from this) (by simp)
   exact gv rfl rfl (rn_load kn rfl Impl.to_tags (hbx.cell0 (i := 4) rfl))
  ·exact gv rfl rfl (rn_move kn rfl)
  ·exact gv rfl rfl (rn_move kn rfl)
  ·exact gv rfl rfl (rn_fieldAddr kn rfl fo_t4)
 ·rintro vals w' hvl hC a kn
  match vals, hvl with
  | [v7, v6, v5, v4], _ =>
   obtain ⟨hc, hbx, hrd⟩ := hC
   obtain ⟨a7, c7, rfl⟩ := hrd.shape
   refine ⟨_, rfl, does_storeB kn rfl rfl Impl.to_tags rfl hbx rfl (fun w'' hbx'' hg'' hs'' => ⟨?_, hbx'', hrd.stored hg''⟩)⟩
   exact (hc.wide (fun j h => .inr h)).trans ((Chg.grown hg'').wide (fun j h => .inl h))
 ·rintro vals w' hvl hC a kn
  match vals, hvl with
  | [v6, v5, v4], _ =>
   obtain ⟨hc, b8, sv, ⟨sa, sn, sc, rfl⟩, rfl, hb8, hrep⟩ := hC
   have hsz := hc.size
   have hrdw := hU.row.below ⟨hc.os, hc.tape, hc.output, hc.size, fun j hj => hc.block j hj (fun h => h)⟩
   obtain ⟨xs0, hrow0, hreps0⟩ := hrdw.row
   refine ⟨_, rfl, does_app1 kn Impl.rt_tags rfl rfl hb8 rfl rfl hrow0 (by omega) (by simp only [List.length_map]; omega) (fun d' w'' hrow'' hg'' => ⟨?_, ?_, ?_⟩)⟩
   ·have h2 : Chg (fun j => d.ownBlock = some j) w' w'' := ⟨hg''.grown.os, hg''.grown.tape, hg''.grown.output, hg''.grown.size, fun j hj hn => hg''.grown.block j hj (fun e => hn e.symm)⟩
    exact (hc.wide (fun j h => h.elim)).trans h2
   ·have hb := hbx0.chg hc (fun h => h)
    exact hb.kept hg''.grown (fun e => hU.row.apart e.symm)
   ·rw [List.map_append, List.map_cons, List.map_nil]
    refine hrdw.snoc (by omega) (by have := hbx0.lt; omega) hreps0 ?_ hrow'' hg''
    simp only [tagD, Rep, Reps]
    refine ⟨[_], _, rfl, rfl, [_], _, rfl, ?_, rfl⟩
    refine hrep.up (fun r hr => ⟨.inr (by rcases hr.1 with h | h; exact absurd h (Nat.not_lt_zero _); omega), hr.2, ?_, fun e => ?_⟩) (fun _ _ => rfl)
    ·rcases hr.1 with h | h
     ·exact absurd h (Nat.not_lt_zero _)
     ·have := hbx0.lt; omega
    ·rcases hr.1 with h | h
     ·exact absurd h (Nat.not_lt_zero _)
     ·have := (hdl r e).2; omega
 ·rintro vals w' hvl hC a kn
  match vals, hvl with
  | [v5, v4], _ =>
   obtain ⟨hc, sv, ⟨sa, sn, sc, rfl⟩, rfl, hrep⟩ := hC
   have hga := grown_alloc w' (.cells ([.int .u32 (k : Int), .slice sa sn sc] : List Value).toArray 70)
   refine ⟨_, rfl, does_slice1 (cs := [.int .u32 (k : Int), .slice sa sn sc]) kn Impl.rt_tags rfl rfl rfl rfl ⟨hc.trans (Chg.grown0 hga), _, _, ⟨sa, sn, sc, rfl⟩, rfl, box_alloc _ _ _, hrep.up (fun r hr => ⟨hr.1, by have := hr.2; simp; omega⟩) (fun r hr => hga.block r hr.2 (by simp))⟩⟩
 ·rintro vals w' hvl hC a kn
  match vals, hvl with
  | [v4], _ =>
   obtain ⟨hc, ⟨sa, sn, sc, rfl⟩, hrep⟩ := hC
   exact ⟨_, rfl, does_build (ps := [(0, .tmp 7), (1, .tmp 9)]) (cs := [.int .u32 (k : Int), .slice sa sn sc]) kn rfl (by kernel_rfl) ⟨hc, _, ⟨sa, sn, sc, rfl⟩, rfl, hrep⟩⟩
 ·rintro vals w' hvl hC a kn
  match vals, hvl with
  | [], _ =>
   have hsb : BytesAt w' (.slice va (s.map byteD).length vc) s := hsq.bytes.below ⟨hC.os, hC.tape, hC.output, hC.size, fun j hj => hC.block j hj (fun h => h)⟩
   refine ⟨_, rfl, does_appSl kn tb_bytes tb_bytes rfl rfl hsb (Own.nil w' w'.heap.size 5) (Nat.le_refl _) (by simpa using hs) (fun d' w'' ho hg => ?_)⟩
   rw [List.nil_append] at ho
   obtain ⟨oa, oc, rfl⟩ := ho.shape
   refine ⟨hC.trans (Chg.grown0 hg.grown), ⟨_, _, _, rfl⟩, own_rep (l0 := w.heap.size) ho hC.size⟩
 ·rintro vals w' hvl hC
  match vals, hvl with
  | [v9, v7, v6, v5, v4], _ =>
   obtain ⟨hc, hbx, hrd⟩ := hC
   exact qk_end0 rfl ⟨rfl, v7, ⟨hbx, hrd, hlo, by have := hc.size; omega⟩, hc⟩
set_option maxHeartbeats 4000000 in
theorem clo_CreatePartitionsRequestTopic : ClC Tryz.prog 37 70 163 := by
 refine ⟨by kernel_rfl, fun w lo tb B hd d us k s val hU hhd hval hBt hk hs hmany => ?_⟩
 obtain ⟨a0, a1, a2, a3, rfl⟩ : ∃ a0 a1 a2 a3, hd = [a0, a1, a2, a3] := by
  match hd, hhd with
  | [a0, a1, a2, a3], _ => exact ⟨a0, a1, a2, a3, rfl⟩
 have hsq : Sq B w val (s.map byteD) := hval
 obtain ⟨va, vc, rfl, _⟩ := hsq.shape
 obtain ⟨da, dc, hds⟩ := hU.row.shape
 have hlo := hU.lt
 have hlw := hU.low
 have hdl := hU.row.low
 have hbx0 : Box w tb [a0, a1, a2, a3, d] 37 := hU.box
 refine enter (vs := [.int .u32 (k : Int), .slice va (s.map byteD).length vc, .pointer (some ⟨tb, 0, none⟩)]) Tryz.func163 rfl Tryz.ntmps163 rfl ?_
 refine wc_parS [(0, .pointer (some ⟨tb, 0 + 4, none⟩)), (1, d), (2, .int .u32 (k : Int)), (3, .slice va (s.map byteD).length vc), (8, .pointer (some ⟨tb, 0 + 4, none⟩))] [9, 7, 6, 5, 4]
  (fun vals w' => match vals with
   | [] => Chg (fun _ => False) w w'
   | [v] => Chg (fun _ => False) w w' ∧ (∃ a n c, v = .slice a n c) ∧ Rep (In 0 w.heap.size w') w' (bytesD s) [v]
   | [v, _] => Chg (fun _ => False) w w' ∧ ∃ sv, (∃ a n c, sv = .slice a n c) ∧ v = .agg ([.int .u32 (k : Int), sv] : List Value).toArray ∧ Rep (In 0 w.heap.size w') w' (bytesD s) [sv]
   | [v, _, _] => Chg (fun _ => False) w w' ∧ ∃ (b8 : Nat) (sv : Value), (∃ a n c, sv = .slice a n c) ∧ v = .slice (some ⟨b8, 0, none⟩) 1 1 ∧ Box w' b8 [.int .u32 (k : Int), sv] 70 ∧ Rep (In 0 w.heap.size w') w' (bytesD s) [sv]
   | [v, _, _, _] => Chg (fun j => d.ownBlock = some j) w w' ∧ Box w' tb [a0, a1, a2, a3, d] 37 ∧ RowD 0 lo tb 70 2 w' v ((us ++ [(k, s)]).map tagD)
   | _ :: v :: _ => Chg (fun j => j = tb ∨ d.ownBlock = some j) w w' ∧ Box w' tb [a0, a1, a2, a3, v] 37 ∧ RowD 0 lo tb 70 2 w' v ((us ++ [(k, s)]).map tagD))
  mixed rfl rfl rfl rfl rfl (by show ([0,1,2,3,8] : List Nat).Nodup; decide) rfl rfl (by decide) rfl rfl rfl rfl (chg_drew _ _) ?_ ⟨?_, ?_, ?_, ?_, ?_, trivial⟩ ?_
 ·intro p hp vals w' hC hnp a kn
  simp only [List.mem_cons, List.not_mem_nil, or_false] at hp
  rcases hp with rfl | rfl | rfl | rfl | rfl
  ·exact gv rfl rfl (rn_fieldAddr kn rfl fo_t4)
  ·have hbx : Box w' tb [a0, a1, a2, a3, d] 37 := by
    match vals, hC, hnp with
    | [], h, _ => exact hbx0.chg h (fun h => h)
    | [_], h, _ => exact hbx0.chg h.1 (fun h => h)
    | [_, _], h, _ => exact hbx0.chg h.1 (fun h => h)
    | [_, _, _], h, _ => exact hbx0.chg h.1 (fun h => h)
    | [_, _, _, _], h, _ => exact h.2.1
    | _ :: _ :: _ :: _ :: _ :: r, _, hnp =>
     have := hnp 9 (by rw [show ([9, 7, 6, 5, 4] : List Nat).length - (_ :: _ :: _ :: _ :: _ :: r).length = 0 from by simp only [List.length_cons, List.length_nil]; omega]; simp)
     exact absurd (show true = false from this) (by simp)
   exact gv rfl rfl (rn_load kn rfl Impl.to_tags (hbx.cell0 (i := 4) rfl))
  ·exact gv rfl rfl (rn_move kn rfl)
  ·exact gv rfl rfl (rn_move kn rfl)
  ·exact gv rfl rfl (rn_fieldAddr kn rfl fo_t4)
 ·rintro vals w' hvl hC a kn
  match vals, hvl with
  | [v7, v6, v5, v4], _ =>
   obtain ⟨hc, hbx, hrd⟩ := hC
   obtain ⟨a7, c7, rfl⟩ := hrd.shape
   refine ⟨_, rfl, does_storeB kn rfl rfl Impl.to_tags rfl hbx rfl (fun w'' hbx'' hg'' hs'' => ⟨?_, hbx'', hrd.stored hg''⟩)⟩
   exact (hc.wide (fun j h => .inr h)).trans ((Chg.grown hg'').wide (fun j h => .inl h))
 ·rintro vals w' hvl hC a kn
  match vals, hvl with
  | [v6, v5, v4], _ =>
   obtain ⟨hc, b8, sv, ⟨sa, sn, sc, rfl⟩, rfl, hb8, hrep⟩ := hC
   have hsz := hc.size
   have hrdw := hU.row.below ⟨hc.os, hc.tape, hc.output, hc.size, fun j hj => hc.block j hj (fun h => h)⟩
   obtain ⟨xs0, hrow0, hreps0⟩ := hrdw.row
   refine ⟨_, rfl, does_app1 kn Impl.rt_tags rfl rfl hb8 rfl rfl hrow0 (by omega) (by simp only [List.length_map]; omega) (fun d' w'' hrow'' hg'' => ⟨?_, ?_, ?_⟩)⟩
   ·have h2 : Chg (fun j => d.ownBlock = some j) w' w'' := ⟨hg''.grown.os, hg''.grown.tape, hg''.grown.output, hg''.grown.size, fun j hj hn => hg''.grown.block j hj (fun e => hn e.symm)⟩
    exact (hc.wide (fun j h => h.elim)).trans h2
   ·have hb := hbx0.chg hc (fun h => h)
    exact hb.kept hg''.grown (fun e => hU.row.apart e.symm)
   ·rw [List.map_append, List.map_cons, List.map_nil]
    refine hrdw.snoc (by omega) (by have := hbx0.lt; omega) hreps0 ?_ hrow'' hg''
    simp only [tagD, Rep, Reps]
    refine ⟨[_], _, rfl, rfl, [_], _, rfl, ?_, rfl⟩
    refine hrep.up (fun r hr => ⟨.inr (by rcases hr.1 with h | h; exact absurd h (Nat.not_lt_zero _); omega), hr.2, ?_, fun e => ?_⟩) (fun _ _ => rfl)
    ·rcases hr.1 with h | h
     ·exact absurd h (Nat.not_lt_zero _)
     ·have := hbx0.lt; omega
    ·rcases hr.1 with h | h
     ·exact absurd h (Nat.not_lt_zero _)
     ·have := (hdl r e).2; omega
 ·rintro vals w' hvl hC a kn
  match vals, hvl with
  | [v5, v4], _ =>
   obtain ⟨hc, sv, ⟨sa, sn, sc, rfl⟩, rfl, hrep⟩ := hC
   have hga := grown_alloc w' (.cells ([.int .u32 (k : Int), .slice sa sn sc] : List Value).toArray 70)
   refine ⟨_, rfl, does_slice1 (cs := [.int .u32 (k : Int), .slice sa sn sc]) kn Impl.rt_tags rfl rfl rfl rfl ⟨hc.trans (Chg.grown0 hga), _, _, ⟨sa, sn, sc, rfl⟩, rfl, box_alloc _ _ _, hrep.up (fun r hr => ⟨hr.1, by have := hr.2; simp; omega⟩) (fun r hr => hga.block r hr.2 (by simp))⟩⟩
 ·rintro vals w' hvl hC a kn
  match vals, hvl with
  | [v4], _ =>
   obtain ⟨hc, ⟨sa, sn, sc, rfl⟩, hrep⟩ := hC
   exact ⟨_, rfl, does_build (ps := [(0, .tmp 7), (1, .tmp 9)]) (cs := [.int .u32 (k : Int), .slice sa sn sc]) kn rfl (by kernel_rfl) ⟨hc, _, ⟨sa, sn, sc, rfl⟩, rfl, hrep⟩⟩
 ·rintro vals w' hvl hC a kn
  match vals, hvl with
  | [], _ =>
   have hsb : BytesAt w' (.slice va (s.map byteD).length vc) s := hsq.bytes.below ⟨hC.os, hC.tape, hC.output, hC.size, fun j hj => hC.block j hj (fun h => h)⟩
   refine ⟨_, rfl, does_appSl kn tb_bytes tb_bytes rfl rfl hsb (Own.nil w' w'.heap.size 5) (Nat.le_refl _) (by simpa using hs) (fun d' w'' ho hg => ?_)⟩
   rw [List.nil_append] at ho
   obtain ⟨oa, oc, rfl⟩ := ho.shape
   refine ⟨hC.trans (Chg.grown0 hg.grown), ⟨_, _, _, rfl⟩, own_rep (l0 := w.heap.size) ho hC.size⟩
 ·rintro vals w' hvl hC
  match vals, hvl with
  | [v9, v7, v6, v5, v4], _ =>
   obtain ⟨hc, hbx, hrd⟩ := hC
   exact qk_end0 rfl ⟨rfl, v7, ⟨hbx, hrd, hlo, by have := hc.size; omega⟩, hc⟩
set_option maxHeartbeats 4000000 in
theorem clo_CreatePartitionsRequest : ClC Tryz.prog 37 70 118 := by
 refine ⟨by kernel_rfl, fun w lo tb B hd d us k s val hU hhd hval hBt hk hs hmany => ?_⟩
 obtain ⟨a0, a1, a2, a3, rfl⟩ : ∃ a0 a1 a2 a3, hd = [a0, a1, a2, a3] := by
  match hd, hhd with
  | [a0, a1, a2, a3], _ => exact ⟨a0, a1, a2, a3, rfl⟩
 have hsq : Sq B w val (s.map byteD) := hval
 obtain ⟨va, vc, rfl, _⟩ := hsq.shape
 obtain ⟨da, dc, hds⟩ := hU.row.shape
 have hlo := hU.lt
 have hlw := hU.low
 have hdl := hU.row.low
 have hbx0 : Box w tb [a0, a1, a2, a3, d] 37 := hU.box
 refine enter (vs := [.int .u32 (k : Int), .slice va (s.map byteD).length vc, .pointer (some ⟨tb, 0, none⟩)]) Tryz.func118 rfl Tryz.ntmps118 rfl ?_
 refine wc_parS [(0, .pointer (some ⟨tb, 0 + 4, none⟩)), (1, d), (2, .int .u32 (k : Int)), (3, .slice va (s.map byteD).length vc), (8, .pointer (some ⟨tb, 0 + 4, none⟩))] [9, 7, 6, 5, 4]
  (fun vals w' => match vals with
   | [] => Chg (fun _ => False) w w'
   | [v] => Chg (fun _ => False) w w' ∧ (∃ a n c, v = .slice a n c) ∧ Rep (In 0 w.heap.size w') w' (bytesD s) [v]
   | [v, _] => Chg (fun _ => False) w w' ∧ ∃ sv, (∃ a n c, sv = .slice a n c) ∧ v = .agg ([.int .u32 (k : Int), sv] : List Value).toArray ∧ Rep (In 0 w.heap.size w') w' (bytesD s) [sv]
   | [v, _, _] => Chg (fun _ => False) w w' ∧ ∃ (b8 : Nat) (sv : Value), (∃ a n c, sv = .slice a n c) ∧ v = .slice (some ⟨b8, 0, none⟩) 1 1 ∧ Box w' b8 [.int .u32 (k : Int), sv] 70 ∧ Rep (In 0 w.heap.size w') w' (bytesD s) [sv]
   | [v, _, _, _] => Chg (fun j => d.ownBlock = some j) w w' ∧ Box w' tb [a0, a1, a2, a3, d] 37 ∧ RowD 0 lo tb 70 2 w' v ((us ++ [(k, s)]).map tagD)
   | _ :: v :: _ => Chg (fun j => j = tb ∨ d.ownBlock = some j) w w' ∧ Box w' tb [a0, a1, a2, a3, v] 37 ∧ RowD 0 lo tb 70 2 w' v ((us ++ [(k, s)]).map tagD))
  mixed rfl rfl rfl rfl rfl (by show ([0,1,2,3,8] : List Nat).Nodup; decide) rfl rfl (by decide) rfl rfl rfl rfl (chg_drew _ _) ?_ ⟨?_, ?_, ?_, ?_, ?_, trivial⟩ ?_
 ·intro p hp vals w' hC hnp a kn
  simp only [List.mem_cons, List.not_mem_nil, or_false] at hp
  rcases hp with rfl | rfl | rfl | rfl | rfl
  ·exact gv rfl rfl (rn_fieldAddr kn rfl fo_t4)
  ·have hbx : Box w' tb [a0, a1, a2, a3, d] 37 := by
    match vals, hC, hnp with
    | [], h, _ => exact hbx0.chg h (fun h => h)
    | [_], h, _ => exact hbx0.chg h.1 (fun h => h)
    | [_, _], h, _ => exact hbx0.chg h.1 (fun h => h)
    | [_, _, _], h, _ => exact hbx0.chg h.1 (fun h => h)
    | [_, _, _, _], h, _ => exact h.2.1
    | _ :: _ :: _ :: _ :: _ :: r, _, hnp =>
     have := hnp 9 (by rw [show ([9, 7, 6, 5, 4] : List Nat).length - (_ :: _ :: _ :: _ :: _ :: r).length = 0 from by simp only [List.length_cons, List.length_nil]; omega]; simp)
     exact absurd (show true = false from this) (by simp)
   exact gv rfl rfl (rn_load kn rfl Impl.to_tags (hbx.cell0 (i := 4) rfl))
  ·exact gv rfl rfl (rn_move kn rfl)
  ·exact gv rfl rfl (rn_move kn rfl)
  ·exact gv rfl rfl (rn_fieldAddr kn rfl fo_t4)
 ·rintro vals w' hvl hC a kn
  match vals, hvl with
  | [v7, v6, v5, v4], _ =>
   obtain ⟨hc, hbx, hrd⟩ := hC
   obtain ⟨a7, c7, rfl⟩ := hrd.shape
   refine ⟨_, rfl, does_storeB kn rfl rfl Impl.to_tags rfl hbx rfl (fun w'' hbx'' hg'' hs'' => ⟨?_, hbx'', hrd.stored hg''⟩)⟩
   exact (hc.wide (fun j h => .inr h)).trans ((Chg.grown hg'').wide (fun j h => .inl h))
 ·rintro vals w' hvl hC a kn
  match vals, hvl with
  | [v6, v5, v4], _ =>
   obtain ⟨hc, b8, sv, ⟨sa, sn, sc, rfl⟩, rfl, hb8, hrep⟩ := hC
   have hsz := hc.size
   have hrdw := hU.row.below ⟨hc.os, hc.tape, hc.output, hc.size, fun j hj => hc.block j hj (fun h => h)⟩
   obtain ⟨xs0, hrow0, hreps0⟩ := hrdw.row
   refine ⟨_, rfl, does_app1 kn Impl.rt_tags rfl rfl hb8 rfl rfl hrow0 (by omega) (by simp only [List.length_map]; omega) (fun d' w'' hrow'' hg'' => ⟨?_, ?_, ?_⟩)⟩
   ·have h2 : Chg (fun j => d.ownBlock = some j) w' w'' := ⟨hg''.grown.os, hg''.grown.tape, hg''.grown.output, hg''.grown.size, fun j hj hn => hg''.grown.block j hj (fun e => hn e.symm)⟩
    exact (hc.wide (fun j h => h.elim)).trans h2
   ·have hb := hbx0.chg hc (fun h => h)
    exact hb.kept hg''.grown (fun e => hU.row.apart e.symm)
   ·rw [List.map_append, List.map_cons, List.map_nil]
    refine hrdw.snoc (by omega) (by have := hbx0.lt; omega) hreps0 ?_ hrow'' hg''
    simp only [tagD, Rep, Reps]
    refine ⟨[_], _, rfl, rfl, [_], _, rfl, ?_, rfl⟩
    refine hrep.up (fun r hr => ⟨.inr (by rcases hr.1 with h | h; exact absurd h (Nat.not_lt_zero _); omega), hr.2, ?_, fun e => ?_⟩) (fun _ _ => rfl)
    ·rcases hr.1 with h | h
     ·exact absurd h (Nat.not_lt_zero _)
     ·have := hbx0.lt; omega
    ·rcases hr.1 with h | h
     ·exact absurd h (Nat.not_lt_zero _)
     ·have := (hdl r e).2; omega
 ·rintro vals w' hvl hC a kn
  match vals, hvl with
  | [v5, v4], _ =>
   obtain ⟨hc, sv, ⟨sa, sn, sc, rfl⟩, rfl, hrep⟩ := hC
   have hga := grown_alloc w' (.cells ([.int .u32 (k : Int), .slice sa sn sc] : List Value).toArray 70)
   refine ⟨_, rfl, does_slice1 (cs := [.int .u32 (k : Int), .slice sa sn sc]) kn Impl.rt_tags rfl rfl rfl rfl ⟨hc.trans (Chg.grown0 hga), _, _, ⟨sa, sn, sc, rfl⟩, rfl, box_alloc _ _ _, hrep.up (fun r hr => ⟨hr.1, by have := hr.2; simp; omega⟩) (fun r hr => hga.block r hr.2 (by simp))⟩⟩
 ·rintro vals w' hvl hC a kn
  match vals, hvl with
  | [v4], _ =>
   obtain ⟨hc, ⟨sa, sn, sc, rfl⟩, hrep⟩ := hC
   exact ⟨_, rfl, does_build (ps := [(0, .tmp 7), (1, .tmp 9)]) (cs := [.int .u32 (k : Int), .slice sa sn sc]) kn rfl (by kernel_rfl) ⟨hc, _, ⟨sa, sn, sc, rfl⟩, rfl, hrep⟩⟩
 ·rintro vals w' hvl hC a kn
  match vals, hvl with
  | [], _ =>
   have hsb : BytesAt w' (.slice va (s.map byteD).length vc) s := hsq.bytes.below ⟨hC.os, hC.tape, hC.output, hC.size, fun j hj => hC.block j hj (fun h => h)⟩
   refine ⟨_, rfl, does_appSl kn tb_bytes tb_bytes rfl rfl hsb (Own.nil w' w'.heap.size 5) (Nat.le_refl _) (by simpa using hs) (fun d' w'' ho hg => ?_)⟩
   rw [List.nil_append] at ho
   obtain ⟨oa, oc, rfl⟩ := ho.shape
   refine ⟨hC.trans (Chg.grown0 hg.grown), ⟨_, _, _, rfl⟩, own_rep (l0 := w.heap.size) ho hC.size⟩
 ·rintro vals w' hvl hC
  match vals, hvl with
  | [v9, v7, v6, v5, v4], _ =>
   obtain ⟨hc, hbx, hrd⟩ := hC
   exact qk_end0 rfl ⟨rfl, v7, ⟨hbx, hrd, hlo, by have := hc.size; omega⟩, hc⟩
def k0 : Tk := ⟨37, 117, 999999, 999999, 95, 97, [189, 163, 118], 70, []⟩
theorem k0_ok : TkOk Tryz.prog k0 true := ⟨Tlk.tty, (fun _ => Tlk.boolP), (fun h => Bool.noConfusion (h.symm.trans (show isFn Tryz.prog 999999 = false by kernel_rfl))), (fun h => Bool.noConfusion (h.symm.trans (show isFn Tryz.prog 999999 = false by kernel_rfl))), fun f fs h => by cases h⟩
theorem k0_tg : TgOk Tryz.prog k0 := ⟨Tlk.eachP, Tlk.sortP, fun f h => by
 simp only [k0, List.contains_eq_mem, decide_eq_true_eq, List.mem_cons, List.not_mem_nil, or_false] at h
 rcases h with rfl | rfl | rfl
 ·exact clo_CreatePartitionsRequestTopicAssignment
 ·exact clo_CreatePartitionsRequestTopic
 ·exact clo_CreatePartitionsRequest⟩
theorem tell_sCreatePartitionsRequestTopicAssignment : TlPo Tryz.prog 162 true 0 sCreatePartitionsRequestTopicAssignment := tellFn_ok k0_ok (fun _ => k0_tg) mixed (by kernel_rfl)
def k1 : Tk := ⟨k0.tT, k0.bool, k0.text, k0.octs, k0.each, k0.sorted, k0.clos, k0.gT, (162, sCreatePartitionsRequestTopicAssignment) :: k0.tells⟩
theorem k1_ok : TkOk Tryz.prog k1 true := Tlk.tk_cons k0_ok tell_sCreatePartitionsRequestTopicAssignment
theorem k1_tg : TgOk Tryz.prog k1 := Tlk.tg_cons k0_tg _ _
theorem tell_sCreatePartitionsRequestTopic : TlPo Tryz.prog 116 true 0 sCreatePartitionsRequestTopic := tellFn_ok k1_ok (fun _ => k1_tg) mixed (by kernel_rfl)
def k2 : Tk := ⟨k1.tT, k1.bool, k1.text, k1.octs, k1.each, k1.sorted, k1.clos, k1.gT, (116, sCreatePartitionsRequestTopic) :: k1.tells⟩
theorem k2_ok : TkOk Tryz.prog k2 true := Tlk.tk_cons k1_ok tell_sCreatePartitionsRequestTopic
theorem k2_tg : TgOk Tryz.prog k2 := Tlk.tg_cons k1_tg _ _
theorem tell_top : TlPo Tryz.prog 71 true 1 m.fields := tellFn_ok k2_ok (fun _ => k2_tg) mixed (by kernel_rfl)
set_option maxHeartbeats 4000000 in
theorem fn_door (v : Nat) (hv : v ≤ most) (t : Tree) (ht : t.ok) (w : World) (ev sv : Value) (hs : BytesAt w sv (wPart (v : Int) (m.flexible (v : Int)) m.fields t)) (hg : w.cell? ⟨1, 0, none⟩ = some ev)
  (hl : (wPart (v : Int) (m.flexible (v : Int)) m.fields t).length ≤ lim) :
  Calls Tryz.prog 27 #[.int .i64 (v : Int), sv] w fun e w' => ∃ cs T, e = .returned (.tuple #[.agg cs.toArray, .bool true]) ∧ Rep (Lo w'.heap.size) w' (treeD T) cs ∧ T.small ∧ ToP (v : Int) (m.flexible (v : Int)) m.fields t T ∧ Below w.heap.size w w' := by
 have hvm : v < 32768 := by simp only [most] at hv; omega
 obtain ⟨sa, sc, hsv⟩ := hs.shape
 refine enter (vs := [.int .i64 (v : Int), sv]) Tryz.func27 rfl Tryz.ntmps27 rfl ?_
 repeat (with_reducible first|apply wc_seq|apply wc_region)
 refine wl_alloc Impl.zv_tree rfl rfl (fun w0 hb0 hg0 hs0 => ?_)
 have hw0 : Below w.heap.size w w0 := below_of hg0 (Nat.le_refl _) (by simp)
 repeat first|(with_reducible first|apply wc_seq|apply wc_region|apply wl_nil|apply qk_thn)|((with_reducible apply ws);exact rfl;exact rfl)
 refine wl_call rfl (by kernel_rfl) rfl ((fn_new w0).mono ?_)
 rintro e w1 ⟨rfl, hb1, hw01⟩
 refine ⟨_, rfl, ?_⟩
 have hz01 := hw01.size
 have hw1 := hw0.trans (hw01.mono (by omega))
 repeat first|(with_reducible first|apply wc_seq|apply wc_region|apply wl_nil|apply qk_thn)|((with_reducible apply ws);exact rfl;exact rfl)
 refine wl_conv .i16 rfl ti_i64 ti_i16 rfl (r := (v : Int)) (be2_ver v hvm) ?_
 rw [d0_hd] at hb1
 refine wl_call rfl (by kernel_rfl) rfl ((fn_set w1 w0.heap.size _ _ (v : Int) hb1).mono ?_)
 rintro e w2 ⟨rfl, hb2, hg2⟩
 refine ⟨_, rfl, ?_⟩
 have hlt := hb1.lt
 have hw12 : Below w0.heap.size w1 w2 := below_of hg2 (by omega) (by intro q hq; simp at hq; omega)
 have hw2 := hw1.trans (hw12.mono (by omega))
 have hs2 := hs.below hw2
 have hz2 := hg2.size
 repeat first|(with_reducible first|apply wc_seq|apply wc_region|apply wl_nil|apply qk_thn)|((with_reducible apply ws);exact rfl;exact rfl)
 refine wl_appSl tb_bytes tb_bytes rfl rfl rfl hs2 (Own.nil w2 w2.heap.size 5) (Nat.le_refl _) (by simp only [List.length_nil]; omega) (fun d3 w3 ho3 hg3 => ?_)
 have hw23 : Below w2.heap.size w2 w3 := hg3.below (Nat.le_refl _) (by simp [Value.ownBlock])
 have hw3 := hw2.trans (hw23.mono (by omega))
 have hb3 := hb2.below hw23 (by omega)
 have hz3 := hw23.size
 have hgl : 1 < w.heap.size := World.block_lt_of_cell? _ _ hg
 have hg3' : w3.cell? ⟨1, 0, none⟩ = some ev := by rw [← hg]; simp only [World.cell?, hw3.block _ hgl]
 rw [List.nil_append] at ho3
 obtain ⟨sb, hsb, hsbx, hsrc⟩ := own_src ho3 (by simp only [srcLim]; simp only [lim] at hl; omega) (x0 := 1) (by omega)
 have hb03 : Box w3 w.heap.size [.int .i64 0, .slice none 0 0, .bool false, .slice none 0 0, .slice none 0 0] 37 := ((hb0.below hw01 (by omega)).below hw12 (by omega)).below hw23 (by omega)
 refine wl_call rfl (by kernel_rfl) rfl ((fn_read v hv t ht w3 ev d3 w0.heap.size sb hb3 hsrc hsb (by omega) hg3' (by omega) (by omega)).mono ?_)
 rintro e w4 ⟨rfl, cs4, lo4, new4, hlo4, hb4, hr4, hh4, hc4⟩
 refine ⟨_, rfl, ?_⟩
 have hw34 : Below w0.heap.size w3 w4 := chg_below hc4 (fun j hj h => by rcases h with h | h <;> omega) (by omega)
 have hw4 := hw3.trans (hw34.mono (by omega))
 have hz4 := hw34.size
 have hb04 := hb03.below hw34 (by omega)
 refine wl_ifNeNil rfl (by kernel_rfl) rfl ?_
 repeat (with_reducible first|apply wl_nil|apply qk_thn)
 refine wc_no rfl rfl ?_
 repeat first|(with_reducible first|apply wc_seq|apply wc_region|apply qk_thn|apply wc_skip)|((with_reducible apply ws);exact rfl;exact rfl)
 obtain ⟨_, htab⟩ := rd v hv
 obtain ⟨hfit, _⟩ := fitt_ok htab ht (m.flexible (v : Int))
 have hnull : (fitP (v : Int) m.fields t).withNull false = fitP (v : Int) m.fields t := rfl
 rw [hnull] at hh4 hfit
 obtain ⟨T0, hT0⟩ := exP_of' (tg_ok (v : Int)) tabT_m hfit hh4
 simp only [Reps] at hr4
 obtain ⟨c1, c2, rfl, hc1, hr4⟩ := hr4
 simp only [Rep] at hc1
 subst hc1
 have hat : CellsAt w4 w0.heap.size (0 + 1) c2 := by
  have := hb4.cells.right
  simpa using this
 have hr4' : Reps (Lo w4.heap.size) w4 new4 c2 := Reps.mono (fun j hj => ⟨hj.2, rfl⟩) _ _ hr4
 have htell := tell_top.2 w4.heap.size w4 w0.heap.size 0 c2 new4 T0 hat hr4' (by omega) (Nat.le_refl _) hT0
 refine wl_call rfl tell_top.1 rfl (htell.mono ?_)
 rintro e w5 ⟨cs5, T, rfl, hr5, hT5, hc5⟩
 refine ⟨_, rfl, ?_⟩
 have hz5 := hc5.size
 have hw45 : Below w4.heap.size w4 w5 := ⟨hc5.os, hc5.tape, hc5.output, hc5.size, fun j hj => hc5.block j hj (fun h => h)⟩
 have hw5 := hw4.trans (hw45.mono (by omega))
 have hb05 := hb04.below hw45 (by omega)
 obtain ⟨hone, hlen5⟩ := tree_oneG hr5
 refine wl_storeBAgg (vs := cs5) rfl rfl rfl (by rw [hlen5]; exact Impl.tz_tree) hone hb05 (by rw [hlen5]; rfl) (fun w6 hb6 hg6 hs6 => ?_)
 repeat first|(with_reducible first|apply wl_nil|apply qk_thn|apply wc_ret)|((with_reducible apply ws);exact rfl;exact rfl)
 have hw56 : Below w.heap.size w5 w6 := below_of hg6 (by omega) (by intro q hq; simp at hq; omega)
 refine qk_retCell2 rfl rfl (by rw [hlen5]; exact Impl.ta_tree) hb6 rfl ⟨cs5, T, rfl, ?_, small_P m_ok hT5, top_of (tg_ok (v : Int)) tabT_m ht hh4 hT5, hw5.trans hw56⟩
 exact hr5.up (fun r hr => by have := hr.2; simp only [Lo]; omega) (fun r hr => hg6.block r hr.2 (by rcases hr.1 with h | h; exact absurd h (Nat.not_lt_zero _); simp; omega))
end
end Go.Proofs.YtjfgalpjjnncaaaGreatDoor.BCreatePartitionsRequest

namespace Go.Proofs.YtjfgalpjjnncaaaGreatDoor.BCreatePartitionsRequest
open Go Go.RowKit
section
set_option maxRecDepth 100000
theorem len_ok (t : Tree) (ht : t.ok) (hsm : t.wt ≤ 1048576) (ver : Int) (flex : Bool) : 1000 + (wPart ver flex m.fields t).length ≤ lim := by
 have h1 := wPart_price ver flex m.fields t ht
 have h2 : 1000 + partPrice m.fields * 1048576 ≤ lim := by decide +kernel
 exact Nat.le_trans (Nat.add_le_add_left (Nat.le_trans h1 (Nat.mul_le_mul_left (partPrice m.fields) hsm)) 1000) h2
set_option maxHeartbeats 4000000 in
theorem fn_law (n : Nat) (hn : n < 256) (t : Tree) (ht : t.ok) (hsm : t.wt ≤ 1048576) (w : World) (ev : Value) (ts : List Value) (hrep : Rep (Lo w.heap.size) w (treeD t) ts) (hg : w.cell? ⟨1, 0, none⟩ = some ev) :
  Fn 6 [.int .u8 (n : Int), .agg ts.toArray] w fun v _ => v = .bool true := by
 obtain ⟨sv2, lv, uv, rfl, _, _, _⟩ := tree_cells hrep
 refine enter Tryz.func6 rfl Tryz.ntmps6 rfl ?_
 repeat (with_reducible first|apply wc_seq|apply wc_region)
 refine wl_box1 rfl rfl rfl (fun w1 hb1 hg1 hs1 => ?_)
 have hw1 : Below w.heap.size w w1 := below_of hg1 (Nat.le_refl _) (by simp)
 repeat first|(with_reducible first|apply wc_seq|apply wc_region|apply wl_nil|apply qk_thn)|((with_reducible apply ws);exact rfl;exact rfl)
 refine wl_loadBAgg (cs := [.int .i64 t.n, sv2, .bool t.nul, lv, uv]) rfl ta_tree rfl hb1 ?_
 skip
 refine wl_call rfl (by kernel_rfl) rfl ((fn_fits1 t w.heap.size w1 _ (by omega) (hrep.below hw1 (Nat.le_refl _))).mono ?_)
 rintro e w2 ⟨v, rfl, hw12, q, rfl⟩
 refine ⟨_, rfl, ?_⟩
 have hz12 := hw12.size
 have hw2 := hw1.trans (hw12.mono (by omega))
 repeat first|(with_reducible first|apply wl_nil|apply qk_thn)|((with_reducible apply ws);exact rfl;exact rfl)
 cases q
 ·refine wc_yes rfl rfl ?_
  repeat first|(with_reducible first|apply wc_seq|apply wc_region|apply wl_nil|apply qk_thn|apply wc_ret|apply qk_thn_ret)|((with_reducible apply ws);exact rfl;exact rfl)
  exact qk_ret1 rfl rfl ⟨_, rfl, hw2, rfl⟩
 refine wc_no rfl rfl ?_
 repeat (with_reducible first|apply wc_seq|apply wc_region|apply qk_thn|apply wc_skip)
 refine wl_call rfl (by kernel_rfl) rfl ((fn_max w2).mono ?_)
 rintro e w3 ⟨rfl, hw23⟩
 refine ⟨_, rfl, ?_⟩
 have hz23 := hw23.size
 have hw13 := hw12.trans (hw23.mono (by omega))
 have hw3 := hw2.trans (hw23.mono (by omega))
 repeat first|(with_reducible first|apply wc_seq|apply wc_region|apply wl_nil|apply qk_thn)|((with_reducible apply ws);exact rfl;exact rfl)
 refine wc_no rfl (by decide) ?_
 repeat (with_reducible first|apply wc_seq|apply wc_region|apply qk_thn|apply wc_skip)
 refine wl_call rfl (by kernel_rfl) rfl ((fn_table w3).mono ?_)
 rintro e w4 ⟨v, rfl, hw34, fv, rfl, hsq⟩
 refine ⟨_, rfl, ?_⟩
 have hz34 := hw34.size
 have hw14 := hw13.trans (hw34.mono (by omega))
 have hw4 := hw3.trans (hw34.mono (by omega))
 repeat ((with_reducible apply ws);exact rfl;exact rfl)
 refine wl_call rfl (by kernel_rfl) rfl ((fn_version n most hn (by decide) w4).mono ?_)
 rintro e w4' ⟨v, rfl, _, hww, rfl⟩
 obtain rfl : w4 = w4' := hww.symm
 refine ⟨_, rfl, ?_⟩
 refine wl_alloc zv_msg rfl rfl (fun w5 hb5 hg5 hs5 => ?_)
 obtain ⟨fa, fc, rfl, _⟩ := hsq.shape
 refine wl_storeBAgg (vs := [.slice fa (m.fields.map fldD).length fc, .int .i64 m.flex]) rfl rfl rfl tz_msg rfl hb5 rfl (fun w6 hb6 hg6 hs6 => ?_)
 have hw46 : Below w4.heap.size w4 w6 := (below_of hg5 (Nat.le_refl _) (by simp)).trans (below_of hg6 (by omega) (by intro q hq; simp at hq; omega))
 have hz46 := hw46.size
 have hw16 := hw14.trans (hw46.mono (by omega))
 have hw6 := hw4.trans (hw46.mono (by omega))
 repeat first|(with_reducible first|apply wc_seq|apply wc_region|apply wl_nil|apply qk_thn)|((with_reducible apply ws);exact rfl;exact rfl)
 have hv : n % (most + 1) ≤ most := by have := Nat.mod_lt n (show most + 1 > 0 by omega); omega
 generalize n % (most + 1) = v at hv ⊢
 have hll := len_ok t ht hsm (v : Int) (m.flexible (v : Int))
 refine wl_loadBAgg (cs := [.slice fa (m.fields.map fldD).length fc, .int .i64 m.flex]) rfl ta_msg rfl hb6 ?_
 repeat ((with_reducible apply ws);exact rfl;exact rfl)
 refine wl_loadBAgg (cs := [.int .i64 t.n, sv2, .bool t.nul, lv, uv]) rfl ta_tree rfl (hb1.below hw16 hb1.lt) ?_
 refine wl_call rfl (by kernel_rfl) rfl ((fn_write m m_ok (v : Int) t w6.heap.size w6 _ _ ht (Nat.le_refl _) (hsq.below hw46 hz46) ((hrep.below hw6 hw6.size)) (by show (wPart _ _ _ _).length ≤ lim; omega)).mono ?_)
 rintro e w7 ⟨bv7, rfl, hw67, ho7⟩
 refine ⟨_, rfl, ?_⟩
 have ho7' : Own w7 w6.heap.size 5 bv7 (wPart (v : Int) (m.flexible (v : Int)) m.fields t) := ho7
 have hz67 := hw67.size
 have hz6 := hw6.size
 have hw7 := hw6.trans (hw67.mono (by omega))
 have hg7 : w7.cell? ⟨1, 0, none⟩ = some ev := by rw [← hg]; simp only [World.cell?, hw7.block _ (World.block_lt_of_cell? _ _ hg)]
 skip
 refine wl_call rfl (by kernel_rfl) rfl ((fn_door v hv t ht w7 ev _ ho7'.bytes hg7 (by omega)).mono ?_)
 rintro e w8 ⟨cs8, T, rfl, hr8, hsm8, hto8, hw78⟩
 refine ⟨_, rfl, ?_⟩
 have hz78 := hw78.size
 have hw8 := hw7.trans (hw78.mono (by omega))
 obtain ⟨hone8, hlen8⟩ := tree_one hr8
 repeat ((with_reducible apply ws);exact rfl;exact rfl)
 refine wl_extract rfl rfl rfl ?_
 refine wl_extract rfl rfl rfl ?_
 refine wl_alloc Impl.zv_tree rfl rfl (fun w9 hb9 hg9 hs9 => ?_)
 refine wl_storeBAgg (vs := cs8) rfl rfl rfl (by rw [hlen8]; exact Impl.tz_tree) hone8 hb9 (by rw [hlen8]; rfl) (fun w10 hb10 hg10 hs10 => ?_)
 have hw810 : Below w8.heap.size w8 w10 := (below_of hg9 (Nat.le_refl _) (by simp)).trans (below_of hg10 (by omega) (by intro q hq; simp at hq; omega))
 have hz810 := hw810.size
 have hz7 := hw7.size
 have hw10 := hw8.trans (hw810.mono (by omega))
 have hw610 : Below w6.heap.size w6 w10 := (hw67.trans (hw78.mono (by omega))).trans (hw810.mono (by omega))
 have hw110 := hw16.trans (hw610.mono (by omega))
 have hb610 := hb6.below hw610 hb6.lt
 have hr10 : Rep (Lo w10.heap.size) w10 (treeD T) cs8 := Rep.below hr8 hw810 hz810
 repeat first|(with_reducible first|apply wc_seq|apply wl_nil|apply qk_thn)|((with_reducible apply ws);exact rfl;exact rfl)
 refine wc_par [(0, .bool true), (1, .bool true), (2, .pointer (some ⟨w4.heap.size, 0 + 0, none⟩)), (3, .slice fa (m.fields.map fldD).length fc), (4, .int .i64 (v : Int)), (5, .agg ([.slice fa (m.fields.map fldD).length fc, .int .i64 m.flex] : List Value).toArray), (6, .int .i64 (v : Int)), (8, .agg ([.int .i64 t.n, sv2, .bool t.nul, lv, uv] : List Value).toArray), (9, .agg cs8.toArray)] [13, 12, 11, 10, 7]
  (fun vals w' => Below w10.heap.size w10 w' ∧ match vals with
   | [] => True
   | [v7] => v7 = .bool (m.flexible (v : Int))
   | [v10, v7] => v7 = .bool (m.flexible (v : Int)) ∧ ∃ cs : List Value, v10 = .agg cs.toArray ∧ Rep (In w10.heap.size w10.heap.size w') w' (treeD T) cs
   | v :: _ => v = .bool true)
  mixed rfl rfl rfl rfl rfl (by show ([0,1,2,3,4,5,6,8,9] : List Nat).Nodup; decide) rfl rfl (by decide) rfl rfl rfl rfl ⟨(Below.refl _ w10).drew, trivial⟩ ?_ ⟨?_, ?_, ?_, ?_, ?_, trivial⟩ ?_
 ·intro p hp vals w' hC a k
  simp only [List.mem_cons, List.not_mem_nil, or_false] at hp
  rcases hp with rfl | rfl | rfl | rfl | rfl | rfl | rfl | rfl | rfl
  ·exact gv rfl rfl (rn_move k rfl)
  ·exact gv rfl rfl (rn_move k rfl)
  ·exact gv_yes rfl rfl rfl k rfl rfl (rn_fieldAddr k rfl fo_msg0)
  ·exact gv_yes rfl rfl rfl k rfl rfl (rn_load k rfl to_flds ((hb610.below hC.1 (by omega)).cell0 (i := 0) rfl))
  ·exact gv_yes rfl rfl rfl k rfl rfl (rn_move k rfl)
  ·exact gv_yes rfl rfl rfl k rfl rfl (rn_loadBAgg k rfl ta_msg (hb610.below hC.1 (by omega)))
  ·exact gv_yes rfl rfl rfl k rfl rfl (rn_move k rfl)
  ·exact gv_yes rfl rfl rfl k rfl rfl (rn_loadBAgg k rfl ta_tree ((hb1.below hw110 hb1.lt).below hC.1 (by omega)))
  ·exact gv_yes rfl rfl rfl k rfl rfl (rn_loadBAgg k rfl (by rw [hlen8]; exact Impl.ta_tree) (hb10.below hC.1 (by omega)))
 ·rintro vals w' hvl ⟨hb', hC⟩ a k
  match vals, hvl with
  | [v12, v11, v10, v7], _ => exact ⟨_, rfl, does_assign k rfl ⟨hb', hC⟩⟩
 ·rintro vals w' hvl ⟨hb', hC⟩ a k
  match vals, hvl with
  | [v11, v10, v7], _ =>
   simp only [] at hC
   subst hC
   exact ⟨_, rfl, does_pick (b := true) (v := .bool true) k rfl rfl ⟨hb', rfl⟩⟩
 ·rintro vals w' hvl ⟨hb', hC⟩ a k
  match vals, hvl with
  | [v10, v7], _ =>
   obtain ⟨rfl, cs, rfl, hr⟩ := hC
   have hz' := hb'.size
   refine ⟨_, rfl, does_call k rfl (by kernel_rfl) ((to_ok (v : Int) (m.flexible (v : Int)) m.fields m_ok tabT_m t T w'.heap.size w' _ _ _ ht (Nat.le_refl _) (hsq.below ((hw46.trans (hw610.mono (by omega))).trans (hb'.mono (by omega))) (by omega)) (Rep.below hrep (hw10.trans (hb'.mono (by have := hw10.size; omega))) (by have := hw10.size; omega)) (hr.up (fun r hr => hr.2) (fun _ _ => rfl)) hto8).mono ?_)⟩
   rintro e w'' ⟨v, rfl, hb'', rfl⟩
   exact ⟨_, rfl, hb'.trans (hb''.mono hb'.size), rfl⟩
 ·rintro vals w' hvl ⟨hb', hC⟩ a k
  match vals, hvl with
  | [v7], _ =>
   simp only [] at hC
   have hz' := hb'.size
   refine ⟨_, rfl, does_call k rfl (by kernel_rfl) ((Got.got_ok T w10.heap.size w' _ hsm8 hz' (Rep.below hr10 hb' (Nat.le_refl _))).mono ?_)⟩
   rintro e w'' ⟨v, rfl, hb'', cs, rfl, hr⟩
   exact ⟨_, rfl, hb'.trans (hb''.mono hb'.size), hC, cs, rfl, hr.up (fun r hr => ⟨hr.1.imp (fun h => h) (fun h => by omega), hr.2⟩) (fun _ _ => rfl)⟩
 ·rintro vals w' hvl ⟨hb', hC⟩ a k
  match vals, hvl with
  | [], _ =>
   refine ⟨_, rfl, does_call k rfl (by kernel_rfl) ((fn_flexM m (v : Int) _ w').mono ?_)⟩
   rintro e w'' ⟨v, rfl, hb'', rfl⟩
   exact ⟨_, rfl, hb'.trans (hb''.mono hb'.size), rfl⟩
 ·rintro vals w' hvl ⟨hb', hC⟩
  match vals, hvl with
  | [v13, v12, v11, v10, v7], _ =>
   simp only [] at hC
   subst hC
   refine qk_thn ?_
   repeat (with_reducible apply wc_ret)
   exact qk_ret1 rfl rfl ⟨_, rfl, hw10.trans (hb'.mono hw10.size), rfl⟩
end
end Go.Proofs.YtjfgalpjjnncaaaGreatDoor.BCreatePartitionsRequest

namespace Go.Proofs.YtjfgalpjjnncaaaGreatDoor
open Go Go.RowKit Go.ChangeShapes Go.WideShapes Go.ChangeAt
theorem row_at {W : World} {a : Addr} {sz len : Nat} {f : Nat → List Value} (hsz : 0 < sz) (hlen : 0 < len)
  (hf : ∀ i, i < len → (f i).length = sz ∧ ∀ j v, (f i)[j]? = some v → W.cell? ((a.add (i * sz)).add j) = some v) :
  ∃ b off, a = ⟨b, off, none⟩ ∧ b < W.heap.size ∧ CellsAt W b off ((List.range len).flatMap f) := by
 have h0 := hf 0 hlen
 obtain ⟨b, off, spot⟩ := a
 have hx : ∃ v, (f 0)[0]? = some v := by
  cases hv : (f 0)[0]? with
  | none => rw [List.getElem?_eq_none_iff] at hv; omega
  | some v => exact ⟨v, rfl⟩
 obtain ⟨v0, hv0⟩ := hx
 have hc0 := h0.2 0 v0 hv0
 have hspot : spot = none := by simpa [Addr.add] using World.cell?_spot hc0
 subst hspot
 simp only [Nat.zero_mul] at hc0
 have hadd : ∀ n m, (Addr.add (Addr.add ⟨b, off, none⟩ n) m) = ⟨b, off + n + m, none⟩ := fun n m => by rw [add_plain ⟨b, off, none⟩ n rfl]; rw [add_plain _ _ rfl]
 rw [hadd] at hc0
 have hobj : ∃ arr e fz, W.heap[b]? = some (.cells arr e fz) := by
  unfold World.cell? at hc0
  split at hc0
  ·rename_i c e fz hh; exact ⟨c, e, fz, hh⟩
  ·cases hc0
 obtain ⟨arr, e, fz, hh⟩ := hobj
 have hall : ∀ i j v, i < len → (f i)[j]? = some v → arr[off + i * sz + j]? = some v := by
  intro i j v hi hv
  have := (hf i hi).2 j v hv
  rw [hadd] at this
  simpa [World.cell?, hh] using this
 have hflat : ∀ n, n ≤ len → ((List.range n).flatMap f).length = n * sz ∧ ∀ q v, ((List.range n).flatMap f)[q]? = some v → arr[off + q]? = some v := by
  intro n
  induction n with
  | zero => intro _; simp
  | succ n ih =>
   intro hn
   obtain ⟨hl, hq⟩ := ih (by omega)
   rw [List.range_succ, List.flatMap_append]
   simp only [List.flatMap_cons, List.flatMap_nil, List.append_nil]
   refine ⟨by rw [List.length_append, hl, (hf n (by omega)).1, Nat.succ_mul], fun q v hv => ?_⟩
   by_cases hlt : q < n * sz
   ·rw [List.getElem?_append_left (by omega)] at hv; exact hq q v hv
   ·rw [List.getElem?_append_right (by omega), hl] at hv
    have := hall n (q - n * sz) v (by omega) hv
    rwa [show off + n * sz + (q - n * sz) = off + q from by omega] at this
 obtain ⟨hl, hq⟩ := hflat len (Nat.le_refl _)
 refine ⟨b, off, rfl, (Array.getElem?_eq_some_iff.1 hh).1, arr, e, fz, hh, ?_, hq⟩
 have hpos : 0 < len * sz := Nat.mul_pos hlen hsz
 have hlast : ∃ v, ((List.range len).flatMap f)[len * sz - 1]? = some v := by
  cases hv : ((List.range len).flatMap f)[len * sz - 1]? with
  | none => rw [List.getElem?_eq_none_iff] at hv; omega
  | some v => exact ⟨v, rfl⟩
 obtain ⟨v, hv⟩ := hlast
 have := (Array.getElem?_eq_some_iff.1 (hq _ v hv)).1
 rw [hl]; omega
theorem sum_le : ∀ (a b : List Nat), a.length = b.length → (∀ i (h : i < a.length) (h' : i < b.length), a[i] ≤ b[i]) → a.sum ≤ b.sum
 | [], b, _, _ => by simp
 | x :: a, [], h, _ => by simp at h
 | x :: a, y :: b, h, hall => by
  have h0 := hall 0 (by simp) (by simp)
  have h1 := sum_le a b (by simpa using h) (fun i hi hi' => by have := hall (i + 1) (by simpa using hi) (by simpa using hi'); simpa using this)
  simp only [List.getElem_cons_zero] at h0
  simp only [List.sum_cons]; omega
section
variable {H : Type} {enc : TypeId × Value → H} {P : Program} {W : World} {base : Nat} {spare : Nat → Bool} {held : Bool}
theorem open_sq {α : Type} {t e sz : Nat} (ht : P.underlying t = some (.slice e)) (hc : P.cellsOf e = sz) (hsz : 0 < sz) (g : α → D) (φ : α → Prop) (f0 : α → Nat) (bk : DataW H → Nat) (hnil : 1 ≤ bk .nil) (hsl : ∀ es sp : List (DataW H), (es.map bk).sum + 1 ≤ bk (.slice es sp)) {fuel : Nat} {cs : List Value} {x : DataW H × List MemPlace}
  (h : DataW.trod enc P W base spare held fuel t cs = some x)
  (hel : ∀ n cs' x', n < fuel → DataW.trod enc P W base spare held n e cs' = some x' → ∃ y : α, Rep (Lo W.heap.size) W (g y) cs' ∧ φ y ∧ f0 y ≤ bk x'.1) :
  ∃ (l : List α) (v : Value), cs = [v] ∧ l.length ≤ maxLen ∧ Sq W.heap.size W v (l.map g) ∧ (∀ y ∈ l, φ y) ∧ (l.map f0).sum + 1 ≤ bk x.1 := by
 rcases DataW.trod_slice ht h with ⟨rfl, rfl⟩ | ⟨a, len, cap, elems, rest, n, hfu, rfl, rfl, hb, hle, hcap, hlen, hels, _, _⟩
 ·exact ⟨[], _, rfl, by simp, rep_nil _ _, by simp, by simpa using hnil⟩
 ·have hone : ∀ i : Fin len, ∃ p : List Value × α, W.cells? base (a.add (i.1 * sz)) sz = some p.1 ∧ Rep (Lo W.heap.size) W (g p.2) p.1 ∧ φ p.2 ∧ f0 p.2 ≤ bk (elems[i.1]'(by have := i.2; omega)).1 := by
   intro ⟨i, hi⟩
   have h1 := hels i hi
   rw [List.getElem?_eq_getElem (by omega), hc] at h1
   obtain ⟨cs', h2, h3⟩ := Option.bind_eq_some_iff.1 h1
   obtain ⟨y, hy, hφ⟩ := hel n cs' _ (by omega) h3
   exact ⟨(cs', y), h2, hy, hφ⟩
  let F : Fin len → List Value × α := fun i => Classical.choose (hone i)
  have hF : ∀ i : Fin len, W.cells? base (a.add (i.1 * sz)) sz = some (F i).1 ∧ Rep (Lo W.heap.size) W (g (F i).2) (F i).1 ∧ φ (F i).2 ∧ f0 (F i).2 ≤ bk (elems[i.1]'(by have := i.2; omega)).1 := fun i => Classical.choose_spec (hone i)
  let f : Nat → List Value := fun i => if hi : i < len then (F ⟨i, hi⟩).1 else []
  let l : List α := List.ofFn fun i => (F i).2
  have hll : l.length = len := by simp [l]
  have hφ : ∀ y ∈ l, φ y := by
   intro y hy
   obtain ⟨i, hi⟩ := (List.mem_ofFn).1 hy
   rw [← hi]; exact (hF i).2.2.1
  have hsum : (l.map f0).sum + 1 ≤ bk (.slice (elems.map (·.1)) (rest.map (·.1))) := by
   refine Nat.le_trans (Nat.succ_le_succ (sum_le (l.map f0) ((elems.map (·.1)).map bk) (by simp [hll, hlen]) (fun i hi hi' => ?_))) (hsl _ _)
   have hi2 : i < len := by simpa [hll] using hi
   have := (hF ⟨i, hi2⟩).2.2.2
   simpa [l] using this
  refine ⟨l, _, rfl, by rw [hll]; omega, ?_, hφ, hsum⟩
  simp only [Sq, Rep]
  refine ⟨some a, cap, by simp [hll], by simpa [hll] using hle, ?_⟩
  by_cases hpos : 0 < len
  ·have hfi : ∀ i, i < len → (f i).length = sz ∧ ∀ j v, (f i)[j]? = some v → W.cell? ((a.add (i * sz)).add j) = some v := by
    intro i hi
    have h1 := (hF ⟨i, hi⟩).1
    have h2 := World.cells?_some h1
    simp only [f, dif_pos hi]
    refine ⟨h2.2.1, fun j v hj => ?_⟩
    have := h2.2.2 j (by have := (List.getElem?_eq_some_iff.1 hj).1; omega)
    rw [this]; exact hj
   obtain ⟨b, off, rfl, hlt, hcells⟩ := row_at hsz hpos hfi
   refine .inr ⟨b, off, _, rfl, hlt, hcells, ?_⟩
   have hreps : ∀ n, n ≤ len → Reps (Lo W.heap.size) W ((l.take n).map g) ((List.range n).flatMap f) := by
    intro n
    induction n with
    | zero => intro _; simp [Reps]
    | succ n ih =>
     intro hn
     have hnl : n < l.length := by omega
     rw [List.take_succ_eq_append_getElem hnl, List.map_append, List.range_succ, List.flatMap_append]
     refine (Reps.app _ _ _).2 ⟨_, _, rfl, ih (by omega), ?_⟩
     simp only [List.map_cons, List.map_nil, List.flatMap_cons, List.flatMap_nil, List.append_nil, Reps]
     refine ⟨f n, [], by simp, ?_, rfl⟩
     have hln : l[n] = (F ⟨n, by omega⟩).2 := by simp [l]
     have hfn : f n = (F ⟨n, by omega⟩).1 := by simp only [f]; rw [dif_pos (by omega)]
     rw [hln, hfn]; exact (hF ⟨n, by omega⟩).2.1
   have := hreps len (Nat.le_refl _)
   rwa [List.take_of_length_le (by omega)] at this
  ·have : l = [] := List.length_eq_zero_iff.1 (by omega)
   left; rw [this]; rfl
end
end Go.Proofs.YtjfgalpjjnncaaaGreatDoor

namespace Go.Proofs.YtjfgalpjjnncaaaGreatDoor
open Go Go.RowKit Go.ChangeShapes Go.WideShapes Go.ChangeAt
theorem co_i64 : Tryz.prog.cellsOf 2 = 1 := by kernel_rfl
theorem co_u8 : Tryz.prog.cellsOf 5 = 1 := by kernel_rfl
theorem co_u32 : Tryz.prog.cellsOf 65 = 1 := by kernel_rfl
theorem co_bool : Tryz.prog.cellsOf 4 = 1 := by kernel_rfl
theorem co_bytes : Tryz.prog.cellsOf 22 = 1 := by kernel_rfl
theorem co_trees : Tryz.prog.cellsOf 23 = 1 := by kernel_rfl
theorem co_tags : Tryz.prog.cellsOf 24 = 1 := by kernel_rfl
theorem co_tree : Tryz.prog.cellsOf 26 = 5 := by kernel_rfl
theorem co_tag : Tryz.prog.cellsOf 67 = 2 := by kernel_rfl
theorem len2 {α : Type} {l : List α} (h : l.length = 2) : ∃ a b, l = [a, b] := by
 match l, h with
 | [a, b], _ => exact ⟨a, b, rfl⟩
theorem len5 {α : Type} {l : List α} (h : l.length = 5) : ∃ a b c d e, l = [a, b, c, d, e] := by
 match l, h with
 | [a, b, c, d, e], _ => exact ⟨a, b, c, d, e, rfl⟩
section
set_option maxRecDepth 100000
variable {H : Type} {enc : TypeId × Value → H} {W : World} {base : Nat} {spare : Nat → Bool} {held : Bool}
theorem bk_all {l : List (DataW H)} : Rows.uptoBulkAll l = (l.map Rows.uptoBulk).sum := by
 induction l with
 | nil => rfl
 | cons x l ih => simp only [Rows.uptoBulkAll, List.map_cons, List.sum_cons, ih]
theorem bk_sl (es sp : List (DataW H)) : (es.map Rows.uptoBulk).sum + 1 ≤ Rows.uptoBulk (.slice es sp) := by
 simp only [Rows.uptoBulk, bk_all]; omega
theorem bk_agg (es : List (DataW H)) : (es.map Rows.uptoBulk).sum + 1 ≤ Rows.uptoBulk (.agg es) := by
 simp only [Rows.uptoBulk, bk_all]; omega
theorem bk_int (k : IntKind) (n : Int) : 1 ≤ Rows.uptoBulk (H := H) (.lit (.int k n)) := by simp [Rows.uptoBulk]
theorem bk_nil : 1 ≤ Rows.uptoBulk (H := H) .nil := by simp [Rows.uptoBulk]
theorem wts_sum (l : List Tree) : Tree.wts l = (l.map Tree.wt).sum := by
 induction l with
 | nil => rfl
 | cons x l ih => simp only [Tree.wts, List.map_cons, List.sum_cons, ih]
theorem ones_sum {α : Type} (l : List α) : (l.map fun _ => 1).sum = l.length := by
 induction l with
 | nil => rfl
 | cons x l ih => simp only [List.map_cons, List.sum_cons, List.length_cons, ih]; omega
theorem open_bytes {fuel : Nat} {cs : List Value} {x : DataW H × List MemPlace} (h : DataW.trod enc Tryz.prog W base spare held fuel 22 cs = some x) :
  ∃ (s : List UInt8) (v : Value), cs = [v] ∧ s.length ≤ maxLen ∧ Sq W.heap.size W v (s.map byteD) ∧ s.length + 1 ≤ Rows.uptoBulk x.1 := by
 obtain ⟨l, v, h1, h2, h3, _, h5⟩ := open_sq (e := 5) (sz := 1) Tryz.underlying22 co_u8 (by omega) byteD (fun _ => True) (fun _ => 1) Rows.uptoBulk bk_nil bk_sl h (fun n cs' x' _ hx => by
  obtain ⟨m, rfl, hxe, hw⟩ := DataW.trod_int Tryz.underlying5 hx
  have hm : 0 ≤ m ∧ m ≤ 255 := by simpa [Lit.wf, IntKind.min, IntKind.max, IntKind.signed, IntKind.bits] using hw
  refine ⟨UInt8.ofNat m.toNat, ?_, trivial, by rw [hxe]; exact bk_int _ _⟩
  simp only [byteD, Rep]
  rw [byteNat _ (by omega)]
  congr 2
  omega)
 rw [ones_sum] at h5
 exact ⟨l, v, h1, h2, h3, h5⟩
theorem open_tags {fuel : Nat} {cs : List Value} {x : DataW H × List MemPlace} (h : DataW.trod enc Tryz.prog W base spare held fuel 24 cs = some x) :
  ∃ (u : List (Nat × List UInt8)) (v : Value), cs = [v] ∧ u.length ≤ maxLen ∧ Sq W.heap.size W v (u.map tagD) ∧ (∀ kv ∈ u, kv.1 < 4294967296) ∧ tagsW u + 1 ≤ Rows.uptoBulk x.1 := by
 refine open_sq (e := 67) (sz := 2) Tryz.underlying24 co_tag (by omega) tagD (fun kv => kv.1 < 4294967296) (fun kv => kv.2.length + 1) Rows.uptoBulk bk_nil bk_sl h (fun n cs' x' _ hx => ?_)
 obtain ⟨xs, k, _, rfl, hl, hlen, hf⟩ := DataW.trod_struct Tryz.underlying67 hx
 rw [co_tag] at hl
 obtain ⟨v0, v1, rfl⟩ := len2 hl
 ·have hxl : xs.length = 2 := hlen
  have h0 := hf 0 _ rfl
  have h1 := hf 1 _ rfl
  rw [List.getElem?_eq_getElem (by omega)] at h0 h1
  simp [co_u32, co_bytes] at h0 h1
  obtain ⟨m, hv0, _, hw⟩ := DataW.trod_int Tryz.underlying65 h0
  obtain ⟨s, v, hv1, _, hs, hsb⟩ := open_bytes h1
  have hm : 0 ≤ m ∧ m ≤ 4294967295 := by simpa [Lit.wf, IntKind.min, IntKind.max, IntKind.signed, IntKind.bits] using hw
  simp only [List.cons.injEq, and_true] at hv0 hv1
  subst hv0; subst hv1
  refine ⟨(m.toNat, s), ?_, by simp only []; omega, ?_⟩
  rotate_left
  ·obtain ⟨a, b, rfl⟩ := len2 hxl
   ·have := bk_agg [a.1, b.1]
    simp only [List.map_cons, List.map_nil, List.sum_cons, List.sum_nil, List.getElem_cons_succ, List.getElem_cons_zero] at this hsb ⊢
    omega
  have : (.int .u32 m : Value) = .int .u32 ((m.toNat : Nat) : Int) := by congr 1; omega
  rw [this]
  exact rep_tag hs
theorem open_tree : ∀ (fuel : Nat) (cs : List Value) (x : DataW H × List MemPlace), DataW.trod enc Tryz.prog W base spare held fuel 26 cs = some x →
  ∃ t : Tree, Rep (Lo W.heap.size) W (treeD t) cs ∧ t.ok ∧ t.wt ≤ Rows.uptoBulk x.1 := by
 intro fuel
 induction fuel using Nat.strongRecOn with
 | _ fuel ih =>
  intro cs x h
  obtain ⟨xs, k, hfu, rfl, hl, hlen, hf⟩ := DataW.trod_struct Tryz.underlying26 h
  rw [co_tree] at hl
  obtain ⟨v0, v1, v2, v3, v4, rfl⟩ := len5 hl
  ·have hxl : xs.length = 5 := hlen
   have h0 := hf 0 _ rfl
   have h1 := hf 1 _ rfl
   have h2 := hf 2 _ rfl
   have h3 := hf 3 _ rfl
   have h4 := hf 4 _ rfl
   rw [List.getElem?_eq_getElem (by omega)] at h0 h1 h2 h3 h4
   simp [co_i64, co_bytes, co_bool, co_trees, co_tags] at h0 h1 h2 h3 h4
   obtain ⟨n, hv0, hb0, hw0⟩ := DataW.trod_int Tryz.underlying2 h0
   obtain ⟨s, sv, hv1, hsl, hs, hb1⟩ := open_bytes h1
   obtain ⟨b, hv2, hb2⟩ := DataW.trod_bool Tryz.underlying4 h2
   obtain ⟨l, lv, hv3, _, hl3, hok, hb3⟩ := open_sq (e := 26) (sz := 5) Tryz.underlying23 co_tree (by omega) treeD (fun t => t.ok) Tree.wt Rows.uptoBulk bk_nil bk_sl h3 (fun n cs' x' hn hx => ih n (by omega) cs' x' hx)
   obtain ⟨u, uv, hv4, _, hu, huk, hb4⟩ := open_tags h4
   simp only [List.cons.injEq, and_true] at hv0 hv1 hv2 hv3 hv4
   subst hv0; subst hv1; subst hv2; subst hv3; subst hv4
   refine ⟨.mk n s b l u, rep_tree hs hl3 hu, ?_, ?_⟩
   rotate_left
   ·obtain ⟨a0, a1, a2, a3, a4, rfl⟩ := len5 hxl
    ·have := bk_agg [a0.1, a1.1, a2.1, a3.1, a4.1]
     simp only [List.map_cons, List.map_nil, List.sum_cons, List.sum_nil, List.getElem_cons_succ, List.getElem_cons_zero] at this hb0 hb1 hb2 hb3 hb4 ⊢
     simp only [Tree.wt, wts_sum]
     omega
   simp only [Tree.ok]
   refine ⟨by simp only [maxLen] at hsl; omega, huk, ?_, by simpa [Lit.wf, IntKind.min, IntKind.max, IntKind.signed, IntKind.bits] using hw0⟩
   have : ∀ l : List Tree, (∀ t ∈ l, t.ok) → Tree.oks l := by
    intro l
    induction l with
    | nil => intro _; simp [Tree.oks]
    | cons y l ih2 => intro h; simp only [Tree.oks]; exact ⟨h y (by simp), ih2 (fun t ht => h t (by simp [ht]))⟩
   exact this l hok
end
end Go.Proofs.YtjfgalpjjnncaaaGreatDoor

namespace Go.Proofs.YtjfgalpjjnncaaaGreatDoor.BCreatePartitionsRequest
open Go Go.RowKit Go.ChangeShapes Go.WideShapes Go.ChangeAt
theorem own : ownKnob Tryz.prog.godebug = none := by kernel_rfl
theorem laidOut : laidOutB Tryz.prog = true := by kernel_rfl
theorem gErr : Tryz.prog.globalNamed "pub-mailsack/pub/kmsg/inner/kbin.ErrNotEnoughData" = some 1 := by kernel_rfl
theorem gErrT : (Tryz.prog.globals[(1 : Nat)]?).map (·.type) = some 57 := by kernel_rfl
theorem err_of_laid {W : World} (h : laidMetH Tryz.prog Rows.fnTellCreatePartitionsRequestRow.laid W) : ∃ ev, W.cell? ⟨1, 0, none⟩ = some ev := by
  have h' : laidMet Tryz.prog Rows.fnTellCreatePartitionsRequestRow.laid W := h
  obtain ⟨ps, ⟨g0, t0, cs0, f0, p0, q0, hg0, ht0, hv0, hd0, _⟩, _⟩ := h'
  obtain rfl := Option.some.inj (gErr.symm.trans hg0)
  obtain rfl := Option.some.inj (gErrT.symm.trans ht0)
  obtain ⟨l0⟩ := cs0
  obtain ⟨fu, u, v, e, _, _⟩ := iface_of_trod Tryz.underlying57 hd0
  have e' : l0 = [.iface u v] := e
  subst e'
  exact ⟨_, by simpa using World.var?_cell hg0 hv0 0⟩
abbrev errText : ByteArray := ⟨#[114, 101, 115, 112, 111, 110, 115, 101, 32, 100, 105, 100, 32, 110, 111, 116, 32, 99, 111, 110, 116, 97, 105, 110, 32, 101, 110, 111, 117, 103, 104, 32, 100, 97, 116, 97, 32, 116, 111, 32, 98, 101, 32, 118, 97, 108, 105, 100]⟩
noncomputable def low : Nat := (World.holding Tryz.prog default ⟨#[], #[], []⟩).heap.size
noncomputable def laidWorld (os : Os) : World :=
  let w0 := World.holding Tryz.prog os ⟨#[.cells #[.string errText] 264], #[], []⟩
  { w0 with heap := w0.heap.modify 1 fun
      | .cells _ t frozen => .cells #[.iface 246 (.pointer (some ⟨low, 0, none⟩))] t frozen
      | o => o }
theorem laidWorld_met (os : Os) (args : Array Value) : laidMetH Tryz.prog Rows.fnTellCreatePartitionsRequestRow.laid ((laidWorld os).forCall (fun _ _ => 0) ⟨#[], args, []⟩).memory :=
  show laidMet Tryz.prog Rows.fnTellCreatePartitionsRequestRow.laid _ from laidMet_of_run' 8 (by kernel_rfl) (by kernel_rfl)
theorem reads (os : Os) {H : Type} (enc : TypeId × Value → H) : ∃ places, DataW.whole enc Tryz.prog ((laidWorld os).forCall (fun _ _ => 0) ⟨#[], #[.int .u8 0, .agg #[.int .i64 0, .slice none 0 0, .bool false, .slice none 0 0, .slice none 0 0]], []⟩).memory Tryz.f6.params.toList Rows.fnTellCreatePartitionsRequestSpec.vars false #[Value.int .u8 0, .agg #[.int .i64 0, .slice none 0 0, .bool false, .slice none 0 0, .slice none 0 0]].toList 8 = some ([.lit (.int .u8 0), .agg [.lit (.int .i64 0), .nil, .lit (.bool false), .nil, .nil]], [], places) := ⟨[], by kernel_rfl⟩
set_option maxRecDepth 100000 in
theorem lifted (os : Os) (started : os.Started) (H : Type) (enc : TypeId × Value → H) (F : Stop.Interp) :
    ReturnsInHanded {} Tryz.checked os 6 .any ((Rows.OpenSpec.upto Rows.fnTellCreatePartitionsRequestSpec).preRow enc Tryz.prog Tryz.f6 Rows.fnTellCreatePartitionsRequestUptoRow.domain false Rows.fnTellCreatePartitionsRequestUptoRow.laid) (((Rows.OpenSpec.upto Rows.fnTellCreatePartitionsRequestSpec).at F).post enc Tryz.prog Tryz.f6 false true false false) := by
  obtain ⟨places, hx⟩ := reads os enc
  refine returnsInHanded_of_row (C := Tryz.checked) (s := Rows.OpenSpec.upto Rows.fnTellCreatePartitionsRequestSpec) own started (by kernel_rfl) Tryz.func6
    (witness_row_atRef (enc := enc) (C := Tryz.checked) false (laidWorld os) #[.int .u8 0, .agg #[.int .i64 0, .slice none 0 0, .bool false, .slice none 0 0, .slice none 0 0]] rfl (by kernel_rfl) (by kernel_rfl) (by kernel_rfl)
      (OpenSpec.preRow_of_cond 8 hx (by kernel_rfl) (fun k hk => by cases hk; kernel_rfl) (by kernel_rfl) (laidWorld_met os _))) ?_
  intro W base args ds gs before hval0 hW _ hcond _ hL _ _
  have hsmall := of_decide_eq_true (hcond _ rfl)
  suffices key : Calls Tryz.prog 6 args W fun e W' => ∃ v, e = .returned v ∧ Rows.fnTellCreatePartitionsRequestSpec.post enc Tryz.prog Tryz.f6 false true false false W args v W' from key
  have hval : ∀ (j : Nat) t v, Tryz.f6.params[j]? = some t → args[j]? = some v → Value.okWide Tryz.prog W .any base t v := hval0
  have hW' := hW
  obtain ⟨p, q, hA0, hV, rfl, hfz, hnd⟩ := hW
  have hA : DataW.TrodAll enc Tryz.prog W 0 (fun _ => true) true Tryz.f6.params.toList args.toList ds p := hA0
  rw [Tryz.params6] at hA hval
  obtain ⟨v0, v1, d0, d1, p0, p1, rfl, rfl, rfl, h0, h1⟩ := trodAll_two hA
  obtain ⟨rfl, rfl⟩ := trodVars_none hV
  obtain ⟨a, rfl, rfl, rfl, wa⟩ := open_int Tryz.underlying5 (hval 0 5 v0 rfl rfl) h0
  have hv1 := hval 1 26 v1 rfl rfl
  unfold Value.okWide at hv1
  rw [Tryz.underlying26] at hv1
  obtain ⟨cs, rfl, _⟩ := hv1
  obtain ⟨fuel, hfu⟩ := id h1
  obtain ⟨t, hrep, hok, hwt⟩ := open_tree fuel _ _ hfu
  obtain ⟨ev, hev⟩ := err_of_laid hL
  clear hA0 hval0
  simp only [List.append_nil, List.nil_append] at hW'
  have ha : 0 ≤ a ∧ a ≤ 255 := by simpa [Lit.wf, IntKind.min, IntKind.max, IntKind.signed, IntKind.bits] using wa
  have hsm : t.wt ≤ 1048576 := by simp only [List.append_nil, List.cons_append, List.nil_append, Rows.uptoBulkAll] at hsmall; simp only [] at hwt; omega
  have hlaw := fn_law a.toNat (by omega) t hok hsm W ev cs.toList hrep hev
  rw [show ((a.toNat : Nat) : Int) = a from by omega] at hlaw
  simp only [Array.toArray_toList] at hlaw
  refine Calls.mono hlaw fun e W' he => ?_
  obtain ⟨v, rfl, hb, rfl⟩ := he
  refine ⟨_, rfl, _, _, _, [], p1, [], hW', trodAll_mk1 (shut_bool Tryz.underlying4 _), ?_, ?_, hb.frame _, fun h => by cases h⟩
  · exact trodAll_mk2 (shut_int Tryz.underlying5 wa) (Below.trod laidOut (by kernel_rfl) (Nat.le_of_ble_eq_true (by kernel_rfl)) h1 hb (fun x hx => hW'.lt x hx))
  · rfl
theorem said : Rows.FnTellCreatePartitionsRequestUptoSaid :=
  OpenClaim.holds_of_cond 6 Tryz.f6 rfl rfl rfl rfl rfl rfl rfl ⟨rfl, rfl, rfl, rfl, rfl⟩ rfl rfl rfl rfl rfl (by kernel_rfl) Tryz.func6 (by kernel_rfl)
    (of_decide_eq_true (by kernel_rfl)) (by unfold Func.isWrapper; first | (rw [if_pos (by decide +kernel)]; kernel_rfl) | (rw [if_neg (by decide +kernel)]; exact ⟨rfl, rfl⟩))
    (fun os started H enc _ F => by rw [OpenClaim.pre_eq_preRow]; exact lifted os started H enc F)
theorem row_tie : Rows.fnTellCreatePartitionsRequestUptoRow.laidByTextAt .later Tryz.pinned [.sentinel] true :=
  OpenClaim.laidByTextAt_later rfl rfl tie (by kernel_rfl)
theorem holds : Rows.FnTellCreatePartitionsRequestUptoCardSaid :=
  Claim7.holds_tied_plain_at .later [] [.sentinel] true (true, "34d55a639dfff1fb922d6cfe312e7c34f7caa7ddffb37353c4e1b785632a1dc2") false
    said (fun _ h => by cases h) (by kernel_rfl) (fun _ h => by cases h) row_tie rfl ⟨rfl, rfl⟩ (by kernel_rfl) rfl
    (fun f fn hf hfn => by
      obtain rfl : f = 6 := Option.some.inj ((show Tryz.prog.funcNamed "pub-mailsack/laws.FnTellCreatePartitionsRequest" = some 6 by kernel_rfl).symm.trans hf) |>.symm
      obtain rfl : fn = Tryz.f6 := (Option.some.inj (Tryz.func6.symm.trans hfn)).symm
      exact ⟨by kernel_rfl, fun j t ht => by
        rw [Tryz.params6] at ht
        have hh : Tryz.prog.wantsStandIn 5 = false ∧ Tryz.prog.wantsStandIn 26 = false := ⟨by kernel_rfl, by kernel_rfl⟩
        match j, ht with
        | 0, ht => obtain rfl : 5 = t := by simpa using ht
                   exact hh.1
        | 1, ht => obtain rfl : 26 = t := by simpa using ht
                   exact hh.2
        | j + 2, ht => simp at ht⟩)
    (by kernel_rfl)
end Go.Proofs.YtjfgalpjjnncaaaGreatDoor.BCreatePartitionsRequest
