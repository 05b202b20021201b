/- FnTellListPartitionReassignmentsRequest: the row, and its card, its one listed variable tied to the program's text (the tie is given). Conditions: those of the row, no Xw. -/
import Derived.Test.YtjfgalpjjnncaaaGreatDoorPartF
import Derived.Test.YtjfgalpjjnncaaaGreatDoorPartG
import Derived.Test.YtjfgalpjjnncaaaGreatDoorPartA
import Derived.Test.YtjfgalpjjnncaaaGreatDoorPartC
import Derived.Test.YtjfgalpjjnncaaaGreatDoorPartD
import Derived.Test.YtjfgalpjjnncaaaGreatDoorPartE
import Derived.ProofKit
import Derived.OpenShut
import Derived.Test.YtjfgalpjjnncaaaGreatDoorRows
import Derived.Test.YtjfgalpjjnncaaaGreatDoorCards
import Derived.Test.YtjfgalpjjnncaaaGreatDoorTie
import Derived.ChangeSame
import Derived.ChangeVars
import Derived.JoinedOf
import Derived.RowKit
import Derived.RowKitTokens
import Derived.LaidLaws
import Derived.LaidHandle
import Derived.Stop.Joined
import Derived.SevenTiedAt
set_option linter.all false
namespace Go.Proofs.YtjfgalpjjnncaaaGreatDoor
open Go Go.RowKit
theorem usFs_get : ∀ {fs : List Fld} {l : List Tree}, UsFs fs l → l.length = fs.length ∧ ∀ (i : Nat) (h : i < fs.length) (h' : i < l.length), UsF fs[i] l[i]
  | [], l, h => by simp only [UsFs] at h; subst h; exact ⟨rfl, fun i h => by simp at h⟩
  | f :: fs, l, h => by
    simp only [UsFs] at h
    obtain ⟨x, r, rfl, h1, h2⟩ := h
    obtain ⟨k1, k2⟩ := usFs_get h2
    refine ⟨by simp [k1], fun i hi hi' => ?_⟩
    cases i with
    | zero => exact h1
    | succ i => exact k2 i (by simpa using hi) (by simpa using hi')
theorem usF_eq (f : Fld) (x : Tree) : UsF f x ↔
    if f.kind = 8 then x.nul = decide (0 ≤ f.nul) ∧ x.s = []
    else if f.kind = 7 then x.s = List.replicate 16 0
    else if f.kind = 9 ∨ f.kind = 11 then x.s = [] ∧ x.l = []
    else if f.kind = 10 then x.u = [] ∧ UsFs f.sub x.l
    else x.n = VD f.kind f.df := by
  cases f
  simp only [UsF, Fld.kind, Fld.nul, Fld.df, Fld.sub]
  exact Iff.rfl
theorem tabTs_get {fs : List Fld} (h : tabTs fs = true) : ∀ f ∈ fs, tabT f = true := by
  induction fs with
  | nil => intro f hf; cases hf
  | cons g fs ih =>
    simp only [tabTs, Bool.and_eq_true] at h
    intro f hf
    rcases List.mem_cons.1 hf with rfl | hf
    · exact h.1
    · exact ih h.2 f hf
theorem tabT_sub {f : Fld} (h : tabT f = true) : tabTs f.sub = true := by
  cases f
  simp only [tabT, Bool.and_eq_true] at h
  exact h.2
theorem tabT_nul {f : Fld} (h : tabT f = true) (h10 : f.kind = 10) : f.nul < 0 := by
  cases f
  simp only [tabT, Bool.and_eq_true, Bool.or_eq_true, decide_eq_true_eq] at h
  simp only [Fld.kind] at h10
  simp only [Fld.nul]
  omega
theorem tabT_tag {f : Fld} (h : tabT f = true) : f.tag < 0 := by
  cases f
  simp only [tabT, Bool.and_eq_true, decide_eq_true_eq] at h
  exact h.1.1.1.1.1
section
set_option maxRecDepth 100000
theorem un_bool : Tryz.prog.underlying 4 = some .bool := by kernel_rfl
theorem ti_i8 : Ua Tryz.prog 83 .i8 = true := by kernel_rfl
theorem zn_u8 : (Tryz.prog.info? 5).bind (·.zero) = some (.int .u8 0) := by kernel_rfl
theorem fn_number (kind n : Int) (w : World) : Fn 90 [.int .i64 kind, .int .i64 n] w fun v w' => w' = w ∧ v = .int .i64 (VD kind n) := by
  refine enter Tryz.func90 rfl Tryz.ntmps90 rfl ?_
  repeat first|(with_reducible first|apply Yd|apply Ya|apply Yc|apply Yb|apply Yr)|((with_reducible apply ws);exact rfl;exact rfl)
  by_cases h0 : kind = 0
  · subst h0
    refine Yq rfl (by decide) ?_
    repeat first|(with_reducible first|apply Yd|apply Ya)|((with_reducible apply ws);exact rfl;exact rfl)
    refine VW rfl rfl rfl (and1 n) ?_
    repeat first|(with_reducible first|apply Yc|apply Yb|apply Yl|apply Yh|apply YD)|((with_reducible apply ws);exact rfl;exact rfl)
    exact Yk rfl rfl ⟨_, rfl, Below.refl _ _, rfl, rfl⟩
  · refine Yu rfl (by simpa using h0) ?_
    repeat first|(with_reducible first|apply Yd|apply Ya|apply Yc|apply Yb)|((with_reducible apply ws);exact rfl;exact rfl)
    by_cases h1 : kind = 1
    · subst h1
      refine Yq rfl (by decide) ?_
      repeat first|(with_reducible first|apply Yd|apply Ya)|((with_reducible apply ws);exact rfl;exact rfl)
      refine YZ .i8 rfl ti_l64 ti_i8 rfl rfl ?_
      refine YZ .i64 rfl ti_i8 ti_l64 rfl (Ja (.inl rfl) n) ?_
      repeat first|(with_reducible first|apply Yc|apply Yb|apply Yl|apply Yh|apply YD)|((with_reducible apply ws);exact rfl;exact rfl)
      exact Yk rfl rfl ⟨_, rfl, Below.refl _ _, rfl, rfl⟩
    · refine Yu rfl (by simpa using h1) ?_
      repeat first|(with_reducible first|apply Yd|apply Ya|apply Yc|apply Yb)|((with_reducible apply ws);exact rfl;exact rfl)
      by_cases h2 : kind = 2
      · subst h2
        refine Yq rfl (by decide) ?_
        repeat first|(with_reducible first|apply Yd|apply Ya)|((with_reducible apply ws);exact rfl;exact rfl)
        refine YZ .i16 rfl ti_l64 ti_i16 rfl rfl ?_
        refine YZ .i64 rfl ti_i16 ti_l64 rfl (Ja (.inr (.inl rfl)) n) ?_
        repeat first|(with_reducible first|apply Yc|apply Yb|apply Yl|apply Yh|apply YD)|((with_reducible apply ws);exact rfl;exact rfl)
        exact Yk rfl rfl ⟨_, rfl, Below.refl _ _, rfl, rfl⟩
      · refine Yu rfl (by simpa using h2) ?_
        repeat first|(with_reducible first|apply Yd|apply Ya|apply Yc|apply Yb)|((with_reducible apply ws);exact rfl;exact rfl)
        by_cases h3 : kind = 3
        · subst h3
          refine Yq rfl (by decide) ?_
          repeat first|(with_reducible first|apply Yd|apply Ya)|((with_reducible apply ws);exact rfl;exact rfl)
          refine YZ .i32 rfl ti_l64 ti_i32 rfl rfl ?_
          refine YZ .i64 rfl ti_i32 ti_l64 rfl (Ja (.inr (.inr (.inl rfl))) n) ?_
          repeat first|(with_reducible first|apply Yc|apply Yb|apply Yl|apply Yh|apply YD)|((with_reducible apply ws);exact rfl;exact rfl)
          exact Yk rfl rfl ⟨_, rfl, Below.refl _ _, rfl, rfl⟩
        · refine Yu rfl (by simpa using h3) ?_
          repeat first|(with_reducible first|apply Yd|apply Ya|apply Yc|apply Yb)|((with_reducible apply ws);exact rfl;exact rfl)
          by_cases h5 : kind = 5
          · subst h5
            refine Yq rfl (by decide) ?_
            repeat first|(with_reducible first|apply Yd|apply Ya)|((with_reducible apply ws);exact rfl;exact rfl)
            refine YZ .u16 rfl ti_l64 ti_u16 rfl rfl ?_
            refine YZ .i64 rfl ti_u16 ti_l64 rfl (Ja (.inr (.inr (.inr rfl))) n) ?_
            repeat first|(with_reducible first|apply Yc|apply Yb|apply Yl|apply Yh|apply YD)|((with_reducible apply ws);exact rfl;exact rfl)
            exact Yk rfl rfl ⟨_, rfl, Below.refl _ _, rfl, rfl⟩
          · refine Yu rfl (by simpa using h5) ?_
            repeat first|(with_reducible first|apply Yd|apply Ya|apply Yc|apply Yb|apply Yj|apply Yl|apply XO)|((with_reducible apply ws);exact rfl;exact rfl)
            exact Yk rfl rfl ⟨_, rfl, Below.refl _ _, rfl, by simp [VD, h0, h1, h2, h3, h5]⟩
def UsOK (fs : List Fld) : Prop := ∀ (g : Tree) (B : Nat) (w : World) (fv : Value) (ts : List Value), B ≤ w.heap.size → Sq B w fv (fs.map fldD) → Rep (Lo B) w (treeD g) ts → g.u = [] → UsFs fs g.l →
  Fn 50 [fv, .agg ts.toArray] w fun v _ => v = .bool true
set_option maxHeartbeats 4000000 in
theorem us_walk (fs : List Fld) (hlen : fs.length ≤ 1000) (htab : tabTs fs = true) (ih : ∀ f ∈ fs, UsOK f.sub) : UsOK fs := by
  intro g B w fv ts hB hf ht hgu hus
  obtain ⟨fa, fc, rfl, _⟩ := hf.shape
  obtain ⟨sv2, lv, uv, rfl, hs, hl, huu⟩ := Xh ht
  obtain ⟨la, lc, rfl, _⟩ := hl.shape
  obtain ⟨ua, uc, rfl, _⟩ := huu.shape
  obtain ⟨hgl, hget⟩ := usFs_get hus
  have hu0 : g.u.length = 0 := by rw [hgu]; rfl
  simp only [List.length_map] at *
  refine enter Tryz.func50 rfl Tryz.ntmps50 rfl ?_
  repeat (with_reducible first|apply Yd|apply Ya)
  refine XA rfl rfl rfl (fun w1 hb1 hg1 hs1 => ?_)
  have hw1 : Below w.heap.size w w1 := Yg hg1 (Nat.le_refl _) (by simp)
  repeat first|(with_reducible first|apply Yd|apply Ya|apply Yc|apply Yb)|((with_reducible apply ws);exact rfl;exact rfl)
  refine Yf rfl to_tags rfl hb1 rfl ?_
  repeat first|(with_reducible first|apply Yc|apply Yb)|((with_reducible apply ws);exact rfl;exact rfl)
  refine Yu rfl (by simp; omega) ?_
  repeat first|(with_reducible first|apply Yd|apply Ya|apply Yc|apply Yb|apply Yr|apply Yj)|((with_reducible apply ws);exact rfl;exact rfl)
  refine Xr (α := Nat) (fun i => [(14, .int .i64 (i : Int)), (13, .int .i64 (fs.length : Int)), (12, .slice fa fs.length fc), (3, .pointer (some ⟨w.heap.size, 0, none⟩))]) (fun i w' => i ≤ fs.length ∧ Below w1.heap.size w1 w') (fun i => fs.length - i) 0 ⟨rfl, rfl, rfl, rfl, trivial⟩ ⟨Nat.zero_le _, Below.refl _ _⟩ ?_
  rintro i w2 ⟨hi, hw2⟩
  have hw02 : Below w.heap.size w w2 := hw1.trans (hw2.mono (by omega))
  have hs12 := hw2.size
  repeat first|(with_reducible first|apply Yd|apply Ya|apply Yc|apply Yb)|((with_reducible apply ws);exact rfl;exact rfl)
  by_cases hlt : i < fs.length
  · refine Yq rfl (by simpa using hlt) ?_
    obtain ⟨b, off, c', cs, hv, _, hcs, hcl, hr⟩ := (hf.below (hw02.mono hB) (Nat.le_refl _)).get (sz := 8) (i := i) (by intro d hd; obtain ⟨x, _, rfl⟩ := List.mem_map.1 hd; exact Uc x) (by simpa using hlt)
    simp only [Value.slice.injEq, List.length_map] at hv
    obtain ⟨rfl, _, rfl⟩ := hv
    simp only [List.getElem_map] at hr
    obtain ⟨hone, _⟩ := JB hr
    have hfT := tabTs_get htab fs[i] (List.getElem_mem hlt)
    have hih := ih fs[i] (List.getElem_mem hlt)
    have hus1 := hget i hlt (by omega)
    have hatt : att g i = g.l[i]'(by omega) := by simp [att, List.getD_eq_getElem?_getD, List.getElem?_eq_getElem (show i < g.l.length by omega)]
    generalize hff : fs[i] = f at *
    obtain ⟨sv, rfl, hsub⟩ := Vc hr
    repeat first|(with_reducible first|apply Yd|apply Ya|apply Yb|apply Yr|apply Yj)|((with_reducible apply ws);exact rfl;exact rfl)
    refine Ys rfl rfl es_flds rfl hlt ?_
    refine Xn (cs := [.int .i64 f.kind, .int .i64 f.fr, .int .i64 f.upto, .int .i64 f.nul, .int .i64 f.tag, .int .i64 f.df, .int .i64 f.of, sv]) rfl ta_fld rfl (fun j v e => hcs.cell e) ?_
    refine YT Yg0 rfl rfl (fun w4 hbx4 hg4 hs4 => ?_)
    repeat ((with_reducible apply ws);exact rfl;exact rfl)
    refine Yv (vs := [.int .i64 f.kind, .int .i64 f.fr, .int .i64 f.upto, .int .i64 f.nul, .int .i64 f.tag, .int .i64 f.df, .int .i64 f.of, sv]) rfl rfl rfl tz_fld hone hbx4 rfl (fun w5 hbx5 hg5 hs5 => ?_)
    have hw25 : Below w2.heap.size w2 w5 := (Yg hg4 (Nat.le_refl _) (by simp)).trans (Yg hg5 (by omega) (by intro k hk; simp at hk; omega))
    have hw05 : Below w.heap.size w w5 := hw02.trans (hw25.mono (by omega))
    have hw15 : Below w1.heap.size w1 w5 := hw2.trans (hw25.mono (by omega))
    repeat (with_reducible first|apply Yd|apply Ya|apply Yc|apply Yb)
    refine YE (cs := [.int .i64 g.n, sv2, .bool g.nul, .slice la g.l.length lc, .slice ua g.u.length uc]) rfl ta_tree rfl (hb1.below hw15 (by omega)) ?_
    repeat ((with_reducible apply ws);exact rfl;exact rfl)
    refine Yt rfl (by kernel_rfl) rfl ((fn_at g i B w5 (by omega) _ (Rep.below ht (hw05.mono hB) (Nat.le_refl _))).mono ?_)
    rintro e w6 ⟨v, rfl, hw56, xs, rfl, hxr⟩
    refine ⟨_, rfl, ?_⟩
    rw [hatt] at hxr
    generalize hxx : g.l[i]'(by omega) = x at *
    obtain ⟨honex, hxl5⟩ := Ya4 hxr
    obtain ⟨xsv, xlv, xuv, rfl, hxs, hxll, hxu⟩ := Xh hxr
    obtain ⟨xla, xlc, rfl, _⟩ := hxll.shape
    obtain ⟨xsa, xsc, rfl, _⟩ := hxs.shape
    simp only [List.length_map] at *
    refine YT zv_tree rfl rfl (fun w7 hbx7 hg7 hs7 => ?_)
    skip
    refine Yv (vs := [.int .i64 x.n, .slice xsa x.s.length xsc, .bool x.nul, .slice xla x.l.length xlc, xuv]) rfl rfl rfl tz_tree honex hbx7 rfl (fun w8 hbx8 hg8 hs8 => ?_)
    have hs56 := hw56.size
    have hw68 : Below w6.heap.size w6 w8 := (Yg hg7 (Nat.le_refl _) (by simp)).trans (Yg hg8 (by omega) (by intro k hk; simp at hk; omega))
    have hw58 : Below w5.heap.size w5 w8 := hw56.trans (hw68.mono (by omega))
    have hw18 : Below w1.heap.size w1 w8 := hw15.trans (hw58.mono (by omega))
    have hw08 : Below w.heap.size w w8 := hw05.trans (hw58.mono (by omega))
    have hbf := hbx5.below hw58 (by omega)
    repeat first|(with_reducible first|apply Yd|apply Ya|apply Yc|apply Yb)|((with_reducible apply ws);exact rfl;exact rfl)
    refine Yf rfl to_int rfl hbf rfl ?_
    repeat first|(with_reducible first|apply Yd|apply Ya|apply Yc|apply Yb|apply Yr)|((with_reducible apply ws);exact rfl;exact rfl)
    rw [usF_eq] at hus1
    by_cases h8 : f.kind = 8
    · rw [if_pos h8] at hus1
      refine Yq rfl (by simpa using h8) ?_
      repeat first|(with_reducible first|apply Yd|apply Ya)|((with_reducible apply ws);exact rfl;exact rfl)
      refine Yf rfl to_bool rfl hbx8 rfl ?_
      repeat ((with_reducible apply ws);exact rfl;exact rfl)
      refine Yf rfl to_int rfl hbf rfl ?_
      repeat ((with_reducible apply ws);exact rfl;exact rfl)
      refine wl_neqB rfl rfl un_bool rfl ?_
      rw [hus1.1, show (decide (0 ≤ f.nul) != decide (0 ≤ f.nul)) = false from by simp]
      repeat first|((with_reducible apply ws);exact rfl;exact rfl)|((with_reducible apply YV);exact rfl;exact rfl;exact rfl)
      refine Yf rfl to_bytes rfl hbx8 rfl ?_
      repeat first|(with_reducible first|apply Yc|apply Yb)|((with_reducible apply ws);exact rfl;exact rfl)|((with_reducible apply YV);exact rfl;exact rfl;exact rfl)
      refine Yu rfl (by rw [hus1.2]; rfl) ?_
      repeat (with_reducible first|apply Ya|apply Yb|apply Yj|apply XO)
      refine Xi rfl rfl rfl (r := ((i + 1 : Nat) : Int)) (by rw [IntKind.wrap_i64]; omega) ?_
      repeat first|(with_reducible apply Yc)|((with_reducible apply ws);exact rfl;exact rfl)
      exact YF (i + 1) ⟨rfl, rfl, rfl, rfl, trivial⟩ ⟨by omega, hw18⟩ (by omega)
    · refine Yu rfl (by simpa using h8) ?_
      rw [if_neg h8] at hus1
      repeat first|(with_reducible first|apply Yd|apply Ya|apply Yc|apply Yb)|((with_reducible apply ws);exact rfl;exact rfl)
      by_cases h7 : f.kind = 7
      · rw [if_pos h7] at hus1
        refine Yq rfl (by simpa using h7) ?_
        repeat (with_reducible apply Yd)
        refine XH [(0, .pointer (some ⟨w6.heap.size, 0 + 1, none⟩)), (1, .slice xsa x.s.length xsc)] [4, 3, 2]
          (fun vals w' => Below w8.heap.size w8 w' ∧ match vals with
            | [] => True
            | [v] => Own w' w8.heap.size 5 v (List.replicate 16 0)
            | [v, _] => v = .bool true
            | v :: _ => v = .bool false)
          mixed rfl rfl rfl rfl rfl (by show ([0,1] : List Nat).Nodup; decide) rfl rfl (by decide) rfl rfl rfl rfl ⟨(Below.refl _ w8).drew, trivial⟩ ?_ ⟨?_, ?_, ?_, trivial⟩ ?_
        · intro p hp vals w' hC a k
          simp only [List.mem_cons, List.not_mem_nil, or_false] at hp
          rcases hp with rfl | rfl
          · exact gv rfl rfl (Yi k rfl fo_tree1)
          · exact gv rfl rfl (YB k rfl to_bytes ((hbx8.below hC.1 (by omega)).cell0 (i := 1) rfl))
        · rintro vals w' hvl ⟨hb', hC⟩ a k
          match vals, hvl with
          | [v3, v2], _ =>
            simp only [] at hC
            subst hC
            exact ⟨_, rfl, UX k rfl ⟨hb', rfl⟩⟩
        · rintro vals w' hvl ⟨hb', hC⟩ a k
          match vals, hvl with
          | [v2], _ =>
            have hxs' := (hxs.below ((hw68.mono (show B ≤ w6.heap.size by omega)).trans (hb'.mono (by omega))) (Nat.le_refl _)).bytes
            refine ⟨_, rfl, YA k rfl (by kernel_rfl) ((Yg2 _ _ _ _ w' hxs' hC.bytes (by rw [hus1]; decide) (by decide)).mono ?_)⟩
            rintro e w'' ⟨v, rfl, hb'', rfl⟩
            exact ⟨_, rfl, hb'.trans (hb''.mono hb'.size), by rw [hus1]; simp⟩
        · rintro vals w' hvl ⟨hb', hC⟩ a k
          match vals, hvl with
          | [], _ =>
            refine ⟨_, rfl, does_makeB (B := w8.heap.size) (n := 16) k tb_bytes zn_u8 rfl hb'.size (fun w'' ho hg => ⟨hb'.trans (Yg hg hb'.size (by simp)), ho⟩)⟩
        · rintro vals w' hvl ⟨hb', hC⟩
          match vals, hvl with
          | [v4, v3, v2], _ =>
            simp only [] at hC
            subst hC
            refine Yb ?_
            refine Yu rfl rfl ?_
            repeat (with_reducible first|apply Ya|apply Yb|apply Yj|apply XO)
            refine Xi rfl rfl rfl (r := ((i + 1 : Nat) : Int)) (by rw [IntKind.wrap_i64]; omega) ?_
            repeat first|(with_reducible apply Yc)|((with_reducible apply ws);exact rfl;exact rfl)
            exact YF (i + 1) ⟨rfl, rfl, rfl, rfl, trivial⟩ ⟨by omega, hw18.trans (hb'.mono (by omega))⟩ (by omega)
      · refine Yu rfl (by simpa using h7) ?_
        rw [if_neg h7] at hus1
        repeat first|(with_reducible first|apply Yd|apply Ya|apply Yc|apply Yb)|((with_reducible apply ws);exact rfl;exact rfl)
        by_cases h911 : f.kind = 9 ∨ f.kind = 11
        · rw [if_pos h911] at hus1
          refine JK (α := Unit) (fun _ => [(53, .bool true), (7, .pointer (some ⟨w6.heap.size, 0, none⟩)), (14, .int .i64 (i : Int)), (13, .int .i64 (fs.length : Int)), (12, .slice (some ⟨b, off, none⟩) fs.length fc), (3, .pointer (some ⟨w.heap.size, 0, none⟩))]) (fun _ w' => w' = w8) ?_ ?_
          · by_cases h9 : f.kind = 9
            · refine Yq rfl (by simpa using h9) ?_
              repeat (with_reducible apply Yj)
              refine XB () ⟨by rw [h9]; rfl, rfl, rfl, rfl, rfl, rfl, trivial⟩ rfl
            · have h11 : f.kind = 11 := by rcases h911 with h | h; exact absurd h h9; exact h
              refine Yu rfl (by simpa using h9) ?_
              repeat first|(with_reducible first|apply Ya|apply Yc)|((with_reducible apply ws);exact rfl;exact rfl)
              refine XB () ⟨by rw [h11]; rfl, rfl, rfl, rfl, rfl, rfl, trivial⟩ rfl
          rintro _ w9 h9
          obtain rfl := h9.symm
          refine Yq rfl rfl ?_
          repeat first|(with_reducible first|apply Yd|apply Ya)|((with_reducible apply ws);exact rfl;exact rfl)
          refine Yf rfl to_bytes rfl hbx8 rfl ?_
          repeat ((with_reducible apply ws);exact rfl;exact rfl)
          rw [show decide ((0 : Int) < (x.s.length : Int)) = false from by rw [hus1.1]; rfl]
          repeat first|((with_reducible apply ws);exact rfl;exact rfl)|((with_reducible apply YV);exact rfl;exact rfl;exact rfl)
          refine Yf rfl to_trees rfl hbx8 rfl ?_
          repeat first|(with_reducible first|apply Yc|apply Yb)|((with_reducible apply ws);exact rfl;exact rfl)|((with_reducible apply YV);exact rfl;exact rfl;exact rfl)
          refine Yu rfl (by rw [hus1.2]; rfl) ?_
          repeat (with_reducible first|apply Ya|apply Yb|apply Yj|apply XO)
          refine Xi rfl rfl rfl (r := ((i + 1 : Nat) : Int)) (by rw [IntKind.wrap_i64]; omega) ?_
          repeat first|(with_reducible apply Yc)|((with_reducible apply ws);exact rfl;exact rfl)
          exact YF (i + 1) ⟨rfl, rfl, rfl, rfl, trivial⟩ ⟨by omega, hw18⟩ (by omega)
        · rw [if_neg h911] at hus1
          have h9 : f.kind ≠ 9 := fun h => h911 (.inl h)
          have h11 : f.kind ≠ 11 := fun h => h911 (.inr h)
          refine JK (α := Unit) (fun _ => [(53, .bool false), (23, .int .i64 f.kind), (6, .pointer (some ⟨w2.heap.size, 0, none⟩)), (7, .pointer (some ⟨w6.heap.size, 0, none⟩)), (14, .int .i64 (i : Int)), (13, .int .i64 (fs.length : Int)), (12, .slice (some ⟨b, off, none⟩) fs.length fc), (3, .pointer (some ⟨w.heap.size, 0, none⟩))]) (fun _ w' => w' = w8) ?_ ?_
          · refine Yu rfl (by simpa using h9) ?_
            repeat first|(with_reducible first|apply Ya|apply Yc)|((with_reducible apply ws);exact rfl;exact rfl)
            refine XB () ⟨?_, rfl, rfl, rfl, rfl, rfl, rfl, rfl, trivial⟩ rfl
            show some (Value.bool (f.kind == 11)) = some (Value.bool false)
            rw [show (f.kind == 11) = false from by simpa using h11]
          rintro _ w9 h9'
          obtain rfl := h9'.symm
          refine Yu rfl rfl ?_
          repeat first|(with_reducible first|apply Yd|apply Ya|apply Yc|apply Yb)|((with_reducible apply ws);exact rfl;exact rfl)
          by_cases h10 : f.kind = 10
          · rw [if_pos h10] at hus1
            have hneg := tabT_nul hfT h10
            refine Yq rfl (by simpa using h10) ?_
            repeat first|(with_reducible first|apply Yd|apply Ya)|((with_reducible apply ws);exact rfl;exact rfl)
            refine Yf rfl to_int rfl hbf rfl ?_
            repeat ((with_reducible apply ws);exact rfl;exact rfl)
            rw [show decide (0 ≤ f.nul) = false from by simp; omega]
            repeat first|((with_reducible apply ws);exact rfl;exact rfl)|((with_reducible apply YV);exact rfl;exact rfl;exact rfl)|((with_reducible apply UP);exact rfl;exact rfl;exact rfl;exact rfl)
            refine Yf rfl to_int rfl hbf rfl ?_
            repeat first|((with_reducible apply ws);exact rfl;exact rfl)|((with_reducible apply YV);exact rfl;exact rfl;exact rfl)
            rw [show decide (f.nul < 0) = true from by simp; omega]
            repeat first|((with_reducible apply ws);exact rfl;exact rfl)|((with_reducible apply YV);exact rfl;exact rfl;exact rfl)
            refine Yf rfl to_flds rfl hbf rfl ?_
            repeat ((with_reducible apply YV);exact rfl;exact rfl;exact rfl)
            refine YE (cs := [.int .i64 x.n, .slice xsa x.s.length xsc, .bool x.nul, .slice xla x.l.length xlc, xuv]) rfl ta_tree rfl hbx8 ?_
            repeat ((with_reducible apply YV);exact rfl;exact rfl;exact rfl)
            refine Yt rfl (by kernel_rfl) rfl ((hih x B w8 sv _ (by omega) (hsub.below ((hw25.mono (show B ≤ w2.heap.size by omega)).trans (hw58.mono (by omega))) (Nat.le_refl _)) (Rep.below hxr (hw68.mono (by omega)) (Nat.le_refl _)) hus1.1 hus1.2).mono ?_)
            rintro e w9 ⟨v, rfl, hw89, rfl⟩
            refine ⟨_, rfl, ?_⟩
            have hs89 := hw89.size
            repeat first|(with_reducible first|apply Yc|apply Yb)|((with_reducible apply ws);exact rfl;exact rfl)|((with_reducible apply YV);exact rfl;exact rfl;exact rfl)
            refine Yu rfl rfl ?_
            repeat (with_reducible first|apply Ya|apply Yb|apply Yj|apply XO)
            refine Xi rfl rfl rfl (r := ((i + 1 : Nat) : Int)) (by rw [IntKind.wrap_i64]; omega) ?_
            repeat first|(with_reducible apply Yc)|((with_reducible apply ws);exact rfl;exact rfl)
            exact YF (i + 1) ⟨rfl, rfl, rfl, rfl, trivial⟩ ⟨by omega, hw18.trans (hw89.mono (by omega))⟩ (by omega)
          · rw [if_neg h10] at hus1
            refine Yu rfl (by simpa using h10) ?_
            repeat (with_reducible apply Yd)
            refine XH [(0, .pointer (some ⟨w6.heap.size, 0 + 0, none⟩)), (1, .int .i64 x.n), (2, .pointer (some ⟨w2.heap.size, 0 + 0, none⟩)), (3, .int .i64 f.kind), (4, .pointer (some ⟨w2.heap.size, 0 + 5, none⟩)), (5, .int .i64 f.df)] [7, 6]
              (fun vals w' => Below w8.heap.size w8 w' ∧ match vals with
                | [] => True
                | [v] => v = .int .i64 (VD f.kind f.df)
                | v :: _ => v = .bool false)
              mixed rfl rfl rfl rfl rfl (by show ([0,1,2,3,4,5] : List Nat).Nodup; decide) rfl rfl (by decide) rfl rfl rfl rfl ⟨(Below.refl _ w8).drew, trivial⟩ ?_ ⟨?_, ?_, trivial⟩ ?_
            · intro p hp vals w' hC a k
              simp only [List.mem_cons, List.not_mem_nil, or_false] at hp
              rcases hp with rfl | rfl | rfl | rfl | rfl | rfl
              · exact gv rfl rfl (Yi k rfl fo_tree0)
              · exact gv rfl rfl (YB k rfl to_i64 ((hbx8.below hC.1 (by omega)).cell0 (i := 0) rfl))
              · exact gv rfl rfl (Yi k rfl fo_fld0)
              · exact gv rfl rfl (YB k rfl to_int ((hbf.below hC.1 (by omega)).cell0 (i := 0) rfl))
              · exact gv rfl rfl (Yi k rfl fo_fld5)
              · exact gv rfl rfl (YB k rfl to_i64 ((hbf.below hC.1 (by omega)).cell0 (i := 5) rfl))
            · rintro vals w' hvl ⟨hb', hC⟩ a k
              match vals, hvl with
              | [v6], _ =>
                simp only [] at hC
                subst hC
                refine ⟨_, rfl, Vd (rn_neq k rfl rfl) ⟨hb', ?_⟩⟩
                rw [hus1]; simp
            · rintro vals w' hvl ⟨hb', hC⟩ a k
              match vals, hvl with
              | [], _ =>
                refine ⟨_, rfl, YA k rfl (by kernel_rfl) ((fn_number f.kind f.df w').mono ?_)⟩
                rintro e w'' ⟨v, rfl, hb'', rfl, rfl⟩
                exact ⟨_, rfl, hb', rfl⟩
            · rintro vals w' hvl ⟨hb', hC⟩
              match vals, hvl with
              | [v7, v6], _ =>
                simp only [] at hC
                subst hC
                refine Yb ?_
                refine Yu rfl rfl ?_
                repeat (with_reducible first|apply Ya|apply Yb|apply Yj|apply XO)
                refine Xi rfl rfl rfl (r := ((i + 1 : Nat) : Int)) (by rw [IntKind.wrap_i64]; omega) ?_
                repeat first|(with_reducible apply Yc)|((with_reducible apply ws);exact rfl;exact rfl)
                exact YF (i + 1) ⟨rfl, rfl, rfl, rfl, trivial⟩ ⟨by omega, hw18.trans (hb'.mono (by omega))⟩ (by omega)
  · refine Yu rfl (by simpa using hlt) ?_
    repeat first|(with_reducible first|apply Yd|apply Ya|apply Yc|apply Yb|apply Yl|apply Xc|apply Yx|apply Yy|apply Yp)|((with_reducible apply ws);exact rfl;exact rfl)
    exact Yk rfl rfl ⟨_, rfl, hw02, rfl⟩
mutual
theorem usOK_all : ∀ f : Fld, f.okb = true → tabT f = true → UsOK f.sub
  | .mk kind fr upto nul tag df of sub, h, ht => by
    simp only [Fld.okb, Bool.and_eq_true] at h
    have hl : sub.length ≤ 1000 := Nat.le_of_ble_eq_true h.1.2
    have hts : tabTs sub = true := tabT_sub ht
    exact us_walk sub hl hts (usOKs_all sub h.2 hts)
theorem usOKs_all : ∀ fs : List Fld, Fld.oksb fs = true → tabTs fs = true → ∀ f ∈ fs, UsOK f.sub
  | [], _, _, f, hf => by cases hf
  | g :: fs, h, ht, f, hf => by
    simp only [Fld.oksb, Bool.and_eq_true] at h
    simp only [tabTs, Bool.and_eq_true] at ht
    rcases List.mem_cons.1 hf with e | hf
    · rw [e]; exact usOK_all g h.1 ht.1
    · exact usOKs_all fs h.2 ht.2 f hf
end
theorem us_ok (fs : List Fld) (h : Fld.oksb fs = true) (hl : fs.length ≤ 1000) (ht : tabTs fs = true) : UsOK fs := us_walk fs hl ht (usOKs_all fs h ht)
end
end Go.Proofs.YtjfgalpjjnncaaaGreatDoor

namespace Go.Proofs.YtjfgalpjjnncaaaGreatDoor
def tagsW (u : List (Nat × List UInt8)) : Nat := (u.map fun kv => kv.2.length + 1).sum
mutual
def Tree.wt : Tree → Nat
  | .mk _ s _ l u => 1 + s.length + tagsW u + Tree.wts l
def Tree.wts : List Tree → Nat
  | [] => 0
  | t :: l => t.wt + Tree.wts l
end
mutual
def Fld.cost : Fld → Nat
  | .mk _ _ _ _ _ _ _ sub => 60 + ((1 + YM sub) * Fld.costs sub + 60)
def Fld.costs : List Fld → Nat
  | [] => 0
  | f :: l => f.cost + 30 + Fld.costs l
end
theorem uvar_le6 (n : Nat) (h : n < 34359738368) : (uvar n).length ≤ 6 := by
  rw [uvar]; split
  · simp
  · rw [uvar]; split
    · simp
    · rw [uvar]; split
      · simp
      · rw [uvar]; split
        · simp
        · rw [uvar]; split
          · simp
          · omega
theorem be_len : ∀ (k : Nat) (n : Int), (be k n).length = k
  | 0, _ => rfl
  | k + 1, n => by simp only [be, List.length_cons, be_len k n]
theorem Yd4 (flex null : Bool) (n size : Nat) (hn : n ≤ 1000000) (hs : size ≤ 8) : (YP flex null n size).length ≤ 8 := by
  unfold YP
  split
  · split
    · simp
    · exact Nat.le_trans (uvar_le6 _ (by omega)) (by omega)
  · split <;> rw [be_len] <;> exact hs
theorem whole_le (s : List UInt8) : (YX s).length ≤ s.length ∧ (YX s).length ≤ 32767 := by
  unfold YX Vb; rw [List.length_take]; omega
theorem width8 (k : Int) : width k ≤ 8 := by
  unfold width
  split
  · omega
  · split
    · omega
    · split <;> omega
def Yd5 (l : List (Nat × List UInt8)) : Nat := (l.map fun kv => (Yb6 kv.1 kv.2).length).sum
theorem tagsB_append (a b : List (Nat × List UInt8)) : Yd5 (a ++ b) = Yd5 a + Yd5 b := by simp [Yd5]
theorem flat_tagsB (l : List (Nat × List UInt8)) : (l.flatMap fun kv => Yb6 kv.1 kv.2).length = Yd5 l := by
  induction l with
  | nil => rfl
  | cons a l ih => simp [Yd5]
theorem putTag_key (k : Nat) (v : List UInt8) (l : List (Nat × List UInt8)) : ∀ x ∈ Xf k v l, x = (k, v) ∨ x ∈ l := by
  induction l with
  | nil => intro x hx; simp [Xf] at hx; exact .inl hx
  | cons a l ih =>
    intro x hx
    simp only [Xf] at hx
    split at hx
    · rcases List.mem_cons.1 hx with rfl | h
      · exact .inr (by simp)
      · rcases ih x h with h | h
        · exact .inl h
        · exact .inr (by simp [h])
    · split at hx
      · exact .inr hx
      · rcases List.mem_cons.1 hx with rfl | h
        · exact .inl rfl
        · exact .inr h
theorem unknown_in (fs : List Fld) (u : List (Nat × List UInt8)) : ∀ x ∈ Xj fs u, x ∈ u := by
  have gen : ∀ (l out : List (Nat × List UInt8)), ∀ x ∈ l.foldl (fun out kv => if kv.1 < YM fs then out else Xf kv.1 kv.2 out) out, x ∈ out ∨ x ∈ l := by
    intro l
    induction l with
    | nil => intro out x hx; exact .inl hx
    | cons a l ih =>
      intro out x hx
      rcases ih _ x hx with h | h
      · simp only [] at h
        split at h
        · exact .inl h
        · rcases putTag_key _ _ _ x h with rfl | h
          · exact .inr (by simp)
          · exact .inl h
      · exact .inr (by simp [h])
  intro x hx
  rcases gen (u.take Vb) [] x hx with h | h
  · cases h
  · exact List.mem_of_mem_take h
end Go.Proofs.YtjfgalpjjnncaaaGreatDoor

namespace Go.Proofs.YtjfgalpjjnncaaaGreatDoor
theorem uvar_le1 (n : Nat) : (uvar n).length ≤ n + 1 := by
  induction n using Nat.strongRecOn with
  | _ n ih =>
    rw [uvar]; split
    · simp
    · have := ih (n / 128) (by omega)
      simp only [List.length_cons]; omega
theorem uvar_few (a b : Nat) (h : b ≤ 32767) : (uvar (a + b)).length ≤ a + 258 := by
  rw [uvar]; split
  · simp
  · have := uvar_le1 ((a + b) / 128)
    simp only [List.length_cons]; omega
def JS (l : List (Nat × List UInt8)) : Nat := (l.map fun kv => 1 + (Yb6 kv.1 kv.2).length).sum
theorem tagsC_eq (l : List (Nat × List UInt8)) : JS l = l.length + Yd5 l := by
  induction l with
  | nil => rfl
  | cons a l ih => simp only [JS, Yd5, List.map_cons, List.sum_cons, List.length_cons] at *; omega
theorem Yd7 (a b : List (Nat × List UInt8)) : JS (a ++ b) = JS a + JS b := by simp [JS]
theorem Yf6 (g : Nat → List (Nat × List UInt8)) (M : Nat) : ∀ n, (∀ k, JS (g k) ≤ M) → JS ((List.range n).flatMap g) ≤ n * M
  | 0, _ => by simp [JS]
  | n + 1, h => by
    rw [List.range_succ, List.flatMap_append, Yd7, Nat.succ_mul]
    have := Yf6 g M n h
    have := h n
    simp only [List.flatMap_cons, List.flatMap_nil, List.append_nil]; omega
theorem Yl0 (fs : List Fld) (u : List (Nat × List UInt8)) : (Xj fs u).length ≤ 32767 := by
  have put : ∀ (k : Nat) (v : List UInt8) (l : List (Nat × List UInt8)), (Xf k v l).length ≤ l.length + 1 := by
    intro k v l
    induction l with
    | nil => simp [Xf]
    | cons a l ih =>
      simp only [Xf]
      split
      · simp; omega
      · split
        · simp
        · simp
  have gen : ∀ (l out : List (Nat × List UInt8)), (l.foldl (fun out kv => if kv.1 < YM fs then out else Xf kv.1 kv.2 out) out).length ≤ out.length + l.length := by
    intro l
    induction l with
    | nil => intro out; simp
    | cons a l ih =>
      intro out
      have h1 := ih (if a.1 < YM fs then out else Xf a.1 a.2 out)
      have h2 : (if a.1 < YM fs then out else Xf a.1 a.2 out).length ≤ out.length + 1 := by
        split
        · omega
        · exact put _ _ _
      simp only [List.foldl_cons, List.length_cons]; omega
  have h := gen (u.take Vb) []
  have hM : (u.take Vb).length ≤ 32767 := by rw [List.length_take]; exact Nat.min_le_left _ _
  unfold Xj
  simp only [List.length_nil] at h; omega
theorem others_few (fs : List Fld) (u : List (Nat × List UInt8)) : (Xw fs u).length ≤ 32767 := by
  simp only [Xw, List.length_map]; exact Yl0 fs u
theorem Yk5 (fs : List Fld) (t : Tree) (hok : t.ok) : Yd5 (Xw fs t.u) ≤ 1074069493 := by
  have gen : ∀ l : List (Nat × List UInt8), (∀ kv ∈ l, kv.1 < 4294967296) → Yd5 (l.map fun kv => (kv.1, YX kv.2)) ≤ l.length * 32779 := by
    intro l
    induction l with
    | nil => intro _; simp [Yd5]
    | cons a l ih =>
      intro h
      have h0 := ih (fun x hx => h x (by simp [hx]))
      have ha := uvar_le6 a.1 (by have := h a (by simp); omega)
      have hw := (whole_le a.2).2
      have hb := uvar_le6 (YX a.2).length (by omega)
      simp only [Yd5, List.map_cons, List.sum_cons, Yb6, List.length_append, List.length_cons, Nat.succ_mul] at *
      omega
  have h1 := gen (Xj fs t.u) (fun kv hkv => hok.u kv (unknown_in fs t.u kv hkv))
  have h2 := Yl0 fs t.u
  have h3 := Nat.mul_le_mul_right 32779 h2
  simp only [Xw]; omega
theorem part_leF (ver : Int) (flex : Bool) (fs : List Fld) (t : Tree) (M O : Nat) (hF : (wFs ver flex fs 0 t).length ≤ M) (hT : ∀ k, JS (wTs ver flex fs 0 k t) ≤ M) (hO : Yd5 (Xw fs t.u) ≤ O) :
    (Xb ver flex fs t).length ≤ (1 + YM fs) * M + (bif flex then O + 258 else 0) := by
  unfold Xb asm
  rw [Nat.add_mul]
  cases flex with
  | false => simp only [Bool.false_eq_true, if_false, cond_false]; omega
  | true =>
    simp only [if_true, cond_true, List.length_append, flat_tagsB]
    have h1 := Yf6 (fun k => wTs ver true fs 0 k t) M (YM fs) hT
    have h2 : XV ver true fs t = (List.range (YM fs)).flatMap (fun k => wTs ver true fs 0 k t) ++ Xw fs t.u := rfl
    rw [h2, tagsB_append, List.length_append]
    have h3 := uvar_few ((List.range (YM fs)).flatMap (fun k => wTs ver true fs 0 k t)).length (Xw fs t.u).length (others_few fs t.u)
    have h4 := tagsC_eq ((List.range (YM fs)).flatMap (fun k => wTs ver true fs 0 k t))
    omega
def Yn5 (tag : Int) (n : Nat) : Nat := if tag < 0 then n else n + n + tag.toNat + 3
theorem le_tagged (tag : Int) (n : Nat) : n ≤ Yn5 tag n := by unfold Yn5; split <;> omega
theorem tag_le (k : Nat) (b : List UInt8) (n : Nat) (h : b.length ≤ n) : 1 + (Yb6 k b).length ≤ n + n + k + 3 := by
  have h1 := uvar_le1 k
  have h2 := uvar_le1 b.length
  simp only [Yb6, List.length_append]; omega
def oF (fl : Bool) : Nat := bif fl then 1074069751 else 0
mutual
def Fld.most (fl : Bool) : Fld → Nat
  | .mk kind _ _ _ _ _ of sub =>
    if kind = 11 then 8 + 32767 * (if of = 10 then (1 + YM sub) * Fld.mosts fl sub + oF fl else 32783)
    else if kind = 10 then 1 + ((1 + YM sub) * Fld.mosts fl sub + oF fl) else 32783
def Fld.mosts (fl : Bool) : List Fld → Nat
  | [] => 0
  | f :: fs => Yn5 f.tag (f.most fl) + Fld.mosts fl fs
end
def partMost (fl : Bool) (fs : List Fld) : Nat := (1 + YM fs) * Fld.mosts fl fs + oF fl
theorem flat_le (g : Tree → List UInt8) (c : Nat) : ∀ (l : List Tree), (∀ x ∈ l, (g x).length ≤ c) → (l.flatMap g).length ≤ l.length * c
  | [], _ => by simp
  | x :: l, h => by
    have h1 := h x (by simp)
    have h2 := flat_le g c l (fun y hy => h y (by simp [hy]))
    simp only [List.flatMap_cons, List.length_append, List.length_cons, Nat.succ_mul]; omega
theorem wVal_most (kind : Int) (flex null : Bool) (p : Tree → List UInt8) (t : Tree) (h : kind ≠ 10) : (XT kind flex null p t).length ≤ 32783 := by
  have hw := whole_le t.s
  have hif : (if null then ([] : List UInt8) else YX t.s).length ≤ 32767 := by
    cases null
    · exact hw.2
    · simp
  unfold XT
  split
  · simp
  · split
    · simp only [XJ, List.length_take]; omega
    · split
      · have := Yd4 flex null (if null then ([] : List UInt8) else YX t.s).length 2 (by omega) (by omega)
        rw [List.length_append]; omega
      · split
        · have := Yd4 flex null (if null then ([] : List UInt8) else YX t.s).length 4 (by omega) (by omega)
          rw [List.length_append]; omega
        · rw [be_len]
          have := width8 kind
          omega
theorem wVal_part (flex null : Bool) (p : Tree → List UInt8) (t : Tree) : XT 10 flex null p t = p t := by simp [XT]
theorem things_few (l : List Tree) : (YN l).length ≤ 32767 := by unfold YN Vb; rw [List.length_take]; omega
mutual
theorem Yi1 (ver : Int) (flex : Bool) : ∀ (f : Fld) (t : Tree), t.ok → (Xs ver flex f t).length ≤ f.most flex
  | .mk kind fr upto nul tag df of sub, t, ht => by
    have hp : ∀ x : Tree, x.ok → (Xb ver flex sub x).length ≤ (1 + YM sub) * Fld.mosts flex sub + oF flex := fun x hx =>
      Nat.le_trans (part_leF ver flex sub x _ 1074069493 (wFs_most ver flex sub 0 x hx) (fun k => wTs_most ver flex sub 0 k x hx) (Yk5 sub x hx)) (by cases flex <;> simp [oF])
    rw [Ul ver flex kind fr upto nul tag df of sub t _ rfl]
    simp only [Fld.most]
    generalize (1 + YM sub) * Fld.mosts flex sub + oF flex = c at hp ⊢
    by_cases h11 : kind = 11
    · simp only [h11, if_true]
      generalize (t.nul && decide (0 ≤ nul) && decide (nul ≤ ver)) = null
      have hlen : (if null then ([] : List Tree) else YN t.l).length ≤ 32767 := by
        cases null
        · exact things_few t.l
        · simp
      have hmem : ∀ x ∈ (if null then ([] : List Tree) else YN t.l), x.ok := by
        intro x hx
        cases null
        · exact ht.l x (List.mem_of_mem_take hx)
        · simp at hx
      have h8 := Yd4 flex null (if null then ([] : List Tree) else YN t.l).length 4 (by omega) (by omega)
      rw [List.length_append]
      have h9 := flat_le (XT of flex false (Xb ver flex sub)) (if of = 10 then c else 32783) (if null then ([] : List Tree) else YN t.l) (fun x hx => by
        by_cases h10 : of = 10
        · rw [if_pos h10, h10, wVal_part]; exact hp x (hmem x hx)
        · rw [if_neg h10]; exact wVal_most of flex false _ x h10)
      have h10 : (if null then ([] : List Tree) else YN t.l).length * (if of = 10 then c else 32783) ≤ 32767 * (if of = 10 then c else 32783) := Nat.mul_le_mul_right _ hlen
      omega
    · simp only [h11, if_false]
      by_cases h10 : kind = 10
      · simp only [h10, true_and, if_true]
        have h1 := hp t ht
        split
        · split
          · rw [be_len]; omega
          · rw [List.length_append, be_len]; omega
        · rw [wVal_part]; omega
      · simp only [h10, false_and, if_false]
        exact wVal_most kind flex _ _ t h10
theorem wFs_most (ver : Int) (flex : Bool) : ∀ (fs : List Fld) (i : Nat) (t : Tree), t.ok → (wFs ver flex fs i t).length ≤ Fld.mosts flex fs
  | [], _, _, _ => by simp [wFs]
  | f :: fs, i, t, ht => by
    have h1 := Yi1 ver flex f (att t i) (ht.at i)
    have h2 := wFs_most ver flex fs (i + 1) t ht
    have h3 := le_tagged f.tag (f.most flex)
    simp only [wFs, Fld.mosts, List.length_append]
    split
    · omega
    · simp only [List.length_nil]; omega
theorem wTs_most (ver : Int) (flex : Bool) : ∀ (fs : List Fld) (i k : Nat) (t : Tree), t.ok → JS (wTs ver flex fs i k t) ≤ Fld.mosts flex fs
  | [], _, _, _, _ => by simp [wTs, JS]
  | f :: fs, i, k, t, ht => by
    have h1 := Yi1 ver flex f (att t i) (ht.at i)
    have h2 := wTs_most ver flex fs (i + 1) k t ht
    simp only [wTs, Fld.mosts, Yd7]
    split
    · rename_i h
      have h3 := tag_le k (Xs ver flex f (att t i)) _ h1
      have h4 : Yn5 f.tag (f.most flex) = f.most flex + f.most flex + k + 3 := by
        unfold Yn5
        rw [if_neg (by omega)]
        have : f.tag.toNat = k := by omega
        omega
      simp only [JS, List.map_cons, List.map_nil, List.sum_cons, List.sum_nil] at h2 ⊢; omega
    · have : JS ([] : List (Nat × List UInt8)) = 0 := rfl
      omega
end
theorem wPart_most (ver : Int) (flex : Bool) (fs : List Fld) (t : Tree) (ht : t.ok) : (Xb ver flex fs t).length ≤ partMost flex fs :=
  Nat.le_trans (part_leF ver flex fs t _ 1074069493 (wFs_most ver flex fs 0 t ht) (fun k => wTs_most ver flex fs 0 k t ht) (Yk5 fs t ht)) (by unfold partMost; cases flex <;> simp [oF])
mutual
def Fld.price : Fld → Nat
  | .mk _ _ _ _ _ _ _ sub => ((1 + YM sub) * Fld.prices sub + 272) + 24 + 9
def Fld.prices : List Fld → Nat
  | [] => 0
  | f :: fs => Yn5 f.tag f.price + Fld.prices fs
end
end Go.Proofs.YtjfgalpjjnncaaaGreatDoor

namespace Go.Proofs.YtjfgalpjjnncaaaGreatDoor
open Go Go.RowKit
section
set_option maxRecDepth 100000
theorem fn_fits3 (kv : Nat × List UInt8) (B : Nat) (w : World) (ts : List Value) (ht : Rep (Lo B) w (Uf kv) ts) : Fn 91 [.agg ts.toArray] w fun v _ => ∃ b : Bool, v = .bool b := by
  obtain ⟨sv, rfl, hs⟩ := Vz ht
  obtain ⟨sa, sc, rfl, _⟩ := hs.shape
  refine enter Tryz.func91 rfl Tryz.ntmps91 rfl ?_
  repeat (with_reducible first|apply Yd|apply Ya)
  refine XA rfl rfl rfl (fun w1 hb1 hg1 hs1 => ?_)
  have hw1 : Below w.heap.size w w1 := Yg hg1 (Nat.le_refl _) (by simp)
  repeat first|(with_reducible first|apply Yd|apply Ya|apply Yc|apply Yb)|((with_reducible apply ws);exact rfl;exact rfl)
  refine Yf rfl to_bytes rfl hb1 rfl ?_
  repeat first|(with_reducible first|apply Yc|apply Yb)|((with_reducible apply ws);exact rfl;exact rfl)
  by_cases h : (2147483647 : Int) < ((kv.2.map byteD).length : Int)
  · refine Yq rfl (by simpa using h) ?_
    repeat first|(with_reducible first|apply Yd|apply Ya|apply Yc|apply Yb|apply Yl|apply Yh)|((with_reducible apply ws);exact rfl;exact rfl)
    exact Yk rfl rfl ⟨_, rfl, hw1, _, rfl⟩
  · refine Yu rfl (by simpa using h) ?_
    repeat first|(with_reducible first|apply Yd|apply Ya|apply Yc|apply Yb|apply Yj|apply Yl)|((with_reducible apply ws);exact rfl;exact rfl)
    exact Yk rfl rfl ⟨_, rfl, hw1, _, rfl⟩
theorem fn_fits2 (u : List (Nat × List UInt8)) (B : Nat) (w : World) (uv : Value) (hB : B ≤ w.heap.size) (hu : Sq B w uv (u.map Uf)) : Fn 38 [uv] w fun v _ => ∃ b : Bool, v = .bool b := by
  obtain ⟨ua, uc, rfl, _⟩ := hu.shape
  refine enter Tryz.func38 rfl Tryz.ntmps38 rfl ?_
  repeat first|(with_reducible first|apply Yd|apply Ya|apply Yc|apply Yb)|((with_reducible apply ws);exact rfl;exact rfl)
  by_cases h : (2147483647 : Int) < ((u.map Uf).length : Int)
  · refine Yq rfl (by simpa using h) ?_
    repeat first|(with_reducible first|apply Yd|apply Ya|apply Yc|apply Yb|apply Yl|apply Yh)|((with_reducible apply ws);exact rfl;exact rfl)
    exact Yk rfl rfl ⟨_, rfl, Below.refl _ _, _, rfl⟩
  · refine Yu rfl (by simpa using h) ?_
    repeat first|(with_reducible first|apply Yd|apply Ya|apply Yc|apply Yb|apply Yr|apply Yj)|((with_reducible apply ws);exact rfl;exact rfl)
    rw [List.length_map] at *
    refine Xr (α := Nat) (fun i => [(10, .int .i64 (i : Int)), (9, .int .i64 (u.length : Int)), (8, .slice ua u.length uc)]) (fun i w' => i ≤ u.length ∧ Below w.heap.size w w') (fun i => u.length - i) 0 ⟨rfl, rfl, rfl, trivial⟩ ⟨Nat.zero_le _, Below.refl _ _⟩ ?_
    rintro i w1 ⟨hi, hw1⟩
    repeat first|(with_reducible first|apply Yd|apply Ya|apply Yc|apply Yb)|((with_reducible apply ws);exact rfl;exact rfl)
    by_cases hlt : i < u.length
    · refine Yq rfl (by simpa using hlt) ?_
      obtain ⟨b, off, c', cs, hv, hbB, hcs, hlen, hr⟩ := (hu.below (hw1.mono hB) (Nat.le_refl _)).get (sz := 2) (i := i) (by intro d hd; obtain ⟨x, _, rfl⟩ := List.mem_map.1 hd; exact Vq x) (by simpa using hlt)
      simp only [Value.slice.injEq, List.length_map] at hv
      obtain ⟨rfl, _, rfl⟩ := hv
      simp only [List.getElem_map] at hr
      obtain ⟨hcone, _⟩ := tag_one hr
      repeat (with_reducible first|apply Yd|apply Ya|apply Yb|apply Yr|apply Yj)
      refine Ys rfl rfl es_tags rfl hlt ?_
      refine Xn rfl (by rw [hlen]; exact ta_tag) rfl (fun j v e => hcs.cell e) ?_
      refine YT zv_tag rfl rfl (fun w8 hb8 hg8 hs8 => ?_)
      refine Yv rfl rfl rfl (by rw [hlen]; exact tz_tag) hcone hb8 (by rw [hlen]; rfl) (fun w9 hb9 hg9 hs9 => ?_)
      have hs1 := hw1.size
      have hw19 : Below w1.heap.size w1 w9 := (Yg hg8 (Nat.le_refl _) (by simp)).trans (Yg hg9 (by omega) (by intro k hk; simp at hk; omega))
      have hs19 := hw19.size
      repeat (with_reducible first|apply Yd|apply Ya|apply Yc|apply Yb)
      refine YE rfl (by rw [hlen]; exact ta_tag) rfl hb9 ?_
      refine Yt rfl (by kernel_rfl) rfl ((fn_fits3 u[i] B w9 _ (Rep.below hr (hw19.mono (by omega)) (Nat.le_refl _))).mono ?_)
      rintro e w10 ⟨v, rfl, hw10, q, rfl⟩
      refine ⟨_, rfl, ?_⟩
      repeat first|(with_reducible first|apply Yc|apply Yb)|((with_reducible apply ws);exact rfl;exact rfl)
      cases q
      · refine Yq rfl rfl ?_
        repeat first|(with_reducible first|apply Yd|apply Ya|apply Yc|apply Yb|apply Yl|apply Yh|apply YD|apply Vs)|((with_reducible apply ws);exact rfl;exact rfl)
        exact Yk rfl rfl ⟨_, rfl, (hw1.trans (hw19.mono hs1)).trans (hw10.mono (by omega)), _, rfl⟩
      · refine Yu rfl rfl ?_
        repeat (with_reducible first|apply Ya|apply Yb|apply Yj|apply XO)
        refine Xi rfl rfl rfl (r := ((i + 1 : Nat) : Int)) (by rw [IntKind.wrap_i64]; omega) ?_
        repeat first|(with_reducible apply Yc)|((with_reducible apply ws);exact rfl;exact rfl)
        exact YF (i + 1) ⟨rfl, rfl, rfl, trivial⟩ ⟨by omega, (hw1.trans (hw19.mono hs1)).trans (hw10.mono (by omega))⟩ (by omega)
    · refine Yu rfl (by simpa using hlt) ?_
      repeat first|(with_reducible first|apply Yd|apply Ya|apply Yc|apply Yb|apply Yl|apply Xc|apply Yx|apply Yy|apply Yp)|((with_reducible apply ws);exact rfl;exact rfl)
      exact Yk rfl rfl ⟨_, rfl, hw1, _, rfl⟩
theorem fn_fits1 (t : Tree) (B : Nat) (w : World) (ts : List Value) (hB : B ≤ w.heap.size) (ht : Rep (Lo B) w (treeD t) ts) : Fn 10 [.agg ts.toArray] w fun v _ => ∃ b : Bool, v = .bool b := by
  obtain ⟨sv, lv, uv, rfl, hs, hl, hu⟩ := Xh ht
  obtain ⟨la, lc, rfl, _⟩ := hl.shape
  obtain ⟨sa, sc, rfl, _⟩ := hs.shape
  refine enter Tryz.func10 rfl Tryz.ntmps10 rfl ?_
  repeat (with_reducible first|apply Yd|apply Ya)
  refine XA rfl rfl rfl (fun w1 hb1 hg1 hs1 => ?_)
  have hw1 : Below w.heap.size w w1 := Yg hg1 (Nat.le_refl _) (by simp)
  repeat first|(with_reducible first|apply Yd|apply Ya|apply Yc|apply Yb)|((with_reducible apply ws);exact rfl;exact rfl)
  refine Yf rfl to_bytes rfl hb1 rfl ?_
  repeat first|(with_reducible first|apply Yc|apply Yb)|((with_reducible apply ws);exact rfl;exact rfl)
  by_cases h : (2147483647 : Int) < ((t.s.map byteD).length : Int)
  · refine Yq rfl (by simpa using h) ?_
    repeat first|(with_reducible first|apply Yd|apply Ya|apply Yc|apply Yb|apply Yl|apply Yh)|((with_reducible apply ws);exact rfl;exact rfl)
    exact Yk rfl rfl ⟨_, rfl, hw1, _, rfl⟩
  · refine Yu rfl (by simpa using h) ?_
    repeat first|(with_reducible first|apply Yd|apply Ya|apply Yb|apply Yj)|((with_reducible apply ws);exact rfl;exact rfl)
    refine Yf rfl to_trees rfl hb1 rfl ?_
    repeat first|(with_reducible first|apply Yc|apply Yb)|((with_reducible apply ws);exact rfl;exact rfl)
    by_cases h : (2147483647 : Int) < ((t.l.map treeD).length : Int)
    · refine Yq rfl (by simpa using h) ?_
      repeat first|(with_reducible first|apply Yd|apply Ya|apply Yc|apply Yb|apply Yl|apply Yh)|((with_reducible apply ws);exact rfl;exact rfl)
      exact Yk rfl rfl ⟨_, rfl, hw1, _, rfl⟩
    · refine Yu rfl (by simpa using h) ?_
      repeat first|(with_reducible first|apply Yd|apply Ya|apply Yb|apply Yj)|((with_reducible apply ws);exact rfl;exact rfl)
      refine Yf rfl to_tags rfl hb1 rfl ?_
      refine Yt rfl (by kernel_rfl) rfl ((fn_fits2 t.u B w1 _ (by omega) (hu.below (hw1.mono hB) (Nat.le_refl _))).mono ?_)
      rintro e w2 ⟨v, rfl, hw2, q, rfl⟩
      refine ⟨_, rfl, ?_⟩
      repeat first|(with_reducible first|apply Yc|apply Yb)|((with_reducible apply ws);exact rfl;exact rfl)
      cases q
      · refine Yq rfl rfl ?_
        repeat first|(with_reducible first|apply Yd|apply Ya|apply Yc|apply Yb|apply Yl|apply Yh)|((with_reducible apply ws);exact rfl;exact rfl)
        exact Yk rfl rfl ⟨_, rfl, hw1.trans (hw2.mono (by omega)), _, rfl⟩
      · refine Yu rfl rfl ?_
        repeat first|(with_reducible first|apply Yd|apply Ya|apply Yc|apply Yb|apply Yj|apply Yl)|((with_reducible apply ws);exact rfl;exact rfl)
        exact Yk rfl rfl ⟨_, rfl, hw1.trans (hw2.mono (by omega)), _, rfl⟩
theorem fn_write (m : Msg) (hm : Jd m.fields = true) (ver : Int) (t : Tree) (B : Nat) (w : World) (fv : Value) (ts : List Value) (hok : t.ok) (hB : B ≤ w.heap.size) (hf : Sq B w fv (m.fields.map fldD)) (ht : Rep (Lo B) w (treeD t) ts) (hlim : (write m ver t).length ≤ lim) :
    Fn 15 [.agg #[fv, .int .i64 m.flex], .int .i64 ver, .agg ts.toArray] w fun v w' => Own w' w.heap.size 5 v (write m ver t) := by
  obtain ⟨sv, lv, uv, rfl, _, _, _⟩ := Xh ht
  obtain ⟨fa, fc, rfl, _⟩ := hf.shape
  refine enter Tryz.func15 rfl Tryz.ntmps15 rfl ?_
  repeat (with_reducible first|apply Yd|apply Ya)
  refine XA (cs := [.slice fa (m.fields.map fldD).length fc, .int .i64 m.flex]) rfl rfl rfl (fun w1 hb1 hg1 hs1 => XA rfl rfl rfl (fun w2 hb2 hg2 hs2 => ?_))
  have hb12 := hb1.kept hg2 (by simp)
  have hw2 : Below w.heap.size w w2 := (Yg hg1 (Nat.le_refl _) (by simp)).trans (Yg hg2 (by omega) (by simp))
  have hcall : ∀ flex, m.flexible ver = flex → _ := fun flex hfx => part_ok m.fields hm flex ver t B w2 _ _ hok (by omega) (hf.below (hw2.mono hB) (Nat.le_refl _)) (ht.below (hw2.mono hB) (Nat.le_refl _)) (by rw [← hfx]; exact hlim)
  repeat first|(with_reducible first|apply Yd|apply Ya|apply Yc|apply Yb)|((with_reducible apply ws);exact rfl;exact rfl)
  refine Yf rfl to_flds rfl hb12 rfl ?_
  repeat ((with_reducible apply ws);exact rfl;exact rfl)
  refine Yf rfl to_int rfl hb12 rfl ?_
  repeat ((with_reducible apply ws);exact rfl;exact rfl)
  by_cases h0 : 0 ≤ m.flex
  · have e1 : decide (0 ≤ m.flex) = true := by simpa using h0
    rw [e1]
    repeat first|((with_reducible apply ws);exact rfl;exact rfl)|((with_reducible apply YV);exact rfl;exact rfl;exact rfl)
    refine Yf rfl to_int rfl hb12 rfl ?_
    repeat first|((with_reducible apply ws);exact rfl;exact rfl)|((with_reducible apply YV);exact rfl;exact rfl;exact rfl)
    refine YE (cs := [.int .i64 t.n, sv, .bool t.nul, lv, uv]) rfl ta_tree rfl hb2 ?_
    refine Yt rfl (by kernel_rfl) rfl ((hcall (decide (m.flex ≤ ver)) (by simp [Msg.flexible, h0])).mono ?_)
    rintro e w3 ⟨v, rfl, hw3, ho⟩
    refine ⟨v, rfl, ?_⟩
    repeat first|(with_reducible first|apply Yc|apply Yb|apply Yl)|((with_reducible apply ws);exact rfl;exact rfl)
    have e2 : m.flexible ver = decide (m.flex ≤ ver) := by simp [Msg.flexible, h0]
    refine Yk rfl rfl ⟨_, rfl, hw2.trans (hw3.mono (by omega)), ?_⟩
    rw [write, e2]
    exact ho.mono (by omega)
  · have e1 : decide (0 ≤ m.flex) = false := by simpa using h0
    rw [e1]
    repeat first|((with_reducible apply ws);exact rfl;exact rfl)|((with_reducible apply UP);exact rfl;exact rfl;exact rfl;exact rfl)
    refine YE (cs := [.int .i64 t.n, sv, .bool t.nul, lv, uv]) rfl ta_tree rfl hb2 ?_
    refine Yt rfl (by kernel_rfl) rfl ((hcall false (by simp [Msg.flexible, h0])).mono ?_)
    rintro e w3 ⟨v, rfl, hw3, ho⟩
    refine ⟨v, rfl, ?_⟩
    repeat first|(with_reducible first|apply Yc|apply Yb|apply Yl)|((with_reducible apply ws);exact rfl;exact rfl)
    have e2 : m.flexible ver = false := by simp [Msg.flexible, h0]
    refine Yk rfl rfl ⟨_, rfl, hw2.trans (hw3.mono (by omega)), ?_⟩
    rw [write, e2]
    exact ho.mono (by omega)
end
end Go.Proofs.YtjfgalpjjnncaaaGreatDoor

namespace Go.Proofs.YtjfgalpjjnncaaaGreatDoor
open Go Go.RowKit
theorem fill_many (sz : Nat) : ∀ (css : List (List Value)) (k : Nat) (pre post : List Value), pre.length = k * sz → (∀ cs ∈ css, cs.length = sz) → post.length = css.length * sz →
    Instr.fill (fun i => some (i * sz, sz)) (pre ++ post).toArray ((css.zipIdx k).map fun p => (p.2, Value.agg p.1.toArray)) = some (pre ++ css.flatten).toArray
  | [], k, pre, post, _, _, hl => by
    have : post = [] := List.length_eq_zero_iff.1 (by simpa using hl)
    subst this; simp [Instr.fill]
  | cs :: css, k, pre, post, hp, hc, hl => by
    have hcs := hc cs (by simp)
    simp only [List.length_cons, Nat.succ_mul] at hl
    obtain ⟨a, b, rfl, ha⟩ : ∃ a b, post = a ++ b ∧ a.length = sz := ⟨post.take sz, post.drop sz, (List.take_append_drop _ _).symm, by rw [List.length_take]; omega⟩
    have hb : b.length = css.length * sz := by rw [List.length_append] at hl; omega
    simp only [List.zipIdx_cons, List.map_cons, Instr.fill]
    have h1 : ¬ ((Value.agg cs.toArray).cells.size ≠ sz) := by simp [Value.cells, hcs]
    have h2 : ¬ (k * sz + (Value.agg cs.toArray).cells.size > (pre ++ (a ++ b)).toArray.size) := by simp [Value.cells, hcs, hp, ha]
    simp only [h1, h2, decide_false, Bool.or_false, Bool.false_eq_true, if_false]
    have hf := Yf1 (k * sz) cs 0 pre a (by simpa using hp) (by rw [ha, hcs])
    have hf2 : ((Value.agg cs.toArray).cells.zipIdx.foldl (fun cs p => cs.setIfInBounds (k * sz + p.2) p.1) (pre ++ (a ++ b)).toArray) = (pre ++ cs ++ b).toArray := by
      have hz : cs.toArray.zipIdx = (cs.zipIdx).toArray := by apply Array.ext'; simp
      simp only [Value.cells]
      rw [hz]
      simp only [List.foldl_toArray]
      have gen : ∀ (l : List Value) (j : Nat) (p q r : List Value), p.length = k * sz + j → q.length = l.length →
          (l.zipIdx j).foldl (fun cs p => cs.setIfInBounds (k * sz + p.2) p.1) (p ++ (q ++ r)).toArray = (p ++ (l ++ r)).toArray := by
        intro l
        induction l with
        | nil => intro j p q r _ hq; have : q = [] := List.length_eq_zero_iff.1 (by simpa using hq); subst this; rfl
        | cons v l ih =>
          intro j p q r hp hq
          cases q with
          | nil => cases hq
          | cons x q =>
            simp only [List.zipIdx_cons, List.foldl_cons]
            have hset : (p ++ (x :: q ++ r)).toArray.setIfInBounds (k * sz + j) v = ((p ++ [v]) ++ (q ++ r)).toArray := by
              rw [List.setIfInBounds_toArray, ← hp]; simp
            rw [hset, ih (j + 1) (p ++ [v]) q r (by simp [hp]; omega) (by simpa using hq)]
            simp
      have := gen cs 0 pre a b (by simpa using hp) (by rw [ha, hcs])
      simpa [List.append_assoc] using this
    rw [hf2]
    have ih := fill_many sz css (k + 1) (pre ++ cs) b (by simp [hp, hcs, Nat.succ_mul]) (fun c h => hc c (by simp [h])) hb
    rw [ih]
    simp
section
variable {P : Program} {ops : Array Oper} {Q : Exit → Act → World → Prop} {N : Nat} {rest : List Oper} {L : Sl} {w : World} {d : Nat} {ty : TypeId} {pos : String} {aft : Array Edge}
theorem wl_sliceN {t e sz n : Nat} {ps : List (Nat × Operand)} {vs : List Value} (css : List (List Value)) (hT : Um P t e sz = true) (hps : evp L 0 ps = some vs) (hvs : vs = css.map fun cs => Value.agg cs.toArray) (hlen : ∀ cs ∈ css, cs.length = sz) (hn : n = css.length) (hsz : (Nat.blt 0 sz && Nat.ble (n * sz) 16777216 && Nat.blt 0 n) = true) (hd : Nat.blt d N = true)
    (h : ∀ w', Box w' w.heap.size css.flatten e → w.grownBy w' none → w'.heap.size = w.heap.size + 1 → WL rest P ops Q N ((d, .slice (some ⟨w.heap.size, 0, none⟩) n n) :: L) w') :
    WL (⟨some d, .buildSlice t n ps.toArray, ty, pos, aft, none⟩ :: rest) P ops Q N L w := by
  intro a k
  obtain ⟨hu, i, z, hi, hs1, hb1, hz, hzc⟩ := Up hT
  simp only [Bool.and_eq_true] at hsz
  have hsz1 : 0 < sz := Nat.le_of_ble_eq_true hsz.1.1
  have hsz2 := Nat.le_of_ble_eq_true hsz.1.2
  have hn0 : 0 < n := Nat.le_of_ble_eq_true hsz.2
  refine Xa (o := ⟨some d, .buildSlice t n ps.toArray, ty, pos, aft, none⟩) (v := .slice (some ⟨w.heap.size, 0, none⟩) n n) (w' := w.alloc (.cells css.flatten.toArray e)) rfl ?_ (h _ (XN w _ e) (Xt w _) (by simp) _ (k.put _ hd))
  have hparts := Ye6 k ps 0 _ hps
  have hm : (ps.toArray.map fun x => (x.1, a.eval x.2)).toList = (css.zipIdx 0).map fun p => (p.2, Value.agg p.1.toArray) := by
    rw [hvs] at hparts
    have e1 : (ps.toArray.map fun x => (x.1, a.eval x.2)).toList = ps.map fun p => (p.1, a.eval p.2) := by simp
    rw [e1, hparts]
    rw [List.zipIdx_map, List.map_map]
    rfl
  have hfill := fill_many sz css 0 [] ((List.range (n * sz)).map (z.cells[· % z.cells.size]!)) (by simp) hlen (by simp [hn])
  simp only [List.nil_append] at hfill
  have hmul : 0 < n * sz := Nat.mul_pos hn0 hsz1
  simp only [execOp, Instr.buildSlice]
  simp only [Sem.run_bind, run_underlying hu, Result.andThen_ok, sizeOf, typeInfo, run_program, hi, Sem.run_pure, hs1]
  rw [show ((2 : Nat) ^ 24) = 16777216 from rfl, if_neg (by omega), if_neg (by omega)]
  simp only [zeroValue, typeInfo, Sem.run_bind, run_program, Result.andThen_ok, hi, Sem.run_pure, hz]
  rw [hm, ← List.toArray_range, List.map_toArray, hfill]
  simp [newRow]
end
end Go.Proofs.YtjfgalpjjnncaaaGreatDoor

namespace Go.Proofs.YtjfgalpjjnncaaaGreatDoor.Rdk
open Go Go.RowKit
set_option maxRecDepth 100000
def TInv (st : Option (List UInt8)) (j : Nat) (u : List (Nat × List UInt8)) (st' : Option (List UInt8)) : Prop := match st with
  | none => st' = none
  | some s => match st' with
    | some s' => tagsP s = tagsR j u s'
    | none => tagsP s = none
theorem tinv_start {st st1 : Option (List UInt8)} {n : Nat} (h : UvRel st n st1) : TInv st n [] st1 := by
  have h2 := h.2
  cases st with
  | none => exact h2
  | some s =>
    simp only [TInv, tagsP] at h2 ⊢
    cases hx : XK s with
    | none => rw [hx] at h2; simp only [] at h2; subst h2; rfl
    | some x => rw [hx] at h2; obtain ⟨rfl, rfl⟩ := h2; rfl
theorem tinv_step {st s1 s2 s3 s4 : Option (List UInt8)} {j k l : Nat} {u : List (Nat × List UInt8)} {bs : List UInt8} (h : TInv st (j + 1) u s1) (h1 : UvRel s1 k s2) (h2 : UvRel s2 l s3) (h3 : JG l s3 bs s4) : TInv st j (Vv k bs u) s4 := by
  have e1 := h1.2
  have e2 := h2.2
  cases st with
  | none =>
    simp only [TInv] at h ⊢
    subst h
    simp only [] at e1
    subst e1
    simp only [] at e2
    subst e2
    exact h3
  | some s =>
    cases s1 with
    | none =>
      simp only [TInv] at h
      simp only [] at e1
      subst e1
      simp only [] at e2
      subst e2
      have h4 : s4 = none := h3
      subst h4
      exact h
    | some t1 =>
      simp only [TInv, tagsR] at h
      simp only [] at e1
      cases hx : XK t1 with
      | none =>
        rw [hx] at h e1
        simp only [] at e1
        subst e1
        simp only [] at e2
        subst e2
        have h4 : s4 = none := h3
        subst h4
        exact h
      | some x =>
        rw [hx] at h e1
        obtain ⟨rfl, rfl⟩ := e1
        simp only [Option.bind_some] at h e2
        cases hy : XK x.2 with
        | none =>
          rw [hy] at h e2
          simp only [] at e2
          subst e2
          have h4 : s4 = none := h3
          subst h4
          exact h
        | some y =>
          rw [hy] at h e2
          obtain ⟨rfl, rfl⟩ := e2
          simp only [Option.bind_some] at h
          simp only [JG, UW] at h3
          rw [if_neg (by omega), Int.toNat_natCast] at h3
          cases hz : Yf4 y.1 y.2 with
          | none => rw [hz] at h h3; simp only [] at h3; subst h3; exact h
          | some z => rw [hz] at h h3; obtain ⟨rfl, rfl⟩ := h3; exact h
theorem tinv_end {st st' : Option (List UInt8)} {u : List (Nat × List UInt8)} (h : TInv st 0 u st') : Yg1 st u st' := by
  unfold Yg1
  cases st with
  | none => exact h
  | some s =>
    cases st' with
    | none => simp only [TInv] at h; simp only [h]
    | some s' => simp only [TInv, tagsR] at h; simp only [h, and_self]
theorem chg_cut {w w' : World} {rb : Nat} (h : Chg (fun j => j = rb ∨ w.heap.size ≤ j) w w') : Chg (· = rb) w w' := ⟨h.os, h.tape, h.output, h.size, fun k hk hn => h.block k hk (by rintro (e | e); exact hn e; omega)⟩
theorem fn_tags (w : World) (rb sb lo : Nat) (st : Option (List UInt8)) (hr : Rdr w rb sb st) (h1 : rb < lo) (h2 : sb < lo) (h3 : lo ≤ w.heap.size) (h4 : rb ≠ sb) :
    Calls Tryz.prog 142 #[.pointer (some ⟨rb, 0, none⟩)] w fun e w' => ∃ m u st', e = .returned (.agg #[m]) ∧ Chg (· = rb) w w' ∧ Rdr w' rb sb st' ∧ m.oneCell' = true ∧ Rep (Dk sb lo w') w' (Va u) [m] ∧ Yg1 st u st' := by
  refine enter Tryz.func142 rfl Tryz.ntmps142 rfl ?_
  refine Yd (Ya (YT zv_tags rfl rfl (fun w1 hb1 hg1 hs1 => Yc (Yb ?_))))
  refine Yd (Ya (YT zv_tags rfl rfl (fun w2 hb2 hg2 hs2 => Yc (Yb ?_))))
  have c1 : Chg (fun _ => False) w w1 := Chg.grown0 hg1
  have c2 : Chg (fun _ => False) w1 w2 := Chg.grown0 hg2
  have hb1' := hb1.chg c2 id
  have hr2 := (hr.chg c1 id id).chg c2 id id
  obtain ⟨B, hB⟩ : ∃ B, B = w.heap.size := ⟨_, rfl⟩
  rw [← hB] at hs1 hb1' h3
  rw [hs1] at hb2
  rw [hs1] at hs2
  refine Yd (Yd (Ya ?_))
  refine wt rfl rfl ?_
  refine Yt rfl (by kernel_rfl) rfl ((fn_ruv w2 rb sb st hr2 h4).mono ?_)
  rintro en w3 ⟨n, st1, rfl, hc3, hr3, hrel⟩
  refine ⟨_, rfl, ?_⟩
  refine wt rfl rfl ?_
  refine Yc (Yb ?_)
  have hrb1 : ¬ (fun j => j = rb) B := fun e => by have : B = rb := e; omega
  have hrb2 : ¬ (fun j => j = rb) (B + 1) := fun e => by have : B + 1 = rb := e; omega
  have hs3 := hc3.size
  have c03 : Chg (fun j => j = rb ∨ B ≤ j) w w3 := ((c1.trans c2).wide (fun _ h => h.elim)).trans (hc3.wide (fun j hj => .inl hj))
  refine Yr (Xr (α := Nat) (fun j => [(0, .pointer (some ⟨rb, 0, none⟩)), (2, .pointer (some ⟨B, 0, none⟩)), (3, .pointer (some ⟨B + 1, 0, none⟩)), (4, .int .u32 (j : Int))])
    (fun j w' => ∃ st' u m, j < 4294967296 ∧ Chg (fun j => j = rb ∨ B ≤ j) w w' ∧ Rdr w' rb sb st' ∧ Box w' B [.map none] 88 ∧ Box w' (B + 1) [m] 88 ∧ Yg3 w' sb (B + 2) m u ∧ TInv st j u st') (fun j => j) n
    ⟨rfl, by subst hB; rfl, by rw [← hs1]; rfl, rfl, trivial⟩ ⟨st1, [], .map none, hrel.1, c03, hr3, hb1'.chg hc3 hrb1, hb2.chg hc3 hrb2, .inl ⟨rfl, rfl⟩, tinv_start hrel⟩ ?_)
  rintro j w4 ⟨s1, u, m, hj, hc4, hr4, hbA, hbB, htm, hinv⟩
  have hs4 := hc4.size
  have nrb : ∀ r, B + 2 ≤ r → r < w4.heap.size → ¬ (fun j => j = rb) r := fun r h _ e => by have : r = rb := e; omega
  cases j with
  | zero =>
    refine Yd (Yd (Ya ?_))
    refine wt rfl rfl ?_
    refine wt rfl rfl ?_
    refine Yc (Yb (Yu rfl (by simp) (Xc (Yx (Yp (Yy (Yb ?_)))))))
    refine Yd (Ya ?_)
    refine YE (cs := [m]) rfl ta_tags rfl hbB ?_
    refine Yv (vs := [m]) rfl rfl rfl tz_tags (by
      rcases htm with ⟨rfl, _⟩ | ⟨r, rfl, _⟩ <;> rfl) hbA rfl (fun w5 hb5 hg5 hs5 => ?_)
    refine Yc (Yb (Yl (Vr (cs := [m]) rfl rfl ta_tags hb5 ?_)))
    have hc5 : Chg (· = B) w4 w5 := Chg.grown hg5
    have n5 : ∀ x : Nat, x < B ∨ B < x → ¬ (fun j => j = B) x := fun x h e => by have : x = B := e; omega
    have htm5 := htm.keep hc5 (fun r h _ => n5 r (by omega)) (n5 sb (by omega)) (by omega)
    refine ⟨m, u, s1, rfl, chg_cut (by rw [← hB]; exact hc4.trans (hc5.wide (fun j hj => .inr (by have : j = B := hj; omega)))), hr4.chg hc5 (n5 rb (by omega)) (n5 sb (by omega)), ?_, ?_, tinv_end hinv⟩
    · rcases htm with ⟨rfl, _⟩ | ⟨r, rfl, _⟩ <;> rfl
    · rcases htm5 with ⟨rfl, rfl⟩ | ⟨r, rfl, hlo, ht⟩
      · exact .inl ⟨rfl, rfl⟩
      · exact ht.rep (by omega) (by have := hc5.size; omega)
  | succ j =>
    refine Yd (Yd (Ya ?_))
    refine wt rfl rfl ?_
    refine wt rfl rfl ?_
    refine Yc (Yb (Yq rfl (by simp) (Yj (Yb ?_))))
    refine Yd (Yr (Yd (Ya ?_)))
    refine wt rfl rfl ?_
    refine Yt rfl (by kernel_rfl) rfl ((fn_ruv w4 rb sb s1 hr4 h4).mono ?_)
    rintro en w5 ⟨key, s2, rfl, hc5, hr5, hrel5⟩
    refine ⟨_, rfl, ?_⟩
    refine wt rfl rfl ?_
    refine Yt rfl (by kernel_rfl) rfl ((fn_ruv w5 rb sb s2 hr5 h4).mono ?_)
    rintro en w6 ⟨len, s3, rfl, hc6, hr6, hrel6⟩
    refine ⟨_, rfl, ?_⟩
    refine wt rfl rfl ?_
    refine wt rfl rfl ?_
    refine Yc (Yb (Ya ?_))
    refine wt rfl rfl ?_
    refine wt rfl rfl ?_
    refine wt rfl rfl ?_
    have hlen := hrel6.1
    refine YZ .i64 (r := (len : Int)) rfl (by kernel_rfl) (by kernel_rfl) rfl (by rw [IntKind.wrap_i64]; omega) ?_
    refine Yt rfl (by kernel_rfl) rfl ((fn_span w6 rb sb s3 (len : Int) hr6 h4).mono ?_)
    rintro en w7 ⟨v, bs, s4, rfl, hc7, hr7, hsv, _, hspan⟩
    refine ⟨_, rfl, ?_⟩
    have c47 : Chg (· = rb) w4 w7 := hc5.trans (hc6.trans hc7)
    have hs7 := c47.size
    have nB : ∀ x : Nat, B ≤ x → ¬ (fun j => j = rb) x := fun x h e => by have : x = rb := e; omega
    have hb7 := hbB.chg c47 (nB _ (by omega))
    have ht7 := htm.keep c47 nrb (fun e => h4 e.symm) (by omega)
    have hlt : B + 1 < w7.heap.size := hb7.lt
    refine Yt rfl (by kernel_rfl) rfl ((fn_set w7 (B + 1) sb (B + 2) key v m u _ bs hb7 ht7 hsv (by omega) (by omega) (by omega) (by omega)).mono ?_)
    rintro en w8 ⟨rfl, m', hb8, ht8, hc8⟩
    refine ⟨_, rfl, ?_⟩
    refine Yc (XO (Yb (Ya ?_)))
    refine wt rfl rfl ?_
    refine Jg (r := (j : Int)) rfl rfl rfl (by rw [IntKind.wrap_u32]; omega) ?_
    refine wt rfl rfl ?_
    have n8 : ∀ x : Nat, x < B + 1 → ¬ (fun j => j = B + 1 ∨ B + 2 ≤ j) x := fun x h e => by have : x = B + 1 ∨ B + 2 ≤ x := e; omega
    refine Yc (YF j ⟨rfl, rfl, rfl, rfl, trivial⟩ ⟨s4, Vv key bs u, m', by omega, ?_, hr7.chg hc8 (n8 rb (by omega)) (n8 sb (by omega)), (hbA.chg c47 (nB B (by omega))).chg hc8 (n8 B (by omega)), hb8, ht8, tinv_step hinv hrel5 hrel6 hspan⟩ (by omega))
    exact hc4.trans ((c47.wide (fun j hj => .inl hj)).trans (hc8.wide (fun j hj => .inr (by have : j = B + 1 ∨ B + 2 ≤ j := hj; omega))))
end Go.Proofs.YtjfgalpjjnncaaaGreatDoor.Rdk

namespace Go.Proofs.YtjfgalpjjnncaaaGreatDoor.Rdk
open Go Go.RowKit
set_option maxRecDepth 100000
end Go.Proofs.YtjfgalpjjnncaaaGreatDoor.Rdk

namespace Go.Proofs.YtjfgalpjjnncaaaGreatDoor.Rdk
open Go Go.RowKit
theorem allRd_nil {P : Program} : ∀ x ∈ ([] : List (Nat × Rp)), RdC P x.1 x.2 := fun x h => by cases h
theorem Ju {P : Program} {f : Nat} {p : Rp} {l : List (Nat × Rp)} (h : RdC P f p) (hl : ∀ x ∈ l, RdC P x.1 x.2) : ∀ x ∈ (f, p) :: l, RdC P x.1 x.2 := fun x hx => by
  rcases List.mem_cons.1 hx with rfl | hm
  · exact h
  · exact hl x hm
theorem allLen_nil {P : Program} : ∀ x ∈ ([] : List (Nat × Bool)), LenC P x.1 x.2 := fun x h => by cases h
theorem Yk8 {P : Program} {f : Nat} {p : Bool} {l : List (Nat × Bool)} (h : LenC P f p) (hl : ∀ x ∈ l, LenC P x.1 x.2) : ∀ x ∈ (f, p) :: l, LenC P x.1 x.2 := fun x hx => by
  rcases List.mem_cons.1 hx with rfl | hm
  · exact h
  · exact hl x hm
theorem rpOf_mem : ∀ {l : List (Nat × Rp)} {f : Nat} {p : Rp}, rpOf l f = some p → (f, p) ∈ l
  | [], _, _, h => by cases h
  | x :: l, f, p, h => by
    simp only [rpOf] at h
    cases hb : Nat.beq x.1 f with
    | true =>
      rw [hb] at h
      simp only [cond_true, Option.some.injEq] at h
      rw [← Ye hb, ← h]
      exact List.mem_cons_self
    | false => rw [hb] at h; exact List.mem_cons_of_mem _ (rpOf_mem h)
theorem lcOf_mem : ∀ {l : List (Nat × Bool)} {f : Nat} {p : Bool}, lcOf l f = some p → (f, p) ∈ l
  | [], _, _, h => by cases h
  | x :: l, f, p, h => by
    simp only [lcOf] at h
    cases hb : Nat.beq x.1 f with
    | true =>
      rw [hb] at h
      simp only [cond_true, Option.some.injEq] at h
      rw [← Ye hb, ← h]
      exact List.mem_cons_self
    | false => rw [hb] at h; exact List.mem_cons_of_mem _ (lcOf_mem h)
def krFns : List (Nat × Rp) :=
  (148, .i16) ::
  (132, .i32) ::
  (141, .str) ::
  (140, .cstr) ::
  []
def krLens : List (Nat × Bool) :=
  (134, false) ::
  (133, true) ::
  []
theorem krFns_ok : ∀ x ∈ krFns, RdC Tryz.prog x.1 x.2 :=
  Ju rd_Int16 <|
  Ju rd_Int32 <|
  Ju rd_String <|
  Ju rd_CompactString <|
  allRd_nil
theorem krLens_ok : ∀ x ∈ krLens, LenC Tryz.prog x.1 x.2 :=
  Yk8 len_ArrayLen <|
  Yk8 len_CompactArrayLen <|
  allLen_nil
def kr : Kr where
  fns := krFns
  lens := krLens
  ok := 135
  comp := 136
  tags := 142
  rty := 165
theorem kr_ok (ev : Value) : KrOk Tryz.prog kr 1 ev where
  rd := fun f p h _ => krFns_ok _ (rpOf_mem h)
  len := fun f c h _ => krLens_ok _ (lcOf_mem h)
  tags := fun _ w rb sb lo st hr h1 h2 h3 h4 => fn_tags w rb sb lo st hr h1 h2 h3 h4
  ok := fun _ w rb sb st hr => fn_ok w rb sb st hr
  comp := fun _ w rb sb st hr hg => fn_complete w rb sb st ev hr hg
theorem kr_ty : KrTy Tryz.prog kr where
  built := fun a n c => by kernel_rfl
  zero := fun w => by kernel_rfl
  size := by kernel_rfl
end Go.Proofs.YtjfgalpjjnncaaaGreatDoor.Rdk

namespace Go.Proofs.YtjfgalpjjnncaaaGreatDoor
open Go Go.RowKit
def fldCells (f : Fld) : List Value := [.int .i64 f.kind, .int .i64 f.fr, .int .i64 f.upto, .int .i64 f.nul, .int .i64 f.tag, .int .i64 f.df, .int .i64 f.of, .slice none 0 0]
theorem rep_fld0 (ok : Nat → Prop) (w : World) : ∀ (f : Fld), f.sub.isEmpty = true → Rep ok w (fldD f) (fldCells f)
  | .mk a b c d e f g sub, h => by
    have : sub = [] := by cases sub with | nil => rfl | cons _ _ => simp [Fld.sub] at h
    subst this
    simp only [fldD, fldDs, Rep, YH]
    exact ⟨[_], _, rfl, rfl, [_], _, rfl, rfl, [_], _, rfl, rfl, [_], _, rfl, rfl, [_], _, rfl, rfl, [_], _, rfl, rfl, [_], _, rfl, rfl, [_], _, rfl, ⟨none, 0, rfl, by simp, .inl (by simp)⟩, rfl⟩
def Frs (lo hi : Nat) : Nat → Prop := fun b => lo ≤ b ∧ b < hi
theorem rep_fr {lo : Nat} {w w' : World} {d : D} {cs : List Value} {lo' : Nat} (h : Rep (Frs lo w.heap.size) w d cs) (hb : Below w.heap.size w w') (hl : lo' ≤ lo) : Rep (Frs lo' w'.heap.size) w' d cs :=
  Rep.mono (fun b k => ⟨⟨Nat.le_trans hl k.1, Nat.lt_of_lt_of_le k.2 hb.size⟩, hb.block b k.2⟩) _ _ h
theorem rep_frw {lo lo' hi : Nat} {w : World} {d : D} {cs : List Value} (h : Rep (Frs lo hi) w d cs) (hl : lo' ≤ lo) : Rep (Frs lo' hi) w d cs :=
  Rep.mono (fun _ k => ⟨⟨Nat.le_trans hl k.1, k.2⟩, rfl⟩) _ _ h
theorem rep_sqshape {ok : Nat → Prop} {w : World} {v : Value} {ds : List D} (h : Rep ok w (.sq ds) [v]) : ∃ a c, v = .slice a ds.length c := by
  simp only [Rep] at h
  obtain ⟨a, c, e, _⟩ := h
  exact ⟨a, c, by simpa using e⟩
theorem reps_fnil {ok : Nat → Prop} {w : World} : YH ok w (([] : List Fld).map fldD) ([] : List (List Value)).flatten := by simp [YH]
theorem Jv {ok : Nat → Prop} {w : World} {f : Fld} {fs : List Fld} {c : List Value} {cs : List (List Value)} (h : Rep ok w (fldD f) c) (hl : YH ok w (fs.map fldD) cs.flatten) : YH ok w ((f :: fs).map fldD) (c :: cs).flatten := by
  simp only [List.map_cons, List.flatten_cons, YH]
  exact ⟨_, _, rfl, h, hl⟩
theorem rep_fldS {ok : Nat → Prop} {w : World} {a b c d e f g : Int} {sub : List Fld} {v : Value} (h : Rep ok w (.sq (sub.map fldD)) [v]) : Rep ok w (fldD (.mk a b c d e f g sub)) [.int .i64 a, .int .i64 b, .int .i64 c, .int .i64 d, .int .i64 e, .int .i64 f, .int .i64 g, v] := by
  have h2 : Rep ok w (.sq (fldDs sub)) [v] := by rw [fldDs_map]; exact h
  simp only [fldD, Rep, YH] at h2 ⊢
  exact ⟨[_], _, rfl, rfl, [_], _, rfl, rfl, [_], _, rfl, rfl, [_], _, rfl, rfl, [_], _, rfl, rfl, [_], _, rfl, rfl, [_], _, rfl, rfl, [_], _, rfl, h2, rfl⟩
section
variable {P : Program} {ops : Array Oper} {Q : Exit → Act → World → Prop} {N : Nat} {rest : List Oper} {L : Sl} {w : World} {d : Nat} {ty : TypeId} {pos : String} {aft : Array Edge}
theorem wl_ifNeNil {x : Operand} {t u : TypeId} (hx : ev L x = some .nilIface) (ht : (match P.underlying t with | some (.interface _) => true | _ => false) = true) (hd : Nat.blt d N = true) (h : WL rest P ops Q N ((d, .bool false) :: L) w) :
    WL (⟨some d, .binOp .neq t x (.const .nilIface) u, ty, pos, aft, none⟩ :: rest) P ops Q N L w := by
  intro a k
  split at ht
  · rename_i ms hu
    refine Xa (o := ⟨some d, .binOp .neq t x (.const .nilIface) u, ty, pos, aft, none⟩) (v := .bool false) (w' := w) rfl ?_ (h _ (k.put _ hd))
    simp only [execOp, k.eval hx, XG]
    have h : ∀ d : Nat, (Op.equalIn (d + 1) t .nilIface .nilIface).run P w = .ok true w := fun d => by
      simp [Op.equalIn, run_underlying hu]
    simp only [eqGuard, binOp]
    simp [Op.equal, Op.maxDepth, h 9999]
  · cases ht
end
theorem own_src {w : World} {B u8 x0 : Nat} {d : Value} {s : List UInt8} (h : Own w B u8 d s) (hl : s.length ≤ srcLim) (hx : x0 < w.heap.size) : ∃ sb, sb < w.heap.size ∧ (sb = x0 ∨ B ≤ sb) ∧ SrcAt w sb d s := by
  obtain ⟨hxl, ⟨rfl, h0⟩ | ⟨g, cap, cur, rfl, hBg, hheap, hle, hcap, hcs, htake⟩⟩ := id h
  · exact ⟨x0, hx, .inl rfl, hl, .inl ⟨rfl, List.length_eq_zero_iff.1 h0⟩⟩
  · refine ⟨g, (Array.getElem?_eq_some_iff.1 hheap).1, .inr hBg, hl, .inr ⟨0, cap, rfl, hle, cur, _, _, hheap, ?_, ?_⟩⟩
    · rw [Xl]; omega
    · intro i v hv
      rw [Nat.zero_add]
      rw [← htake, List.getElem?_take] at hv
      split at hv
      · simpa using hv
      · cases hv
theorem chg_below {S : Nat → Prop} {B : Nat} {w w' : World} (h : Chg S w w') (hS : ∀ j, j < B → ¬ S j) (hB : B ≤ w.heap.size) : Below B w w' := ⟨h.os, h.tape, h.output, h.size, fun k hk => h.block k (by omega) (hS k hk)⟩
theorem be2_ver (n : Nat) (h : n < 32768) : IntKind.i16.wrap (n : Int) = (n : Int) := by
  simp only [IntKind.wrap, IntKind.bits, IntKind.signed]
  simp
  omega
end Go.Proofs.YtjfgalpjjnncaaaGreatDoor

namespace Go.Proofs.YtjfgalpjjnncaaaGreatDoor
open Go Go.RowKit
def ToOK (ver : Int) (flex : Bool) (fs : List Fld) : Prop := ∀ (t g : Tree) (B : Nat) (w : World) (fv : Value) (ts gs : List Value), t.ok → B ≤ w.heap.size → Sq B w fv (fs.map fldD) → Rep (Lo B) w (treeD t) ts → Rep (Lo B) w (treeD g) gs → ToP ver flex fs t g →
  Fn 16 [fv, .int .i64 ver, .bool flex, .agg ts.toArray, .agg gs.toArray] w fun v _ => v = .bool true
def ToFOK (ver : Int) (flex : Bool) (f : Fld) : Prop := ∀ (t g : Tree) (B : Nat) (w : World) (cs ts gs : List Value), t.ok → B ≤ w.heap.size → Rep (Lo B) w (fldD f) cs → Rep (Lo B) w (treeD t) ts → Rep (Lo B) w (treeD g) gs → ToF ver flex f t g →
  Fn 49 [.agg cs.toArray, .int .i64 ver, .bool flex, .agg ts.toArray, .agg gs.toArray] w fun v _ => v = .bool true
def oneF : Fld → Fld
  | .mk _ fr upto _ _ df of sub => .mk of fr upto (-1) (-1) df of sub
theorem toF_eq (ver : Int) (flex : Bool) (f : Fld) (hof : f.of ≠ 11) (t g : Tree) : ToF ver flex f t g ↔
    ((f.kind = 8 ∨ f.kind = 10 ∨ (0 ≤ f.nul ∧ f.nul ≤ ver)) → g.nul = f.null ver t) ∧
    (f.null ver t = false →
      if f.kind = 10 then ToP ver flex f.sub t g
      else if f.kind = 11 then g.l.length = (YN t.l).length ∧ ∀ (i : Nat) (x y : Tree), (YN t.l)[i]? = some x → g.l[i]? = some y → ToF ver flex (oneF f) x y
      else ToV f.kind t g) := by
  cases f with
  | mk kind fr upto nul tag df of sub =>
  rw [ToF_mk]
  show _ ∧ _ ↔ ((kind = 8 ∨ kind = 10 ∨ (0 ≤ nul ∧ nul ≤ ver)) → g.nul = (t.nul && decide (0 ≤ nul) && decide (nul ≤ ver))) ∧ ((t.nul && decide (0 ≤ nul) && decide (nul ≤ ver)) = false →
      if kind = 10 then ToP ver flex sub t g
      else if kind = 11 then g.l.length = (YN t.l).length ∧ ∀ (i : Nat) (x y : Tree), (YN t.l)[i]? = some x → g.l[i]? = some y → ToF ver flex (oneF (.mk kind fr upto nul tag df of sub)) x y
      else ToV kind t g)
  have hof : of ≠ 11 := hof
  have key : ∀ x y : Tree, ToF ver flex (oneF (.mk kind fr upto nul tag df of sub)) x y ↔ ((of = 8 ∨ of = 10) → y.nul = false) ∧ (if of = 10 then ToP ver flex sub x y else ToV of x y) := by
    intro x y
    show ToF ver flex (.mk of fr upto (-1) (-1) df of sub) x y ↔ _
    rw [ToF_mk]
    have e : (x.nul && decide ((0 : Int) ≤ -1) && decide ((-1 : Int) ≤ ver)) = false := by simp
    rw [e]
    simp only [hof, if_false, forall_const]
    constructor
    · rintro ⟨h1, h2⟩
      exact ⟨fun h => h1 (h.imp (fun h => h) (fun h => .inl h)), h2⟩
    · rintro ⟨h1, h2⟩
      refine ⟨fun h => h1 ?_, h2⟩
      rcases h with h | h | h
      · exact .inl h
      · exact .inr h
      · omega
  simp only [key]
section
set_option maxRecDepth 100000
set_option maxHeartbeats 8000000 in
theorem told_walk (ver : Int) (flex : Bool) (f : Fld) (hof : f.of ≠ 11) (hsub : ToOK ver flex f.sub) (hone : f.kind = 11 → ToFOK ver flex (oneF f)) : ToFOK ver flex f := by
  intro t g B w cs ts gs hok hB hf ht hg hto
  obtain ⟨sv, rfl, hfs⟩ := Vc hf
  obtain ⟨sv2, lv, uv, rfl, hs, hl, huu⟩ := Xh ht
  obtain ⟨la, lc, rfl, _⟩ := hl.shape
  obtain ⟨sa, sc, rfl, _⟩ := hs.shape
  obtain ⟨gsv, glv, guv, rfl, hgs, hgl, hgu⟩ := Xh hg
  obtain ⟨gla, glc, rfl, _⟩ := hgl.shape
  obtain ⟨ga, gc, rfl, _⟩ := hgs.shape
  rw [toF_eq _ _ _ hof] at hto
  obtain ⟨hto1, hto2⟩ := hto
  simp only [List.length_map] at *
  refine enter Tryz.func49 rfl Tryz.ntmps49 rfl ?_
  repeat (with_reducible first|apply Yd|apply Ya)
  refine XA rfl rfl rfl (fun w1 hb1 hg1 hs1 => XA rfl rfl rfl (fun w2 hb2 hg2 hs2 => XA rfl rfl rfl (fun w3 hb3 hg3 hs3 => ?_)))
  have hw3 : Below w.heap.size w w3 := ((Yg hg1 (Nat.le_refl _) (by simp)).trans (Yg hg2 (by omega) (by simp))).trans (Yg hg3 (by omega) (by simp))
  have hbF : ∀ w', Below w3.heap.size w3 w' → Box w' w.heap.size [.int .i64 f.kind, .int .i64 f.fr, .int .i64 f.upto, .int .i64 f.nul, .int .i64 f.tag, .int .i64 f.df, .int .i64 f.of, sv] 53 := fun w' h => ((hb1.kept hg2 (by simp)).kept hg3 (by simp)).below h (by omega)
  have hbT : ∀ w', Below w3.heap.size w3 w' → Box w' w1.heap.size [.int .i64 t.n, .slice sa t.s.length sc, .bool t.nul, .slice la t.l.length lc, uv] 26 := fun w' h => (hb2.kept hg3 (by simp)).below h (by omega)
  have hbG : ∀ w', Below w3.heap.size w3 w' → Box w' w2.heap.size [.int .i64 g.n, .slice ga g.s.length gc, .bool g.nul, .slice gla g.l.length glc, guv] 26 := fun w' h => hb3.below h (by omega)
  have hr3 := Below.refl w3.heap.size w3
  repeat first|(with_reducible first|apply Yd|apply Ya|apply Yc|apply Yb)|((with_reducible apply ws);exact rfl;exact rfl)
  refine YE (cs := [.int .i64 f.kind, .int .i64 f.fr, .int .i64 f.upto, .int .i64 f.nul, .int .i64 f.tag, .int .i64 f.df, .int .i64 f.of, sv]) rfl ta_fld rfl (hbF _ hr3) ?_
  repeat ((with_reducible apply ws);exact rfl;exact rfl)
  refine YE (cs := [.int .i64 t.n, .slice sa t.s.length sc, .bool t.nul, .slice la t.l.length lc, uv]) rfl ta_tree rfl (hbT _ hr3) ?_
  refine Yt rfl (by kernel_rfl) rfl ((fn_null f ver t B w3 (by omega) _ _ (Rep.below hf (hw3.mono hB) (Nat.le_refl _)) (Rep.below ht (hw3.mono hB) (Nat.le_refl _))).mono ?_)
  rintro e w4 ⟨v, rfl, hw34, rfl⟩
  refine ⟨_, rfl, ?_⟩
  have hs34 := hw34.size
  have hw4 : Below w.heap.size w w4 := hw3.trans (hw34.mono (by omega))
  obtain ⟨null, hnull⟩ : ∃ null, null = f.null ver t := ⟨_, rfl⟩
  rw [← hnull] at hto1 hto2 ⊢
  refine YW rfl rfl (Yc (Yb ?_))
  refine UH (α := Unit) (fun _ => [(12, .bool (decide (0 ≤ f.nul) && decide (f.nul ≤ ver))), (11, .bool null), (1, .int .i64 ver), (2, .bool flex), (5, .pointer (some ⟨w.heap.size, 0, none⟩)), (8, .pointer (some ⟨w1.heap.size, 0, none⟩)), (9, .pointer (some ⟨w2.heap.size, 0, none⟩))]) (fun _ w' => w' = w4) ?_ ?_
  · repeat first|(with_reducible apply Ya)|((with_reducible apply ws);exact rfl;exact rfl)
    refine Yf rfl to_int rfl (hbF _ hw34) rfl ?_
    repeat ((with_reducible apply ws);exact rfl;exact rfl)
    by_cases hn : 0 ≤ f.nul
    · rw [show decide (0 ≤ f.nul) = true from by simpa using hn]
      repeat first|((with_reducible apply ws);exact rfl;exact rfl)|((with_reducible apply YV);exact rfl;exact rfl;exact rfl)
      refine Yf rfl to_int rfl (hbF _ hw34) rfl ?_
      repeat first|(with_reducible apply Yc)|((with_reducible apply ws);exact rfl;exact rfl)|((with_reducible apply YV);exact rfl;exact rfl;exact rfl)
      exact XB () ⟨by simp [lk, Nat.beq], rfl, rfl, rfl, rfl, rfl, rfl, trivial⟩ rfl
    · rw [show decide (0 ≤ f.nul) = false from by simpa using hn]
      repeat first|(with_reducible apply Yc)|((with_reducible apply ws);exact rfl;exact rfl)|((with_reducible apply UP);exact rfl;exact rfl;exact rfl;exact rfl)
      exact XB () ⟨by simp [lk, Nat.beq], rfl, rfl, rfl, rfl, rfl, rfl, trivial⟩ rfl
  rintro _ w5 hw5
  obtain rfl := hw5.symm
  refine UH (α := Unit) (fun _ => [(11, .bool null), (1, .int .i64 ver), (2, .bool flex), (5, .pointer (some ⟨w.heap.size, 0, none⟩)), (8, .pointer (some ⟨w1.heap.size, 0, none⟩)), (9, .pointer (some ⟨w2.heap.size, 0, none⟩))]) (fun _ w' => w' = w4) ?_ ?_
  · repeat first|(with_reducible first|apply Yd|apply Ya)|((with_reducible apply ws);exact rfl;exact rfl)
    refine Yf rfl to_int rfl (hbF _ hw34) rfl ?_
    repeat ((with_reducible apply ws);exact rfl;exact rfl)
    by_cases h8 : f.kind = 8
    · rw [show (f.kind == 8) = true from by simpa using h8]
      repeat first|((with_reducible apply ws);exact rfl;exact rfl)|((with_reducible apply YV);exact rfl;exact rfl;exact rfl)|((with_reducible apply UP);exact rfl;exact rfl;exact rfl;exact rfl)
      refine Yf rfl to_bool rfl (hbG _ hw34) rfl ?_
      repeat first|((with_reducible apply ws);exact rfl;exact rfl)|((with_reducible apply YV);exact rfl;exact rfl;exact rfl)
      refine wl_neqB rfl rfl un_bool rfl ?_
      rw [hto1 (.inl h8), show (null != null) = false from by simp]
      repeat first|(with_reducible first|apply Yc|apply Yb)|((with_reducible apply ws);exact rfl;exact rfl)
      refine Yu rfl rfl ?_
      repeat (with_reducible apply Yj)
      exact XB () ⟨rfl, rfl, rfl, rfl, rfl, rfl, trivial⟩ rfl
    · rw [show (f.kind == 8) = false from by simpa using h8]
      repeat first|((with_reducible apply ws);exact rfl;exact rfl)|((with_reducible apply YV);exact rfl;exact rfl;exact rfl)
      refine Yf rfl to_int rfl (hbF _ hw34) rfl ?_
      repeat first|((with_reducible apply ws);exact rfl;exact rfl)|((with_reducible apply YV);exact rfl;exact rfl;exact rfl)
      by_cases h10 : f.kind = 10
      · rw [show (f.kind == 10) = true from by simpa using h10]
        repeat first|((with_reducible apply ws);exact rfl;exact rfl)|((with_reducible apply YV);exact rfl;exact rfl;exact rfl)|((with_reducible apply UP);exact rfl;exact rfl;exact rfl;exact rfl)
        refine Yf rfl to_bool rfl (hbG _ hw34) rfl ?_
        repeat first|((with_reducible apply ws);exact rfl;exact rfl)|((with_reducible apply YV);exact rfl;exact rfl;exact rfl)
        refine wl_neqB rfl rfl un_bool rfl ?_
        rw [hto1 (.inr (.inl h10)), show (null != null) = false from by simp]
        repeat first|(with_reducible first|apply Yc|apply Yb)|((with_reducible apply ws);exact rfl;exact rfl)
        refine Yu rfl rfl ?_
        repeat (with_reducible apply Yj)
        exact XB () ⟨rfl, rfl, rfl, rfl, rfl, rfl, trivial⟩ rfl
      · rw [show (f.kind == 10) = false from by simpa using h10]
        repeat first|((with_reducible apply ws);exact rfl;exact rfl)|((with_reducible apply YV);exact rfl;exact rfl;exact rfl)
        by_cases hm : 0 ≤ f.nul ∧ f.nul ≤ ver
        · rw [show (decide (0 ≤ f.nul) && decide (f.nul ≤ ver)) = true from by simpa using hm]
          repeat first|((with_reducible apply ws);exact rfl;exact rfl)|((with_reducible apply YV);exact rfl;exact rfl;exact rfl)
          refine Yf rfl to_bool rfl (hbG _ hw34) rfl ?_
          repeat first|((with_reducible apply ws);exact rfl;exact rfl)|((with_reducible apply YV);exact rfl;exact rfl;exact rfl)
          refine wl_neqB rfl rfl un_bool rfl ?_
          rw [hto1 (.inr (.inr hm)), show (null != null) = false from by simp]
          repeat first|(with_reducible first|apply Yc|apply Yb)|((with_reducible apply ws);exact rfl;exact rfl)
          refine Yu rfl rfl ?_
          repeat (with_reducible apply Yj)
          exact XB () ⟨rfl, rfl, rfl, rfl, rfl, rfl, trivial⟩ rfl
        · rw [show (decide (0 ≤ f.nul) && decide (f.nul ≤ ver)) = false from by simpa using hm]
          repeat first|(with_reducible first|apply Yc|apply Yb)|((with_reducible apply ws);exact rfl;exact rfl)|((with_reducible apply UP);exact rfl;exact rfl;exact rfl;exact rfl)
          refine Yu rfl rfl ?_
          repeat (with_reducible apply Yj)
          exact XB () ⟨rfl, rfl, rfl, rfl, rfl, rfl, trivial⟩ rfl
  rintro _ w6 hw6
  obtain rfl := hw6.symm
  repeat first|(with_reducible first|apply Yd|apply Ya|apply Yc|apply Yb)|((with_reducible apply ws);exact rfl;exact rfl)
  cases hnb : null with
  | true =>
    refine Yq rfl rfl ?_
    repeat first|(with_reducible first|apply Yd|apply Ya|apply Yc|apply Yb|apply Yl|apply Yh)|((with_reducible apply ws);exact rfl;exact rfl)
    exact Yk rfl rfl ⟨_, rfl, hw4, rfl⟩
  | false =>
  have hto3 := hto2 hnb
  refine Yu rfl rfl ?_
  repeat first|(with_reducible first|apply Yd|apply Ya|apply Yb|apply Yj)|((with_reducible apply ws);exact rfl;exact rfl)
  refine Yf rfl to_int rfl (hbF _ hw34) rfl ?_
  repeat first|(with_reducible first|apply Yd|apply Ya|apply Yc|apply Yb|apply Yr)|((with_reducible apply ws);exact rfl;exact rfl)
  have hw4B : Below B w w4 := hw4.mono hB
  by_cases h89 : f.kind = 8 ∨ f.kind = 9
  · have h10 : f.kind ≠ 10 := by omega
    have h11 : f.kind ≠ 11 := by omega
    rw [if_neg h10, if_neg h11] at hto3
    unfold ToV at hto3
    rw [if_pos h89] at hto3
    refine JK (α := Unit) (fun _ => [(50, .bool true), (1, .int .i64 ver), (2, .bool flex), (5, .pointer (some ⟨w.heap.size, 0, none⟩)), (8, .pointer (some ⟨w1.heap.size, 0, none⟩)), (9, .pointer (some ⟨w2.heap.size, 0, none⟩))]) (fun _ w' => w' = w4) ?_ ?_
    · by_cases h8 : f.kind = 8
      · refine Yq rfl (by simpa using h8) ?_
        repeat (with_reducible apply Yj)
        refine XB () ⟨by rw [h8]; rfl, rfl, rfl, rfl, rfl, rfl, trivial⟩ rfl
      · have h9 : f.kind = 9 := by rcases h89 with h | h; exact absurd h h8; exact h
        refine Yu rfl (by simpa using h8) ?_
        repeat first|(with_reducible first|apply Ya|apply Yc)|((with_reducible apply ws);exact rfl;exact rfl)
        refine XB () ⟨by rw [h9]; rfl, rfl, rfl, rfl, rfl, rfl, trivial⟩ rfl
    rintro _ w7 hw7
    obtain rfl := hw7.symm
    refine Yq rfl rfl ?_
    repeat (with_reducible apply Yd)
    refine XH [(0, .pointer (some ⟨w2.heap.size, 0 + 1, none⟩)), (1, .slice ga g.s.length gc), (2, .pointer (some ⟨w1.heap.size, 0 + 1, none⟩)), (3, .slice sa t.s.length sc)] [6, 5, 4]
      (fun vals w' => Below w4.heap.size w4 w' ∧ match vals with
        | [] => True
        | [v] => Sq B w' v ((YX t.s).map byteD)
        | v :: _ => v = .bool true)
      mixed rfl rfl rfl rfl rfl (by show ([0,1,2,3] : List Nat).Nodup; decide) rfl rfl (by decide) rfl rfl rfl rfl ⟨(Below.refl _ w4).drew, trivial⟩ ?_ ⟨?_, ?_, ?_, trivial⟩ ?_
    · intro p hp vals w' hC a k
      have hc34 : Below w3.heap.size w3 w' := hw34.trans (hC.1.mono (by omega))
      simp only [List.mem_cons, List.not_mem_nil, or_false] at hp
      rcases hp with rfl | rfl | rfl | rfl
      · exact gv rfl rfl (Yi k rfl fo_tree1)
      · exact gv rfl rfl (YB k rfl to_bytes ((hbG _ hc34).cell0 (i := 1) rfl))
      · exact gv rfl rfl (Yi k rfl fo_tree1)
      · exact gv rfl rfl (YB k rfl to_bytes ((hbT _ hc34).cell0 (i := 1) rfl))
    · rintro vals w' hvl ⟨hb', hC⟩ a k
      match vals, hvl with
      | [v5, v4], _ => exact ⟨_, rfl, XC k rfl ⟨hb', hC⟩⟩
    · rintro vals w' hvl ⟨hb', hC⟩ a k
      match vals, hvl with
      | [v4], _ =>
        have hgb := (hgs.below (hw4B.trans (hb'.mono (by omega))) (Nat.le_refl _)).bytes
        have hlw : (YX t.s).length ≤ lim := by simp only [YX, List.length_take, lim, Vb]; omega
        refine ⟨_, rfl, YA k rfl (by kernel_rfl) ((Yg2 _ _ _ _ w' hgb hC.bytes (by rw [hto3]; exact hlw) hlw).mono ?_)⟩
        rintro e w'' ⟨v, rfl, hb'', rfl⟩
        exact ⟨_, rfl, hb'.trans (hb''.mono hb'.size), by rw [hto3]; simp⟩
    · rintro vals w' hvl ⟨hb', hC⟩ a k
      match vals, hvl with
      | [], _ =>
        have hsb := hs.below (hw4B.trans (hb'.mono (by omega))) (Nat.le_refl _)
        have := Yb5 (.slice sa t.s.length sc) (t.s.map byteD) B w' hsb
        refine ⟨_, rfl, YA k rfl (by kernel_rfl) (this.mono ?_)⟩
        rintro e w'' ⟨v, rfl, hb'', rfl, hsq⟩
        exact ⟨_, rfl, hb', by rw [← List.map_take] at hsq; exact hsq⟩
    · rintro vals w' hvl ⟨hb', hC⟩
      match vals, hvl with
      | [v6, v5, v4], _ =>
        simp only [] at hC
        subst hC
        refine Yb ?_
        repeat (with_reducible first|apply Yl|apply Yh|apply YD)
        exact Yk rfl rfl ⟨_, rfl, hw4.trans (hb'.mono hw4.size), rfl⟩
  have h8 : f.kind ≠ 8 := fun h => h89 (.inl h)
  have h9 : f.kind ≠ 9 := fun h => h89 (.inr h)
  refine JK (α := Unit) (fun _ => [(50, .bool false), (49, .int .i64 f.kind), (1, .int .i64 ver), (2, .bool flex), (5, .pointer (some ⟨w.heap.size, 0, none⟩)), (8, .pointer (some ⟨w1.heap.size, 0, none⟩)), (9, .pointer (some ⟨w2.heap.size, 0, none⟩))]) (fun _ w' => w' = w4) ?_ ?_
  · refine Yu rfl (by simpa using h8) ?_
    repeat first|(with_reducible first|apply Ya|apply Yc)|((with_reducible apply ws);exact rfl;exact rfl)
    refine XB () ⟨?_, rfl, rfl, rfl, rfl, rfl, rfl, trivial⟩ rfl
    show some (Value.bool (f.kind == 9)) = some (Value.bool false)
    rw [show (f.kind == 9) = false from by simpa using h9]
  rintro _ w7 hw7
  obtain rfl := hw7.symm
  refine Yu rfl rfl ?_
  repeat first|(with_reducible first|apply Yd|apply Ya|apply Yc|apply Yb)|((with_reducible apply ws);exact rfl;exact rfl)
  by_cases h7 : f.kind = 7
  · have h10 : f.kind ≠ 10 := by omega
    have h11 : f.kind ≠ 11 := by omega
    rw [if_neg h10, if_neg h11] at hto3
    unfold ToV at hto3
    rw [if_neg h89, if_pos h7] at hto3
    refine Yq rfl (by simpa using h7) ?_
    repeat (with_reducible first|apply Yd|apply Ya)
    refine wl_makeB (n := 16) tb_bytes zn_u8 rfl rfl (B := w4.heap.size) (Nat.le_refl _) (fun w5 ho5 hg5 => ?_)
    repeat first|(with_reducible first|apply Yd|apply Ya|apply Yc|apply Yb)|((with_reducible apply ws);exact rfl;exact rfl)
    have hw45 : Below w4.heap.size w4 w5 := Yg hg5 (Nat.le_refl _) (by simp)
    have hw35 : Below w3.heap.size w3 w5 := hw34.trans (hw45.mono (by omega))
    refine Yf rfl to_bytes rfl (hbT _ hw35) rfl ?_
    refine wl_copyB tb_bytes rfl rfl rfl ho5 rfl (hs.below (hw4B.trans (hw45.mono (by omega))) (Nat.le_refl _)).bytes (fun w6 ho6 hg6 => ?_)
    have hs45 := hw45.size
    have hw56 : Below w4.heap.size w5 w6 := Yg hg6 (by omega) (by intro k hk; simp at hk; omega)
    have hw46 : Below w4.heap.size w4 w6 := hw45.trans hw56
    have hw36 : Below w3.heap.size w3 w6 := hw34.trans (hw46.mono (by omega))
    repeat first|(with_reducible first|apply Yd|apply Ya|apply Yc|apply Yb)|((with_reducible apply ws);exact rfl;exact rfl)
    refine Yf rfl to_bytes rfl (hbG _ hw36) rfl ?_
    repeat ((with_reducible apply ws);exact rfl;exact rfl)
    have e16 : t.s.take 16 ++ (List.replicate 16 (0 : UInt8)).drop (min t.s.length 16) = XJ t.s := by
      unfold XJ
      rw [List.take_append]
      by_cases h : 16 ≤ t.s.length
      · rw [Nat.min_eq_right h, List.drop_of_length_le (by simp), show 16 - t.s.length = 0 from by omega]; rfl
      · rw [Nat.min_eq_left (by omega), List.take_replicate, List.drop_replicate, Nat.min_eq_left (by omega)]
    rw [e16] at ho6
    have h16 : (XJ t.s).length ≤ lim := by rw [VG]; decide
    refine Yt rfl (by kernel_rfl) rfl ((Yg2 _ _ _ _ w6 (hgs.below (hw4B.trans (hw46.mono (by omega))) (Nat.le_refl _)).bytes ho6.bytes (by rw [hto3]; exact h16) h16).mono ?_)
    rintro e w7 ⟨v, rfl, hw67, rfl⟩
    refine ⟨_, rfl, ?_⟩
    repeat first|(with_reducible first|apply Yc|apply Yb|apply Yl|apply Yh|apply YD)|((with_reducible apply ws);exact rfl;exact rfl)
    refine Yk rfl rfl ⟨_, rfl, hw4.trans ((hw46.mono hw4.size).trans (hw67.mono (by have := hw46.size; have := hw4.size; omega))), ?_⟩
    rw [hto3]; simp
  refine Yu rfl (by simpa using h7) ?_
  repeat first|(with_reducible first|apply Yd|apply Ya|apply Yc|apply Yb)|((with_reducible apply ws);exact rfl;exact rfl)
  by_cases h10 : f.kind = 10
  · rw [if_pos h10] at hto3
    refine Yq rfl (by simpa using h10) ?_
    repeat first|(with_reducible first|apply Yd|apply Ya)|((with_reducible apply ws);exact rfl;exact rfl)
    refine Yf rfl to_flds rfl (hbF _ hw34) rfl ?_
    repeat ((with_reducible apply ws);exact rfl;exact rfl)
    refine YE (cs := [.int .i64 t.n, .slice sa t.s.length sc, .bool t.nul, .slice la t.l.length lc, uv]) rfl ta_tree rfl (hbT _ hw34) ?_
    refine YE (cs := [.int .i64 g.n, .slice ga g.s.length gc, .bool g.nul, .slice gla g.l.length glc, guv]) rfl ta_tree rfl (hbG _ hw34) ?_
    refine Yt rfl (by kernel_rfl) rfl ((hsub t g B w4 sv _ _ hok (by omega) (hfs.below hw4B (Nat.le_refl _)) (Rep.below ht hw4B (Nat.le_refl _)) (Rep.below hg hw4B (Nat.le_refl _)) hto3).mono ?_)
    rintro e w5 ⟨v, rfl, hw45, rfl⟩
    refine ⟨_, rfl, ?_⟩
    repeat first|(with_reducible first|apply Yc|apply Yb|apply Yl|apply Yh|apply YD)|((with_reducible apply ws);exact rfl;exact rfl)
    exact Yk rfl rfl ⟨_, rfl, hw4.trans (hw45.mono hw4.size), rfl⟩
  rw [if_neg h10] at hto3
  refine Yu rfl (by simpa using h10) ?_
  repeat first|(with_reducible first|apply Yd|apply Ya|apply Yc|apply Yb)|((with_reducible apply ws);exact rfl;exact rfl)
  by_cases h11 : f.kind = 11
  · rw [if_pos h11] at hto3
    obtain ⟨hlen, hel⟩ := hto3
    refine Yq rfl (by simpa using h11) ?_
    repeat first|(with_reducible first|apply Yd|apply Ya)|((with_reducible apply ws);exact rfl;exact rfl)
    refine Yf rfl to_trees rfl (hbT _ hw34) rfl ?_
    have hlB := hl.below hw4B (Nat.le_refl _)
    have hthings := fn_things (.slice la t.l.length lc) (t.l.map treeD) B w4 hlB
    refine Yt rfl (by kernel_rfl) rfl ((hthings).mono ?_)
    rintro e w5 ⟨v, rfl, _, rfl, hsq⟩
    refine ⟨_, rfl, ?_⟩
    rw [← List.map_take] at hsq
    have hsq : Sq B w5 v ((YN t.l).map treeD) := hsq
    obtain ⟨tha, thc, rfl, _⟩ := hsq.shape
    rw [List.length_map] at hsq ⊢
    repeat first|(with_reducible first|apply Yd|apply Ya|apply Yc|apply Yb)|((with_reducible apply ws);exact rfl;exact rfl)
    refine Yf rfl to_trees rfl (hbG _ hw34) rfl ?_
    repeat first|(with_reducible first|apply Yc|apply Yb)|((with_reducible apply ws);exact rfl;exact rfl)
    refine Yu rfl (by rw [hlen]; simp) ?_
    repeat (with_reducible first|apply Yd|apply Ya|apply Yb|apply Yj)
    refine YE (cs := [.int .i64 f.kind, .int .i64 f.fr, .int .i64 f.upto, .int .i64 f.nul, .int .i64 f.tag, .int .i64 f.df, .int .i64 f.of, sv]) rfl ta_fld rfl (hbF _ hw34) ?_
    refine YT Yg0 rfl rfl (fun w6 hb6 hg6 hs6 => ?_)
    refine Yv (vs := [.int .i64 f.kind, .int .i64 f.fr, .int .i64 f.upto, .int .i64 f.nul, .int .i64 f.tag, .int .i64 f.df, .int .i64 f.of, sv]) rfl rfl rfl tz_fld (by obtain ⟨hone, _⟩ := JB hf; exact hone) hb6 rfl (fun w7 hb7 hg7 hs7 => ?_)
    have hw57 : Below w5.heap.size w5 w7 := (Yg hg6 (Nat.le_refl _) (by simp)).trans (Yg hg7 (by omega) (by intro k hk; simp at hk; omega))
    have hw37 : Below w3.heap.size w3 w7 := hw34.trans (hw57.mono (by omega))
    repeat first|(with_reducible first|apply Yd|apply Ya|apply Yc|apply Yb)|((with_reducible apply ws);exact rfl;exact rfl)
    refine Yf rfl to_int rfl (hbF _ hw37) rfl ?_
    repeat ((with_reducible apply ws);exact rfl;exact rfl)
    refine YQ rfl rfl to_int rfl hb7 rfl (fun w8 hb8 hg8 hs8 => ?_)
    repeat ((with_reducible apply ws);exact rfl;exact rfl)
    refine YQ rfl rfl to_int rfl hb8 rfl (fun w9 hb9 hg9 hs9 => ?_)
    repeat ((with_reducible apply ws);exact rfl;exact rfl)
    refine YQ rfl rfl to_int rfl hb9 rfl (fun w10 hb10 hg10 hs10 => ?_)
    have hbO : Box w10 w5.heap.size [.int .i64 f.of, .int .i64 f.fr, .int .i64 f.upto, .int .i64 (-1), .int .i64 (-1), .int .i64 f.df, .int .i64 f.of, sv] 53 := hb10
    have hw510 : Below w5.heap.size w5 w10 := ((hw57.trans (Yg hg8 (by omega) (by intro k hk; simp at hk; omega))).trans (Yg hg9 (by omega) (by intro k hk; simp at hk; omega))).trans (Yg hg10 (by omega) (by intro k hk; simp at hk; omega))
    have hw010 : Below w.heap.size w w10 := hw4.trans (hw510.mono (by have := hw4.size; omega))
    repeat first|(with_reducible first|apply Yd|apply Ya|apply Yc|apply Yb|apply Yr)|((with_reducible apply ws);exact rfl;exact rfl)
    refine Xr (α := Nat) (fun i => [(98, .int .i64 (i : Int)), (97, .int .i64 ((YN t.l).length : Int)), (14, .slice tha (YN t.l).length thc), (15, .pointer (some ⟨w5.heap.size, 0, none⟩)), (1, .int .i64 ver), (2, .bool flex), (9, .pointer (some ⟨w2.heap.size, 0, none⟩))]) (fun i w' => i ≤ (YN t.l).length ∧ Below w10.heap.size w10 w') (fun i => (YN t.l).length - i) 0 ⟨rfl, rfl, rfl, rfl, rfl, rfl, rfl, trivial⟩ ⟨Nat.zero_le _, Below.refl _ _⟩ ?_
    rintro i w11 ⟨hi, hw11⟩
    have hs510 := hw510.size
    have hs1011 := hw11.size
    have hs4 := hw4.size
    have hw511 : Below w5.heap.size w5 w11 := hw510.trans (hw11.mono (by omega))
    have hw011 : Below w.heap.size w w11 := hw010.trans (hw11.mono (by omega))
    have hlt9 : (YN t.l).length ≤ 32767 := by simp only [YN, List.length_take, Vb]; omega
    repeat first|(with_reducible first|apply Yd|apply Ya|apply Yc|apply Yb)|((with_reducible apply ws);exact rfl;exact rfl)
    by_cases hlt : i < (YN t.l).length
    · refine Yq rfl (by simpa using hlt) ?_
      obtain ⟨b, off, c', xcs, hv, _, hxcs, hxl, hxr⟩ := (hsq.below (hw511.mono (by omega)) (Nat.le_refl _)).get (sz := 5) (i := i) (by intro d hd; obtain ⟨x, _, rfl⟩ := List.mem_map.1 hd; exact Xm x) (by simpa using hlt)
      obtain ⟨b2, off2, c2, ycs, hv2, _, hycs, hyl, hyr⟩ := (hgl.below (hw011.mono hB) (Nat.le_refl _)).get (sz := 5) (i := i) (by intro d hd; obtain ⟨x, _, rfl⟩ := List.mem_map.1 hd; exact Xm x) (by simp; omega)
      simp only [Value.slice.injEq, List.length_map] at hv hv2
      obtain ⟨rfl, _, rfl⟩ := hv
      obtain ⟨rfl, _, rfl⟩ := hv2
      simp only [List.getElem_map] at hxr hyr
      have hgi : i < g.l.length := by omega
      have htoi := hel i _ _ (List.getElem?_eq_getElem hlt) (List.getElem?_eq_getElem hgi)
      have hxok : (YN t.l)[i].ok := hok.l _ (List.mem_of_mem_take (List.getElem_mem hlt))
      repeat first|(with_reducible first|apply Yd|apply Ya|apply Yc|apply Yb|apply Yr|apply Yj)|((with_reducible apply ws);exact rfl;exact rfl)
      refine XH [(0, .agg ([.int .i64 f.of, .int .i64 f.fr, .int .i64 f.upto, .int .i64 (-1), .int .i64 (-1), .int .i64 f.df, .int .i64 f.of, sv] : List Value).toArray), (1, .int .i64 ver), (2, .bool flex), (3, .slice (some ⟨b, off, none⟩) (YN t.l).length thc), (4, .int .i64 (i : Int)), (5, .pointer (some ⟨b, off + i * 5, none⟩)), (6, .agg xcs.toArray), (7, .pointer (some ⟨w2.heap.size, 0 + 3, none⟩)), (8, .slice (some ⟨b2, off2, none⟩) g.l.length glc), (9, .int .i64 (i : Int)), (10, .pointer (some ⟨b2, off2 + i * 5, none⟩)), (11, .agg ycs.toArray)] [13, 12]
        (fun vals w' => Below w11.heap.size w11 w' ∧ match vals with
          | [] => True
          | [v] => v = .bool true
          | v :: _ => v = .bool false)
        mixed rfl rfl rfl rfl rfl (by show ([0,1,2,3,4,5,6,7,8,9,10,11] : List Nat).Nodup; decide) rfl rfl (by decide) rfl rfl rfl rfl ⟨(Below.refl _ w11).drew, trivial⟩ ?_ ⟨?_, ?_, trivial⟩ ?_
      · intro p hp vals w' hC a k
        have hc3 : Below w3.heap.size w3 w' := hw34.trans ((hw511.mono (by omega)).trans (hC.1.mono (by omega)))
        simp only [List.mem_cons, List.not_mem_nil, or_false] at hp
        rcases hp with rfl | rfl | rfl | rfl | rfl | rfl | rfl | rfl | rfl | rfl | rfl | rfl
        · exact gv rfl rfl (YY k rfl ta_fld (hbO.below (hw11.trans (hC.1.mono (by omega))) (by omega)))
        · exact gv rfl rfl (Ym k rfl)
        · exact gv rfl rfl (Ym k rfl)
        · exact gv rfl rfl (Ym k rfl)
        · exact gv rfl rfl (Ym k rfl)
        · exact gv rfl rfl (YI k rfl rfl es_trees hlt)
        · exact gv rfl rfl (Vw k rfl (by rw [hxl]; exact ta_tree) (fun j v e => (hxcs.of_block (hC.1.block b (by have := hxcs.lt; omega))).cell e))
        · exact gv rfl rfl (Yi k rfl fo_tree3)
        · exact gv rfl rfl (YB k rfl to_trees ((hbG _ hc3).cell0 (i := 3) rfl))
        · exact gv rfl rfl (Ym k rfl)
        · exact gv rfl rfl (YI k rfl rfl es_trees hgi)
        · exact gv rfl rfl (Vw k rfl (by rw [hyl]; exact ta_tree) (fun j v e => (hycs.of_block (hC.1.block b2 (by have := hycs.lt; omega))).cell e))
      · rintro vals w' hvl ⟨hb', hC⟩ a k
        match vals, hvl with
        | [v12], _ =>
          simp only [] at hC
          subst hC
          exact ⟨_, rfl, UX k rfl ⟨hb', rfl⟩⟩
      · rintro vals w' hvl ⟨hb', hC⟩ a k
        match vals, hvl with
        | [], _ =>
          have hB11 : Below B w11 w' := hb'.mono (by omega)
          have hof : Rep (Lo B) w' (fldD (oneF f)) [.int .i64 f.of, .int .i64 f.fr, .int .i64 f.upto, .int .i64 (-1), .int .i64 (-1), .int .i64 f.df, .int .i64 f.of, sv] := by
            have hsq' : Rep (Lo B) w' (.sq (f.sub.map fldD)) [sv] := hfs.below ((hw011.mono hB).trans hB11) (Nat.le_refl _)
            cases f with
            | mk kind fr upto nul tag df of sub => exact rep_fldS hsq'
          refine ⟨_, rfl, YA k rfl (by kernel_rfl) ((hone h11 _ _ B w' _ _ _ hxok (by have := hb'.size; omega) hof (Rep.below hxr hB11 (Nat.le_refl _)) (Rep.below hyr hB11 (Nat.le_refl _)) htoi).mono ?_)⟩
          rintro e w'' ⟨v, rfl, hb'', rfl⟩
          exact ⟨_, rfl, hb'.trans (hb''.mono hb'.size), rfl⟩
      · rintro vals w' hvl ⟨hb', hC⟩
        match vals, hvl with
        | [v13, v12], _ =>
          simp only [] at hC
          subst hC
          refine Yb ?_
          refine Yu rfl rfl ?_
          repeat (with_reducible first|apply Ya|apply Yb|apply Yj|apply XO)
          refine Xi rfl rfl rfl (r := ((i + 1 : Nat) : Int)) (by rw [IntKind.wrap_i64]; omega) ?_
          repeat first|(with_reducible apply Yc)|((with_reducible apply ws);exact rfl;exact rfl)
          exact YF (i + 1) ⟨rfl, rfl, rfl, rfl, rfl, rfl, rfl, trivial⟩ ⟨by omega, hw11.trans (hb'.mono (by omega))⟩ (by omega)
    · refine Yu rfl (by simpa using hlt) ?_
      repeat first|(with_reducible first|apply Yd|apply Ya|apply Yc|apply Yb|apply Yl|apply Xc|apply Yh|apply YD|apply Yx|apply Yy|apply Yp)|((with_reducible apply ws);exact rfl;exact rfl)
      exact Yk rfl rfl ⟨_, rfl, hw011, rfl⟩
  rw [if_neg h11] at hto3
  unfold ToV at hto3
  rw [if_neg h89, if_neg h7] at hto3
  refine Yu rfl (by simpa using h11) ?_
  repeat (with_reducible first|apply Yd|apply Yb|apply Yj|apply XO)
  refine XH [(0, .pointer (some ⟨w2.heap.size, 0 + 0, none⟩)), (1, .int .i64 g.n), (2, .pointer (some ⟨w.heap.size, 0 + 0, none⟩)), (3, .int .i64 f.kind), (4, .pointer (some ⟨w1.heap.size, 0 + 0, none⟩)), (5, .int .i64 t.n)] [8, 7, 6]
    (fun vals w' => Below w4.heap.size w4 w' ∧ match vals with
      | [] => True
      | [v] => v = .int .i64 (VD f.kind t.n)
      | v :: _ => v = .bool true)
    mixed rfl rfl rfl rfl rfl (by show ([0,1,2,3,4,5] : List Nat).Nodup; decide) rfl rfl (by decide) rfl rfl rfl rfl ⟨(Below.refl _ w4).drew, trivial⟩ ?_ ⟨?_, ?_, ?_, trivial⟩ ?_
  · intro p hp vals w' hC a k
    have hc34 : Below w3.heap.size w3 w' := hw34.trans (hC.1.mono (by omega))
    simp only [List.mem_cons, List.not_mem_nil, or_false] at hp
    rcases hp with rfl | rfl | rfl | rfl | rfl | rfl
    · exact gv rfl rfl (Yi k rfl fo_tree0)
    · exact gv rfl rfl (YB k rfl to_i64 ((hbG _ hc34).cell0 (i := 0) rfl))
    · exact gv rfl rfl (Yi k rfl fo_fld0)
    · exact gv rfl rfl (YB k rfl to_int ((hbF _ hc34).cell0 (i := 0) rfl))
    · exact gv rfl rfl (Yi k rfl fo_tree0)
    · exact gv rfl rfl (YB k rfl to_i64 ((hbT _ hc34).cell0 (i := 0) rfl))
  · rintro vals w' hvl ⟨hb', hC⟩ a k
    match vals, hvl with
    | [v7, v6], _ => exact ⟨_, rfl, XC k rfl ⟨hb', hC⟩⟩
  · rintro vals w' hvl ⟨hb', hC⟩ a k
    match vals, hvl with
    | [v6], _ =>
      simp only [] at hC
      subst hC
      exact ⟨_, rfl, Vd (rn_eql k rfl rfl) ⟨hb', by rw [hto3]; simp⟩⟩
  · rintro vals w' hvl ⟨hb', hC⟩ a k
    match vals, hvl with
    | [], _ =>
      refine ⟨_, rfl, YA k rfl (by kernel_rfl) ((fn_number f.kind t.n w').mono ?_)⟩
      rintro e w'' ⟨v, rfl, hb'', rfl, rfl⟩
      exact ⟨_, rfl, hb', rfl⟩
  · rintro vals w' hvl ⟨hb', hC⟩
    match vals, hvl with
    | [v8, v7, v6], _ =>
      simp only [] at hC
      subst hC
      refine Yb ?_
      repeat (with_reducible apply Yl)
      exact Yk rfl rfl ⟨_, rfl, hw4.trans (hb'.mono hw4.size), rfl⟩
end
end Go.Proofs.YtjfgalpjjnncaaaGreatDoor

namespace Go.Proofs.YtjfgalpjjnncaaaGreatDoor
open Go Go.RowKit
theorem toFs_get {ver : Int} {flex : Bool} : ∀ {fs : List Fld} {k : Nat} {t : Tree} {l : List Tree}, ToFs ver flex fs k t l → l.length = fs.length ∧ ∀ (i : Nat) (h : i < fs.length) (h' : i < l.length), if fs[i].has ver = true then ToF ver flex fs[i] (att t (k + i)) l[i] else UsF fs[i] l[i]
  | [], k, t, l, h => by simp only [ToFs] at h; subst h; exact ⟨rfl, fun i h => by simp at h⟩
  | f :: fs, k, t, l, h => by
    simp only [ToFs] at h
    obtain ⟨x, r, rfl, h1, h2⟩ := h
    obtain ⟨k1, k2⟩ := toFs_get h2
    refine ⟨by simp [k1], fun i hi hi' => ?_⟩
    cases i with
    | zero => exact h1
    | succ i =>
      have := k2 i (by simpa using hi) (by simpa using hi')
      rw [show k + 1 + i = k + (i + 1) by omega] at this
      exact this
def PF (f : Fld) (y : Tree) (j : Nat) (v : Value) (w : World) : Prop := match j with
  | 1 => Sq w.heap.size w v ([f].map fldD)
  | 7 => Sq w.heap.size w v ([y].map treeD)
  | 8 => ∃ cs : List Value, v = .agg cs.toArray ∧ Rep (Lo w.heap.size) w (treeD (.mk 0 [] false [y] [])) cs
  | 9 => v = .bool true
  | 10 => v = .bool false
  | _ => True
theorem PF.up {f : Fld} {y : Tree} {j : Nat} {v : Value} {w w' : World} (h : PF f y j v w) (hb : Below w.heap.size w w') : PF f y j v w' := by
  unfold PF at *
  split at h
  · exact h.below hb hb.size
  · exact h.below hb hb.size
  · obtain ⟨cs, rfl, hr⟩ := h; exact ⟨cs, rfl, Rep.below hr hb hb.size⟩
  · exact h
  · exact h
  · trivial
theorem qk_at {Q : Exit → Act → World → Prop} {N : Nat} {L : Sl} {w : World} {a : Act} {e : Exit} (k : Kn N a L) (h : QK e Q N L w) : Q e a w := h a k
theorem sq_new {w : World} {e : TypeId} {cs : List Value} {d : D} (h : Rep (Lo w.heap.size) w d cs) : Sq (w.alloc (.cells cs.toArray e)).heap.size (w.alloc (.cells cs.toArray e)) (.slice (some ⟨w.heap.size, 0, none⟩) 1 1) [d] := by
  simp only [Sq, Rep]
  have hb : Below w.heap.size w (w.alloc (.cells cs.toArray e)) := Yg (Xt w _) (Nat.le_refl _) (by simp)
  refine ⟨_, _, rfl, Nat.le_refl _, .inr ⟨w.heap.size, 0, cs, rfl, ?_, (XN w cs e).cells, ?_⟩⟩
  · show w.heap.size < _
    simp
  · simp only [YH]
    exact ⟨cs, [], by simp, Rep.below h hb (by simp), rfl⟩
theorem tree_of_list {ok : Nat → Prop} {w : World} {l : List Tree} {lv : Value} (h : Rep ok w (.sq (l.map treeD)) [lv]) : Rep ok w (treeD (.mk 0 [] false l [])) [.int .i64 0, .slice none 0 0, .bool false, lv, .slice none 0 0] := by
  simp only [treeD, VI, Rep, YH, YU, List.map_nil] at h ⊢
  exact ⟨[_], _, rfl, rfl, [_], _, rfl, ⟨none, 0, rfl, by simp, .inl trivial⟩, [_], _, rfl, rfl, [_], _, rfl, h, [_], _, rfl, ⟨none, 0, rfl, by simp, .inl trivial⟩, rfl⟩
section
set_option maxRecDepth 100000
theorem rtF : Um Tryz.prog 29 53 8 = true := by kernel_rfl
theorem rtT : Um Tryz.prog 23 26 5 = true := by kernel_rfl
set_option maxHeartbeats 8000000 in
theorem told_part (ver : Int) (flex : Bool) (fs : List Fld) (hfs : Jd fs = true) (htab : tabTs fs = true) (hF : ∀ f ∈ fs, ToFOK ver flex f) : ToOK ver flex fs := by
  intro t g B w fv ts gs hok hB hf ht hg hto
  have hfl := Jd.len hfs
  obtain ⟨fa, fc, rfl, _⟩ := hf.shape
  obtain ⟨sv2, lv, uv, rfl, _, _, huu⟩ := Xh ht
  obtain ⟨ua, uc, rfl, _⟩ := huu.shape
  obtain ⟨gsv, glv, guv, rfl, _, hgl, hgu⟩ := Xh hg
  obtain ⟨gla, glc, rfl, _⟩ := hgl.shape
  obtain ⟨gua, guc, rfl, _⟩ := hgu.shape
  obtain ⟨hto1, hto2⟩ := hto
  obtain ⟨hlen, hget⟩ := toFs_get hto1
  simp only [List.length_map] at *
  refine enter Tryz.func16 rfl Tryz.ntmps16 rfl ?_
  repeat (with_reducible first|apply Yd|apply Ya)
  refine XA rfl rfl rfl (fun w1 hb1 hg1 hs1 => XA rfl rfl rfl (fun w2 hb2 hg2 hs2 => ?_))
  have hw2 : Below w.heap.size w w2 := (Yg hg1 (Nat.le_refl _) (by simp)).trans (Yg hg2 (by omega) (by simp))
  have hbT : ∀ w', Below w2.heap.size w2 w' → Box w' w.heap.size [.int .i64 t.n, sv2, .bool t.nul, lv, .slice ua t.u.length uc] 26 := fun w' h => (hb1.kept hg2 (by simp)).below h (by omega)
  have hbG : ∀ w', Below w2.heap.size w2 w' → Box w' w1.heap.size [.int .i64 g.n, gsv, .bool g.nul, .slice gla g.l.length glc, .slice gua g.u.length guc] 26 := fun w' h => hb2.below h (by omega)
  repeat first|(with_reducible first|apply Yd|apply Ya|apply Yc|apply Yb)|((with_reducible apply ws);exact rfl;exact rfl)
  refine Yf rfl to_trees rfl hb2 rfl ?_
  repeat first|(with_reducible first|apply Yc|apply Yb)|((with_reducible apply ws);exact rfl;exact rfl)
  refine Yu rfl (by rw [hlen]; simp) ?_
  refine Yj (Yb ?_)
  refine UH (α := Unit) (fun _ => [(0, .slice fa fs.length fc), (1, .int .i64 ver), (2, .bool flex), (8, .pointer (some ⟨w.heap.size, 0, none⟩)), (9, .pointer (some ⟨w1.heap.size, 0, none⟩))]) (fun _ w' => Below w2.heap.size w2 w') ?_ ?_
  · repeat first|(with_reducible first|apply Yd|apply Ya|apply Yc|apply Yb|apply Yr)|((with_reducible apply ws);exact rfl;exact rfl)
    refine Xr (α := Nat) (fun i => [(25, .int .i64 (i : Int)), (24, .int .i64 (fs.length : Int)), (23, .slice fa fs.length fc), (0, .slice fa fs.length fc), (1, .int .i64 ver), (2, .bool flex), (8, .pointer (some ⟨w.heap.size, 0, none⟩)), (9, .pointer (some ⟨w1.heap.size, 0, none⟩))]) (fun i w' => i ≤ fs.length ∧ Below w2.heap.size w2 w') (fun i => fs.length - i) 0 ⟨rfl, rfl, rfl, rfl, rfl, rfl, rfl, rfl, trivial⟩ ⟨Nat.zero_le _, Below.refl _ _⟩ ?_
    rintro i w3 ⟨hi, hw3⟩
    have hs23 := hw3.size
    have hw03 : Below w.heap.size w w3 := hw2.trans (hw3.mono (by omega))
    repeat first|(with_reducible first|apply Yd|apply Ya|apply Yc|apply Yb)|((with_reducible apply ws);exact rfl;exact rfl)
    by_cases hlt : i < fs.length
    · refine Yq rfl (by simpa using hlt) ?_
      obtain ⟨b, off, c', cs, hv, _, hcs, hcl, hr⟩ := (hf.below (hw03.mono hB) (Nat.le_refl _)).get (sz := 8) (i := i) (by intro d hd; obtain ⟨x, _, rfl⟩ := List.mem_map.1 hd; exact Uc x) (by simpa using hlt)
      simp only [Value.slice.injEq, List.length_map] at hv
      obtain ⟨rfl, _, rfl⟩ := hv
      simp only [List.getElem_map] at hr
      obtain ⟨hone, _⟩ := JB hr
      have hfin : fs[i] ∈ fs := List.getElem_mem hlt
      have hfT := tabTs_get htab fs[i] hfin
      have hFi := hF fs[i] hfin
      have hfk := Jd.mem hfs fs[i] hfin
      have hti := hget i hlt (by omega)
      rw [Nat.zero_add] at hti
      generalize hff : fs[i] = f at *
      obtain ⟨sv, rfl, hsub⟩ := Vc hr
      have htag := tabT_tag hfT
      repeat first|(with_reducible first|apply Yd|apply Ya|apply Yb|apply Yr|apply Yj)|((with_reducible apply ws);exact rfl;exact rfl)
      refine Ys rfl rfl es_flds rfl hlt ?_
      refine Xn (cs := [.int .i64 f.kind, .int .i64 f.fr, .int .i64 f.upto, .int .i64 f.nul, .int .i64 f.tag, .int .i64 f.df, .int .i64 f.of, sv]) rfl ta_fld rfl (fun j v e => hcs.cell e) ?_
      refine YT Yg0 rfl rfl (fun w4 hbx4 hg4 hs4 => ?_)
      repeat ((with_reducible apply ws);exact rfl;exact rfl)
      refine Yv (vs := [.int .i64 f.kind, .int .i64 f.fr, .int .i64 f.upto, .int .i64 f.nul, .int .i64 f.tag, .int .i64 f.df, .int .i64 f.of, sv]) rfl rfl rfl tz_fld hone hbx4 rfl (fun w5 hbx5 hg5 hs5 => ?_)
      have hw35 : Below w3.heap.size w3 w5 := (Yg hg4 (Nat.le_refl _) (by simp)).trans (Yg hg5 (by omega) (by intro k hk; simp at hk; omega))
      have hw05 : Below w.heap.size w w5 := hw03.trans (hw35.mono (by omega))
      have hw25 : Below w2.heap.size w2 w5 := hw3.trans (hw35.mono (by omega))
      repeat (with_reducible first|apply Yd|apply Ya|apply Yc|apply Yb)
      refine YE (cs := [.int .i64 t.n, sv2, .bool t.nul, lv, .slice ua t.u.length uc]) rfl ta_tree rfl (hbT _ hw25) ?_
      repeat ((with_reducible apply ws);exact rfl;exact rfl)
      refine Yt rfl (by kernel_rfl) rfl ((fn_at t i B w5 (by omega) _ (Rep.below ht (hw05.mono hB) (Nat.le_refl _))).mono ?_)
      rintro e w6 ⟨v, rfl, hw56, xs, rfl, hxr⟩
      refine ⟨_, rfl, ?_⟩
      have hxok : (att t i).ok := hok.at i
      generalize hxx : att t i = x at *
      obtain ⟨honex, hxl5⟩ := Ya4 hxr
      refine YT zv_tree rfl rfl (fun w7 hbx7 hg7 hs7 => ?_)
      skip
      refine Yv (vs := xs) rfl rfl rfl (by rw [hxl5]; exact tz_tree) honex hbx7 (by rw [hxl5]; rfl) (fun w8 hbx8 hg8 hs8 => ?_)
      have hs56 := hw56.size
      have hw68 : Below w6.heap.size w6 w8 := (Yg hg7 (Nat.le_refl _) (by simp)).trans (Yg hg8 (by omega) (by intro k hk; simp at hk; omega))
      have hw58 : Below w5.heap.size w5 w8 := hw56.trans (hw68.mono (by omega))
      have hw28 : Below w2.heap.size w2 w8 := hw25.trans (hw58.mono (by omega))
      have hw08 : Below w.heap.size w w8 := hw05.trans (hw58.mono (by omega))
      have hbf := hbx5.below hw58 (by omega)
      have hr8 : Rep (Lo B) w8 (fldD f) [.int .i64 f.kind, .int .i64 f.fr, .int .i64 f.upto, .int .i64 f.nul, .int .i64 f.tag, .int .i64 f.df, .int .i64 f.of, sv] := Rep.below hr ((hw35.mono (show B ≤ w3.heap.size by omega)).trans (hw58.mono (by omega))) (Nat.le_refl _)
      have hx8 : Rep (Lo B) w8 (treeD x) xs := Rep.below hxr (hw68.mono (by omega)) (Nat.le_refl _)
      obtain ⟨b2, off2, c2, ycs, hv2, _, hycs, hyl, hyr⟩ := (hgl.below (hw08.mono hB) (Nat.le_refl _)).get (sz := 5) (i := i) (by intro d hd; obtain ⟨x, _, rfl⟩ := List.mem_map.1 hd; exact Xm x) (by simp; omega)
      simp only [Value.slice.injEq, List.length_map] at hv2
      obtain ⟨rfl, _, rfl⟩ := hv2
      simp only [List.getElem_map] at hyr
      have hgi : i < g.l.length := by omega
      generalize hyy : g.l[i]'(by omega) = y at *
      obtain ⟨honey, hyl5⟩ := Ya4 hyr
      repeat first|(with_reducible first|apply Yd|apply Ya|apply Yc|apply Yb)|((with_reducible apply ws);exact rfl;exact rfl)
      refine Yf rfl to_int rfl hbf rfl ?_
      repeat ((with_reducible apply ws);exact rfl;exact rfl)
      rw [show decide (f.tag < 0) = true from by simpa using htag]
      repeat ((with_reducible apply YV);exact rfl;exact rfl;exact rfl)
      refine YE (cs := [.int .i64 f.kind, .int .i64 f.fr, .int .i64 f.upto, .int .i64 f.nul, .int .i64 f.tag, .int .i64 f.df, .int .i64 f.of, sv]) rfl ta_fld rfl hbf ?_
      repeat first|((with_reducible apply ws);exact rfl;exact rfl)|((with_reducible apply YV);exact rfl;exact rfl;exact rfl)
      refine Yt rfl (by kernel_rfl) rfl ((fn_has f ver B w8 (by omega) _ hr8).mono ?_)
      rintro e w9 ⟨v, rfl, hw89, rfl⟩
      refine ⟨_, rfl, ?_⟩
      have hs89 := hw89.size
      have hw59 : Below w5.heap.size w5 w9 := hw58.trans (hw89.mono (by omega))
      have hw29 : Below w2.heap.size w2 w9 := hw28.trans (hw89.mono (by omega))
      have hbf9 := hbx5.below hw59 (by omega)
      have hw9B : Below B w8 w9 := hw89.mono (by omega)
      cases hh : f.has ver with
      | true =>
        rw [if_pos hh] at hti
        repeat first|(with_reducible first|apply Yc|apply Yb)|((with_reducible apply ws);exact rfl;exact rfl)|((with_reducible apply UP);exact rfl;exact rfl;exact rfl;exact rfl)|((with_reducible apply wl_noU);exact rfl;exact rfl;exact rfl)
        refine Yq rfl rfl ?_
        repeat (with_reducible apply Yd)
        refine XH [(0, .agg ([.int .i64 f.kind, .int .i64 f.fr, .int .i64 f.upto, .int .i64 f.nul, .int .i64 f.tag, .int .i64 f.df, .int .i64 f.of, sv] : List Value).toArray), (1, .int .i64 ver), (2, .bool flex), (3, .agg xs.toArray), (4, .pointer (some ⟨w1.heap.size, 0 + 3, none⟩)), (5, .slice (some ⟨b2, off2, none⟩) g.l.length glc), (6, .int .i64 (i : Int)), (7, .pointer (some ⟨b2, off2 + i * 5, none⟩)), (8, .agg ycs.toArray)] [10, 9]
          (fun vals w' => Below w9.heap.size w9 w' ∧ match vals with
            | [] => True
            | [v] => v = .bool true
            | v :: _ => v = .bool false)
          mixed rfl rfl rfl rfl rfl (by show ([0,1,2,3,4,5,6,7,8] : List Nat).Nodup; decide) rfl rfl (by decide) rfl rfl rfl rfl ⟨(Below.refl _ w9).drew, trivial⟩ ?_ ⟨?_, ?_, trivial⟩ ?_
        · intro p hp vals w' hC a k
          have hc2 : Below w2.heap.size w2 w' := hw29.trans (hC.1.mono (by omega))
          simp only [List.mem_cons, List.not_mem_nil, or_false] at hp
          rcases hp with rfl | rfl | rfl | rfl | rfl | rfl | rfl | rfl | rfl
          · exact gv rfl rfl (YY k rfl ta_fld (hbf9.below hC.1 (by omega)))
          · exact gv rfl rfl (Ym k rfl)
          · exact gv rfl rfl (Ym k rfl)
          · exact gv rfl rfl (YY k rfl (by rw [hxl5]; exact ta_tree) (hbx8.below (hw89.trans (hC.1.mono (by omega))) (by omega)))
          · exact gv rfl rfl (Yi k rfl fo_tree3)
          · exact gv rfl rfl (YB k rfl to_trees ((hbG _ hc2).cell0 (i := 3) rfl))
          · exact gv rfl rfl (Ym k rfl)
          · exact gv rfl rfl (YI k rfl rfl es_trees hgi)
          · exact gv rfl rfl (Vw k rfl (by rw [hyl5]; exact ta_tree) (fun j v e => (hycs.of_block ((hw89.trans (hC.1.mono (by omega))).block b2 (by have := hycs.lt; omega))).cell e))
        · rintro vals w' hvl ⟨hb', hC⟩ a k
          match vals, hvl with
          | [v9], _ =>
            simp only [] at hC
            subst hC
            exact ⟨_, rfl, UX k rfl ⟨hb', rfl⟩⟩
        · rintro vals w' hvl ⟨hb', hC⟩ a k
          match vals, hvl with
          | [], _ =>
            have hB9 : Below B w8 w' := hw9B.trans (hb'.mono (by omega))
            refine ⟨_, rfl, YA k rfl (by kernel_rfl) ((hFi x y B w' _ _ _ hxok (by have := hb'.size; omega) (Rep.below hr8 hB9 (Nat.le_refl _)) (Rep.below hx8 hB9 (Nat.le_refl _)) (Rep.below hyr hB9 (Nat.le_refl _)) hti).mono ?_)⟩
            rintro e w'' ⟨v, rfl, hb'', rfl⟩
            exact ⟨_, rfl, hb'.trans (hb''.mono hb'.size), rfl⟩
        · rintro vals w' hvl ⟨hb', hC⟩
          match vals, hvl with
          | [v10, v9], _ =>
            simp only [] at hC
            subst hC
            refine Yb ?_
            refine Yu rfl rfl ?_
            repeat (with_reducible first|apply Ya|apply Yb|apply Yj|apply Xc|apply Yx|apply Yy)
            refine Xi rfl rfl rfl (r := ((i + 1 : Nat) : Int)) (by rw [IntKind.wrap_i64]; omega) ?_
            repeat first|(with_reducible apply Yc)|((with_reducible apply ws);exact rfl;exact rfl)
            exact YF (i + 1) ⟨rfl, rfl, rfl, rfl, rfl, rfl, rfl, rfl, trivial⟩ ⟨by omega, hw29.trans (hb'.mono (by omega))⟩ (by omega)
      | false =>
        rw [if_neg (by rw [hh]; decide)] at hti
        repeat first|((with_reducible apply ws);exact rfl;exact rfl)|((with_reducible apply YV);exact rfl;exact rfl;exact rfl)
        refine Yf rfl to_int rfl hbf9 rfl ?_
        repeat first|((with_reducible apply ws);exact rfl;exact rfl)|((with_reducible apply YV);exact rfl;exact rfl;exact rfl)
        rw [show decide (0 ≤ f.tag) = false from by simp; omega]
        repeat first|(with_reducible first|apply Yc|apply Yb)|((with_reducible apply ws);exact rfl;exact rfl)|((with_reducible apply YV);exact rfl;exact rfl;exact rfl)|((with_reducible apply UP);exact rfl;exact rfl;exact rfl;exact rfl)
        refine Yu rfl rfl ?_
        repeat (with_reducible first|apply Yd|apply Yb|apply Yj)
        refine wc_po [(0, .agg ([.int .i64 f.kind, .int .i64 f.fr, .int .i64 f.upto, .int .i64 f.nul, .int .i64 f.tag, .int .i64 f.df, .int .i64 f.of, sv] : List Value).toArray), (2, .pointer (some ⟨w1.heap.size, 0 + 3, none⟩)), (3, .slice (some ⟨b2, off2, none⟩) g.l.length glc), (4, .int .i64 (i : Int)), (5, .pointer (some ⟨b2, off2 + i * 5, none⟩)), (6, .agg ycs.toArray)] [1, 7, 8, 9, 10]
          (fun dn w' => Below w9.heap.size w9 w' ∧ ∀ j v, (j, v) ∈ dn → PF f y j v w')
          mixed rfl rfl rfl rfl rfl rfl (by show ([0,2,3,4,5,6] : List Nat).Nodup; decide) rfl rfl rfl ⟨(Below.refl _ w9).drew, fun j v h => by cases h⟩ ?_ ?_ ?_
        · intro p hp dn w' hC a k
          have hc2 : Below w2.heap.size w2 w' := hw29.trans (hC.1.mono (by omega))
          simp only [List.mem_cons, List.not_mem_nil, or_false] at hp
          rcases hp with rfl | rfl | rfl | rfl | rfl | rfl
          · exact gv rfl rfl (YY k rfl ta_fld (hbf9.below hC.1 (by omega)))
          · exact gv rfl rfl (Yi k rfl fo_tree3)
          · exact gv rfl rfl (YB k rfl to_trees ((hbG _ hc2).cell0 (i := 3) rfl))
          · exact gv rfl rfl (Ym k rfl)
          · exact gv rfl rfl (YI k rfl rfl es_trees hgi)
          · exact gv rfl rfl (Vw k rfl (by rw [hyl5]; exact ta_tree) (fun j v e => (hycs.of_block ((hw89.trans (hC.1.mono (by omega))).block b2 (by have := hycs.lt; omega))).cell e))
        · rintro c hc dn w' ⟨hb', hdn⟩ hpr a k hgt
          have hs9 := hb'.size
          have hB9 : Below B w8 w' := hw9B.trans (hb'.mono (by omega))
          have next : ∀ {v : Value} {w'' : World} {c : Nat}, Below w'.heap.size w' w'' → PF f y c v w'' → Below w9.heap.size w9 w'' ∧ ∀ j u, (j, u) ∈ (c, v) :: dn → PF f y j u w'' := by
            intro v w'' c hb'' hp
            refine ⟨hb'.trans (hb''.mono hs9), fun j u hj => ?_⟩
            rcases List.mem_cons.1 hj with h | h
            · cases h; exact hp
            · exact (hdn j u h).up hb''
          have hfw : Rep (Lo w'.heap.size) w' (fldD f) [.int .i64 f.kind, .int .i64 f.fr, .int .i64 f.upto, .int .i64 f.nul, .int .i64 f.tag, .int .i64 f.df, .int .i64 f.of, sv] := Rep.below hr8 hB9 (by omega)
          have hyw : Rep (Lo w'.heap.size) w' (treeD y) ycs := Rep.below hyr hB9 (by omega)
          simp only [List.mem_cons, List.not_mem_nil, or_false] at hc
          rcases hc with rfl | rfl | rfl | rfl | rfl
          · refine ⟨_, rfl, Uh (cs := [.int .i64 f.kind, .int .i64 f.fr, .int .i64 f.upto, .int .i64 f.nul, .int .i64 f.tag, .int .i64 f.df, .int .i64 f.of, sv]) k rtF rfl rfl rfl rfl (next (Yg (Xt w' _) (Nat.le_refl _) (by simp)) ?_)⟩
            exact sq_new hfw
          · refine ⟨_, rfl, Uh (cs := ycs) k rtT rfl rfl hyl5 rfl (next (Yg (Xt w' _) (Nat.le_refl _) (by simp)) ?_)⟩
            exact sq_new hyw
          · obtain ⟨v7, h7⟩ := hpr 7 (by decide) rfl
            have k7 := k.with (hgt 7 v7 73 h7 rfl)
            have hp7 : Sq w'.heap.size w' v7 ([y].map treeD) := hdn 7 v7 h7
            obtain ⟨a7, c7, rfl, _⟩ := hp7.shape
            refine ⟨_, rfl, Yc5 (ps := [(3, .tmp 73)]) (cs := [.int .i64 0, .slice none 0 0, .bool false, .slice a7 ([y].map treeD).length c7, .slice none 0 0]) k7 rfl (by kernel_rfl) (next (Below.refl _ _) ⟨_, rfl, tree_of_list hp7⟩)⟩
          · obtain ⟨v1, h1⟩ := hpr 1 (by decide) rfl
            obtain ⟨v8, h8⟩ := hpr 8 (by decide) rfl
            have k8 := (k.with (hgt 1 v1 67 h1 rfl)).with (hgt 8 v8 74 h8 rfl)
            have hp1 : Sq w'.heap.size w' v1 ([f].map fldD) := hdn 1 v1 h1
            obtain ⟨cs8, rfl, hp8⟩ : ∃ cs : List Value, v8 = .agg cs.toArray ∧ Rep (Lo w'.heap.size) w' (treeD (.mk 0 [] false [y] [])) cs := hdn 8 v8 h8
            refine ⟨_, rfl, YA (args := [.tmp 67, .tmp 74]) k8 rfl (by kernel_rfl) ((us_ok [f] (by simp only [Fld.oksb, hfk, Bool.and_self]) (by simp) (by simp only [tabTs, hfT, Bool.and_self]) _ w'.heap.size w' v1 cs8 (Nat.le_refl _) hp1 hp8 rfl ?_).mono ?_)⟩
            · simp only [UsFs]
              exact ⟨y, [], rfl, hti, rfl⟩
            · rintro e w'' ⟨v, rfl, hb'', rfl⟩
              exact ⟨_, rfl, next hb'' rfl⟩
          · obtain ⟨v9, h9⟩ := hpr 9 (by decide) rfl
            have hp9 : v9 = .bool true := hdn 9 v9 h9
            subst hp9
            have k9 := k.with (hgt 9 _ 75 h9 rfl)
            exact ⟨_, rfl, UX k9 rfl (next (Below.refl _ _) rfl)⟩
        · rintro dn w' ⟨hb', hdn⟩ hall a k hgt
          obtain ⟨v10, h10⟩ := hall 10 (by decide)
          have hp10 : v10 = .bool false := hdn 10 v10 h10
          subst hp10
          have k10 := k.with (hgt 10 _ 76 h10 rfl)
          refine qk_at k10 (Yb ?_)
          refine Yu rfl rfl ?_
          repeat (with_reducible first|apply Ya|apply Yb|apply Yj|apply XO)
          refine Xi rfl rfl rfl (r := ((i + 1 : Nat) : Int)) (by rw [IntKind.wrap_i64]; omega) ?_
          repeat first|(with_reducible apply Yc)|((with_reducible apply ws);exact rfl;exact rfl)
          exact YF (i + 1) ⟨rfl, rfl, rfl, rfl, rfl, rfl, rfl, rfl, trivial⟩ ⟨by omega, hw29.trans (hb'.mono (by omega))⟩ (by omega)
    · refine Yu rfl (by simpa using hlt) ?_
      repeat (with_reducible first|apply Xc|apply Yx|apply Yy|apply Yp)
      exact XB () ⟨rfl, rfl, rfl, rfl, rfl, trivial⟩ hw3
  rintro _ w3 hw3
  have hs23 := hw3.size
  have hw03 : Below w.heap.size w w3 := hw2.trans (hw3.mono (by omega))
  repeat first|(with_reducible first|apply Yd|apply Ya)|((with_reducible apply ws);exact rfl;exact rfl)
  refine Yf rfl to_tags rfl (hbT _ hw3) rfl ?_
  refine Yt rfl (by kernel_rfl) rfl ((Ym8 (.slice fa fs.length fc) (.slice ua t.u.length uc) fs t.u B w3 (by omega) (hf.below (hw03.mono hB) (Nat.le_refl _)) (huu.below (hw03.mono hB) (Nat.le_refl _)) (Jd.tag hfs) (by omega)).mono ?_)
  rintro e w4 ⟨v, rfl, hw34, hsq⟩
  refine ⟨_, rfl, ?_⟩
  have hs34 := hw34.size
  have hw24 : Below w2.heap.size w2 w4 := hw3.trans (hw34.mono (by omega))
  have hw04 : Below w.heap.size w w4 := hw03.trans (hw34.mono (by omega))
  refine YW rfl rfl (Yc (Yb ?_))
  refine UH (α := Value) (fun v => [(14, v), (9, .pointer (some ⟨w1.heap.size, 0, none⟩))]) (fun v w' => w' = w4 ∧ Sq w4.heap.size w4 v ((if flex then Xj fs t.u else []).map Uf)) ?_ ?_
  · repeat first|(with_reducible first|apply Yd|apply Ya|apply Yc|apply Yb)|((with_reducible apply ws);exact rfl;exact rfl)
    cases flex with
    | true =>
      refine Yu rfl rfl ?_
      repeat (with_reducible apply Yj)
      exact XB v ⟨rfl, rfl, trivial⟩ ⟨rfl, hsq⟩
    | false =>
      refine Yq rfl rfl ?_
      repeat first|(with_reducible first|apply Ya|apply Yc)|((with_reducible apply ws);exact rfl;exact rfl)
      refine XB (.slice none 0 0) ⟨rfl, rfl, trivial⟩ ⟨rfl, ?_⟩
      simp only [Bool.false_eq_true, if_false, List.map_nil, Sq, Rep]
      exact ⟨none, 0, rfl, by simp, .inl trivial⟩
  rintro v' w5 ⟨hw5, hsv⟩
  obtain rfl := hw5.symm
  obtain ⟨us, hus⟩ : ∃ us, us = (if flex then Xj fs t.u else []) := ⟨_, rfl⟩
  have hgu' : g.u = us.map fun kv => (kv.1, YX kv.2) := by
    rw [hto2, hus]
    cases flex <;> simp [Xw]
  rw [← hus] at hsv
  obtain ⟨ka, kc, rfl, _⟩ := hsv.shape
  simp only [List.length_map] at *
  have hgul : g.u.length = us.length := by rw [hgu']; simp
  repeat first|(with_reducible first|apply Yd|apply Ya)|((with_reducible apply ws);exact rfl;exact rfl)
  refine Yf rfl to_tags rfl (hbG _ hw24) rfl ?_
  repeat first|(with_reducible first|apply Yc|apply Yb)|((with_reducible apply ws);exact rfl;exact rfl)
  refine Yu rfl (by rw [hgul]; simp) ?_
  repeat first|(with_reducible first|apply Yd|apply Ya|apply Yc|apply Yb|apply Yr|apply Yj)|((with_reducible apply ws);exact rfl;exact rfl)
  refine Xr (α := Nat) (fun i => [(92, .int .i64 (i : Int)), (91, .int .i64 (us.length : Int)), (90, .slice ka us.length kc), (9, .pointer (some ⟨w1.heap.size, 0, none⟩))]) (fun i w' => i ≤ us.length ∧ Below w4.heap.size w4 w') (fun i => us.length - i) 0 ⟨rfl, rfl, rfl, rfl, trivial⟩ ⟨Nat.zero_le _, Below.refl _ _⟩ ?_
  have husl : us.length ≤ 100000 := by
    rw [hus]
    cases flex with
    | true =>
      simp only [if_true, Xj]
      have h1 := Vp (YM fs) (t.u.take Vb) []
      simp only [List.length_take, List.length_nil, Vb] at h1
      have h2 : ((t.u.take Vb).foldl (fun out kv => if kv.1 < YM fs then out else Xf kv.1 kv.2 out) []).length ≤ 32767 := by
        refine Nat.le_trans h1 ?_
        omega
      simp only [Vb] at h2 ⊢
      omega
    | false => simp
  rintro i w6 ⟨hi, hw6⟩
  have hs46 := hw6.size
  have hw06 : Below w.heap.size w w6 := hw04.trans (hw6.mono (by omega))
  have hw26 : Below w2.heap.size w2 w6 := hw24.trans (hw6.mono (by omega))
  repeat first|(with_reducible first|apply Yd|apply Ya|apply Yc|apply Yb)|((with_reducible apply ws);exact rfl;exact rfl)
  by_cases hlt : i < us.length
  · refine Yq rfl (by simpa using hlt) ?_
    obtain ⟨b, off, c', cs, hv, hbB, hcs, hcl, hr⟩ := (hsv.below hw6 (Nat.le_refl _)).get (sz := 2) (i := i) (by intro d hd; obtain ⟨x, _, rfl⟩ := List.mem_map.1 hd; exact Vq x) (by simpa using hlt)
    simp only [Value.slice.injEq, List.length_map] at hv
    obtain ⟨rfl, _, rfl⟩ := hv
    simp only [List.getElem_map] at hr
    obtain ⟨hone, _⟩ := tag_one hr
    obtain ⟨qv, rfl, hqv⟩ := Vz hr
    obtain ⟨qa, qc, rfl, _⟩ := hqv.shape
    repeat first|(with_reducible first|apply Yd|apply Ya|apply Yb|apply Yr|apply Yj)|((with_reducible apply ws);exact rfl;exact rfl)
    refine Ys rfl rfl es_tags rfl hlt ?_
    refine Xn (cs := [.int .u32 (us[i].1 : Nat), .slice qa (us[i].2.map byteD).length qc]) rfl Go.Proofs.YtjfgalpjjnncaaaGreatDoor.ta_tag rfl (fun j v e => hcs.cell e) ?_
    refine YT zv_tag rfl rfl (fun w7 hb7 hg7 hs7 => ?_)
    repeat ((with_reducible apply ws);exact rfl;exact rfl)
    refine Yv (vs := [.int .u32 (us[i].1 : Nat), .slice qa (us[i].2.map byteD).length qc]) rfl rfl rfl Go.Proofs.YtjfgalpjjnncaaaGreatDoor.tz_tag hone hb7 rfl (fun w8 hb8 hg8 hs8 => ?_)
    have hw68 : Below w6.heap.size w6 w8 := (Yg hg7 (Nat.le_refl _) (by simp)).trans (Yg hg8 (by omega) (by intro k hk; simp at hk; omega))
    have hw08 : Below w.heap.size w w8 := hw06.trans (hw68.mono (by omega))
    have hw28 : Below w2.heap.size w2 w8 := hw26.trans (hw68.mono (by omega))
    have hw48 : Below w4.heap.size w4 w8 := hw6.trans (hw68.mono (by omega))
    have hgi : i < g.u.length := by omega
    obtain ⟨b2, off2, c2, ycs, hv2, hb2B, hycs, hyl, hyr⟩ := (hgu.below (hw08.mono hB) (Nat.le_refl _)).get (sz := 2) (i := i) (by intro d hd; obtain ⟨x, _, rfl⟩ := List.mem_map.1 hd; exact Vq x) (by simpa using hgi)
    simp only [Value.slice.injEq, List.length_map] at hv2
    obtain ⟨rfl, _, rfl⟩ := hv2
    simp only [List.getElem_map] at hyr
    have hgue : g.u[i] = (us[i].1, YX us[i].2) := by simp only [hgu', List.getElem_map]
    rw [hgue] at hyr
    obtain ⟨yv, rfl, hyv⟩ := Vz hyr
    obtain ⟨ya, yc, rfl, _⟩ := hyv.shape
    simp only [List.length_map] at *
    repeat (with_reducible first|apply Yd|apply Yc|apply Yb)
    refine XH [(0, .pointer (some ⟨w1.heap.size, 0 + 4, none⟩)), (1, .slice (some ⟨b2, off2, none⟩) g.u.length guc), (2, .int .i64 (i : Int)), (3, .pointer (some ⟨b2, off2 + i * 2, none⟩)), (4, .pointer (some ⟨b2, off2 + i * 2 + 0, none⟩)), (5, .int .u32 (us[i].1 : Nat)), (6, .pointer (some ⟨w6.heap.size, 0 + 0, none⟩)), (7, .int .u32 (us[i].1 : Nat)), (8, .bool false), (9, .bool false),
        (10, .pointer (some ⟨w1.heap.size, 0 + 4, none⟩)), (11, .slice (some ⟨b2, off2, none⟩) g.u.length guc), (12, .int .i64 (i : Int)), (13, .pointer (some ⟨b2, off2 + i * 2, none⟩)), (14, .pointer (some ⟨b2, off2 + i * 2 + 1, none⟩)), (15, .slice ya (YX us[i].2).length yc), (16, .pointer (some ⟨w6.heap.size, 0 + 1, none⟩)), (17, .slice qa us[i].2.length qc)] [21, 20, 19, 18]
      (fun vals w' => Below w8.heap.size w8 w' ∧ match vals with
        | [] => True
        | [v] => Sq w4.heap.size w' v ((YX us[i].2).map byteD)
        | [v, _] => v = .bool true
        | v :: _ => v = .bool false)
      mixed rfl rfl rfl rfl rfl (by show ([0,1,2,3,4,5,6,7,8,9,10,11,12,13,14,15,16,17] : List Nat).Nodup; decide) rfl rfl (by decide) rfl rfl rfl rfl ⟨(Below.refl _ w8).drew, trivial⟩ ?_ ⟨?_, ?_, ?_, ?_, trivial⟩ ?_
    · intro p hp vals w' hC a k
      have hc2 : Below w2.heap.size w2 w' := hw28.trans (hC.1.mono (by omega))
      have hyc : YC w' b2 (off2 + i * 2) [.int .u32 (us[i].1 : Nat), .slice ya (YX us[i].2).length yc] := hycs.of_block (hC.1.block b2 (by have := hycs.lt; omega))
      have hbu := hb8.below hC.1 (by omega)
      simp only [List.mem_cons, List.not_mem_nil, or_false] at hp
      rcases hp with rfl | rfl | rfl | rfl | rfl | rfl | rfl | rfl | rfl | rfl | rfl | rfl | rfl | rfl | rfl | rfl | rfl | rfl
      · exact gv rfl rfl (Yi k rfl fo_tree4)
      · exact gv rfl rfl (YB k rfl to_tags ((hbG _ hc2).cell0 (i := 4) rfl))
      · exact gv rfl rfl (Ym k rfl)
      · exact gv rfl rfl (YI k rfl rfl es_tags hgi)
      · exact gv rfl rfl (Yi k rfl fo_tag0)
      · exact gv rfl rfl (YB k rfl to_u32 (hyc.cell (i := 0) rfl))
      · exact gv rfl rfl (Yi k rfl fo_tag0)
      · exact gv rfl rfl (YB k rfl to_u32 (hbu.cell0 (i := 0) rfl))
      · exact gv rfl rfl ((rn_neq k rfl rfl).trans (by simp))
      · exact gv rfl rfl (Ym k rfl)
      · exact YJ rfl rfl rfl k rfl rfl (Yi k rfl fo_tree4)
      · exact YJ rfl rfl rfl k rfl rfl (YB k rfl to_tags ((hbG _ hc2).cell0 (i := 4) rfl))
      · exact YJ rfl rfl rfl k rfl rfl (Ym k rfl)
      · exact YJ rfl rfl rfl k rfl rfl (YI k rfl rfl es_tags hgi)
      · exact YJ rfl rfl rfl k rfl rfl (Yi k rfl fo_tag1)
      · exact YJ rfl rfl rfl k rfl rfl (YB k rfl to_bytes (hyc.cell (i := 1) rfl))
      · exact YJ rfl rfl rfl k rfl rfl (Yi k rfl fo_tag1)
      · exact YJ rfl rfl rfl k rfl rfl (YB k rfl to_bytes (hbu.cell0 (i := 1) rfl))
    · rintro vals w' hvl ⟨hb', hC⟩ a k
      match vals, hvl with
      | [v20, v19, v18], _ =>
        simp only [] at hC
        subst hC
        exact ⟨_, rfl, Yg5 (b := false) (v := .bool false) k rfl rfl ⟨hb', rfl⟩⟩
    · rintro vals w' hvl ⟨hb', hC⟩ a k
      match vals, hvl with
      | [v19, v18], _ =>
        simp only [] at hC
        subst hC
        exact ⟨_, rfl, UX k rfl ⟨hb', rfl⟩⟩
    · rintro vals w' hvl ⟨hb', hC⟩ a k
      match vals, hvl with
      | [v18], _ =>
        have hyb := (hyv.below (hb'.mono (show B ≤ w8.heap.size by omega)) (Nat.le_refl _)).bytes
        have hlw : (YX us[i].2).length ≤ lim := by simp only [YX, List.length_take, lim, Vb]; omega
        refine ⟨_, rfl, YA k rfl (by kernel_rfl) ((Yg2 _ _ _ _ w' hyb hC.bytes hlw hlw).mono ?_)⟩
        rintro e w'' ⟨v, rfl, hb'', rfl⟩
        exact ⟨_, rfl, hb'.trans (hb''.mono hb'.size), by simp⟩
    · rintro vals w' hvl ⟨hb', hC⟩ a k
      match vals, hvl with
      | [], _ =>
        have hsb := hqv.below ((hw68.mono (show w4.heap.size ≤ w6.heap.size by omega)).trans (hb'.mono (by omega))) (Nat.le_refl _)
        have := Yb5 (.slice qa us[i].2.length qc) (us[i].2.map byteD) w4.heap.size w' hsb
        refine ⟨_, rfl, YA k rfl (by kernel_rfl) (this.mono ?_)⟩
        rintro e w'' ⟨v, rfl, hb'', rfl, hsq⟩
        exact ⟨_, rfl, hb', by rw [← List.map_take] at hsq; exact hsq⟩
    · rintro vals w' hvl ⟨hb', hC⟩
      match vals, hvl with
      | [v21, v20, v19, v18], _ =>
        simp only [] at hC
        subst hC
        refine Yb ?_
        refine Yu rfl rfl ?_
        repeat (with_reducible first|apply Ya|apply Yb|apply Yj|apply XO)
        refine Xi rfl rfl rfl (r := ((i + 1 : Nat) : Int)) (by rw [IntKind.wrap_i64]; omega) ?_
        repeat first|(with_reducible apply Yc)|((with_reducible apply ws);exact rfl;exact rfl)
        exact YF (i + 1) ⟨rfl, rfl, rfl, rfl, trivial⟩ ⟨by omega, hw48.trans (hb'.mono (by omega))⟩ (by omega)
  · refine Yu rfl (by simpa using hlt) ?_
    repeat first|(with_reducible first|apply Yd|apply Ya|apply Yc|apply Yb|apply Yl|apply Xc|apply Yx|apply Yy|apply Yp)|((with_reducible apply ws);exact rfl;exact rfl)
    exact Yk rfl rfl ⟨_, rfl, hw06, rfl⟩
mutual
theorem toF_all (ver : Int) (flex : Bool) : ∀ f : Fld, f.okb = true → tabT f = true → ToFOK ver flex f
  | .mk kind fr upto nul tag df of sub, h, ht => by
    have hk := h
    simp only [Fld.okb, Bool.and_eq_true, decide_eq_true_eq] at hk
    have hts : tabTs sub = true := tabT_sub ht
    have hsub : ToOK ver flex sub := told_part ver flex sub (by unfold Jd; rw [hk.2, hk.1.2]; rfl) hts (toFs_all ver flex sub hk.2 hts)
    have hof : of ≠ 11 := hk.1.1.2
    exact told_walk ver flex _ hof hsub (fun _ => told_walk ver flex (oneF (.mk kind fr upto nul tag df of sub)) hof hsub (fun e => absurd e hof))
theorem toFs_all (ver : Int) (flex : Bool) : ∀ fs : List Fld, Fld.oksb fs = true → tabTs fs = true → ∀ f ∈ fs, ToFOK ver flex f
  | [], _, _, f, hf => by cases hf
  | g :: fs, h, ht, f, hf => by
    simp only [Fld.oksb, Bool.and_eq_true] at h
    simp only [tabTs, Bool.and_eq_true] at ht
    rcases List.mem_cons.1 hf with e | hf
    · rw [e]; exact toF_all ver flex g h.1 ht.1
    · exact toFs_all ver flex fs h.2 ht.2 f hf
end
theorem to_ok (ver : Int) (flex : Bool) (fs : List Fld) (h : Jd fs = true) (ht : tabTs fs = true) : ToOK ver flex fs :=
  told_part ver flex fs h ht (toFs_all ver flex fs (by unfold Jd at h; rw [Bool.and_eq_true] at h; exact h.1) ht)
end
end Go.Proofs.YtjfgalpjjnncaaaGreatDoor

namespace Go.Proofs.YtjfgalpjjnncaaaGreatDoor.Tlk
open Go Go.RowKit
theorem tk_cons {P : Program} {K : Tk} {tg : Bool} (h : TkOk P K tg) {f : Nat} {fs : List Fld} (hf : TlP P f tg fs) : TkOk P ⟨K.tT, K.bool, K.text, K.octs, K.each, K.sorted, K.clos, K.gT, (f, fs) :: K.tells⟩ tg := by
  refine ⟨h.ty, h.bool, h.text, h.octs, fun g gs hg => ?_⟩
  simp only [lkM] at hg
  cases hb : Nat.beq f g with
  | true =>
    rw [hb] at hg
    simp only [cond_true, Option.some.injEq] at hg
    rw [← Ye hb, ← hg]; exact hf
  | false => rw [hb] at hg; exact h.tells g gs hg
theorem tg_cons {P : Program} {K : Tk} (h : TgOk P K) (f : Nat) (fs : List Fld) : TgOk P ⟨K.tT, K.bool, K.text, K.octs, K.each, K.sorted, K.clos, K.gT, (f, fs) :: K.tells⟩ := ⟨h.each, h.sorted, h.clos⟩
end Go.Proofs.YtjfgalpjjnncaaaGreatDoor.Tlk
namespace Go.Proofs.YtjfgalpjjnncaaaGreatDoor
open Go Go.RowKit
section
set_option maxRecDepth 100000
theorem fn_flexM (m : Msg) (ver : Int) (fv : Value) (w : World) : Fn 17 [.agg #[fv, .int .i64 m.flex], .int .i64 ver] w fun v _ => v = .bool (m.flexible ver) := by
  refine enter Tryz.func17 rfl Tryz.ntmps17 rfl ?_
  refine Yd (Ya (XA (cs := [fv, .int .i64 m.flex]) rfl rfl rfl (fun w1 hb1 hg1 hs1 => ?_)))
  have hw1 : Below w.heap.size w w1 := Yg hg1 (Nat.le_refl _) (by simp)
  repeat first|(with_reducible first|apply Yd|apply Ya|apply Yc|apply Yb)|((with_reducible apply ws);exact rfl;exact rfl)
  refine Yf (i := 1) rfl to_int rfl hb1 rfl ?_
  repeat ((with_reducible apply ws);exact rfl;exact rfl)
  by_cases h0 : (0 : Int) ≤ m.flex
  · rw [show decide ((0 : Int) ≤ m.flex) = true from decide_eq_true h0]
    repeat first|((with_reducible apply ws);exact rfl;exact rfl)|((with_reducible apply YV);exact rfl;exact rfl;exact rfl)
    refine Yf (i := 1) rfl to_int rfl hb1 rfl ?_
    repeat first|(with_reducible first|apply Yc|apply Yb|apply Yl)|((with_reducible apply ws);exact rfl;exact rfl)|((with_reducible apply YV);exact rfl;exact rfl;exact rfl)
    refine Yk rfl rfl ⟨_, rfl, hw1, ?_⟩
    simp [Msg.flexible, h0]
  · rw [show decide ((0 : Int) ≤ m.flex) = false from decide_eq_false h0]
    repeat first|(with_reducible first|apply Yc|apply Yb|apply Yl)|((with_reducible apply ws);exact rfl;exact rfl)|((with_reducible apply UP);exact rfl;exact rfl;exact rfl;exact rfl)
    refine Yk rfl rfl ⟨_, rfl, hw1, ?_⟩
    simp [Msg.flexible, h0]
end
end Go.Proofs.YtjfgalpjjnncaaaGreatDoor

namespace Go.Proofs.YtjfgalpjjnncaaaGreatDoor.BListPartitionReassignmentsRequest
open Go Go.RowKit
def sListPartitionReassignmentsRequestTopic : List Fld := [.mk 8 0 (-1) (-1) (-1) 0 0 [], .mk 11 0 (-1) (-1) (-1) 0 3 []]
def m : Msg := ⟨[.mk 3 0 (-1) (-1) (-1) 60000 0 [], .mk 11 0 (-1) 0 (-1) 0 10 sListPartitionReassignmentsRequestTopic], 0⟩
theorem m_ok : Jd m.fields = true := by decide
def most : Nat := 0
def tbl : Tbl := ⟨[(31, 0, 0), (31, 1, 1), (102, 0, 0)], [22]⟩
theorem tbl_ok : tbl.ok Tryz.prog = true := by kernel_rfl
theorem ws {ops : Array Oper} {Q : Exit → Act → World → Prop} {N : Nat} {rest : List Oper} {L : Sl} {w : World} {d : Nat} {ty : TypeId} {pos : String} {aft : Array Edge} {o : Op} {v : Value}
    (hs : Ya2 tbl L o = some v) (hd : Nat.blt d N = true) (h : WL rest Tryz.prog ops Q N ((d, v) :: L) w) : WL (⟨some d, o, ty, pos, aft, none⟩ :: rest) Tryz.prog ops Q N L w := JC tbl tbl_ok hs hd h
theorem zv_msg (w : World) : (zeroValue 31).run Tryz.prog w = .ok (.agg #[.slice none 0 0, .int .i64 0]) w := by kernel_rfl
theorem rt_flds : Um Tryz.prog 29 53 8 = true := by kernel_rfl
theorem to_i16 : XD Tryz.prog 48 = true := by kernel_rfl
section
set_option maxRecDepth 100000
set_option maxHeartbeats 4000000
theorem XQ (w : World) : Fn 41 [] w fun v w' => Rep (Frs w.heap.size w'.heap.size) w' (.sq (sListPartitionReassignmentsRequestTopic.map fldD)) [v] := by
  refine enter Tryz.func41 rfl Tryz.ntmps41 rfl ?_
  repeat first|(with_reducible first|apply Yd|apply Ya|apply Yc|apply Yb)|((with_reducible apply ws);exact rfl;exact rfl)
  have hW : Below w.heap.size w w := ⟨rfl, rfl, rfl, Nat.le_refl _, fun _ _ => rfl⟩
  refine Vo rfl (cs := [.int .i64 8, .int .i64 0, .int .i64 (-1), .int .i64 (-1), .int .i64 (-1), .int .i64 0, .int .i64 0, .slice none 0 0]) (by kernel_rfl) rfl ?_
  refine Vo rfl (cs := [.int .i64 11, .int .i64 0, .int .i64 (-1), .int .i64 (-1), .int .i64 (-1), .int .i64 0, .int .i64 3, .slice none 0 0]) (by kernel_rfl) rfl ?_
  refine wl_sliceN [[.int .i64 8, .int .i64 0, .int .i64 (-1), .int .i64 (-1), .int .i64 (-1), .int .i64 0, .int .i64 0, .slice none 0 0], [.int .i64 11, .int .i64 0, .int .i64 (-1), .int .i64 (-1), .int .i64 (-1), .int .i64 0, .int .i64 3, .slice none 0 0]] rt_flds rfl rfl (by simp) rfl rfl rfl (fun w2 hbS hgS hsS => ?_)
  have hs_2 := Yg hgS (Nat.le_refl _) (by simp)
  have hz := hW.size
  replace hW := hW.trans (hs_2.mono hW.size)
  have hfin : Rep (Frs w.heap.size w2.heap.size) w2 (.sq (sListPartitionReassignmentsRequestTopic.map fldD)) [.slice (some ⟨w.heap.size, 0, none⟩) 2 2] := by
    simp only [Rep]
    exact ⟨_, 2, rfl, Nat.le_refl _, .inr ⟨w.heap.size, 0, _, rfl, ⟨hz, hbS.lt⟩, hbS.cells, (Jv (rep_fld0 _ _ (.mk 8 0 (-1) (-1) (-1) 0 0 []) rfl) (Jv (rep_fld0 _ _ (.mk 11 0 (-1) (-1) (-1) 0 3 []) rfl) reps_fnil))⟩⟩
  repeat first|(with_reducible first|apply Yc|apply Yb|apply Yl)|((with_reducible apply ws);exact rfl;exact rfl)
  exact Yk rfl rfl ⟨_, rfl, hW, hfin⟩
theorem fn_table (w : World) : Fn 12 [] w fun v w' => ∃ fv, v = .agg #[fv, .int .i64 m.flex] ∧ Sq w'.heap.size w' fv (m.fields.map fldD) := by
  refine enter Tryz.func12 rfl Tryz.ntmps12 rfl ?_
  repeat (with_reducible first|apply Yd|apply Ya)
  refine YT zv_msg rfl rfl (fun w1 hb1 hg1 hs1 => ?_)
  have hs_1 := Yg hg1 (Nat.le_refl _) (by simp)
  repeat (with_reducible first|apply Yd|apply Ya|apply Yc|apply Yb)
  have hW : Below w1.heap.size w1 w1 := ⟨rfl, rfl, rfl, Nat.le_refl _, fun _ _ => rfl⟩
  refine Vo rfl (cs := [.int .i64 3, .int .i64 0, .int .i64 (-1), .int .i64 (-1), .int .i64 (-1), .int .i64 60000, .int .i64 0, .slice none 0 0]) (by kernel_rfl) rfl ?_
  refine Yt rfl (by kernel_rfl) rfl ((XQ w1).mono ?_)
  rintro e w2 ⟨sv, rfl, hs_2, hsq1⟩
  obtain ⟨a1, c1, rfl⟩ := rep_sqshape hsq1
  refine ⟨_, rfl, ?_⟩
  replace hsq1 := rep_frw hsq1 hW.size
  replace hW := hW.trans (hs_2.mono hW.size)
  replace hb1 := hb1.below hs_2 hb1.lt
  refine Vo rfl (cs := [.int .i64 11, .int .i64 0, .int .i64 (-1), .int .i64 0, .int .i64 (-1), .int .i64 0, .int .i64 10, .slice a1 (sListPartitionReassignmentsRequestTopic.map fldD).length c1]) (by kernel_rfl) rfl ?_
  refine wl_sliceN [[.int .i64 3, .int .i64 0, .int .i64 (-1), .int .i64 (-1), .int .i64 (-1), .int .i64 60000, .int .i64 0, .slice none 0 0], [.int .i64 11, .int .i64 0, .int .i64 (-1), .int .i64 0, .int .i64 (-1), .int .i64 0, .int .i64 10, .slice a1 (sListPartitionReassignmentsRequestTopic.map fldD).length c1]] rt_flds rfl rfl (by simp) rfl rfl rfl (fun w3 hbS hgS hsS => ?_)
  have hs_3 := Yg hgS (Nat.le_refl _) (by simp)
  have hz := hW.size
  replace hsq1 := rep_fr hsq1 hs_3 (Nat.le_refl _)
  replace hW := hW.trans (hs_3.mono hW.size)
  replace hb1 := hb1.below hs_3 hb1.lt
  have hfin : Rep (Frs w1.heap.size w3.heap.size) w3 (.sq (m.fields.map fldD)) [.slice (some ⟨w2.heap.size, 0, none⟩) 2 2] := by
    simp only [Rep]
    exact ⟨_, 2, rfl, Nat.le_refl _, .inr ⟨w2.heap.size, 0, _, rfl, ⟨hz, hbS.lt⟩, hbS.cells, (Jv (rep_fld0 _ _ (.mk 3 0 (-1) (-1) (-1) 60000 0 []) rfl) (Jv (rep_fldS hsq1) reps_fnil))⟩⟩
  refine Vo rfl (cs := [.slice (some ⟨w2.heap.size, 0, none⟩) 2 2, .int .i64 0]) (by kernel_rfl) rfl ?_
  refine Yv (vs := [.slice (some ⟨w2.heap.size, 0, none⟩) 2 2, .int .i64 0]) rfl rfl rfl tz_msg rfl hb1 rfl (fun wz hbz hgz hsz => ?_)
  repeat (with_reducible first|apply Yc|apply Yb|apply Yl)
  have hW0 := hs_1.trans (hW.mono hs_1.size)
  refine Vr (cs := [.slice (some ⟨w2.heap.size, 0, none⟩) 2 2, .int .i64 0]) rfl rfl ta_msg hbz ⟨_, rfl, hW0.trans (Yg hgz hW0.size (by intro q hq; simp at hq; omega)), _, rfl, ?_⟩
  exact Rep.mono (fun b hb => ⟨by have := hb.2; simp only [Lo]; omega, hgz.block b hb.2 (by have := hb.1; simp; omega)⟩) _ _ hfin
noncomputable def z0 : List Value := match Tryz.prog.info? 102 with | some i => (match i.zero with | some z => z.cells.toList | none => []) | none => []
noncomputable def d0 : List Value := match (defF Tryz.prog 92).bind fun l => setAll l z0 with | some cs => cs | none => []
noncomputable def cs0 (ver : Int) : List Value := .int .i16 ver :: d0.drop 1
theorem d0_eq : (defF Tryz.prog 92).bind (fun l => setAll l z0) = some d0 := by kernel_rfl
theorem d0_hd : d0 = .int .i16 0 :: d0.drop 1 := by kernel_rfl
theorem zv (w : World) : (zeroValue 102).run Tryz.prog w = .ok (.agg z0.toArray) w := by kernel_rfl
theorem fn_new (w : World) : Calls Tryz.prog 39 #[] w fun e w' => e = .returned (.pointer (some ⟨w.heap.size, 0, none⟩)) ∧ Box w' w.heap.size d0 102 ∧ Below w.heap.size w w' := by
  obtain ⟨l, hl, hset⟩ := Option.bind_eq_some_iff.1 d0_eq
  refine enter (vs := []) Tryz.func39 rfl Tryz.ntmps39 rfl ?_
  repeat first|(with_reducible first|apply Yd|apply Ya|apply Yc|apply Yb)|((with_reducible apply ws);exact rfl;exact rfl)
  refine YT zv rfl rfl (fun w1 hb1 hg1 hs1 => ?_)
  repeat (with_reducible first|apply Yd|apply Ya|apply Yc|apply Yb)
  have hdef := defF_ok (w := w1) hl (b := w.heap.size) (pre := []) (cs := z0) (post := []) (cs' := d0) (e := 102) (by simpa using hb1) hset
  refine Yt rfl hdef.1 rfl (hdef.2.mono ?_)
  rintro e w2 ⟨rfl, hb2, hc2⟩
  refine ⟨_, rfl, ?_⟩
  repeat first|(with_reducible first|apply Yd|apply Ya|apply Yc|apply Yb|apply Yl)|((with_reducible apply ws);exact rfl;exact rfl)
  exact Yk rfl rfl ⟨rfl, by simpa using hb2, (Yg hg1 (Nat.le_refl _) (by simp)).trans (chg_below hc2 (fun j hj h => by have : j = w.heap.size := h; omega) (by omega))⟩
theorem fn_max (w : World) : Calls Tryz.prog 11 #[] w fun e w' => e = .returned (.int .i64 (most : Int)) ∧ Below w.heap.size w w' := by
  refine enter (vs := []) Tryz.func11 rfl Tryz.ntmps11 rfl ?_
  repeat first|(with_reducible first|apply Yd|apply Ya|apply Yc|apply Yb)|((with_reducible apply ws);exact rfl;exact rfl)
  refine Yt rfl (by kernel_rfl) rfl ((fn_new w).mono ?_)
  rintro e w1 ⟨rfl, hb1, hw1⟩
  refine ⟨_, rfl, ?_⟩
  skip
  have hmax : Calls Tryz.prog 40 #[.pointer (some ⟨w.heap.size, 0, none⟩)] w1 fun e w' => e = .returned (.int .i16 (most : Int)) ∧ w' = w1 := by
    refine enter (vs := [.pointer (some ⟨w.heap.size, 0, none⟩)]) Tryz.func40 rfl Tryz.ntmps40 rfl ?_
    repeat first|(with_reducible first|apply Yd|apply Ya|apply Yc|apply Yb|apply Yl)|((with_reducible apply ws);exact rfl;exact rfl)
    exact Yk rfl rfl ⟨rfl, rfl⟩
  refine Yt rfl (by kernel_rfl) rfl ((hmax).mono ?_)
  rintro e w2 ⟨rfl, rfl⟩
  refine ⟨_, rfl, ?_⟩
  refine YZ .i64 rfl ti_i16 ti_i64 rfl (r := (most : Int)) rfl ?_
  repeat first|(with_reducible first|apply Yc|apply Yb|apply Yl)|((with_reducible apply ws);exact rfl;exact rfl)
  exact Yk rfl rfl ⟨rfl, hw1⟩
theorem fn_set (w : World) (b : Nat) (x : Value) (r : List Value) (ver : Int) (hb : Box w b (x :: r) 102) : Calls Tryz.prog 42 #[.pointer (some ⟨b, 0, none⟩), .int .i16 ver] w fun e w' => e = .returned (.tuple #[]) ∧ Box w' b (.int .i16 ver :: r) 102 ∧ w.grownBy w' (some b) := by
  refine enter (vs := [.pointer (some ⟨b, 0, none⟩), .int .i16 ver]) Tryz.func42 rfl Tryz.ntmps42 rfl ?_
  repeat first|(with_reducible apply Ya)|((with_reducible apply ws);exact rfl;exact rfl)
  refine YQ (i := 0) rfl rfl to_i16 rfl hb rfl (fun w1 hb1 hg1 _ => ?_)
  exact Yc (JJ rfl ⟨rfl, hb1, hg1⟩)
theorem tabT_m : tabTs m.fields = true := by decide
theorem rd_all : (List.range (most + 1)).all (fun v => Yh8 Tryz.prog Rdk.kr 93 (v : Int) true (m.flexible (v : Int)) m.fields (cs0 (v : Int)) && JW (v : Int) m.fields) = true := by kernel_rfl
theorem rd (v : Nat) (h : v ≤ most) : Yh8 Tryz.prog Rdk.kr 93 (v : Int) true (m.flexible (v : Int)) m.fields (cs0 (v : Int)) = true ∧ JW (v : Int) m.fields = true := by
  have := List.all_eq_true.1 rd_all v (List.mem_range.2 (by omega))
  simpa only [Bool.and_eq_true] using this
theorem tg_ok (v : Int) : m.flexible v = true → true = true := fun _ => rfl
theorem fn_read (v : Nat) (hv : v ≤ most) (t : Tree) (ht : t.ok) (w : World) (ev sv : Value) (b sb : Nat) (hb : Box w b (cs0 (v : Int)) 102) (hs : SrcAt w sb sv (Xb (v : Int) (m.flexible (v : Int)) m.fields t)) (hsb : sb < w.heap.size) (hne : b ≠ sb)
    (hg : w.cell? ⟨1, 0, none⟩ = some ev) (hgb : 1 ≠ b) (hgl : 1 < w.heap.size) :
    Calls Tryz.prog 43 #[.pointer (some ⟨b, 0, none⟩), sv] w fun en w' => en = .returned .nilIface ∧ ∃ cs' lo new, w.heap.size ≤ lo ∧ Box w' b cs' 102 ∧ YH (Dk sb lo w') w' (.lit (.int .i16 (v : Int)) :: new) cs' ∧ HzP (v : Int) true (m.flexible (v : Int)) m.fields ((Jq (v : Int) m.fields t).withNull false) new ∧ Chg (fun j => j = b ∨ w.heap.size ≤ j) w w' := by
  obtain ⟨hread, htab⟩ := rd v hv
  obtain ⟨hfit, hwire⟩ := fitt_ok htab ht (m.flexible (v : Int))
  have hr := readZ_ok (Rdk.kr_ok ev) Rdk.kr_ty (tg_ok (v : Int)) hread hfit hb (by rw [hwire]; exact hs) hsb hne hg hgb hgl
  refine enter (vs := [.pointer (some ⟨b, 0, none⟩), sv]) Tryz.func43 rfl Tryz.ntmps43 rfl ?_
  repeat first|(with_reducible first|apply Yd|apply Ya|apply Yc|apply Yb)|((with_reducible apply ws);exact rfl;exact rfl)
  refine Yt rfl hr.1 rfl (hr.2.mono ?_)
  rintro en w1 ⟨rfl, h⟩
  refine ⟨_, rfl, ?_⟩
  repeat first|(with_reducible first|apply Yc|apply Yb|apply Yl)|((with_reducible apply ws);exact rfl;exact rfl)
  exact Yk rfl rfl ⟨rfl, h⟩
theorem fo_t4 : YG Tryz.prog 37 4 = some 4 := by kernel_rfl
set_option maxHeartbeats 4000000 in
theorem clo_ListPartitionReassignmentsRequestTopic : ClC Tryz.prog 37 70 143 := by
  refine ⟨by kernel_rfl, fun w lo tb B hd d us k s val hU hhd hval hBt hk hs hmany => ?_⟩
  obtain ⟨a0, a1, a2, a3, rfl⟩ : ∃ a0 a1 a2 a3, hd = [a0, a1, a2, a3] := by
    match hd, hhd with
    | [a0, a1, a2, a3], _ => exact ⟨a0, a1, a2, a3, rfl⟩
  have hsq : Sq B w val (s.map byteD) := hval
  obtain ⟨va, vc, rfl, _⟩ := hsq.shape
  obtain ⟨da, dc, hds⟩ := hU.row.shape
  have hlo := hU.lt
  have hlw := hU.low
  have hdl := hU.row.low
  have hbx0 : Box w tb [a0, a1, a2, a3, d] 37 := hU.box
  refine enter (vs := [.int .u32 (k : Int), .slice va (s.map byteD).length vc, .pointer (some ⟨tb, 0, none⟩)]) Tryz.func143 rfl Tryz.ntmps143 rfl ?_
  refine wc_parS [(0, .pointer (some ⟨tb, 0 + 4, none⟩)), (1, d), (2, .int .u32 (k : Int)), (3, .slice va (s.map byteD).length vc), (8, .pointer (some ⟨tb, 0 + 4, none⟩))] [9, 7, 6, 5, 4]
    (fun vals w' => match vals with
      | [] => Chg (fun _ => False) w w'
      | [v] => Chg (fun _ => False) w w' ∧ (∃ a n c, v = .slice a n c) ∧ Rep (In 0 w.heap.size w') w' (YU s) [v]
      | [v, _] => Chg (fun _ => False) w w' ∧ ∃ sv, (∃ a n c, sv = .slice a n c) ∧ v = .agg ([.int .u32 (k : Int), sv] : List Value).toArray ∧ Rep (In 0 w.heap.size w') w' (YU s) [sv]
      | [v, _, _] => Chg (fun _ => False) w w' ∧ ∃ (b8 : Nat) (sv : Value), (∃ a n c, sv = .slice a n c) ∧ v = .slice (some ⟨b8, 0, none⟩) 1 1 ∧ Box w' b8 [.int .u32 (k : Int), sv] 70 ∧ Rep (In 0 w.heap.size w') w' (YU s) [sv]
      | [v, _, _, _] => Chg (fun j => d.ownBlock = some j) w w' ∧ Box w' tb [a0, a1, a2, a3, d] 37 ∧ RowD 0 lo tb 70 2 w' v ((us ++ [(k, s)]).map Uf)
      | _ :: v :: _ => Chg (fun j => j = tb ∨ d.ownBlock = some j) w w' ∧ Box w' tb [a0, a1, a2, a3, v] 37 ∧ RowD 0 lo tb 70 2 w' v ((us ++ [(k, s)]).map Uf))
    mixed rfl rfl rfl rfl rfl (by show ([0,1,2,3,8] : List Nat).Nodup; decide) rfl rfl (by decide) rfl rfl rfl rfl (XR _ _) ?_ ⟨?_, ?_, ?_, ?_, ?_, trivial⟩ ?_
  · intro p hp vals w' hC hnp a kn
    simp only [List.mem_cons, List.not_mem_nil, or_false] at hp
    rcases hp with rfl | rfl | rfl | rfl | rfl
    · exact gv rfl rfl (Yi kn rfl fo_t4)
    · have hbx : Box w' tb [a0, a1, a2, a3, d] 37 := by
        match vals, hC, hnp with
        | [], h, _ => exact hbx0.chg h (fun h => h)
        | [_], h, _ => exact hbx0.chg h.1 (fun h => h)
        | [_, _], h, _ => exact hbx0.chg h.1 (fun h => h)
        | [_, _, _], h, _ => exact hbx0.chg h.1 (fun h => h)
        | [_, _, _, _], h, _ => exact h.2.1
        | _ :: _ :: _ :: _ :: _ :: r, _, hnp =>
          have := hnp 9 (by rw [show ([9, 7, 6, 5, 4] : List Nat).length - (_ :: _ :: _ :: _ :: _ :: r).length = 0 from by simp only [List.length_cons, List.length_nil]; omega]; simp)
          exact absurd (show true = false from this) (by simp)
      exact gv rfl rfl (YB kn rfl Impl.to_tags (hbx.cell0 (i := 4) rfl))
    · exact gv rfl rfl (Ym kn rfl)
    · exact gv rfl rfl (Ym kn rfl)
    · exact gv rfl rfl (Yi kn rfl fo_t4)
  · rintro vals w' hvl hC a kn
    match vals, hvl with
    | [v7, v6, v5, v4], _ =>
      obtain ⟨hc, hbx, hrd⟩ := hC
      obtain ⟨a7, c7, rfl⟩ := hrd.shape
      refine ⟨_, rfl, JI kn rfl rfl Impl.to_tags rfl hbx rfl (fun w'' hbx'' hg'' hs'' => ⟨?_, hbx'', hrd.stored hg''⟩)⟩
      exact (hc.wide (fun j h => .inr h)).trans ((Chg.grown hg'').wide (fun j h => .inl h))
  · rintro vals w' hvl hC a kn
    match vals, hvl with
    | [v6, v5, v4], _ =>
      obtain ⟨hc, b8, sv, ⟨sa, sn, sc, rfl⟩, rfl, hb8, hrep⟩ := hC
      have hsz := hc.size
      have hrdw := hU.row.below ⟨hc.os, hc.tape, hc.output, hc.size, fun j hj => hc.block j hj (fun h => h)⟩
      obtain ⟨xs0, hrow0, hreps0⟩ := hrdw.row
      refine ⟨_, rfl, Yf7 kn Impl.rt_tags rfl rfl hb8 rfl rfl hrow0 (by omega) (by simp only [List.length_map]; omega) (fun d' w'' hrow'' hg'' => ⟨?_, ?_, ?_⟩)⟩
      · have h2 : Chg (fun j => d.ownBlock = some j) w' w'' := ⟨hg''.grown.os, hg''.grown.tape, hg''.grown.output, hg''.grown.size, fun j hj hn => hg''.grown.block j hj (fun e => hn e.symm)⟩
        exact (hc.wide (fun j h => h.elim)).trans h2
      · have hb := hbx0.chg hc (fun h => h)
        exact hb.kept hg''.grown (fun e => hU.row.apart e.symm)
      · rw [List.map_append, List.map_cons, List.map_nil]
        refine hrdw.snoc (by omega) (by have := hbx0.lt; omega) hreps0 ?_ hrow'' hg''
        simp only [Uf, Rep, YH]
        refine ⟨[_], _, rfl, rfl, [_], _, rfl, ?_, rfl⟩
        refine hrep.up (fun r hr => ⟨.inr (by rcases hr.1 with h | h; exact absurd h (Nat.not_lt_zero _); omega), hr.2, ?_, fun e => ?_⟩) (fun _ _ => rfl)
        · rcases hr.1 with h | h
          · exact absurd h (Nat.not_lt_zero _)
          · have := hbx0.lt; omega
        · rcases hr.1 with h | h
          · exact absurd h (Nat.not_lt_zero _)
          · have := (hdl r e).2; omega
  · rintro vals w' hvl hC a kn
    match vals, hvl with
    | [v5, v4], _ =>
      obtain ⟨hc, sv, ⟨sa, sn, sc, rfl⟩, rfl, hrep⟩ := hC
      have hga := Xt w' (.cells ([.int .u32 (k : Int), .slice sa sn sc] : List Value).toArray 70)
      refine ⟨_, rfl, Uh (cs := [.int .u32 (k : Int), .slice sa sn sc]) kn Impl.rt_tags rfl rfl rfl rfl ⟨hc.trans (Chg.grown0 hga), _, _, ⟨sa, sn, sc, rfl⟩, rfl, XN _ _ _, hrep.up (fun r hr => ⟨hr.1, by have := hr.2; simp; omega⟩) (fun r hr => hga.block r hr.2 (by simp))⟩⟩
  · rintro vals w' hvl hC a kn
    match vals, hvl with
    | [v4], _ =>
      obtain ⟨hc, ⟨sa, sn, sc, rfl⟩, hrep⟩ := hC
      exact ⟨_, rfl, Yc5 (ps := [(0, .tmp 7), (1, .tmp 9)]) (cs := [.int .u32 (k : Int), .slice sa sn sc]) kn rfl (by kernel_rfl) ⟨hc, _, ⟨sa, sn, sc, rfl⟩, rfl, hrep⟩⟩
  · rintro vals w' hvl hC a kn
    match vals, hvl with
    | [], _ =>
      have hsb : Ve w' (.slice va (s.map byteD).length vc) s := hsq.bytes.below ⟨hC.os, hC.tape, hC.output, hC.size, fun j hj => hC.block j hj (fun h => h)⟩
      refine ⟨_, rfl, UI kn tb_bytes tb_bytes rfl rfl hsb (Own.nil w' w'.heap.size 5) (Nat.le_refl _) (by simpa using hs) (fun d' w'' ho hg => ?_)⟩
      rw [List.nil_append] at ho
      obtain ⟨oa, oc, rfl⟩ := ho.shape
      refine ⟨hC.trans (Chg.grown0 hg.grown), ⟨_, _, _, rfl⟩, own_rep (l0 := w.heap.size) ho hC.size⟩
  · rintro vals w' hvl hC
    match vals, hvl with
    | [v9, v7, v6, v5, v4], _ =>
      obtain ⟨hc, hbx, hrd⟩ := hC
      exact JJ rfl ⟨rfl, v7, ⟨hbx, hrd, hlo, by have := hc.size; omega⟩, hc⟩
set_option maxHeartbeats 4000000 in
theorem clo_ListPartitionReassignmentsRequest : ClC Tryz.prog 37 70 96 := by
  refine ⟨by kernel_rfl, fun w lo tb B hd d us k s val hU hhd hval hBt hk hs hmany => ?_⟩
  obtain ⟨a0, a1, a2, a3, rfl⟩ : ∃ a0 a1 a2 a3, hd = [a0, a1, a2, a3] := by
    match hd, hhd with
    | [a0, a1, a2, a3], _ => exact ⟨a0, a1, a2, a3, rfl⟩
  have hsq : Sq B w val (s.map byteD) := hval
  obtain ⟨va, vc, rfl, _⟩ := hsq.shape
  obtain ⟨da, dc, hds⟩ := hU.row.shape
  have hlo := hU.lt
  have hlw := hU.low
  have hdl := hU.row.low
  have hbx0 : Box w tb [a0, a1, a2, a3, d] 37 := hU.box
  refine enter (vs := [.int .u32 (k : Int), .slice va (s.map byteD).length vc, .pointer (some ⟨tb, 0, none⟩)]) Tryz.func96 rfl Tryz.ntmps96 rfl ?_
  refine wc_parS [(0, .pointer (some ⟨tb, 0 + 4, none⟩)), (1, d), (2, .int .u32 (k : Int)), (3, .slice va (s.map byteD).length vc), (8, .pointer (some ⟨tb, 0 + 4, none⟩))] [9, 7, 6, 5, 4]
    (fun vals w' => match vals with
      | [] => Chg (fun _ => False) w w'
      | [v] => Chg (fun _ => False) w w' ∧ (∃ a n c, v = .slice a n c) ∧ Rep (In 0 w.heap.size w') w' (YU s) [v]
      | [v, _] => Chg (fun _ => False) w w' ∧ ∃ sv, (∃ a n c, sv = .slice a n c) ∧ v = .agg ([.int .u32 (k : Int), sv] : List Value).toArray ∧ Rep (In 0 w.heap.size w') w' (YU s) [sv]
      | [v, _, _] => Chg (fun _ => False) w w' ∧ ∃ (b8 : Nat) (sv : Value), (∃ a n c, sv = .slice a n c) ∧ v = .slice (some ⟨b8, 0, none⟩) 1 1 ∧ Box w' b8 [.int .u32 (k : Int), sv] 70 ∧ Rep (In 0 w.heap.size w') w' (YU s) [sv]
      | [v, _, _, _] => Chg (fun j => d.ownBlock = some j) w w' ∧ Box w' tb [a0, a1, a2, a3, d] 37 ∧ RowD 0 lo tb 70 2 w' v ((us ++ [(k, s)]).map Uf)
      | _ :: v :: _ => Chg (fun j => j = tb ∨ d.ownBlock = some j) w w' ∧ Box w' tb [a0, a1, a2, a3, v] 37 ∧ RowD 0 lo tb 70 2 w' v ((us ++ [(k, s)]).map Uf))
    mixed rfl rfl rfl rfl rfl (by show ([0,1,2,3,8] : List Nat).Nodup; decide) rfl rfl (by decide) rfl rfl rfl rfl (XR _ _) ?_ ⟨?_, ?_, ?_, ?_, ?_, trivial⟩ ?_
  · intro p hp vals w' hC hnp a kn
    simp only [List.mem_cons, List.not_mem_nil, or_false] at hp
    rcases hp with rfl | rfl | rfl | rfl | rfl
    · exact gv rfl rfl (Yi kn rfl fo_t4)
    · have hbx : Box w' tb [a0, a1, a2, a3, d] 37 := by
        match vals, hC, hnp with
        | [], h, _ => exact hbx0.chg h (fun h => h)
        | [_], h, _ => exact hbx0.chg h.1 (fun h => h)
        | [_, _], h, _ => exact hbx0.chg h.1 (fun h => h)
        | [_, _, _], h, _ => exact hbx0.chg h.1 (fun h => h)
        | [_, _, _, _], h, _ => exact h.2.1
        | _ :: _ :: _ :: _ :: _ :: r, _, hnp =>
          have := hnp 9 (by rw [show ([9, 7, 6, 5, 4] : List Nat).length - (_ :: _ :: _ :: _ :: _ :: r).length = 0 from by simp only [List.length_cons, List.length_nil]; omega]; simp)
          exact absurd (show true = false from this) (by simp)
      exact gv rfl rfl (YB kn rfl Impl.to_tags (hbx.cell0 (i := 4) rfl))
    · exact gv rfl rfl (Ym kn rfl)
    · exact gv rfl rfl (Ym kn rfl)
    · exact gv rfl rfl (Yi kn rfl fo_t4)
  · rintro vals w' hvl hC a kn
    match vals, hvl with
    | [v7, v6, v5, v4], _ =>
      obtain ⟨hc, hbx, hrd⟩ := hC
      obtain ⟨a7, c7, rfl⟩ := hrd.shape
      refine ⟨_, rfl, JI kn rfl rfl Impl.to_tags rfl hbx rfl (fun w'' hbx'' hg'' hs'' => ⟨?_, hbx'', hrd.stored hg''⟩)⟩
      exact (hc.wide (fun j h => .inr h)).trans ((Chg.grown hg'').wide (fun j h => .inl h))
  · rintro vals w' hvl hC a kn
    match vals, hvl with
    | [v6, v5, v4], _ =>
      obtain ⟨hc, b8, sv, ⟨sa, sn, sc, rfl⟩, rfl, hb8, hrep⟩ := hC
      have hsz := hc.size
      have hrdw := hU.row.below ⟨hc.os, hc.tape, hc.output, hc.size, fun j hj => hc.block j hj (fun h => h)⟩
      obtain ⟨xs0, hrow0, hreps0⟩ := hrdw.row
      refine ⟨_, rfl, Yf7 kn Impl.rt_tags rfl rfl hb8 rfl rfl hrow0 (by omega) (by simp only [List.length_map]; omega) (fun d' w'' hrow'' hg'' => ⟨?_, ?_, ?_⟩)⟩
      · have h2 : Chg (fun j => d.ownBlock = some j) w' w'' := ⟨hg''.grown.os, hg''.grown.tape, hg''.grown.output, hg''.grown.size, fun j hj hn => hg''.grown.block j hj (fun e => hn e.symm)⟩
        exact (hc.wide (fun j h => h.elim)).trans h2
      · have hb := hbx0.chg hc (fun h => h)
        exact hb.kept hg''.grown (fun e => hU.row.apart e.symm)
      · rw [List.map_append, List.map_cons, List.map_nil]
        refine hrdw.snoc (by omega) (by have := hbx0.lt; omega) hreps0 ?_ hrow'' hg''
        simp only [Uf, Rep, YH]
        refine ⟨[_], _, rfl, rfl, [_], _, rfl, ?_, rfl⟩
        refine hrep.up (fun r hr => ⟨.inr (by rcases hr.1 with h | h; exact absurd h (Nat.not_lt_zero _); omega), hr.2, ?_, fun e => ?_⟩) (fun _ _ => rfl)
        · rcases hr.1 with h | h
          · exact absurd h (Nat.not_lt_zero _)
          · have := hbx0.lt; omega
        · rcases hr.1 with h | h
          · exact absurd h (Nat.not_lt_zero _)
          · have := (hdl r e).2; omega
  · rintro vals w' hvl hC a kn
    match vals, hvl with
    | [v5, v4], _ =>
      obtain ⟨hc, sv, ⟨sa, sn, sc, rfl⟩, rfl, hrep⟩ := hC
      have hga := Xt w' (.cells ([.int .u32 (k : Int), .slice sa sn sc] : List Value).toArray 70)
      refine ⟨_, rfl, Uh (cs := [.int .u32 (k : Int), .slice sa sn sc]) kn Impl.rt_tags rfl rfl rfl rfl ⟨hc.trans (Chg.grown0 hga), _, _, ⟨sa, sn, sc, rfl⟩, rfl, XN _ _ _, hrep.up (fun r hr => ⟨hr.1, by have := hr.2; simp; omega⟩) (fun r hr => hga.block r hr.2 (by simp))⟩⟩
  · rintro vals w' hvl hC a kn
    match vals, hvl with
    | [v4], _ =>
      obtain ⟨hc, ⟨sa, sn, sc, rfl⟩, hrep⟩ := hC
      exact ⟨_, rfl, Yc5 (ps := [(0, .tmp 7), (1, .tmp 9)]) (cs := [.int .u32 (k : Int), .slice sa sn sc]) kn rfl (by kernel_rfl) ⟨hc, _, ⟨sa, sn, sc, rfl⟩, rfl, hrep⟩⟩
  · rintro vals w' hvl hC a kn
    match vals, hvl with
    | [], _ =>
      have hsb : Ve w' (.slice va (s.map byteD).length vc) s := hsq.bytes.below ⟨hC.os, hC.tape, hC.output, hC.size, fun j hj => hC.block j hj (fun h => h)⟩
      refine ⟨_, rfl, UI kn tb_bytes tb_bytes rfl rfl hsb (Own.nil w' w'.heap.size 5) (Nat.le_refl _) (by simpa using hs) (fun d' w'' ho hg => ?_)⟩
      rw [List.nil_append] at ho
      obtain ⟨oa, oc, rfl⟩ := ho.shape
      refine ⟨hC.trans (Chg.grown0 hg.grown), ⟨_, _, _, rfl⟩, own_rep (l0 := w.heap.size) ho hC.size⟩
  · rintro vals w' hvl hC
    match vals, hvl with
    | [v9, v7, v6, v5, v4], _ =>
      obtain ⟨hc, hbx, hrd⟩ := hC
      exact JJ rfl ⟨rfl, v7, ⟨hbx, hrd, hlo, by have := hc.size; omega⟩, hc⟩
def k0 : Tk := ⟨37, 117, 999999, 999999, 95, 97, [143, 96], 70, []⟩
theorem k0_ok : TkOk Tryz.prog k0 true := ⟨Tlk.tty, (fun _ => Tlk.boolP), (fun h => Bool.noConfusion (h.symm.trans (show Uq Tryz.prog 999999 = false by kernel_rfl))), (fun h => Bool.noConfusion (h.symm.trans (show Uq Tryz.prog 999999 = false by kernel_rfl))), fun f fs h => by cases h⟩
theorem k0_tg : TgOk Tryz.prog k0 := ⟨Tlk.eachP, Tlk.sortP, fun f h => by
  simp only [k0, List.contains_eq_mem, decide_eq_true_eq, List.mem_cons, List.not_mem_nil, or_false] at h
  rcases h with rfl | rfl
  · exact clo_ListPartitionReassignmentsRequestTopic
  · exact clo_ListPartitionReassignmentsRequest⟩
theorem tell_sListPartitionReassignmentsRequestTopic : TlPo Tryz.prog 94 true 0 sListPartitionReassignmentsRequestTopic := tellFn_ok k0_ok (fun _ => k0_tg) mixed (by kernel_rfl)
def k1 : Tk := ⟨k0.tT, k0.bool, k0.text, k0.octs, k0.each, k0.sorted, k0.clos, k0.gT, (94, sListPartitionReassignmentsRequestTopic) :: k0.tells⟩
theorem k1_ok : TkOk Tryz.prog k1 true := Tlk.tk_cons k0_ok tell_sListPartitionReassignmentsRequestTopic
theorem k1_tg : TgOk Tryz.prog k1 := Tlk.tg_cons k0_tg _ _
theorem tell_top : TlPo Tryz.prog 44 true 1 m.fields := tellFn_ok k1_ok (fun _ => k1_tg) mixed (by kernel_rfl)
set_option maxHeartbeats 4000000 in
theorem fn_door (v : Nat) (hv : v ≤ most) (t : Tree) (ht : t.ok) (w : World) (ev sv : Value) (hs : Ve w sv (Xb (v : Int) (m.flexible (v : Int)) m.fields t)) (hg : w.cell? ⟨1, 0, none⟩ = some ev)
    (hl : (Xb (v : Int) (m.flexible (v : Int)) m.fields t).length ≤ lim) :
    Calls Tryz.prog 14 #[.int .i64 (v : Int), sv] w fun e w' => ∃ cs T, e = .returned (.tuple #[.agg cs.toArray, .bool true]) ∧ Rep (Lo w'.heap.size) w' (treeD T) cs ∧ T.small ∧ ToP (v : Int) (m.flexible (v : Int)) m.fields t T ∧ Below w.heap.size w w' := by
  have hvm : v < 32768 := by simp only [most] at hv; omega
  obtain ⟨sa, sc, hsv⟩ := hs.shape
  refine enter (vs := [.int .i64 (v : Int), sv]) Tryz.func14 rfl Tryz.ntmps14 rfl ?_
  repeat (with_reducible first|apply Yd|apply Ya)
  refine YT Impl.zv_tree rfl rfl (fun w0 hb0 hg0 hs0 => ?_)
  have hw0 : Below w.heap.size w w0 := Yg hg0 (Nat.le_refl _) (by simp)
  repeat first|(with_reducible first|apply Yd|apply Ya|apply Yc|apply Yb)|((with_reducible apply ws);exact rfl;exact rfl)
  refine Yt rfl (by kernel_rfl) rfl ((fn_new w0).mono ?_)
  rintro e w1 ⟨rfl, hb1, hw01⟩
  refine ⟨_, rfl, ?_⟩
  have hz01 := hw01.size
  have hw1 := hw0.trans (hw01.mono (by omega))
  repeat first|(with_reducible first|apply Yd|apply Ya|apply Yc|apply Yb)|((with_reducible apply ws);exact rfl;exact rfl)
  refine YZ .i16 rfl ti_i64 ti_i16 rfl (r := (v : Int)) (be2_ver v hvm) ?_
  rw [d0_hd] at hb1
  refine Yt rfl (by kernel_rfl) rfl ((fn_set w1 w0.heap.size _ _ (v : Int) hb1).mono ?_)
  rintro e w2 ⟨rfl, hb2, hg2⟩
  refine ⟨_, rfl, ?_⟩
  have hlt := hb1.lt
  have hw12 : Below w0.heap.size w1 w2 := Yg hg2 (by omega) (by intro q hq; simp at hq; omega)
  have hw2 := hw1.trans (hw12.mono (by omega))
  have hs2 := hs.below hw2
  have hz2 := hg2.size
  repeat first|(with_reducible first|apply Yd|apply Ya|apply Yc|apply Yb)|((with_reducible apply ws);exact rfl;exact rfl)
  refine Vg tb_bytes tb_bytes rfl rfl rfl hs2 (Own.nil w2 w2.heap.size 5) (Nat.le_refl _) (by simp only [List.length_nil]; omega) (fun d3 w3 ho3 hg3 => ?_)
  have hw23 : Below w2.heap.size w2 w3 := hg3.below (Nat.le_refl _) (by simp [Value.ownBlock])
  have hw3 := hw2.trans (hw23.mono (by omega))
  have hb3 := hb2.below hw23 (by omega)
  have hz3 := hw23.size
  have hgl : 1 < w.heap.size := World.block_lt_of_cell? _ _ hg
  have hg3' : w3.cell? ⟨1, 0, none⟩ = some ev := by rw [← hg]; simp only [World.cell?, hw3.block _ hgl]
  rw [List.nil_append] at ho3
  obtain ⟨sb, hsb, hsbx, hsrc⟩ := own_src ho3 (by simp only [srcLim]; simp only [lim] at hl; omega) (x0 := 1) (by omega)
  have hb03 : Box w3 w.heap.size [.int .i64 0, .slice none 0 0, .bool false, .slice none 0 0, .slice none 0 0] 37 := ((hb0.below hw01 (by omega)).below hw12 (by omega)).below hw23 (by omega)
  refine Yt rfl (by kernel_rfl) rfl ((fn_read v hv t ht w3 ev d3 w0.heap.size sb hb3 hsrc hsb (by omega) hg3' (by omega) (by omega)).mono ?_)
  rintro e w4 ⟨rfl, cs4, lo4, new4, hlo4, hb4, hr4, hh4, hc4⟩
  refine ⟨_, rfl, ?_⟩
  have hw34 : Below w0.heap.size w3 w4 := chg_below hc4 (fun j hj h => by rcases h with h | h <;> omega) (by omega)
  have hw4 := hw3.trans (hw34.mono (by omega))
  have hz4 := hw34.size
  have hb04 := hb03.below hw34 (by omega)
  refine wl_ifNeNil rfl (by kernel_rfl) rfl ?_
  repeat (with_reducible first|apply Yc|apply Yb)
  refine Yu rfl rfl ?_
  repeat first|(with_reducible first|apply Yd|apply Ya|apply Yb|apply Yj)|((with_reducible apply ws);exact rfl;exact rfl)
  obtain ⟨_, htab⟩ := rd v hv
  obtain ⟨hfit, _⟩ := fitt_ok htab ht (m.flexible (v : Int))
  have hnull : (Jq (v : Int) m.fields t).withNull false = Jq (v : Int) m.fields t := rfl
  rw [hnull] at hh4 hfit
  obtain ⟨T0, hT0⟩ := exP_of' (tg_ok (v : Int)) tabT_m hfit hh4
  simp only [YH] at hr4
  obtain ⟨c1, c2, rfl, hc1, hr4⟩ := hr4
  simp only [Rep] at hc1
  subst hc1
  have hat : YC w4 w0.heap.size (0 + 1) c2 := by
    have := hb4.cells.right
    simpa using this
  have hr4' : YH (Lo w4.heap.size) w4 new4 c2 := YH.mono (fun j hj => ⟨hj.2, rfl⟩) _ _ hr4
  have htell := tell_top.2 w4.heap.size w4 w0.heap.size 0 c2 new4 T0 hat hr4' (by omega) (Nat.le_refl _) hT0
  refine Yt rfl tell_top.1 rfl (htell.mono ?_)
  rintro e w5 ⟨cs5, T, rfl, hr5, hT5, hc5⟩
  refine ⟨_, rfl, ?_⟩
  have hz5 := hc5.size
  have hw45 : Below w4.heap.size w4 w5 := ⟨hc5.os, hc5.tape, hc5.output, hc5.size, fun j hj => hc5.block j hj (fun h => h)⟩
  have hw5 := hw4.trans (hw45.mono (by omega))
  have hb05 := hb04.below hw45 (by omega)
  obtain ⟨hone, hlen5⟩ := Ya1 hr5
  refine Yv (vs := cs5) rfl rfl rfl (by rw [hlen5]; exact Impl.tz_tree) hone hb05 (by rw [hlen5]; rfl) (fun w6 hb6 hg6 hs6 => ?_)
  repeat first|(with_reducible first|apply Yc|apply Yb|apply Yl)|((with_reducible apply ws);exact rfl;exact rfl)
  have hw56 : Below w.heap.size w5 w6 := Yg hg6 (by omega) (by intro q hq; simp at hq; omega)
  refine qk_retCell2 rfl rfl (by rw [hlen5]; exact Impl.ta_tree) hb6 rfl ⟨cs5, T, rfl, ?_, small_P m_ok hT5, top_of (tg_ok (v : Int)) tabT_m ht hh4 hT5, hw5.trans hw56⟩
  exact hr5.up (fun r hr => by have := hr.2; simp only [Lo]; omega) (fun r hr => hg6.block r hr.2 (by rcases hr.1 with h | h; exact absurd h (Nat.not_lt_zero _); simp; omega))
end
end Go.Proofs.YtjfgalpjjnncaaaGreatDoor.BListPartitionReassignmentsRequest

namespace Go.Proofs.YtjfgalpjjnncaaaGreatDoor.BListPartitionReassignmentsRequest
open Go Go.RowKit
section
set_option maxRecDepth 100000
theorem len_ok (t : Tree) (ht : t.ok) (ver : Int) (flex : Bool) : 1000 + (Xb ver flex m.fields t).length ≤ lim := by
  have h1 := wPart_most ver flex m.fields t ht
  have h2 : ∀ b : Bool, 1000 + partMost b m.fields ≤ lim := by decide
  have h3 := h2 flex
  omega
set_option maxHeartbeats 4000000 in
theorem fn_law (n : Nat) (hn : n < 256) (t : Tree) (ht : t.ok) (w : World) (ev : Value) (ts : List Value) (hrep : Rep (Lo w.heap.size) w (treeD t) ts) (hg : w.cell? ⟨1, 0, none⟩ = some ev) :
    Fn 3 [.int .u8 (n : Int), .agg ts.toArray] w fun v _ => v = .bool true := by
  obtain ⟨sv2, lv, uv, rfl, _, _, _⟩ := Xh hrep
  refine enter Tryz.func3 rfl Tryz.ntmps3 rfl ?_
  repeat (with_reducible first|apply Yd|apply Ya)
  refine XA rfl rfl rfl (fun w1 hb1 hg1 hs1 => ?_)
  have hw1 : Below w.heap.size w w1 := Yg hg1 (Nat.le_refl _) (by simp)
  repeat first|(with_reducible first|apply Yd|apply Ya|apply Yc|apply Yb)|((with_reducible apply ws);exact rfl;exact rfl)
  refine YE (cs := [.int .i64 t.n, sv2, .bool t.nul, lv, uv]) rfl ta_tree rfl hb1 ?_
  skip
  refine Yt rfl (by kernel_rfl) rfl ((fn_fits1 t w.heap.size w1 _ (by omega) (hrep.below hw1 (Nat.le_refl _))).mono ?_)
  rintro e w2 ⟨v, rfl, hw12, q, rfl⟩
  refine ⟨_, rfl, ?_⟩
  have hz12 := hw12.size
  have hw2 := hw1.trans (hw12.mono (by omega))
  repeat first|(with_reducible first|apply Yc|apply Yb)|((with_reducible apply ws);exact rfl;exact rfl)
  cases q
  · refine Yq rfl rfl ?_
    repeat first|(with_reducible first|apply Yd|apply Ya|apply Yc|apply Yb|apply Yl|apply Yh)|((with_reducible apply ws);exact rfl;exact rfl)
    exact Yk rfl rfl ⟨_, rfl, hw2, rfl⟩
  refine Yu rfl rfl ?_
  repeat (with_reducible first|apply Yd|apply Ya|apply Yb|apply Yj)
  refine Yt rfl (by kernel_rfl) rfl ((fn_max w2).mono ?_)
  rintro e w3 ⟨rfl, hw23⟩
  refine ⟨_, rfl, ?_⟩
  have hz23 := hw23.size
  have hw13 := hw12.trans (hw23.mono (by omega))
  have hw3 := hw2.trans (hw23.mono (by omega))
  repeat first|(with_reducible first|apply Yd|apply Ya|apply Yc|apply Yb)|((with_reducible apply ws);exact rfl;exact rfl)
  refine Yu rfl (by decide) ?_
  repeat (with_reducible first|apply Yd|apply Ya|apply Yb|apply Yj)
  refine Yt rfl (by kernel_rfl) rfl ((fn_table w3).mono ?_)
  rintro e w4 ⟨v, rfl, hw34, fv, rfl, hsq⟩
  refine ⟨_, rfl, ?_⟩
  have hz34 := hw34.size
  have hw14 := hw13.trans (hw34.mono (by omega))
  have hw4 := hw3.trans (hw34.mono (by omega))
  repeat ((with_reducible apply ws);exact rfl;exact rfl)
  refine Yt rfl (by kernel_rfl) rfl ((fn_version n most hn (by decide) w4).mono ?_)
  rintro e w4' ⟨v, rfl, _, hww, rfl⟩
  obtain rfl : w4 = w4' := hww.symm
  refine ⟨_, rfl, ?_⟩
  refine YT zv_msg rfl rfl (fun w5 hb5 hg5 hs5 => ?_)
  obtain ⟨fa, fc, rfl, _⟩ := hsq.shape
  refine Yv (vs := [.slice fa (m.fields.map fldD).length fc, .int .i64 m.flex]) rfl rfl rfl tz_msg rfl hb5 rfl (fun w6 hb6 hg6 hs6 => ?_)
  have hw46 : Below w4.heap.size w4 w6 := (Yg hg5 (Nat.le_refl _) (by simp)).trans (Yg hg6 (by omega) (by intro q hq; simp at hq; omega))
  have hz46 := hw46.size
  have hw16 := hw14.trans (hw46.mono (by omega))
  have hw6 := hw4.trans (hw46.mono (by omega))
  repeat first|(with_reducible first|apply Yd|apply Ya|apply Yc|apply Yb)|((with_reducible apply ws);exact rfl;exact rfl)
  have hv : n % (most + 1) ≤ most := by have := Nat.mod_lt n (show most + 1 > 0 by omega); omega
  generalize n % (most + 1) = v at hv ⊢
  have hll := len_ok t ht (v : Int) (m.flexible (v : Int))
  refine YE (cs := [.slice fa (m.fields.map fldD).length fc, .int .i64 m.flex]) rfl ta_msg rfl hb6 ?_
  repeat ((with_reducible apply ws);exact rfl;exact rfl)
  refine YE (cs := [.int .i64 t.n, sv2, .bool t.nul, lv, uv]) rfl ta_tree rfl (hb1.below hw16 hb1.lt) ?_
  refine Yt rfl (by kernel_rfl) rfl ((fn_write m m_ok (v : Int) t w6.heap.size w6 _ _ ht (Nat.le_refl _) (hsq.below hw46 hz46) ((hrep.below hw6 hw6.size)) (by show (Xb _ _ _ _).length ≤ lim; omega)).mono ?_)
  rintro e w7 ⟨bv7, rfl, hw67, ho7⟩
  refine ⟨_, rfl, ?_⟩
  have ho7' : Own w7 w6.heap.size 5 bv7 (Xb (v : Int) (m.flexible (v : Int)) m.fields t) := ho7
  have hz67 := hw67.size
  have hz6 := hw6.size
  have hw7 := hw6.trans (hw67.mono (by omega))
  have hg7 : w7.cell? ⟨1, 0, none⟩ = some ev := by rw [← hg]; simp only [World.cell?, hw7.block _ (World.block_lt_of_cell? _ _ hg)]
  skip
  refine Yt rfl (by kernel_rfl) rfl ((fn_door v hv t ht w7 ev _ ho7'.bytes hg7 (by omega)).mono ?_)
  rintro e w8 ⟨cs8, T, rfl, hr8, hsm8, hto8, hw78⟩
  refine ⟨_, rfl, ?_⟩
  have hz78 := hw78.size
  have hw8 := hw7.trans (hw78.mono (by omega))
  obtain ⟨hone8, hlen8⟩ := Ya4 hr8
  repeat ((with_reducible apply ws);exact rfl;exact rfl)
  refine wl_extract rfl rfl rfl ?_
  refine wl_extract rfl rfl rfl ?_
  refine YT Impl.zv_tree rfl rfl (fun w9 hb9 hg9 hs9 => ?_)
  refine Yv (vs := cs8) rfl rfl rfl (by rw [hlen8]; exact Impl.tz_tree) hone8 hb9 (by rw [hlen8]; rfl) (fun w10 hb10 hg10 hs10 => ?_)
  have hw810 : Below w8.heap.size w8 w10 := (Yg hg9 (Nat.le_refl _) (by simp)).trans (Yg hg10 (by omega) (by intro q hq; simp at hq; omega))
  have hz810 := hw810.size
  have hz7 := hw7.size
  have hw10 := hw8.trans (hw810.mono (by omega))
  have hw610 : Below w6.heap.size w6 w10 := (hw67.trans (hw78.mono (by omega))).trans (hw810.mono (by omega))
  have hw110 := hw16.trans (hw610.mono (by omega))
  have hb610 := hb6.below hw610 hb6.lt
  have hr10 : Rep (Lo w10.heap.size) w10 (treeD T) cs8 := Rep.below hr8 hw810 hz810
  repeat first|(with_reducible first|apply Yd|apply Yc|apply Yb)|((with_reducible apply ws);exact rfl;exact rfl)
  refine XH [(0, .bool true), (1, .bool true), (2, .pointer (some ⟨w4.heap.size, 0 + 0, none⟩)), (3, .slice fa (m.fields.map fldD).length fc), (4, .int .i64 (v : Int)), (5, .agg ([.slice fa (m.fields.map fldD).length fc, .int .i64 m.flex] : List Value).toArray), (6, .int .i64 (v : Int)), (8, .agg ([.int .i64 t.n, sv2, .bool t.nul, lv, uv] : List Value).toArray), (9, .agg cs8.toArray)] [13, 12, 11, 10, 7]
    (fun vals w' => Below w10.heap.size w10 w' ∧ match vals with
      | [] => True
      | [v7] => v7 = .bool (m.flexible (v : Int))
      | [v10, v7] => v7 = .bool (m.flexible (v : Int)) ∧ ∃ cs : List Value, v10 = .agg cs.toArray ∧ Rep (In w10.heap.size w10.heap.size w') w' (treeD T) cs
      | v :: _ => v = .bool true)
    mixed rfl rfl rfl rfl rfl (by show ([0,1,2,3,4,5,6,8,9] : List Nat).Nodup; decide) rfl rfl (by decide) rfl rfl rfl rfl ⟨(Below.refl _ w10).drew, trivial⟩ ?_ ⟨?_, ?_, ?_, ?_, ?_, trivial⟩ ?_
  · intro p hp vals w' hC a k
    simp only [List.mem_cons, List.not_mem_nil, or_false] at hp
    rcases hp with rfl | rfl | rfl | rfl | rfl | rfl | rfl | rfl | rfl
    · exact gv rfl rfl (Ym k rfl)
    · exact gv rfl rfl (Ym k rfl)
    · exact YJ rfl rfl rfl k rfl rfl (Yi k rfl fo_msg0)
    · exact YJ rfl rfl rfl k rfl rfl (YB k rfl to_flds ((hb610.below hC.1 (by omega)).cell0 (i := 0) rfl))
    · exact YJ rfl rfl rfl k rfl rfl (Ym k rfl)
    · exact YJ rfl rfl rfl k rfl rfl (YY k rfl ta_msg (hb610.below hC.1 (by omega)))
    · exact YJ rfl rfl rfl k rfl rfl (Ym k rfl)
    · exact YJ rfl rfl rfl k rfl rfl (YY k rfl ta_tree ((hb1.below hw110 hb1.lt).below hC.1 (by omega)))
    · exact YJ rfl rfl rfl k rfl rfl (YY k rfl (by rw [hlen8]; exact Impl.ta_tree) (hb10.below hC.1 (by omega)))
  · rintro vals w' hvl ⟨hb', hC⟩ a k
    match vals, hvl with
    | [v12, v11, v10, v7], _ => exact ⟨_, rfl, XC k rfl ⟨hb', hC⟩⟩
  · rintro vals w' hvl ⟨hb', hC⟩ a k
    match vals, hvl with
    | [v11, v10, v7], _ =>
      simp only [] at hC
      subst hC
      exact ⟨_, rfl, Yg5 (b := true) (v := .bool true) k rfl rfl ⟨hb', rfl⟩⟩
  · rintro vals w' hvl ⟨hb', hC⟩ a k
    match vals, hvl with
    | [v10, v7], _ =>
      obtain ⟨rfl, cs, rfl, hr⟩ := hC
      have hz' := hb'.size
      refine ⟨_, rfl, YA k rfl (by kernel_rfl) ((to_ok (v : Int) (m.flexible (v : Int)) m.fields m_ok tabT_m t T w'.heap.size w' _ _ _ ht (Nat.le_refl _) (hsq.below ((hw46.trans (hw610.mono (by omega))).trans (hb'.mono (by omega))) (by omega)) (Rep.below hrep (hw10.trans (hb'.mono (by have := hw10.size; omega))) (by have := hw10.size; omega)) (hr.up (fun r hr => hr.2) (fun _ _ => rfl)) hto8).mono ?_)⟩
      rintro e w'' ⟨v, rfl, hb'', rfl⟩
      exact ⟨_, rfl, hb'.trans (hb''.mono hb'.size), rfl⟩
  · rintro vals w' hvl ⟨hb', hC⟩ a k
    match vals, hvl with
    | [v7], _ =>
      simp only [] at hC
      have hz' := hb'.size
      refine ⟨_, rfl, YA k rfl (by kernel_rfl) ((Got.got_ok T w10.heap.size w' _ hsm8 hz' (Rep.below hr10 hb' (Nat.le_refl _))).mono ?_)⟩
      rintro e w'' ⟨v, rfl, hb'', cs, rfl, hr⟩
      exact ⟨_, rfl, hb'.trans (hb''.mono hb'.size), hC, cs, rfl, hr.up (fun r hr => ⟨hr.1.imp (fun h => h) (fun h => by omega), hr.2⟩) (fun _ _ => rfl)⟩
  · rintro vals w' hvl ⟨hb', hC⟩ a k
    match vals, hvl with
    | [], _ =>
      refine ⟨_, rfl, YA k rfl (by kernel_rfl) ((fn_flexM m (v : Int) _ w').mono ?_)⟩
      rintro e w'' ⟨v, rfl, hb'', rfl⟩
      exact ⟨_, rfl, hb'.trans (hb''.mono hb'.size), rfl⟩
  · rintro vals w' hvl ⟨hb', hC⟩
    match vals, hvl with
    | [v13, v12, v11, v10, v7], _ =>
      simp only [] at hC
      subst hC
      refine Yb ?_
      repeat (with_reducible apply Yl)
      exact Yk rfl rfl ⟨_, rfl, hw10.trans (hb'.mono hw10.size), rfl⟩
end
end Go.Proofs.YtjfgalpjjnncaaaGreatDoor.BListPartitionReassignmentsRequest

namespace Go.Proofs.YtjfgalpjjnncaaaGreatDoor
open Go Go.RowKit Go.ChangeShapes Go.WideShapes Go.ChangeAt
theorem row_at {W : World} {a : Addr} {sz len : Nat} {f : Nat → List Value} (hsz : 0 < sz) (hlen : 0 < len)
    (hf : ∀ i, i < len → (f i).length = sz ∧ ∀ j v, (f i)[j]? = some v → W.cell? ((a.add (i * sz)).add j) = some v) :
    ∃ b off, a = ⟨b, off, none⟩ ∧ b < W.heap.size ∧ YC W b off ((List.range len).flatMap f) := by
  have h0 := hf 0 hlen
  obtain ⟨b, off, spot⟩ := a
  have hx : ∃ v, (f 0)[0]? = some v := by
    cases hv : (f 0)[0]? with
    | none => rw [List.getElem?_eq_none_iff] at hv; omega
    | some v => exact ⟨v, rfl⟩
  obtain ⟨v0, hv0⟩ := hx
  have hc0 := h0.2 0 v0 hv0
  have hspot : spot = none := by simpa [Addr.add] using World.cell?_spot hc0
  subst hspot
  simp only [Nat.zero_mul] at hc0
  have hadd : ∀ n m, (Addr.add (Addr.add ⟨b, off, none⟩ n) m) = ⟨b, off + n + m, none⟩ := fun n m => by rw [YO ⟨b, off, none⟩ n rfl]; rw [YO _ _ rfl]
  rw [hadd] at hc0
  have hobj : ∃ arr e fz, W.heap[b]? = some (.cells arr e fz) := by
    unfold World.cell? at hc0
    split at hc0
    · rename_i c e fz hh; exact ⟨c, e, fz, hh⟩
    · cases hc0
  obtain ⟨arr, e, fz, hh⟩ := hobj
  have hall : ∀ i j v, i < len → (f i)[j]? = some v → arr[off + i * sz + j]? = some v := by
    intro i j v hi hv
    have := (hf i hi).2 j v hv
    rw [hadd] at this
    simpa [World.cell?, hh] using this
  have hflat : ∀ n, n ≤ len → ((List.range n).flatMap f).length = n * sz ∧ ∀ q v, ((List.range n).flatMap f)[q]? = some v → arr[off + q]? = some v := by
    intro n
    induction n with
    | zero => intro _; simp
    | succ n ih =>
      intro hn
      obtain ⟨hl, hq⟩ := ih (by omega)
      rw [List.range_succ, List.flatMap_append]
      simp only [List.flatMap_cons, List.flatMap_nil, List.append_nil]
      refine ⟨by rw [List.length_append, hl, (hf n (by omega)).1, Nat.succ_mul], fun q v hv => ?_⟩
      by_cases hlt : q < n * sz
      · rw [List.getElem?_append_left (by omega)] at hv; exact hq q v hv
      · rw [List.getElem?_append_right (by omega), hl] at hv
        have := hall n (q - n * sz) v (by omega) hv
        rwa [show off + n * sz + (q - n * sz) = off + q from by omega] at this
  obtain ⟨hl, hq⟩ := hflat len (Nat.le_refl _)
  refine ⟨b, off, rfl, (Array.getElem?_eq_some_iff.1 hh).1, arr, e, fz, hh, ?_, hq⟩
  have hpos : 0 < len * sz := Nat.mul_pos hlen hsz
  have hlast : ∃ v, ((List.range len).flatMap f)[len * sz - 1]? = some v := by
    cases hv : ((List.range len).flatMap f)[len * sz - 1]? with
    | none => rw [List.getElem?_eq_none_iff] at hv; omega
    | some v => exact ⟨v, rfl⟩
  obtain ⟨v, hv⟩ := hlast
  have := (Array.getElem?_eq_some_iff.1 (hq _ v hv)).1
  rw [hl]; omega
theorem sum_le : ∀ (a b : List Nat), a.length = b.length → (∀ i (h : i < a.length) (h' : i < b.length), a[i] ≤ b[i]) → a.sum ≤ b.sum
  | [], b, _, _ => by simp
  | x :: a, [], h, _ => by simp at h
  | x :: a, y :: b, h, hall => by
    have h0 := hall 0 (by simp) (by simp)
    have h1 := sum_le a b (by simpa using h) (fun i hi hi' => by have := hall (i + 1) (by simpa using hi) (by simpa using hi'); simpa using this)
    simp only [List.getElem_cons_zero] at h0
    simp only [List.sum_cons]; omega
section
variable {H : Type} {enc : TypeId × Value → H} {P : Program} {W : World} {base : Nat} {spare : Nat → Bool} {held : Bool}
theorem open_sq {α : Type} {t e sz : Nat} (ht : P.underlying t = some (.slice e)) (hc : P.cellsOf e = sz) (hsz : 0 < sz) (g : α → D) (φ : α → Prop) (f0 : α → Nat) (bk : DataW H → Nat) (hnil : 1 ≤ bk .nil) (hsl : ∀ es sp : List (DataW H), (es.map bk).sum + 1 ≤ bk (.slice es sp)) {fuel : Nat} {cs : List Value} {x : DataW H × List MemPlace}
    (h : DataW.trod enc P W base spare held fuel t cs = some x)
    (hel : ∀ n cs' x', n < fuel → DataW.trod enc P W base spare held n e cs' = some x' → ∃ y : α, Rep (Lo W.heap.size) W (g y) cs' ∧ φ y ∧ f0 y ≤ bk x'.1) :
    ∃ (l : List α) (v : Value), cs = [v] ∧ l.length ≤ maxLen ∧ Sq W.heap.size W v (l.map g) ∧ (∀ y ∈ l, φ y) ∧ (l.map f0).sum + 1 ≤ bk x.1 := by
  rcases DataW.trod_slice ht h with ⟨rfl, rfl⟩ | ⟨a, len, cap, elems, rest, n, hfu, rfl, rfl, hb, hle, hcap, hlen, hels, _, _⟩
  · exact ⟨[], _, rfl, by simp, rep_nil _ _, by simp, by simpa using hnil⟩
  · have hone : ∀ i : Fin len, ∃ p : List Value × α, W.cells? base (a.add (i.1 * sz)) sz = some p.1 ∧ Rep (Lo W.heap.size) W (g p.2) p.1 ∧ φ p.2 ∧ f0 p.2 ≤ bk (elems[i.1]'(by have := i.2; omega)).1 := by
      intro ⟨i, hi⟩
      have h1 := hels i hi
      rw [List.getElem?_eq_getElem (by omega), hc] at h1
      obtain ⟨cs', h2, h3⟩ := Option.bind_eq_some_iff.1 h1
      obtain ⟨y, hy, hφ⟩ := hel n cs' _ (by omega) h3
      exact ⟨(cs', y), h2, hy, hφ⟩
    let F : Fin len → List Value × α := fun i => Classical.choose (hone i)
    have hF : ∀ i : Fin len, W.cells? base (a.add (i.1 * sz)) sz = some (F i).1 ∧ Rep (Lo W.heap.size) W (g (F i).2) (F i).1 ∧ φ (F i).2 ∧ f0 (F i).2 ≤ bk (elems[i.1]'(by have := i.2; omega)).1 := fun i => Classical.choose_spec (hone i)
    let f : Nat → List Value := fun i => if hi : i < len then (F ⟨i, hi⟩).1 else []
    let l : List α := List.ofFn fun i => (F i).2
    have hll : l.length = len := by simp [l]
    have hφ : ∀ y ∈ l, φ y := by
      intro y hy
      obtain ⟨i, hi⟩ := (List.mem_ofFn).1 hy
      rw [← hi]; exact (hF i).2.2.1
    have hsum : (l.map f0).sum + 1 ≤ bk (.slice (elems.map (·.1)) (rest.map (·.1))) := by
      refine Nat.le_trans (Nat.succ_le_succ (sum_le (l.map f0) ((elems.map (·.1)).map bk) (by simp [hll, hlen]) (fun i hi hi' => ?_))) (hsl _ _)
      have hi2 : i < len := by simpa [hll] using hi
      have := (hF ⟨i, hi2⟩).2.2.2
      simpa [l] using this
    refine ⟨l, _, rfl, by rw [hll]; omega, ?_, hφ, hsum⟩
    simp only [Sq, Rep]
    refine ⟨some a, cap, by simp [hll], by simpa [hll] using hle, ?_⟩
    by_cases hpos : 0 < len
    · have hfi : ∀ i, i < len → (f i).length = sz ∧ ∀ j v, (f i)[j]? = some v → W.cell? ((a.add (i * sz)).add j) = some v := by
        intro i hi
        have h1 := (hF ⟨i, hi⟩).1
        have h2 := World.cells?_some h1
        simp only [f, dif_pos hi]
        refine ⟨h2.2.1, fun j v hj => ?_⟩
        have := h2.2.2 j (by have := (List.getElem?_eq_some_iff.1 hj).1; omega)
        rw [this]; exact hj
      obtain ⟨b, off, rfl, hlt, hcells⟩ := row_at hsz hpos hfi
      refine .inr ⟨b, off, _, rfl, hlt, hcells, ?_⟩
      have hreps : ∀ n, n ≤ len → YH (Lo W.heap.size) W ((l.take n).map g) ((List.range n).flatMap f) := by
        intro n
        induction n with
        | zero => intro _; simp [YH]
        | succ n ih =>
          intro hn
          have hnl : n < l.length := by omega
          rw [List.take_succ_eq_append_getElem hnl, List.map_append, List.range_succ, List.flatMap_append]
          refine (YH.app _ _ _).2 ⟨_, _, rfl, ih (by omega), ?_⟩
          simp only [List.map_cons, List.map_nil, List.flatMap_cons, List.flatMap_nil, List.append_nil, YH]
          refine ⟨f n, [], by simp, ?_, rfl⟩
          have hln : l[n] = (F ⟨n, by omega⟩).2 := by simp [l]
          have hfn : f n = (F ⟨n, by omega⟩).1 := by simp only [f]; rw [dif_pos (by omega)]
          rw [hln, hfn]; exact (hF ⟨n, by omega⟩).2.1
      have := hreps len (Nat.le_refl _)
      rwa [List.take_of_length_le (by omega)] at this
    · have : l = [] := List.length_eq_zero_iff.1 (by omega)
      left; rw [this]; rfl
end
end Go.Proofs.YtjfgalpjjnncaaaGreatDoor

namespace Go.Proofs.YtjfgalpjjnncaaaGreatDoor
open Go Go.RowKit Go.ChangeShapes Go.WideShapes Go.ChangeAt
theorem co_i64 : Tryz.prog.cellsOf 2 = 1 := by kernel_rfl
theorem co_u8 : Tryz.prog.cellsOf 5 = 1 := by kernel_rfl
theorem co_u32 : Tryz.prog.cellsOf 65 = 1 := by kernel_rfl
theorem co_bool : Tryz.prog.cellsOf 4 = 1 := by kernel_rfl
theorem co_bytes : Tryz.prog.cellsOf 22 = 1 := by kernel_rfl
theorem co_trees : Tryz.prog.cellsOf 23 = 1 := by kernel_rfl
theorem co_tags : Tryz.prog.cellsOf 24 = 1 := by kernel_rfl
theorem co_tree : Tryz.prog.cellsOf 26 = 5 := by kernel_rfl
theorem co_tag : Tryz.prog.cellsOf 67 = 2 := by kernel_rfl
theorem len2 {α : Type} {l : List α} (h : l.length = 2) : ∃ a b, l = [a, b] := by
  match l, h with
  | [a, b], _ => exact ⟨a, b, rfl⟩
theorem len5 {α : Type} {l : List α} (h : l.length = 5) : ∃ a b c d e, l = [a, b, c, d, e] := by
  match l, h with
  | [a, b, c, d, e], _ => exact ⟨a, b, c, d, e, rfl⟩
section
set_option maxRecDepth 100000
variable {H : Type} {enc : TypeId × Value → H} {W : World} {base : Nat} {spare : Nat → Bool} {held : Bool}
theorem bk_all {l : List (DataW H)} : Rows.uptoBulkAll l = (l.map Rows.uptoBulk).sum := by
  induction l with
  | nil => rfl
  | cons x l ih => simp only [Rows.uptoBulkAll, List.map_cons, List.sum_cons, ih]
theorem bk_sl (es sp : List (DataW H)) : (es.map Rows.uptoBulk).sum + 1 ≤ Rows.uptoBulk (.slice es sp) := by
  simp only [Rows.uptoBulk, bk_all]; omega
theorem bk_agg (es : List (DataW H)) : (es.map Rows.uptoBulk).sum + 1 ≤ Rows.uptoBulk (.agg es) := by
  simp only [Rows.uptoBulk, bk_all]; omega
theorem bk_int (k : IntKind) (n : Int) : 1 ≤ Rows.uptoBulk (H := H) (.lit (.int k n)) := by simp [Rows.uptoBulk]
theorem bk_nil : 1 ≤ Rows.uptoBulk (H := H) .nil := by simp [Rows.uptoBulk]
theorem wts_sum (l : List Tree) : Tree.wts l = (l.map Tree.wt).sum := by
  induction l with
  | nil => rfl
  | cons x l ih => simp only [Tree.wts, List.map_cons, List.sum_cons, ih]
theorem ones_sum {α : Type} (l : List α) : (l.map fun _ => 1).sum = l.length := by
  induction l with
  | nil => rfl
  | cons x l ih => simp only [List.map_cons, List.sum_cons, List.length_cons, ih]; omega
theorem Yn0 {fuel : Nat} {cs : List Value} {x : DataW H × List MemPlace} (h : DataW.trod enc Tryz.prog W base spare held fuel 22 cs = some x) :
    ∃ (s : List UInt8) (v : Value), cs = [v] ∧ s.length ≤ maxLen ∧ Sq W.heap.size W v (s.map byteD) ∧ s.length + 1 ≤ Rows.uptoBulk x.1 := by
  obtain ⟨l, v, h1, h2, h3, _, h5⟩ := open_sq (e := 5) (sz := 1) Tryz.underlying22 co_u8 (by omega) byteD (fun _ => True) (fun _ => 1) Rows.uptoBulk bk_nil bk_sl h (fun n cs' x' _ hx => by
    obtain ⟨m, rfl, hxe, hw⟩ := DataW.trod_int Tryz.underlying5 hx
    have hm : 0 ≤ m ∧ m ≤ 255 := by simpa [Lit.wf, IntKind.min, IntKind.max, IntKind.signed, IntKind.bits] using hw
    refine ⟨UInt8.ofNat m.toNat, ?_, trivial, by rw [hxe]; exact bk_int _ _⟩
    simp only [byteD, Rep]
    rw [byteNat _ (by omega)]
    congr 2
    omega)
  rw [ones_sum] at h5
  exact ⟨l, v, h1, h2, h3, h5⟩
theorem open_tags {fuel : Nat} {cs : List Value} {x : DataW H × List MemPlace} (h : DataW.trod enc Tryz.prog W base spare held fuel 24 cs = some x) :
    ∃ (u : List (Nat × List UInt8)) (v : Value), cs = [v] ∧ u.length ≤ maxLen ∧ Sq W.heap.size W v (u.map Uf) ∧ (∀ kv ∈ u, kv.1 < 4294967296) ∧ tagsW u + 1 ≤ Rows.uptoBulk x.1 := by
  refine open_sq (e := 67) (sz := 2) Tryz.underlying24 co_tag (by omega) Uf (fun kv => kv.1 < 4294967296) (fun kv => kv.2.length + 1) Rows.uptoBulk bk_nil bk_sl h (fun n cs' x' _ hx => ?_)
  obtain ⟨xs, k, _, rfl, hl, hlen, hf⟩ := DataW.trod_struct Tryz.underlying67 hx
  rw [co_tag] at hl
  obtain ⟨v0, v1, rfl⟩ := len2 hl
  · have hxl : xs.length = 2 := hlen
    have h0 := hf 0 _ rfl
    have h1 := hf 1 _ rfl
    rw [List.getElem?_eq_getElem (by omega)] at h0 h1
    simp [co_u32, co_bytes] at h0 h1
    obtain ⟨m, hv0, _, hw⟩ := DataW.trod_int Tryz.underlying65 h0
    obtain ⟨s, v, hv1, _, hs, hsb⟩ := Yn0 h1
    have hm : 0 ≤ m ∧ m ≤ 4294967295 := by simpa [Lit.wf, IntKind.min, IntKind.max, IntKind.signed, IntKind.bits] using hw
    simp only [List.cons.injEq, and_true] at hv0 hv1
    subst hv0; subst hv1
    refine ⟨(m.toNat, s), ?_, by simp only []; omega, ?_⟩
    rotate_left
    · obtain ⟨a, b, rfl⟩ := len2 hxl
      · have := bk_agg [a.1, b.1]
        simp only [List.map_cons, List.map_nil, List.sum_cons, List.sum_nil, List.getElem_cons_succ, List.getElem_cons_zero] at this hsb ⊢
        omega
    have : (.int .u32 m : Value) = .int .u32 ((m.toNat : Nat) : Int) := by congr 1; omega
    rw [this]
    exact rep_tag hs
theorem open_tree : ∀ (fuel : Nat) (cs : List Value) (x : DataW H × List MemPlace), DataW.trod enc Tryz.prog W base spare held fuel 26 cs = some x →
    ∃ t : Tree, Rep (Lo W.heap.size) W (treeD t) cs ∧ t.ok ∧ t.wt ≤ Rows.uptoBulk x.1 := by
  intro fuel
  induction fuel using Nat.strongRecOn with
  | _ fuel ih =>
    intro cs x h
    obtain ⟨xs, k, hfu, rfl, hl, hlen, hf⟩ := DataW.trod_struct Tryz.underlying26 h
    rw [co_tree] at hl
    obtain ⟨v0, v1, v2, v3, v4, rfl⟩ := len5 hl
    · have hxl : xs.length = 5 := hlen
      have h0 := hf 0 _ rfl
      have h1 := hf 1 _ rfl
      have h2 := hf 2 _ rfl
      have h3 := hf 3 _ rfl
      have h4 := hf 4 _ rfl
      rw [List.getElem?_eq_getElem (by omega)] at h0 h1 h2 h3 h4
      simp [co_i64, co_bytes, co_bool, co_trees, co_tags] at h0 h1 h2 h3 h4
      obtain ⟨n, hv0, hb0, hw0⟩ := DataW.trod_int Tryz.underlying2 h0
      obtain ⟨s, sv, hv1, hsl, hs, hb1⟩ := Yn0 h1
      obtain ⟨b, hv2, hb2⟩ := DataW.trod_bool Tryz.underlying4 h2
      obtain ⟨l, lv, hv3, _, hl3, hok, hb3⟩ := open_sq (e := 26) (sz := 5) Tryz.underlying23 co_tree (by omega) treeD (fun t => t.ok) Tree.wt Rows.uptoBulk bk_nil bk_sl h3 (fun n cs' x' hn hx => ih n (by omega) cs' x' hx)
      obtain ⟨u, uv, hv4, _, hu, huk, hb4⟩ := open_tags h4
      simp only [List.cons.injEq, and_true] at hv0 hv1 hv2 hv3 hv4
      subst hv0; subst hv1; subst hv2; subst hv3; subst hv4
      refine ⟨.mk n s b l u, rep_tree hs hl3 hu, ?_, ?_⟩
      rotate_left
      · obtain ⟨a0, a1, a2, a3, a4, rfl⟩ := len5 hxl
        · have := bk_agg [a0.1, a1.1, a2.1, a3.1, a4.1]
          simp only [List.map_cons, List.map_nil, List.sum_cons, List.sum_nil, List.getElem_cons_succ, List.getElem_cons_zero] at this hb0 hb1 hb2 hb3 hb4 ⊢
          simp only [Tree.wt, wts_sum]
          omega
      simp only [Tree.ok]
      refine ⟨by simp only [maxLen] at hsl; omega, huk, ?_, by simpa [Lit.wf, IntKind.min, IntKind.max, IntKind.signed, IntKind.bits] using hw0⟩
      have : ∀ l : List Tree, (∀ t ∈ l, t.ok) → Tree.oks l := by
        intro l
        induction l with
        | nil => intro _; simp [Tree.oks]
        | cons y l ih2 => intro h; simp only [Tree.oks]; exact ⟨h y (by simp), ih2 (fun t ht => h t (by simp [ht]))⟩
      exact this l hok
end
end Go.Proofs.YtjfgalpjjnncaaaGreatDoor

namespace Go.Proofs.YtjfgalpjjnncaaaGreatDoor.BListPartitionReassignmentsRequest
open Go Go.RowKit Go.ChangeShapes Go.WideShapes Go.ChangeAt
theorem own : ownKnob Tryz.prog.godebug = none := by kernel_rfl
theorem laidOut : laidOutB Tryz.prog = true := by kernel_rfl
theorem gErr : Tryz.prog.globalNamed "pub-mailsack/pub/kmsg/inner/kbin.ErrNotEnoughData" = some 1 := by kernel_rfl
theorem gErrT : (Tryz.prog.globals[(1 : Nat)]?).map (·.type) = some 57 := by kernel_rfl
theorem err_of_laid {W : World} (h : laidMetH Tryz.prog Rows.fnTellListPartitionReassignmentsRequestRow.laid W) : ∃ ev, W.cell? ⟨1, 0, none⟩ = some ev := by
  have h' : laidMet Tryz.prog Rows.fnTellListPartitionReassignmentsRequestRow.laid W := h
  obtain ⟨ps, ⟨g0, t0, cs0, f0, p0, q0, hg0, ht0, hv0, hd0, _⟩, _⟩ := h'
  obtain rfl := Option.some.inj (gErr.symm.trans hg0)
  obtain rfl := Option.some.inj (gErrT.symm.trans ht0)
  obtain ⟨l0⟩ := cs0
  obtain ⟨fu, u, v, e, _, _⟩ := iface_of_trod Tryz.underlying57 hd0
  have e' : l0 = [.iface u v] := e
  subst e'
  exact ⟨_, by simpa using World.var?_cell hg0 hv0 0⟩
abbrev errText : ByteArray := ⟨#[114, 101, 115, 112, 111, 110, 115, 101, 32, 100, 105, 100, 32, 110, 111, 116, 32, 99, 111, 110, 116, 97, 105, 110, 32, 101, 110, 111, 117, 103, 104, 32, 100, 97, 116, 97, 32, 116, 111, 32, 98, 101, 32, 118, 97, 108, 105, 100]⟩
noncomputable def low : Nat := (World.holding Tryz.prog default ⟨#[], #[], []⟩).heap.size
noncomputable def laidWorld (os : Os) : World :=
  let w0 := World.holding Tryz.prog os ⟨#[.cells #[.string errText] 264], #[], []⟩
  { w0 with heap := w0.heap.modify 1 fun
      | .cells _ t frozen => .cells #[.iface 246 (.pointer (some ⟨low, 0, none⟩))] t frozen
      | o => o }
theorem laidWorld_met (os : Os) (args : Array Value) : laidMetH Tryz.prog Rows.fnTellListPartitionReassignmentsRequestRow.laid ((laidWorld os).forCall (fun _ _ => 0) ⟨#[], args, []⟩).memory :=
  show laidMet Tryz.prog Rows.fnTellListPartitionReassignmentsRequestRow.laid _ from laidMet_of_run' 8 (by kernel_rfl) (by kernel_rfl)
set_option maxRecDepth 100000 in
theorem lifted (os : Os) (started : os.Started) (H : Type) (enc : TypeId × Value → H) :
    ReturnsInHanded {} Tryz.checked os 3 .any (fun w args => (Rows.fnTellListPartitionReassignmentsRequestSpec.pre enc Tryz.prog Tryz.f3 [] false w args ∧ laidMetH Tryz.prog Rows.fnTellListPartitionReassignmentsRequestRow.laid w) ∧ sizedMet enc Tryz.prog Tryz.f3 (OpenSpec.ofChange Rows.fnTellListPartitionReassignmentsRequestSpec) false w args)
      (Rows.fnTellListPartitionReassignmentsRequestSpec.post enc Tryz.prog Tryz.f3 false true false false) := by
  refine returnsInHanded_of_change_and (C := Tryz.checked) (X := fun w _ => laidMetH Tryz.prog Rows.fnTellListPartitionReassignmentsRequestRow.laid w) (fun _ _ _ hh h => h.of_heap hh) own started (by kernel_rfl) Tryz.func3
    (ChangeSpec.witness_at (enc := enc) (C := Tryz.checked) (os := os) (X := fun w _ => laidMetH Tryz.prog Rows.fnTellListPartitionReassignmentsRequestRow.laid w) false (laidWorld os) #[.int .u8 0, .agg #[.int .i64 0, .slice none 0 0, .bool false, .slice none 0 0, .slice none 0 0]] 8 rfl (by kernel_rfl) (by kernel_rfl) (by kernel_rfl) (by kernel_rfl) (by kernel_rfl) (laidWorld_met os _)) ?_
  intro W base args ds gs before hval0 hW _ _ hL _
  have hval : ∀ (j : Nat) t v, Tryz.f3.params[j]? = some t → args[j]? = some v → Value.okWide Tryz.prog W .any base t v := hval0
  have hW' := hW
  obtain ⟨p, q, hA0, hV, rfl, hfz, hnd⟩ := hW
  have hA : DataW.TrodAll enc Tryz.prog W 0 (fun _ => true) true Tryz.f3.params.toList args.toList ds p := hA0
  rw [Tryz.params3] at hA hval
  obtain ⟨v0, v1, d0, d1, p0, p1, rfl, rfl, rfl, h0, h1⟩ := trodAll_two hA
  obtain ⟨rfl, rfl⟩ := trodVars_none hV
  obtain ⟨a, rfl, rfl, rfl, wa⟩ := open_int Tryz.underlying5 (hval 0 5 v0 rfl rfl) h0
  have hv1 := hval 1 26 v1 rfl rfl
  unfold Value.okWide at hv1
  rw [Tryz.underlying26] at hv1
  obtain ⟨cs, rfl, _⟩ := hv1
  obtain ⟨fuel, hfu⟩ := id h1
  obtain ⟨t, hrep, hok, hwt⟩ := open_tree fuel _ _ hfu
  obtain ⟨ev, hev⟩ := err_of_laid hL
  clear hA0 hval0
  simp only [List.append_nil, List.nil_append] at hW'
  have ha : 0 ≤ a ∧ a ≤ 255 := by simpa [Lit.wf, IntKind.min, IntKind.max, IntKind.signed, IntKind.bits] using wa
  have hlaw := fn_law a.toNat (by omega) t hok W ev cs.toList hrep hev
  rw [show ((a.toNat : Nat) : Int) = a from by omega] at hlaw
  simp only [Array.toArray_toList] at hlaw
  refine Calls.mono hlaw fun e W' he => ?_
  obtain ⟨v, rfl, hb, rfl⟩ := he
  refine ⟨_, rfl, _, _, _, [], p1, [], hW', trodAll_mk1 (shut_bool Tryz.underlying4 _), ?_, ?_, hb.frame _, fun h => by cases h⟩
  · exact trodAll_mk2 (shut_int Tryz.underlying5 wa) (Below.trod laidOut (by kernel_rfl) (Nat.le_of_ble_eq_true (by kernel_rfl)) h1 hb (fun x hx => hW'.lt x hx))
  · rfl
theorem said : Rows.FnTellListPartitionReassignmentsRequestSaid :=
  OpenClaim.holds_of_wide 3 Tryz.f3 rfl rfl rfl rfl rfl rfl rfl ⟨rfl, rfl, rfl, rfl, rfl⟩ rfl rfl rfl rfl rfl (by kernel_rfl) Tryz.func3 (by kernel_rfl)
    (of_decide_eq_true (by kernel_rfl)) (by unfold Func.isWrapper; first | (rw [if_pos (by decide +kernel)]; kernel_rfl) | (rw [if_neg (by decide +kernel)]; exact ⟨rfl, rfl⟩))
    (fun os started H enc _ => lifted os started H enc)
theorem row_tie : Rows.fnTellListPartitionReassignmentsRequestRow.laidByTextAt .later Tryz.pinned [.sentinel] true :=
  OpenClaim.laidByTextAt_later rfl rfl tie (by kernel_rfl)
theorem holds : Rows.FnTellListPartitionReassignmentsRequestCardSaid :=
  Claim7.holds_tied_plain_at .later [] [.sentinel] true (true, "34d55a639dfff1fb922d6cfe312e7c34f7caa7ddffb37353c4e1b785632a1dc2") false
    said (fun _ h => by cases h) (by kernel_rfl) (fun _ h => by cases h) row_tie rfl ⟨rfl, rfl⟩ (by kernel_rfl) rfl
    (fun f fn hf hfn => by
      obtain rfl : f = 3 := Option.some.inj ((show Tryz.prog.funcNamed "pub-mailsack/laws.FnTellListPartitionReassignmentsRequest" = some 3 by kernel_rfl).symm.trans hf) |>.symm
      obtain rfl : fn = Tryz.f3 := (Option.some.inj (Tryz.func3.symm.trans hfn)).symm
      exact ⟨by kernel_rfl, fun j t ht => by
        rw [Tryz.params3] at ht
        have hh : Tryz.prog.wantsStandIn 5 = false ∧ Tryz.prog.wantsStandIn 26 = false := ⟨by kernel_rfl, by kernel_rfl⟩
        match j, ht with
        | 0, ht => obtain rfl : 5 = t := by simpa using ht
                   exact hh.1
        | 1, ht => obtain rfl : 26 = t := by simpa using ht
                   exact hh.2
        | j + 2, ht => simp at ht⟩)
    (by kernel_rfl)
end Go.Proofs.YtjfgalpjjnncaaaGreatDoor.BListPartitionReassignmentsRequest
