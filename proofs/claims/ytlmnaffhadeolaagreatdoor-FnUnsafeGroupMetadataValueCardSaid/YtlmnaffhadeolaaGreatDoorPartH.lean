/- A part of the proof of FnUnsafeGroupMetadataValueCardSaid: what its texts prove stands at the head of each. Conditions: those that each theorem names. -/
import Derived.Test.YtlmnaffhadeolaaGreatDoorPartF
import Derived.Test.YtlmnaffhadeolaaGreatDoorPartG
import Derived.Test.YtlmnaffhadeolaaGreatDoorPartA
import Derived.Test.YtlmnaffhadeolaaGreatDoorPartC
import Derived.Test.YtlmnaffhadeolaaGreatDoorPartD
import Derived.Test.YtlmnaffhadeolaaGreatDoorPartE
set_option linter.all false
namespace Go.Proofs.YtlmnaffhadeolaaGreatDoor
open Go Go.RowKit
section
set_option maxRecDepth 100000
end
end Go.Proofs.YtlmnaffhadeolaaGreatDoor

namespace Go.Proofs.YtlmnaffhadeolaaGreatDoor
def tagsW (u : List (Nat × List UInt8)) : Nat := (u.map fun kv => kv.2.length + 1).sum
mutual
def Tree.wt : Tree → Nat
 | .mk _ s _ l u => 1 + s.length + tagsW u + Tree.wts l
def Tree.wts : List Tree → Nat
 | [] => 0
 | t :: l => t.wt + Tree.wts l
end
mutual
def Fld.cost : Fld → Nat
 | .mk _ _ _ _ _ _ _ sub => 60 + ((1 + known sub) * Fld.costs sub + 60)
def Fld.costs : List Fld → Nat
 | [] => 0
 | f :: l => f.cost + 30 + Fld.costs l
end
end Go.Proofs.YtlmnaffhadeolaaGreatDoor

namespace Go.Proofs.YtlmnaffhadeolaaGreatDoor
def tagged (tag : Int) (n : Nat) : Nat := if tag < 0 then n else n + n + tag.toNat + 3
def oF (fl : Bool) : Nat := bif fl then 1074069751 else 0
mutual
def Fld.most (fl : Bool) : Fld → Nat
 | .mk kind _ _ _ _ _ of sub =>
  if kind = 11 then 8 + 32767 * (if of = 10 then (1 + known sub) * Fld.mosts fl sub + oF fl else 32783)
  else if kind = 10 then 1 + ((1 + known sub) * Fld.mosts fl sub + oF fl) else 32783
def Fld.mosts (fl : Bool) : List Fld → Nat
 | [] => 0
 | f :: fs => tagged f.tag (f.most fl) + Fld.mosts fl fs
end
mutual
def Fld.price : Fld → Nat
 | .mk _ _ _ _ _ _ _ sub => ((1 + known sub) * Fld.prices sub + 272) + 24 + 9
def Fld.prices : List Fld → Nat
 | [] => 0
 | f :: fs => tagged f.tag f.price + Fld.prices fs
end
end Go.Proofs.YtlmnaffhadeolaaGreatDoor

namespace Go.Proofs.YtlmnaffhadeolaaGreatDoor
open Go Go.RowKit
section
set_option maxRecDepth 100000
theorem fn_write (m : Msg) (hm : fsok m.fields = true) (ver : Int) (t : Tree) (B : Nat) (w : World) (fv : Value) (ts : List Value) (hok : t.ok) (hB : B ≤ w.heap.size) (hf : Sq B w fv (m.fields.map fldD)) (ht : Rep (Lo B) w (treeD t) ts) (hlim : (write m ver t).length ≤ lim) :
  Fn 21 [.agg #[fv, .int .i64 m.flex], .int .i64 ver, .agg ts.toArray] w fun v w' => Own w' w.heap.size 5 v (write m ver t) := by
 obtain ⟨sv, lv, uv, rfl, _, _, _⟩ := tree_cells ht
 obtain ⟨fa, fc, rfl, _⟩ := hf.shape
 refine enter Tryz.func21 rfl Tryz.ntmps21 rfl ?_
 repeat (with_reducible first|apply wc_seq|apply wc_region)
 refine wl_box1 (cs := [.slice fa (m.fields.map fldD).length fc, .int .i64 m.flex]) rfl rfl rfl (fun w1 hb1 hg1 hs1 => wl_box1 rfl rfl rfl (fun w2 hb2 hg2 hs2 => ?_))
 have hb12 := hb1.kept hg2 (by simp)
 have hw2 : Below w.heap.size w w2 := (below_of hg1 (Nat.le_refl _) (by simp)).trans (below_of hg2 (by omega) (by simp))
 have hcall : ∀ flex, m.flexible ver = flex → _ := fun flex hfx => part_ok m.fields hm flex ver t B w2 _ _ hok (by omega) (hf.below (hw2.mono hB) (Nat.le_refl _)) (ht.below (hw2.mono hB) (Nat.le_refl _)) (by rw [← hfx]; exact hlim)
 repeat first|(with_reducible first|apply wc_seq|apply wc_region|apply wl_nil|apply qk_thn)|((with_reducible apply ws);exact rfl;exact rfl)
 refine wl_loadB rfl to_flds rfl hb12 rfl ?_
 repeat ((with_reducible apply ws);exact rfl;exact rfl)
 refine wl_loadB rfl to_int rfl hb12 rfl ?_
 repeat ((with_reducible apply ws);exact rfl;exact rfl)
 by_cases h0 : 0 ≤ m.flex
 ·have e1 : decide (0 ≤ m.flex) = true := by simpa using h0
  rw [e1]
  repeat first|((with_reducible apply ws);exact rfl;exact rfl)|((with_reducible apply wl_yes);exact rfl;exact rfl;exact rfl)
  refine wl_loadB rfl to_int rfl hb12 rfl ?_
  repeat first|((with_reducible apply ws);exact rfl;exact rfl)|((with_reducible apply wl_yes);exact rfl;exact rfl;exact rfl)
  refine wl_loadBAgg (cs := [.int .i64 t.n, sv, .bool t.nul, lv, uv]) rfl ta_tree rfl hb2 ?_
  refine wl_call rfl (by kernel_rfl) rfl ((hcall (decide (m.flex ≤ ver)) (by simp [Msg.flexible, h0])).mono ?_)
  rintro e w3 ⟨v, rfl, hw3, ho⟩
  refine ⟨v, rfl, ?_⟩
  repeat first|(with_reducible first|apply wl_nil|apply qk_thn|apply wc_ret)|((with_reducible apply ws);exact rfl;exact rfl)
  have e2 : m.flexible ver = decide (m.flex ≤ ver) := by simp [Msg.flexible, h0]
  refine qk_ret1 rfl rfl ⟨_, rfl, hw2.trans (hw3.mono (by omega)), ?_⟩
  rw [write, e2]
  exact ho.mono (by omega)
 ·have e1 : decide (0 ≤ m.flex) = false := by simpa using h0
  rw [e1]
  repeat first|((with_reducible apply ws);exact rfl;exact rfl)|((with_reducible apply wl_no);exact rfl;exact rfl;exact rfl;exact rfl)
  refine wl_loadBAgg (cs := [.int .i64 t.n, sv, .bool t.nul, lv, uv]) rfl ta_tree rfl hb2 ?_
  refine wl_call rfl (by kernel_rfl) rfl ((hcall false (by simp [Msg.flexible, h0])).mono ?_)
  rintro e w3 ⟨v, rfl, hw3, ho⟩
  refine ⟨v, rfl, ?_⟩
  repeat first|(with_reducible first|apply wl_nil|apply qk_thn|apply wc_ret)|((with_reducible apply ws);exact rfl;exact rfl)
  have e2 : m.flexible ver = false := by simp [Msg.flexible, h0]
  refine qk_ret1 rfl rfl ⟨_, rfl, hw2.trans (hw3.mono (by omega)), ?_⟩
  rw [write, e2]
  exact ho.mono (by omega)
theorem fn_kept (m : Msg) (hm : fsok m.fields = true) (ver : Int) (t : Tree) (B : Nat) (w : World) (fv : Value) (ts : List Value) (hok : t.ok) (hB : B ≤ w.heap.size) (hf : Sq B w fv (m.fields.map fldD)) (ht : Rep (Lo B) w (treeD t) ts) (hlim : (be 2 ver ++ write m ver t).length ≤ lim) :
  Fn 10 [.agg #[fv, .int .i64 m.flex], .int .i64 ver, .agg ts.toArray] w fun v w' => Own w' w.heap.size 5 v (be 2 ver ++ write m ver t) := by
 obtain ⟨sv, lv, uv, rfl, _, _, _⟩ := tree_cells ht
 obtain ⟨fa, fc, rfl, _⟩ := hf.shape
 rw [List.length_append] at hlim
 refine enter Tryz.func10 rfl Tryz.ntmps10 rfl ?_
 repeat (with_reducible first|apply wc_seq|apply wc_region)
 refine wl_box1 (cs := [.slice fa (m.fields.map fldD).length fc, .int .i64 m.flex]) rfl rfl rfl (fun w1 hb1 hg1 hs1 => wl_box1 rfl rfl rfl (fun w2 hb2 hg2 hs2 => ?_))
 have hb12 := hb1.kept hg2 (by simp)
 have hw2 : Below w.heap.size w w2 := (below_of hg1 (Nat.le_refl _) (by simp)).trans (below_of hg2 (by omega) (by simp))
 repeat first|(with_reducible first|apply wc_seq|apply wl_nil|apply qk_thn)|((with_reducible apply ws);exact rfl;exact rfl)
 refine wc_par [(0, .int .i64 ver), (2, .agg ([.slice fa (m.fields.map fldD).length fc, .int .i64 m.flex] : List Value).toArray), (3, .int .i64 ver), (4, .agg ([.int .i64 t.n, sv, .bool t.nul, lv, uv] : List Value).toArray)] [7, 6, 5, 1]
  (fun vals w' => Below w2.heap.size w2 w' ∧ match vals with
   | [] => True
   | [v] => Own w' w2.heap.size 5 v (be 2 ver)
   | [v, v1] => Own w' w2.heap.size 5 v1 (be 2 ver) ∧ Own w' w2.heap.size 5 v (write m ver t)
   | v :: _ => Own w' w2.heap.size 5 v (be 2 ver ++ write m ver t))
  mixed rfl rfl rfl rfl rfl (by show ([0,2,3,4] : List Nat).Nodup; decide) rfl rfl (by decide) rfl rfl rfl rfl ⟨(Below.refl _ w2).drew, trivial⟩ ?_ ⟨?_, ?_, ?_, ?_, trivial⟩ ?_
 ·intro p hp vals w' hC a k
  simp only [List.mem_cons, List.not_mem_nil, or_false] at hp
  rcases hp with rfl | rfl | rfl | rfl
  ·exact gv rfl rfl (rn_move k rfl)
  ·exact gv rfl rfl (rn_loadBAgg k rfl ta_msg (hb12.below hC.1 hb12.lt))
  ·exact gv rfl rfl (rn_move k rfl)
  ·exact gv rfl rfl (rn_loadBAgg k rfl ta_tree (hb2.below hC.1 hb2.lt))
 ·rintro vals w' hvl ⟨hb', hC⟩ a k
  match vals, hvl with
  | [v6, v5, v1], _ => exact ⟨_, rfl, does_assign k rfl ⟨hb', hC⟩⟩
 ·rintro vals w' hvl ⟨hb', hC⟩ a k
  match vals, hvl with
  | [v5, v1], _ =>
   obtain ⟨ho1, ho5⟩ := hC
   exact ⟨_, rfl, does_appSl k tb_bytes tb_bytes rfl rfl ho5.bytes ho1 hb'.size hlim (fun d' w'' ho'' hg'' => ⟨hb'.trans (hg''.below hb'.size ho1.ge), ho''⟩)⟩
 ·rintro vals w' hvl ⟨hb', hC⟩ a k
  match vals, hvl with
  | [v1], _ =>
   simp only [] at hC
   have hs := hb'.size
   refine ⟨_, rfl, does_call k rfl (by kernel_rfl) ((fn_write m hm ver t B w' _ _ hok (by omega) (hf.below ((hw2.trans (hb'.mono (by omega))).mono hB) (Nat.le_refl _)) (ht.below ((hw2.trans (hb'.mono (by omega))).mono hB) (Nat.le_refl _)) (by omega)).mono ?_)⟩
   rintro e w'' ⟨v, rfl, hb'', ho⟩
   exact ⟨v, rfl, hb'.trans (hb''.mono hs), Own.below hC hb'', ho.mono hs⟩
 ·rintro vals w' hvl ⟨hb', hC⟩ a k
  match vals, hvl with
  | [], _ =>
   exact ⟨_, rfl, does_call k rfl (by kernel_rfl) ((fn_fixed ver 2 (by omega) w').mono (by rintro e w'' ⟨v, rfl, hb'', ho⟩; exact ⟨v, rfl, hb'.trans (hb''.mono hb'.size), ho.mono hb'.size⟩))⟩
 ·rintro vals w' hvl ⟨hb', hC⟩
  match vals, hvl with
  | [v7, v6, v5, v1], _ =>
   refine qk_thn ?_
   repeat (with_reducible apply wc_ret)
   exact qk_ret1 rfl rfl ⟨_, rfl, hw2.trans (hb'.mono (by omega)), Own.mono hC (by omega)⟩
end
end Go.Proofs.YtlmnaffhadeolaaGreatDoor

namespace Go.Proofs.YtlmnaffhadeolaaGreatDoor
open Go Go.RowKit
theorem fill_many (sz : Nat) : ∀ (css : List (List Value)) (k : Nat) (pre post : List Value), pre.length = k * sz → (∀ cs ∈ css, cs.length = sz) → post.length = css.length * sz →
  Instr.fill (fun i => some (i * sz, sz)) (pre ++ post).toArray ((css.zipIdx k).map fun p => (p.2, Value.agg p.1.toArray)) = some (pre ++ css.flatten).toArray
 | [], k, pre, post, _, _, hl => by
  have : post = [] := List.length_eq_zero_iff.1 (by simpa using hl)
  subst this; simp [Instr.fill]
 | cs :: css, k, pre, post, hp, hc, hl => by
  have hcs := hc cs (by simp)
  simp only [List.length_cons, Nat.succ_mul] at hl
  obtain ⟨a, b, rfl, ha⟩ : ∃ a b, post = a ++ b ∧ a.length = sz := ⟨post.take sz, post.drop sz, (List.take_append_drop _ _).symm, by rw [List.length_take]; omega⟩
  have hb : b.length = css.length * sz := by rw [List.length_append] at hl; omega
  simp only [List.zipIdx_cons, List.map_cons, Instr.fill]
  have h1 : ¬ ((Value.agg cs.toArray).cells.size ≠ sz) := by simp [Value.cells, hcs]
  have h2 : ¬ (k * sz + (Value.agg cs.toArray).cells.size > (pre ++ (a ++ b)).toArray.size) := by simp [Value.cells, hcs, hp, ha]
  simp only [h1, h2, decide_false, Bool.or_false, Bool.false_eq_true, if_false]
  have hf := fold_sets (k * sz) cs 0 pre a (by simpa using hp) (by rw [ha, hcs])
  have hf2 : ((Value.agg cs.toArray).cells.zipIdx.foldl (fun cs p => cs.setIfInBounds (k * sz + p.2) p.1) (pre ++ (a ++ b)).toArray) = (pre ++ cs ++ b).toArray := by
   have hz : cs.toArray.zipIdx = (cs.zipIdx).toArray := by apply Array.ext'; simp
   simp only [Value.cells]
   rw [hz]
   simp only [List.foldl_toArray]
   have gen : ∀ (l : List Value) (j : Nat) (p q r : List Value), p.length = k * sz + j → q.length = l.length →
     (l.zipIdx j).foldl (fun cs p => cs.setIfInBounds (k * sz + p.2) p.1) (p ++ (q ++ r)).toArray = (p ++ (l ++ r)).toArray := by
    intro l
    induction l with
    | nil => intro j p q r _ hq; have : q = [] := List.length_eq_zero_iff.1 (by simpa using hq); subst this; rfl
    | cons v l ih =>
     intro j p q r hp hq
     cases q with
     | nil => cases hq
     | cons x q =>
      simp only [List.zipIdx_cons, List.foldl_cons]
      have hset : (p ++ (x :: q ++ r)).toArray.setIfInBounds (k * sz + j) v = ((p ++ [v]) ++ (q ++ r)).toArray := by
       rw [List.setIfInBounds_toArray, ← hp]; simp
      rw [hset, ih (j + 1) (p ++ [v]) q r (by simp [hp]; omega) (by simpa using hq)]
      simp
   have := gen cs 0 pre a b (by simpa using hp) (by rw [ha, hcs])
   simpa [List.append_assoc] using this
  rw [hf2]
  have ih := fill_many sz css (k + 1) (pre ++ cs) b (by simp [hp, hcs, Nat.succ_mul]) (fun c h => hc c (by simp [h])) hb
  rw [ih]
  simp
section
variable {P : Program} {ops : Array Oper} {Q : Exit → Act → World → Prop} {N : Nat} {rest : List Oper} {L : Sl} {w : World} {d : Nat} {ty : TypeId} {pos : String} {aft : Array Edge}
theorem wl_sliceN {t e sz n : Nat} {ps : List (Nat × Operand)} {vs : List Value} (css : List (List Value)) (hT : rowTy P t e sz = true) (hps : evp L 0 ps = some vs) (hvs : vs = css.map fun cs => Value.agg cs.toArray) (hlen : ∀ cs ∈ css, cs.length = sz) (hn : n = css.length) (hsz : (Nat.blt 0 sz && Nat.ble (n * sz) 16777216 && Nat.blt 0 n) = true) (hd : Nat.blt d N = true)
  (h : ∀ w', Box w' w.heap.size css.flatten e → w.grownBy w' none → w'.heap.size = w.heap.size + 1 → WL rest P ops Q N ((d, .slice (some ⟨w.heap.size, 0, none⟩) n n) :: L) w') :
  WL (⟨some d, .buildSlice t n ps.toArray, ty, pos, aft, none⟩ :: rest) P ops Q N L w := by
 intro a k
 obtain ⟨hu, i, z, hi, hs1, hb1, hz, hzc⟩ := rowTy_out hT
 simp only [Bool.and_eq_true] at hsz
 have hsz1 : 0 < sz := Nat.le_of_ble_eq_true hsz.1.1
 have hsz2 := Nat.le_of_ble_eq_true hsz.1.2
 have hn0 : 0 < n := Nat.le_of_ble_eq_true hsz.2
 refine st_of (o := ⟨some d, .buildSlice t n ps.toArray, ty, pos, aft, none⟩) (v := .slice (some ⟨w.heap.size, 0, none⟩) n n) (w' := w.alloc (.cells css.flatten.toArray e)) rfl ?_ (h _ (box_alloc w _ e) (grown_alloc w _) (by simp) _ (k.put _ hd))
 have hparts := evp_spec k ps 0 _ hps
 have hm : (ps.toArray.map fun x => (x.1, a.eval x.2)).toList = (css.zipIdx 0).map fun p => (p.2, Value.agg p.1.toArray) := by
  rw [hvs] at hparts
  have e1 : (ps.toArray.map fun x => (x.1, a.eval x.2)).toList = ps.map fun p => (p.1, a.eval p.2) := by simp
  rw [e1, hparts]
  rw [List.zipIdx_map, List.map_map]
  rfl
 have hfill := fill_many sz css 0 [] ((List.range (n * sz)).map (z.cells[· % z.cells.size]!)) (by simp) hlen (by simp [hn])
 simp only [List.nil_append] at hfill
 have hmul : 0 < n * sz := Nat.mul_pos hn0 hsz1
 simp only [execOp, Instr.buildSlice]
 simp only [Sem.run_bind, run_underlying hu, Result.andThen_ok, sizeOf, typeInfo, run_program, hi, Sem.run_pure, hs1]
 rw [show ((2 : Nat) ^ 24) = 16777216 from rfl, if_neg (by omega), if_neg (by omega)]
 simp only [zeroValue, typeInfo, Sem.run_bind, run_program, Result.andThen_ok, hi, Sem.run_pure, hz]
 rw [hm, ← List.toArray_range, List.map_toArray, hfill]
 simp [newRow]
end
end Go.Proofs.YtlmnaffhadeolaaGreatDoor

namespace Go.Proofs.YtlmnaffhadeolaaGreatDoor.Rdk
open Go Go.RowKit
set_option maxRecDepth 100000
def TInv (st : Option (List UInt8)) (j : Nat) (u : List (Nat × List UInt8)) (st' : Option (List UInt8)) : Prop := match st with
 | none => st' = none
 | some s => match st' with
  | some s' => tagsP s = tagsR j u s'
  | none => tagsP s = none
theorem tinv_start {st st1 : Option (List UInt8)} {n : Nat} (h : UvRel st n st1) : TInv st n [] st1 := by
 have h2 := h.2
 cases st with
 | none => exact h2
 | some s =>
  simp only [TInv, tagsP] at h2 ⊢
  cases hx : uvarP s with
  | none => rw [hx] at h2; simp only [] at h2; subst h2; rfl
  | some x => rw [hx] at h2; obtain ⟨rfl, rfl⟩ := h2; rfl
theorem tinv_step {st s1 s2 s3 s4 : Option (List UInt8)} {j k l : Nat} {u : List (Nat × List UInt8)} {bs : List UInt8} (h : TInv st (j + 1) u s1) (h1 : UvRel s1 k s2) (h2 : UvRel s2 l s3) (h3 : SpanRel l s3 bs s4) : TInv st j (setTag k bs u) s4 := by
 have e1 := h1.2
 have e2 := h2.2
 cases st with
 | none =>
  simp only [TInv] at h ⊢
  subst h
  simp only [] at e1
  subst e1
  simp only [] at e2
  subst e2
  exact h3
 | some s =>
  cases s1 with
  | none =>
   simp only [TInv] at h
   simp only [] at e1
   subst e1
   simp only [] at e2
   subst e2
   have h4 : s4 = none := h3
   subst h4
   exact h
  | some t1 =>
   simp only [TInv, tagsR] at h
   simp only [] at e1
   cases hx : uvarP t1 with
   | none =>
    rw [hx] at h e1
    simp only [] at e1
    subst e1
    simp only [] at e2
    subst e2
    have h4 : s4 = none := h3
    subst h4
    exact h
   | some x =>
    rw [hx] at h e1
    obtain ⟨rfl, rfl⟩ := e1
    simp only [Option.bind_some] at h e2
    cases hy : uvarP x.2 with
    | none =>
     rw [hy] at h e2
     simp only [] at e2
     subst e2
     have h4 : s4 = none := h3
     subst h4
     exact h
    | some y =>
     rw [hy] at h e2
     obtain ⟨rfl, rfl⟩ := e2
     simp only [Option.bind_some] at h
     simp only [SpanRel, spanP] at h3
     rw [if_neg (by omega), Int.toNat_natCast] at h3
     cases hz : takeN y.1 y.2 with
     | none => rw [hz] at h h3; simp only [] at h3; subst h3; exact h
     | some z => rw [hz] at h h3; obtain ⟨rfl, rfl⟩ := h3; exact h
theorem tinv_end {st st' : Option (List UInt8)} {u : List (Nat × List UInt8)} (h : TInv st 0 u st') : TagRel st u st' := by
 unfold TagRel
 cases st with
 | none => exact h
 | some s =>
  cases st' with
  | none => simp only [TInv] at h; simp only [h]
  | some s' => simp only [TInv, tagsR] at h; simp only [h, and_self]
theorem chg_cut {w w' : World} {rb : Nat} (h : Chg (fun j => j = rb ∨ w.heap.size ≤ j) w w') : Chg (· = rb) w w' := ⟨h.os, h.tape, h.output, h.size, fun k hk hn => h.block k hk (by rintro (e | e); exact hn e; omega)⟩
theorem fn_tags (w : World) (rb sb lo : Nat) (st : Option (List UInt8)) (hr : Rdr w rb sb st) (h1 : rb < lo) (h2 : sb < lo) (h3 : lo ≤ w.heap.size) (h4 : rb ≠ sb) :
  Calls Tryz.prog 115 #[.pointer (some ⟨rb, 0, none⟩)] w fun e w' => ∃ m u st', e = .returned (.agg #[m]) ∧ Chg (· = rb) w w' ∧ Rdr w' rb sb st' ∧ m.oneCell' = true ∧ Rep (Dk sb lo w') w' (tagsK u) [m] ∧ TagRel st u st' := by
 refine enter Tryz.func115 rfl Tryz.ntmps115 rfl ?_
 refine wc_seq (wc_region (wl_alloc zv_tags rfl rfl (fun w1 hb1 hg1 hs1 => wl_nil (qk_thn ?_))))
 refine wc_seq (wc_region (wl_alloc zv_tags rfl rfl (fun w2 hb2 hg2 hs2 => wl_nil (qk_thn ?_))))
 have c1 : Chg (fun _ => False) w w1 := Chg.grown0 hg1
 have c2 : Chg (fun _ => False) w1 w2 := Chg.grown0 hg2
 have hb1' := hb1.chg c2 id
 have hr2 := (hr.chg c1 id id).chg c2 id id
 obtain ⟨B, hB⟩ : ∃ B, B = w.heap.size := ⟨_, rfl⟩
 rw [← hB] at hs1 hb1' h3
 rw [hs1] at hb2
 rw [hs1] at hs2
 refine wc_seq (wc_seq (wc_region ?_))
 refine wt rfl rfl ?_
 refine wl_call rfl (by kernel_rfl) rfl ((fn_ruv w2 rb sb st hr2 h4).mono ?_)
 rintro en w3 ⟨n, st1, rfl, hc3, hr3, hrel⟩
 refine ⟨_, rfl, ?_⟩
 refine wt rfl rfl ?_
 refine wl_nil (qk_thn ?_)
 have hrb1 : ¬ (fun j => j = rb) B := fun e => by have : B = rb := e; omega
 have hrb2 : ¬ (fun j => j = rb) (B + 1) := fun e => by have : B + 1 = rb := e; omega
 have hs3 := hc3.size
 have c03 : Chg (fun j => j = rb ∨ B ≤ j) w w3 := ((c1.trans c2).wide (fun _ h => h.elim)).trans (hc3.wide (fun j hj => .inl hj))
 refine wc_block (wc_loop (α := Nat) (fun j => [(0, .pointer (some ⟨rb, 0, none⟩)), (2, .pointer (some ⟨B, 0, none⟩)), (3, .pointer (some ⟨B + 1, 0, none⟩)), (4, .int .u32 (j : Int))])
  (fun j w' => ∃ st' u m, j < 4294967296 ∧ Chg (fun j => j = rb ∨ B ≤ j) w w' ∧ Rdr w' rb sb st' ∧ Box w' B [.map none] 63 ∧ Box w' (B + 1) [m] 63 ∧ TagsAt w' sb (B + 2) m u ∧ TInv st j u st') (fun j => j) n
  ⟨rfl, by subst hB; rfl, by rw [← hs1]; rfl, rfl, trivial⟩ ⟨st1, [], .map none, hrel.1, c03, hr3, hb1'.chg hc3 hrb1, hb2.chg hc3 hrb2, .inl ⟨rfl, rfl⟩, tinv_start hrel⟩ ?_)
 rintro j w4 ⟨s1, u, m, hj, hc4, hr4, hbA, hbB, htm, hinv⟩
 have hs4 := hc4.size
 have nrb : ∀ r, B + 2 ≤ r → r < w4.heap.size → ¬ (fun j => j = rb) r := fun r h _ e => by have : r = rb := e; omega
 cases j with
 | zero =>
  refine wc_seq (wc_seq (wc_region ?_))
  refine wt rfl rfl ?_
  refine wt rfl rfl ?_
  refine wl_nil (qk_thn (wc_no rfl (by simp) (wc_exit (qk_thn_exit (qk_round_exit (qk_in_exit (qk_thn ?_)))))))
  refine wc_seq (wc_region ?_)
  refine wl_loadBAgg (cs := [m]) rfl ta_tags rfl hbB ?_
  refine wl_storeBAgg (vs := [m]) rfl rfl rfl tz_tags (by
   rcases htm with ⟨rfl, _⟩ | ⟨r, rfl, _⟩ <;> rfl) hbA rfl (fun w5 hb5 hg5 hs5 => ?_)
  refine wl_nil (qk_thn (wc_ret (qk_retCell (cs := [m]) rfl rfl ta_tags hb5 ?_)))
  have hc5 : Chg (· = B) w4 w5 := Chg.grown hg5
  have n5 : ∀ x : Nat, x < B ∨ B < x → ¬ (fun j => j = B) x := fun x h e => by have : x = B := e; omega
  have htm5 := htm.keep hc5 (fun r h _ => n5 r (by omega)) (n5 sb (by omega)) (by omega)
  refine ⟨m, u, s1, rfl, chg_cut (by rw [← hB]; exact hc4.trans (hc5.wide (fun j hj => .inr (by have : j = B := hj; omega)))), hr4.chg hc5 (n5 rb (by omega)) (n5 sb (by omega)), ?_, ?_, tinv_end hinv⟩
  ·rcases htm with ⟨rfl, _⟩ | ⟨r, rfl, _⟩ <;> rfl
  ·rcases htm5 with ⟨rfl, rfl⟩ | ⟨r, rfl, hlo, ht⟩
   ·exact .inl ⟨rfl, rfl⟩
   ·exact ht.rep (by omega) (by have := hc5.size; omega)
 | succ j =>
  refine wc_seq (wc_seq (wc_region ?_))
  refine wt rfl rfl ?_
  refine wt rfl rfl ?_
  refine wl_nil (qk_thn (wc_yes rfl (by simp) (wc_skip (qk_thn ?_))))
  refine wc_seq (wc_block (wc_seq (wc_region ?_)))
  refine wt rfl rfl ?_
  refine wl_call rfl (by kernel_rfl) rfl ((fn_ruv w4 rb sb s1 hr4 h4).mono ?_)
  rintro en w5 ⟨key, s2, rfl, hc5, hr5, hrel5⟩
  refine ⟨_, rfl, ?_⟩
  refine wt rfl rfl ?_
  refine wl_call rfl (by kernel_rfl) rfl ((fn_ruv w5 rb sb s2 hr5 h4).mono ?_)
  rintro en w6 ⟨len, s3, rfl, hc6, hr6, hrel6⟩
  refine ⟨_, rfl, ?_⟩
  refine wt rfl rfl ?_
  refine wt rfl rfl ?_
  refine wl_nil (qk_thn (wc_region ?_))
  refine wt rfl rfl ?_
  refine wt rfl rfl ?_
  refine wt rfl rfl ?_
  have hlen := hrel6.1
  refine wl_conv .i64 (r := (len : Int)) rfl (by kernel_rfl) (by kernel_rfl) rfl (by rw [IntKind.wrap_i64]; omega) ?_
  refine wl_call rfl (by kernel_rfl) rfl ((fn_span w6 rb sb s3 (len : Int) hr6 h4).mono ?_)
  rintro en w7 ⟨v, bs, s4, rfl, hc7, hr7, hsv, _, hspan⟩
  refine ⟨_, rfl, ?_⟩
  have c47 : Chg (· = rb) w4 w7 := hc5.trans (hc6.trans hc7)
  have hs7 := c47.size
  have nB : ∀ x : Nat, B ≤ x → ¬ (fun j => j = rb) x := fun x h e => by have : x = rb := e; omega
  have hb7 := hbB.chg c47 (nB _ (by omega))
  have ht7 := htm.keep c47 nrb (fun e => h4 e.symm) (by omega)
  have hlt : B + 1 < w7.heap.size := hb7.lt
  refine wl_call rfl (by kernel_rfl) rfl ((fn_set w7 (B + 1) sb (B + 2) key v m u _ bs hb7 ht7 hsv (by omega) (by omega) (by omega) (by omega)).mono ?_)
  rintro en w8 ⟨rfl, m', hb8, ht8, hc8⟩
  refine ⟨_, rfl, ?_⟩
  refine wl_nil (qk_in (qk_thn (wc_region ?_)))
  refine wt rfl rfl ?_
  refine wl_sub' (r := (j : Int)) rfl rfl rfl (by rw [IntKind.wrap_u32]; omega) ?_
  refine wt rfl rfl ?_
  have n8 : ∀ x : Nat, x < B + 1 → ¬ (fun j => j = B + 1 ∨ B + 2 ≤ j) x := fun x h e => by have : x = B + 1 ∨ B + 2 ≤ x := e; omega
  refine wl_nil (qk_round j ⟨rfl, rfl, rfl, rfl, trivial⟩ ⟨s4, setTag key bs u, m', by omega, ?_, hr7.chg hc8 (n8 rb (by omega)) (n8 sb (by omega)), (hbA.chg c47 (nB B (by omega))).chg hc8 (n8 B (by omega)), hb8, ht8, tinv_step hinv hrel5 hrel6 hspan⟩ (by omega))
  exact hc4.trans ((c47.wide (fun j hj => .inl hj)).trans (hc8.wide (fun j hj => .inr (by have : j = B + 1 ∨ B + 2 ≤ j := hj; omega))))
end Go.Proofs.YtlmnaffhadeolaaGreatDoor.Rdk

namespace Go.Proofs.YtlmnaffhadeolaaGreatDoor.Rdk
open Go Go.RowKit
set_option maxRecDepth 100000
end Go.Proofs.YtlmnaffhadeolaaGreatDoor.Rdk

namespace Go.Proofs.YtlmnaffhadeolaaGreatDoor.Rdk
open Go Go.RowKit
theorem allRd_nil {P : Program} : ∀ x ∈ ([] : List (Nat × Rp)), RdC P x.1 x.2 := fun x h => by cases h
theorem allRd_cons {P : Program} {f : Nat} {p : Rp} {l : List (Nat × Rp)} (h : RdC P f p) (hl : ∀ x ∈ l, RdC P x.1 x.2) : ∀ x ∈ (f, p) :: l, RdC P x.1 x.2 := fun x hx => by
 rcases List.mem_cons.1 hx with rfl | hm
 ·exact h
 ·exact hl x hm
theorem allLen_nil {P : Program} : ∀ x ∈ ([] : List (Nat × Bool)), LenC P x.1 x.2 := fun x h => by cases h
theorem allLen_cons {P : Program} {f : Nat} {p : Bool} {l : List (Nat × Bool)} (h : LenC P f p) (hl : ∀ x ∈ l, LenC P x.1 x.2) : ∀ x ∈ (f, p) :: l, LenC P x.1 x.2 := fun x hx => by
 rcases List.mem_cons.1 hx with rfl | hm
 ·exact h
 ·exact hl x hm
theorem rpOf_mem : ∀ {l : List (Nat × Rp)} {f : Nat} {p : Rp}, rpOf l f = some p → (f, p) ∈ l
 | [], _, _, h => by cases h
 | x :: l, f, p, h => by
  simp only [rpOf] at h
  cases hb : Nat.beq x.1 f with
  | true =>
   rw [hb] at h
   simp only [cond_true, Option.some.injEq] at h
   rw [← beq_out hb, ← h]
   exact List.mem_cons_self
  | false => rw [hb] at h; exact List.mem_cons_of_mem _ (rpOf_mem h)
theorem lcOf_mem : ∀ {l : List (Nat × Bool)} {f : Nat} {p : Bool}, lcOf l f = some p → (f, p) ∈ l
 | [], _, _, h => by cases h
 | x :: l, f, p, h => by
  simp only [lcOf] at h
  cases hb : Nat.beq x.1 f with
  | true =>
   rw [hb] at h
   simp only [cond_true, Option.some.injEq] at h
   rw [← beq_out hb, ← h]
   exact List.mem_cons_self
  | false => rw [hb] at h; exact List.mem_cons_of_mem _ (lcOf_mem h)
def krFns : List (Nat × Rp) :=
 (102, .i16) ::
 (104, .i32) ::
 (103, .i64) ::
 (114, .str) ::
 (113, .cstr) ::
 (125, .nstr) ::
 (123, .cnstr) ::
 (128, .bytes) ::
 (127, .cbytes) ::
 []
def krLens : List (Nat × Bool) :=
 (107, false) ::
 (106, true) ::
 []
theorem krFns_ok : ∀ x ∈ krFns, RdC Tryz.prog x.1 x.2 :=
 allRd_cons rd_Int16 <|
 allRd_cons rd_Int32 <|
 allRd_cons rd_Int64 <|
 allRd_cons rd_String <|
 allRd_cons rd_CompactString <|
 allRd_cons rd_NullableString <|
 allRd_cons rd_CompactNullableString <|
 allRd_cons rd_Bytes <|
 allRd_cons rd_CompactBytes <|
 allRd_nil
theorem krLens_ok : ∀ x ∈ krLens, LenC Tryz.prog x.1 x.2 :=
 allLen_cons len_ArrayLen <|
 allLen_cons len_CompactArrayLen <|
 allLen_nil
def kr : Kr where
 fns := krFns
 lens := krLens
 ok := 108
 comp := 109
 tags := 115
 rty := 154
theorem kr_ok (ev : Value) : KrOk Tryz.prog kr 1 ev where
 rd := fun f p h _ => krFns_ok _ (rpOf_mem h)
 len := fun f c h _ => krLens_ok _ (lcOf_mem h)
 tags := fun _ w rb sb lo st hr h1 h2 h3 h4 => fn_tags w rb sb lo st hr h1 h2 h3 h4
 ok := fun _ w rb sb st hr => fn_ok w rb sb st hr
 comp := fun _ w rb sb st hr hg => fn_complete w rb sb st ev hr hg
theorem kr_ty : KrTy Tryz.prog kr where
 built := fun a n c => by kernel_rfl
 zero := fun w => by kernel_rfl
 size := by kernel_rfl
end Go.Proofs.YtlmnaffhadeolaaGreatDoor.Rdk

namespace Go.Proofs.YtlmnaffhadeolaaGreatDoor
open Go Go.RowKit
def fldCells (f : Fld) : List Value := [.int .i64 f.kind, .int .i64 f.fr, .int .i64 f.upto, .int .i64 f.nul, .int .i64 f.tag, .int .i64 f.df, .int .i64 f.of, .slice none 0 0]
theorem rep_fld0 (ok : Nat → Prop) (w : World) : ∀ (f : Fld), f.sub.isEmpty = true → Rep ok w (fldD f) (fldCells f)
 | .mk a b c d e f g sub, h => by
  have : sub = [] := by cases sub with | nil => rfl | cons _ _ => simp [Fld.sub] at h
  subst this
  simp only [fldD, fldDs, Rep, Reps]
  exact ⟨[_], _, rfl, rfl, [_], _, rfl, rfl, [_], _, rfl, rfl, [_], _, rfl, rfl, [_], _, rfl, rfl, [_], _, rfl, rfl, [_], _, rfl, rfl, [_], _, rfl, ⟨none, 0, rfl, by simp, .inl (by simp)⟩, rfl⟩
def Frs (lo hi : Nat) : Nat → Prop := fun b => lo ≤ b ∧ b < hi
theorem rep_fr {lo : Nat} {w w' : World} {d : D} {cs : List Value} {lo' : Nat} (h : Rep (Frs lo w.heap.size) w d cs) (hb : Below w.heap.size w w') (hl : lo' ≤ lo) : Rep (Frs lo' w'.heap.size) w' d cs :=
 Rep.mono (fun b k => ⟨⟨Nat.le_trans hl k.1, Nat.lt_of_lt_of_le k.2 hb.size⟩, hb.block b k.2⟩) _ _ h
theorem rep_frw {lo lo' hi : Nat} {w : World} {d : D} {cs : List Value} (h : Rep (Frs lo hi) w d cs) (hl : lo' ≤ lo) : Rep (Frs lo' hi) w d cs :=
 Rep.mono (fun _ k => ⟨⟨Nat.le_trans hl k.1, k.2⟩, rfl⟩) _ _ h
theorem rep_sqshape {ok : Nat → Prop} {w : World} {v : Value} {ds : List D} (h : Rep ok w (.sq ds) [v]) : ∃ a c, v = .slice a ds.length c := by
 simp only [Rep] at h
 obtain ⟨a, c, e, _⟩ := h
 exact ⟨a, c, by simpa using e⟩
theorem reps_fnil {ok : Nat → Prop} {w : World} : Reps ok w (([] : List Fld).map fldD) ([] : List (List Value)).flatten := by simp [Reps]
theorem reps_fcons {ok : Nat → Prop} {w : World} {f : Fld} {fs : List Fld} {c : List Value} {cs : List (List Value)} (h : Rep ok w (fldD f) c) (hl : Reps ok w (fs.map fldD) cs.flatten) : Reps ok w ((f :: fs).map fldD) (c :: cs).flatten := by
 simp only [List.map_cons, List.flatten_cons, Reps]
 exact ⟨_, _, rfl, h, hl⟩
theorem rep_fldS {ok : Nat → Prop} {w : World} {a b c d e f g : Int} {sub : List Fld} {v : Value} (h : Rep ok w (.sq (sub.map fldD)) [v]) : Rep ok w (fldD (.mk a b c d e f g sub)) [.int .i64 a, .int .i64 b, .int .i64 c, .int .i64 d, .int .i64 e, .int .i64 f, .int .i64 g, v] := by
 have h2 : Rep ok w (.sq (fldDs sub)) [v] := by rw [fldDs_map]; exact h
 simp only [fldD, Rep, Reps] at h2 ⊢
 exact ⟨[_], _, rfl, rfl, [_], _, rfl, rfl, [_], _, rfl, rfl, [_], _, rfl, rfl, [_], _, rfl, rfl, [_], _, rfl, rfl, [_], _, rfl, rfl, [_], _, rfl, h2, rfl⟩
section
variable {P : Program} {ops : Array Oper} {Q : Exit → Act → World → Prop} {N : Nat} {rest : List Oper} {L : Sl} {w : World} {d : Nat} {ty : TypeId} {pos : String} {aft : Array Edge}
theorem wl_ifNeNil {x : Operand} {t u : TypeId} (hx : ev L x = some .nilIface) (ht : (match P.underlying t with | some (.interface _) => true | _ => false) = true) (hd : Nat.blt d N = true) (h : WL rest P ops Q N ((d, .bool false) :: L) w) :
  WL (⟨some d, .binOp .neq t x (.const .nilIface) u, ty, pos, aft, none⟩ :: rest) P ops Q N L w := by
 intro a k
 split at ht
 ·rename_i ms hu
  refine st_of (o := ⟨some d, .binOp .neq t x (.const .nilIface) u, ty, pos, aft, none⟩) (v := .bool false) (w' := w) rfl ?_ (h _ (k.put _ hd))
  simp only [execOp, k.eval hx, eval_const]
  have h : ∀ d : Nat, (Op.equalIn (d + 1) t .nilIface .nilIface).run P w = .ok true w := fun d => by
   simp [Op.equalIn, run_underlying hu]
  simp only [eqGuard, binOp]
  simp [Op.equal, Op.maxDepth, h 9999]
 ·cases ht
end
theorem own_src {w : World} {B u8 : Nat} {d : Value} {s : List UInt8} (h : Own w B u8 d s) (hl : s.length ≤ srcLim) (hx : 0 < B) (hw : 0 < w.heap.size) : ∃ sb, sb < w.heap.size ∧ (sb = 0 ∨ B ≤ sb) ∧ SrcAt w sb d s := by
 obtain ⟨hxl, ⟨rfl, h0⟩ | ⟨g, cap, cur, rfl, hBg, hheap, hle, hcap, hcs, htake⟩⟩ := id h
 ·exact ⟨0, hw, .inl rfl, hl, .inl ⟨rfl, List.length_eq_zero_iff.1 h0, rfl⟩⟩
 ·refine ⟨g, (Array.getElem?_eq_some_iff.1 hheap).1, .inr hBg, hl, .inr ⟨0, cap, rfl, hle, ⟨cur, _, _, hheap, ?_, ?_⟩, by omega⟩⟩
  ·rw [bv_length]; omega
  ·intro i v hv
   rw [Nat.zero_add]
   rw [← htake, List.getElem?_take] at hv
   split at hv
   ·simpa using hv
   ·cases hv
theorem chg_below {S : Nat → Prop} {B : Nat} {w w' : World} (h : Chg S w w') (hS : ∀ j, j < B → ¬ S j) (hB : B ≤ w.heap.size) : Below B w w' := ⟨h.os, h.tape, h.output, h.size, fun k hk => h.block k (by omega) (hS k hk)⟩
end Go.Proofs.YtlmnaffhadeolaaGreatDoor

namespace Go.Proofs.YtlmnaffhadeolaaGreatDoor
open Go Go.RowKit
section
set_option maxRecDepth 100000
end
end Go.Proofs.YtlmnaffhadeolaaGreatDoor

namespace Go.Proofs.YtlmnaffhadeolaaGreatDoor
open Go Go.RowKit
def PF (f : Fld) (y : Tree) (j : Nat) (v : Value) (w : World) : Prop := match j with
 | 1 => Sq w.heap.size w v ([f].map fldD)
 | 7 => Sq w.heap.size w v ([y].map treeD)
 | 8 => ∃ cs : List Value, v = .agg cs.toArray ∧ Rep (Lo w.heap.size) w (treeD (.mk 0 [] false [y] [])) cs
 | 9 => v = .bool true
 | 10 => v = .bool false
 | _ => True
theorem PF.up {f : Fld} {y : Tree} {j : Nat} {v : Value} {w w' : World} (h : PF f y j v w) (hb : Below w.heap.size w w') : PF f y j v w' := by
 unfold PF at *
 split at h
 ·exact h.below hb hb.size
 ·exact h.below hb hb.size
 ·obtain ⟨cs, rfl, hr⟩ := h; exact ⟨cs, rfl, Rep.below hr hb hb.size⟩
 ·exact h
 ·exact h
 ·trivial
section
set_option maxRecDepth 100000
end
end Go.Proofs.YtlmnaffhadeolaaGreatDoor

namespace Go.Proofs.YtlmnaffhadeolaaGreatDoor.Tlk
open Go Go.RowKit
theorem tk_cons {P : Program} {K : Tk} {tg : Bool} (h : TkOk P K tg) {f : Nat} {fs : List Fld} (hf : TlP P f tg fs) : TkOk P ⟨K.tT, K.bool, K.text, K.octs, K.each, K.sorted, K.clos, K.gT, (f, fs) :: K.tells⟩ tg := by
 refine ⟨h.ty, h.bool, h.text, h.octs, fun g gs hg => ?_⟩
 simp only [lkM] at hg
 cases hb : Nat.beq f g with
 | true =>
  rw [hb] at hg
  simp only [cond_true, Option.some.injEq] at hg
  rw [← beq_out hb, ← hg]; exact hf
 | false => rw [hb] at hg; exact h.tells g gs hg
theorem tg_cons {P : Program} {K : Tk} (h : TgOk P K) (f : Nat) (fs : List Fld) : TgOk P ⟨K.tT, K.bool, K.text, K.octs, K.each, K.sorted, K.clos, K.gT, (f, fs) :: K.tells⟩ := ⟨h.each, h.sorted, h.clos⟩
end Go.Proofs.YtlmnaffhadeolaaGreatDoor.Tlk

namespace Go.Proofs.YtlmnaffhadeolaaGreatDoor
open Go Go.RowKit
section
set_option maxRecDepth 100000
end
end Go.Proofs.YtlmnaffhadeolaaGreatDoor

namespace Go.Proofs.YtlmnaffhadeolaaGreatDoor
open Go Go.RowKit
def startSU (q : Hd) (cs : List Value) (ub : Bool) : RS := ⟨[(0, .at_ 0 0), (2, .val (.bool ub)), (q.rs, .val .nilIface), (q.r, .rdr)], [], .no, cs.map some, shDs (litsD cs), true, cs, []⟩
section
variable {P : Program} {K : Kr} {g : Nat} {ev : Value} {w : World}
theorem startSU_ok {ub : Bool} {q : Hd} {cs : List Value} {N rb sb b lo : Nat} {e : TypeId} {s : List UInt8} {a : Act} (kn : KnW N rb a [(0, .at_ 0 0), (2, .val (.bool ub)), (q.rs, .val .nilIface), (q.r, .rdr)] [(b, 0)] [] [0]) (hb : Box w b cs e) (hr : Rdr w rb sb (some s))
  (l1 : b < lo) (l2 : rb < lo) (l3 : sb < lo) (l4 : lo ≤ w.heap.size) (n1 : rb ≠ sb) (n2 : b ≠ rb) (n3 : b ≠ sb) (hg : w.cell? ⟨g, 0, none⟩ = some ev) (g1 : g ≠ rb) (g2 : g < lo) (g3 : g ≠ b) :
  RAt N g rb sb ev 0 [] [] (startSU q cs ub) [(b, 0)] [] [0] ⟨b, lo, [], [], cs, e, litsD cs⟩ (some s) (some s) (some s) a w := by
 refine ⟨kn, ⟨rfl, (fun n h v hh => by simp [startSU] at hh)⟩, (fun h v hh => by simp [startSU] at hh), rfl, ⟨rfl, rfl⟩, (fun q rest hq => by cases hq), by simpa using hb, reps_lits _, by simp [startSU], ⟨rfl, ?_⟩, ?_, hr, rfl, fun _ => ⟨rfl, rfl⟩, ⟨rfl, by simp [startSU, rdAs]⟩, ⟨l1, l2, l3, l4⟩, ⟨n1, n2, n3⟩, hg, g1, g2, g3⟩
 ·intro d hd
  simp only [litsD, List.mem_map] at hd
  obtain ⟨u, _, rfl⟩ := hd
  rfl
 ·intro j u hj
  simp only [startSU, List.getElem?_map, Option.map_eq_some_iff] at hj
  obtain ⟨u', hu, he⟩ := hj
  cases he
  exact hu
end
end Go.Proofs.YtlmnaffhadeolaaGreatDoor

namespace Go.Proofs.YtlmnaffhadeolaaGreatDoor.Rdk
open Go Go.RowKit
set_option maxRecDepth 100000
theorem fn_ustr {w : World} {sb : Nat} {v : Value} {bs : List UInt8} (hv : SrcV w sb v bs) : Calls Tryz.prog 155 #[v] w fun e w' => e = .returned (strV bs) ∧ w' = w := by
 refine enter (vs := [v]) Tryz.func155 rfl Tryz.ntmps155 rfl ?_
 refine wc_seq (wc_region (wl_assign rfl rfl (wl_nil (qk_thn ?_))))
 refine wc_seq (wc_region ?_)
 refine ws rfl rfl ?_
 refine wl_toStr (sb := sb) (bs := bs) rfl hv bytes_ty str_ty rfl ?_
 refine ws rfl rfl ?_
 exact wl_nil (qk_thn (wc_ret (qk_ret1 rfl rfl ⟨rfl, rfl⟩)))
theorem rd_UnsafeString : RdC Tryz.prog 112 .str := by
 intro w rb sb lo st hr h1 h2 h3 h4
 refine enter Tryz.func112 rfl Tryz.ntmps112 rfl ?_
 refine wc_seq (wc_region (wl_assign rfl rfl (wl_nil (qk_thn ?_))))
 refine wc_seq (wc_region ?_)
 refine ws rfl rfl ?_
 refine wl_call rfl (by kernel_rfl) rfl ((int_of_rd rd_Int16 .i16 2 (fun s => rfl) rfl w rb sb lo st hr h1 h2 h3 h4).mono ?_)
 rintro en w1 ⟨m, st1, rfl, hwr, hc1, hr1, hrel⟩
 refine ⟨_, rfl, ?_⟩
 refine ws rfl rfl ?_
 refine wl_nil (qk_thn ?_)
 have hs1 := hc1.size
 have hcnt : CntRel false .i16 2 st m st1 := cnt_i hrel
 have hrange : IntKind.i64.wrap m = m := by rw [wrap_i16] at hwr; rw [IntKind.wrap_i64]; omega
 refine wc_seq (wc_region ?_)
 refine ws rfl rfl ?_
 refine ws rfl rfl ?_
 refine wl_conv .i64 rfl (by kernel_rfl) (by kernel_rfl) rfl hrange ?_
 refine wl_call rfl (by kernel_rfl) rfl ((fn_span w1 rb sb st1 (m) hr1 h4).mono ?_)
 rintro en w2 ⟨v, s1, st2, rfl, hc2, hr2, hsv, hlim, hspan⟩
 refine ⟨_, rfl, ?_⟩
 refine wl_call rfl (by kernel_rfl) rfl ((fn_ustr hsv).mono ?_)
 rintro en w2u ⟨rfl, hu⟩
 obtain rfl : w2 = w2u := hu.symm
 refine ⟨_, rfl, ?_⟩
 have hs2 := hc2.size
 refine ws rfl rfl ?_
 refine wl_nil (qk_thn (wc_ret (qk_ret1 rfl rfl ?_)))
 refine ⟨strV s1, [.lit (strV s1)], st2, rfl, hc1.trans hc2, hr2, reps_lits [_], rfl, fun _ => rfl, ?_⟩
 exact str_rel (c := false) (span_rel hcnt hspan)
theorem rd_UnsafeCompactString : RdC Tryz.prog 111 .cstr := by
 intro w rb sb lo st hr h1 h2 h3 h4
 refine enter Tryz.func111 rfl Tryz.ntmps111 rfl ?_
 refine wc_seq (wc_region (wl_assign rfl rfl (wl_nil (qk_thn ?_))))
 refine wc_seq (wc_region ?_)
 refine ws rfl rfl ?_
 refine wl_call rfl (by kernel_rfl) rfl ((fn_ruv w rb sb st hr h4).mono ?_)
 rintro en w1 ⟨u, st1, rfl, hc1, hr1, hrel⟩
 refine ⟨_, rfl, ?_⟩
 have hul := hrel.1
 refine wl_conv .i64 (r := (u : Int)) rfl (by kernel_rfl) (by kernel_rfl) rfl (by rw [IntKind.wrap_i64]; omega) ?_
 refine wl_sub' (r := (u : Int) - 1) rfl rfl rfl (by rw [IntKind.wrap_i64]; omega) ?_
 refine ws rfl rfl ?_
 refine wl_nil (qk_thn ?_)
 have hs1 := hc1.size
 have hcnt : CntRel true .i16 2 st ((u : Int) - 1) st1 := cnt_u hrel
 refine wc_seq (wc_region ?_)
 refine ws rfl rfl ?_
 refine ws rfl rfl ?_
 refine wl_call rfl (by kernel_rfl) rfl ((fn_span w1 rb sb st1 ((u : Int) - 1) hr1 h4).mono ?_)
 rintro en w2 ⟨v, s1, st2, rfl, hc2, hr2, hsv, hlim, hspan⟩
 refine ⟨_, rfl, ?_⟩
 refine wl_call rfl (by kernel_rfl) rfl ((fn_ustr hsv).mono ?_)
 rintro en w2u ⟨rfl, hu⟩
 obtain rfl : w2 = w2u := hu.symm
 refine ⟨_, rfl, ?_⟩
 have hs2 := hc2.size
 refine ws rfl rfl ?_
 refine wl_nil (qk_thn (wc_ret (qk_ret1 rfl rfl ?_)))
 refine ⟨strV s1, [.lit (strV s1)], st2, rfl, hc1.trans hc2, hr2, reps_lits [_], rfl, fun _ => rfl, ?_⟩
 exact str_rel (c := true) (span_rel hcnt hspan)
theorem rd_UnsafeNullableString : RdC Tryz.prog 124 .nstr := by
 intro w rb sb lo st hr h1 h2 h3 h4
 refine enter Tryz.func124 rfl Tryz.ntmps124 rfl ?_
 refine wc_seq (wc_region (wl_assign rfl rfl (wl_nil (qk_thn ?_))))
 refine wc_seq (wc_region ?_)
 refine ws rfl rfl ?_
 refine wl_call rfl (by kernel_rfl) rfl ((int_of_rd rd_Int16 .i16 2 (fun s => rfl) rfl w rb sb lo st hr h1 h2 h3 h4).mono ?_)
 rintro en w1 ⟨m, st1, rfl, hwr, hc1, hr1, hrel⟩
 refine ⟨_, rfl, ?_⟩
 refine ws rfl rfl ?_
 refine wl_nil (qk_thn ?_)
 have hs1 := hc1.size
 have hcnt : CntRel false .i16 2 st m st1 := cnt_i hrel
 have hrange : IntKind.i64.wrap m = m := by rw [wrap_i16] at hwr; rw [IntKind.wrap_i64]; omega
 refine wc_seq (wc_seq (wc_region ?_))
 refine ws rfl rfl ?_
 refine ws rfl rfl ?_
 refine wl_nil (qk_thn ?_)
 refine wc_cond rfl (fun hc => ?_) (fun hc => ?_)
 ·refine wc_seq (wc_region ?_)
  refine ws rfl rfl ?_
  refine wl_nil (qk_thn (wc_ret (qk_thn_ret (qk_ret1 rfl rfl ?_))))
  have hneg : m < 0 := by simpa using hc
  refine ⟨_, [.lit (.pointer none)], st1, rfl, hc1, hr1, reps_lits [_], rfl, fun _ => rfl, ?_⟩
  exact nul_rel (c := false) hcnt hneg
 refine wc_skip (qk_thn ?_)
 have hnn : ¬ m < 0 := by simpa using hc
 refine wc_seq (wc_region ?_)
 refine ws rfl rfl ?_
 refine ws rfl rfl ?_
 refine wl_conv .i64 rfl (by kernel_rfl) (by kernel_rfl) rfl hrange ?_
 refine wl_call rfl (by kernel_rfl) rfl ((fn_span w1 rb sb st1 (m) hr1 h4).mono ?_)
 rintro en w2 ⟨v, s1, st2, rfl, hc2, hr2, hsv, hlim, hspan⟩
 refine ⟨_, rfl, ?_⟩
 refine wl_call rfl (by kernel_rfl) rfl ((fn_ustr hsv).mono ?_)
 rintro en w2u ⟨rfl, hu⟩
 obtain rfl : w2 = w2u := hu.symm
 refine ⟨_, rfl, ?_⟩
 have hs2 := hc2.size
 refine wl_alloc zv_str rfl rfl (fun w3 hb3 hg3 hs3 => ?_)
 refine wl_storeB rfl rfl to_str rfl hb3 rfl (fun w4 hb4 hg4 _ => ?_)
 refine wl_nil (qk_thn (wc_seq (wc_region ?_)))
 refine ws rfl rfl ?_
 refine wl_nil (qk_thn (wc_ret (qk_ret1 rfl rfl ?_)))
 have c3 : Chg (fun _ => False) w2 w3 := Chg.grown0 hg3
 have c4 : Chg (· = w2.heap.size) w3 w4 := Chg.grown hg4
 have hrb := Rdr.box' hr
 have c34 : Chg (· = rb) w2 w4 := new_only c3 c4
 have hsz4 := c4.size
 refine ⟨_, [.ptr (.lit (strV s1))], st2, rfl, (hc1.trans hc2).trans c34, (hr2.chg c3 id id).chg c4 (by omega) (by omega), ?_, rfl, fun _ => rfl, ?_⟩
 ·refine ⟨[_], [], rfl, ⟨w2.heap.size, _, rfl, ⟨.inr (by omega), by omega⟩, hb4.cells, rfl⟩, rfl⟩
 ·exact nstr_rel (c := false) hcnt hnn (span_rel hcnt hspan)
theorem rd_UnsafeCompactNullableString : RdC Tryz.prog 122 .cnstr := by
 intro w rb sb lo st hr h1 h2 h3 h4
 refine enter Tryz.func122 rfl Tryz.ntmps122 rfl ?_
 refine wc_seq (wc_region (wl_assign rfl rfl (wl_nil (qk_thn ?_))))
 refine wc_seq (wc_region ?_)
 refine ws rfl rfl ?_
 refine wl_call rfl (by kernel_rfl) rfl ((fn_ruv w rb sb st hr h4).mono ?_)
 rintro en w1 ⟨u, st1, rfl, hc1, hr1, hrel⟩
 refine ⟨_, rfl, ?_⟩
 have hul := hrel.1
 refine wl_conv .i64 (r := (u : Int)) rfl (by kernel_rfl) (by kernel_rfl) rfl (by rw [IntKind.wrap_i64]; omega) ?_
 refine wl_sub' (r := (u : Int) - 1) rfl rfl rfl (by rw [IntKind.wrap_i64]; omega) ?_
 refine ws rfl rfl ?_
 refine wl_nil (qk_thn ?_)
 have hs1 := hc1.size
 have hcnt : CntRel true .i16 2 st ((u : Int) - 1) st1 := cnt_u hrel
 refine wc_seq (wc_seq (wc_region ?_))
 refine ws rfl rfl ?_
 refine ws rfl rfl ?_
 refine wl_nil (qk_thn ?_)
 refine wc_cond rfl (fun hc => ?_) (fun hc => ?_)
 ·refine wc_seq (wc_region ?_)
  refine ws rfl rfl ?_
  refine wl_nil (qk_thn (wc_ret (qk_thn_ret (qk_ret1 rfl rfl ?_))))
  have hneg : (u : Int) - 1 < 0 := by simpa using hc
  refine ⟨_, [.lit (.pointer none)], st1, rfl, hc1, hr1, reps_lits [_], rfl, fun _ => rfl, ?_⟩
  exact nul_rel (c := true) hcnt hneg
 refine wc_skip (qk_thn ?_)
 have hnn : ¬ (u : Int) - 1 < 0 := by simpa using hc
 refine wc_seq (wc_region ?_)
 refine ws rfl rfl ?_
 refine ws rfl rfl ?_
 refine wl_call rfl (by kernel_rfl) rfl ((fn_span w1 rb sb st1 ((u : Int) - 1) hr1 h4).mono ?_)
 rintro en w2 ⟨v, s1, st2, rfl, hc2, hr2, hsv, hlim, hspan⟩
 refine ⟨_, rfl, ?_⟩
 refine wl_call rfl (by kernel_rfl) rfl ((fn_ustr hsv).mono ?_)
 rintro en w2u ⟨rfl, hu⟩
 obtain rfl : w2 = w2u := hu.symm
 refine ⟨_, rfl, ?_⟩
 have hs2 := hc2.size
 refine wl_alloc zv_str rfl rfl (fun w3 hb3 hg3 hs3 => ?_)
 refine wl_storeB rfl rfl to_str rfl hb3 rfl (fun w4 hb4 hg4 _ => ?_)
 refine wl_nil (qk_thn (wc_seq (wc_region ?_)))
 refine ws rfl rfl ?_
 refine wl_nil (qk_thn (wc_ret (qk_ret1 rfl rfl ?_)))
 have c3 : Chg (fun _ => False) w2 w3 := Chg.grown0 hg3
 have c4 : Chg (· = w2.heap.size) w3 w4 := Chg.grown hg4
 have hrb := Rdr.box' hr
 have c34 : Chg (· = rb) w2 w4 := new_only c3 c4
 have hsz4 := c4.size
 refine ⟨_, [.ptr (.lit (strV s1))], st2, rfl, (hc1.trans hc2).trans c34, (hr2.chg c3 id id).chg c4 (by omega) (by omega), ?_, rfl, fun _ => rfl, ?_⟩
 ·refine ⟨[_], [], rfl, ⟨w2.heap.size, _, rfl, ⟨.inr (by omega), by omega⟩, hb4.cells, rfl⟩, rfl⟩
 ·exact nstr_rel (c := true) hcnt hnn (span_rel hcnt hspan)
def kruFns : List (Nat × Rp) :=
 (112, .str) ::
 (111, .cstr) ::
 (124, .nstr) ::
 (122, .cnstr) ::
 krFns
theorem kruFns_ok : ∀ x ∈ kruFns, RdC Tryz.prog x.1 x.2 :=
 allRd_cons rd_UnsafeString <|
 allRd_cons rd_UnsafeCompactString <|
 allRd_cons rd_UnsafeNullableString <|
 allRd_cons rd_UnsafeCompactNullableString <|
 krFns_ok
def kru : Kr := ⟨kruFns, kr.lens, kr.ok, kr.comp, kr.tags, kr.rty⟩
theorem kru_ok (ev : Value) : KrOk Tryz.prog kru 1 ev :=
 ⟨fun f p h _ => kruFns_ok _ (rpOf_mem h), (kr_ok ev).len, (kr_ok ev).tags, (kr_ok ev).ok, (kr_ok ev).comp⟩
theorem kru_ty : KrTy Tryz.prog kru := ⟨kr_ty.built, kr_ty.zero, kr_ty.size⟩
end Go.Proofs.YtlmnaffhadeolaaGreatDoor.Rdk

namespace Go.Proofs.YtlmnaffhadeolaaGreatDoor
open Go Go.RowKit
inductive CT where
 | b | oc | n (k : IntKind) | s | os | row (st : Bool) (e : List CT) | tg
def isU8s : Nat → List CT → Bool
 | 0, _ => true
 | n + 1, .oc :: l => isU8s n l
 | _, _ => false
def fits : Rp → List CT → Bool
 | .bool, .b :: _ => true
 | .i8, .n .i8 :: _ => true
 | .i16, .n .i16 :: _ => true
 | .i32, .n .i32 :: _ => true
 | .i64, .n .i64 :: _ => true
 | .u16, .n .u16 :: _ => true
 | .uuid, l => isU8s 16 l
 | .str, .s :: _ => true
 | .cstr, .s :: _ => true
 | .nstr, .os :: _ => true
 | .cnstr, .os :: _ => true
 | .bytes, .row false [.oc] :: _ => true
 | .cbytes, .row false [.oc] :: _ => true
 | _, _ => false
def litOk : CT → Value → Bool
 | .b, .bool _ => true
 | .oc, .int .u8 x => decide (x = 0)
 | .n k, .int k' _ => decide (k = k')
 | .s, .string x => Nat.beq x.size 0
 | .os, .pointer none => true
 | .row _ _, .slice none 0 0 => true
 | .tg, .map none => true
 | _, _ => false
def litsOk : List CT → List Value → Bool
 | [], [] => true
 | c :: cs, v :: vs => litOk c v && litsOk cs vs
 | _, _ => false
mutual
def okA : List CT → Ra → Bool
 | cts, .prim p off => fits p (cts.drop off)
 | cts, .row _ _ off st dfl body => match cts.drop off with
  | .row st' e :: _ => (st == st') && litsOk e dfl && okAs e body
  | _ => false
 | cts, .tags off => match cts.drop off with
  | .tg :: _ => true
  | _ => false
def okAs : List CT → List Ra → Bool
 | _, [] => true
 | cts, a :: r => okA cts a && okAs cts r
end
mutual
def Typed (M : Nat) : CT → D → Prop
 | .b, d => ∃ x, d = .lit (.bool x)
 | .oc, d => ∃ c, d = byteD c
 | .n k, d => ∃ x, d = .lit (.int k x)
 | .s, d => ∃ s, d = .lit (strV s) ∧ s.length ≤ M
 | .os, d => d = .lit (.pointer none) ∨ ∃ s, d = .ptr (.lit (strV s)) ∧ s.length ≤ M
 | .row st e, d => d = .lit (.slice none 0 0) ∨ ∃ (nl : Bool) (els : List (List D)), d = .sl nl (els.map (elD st)) ∧ els.length ≤ M ∧ ∀ x ∈ els, Typeds M e x
 | .tg, d => d = .lit (.map none) ∨ ∃ u, d = tagsK u ∧ Rising u ∧ (∀ kv ∈ u, kv.1 < 4294967296 ∧ kv.2.length ≤ M) ∧ u.length ≤ M
def Typeds (M : Nat) : List CT → List D → Prop
 | [], ds => ds = []
 | c :: cs, ds => ∃ d r, ds = d :: r ∧ Typed M c d ∧ Typeds M cs r
end
theorem Typed.unit {M : Nat} : ∀ {c : CT} {d : D}, Typed M c d → d.width = 1
 | .b, d, h => by simp only [Typed] at h; obtain ⟨x, rfl⟩ := h; rfl
 | .n k, d, h => by simp only [Typed] at h; obtain ⟨x, rfl⟩ := h; rfl
 | .oc, d, h => by simp only [Typed] at h; obtain ⟨x, rfl⟩ := h; rfl
 | .s, d, h => by simp only [Typed] at h; obtain ⟨x, rfl, _⟩ := h; rfl
 | .os, d, h => by simp only [Typed] at h; rcases h with rfl | ⟨x, rfl, _⟩ <;> rfl
 | .row st e, d, h => by simp only [Typed] at h; rcases h with rfl | ⟨nl, x, rfl, _⟩ <;> rfl
 | .tg, d, h => by simp only [Typed] at h; rcases h with rfl | ⟨u, rfl, _⟩ <;> rfl
theorem Typeds.len {M : Nat} : ∀ {cs : List CT} {ds : List D}, Typeds M cs ds → ds.length = cs.length ∧ D.widths ds = ds.length
 | [], ds, h => by simp only [Typeds] at h; subst h; exact ⟨rfl, rfl⟩
 | c :: cs, ds, h => by
  simp only [Typeds] at h
  obtain ⟨d, r, rfl, h1, h2⟩ := h
  obtain ⟨k1, k2⟩ := Typeds.len h2
  exact ⟨by simp [k1], by simp [D.widths, h1.unit, k2]; omega⟩
theorem Typeds.split {M : Nat} : ∀ {cs : List CT} {a b : List D}, Typeds M cs (a ++ b) → Typeds M (cs.take a.length) a ∧ Typeds M (cs.drop a.length) b
 | cs, [], b, h => by simpa [Typeds] using h
 | [], x :: a, b, h => by simp [Typeds] at h
 | c :: cs, x :: a, b, h => by
  simp only [List.cons_append, Typeds] at h
  obtain ⟨d, r, e, h1, h2⟩ := h
  simp only [List.cons.injEq] at e
  obtain ⟨rfl, rfl⟩ := e
  obtain ⟨k1, k2⟩ := Typeds.split h2
  simp only [List.length_cons, List.take_succ_cons, List.drop_succ_cons, Typeds]
  exact ⟨⟨_, _, rfl, h1, k1⟩, k2⟩
theorem Typeds.join {M : Nat} : ∀ {c1 c2 : List CT} {a b : List D}, Typeds M c1 a → Typeds M c2 b → Typeds M (c1 ++ c2) (a ++ b)
 | [], c2, a, b, h, k => by simp only [Typeds] at h; subst h; exact k
 | c :: c1, c2, a, b, h, k => by
  simp only [Typeds] at h
  obtain ⟨d, r, rfl, h1, h2⟩ := h
  simp only [List.cons_append, Typeds]
  exact ⟨_, _, rfl, h1, Typeds.join h2 k⟩
theorem lits_typed {M : Nat} : ∀ {cs : List CT} {vs : List Value}, litsOk cs vs = true → Typeds M cs (litsD vs)
 | [], [], _ => by simp [litsD, Typeds]
 | [], v :: vs, h => by simp [litsOk] at h
 | c :: cs, [], h => by simp [litsOk] at h
 | c :: cs, v :: vs, h => by
  simp only [litsOk, Bool.and_eq_true] at h
  have h2 := lits_typed (M := M) h.2
  show Typeds M (c :: cs) (.lit v :: litsD vs)
  simp only [Typeds]
  refine ⟨_, _, rfl, ?_, h2⟩
  have h1 := h.1
  unfold litOk at h1
  split at h1
  ·simp [Typed]
  ·simp only [decide_eq_true_eq] at h1; subst h1; simp only [Typed]; exact ⟨0, rfl⟩
  ·simp only [decide_eq_true_eq] at h1; subst h1; simp [Typed]
  ·rename_i x
   have hx : x.data.size = 0 := Nat.eq_of_beq_eq_true h1
   simp only [Typed]
   refine ⟨[], ?_, by simp⟩
   obtain ⟨dat⟩ := x
   have : dat = #[] := Array.eq_empty_of_size_eq_zero hx
   subst this
   rfl
  ·simp [Typed]
  ·simp [Typed]
  ·simp [Typed]
  ·cases h1
theorem put_typed {M : Nat} {cts : List CT} {ds ds' new : List D} {off : Nat} (hd : Typeds M cts ds) (hn : ∃ rest n, new.length = n ∧ cts.drop off = rest ∧ Typeds M (rest.take n) new) (h : putD ds off new = some ds') : Typeds M cts ds' := by
 obtain ⟨a, m, b, rfl, rfl, hwa, hwm, _⟩ := putD_out h
 obtain ⟨rest, n, hln, hr, ht⟩ := hn
 obtain ⟨t1, t3⟩ := Typeds.split hd
 obtain ⟨ta, tm⟩ := Typeds.split t1
 have la : a.length = off := by rw [← ta.len.2]; exact hwa
 have lm : m.length = n := by
  have h1 := tm.len.2
  have h2 := ht.len.2
  omega
 have hlen : cts.length = (a ++ m).length + b.length := by
  have h1 := t1.len.1
  have h3 := t3.len.1
  rw [List.length_take] at h1
  rw [List.length_drop] at h3
  have h4 := hd.len.1
  simp only [List.length_append] at *
  omega
 have e : cts = cts.take a.length ++ ((cts.drop a.length).take m.length ++ cts.drop (a ++ m).length) := by
  rw [List.length_append, ← List.drop_drop, List.take_append_drop, List.take_append_drop]
 rw [e, List.append_assoc]
 have ta' : Typeds M (cts.take a.length) a := by
  have := ta
  rw [List.take_take] at this
  rwa [show min a.length (a ++ m).length = a.length by simp] at this
 refine Typeds.join ta' (Typeds.join ?_ t3)
 rw [la, lm, hr]
 exact ht
end Go.Proofs.YtlmnaffhadeolaaGreatDoor

namespace Go.Proofs.YtlmnaffhadeolaaGreatDoor
open Go Go.RowKit
theorem takeN_len {n : Nat} {s : List UInt8} {x : List UInt8 × List UInt8} (h : takeN n s = some x) : x.1.length ≤ s.length ∧ x.2.length ≤ s.length ∧ x.1.length = n := by
 unfold takeN at h
 split at h
 ·cases h; simp; omega
 ·cases h
theorem intP_len {k : IntKind} {n : Nat} {s : List UInt8} {x : Int × List UInt8} (h : intP k n s = some x) : x.2.length ≤ s.length := by
 simp only [intP, Option.map_eq_some_iff] at h
 obtain ⟨y, hy, rfl⟩ := h
 exact (takeN_len hy).2.1
theorem spanP_len {l : Int} {s : List UInt8} {x : List UInt8 × List UInt8} (h : spanP l s = some x) : x.1.length ≤ s.length ∧ x.2.length ≤ s.length := by
 unfold spanP at h
 split at h
 ·cases h
 ·exact ⟨(takeN_len h).1, (takeN_len h).2.1⟩
theorem uvarR_dec : ∀ (k : Nat) (s : List UInt8) (x : Nat × List UInt8), uvarR k s = some x → x.2.length < s.length ∧ x.1 < 16 * 128 ^ (k - 1)
 | 0, s, x, h => by cases s <;> simp [uvarR] at h
 | k + 1, [], x, h => by simp [uvarR] at h
 | k + 1, c :: r, x, h => by
  rw [uvarR_cons] at h
  split at h
  ·rename_i hk
   subst hk
   split at h
   ·cases h; simp; omega
   ·cases h
  split at h
  ·rename_i hk hc
   cases h
   refine ⟨by simp, ?_⟩
   obtain ⟨q, rfl⟩ : ∃ q, k = q + 1 := ⟨k - 1, by omega⟩
   have : 0 < 128 ^ q := Nat.pow_pos (by decide)
   rw [Nat.add_sub_cancel, Nat.pow_succ]
   omega
  ·rename_i hk hc
   cases hu : uvarR k r with
   | none => rw [hu] at h; cases h
   | some y =>
    rw [hu] at h
    simp only [Option.some.injEq] at h
    subst h
    obtain ⟨h1, h2⟩ := uvarR_dec k r y hu
    obtain ⟨q, rfl⟩ : ∃ q, k = q + 1 := ⟨k - 1, by omega⟩
    rw [Nat.add_sub_cancel] at h2 ⊢
    rw [Nat.pow_succ]
    have hcl := c.toNat_lt
    exact ⟨by simp; omega, by simp only []; omega⟩
theorem uvarP_dec {s : List UInt8} {x : Nat × List UInt8} (h : uvarP s = some x) : x.2.length < s.length ∧ x.1 < 4294967296 := by
 have := uvarR_dec 5 s x h
 refine ⟨this.1, Nat.lt_of_lt_of_le this.2 (by decide)⟩
theorem tagsR_typed {M : Nat} : ∀ (n : Nat) (u : List (Nat × List UInt8)) (s : List UInt8) (x : List (Nat × List UInt8) × List UInt8), tagsR n u s = some x → Rising u → (∀ kv ∈ u, kv.1 < 4294967296 ∧ kv.2.length ≤ M) → u.length + s.length ≤ M →
  Rising x.1 ∧ (∀ kv ∈ x.1, kv.1 < 4294967296 ∧ kv.2.length ≤ M) ∧ x.1.length ≤ M ∧ x.2.length ≤ s.length
 | 0, u, s, x, h, hr, hk, hm => by
  simp only [tagsR, Option.some.injEq] at h
  subst h
  exact ⟨hr, hk, by simp only []; omega, Nat.le_refl _⟩
 | n + 1, u, s, x, h, hr, hk, hm => by
  simp only [tagsR, Option.bind_eq_some_iff] at h
  obtain ⟨a, ha, b, hb, z, hz, h⟩ := h
  obtain ⟨a1, a2⟩ := uvarP_dec ha
  obtain ⟨b1, _⟩ := uvarP_dec hb
  obtain ⟨z1, z2, _⟩ := takeN_len hz
  have hl := setTag_length (k := a.1) (v := z.1) hr
  have hl2 : (setTag a.1 z.1 u).length ≤ u.length + 1 := by rw [hl]; split <;> omega
  obtain ⟨k1, k2, k3, k4⟩ := tagsR_typed (M := M) n _ _ x h (setTag_rising hr) (fun kv hkv => by
   rcases (mem_setTag hr).1 hkv with rfl | ⟨h1, _⟩
   ·exact ⟨a2, by simp only []; omega⟩
   ·exact hk kv h1) (by omega)
  exact ⟨k1, k2, k3, by omega⟩
theorem tagsP_typed {M : Nat} {s : List UInt8} {x : List (Nat × List UInt8) × List UInt8} (h : tagsP s = some x) (hm : s.length ≤ M) :
  Rising x.1 ∧ (∀ kv ∈ x.1, kv.1 < 4294967296 ∧ kv.2.length ≤ M) ∧ x.1.length ≤ M ∧ x.2.length ≤ s.length := by
 simp only [tagsP, Option.bind_eq_some_iff] at h
 obtain ⟨a, ha, h⟩ := h
 obtain ⟨a1, _⟩ := uvarP_dec ha
 obtain ⟨k1, k2, k3, k4⟩ := tagsR_typed (M := M) _ _ _ x h (by simp [Rising]) (by simp) (by simp; omega)
 exact ⟨k1, k2, k3, by omega⟩
theorem u8s_typed {M : Nat} : ∀ (s : List UInt8) (l : List CT), isU8s s.length l = true → Typeds M (l.take s.length) (s.map byteD)
 | [], l, _ => by simp [Typeds]
 | c :: s, l, h => by
  unfold isU8s at h
  split at h
  ·rename_i e; simp at e
  ·rename_i n l' e
   have e' : s.length = n := by simp only [List.length_cons] at e; omega
   subst e'
   simp only [List.length_cons, List.take_succ_cons, List.map_cons, Typeds]
   exact ⟨_, _, rfl, by simp only [Typed]; exact ⟨_, rfl⟩, u8s_typed s l' h⟩
  ·cases h
theorem one_typed {M : Nat} {c : CT} {l : List CT} {d : D} (h : Typed M c d) : Typeds M ((c :: l).take 1) [d] := by
 simp only [List.take_succ_cons, List.take_zero, Typeds]
 exact ⟨_, _, rfl, h, rfl⟩
theorem octs_typed {M : Nat} (s : List UInt8) (h : s.length ≤ M) : Typed M (.row false [.oc]) (.sl false (s.map byteD)) := by
 simp only [Typed]
 refine .inr ⟨false, s.map fun c => [byteD c], ?_, by simpa using h, ?_⟩
 ·rw [List.map_map]
  rfl
 ·intro x hx
  obtain ⟨c, _, rfl⟩ := List.mem_map.1 hx
  simp only [Typeds, Typed]
  exact ⟨_, _, rfl, ⟨c, rfl⟩, rfl⟩
theorem rdP_typed {M : Nat} {p : Rp} {l : List CT} {s : List UInt8} {x : List D × List UInt8} (h : rdP p s = some x) (hf : fits p l = true) (hm : s.length ≤ M) : Typeds M (l.take x.1.length) x.1 ∧ x.2.length ≤ s.length := by
 unfold fits at hf
 split at hf
 ·unfold rdP at h
  cases s with
  | nil => simp at h
  | cons c r => simp only [Option.some.injEq] at h; subst h; exact ⟨one_typed (by simp only [Typed]; exact ⟨_, rfl⟩), by simp⟩
 iterate 5
  ·simp only [rdP, Option.map_eq_some_iff] at h
   obtain ⟨y, hy, rfl⟩ := h
   exact ⟨one_typed (by simp [Typed]), intP_len hy⟩
 ·simp only [rdP, Option.map_eq_some_iff] at h
  obtain ⟨y, hy, rfl⟩ := h
  obtain ⟨_, k2, k3⟩ := takeN_len hy
  refine ⟨?_, k2⟩
  rw [List.length_map]
  exact u8s_typed _ _ (by rw [k3]; exact hf)
 ·simp only [rdP, Option.bind_eq_some_iff, Option.map_eq_some_iff] at h
  obtain ⟨y, hy, z, hz, rfl⟩ := h
  have := intP_len hy
  obtain ⟨k1, k2⟩ := spanP_len hz
  exact ⟨one_typed (by simp only [Typed]; exact ⟨_, rfl, by omega⟩), by simp only []; omega⟩
 ·simp only [rdP, Option.bind_eq_some_iff, Option.map_eq_some_iff] at h
  obtain ⟨y, hy, z, hz, rfl⟩ := h
  have := (uvarP_dec hy).1
  obtain ⟨k1, k2⟩ := spanP_len hz
  exact ⟨one_typed (by simp only [Typed]; exact ⟨_, rfl, by omega⟩), by simp only []; omega⟩
 ·simp only [rdP, Option.bind_eq_some_iff] at h
  obtain ⟨y, hy, h⟩ := h
  have := intP_len hy
  split at h
  ·cases h; exact ⟨one_typed (by simp [Typed]), by simp only []; omega⟩
  ·simp only [Option.map_eq_some_iff] at h
   obtain ⟨z, hz, rfl⟩ := h
   obtain ⟨k1, k2⟩ := spanP_len hz
   exact ⟨one_typed (by simp only [Typed]; exact .inr ⟨_, rfl, by omega⟩), by simp only []; omega⟩
 ·simp only [rdP, Option.bind_eq_some_iff] at h
  obtain ⟨y, hy, h⟩ := h
  have := (uvarP_dec hy).1
  split at h
  ·cases h; exact ⟨one_typed (by simp [Typed]), by simp only []; omega⟩
  ·simp only [Option.map_eq_some_iff] at h
   obtain ⟨z, hz, rfl⟩ := h
   obtain ⟨k1, k2⟩ := spanP_len hz
   exact ⟨one_typed (by simp only [Typed]; exact .inr ⟨_, rfl, by omega⟩), by simp only []; omega⟩
 ·simp only [rdP, Option.bind_eq_some_iff] at h
  obtain ⟨y, hy, h⟩ := h
  have := intP_len hy
  split at h
  ·cases h; exact ⟨one_typed (octs_typed [] (by simp)), by simp only []; omega⟩
  ·simp only [Option.map_eq_some_iff] at h
   obtain ⟨z, hz, rfl⟩ := h
   obtain ⟨k1, k2⟩ := spanP_len hz
   exact ⟨one_typed (octs_typed _ (by omega)), by simp only []; omega⟩
 ·simp only [rdP, Option.bind_eq_some_iff] at h
  obtain ⟨y, hy, h⟩ := h
  have := (uvarP_dec hy).1
  split at h
  ·cases h; exact ⟨one_typed (octs_typed [] (by simp)), by simp only []; omega⟩
  ·simp only [Option.map_eq_some_iff] at h
   obtain ⟨z, hz, rfl⟩ := h
   obtain ⟨k1, k2⟩ := spanP_len hz
   exact ⟨one_typed (octs_typed _ (by omega)), by simp only []; omega⟩
 ·cases hf
theorem lenP_len {c : Bool} {s : List UInt8} {x : Int × List UInt8} (h : lenP c s = some x) : x.1 ≤ x.2.length ∧ x.2.length ≤ s.length := by
 simp only [lenP, Option.bind_eq_some_iff] at h
 obtain ⟨y, hy, h⟩ := h
 split at h
 ·cases h
 ·cases h
  refine ⟨by omega, ?_⟩
  split at hy
  ·simp only [Option.map_eq_some_iff] at hy
   obtain ⟨z, hz, rfl⟩ := hy
   exact Nat.le_of_lt (uvarP_dec hz).1
  ·exact intP_len hy
def ActTy (M : Nat) (cts : List CT) (l : List Ra) : Prop := ∀ (ds : List D) (s : List UInt8) (x : List D × List UInt8), s.length ≤ M → Typeds M cts ds → rdAs l ds s = some x → Typeds M cts x.1 ∧ x.2.length ≤ s.length
theorem rdRow_typed {M : Nat} {e : List CT} {body : List Ra} {dfl : List Value} (hb : ActTy M e body) (hd : litsOk e dfl = true) : ∀ (n : Nat) (s : List UInt8) (x : List (List D) × List UInt8), s.length ≤ M → rdRow body (litsD dfl) n s = some x → x.1.length = n ∧ (∀ y ∈ x.1, Typeds M e y) ∧ x.2.length ≤ s.length
 | 0, s, x, hm, h => by simp only [rdRow, Option.some.injEq] at h; subst h; simp
 | n + 1, s, x, hm, h => by
  simp only [rdRow, Option.bind_eq_some_iff, Option.map_eq_some_iff] at h
  obtain ⟨y, hy, z, hz, rfl⟩ := h
  obtain ⟨h1, h2⟩ := hb _ _ _ hm (lits_typed hd) hy
  obtain ⟨k1, k2, k3⟩ := rdRow_typed hb hd n _ _ (by omega) hz
  refine ⟨by simp [k1], fun q hq => ?_, by simp only []; omega⟩
  rcases List.mem_cons.1 hq with rfl | hq
  ·exact h1
  ·exact k2 q hq
mutual
theorem rdA_typed {M : Nat} : ∀ (a : Ra) (cts : List CT), okA cts a = true → ∀ (ds : List D) (s : List UInt8) (x : List D × List UInt8), s.length ≤ M → Typeds M cts ds → rdA a ds s = some x → Typeds M cts x.1 ∧ x.2.length ≤ s.length
 | .prim p off, cts, h, ds, s, x, hm, hd, hr => by
  simp only [okA] at h
  simp only [rdA, Option.bind_eq_some_iff, Option.map_eq_some_iff] at hr
  obtain ⟨y, hy, z, hz, rfl⟩ := hr
  obtain ⟨k1, k2⟩ := rdP_typed hy h hm
  exact ⟨put_typed hd ⟨_, _, rfl, rfl, k1⟩ hz, k2⟩
 | .row c nb off st dfl body, cts, h, ds, s, x, hm, hd, hr => by
  simp only [okA] at h
  split at h
  ·rename_i st' e l hc
   simp only [Bool.and_eq_true, beq_iff_eq] at h
   obtain ⟨⟨rfl, h2⟩, h3⟩ := h
   simp only [rdA, Option.bind_eq_some_iff, Option.map_eq_some_iff] at hr
   obtain ⟨y, hy, z, hz, q, hq, rfl⟩ := hr
   obtain ⟨j1, j2⟩ := lenP_len hy
   obtain ⟨k1, k2, k3⟩ := rdRow_typed (M := M) (rdAs_typed body e h3) h2 _ _ _ (by omega) hz
   refine ⟨put_typed hd ⟨_, 1, rfl, hc, one_typed ?_⟩ hq, by simp only []; omega⟩
   simp only [Typed]
   refine .inr ?_
   cases nb with
   | true =>
    simp only [if_true]
    split
    ·exact ⟨true, [], by simp, by simp, by simp⟩
    ·exact ⟨false, z.1, rfl, by omega, k2⟩
   | false => exact ⟨_, z.1, rfl, by omega, k2⟩
  ·cases h
 | .tags off, cts, h, ds, s, x, hm, hd, hr => by
  simp only [okA] at h
  split at h
  ·rename_i l hc
   simp only [rdA, Option.bind_eq_some_iff, Option.map_eq_some_iff] at hr
   obtain ⟨y, hy, z, hz, rfl⟩ := hr
   obtain ⟨k1, k2, k3, k4⟩ := tagsP_typed hy hm
   exact ⟨put_typed hd ⟨_, 1, rfl, hc, one_typed (by simp only [Typed]; exact .inr ⟨_, rfl, k1, k2, k3⟩)⟩ hz, k4⟩
  ·cases h
theorem rdAs_typed {M : Nat} : ∀ (l : List Ra) (cts : List CT), okAs cts l = true → ActTy M cts l
 | [], cts, _, ds, s, x, hm, hd, hr => by
  simp only [rdAs, Option.some.injEq] at hr
  subst hr
  exact ⟨hd, Nat.le_refl _⟩
 | a :: r, cts, h, ds, s, x, hm, hd, hr => by
  simp only [okAs, Bool.and_eq_true] at h
  simp only [rdAs, Option.bind_eq_some_iff] at hr
  obtain ⟨y, hy, hr⟩ := hr
  obtain ⟨k1, k2⟩ := rdA_typed a cts h.1 ds s y hm hd hy
  obtain ⟨j1, j2⟩ := rdAs_typed r cts h.2 y.1 y.2 x (by omega) k1 hr
  exact ⟨j1, by omega⟩
end
end Go.Proofs.YtlmnaffhadeolaaGreatDoor

namespace Go.Proofs.YtlmnaffhadeolaaGreatDoor
open Go Go.RowKit
mutual
def fine : Tree → Prop
 | .mk _ s _ l u => (s.length ≤ lim ∧ l.length ≤ 1000000000 ∧ u.length ≤ 1000000000 ∧ ∀ kv ∈ u, kv.2.length ≤ lim) ∧ fines l
def fines : List Tree → Prop
 | [] => True
 | t :: l => fine t ∧ fines l
end
theorem fines_mem : ∀ {l : List Tree}, fines l → ∀ t ∈ l, fine t
 | [], _, t, h => by cases h
 | x :: l, h, t, ht => by
  simp only [fines] at h
  rcases List.mem_cons.1 ht with rfl | h1
  ·exact h.1
  ·exact fines_mem h.2 t h1
theorem fine_lens {t : Tree} (h : fine t) : t.s.length ≤ lim ∧ t.l.length ≤ 1000000000 ∧ t.u.length ≤ 1000000000 ∧ ∀ kv ∈ t.u, kv.2.length ≤ lim := by cases t; simp only [fine] at h; exact h.1
theorem fine_l {t : Tree} (h : fine t) : ∀ x ∈ t.l, fine x := by cases t; simp only [fine] at h; exact fines_mem h.2
mutual
theorem fine_small : ∀ {t : Tree}, fine t → t.small
 | .mk _ _ _ l u, h => by
  simp only [fine] at h
  simp only [Tree.small]
  exact ⟨⟨h.1.2.1, h.1.2.2.1⟩, fines_smalls h.2⟩
theorem fines_smalls : ∀ {l : List Tree}, fines l → Tree.smalls l
 | [], _ => by simp [Tree.smalls]
 | t :: l, h => by
  simp only [fines] at h
  simp only [Tree.smalls]
  exact ⟨fine_small h.1, fines_smalls h.2⟩
end
def ctV (kind nul : Int) : List CT :=
 if kind = 0 then [.b] else if kind = 1 then [.n .i8] else if kind = 2 then [.n .i16] else if kind = 3 then [.n .i32] else if kind = 5 then [.n .u16]
 else if kind = 7 then List.replicate 16 .oc else if kind = 8 then (if 0 ≤ nul then [.os] else [.s]) else if kind = 9 then [.row false [.oc]] else [.n .i64]
mutual
def ctF (tg : Bool) : Fld → List CT
 | .mk kind _ _ nul _ _ of sub => if kind = 11 then [.row (decide (of = 10)) (if of = 10 then ctFs tg sub ++ (if tg then [.tg] else []) else ctV of (-1))]
  else if kind = 10 then ctFs tg sub ++ (if tg then [.tg] else []) else ctV kind nul
def ctFs (tg : Bool) : List Fld → List CT
 | [] => []
 | f :: fs => ctF tg f ++ ctFs tg fs
end
def ctP (tg : Bool) (fs : List Fld) : List CT := ctFs tg fs ++ (if tg then [.tg] else [])
mutual
def cov : Fld → Bool
 | .mk kind _ _ nul _ _ of sub => (!decide (kind = 10) || decide (nul < 0)) && (!decide (kind = 11) || (!decide (of = 7) && !decide (of = 9) && !decide (of = 11))) && covs sub
def covs : List Fld → Bool
 | [] => true
 | f :: fs => cov f && covs fs
end
def One (R : List D → Tree → Prop) (ds : List D) : Prop := ∃ ds', Imp ds ds' ∧ ∃ T, R ds' T ∧ fine T ∧ ∀ T', R ds' T' → T' = T
theorem oc_typed {M : Nat} : ∀ (n : Nat) (ds : List D), Typeds M (List.replicate n .oc) ds → ∃ s : List UInt8, s.length = n ∧ ds = s.map byteD
 | 0, ds, h => by simp only [List.replicate, Typeds] at h; exact ⟨[], rfl, h⟩
 | n + 1, ds, h => by
  simp only [List.replicate_succ, Typeds, Typed] at h
  obtain ⟨d, r, rfl, ⟨c, rfl⟩, h2⟩ := h
  obtain ⟨s, k1, rfl⟩ := oc_typed n r h2
  exact ⟨c :: s, by simp [k1], rfl⟩
theorem one_of {M : Nat} {c : CT} {ds : List D} (h : Typeds M [c] ds) : ∃ d, ds = [d] ∧ Typed M c d := by
 simp only [Typeds] at h
 obtain ⟨d, r, rfl, h1, h2⟩ := h
 subst h2
 exact ⟨d, rfl, h1⟩
theorem fine_leaf (n : Int) : fine (leafT n) := by simp [leafT, fine, fines]
theorem fine_text {s : List UInt8} (h : s.length ≤ lim) : fine (textT s) := by simp [textT, fine, fines, h]
theorem fine_null : fine nullT := by simp [nullT, fine, fines]
theorem octs_of {M : Nat} : ∀ (els : List (List D)), (∀ x ∈ els, Typeds M [.oc] x) → ∃ s : List UInt8, s.length = els.length ∧ els = s.map fun c => [byteD c]
 | [], _ => ⟨[], rfl, rfl⟩
 | x :: els, h => by
  obtain ⟨s, k1, k2⟩ := octs_of els (fun y hy => h y (by simp [hy]))
  obtain ⟨d, rfl, h1⟩ := one_of (h x (by simp))
  simp only [Typed] at h1
  obtain ⟨c, rfl⟩ := h1
  exact ⟨c :: s, by simp [k1], by simp [k2]⟩
theorem v_told {M : Nat} (hM : M ≤ lim) {kind nul : Int} {ds : List D} (h : Typeds M (ctV kind nul) ds) : One (fun ds' T => ∃ d, ds' = [d] ∧ TellV kind nul d T) ds := by
 have mk : ∀ (d : D) (T : Tree), TellV kind nul d T → fine T → (∀ T', TellV kind nul d T' → T' = T) → Imp ds [d] → One (fun ds' T => ∃ d, ds' = [d] ∧ TellV kind nul d T) ds := by
  intro d T h1 h2 h3 h4
  refine ⟨[d], h4, T, ⟨d, rfl, h1⟩, h2, ?_⟩
  rintro T' ⟨d', e, h5⟩
  simp only [List.cons.injEq, and_true] at e
  subst e
  exact h3 T' h5
 have num : ∀ (k : IntKind) (g : Int → Tree), (∀ n, fine (g n)) → (∀ d T, TellV kind nul d T ↔ ∃ n, d = .lit (.int k n) ∧ T = g n) → Typeds M [.n k] ds → One (fun ds' T => ∃ d, ds' = [d] ∧ TellV kind nul d T) ds := by
  intro k g hg hT ht
  obtain ⟨d, rfl, h1⟩ := one_of ht
  simp only [Typed] at h1
  obtain ⟨x, rfl⟩ := h1
  refine mk _ (g x) ((hT _ _).2 ⟨x, rfl, rfl⟩) (hg x) (fun T' h' => ?_) (Imp.refl _)
  obtain ⟨n, e, rfl⟩ := (hT _ _).1 h'
  simp only [D.lit.injEq, Value.int.injEq, true_and] at e
  rw [e]
 unfold ctV at h
 by_cases h0 : kind = 0
 ·simp only [h0, if_true] at h
  obtain ⟨d, rfl, h1⟩ := one_of h
  simp only [Typed] at h1
  obtain ⟨x, rfl⟩ := h1
  subst h0
  refine mk _ (leafT (if x then 1 else 0)) (by simp only [TellV, if_true]; exact ⟨x, rfl, rfl⟩) (fine_leaf _) (fun T' h' => ?_) (Imp.refl _)
  simp only [TellV, if_true] at h'
  obtain ⟨b, e, rfl⟩ := h'
  simp only [D.lit.injEq, Value.bool.injEq] at e
  rw [e]
 simp only [h0, if_false] at h
 by_cases h1 : kind = 1
 ·subst h1
  exact num .i8 (fun n => leafT (IntKind.i64.wrap n)) (fun _ => fine_leaf _) (fun d T => by simp [TellV, kindInt]) (by simpa using h)
 simp only [h1, if_false] at h
 by_cases h2 : kind = 2
 ·subst h2
  exact num .i16 (fun n => leafT (IntKind.i64.wrap n)) (fun _ => fine_leaf _) (fun d T => by simp [TellV, kindInt]) (by simpa using h)
 simp only [h2, if_false] at h
 by_cases h3 : kind = 3
 ·subst h3
  exact num .i32 (fun n => leafT (IntKind.i64.wrap n)) (fun _ => fine_leaf _) (fun d T => by simp [TellV, kindInt]) (by simpa using h)
 simp only [h3, if_false] at h
 by_cases h5 : kind = 5
 ·subst h5
  exact num .u16 (fun n => leafT (IntKind.i64.wrap n)) (fun _ => fine_leaf _) (fun d T => by simp [TellV, kindInt]) (by simpa using h)
 simp only [h5, if_false] at h
 by_cases h7 : kind = 7
 ·subst h7
  simp only [if_true] at h
  obtain ⟨s, hl, rfl⟩ := oc_typed _ _ h
  refine mk (.agg (s.map byteD)) (textT s) (by simp only [TellV]; exact ⟨s, hl, rfl, rfl⟩) (fine_text (by rw [hl]; simp only [lim]; omega)) (fun T' h' => ?_) (imp_agg _)
  simp only [TellV] at h'
  obtain ⟨s', _, e, rfl⟩ := h'
  simp only [D.agg.injEq] at e
  rw [bytes_inj e]
 simp only [h7, if_false] at h
 by_cases h8 : kind = 8
 ·subst h8
  simp only [if_true] at h
  by_cases hn : 0 ≤ nul
  ·simp only [hn, if_true] at h
   obtain ⟨d, rfl, h1⟩ := one_of h
   simp only [Typed] at h1
   rcases h1 with rfl | ⟨s, rfl, hs⟩
   ·refine mk _ nullT (by simp [TellV, hn]) fine_null (fun T' h' => ?_) (Imp.refl _)
    simpa [TellV, hn] using h'
   ·refine mk _ (textT s) (by simp [TellV, hn]; exact ⟨s, rfl, rfl⟩) (fine_text (by omega)) (fun T' h' => ?_) (Imp.refl _)
    simp [TellV, hn] at h'
    obtain ⟨s', e, rfl⟩ := h'
    rw [strV_inj e]
  ·simp only [hn, if_false] at h
   obtain ⟨d, rfl, h1⟩ := one_of h
   simp only [Typed] at h1
   obtain ⟨s, rfl, hs⟩ := h1
   refine mk _ (textT s) (by simp [TellV, hn]; exact ⟨s, rfl, rfl⟩) (fine_text (by omega)) (fun T' h' => ?_) (Imp.refl _)
   simp [TellV, hn] at h'
   obtain ⟨s', e, rfl⟩ := h'
   rw [strV_inj e]
 simp only [h8, if_false] at h
 by_cases h9 : kind = 9
 ·subst h9
  simp only [if_true] at h
  obtain ⟨d, rfl, h1⟩ := one_of h
  simp only [Typed] at h1
  have fin : ∀ (s : List UInt8) (b : Bool), s.length ≤ lim → Imp [d] [.sl b (s.map byteD)] → One (fun ds' T => ∃ d, ds' = [d] ∧ TellV 9 nul d T) [d] := by
   intro s b hs hi
   refine mk _ (.mk 0 s b [] []) ?_ (by simp [fine, fines, hs]) (fun T' h' => ?_) hi
   ·simp only [TellV]
    exact ⟨s, b, ⟨rfl, hs⟩, .inl rfl⟩
   ·simp only [TellV] at h'
    obtain ⟨s', b', ⟨rfl, _⟩, h'⟩ := h'
    rcases h' with h' | ⟨h', _⟩
    ·simp only [D.sl.injEq] at h'
     rw [bytes_inj h'.2, h'.1]
    ·cases h'
  rcases h1 with rfl | ⟨nl, els, rfl, hl, he⟩
  ·exact fin [] true (by simp) imp_nilSl
  ·obtain ⟨s, hs, rfl⟩ := octs_of els he
   refine fin s nl (by rw [List.length_map] at hl; omega) ?_
   rw [List.map_map]
   exact Imp.refl _
 simp only [h9, if_false] at h
 refine num .i64 leafT (fun _ => fine_leaf _) (fun d T => ?_) h
 simp [TellV, kindInt, h0, h1, h2, h3, h5, h7, h8, h9]
end Go.Proofs.YtlmnaffhadeolaaGreatDoor

namespace Go.Proofs.YtlmnaffhadeolaaGreatDoor
open Go Go.RowKit
theorem imp_trans {a b c : List D} (h : Imp a b) (k : Imp b c) : Imp a c := fun ok w cs hr => k ok w cs (h ok w cs hr)
theorem tags_one {M : Nat} (hM : M ≤ 1000000000) {tg : Bool} {ds : List D} (h : Typeds M (if tg then [.tg] else []) ds) : ∃ u, Imp ds (TellTags tg u) ∧ (tg = true → OkTags u) ∧ (tg = false → u = []) ∧ u.length ≤ 1000000000 ∧ ∀ kv ∈ u, kv.2.length ≤ lim := by
 cases tg with
 | false =>
  simp only [Bool.false_eq_true, if_false, Typeds] at h
  subst h
  exact ⟨[], Imp.refl _, fun h => (by cases h), fun _ => rfl, by simp, by simp⟩
 | true =>
  simp only [if_true] at h
  obtain ⟨d, rfl, h1⟩ := one_of h
  simp only [Typed] at h1
  rcases h1 with rfl | ⟨u, rfl, k1, k2, k3⟩
  ·exact ⟨[], imp_nilMp, fun _ => ⟨by simp [Rising], by simp, by simp⟩, fun h => (by cases h), by simp, by simp⟩
  ·exact ⟨u, Imp.refl _, fun _ => ⟨k1, fun kv hkv => ⟨(k2 kv hkv).1, by have := (k2 kv hkv).2; simp only [lim]; omega⟩, by omega⟩, fun h => (by cases h), by omega, fun kv hkv => by have := (k2 kv hkv).2; simp only [lim]; omega⟩
theorem tellTags_inj {tg : Bool} {u v : List (Nat × List UInt8)} (h : TellTags tg u = TellTags tg v) : (if tg then u else []) = (if tg then v else []) := by
 cases tg with
 | false => rfl
 | true =>
  simp only [TellTags, if_true, List.cons.injEq, and_true] at h
  simp only [if_true]
  exact tagsK_inj h
theorem p_told {M : Nat} (hM : M ≤ 1000000000) {tg : Bool} {fs : List Fld} (hl : fs.length ≤ 1000) (hF : ∀ ds, Typeds M (ctFs tg fs) ds → ∃ ds', Imp ds ds' ∧ ∃ l, TellFs tg fs ds' l ∧ (l.length = fs.length ∧ fines l) ∧ ∀ l', TellFs tg fs ds' l' → l' = l)
  {ds : List D} (h : Typeds M (ctP tg fs) ds) : One (TellP tg fs) ds := by
 unfold ctP at h
 obtain ⟨a, b, rfl, ha, hb⟩ : ∃ a b, ds = a ++ b ∧ Typeds M (ctFs tg fs) a ∧ Typeds M (if tg then [.tg] else []) b := by
  have hlen := h.len.1
  rw [List.length_append] at hlen
  have hs := Typeds.split (M := M) (cs := ctFs tg fs ++ (if tg then [.tg] else [])) (a := ds.take (ctFs tg fs).length) (b := ds.drop (ctFs tg fs).length) (by rw [List.take_append_drop]; exact h)
  have hk : (ds.take (ctFs tg fs).length).length = (ctFs tg fs).length := by rw [List.length_take]; omega
  rw [hk, List.take_left, List.drop_left] at hs
  exact ⟨_, _, (List.take_append_drop _ _).symm, hs.1, hs.2⟩
 obtain ⟨a', i1, l, t1, ⟨t2, t3⟩, t4⟩ := hF a ha
 obtain ⟨u, i2, u1, u2, u3, u4⟩ := tags_one hM hb
 refine ⟨a' ++ TellTags tg u, Imp.app i1 i2, .mk 0 [] false l (if tg then u else []), ⟨a', u, rfl, rfl, u1, t1⟩, ?_, ?_⟩
 ·simp only [fine]
  refine ⟨⟨by simp, by omega, ?_, ?_⟩, t3⟩
  ·cases tg <;> simp [u3]
  ·cases tg with
   | false => simp
   | true => exact u4
 ·rintro T' ⟨a2, v, e, hT, _, hs⟩
  obtain ⟨e1, e2⟩ := split_cnt e (by rw [tellFs_cnt t1, tellFs_cnt hs])
  subst e1
  rw [hT, t4 _ hs, ← tellTags_inj e2]
theorem elems_told {M : Nat} {st tg : Bool} {kind : Int} {sub : List Fld} {e : List CT} (hE : ∀ x, Typeds M e x → ∃ d', Imp [elD st x] [d'] ∧ ∃ T, TellE tg kind sub d' T ∧ fine T ∧ ∀ T', TellE tg kind sub d' T' → T' = T) : ∀ (els : List (List D)), (∀ x ∈ els, Typeds M e x) →
  ∃ els' Ts, els'.length = els.length ∧ Ts.length = els.length ∧ Imp (els.map (elD st)) els' ∧ (∀ (i : Nat) (d : D) (x : Tree), els'[i]? = some d → Ts[i]? = some x → TellE tg kind sub d x) ∧ fines Ts ∧ ∀ Ts' : List Tree, Ts'.length = els'.length → (∀ (i : Nat) (d : D) (x : Tree), els'[i]? = some d → Ts'[i]? = some x → TellE tg kind sub d x) → Ts' = Ts
 | [], _ => ⟨[], [], rfl, rfl, Imp.refl _, fun i d x h => by simp at h, by simp [fines], fun Ts' h _ => List.eq_nil_of_length_eq_zero h⟩
 | y :: els, h => by
  obtain ⟨d', i1, T, t1, t2, t3⟩ := hE y (h y (by simp))
  obtain ⟨els', Ts, k1, k2, k3, k4, k5, k6⟩ := elems_told hE els (fun x hx => h x (by simp [hx]))
  refine ⟨d' :: els', T :: Ts, by simp [k1], by simp [k2], Imp.app (a := [elD st y]) (b := [d']) i1 k3, ?_, by simp only [fines]; exact ⟨t2, k5⟩, ?_⟩
  ·intro i d x h1 h2
   cases i with
   | zero =>
    simp only [List.getElem?_cons_zero, Option.some.injEq] at h1 h2
    subst h1; subst h2; exact t1
   | succ i => exact k4 i d x (by simpa using h1) (by simpa using h2)
  ·intro Ts' hl ht
   cases Ts' with
   | nil => simp at hl
   | cons x r =>
    have h1 := t3 x (ht 0 d' x rfl rfl)
    have h2 := k6 r (by simpa using hl) (fun i d y h1 h2 => ht (i + 1) d y (by simpa using h1) (by simpa using h2))
    rw [h1, h2]
theorem e_told {M : Nat} (hM : M ≤ 1000000000) {tg : Bool} {of : Int} {sub : List Fld} (h7 : of ≠ 7) (h9 : of ≠ 9) (hP : of = 10 → ∀ ds, Typeds M (ctP tg sub) ds → One (TellP tg sub) ds) {x : List D} (h : Typeds M (if of = 10 then ctP tg sub else ctV of (-1)) x) :
  ∃ d', Imp [elD (decide (of = 10)) x] [d'] ∧ ∃ T, TellE tg of sub d' T ∧ fine T ∧ ∀ T', TellE tg of sub d' T' → T' = T := by
 by_cases h10 : of = 10
 ·simp only [h10, if_true] at h
  obtain ⟨ds', i1, T, t1, t2, t3⟩ := hP h10 x h
  subst h10
  refine ⟨.agg ds', ?_, T, by simp only [TellE, if_true]; exact ⟨_, rfl, t1⟩, t2, ?_⟩
  ·refine Imp.one (fun ok w cs hr => ?_)
   simp only [elD, decide_true, if_true, Rep] at hr ⊢
   exact i1 ok w cs hr
  ·intro T' h'
   simp only [TellE, if_true] at h'
   obtain ⟨ps, e, h'⟩ := h'
   simp only [D.agg.injEq] at e
   subst e
   exact t3 T' h'
 ·simp only [h10, if_false] at h
  obtain ⟨ds', i1, T, ⟨d, rfl, t1⟩, t2, t3⟩ := v_told (M := M) (by simp only [lim]; omega) h
  have hlen : x.length = 1 := by
   rw [h.len.1]
   unfold ctV
   simp only [h7, h9, if_false]
   repeat' split
   all_goals first | rfl | omega
  obtain ⟨y, rfl⟩ : ∃ y, x = [y] := by
   match x, hlen with
   | [y], _ => exact ⟨y, rfl⟩
  refine ⟨d, ?_, T, by simp only [TellE, h10, if_false]; exact t1, t2, ?_⟩
  ·simp only [elD, h10, decide_false, Bool.false_eq_true, if_false]
   exact i1
  ·intro T' h'
   simp only [TellE, h10, if_false] at h'
   exact t3 T' ⟨d, rfl, h'⟩
mutual
theorem f_told {M : Nat} (hM : M ≤ 1000000000) (tg : Bool) : ∀ (f : Fld), cov f = true → f.okb = true → ∀ ds, Typeds M (ctF tg f) ds → One (TellF tg f) ds
 | .mk kind fr upto nul tag df of sub, hc, hk, ds, h => by
  simp only [cov, Bool.and_eq_true, Bool.or_eq_true, Bool.not_eq_true', decide_eq_false_iff_not, decide_eq_true_eq] at hc
  obtain ⟨⟨h10n, h11n⟩, hcs⟩ := hc
  simp only [Fld.okb, Bool.and_eq_true] at hk
  have hl : sub.length ≤ 1000 := Nat.le_of_ble_eq_true hk.1.2
  have hP : ∀ ds, Typeds M (ctP tg sub) ds → One (TellP tg sub) ds := fun ds hd => p_told hM hl (fs_told hM tg sub hcs hk.2) hd
  simp only [ctF] at h
  by_cases h11 : kind = 11
  ·simp only [h11, if_true] at h
   obtain ⟨⟨o7, o9⟩, o11⟩ := h11n.resolve_left (fun e => e h11)
   obtain ⟨d, rfl, h1⟩ := one_of h
   have hE := fun x hx => e_told hM (tg := tg) (of := of) (sub := sub) o7 o9 (fun _ => hP) (x := x) hx
   simp only [Typed] at h1
   have fin : ∀ (nl : Bool) (els : List (List D)), els.length ≤ M → (∀ x ∈ els, Typeds M (if of = 10 then ctP tg sub else ctV of (-1)) x) → ∀ d, Imp [d] [.sl nl (els.map (elD (decide (of = 10))))] → One (TellF tg (.mk kind fr upto nul tag df of sub)) [d] := by
    intro nl els hm hx d hi
    obtain ⟨els', Ts, k1, k2, k3, k4, k5, k6⟩ := elems_told hE els hx
    refine ⟨[.sl nl els'], imp_trans hi (imp_sl (by simp [k1]) k3), .mk 0 [] nl Ts [], ?_, ?_, ?_⟩
    ·rw [TellF_mk]
     simp only [h11, if_true]
     exact ⟨_, els', rfl, rfl, .inl rfl, by simp only [Tree.l]; omega, by omega, k4⟩
    ·simp only [fine]
     exact ⟨⟨by simp, by omega, by simp, by simp⟩, k5⟩
    ·intro T' hT
     rw [TellF_mk] at hT
     simp only [h11, if_true] at hT
     obtain ⟨d2, els2, e1, e2, e3, e4, e5, e6⟩ := hT
     simp only [List.cons.injEq, and_true] at e1
     subst e1
     rcases e3 with e3 | ⟨e3, _⟩
     ·simp only [D.sl.injEq] at e3
      obtain ⟨rfl, rfl⟩ := e3
      exact e2.trans (by rw [k6 T'.l e4 e6])
     ·cases e3
   rcases h1 with rfl | ⟨nl, els, rfl, hm, hx⟩
   ·exact fin true [] (by simp) (by simp) _ imp_nilSl
   ·exact fin nl els hm hx _ (Imp.refl _)
  ·simp only [h11, if_false] at h
   by_cases h10 : kind = 10
   ·simp only [h10, if_true] at h
    obtain ⟨ds', i1, T, t1, t2, t3⟩ := hP ds h
    refine ⟨ds', i1, T, ?_, t2, fun T' h' => t3 T' ?_⟩
    ·rw [TellF_mk]; simp only [h11, h10, if_false, if_true]; simp only [show ¬ ((10 : Int) = 11) by decide, if_false]; exact t1
    ·rw [TellF_mk] at h'; simp only [h10, if_true] at h'; simpa only [show ¬ ((10 : Int) = 11) by decide, if_false] using h'
   ·simp only [h10, if_false] at h
    obtain ⟨ds', i1, T, t1, t2, t3⟩ := v_told (M := M) (by simp only [lim]; omega) h
    refine ⟨ds', i1, T, ?_, t2, fun T' h' => t3 T' ?_⟩
    ·rw [TellF_mk]; simp only [h11, h10, if_false]; exact t1
    ·rw [TellF_mk] at h'; simpa only [h11, h10, if_false] using h'
theorem fs_told {M : Nat} (hM : M ≤ 1000000000) (tg : Bool) : ∀ (fs : List Fld), covs fs = true → Fld.oksb fs = true → ∀ ds, Typeds M (ctFs tg fs) ds → ∃ ds', Imp ds ds' ∧ ∃ l, TellFs tg fs ds' l ∧ (l.length = fs.length ∧ fines l) ∧ ∀ l', TellFs tg fs ds' l' → l' = l
 | [], _, _, ds, h => by
  simp only [ctFs, Typeds] at h
  subst h
  exact ⟨[], Imp.refl _, [], by simp [TellFs], ⟨rfl, by simp [fines]⟩, fun l' h' => by simp only [TellFs] at h'; exact h'.2⟩
 | f :: fs, hc, hk, ds, h => by
  simp only [covs, Bool.and_eq_true] at hc
  simp only [Fld.oksb, Bool.and_eq_true] at hk
  simp only [ctFs] at h
  obtain ⟨a, b, rfl, ha, hb⟩ : ∃ a b, ds = a ++ b ∧ Typeds M (ctF tg f) a ∧ Typeds M (ctFs tg fs) b := by
   have hlen := h.len.1
   rw [List.length_append] at hlen
   have hs := Typeds.split (M := M) (cs := ctF tg f ++ ctFs tg fs) (a := ds.take (ctF tg f).length) (b := ds.drop (ctF tg f).length) (by rw [List.take_append_drop]; exact h)
   have hk : (ds.take (ctF tg f).length).length = (ctF tg f).length := by rw [List.length_take]; omega
   rw [hk, List.take_left, List.drop_left] at hs
   exact ⟨_, _, (List.take_append_drop _ _).symm, hs.1, hs.2⟩
  obtain ⟨a', i1, T, t1, t2, t3⟩ := f_told hM tg f hc.1 hk.1 a ha
  obtain ⟨b', i2, l, s1, ⟨s2, s3⟩, s4⟩ := fs_told hM tg fs hc.2 hk.2 b hb
  refine ⟨a' ++ b', Imp.app i1 i2, T :: l, ?_, ⟨by simp [s2], by simp only [fines]; exact ⟨t2, s3⟩⟩, ?_⟩
  ·simp only [TellFs]; exact ⟨_, _, _, _, rfl, rfl, t1, s1⟩
  ·intro l' h'
   simp only [TellFs] at h'
   obtain ⟨p, q, x, r, e, rfl, g1, g2⟩ := h'
   obtain ⟨e1, e2⟩ := split_cnt e (by rw [tellF_cnt t1, tellF_cnt g1])
   subst e1; subst e2
   rw [t3 x g1, s4 r g2]
end
theorem told_P {M : Nat} (hM : M ≤ 1000000000) {tg : Bool} {fs : List Fld} (hc : covs fs = true) (hk : fsok fs = true) {ds : List D} (h : Typeds M (ctP tg fs) ds) : One (TellP tg fs) ds := by
 unfold fsok at hk
 rw [Bool.and_eq_true] at hk
 exact p_told hM (Nat.le_of_ble_eq_true hk.2) (fs_told hM tg fs hc hk.1) h
end Go.Proofs.YtlmnaffhadeolaaGreatDoor

namespace Go.Proofs.YtlmnaffhadeolaaGreatDoor.Sam
open Go Go.RowKit
def SamOK (t : Tree) : Prop := ∀ (B : Nat) (w : World) (xs ys : List Value), fine t → B ≤ w.heap.size → Rep (Lo B) w (treeD t) xs → Rep (Lo B) w (treeD t) ys →
 Fn 17 [.agg xs.toArray, .agg ys.toArray] w fun v _ => v = .bool true
section
set_option maxRecDepth 100000
theorem sam_of (t : Tree) (hF : ∀ x ∈ t.l, SamOK x) : SamOK t := by
 intro B w xs ys hsm hB ha hb
 obtain ⟨sv, lv, uv, rfl, hs, hl, hu⟩ := tree_cells ha
 obtain ⟨sv', lv', uv', rfl, hs', hl', hu'⟩ := tree_cells hb
 obtain ⟨la, lc, rfl, _⟩ := hl.shape
 obtain ⟨sa, sc, rfl, _⟩ := hs.shape
 obtain ⟨ua, uc, rfl, _⟩ := hu.shape
 obtain ⟨la', lc', rfl, _⟩ := hl'.shape
 obtain ⟨sa', sc', rfl, _⟩ := hs'.shape
 obtain ⟨ua', uc', rfl, _⟩ := hu'.shape
 obtain ⟨hss, hll, hul, hut⟩ := fine_lens hsm
 refine enter Tryz.func17 rfl Tryz.ntmps17 rfl ?_
 repeat (with_reducible first|apply wc_seq|apply wc_region)
 refine wl_box1 rfl rfl rfl (fun w1 hb1 hg1 hs1 => wl_box1 rfl rfl rfl (fun w2 hb2 hg2 hs2 => ?_))
 have hba : Box w2 w.heap.size [.int .i64 t.n, .slice sa (t.s.map byteD).length sc, .bool t.nul, .slice la (t.l.map treeD).length lc, .slice ua (t.u.map tagD).length uc] 26 := hb1.kept hg2 (by simp)
 have hw2 : Below w.heap.size w w2 := (below_of hg1 (Nat.le_refl _) (by simp)).trans (below_of hg2 (by omega) (by simp))
 repeat first|(with_reducible first|apply wc_seq|apply wc_region|apply wl_nil|apply qk_thn)|((with_reducible apply ws);exact rfl;exact rfl)
 refine wl_loadB rfl to_i64 rfl hba rfl ?_
 repeat ((with_reducible apply ws);exact rfl;exact rfl)
 refine wl_loadB rfl to_i64 rfl hb2 rfl ?_
 repeat ((with_reducible apply ws);exact rfl;exact rfl)
 rw [bne_self_eq_false]
 repeat first|((with_reducible apply ws);exact rfl;exact rfl)|((with_reducible apply wl_yes);exact rfl;exact rfl;exact rfl)
 refine wl_loadB rfl to_bool rfl hba rfl ?_
 repeat first|((with_reducible apply ws);exact rfl;exact rfl)|((with_reducible apply wl_yes);exact rfl;exact rfl;exact rfl)
 refine wl_loadB rfl to_bool rfl hb2 rfl ?_
 repeat ((with_reducible apply wl_yes);exact rfl;exact rfl;exact rfl)
 refine wl_neqB rfl rfl Tryz.underlying4 rfl ?_
 rw [bne_self_eq_false]
 repeat first|((with_reducible apply ws);exact rfl;exact rfl)|((with_reducible apply wl_yes);exact rfl;exact rfl;exact rfl)
 refine wl_loadB rfl to_bytes rfl hba rfl ?_
 repeat first|((with_reducible apply ws);exact rfl;exact rfl)|((with_reducible apply wl_yes);exact rfl;exact rfl;exact rfl)
 refine wl_loadB rfl to_bytes rfl hb2 rfl ?_
 repeat ((with_reducible apply wl_yes);exact rfl;exact rfl;exact rfl)
 refine wl_call rfl (by kernel_rfl) rfl ((fn_same _ _ t.s t.s w2 ((hs.below (hw2.mono hB) (Nat.le_refl _)).bytes) ((hs'.below (hw2.mono hB) (Nat.le_refl _)).bytes) hss hss).mono ?_)
 rintro e w3 ⟨v, rfl, hw23, rfl⟩
 refine ⟨_, rfl, ?_⟩
 rw [beq_self_eq_true]
 have hw3 := hw2.trans (hw23.mono (by omega))
 have hba3 := hba.below hw23 (by omega)
 have hb3 := hb2.below hw23 (by omega)
 repeat first|((with_reducible apply ws);exact rfl;exact rfl)|((with_reducible apply wl_yes);exact rfl;exact rfl;exact rfl)
 refine wl_loadB rfl to_trees rfl hba3 rfl ?_
 repeat first|((with_reducible apply ws);exact rfl;exact rfl)|((with_reducible apply wl_yes);exact rfl;exact rfl;exact rfl)
 refine wl_loadB rfl to_trees rfl hb3 rfl ?_
 repeat first|((with_reducible apply ws);exact rfl;exact rfl)|((with_reducible apply wl_yes);exact rfl;exact rfl;exact rfl)
 rw [bne_self_eq_false]
 repeat first|((with_reducible apply ws);exact rfl;exact rfl)|((with_reducible apply wl_yes);exact rfl;exact rfl;exact rfl)
 refine wl_loadB rfl to_tags rfl hba3 rfl ?_
 repeat first|((with_reducible apply ws);exact rfl;exact rfl)|((with_reducible apply wl_yes);exact rfl;exact rfl;exact rfl)
 refine wl_loadB rfl to_tags rfl hb3 rfl ?_
 repeat first|(with_reducible first|apply wl_nil|apply qk_thn)|((with_reducible apply ws);exact rfl;exact rfl)|((with_reducible apply wl_yes);exact rfl;exact rfl;exact rfl)
 rw [bne_self_eq_false]
 skip
 refine wc_no rfl rfl ?_
 repeat first|(with_reducible first|apply wc_seq|apply wc_region|apply qk_thn|apply wc_skip)|((with_reducible apply ws);exact rfl;exact rfl)
 refine wl_loadB rfl to_trees rfl hba3 rfl ?_
 repeat first|(with_reducible first|apply wl_nil|apply qk_thn|apply wc_block)|((with_reducible apply ws);exact rfl;exact rfl)
 rw [show (t.l.map treeD).length = t.l.length from List.length_map .., show (t.u.map tagD).length = t.u.length from List.length_map ..] at *
 refine wc_loop (α := Nat) (fun i => [(48, .int .i64 (i : Int)), (47, .int .i64 (t.l.length : Int)), (2, .pointer (some ⟨w.heap.size, 0, none⟩)), (3, .pointer (some ⟨w1.heap.size, 0, none⟩))]) (fun i w' => i ≤ t.l.length ∧ Below w3.heap.size w3 w') (fun i => t.l.length - i) 0 ⟨rfl, rfl, rfl, rfl, trivial⟩ ⟨Nat.zero_le _, Below.refl _ _⟩ ?_
 rintro i w4 ⟨hi, hw34⟩
 have hw4 := hw3.trans (hw34.mono hw3.size)
 have hz3 := hw23.size
 have hz4 := hw34.size
 repeat first|(with_reducible first|apply wc_seq|apply wc_region|apply wl_nil|apply qk_thn)|((with_reducible apply ws);exact rfl;exact rfl)
 by_cases hlt : i < t.l.length
 ·refine wc_yes rfl (by simpa using hlt) ?_
  obtain ⟨b, off, c', cs, hv, _, hcs, hcl, hr⟩ := (hl.below (hw4.mono hB) (Nat.le_refl _)).get (sz := 5) (i := i) (by intro d hd; obtain ⟨x, _, rfl⟩ := List.mem_map.1 hd; exact treeD_width x) (by simpa using hlt)
  simp only [Value.slice.injEq, List.length_map] at hv
  obtain ⟨rfl, _, rfl⟩ := hv
  simp only [List.getElem_map] at hr
  obtain ⟨b', off', c'', cs', hv', _, hcs', hcl', hr'⟩ := (hl'.below (hw4.mono hB) (Nat.le_refl _)).get (sz := 5) (i := i) (by intro d hd; obtain ⟨x, _, rfl⟩ := List.mem_map.1 hd; exact treeD_width x) (by simpa using hlt)
  simp only [Value.slice.injEq, List.length_map] at hv'
  obtain ⟨rfl, _, rfl⟩ := hv'
  simp only [List.getElem_map] at hr'
  repeat first|(with_reducible first|apply wc_seq|apply wc_region|apply wl_nil|apply qk_thn|apply wc_block|apply wc_skip)|((with_reducible apply ws);exact rfl;exact rfl)
  refine wc_par [(0, .pointer (some ⟨w.heap.size, 0 + 3, none⟩)), (1, .slice (some ⟨b, off, none⟩) t.l.length lc), (2, .int .i64 (i : Int)), (3, .pointer (some ⟨b, off + i * 5, none⟩)), (4, .agg cs.toArray), (5, .pointer (some ⟨w1.heap.size, 0 + 3, none⟩)), (6, .slice (some ⟨b', off', none⟩) t.l.length lc'), (7, .int .i64 (i : Int)), (8, .pointer (some ⟨b', off' + i * 5, none⟩)), (9, .agg cs'.toArray)] [11, 10]
   (fun vals w' => Below w4.heap.size w4 w' ∧ match vals with
    | [] => True
    | [v] => v = .bool true
    | v :: _ => v = .bool false)
   mixed rfl rfl rfl rfl rfl (by show ([0,1,2,3,4,5,6,7,8,9] : List Nat).Nodup; decide) rfl rfl (by decide) rfl rfl rfl rfl ⟨(Below.refl _ w4).drew, trivial⟩ ?_ ⟨?_, ?_, trivial⟩ ?_
  ·intro p hp vals w' hC a k
   have hw35 := hw34.trans (hC.1.mono (by omega))
   simp only [List.mem_cons, List.not_mem_nil, or_false] at hp
   rcases hp with rfl | rfl | rfl | rfl | rfl | rfl | rfl | rfl | rfl | rfl
   ·exact gv rfl rfl (rn_fieldAddr k rfl fo_tree3)
   ·exact gv rfl rfl (rn_load k rfl to_trees ((hba3.below hw35 (by omega)).cell0 (i := 3) rfl))
   ·exact gv rfl rfl (rn_move k rfl)
   ·exact gv rfl rfl (rn_indexAddr k rfl rfl es_trees hlt)
   ·exact gv rfl rfl (rn_loadAgg k rfl (by rw [hcl]; exact ta_tree) (fun j v e => (CellsAt.of_block hcs (hC.1.block b (CellsAt.lt hcs))).cell e))
   ·exact gv rfl rfl (rn_fieldAddr k rfl fo_tree3)
   ·exact gv rfl rfl (rn_load k rfl to_trees ((hb3.below hw35 (by omega)).cell0 (i := 3) rfl))
   ·exact gv rfl rfl (rn_move k rfl)
   ·exact gv rfl rfl (rn_indexAddr k rfl rfl es_trees hlt)
   ·exact gv rfl rfl (rn_loadAgg k rfl (by rw [hcl']; exact ta_tree) (fun j v e => (CellsAt.of_block hcs' (hC.1.block b' (CellsAt.lt hcs'))).cell e))
  ·rintro vals w' hvl ⟨hb', hC⟩ a k
   match vals, hvl with
   | [v10], _ =>
    simp only [] at hC
    subst hC
    exact ⟨_, rfl, does_not k rfl ⟨hb', rfl⟩⟩
  ·rintro vals w' hvl ⟨hb', hC⟩ a k
   match vals, hvl with
   | [], _ =>
    have hw5 := hw4.trans (hb'.mono hw4.size)
    refine ⟨_, rfl, does_call k rfl (by kernel_rfl) ((hF t.l[i] (List.getElem_mem hlt) B w' _ _ (fine_l hsm _ (List.getElem_mem hlt)) (by have := hw5.size; omega) (Rep.below hr (hb'.mono (by have := hw4.size; omega)) (Nat.le_refl _)) (Rep.below hr' (hb'.mono (by have := hw4.size; omega)) (Nat.le_refl _))).mono ?_)⟩
    rintro e w'' ⟨v, rfl, hb'', rfl⟩
    exact ⟨_, rfl, hb'.trans (hb''.mono hb'.size), rfl⟩
  ·rintro vals w' hvl ⟨hb', hC⟩
   match vals, hvl with
   | [v11, v10], _ =>
    simp only [] at hC
    subst hC
    refine qk_thn ?_
    refine wc_no rfl rfl ?_
    repeat (with_reducible first|apply wc_region|apply qk_thn|apply wc_skip|apply qk_in)
    refine wl_add rfl rfl rfl (r := ((i + 1 : Nat) : Int)) (by rw [IntKind.wrap_i64]; omega) ?_
    repeat first|(with_reducible apply wl_nil)|((with_reducible apply ws);exact rfl;exact rfl)
    exact qk_round (i + 1) ⟨rfl, rfl, rfl, rfl, trivial⟩ ⟨by omega, hw34.trans (hb'.mono (by omega))⟩ (by omega)
 ·refine wc_no rfl (by simpa using hlt) ?_
  repeat first|(with_reducible first|apply wc_seq|apply wc_region|apply qk_thn|apply wc_exit|apply qk_thn_exit|apply qk_in_exit|apply qk_round_exit)|((with_reducible apply ws);exact rfl;exact rfl)
  have hba4 := hba3.below hw34 (by omega)
  have hb4 := hb3.below hw34 (by omega)
  refine wl_loadB rfl to_tags rfl hba4 rfl ?_
  repeat first|(with_reducible first|apply wl_nil|apply qk_thn|apply wc_block)|((with_reducible apply ws);exact rfl;exact rfl)
  refine wc_loop (α := Nat) (fun i => [(67, .int .i64 (i : Int)), (66, .int .i64 (t.u.length : Int)), (2, .pointer (some ⟨w.heap.size, 0, none⟩)), (3, .pointer (some ⟨w1.heap.size, 0, none⟩))]) (fun i w' => i ≤ t.u.length ∧ Below w4.heap.size w4 w') (fun i => t.u.length - i) 0 ⟨rfl, rfl, rfl, rfl, trivial⟩ ⟨Nat.zero_le _, Below.refl _ _⟩ ?_
  rintro j w5 ⟨hj, hw45⟩
  have hw5 := hw4.trans (hw45.mono hw4.size)
  have hz5 := hw45.size
  repeat first|(with_reducible first|apply wc_seq|apply wc_region|apply wl_nil|apply qk_thn)|((with_reducible apply ws);exact rfl;exact rfl)
  by_cases hjt : j < t.u.length
  ·refine wc_yes rfl (by simpa using hjt) ?_
   obtain ⟨b, off, c', cs, hv, _, hcs, hcl, hr⟩ := (hu.below (hw5.mono hB) (Nat.le_refl _)).get (sz := 2) (i := j) (by intro d hd; obtain ⟨x, _, rfl⟩ := List.mem_map.1 hd; exact tagD_width x) (by simpa using hjt)
   simp only [Value.slice.injEq, List.length_map] at hv
   obtain ⟨rfl, _, rfl⟩ := hv
   simp only [List.getElem_map] at hr
   obtain ⟨b', off', c'', cs', hv', _, hcs', hcl', hr'⟩ := (hu'.below (hw5.mono hB) (Nat.le_refl _)).get (sz := 2) (i := j) (by intro d hd; obtain ⟨x, _, rfl⟩ := List.mem_map.1 hd; exact tagD_width x) (by simpa using hjt)
   simp only [Value.slice.injEq, List.length_map] at hv'
   obtain ⟨rfl, _, rfl⟩ := hv'
   simp only [List.getElem_map] at hr'
   obtain ⟨qv, rfl, hqv⟩ := tag_cells hr
   obtain ⟨qv', rfl, hqv'⟩ := tag_cells hr'
   have hkl := hut _ (List.getElem_mem hjt)
   repeat first|(with_reducible first|apply wc_seq|apply wc_region|apply wl_nil|apply qk_thn|apply wc_block|apply wc_skip)|((with_reducible apply ws);exact rfl;exact rfl)
   refine wc_par [(0, .pointer (some ⟨w.heap.size, 0 + 4, none⟩)), (1, .slice (some ⟨b, off, none⟩) t.u.length uc), (2, .int .i64 (j : Int)), (3, .pointer (some ⟨b, off + j * 2, none⟩)), (4, .pointer (some ⟨b, off + j * 2 + 0, none⟩)), (5, .int .u32 (t.u[j].1 : Nat)), (6, .pointer (some ⟨w1.heap.size, 0 + 4, none⟩)), (7, .slice (some ⟨b', off', none⟩) t.u.length uc'), (8, .int .i64 (j : Int)), (9, .pointer (some ⟨b', off' + j * 2, none⟩)), (10, .pointer (some ⟨b', off' + j * 2 + 0, none⟩)), (11, .int .u32 (t.u[j].1 : Nat)), (12, .bool false), (13, .bool false),
     (14, .pointer (some ⟨w.heap.size, 0 + 4, none⟩)), (15, .slice (some ⟨b, off, none⟩) t.u.length uc), (16, .int .i64 (j : Int)), (17, .pointer (some ⟨b, off + j * 2, none⟩)), (18, .pointer (some ⟨b, off + j * 2 + 1, none⟩)), (19, qv), (20, .pointer (some ⟨w1.heap.size, 0 + 4, none⟩)), (21, .slice (some ⟨b', off', none⟩) t.u.length uc'), (22, .int .i64 (j : Int)), (23, .pointer (some ⟨b', off' + j * 2, none⟩)), (24, .pointer (some ⟨b', off' + j * 2 + 1, none⟩)), (25, qv')] [28, 27, 26]
    (fun vals w' => Below w5.heap.size w5 w' ∧ match vals with
     | [] => True
     | [v] => v = .bool true
     | v :: _ => v = .bool false)
    mixed rfl rfl rfl rfl rfl (by show ([0,1,2,3,4,5,6,7,8,9,10,11,12,13,14,15,16,17,18,19,20,21,22,23,24,25] : List Nat).Nodup; decide) rfl rfl (by decide) rfl rfl rfl rfl ⟨(Below.refl _ w5).drew, trivial⟩ ?_ ⟨?_, ?_, ?_, trivial⟩ ?_
   ·intro p hp vals w' hC a k
    have hw36 := hw45.trans (hC.1.mono (by omega))
    have hbA := hba4.below hw36 (by omega)
    have hbB := hb4.below hw36 (by omega)
    have hcA := CellsAt.of_block hcs (hC.1.block b (CellsAt.lt hcs))
    have hcB := CellsAt.of_block hcs' (hC.1.block b' (CellsAt.lt hcs'))
    simp only [List.mem_cons, List.not_mem_nil, or_false] at hp
    rcases hp with rfl | rfl | rfl | rfl | rfl | rfl | rfl | rfl | rfl | rfl | rfl | rfl | rfl | rfl | rfl | rfl | rfl | rfl | rfl | rfl | rfl | rfl | rfl | rfl | rfl | rfl
    ·exact gv rfl rfl (rn_fieldAddr k rfl fo_tree4)
    ·exact gv rfl rfl (rn_load k rfl to_tags (hbA.cell0 (i := 4) rfl))
    ·exact gv rfl rfl (rn_move k rfl)
    ·exact gv rfl rfl (rn_indexAddr k rfl rfl es_tags hjt)
    ·exact gv rfl rfl (rn_fieldAddr k rfl fo_tag0)
    ·exact gv rfl rfl (rn_load k rfl to_u32 (hcA.cell (i := 0) rfl))
    ·exact gv rfl rfl (rn_fieldAddr k rfl fo_tree4)
    ·exact gv rfl rfl (rn_load k rfl to_tags (hbB.cell0 (i := 4) rfl))
    ·exact gv rfl rfl (rn_move k rfl)
    ·exact gv rfl rfl (rn_indexAddr k rfl rfl es_tags hjt)
    ·exact gv rfl rfl (rn_fieldAddr k rfl fo_tag0)
    ·exact gv rfl rfl (rn_load k rfl to_u32 (hcB.cell (i := 0) rfl))
    ·exact gv rfl rfl ((rn_neq k rfl rfl).trans (by rw [bne_self_eq_false]))
    ·exact gv rfl rfl (rn_move k rfl)
    ·exact gv_yes rfl rfl rfl k rfl rfl (rn_fieldAddr k rfl fo_tree4)
    ·exact gv_yes rfl rfl rfl k rfl rfl (rn_load k rfl to_tags (hbA.cell0 (i := 4) rfl))
    ·exact gv_yes rfl rfl rfl k rfl rfl (rn_move k rfl)
    ·exact gv_yes rfl rfl rfl k rfl rfl (rn_indexAddr k rfl rfl es_tags hjt)
    ·exact gv_yes rfl rfl rfl k rfl rfl (rn_fieldAddr k rfl fo_tag1)
    ·exact gv_yes rfl rfl rfl k rfl rfl (rn_load k rfl to_bytes (hcA.cell (i := 1) rfl))
    ·exact gv_yes rfl rfl rfl k rfl rfl (rn_fieldAddr k rfl fo_tree4)
    ·exact gv_yes rfl rfl rfl k rfl rfl (rn_load k rfl to_tags (hbB.cell0 (i := 4) rfl))
    ·exact gv_yes rfl rfl rfl k rfl rfl (rn_move k rfl)
    ·exact gv_yes rfl rfl rfl k rfl rfl (rn_indexAddr k rfl rfl es_tags hjt)
    ·exact gv_yes rfl rfl rfl k rfl rfl (rn_fieldAddr k rfl fo_tag1)
    ·exact gv_yes rfl rfl rfl k rfl rfl (rn_load k rfl to_bytes (hcB.cell (i := 1) rfl))
   ·rintro vals w' hvl ⟨hb', hC⟩ a k
    match vals, hvl with
    | [v27, v26], _ =>
     simp only [] at hC
     subst hC
     exact ⟨_, rfl, does_pick (b := false) (v := .bool false) k rfl rfl ⟨hb', rfl⟩⟩
   ·rintro vals w' hvl ⟨hb', hC⟩ a k
    match vals, hvl with
    | [v26], _ =>
     simp only [] at hC
     subst hC
     exact ⟨_, rfl, does_not k rfl ⟨hb', rfl⟩⟩
   ·rintro vals w' hvl ⟨hb', hC⟩ a k
    match vals, hvl with
    | [], _ =>
     refine ⟨_, rfl, does_call k rfl (by kernel_rfl) ((fn_same _ _ t.u[j].2 t.u[j].2 w' ((hqv.below (hb'.mono (by have := hw5.size; omega)) (Nat.le_refl _)).bytes) ((hqv'.below (hb'.mono (by have := hw5.size; omega)) (Nat.le_refl _)).bytes) hkl hkl).mono ?_)⟩
     rintro e w'' ⟨v, rfl, hb'', rfl⟩
     exact ⟨_, rfl, hb'.trans (hb''.mono hb'.size), by rw [beq_self_eq_true]⟩
   ·rintro vals w' hvl ⟨hb', hC⟩
    match vals, hvl with
    | [v28, v27, v26], _ =>
     simp only [] at hC
     subst hC
     refine qk_thn ?_
     refine wc_no rfl rfl ?_
     repeat (with_reducible first|apply wc_region|apply qk_thn|apply wc_skip|apply qk_in)
     refine wl_add rfl rfl rfl (r := ((j + 1 : Nat) : Int)) (by rw [IntKind.wrap_i64]; omega) ?_
     repeat first|(with_reducible apply wl_nil)|((with_reducible apply ws);exact rfl;exact rfl)
     exact qk_round (j + 1) ⟨rfl, rfl, rfl, rfl, trivial⟩ ⟨by omega, hw45.trans (hb'.mono (by omega))⟩ (by omega)
  ·refine wc_no rfl (by simpa using hjt) ?_
   repeat first|(with_reducible first|apply wc_seq|apply wc_region|apply wl_nil|apply qk_thn|apply wc_ret|apply wc_exit|apply qk_thn_exit|apply qk_in_exit|apply qk_round_exit)|((with_reducible apply ws);exact rfl;exact rfl)
   exact qk_ret1 rfl rfl ⟨_, rfl, hw5, rfl⟩
end
mutual
theorem sam_ok : ∀ t : Tree, SamOK t
 | .mk _ _ _ l _ => sam_of _ (sams_ok l)
theorem sams_ok : ∀ l : List Tree, ∀ x ∈ l, SamOK x
 | [], x, hx => by cases hx
 | y :: l, x, hx => by
  have hy := sam_ok y
  have hl := sams_ok l
  rcases List.mem_cons.1 hx with h0 | h1
  ·rw [h0]; exact hy
  ·exact hl x h1
end
end Go.Proofs.YtlmnaffhadeolaaGreatDoor.Sam

namespace Go.Proofs.YtlmnaffhadeolaaGreatDoor
open Go Go.RowKit
section
variable {P : Program} {ops : Array Oper} {Q : Exit → Act → World → Prop} {N : Nat} {rest : List Oper} {L : Sl} {w : World} {d : Nat} {ty : TypeId} {pos : String} {aft : Array Edge} {a : Act} {g : Option (Nat × Bool)}
theorem wl_ifNeErr {x : Operand} {t u s : TypeId} {v : Value} (hx : ev L x = some (.iface s v)) (ht : (match P.underlying t with | some (.interface _) => true | _ => false) = true) (hd : Nat.blt d N = true) (h : WL rest P ops Q N ((d, .bool true) :: L) w) :
  WL (⟨some d, .binOp .neq t x (.const .nilIface) u, ty, pos, aft, none⟩ :: rest) P ops Q N L w := by
 intro a k
 split at ht
 ·rename_i ms hu
  refine st_of (o := ⟨some d, .binOp .neq t x (.const .nilIface) u, ty, pos, aft, none⟩) (v := .bool true) (w' := w) rfl ?_ (h _ (k.put _ hd))
  simp only [execOp, k.eval hx, eval_const]
  have h : ∀ d : Nat, (Op.equalIn (d + 1) t (.iface s v) .nilIface).run P w = .ok false w := fun d => by
   simp [Op.equalIn, run_underlying hu]
  simp only [eqGuard, binOp]
  simp [Op.equal, Op.maxDepth, h 9999]
 ·cases ht
theorem rn_eqlB {x y : Operand} {t u : TypeId} {b c : Bool} (k : Kn N a L) (hx : ev L x = some (.bool b)) (hy : ev L y = some (.bool c)) (ht : P.underlying t = some .bool) : (execOp a.eval ⟨some d, .binOp .eql t x y u, ty, pos, aft, g⟩).run P w = .ok (.value (.bool (b == c))) w := by
 simp only [execOp, k.eval hx, k.eval hy]
 have h : ∀ d : Nat, (Op.equalIn (d + 1) t (.bool b) (.bool c)).run P w = .ok (b == c) w := fun d => by
  simp [Op.equalIn, run_underlying ht]
 simp only [eqGuard, binOp]
 simp [Op.equal, Op.maxDepth, h 9999]
end
end Go.Proofs.YtlmnaffhadeolaaGreatDoor
