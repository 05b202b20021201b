/- A part of the proof of FnTellTxnMetadataValueCardSaid: what its texts prove stands at the head of each. Conditions: those that each theorem names. -/
import Derived.Test.YtlmnaffhadeolaaGreatDoorPartG
import Derived.Test.YtlmnaffhadeolaaGreatDoorPartA
import Derived.Test.YtlmnaffhadeolaaGreatDoorPartD
import Derived.Test.YtlmnaffhadeolaaGreatDoorPartF
import Derived.Test.YtlmnaffhadeolaaGreatDoorPartC
set_option linter.all false
namespace Go.Proofs.YtlmnaffhadeolaaGreatDoor
section
open Go Go.RowKit
def ToOK (ver : Int) (flex : Bool) (fs : List Fld) : Prop:=∀ (t g : Tree) (B : Nat) (w : World) (fv : Value) (ts gs : List Value),t.ok → B ≤ w.heap.size → Sq B w fv (fs.map fldD) → Rep (Lo B) w (treeD t) ts → Rep (Lo B) w (treeD g) gs → ToP ver flex fs t g →
 Fn 11 [fv,.int .i64 ver,.bool flex,.agg ts.toArray,.agg gs.toArray] w fun v _ => v = .bool true
def ToFOK (ver : Int) (flex : Bool) (f : Fld) : Prop:=∀ (t g : Tree) (B : Nat) (w : World) (cs ts gs : List Value),t.ok → B ≤ w.heap.size → Rep (Lo B) w (fldD f) cs → Rep (Lo B) w (treeD t) ts → Rep (Lo B) w (treeD g) gs → ToF ver flex f t g →
 Fn 37 [.agg cs.toArray,.int .i64 ver,.bool flex,.agg ts.toArray,.agg gs.toArray] w fun v _ => v = .bool true
def oneF : Fld → Fld
 | .mk _ fr upto _ _ df of sub => .mk of fr upto (-1) (-1) df of sub
theorem toF_eq (ver : Int) (flex : Bool) (f : Fld) (hof : f.of ≠ 11) (t g : Tree) : ToF ver flex f t g ↔
  ((f.kind = 8 ∨ f.kind = 10 ∨ (0 ≤ f.nul ∧ f.nul ≤ ver)) → g.nul = f.null ver t) ∧
  (f.null ver t = false →
   if f.kind = 10 then ToP ver flex f.sub t g
   else if f.kind = 11 then g.l.length = (YQ t.l).length ∧ ∀ (i : Nat) (x y : Tree),(YQ t.l)[i]? = some x → g.l[i]? = some y → ToF ver flex (oneF f) x y
   else ToV f.kind t g):=by
 cases f with
 | mk kind fr upto nul tag df of sub =>
 rw [ToF_mk]
 show _ ∧ _ ↔ ((kind = 8 ∨ kind = 10 ∨ (0 ≤ nul ∧ nul ≤ ver)) → g.nul = (t.nul && decide (0 ≤ nul) && decide (nul ≤ ver))) ∧ ((t.nul && decide (0 ≤ nul) && decide (nul ≤ ver)) = false →
   if kind = 10 then ToP ver flex sub t g
   else if kind = 11 then g.l.length = (YQ t.l).length ∧ ∀ (i : Nat) (x y : Tree),(YQ t.l)[i]? = some x → g.l[i]? = some y → ToF ver flex (oneF (.mk kind fr upto nul tag df of sub)) x y
   else ToV kind t g)
 have hof : of ≠ 11:=hof
 have key : ∀ x y : Tree,ToF ver flex (oneF (.mk kind fr upto nul tag df of sub)) x y ↔ ((of = 8 ∨ of = 10) → y.nul = false) ∧ (if of = 10 then ToP ver flex sub x y else ToV of x y):=by
  intro x y
  show ToF ver flex (.mk of fr upto (-1) (-1) df of sub) x y ↔ _
  rw [ToF_mk]
  have e : (x.nul && decide ((0 : Int) ≤ -1) && decide ((-1 : Int) ≤ ver)) = false:=by simp
  rw [e]
  simp only [hof,if_false,forall_const]
  constructor
  ·rintro ⟨h1,h2⟩
   exact ⟨fun h => h1 (h.imp (fun h => h) (fun h => .inl h)),h2⟩
  ·rintro ⟨h1,h2⟩
   refine ⟨fun h => h1 ?_,h2⟩
   rcases h with h | h | h
   ·exact .inl h
   ·exact .inr h
   ·omega
 simp only [key]
section
set_option maxRecDepth 100000
set_option maxHeartbeats 8000000 in
theorem told_walk (ver : Int) (flex : Bool) (f : Fld) (hof : f.of ≠ 11) (hsub : ToOK ver flex f.sub) (hone : f.kind = 11 → ToFOK ver flex (oneF f)) : ToFOK ver flex f:=by
 intro t g B w cs ts gs hok hB hf ht hg hto
 obtain ⟨sv,rfl,hfs⟩:=Vs hf
 obtain ⟨sv2,lv,uv,rfl,hs,hl,huu⟩:=Xi ht
 obtain ⟨la,lc,rfl,_⟩:=hl.shape
 obtain ⟨sa,sc,rfl,_⟩:=hs.shape
 obtain ⟨gsv,glv,guv,rfl,hgs,hgl,hgu⟩:=Xi hg
 obtain ⟨gla,glc,rfl,_⟩:=hgl.shape
 obtain ⟨ga,gc,rfl,_⟩:=hgs.shape
 rw [toF_eq _ _ _ hof] at hto
 obtain ⟨hto1,hto2⟩:=hto
 simp only [List.length_map] at *
 refine enter Tryz.func37 rfl Tryz.ntmps37 rfl ?_
 repeat (with_reducible first|apply Yd|apply Ya)
 refine XF rfl rfl rfl (fun w1 hb1 hg1 hs1 => XF rfl rfl rfl (fun w2 hb2 hg2 hs2 => XF rfl rfl rfl (fun w3 hb3 hg3 hs3 => ?_)))
 have hw3 : Below w.heap.size w w3:=((Yg hg1 (Nat.le_refl _) (by simp)).trans (Yg hg2 (by omega) (by simp))).trans (Yg hg3 (by omega) (by simp))
 have hbF : ∀ w',Below w3.heap.size w3 w' → Box w' w.heap.size [.int .i64 f.kind,.int .i64 f.fr,.int .i64 f.upto,.int .i64 f.nul,.int .i64 f.tag,.int .i64 f.df,.int .i64 f.of,sv] 55:=fun w' h => ((hb1.kept hg2 (by simp)).kept hg3 (by simp)).below h (by omega)
 have hbT : ∀ w',Below w3.heap.size w3 w' → Box w' w1.heap.size [.int .i64 t.n,.slice sa t.s.length sc,.bool t.nul,.slice la t.l.length lc,uv] 26:=fun w' h => (hb2.kept hg3 (by simp)).below h (by omega)
 have hbG : ∀ w',Below w3.heap.size w3 w' → Box w' w2.heap.size [.int .i64 g.n,.slice ga g.s.length gc,.bool g.nul,.slice gla g.l.length glc,guv] 26:=fun w' h => hb3.below h (by omega)
 have hr3:=Below.refl w3.heap.size w3
 repeat first|(with_reducible first|apply Yd|apply Ya|apply Yc|apply Yb)|((with_reducible apply ws);exact rfl;exact rfl)
 refine YC (cs:=[.int .i64 f.kind,.int .i64 f.fr,.int .i64 f.upto,.int .i64 f.nul,.int .i64 f.tag,.int .i64 f.df,.int .i64 f.of,sv]) rfl ta_fld rfl (hbF _ hr3) ?_
 repeat ((with_reducible apply ws);exact rfl;exact rfl)
 refine YC (cs:=[.int .i64 t.n,.slice sa t.s.length sc,.bool t.nul,.slice la t.l.length lc,uv]) rfl ta_tree rfl (hbT _ hr3) ?_
 refine Yo rfl (by kernel_rfl) rfl ((fn_null f ver t B w3 (by omega) _ _ (Rep.below hf (hw3.mono hB) (Nat.le_refl _)) (Rep.below ht (hw3.mono hB) (Nat.le_refl _))).mono ?_)
 rintro e w4 ⟨v,rfl,hw34,rfl⟩
 refine ⟨_,rfl,?_⟩
 have hs34:=hw34.size
 have hw4 : Below w.heap.size w w4:=hw3.trans (hw34.mono (by omega))
 obtain ⟨null,hnull⟩ : ∃ null,null = f.null ver t:=⟨_,rfl⟩
 rw [← hnull] at hto1 hto2 ⊢
 refine YV rfl rfl (Yc (Yb ?_))
 refine UJ (α:=Unit) (fun _ => [(12,.bool (decide (0 ≤ f.nul) && decide (f.nul ≤ ver))),(11,.bool null),(1,.int .i64 ver),(2,.bool flex),(5,.pointer (some ⟨w.heap.size,0,none⟩)),(8,.pointer (some ⟨w1.heap.size,0,none⟩)),(9,.pointer (some ⟨w2.heap.size,0,none⟩))]) (fun _ w' => w' = w4) ?_ ?_
 ·repeat first|(with_reducible apply Ya)|((with_reducible apply ws);exact rfl;exact rfl)
  refine Yf rfl to_int rfl (hbF _ hw34) rfl ?_
  repeat ((with_reducible apply ws);exact rfl;exact rfl)
  by_cases hn : 0 ≤ f.nul
  ·rw [show decide (0 ≤ f.nul) = true from by simpa using hn]
   repeat first|((with_reducible apply ws);exact rfl;exact rfl)|((with_reducible apply YU);exact rfl;exact rfl;exact rfl)
   refine Yf rfl to_int rfl (hbF _ hw34) rfl ?_
   repeat first|(with_reducible apply Yc)|((with_reducible apply ws);exact rfl;exact rfl)|((with_reducible apply YU);exact rfl;exact rfl;exact rfl)
   exact XB () ⟨by simp [lk,Nat.beq],rfl,rfl,rfl,rfl,rfl,rfl,trivial⟩ rfl
  ·rw [show decide (0 ≤ f.nul) = false from by simpa using hn]
   repeat first|(with_reducible apply Yc)|((with_reducible apply ws);exact rfl;exact rfl)|((with_reducible apply US);exact rfl;exact rfl;exact rfl;exact rfl)
   exact XB () ⟨by simp [lk,Nat.beq],rfl,rfl,rfl,rfl,rfl,rfl,trivial⟩ rfl
 rintro _ w5 hw5
 obtain rfl:=hw5.symm
 refine UJ (α:=Unit) (fun _ => [(11,.bool null),(1,.int .i64 ver),(2,.bool flex),(5,.pointer (some ⟨w.heap.size,0,none⟩)),(8,.pointer (some ⟨w1.heap.size,0,none⟩)),(9,.pointer (some ⟨w2.heap.size,0,none⟩))]) (fun _ w' => w' = w4) ?_ ?_
 ·repeat first|(with_reducible first|apply Yd|apply Ya)|((with_reducible apply ws);exact rfl;exact rfl)
  refine Yf rfl to_int rfl (hbF _ hw34) rfl ?_
  repeat ((with_reducible apply ws);exact rfl;exact rfl)
  by_cases h8 : f.kind = 8
  ·rw [show (f.kind == 8) = true from by simpa using h8]
   repeat first|((with_reducible apply ws);exact rfl;exact rfl)|((with_reducible apply YU);exact rfl;exact rfl;exact rfl)|((with_reducible apply US);exact rfl;exact rfl;exact rfl;exact rfl)
   refine Yf rfl to_bool rfl (hbG _ hw34) rfl ?_
   repeat first|((with_reducible apply ws);exact rfl;exact rfl)|((with_reducible apply YU);exact rfl;exact rfl;exact rfl)
   refine wl_neqB rfl rfl un_bool rfl ?_
   rw [hto1 (.inl h8),show (null != null) = false from by simp]
   repeat first|(with_reducible first|apply Yc|apply Yb)|((with_reducible apply ws);exact rfl;exact rfl)
   refine Yu rfl rfl ?_
   repeat (with_reducible apply Yh)
   exact XB () ⟨rfl,rfl,rfl,rfl,rfl,rfl,trivial⟩ rfl
  ·rw [show (f.kind == 8) = false from by simpa using h8]
   repeat first|((with_reducible apply ws);exact rfl;exact rfl)|((with_reducible apply YU);exact rfl;exact rfl;exact rfl)
   refine Yf rfl to_int rfl (hbF _ hw34) rfl ?_
   repeat first|((with_reducible apply ws);exact rfl;exact rfl)|((with_reducible apply YU);exact rfl;exact rfl;exact rfl)
   by_cases h10 : f.kind = 10
   ·rw [show (f.kind == 10) = true from by simpa using h10]
    repeat first|((with_reducible apply ws);exact rfl;exact rfl)|((with_reducible apply YU);exact rfl;exact rfl;exact rfl)|((with_reducible apply US);exact rfl;exact rfl;exact rfl;exact rfl)
    refine Yf rfl to_bool rfl (hbG _ hw34) rfl ?_
    repeat first|((with_reducible apply ws);exact rfl;exact rfl)|((with_reducible apply YU);exact rfl;exact rfl;exact rfl)
    refine wl_neqB rfl rfl un_bool rfl ?_
    rw [hto1 (.inr (.inl h10)),show (null != null) = false from by simp]
    repeat first|(with_reducible first|apply Yc|apply Yb)|((with_reducible apply ws);exact rfl;exact rfl)
    refine Yu rfl rfl ?_
    repeat (with_reducible apply Yh)
    exact XB () ⟨rfl,rfl,rfl,rfl,rfl,rfl,trivial⟩ rfl
   ·rw [show (f.kind == 10) = false from by simpa using h10]
    repeat first|((with_reducible apply ws);exact rfl;exact rfl)|((with_reducible apply YU);exact rfl;exact rfl;exact rfl)
    by_cases hm : 0 ≤ f.nul ∧ f.nul ≤ ver
    ·rw [show (decide (0 ≤ f.nul) && decide (f.nul ≤ ver)) = true from by simpa using hm]
     repeat first|((with_reducible apply ws);exact rfl;exact rfl)|((with_reducible apply YU);exact rfl;exact rfl;exact rfl)
     refine Yf rfl to_bool rfl (hbG _ hw34) rfl ?_
     repeat first|((with_reducible apply ws);exact rfl;exact rfl)|((with_reducible apply YU);exact rfl;exact rfl;exact rfl)
     refine wl_neqB rfl rfl un_bool rfl ?_
     rw [hto1 (.inr (.inr hm)),show (null != null) = false from by simp]
     repeat first|(with_reducible first|apply Yc|apply Yb)|((with_reducible apply ws);exact rfl;exact rfl)
     refine Yu rfl rfl ?_
     repeat (with_reducible apply Yh)
     exact XB () ⟨rfl,rfl,rfl,rfl,rfl,rfl,trivial⟩ rfl
    ·rw [show (decide (0 ≤ f.nul) && decide (f.nul ≤ ver)) = false from by simpa using hm]
     repeat first|(with_reducible first|apply Yc|apply Yb)|((with_reducible apply ws);exact rfl;exact rfl)|((with_reducible apply US);exact rfl;exact rfl;exact rfl;exact rfl)
     refine Yu rfl rfl ?_
     repeat (with_reducible apply Yh)
     exact XB () ⟨rfl,rfl,rfl,rfl,rfl,rfl,trivial⟩ rfl
 rintro _ w6 hw6
 obtain rfl:=hw6.symm
 repeat first|(with_reducible first|apply Yd|apply Ya|apply Yc|apply Yb)|((with_reducible apply ws);exact rfl;exact rfl)
 cases hnb : null with
 | true =>
  refine Yp rfl rfl ?_
  repeat first|(with_reducible first|apply Yd|apply Ya|apply Yc|apply Yb|apply Ym|apply Yj)|((with_reducible apply ws);exact rfl;exact rfl)
  exact Yk rfl rfl ⟨_,rfl,hw4,rfl⟩
 | false =>
 have hto3:=hto2 hnb
 refine Yu rfl rfl ?_
 repeat first|(with_reducible first|apply Yd|apply Ya|apply Yb|apply Yh)|((with_reducible apply ws);exact rfl;exact rfl)
 refine Yf rfl to_int rfl (hbF _ hw34) rfl ?_
 repeat first|(with_reducible first|apply Yd|apply Ya|apply Yc|apply Yb|apply Yr)|((with_reducible apply ws);exact rfl;exact rfl)
 have hw4B : Below B w w4:=hw4.mono hB
 by_cases h89 : f.kind = 8 ∨ f.kind = 9
 ·have h10 : f.kind ≠ 10:=by omega
  have h11 : f.kind ≠ 11:=by omega
  rw [if_neg h10,if_neg h11] at hto3
  unfold ToV at hto3
  rw [if_pos h89] at hto3
  refine Yb8 (α:=Unit) (fun _ => [(50,.bool true),(1,.int .i64 ver),(2,.bool flex),(5,.pointer (some ⟨w.heap.size,0,none⟩)),(8,.pointer (some ⟨w1.heap.size,0,none⟩)),(9,.pointer (some ⟨w2.heap.size,0,none⟩))]) (fun _ w' => w' = w4) ?_ ?_
  ·by_cases h8 : f.kind = 8
   ·refine Yp rfl (by simpa using h8) ?_
    repeat (with_reducible apply Yh)
    refine XB () ⟨by rw [h8];rfl,rfl,rfl,rfl,rfl,rfl,trivial⟩ rfl
   ·have h9 : f.kind = 9:=by rcases h89 with h | h;exact absurd h h8;exact h
    refine Yu rfl (by simpa using h8) ?_
    repeat first|(with_reducible first|apply Ya|apply Yc)|((with_reducible apply ws);exact rfl;exact rfl)
    refine XB () ⟨by rw [h9];rfl,rfl,rfl,rfl,rfl,rfl,trivial⟩ rfl
  rintro _ w7 hw7
  obtain rfl:=hw7.symm
  refine Yp rfl rfl ?_
  repeat (with_reducible apply Yd)
  refine XJ [(0,.pointer (some ⟨w2.heap.size,0 + 1,none⟩)),(1,.slice ga g.s.length gc),(2,.pointer (some ⟨w1.heap.size,0 + 1,none⟩)),(3,.slice sa t.s.length sc)] [6,5,4]
   (fun vals w' => Below w4.heap.size w4 w' ∧ match vals with
    | [] => True
    | [v] => Sq B w' v ((Xe t.s).map YF)
    | v :: _ => v = .bool true)
   mixed rfl rfl rfl rfl rfl (by show ([0,1,2,3] : List Nat).Nodup;decide) rfl rfl (by decide) rfl rfl rfl rfl ⟨(Below.refl _ w4).drew,trivial⟩ ?_ ⟨?_,?_,?_,trivial⟩ ?_
  ·intro p hp vals w' hC a k
   have hc34 : Below w3.heap.size w3 w':=hw34.trans (hC.1.mono (by omega))
   simp only [List.mem_cons,List.not_mem_nil,or_false] at hp
   rcases hp with rfl | rfl | rfl | rfl
   ·exact gv rfl rfl (Yi k rfl fo_tree1)
   ·exact gv rfl rfl (Yy k rfl to_bytes ((hbG _ hc34).cell0 (i:=1) rfl))
   ·exact gv rfl rfl (Yi k rfl fo_tree1)
   ·exact gv rfl rfl (Yy k rfl to_bytes ((hbT _ hc34).cell0 (i:=1) rfl))
  ·rintro vals w' hvl ⟨hb',hC⟩ a k
   match vals,hvl with
   | [v5,v4],_ => exact ⟨_,rfl,Xr k rfl ⟨hb',hC⟩⟩
  ·rintro vals w' hvl ⟨hb',hC⟩ a k
   match vals,hvl with
   | [v4],_ =>
    have hgb:=(hgs.below (hw4B.trans (hb'.mono (by omega))) (Nat.le_refl _)).bytes
    have hlw : (Xe t.s).length ≤ lim:=by simp only [Xe,List.length_take,lim,Vf];omega
    refine ⟨_,rfl,Yz k rfl (by kernel_rfl) ((Ym0 _ _ _ _ w' hgb hC.bytes (by rw [hto3];exact hlw) hlw).mono ?_)⟩
    rintro e w'' ⟨v,rfl,hb'',rfl⟩
    exact ⟨_,rfl,hb'.trans (hb''.mono hb'.size),by rw [hto3];simp⟩
  ·rintro vals w' hvl ⟨hb',hC⟩ a k
   match vals,hvl with
   | [],_ =>
    have hsb:=hs.below (hw4B.trans (hb'.mono (by omega))) (Nat.le_refl _)
    have:=Yc6 (.slice sa t.s.length sc) (t.s.map YF) B w' hsb
    refine ⟨_,rfl,Yz k rfl (by kernel_rfl) (this.mono ?_)⟩
    rintro e w'' ⟨v,rfl,hb'',rfl,hsq⟩
    exact ⟨_,rfl,hb',by rw [← List.map_take] at hsq;exact hsq⟩
  ·rintro vals w' hvl ⟨hb',hC⟩
   match vals,hvl with
   | [v6,v5,v4],_ =>
    simp only [] at hC
    subst hC
    refine Yb ?_
    repeat (with_reducible first|apply Ym|apply Yj|apply YL)
    exact Yk rfl rfl ⟨_,rfl,hw4.trans (hb'.mono hw4.size),rfl⟩
 have h8 : f.kind ≠ 8:=fun h => h89 (.inl h)
 have h9 : f.kind ≠ 9:=fun h => h89 (.inr h)
 refine Yb8 (α:=Unit) (fun _ => [(50,.bool false),(49,.int .i64 f.kind),(1,.int .i64 ver),(2,.bool flex),(5,.pointer (some ⟨w.heap.size,0,none⟩)),(8,.pointer (some ⟨w1.heap.size,0,none⟩)),(9,.pointer (some ⟨w2.heap.size,0,none⟩))]) (fun _ w' => w' = w4) ?_ ?_
 ·refine Yu rfl (by simpa using h8) ?_
  repeat first|(with_reducible first|apply Ya|apply Yc)|((with_reducible apply ws);exact rfl;exact rfl)
  refine XB () ⟨?_,rfl,rfl,rfl,rfl,rfl,rfl,trivial⟩ rfl
  show some (Value.bool (f.kind == 9)) = some (Value.bool false)
  rw [show (f.kind == 9) = false from by simpa using h9]
 rintro _ w7 hw7
 obtain rfl:=hw7.symm
 refine Yu rfl rfl ?_
 repeat first|(with_reducible first|apply Yd|apply Ya|apply Yc|apply Yb)|((with_reducible apply ws);exact rfl;exact rfl)
 by_cases h7 : f.kind = 7
 ·have h10 : f.kind ≠ 10:=by omega
  have h11 : f.kind ≠ 11:=by omega
  rw [if_neg h10,if_neg h11] at hto3
  unfold ToV at hto3
  rw [if_neg h89,if_pos h7] at hto3
  refine Yp rfl (by simpa using h7) ?_
  repeat (with_reducible first|apply Yd|apply Ya)
  refine wl_makeB (n:=16) tb_bytes zn_u8 rfl rfl (B:=w4.heap.size) (Nat.le_refl _) (fun w5 ho5 hg5 => ?_)
  repeat first|(with_reducible first|apply Yd|apply Ya|apply Yc|apply Yb)|((with_reducible apply ws);exact rfl;exact rfl)
  have hw45 : Below w4.heap.size w4 w5:=Yg hg5 (Nat.le_refl _) (by simp)
  have hw35 : Below w3.heap.size w3 w5:=hw34.trans (hw45.mono (by omega))
  refine Yf rfl to_bytes rfl (hbT _ hw35) rfl ?_
  refine wl_copyB tb_bytes rfl rfl rfl ho5 rfl (hs.below (hw4B.trans (hw45.mono (by omega))) (Nat.le_refl _)).bytes (fun w6 ho6 hg6 => ?_)
  have hs45:=hw45.size
  have hw56 : Below w4.heap.size w5 w6:=Yg hg6 (by omega) (by intro k hk;simp at hk;omega)
  have hw46 : Below w4.heap.size w4 w6:=hw45.trans hw56
  have hw36 : Below w3.heap.size w3 w6:=hw34.trans (hw46.mono (by omega))
  repeat first|(with_reducible first|apply Yd|apply Ya|apply Yc|apply Yb)|((with_reducible apply ws);exact rfl;exact rfl)
  refine Yf rfl to_bytes rfl (hbG _ hw36) rfl ?_
  repeat ((with_reducible apply ws);exact rfl;exact rfl)
  have e16 : t.s.take 16 ++ (List.replicate 16 (0 : UInt8)).drop (min t.s.length 16) = XX t.s:=by
   unfold XX
   rw [List.take_append]
   by_cases h : 16 ≤ t.s.length
   ·rw [Nat.min_eq_right h,List.drop_of_length_le (by simp),show 16 - t.s.length = 0 from by omega];rfl
   ·rw [Nat.min_eq_left (by omega),List.take_replicate,List.drop_replicate,Nat.min_eq_left (by omega)]
  rw [e16] at ho6
  have h16 : (XX t.s).length ≤ lim:=by rw [VU];decide
  refine Yo rfl (by kernel_rfl) rfl ((Ym0 _ _ _ _ w6 (hgs.below (hw4B.trans (hw46.mono (by omega))) (Nat.le_refl _)).bytes ho6.bytes (by rw [hto3];exact h16) h16).mono ?_)
  rintro e w7 ⟨v,rfl,hw67,rfl⟩
  refine ⟨_,rfl,?_⟩
  repeat first|(with_reducible first|apply Yc|apply Yb|apply Ym|apply Yj|apply YL)|((with_reducible apply ws);exact rfl;exact rfl)
  refine Yk rfl rfl ⟨_,rfl,hw4.trans ((hw46.mono hw4.size).trans (hw67.mono (by have:=hw46.size;have:=hw4.size;omega))),?_⟩
  rw [hto3];simp
 refine Yu rfl (by simpa using h7) ?_
 repeat first|(with_reducible first|apply Yd|apply Ya|apply Yc|apply Yb)|((with_reducible apply ws);exact rfl;exact rfl)
 by_cases h10 : f.kind = 10
 ·rw [if_pos h10] at hto3
  refine Yp rfl (by simpa using h10) ?_
  repeat first|(with_reducible first|apply Yd|apply Ya)|((with_reducible apply ws);exact rfl;exact rfl)
  refine Yf rfl to_flds rfl (hbF _ hw34) rfl ?_
  repeat ((with_reducible apply ws);exact rfl;exact rfl)
  refine YC (cs:=[.int .i64 t.n,.slice sa t.s.length sc,.bool t.nul,.slice la t.l.length lc,uv]) rfl ta_tree rfl (hbT _ hw34) ?_
  refine YC (cs:=[.int .i64 g.n,.slice ga g.s.length gc,.bool g.nul,.slice gla g.l.length glc,guv]) rfl ta_tree rfl (hbG _ hw34) ?_
  refine Yo rfl (by kernel_rfl) rfl ((hsub t g B w4 sv _ _ hok (by omega) (hfs.below hw4B (Nat.le_refl _)) (Rep.below ht hw4B (Nat.le_refl _)) (Rep.below hg hw4B (Nat.le_refl _)) hto3).mono ?_)
  rintro e w5 ⟨v,rfl,hw45,rfl⟩
  refine ⟨_,rfl,?_⟩
  repeat first|(with_reducible first|apply Yc|apply Yb|apply Ym|apply Yj|apply YL)|((with_reducible apply ws);exact rfl;exact rfl)
  exact Yk rfl rfl ⟨_,rfl,hw4.trans (hw45.mono hw4.size),rfl⟩
 rw [if_neg h10] at hto3
 refine Yu rfl (by simpa using h10) ?_
 repeat first|(with_reducible first|apply Yd|apply Ya|apply Yc|apply Yb)|((with_reducible apply ws);exact rfl;exact rfl)
 by_cases h11 : f.kind = 11
 ·rw [if_pos h11] at hto3
  obtain ⟨hlen,hel⟩:=hto3
  refine Yp rfl (by simpa using h11) ?_
  repeat first|(with_reducible first|apply Yd|apply Ya)|((with_reducible apply ws);exact rfl;exact rfl)
  refine Yf rfl to_trees rfl (hbT _ hw34) rfl ?_
  have hlB:=hl.below hw4B (Nat.le_refl _)
  have hthings:=fn_things (.slice la t.l.length lc) (t.l.map treeD) B w4 hlB
  refine Yo rfl (by kernel_rfl) rfl ((hthings).mono ?_)
  rintro e w5 ⟨v,rfl,_,rfl,hsq⟩
  refine ⟨_,rfl,?_⟩
  rw [← List.map_take] at hsq
  have hsq : Sq B w5 v ((YQ t.l).map treeD):=hsq
  obtain ⟨tha,thc,rfl,_⟩:=hsq.shape
  rw [List.length_map] at hsq ⊢
  repeat first|(with_reducible first|apply Yd|apply Ya|apply Yc|apply Yb)|((with_reducible apply ws);exact rfl;exact rfl)
  refine Yf rfl to_trees rfl (hbG _ hw34) rfl ?_
  repeat first|(with_reducible first|apply Yc|apply Yb)|((with_reducible apply ws);exact rfl;exact rfl)
  refine Yu rfl (by rw [hlen];simp) ?_
  repeat (with_reducible first|apply Yd|apply Ya|apply Yb|apply Yh)
  refine YC (cs:=[.int .i64 f.kind,.int .i64 f.fr,.int .i64 f.upto,.int .i64 f.nul,.int .i64 f.tag,.int .i64 f.df,.int .i64 f.of,sv]) rfl ta_fld rfl (hbF _ hw34) ?_
  refine YJ Yj0 rfl rfl (fun w6 hb6 hg6 hs6 => ?_)
  refine Yn (vs:=[.int .i64 f.kind,.int .i64 f.fr,.int .i64 f.upto,.int .i64 f.nul,.int .i64 f.tag,.int .i64 f.df,.int .i64 f.of,sv]) rfl rfl rfl tz_fld (by obtain ⟨hone,_⟩:=Yb0 hf;exact hone) hb6 rfl (fun w7 hb7 hg7 hs7 => ?_)
  have hw57 : Below w5.heap.size w5 w7:=(Yg hg6 (Nat.le_refl _) (by simp)).trans (Yg hg7 (by omega) (by intro k hk;simp at hk;omega))
  have hw37 : Below w3.heap.size w3 w7:=hw34.trans (hw57.mono (by omega))
  repeat first|(with_reducible first|apply Yd|apply Ya|apply Yc|apply Yb)|((with_reducible apply ws);exact rfl;exact rfl)
  refine Yf rfl to_int rfl (hbF _ hw37) rfl ?_
  repeat ((with_reducible apply ws);exact rfl;exact rfl)
  refine YA rfl rfl to_int rfl hb7 rfl (fun w8 hb8 hg8 hs8 => ?_)
  repeat ((with_reducible apply ws);exact rfl;exact rfl)
  refine YA rfl rfl to_int rfl hb8 rfl (fun w9 hb9 hg9 hs9 => ?_)
  repeat ((with_reducible apply ws);exact rfl;exact rfl)
  refine YA rfl rfl to_int rfl hb9 rfl (fun w10 hb10 hg10 hs10 => ?_)
  have hbO : Box w10 w5.heap.size [.int .i64 f.of,.int .i64 f.fr,.int .i64 f.upto,.int .i64 (-1),.int .i64 (-1),.int .i64 f.df,.int .i64 f.of,sv] 55:=hb10
  have hw510 : Below w5.heap.size w5 w10:=((hw57.trans (Yg hg8 (by omega) (by intro k hk;simp at hk;omega))).trans (Yg hg9 (by omega) (by intro k hk;simp at hk;omega))).trans (Yg hg10 (by omega) (by intro k hk;simp at hk;omega))
  have hw010 : Below w.heap.size w w10:=hw4.trans (hw510.mono (by have:=hw4.size;omega))
  repeat first|(with_reducible first|apply Yd|apply Ya|apply Yc|apply Yb|apply Yr)|((with_reducible apply ws);exact rfl;exact rfl)
  refine Xu (α:=Nat) (fun i => [(98,.int .i64 (i : Int)),(97,.int .i64 ((YQ t.l).length : Int)),(14,.slice tha (YQ t.l).length thc),(15,.pointer (some ⟨w5.heap.size,0,none⟩)),(1,.int .i64 ver),(2,.bool flex),(9,.pointer (some ⟨w2.heap.size,0,none⟩))]) (fun i w' => i ≤ (YQ t.l).length ∧ Below w10.heap.size w10 w') (fun i => (YQ t.l).length - i) 0 ⟨rfl,rfl,rfl,rfl,rfl,rfl,rfl,trivial⟩ ⟨Nat.zero_le _,Below.refl _ _⟩ ?_
  rintro i w11 ⟨hi,hw11⟩
  have hs510:=hw510.size
  have hs1011:=hw11.size
  have hs4:=hw4.size
  have hw511 : Below w5.heap.size w5 w11:=hw510.trans (hw11.mono (by omega))
  have hw011 : Below w.heap.size w w11:=hw010.trans (hw11.mono (by omega))
  have hlt9 : (YQ t.l).length ≤ 32767:=by simp only [YQ,List.length_take,Vf];omega
  repeat first|(with_reducible first|apply Yd|apply Ya|apply Yc|apply Yb)|((with_reducible apply ws);exact rfl;exact rfl)
  by_cases hlt : i < (YQ t.l).length
  ·refine Yp rfl (by simpa using hlt) ?_
   obtain ⟨b,off,c',xcs,hv,_,hxcs,hxl,hxr⟩:=(hsq.below (hw511.mono (by omega)) (Nat.le_refl _)).get (sz:=5) (i:=i) (by intro d hd;obtain ⟨x,_,rfl⟩:=List.mem_map.1 hd;exact Xs x) (by simpa using hlt)
   obtain ⟨b2,off2,c2,ycs,hv2,_,hycs,hyl,hyr⟩:=(hgl.below (hw011.mono hB) (Nat.le_refl _)).get (sz:=5) (i:=i) (by intro d hd;obtain ⟨x,_,rfl⟩:=List.mem_map.1 hd;exact Xs x) (by simp;omega)
   simp only [Value.slice.injEq,List.length_map] at hv hv2
   obtain ⟨rfl,_,rfl⟩:=hv
   obtain ⟨rfl,_,rfl⟩:=hv2
   simp only [List.getElem_map] at hxr hyr
   have hgi : i < g.l.length:=by omega
   have htoi:=hel i _ _ (List.getElem?_eq_getElem hlt) (List.getElem?_eq_getElem hgi)
   have hxok : (YQ t.l)[i].ok:=hok.l _ (List.mem_of_mem_take (List.getElem_mem hlt))
   repeat first|(with_reducible first|apply Yd|apply Ya|apply Yc|apply Yb|apply Yr|apply Yh)|((with_reducible apply ws);exact rfl;exact rfl)
   refine XJ [(0,.agg ([.int .i64 f.of,.int .i64 f.fr,.int .i64 f.upto,.int .i64 (-1),.int .i64 (-1),.int .i64 f.df,.int .i64 f.of,sv] : List Value).toArray),(1,.int .i64 ver),(2,.bool flex),(3,.slice (some ⟨b,off,none⟩) (YQ t.l).length thc),(4,.int .i64 (i : Int)),(5,.pointer (some ⟨b,off + i * 5,none⟩)),(6,.agg xcs.toArray),(7,.pointer (some ⟨w2.heap.size,0 + 3,none⟩)),(8,.slice (some ⟨b2,off2,none⟩) g.l.length glc),(9,.int .i64 (i : Int)),(10,.pointer (some ⟨b2,off2 + i * 5,none⟩)),(11,.agg ycs.toArray)] [13,12]
    (fun vals w' => Below w11.heap.size w11 w' ∧ match vals with
     | [] => True
     | [v] => v = .bool true
     | v :: _ => v = .bool false)
    mixed rfl rfl rfl rfl rfl (by show ([0,1,2,3,4,5,6,7,8,9,10,11] : List Nat).Nodup;decide) rfl rfl (by decide) rfl rfl rfl rfl ⟨(Below.refl _ w11).drew,trivial⟩ ?_ ⟨?_,?_,trivial⟩ ?_
   ·intro p hp vals w' hC a k
    have hc3 : Below w3.heap.size w3 w':=hw34.trans ((hw511.mono (by omega)).trans (hC.1.mono (by omega)))
    simp only [List.mem_cons,List.not_mem_nil,or_false] at hp
    rcases hp with rfl | rfl | rfl | rfl | rfl | rfl | rfl | rfl | rfl | rfl | rfl | rfl
    ·exact gv rfl rfl (YX k rfl ta_fld (hbO.below (hw11.trans (hC.1.mono (by omega))) (by omega)))
    ·exact gv rfl rfl (Yl k rfl)
    ·exact gv rfl rfl (Yl k rfl)
    ·exact gv rfl rfl (Yl k rfl)
    ·exact gv rfl rfl (Yl k rfl)
    ·exact gv rfl rfl (Yx k rfl rfl es_trees hlt)
    ·exact gv rfl rfl (Vw k rfl (by rw [hxl];exact ta_tree) (fun j v e => (hxcs.of_block (hC.1.block b (by have:=hxcs.lt;omega))).cell e))
    ·exact gv rfl rfl (Yi k rfl fo_tree3)
    ·exact gv rfl rfl (Yy k rfl to_trees ((hbG _ hc3).cell0 (i:=3) rfl))
    ·exact gv rfl rfl (Yl k rfl)
    ·exact gv rfl rfl (Yx k rfl rfl es_trees hgi)
    ·exact gv rfl rfl (Vw k rfl (by rw [hyl];exact ta_tree) (fun j v e => (hycs.of_block (hC.1.block b2 (by have:=hycs.lt;omega))).cell e))
   ·rintro vals w' hvl ⟨hb',hC⟩ a k
    match vals,hvl with
    | [v12],_ =>
     simp only [] at hC
     subst hC
     exact ⟨_,rfl,Jk k rfl ⟨hb',rfl⟩⟩
   ·rintro vals w' hvl ⟨hb',hC⟩ a k
    match vals,hvl with
    | [],_ =>
     have hB11 : Below B w11 w':=hb'.mono (by omega)
     have hof : Rep (Lo B) w' (fldD (oneF f)) [.int .i64 f.of,.int .i64 f.fr,.int .i64 f.upto,.int .i64 (-1),.int .i64 (-1),.int .i64 f.df,.int .i64 f.of,sv]:=by
      have hsq' : Rep (Lo B) w' (.sq (f.sub.map fldD)) [sv]:=hfs.below ((hw011.mono hB).trans hB11) (Nat.le_refl _)
      cases f with
      | mk kind fr upto nul tag df of sub => exact rep_fldS hsq'
     refine ⟨_,rfl,Yz k rfl (by kernel_rfl) ((hone h11 _ _ B w' _ _ _ hxok (by have:=hb'.size;omega) hof (Rep.below hxr hB11 (Nat.le_refl _)) (Rep.below hyr hB11 (Nat.le_refl _)) htoi).mono ?_)⟩
     rintro e w'' ⟨v,rfl,hb'',rfl⟩
     exact ⟨_,rfl,hb'.trans (hb''.mono hb'.size),rfl⟩
   ·rintro vals w' hvl ⟨hb',hC⟩
    match vals,hvl with
    | [v13,v12],_ =>
     simp only [] at hC
     subst hC
     refine Yb ?_
     refine Yu rfl rfl ?_
     repeat (with_reducible first|apply Ya|apply Yb|apply Yh|apply XS)
     refine Xn rfl rfl rfl (r:=((i + 1 : Nat) : Int)) (by rw [IntKind.wrap_i64];omega) ?_
     repeat first|(with_reducible apply Yc)|((with_reducible apply ws);exact rfl;exact rfl)
     exact YD (i + 1) ⟨rfl,rfl,rfl,rfl,rfl,rfl,rfl,trivial⟩ ⟨by omega,hw11.trans (hb'.mono (by omega))⟩ (by omega)
  ·refine Yu rfl (by simpa using hlt) ?_
   repeat first|(with_reducible first|apply Yd|apply Ya|apply Yc|apply Yb|apply Ym|apply Xk|apply Yj|apply YL|apply Yw|apply YB|apply Yq)|((with_reducible apply ws);exact rfl;exact rfl)
   exact Yk rfl rfl ⟨_,rfl,hw011,rfl⟩
 rw [if_neg h11] at hto3
 unfold ToV at hto3
 rw [if_neg h89,if_neg h7] at hto3
 refine Yu rfl (by simpa using h11) ?_
 repeat (with_reducible first|apply Yd|apply Yb|apply Yh|apply XS)
 refine XJ [(0,.pointer (some ⟨w2.heap.size,0 + 0,none⟩)),(1,.int .i64 g.n),(2,.pointer (some ⟨w.heap.size,0 + 0,none⟩)),(3,.int .i64 f.kind),(4,.pointer (some ⟨w1.heap.size,0 + 0,none⟩)),(5,.int .i64 t.n)] [8,7,6]
  (fun vals w' => Below w4.heap.size w4 w' ∧ match vals with
   | [] => True
   | [v] => v = .int .i64 (Vm f.kind t.n)
   | v :: _ => v = .bool true)
  mixed rfl rfl rfl rfl rfl (by show ([0,1,2,3,4,5] : List Nat).Nodup;decide) rfl rfl (by decide) rfl rfl rfl rfl ⟨(Below.refl _ w4).drew,trivial⟩ ?_ ⟨?_,?_,?_,trivial⟩ ?_
 ·intro p hp vals w' hC a k
  have hc34 : Below w3.heap.size w3 w':=hw34.trans (hC.1.mono (by omega))
  simp only [List.mem_cons,List.not_mem_nil,or_false] at hp
  rcases hp with rfl | rfl | rfl | rfl | rfl | rfl
  ·exact gv rfl rfl (Yi k rfl fo_tree0)
  ·exact gv rfl rfl (Yy k rfl to_i64 ((hbG _ hc34).cell0 (i:=0) rfl))
  ·exact gv rfl rfl (Yi k rfl fo_fld0)
  ·exact gv rfl rfl (Yy k rfl to_int ((hbF _ hc34).cell0 (i:=0) rfl))
  ·exact gv rfl rfl (Yi k rfl fo_tree0)
  ·exact gv rfl rfl (Yy k rfl to_i64 ((hbT _ hc34).cell0 (i:=0) rfl))
 ·rintro vals w' hvl ⟨hb',hC⟩ a k
  match vals,hvl with
  | [v7,v6],_ => exact ⟨_,rfl,Xr k rfl ⟨hb',hC⟩⟩
 ·rintro vals w' hvl ⟨hb',hC⟩ a k
  match vals,hvl with
  | [v6],_ =>
   simp only [] at hC
   subst hC
   exact ⟨_,rfl,Vo (rn_eql k rfl rfl) ⟨hb',by rw [hto3];simp⟩⟩
 ·rintro vals w' hvl ⟨hb',hC⟩ a k
  match vals,hvl with
  | [],_ =>
   refine ⟨_,rfl,Yz k rfl (by kernel_rfl) ((fn_number f.kind t.n w').mono ?_)⟩
   rintro e w'' ⟨v,rfl,hb'',rfl,rfl⟩
   exact ⟨_,rfl,hb',rfl⟩
 ·rintro vals w' hvl ⟨hb',hC⟩
  match vals,hvl with
  | [v8,v7,v6],_ =>
   simp only [] at hC
   subst hC
   refine Yb ?_
   repeat (with_reducible apply Ym)
   exact Yk rfl rfl ⟨_,rfl,hw4.trans (hb'.mono hw4.size),rfl⟩
end
end

section
open Go Go.RowKit
theorem toFs_get {ver : Int} {flex : Bool} : ∀ {fs : List Fld} {k : Nat} {t : Tree} {l : List Tree},ToFs ver flex fs k t l → l.length = fs.length ∧ ∀ (i : Nat) (h : i < fs.length) (h' : i < l.length),if Yf3 ver flex fs[i] (att t (k + i)) = true then ToF ver flex fs[i] (att t (k + i)) l[i] else UsF fs[i] l[i]
 | [],k,t,l,h => by simp only [ToFs] at h;subst h;exact ⟨rfl,fun i h => by simp at h⟩
 | f :: fs,k,t,l,h => by
  simp only [ToFs] at h
  obtain ⟨x,r,rfl,h1,h2⟩:=h
  obtain ⟨k1,k2⟩:=toFs_get h2
  refine ⟨by simp [k1],fun i hi hi' => ?_⟩
  cases i with
  | zero => exact h1
  | succ i =>
   have:=k2 i (by simpa using hi) (by simpa using hi')
   rw [show k + 1 + i = k + (i + 1) by omega] at this
   exact this
def PF (f : Fld) (y : Tree) (j : Nat) (v : Value) (w : World) : Prop:=match j with
 | 1 => Sq w.heap.size w v ([f].map fldD)
 | 7 => Sq w.heap.size w v ([y].map treeD)
 | 8 => ∃ cs : List Value,v = .agg cs.toArray ∧ Rep (Lo w.heap.size) w (treeD (.mk 0 [] false [y] [])) cs
 | 9 => v = .bool true
 | 10 => v = .bool false
 | _ => True
theorem PF.up {f : Fld} {y : Tree} {j : Nat} {v : Value} {w w' : World} (h : PF f y j v w) (hb : Below w.heap.size w w') : PF f y j v w':=by
 unfold PF at *
 split at h
 ·exact h.below hb hb.size
 ·exact h.below hb hb.size
 ·obtain ⟨cs,rfl,hr⟩:=h;exact ⟨cs,rfl,Rep.below hr hb hb.size⟩
 ·exact h
 ·exact h
 ·trivial
theorem qk_at {Q : Exit → Act → World → Prop} {N : Nat} {L : Sl} {w : World} {a : Act} {e : Exit} (k : Kn N a L) (h : QK e Q N L w) : Q e a w:=h a k
theorem sq_new {w : World} {e : TypeId} {cs : List Value} {d : D} (h : Rep (Lo w.heap.size) w d cs) : Sq (w.alloc (.cells cs.toArray e)).heap.size (w.alloc (.cells cs.toArray e)) (.slice (some ⟨w.heap.size,0,none⟩) 1 1) [d]:=by
 simp only [Sq,Rep]
 have hb : Below w.heap.size w (w.alloc (.cells cs.toArray e)):=Yg (XE w _) (Nat.le_refl _) (by simp)
 refine ⟨_,_,rfl,Nat.le_refl _,.inr ⟨w.heap.size,0,cs,rfl,?_,(XZ w cs e).cells,?_⟩⟩
 ·show w.heap.size < _
  simp
 ·simp only [YG]
  exact ⟨cs,[],by simp,Rep.below h hb (by simp),rfl⟩
theorem tree_of_list {ok : Nat → Prop} {w : World} {l : List Tree} {lv : Value} (h : Rep ok w (.sq (l.map treeD)) [lv]) : Rep ok w (treeD (.mk 0 [] false l [])) [.int .i64 0,.slice none 0 0,.bool false,lv,.slice none 0 0]:=by
 simp only [treeD,VR,Rep,YG,Xb,List.map_nil] at h ⊢
 exact ⟨[_],_,rfl,rfl,[_],_,rfl,⟨none,0,rfl,by simp,.inl trivial⟩,[_],_,rfl,rfl,[_],_,rfl,h,[_],_,rfl,⟨none,0,rfl,by simp,.inl trivial⟩,rfl⟩
section
set_option maxRecDepth 100000
theorem rtF : Ut Tryz.prog 28 55 8 = true:=by kernel_rfl
theorem rtT : Ut Tryz.prog 23 26 5 = true:=by kernel_rfl
set_option maxHeartbeats 8000000 in
theorem told_part (ver : Int) (flex : Bool) (fs : List Fld) (hfs : JB fs = true) (htab : tabTs fs = true) (hF : ∀ f ∈ fs,ToFOK ver flex f) : ToOK ver flex fs:=by
 intro t g B w fv ts gs hok hB hf ht hg hto
 have hfl:=JB.len hfs
 obtain ⟨fa,fc,rfl,_⟩:=hf.shape
 obtain ⟨sv2,lv,uv,rfl,_,_,huu⟩:=Xi ht
 obtain ⟨ua,uc,rfl,_⟩:=huu.shape
 obtain ⟨gsv,glv,guv,rfl,_,hgl,hgu⟩:=Xi hg
 obtain ⟨gla,glc,rfl,_⟩:=hgl.shape
 obtain ⟨gua,guc,rfl,_⟩:=hgu.shape
 obtain ⟨hto1,hto2⟩:=hto
 obtain ⟨hlen,hget⟩:=toFs_get hto1
 simp only [List.length_map] at *
 refine enter Tryz.func11 rfl Tryz.ntmps11 rfl ?_
 repeat (with_reducible first|apply Yd|apply Ya)
 refine XF rfl rfl rfl (fun w1 hb1 hg1 hs1 => XF rfl rfl rfl (fun w2 hb2 hg2 hs2 => ?_))
 have hw2 : Below w.heap.size w w2:=(Yg hg1 (Nat.le_refl _) (by simp)).trans (Yg hg2 (by omega) (by simp))
 have hbT : ∀ w',Below w2.heap.size w2 w' → Box w' w.heap.size [.int .i64 t.n,sv2,.bool t.nul,lv,.slice ua t.u.length uc] 26:=fun w' h => (hb1.kept hg2 (by simp)).below h (by omega)
 have hbG : ∀ w',Below w2.heap.size w2 w' → Box w' w1.heap.size [.int .i64 g.n,gsv,.bool g.nul,.slice gla g.l.length glc,.slice gua g.u.length guc] 26:=fun w' h => hb2.below h (by omega)
 repeat first|(with_reducible first|apply Yd|apply Ya|apply Yc|apply Yb)|((with_reducible apply ws);exact rfl;exact rfl)
 refine Yf rfl to_trees rfl hb2 rfl ?_
 repeat first|(with_reducible first|apply Yc|apply Yb)|((with_reducible apply ws);exact rfl;exact rfl)
 refine Yu rfl (by rw [hlen];simp) ?_
 refine Yh (Yb ?_)
 refine UJ (α:=Unit) (fun _ => [(0,.slice fa fs.length fc),(1,.int .i64 ver),(2,.bool flex),(8,.pointer (some ⟨w.heap.size,0,none⟩)),(9,.pointer (some ⟨w1.heap.size,0,none⟩))]) (fun _ w' => Below w2.heap.size w2 w') ?_ ?_
 ·repeat first|(with_reducible first|apply Yd|apply Ya|apply Yc|apply Yb|apply Yr)|((with_reducible apply ws);exact rfl;exact rfl)
  refine Xu (α:=Nat) (fun i => [(25,.int .i64 (i : Int)),(24,.int .i64 (fs.length : Int)),(23,.slice fa fs.length fc),(0,.slice fa fs.length fc),(1,.int .i64 ver),(2,.bool flex),(8,.pointer (some ⟨w.heap.size,0,none⟩)),(9,.pointer (some ⟨w1.heap.size,0,none⟩))]) (fun i w' => i ≤ fs.length ∧ Below w2.heap.size w2 w') (fun i => fs.length - i) 0 ⟨rfl,rfl,rfl,rfl,rfl,rfl,rfl,rfl,trivial⟩ ⟨Nat.zero_le _,Below.refl _ _⟩ ?_
  rintro i w3 ⟨hi,hw3⟩
  have hs23:=hw3.size
  have hw03 : Below w.heap.size w w3:=hw2.trans (hw3.mono (by omega))
  repeat first|(with_reducible first|apply Yd|apply Ya|apply Yc|apply Yb)|((with_reducible apply ws);exact rfl;exact rfl)
  by_cases hlt : i < fs.length
  ·refine Yp rfl (by simpa using hlt) ?_
   obtain ⟨b,off,c',cs,hv,_,hcs,hcl,hr⟩:=(hf.below (hw03.mono hB) (Nat.le_refl _)).get (sz:=8) (i:=i) (by intro d hd;obtain ⟨x,_,rfl⟩:=List.mem_map.1 hd;exact Uo x) (by simpa using hlt)
   simp only [Value.slice.injEq,List.length_map] at hv
   obtain ⟨rfl,_,rfl⟩:=hv
   simp only [List.getElem_map] at hr
   obtain ⟨hone,_⟩:=Yb0 hr
   have hfin : fs[i] ∈ fs:=List.getElem_mem hlt
   have hfT:=tabTs_get htab fs[i] hfin
   have hFi:=hF fs[i] hfin
   have hfk:=JB.mem hfs fs[i] hfin
   have hti:=hget i hlt (by omega)
   rw [Nat.zero_add] at hti
   generalize hff : fs[i] = f at *
   obtain ⟨sv,rfl,hsub⟩:=Vs hr
   repeat first|(with_reducible first|apply Yd|apply Ya|apply Yb|apply Yr|apply Yh)|((with_reducible apply ws);exact rfl;exact rfl)
   refine Ys rfl rfl es_flds rfl hlt ?_
   refine Xv (cs:=[.int .i64 f.kind,.int .i64 f.fr,.int .i64 f.upto,.int .i64 f.nul,.int .i64 f.tag,.int .i64 f.df,.int .i64 f.of,sv]) rfl ta_fld rfl (fun j v e => hcs.cell e) ?_
   refine YJ Yj0 rfl rfl (fun w4 hbx4 hg4 hs4 => ?_)
   repeat ((with_reducible apply ws);exact rfl;exact rfl)
   refine Yn (vs:=[.int .i64 f.kind,.int .i64 f.fr,.int .i64 f.upto,.int .i64 f.nul,.int .i64 f.tag,.int .i64 f.df,.int .i64 f.of,sv]) rfl rfl rfl tz_fld hone hbx4 rfl (fun w5 hbx5 hg5 hs5 => ?_)
   have hw35 : Below w3.heap.size w3 w5:=(Yg hg4 (Nat.le_refl _) (by simp)).trans (Yg hg5 (by omega) (by intro k hk;simp at hk;omega))
   have hw05 : Below w.heap.size w w5:=hw03.trans (hw35.mono (by omega))
   have hw25 : Below w2.heap.size w2 w5:=hw3.trans (hw35.mono (by omega))
   repeat (with_reducible first|apply Yd|apply Ya|apply Yc|apply Yb)
   refine YC (cs:=[.int .i64 t.n,sv2,.bool t.nul,lv,.slice ua t.u.length uc]) rfl ta_tree rfl (hbT _ hw25) ?_
   repeat ((with_reducible apply ws);exact rfl;exact rfl)
   refine Yo rfl (by kernel_rfl) rfl ((fn_at t i B w5 (by omega) _ (Rep.below ht (hw05.mono hB) (Nat.le_refl _))).mono ?_)
   rintro e w6 ⟨v,rfl,hw56,xs,rfl,hxr⟩
   refine ⟨_,rfl,?_⟩
   have hxok : (att t i).ok:=hok.at i
   generalize hxx : att t i = x at *
   obtain ⟨honex,hxl5⟩:=Yd8 hxr
   refine YJ zv_tree rfl rfl (fun w7 hbx7 hg7 hs7 => ?_)
   skip
   refine Yn (vs:=xs) rfl rfl rfl (by rw [hxl5];exact tz_tree) honex hbx7 (by rw [hxl5];rfl) (fun w8 hbx8 hg8 hs8 => ?_)
   have hs56:=hw56.size
   have hw68 : Below w6.heap.size w6 w8:=(Yg hg7 (Nat.le_refl _) (by simp)).trans (Yg hg8 (by omega) (by intro k hk;simp at hk;omega))
   have hw58 : Below w5.heap.size w5 w8:=hw56.trans (hw68.mono (by omega))
   have hw28 : Below w2.heap.size w2 w8:=hw25.trans (hw58.mono (by omega))
   have hw08 : Below w.heap.size w w8:=hw05.trans (hw58.mono (by omega))
   have hbf:=hbx5.below hw58 (by omega)
   have hr8 : Rep (Lo B) w8 (fldD f) [.int .i64 f.kind,.int .i64 f.fr,.int .i64 f.upto,.int .i64 f.nul,.int .i64 f.tag,.int .i64 f.df,.int .i64 f.of,sv]:=Rep.below hr ((hw35.mono (show B ≤ w3.heap.size by omega)).trans (hw58.mono (by omega))) (Nat.le_refl _)
   have hx8 : Rep (Lo B) w8 (treeD x) xs:=Rep.below hxr (hw68.mono (by omega)) (Nat.le_refl _)
   obtain ⟨b2,off2,c2,ycs,hv2,_,hycs,hyl,hyr⟩:=(hgl.below (hw08.mono hB) (Nat.le_refl _)).get (sz:=5) (i:=i) (by intro d hd;obtain ⟨x,_,rfl⟩:=List.mem_map.1 hd;exact Xs x) (by simp;omega)
   simp only [Value.slice.injEq,List.length_map] at hv2
   obtain ⟨rfl,_,rfl⟩:=hv2
   simp only [List.getElem_map] at hyr
   have hgi : i < g.l.length:=by omega
   generalize hyy : g.l[i]'(by omega) = y at *
   obtain ⟨honey,hyl5⟩:=Yd8 hyr
   refine Yc (Yb ?_)
   refine Yd ?_
   refine UJ (α:=Bool) (fun c => [(54,.bool c),(12,.pointer (some ⟨w3.heap.size,0,none⟩)),(13,.pointer (some ⟨w6.heap.size,0,none⟩)),(11,.int .i64 (i : Int)),(25,.int .i64 (i : Int)),(24,.int .i64 (fs.length : Int)),(23,.slice (some ⟨b,off,none⟩) fs.length fc),(0,.slice (some ⟨b,off,none⟩) fs.length fc),(1,.int .i64 ver),(2,.bool flex),(8,.pointer (some ⟨w.heap.size,0,none⟩)),(9,.pointer (some ⟨w1.heap.size,0,none⟩))]) (fun c w' => Below w8.heap.size w8 w' ∧ c = Yf3 ver flex f x) ?_ ?_
   ·repeat first|(with_reducible apply Ya)|((with_reducible apply ws);exact rfl;exact rfl)
    refine Yf rfl to_int rfl hbf rfl ?_
    repeat ((with_reducible apply ws);exact rfl;exact rfl)
    by_cases htag : f.tag < 0
    ·rw [show decide (f.tag < 0) = true from by simpa using htag]
     repeat ((with_reducible apply YU);exact rfl;exact rfl;exact rfl)
     refine YC (cs:=[.int .i64 f.kind,.int .i64 f.fr,.int .i64 f.upto,.int .i64 f.nul,.int .i64 f.tag,.int .i64 f.df,.int .i64 f.of,sv]) rfl ta_fld rfl hbf ?_
     repeat first|((with_reducible apply ws);exact rfl;exact rfl)|((with_reducible apply YU);exact rfl;exact rfl;exact rfl)
     refine Yo rfl (by kernel_rfl) rfl ((fn_has f ver B w8 (by omega) _ hr8).mono ?_)
     rintro e w9 ⟨v,rfl,hw89,rfl⟩
     refine ⟨_,rfl,?_⟩
     have hbf9:=hbx5.below (hw58.trans (hw89.mono (by omega))) (by omega)
     cases hh : f.has ver with
     | true =>
      repeat first|(with_reducible apply Yc)|((with_reducible apply ws);exact rfl;exact rfl)|((with_reducible apply US);exact rfl;exact rfl;exact rfl;exact rfl)|((with_reducible apply wl_noU);exact rfl;exact rfl;exact rfl)
      exact XB true ⟨rfl,rfl,rfl,rfl,rfl,rfl,rfl,rfl,rfl,rfl,rfl,rfl,trivial⟩ ⟨hw89,by rw [toHas_no htag,hh]⟩
     | false =>
      repeat first|((with_reducible apply ws);exact rfl;exact rfl)|((with_reducible apply YU);exact rfl;exact rfl;exact rfl)
      refine Yf rfl to_int rfl hbf9 rfl ?_
      repeat first|((with_reducible apply ws);exact rfl;exact rfl)|((with_reducible apply YU);exact rfl;exact rfl;exact rfl)
      rw [show decide (0 ≤ f.tag) = false from by simp;omega]
      repeat first|(with_reducible apply Yc)|((with_reducible apply ws);exact rfl;exact rfl)|((with_reducible apply YU);exact rfl;exact rfl;exact rfl)|((with_reducible apply US);exact rfl;exact rfl;exact rfl;exact rfl)
      exact XB false ⟨rfl,rfl,rfl,rfl,rfl,rfl,rfl,rfl,rfl,rfl,rfl,rfl,trivial⟩ ⟨hw89,by rw [toHas_no htag,hh]⟩
    ·have hth : Yf3 ver flex f x = (flex && !usual f x):=by unfold Yf3;rw [if_neg htag]
     rw [show decide (f.tag < 0) = false from by simpa using htag]
     repeat first|((with_reducible apply ws);exact rfl;exact rfl)|((with_reducible apply YU);exact rfl;exact rfl;exact rfl)|((with_reducible apply US);exact rfl;exact rfl;exact rfl;exact rfl)
     refine Yf rfl to_int rfl hbf rfl ?_
     repeat first|((with_reducible apply ws);exact rfl;exact rfl)|((with_reducible apply YU);exact rfl;exact rfl;exact rfl)
     rw [show decide (0 ≤ f.tag) = true from by simp;omega]
     repeat first|((with_reducible apply ws);exact rfl;exact rfl)|((with_reducible apply YU);exact rfl;exact rfl;exact rfl)
     cases flex with
     | false =>
      repeat first|(with_reducible apply Yc)|((with_reducible apply ws);exact rfl;exact rfl)|((with_reducible apply YU);exact rfl;exact rfl;exact rfl)|((with_reducible apply US);exact rfl;exact rfl;exact rfl;exact rfl)
      exact XB false ⟨rfl,rfl,rfl,rfl,rfl,rfl,rfl,rfl,rfl,rfl,rfl,rfl,trivial⟩ ⟨Below.refl _ _,by rw [hth];rfl⟩
     | true =>
      repeat ((with_reducible apply YU);exact rfl;exact rfl;exact rfl)
      refine YC (cs:=[.int .i64 f.kind,.int .i64 f.fr,.int .i64 f.upto,.int .i64 f.nul,.int .i64 f.tag,.int .i64 f.df,.int .i64 f.of,sv]) rfl ta_fld rfl hbf ?_
      repeat ((with_reducible apply YU);exact rfl;exact rfl;exact rfl)
      refine YC (cs:=xs) rfl (by rw [hxl5];exact ta_tree) rfl hbx8 ?_
      repeat ((with_reducible apply YU);exact rfl;exact rfl;exact rfl)
      refine Yo rfl (by kernel_rfl) rfl (((field_ok f hfk).2 x B w8 _ _ hxok (by omega) hr8 hx8).mono ?_)
      rintro e w9 ⟨v,rfl,hw89,rfl⟩
      refine ⟨_,rfl,?_⟩
      repeat first|(with_reducible apply Yc)|((with_reducible apply ws);exact rfl;exact rfl)|((with_reducible apply YU);exact rfl;exact rfl;exact rfl)
      exact XB (!usual f x) ⟨by cases usual f x <;> rfl,rfl,rfl,rfl,rfl,rfl,rfl,rfl,rfl,rfl,rfl,rfl,trivial⟩ ⟨hw89,by rw [hth];rfl⟩
   rintro c w9 ⟨hw89,hc⟩
   have hs89:=hw89.size
   have hw59 : Below w5.heap.size w5 w9:=hw58.trans (hw89.mono (by omega))
   have hw29 : Below w2.heap.size w2 w9:=hw28.trans (hw89.mono (by omega))
   have hbf9:=hbx5.below hw59 (by omega)
   have hw9B : Below B w8 w9:=hw89.mono (by omega)
   rw [← hc] at hti
   cases c with
   | true =>
    simp only [if_true] at hti
    skip
    refine Yp rfl rfl ?_
    repeat (with_reducible apply Yd)
    refine XJ [(0,.agg ([.int .i64 f.kind,.int .i64 f.fr,.int .i64 f.upto,.int .i64 f.nul,.int .i64 f.tag,.int .i64 f.df,.int .i64 f.of,sv] : List Value).toArray),(1,.int .i64 ver),(2,.bool flex),(3,.agg xs.toArray),(4,.pointer (some ⟨w1.heap.size,0 + 3,none⟩)),(5,.slice (some ⟨b2,off2,none⟩) g.l.length glc),(6,.int .i64 (i : Int)),(7,.pointer (some ⟨b2,off2 + i * 5,none⟩)),(8,.agg ycs.toArray)] [10,9]
     (fun vals w' => Below w9.heap.size w9 w' ∧ match vals with
      | [] => True
      | [v] => v = .bool true
      | v :: _ => v = .bool false)
     mixed rfl rfl rfl rfl rfl (by show ([0,1,2,3,4,5,6,7,8] : List Nat).Nodup;decide) rfl rfl (by decide) rfl rfl rfl rfl ⟨(Below.refl _ w9).drew,trivial⟩ ?_ ⟨?_,?_,trivial⟩ ?_
    ·intro p hp vals w' hC a k
     have hc2 : Below w2.heap.size w2 w':=hw29.trans (hC.1.mono (by omega))
     simp only [List.mem_cons,List.not_mem_nil,or_false] at hp
     rcases hp with rfl | rfl | rfl | rfl | rfl | rfl | rfl | rfl | rfl
     ·exact gv rfl rfl (YX k rfl ta_fld (hbf9.below hC.1 (by omega)))
     ·exact gv rfl rfl (Yl k rfl)
     ·exact gv rfl rfl (Yl k rfl)
     ·exact gv rfl rfl (YX k rfl (by rw [hxl5];exact ta_tree) (hbx8.below (hw89.trans (hC.1.mono (by omega))) (by omega)))
     ·exact gv rfl rfl (Yi k rfl fo_tree3)
     ·exact gv rfl rfl (Yy k rfl to_trees ((hbG _ hc2).cell0 (i:=3) rfl))
     ·exact gv rfl rfl (Yl k rfl)
     ·exact gv rfl rfl (Yx k rfl rfl es_trees hgi)
     ·exact gv rfl rfl (Vw k rfl (by rw [hyl5];exact ta_tree) (fun j v e => (hycs.of_block ((hw89.trans (hC.1.mono (by omega))).block b2 (by have:=hycs.lt;omega))).cell e))
    ·rintro vals w' hvl ⟨hb',hC⟩ a k
     match vals,hvl with
     | [v9],_ =>
      simp only [] at hC
      subst hC
      exact ⟨_,rfl,Jk k rfl ⟨hb',rfl⟩⟩
    ·rintro vals w' hvl ⟨hb',hC⟩ a k
     match vals,hvl with
     | [],_ =>
      have hB9 : Below B w8 w':=hw9B.trans (hb'.mono (by omega))
      refine ⟨_,rfl,Yz k rfl (by kernel_rfl) ((hFi x y B w' _ _ _ hxok (by have:=hb'.size;omega) (Rep.below hr8 hB9 (Nat.le_refl _)) (Rep.below hx8 hB9 (Nat.le_refl _)) (Rep.below hyr hB9 (Nat.le_refl _)) hti).mono ?_)⟩
      rintro e w'' ⟨v,rfl,hb'',rfl⟩
      exact ⟨_,rfl,hb'.trans (hb''.mono hb'.size),rfl⟩
    ·rintro vals w' hvl ⟨hb',hC⟩
     match vals,hvl with
     | [v10,v9],_ =>
      simp only [] at hC
      subst hC
      refine Yb ?_
      refine Yu rfl rfl ?_
      repeat (with_reducible first|apply Ya|apply Yb|apply Yh|apply Xk|apply Yw|apply YB)
      refine Xn rfl rfl rfl (r:=((i + 1 : Nat) : Int)) (by rw [IntKind.wrap_i64];omega) ?_
      repeat first|(with_reducible apply Yc)|((with_reducible apply ws);exact rfl;exact rfl)
      exact YD (i + 1) ⟨rfl,rfl,rfl,rfl,rfl,rfl,rfl,rfl,trivial⟩ ⟨by omega,hw29.trans (hb'.mono (by omega))⟩ (by omega)
   | false =>
    simp only [Bool.false_eq_true,if_false] at hti
    skip
    refine Yu rfl rfl ?_
    repeat (with_reducible first|apply Yd|apply Yb|apply Yh)
    refine wc_po [(0,.agg ([.int .i64 f.kind,.int .i64 f.fr,.int .i64 f.upto,.int .i64 f.nul,.int .i64 f.tag,.int .i64 f.df,.int .i64 f.of,sv] : List Value).toArray),(2,.pointer (some ⟨w1.heap.size,0 + 3,none⟩)),(3,.slice (some ⟨b2,off2,none⟩) g.l.length glc),(4,.int .i64 (i : Int)),(5,.pointer (some ⟨b2,off2 + i * 5,none⟩)),(6,.agg ycs.toArray)] [1,7,8,9,10]
     (fun dn w' => Below w9.heap.size w9 w' ∧ ∀ j v,(j,v) ∈ dn → PF f y j v w')
     mixed rfl rfl rfl rfl rfl rfl (by show ([0,2,3,4,5,6] : List Nat).Nodup;decide) rfl rfl rfl ⟨(Below.refl _ w9).drew,fun j v h => by cases h⟩ ?_ ?_ ?_
    ·intro p hp dn w' hC a k
     have hc2 : Below w2.heap.size w2 w':=hw29.trans (hC.1.mono (by omega))
     simp only [List.mem_cons,List.not_mem_nil,or_false] at hp
     rcases hp with rfl | rfl | rfl | rfl | rfl | rfl
     ·exact gv rfl rfl (YX k rfl ta_fld (hbf9.below hC.1 (by omega)))
     ·exact gv rfl rfl (Yi k rfl fo_tree3)
     ·exact gv rfl rfl (Yy k rfl to_trees ((hbG _ hc2).cell0 (i:=3) rfl))
     ·exact gv rfl rfl (Yl k rfl)
     ·exact gv rfl rfl (Yx k rfl rfl es_trees hgi)
     ·exact gv rfl rfl (Vw k rfl (by rw [hyl5];exact ta_tree) (fun j v e => (hycs.of_block ((hw89.trans (hC.1.mono (by omega))).block b2 (by have:=hycs.lt;omega))).cell e))
    ·rintro c hc dn w' ⟨hb',hdn⟩ hpr a k hgt
     have hs9:=hb'.size
     have hB9 : Below B w8 w':=hw9B.trans (hb'.mono (by omega))
     have next : ∀ {v : Value} {w'' : World} {c : Nat},Below w'.heap.size w' w'' → PF f y c v w'' → Below w9.heap.size w9 w'' ∧ ∀ j u,(j,u) ∈ (c,v) :: dn → PF f y j u w'':=by
      intro v w'' c hb'' hp
      refine ⟨hb'.trans (hb''.mono hs9),fun j u hj => ?_⟩
      rcases List.mem_cons.1 hj with h | h
      ·cases h;exact hp
      ·exact (hdn j u h).up hb''
     have hfw : Rep (Lo w'.heap.size) w' (fldD f) [.int .i64 f.kind,.int .i64 f.fr,.int .i64 f.upto,.int .i64 f.nul,.int .i64 f.tag,.int .i64 f.df,.int .i64 f.of,sv]:=Rep.below hr8 hB9 (by omega)
     have hyw : Rep (Lo w'.heap.size) w' (treeD y) ycs:=Rep.below hyr hB9 (by omega)
     simp only [List.mem_cons,List.not_mem_nil,or_false] at hc
     rcases hc with rfl | rfl | rfl | rfl | rfl
     ·refine ⟨_,rfl,Uv (cs:=[.int .i64 f.kind,.int .i64 f.fr,.int .i64 f.upto,.int .i64 f.nul,.int .i64 f.tag,.int .i64 f.df,.int .i64 f.of,sv]) k rtF rfl rfl rfl rfl (next (Yg (XE w' _) (Nat.le_refl _) (by simp)) ?_)⟩
      exact sq_new hfw
     ·refine ⟨_,rfl,Uv (cs:=ycs) k rtT rfl rfl hyl5 rfl (next (Yg (XE w' _) (Nat.le_refl _) (by simp)) ?_)⟩
      exact sq_new hyw
     ·obtain ⟨v7,h7⟩:=hpr 7 (by decide) rfl
      have k7:=k.with (hgt 7 v7 73 h7 rfl)
      have hp7 : Sq w'.heap.size w' v7 ([y].map treeD):=hdn 7 v7 h7
      obtain ⟨a7,c7,rfl,_⟩:=hp7.shape
      refine ⟨_,rfl,Yf5 (ps:=[(3,.tmp 73)]) (cs:=[.int .i64 0,.slice none 0 0,.bool false,.slice a7 ([y].map treeD).length c7,.slice none 0 0]) k7 rfl (by kernel_rfl) (next (Below.refl _ _) ⟨_,rfl,tree_of_list hp7⟩)⟩
     ·obtain ⟨v1,h1⟩:=hpr 1 (by decide) rfl
      obtain ⟨v8,h8⟩:=hpr 8 (by decide) rfl
      have k8:=(k.with (hgt 1 v1 67 h1 rfl)).with (hgt 8 v8 74 h8 rfl)
      have hp1 : Sq w'.heap.size w' v1 ([f].map fldD):=hdn 1 v1 h1
      obtain ⟨cs8,rfl,hp8⟩ : ∃ cs : List Value,v8 = .agg cs.toArray ∧ Rep (Lo w'.heap.size) w' (treeD (.mk 0 [] false [y] [])) cs:=hdn 8 v8 h8
      refine ⟨_,rfl,Yz (args:=[.tmp 67,.tmp 74]) k8 rfl (by kernel_rfl) ((us_ok [f] (by simp only [Fld.oksb,hfk,Bool.and_self]) (by simp) (by simp only [tabTs,hfT,Bool.and_self]) _ w'.heap.size w' v1 cs8 (Nat.le_refl _) hp1 hp8 rfl ?_).mono ?_)⟩
      ·simp only [UsFs]
       exact ⟨y,[],rfl,hti,rfl⟩
      ·rintro e w'' ⟨v,rfl,hb'',rfl⟩
       exact ⟨_,rfl,next hb'' rfl⟩
     ·obtain ⟨v9,h9⟩:=hpr 9 (by decide) rfl
      have hp9 : v9 = .bool true:=hdn 9 v9 h9
      subst hp9
      have k9:=k.with (hgt 9 _ 75 h9 rfl)
      exact ⟨_,rfl,Jk k9 rfl (next (Below.refl _ _) rfl)⟩
    ·rintro dn w' ⟨hb',hdn⟩ hall a k hgt
     obtain ⟨v10,h10⟩:=hall 10 (by decide)
     have hp10 : v10 = .bool false:=hdn 10 v10 h10
     subst hp10
     have k10:=k.with (hgt 10 _ 76 h10 rfl)
     refine qk_at k10 (Yb ?_)
     refine Yu rfl rfl ?_
     repeat (with_reducible first|apply Ya|apply Yb|apply Yh|apply XS)
     refine Xn rfl rfl rfl (r:=((i + 1 : Nat) : Int)) (by rw [IntKind.wrap_i64];omega) ?_
     repeat first|(with_reducible apply Yc)|((with_reducible apply ws);exact rfl;exact rfl)
     exact YD (i + 1) ⟨rfl,rfl,rfl,rfl,rfl,rfl,rfl,rfl,trivial⟩ ⟨by omega,hw29.trans (hb'.mono (by omega))⟩ (by omega)
  ·refine Yu rfl (by simpa using hlt) ?_
   repeat (with_reducible first|apply Xk|apply Yw|apply YB|apply Yq)
   exact XB () ⟨rfl,rfl,rfl,rfl,rfl,trivial⟩ hw3
 rintro _ w3 hw3
 have hs23:=hw3.size
 have hw03 : Below w.heap.size w w3:=hw2.trans (hw3.mono (by omega))
 repeat first|(with_reducible first|apply Yd|apply Ya)|((with_reducible apply ws);exact rfl;exact rfl)
 refine Yf rfl to_tags rfl (hbT _ hw3) rfl ?_
 refine Yo rfl (by kernel_rfl) rfl ((Ys7 (.slice fa fs.length fc) (.slice ua t.u.length uc) fs t.u B w3 (by omega) (hf.below (hw03.mono hB) (Nat.le_refl _)) (huu.below (hw03.mono hB) (Nat.le_refl _)) (JB.tag hfs) (by omega)).mono ?_)
 rintro e w4 ⟨v,rfl,hw34,hsq⟩
 refine ⟨_,rfl,?_⟩
 have hs34:=hw34.size
 have hw24 : Below w2.heap.size w2 w4:=hw3.trans (hw34.mono (by omega))
 have hw04 : Below w.heap.size w w4:=hw03.trans (hw34.mono (by omega))
 refine YV rfl rfl (Yc (Yb ?_))
 refine UJ (α:=Value) (fun v => [(14,v),(9,.pointer (some ⟨w1.heap.size,0,none⟩))]) (fun v w' => w' = w4 ∧ Sq w4.heap.size w4 v ((if flex then Xm fs t.u else []).map Uk)) ?_ ?_
 ·repeat first|(with_reducible first|apply Yd|apply Ya|apply Yc|apply Yb)|((with_reducible apply ws);exact rfl;exact rfl)
  cases flex with
  | true =>
   refine Yu rfl rfl ?_
   repeat (with_reducible apply Yh)
   exact XB v ⟨rfl,rfl,trivial⟩ ⟨rfl,hsq⟩
  | false =>
   refine Yp rfl rfl ?_
   repeat first|(with_reducible first|apply Ya|apply Yc)|((with_reducible apply ws);exact rfl;exact rfl)
   refine XB (.slice none 0 0) ⟨rfl,rfl,trivial⟩ ⟨rfl,?_⟩
   simp only [Bool.false_eq_true,if_false,List.map_nil,Sq,Rep]
   exact ⟨none,0,rfl,by simp,.inl trivial⟩
 rintro v' w5 ⟨hw5,hsv⟩
 obtain rfl:=hw5.symm
 obtain ⟨us,hus⟩ : ∃ us,us = (if flex then Xm fs t.u else []):=⟨_,rfl⟩
 have hgu' : g.u = us.map fun kv => (kv.1,Xe kv.2):=by
  rw [hto2,hus]
  cases flex <;> simp [Xj]
 rw [← hus] at hsv
 obtain ⟨ka,kc,rfl,_⟩:=hsv.shape
 simp only [List.length_map] at *
 have hgul : g.u.length = us.length:=by rw [hgu'];simp
 repeat first|(with_reducible first|apply Yd|apply Ya)|((with_reducible apply ws);exact rfl;exact rfl)
 refine Yf rfl to_tags rfl (hbG _ hw24) rfl ?_
 repeat first|(with_reducible first|apply Yc|apply Yb)|((with_reducible apply ws);exact rfl;exact rfl)
 refine Yu rfl (by rw [hgul];simp) ?_
 repeat first|(with_reducible first|apply Yd|apply Ya|apply Yc|apply Yb|apply Yr|apply Yh)|((with_reducible apply ws);exact rfl;exact rfl)
 refine Xu (α:=Nat) (fun i => [(92,.int .i64 (i : Int)),(91,.int .i64 (us.length : Int)),(90,.slice ka us.length kc),(9,.pointer (some ⟨w1.heap.size,0,none⟩))]) (fun i w' => i ≤ us.length ∧ Below w4.heap.size w4 w') (fun i => us.length - i) 0 ⟨rfl,rfl,rfl,rfl,trivial⟩ ⟨Nat.zero_le _,Below.refl _ _⟩ ?_
 have husl : us.length ≤ 100000:=by
  rw [hus]
  cases flex with
  | true =>
   simp only [if_true,Xm]
   have h1:=VB (YN fs) (t.u.take Vf) []
   simp only [List.length_take,List.length_nil,Vf] at h1
   have h2 : ((t.u.take Vf).foldl (fun out kv => if kv.1 < YN fs then out else Xg kv.1 kv.2 out) []).length ≤ 32767:=by
    refine Nat.le_trans h1 ?_
    omega
   simp only [Vf] at h2 ⊢
   omega
  | false => simp
 rintro i w6 ⟨hi,hw6⟩
 have hs46:=hw6.size
 have hw06 : Below w.heap.size w w6:=hw04.trans (hw6.mono (by omega))
 have hw26 : Below w2.heap.size w2 w6:=hw24.trans (hw6.mono (by omega))
 repeat first|(with_reducible first|apply Yd|apply Ya|apply Yc|apply Yb)|((with_reducible apply ws);exact rfl;exact rfl)
 by_cases hlt : i < us.length
 ·refine Yp rfl (by simpa using hlt) ?_
  obtain ⟨b,off,c',cs,hv,hbB,hcs,hcl,hr⟩:=(hsv.below hw6 (Nat.le_refl _)).get (sz:=2) (i:=i) (by intro d hd;obtain ⟨x,_,rfl⟩:=List.mem_map.1 hd;exact VL x) (by simpa using hlt)
  simp only [Value.slice.injEq,List.length_map] at hv
  obtain ⟨rfl,_,rfl⟩:=hv
  simp only [List.getElem_map] at hr
  obtain ⟨hone,_⟩:=tag_one hr
  obtain ⟨qv,rfl,hqv⟩:=VO hr
  obtain ⟨qa,qc,rfl,_⟩:=hqv.shape
  repeat first|(with_reducible first|apply Yd|apply Ya|apply Yb|apply Yr|apply Yh)|((with_reducible apply ws);exact rfl;exact rfl)
  refine Ys rfl rfl es_tags rfl hlt ?_
  refine Xv (cs:=[.int .u32 (us[i].1 : Nat),.slice qa (us[i].2.map YF).length qc]) rfl Go.Proofs.YtlmnaffhadeolaaGreatDoor.ta_tag rfl (fun j v e => hcs.cell e) ?_
  refine YJ zv_tag rfl rfl (fun w7 hb7 hg7 hs7 => ?_)
  repeat ((with_reducible apply ws);exact rfl;exact rfl)
  refine Yn (vs:=[.int .u32 (us[i].1 : Nat),.slice qa (us[i].2.map YF).length qc]) rfl rfl rfl Go.Proofs.YtlmnaffhadeolaaGreatDoor.tz_tag hone hb7 rfl (fun w8 hb8 hg8 hs8 => ?_)
  have hw68 : Below w6.heap.size w6 w8:=(Yg hg7 (Nat.le_refl _) (by simp)).trans (Yg hg8 (by omega) (by intro k hk;simp at hk;omega))
  have hw08 : Below w.heap.size w w8:=hw06.trans (hw68.mono (by omega))
  have hw28 : Below w2.heap.size w2 w8:=hw26.trans (hw68.mono (by omega))
  have hw48 : Below w4.heap.size w4 w8:=hw6.trans (hw68.mono (by omega))
  have hgi : i < g.u.length:=by omega
  obtain ⟨b2,off2,c2,ycs,hv2,hb2B,hycs,hyl,hyr⟩:=(hgu.below (hw08.mono hB) (Nat.le_refl _)).get (sz:=2) (i:=i) (by intro d hd;obtain ⟨x,_,rfl⟩:=List.mem_map.1 hd;exact VL x) (by simpa using hgi)
  simp only [Value.slice.injEq,List.length_map] at hv2
  obtain ⟨rfl,_,rfl⟩:=hv2
  simp only [List.getElem_map] at hyr
  have hgue : g.u[i] = (us[i].1,Xe us[i].2):=by simp only [hgu',List.getElem_map]
  rw [hgue] at hyr
  obtain ⟨yv,rfl,hyv⟩:=VO hyr
  obtain ⟨ya,yc,rfl,_⟩:=hyv.shape
  simp only [List.length_map] at *
  repeat (with_reducible first|apply Yd|apply Yc|apply Yb)
  refine XJ [(0,.pointer (some ⟨w1.heap.size,0 + 4,none⟩)),(1,.slice (some ⟨b2,off2,none⟩) g.u.length guc),(2,.int .i64 (i : Int)),(3,.pointer (some ⟨b2,off2 + i * 2,none⟩)),(4,.pointer (some ⟨b2,off2 + i * 2 + 0,none⟩)),(5,.int .u32 (us[i].1 : Nat)),(6,.pointer (some ⟨w6.heap.size,0 + 0,none⟩)),(7,.int .u32 (us[i].1 : Nat)),(8,.bool false),(9,.bool false),
    (10,.pointer (some ⟨w1.heap.size,0 + 4,none⟩)),(11,.slice (some ⟨b2,off2,none⟩) g.u.length guc),(12,.int .i64 (i : Int)),(13,.pointer (some ⟨b2,off2 + i * 2,none⟩)),(14,.pointer (some ⟨b2,off2 + i * 2 + 1,none⟩)),(15,.slice ya (Xe us[i].2).length yc),(16,.pointer (some ⟨w6.heap.size,0 + 1,none⟩)),(17,.slice qa us[i].2.length qc)] [21,20,19,18]
   (fun vals w' => Below w8.heap.size w8 w' ∧ match vals with
    | [] => True
    | [v] => Sq w4.heap.size w' v ((Xe us[i].2).map YF)
    | [v,_] => v = .bool true
    | v :: _ => v = .bool false)
   mixed rfl rfl rfl rfl rfl (by show ([0,1,2,3,4,5,6,7,8,9,10,11,12,13,14,15,16,17] : List Nat).Nodup;decide) rfl rfl (by decide) rfl rfl rfl rfl ⟨(Below.refl _ w8).drew,trivial⟩ ?_ ⟨?_,?_,?_,?_,trivial⟩ ?_
  ·intro p hp vals w' hC a k
   have hc2 : Below w2.heap.size w2 w':=hw28.trans (hC.1.mono (by omega))
   have hyc : YE w' b2 (off2 + i * 2) [.int .u32 (us[i].1 : Nat),.slice ya (Xe us[i].2).length yc]:=hycs.of_block (hC.1.block b2 (by have:=hycs.lt;omega))
   have hbu:=hb8.below hC.1 (by omega)
   simp only [List.mem_cons,List.not_mem_nil,or_false] at hp
   rcases hp with rfl | rfl | rfl | rfl | rfl | rfl | rfl | rfl | rfl | rfl | rfl | rfl | rfl | rfl | rfl | rfl | rfl | rfl
   ·exact gv rfl rfl (Yi k rfl fo_tree4)
   ·exact gv rfl rfl (Yy k rfl to_tags ((hbG _ hc2).cell0 (i:=4) rfl))
   ·exact gv rfl rfl (Yl k rfl)
   ·exact gv rfl rfl (Yx k rfl rfl es_tags hgi)
   ·exact gv rfl rfl (Yi k rfl fo_tag0)
   ·exact gv rfl rfl (Yy k rfl to_u32 (hyc.cell (i:=0) rfl))
   ·exact gv rfl rfl (Yi k rfl fo_tag0)
   ·exact gv rfl rfl (Yy k rfl to_u32 (hbu.cell0 (i:=0) rfl))
   ·exact gv rfl rfl ((rn_neq k rfl rfl).trans (by simp))
   ·exact gv rfl rfl (Yl k rfl)
   ·exact YO rfl rfl rfl k rfl rfl (Yi k rfl fo_tree4)
   ·exact YO rfl rfl rfl k rfl rfl (Yy k rfl to_tags ((hbG _ hc2).cell0 (i:=4) rfl))
   ·exact YO rfl rfl rfl k rfl rfl (Yl k rfl)
   ·exact YO rfl rfl rfl k rfl rfl (Yx k rfl rfl es_tags hgi)
   ·exact YO rfl rfl rfl k rfl rfl (Yi k rfl fo_tag1)
   ·exact YO rfl rfl rfl k rfl rfl (Yy k rfl to_bytes (hyc.cell (i:=1) rfl))
   ·exact YO rfl rfl rfl k rfl rfl (Yi k rfl fo_tag1)
   ·exact YO rfl rfl rfl k rfl rfl (Yy k rfl to_bytes (hbu.cell0 (i:=1) rfl))
  ·rintro vals w' hvl ⟨hb',hC⟩ a k
   match vals,hvl with
   | [v20,v19,v18],_ =>
    simp only [] at hC
    subst hC
    exact ⟨_,rfl,Yk0 (b:=false) (v:=.bool false) k rfl rfl ⟨hb',rfl⟩⟩
  ·rintro vals w' hvl ⟨hb',hC⟩ a k
   match vals,hvl with
   | [v19,v18],_ =>
    simp only [] at hC
    subst hC
    exact ⟨_,rfl,Jk k rfl ⟨hb',rfl⟩⟩
  ·rintro vals w' hvl ⟨hb',hC⟩ a k
   match vals,hvl with
   | [v18],_ =>
    have hyb:=(hyv.below (hb'.mono (show B ≤ w8.heap.size by omega)) (Nat.le_refl _)).bytes
    have hlw : (Xe us[i].2).length ≤ lim:=by simp only [Xe,List.length_take,lim,Vf];omega
    refine ⟨_,rfl,Yz k rfl (by kernel_rfl) ((Ym0 _ _ _ _ w' hyb hC.bytes hlw hlw).mono ?_)⟩
    rintro e w'' ⟨v,rfl,hb'',rfl⟩
    exact ⟨_,rfl,hb'.trans (hb''.mono hb'.size),by simp⟩
  ·rintro vals w' hvl ⟨hb',hC⟩ a k
   match vals,hvl with
   | [],_ =>
    have hsb:=hqv.below ((hw68.mono (show w4.heap.size ≤ w6.heap.size by omega)).trans (hb'.mono (by omega))) (Nat.le_refl _)
    have:=Yc6 (.slice qa us[i].2.length qc) (us[i].2.map YF) w4.heap.size w' hsb
    refine ⟨_,rfl,Yz k rfl (by kernel_rfl) (this.mono ?_)⟩
    rintro e w'' ⟨v,rfl,hb'',rfl,hsq⟩
    exact ⟨_,rfl,hb',by rw [← List.map_take] at hsq;exact hsq⟩
  ·rintro vals w' hvl ⟨hb',hC⟩
   match vals,hvl with
   | [v21,v20,v19,v18],_ =>
    simp only [] at hC
    subst hC
    refine Yb ?_
    refine Yu rfl rfl ?_
    repeat (with_reducible first|apply Ya|apply Yb|apply Yh|apply XS)
    refine Xn rfl rfl rfl (r:=((i + 1 : Nat) : Int)) (by rw [IntKind.wrap_i64];omega) ?_
    repeat first|(with_reducible apply Yc)|((with_reducible apply ws);exact rfl;exact rfl)
    exact YD (i + 1) ⟨rfl,rfl,rfl,rfl,trivial⟩ ⟨by omega,hw48.trans (hb'.mono (by omega))⟩ (by omega)
 ·refine Yu rfl (by simpa using hlt) ?_
  repeat first|(with_reducible first|apply Yd|apply Ya|apply Yc|apply Yb|apply Ym|apply Xk|apply Yw|apply YB|apply Yq)|((with_reducible apply ws);exact rfl;exact rfl)
  exact Yk rfl rfl ⟨_,rfl,hw06,rfl⟩
mutual
theorem toF_all (ver : Int) (flex : Bool) : ∀ f : Fld,f.okb = true → tabT f = true → ToFOK ver flex f
 | .mk kind fr upto nul tag df of sub,h,ht => by
  have hk:=h
  simp only [Fld.okb,Bool.and_eq_true,decide_eq_true_eq] at hk
  have hts : tabTs sub = true:=tabT_sub ht
  have hsub : ToOK ver flex sub:=told_part ver flex sub (by unfold JB;rw [hk.2,hk.1.2];rfl) hts (toFs_all ver flex sub hk.2 hts)
  have hof : of ≠ 11:=hk.1.1.2
  exact told_walk ver flex _ hof hsub (fun _ => told_walk ver flex (oneF (.mk kind fr upto nul tag df of sub)) hof hsub (fun e => absurd e hof))
theorem toFs_all (ver : Int) (flex : Bool) : ∀ fs : List Fld,Fld.oksb fs = true → tabTs fs = true → ∀ f ∈ fs,ToFOK ver flex f
 | [],_,_,f,hf => by cases hf
 | g :: fs,h,ht,f,hf => by
  simp only [Fld.oksb,Bool.and_eq_true] at h
  simp only [tabTs,Bool.and_eq_true] at ht
  rcases List.mem_cons.1 hf with e | hf
  ·rw [e];exact toF_all ver flex g h.1 ht.1
  ·exact toFs_all ver flex fs h.2 ht.2 f hf
end
theorem to_ok (ver : Int) (flex : Bool) (fs : List Fld) (h : JB fs = true) (ht : tabTs fs = true) : ToOK ver flex fs :=
 told_part ver flex fs h ht (toFs_all ver flex fs (by unfold JB at h;rw [Bool.and_eq_true] at h;exact h.1) ht)
end
end

namespace Tlk
open Go Go.RowKit
theorem tk_cons {P : Program} {K : Tk} {tg : Bool} (h : TkOk P K tg) {f : Nat} {fs : List Fld} (hf : TlP P f tg fs) : TkOk P ⟨K.tT,K.bool,K.text,K.octs,K.each,K.sorted,K.clos,K.gT,(f,fs) :: K.tells⟩ tg:=by
 refine ⟨h.ty,h.bool,h.text,h.octs,fun g gs hg => ?_⟩
 simp only [lkM] at hg
 cases hb : Nat.beq f g with
 | true =>
  rw [hb] at hg
  simp only [cond_true,Option.some.injEq] at hg
  rw [← Ye hb,← hg];exact hf
 | false => rw [hb] at hg;exact h.tells g gs hg
theorem tg_cons {P : Program} {K : Tk} (h : TgOk P K) (f : Nat) (fs : List Fld) : TgOk P ⟨K.tT,K.bool,K.text,K.octs,K.each,K.sorted,K.clos,K.gT,(f,fs) :: K.tells⟩:=⟨h.each,h.sorted,h.clos⟩
end Tlk

section
open Go Go.RowKit
section
set_option maxRecDepth 100000
theorem fn_flexM (m : Msg) (ver : Int) (fv : Value) (w : World) : Fn 12 [.agg #[fv,.int .i64 m.flex],.int .i64 ver] w fun v _ => v = .bool (m.flexible ver):=by
 refine enter Tryz.func12 rfl Tryz.ntmps12 rfl ?_
 refine Yd (Ya (XF (cs:=[fv,.int .i64 m.flex]) rfl rfl rfl (fun w1 hb1 hg1 hs1 => ?_)))
 have hw1 : Below w.heap.size w w1:=Yg hg1 (Nat.le_refl _) (by simp)
 repeat first|(with_reducible first|apply Yd|apply Ya|apply Yc|apply Yb)|((with_reducible apply ws);exact rfl;exact rfl)
 refine Yf (i:=1) rfl to_int rfl hb1 rfl ?_
 repeat ((with_reducible apply ws);exact rfl;exact rfl)
 by_cases h0 : (0 : Int) ≤ m.flex
 ·rw [show decide ((0 : Int) ≤ m.flex) = true from decide_eq_true h0]
  repeat first|((with_reducible apply ws);exact rfl;exact rfl)|((with_reducible apply YU);exact rfl;exact rfl;exact rfl)
  refine Yf (i:=1) rfl to_int rfl hb1 rfl ?_
  repeat first|(with_reducible first|apply Yc|apply Yb|apply Ym)|((with_reducible apply ws);exact rfl;exact rfl)|((with_reducible apply YU);exact rfl;exact rfl;exact rfl)
  refine Yk rfl rfl ⟨_,rfl,hw1,?_⟩
  simp [Msg.flexible,h0]
 ·rw [show decide ((0 : Int) ≤ m.flex) = false from decide_eq_false h0]
  repeat first|(with_reducible first|apply Yc|apply Yb|apply Ym)|((with_reducible apply ws);exact rfl;exact rfl)|((with_reducible apply US);exact rfl;exact rfl;exact rfl;exact rfl)
  refine Yk rfl rfl ⟨_,rfl,hw1,?_⟩
  simp [Msg.flexible,h0]
end
end

section
open Go Go.RowKit
section
variable {P : Program} {K : Kr} {g : Nat} {ev : Value} {w : World}
end
end

section
open Go Go.RowKit
section
variable {P : Program} {K : Kr} {g : Nat} {ev : Value} {w : World}
end
end

section
open Go Go.RowKit
def dropSeq : Nat → Code → Code
 | 0,c => c
 | n + 1,c => match c with
  | .seq _ b => dropSeq n b
  | c => c
def runN (K : Kr) (P : Program) (N rs : Nat) : Nat → RS → Code → Option RS
 | 0,S,_ => some S
 | n + 1,S,c => match c with
  | .seq a b => (match runR K P N rs 4000 0 [] [] S a with
   | some (S1,[],false) => runN K P N rs n S1 b
   | _ => none)
  | _ => none
section
variable {P : Program} {K : Kr} {N g rb sb : Nat} {ev : Value} {w : World}
theorem Yq3 {rs : Nat} : ∀ (n : Nat) {S S' : RS} {c : Code} {s : List UInt8},runN K P N rs n S c = some S' → XO S s → XO S' s
 | 0,S,S',c,s,h,hf => by simp only [runN,Option.some.injEq] at h;subst h;exact hf
 | n + 1,S,S',c,s,h,hf => by
  simp only [runN] at h
  split at h
  ·split at h
   ·rename_i S1 h1
    exact Yq3 n h (Ys4 _ _ _ _ _ _ _ _ _ h1 _ hf)
   ·cases h
  ·cases h
theorem runN_ok (hK : KrOk P K g ev) {rs : Nat} : ∀ (n : Nat) (S : RS) (c : Code) (S' : RS),runN K P N rs n S c = some S' →
  ∀ (Ad : List (Nat × Nat)) (R : List Value) (I : List Int) (it : Wi) (sst st0 st : Option (List UInt8)) (a : Act) (w : World) (Q : Exit → Act → World → Prop),RAt N g rb sb ev 0 [] [] S Ad R I it sst st0 st a w →
   (∀ R' it' st0' st' a' w',Fr rb it it' R R' w w' → RAt N g rb sb ev 0 [] [] S' Ad R' I it' sst st0' st' a' w' → (dropSeq n c).wp P Q a' w') →
   (∀ a' w',Bad N g rb ev rs it w a' w' → (∀ s,sst = some s → XO S' s) → Q .ret a' w') → c.wp P Q a w
 | 0,S,c,S',h => by
  intro Ad R I it sst st0 st a w Q H hq _
  simp only [runN,Option.some.injEq] at h
  subst h
  exact hq R it st0 st a w (Fr.refl _ _ _ _) H
 | n + 1,S,c,S',h => by
  intro Ad R I it sst st0 st a w Q H hq hbad
  simp only [runN] at h
  split at h
  ·rename_i x y
   split at h
   ·rename_i S1 h1
    refine wp_seq (runR_ok hK _ _ _ _ _ _ _ _ _ h1 _ _ _ _ _ _ _ _ _ _ H ?_ ?_)
    ·intro R1 it1 st1 st1' a1 w1 f1 H1 _
     simp only [Bool.false_eq_true,if_false]
     show Code.wp P _ _ _ _
     refine runN_ok hK n S1 y S' h _ _ _ _ _ _ _ _ _ _ H1 (fun R' it' st0' st' a' w' f2 H2 => hq R' it' st0' st' a' w' (f1.trans f2) H2) (fun a' w' hB hF => hbad a' w' ?_ hF)
     obtain ⟨k1,k2,k3,k4,k5⟩:=hB
     exact ⟨k1,k2,f1.chg.trans (k3.wide (fun j hj => by rw [f1.b,f1.lo] at hj;exact hj)),k4,k5⟩
    ·intro a' w' hB hF
     exact hbad a' w' hB (fun s hs => Yq3 n h (hF s hs))
   ·cases h
  ·cases h
theorem pieceN (hK : KrOk P K g ev) {rs : Nat} (n : Nat) {S : RS} {c : Code} {chk : RS → Bool} (h : (match runN K P N rs n S c with | some S' => chk S' | none => false) = true)
  {Ad : List (Nat × Nat)} {R : List Value} {I : List Int} {it : Wi} {sst st0 st : Option (List UInt8)} {a : Act} {w : World} {Q : Exit → Act → World → Prop} (H : RAt N g rb sb ev 0 [] [] S Ad R I it sst st0 st a w)
  (hq : ∀ S' R' it' st0' st' a' w',chk S' = true → Fr rb it it' R R' w w' → RAt N g rb sb ev 0 [] [] S' Ad R' I it' sst st0' st' a' w' → (dropSeq n c).wp P Q a' w')
  (hbad : ∀ S' a' w',chk S' = true → Bad N g rb ev rs it w a' w' → (∀ s,sst = some s → XO S' s) → Q .ret a' w') : c.wp P Q a w:=by
 split at h
 ·rename_i S' hr
  exact runN_ok hK n S c S' hr _ _ _ _ _ _ _ _ _ _ H (fun R' it' st0' st' a' w' f H' => hq S' R' it' st0' st' a' w' h f H') (fun a' w' hB hF => hbad S' a' w' h hB hF)
 ·cases h
theorem start_ok {A : WA} {cs : List Value} {N rb sb b lo : Nat} {e : TypeId} {s : List UInt8} {a : Act} (kn : KnW N rb a A [(b,0)] [] [0]) (hb : Box w b cs e) (hr : Rdr w rb sb (some s))
  (l1 : b < lo) (l2 : rb < lo) (l3 : sb < lo) (l4 : lo ≤ w.heap.size) (n1 : rb ≠ sb) (n2 : b ≠ rb) (n3 : b ≠ sb) (hg : w.cell? ⟨g,0,none⟩ = some ev) (g1 : g ≠ rb) (g2 : g < lo) (g3 : g ≠ b) :
  RAt N g rb sb ev 0 [] [] ⟨A,[],.no,cs.map some,shDs (YI cs),true,cs,[]⟩ [(b,0)] [] [0] ⟨b,lo,[],[],cs,e,YI cs⟩ (some s) (some s) (some s) a w:=by
 refine ⟨kn,⟨rfl,(fun n h v hh => by simp at hh)⟩,(fun h v hh => by simp at hh),rfl,⟨rfl,rfl⟩,(fun q rest hq => by cases hq),by simpa using hb,Vb _,by simp,⟨rfl,?_⟩,?_,hr,rfl,fun _ => ⟨rfl,rfl⟩,⟨rfl,by simp [rdAs]⟩,⟨l1,l2,l3,l4⟩,⟨n1,n2,n3⟩,hg,g1,g2,g3⟩
 ·intro d hd
  simp only [YI,List.mem_map] at hd
  obtain ⟨u,_,rfl⟩:=hd
  rfl
 ·intro j u hj
  simp only [List.getElem?_map,Option.map_eq_some_iff] at hj
  obtain ⟨u',hu,he⟩:=hj
  cases he
  exact hu
end
theorem kn_of {N rb : Nat} {a : Act} {A : WA} {Ad : List (Nat × Nat)} {R : List Value} {I : List Int} (h : KnW N rb a A Ad R I) {L : Sl} (hl : ∀ t v,lk L t = some v → ∃ s,lkW A t = some s ∧ VT rb Ad R I s = some v) : Kn N a L :=
 ⟨h.size,h.defers,fun t v e => by
  obtain ⟨s,h1,h2⟩:=hl t v e
  have h3:=h.at_ t s h1
  rw [h2] at h3
  exact (Option.some.inj h3).symm⟩
theorem knW_of {N rb : Nat} {a : Act} {L : Sl} (k : Kn N a L) {A : WA} {Ad : List (Nat × Nat)} {R : List Value} {I : List Int} (hl : ∀ x ∈ A,∃ v,lk L x.1 = some v ∧ VT rb Ad R I x.2 = some v) : KnW N rb a A Ad R I :=
 ⟨k.size,k.defers,fun t s e => by
  obtain ⟨v,h1,h2⟩:=hl _ (lkW_mem e)
  rw [h2,← k.at_ t v h1]⟩
end

namespace Txr
open Go Go.RowKit
def sTxnMetadataValueTopic : List Fld:=[.mk 8 0 (-1) (-1) (-1) 0 0 [],.mk 11 0 (-1) (-1) (-1) 0 3 []]
def F7 : List Fld:=[.mk 4 0 (-1) (-1) (-1) 0 0 [],.mk 2 0 (-1) (-1) (-1) 0 0 [],.mk 3 0 (-1) (-1) (-1) 0 0 [],.mk 1 0 (-1) (-1) (-1) 0 0 [],.mk 11 0 (-1) (-1) (-1) 0 10 sTxnMetadataValueTopic,.mk 4 0 (-1) (-1) (-1) 0 0 [],.mk 4 0 (-1) (-1) (-1) 0 0 []]
def g0 : Fld:=.mk 4 0 (-1) (-1) 0 (-1) 0 []
def g1 : Fld:=.mk 4 0 (-1) (-1) 1 (-1) 0 []
def g2 : Fld:=.mk 2 0 (-1) (-1) 2 0 0 []
def g3 : Fld:=.mk 2 0 (-1) (-1) 3 (-1) 0 []
def m : Msg:=⟨[.mk 4 0 (-1) (-1) (-1) 0 0 [],.mk 2 0 (-1) (-1) (-1) 0 0 [],.mk 3 0 (-1) (-1) (-1) 0 0 [],.mk 1 0 (-1) (-1) (-1) 0 0 [],.mk 11 0 (-1) (-1) (-1) 0 10 sTxnMetadataValueTopic,.mk 4 0 (-1) (-1) (-1) 0 0 [],.mk 4 0 (-1) (-1) (-1) 0 0 [],.mk 4 0 (-1) (-1) 0 (-1) 0 [],.mk 4 0 (-1) (-1) 1 (-1) 0 [],.mk 2 0 (-1) (-1) 2 0 0 [],.mk 2 0 (-1) (-1) 3 (-1) 0 []],1⟩
theorem m_eq : m.fields = F7 ++ [g0,g1,g2,g3]:=rfl
theorem known_m : YN m.fields = 4:=by decide
theorem wFs_m (ver : Int) (flex : Bool) (t : Tree) : wFs ver flex m.fields 0 t = wFs ver flex F7 0 t:=by
 simp [m,F7,wFs,Fld.tag]
structure TxP where
 n0 : Int
 n1 : Int
 n2 : Int
 n3 : Int
 u : List (Nat × List UInt8)
def tx0 : TxP:=⟨-1,-1,0,-1,[]⟩
def Xw (p : TxP) (kv : Nat × List UInt8) : TxP :=
 if kv.1 = 0 then { p with n0:=IntKind.i64.wrap (Uz kv.2) } else if kv.1 = 1 then { p with n1:=IntKind.i64.wrap (Uz kv.2) } else if kv.1 = 2 then { p with n2:=IntKind.i16.wrap (Uz kv.2) } else if kv.1 = 3 then { p with n3:=IntKind.i16.wrap (Uz kv.2) } else { p with u:=Vg kv.1 kv.2 p.u }
def TxOk (kv : Nat × List UInt8) : Prop:=kv.1 < 4294967296 ∧ kv.2.length ≤ Vf ∧ (kv.1 = 0 ∨ kv.1 = 1 → kv.2.length = 8) ∧ (kv.1 = 2 ∨ kv.1 = 3 → kv.2.length = 2)
def txD (p : TxP) : List D:=[.lit (.int .i64 p.n0),.lit (.int .i64 p.n1),.lit (.int .i16 p.n2),.lit (.int .i16 p.n3),XW p.u]
theorem Yd7 (k : IntKind) (n b : Nat) (hk : k.bits = b) (h : 8 * n = b) (z : Int) : k.wrap (Uz (be n z)) = k.wrap z:=by
 have h1:=Vi k n b hk h z []
 have h2 : Ya9 k n (be n z ++ []) = some (k.wrap (Uz (be n z)),[]):=by
  simp only [Ya9]
  rw [JM _ _ _ (be_size n z)]
  rfl
 rw [h2] at h1
 simpa using h1
def one (g : Fld) (k : Nat) (x : Tree) : List (Nat × List UInt8):=if usual g x then [] else [(k,be (width g.kind) x.n)]
theorem wTs_m (ver : Int) (flex : Bool) (t : Tree) : (List.range (YN m.fields)).flatMap (fun k => wTs ver flex m.fields 0 k t) = one g0 0 (att t 7) ++ (one g1 1 (att t 8) ++ (one g2 2 (att t 9) ++ one g3 3 (att t 10))):=by
 rw [known_m]
 have e : List.range 4 = [0,1,2,3]:=rfl
 rw [e]
 simp only [List.flatMap_cons,List.flatMap_nil,List.append_nil]
 have hw : ∀ (k d tg : Int) (x : Tree),k = 4 ∨ k = 2 → XA ver flex (.mk k 0 (-1) (-1) tg d 0 []) x = be (width k) x.n:=by
  intro k d tg x hk
  rw [wField_eq]
  rcases hk with rfl | rfl <;> simp [Fld.kind,Fld.nul,Vc]
 have h0 : wTs ver flex m.fields 0 0 t = one g0 0 (att t 7):=by
  simp only [m,wTs,Fld.tag]
  cases hu : usual (.mk 4 0 (-1) (-1) 0 (-1) 0 []) (att t 7) <;> simp [one,g0,hu,hw 4 (-1) 0 _ (.inl rfl),Fld.kind]
 have h1 : wTs ver flex m.fields 0 1 t = one g1 1 (att t 8):=by
  simp only [m,wTs,Fld.tag]
  cases hu : usual (.mk 4 0 (-1) (-1) 1 (-1) 0 []) (att t 8) <;> simp [one,g1,hu,hw 4 (-1) 1 _ (.inl rfl),Fld.kind]
 have h2 : wTs ver flex m.fields 0 2 t = one g2 2 (att t 9):=by
  simp only [m,wTs,Fld.tag]
  cases hu : usual (.mk 2 0 (-1) (-1) 2 0 0 []) (att t 9) <;> simp [one,g2,hu,hw 2 0 2 _ (.inr rfl),Fld.kind]
 have h3 : wTs ver flex m.fields 0 3 t = one g3 3 (att t 10):=by
  simp only [m,wTs,Fld.tag]
  cases hu : usual (.mk 2 0 (-1) (-1) 3 (-1) 0 []) (att t 10) <;> simp [one,g3,hu,hw 2 (-1) 3 _ (.inr rfl),Fld.kind]
 rw [h0,h1,h2,h3]
theorem Yq8 (fs : List Fld) (u : List (Nat × List UInt8)) : ∀ kv ∈ Xm fs u,YN fs ≤ kv.1:=by
 have key : ∀ (l out : List (Nat × List UInt8)),(∀ kv ∈ out,YN fs ≤ kv.1) → ∀ kv ∈ l.foldl (fun out kv => if kv.1 < YN fs then out else Xg kv.1 kv.2 out) out,YN fs ≤ kv.1:=by
  intro l
  induction l with
  | nil => intro out h;simpa using h
  | cons x l ih =>
   intro out h
   simp only [List.foldl_cons]
   refine ih _ ?_
   split
   ·exact h
   ·rename_i hx
    have put : ∀ (o : List (Nat × List UInt8)),(∀ kv ∈ o,YN fs ≤ kv.1) → ∀ kv ∈ Xg x.1 x.2 o,YN fs ≤ kv.1:=by
     intro o
     induction o with
     | nil =>
      intro _ kv hkv
      simp only [Xg,List.mem_cons,List.not_mem_nil,or_false] at hkv
      subst hkv
      exact Nat.le_of_not_lt hx
     | cons y o iho =>
      intro ho kv hkv
      simp only [Xg] at hkv
      split at hkv
      ·rcases List.mem_cons.1 hkv with rfl | h1
       ·exact ho _ (by simp)
       ·exact iho (fun z hz => ho z (by simp [hz])) kv h1
      ·split at hkv
       ·exact ho kv hkv
       ·rcases List.mem_cons.1 hkv with rfl | h1
        ·exact Nat.le_of_not_lt hx
        ·exact ho kv h1
    exact put out h
 exact key _ [] (by simp)
theorem fold_unknown : ∀ (l done : List (Nat × List UInt8)) (p : TxP),p.u = done → (∀ kv ∈ l,4 ≤ kv.1) → Va (done ++ l) → l.foldl Xw p = { p with u:=done ++ l }
 | [],done,p,hp,_,_ => by subst hp;simp
 | kv :: l,done,p,hp,h4,hr => by
  have hk:=h4 kv (by simp)
  have hs : Xw p kv = { p with u:=done ++ [kv] }:=by
   unfold Xw
   rw [if_neg (by omega),if_neg (by omega),if_neg (by omega),if_neg (by omega)]
   have hlt : ∀ x ∈ done,x.1 < kv.1:=by
    intro x hx
    have h1 : (done ++ kv :: l).Pairwise (fun a b => a.1 < b.1):=by simpa [Va,List.pairwise_map] using hr
    exact (List.pairwise_append.1 h1).2.2 x hx kv (by simp)
   have:=Yg4 kv.1 kv.2 done hlt
   rw [hp,this]
  simp only [List.foldl_cons]
  rw [hs,fold_unknown l (done ++ [kv]) _ rfl (fun x hx => h4 x (by simp [hx])) (by simpa [List.append_assoc] using hr)]
  simp [List.append_assoc]
def tgN (k : IntKind) (g : Fld) (x : Tree) : Int:=if usual g x then g.df else k.wrap x.n
theorem fold_all (ver : Int) (flex : Bool) (t : Tree) : (YS ver flex m.fields t).foldl Xw tx0 = ⟨tgN .i64 g0 (att t 7),tgN .i64 g1 (att t 8),tgN .i16 g2 (att t 9),tgN .i16 g3 (att t 10),Xj m.fields t.u⟩:=by
 unfold YS
 rw [wTs_m]
 have ho : (Xm m.fields t.u).map (fun kv => (kv.1,Xe kv.2)) = Xj m.fields t.u:=rfl
 rw [ho]
 simp only [List.foldl_append]
 have s0 : (one g0 0 (att t 7)).foldl Xw tx0 = { tx0 with n0:=tgN .i64 g0 (att t 7) }:=by
  unfold one tgN
  split
  ·rfl
  ·simp only [List.foldl_cons,List.foldl_nil,Xw,if_true]
   rw [show width g0.kind = 8 from rfl,Yd7 .i64 8 64 rfl rfl]
 rw [s0]
 have s1 : ∀ p : TxP,p.n1 = -1 → (one g1 1 (att t 8)).foldl Xw p = { p with n1:=tgN .i64 g1 (att t 8) }:=by
  intro p hp
  unfold one tgN
  split
  ·cases p;simp only at hp;subst hp;rfl
  ·simp only [List.foldl_cons,List.foldl_nil,Xw]
   rw [if_neg (by decide),if_pos trivial,show width g1.kind = 8 from rfl,Yd7 .i64 8 64 rfl rfl]
 rw [s1 _ rfl]
 have s2 : ∀ p : TxP,p.n2 = 0 → (one g2 2 (att t 9)).foldl Xw p = { p with n2:=tgN .i16 g2 (att t 9) }:=by
  intro p hp
  unfold one tgN
  split
  ·cases p;simp only at hp;subst hp;rfl
  ·simp only [List.foldl_cons,List.foldl_nil,Xw]
   rw [if_neg (by decide),if_neg (by decide),if_pos trivial,show width g2.kind = 2 from rfl,Yd7 .i16 2 16 rfl rfl]
 rw [s2 _ rfl]
 have s3 : ∀ p : TxP,p.n3 = -1 → (one g3 3 (att t 10)).foldl Xw p = { p with n3:=tgN .i16 g3 (att t 10) }:=by
  intro p hp
  unfold one tgN
  split
  ·cases p;simp only at hp;subst hp;rfl
  ·simp only [List.foldl_cons,List.foldl_nil,Xw]
   rw [if_neg (by decide),if_neg (by decide),if_neg (by decide),if_pos trivial,show width g3.kind = 2 from rfl,Yd7 .i16 2 16 rfl rfl]
 rw [s3 _ rfl]
 rw [fold_unknown (Xj m.fields t.u) [] _ rfl (fun kv hkv => by
  simp only [Xj,List.mem_map] at hkv
  obtain ⟨x,hx,rfl⟩:=hkv
  have:=Yq8 m.fields t.u x hx
  rw [known_m] at this
  exact this) (by simpa using Jh m.fields t.u)]
 rfl
theorem one_ok {g : Fld} {k : Nat} {x : Tree} (hk : k < 4) (hw : width g.kind = if k < 2 then 8 else 2) : ∀ kv ∈ one g k x,TxOk kv:=by
 intro kv hkv
 unfold one at hkv
 split at hkv
 ·cases hkv
 ·rw [List.mem_singleton] at hkv
  subst hkv
  have hM : Vf = 32767:=rfl
  refine ⟨by simp only [];omega,?_,fun h => ?_,fun h => ?_⟩
  ·simp only [be_size,hw];split <;> omega
  ·simp only [be_size,hw];simp only [] at h;rw [if_pos (by omega)]
  ·simp only [be_size,hw];simp only [] at h;rw [if_neg (by omega)]
theorem tags_ok (ver : Int) (flex : Bool) (t : Tree) (ht : t.ok) : ∀ kv ∈ YS ver flex m.fields t,TxOk kv:=by
 intro kv hkv
 unfold YS at hkv
 rw [wTs_m] at hkv
 simp only [List.mem_append] at hkv
 rcases hkv with (h | h | h | h) | h
 ·exact one_ok (by decide) rfl kv h
 ·exact one_ok (by decide) rfl kv h
 ·exact one_ok (by decide) rfl kv h
 ·exact one_ok (by decide) rfl kv h
 ·obtain ⟨x,hx,rfl⟩:=List.mem_map.1 h
  have h4:=Yq8 m.fields t.u x hx
  rw [known_m] at h4
  have hxu:=Yg2 m.fields t.u x hx
  refine ⟨by have:=ht.u x hxu;simp only [];omega,Ye2 _,fun h => ?_,fun h => ?_⟩ <;> · simp only [] at h;omega
theorem tags_len (ver : Int) (flex : Bool) (t : Tree) : (YS ver flex m.fields t).length < 4294967296:=by
 unfold YS
 rw [wTs_m]
 have h1 : ∀ (g : Fld) (k : Nat) (x : Tree),(one g k x).length ≤ 1:=fun g k x => by unfold one;split <;> simp
 have a0:=h1 g0 0 (att t 7)
 have a1:=h1 g1 1 (att t 8)
 have a2:=h1 g2 2 (att t 9)
 have a3:=h1 g3 3 (att t 10)
 have h2:=JR m.fields t.u
 have hM : Vf = 32767:=rfl
 simp only [List.length_append,List.length_map]
 omega
end Txr

namespace Txr
open Go Go.RowKit
set_option maxRecDepth 100000
def tbl : Tbl:=⟨[(65,0,0),(65,1,1),(65,2,2),(65,3,3),(65,4,4),(65,5,5),(65,6,6),(65,7,7),(65,8,8),(65,9,9),(65,10,10),(65,11,11),(65,12,12)],[]⟩
theorem tbl_ok : tbl.ok Tryz.prog = true:=by kernel_rfl
theorem ws {ops : Array Oper} {Q : Exit → Act → World → Prop} {N : Nat} {rest : List Oper} {L : Sl} {w : World} {d : Nat} {ty : TypeId} {pos : String} {aft : Array Edge} {o : Op} {v : Value}
  (hs : Ya5 tbl L o = some v) (hd : Nat.blt d N = true) (h : WL rest Tryz.prog ops Q N ((d,v) :: L) w) : WL (⟨some d,o,ty,pos,aft,none⟩ :: rest) Tryz.prog ops Q N L w:=JJ tbl tbl_ok hs hd h
theorem to_i16 : Xx Tryz.prog 57 = true:=by kernel_rfl
theorem to_i64 : Xx Tryz.prog 2 = true:=by kernel_rfl
theorem tz_rdr : (Tryz.prog.info? 154).map (·.size) = some 2:=by kernel_rfl
theorem tz_tags : (Tryz.prog.info? 63).map (·.size) = some 1:=by kernel_rfl
theorem rty : Rdk.kr.rty = 154:=by kernel_rfl
theorem Yr5 (w : World) : (zeroValue 154).run Tryz.prog w = .ok (.agg #[.slice none 0 0,.bool false]) w:=by have:=Rdk.kr_ty.zero w;rw [rty] at this;exact this
theorem Yq6 (a : Option Addr) (n c : Nat) : Tryz.prog.built 154 [(0,.slice a n c)] = some ([.slice a n c,.bool false] : List Value).toArray:=by have:=Rdk.kr_ty.built a n c;rw [rty] at this;exact this
theorem fn_setAt (w : World) (tb off sb lo key : Nat) (val m : Value) (u : List (Nat × List UInt8)) (e : TypeId) (s : List UInt8) (cs : List Value) (hb : Box w tb cs e) (hm : cs[off]? = some m) (ht : Rdk.Jw w sb lo m u) (hv : Jv w sb val s) (h1 : tb < lo) (h2 : sb < lo) (h3 : lo ≤ w.heap.size) (h4 : tb ≠ sb) :
  Calls Tryz.prog 117 #[.pointer (some ⟨tb,off,none⟩),.int .u32 key,val] w fun en w' => en = .returned (.tuple #[]) ∧ ∃ m',Box w' tb (cs.set off m') e ∧ Rdk.Jw w' sb lo m' (Vg key s u) ∧ Chg (fun j => j = tb ∨ m = .map (some j) ∨ w.heap.size ≤ j) w w' ∧ (m' = m ∨ ∃ r,m' = .map (some r) ∧ w.heap.size ≤ r):=by
 have hoff : off < cs.length:=(List.getElem?_eq_some_iff.1 hm).1
 refine enter Tryz.func117 rfl Tryz.ntmps117 rfl ?_
 rcases ht with ⟨rfl,rfl⟩ | ⟨r,rfl,hr,htm⟩
 ·refine Yd (Yd (Ya ?_))
  refine Rdk.wt rfl rfl ?_
  refine Rdk.wt rfl rfl ?_
  refine Rdk.wt rfl rfl ?_
  refine Yf rfl Rdk.to_map rfl hb hm ?_
  refine Rdk.Yc8 rfl (by kernel_rfl) rfl ?_
  refine Yc (Yb (Yp rfl rfl (Ya ?_)))
  refine Rdk.wt rfl rfl ?_
  refine Rdk.Yr3 rfl ?_
  have hal : Chg (fun _ => False) w (w.alloc (.map #[] 0)):=Vp w _ _
  have hnew:=Yr1 w sb
  have hb1:=hb.chg hal id
  have hs1 : (w.alloc (.map #[] 0)).heap.size = w.heap.size + 1:=by simp
  have hv1:=hv.chg hal id
  generalize w.alloc (.map #[] 0) = w1 at *
  refine Rdk.wt rfl rfl ?_
  refine Rdk.wt rfl rfl ?_
  refine YA rfl rfl Rdk.to_map rfl hb1 hm (fun w2 hb2 hg2 hs2 => ?_)
  have hc2:=Chg.grown hg2
  have hm2 : (cs.set off (.map (some w.heap.size)))[off]? = some (.map (some w.heap.size)):=by simp [hoff]
  obtain ⟨w3,hrun,hc3,_,ht3⟩:=Yf6 Rdk.um Rdk.uk (hnew.keep hc2 (fun e => by have : w.heap.size = tb:=e;omega) (fun e => h4 e.symm) (by omega)) (by omega) (by omega) key (hv1.chg hc2 (fun e => h4 e.symm))
  refine Yc (Yb (Ya ?_))
  refine Rdk.wt rfl rfl ?_
  refine Rdk.wt rfl rfl ?_
  refine Rdk.wt rfl rfl ?_
  refine Yf rfl Rdk.to_map rfl hb2 hm2 ?_
  refine Rdk.wt rfl rfl ?_
  refine Rdk.wt rfl rfl ?_
  refine Rdk.Yc2 rfl rfl rfl hrun ?_
  refine Yc (JH rfl ⟨rfl,.map (some w.heap.size),hb2.chg hc3 (by show tb ≠ w.heap.size;omega),.inr ⟨_,rfl,h3,ht3⟩,?_,.inr ⟨_,rfl,Nat.le_refl _⟩⟩)
  exact (hal.wide (fun _ h => h.elim)).trans ((hc2.wide (fun j hj => .inl hj)).trans (hc3.wide (fun j hj => .inr (.inr (by have : j = w.heap.size:=hj;omega)))))
 ·obtain ⟨w3,hrun,hc3,_,ht3⟩:=Yf6 Rdk.um Rdk.uk htm (by omega) (by omega) key hv
  refine Yd (Yd (Ya ?_))
  refine Rdk.wt rfl rfl ?_
  refine Rdk.wt rfl rfl ?_
  refine Rdk.wt rfl rfl ?_
  refine Yf rfl Rdk.to_map rfl hb hm ?_
  refine Rdk.Yc8 rfl (by kernel_rfl) rfl ?_
  refine Yc (Yb (Yu rfl rfl (Yh (Yb (Ya ?_)))))
  refine Rdk.wt rfl rfl ?_
  refine Rdk.wt rfl rfl ?_
  refine Rdk.wt rfl rfl ?_
  refine Yf rfl Rdk.to_map rfl hb hm ?_
  refine Rdk.wt rfl rfl ?_
  refine Rdk.wt rfl rfl ?_
  refine Rdk.Yc2 rfl rfl rfl hrun ?_
  refine Yc (JH rfl ⟨rfl,.map (some r),?_,.inr ⟨r,rfl,hr,ht3⟩,hc3.wide (fun j hj => .inr (.inl (by have : j = r:=hj;rw [this]))),.inl rfl⟩)
  have : cs.set off (.map (some r)) = cs:=by
   have h5:=(List.getElem?_eq_some_iff.1 hm).2
   rw [← h5];exact List.set_getElem_self hoff
  rw [this]
  exact hb.chg hc3 (by show tb ≠ r;omega)
def Qm (sb lo : Nat) (w : World) (m : Value) (q : Nat) : Prop:=Dk sb lo w q ∧ m ≠ .map (some q)
theorem Yn5 {S : Nat → Prop} {sb lo : Nat} {w w' : World} {m : Value} {ds : List D} {cs : List Value} (h : YG (Qm sb lo w m) w ds cs) (hc : Chg S w w') (hs : ∀ k,S k → (k < lo ∧ k ≠ sb) ∨ w.heap.size ≤ k) : YG (Qm sb lo w' m) w' ds cs :=
 h.up (fun r hr => ⟨⟨hr.1.1,Nat.lt_of_lt_of_le hr.1.2 hc.size⟩,hr.2⟩) (fun r hr => hc.block r hr.1.2 (fun e => by
  have h3:=hr.1.2
  rcases hs r e with ⟨h1,h2⟩ | h1
  ·rcases hr.1.1 with h | h
   ·exact h2 h
   ·omega
  ·omega))
theorem tagsAt_lt {sb lo : Nat} {w : World} {m : Value} {u : List (Nat × List UInt8)} {r : Nat} (h : Rdk.Jw w sb lo m u) (hm : m = .map (some r)) : lo ≤ r ∧ r < w.heap.size:=by
 rcases h with ⟨rfl,_⟩ | ⟨r',rfl,hr,⟨⟨es,clock,hb,_⟩,_⟩⟩
 ·cases hm
 ·cases hm
  exact ⟨hr,(Array.getElem?_eq_some_iff.1 hb).1⟩
theorem fo_tags : YK Tryz.prog 65 12 = some 12:=by kernel_rfl
def CV (v : Int) : List Value:=[.int .i16 v,.int .i64 0,.int .i16 0,.int .i32 0,.int .i8 0,.slice none 0 0,.int .i64 0,.int .i64 0,.int .i64 (-1),.int .i64 (-1),.int .i16 0,.int .i16 (-1),.map none]
theorem df_all (v : Int) : (defF Tryz.prog 63).bind (fun l => setAll l (CV v)) = some (CV v):=by kernel_rfl
theorem wFs_fit (ver : Int) (flex : Bool) (fs : List Fld) (h : Ya2 ver fs = true) (t : Tree) : wFs ver flex fs 0 (UU ver fs t) = wFs ver flex fs 0 t :=
 Yk9 ver flex fs 0 0 t _ (fun j hj hh => by
  simp only [Nat.zero_add]
  rw [JV ver fs t j hj]
  exact Yl5 ver flex fs h j hj hh _)
theorem tab7 (v : Int) : Ya2 v F7 = true:=by simp [F7,sTxnMetadataValueTopic,Ya2,tabF,Fld.tag,Fld.has]
theorem noPt7 : noPts F7 = true:=by decide
theorem fitS7 (v : Int) (t : Tree) (ht : t.ok) : Ya4 v F7 0 (UU v F7 t):=Ya0 v F7 (tab7 v) t ht false
def slots (flex : Bool) (A : WA) : Bool:=(match lkW A 0 with | some (.at_ 0 0) => true | _ => false) && (match lkW A 7 with | some .rdr => true | _ => false) && (match lkW A 9 with | some (.val (.bool b)) => b == flex | _ => false) && (match lkW A 10 with | some (.at_ 0 0) => true | _ => false)
theorem slots_out {flex : Bool} {A : WA} (h : slots flex A = true) : lkW A 0 = some (.at_ 0 0) ∧ lkW A 7 = some .rdr ∧ lkW A 9 = some (.val (.bool flex)) ∧ lkW A 10 = some (.at_ 0 0):=by
 simp only [slots,Bool.and_eq_true] at h
 obtain ⟨⟨⟨h0,h7⟩,h9⟩,h10⟩:=h
 refine ⟨?_,?_,?_,?_⟩
 ·split at h0
  ·assumption
  ·cases h0
 ·split at h7
  ·assumption
  ·cases h7
 ·split at h9
  ·rename_i b hb
   rw [hb,beq_iff_eq.1 h9]
  ·cases h9
 ·split at h10
  ·assumption
  ·cases h10
def chk (v : Int) (flex : Bool) (S : RS) : Bool:=isNo S.pd && slots flex S.A && ziEs S.dfl (CV v) && (match mFsz v true flex 1 F7 S.acts with | some [] => true | _ => false) && zbFs v true F7 (((CV v).drop 1).take 7) && decide (shDs (YI (((CV v).drop 1).take 7)) = JG true F7)
def Ys2 (v : Int) : WA:=[(0,.at_ 0 0),(2,.val (.bool false)),(6,.val .nilIface),(7,.rdr),(8,.val (.int .i16 v))]
def InvT (v : Int) (w0 : World) (b rb sb lo : Nat) (new : List D) (pfin : TxP) (j : Nat) (w : World) : Prop:=∃ (R : List (Nat × List UInt8)) (p : TxP) (x1 x2 x3 x4 x5 x6 x7 mm : Value),R.length = j ∧ j < 4294967296 ∧ (∀ kv ∈ R,TxOk kv) ∧ R.foldl Xw p = pfin ∧ Chg (fun i => i = b ∨ w0.heap.size ≤ i) w0 w ∧ lo ≤ w.heap.size ∧ Rdr w rb sb (some (R.flatMap fun kv => UF kv.1 kv.2)) ∧
 Box w b [.int .i16 v,x1,x2,x3,x4,x5,x6,x7,.int .i64 p.n0,.int .i64 p.n1,.int .i16 p.n2,.int .i16 p.n3,mm] 65 ∧ Rdk.Jw w sb lo mm p.u ∧ YG (Qm sb lo w mm) w new [x1,x2,x3,x4,x5,x6,x7]
theorem Yc4 {ok : Nat → Prop} {w : World} : ∀ (vs cs : List Value),YG ok w (YI vs) cs → cs = vs
 | [],cs,h => h
 | v :: vs,cs,h => by
  obtain ⟨c1,c2,rfl,h1,h2⟩:=h
  have h1 : c1 = [v]:=h1
  rw [h1,Yc4 vs c2 h2]
  rfl
theorem lk_in {L : Sl} {t : Nat} {v : Value} (h : lk L t = some v) : (t,v) ∈ L:=by
 induction L with
 | nil => cases h
 | cons p L ih =>
  simp only [lk] at h
  cases hb : Nat.beq p.1 t with
  | true => rw [hb] at h;simp at h;have:=Ye hb;subst this;subst h;simp
  | false => rw [hb] at h;exact List.mem_cons_of_mem _ (ih h)
theorem JT {ok : Nat → Prop} {w : World} {v y : Value} (h : YG ok w [.lit v] [y]) : y = v:=by
 simp only [YG,Rep] at h
 obtain ⟨c1,c2,e,rfl,rfl⟩:=h
 simpa using e
set_option maxHeartbeats 8000000 in
theorem fn_readFrom0 (w : World) (u0 : TypeId) (x0 sv : Value) (b sb : Nat) (t : Tree) (ht : t.ok) (xs : List UInt8) (hxs : xs = be 2 0 ++ Xc 0 false m.fields t) (hb : Box w b (CV 0) 65) (hv : SrcAt w sb sv xs) (hsb : sb < w.heap.size) (hne : b ≠ sb)
  (hg : w.cell? ⟨1,0,none⟩ = some (.iface u0 x0)) (hgb : 1 ≠ b) (hgl : 1 < w.heap.size) :
  UR Tryz.prog 64 = true ∧ Calls Tryz.prog 64 #[.pointer (some ⟨b,0,none⟩),sv,.bool false] w fun en w' => en = .returned .nilIface ∧ Chg (fun j => j = b ∨ w.heap.size ≤ j) w w' ∧ ∃ cs' lo new p,w.heap.size ≤ lo ∧ Box w' b cs' 65 ∧ YG (Dk sb lo w') w' (.lit (.int .i16 0) :: (new ++ txD p)) cs' ∧ Yg9 0 true false F7 0 (UU 0 F7 t) new ∧ p = (if false then (YS 0 false m.fields t).foldl Xw tx0 else tx0):=by
 refine ⟨by kernel_rfl,?_⟩
 obtain ⟨aa,nn,cc,hvs⟩ : ∃ aa nn cc,sv = .slice aa nn cc:=by
  rcases hv.2 with ⟨rfl,_⟩ | ⟨o,c,rfl,_⟩
  ·exact ⟨_,_,_,rfl⟩
  ·exact ⟨_,_,_,rfl⟩
 subst hvs
 have hgk : ∀ w' : World,Chg (fun j => j = b ∨ w.heap.size ≤ j) w w' → w'.cell? ⟨1,0,none⟩ = some (.iface u0 x0):=fun w' hc => by
  have hg3 : w'.heap[1]? = w.heap[1]?:=hc.block _ hgl (by rintro (h | h);exact hgb h;omega)
  simp only [World.cell?] at hg ⊢
  rw [hg3];exact hg
 refine enter (vs:=[.pointer (some ⟨b,0,none⟩),.slice aa nn cc,.bool false]) Tryz.func64 rfl Tryz.ntmps64 rfl ?_
 repeat first|(with_reducible first|apply Yd|apply Ya|apply Yc|apply Yb)|((with_reducible apply ws);exact rfl;exact rfl)
 obtain ⟨l,hl,hset⟩:=Option.bind_eq_some_iff.1 (df_all 0)
 have hdef:=defF_ok (w:=w) hl (b:=b) (pre:=[]) (cs:=CV 0) (post:=[]) (cs':=CV 0) (e:=65) (by simpa using hb) hset
 refine Yo rfl hdef.1 rfl (hdef.2.mono ?_)
 rintro en w1 ⟨rfl,hb1,hc1⟩
 refine ⟨_,rfl,?_⟩
 repeat first|(with_reducible first|apply Yd|apply Ya|apply Yc|apply Yb)|((with_reducible apply ws);exact rfl;exact rfl)
 refine Xa rfl (cs:=[.slice aa nn cc,.bool false]) (Yq6 aa nn cc) rfl ?_
 refine YJ Yr5 rfl rfl (fun w2 hb2 hg2 hs2 => ?_)
 refine Yn (vs:=[.slice aa nn cc,.bool false]) rfl rfl rfl tz_rdr rfl hb2 rfl (fun w3 hb3 hg3 hs3 => ?_)
 have hc2 : Chg (fun _ => False) w1 w2:=Chg.grown0 hg2
 have hc3 : Chg (· = w1.heap.size) w2 w3:=Chg.grown hg3
 have hsz:=hc1.size
 have hsz3:=hc3.size
 have hbsz:=hb.lt
 obtain ⟨rb,hrb⟩ : ∃ rb,rb = w1.heap.size:=⟨_,rfl⟩
 obtain ⟨lo,hlo⟩ : ∃ lo,lo = w1.heap.size + 1:=⟨_,rfl⟩
 rw [← hrb] at hb3 hc3
 have cc3 : Chg (fun j => j = b ∨ j = rb) w w3:=(hc1.wide (fun j hj => .inl hj)).trans ((hc2.wide (fun j hj => hj.elim)).trans (hc3.wide (fun j hj => .inr hj)))
 have hbb : Box w3 b (CV 0) 65:=((by simpa using hb1 : Box w1 b (CV 0) 65).chg hc2 id).chg hc3 (by omega)
 have hr3 : Rdr w3 rb sb (some xs):=by
  refine ⟨_,_,hb3,hv.1,?_,fun hz => ?_⟩
  ·rcases hv.2 with h | ⟨o,c,e1,e2,e3,e4⟩
   ·exact .inl ⟨h.1,h.2.1⟩
   ·exact .inr ⟨o,c,e1,e2,e3.chg cc3 (by rintro (h | h);exact hne h.symm;omega),e4⟩
  ·rcases hv.2 with h | ⟨o,c,e1,e2,e3,e4⟩
   ·exact absurd h.2.2 hz
   ·rw [e1];simp
 have k3 : Chg (fun j => j = b ∨ w.heap.size ≤ j) w w3:=cc3.wide (fun j hj => by rcases hj with h | h;exact .inl h;exact .inr (by omega))
 have l1 : rb < lo:=by omega
 have l2 : sb < lo:=by omega
 have l3 : lo ≤ w3.heap.size:=by omega
 have n1 : rb ≠ sb:=by omega
 have n2 : b ≠ rb:=by omega
 have l4 : b < lo:=by omega
 have l5 : w.heap.size ≤ rb:=by omega
 have l6 : 1 < lo:=by omega
 have l7 : 1 ≠ rb:=by omega
 rw [show (Value.pointer (some ⟨w1.heap.size,0,none⟩)) = .pointer (some ⟨rb,0,none⟩) by rw [hrb]]
 clear hb1 hb2 hb3 hc1 hc2 hc3 hg2 hg3 hs2 hs3 hsz hsz3 hrb hlo cc3
 repeat first|(with_reducible first|apply Yd|apply Ya|apply Yc|apply Yb)|((with_reducible apply ws);exact rfl;exact rfl)
 refine Yo rfl (by kernel_rfl) rfl (((Rdk.kr_ok (.iface u0 x0)).rd 102 .i16 (by kernel_rfl) (by kernel_rfl) w3 rb sb lo (some xs) hr3 l1 l2 l3 n1).mono ?_)
 rintro en w4 ⟨y0,a0,st1,rfl,hc4,hr4,hrep4,hall4,hone4,hrel4⟩
 refine ⟨_,rfl,?_⟩
 have hrd : rdP .i16 xs = some ([.lit (.int .i16 0)],Xc 0 false m.fields t):=by
  rw [hxs]
  simp only [rdP]
  rw [Vi .i16 2 16 rfl rfl]
  rfl
 have hrel4':=hrel4.2.2
 simp only [hrd] at hrel4'
 obtain ⟨rfl,rfl⟩:=hrel4'
 rw [hone4 rfl] at hrep4
 obtain rfl:=JT hrep4
 have hbb4:=hbb.chg hc4 (fun e => n2 e)
 have hs4:=hc4.size
 repeat ((with_reducible apply ws);exact rfl;exact rfl)
 refine YA (i:=0) rfl rfl to_i16 rfl hbb4 rfl (fun w5 hb5' hg5 hs5 => ?_)
 have hb5 : Box w5 b (CV 0) 65:=hb5'
 have hc5 : Chg (· = b) w4 w5:=Chg.grown hg5
 have hr5:=hr4.chg hc5 (fun e => n2 e.symm) (fun e => hne e.symm)
 have hz5:=hc5.size
 have k5 : Chg (fun j => j = b ∨ w.heap.size ≤ j) w w5:=k3.trans ((hc4.wide (fun j hj => .inr (by have : j = rb:=hj;omega))).trans (hc5.wide (fun j hj => .inl hj)))
 refine Yc (Yb (Yd (Ya ?_)))
 refine ws rfl rfl ?_
 refine ws rfl rfl ?_
 refine ws rfl rfl ?_
 refine Yf (i:=0) rfl to_i16 rfl hb5 (v:=.int .i16 0) rfl ?_
 refine ws rfl rfl ?_
 refine Yc (Yb ?_)
 clear hrep4 hall4 hone4 hrel4 hc4 hbb4 hc5 hr4 hg5 hs5 hb5' hbb hr3 k3
 refine fun ac kc => pieceN (Rdk.kr_ok (.iface u0 x0)) 11 (rs:=6) (S:=⟨Ys2 0,[],.no,(CV 0).map some,shDs (YI (CV 0)),true,CV 0,[]⟩) (chk:=chk 0 false) (by kernel_rfl) (start_ok (A:=Ys2 0) (lo:=lo) (knW_of kc ?_) hb5 hr5 l4 l1 l2 (by omega) n1 n2 hne (hgk w5 k5) l7 l6 hgb) ?_ ?_
 ·intro x hx
  simp only [Ys2,List.mem_cons,List.not_mem_nil,or_false] at hx
  rcases hx with rfl | rfl | rfl | rfl | rfl <;> exact ⟨_,rfl,rfl⟩
 ·intro S' R' it' st0 st a6 w6 hchk f6 H6
  simp only [chk,Bool.and_eq_true,decide_eq_true_eq] at hchk
  obtain ⟨⟨⟨⟨⟨hno,hsl⟩,hdf⟩,hmf⟩,hzb⟩,hsh⟩:=hchk
  have hno:=Ya1 hno
  have hst : st = st0:=by have:=H6.pd;rw [hno] at this;exact this
  subst hst
  obtain ⟨q0,q7,q9,q10⟩:=slots_out hsl
  have hdf:=ziEs_out hdf
  have hmf : mFsz 0 true false 1 F7 S'.acts = some []:=by
   split at hmf
   ·assumption
   ·cases hmf
  obtain ⟨s2,hs2⟩ : ∃ s2,s2 = (if false then uvar (YS 0 false m.fields t).length ++ (YS 0 false m.fields t).flatMap (fun kv => UF kv.1 kv.2) else ([] : List UInt8)):=⟨_,rfl⟩
  have hw : Xc 0 false m.fields t = wFs 0 false F7 0 (UU 0 F7 t) ++ s2:=by
   rw [hs2,wFs_fit 0 false F7 (tab7 0) t]
   unfold Xc asm
   rw [wFs_m]
   simp
  have hR:=Yb3 0 true false (fun _ => rfl) F7 S'.acts [] 1 noPt7 hmf 0 (UU 0 F7 t) (fitS7 0 t ht)
  have hZ:=Jd (vs:=((CV 0).drop 1).take 7) noPt7 hzb hsh
  have hus : ∀ vs : List Value,Ye7 (YI vs):=fun vs => UA vs
  obtain ⟨nw,new,e1,e2,e3,e4,e5,e6,e7⟩:=hR [.lit (.int .i16 0)] (YI (((CV 0).drop 1).take 7)) (YI ((CV 0).drop 8)) s2 hsh hZ (fun d hd => by rw [List.mem_singleton] at hd;subst hd;rfl) (hus _) rfl
  have hrel:=H6.rel.2
  rw [hdf,hw] at hrel
  have hlits : YI (CV 0) = [.lit (.int .i16 0)] ++ YI (((CV 0).drop 1).take 7) ++ YI ((CV 0).drop 8):=rfl
  rw [hlits] at hrel
  simp only [e1,rdAs] at hrel
  obtain ⟨rfl,hds⟩:=hrel
  have hD:=H6.ds
  rw [hds] at hD
  obtain ⟨cA,c5,ecs,hA,h5⟩:=(YG.app _ _ _).1 hD
  obtain ⟨c0,c7,rfl,h0,h7⟩:=(YG.app _ _ _).1 hA
  obtain rfl:=Yc4 _ _ h5
  have h0' : c0 = [.int .i16 0]:=Yc4 [.int .i16 0] c0 h0
  subst h0'
  have hlen7 : c7.length = 7:=by
   have h1:=YG.len _ _ h7
   rw [← shs_width,e2] at h1
   rw [h1];rfl
  obtain ⟨x1,x2,x3,x4,x5,x6,x7,rfl⟩ : ∃ x1 x2 x3 x4 x5 x6 x7,c7 = [x1,x2,x3,x4,x5,x6,x7]:=by
   match c7,hlen7 with
   | [x1,x2,x3,x4,x5,x6,x7],_ => exact ⟨_,_,_,_,_,_,_,rfl⟩
  have hB6:=H6.box
  rw [f6.b,f6.pre,f6.post,f6.e,ecs] at hB6
  have hb6 : Box w6 b [.int .i16 0,x1,x2,x3,x4,x5,x6,x7,.int .i64 (-1),.int .i64 (-1),.int .i16 0,.int .i16 (-1),.map none] 65:=by simpa [CV] using hB6
  have flo:=f6.lo
  have fb:=f6.b
  simp only at flo fb
  have hr6:=H6.rdr
  have hl6 : lo ≤ w6.heap.size:=by have:=H6.lo.2.2.2;rw [flo] at this;exact this
  have k6 : Chg (fun j => j = b ∨ w.heap.size ≤ j) w w6:=k5.trans (f6.chg.wide (fun j hj => by simp only [] at hj;rcases hj with h | h | h;exact .inr (by omega);exact .inl h;exact .inr (by omega)))
  have hx6 : YG (Qm sb lo w6 (.map none)) w6 new [x1,x2,x3,x4,x5,x6,x7]:=by
   have h8:=e7 _ _ _ h7
   exact h8.up (fun q hq => ⟨by rw [← flo];exact hq,by simp⟩) (fun _ _ => rfl)
  have hkn:=H6.kn
  clear hD hA h5 h0 hB6 e1 e2 e3 e5 e6 e7 hlits hus hR hZ hmf hzb hsh ecs hds
  dsimp only [dropSeq]
  refine (show WC _ _ _ _ [(0,.pointer (some ⟨b,0,none⟩)),(7,.pointer (some ⟨rb,0,none⟩)),(9,.bool false),(10,.pointer (some ⟨b,0,none⟩))] w6 from ?_) a6 (kn_of hkn ?_)
  case refine_2 =>
   intro tt vv e
   have e':=lk_in e
   simp only [List.mem_cons,List.not_mem_nil,or_false,Prod.mk.injEq] at e'
   rcases e' with ⟨rfl,rfl⟩ | ⟨rfl,rfl⟩ | ⟨rfl,rfl⟩ | ⟨rfl,rfl⟩
   ·exact ⟨_,q0,rfl⟩
   ·exact ⟨_,q7,rfl⟩
   ·exact ⟨_,q9,rfl⟩
   ·exact ⟨_,q10,rfl⟩
  clear hkn H6 f6 hno hsl hdf q0 q7 q9 q10 h7
  repeat first|(with_reducible first|apply Yd|apply Ya|apply Yc|apply Yb)|((with_reducible apply ws);exact rfl;exact rfl)
  refine Yu rfl rfl ?_
  repeat (with_reducible first|apply Yd|apply Ya|apply Yb|apply Yh)
  refine Yo rfl (by kernel_rfl) rfl ((Rdk.VC w6 rb sb (some s2) (.iface u0 x0) hr6 (hgk w6 k6)).mono ?_)
  rintro en w10 ⟨rfl,rfl⟩
  refine ⟨_,rfl,?_⟩
  repeat first|(with_reducible first|apply Yc|apply Yb|apply Ym)|((with_reducible apply ws);exact rfl;exact rfl)
  refine Yk rfl rfl ⟨rfl,k6,_,lo,new,tx0,by omega,hb6,?_,e4,rfl⟩
  have h1:=hx6.up (fun r (hr : Qm sb lo w10 (.map none) r) => hr.1) (fun _ _ => rfl)
  have h0 : YG (Dk sb lo w10) w10 [.lit (.int .i16 0)] [.int .i16 0]:=Vb [_]
  have h2 : YG (Dk sb lo w10) w10 (txD tx0) [.int .i64 (-1),.int .i64 (-1),.int .i16 0,.int .i16 (-1),.map none] :=
   (YG.app [.lit (.int .i64 (-1)),.lit (.int .i64 (-1)),.lit (.int .i16 0),.lit (.int .i16 (-1))] [XW []] _).2 ⟨[.int .i64 (-1),.int .i64 (-1),.int .i16 0,.int .i16 (-1)],[.map none],rfl,Vb [.int .i64 (-1),.int .i64 (-1),.int .i16 0,.int .i16 (-1)],⟨[.map none],[],rfl,.inl ⟨rfl,rfl⟩,rfl⟩⟩
  exact (YG.app _ _ _).2 ⟨_,_,rfl,h0,(YG.app _ _ _).2 ⟨_,_,rfl,h1,h2⟩⟩
 ·intro S' a6 w6 hchk hB hF
  exfalso
  have hF:=hF _ rfl
  unfold XO at hF
  simp only [chk,Bool.and_eq_true,decide_eq_true_eq] at hchk
  obtain ⟨⟨⟨⟨⟨hno,hsl⟩,hdf⟩,hmf⟩,hzb⟩,hsh⟩:=hchk
  have hno:=Ya1 hno
  have hdf:=ziEs_out hdf
  have hmf : mFsz 0 true false 1 F7 S'.acts = some []:=by
   split at hmf
   ·assumption
   ·cases hmf
  have hw : Xc 0 false m.fields t = wFs 0 false F7 0 (UU 0 F7 t) ++ (if false then uvar (YS 0 false m.fields t).length ++ (YS 0 false m.fields t).flatMap (fun kv => UF kv.1 kv.2) else ([] : List UInt8)):=by
   rw [wFs_fit 0 false F7 (tab7 0) t]
   unfold Xc asm
   rw [wFs_m]
   simp
  have hR:=Yb3 0 true false (fun _ => rfl) F7 S'.acts [] 1 noPt7 hmf 0 (UU 0 F7 t) (fitS7 0 t ht)
  have hZ:=Jd (vs:=((CV 0).drop 1).take 7) noPt7 hzb hsh
  obtain ⟨nw,new,e1,_⟩:=hR [.lit (.int .i16 0)] (YI (((CV 0).drop 1).take 7)) (YI ((CV 0).drop 8)) (if false then uvar (YS 0 false m.fields t).length ++ (YS 0 false m.fields t).flatMap (fun kv => UF kv.1 kv.2) else ([] : List UInt8)) hsh hZ (fun d hd => by rw [List.mem_singleton] at hd;subst hd;rfl) (UA _) rfl
  have hlits : YI S'.dfl = [.lit (.int .i16 0)] ++ YI (((CV 0).drop 1).take 7) ++ YI ((CV 0).drop 8):=by rw [hdf];rfl
  have:=hF _ (by rw [hlits,hw,e1];simp only [rdAs];rfl)
  rw [hno] at this
  exact this
set_option maxHeartbeats 8000000 in
theorem fn_readFrom1 (w : World) (u0 : TypeId) (x0 sv : Value) (b sb : Nat) (t : Tree) (ht : t.ok) (xs : List UInt8) (hxs : xs = be 2 1 ++ Xc 1 true m.fields t) (hb : Box w b (CV 0) 65) (hv : SrcAt w sb sv xs) (hsb : sb < w.heap.size) (hne : b ≠ sb)
  (hg : w.cell? ⟨1,0,none⟩ = some (.iface u0 x0)) (hgb : 1 ≠ b) (hgl : 1 < w.heap.size) :
  UR Tryz.prog 64 = true ∧ Calls Tryz.prog 64 #[.pointer (some ⟨b,0,none⟩),sv,.bool false] w fun en w' => en = .returned .nilIface ∧ Chg (fun j => j = b ∨ w.heap.size ≤ j) w w' ∧ ∃ cs' lo new p,w.heap.size ≤ lo ∧ Box w' b cs' 65 ∧ YG (Dk sb lo w') w' (.lit (.int .i16 1) :: (new ++ txD p)) cs' ∧ Yg9 1 true true F7 0 (UU 1 F7 t) new ∧ p = (if true then (YS 1 true m.fields t).foldl Xw tx0 else tx0):=by
 refine ⟨by kernel_rfl,?_⟩
 obtain ⟨aa,nn,cc,hvs⟩ : ∃ aa nn cc,sv = .slice aa nn cc:=by
  rcases hv.2 with ⟨rfl,_⟩ | ⟨o,c,rfl,_⟩
  ·exact ⟨_,_,_,rfl⟩
  ·exact ⟨_,_,_,rfl⟩
 subst hvs
 have hgk : ∀ w' : World,Chg (fun j => j = b ∨ w.heap.size ≤ j) w w' → w'.cell? ⟨1,0,none⟩ = some (.iface u0 x0):=fun w' hc => by
  have hg3 : w'.heap[1]? = w.heap[1]?:=hc.block _ hgl (by rintro (h | h);exact hgb h;omega)
  simp only [World.cell?] at hg ⊢
  rw [hg3];exact hg
 refine enter (vs:=[.pointer (some ⟨b,0,none⟩),.slice aa nn cc,.bool false]) Tryz.func64 rfl Tryz.ntmps64 rfl ?_
 repeat first|(with_reducible first|apply Yd|apply Ya|apply Yc|apply Yb)|((with_reducible apply ws);exact rfl;exact rfl)
 obtain ⟨l,hl,hset⟩:=Option.bind_eq_some_iff.1 (df_all 0)
 have hdef:=defF_ok (w:=w) hl (b:=b) (pre:=[]) (cs:=CV 0) (post:=[]) (cs':=CV 0) (e:=65) (by simpa using hb) hset
 refine Yo rfl hdef.1 rfl (hdef.2.mono ?_)
 rintro en w1 ⟨rfl,hb1,hc1⟩
 refine ⟨_,rfl,?_⟩
 repeat first|(with_reducible first|apply Yd|apply Ya|apply Yc|apply Yb)|((with_reducible apply ws);exact rfl;exact rfl)
 refine Xa rfl (cs:=[.slice aa nn cc,.bool false]) (Yq6 aa nn cc) rfl ?_
 refine YJ Yr5 rfl rfl (fun w2 hb2 hg2 hs2 => ?_)
 refine Yn (vs:=[.slice aa nn cc,.bool false]) rfl rfl rfl tz_rdr rfl hb2 rfl (fun w3 hb3 hg3 hs3 => ?_)
 have hc2 : Chg (fun _ => False) w1 w2:=Chg.grown0 hg2
 have hc3 : Chg (· = w1.heap.size) w2 w3:=Chg.grown hg3
 have hsz:=hc1.size
 have hsz3:=hc3.size
 have hbsz:=hb.lt
 obtain ⟨rb,hrb⟩ : ∃ rb,rb = w1.heap.size:=⟨_,rfl⟩
 obtain ⟨lo,hlo⟩ : ∃ lo,lo = w1.heap.size + 1:=⟨_,rfl⟩
 rw [← hrb] at hb3 hc3
 have cc3 : Chg (fun j => j = b ∨ j = rb) w w3:=(hc1.wide (fun j hj => .inl hj)).trans ((hc2.wide (fun j hj => hj.elim)).trans (hc3.wide (fun j hj => .inr hj)))
 have hbb : Box w3 b (CV 0) 65:=((by simpa using hb1 : Box w1 b (CV 0) 65).chg hc2 id).chg hc3 (by omega)
 have hr3 : Rdr w3 rb sb (some xs):=by
  refine ⟨_,_,hb3,hv.1,?_,fun hz => ?_⟩
  ·rcases hv.2 with h | ⟨o,c,e1,e2,e3,e4⟩
   ·exact .inl ⟨h.1,h.2.1⟩
   ·exact .inr ⟨o,c,e1,e2,e3.chg cc3 (by rintro (h | h);exact hne h.symm;omega),e4⟩
  ·rcases hv.2 with h | ⟨o,c,e1,e2,e3,e4⟩
   ·exact absurd h.2.2 hz
   ·rw [e1];simp
 have k3 : Chg (fun j => j = b ∨ w.heap.size ≤ j) w w3:=cc3.wide (fun j hj => by rcases hj with h | h;exact .inl h;exact .inr (by omega))
 have l1 : rb < lo:=by omega
 have l2 : sb < lo:=by omega
 have l3 : lo ≤ w3.heap.size:=by omega
 have n1 : rb ≠ sb:=by omega
 have n2 : b ≠ rb:=by omega
 have l4 : b < lo:=by omega
 have l5 : w.heap.size ≤ rb:=by omega
 have l6 : 1 < lo:=by omega
 have l7 : 1 ≠ rb:=by omega
 rw [show (Value.pointer (some ⟨w1.heap.size,0,none⟩)) = .pointer (some ⟨rb,0,none⟩) by rw [hrb]]
 clear hb1 hb2 hb3 hc1 hc2 hc3 hg2 hg3 hs2 hs3 hsz hsz3 hrb hlo cc3
 repeat first|(with_reducible first|apply Yd|apply Ya|apply Yc|apply Yb)|((with_reducible apply ws);exact rfl;exact rfl)
 refine Yo rfl (by kernel_rfl) rfl (((Rdk.kr_ok (.iface u0 x0)).rd 102 .i16 (by kernel_rfl) (by kernel_rfl) w3 rb sb lo (some xs) hr3 l1 l2 l3 n1).mono ?_)
 rintro en w4 ⟨y0,a0,st1,rfl,hc4,hr4,hrep4,hall4,hone4,hrel4⟩
 refine ⟨_,rfl,?_⟩
 have hrd : rdP .i16 xs = some ([.lit (.int .i16 1)],Xc 1 true m.fields t):=by
  rw [hxs]
  simp only [rdP]
  rw [Vi .i16 2 16 rfl rfl]
  rfl
 have hrel4':=hrel4.2.2
 simp only [hrd] at hrel4'
 obtain ⟨rfl,rfl⟩:=hrel4'
 rw [hone4 rfl] at hrep4
 obtain rfl:=JT hrep4
 have hbb4:=hbb.chg hc4 (fun e => n2 e)
 have hs4:=hc4.size
 repeat ((with_reducible apply ws);exact rfl;exact rfl)
 refine YA (i:=0) rfl rfl to_i16 rfl hbb4 rfl (fun w5 hb5' hg5 hs5 => ?_)
 have hb5 : Box w5 b (CV 1) 65:=hb5'
 have hc5 : Chg (· = b) w4 w5:=Chg.grown hg5
 have hr5:=hr4.chg hc5 (fun e => n2 e.symm) (fun e => hne e.symm)
 have hz5:=hc5.size
 have k5 : Chg (fun j => j = b ∨ w.heap.size ≤ j) w w5:=k3.trans ((hc4.wide (fun j hj => .inr (by have : j = rb:=hj;omega))).trans (hc5.wide (fun j hj => .inl hj)))
 refine Yc (Yb (Yd (Ya ?_)))
 refine ws rfl rfl ?_
 refine ws rfl rfl ?_
 refine ws rfl rfl ?_
 refine Yf (i:=0) rfl to_i16 rfl hb5 (v:=.int .i16 1) rfl ?_
 refine ws rfl rfl ?_
 refine Yc (Yb ?_)
 clear hrep4 hall4 hone4 hrel4 hc4 hbb4 hc5 hr4 hg5 hs5 hb5' hbb hr3 k3
 refine fun ac kc => pieceN (Rdk.kr_ok (.iface u0 x0)) 11 (rs:=6) (S:=⟨Ys2 1,[],.no,(CV 1).map some,shDs (YI (CV 1)),true,CV 1,[]⟩) (chk:=chk 1 true) (by kernel_rfl) (start_ok (A:=Ys2 1) (lo:=lo) (knW_of kc ?_) hb5 hr5 l4 l1 l2 (by omega) n1 n2 hne (hgk w5 k5) l7 l6 hgb) ?_ ?_
 ·intro x hx
  simp only [Ys2,List.mem_cons,List.not_mem_nil,or_false] at hx
  rcases hx with rfl | rfl | rfl | rfl | rfl <;> exact ⟨_,rfl,rfl⟩
 ·intro S' R' it' st0 st a6 w6 hchk f6 H6
  simp only [chk,Bool.and_eq_true,decide_eq_true_eq] at hchk
  obtain ⟨⟨⟨⟨⟨hno,hsl⟩,hdf⟩,hmf⟩,hzb⟩,hsh⟩:=hchk
  have hno:=Ya1 hno
  have hst : st = st0:=by have:=H6.pd;rw [hno] at this;exact this
  subst hst
  obtain ⟨q0,q7,q9,q10⟩:=slots_out hsl
  have hdf:=ziEs_out hdf
  have hmf : mFsz 1 true true 1 F7 S'.acts = some []:=by
   split at hmf
   ·assumption
   ·cases hmf
  obtain ⟨s2,hs2⟩ : ∃ s2,s2 = (if true then uvar (YS 1 true m.fields t).length ++ (YS 1 true m.fields t).flatMap (fun kv => UF kv.1 kv.2) else ([] : List UInt8)):=⟨_,rfl⟩
  have hw : Xc 1 true m.fields t = wFs 1 true F7 0 (UU 1 F7 t) ++ s2:=by
   rw [hs2,wFs_fit 1 true F7 (tab7 1) t]
   unfold Xc asm
   rw [wFs_m]
   simp
  have hR:=Yb3 1 true true (fun _ => rfl) F7 S'.acts [] 1 noPt7 hmf 0 (UU 1 F7 t) (fitS7 1 t ht)
  have hZ:=Jd (vs:=((CV 1).drop 1).take 7) noPt7 hzb hsh
  have hus : ∀ vs : List Value,Ye7 (YI vs):=fun vs => UA vs
  obtain ⟨nw,new,e1,e2,e3,e4,e5,e6,e7⟩:=hR [.lit (.int .i16 1)] (YI (((CV 1).drop 1).take 7)) (YI ((CV 1).drop 8)) s2 hsh hZ (fun d hd => by rw [List.mem_singleton] at hd;subst hd;rfl) (hus _) rfl
  have hrel:=H6.rel.2
  rw [hdf,hw] at hrel
  have hlits : YI (CV 1) = [.lit (.int .i16 1)] ++ YI (((CV 1).drop 1).take 7) ++ YI ((CV 1).drop 8):=rfl
  rw [hlits] at hrel
  simp only [e1,rdAs] at hrel
  obtain ⟨rfl,hds⟩:=hrel
  have hD:=H6.ds
  rw [hds] at hD
  obtain ⟨cA,c5,ecs,hA,h5⟩:=(YG.app _ _ _).1 hD
  obtain ⟨c0,c7,rfl,h0,h7⟩:=(YG.app _ _ _).1 hA
  obtain rfl:=Yc4 _ _ h5
  have h0' : c0 = [.int .i16 1]:=Yc4 [.int .i16 1] c0 h0
  subst h0'
  have hlen7 : c7.length = 7:=by
   have h1:=YG.len _ _ h7
   rw [← shs_width,e2] at h1
   rw [h1];rfl
  obtain ⟨x1,x2,x3,x4,x5,x6,x7,rfl⟩ : ∃ x1 x2 x3 x4 x5 x6 x7,c7 = [x1,x2,x3,x4,x5,x6,x7]:=by
   match c7,hlen7 with
   | [x1,x2,x3,x4,x5,x6,x7],_ => exact ⟨_,_,_,_,_,_,_,rfl⟩
  have hB6:=H6.box
  rw [f6.b,f6.pre,f6.post,f6.e,ecs] at hB6
  have hb6 : Box w6 b [.int .i16 1,x1,x2,x3,x4,x5,x6,x7,.int .i64 (-1),.int .i64 (-1),.int .i16 0,.int .i16 (-1),.map none] 65:=by simpa [CV] using hB6
  have flo:=f6.lo
  have fb:=f6.b
  simp only at flo fb
  have hr6:=H6.rdr
  have hl6 : lo ≤ w6.heap.size:=by have:=H6.lo.2.2.2;rw [flo] at this;exact this
  have k6 : Chg (fun j => j = b ∨ w.heap.size ≤ j) w w6:=k5.trans (f6.chg.wide (fun j hj => by simp only [] at hj;rcases hj with h | h | h;exact .inr (by omega);exact .inl h;exact .inr (by omega)))
  have hx6 : YG (Qm sb lo w6 (.map none)) w6 new [x1,x2,x3,x4,x5,x6,x7]:=by
   have h8:=e7 _ _ _ h7
   exact h8.up (fun q hq => ⟨by rw [← flo];exact hq,by simp⟩) (fun _ _ => rfl)
  have hkn:=H6.kn
  clear hD hA h5 h0 hB6 e1 e2 e3 e5 e6 e7 hlits hus hR hZ hmf hzb hsh ecs hds
  dsimp only [dropSeq]
  refine (show WC _ _ _ _ [(0,.pointer (some ⟨b,0,none⟩)),(7,.pointer (some ⟨rb,0,none⟩)),(9,.bool true),(10,.pointer (some ⟨b,0,none⟩))] w6 from ?_) a6 (kn_of hkn ?_)
  case refine_2 =>
   intro tt vv e
   have e':=lk_in e
   simp only [List.mem_cons,List.not_mem_nil,or_false,Prod.mk.injEq] at e'
   rcases e' with ⟨rfl,rfl⟩ | ⟨rfl,rfl⟩ | ⟨rfl,rfl⟩ | ⟨rfl,rfl⟩
   ·exact ⟨_,q0,rfl⟩
   ·exact ⟨_,q7,rfl⟩
   ·exact ⟨_,q9,rfl⟩
   ·exact ⟨_,q10,rfl⟩
  clear hkn H6 f6 hno hsl hdf q0 q7 q9 q10 h7
  repeat first|(with_reducible first|apply Yd|apply Ya|apply Yc|apply Yb)|((with_reducible apply ws);exact rfl;exact rfl)
  refine Yp rfl rfl ?_
  repeat (with_reducible first|apply Yd|apply Ya)
  refine Yo rfl (by kernel_rfl) rfl ((Rdk.Jz w6 rb sb (some s2) hr6 n1).mono ?_)
  rintro en w7 ⟨n,st7,rfl,hc7,hr7,hrel7⟩
  refine ⟨_,rfl,?_⟩
  obtain ⟨TL,hTL⟩ : ∃ TL,TL = YS 1 true m.fields t:=⟨_,rfl⟩
  have hTok : ∀ kv ∈ TL,TxOk kv:=by rw [hTL];exact tags_ok 1 true t ht
  have hTlen : TL.length < 4294967296:=by rw [hTL];exact tags_len 1 true t
  have hrel7':=hrel7.2
  have hup : XR s2 = some (TL.length,TL.flatMap fun kv => UF kv.1 kv.2):=by
   rw [hs2,if_pos rfl,← hTL];exact Xf _ _ hTlen
  simp only [hup] at hrel7'
  obtain ⟨rfl,rfl⟩:=hrel7'
  have hz7:=hc7.size
  have hb7 : Box w7 b [.int .i16 1,x1,x2,x3,x4,x5,x6,x7,.int .i64 tx0.n0,.int .i64 tx0.n1,.int .i16 tx0.n2,.int .i16 tx0.n3,.map none] 65:=hb6.chg hc7 (fun e => n2 e)
  have k7 : Chg (fun j => j = b ∨ w.heap.size ≤ j) w w7:=k6.trans (hc7.wide (fun j hj => .inr (by have : j = rb:=hj;omega)))
  have hx7:=Yn5 hx6 hc7 (by rintro k rfl;exact .inl ⟨l1,n1⟩)
  repeat first|(with_reducible first|apply Yc|apply Yb|apply Yr)|((with_reducible apply ws);exact rfl;exact rfl)
  refine Xu (α:=Nat) (fun j => [(0,.pointer (some ⟨b,0,none⟩)),(7,.pointer (some ⟨rb,0,none⟩)),(9,.bool true),(10,.pointer (some ⟨b,0,none⟩)),(31,.int .u32 (j : Int))])
   (fun j w' => InvT 1 w b rb sb lo new (TL.foldl Xw tx0) j w') (fun j => j) TL.length ⟨rfl,rfl,rfl,rfl,rfl,trivial⟩
   ⟨TL,tx0,x1,x2,x3,x4,x5,x6,x7,.map none,rfl,hTlen,hTok,rfl,k7,by omega,hr7,hb7,.inl ⟨rfl,rfl⟩,hx7⟩ ?_
  clear hx7 hb7 hr7 k7 hz7 hc7 hrel7 hx6 hb6 hr6 k6
  rintro j w9 ⟨R,p,x1,x2,x3,x4,x5,x6,x7,mm,hRl,hjl,hRok,hfold,k9,hl9,hr9,hb9,ht9,hx9⟩
  cases j with
  | zero =>
   have hR0 : R = []:=List.length_eq_zero_iff.1 hRl
   subst hR0
   repeat first|(with_reducible first|apply Yd|apply Ya|apply Yc|apply Yb)|((with_reducible apply ws);exact rfl;exact rfl)
   refine Yu rfl (by simp) ?_
   repeat (with_reducible first|apply Yd|apply Ya|apply Yb|apply Xk|apply Yw|apply YB|apply Yq)
   refine Yo rfl (by kernel_rfl) rfl ((Rdk.VC w9 rb sb _ (.iface u0 x0) hr9 (hgk w9 k9)).mono ?_)
   rintro en w10 ⟨rfl,rfl⟩
   refine ⟨_,rfl,?_⟩
   repeat first|(with_reducible first|apply Yc|apply Yb|apply Ym)|((with_reducible apply ws);exact rfl;exact rfl)
   refine Yk rfl rfl ⟨rfl,k9,_,lo,new,p,by omega,hb9,?_,e4,?_⟩
   ·have h1:=hx9.up (fun r (hr : Qm sb lo w10 mm r) => hr.1) (fun _ _ => rfl)
    have h0 : YG (Dk sb lo w10) w10 [.lit (.int .i16 1)] [.int .i16 1]:=Vb [_]
    have h3 : Rep (Dk sb lo w10) w10 (XW p.u) [mm]:=by
     rcases ht9 with ⟨rfl,hu⟩ | ⟨r,rfl,hlr,hh⟩
     ·rw [hu];exact .inl ⟨rfl,rfl⟩
     ·exact hh.rep hlr (by omega)
    have h2 : YG (Dk sb lo w10) w10 (txD p) [.int .i64 p.n0,.int .i64 p.n1,.int .i16 p.n2,.int .i16 p.n3,mm] :=
     (YG.app [.lit (.int .i64 p.n0),.lit (.int .i64 p.n1),.lit (.int .i16 p.n2),.lit (.int .i16 p.n3)] [XW p.u] _).2 ⟨[.int .i64 p.n0,.int .i64 p.n1,.int .i16 p.n2,.int .i16 p.n3],[mm],rfl,Vb [.int .i64 p.n0,.int .i64 p.n1,.int .i16 p.n2,.int .i16 p.n3],⟨[mm],[],rfl,h3,rfl⟩⟩
    exact (YG.app _ _ _).2 ⟨_,_,rfl,h0,(YG.app _ _ _).2 ⟨_,_,rfl,h1,h2⟩⟩
   ·rw [if_pos rfl,← hTL];exact hfold
  | succ j =>
   obtain ⟨kv,R,rfl⟩ : ∃ kv R',R = kv :: R':=by
    cases R with
    | nil => simp at hRl
    | cons kv R' => exact ⟨kv,R',rfl⟩
   have hkv:=hRok kv (by simp)
   obtain ⟨key,pay⟩:=kv
   have hM : Vf = 32767:=rfl
   have hpl0 : pay.length < 4294967296:=by have:=hkv.2.1;simp only [] at this;omega
   have hk32 : key < 4294967296:=hkv.1
   have hRj : R.length = j:=by simpa using hRl
   have hflat : ((key,pay) :: R).flatMap (fun kv => UF kv.1 kv.2) = uvar key ++ (uvar pay.length ++ (pay ++ R.flatMap fun kv => UF kv.1 kv.2)):=by simp [UF,List.append_assoc]
   rw [hflat] at hr9
   repeat first|(with_reducible first|apply Yd|apply Ya|apply Yc|apply Yb)|((with_reducible apply ws);exact rfl;exact rfl)
   refine Yp rfl (by simp) ?_
   repeat (with_reducible first|apply Yd|apply Ya|apply Yb|apply Yr|apply Yh)
   refine Yo rfl (by kernel_rfl) rfl ((Rdk.Jz w9 rb sb _ hr9 n1).mono ?_)
   rintro en w10 ⟨k',s10,rfl,hc10,hr10,hrel10⟩
   refine ⟨_,rfl,?_⟩
   have h10:=hrel10.2
   simp only [Xf key _ hk32] at h10
   obtain ⟨rfl,rfl⟩:=h10
   have hz10:=hc10.size
   have hb10:=hb9.chg hc10 (fun e => n2 e)
   have nrb : ∀ (w' : World) (r : Nat),lo ≤ r → r < w'.heap.size → ¬ (fun j => j = rb) r:=fun w' r h _ e => by have : r = rb:=e;omega
   have ht10:=ht9.keep hc10 (nrb w9) (fun e => n1 e.symm) (by omega)
   have hx10:=Yn5 hx9 hc10 (by rintro k rfl;exact .inl ⟨l1,n1⟩)
   have k10 : Chg (fun j => j = b ∨ w.heap.size ≤ j) w w10:=k9.trans (hc10.wide (fun j hj => .inr (by have : j = rb:=hj;omega)))
   repeat first|(with_reducible first|apply Yd|apply Ya|apply Yc|apply Yb|apply Yr)|((with_reducible apply ws);exact rfl;exact rfl)
   by_cases k0 : k' = 0
   ·refine Yp rfl (by simp [k0]) ?_
    repeat (with_reducible first|apply Yd|apply Ya)
    refine Yo rfl (by kernel_rfl) rfl ((Rdk.Jz w10 rb sb _ hr10 n1).mono ?_)
    rintro en w11 ⟨len,s11,rfl,hc11,hr11,hrel11⟩
    refine ⟨_,rfl,?_⟩
    have h11:=hrel11.2
    simp only [Xf pay.length _ hpl0] at h11
    obtain ⟨rfl,rfl⟩:=h11
    have hpl : pay.length = 8:=hkv.2.2.1 (.inl k0)
    refine YY .i64 (r:=(pay.length : Int)) rfl (by kernel_rfl) (by kernel_rfl) rfl (by rw [IntKind.wrap_i64];omega) ?_
    refine Yo rfl (by kernel_rfl) rfl ((Rdk.JN w11 rb sb _ (pay.length : Int) hr11 n1).mono ?_)
    rintro en w12 ⟨val,bs,s12,rfl,hc12,hr12,hsv,hblim,hspan⟩
    refine ⟨_,rfl,?_⟩
    have h12:=hspan
    simp only [Rdk.VD,Xz pay _ _ rfl] at h12
    obtain ⟨rfl,rfl⟩:=h12
    obtain ⟨o,c,hv0,hle,hcs,hz⟩ : ∃ o c,val = .slice (some ⟨sb,o,none⟩) bs.length c ∧ bs.length ≤ c ∧ YE w12 sb o (bv bs) ∧ sb ≠ 0:=by
     rcases hsv with ⟨_,h⟩ | h
     ·rw [h] at hpl;cases hpl
     ·exact h
    subst hv0
    have cA : Chg (· = rb) w10 w12:=hc11.trans hc12
    have hzA:=cA.size
    have hb12:=hb10.chg cA (fun e => n2 e)
    have ht12:=ht10.keep cA (nrb w10) (fun e => n1 e.symm) (by omega)
    have hx12:=Yn5 hx10 cA (by rintro k rfl;exact .inl ⟨l1,n1⟩)
    have k12 : Chg (fun j => j = b ∨ w.heap.size ≤ j) w w12:=k10.trans (cA.wide (fun j hj => .inr (by have : j = rb:=hj;omega)))
    refine Xa rfl (cs:=[.slice (some ⟨sb,o,none⟩) bs.length c,.bool false]) (Yq6 _ _ _) rfl ?_
    refine YJ Yr5 rfl rfl (fun w13 hb13 hg13 hs13 => ?_)
    refine Yn (vs:=[.slice (some ⟨sb,o,none⟩) bs.length c,.bool false]) rfl rfl rfl tz_rdr rfl hb13 rfl (fun w14 hb14 hg14 hs14 => ?_)
    have c13 : Chg (fun _ => False) w12 w13:=Chg.grown0 hg13
    have c14 : Chg (· = w12.heap.size) w13 w14:=Chg.grown hg14
    have hz14:=c14.size
    obtain ⟨rb2,hrb2⟩ : ∃ r,r = w12.heap.size:=⟨_,rfl⟩
    obtain ⟨lo2,hlo2⟩ : ∃ r,r = w12.heap.size + 1:=⟨_,rfl⟩
    rw [← hrb2] at hb14 c14
    have m6 : b < rb2:=by have:=hb12.lt;omega
    have C14 : Chg (fun j => j = b ∨ w12.heap.size ≤ j) w12 w14:=(c13.wide (fun _ h => h.elim)).trans (c14.wide (fun j hj => .inr (by have : j = rb2:=hj;omega)))
    have hbb14 : Box w14 b [.int .i16 1,x1,x2,x3,x4,x5,x6,x7,.int .i64 p.n0,.int .i64 p.n1,.int .i16 p.n2,.int .i16 p.n3,mm] 65:=(hb12.chg c13 id).chg c14 (fun e => by have : b = rb2:=e;omega)
    have hi14 : Rdr w14 rb2 sb (some bs):=⟨_,_,hb14,hblim,.inr ⟨o,c,rfl,hle,(hcs.chg c13 id).chg c14 (fun e => by have : sb = rb2:=e;omega),hz⟩,fun _ => by simp⟩
    have m1 : rb2 < lo2:=by omega
    have m2 : sb < lo2:=by omega
    have m3 : rb2 ≠ sb:=by omega
    rw [show (Value.pointer (some ⟨w12.heap.size,0,none⟩)) = .pointer (some ⟨rb2,0,none⟩) by rw [hrb2]]
    repeat (with_reducible first|apply Yd|apply Ya|apply Yc|apply Yb)
    refine Yo rfl (by kernel_rfl) rfl (((Rdk.kr_ok (.iface u0 x0)).rd 103 .i64 (by kernel_rfl) (by kernel_rfl) w14 rb2 sb lo2 (some bs) hi14 m1 m2 (by omega) m3).mono ?_)
    rintro en w15 ⟨y,nd,s15,rfl,c15,hi15,hrp15,hal15,hon15,hrl15⟩
    refine ⟨_,rfl,?_⟩
    have hrd15 : rdP .i64 bs = some ([.lit (.int .i64 (IntKind.i64.wrap (Uz bs)))],[]):=by
     simp only [rdP,Ya9,Yb4]
     rw [if_pos (by omega),List.take_of_length_le (by omega),List.drop_of_length_le (by omega)]
     rfl
    have h15:=hrl15.2.2
    simp only [hrd15] at h15
    obtain ⟨rfl,rfl⟩:=h15
    rw [hon15 rfl] at hrp15
    obtain rfl:=JT hrp15
    have hbb15:=hbb14.chg c15 (fun e => by have : b = rb2:=e;omega)
    have hz15:=c15.size
    repeat first|(with_reducible first|apply Yd|apply Ya|apply Yc|apply Yb)|((with_reducible apply ws);exact rfl;exact rfl)
    refine YA (i:=8) rfl rfl to_i64 rfl hbb15 rfl (fun w16 hb16' hg16 hs16 => ?_)
    have c16 : Chg (· = b) w15 w16:=Chg.grown hg16
    have hb16 : Box w16 b [.int .i16 1,x1,x2,x3,x4,x5,x6,x7,.int .i64 (IntKind.i64.wrap (Uz bs)),.int .i64 p.n1,.int .i16 p.n2,.int .i16 p.n3,mm] 65:=hb16'
    have hi16:=hi15.chg c16 (fun e => by have : rb2 = b:=e;omega) (fun e => hne e.symm)
    have hz16:=c16.size
    have C16:=(C14.trans (c15.wide (fun j (hj : j = rb2) => (.inr (by omega) : j = b ∨ w12.heap.size ≤ j)))).trans (c16.wide (fun j (hj : j = b) => (.inl hj : j = b ∨ w12.heap.size ≤ j)))
    have k16 : Chg (fun j => j = b ∨ w.heap.size ≤ j) w w16:=k12.trans (C16.wide (fun j hj => by rcases hj with h | h;exact .inl h;exact .inr (by have:=k12.size;omega)))
    repeat (with_reducible first|apply Yd|apply Ya|apply Yc|apply Yb)
    refine Yo rfl (by kernel_rfl) rfl ((Rdk.VC w16 rb2 sb (some []) (.iface u0 x0) hi16 (hgk w16 k16)).mono ?_)
    rintro en w17 ⟨rfl,rfl⟩
    refine ⟨_,rfl,?_⟩
    repeat first|(with_reducible first|apply Yd|apply Ya|apply Yc|apply Yb)|((with_reducible apply ws);exact rfl;exact rfl)
    refine Jc rfl (by kernel_rfl) rfl ?_
    repeat (with_reducible first|apply Yc|apply Yb)
    refine Yu rfl rfl ?_
    repeat first|(with_reducible first|apply Ya|apply Yb|apply Yh|apply XS)|((with_reducible apply ws);exact rfl;exact rfl)
    refine VS (r:=(j : Int)) rfl rfl rfl (by rw [IntKind.wrap_u32];omega) ?_
    repeat first|(with_reducible apply Yc)|((with_reducible apply ws);exact rfl;exact rfl)
    have ht17:=ht12.keep C16 (fun r h1 h2 => by rintro (h | h) <;> omega) (by rintro (h | h);exact hne h.symm;omega) (by omega)
    have hx17:=Yn5 hx12 C16 (fun q hq => by rcases hq with h | h;exact .inl ⟨by omega,by rw [h];exact hne⟩;exact .inr h)
    have hr17 : Rdr w17 rb sb _:=hr12.chg C16 (by rintro (h | h);exact n2 h.symm;omega) (by rintro (h | h);exact hne h.symm;omega)
    refine YD j ⟨rfl,rfl,rfl,rfl,rfl,trivial⟩ ⟨R,{ p with n0:=IntKind.i64.wrap (Uz bs) },x1,x2,x3,x4,x5,x6,x7,mm,by simpa using hRl,by omega,fun kv h => hRok kv (by simp [h]),?_,k16,by have:=C16.size;omega,hr17,hb16,ht17,hx17⟩ (by omega)
    rw [← hfold]
    show _ = R.foldl Xw (Xw p (k',bs))
    rw [show Xw p (k',bs) = { p with n0:=IntKind.i64.wrap (Uz bs) } by simp [Xw,k0]]
   ·refine Yu rfl (by simp [k0]) ?_
    repeat first|(with_reducible first|apply Yd|apply Ya|apply Yc|apply Yb)|((with_reducible apply ws);exact rfl;exact rfl)
    by_cases k1 : k' = 1
    ·refine Yp rfl (by simp [k1]) ?_
     repeat (with_reducible first|apply Yd|apply Ya)
     refine Yo rfl (by kernel_rfl) rfl ((Rdk.Jz w10 rb sb _ hr10 n1).mono ?_)
     rintro en w11 ⟨len,s11,rfl,hc11,hr11,hrel11⟩
     refine ⟨_,rfl,?_⟩
     have h11:=hrel11.2
     simp only [Xf pay.length _ hpl0] at h11
     obtain ⟨rfl,rfl⟩:=h11
     have hpl : pay.length = 8:=hkv.2.2.1 (.inr k1)
     refine YY .i64 (r:=(pay.length : Int)) rfl (by kernel_rfl) (by kernel_rfl) rfl (by rw [IntKind.wrap_i64];omega) ?_
     refine Yo rfl (by kernel_rfl) rfl ((Rdk.JN w11 rb sb _ (pay.length : Int) hr11 n1).mono ?_)
     rintro en w12 ⟨val,bs,s12,rfl,hc12,hr12,hsv,hblim,hspan⟩
     refine ⟨_,rfl,?_⟩
     have h12:=hspan
     simp only [Rdk.VD,Xz pay _ _ rfl] at h12
     obtain ⟨rfl,rfl⟩:=h12
     obtain ⟨o,c,hv0,hle,hcs,hz⟩ : ∃ o c,val = .slice (some ⟨sb,o,none⟩) bs.length c ∧ bs.length ≤ c ∧ YE w12 sb o (bv bs) ∧ sb ≠ 0:=by
      rcases hsv with ⟨_,h⟩ | h
      ·rw [h] at hpl;cases hpl
      ·exact h
     subst hv0
     have cA : Chg (· = rb) w10 w12:=hc11.trans hc12
     have hzA:=cA.size
     have hb12:=hb10.chg cA (fun e => n2 e)
     have ht12:=ht10.keep cA (nrb w10) (fun e => n1 e.symm) (by omega)
     have hx12:=Yn5 hx10 cA (by rintro k rfl;exact .inl ⟨l1,n1⟩)
     have k12 : Chg (fun j => j = b ∨ w.heap.size ≤ j) w w12:=k10.trans (cA.wide (fun j hj => .inr (by have : j = rb:=hj;omega)))
     refine Xa rfl (cs:=[.slice (some ⟨sb,o,none⟩) bs.length c,.bool false]) (Yq6 _ _ _) rfl ?_
     refine YJ Yr5 rfl rfl (fun w13 hb13 hg13 hs13 => ?_)
     refine Yn (vs:=[.slice (some ⟨sb,o,none⟩) bs.length c,.bool false]) rfl rfl rfl tz_rdr rfl hb13 rfl (fun w14 hb14 hg14 hs14 => ?_)
     have c13 : Chg (fun _ => False) w12 w13:=Chg.grown0 hg13
     have c14 : Chg (· = w12.heap.size) w13 w14:=Chg.grown hg14
     have hz14:=c14.size
     obtain ⟨rb2,hrb2⟩ : ∃ r,r = w12.heap.size:=⟨_,rfl⟩
     obtain ⟨lo2,hlo2⟩ : ∃ r,r = w12.heap.size + 1:=⟨_,rfl⟩
     rw [← hrb2] at hb14 c14
     have m6 : b < rb2:=by have:=hb12.lt;omega
     have C14 : Chg (fun j => j = b ∨ w12.heap.size ≤ j) w12 w14:=(c13.wide (fun _ h => h.elim)).trans (c14.wide (fun j hj => .inr (by have : j = rb2:=hj;omega)))
     have hbb14 : Box w14 b [.int .i16 1,x1,x2,x3,x4,x5,x6,x7,.int .i64 p.n0,.int .i64 p.n1,.int .i16 p.n2,.int .i16 p.n3,mm] 65:=(hb12.chg c13 id).chg c14 (fun e => by have : b = rb2:=e;omega)
     have hi14 : Rdr w14 rb2 sb (some bs):=⟨_,_,hb14,hblim,.inr ⟨o,c,rfl,hle,(hcs.chg c13 id).chg c14 (fun e => by have : sb = rb2:=e;omega),hz⟩,fun _ => by simp⟩
     have m1 : rb2 < lo2:=by omega
     have m2 : sb < lo2:=by omega
     have m3 : rb2 ≠ sb:=by omega
     rw [show (Value.pointer (some ⟨w12.heap.size,0,none⟩)) = .pointer (some ⟨rb2,0,none⟩) by rw [hrb2]]
     repeat (with_reducible first|apply Yd|apply Ya|apply Yc|apply Yb)
     refine Yo rfl (by kernel_rfl) rfl (((Rdk.kr_ok (.iface u0 x0)).rd 103 .i64 (by kernel_rfl) (by kernel_rfl) w14 rb2 sb lo2 (some bs) hi14 m1 m2 (by omega) m3).mono ?_)
     rintro en w15 ⟨y,nd,s15,rfl,c15,hi15,hrp15,hal15,hon15,hrl15⟩
     refine ⟨_,rfl,?_⟩
     have hrd15 : rdP .i64 bs = some ([.lit (.int .i64 (IntKind.i64.wrap (Uz bs)))],[]):=by
      simp only [rdP,Ya9,Yb4]
      rw [if_pos (by omega),List.take_of_length_le (by omega),List.drop_of_length_le (by omega)]
      rfl
     have h15:=hrl15.2.2
     simp only [hrd15] at h15
     obtain ⟨rfl,rfl⟩:=h15
     rw [hon15 rfl] at hrp15
     obtain rfl:=JT hrp15
     have hbb15:=hbb14.chg c15 (fun e => by have : b = rb2:=e;omega)
     have hz15:=c15.size
     repeat first|(with_reducible first|apply Yd|apply Ya|apply Yc|apply Yb)|((with_reducible apply ws);exact rfl;exact rfl)
     refine YA (i:=9) rfl rfl to_i64 rfl hbb15 rfl (fun w16 hb16' hg16 hs16 => ?_)
     have c16 : Chg (· = b) w15 w16:=Chg.grown hg16
     have hb16 : Box w16 b [.int .i16 1,x1,x2,x3,x4,x5,x6,x7,.int .i64 p.n0,.int .i64 (IntKind.i64.wrap (Uz bs)),.int .i16 p.n2,.int .i16 p.n3,mm] 65:=hb16'
     have hi16:=hi15.chg c16 (fun e => by have : rb2 = b:=e;omega) (fun e => hne e.symm)
     have hz16:=c16.size
     have C16:=(C14.trans (c15.wide (fun j (hj : j = rb2) => (.inr (by omega) : j = b ∨ w12.heap.size ≤ j)))).trans (c16.wide (fun j (hj : j = b) => (.inl hj : j = b ∨ w12.heap.size ≤ j)))
     have k16 : Chg (fun j => j = b ∨ w.heap.size ≤ j) w w16:=k12.trans (C16.wide (fun j hj => by rcases hj with h | h;exact .inl h;exact .inr (by have:=k12.size;omega)))
     repeat (with_reducible first|apply Yd|apply Ya|apply Yc|apply Yb)
     refine Yo rfl (by kernel_rfl) rfl ((Rdk.VC w16 rb2 sb (some []) (.iface u0 x0) hi16 (hgk w16 k16)).mono ?_)
     rintro en w17 ⟨rfl,rfl⟩
     refine ⟨_,rfl,?_⟩
     repeat first|(with_reducible first|apply Yd|apply Ya|apply Yc|apply Yb)|((with_reducible apply ws);exact rfl;exact rfl)
     refine Jc rfl (by kernel_rfl) rfl ?_
     repeat (with_reducible first|apply Yc|apply Yb)
     refine Yu rfl rfl ?_
     repeat first|(with_reducible first|apply Ya|apply Yb|apply Yh|apply XS)|((with_reducible apply ws);exact rfl;exact rfl)
     refine VS (r:=(j : Int)) rfl rfl rfl (by rw [IntKind.wrap_u32];omega) ?_
     repeat first|(with_reducible apply Yc)|((with_reducible apply ws);exact rfl;exact rfl)
     have ht17:=ht12.keep C16 (fun r h1 h2 => by rintro (h | h) <;> omega) (by rintro (h | h);exact hne h.symm;omega) (by omega)
     have hx17:=Yn5 hx12 C16 (fun q hq => by rcases hq with h | h;exact .inl ⟨by omega,by rw [h];exact hne⟩;exact .inr h)
     have hr17 : Rdr w17 rb sb _:=hr12.chg C16 (by rintro (h | h);exact n2 h.symm;omega) (by rintro (h | h);exact hne h.symm;omega)
     refine YD j ⟨rfl,rfl,rfl,rfl,rfl,trivial⟩ ⟨R,{ p with n1:=IntKind.i64.wrap (Uz bs) },x1,x2,x3,x4,x5,x6,x7,mm,by simpa using hRl,by omega,fun kv h => hRok kv (by simp [h]),?_,k16,by have:=C16.size;omega,hr17,hb16,ht17,hx17⟩ (by omega)
     rw [← hfold]
     show _ = R.foldl Xw (Xw p (k',bs))
     rw [show Xw p (k',bs) = { p with n1:=IntKind.i64.wrap (Uz bs) } by simp [Xw,k1]]
    ·refine Yu rfl (by simp;omega) ?_
     repeat first|(with_reducible first|apply Yd|apply Ya|apply Yc|apply Yb)|((with_reducible apply ws);exact rfl;exact rfl)
     by_cases k2 : k' = 2
     ·refine Yp rfl (by simp [k2]) ?_
      repeat (with_reducible first|apply Yd|apply Ya)
      refine Yo rfl (by kernel_rfl) rfl ((Rdk.Jz w10 rb sb _ hr10 n1).mono ?_)
      rintro en w11 ⟨len,s11,rfl,hc11,hr11,hrel11⟩
      refine ⟨_,rfl,?_⟩
      have h11:=hrel11.2
      simp only [Xf pay.length _ hpl0] at h11
      obtain ⟨rfl,rfl⟩:=h11
      have hpl : pay.length = 2:=hkv.2.2.2 (.inl k2)
      refine YY .i64 (r:=(pay.length : Int)) rfl (by kernel_rfl) (by kernel_rfl) rfl (by rw [IntKind.wrap_i64];omega) ?_
      refine Yo rfl (by kernel_rfl) rfl ((Rdk.JN w11 rb sb _ (pay.length : Int) hr11 n1).mono ?_)
      rintro en w12 ⟨val,bs,s12,rfl,hc12,hr12,hsv,hblim,hspan⟩
      refine ⟨_,rfl,?_⟩
      have h12:=hspan
      simp only [Rdk.VD,Xz pay _ _ rfl] at h12
      obtain ⟨rfl,rfl⟩:=h12
      obtain ⟨o,c,hv0,hle,hcs,hz⟩ : ∃ o c,val = .slice (some ⟨sb,o,none⟩) bs.length c ∧ bs.length ≤ c ∧ YE w12 sb o (bv bs) ∧ sb ≠ 0:=by
       rcases hsv with ⟨_,h⟩ | h
       ·rw [h] at hpl;cases hpl
       ·exact h
      subst hv0
      have cA : Chg (· = rb) w10 w12:=hc11.trans hc12
      have hzA:=cA.size
      have hb12:=hb10.chg cA (fun e => n2 e)
      have ht12:=ht10.keep cA (nrb w10) (fun e => n1 e.symm) (by omega)
      have hx12:=Yn5 hx10 cA (by rintro k rfl;exact .inl ⟨l1,n1⟩)
      have k12 : Chg (fun j => j = b ∨ w.heap.size ≤ j) w w12:=k10.trans (cA.wide (fun j hj => .inr (by have : j = rb:=hj;omega)))
      refine Xa rfl (cs:=[.slice (some ⟨sb,o,none⟩) bs.length c,.bool false]) (Yq6 _ _ _) rfl ?_
      refine YJ Yr5 rfl rfl (fun w13 hb13 hg13 hs13 => ?_)
      refine Yn (vs:=[.slice (some ⟨sb,o,none⟩) bs.length c,.bool false]) rfl rfl rfl tz_rdr rfl hb13 rfl (fun w14 hb14 hg14 hs14 => ?_)
      have c13 : Chg (fun _ => False) w12 w13:=Chg.grown0 hg13
      have c14 : Chg (· = w12.heap.size) w13 w14:=Chg.grown hg14
      have hz14:=c14.size
      obtain ⟨rb2,hrb2⟩ : ∃ r,r = w12.heap.size:=⟨_,rfl⟩
      obtain ⟨lo2,hlo2⟩ : ∃ r,r = w12.heap.size + 1:=⟨_,rfl⟩
      rw [← hrb2] at hb14 c14
      have m6 : b < rb2:=by have:=hb12.lt;omega
      have C14 : Chg (fun j => j = b ∨ w12.heap.size ≤ j) w12 w14:=(c13.wide (fun _ h => h.elim)).trans (c14.wide (fun j hj => .inr (by have : j = rb2:=hj;omega)))
      have hbb14 : Box w14 b [.int .i16 1,x1,x2,x3,x4,x5,x6,x7,.int .i64 p.n0,.int .i64 p.n1,.int .i16 p.n2,.int .i16 p.n3,mm] 65:=(hb12.chg c13 id).chg c14 (fun e => by have : b = rb2:=e;omega)
      have hi14 : Rdr w14 rb2 sb (some bs):=⟨_,_,hb14,hblim,.inr ⟨o,c,rfl,hle,(hcs.chg c13 id).chg c14 (fun e => by have : sb = rb2:=e;omega),hz⟩,fun _ => by simp⟩
      have m1 : rb2 < lo2:=by omega
      have m2 : sb < lo2:=by omega
      have m3 : rb2 ≠ sb:=by omega
      rw [show (Value.pointer (some ⟨w12.heap.size,0,none⟩)) = .pointer (some ⟨rb2,0,none⟩) by rw [hrb2]]
      repeat (with_reducible first|apply Yd|apply Ya|apply Yc|apply Yb)
      refine Yo rfl (by kernel_rfl) rfl (((Rdk.kr_ok (.iface u0 x0)).rd 102 .i16 (by kernel_rfl) (by kernel_rfl) w14 rb2 sb lo2 (some bs) hi14 m1 m2 (by omega) m3).mono ?_)
      rintro en w15 ⟨y,nd,s15,rfl,c15,hi15,hrp15,hal15,hon15,hrl15⟩
      refine ⟨_,rfl,?_⟩
      have hrd15 : rdP .i16 bs = some ([.lit (.int .i16 (IntKind.i16.wrap (Uz bs)))],[]):=by
       simp only [rdP,Ya9,Yb4]
       rw [if_pos (by omega),List.take_of_length_le (by omega),List.drop_of_length_le (by omega)]
       rfl
      have h15:=hrl15.2.2
      simp only [hrd15] at h15
      obtain ⟨rfl,rfl⟩:=h15
      rw [hon15 rfl] at hrp15
      obtain rfl:=JT hrp15
      have hbb15:=hbb14.chg c15 (fun e => by have : b = rb2:=e;omega)
      have hz15:=c15.size
      repeat first|(with_reducible first|apply Yd|apply Ya|apply Yc|apply Yb)|((with_reducible apply ws);exact rfl;exact rfl)
      refine YA (i:=10) rfl rfl to_i16 rfl hbb15 rfl (fun w16 hb16' hg16 hs16 => ?_)
      have c16 : Chg (· = b) w15 w16:=Chg.grown hg16
      have hb16 : Box w16 b [.int .i16 1,x1,x2,x3,x4,x5,x6,x7,.int .i64 p.n0,.int .i64 p.n1,.int .i16 (IntKind.i16.wrap (Uz bs)),.int .i16 p.n3,mm] 65:=hb16'
      have hi16:=hi15.chg c16 (fun e => by have : rb2 = b:=e;omega) (fun e => hne e.symm)
      have hz16:=c16.size
      have C16:=(C14.trans (c15.wide (fun j (hj : j = rb2) => (.inr (by omega) : j = b ∨ w12.heap.size ≤ j)))).trans (c16.wide (fun j (hj : j = b) => (.inl hj : j = b ∨ w12.heap.size ≤ j)))
      have k16 : Chg (fun j => j = b ∨ w.heap.size ≤ j) w w16:=k12.trans (C16.wide (fun j hj => by rcases hj with h | h;exact .inl h;exact .inr (by have:=k12.size;omega)))
      repeat (with_reducible first|apply Yd|apply Ya|apply Yc|apply Yb)
      refine Yo rfl (by kernel_rfl) rfl ((Rdk.VC w16 rb2 sb (some []) (.iface u0 x0) hi16 (hgk w16 k16)).mono ?_)
      rintro en w17 ⟨rfl,rfl⟩
      refine ⟨_,rfl,?_⟩
      repeat first|(with_reducible first|apply Yd|apply Ya|apply Yc|apply Yb)|((with_reducible apply ws);exact rfl;exact rfl)
      refine Jc rfl (by kernel_rfl) rfl ?_
      repeat (with_reducible first|apply Yc|apply Yb)
      refine Yu rfl rfl ?_
      repeat first|(with_reducible first|apply Ya|apply Yb|apply Yh|apply XS)|((with_reducible apply ws);exact rfl;exact rfl)
      refine VS (r:=(j : Int)) rfl rfl rfl (by rw [IntKind.wrap_u32];omega) ?_
      repeat first|(with_reducible apply Yc)|((with_reducible apply ws);exact rfl;exact rfl)
      have ht17:=ht12.keep C16 (fun r h1 h2 => by rintro (h | h) <;> omega) (by rintro (h | h);exact hne h.symm;omega) (by omega)
      have hx17:=Yn5 hx12 C16 (fun q hq => by rcases hq with h | h;exact .inl ⟨by omega,by rw [h];exact hne⟩;exact .inr h)
      have hr17 : Rdr w17 rb sb _:=hr12.chg C16 (by rintro (h | h);exact n2 h.symm;omega) (by rintro (h | h);exact hne h.symm;omega)
      refine YD j ⟨rfl,rfl,rfl,rfl,rfl,trivial⟩ ⟨R,{ p with n2:=IntKind.i16.wrap (Uz bs) },x1,x2,x3,x4,x5,x6,x7,mm,by simpa using hRl,by omega,fun kv h => hRok kv (by simp [h]),?_,k16,by have:=C16.size;omega,hr17,hb16,ht17,hx17⟩ (by omega)
      rw [← hfold]
      show _ = R.foldl Xw (Xw p (k',bs))
      rw [show Xw p (k',bs) = { p with n2:=IntKind.i16.wrap (Uz bs) } by simp [Xw,k2]]
     ·refine Yu rfl (by simp;omega) ?_
      repeat first|(with_reducible first|apply Yd|apply Ya|apply Yc|apply Yb)|((with_reducible apply ws);exact rfl;exact rfl)
      by_cases k3 : k' = 3
      ·refine Yp rfl (by simp [k3]) ?_
       repeat (with_reducible first|apply Yd|apply Ya)
       refine Yo rfl (by kernel_rfl) rfl ((Rdk.Jz w10 rb sb _ hr10 n1).mono ?_)
       rintro en w11 ⟨len,s11,rfl,hc11,hr11,hrel11⟩
       refine ⟨_,rfl,?_⟩
       have h11:=hrel11.2
       simp only [Xf pay.length _ hpl0] at h11
       obtain ⟨rfl,rfl⟩:=h11
       have hpl : pay.length = 2:=hkv.2.2.2 (.inr k3)
       refine YY .i64 (r:=(pay.length : Int)) rfl (by kernel_rfl) (by kernel_rfl) rfl (by rw [IntKind.wrap_i64];omega) ?_
       refine Yo rfl (by kernel_rfl) rfl ((Rdk.JN w11 rb sb _ (pay.length : Int) hr11 n1).mono ?_)
       rintro en w12 ⟨val,bs,s12,rfl,hc12,hr12,hsv,hblim,hspan⟩
       refine ⟨_,rfl,?_⟩
       have h12:=hspan
       simp only [Rdk.VD,Xz pay _ _ rfl] at h12
       obtain ⟨rfl,rfl⟩:=h12
       obtain ⟨o,c,hv0,hle,hcs,hz⟩ : ∃ o c,val = .slice (some ⟨sb,o,none⟩) bs.length c ∧ bs.length ≤ c ∧ YE w12 sb o (bv bs) ∧ sb ≠ 0:=by
        rcases hsv with ⟨_,h⟩ | h
        ·rw [h] at hpl;cases hpl
        ·exact h
       subst hv0
       have cA : Chg (· = rb) w10 w12:=hc11.trans hc12
       have hzA:=cA.size
       have hb12:=hb10.chg cA (fun e => n2 e)
       have ht12:=ht10.keep cA (nrb w10) (fun e => n1 e.symm) (by omega)
       have hx12:=Yn5 hx10 cA (by rintro k rfl;exact .inl ⟨l1,n1⟩)
       have k12 : Chg (fun j => j = b ∨ w.heap.size ≤ j) w w12:=k10.trans (cA.wide (fun j hj => .inr (by have : j = rb:=hj;omega)))
       refine Xa rfl (cs:=[.slice (some ⟨sb,o,none⟩) bs.length c,.bool false]) (Yq6 _ _ _) rfl ?_
       refine YJ Yr5 rfl rfl (fun w13 hb13 hg13 hs13 => ?_)
       refine Yn (vs:=[.slice (some ⟨sb,o,none⟩) bs.length c,.bool false]) rfl rfl rfl tz_rdr rfl hb13 rfl (fun w14 hb14 hg14 hs14 => ?_)
       have c13 : Chg (fun _ => False) w12 w13:=Chg.grown0 hg13
       have c14 : Chg (· = w12.heap.size) w13 w14:=Chg.grown hg14
       have hz14:=c14.size
       obtain ⟨rb2,hrb2⟩ : ∃ r,r = w12.heap.size:=⟨_,rfl⟩
       obtain ⟨lo2,hlo2⟩ : ∃ r,r = w12.heap.size + 1:=⟨_,rfl⟩
       rw [← hrb2] at hb14 c14
       have m6 : b < rb2:=by have:=hb12.lt;omega
       have C14 : Chg (fun j => j = b ∨ w12.heap.size ≤ j) w12 w14:=(c13.wide (fun _ h => h.elim)).trans (c14.wide (fun j hj => .inr (by have : j = rb2:=hj;omega)))
       have hbb14 : Box w14 b [.int .i16 1,x1,x2,x3,x4,x5,x6,x7,.int .i64 p.n0,.int .i64 p.n1,.int .i16 p.n2,.int .i16 p.n3,mm] 65:=(hb12.chg c13 id).chg c14 (fun e => by have : b = rb2:=e;omega)
       have hi14 : Rdr w14 rb2 sb (some bs):=⟨_,_,hb14,hblim,.inr ⟨o,c,rfl,hle,(hcs.chg c13 id).chg c14 (fun e => by have : sb = rb2:=e;omega),hz⟩,fun _ => by simp⟩
       have m1 : rb2 < lo2:=by omega
       have m2 : sb < lo2:=by omega
       have m3 : rb2 ≠ sb:=by omega
       rw [show (Value.pointer (some ⟨w12.heap.size,0,none⟩)) = .pointer (some ⟨rb2,0,none⟩) by rw [hrb2]]
       repeat (with_reducible first|apply Yd|apply Ya|apply Yc|apply Yb)
       refine Yo rfl (by kernel_rfl) rfl (((Rdk.kr_ok (.iface u0 x0)).rd 102 .i16 (by kernel_rfl) (by kernel_rfl) w14 rb2 sb lo2 (some bs) hi14 m1 m2 (by omega) m3).mono ?_)
       rintro en w15 ⟨y,nd,s15,rfl,c15,hi15,hrp15,hal15,hon15,hrl15⟩
       refine ⟨_,rfl,?_⟩
       have hrd15 : rdP .i16 bs = some ([.lit (.int .i16 (IntKind.i16.wrap (Uz bs)))],[]):=by
        simp only [rdP,Ya9,Yb4]
        rw [if_pos (by omega),List.take_of_length_le (by omega),List.drop_of_length_le (by omega)]
        rfl
       have h15:=hrl15.2.2
       simp only [hrd15] at h15
       obtain ⟨rfl,rfl⟩:=h15
       rw [hon15 rfl] at hrp15
       obtain rfl:=JT hrp15
       have hbb15:=hbb14.chg c15 (fun e => by have : b = rb2:=e;omega)
       have hz15:=c15.size
       repeat first|(with_reducible first|apply Yd|apply Ya|apply Yc|apply Yb)|((with_reducible apply ws);exact rfl;exact rfl)
       refine YA (i:=11) rfl rfl to_i16 rfl hbb15 rfl (fun w16 hb16' hg16 hs16 => ?_)
       have c16 : Chg (· = b) w15 w16:=Chg.grown hg16
       have hb16 : Box w16 b [.int .i16 1,x1,x2,x3,x4,x5,x6,x7,.int .i64 p.n0,.int .i64 p.n1,.int .i16 p.n2,.int .i16 (IntKind.i16.wrap (Uz bs)),mm] 65:=hb16'
       have hi16:=hi15.chg c16 (fun e => by have : rb2 = b:=e;omega) (fun e => hne e.symm)
       have hz16:=c16.size
       have C16:=(C14.trans (c15.wide (fun j (hj : j = rb2) => (.inr (by omega) : j = b ∨ w12.heap.size ≤ j)))).trans (c16.wide (fun j (hj : j = b) => (.inl hj : j = b ∨ w12.heap.size ≤ j)))
       have k16 : Chg (fun j => j = b ∨ w.heap.size ≤ j) w w16:=k12.trans (C16.wide (fun j hj => by rcases hj with h | h;exact .inl h;exact .inr (by have:=k12.size;omega)))
       repeat (with_reducible first|apply Yd|apply Ya|apply Yc|apply Yb)
       refine Yo rfl (by kernel_rfl) rfl ((Rdk.VC w16 rb2 sb (some []) (.iface u0 x0) hi16 (hgk w16 k16)).mono ?_)
       rintro en w17 ⟨rfl,rfl⟩
       refine ⟨_,rfl,?_⟩
       repeat first|(with_reducible first|apply Yd|apply Ya|apply Yc|apply Yb)|((with_reducible apply ws);exact rfl;exact rfl)
       refine Jc rfl (by kernel_rfl) rfl ?_
       repeat (with_reducible first|apply Yc|apply Yb)
       refine Yu rfl rfl ?_
       repeat first|(with_reducible first|apply Ya|apply Yb|apply Yh|apply XS)|((with_reducible apply ws);exact rfl;exact rfl)
       refine VS (r:=(j : Int)) rfl rfl rfl (by rw [IntKind.wrap_u32];omega) ?_
       repeat first|(with_reducible apply Yc)|((with_reducible apply ws);exact rfl;exact rfl)
       have ht17:=ht12.keep C16 (fun r h1 h2 => by rintro (h | h) <;> omega) (by rintro (h | h);exact hne h.symm;omega) (by omega)
       have hx17:=Yn5 hx12 C16 (fun q hq => by rcases hq with h | h;exact .inl ⟨by omega,by rw [h];exact hne⟩;exact .inr h)
       have hr17 : Rdr w17 rb sb _:=hr12.chg C16 (by rintro (h | h);exact n2 h.symm;omega) (by rintro (h | h);exact hne h.symm;omega)
       refine YD j ⟨rfl,rfl,rfl,rfl,rfl,trivial⟩ ⟨R,{ p with n3:=IntKind.i16.wrap (Uz bs) },x1,x2,x3,x4,x5,x6,x7,mm,by simpa using hRl,by omega,fun kv h => hRok kv (by simp [h]),?_,k16,by have:=C16.size;omega,hr17,hb16,ht17,hx17⟩ (by omega)
       rw [← hfold]
       show _ = R.foldl Xw (Xw p (k',bs))
       rw [show Xw p (k',bs) = { p with n3:=IntKind.i16.wrap (Uz bs) } by simp [Xw,k3]]
      ·refine Yu rfl (by simp;omega) ?_
       skip
       refine XJ [(0,.pointer (some ⟨b,0,none⟩)),(1,.pointer (some ⟨b,0,none⟩)),(2,.pointer (some ⟨b,12,none⟩)),(3,.int .u32 (k' : Int))] [7,6,5,4]
        (fun vals w' => match vals with
         | [] => Chg (fun _ => False) w10 w'
         | [v4] => ∃ (len : Nat) (s3 : Option (List UInt8)),v4 = .int .u32 (len : Int) ∧ Chg (· = rb) w10 w' ∧ Rdr w' rb sb s3 ∧ Rdk.UvRel (some (uvar pay.length ++ (pay ++ R.flatMap fun kv => UF kv.1 kv.2))) len s3
         | [v5,_] => ∃ (len : Nat) (s3 : Option (List UInt8)),v5 = .int .i64 (len : Int) ∧ Chg (· = rb) w10 w' ∧ Rdr w' rb sb s3 ∧ Rdk.UvRel (some (uvar pay.length ++ (pay ++ R.flatMap fun kv => UF kv.1 kv.2))) len s3
         | [v6,_,_] => ∃ (len : Nat) (s3 : Option (List UInt8)) (bs : List UInt8) (s4 : Option (List UInt8)),Chg (· = rb) w10 w' ∧ Rdr w' rb sb s4 ∧ Jv w' sb v6 bs ∧ Rdk.UvRel (some (uvar pay.length ++ (pay ++ R.flatMap fun kv => UF kv.1 kv.2))) len s3 ∧ Rdk.VD (len : Int) s3 bs s4
         | _ :: _ => ∃ (len : Nat) (s3 : Option (List UInt8)) (bs : List UInt8) (s4 : Option (List UInt8)) (wm : World) (m' : Value),Rdk.UvRel (some (uvar pay.length ++ (pay ++ R.flatMap fun kv => UF kv.1 kv.2))) len s3 ∧ Rdk.VD (len : Int) s3 bs s4 ∧ Chg (· = rb) w10 wm ∧ Rdr wm rb sb s4 ∧ Box w' b [.int .i16 1,x1,x2,x3,x4,x5,x6,x7,.int .i64 p.n0,.int .i64 p.n1,.int .i16 p.n2,.int .i16 p.n3,m'] 65 ∧ Rdk.Jw w' sb lo m' (Vg k' bs p.u) ∧ Chg (fun j => j = b ∨ mm = .map (some j) ∨ wm.heap.size ≤ j) wm w' ∧ (m' = mm ∨ ∃ r,m' = .map (some r) ∧ wm.heap.size ≤ r))
        mixed rfl rfl rfl rfl rfl (by show ([0,1,2,3] : List Nat).Nodup;decide) rfl rfl (by decide) rfl rfl rfl rfl (XP _ _) ?_ ⟨?_,?_,?_,?_,trivial⟩ ?_
       ·intro q hq vals w' hC ac kc
        simp only [List.mem_cons,List.not_mem_nil,or_false] at hq
        rcases hq with rfl | rfl | rfl | rfl
        ·exact gv rfl rfl (Yl kc rfl)
        ·exact gv rfl rfl (Jl kc rfl)
        ·exact gv rfl rfl (Yi kc rfl fo_tags)
        ·exact gv rfl rfl (Yl kc rfl)
       ·rintro vals w' hvl hC ac kc
        match vals,hvl with
        | [v6,v5,v4],_ =>
         obtain ⟨len,s3,bs,s4,hc,hr',hsv,hu,hsp⟩:=hC
         have hz:=hc.size
         refine ⟨_,rfl,Yz kc rfl (by kernel_rfl) ((fn_setAt w' b 12 sb lo k' v6 mm p.u _ bs _ (hb10.chg hc (fun e => n2 e)) rfl (ht10.keep hc (nrb w10) (fun e => n1 e.symm) (by omega)) hsv (by omega) (by omega) (by omega) hne).mono ?_)⟩
         rintro e w'' ⟨rfl,m',hb',ht',hc',hm'⟩
         exact ⟨_,rfl,len,s3,bs,s4,w',m',hu,hsp,hc,hr',hb',ht',hc',hm'⟩
       ·rintro vals w' hvl hC ac kc
        match vals,hvl with
        | [v5,v4],_ =>
         obtain ⟨len,s3,rfl,hc,hr',hu⟩:=hC
         refine ⟨_,rfl,Yz kc rfl (by kernel_rfl) ((Rdk.JN w' rb sb s3 (len : Int) hr' n1).mono ?_)⟩
         rintro e w'' ⟨val,bs,s4,rfl,hc',hr'',hsv,_,hsp⟩
         exact ⟨_,rfl,len,s3,bs,s4,hc.trans hc',hr'',hsv,hu,hsp⟩
       ·rintro vals w' hvl hC ac kc
        match vals,hvl with
        | [v4],_ =>
         obtain ⟨len,s3,rfl,hc,hr',hu⟩:=hC
         have hlen:=hu.1
         refine ⟨_,rfl,Rdk.Yk7 .i64 kc rfl (by kernel_rfl) (by kernel_rfl) ⟨len,s3,?_,hc,hr',hu⟩⟩
         rw [show IntKind.i64.wrap (len : Int) = (len : Int) by rw [IntKind.wrap_i64];omega]
       ·rintro vals w' hvl hC ac kc
        match vals,hvl with
        | [],_ =>
         refine ⟨_,rfl,Yz kc rfl (by kernel_rfl) ((Rdk.Jz w' rb sb _ (hr10.chg hC id id) n1).mono ?_)⟩
         rintro e w'' ⟨len,s3,rfl,hc',hr'',hu⟩
         exact ⟨_,rfl,len,s3,rfl,(hC.wide (fun _ h => h.elim)).trans hc',hr'',hu⟩
       ·rintro vals w' hvl hC
        match vals,hvl with
        | [v7,v6,v5,v4],_ =>
         obtain ⟨len,s3,bs,s4,wm,m',hu,hsp,hcm,hrm,hb',ht',hc',hm'⟩:=hC
         have hzm:=hcm.size
         have hz':=hc'.size
         have h11:=hu.2
         simp only [Xf pay.length _ hpl0] at h11
         obtain ⟨rfl,rfl⟩:=h11
         simp only [Rdk.VD,Xz pay _ _ rfl] at hsp
         obtain ⟨rfl,rfl⟩:=hsp
         repeat first|(with_reducible first|apply Ya|apply Yb|apply XS)|((with_reducible apply ws);exact rfl;exact rfl)
         refine VS (r:=(j : Int)) rfl rfl rfl (by rw [IntKind.wrap_u32];omega) ?_
         repeat first|(with_reducible apply Yc)|((with_reducible apply ws);exact rfl;exact rfl)
         have htm:=ht10.keep hcm (nrb w10) (fun e => n1 e.symm) (by omega)
         have nM : ∀ q : Nat,q = sb ∨ q = rb → ¬ (fun j => j = b ∨ mm = .map (some j) ∨ wm.heap.size ≤ j) q:=by
          intro q hq h
          have hrl : rb < wm.heap.size:=by omega
          rcases h with h | h | h
          ·rcases hq with e | e <;> omega
          ·have:=tagsAt_lt htm h
           rcases hq with e | e <;> omega
          ·rcases hq with e | e <;> omega
         have toM : ∀ {ds : List D} {cs : List Value},YG (Qm sb lo wm mm) wm ds cs → YG (Qm sb lo w' m') w' ds cs:=fun h => h.up (fun q hq => ⟨⟨hq.1.1,Nat.lt_of_lt_of_le hq.1.2 hz'⟩,by
          rcases hm' with rfl | ⟨r,rfl,hr0⟩
          ·exact hq.2
          ·have:=hq.1.2
           intro e
           simp only [Value.map.injEq,Option.some.injEq] at e
           omega⟩) (fun q hq => hc'.block q hq.1.2 (by
          rintro (h | h | h)
          ·rcases hq.1.1 with e | e
           ·exact hne (h.symm.trans e)
           ·omega
          ·exact hq.2 h
          ·have:=hq.1.2;omega))
         have kW : Chg (fun j => j = b ∨ w.heap.size ≤ j) w w':=(k10.trans (hcm.wide (fun j hj => .inr (by have : j = rb:=hj;omega)))).trans (hc'.wide (fun j hj => by
          rcases hj with h | h | h
          ·exact .inl h
          ·exact .inr (by have:=tagsAt_lt htm h;omega)
          ·exact .inr (by have:=k10.size;omega)))
         refine YD j ⟨rfl,rfl,rfl,rfl,rfl,trivial⟩ ⟨R,{ p with u:=Vg k' bs p.u },x1,x2,x3,x4,x5,x6,x7,m',by simpa using hRl,by omega,fun kv h => hRok kv (by simp [h]),?_,kW,by omega,hrm.chg hc' (nM rb (.inr rfl)) (nM sb (.inl rfl)),hb',ht',toM (Yn5 hx10 hcm (by rintro k rfl;exact .inl ⟨l1,n1⟩))⟩ (by omega)
         rw [← hfold]
         show _ = R.foldl Xw (Xw p (k',bs))
         rw [show Xw p (k',bs) = { p with u:=Vg k' bs p.u } by simp [Xw,k0,k1,k2,k3]]
 ·intro S' a6 w6 hchk hB hF
  exfalso
  have hF:=hF _ rfl
  unfold XO at hF
  simp only [chk,Bool.and_eq_true,decide_eq_true_eq] at hchk
  obtain ⟨⟨⟨⟨⟨hno,hsl⟩,hdf⟩,hmf⟩,hzb⟩,hsh⟩:=hchk
  have hno:=Ya1 hno
  have hdf:=ziEs_out hdf
  have hmf : mFsz 1 true true 1 F7 S'.acts = some []:=by
   split at hmf
   ·assumption
   ·cases hmf
  have hw : Xc 1 true m.fields t = wFs 1 true F7 0 (UU 1 F7 t) ++ (if true then uvar (YS 1 true m.fields t).length ++ (YS 1 true m.fields t).flatMap (fun kv => UF kv.1 kv.2) else ([] : List UInt8)):=by
   rw [wFs_fit 1 true F7 (tab7 1) t]
   unfold Xc asm
   rw [wFs_m]
   simp
  have hR:=Yb3 1 true true (fun _ => rfl) F7 S'.acts [] 1 noPt7 hmf 0 (UU 1 F7 t) (fitS7 1 t ht)
  have hZ:=Jd (vs:=((CV 1).drop 1).take 7) noPt7 hzb hsh
  obtain ⟨nw,new,e1,_⟩:=hR [.lit (.int .i16 1)] (YI (((CV 1).drop 1).take 7)) (YI ((CV 1).drop 8)) (if true then uvar (YS 1 true m.fields t).length ++ (YS 1 true m.fields t).flatMap (fun kv => UF kv.1 kv.2) else ([] : List UInt8)) hsh hZ (fun d hd => by rw [List.mem_singleton] at hd;subst hd;rfl) (UA _) rfl
  have hlits : YI S'.dfl = [.lit (.int .i16 1)] ++ YI (((CV 1).drop 1).take 7) ++ YI ((CV 1).drop 8):=by rw [hdf];rfl
  have:=hF _ (by rw [hlits,hw,e1];simp only [rdAs];rfl)
  rw [hno] at this
  exact this
end Txr

namespace Txr
open Go Go.RowKit
theorem Ys5 {tg : Bool} : ∀ {f1 f2 : List Fld} {a1 a2 : List D} {l1 l2 : List Tree},YP tg f1 a1 l1 → YP tg f2 a2 l2 → YP tg (f1 ++ f2) (a1 ++ a2) (l1 ++ l2)
 | [],f2,a1,a2,l1,l2,h,k => by
  simp only [YP] at h
  obtain ⟨rfl,rfl⟩:=h
  exact k
 | f :: f1,f2,a1,a2,l1,l2,h,k => by
  simp only [YP] at h
  obtain ⟨a,b,x,r,rfl,rfl,h1,h2⟩:=h
  simp only [List.cons_append,YP,List.append_assoc]
  exact ⟨a,b ++ a2,x,r ++ l2,rfl,rfl,h1,Ys5 h2 k⟩
theorem Yh2 {tg : Bool} : ∀ {f1 f2 : List Fld} {ds : List D} {l : List Tree},YP tg (f1 ++ f2) ds l → ∃ a1 a2 l1 l2,ds = a1 ++ a2 ∧ l = l1 ++ l2 ∧ YP tg f1 a1 l1 ∧ YP tg f2 a2 l2
 | [],f2,ds,l,h => ⟨[],ds,[],l,rfl,rfl,by simp [YP],h⟩
 | f :: f1,f2,ds,l,h => by
  simp only [List.cons_append,YP] at h
  obtain ⟨a,b,x,r,rfl,rfl,h1,h2⟩:=h
  obtain ⟨a1,a2,l1,l2,rfl,rfl,k1,k2⟩:=Yh2 h2
  refine ⟨a ++ a1,a2,x :: l1,l2,by simp,rfl,?_,k2⟩
  simp only [YP]
  exact ⟨a,a1,x,l1,rfl,rfl,h1,k1⟩
theorem toFs_app {ver : Int} {flex : Bool} : ∀ {f1 f2 : List Fld} {i : Nat} {t : Tree} {l1 l2 : List Tree},ToFs ver flex f1 i t l1 → ToFs ver flex f2 (i + f1.length) t l2 → ToFs ver flex (f1 ++ f2) i t (l1 ++ l2)
 | [],f2,i,t,l1,l2,h,k => by
  simp only [ToFs] at h
  subst h
  exact k
 | f :: f1,f2,i,t,l1,l2,h,k => by
  simp only [ToFs] at h
  obtain ⟨x,r,rfl,h1,h2⟩:=h
  simp only [List.cons_append,ToFs]
  refine ⟨x,r ++ l2,rfl,h1,toFs_app h2 ?_⟩
  rw [show i + 1 + f1.length = i + (f :: f1).length by simp;omega]
  exact k
theorem oth_keys {fs : List Fld} {u : List (Nat × List UInt8)} (hu : ∀ kv ∈ u,kv.1 < 4294967296) : ∀ kv ∈ Xj fs u,kv.1 < 4294967296:=by
 intro kv hkv
 simp only [Xj,List.mem_map] at hkv
 obtain ⟨x,hx,rfl⟩:=hkv
 exact hu x (Yg2 fs u x hx)
theorem oth_len (fs : List Fld) (u : List (Nat × List UInt8)) : (Xj fs u).length ≤ 32767:=by
 have:=JR fs u
 simp only [Vf] at this
 simpa [Xj] using this
def gotP (flex : Bool) (t : Tree) : TxP:=if flex then ⟨tgN .i64 g0 (att t 7),tgN .i64 g1 (att t 8),tgN .i16 g2 (att t 9),tgN .i16 g3 (att t 10),Xj m.fields t.u⟩ else tx0
def four (p : TxP) : List D:=[.lit (.int .i64 p.n0),.lit (.int .i64 p.n1),.lit (.int .i16 p.n2),.lit (.int .i16 p.n3)]
theorem txD_eq (p : TxP) : txD p = four p ++ [XW p.u]:=rfl
theorem okTags_got (flex : Bool) (t : Tree) (ht : t.ok) : Jt (gotP flex t).u:=by
 cases flex with
 | false => simp [gotP,tx0,Jt,Va]
 | true =>
  have e : (gotP true t).u = Xj m.fields t.u:=rfl
  rw [e]
  refine ⟨Jh _ _,fun kv hkv => ⟨oth_keys (fun x hx => (ht.u x hx)) kv hkv,?_⟩,by have:=oth_len m.fields t.u;omega⟩
  simp only [Xj,List.mem_map] at hkv
  obtain ⟨x,_,rfl⟩:=hkv
  have:=Ye2 x.2
  simp only [Vf] at this
  simp only [lim]
  omega
theorem tellT4 (n : Int) (tg df : Int) : VG true (.mk 4 0 (-1) (-1) tg df 0 []) [.lit (.int .i64 n)] (XC n):=by
 simp only [VG]
 exact ⟨_,rfl,by simp [XQ,Xt]⟩
theorem tellT2 (n : Int) (tg df : Int) : VG true (.mk 2 0 (-1) (-1) tg df 0 []) [.lit (.int .i16 n)] (XC (IntKind.i64.wrap n)):=by
 simp only [VG]
 exact ⟨_,rfl,by simp [XQ,Xt]⟩
theorem tellFour (p : TxP) : YP true [g0,g1,g2,g3] (four p) [XC p.n0,XC p.n1,XC (IntKind.i64.wrap p.n2),XC (IntKind.i64.wrap p.n3)]:=by
 simp only [YP,four]
 exact ⟨[_],_,_,_,rfl,rfl,tellT4 _ _ _,[_],_,_,_,rfl,rfl,tellT4 _ _ _,[_],_,_,_,rfl,rfl,tellT2 _ _ _,[_],[],_,_,rfl,rfl,tellT2 _ _ _,rfl,rfl⟩
theorem tabT7 : tabTs F7 = true:=by decide
theorem tab7' (v : Int) : Ya2 v F7 = true:=by simp [F7,sTxnMetadataValueTopic,Ya2,tabF,Fld.tag,Fld.has]
theorem tx_exists {v : Int} {flex : Bool} {t : Tree} (ht : t.ok) {new : List D} (h : Yg9 v true flex F7 0 (UU v F7 t) new) : ∃ T,UV true m.fields (new ++ txD (gotP flex t)) T:=by
 obtain ⟨l,hl⟩:=exs_of (fun _ => rfl) tabT7 (Ya0 v F7 (tab7' v) t ht false) h
 refine ⟨.mk 0 [] false (l ++ [XC (gotP flex t).n0,XC (gotP flex t).n1,XC (IntKind.i64.wrap (gotP flex t).n2),XC (IntKind.i64.wrap (gotP flex t).n3)]) (gotP flex t).u,new ++ four (gotP flex t),(gotP flex t).u,?_,rfl,fun _ => okTags_got flex t ht,?_⟩
 ·rw [txD_eq,← List.append_assoc];rfl
 ·rw [m_eq]
  exact Ys5 hl (tellFour _)
theorem four_out {p : TxP} {l : List Tree} (h : YP true [g0,g1,g2,g3] (four p) l) : l = [XC p.n0,XC p.n1,XC (IntKind.i64.wrap p.n2),XC (IntKind.i64.wrap p.n3)]:=by
 simp only [YP,VG,four,g0,g1,g2,g3] at h
 obtain ⟨a,b,x0,r,e0,rfl,⟨d0,rfl,h0⟩,a,b,x1,r,rfl,rfl,⟨d1,rfl,h1⟩,a,b,x2,r,rfl,rfl,⟨d2,rfl,h2⟩,a,b,x3,r,rfl,rfl,⟨d3,rfl,h3⟩,rfl,rfl⟩:=h
 simp only [List.cons_append,List.nil_append,List.cons.injEq,and_true] at e0
 obtain ⟨rfl,rfl,rfl,rfl⟩:=e0
 simp [XQ,Xt] at h0 h1 h2 h3
 rw [h0,h1,h2,h3]
theorem i16_64 (n : Int) : IntKind.i64.wrap (IntKind.i16.wrap n) = IntKind.i16.wrap n:=by
 rw [JW,IntKind.wrap_i64]
 omega
theorem tg4 {v : Int} {flex : Bool} {y : Tree} (hy : y.ok) {tg df n : Int} (htg : ¬ tg < 0) (h : n = if flex then tgN .i64 (.mk 4 0 (-1) (-1) tg df 0 []) y else df) : if Yf3 v flex (.mk 4 0 (-1) (-1) tg df 0 []) y = true then ToF v flex (.mk 4 0 (-1) (-1) tg df 0 []) y (XC n) else UsF (.mk 4 0 (-1) (-1) tg df 0 []) (XC n):=by
 have hth : Yf3 v flex (.mk 4 0 (-1) (-1) tg df 0 []) y = (flex && !usual (.mk 4 0 (-1) (-1) tg df 0 []) y):=by unfold Yf3;rw [if_neg (show ¬ (Fld.mk 4 0 (-1) (-1) tg df 0 []).tag < 0 from htg)]
 rw [hth]
 have hw : IntKind.i64.wrap y.n = y.n:=by have:=hy.n;rw [IntKind.wrap_i64];omega
 cases flex with
 | false =>
  simp only [Bool.false_and,Bool.false_eq_true,if_false] at h ⊢
  subst h
  simp [UsF,XC,Tree.n,Vm]
 | true =>
  simp only [Bool.true_and,if_true] at h ⊢
  unfold tgN at h
  cases hu : usual (.mk 4 0 (-1) (-1) tg df 0 []) y with
  | true =>
   rw [hu] at h
   simp only [if_true] at h
   subst h
   simp [UsF,XC,Tree.n,Vm,Fld.df]
  | false =>
   rw [hu] at h
   simp only [Bool.false_eq_true,if_false] at h
   simp only [Bool.not_false,if_true]
   rw [ToF_mk]
   refine ⟨fun hh => by omega,fun _ => ?_⟩
   simp [ToV,XC,Tree.n,Vm,h]
   simpa [Tree.n] using hw
theorem tg2 {v : Int} {flex : Bool} {y : Tree} {tg df n : Int} (htg : ¬ tg < 0) (hdf : IntKind.i16.wrap df = df) (h : n = if flex then tgN .i16 (.mk 2 0 (-1) (-1) tg df 0 []) y else df) : if Yf3 v flex (.mk 2 0 (-1) (-1) tg df 0 []) y = true then ToF v flex (.mk 2 0 (-1) (-1) tg df 0 []) y (XC (IntKind.i64.wrap n)) else UsF (.mk 2 0 (-1) (-1) tg df 0 []) (XC (IntKind.i64.wrap n)):=by
 have hth : Yf3 v flex (.mk 2 0 (-1) (-1) tg df 0 []) y = (flex && !usual (.mk 2 0 (-1) (-1) tg df 0 []) y):=by unfold Yf3;rw [if_neg (show ¬ (Fld.mk 2 0 (-1) (-1) tg df 0 []).tag < 0 from htg)]
 rw [hth]
 have hd : IntKind.i64.wrap df = df:=by rw [← hdf];exact i16_64 df
 cases flex with
 | false =>
  simp only [Bool.false_and,Bool.false_eq_true,if_false] at h ⊢
  subst h
  simp [UsF,XC,Tree.n,Vm,hd,hdf]
 | true =>
  simp only [Bool.true_and,if_true] at h ⊢
  unfold tgN at h
  cases hu : usual (.mk 2 0 (-1) (-1) tg df 0 []) y with
  | true =>
   rw [hu] at h
   simp only [if_true] at h
   subst h
   simp [UsF,XC,Tree.n,Vm,Fld.df,hd,hdf]
  | false =>
   rw [hu] at h
   simp only [Bool.false_eq_true,if_false] at h
   simp only [Bool.not_false,if_true]
   rw [ToF_mk]
   refine ⟨fun hh => by omega,fun _ => ?_⟩
   simp [ToV,XC,Tree.n,Vm,h,i16_64]
theorem tx_top {v : Int} {flex : Bool} {t : Tree} (ht : t.ok) {new : List D} (h : Yg9 v true flex F7 0 (UU v F7 t) new) {T : Tree} (hT : UV true m.fields (new ++ txD (gotP flex t)) T) : ToP v flex m.fields t T:=by
 obtain ⟨a,u,hds,hTe,_,hfs⟩:=hT
 rw [txD_eq,← List.append_assoc] at hds
 have hds' : (new ++ four (gotP flex t)) ++ [XW (gotP flex t).u] = a ++ [XW u]:=hds
 obtain ⟨rfl,hu⟩:=List.append_inj' hds' rfl
 simp only [List.cons.injEq,and_true] at hu
 have hu:=Ym1 hu
 rw [m_eq] at hfs
 obtain ⟨a1,a2,l1,l2,hsp,hl,k1,k2⟩:=Yh2 hfs
 obtain ⟨e1,e2⟩:=JE hsp (by rw [Yi0 h,UZ k1])
 subst e1;subst e2
 have hl2:=four_out k2
 have h7:=tos_of (fun _ => rfl) (i:=0) (k:=0) (t:=t) tabT7 ht (fun j hj => by rw [Nat.zero_add,JV v F7 t j hj]) h k1 (by decide)
 refine ⟨?_,?_⟩
 ·rw [hl,m_eq]
  refine toFs_app h7 ?_
  rw [hl2]
  have n0 : (gotP flex t).n0 = if flex then tgN .i64 g0 (att t 7) else -1:=by cases flex <;> rfl
  have n1 : (gotP flex t).n1 = if flex then tgN .i64 g1 (att t 8) else -1:=by cases flex <;> rfl
  have n2 : (gotP flex t).n2 = if flex then tgN .i16 g2 (att t 9) else 0:=by cases flex <;> rfl
  have n3 : (gotP flex t).n3 = if flex then tgN .i16 g3 (att t 10) else -1:=by cases flex <;> rfl
  simp only [ToFs]
  exact ⟨_,_,rfl,tg4 (ht.at 7) (by decide) n0,_,_,rfl,tg4 (ht.at 8) (by decide) n1,_,_,rfl,tg2 (by decide) rfl n2,_,_,rfl,tg2 (by decide) rfl n3,rfl⟩
 ·have hTu : T.u = u:=by rw [hTe];rfl
  rw [hTu,← hu]
  cases flex <;> rfl
end Txr

namespace Txr
open Go Go.RowKit
theorem one_len (g : Fld) (k : Nat) (x : Tree) (hk : k < 4) (hw : width g.kind ≤ 8) : JO (one g k x) ≤ 20:=by
 unfold one
 split
 ·simp [JO]
 ·have h1:=JY k (by omega)
  have h2:=JY (be (width g.kind) x.n).length (by rw [be_size];omega)
  simp only [JO,List.map_cons,List.map_nil,List.sum_cons,List.sum_nil,UF,List.length_append,be_size] at *
  omega
theorem tx_len (ver : Int) (flex : Bool) (t : Tree) (ht : t.ok) : 1000 + (Xc ver flex m.fields t).length ≤ lim:=by
 have h7 : (wFs ver flex F7 0 t).length ≤ Yi6 flex F7:=by
  refine Nat.le_trans ?_ (wPart_most ver flex F7 t ht)
  unfold Xc asm
  cases flex <;> simp
 have hb : ∀ b : Bool,Yi6 b F7 ≤ 80000000000000:=by decide
 have hb':=hb flex
 have hl : lim = 140737488355328:=rfl
 have hn:=tags_len ver flex t
 have hu:=JY (YS ver flex m.fields t).length (by omega)
 have hT : JO (YS ver flex m.fields t) ≤ 1074069573:=by
  unfold YS
  rw [wTs_m]
  have ho : (Xm m.fields t.u).map (fun kv => (kv.1,Xe kv.2)) = Xj m.fields t.u:=rfl
  rw [ho]
  have h0:=one_len g0 0 (att t 7) (by decide) (by decide)
  have h1:=one_len g1 1 (att t 8) (by decide) (by decide)
  have h2:=one_len g2 2 (att t 9) (by decide) (by decide)
  have h3:=one_len g3 3 (att t 10) (by decide) (by decide)
  have h4:=Yc0 m.fields t ht
  simp only [Yh3]
  omega
 unfold Xc asm
 rw [wFs_m]
 cases flex with
 | false => simp only [Bool.false_eq_true,if_false];omega
 | true =>
  simp only [if_true,List.length_append]
  rw [Yp7]
  omega
end Txr

namespace BTxnMetadataValue
open Go Go.RowKit
open Txr (m sTxnMetadataValueTopic)
theorem m_ok : JB m.fields = true:=by decide
def tbl : Tbl:=⟨[(30,0,0),(30,1,1),(65,0,0),(35,0,0)],[22]⟩
theorem tbl_ok : tbl.ok Tryz.prog = true:=by kernel_rfl
theorem ws {ops : Array Oper} {Q : Exit → Act → World → Prop} {N : Nat} {rest : List Oper} {L : Sl} {w : World} {d : Nat} {ty : TypeId} {pos : String} {aft : Array Edge} {o : Op} {v : Value}
  (hs : Ya5 tbl L o = some v) (hd : Nat.blt d N = true) (h : WL rest Tryz.prog ops Q N ((d,v) :: L) w) : WL (⟨some d,o,ty,pos,aft,none⟩ :: rest) Tryz.prog ops Q N L w:=JJ tbl tbl_ok hs hd h
theorem zv_msg (w : World) : (zeroValue 30).run Tryz.prog w = .ok (.agg #[.slice none 0 0,.int .i64 0]) w:=by kernel_rfl
theorem rt_flds : Ut Tryz.prog 28 55 8 = true:=by kernel_rfl
theorem to_i16 : Xx Tryz.prog 57 = true:=by kernel_rfl
section
set_option maxRecDepth 100000
set_option maxHeartbeats 4000000
theorem UC (w : World) : Fn 29 [] w fun v w' => Rep (Frs w.heap.size w'.heap.size) w' (.sq (sTxnMetadataValueTopic.map fldD)) [v]:=by
 refine enter Tryz.func29 rfl Tryz.ntmps29 rfl ?_
 repeat first|(with_reducible first|apply Yd|apply Ya|apply Yc|apply Yb)|((with_reducible apply ws);exact rfl;exact rfl)
 have hW : Below w.heap.size w w:=⟨rfl,rfl,rfl,Nat.le_refl _,fun _ _ => rfl⟩
 refine Xa rfl (cs:=[.int .i64 8,.int .i64 0,.int .i64 (-1),.int .i64 (-1),.int .i64 (-1),.int .i64 0,.int .i64 0,.slice none 0 0]) (by kernel_rfl) rfl ?_
 refine Xa rfl (cs:=[.int .i64 11,.int .i64 0,.int .i64 (-1),.int .i64 (-1),.int .i64 (-1),.int .i64 0,.int .i64 3,.slice none 0 0]) (by kernel_rfl) rfl ?_
 refine wl_sliceN [[.int .i64 8,.int .i64 0,.int .i64 (-1),.int .i64 (-1),.int .i64 (-1),.int .i64 0,.int .i64 0,.slice none 0 0],[.int .i64 11,.int .i64 0,.int .i64 (-1),.int .i64 (-1),.int .i64 (-1),.int .i64 0,.int .i64 3,.slice none 0 0]] rt_flds rfl rfl (by simp) rfl rfl rfl (fun w2 hbS hgS hsS => ?_)
 have hs_2:=Yg hgS (Nat.le_refl _) (by simp)
 have hz:=hW.size
 replace hW:=hW.trans (hs_2.mono hW.size)
 have hfin : Rep (Frs w.heap.size w2.heap.size) w2 (.sq (sTxnMetadataValueTopic.map fldD)) [.slice (some ⟨w.heap.size,0,none⟩) 2 2]:=by
  simp only [Rep]
  exact ⟨_,2,rfl,Nat.le_refl _,.inr ⟨w.heap.size,0,_,rfl,⟨hz,hbS.lt⟩,hbS.cells,(XM (VA _ _ (.mk 8 0 (-1) (-1) (-1) 0 0 []) rfl) (XM (VA _ _ (.mk 11 0 (-1) (-1) (-1) 0 3 []) rfl) reps_fnil))⟩⟩
 repeat first|(with_reducible first|apply Yc|apply Yb|apply Ym)|((with_reducible apply ws);exact rfl;exact rfl)
 exact Yk rfl rfl ⟨_,rfl,hW,hfin⟩
theorem fn_table (w : World) : Fn 8 [] w fun v w' => ∃ fv,v = .agg #[fv,.int .i64 m.flex] ∧ Sq w'.heap.size w' fv (m.fields.map fldD):=by
 refine enter Tryz.func8 rfl Tryz.ntmps8 rfl ?_
 repeat (with_reducible first|apply Yd|apply Ya)
 refine YJ zv_msg rfl rfl (fun w1 hb1 hg1 hs1 => ?_)
 have hs_1:=Yg hg1 (Nat.le_refl _) (by simp)
 repeat (with_reducible first|apply Yd|apply Ya|apply Yc|apply Yb)
 have hW : Below w1.heap.size w1 w1:=⟨rfl,rfl,rfl,Nat.le_refl _,fun _ _ => rfl⟩
 refine Xa rfl (cs:=[.int .i64 4,.int .i64 0,.int .i64 (-1),.int .i64 (-1),.int .i64 (-1),.int .i64 0,.int .i64 0,.slice none 0 0]) (by kernel_rfl) rfl ?_
 refine Xa rfl (cs:=[.int .i64 2,.int .i64 0,.int .i64 (-1),.int .i64 (-1),.int .i64 (-1),.int .i64 0,.int .i64 0,.slice none 0 0]) (by kernel_rfl) rfl ?_
 refine Xa rfl (cs:=[.int .i64 3,.int .i64 0,.int .i64 (-1),.int .i64 (-1),.int .i64 (-1),.int .i64 0,.int .i64 0,.slice none 0 0]) (by kernel_rfl) rfl ?_
 refine Xa rfl (cs:=[.int .i64 1,.int .i64 0,.int .i64 (-1),.int .i64 (-1),.int .i64 (-1),.int .i64 0,.int .i64 0,.slice none 0 0]) (by kernel_rfl) rfl ?_
 refine Yo rfl (by kernel_rfl) rfl ((UC w1).mono ?_)
 rintro e w2 ⟨sv,rfl,hs_2,hsq4⟩
 obtain ⟨a4,c4,rfl⟩:=rep_sqshape hsq4
 refine ⟨_,rfl,?_⟩
 replace hsq4:=rep_frw hsq4 hW.size
 replace hW:=hW.trans (hs_2.mono hW.size)
 replace hb1:=hb1.below hs_2 hb1.lt
 refine Xa rfl (cs:=[.int .i64 11,.int .i64 0,.int .i64 (-1),.int .i64 (-1),.int .i64 (-1),.int .i64 0,.int .i64 10,.slice a4 (sTxnMetadataValueTopic.map fldD).length c4]) (by kernel_rfl) rfl ?_
 refine Xa rfl (cs:=[.int .i64 4,.int .i64 0,.int .i64 (-1),.int .i64 (-1),.int .i64 (-1),.int .i64 0,.int .i64 0,.slice none 0 0]) (by kernel_rfl) rfl ?_
 refine Xa rfl (cs:=[.int .i64 4,.int .i64 0,.int .i64 (-1),.int .i64 (-1),.int .i64 (-1),.int .i64 0,.int .i64 0,.slice none 0 0]) (by kernel_rfl) rfl ?_
 refine Xa rfl (cs:=[.int .i64 4,.int .i64 0,.int .i64 (-1),.int .i64 (-1),.int .i64 0,.int .i64 (-1),.int .i64 0,.slice none 0 0]) (by kernel_rfl) rfl ?_
 refine Xa rfl (cs:=[.int .i64 4,.int .i64 0,.int .i64 (-1),.int .i64 (-1),.int .i64 1,.int .i64 (-1),.int .i64 0,.slice none 0 0]) (by kernel_rfl) rfl ?_
 refine Xa rfl (cs:=[.int .i64 2,.int .i64 0,.int .i64 (-1),.int .i64 (-1),.int .i64 2,.int .i64 0,.int .i64 0,.slice none 0 0]) (by kernel_rfl) rfl ?_
 refine Xa rfl (cs:=[.int .i64 2,.int .i64 0,.int .i64 (-1),.int .i64 (-1),.int .i64 3,.int .i64 (-1),.int .i64 0,.slice none 0 0]) (by kernel_rfl) rfl ?_
 refine wl_sliceN [[.int .i64 4,.int .i64 0,.int .i64 (-1),.int .i64 (-1),.int .i64 (-1),.int .i64 0,.int .i64 0,.slice none 0 0],[.int .i64 2,.int .i64 0,.int .i64 (-1),.int .i64 (-1),.int .i64 (-1),.int .i64 0,.int .i64 0,.slice none 0 0],[.int .i64 3,.int .i64 0,.int .i64 (-1),.int .i64 (-1),.int .i64 (-1),.int .i64 0,.int .i64 0,.slice none 0 0],[.int .i64 1,.int .i64 0,.int .i64 (-1),.int .i64 (-1),.int .i64 (-1),.int .i64 0,.int .i64 0,.slice none 0 0],[.int .i64 11,.int .i64 0,.int .i64 (-1),.int .i64 (-1),.int .i64 (-1),.int .i64 0,.int .i64 10,.slice a4 (sTxnMetadataValueTopic.map fldD).length c4],[.int .i64 4,.int .i64 0,.int .i64 (-1),.int .i64 (-1),.int .i64 (-1),.int .i64 0,.int .i64 0,.slice none 0 0],[.int .i64 4,.int .i64 0,.int .i64 (-1),.int .i64 (-1),.int .i64 (-1),.int .i64 0,.int .i64 0,.slice none 0 0],[.int .i64 4,.int .i64 0,.int .i64 (-1),.int .i64 (-1),.int .i64 0,.int .i64 (-1),.int .i64 0,.slice none 0 0],[.int .i64 4,.int .i64 0,.int .i64 (-1),.int .i64 (-1),.int .i64 1,.int .i64 (-1),.int .i64 0,.slice none 0 0],[.int .i64 2,.int .i64 0,.int .i64 (-1),.int .i64 (-1),.int .i64 2,.int .i64 0,.int .i64 0,.slice none 0 0],[.int .i64 2,.int .i64 0,.int .i64 (-1),.int .i64 (-1),.int .i64 3,.int .i64 (-1),.int .i64 0,.slice none 0 0]] rt_flds rfl rfl (by simp) rfl rfl rfl (fun w3 hbS hgS hsS => ?_)
 have hs_3:=Yg hgS (Nat.le_refl _) (by simp)
 have hz:=hW.size
 replace hsq4:=rep_fr hsq4 hs_3 (Nat.le_refl _)
 replace hW:=hW.trans (hs_3.mono hW.size)
 replace hb1:=hb1.below hs_3 hb1.lt
 have hfin : Rep (Frs w1.heap.size w3.heap.size) w3 (.sq (m.fields.map fldD)) [.slice (some ⟨w2.heap.size,0,none⟩) 11 11]:=by
  simp only [Rep]
  exact ⟨_,11,rfl,Nat.le_refl _,.inr ⟨w2.heap.size,0,_,rfl,⟨hz,hbS.lt⟩,hbS.cells,(XM (VA _ _ (.mk 4 0 (-1) (-1) (-1) 0 0 []) rfl) (XM (VA _ _ (.mk 2 0 (-1) (-1) (-1) 0 0 []) rfl) (XM (VA _ _ (.mk 3 0 (-1) (-1) (-1) 0 0 []) rfl) (XM (VA _ _ (.mk 1 0 (-1) (-1) (-1) 0 0 []) rfl) (XM (rep_fldS hsq4) (XM (VA _ _ (.mk 4 0 (-1) (-1) (-1) 0 0 []) rfl) (XM (VA _ _ (.mk 4 0 (-1) (-1) (-1) 0 0 []) rfl) (XM (VA _ _ (.mk 4 0 (-1) (-1) 0 (-1) 0 []) rfl) (XM (VA _ _ (.mk 4 0 (-1) (-1) 1 (-1) 0 []) rfl) (XM (VA _ _ (.mk 2 0 (-1) (-1) 2 0 0 []) rfl) (XM (VA _ _ (.mk 2 0 (-1) (-1) 3 (-1) 0 []) rfl) reps_fnil)))))))))))⟩⟩
 refine Xa rfl (cs:=[.slice (some ⟨w2.heap.size,0,none⟩) 11 11,.int .i64 1]) (by kernel_rfl) rfl ?_
 refine Yn (vs:=[.slice (some ⟨w2.heap.size,0,none⟩) 11 11,.int .i64 1]) rfl rfl rfl tz_msg rfl hb1 rfl (fun wz hbz hgz hsz => ?_)
 repeat (with_reducible first|apply Yc|apply Yb|apply Ym)
 have hW0:=hs_1.trans (hW.mono hs_1.size)
 refine XT (cs:=[.slice (some ⟨w2.heap.size,0,none⟩) 11 11,.int .i64 1]) rfl rfl ta_msg hbz ⟨_,rfl,hW0.trans (Yg hgz hW0.size (by intro q hq;simp at hq;omega)),_,rfl,?_⟩
 exact Rep.mono (fun b hb => ⟨by have:=hb.2;simp only [Lo];omega,hgz.block b hb.2 (by have:=hb.1;simp;omega)⟩) _ _ hfin
noncomputable def z0 : List Value:=match Tryz.prog.info? 65 with | some i => (match i.zero with | some z => z.cells.toList | none => []) | none => []
noncomputable def d0 : List Value:=match (defF Tryz.prog 63).bind fun l => setAll l z0 with | some cs => cs | none => []
theorem d0_eq : (defF Tryz.prog 63).bind (fun l => setAll l z0) = some d0:=by kernel_rfl
theorem zv (w : World) : (zeroValue 65).run Tryz.prog w = .ok (.agg z0.toArray) w:=by kernel_rfl
theorem d0l : d0.length = 13:=by kernel_rfl
theorem d0_one : (d0.all fun v => v.oneCell') = true:=by kernel_rfl
theorem zl : z0.length = 13:=by kernel_rfl
theorem ta_m : VN Tryz.prog 65 = some 13:=by kernel_rfl
theorem tz_m : (Tryz.prog.info? 65).map (·.size) = some 13:=by kernel_rfl
theorem to_i64 : Xx Tryz.prog 2 = true:=by kernel_rfl
theorem fn_new (w : World) : Calls Tryz.prog 30 #[] w fun e w' => e = .returned (.agg d0.toArray) ∧ Below w.heap.size w w':=by
 obtain ⟨l,hl,hset⟩:=Option.bind_eq_some_iff.1 d0_eq
 refine enter (vs:=[]) Tryz.func30 rfl Tryz.ntmps30 rfl ?_
 repeat (with_reducible first|apply Yd|apply Ya)
 refine YJ zv rfl rfl (fun w1 hb1 hg1 hs1 => ?_)
 repeat (with_reducible first|apply Yd|apply Ya|apply Yc|apply Yb)
 refine YJ zv rfl rfl (fun w2 hb2 hg2 hs2 => ?_)
 repeat (with_reducible first|apply Yd|apply Ya|apply Yc|apply Yb)
 have hdef:=defF_ok (w:=w2) hl (b:=w1.heap.size) (pre:=[]) (cs:=z0) (post:=[]) (cs':=d0) (e:=65) (by simpa using hb2) hset
 refine Yo rfl hdef.1 rfl (hdef.2.mono ?_)
 rintro e w3 ⟨rfl,hb3,hc3⟩
 refine ⟨_,rfl,?_⟩
 repeat (with_reducible first|apply Yd|apply Ya|apply Yc|apply Yb)
 have hb3' : Box w3 w1.heap.size d0 65:=by simpa using hb3
 have hw1 : Below w.heap.size w w1:=Yg hg1 (Nat.le_refl _) (by simp)
 have hw2 : Below w1.heap.size w1 w2:=Yg hg2 (Nat.le_refl _) (by simp)
 have hw3 : Below w1.heap.size w2 w3:=chg_below hc3 (fun j hj h => by have : j = w1.heap.size:=h;omega) (by omega)
 have hw13:=hw2.trans hw3
 have hz13:=hw13.size
 have hb13:=hb1.below hw13 hb1.lt
 refine YC (cs:=d0) rfl (by rw [d0l];exact ta_m) rfl hb3' ?_
 refine Yn (vs:=d0) rfl rfl rfl (by rw [d0l];exact tz_m) d0_one hb13 (by rw [zl,d0l]) (fun w4 hb4 hg4 hs4 => ?_)
 repeat (with_reducible first|apply Yc|apply Yb|apply Ym)
 exact XT (cs:=d0) rfl rfl (by rw [d0l];exact ta_m) hb4 ⟨rfl,(hw1.trans (hw13.mono hw1.size)).trans (Yg hg4 (by have:=hw1.size;omega) (by intro q hq;simp at hq;omega))⟩
theorem d0_cv : d0 = Txr.CV 0:=by kernel_rfl
theorem tabT_m : tabTs m.fields = true:=by decide
theorem foI0 : YK Tryz.prog 35 0 = some 0:=by kernel_rfl
theorem to_int' : Xx Tryz.prog 2 = true:=by kernel_rfl
def setN (n : Int) : Tree → Tree
 | .mk _ s nl l u => .mk n s nl l u
theorem small_setN {T : Tree} (n : Int) (h : T.small) : (setN n T).small:=by
 cases T
 simpa only [setN,Tree.small] using h
theorem top_setN {v : Int} {flex : Bool} {fs : List Fld} {t T : Tree} (n : Int) (h : ToP v flex fs t T) : ToP v flex fs t (setN n T):=by
 cases T
 exact h
theorem rep_setN {ok : Nat → Prop} {w : World} {T : Tree} {cs : List Value} (n : Int) (h : Rep ok w (treeD T) cs) : Rep ok w (treeD (setN n T)) (cs.set 0 (.int .i64 n)):=by
 cases T
 simp only [setN,treeD,Rep,YG] at h ⊢
 obtain ⟨c1,c2,rfl,rfl,h2⟩:=h
 exact ⟨[.int .i64 n],c2,rfl,rfl,h2⟩
theorem fn_read (v : Nat) (hv : v < 2) (t : Tree) (ht : t.ok) (w : World) (u0 : TypeId) (x0 sv : Value) (b sb : Nat) (xs : List UInt8) (hxs : xs = be 2 (v : Int) ++ Yp2 m (v : Int) t) (hb : Box w b d0 65) (hs : SrcAt w sb sv xs) (hsb : sb < w.heap.size) (hne : b ≠ sb)
  (hg : w.cell? ⟨1,0,none⟩ = some (.iface u0 x0)) (hgb : 1 ≠ b) (hgl : 1 < w.heap.size) :
  Calls Tryz.prog 31 #[.pointer (some ⟨b,0,none⟩),sv] w fun en w' => en = .returned .nilIface ∧ Chg (fun j => j = b ∨ w.heap.size ≤ j) w w' ∧ ∃ cs' lo new,w.heap.size ≤ lo ∧ Box w' b cs' 65 ∧ YG (Dk sb lo w') w' (.lit (.int .i16 (v : Int)) :: (new ++ Txr.txD (Txr.gotP (m.flexible (v : Int)) t))) cs' ∧ Yg9 (v : Int) true (m.flexible (v : Int)) Txr.F7 0 (UU (v : Int) Txr.F7 t) new:=by
 have hb' : Box w b (Txr.CV 0) 65:=by rw [← d0_cv];exact hb
 have hr : UR Tryz.prog 64 = true ∧ Calls Tryz.prog 64 #[.pointer (some ⟨b,0,none⟩),sv,.bool false] w fun en w' => en = .returned .nilIface ∧ Chg (fun j => j = b ∨ w.heap.size ≤ j) w w' ∧ ∃ cs' lo new,w.heap.size ≤ lo ∧ Box w' b cs' 65 ∧ YG (Dk sb lo w') w' (.lit (.int .i16 (v : Int)) :: (new ++ Txr.txD (Txr.gotP (m.flexible (v : Int)) t))) cs' ∧ Yg9 (v : Int) true (m.flexible (v : Int)) Txr.F7 0 (UU (v : Int) Txr.F7 t) new:=by
  match v,hv with
  | 0,_ =>
   obtain ⟨h1,h2⟩:=Txr.fn_readFrom0 w u0 x0 sv b sb t ht xs hxs hb' hs hsb hne hg hgb hgl
   refine ⟨h1,h2.mono ?_⟩
   rintro en w' ⟨e1,e2,cs',lo,new,p,e3,e4,e5,e6,hp⟩
   have hp' : p = Txr.gotP (m.flexible ((0 : Nat) : Int)) t:=by rw [hp];rfl
   rw [hp'] at e5
   exact ⟨e1,e2,cs',lo,new,e3,e4,e5,e6⟩
  | 1,_ =>
   obtain ⟨h1,h2⟩:=Txr.fn_readFrom1 w u0 x0 sv b sb t ht xs hxs hb' hs hsb hne hg hgb hgl
   refine ⟨h1,h2.mono ?_⟩
   rintro en w' ⟨e1,e2,cs',lo,new,p,e3,e4,e5,e6,hp⟩
   have hp' : p = Txr.gotP (m.flexible ((1 : Nat) : Int)) t:=by rw [hp,if_pos rfl,Txr.fold_all];rfl
   rw [hp'] at e5
   exact ⟨e1,e2,cs',lo,new,e3,e4,e5,e6⟩
 refine enter (vs:=[.pointer (some ⟨b,0,none⟩),sv]) Tryz.func31 rfl Tryz.ntmps31 rfl ?_
 repeat first|(with_reducible first|apply Yd|apply Ya|apply Yc|apply Yb)|((with_reducible apply ws);exact rfl;exact rfl)
 refine Yo rfl hr.1 rfl (hr.2.mono ?_)
 rintro en w1 ⟨rfl,h⟩
 refine ⟨_,rfl,?_⟩
 repeat first|(with_reducible first|apply Yc|apply Yb|apply Ym)|((with_reducible apply ws);exact rfl;exact rfl)
 exact Yk rfl rfl ⟨rfl,h⟩
theorem fo_t4 : YK Tryz.prog 35 4 = some 4:=by kernel_rfl
set_option maxHeartbeats 4000000 in
theorem clo_TxnMetadataValueTopic : ClC Tryz.prog 35 81 119:=by
 refine ⟨by kernel_rfl,fun w lo tb B hd d us k s val hU hhd hval hBt hk hs hmany => ?_⟩
 obtain ⟨a0,a1,a2,a3,rfl⟩ : ∃ a0 a1 a2 a3,hd = [a0,a1,a2,a3]:=by
  match hd,hhd with
  | [a0,a1,a2,a3],_ => exact ⟨a0,a1,a2,a3,rfl⟩
 have hsq : Sq B w val (s.map YF):=hval
 obtain ⟨va,vc,rfl,_⟩:=hsq.shape
 obtain ⟨da,dc,hds⟩:=hU.row.shape
 have hlo:=hU.lt
 have hlw:=hU.low
 have hdl:=hU.row.low
 have hbx0 : Box w tb [a0,a1,a2,a3,d] 35:=hU.box
 refine enter (vs:=[.int .u32 (k : Int),.slice va (s.map YF).length vc,.pointer (some ⟨tb,0,none⟩)]) Tryz.func119 rfl Tryz.ntmps119 rfl ?_
 refine wc_parS [(0,.pointer (some ⟨tb,0 + 4,none⟩)),(1,d),(2,.int .u32 (k : Int)),(3,.slice va (s.map YF).length vc),(8,.pointer (some ⟨tb,0 + 4,none⟩))] [9,7,6,5,4]
  (fun vals w' => match vals with
   | [] => Chg (fun _ => False) w w'
   | [v] => Chg (fun _ => False) w w' ∧ (∃ a n c,v = .slice a n c) ∧ Rep (In 0 w.heap.size w') w' (Xb s) [v]
   | [v,_] => Chg (fun _ => False) w w' ∧ ∃ sv,(∃ a n c,sv = .slice a n c) ∧ v = .agg ([.int .u32 (k : Int),sv] : List Value).toArray ∧ Rep (In 0 w.heap.size w') w' (Xb s) [sv]
   | [v,_,_] => Chg (fun _ => False) w w' ∧ ∃ (b8 : Nat) (sv : Value),(∃ a n c,sv = .slice a n c) ∧ v = .slice (some ⟨b8,0,none⟩) 1 1 ∧ Box w' b8 [.int .u32 (k : Int),sv] 81 ∧ Rep (In 0 w.heap.size w') w' (Xb s) [sv]
   | [v,_,_,_] => Chg (fun j => d.ownBlock = some j) w w' ∧ Box w' tb [a0,a1,a2,a3,d] 35 ∧ RowD 0 lo tb 81 2 w' v ((us ++ [(k,s)]).map Uk)
   | _ :: v :: _ => Chg (fun j => j = tb ∨ d.ownBlock = some j) w w' ∧ Box w' tb [a0,a1,a2,a3,v] 35 ∧ RowD 0 lo tb 81 2 w' v ((us ++ [(k,s)]).map Uk))
  mixed rfl rfl rfl rfl rfl (by show ([0,1,2,3,8] : List Nat).Nodup;decide) rfl rfl (by decide) rfl rfl rfl rfl (XP _ _) ?_ ⟨?_,?_,?_,?_,?_,trivial⟩ ?_
 ·intro p hp vals w' hC hnp a kn
  simp only [List.mem_cons,List.not_mem_nil,or_false] at hp
  rcases hp with rfl | rfl | rfl | rfl | rfl
  ·exact gv rfl rfl (Yi kn rfl fo_t4)
  ·have hbx : Box w' tb [a0,a1,a2,a3,d] 35:=by
    match vals,hC,hnp with
    | [],h,_ => exact hbx0.chg h (fun h => h)
    | [_],h,_ => exact hbx0.chg h.1 (fun h => h)
    | [_,_],h,_ => exact hbx0.chg h.1 (fun h => h)
    | [_,_,_],h,_ => exact hbx0.chg h.1 (fun h => h)
    | [_,_,_,_],h,_ => exact h.2.1
    | _ :: _ :: _ :: _ :: _ :: r,_,hnp =>
     have:=hnp 9 (by rw [show ([9,7,6,5,4] : List Nat).length - (_ :: _ :: _ :: _ :: _ :: r).length = 0 from by simp only [List.length_cons,List.length_nil];omega];simp)
     exact absurd (show true = false from this) (by simp)
   exact gv rfl rfl (Yy kn rfl Impl.to_tags (hbx.cell0 (i:=4) rfl))
  ·exact gv rfl rfl (Yl kn rfl)
  ·exact gv rfl rfl (Yl kn rfl)
  ·exact gv rfl rfl (Yi kn rfl fo_t4)
 ·rintro vals w' hvl hC a kn
  match vals,hvl with
  | [v7,v6,v5,v4],_ =>
   obtain ⟨hc,hbx,hrd⟩:=hC
   obtain ⟨a7,c7,rfl⟩:=hrd.shape
   refine ⟨_,rfl,Ya8 kn rfl rfl Impl.to_tags rfl hbx rfl (fun w'' hbx'' hg'' hs'' => ⟨?_,hbx'',hrd.stored hg''⟩)⟩
   exact (hc.wide (fun j h => .inr h)).trans ((Chg.grown hg'').wide (fun j h => .inl h))
 ·rintro vals w' hvl hC a kn
  match vals,hvl with
  | [v6,v5,v4],_ =>
   obtain ⟨hc,b8,sv,⟨sa,sn,sc,rfl⟩,rfl,hb8,hrep⟩:=hC
   have hsz:=hc.size
   have hrdw:=hU.row.below ⟨hc.os,hc.tape,hc.output,hc.size,fun j hj => hc.block j hj (fun h => h)⟩
   obtain ⟨xs0,hrow0,hreps0⟩:=hrdw.row
   refine ⟨_,rfl,Ym4 kn Impl.rt_tags rfl rfl hb8 rfl rfl hrow0 (by omega) (by simp only [List.length_map];omega) (fun d' w'' hrow'' hg'' => ⟨?_,?_,?_⟩)⟩
   ·have h2 : Chg (fun j => d.ownBlock = some j) w' w'':=⟨hg''.grown.os,hg''.grown.tape,hg''.grown.output,hg''.grown.size,fun j hj hn => hg''.grown.block j hj (fun e => hn e.symm)⟩
    exact (hc.wide (fun j h => h.elim)).trans h2
   ·have hb:=hbx0.chg hc (fun h => h)
    exact hb.kept hg''.grown (fun e => hU.row.apart e.symm)
   ·rw [List.map_append,List.map_cons,List.map_nil]
    refine hrdw.snoc (by omega) (by have:=hbx0.lt;omega) hreps0 ?_ hrow'' hg''
    simp only [Uk,Rep,YG]
    refine ⟨[_],_,rfl,rfl,[_],_,rfl,?_,rfl⟩
    refine hrep.up (fun r hr => ⟨.inr (by rcases hr.1 with h | h;exact absurd h (Nat.not_lt_zero _);omega),hr.2,?_,fun e => ?_⟩) (fun _ _ => rfl)
    ·rcases hr.1 with h | h
     ·exact absurd h (Nat.not_lt_zero _)
     ·have:=hbx0.lt;omega
    ·rcases hr.1 with h | h
     ·exact absurd h (Nat.not_lt_zero _)
     ·have:=(hdl r e).2;omega
 ·rintro vals w' hvl hC a kn
  match vals,hvl with
  | [v5,v4],_ =>
   obtain ⟨hc,sv,⟨sa,sn,sc,rfl⟩,rfl,hrep⟩:=hC
   have hga:=XE w' (.cells ([.int .u32 (k : Int),.slice sa sn sc] : List Value).toArray 81)
   refine ⟨_,rfl,Uv (cs:=[.int .u32 (k : Int),.slice sa sn sc]) kn Impl.rt_tags rfl rfl rfl rfl ⟨hc.trans (Chg.grown0 hga),_,_,⟨sa,sn,sc,rfl⟩,rfl,XZ _ _ _,hrep.up (fun r hr => ⟨hr.1,by have:=hr.2;simp;omega⟩) (fun r hr => hga.block r hr.2 (by simp))⟩⟩
 ·rintro vals w' hvl hC a kn
  match vals,hvl with
  | [v4],_ =>
   obtain ⟨hc,⟨sa,sn,sc,rfl⟩,hrep⟩:=hC
   exact ⟨_,rfl,Yf5 (ps:=[(0,.tmp 7),(1,.tmp 9)]) (cs:=[.int .u32 (k : Int),.slice sa sn sc]) kn rfl (by kernel_rfl) ⟨hc,_,⟨sa,sn,sc,rfl⟩,rfl,hrep⟩⟩
 ·rintro vals w' hvl hC a kn
  match vals,hvl with
  | [],_ =>
   have hsb : Vq w' (.slice va (s.map YF).length vc) s:=hsq.bytes.below ⟨hC.os,hC.tape,hC.output,hC.size,fun j hj => hC.block j hj (fun h => h)⟩
   refine ⟨_,rfl,Ui kn tb_bytes tb_bytes rfl rfl hsb (Own.nil w' w'.heap.size 5) (Nat.le_refl _) (by simpa using hs) (fun d' w'' ho hg => ?_)⟩
   rw [List.nil_append] at ho
   obtain ⟨oa,oc,rfl⟩:=ho.shape
   refine ⟨hC.trans (Chg.grown0 hg.grown),⟨_,_,_,rfl⟩,own_rep (l0:=w.heap.size) ho hC.size⟩
 ·rintro vals w' hvl hC
  match vals,hvl with
  | [v9,v7,v6,v5,v4],_ =>
   obtain ⟨hc,hbx,hrd⟩:=hC
   exact JH rfl ⟨rfl,v7,⟨hbx,hrd,hlo,by have:=hc.size;omega⟩,hc⟩
set_option maxHeartbeats 4000000 in
theorem clo_TxnMetadataValue : ClC Tryz.prog 35 81 67:=by
 refine ⟨by kernel_rfl,fun w lo tb B hd d us k s val hU hhd hval hBt hk hs hmany => ?_⟩
 obtain ⟨a0,a1,a2,a3,rfl⟩ : ∃ a0 a1 a2 a3,hd = [a0,a1,a2,a3]:=by
  match hd,hhd with
  | [a0,a1,a2,a3],_ => exact ⟨a0,a1,a2,a3,rfl⟩
 have hsq : Sq B w val (s.map YF):=hval
 obtain ⟨va,vc,rfl,_⟩:=hsq.shape
 obtain ⟨da,dc,hds⟩:=hU.row.shape
 have hlo:=hU.lt
 have hlw:=hU.low
 have hdl:=hU.row.low
 have hbx0 : Box w tb [a0,a1,a2,a3,d] 35:=hU.box
 refine enter (vs:=[.int .u32 (k : Int),.slice va (s.map YF).length vc,.pointer (some ⟨tb,0,none⟩)]) Tryz.func67 rfl Tryz.ntmps67 rfl ?_
 refine wc_parS [(0,.pointer (some ⟨tb,0 + 4,none⟩)),(1,d),(2,.int .u32 (k : Int)),(3,.slice va (s.map YF).length vc),(8,.pointer (some ⟨tb,0 + 4,none⟩))] [9,7,6,5,4]
  (fun vals w' => match vals with
   | [] => Chg (fun _ => False) w w'
   | [v] => Chg (fun _ => False) w w' ∧ (∃ a n c,v = .slice a n c) ∧ Rep (In 0 w.heap.size w') w' (Xb s) [v]
   | [v,_] => Chg (fun _ => False) w w' ∧ ∃ sv,(∃ a n c,sv = .slice a n c) ∧ v = .agg ([.int .u32 (k : Int),sv] : List Value).toArray ∧ Rep (In 0 w.heap.size w') w' (Xb s) [sv]
   | [v,_,_] => Chg (fun _ => False) w w' ∧ ∃ (b8 : Nat) (sv : Value),(∃ a n c,sv = .slice a n c) ∧ v = .slice (some ⟨b8,0,none⟩) 1 1 ∧ Box w' b8 [.int .u32 (k : Int),sv] 81 ∧ Rep (In 0 w.heap.size w') w' (Xb s) [sv]
   | [v,_,_,_] => Chg (fun j => d.ownBlock = some j) w w' ∧ Box w' tb [a0,a1,a2,a3,d] 35 ∧ RowD 0 lo tb 81 2 w' v ((us ++ [(k,s)]).map Uk)
   | _ :: v :: _ => Chg (fun j => j = tb ∨ d.ownBlock = some j) w w' ∧ Box w' tb [a0,a1,a2,a3,v] 35 ∧ RowD 0 lo tb 81 2 w' v ((us ++ [(k,s)]).map Uk))
  mixed rfl rfl rfl rfl rfl (by show ([0,1,2,3,8] : List Nat).Nodup;decide) rfl rfl (by decide) rfl rfl rfl rfl (XP _ _) ?_ ⟨?_,?_,?_,?_,?_,trivial⟩ ?_
 ·intro p hp vals w' hC hnp a kn
  simp only [List.mem_cons,List.not_mem_nil,or_false] at hp
  rcases hp with rfl | rfl | rfl | rfl | rfl
  ·exact gv rfl rfl (Yi kn rfl fo_t4)
  ·have hbx : Box w' tb [a0,a1,a2,a3,d] 35:=by
    match vals,hC,hnp with
    | [],h,_ => exact hbx0.chg h (fun h => h)
    | [_],h,_ => exact hbx0.chg h.1 (fun h => h)
    | [_,_],h,_ => exact hbx0.chg h.1 (fun h => h)
    | [_,_,_],h,_ => exact hbx0.chg h.1 (fun h => h)
    | [_,_,_,_],h,_ => exact h.2.1
    | _ :: _ :: _ :: _ :: _ :: r,_,hnp =>
     have:=hnp 9 (by rw [show ([9,7,6,5,4] : List Nat).length - (_ :: _ :: _ :: _ :: _ :: r).length = 0 from by simp only [List.length_cons,List.length_nil];omega];simp)
     exact absurd (show true = false from this) (by simp)
   exact gv rfl rfl (Yy kn rfl Impl.to_tags (hbx.cell0 (i:=4) rfl))
  ·exact gv rfl rfl (Yl kn rfl)
  ·exact gv rfl rfl (Yl kn rfl)
  ·exact gv rfl rfl (Yi kn rfl fo_t4)
 ·rintro vals w' hvl hC a kn
  match vals,hvl with
  | [v7,v6,v5,v4],_ =>
   obtain ⟨hc,hbx,hrd⟩:=hC
   obtain ⟨a7,c7,rfl⟩:=hrd.shape
   refine ⟨_,rfl,Ya8 kn rfl rfl Impl.to_tags rfl hbx rfl (fun w'' hbx'' hg'' hs'' => ⟨?_,hbx'',hrd.stored hg''⟩)⟩
   exact (hc.wide (fun j h => .inr h)).trans ((Chg.grown hg'').wide (fun j h => .inl h))
 ·rintro vals w' hvl hC a kn
  match vals,hvl with
  | [v6,v5,v4],_ =>
   obtain ⟨hc,b8,sv,⟨sa,sn,sc,rfl⟩,rfl,hb8,hrep⟩:=hC
   have hsz:=hc.size
   have hrdw:=hU.row.below ⟨hc.os,hc.tape,hc.output,hc.size,fun j hj => hc.block j hj (fun h => h)⟩
   obtain ⟨xs0,hrow0,hreps0⟩:=hrdw.row
   refine ⟨_,rfl,Ym4 kn Impl.rt_tags rfl rfl hb8 rfl rfl hrow0 (by omega) (by simp only [List.length_map];omega) (fun d' w'' hrow'' hg'' => ⟨?_,?_,?_⟩)⟩
   ·have h2 : Chg (fun j => d.ownBlock = some j) w' w'':=⟨hg''.grown.os,hg''.grown.tape,hg''.grown.output,hg''.grown.size,fun j hj hn => hg''.grown.block j hj (fun e => hn e.symm)⟩
    exact (hc.wide (fun j h => h.elim)).trans h2
   ·have hb:=hbx0.chg hc (fun h => h)
    exact hb.kept hg''.grown (fun e => hU.row.apart e.symm)
   ·rw [List.map_append,List.map_cons,List.map_nil]
    refine hrdw.snoc (by omega) (by have:=hbx0.lt;omega) hreps0 ?_ hrow'' hg''
    simp only [Uk,Rep,YG]
    refine ⟨[_],_,rfl,rfl,[_],_,rfl,?_,rfl⟩
    refine hrep.up (fun r hr => ⟨.inr (by rcases hr.1 with h | h;exact absurd h (Nat.not_lt_zero _);omega),hr.2,?_,fun e => ?_⟩) (fun _ _ => rfl)
    ·rcases hr.1 with h | h
     ·exact absurd h (Nat.not_lt_zero _)
     ·have:=hbx0.lt;omega
    ·rcases hr.1 with h | h
     ·exact absurd h (Nat.not_lt_zero _)
     ·have:=(hdl r e).2;omega
 ·rintro vals w' hvl hC a kn
  match vals,hvl with
  | [v5,v4],_ =>
   obtain ⟨hc,sv,⟨sa,sn,sc,rfl⟩,rfl,hrep⟩:=hC
   have hga:=XE w' (.cells ([.int .u32 (k : Int),.slice sa sn sc] : List Value).toArray 81)
   refine ⟨_,rfl,Uv (cs:=[.int .u32 (k : Int),.slice sa sn sc]) kn Impl.rt_tags rfl rfl rfl rfl ⟨hc.trans (Chg.grown0 hga),_,_,⟨sa,sn,sc,rfl⟩,rfl,XZ _ _ _,hrep.up (fun r hr => ⟨hr.1,by have:=hr.2;simp;omega⟩) (fun r hr => hga.block r hr.2 (by simp))⟩⟩
 ·rintro vals w' hvl hC a kn
  match vals,hvl with
  | [v4],_ =>
   obtain ⟨hc,⟨sa,sn,sc,rfl⟩,hrep⟩:=hC
   exact ⟨_,rfl,Yf5 (ps:=[(0,.tmp 7),(1,.tmp 9)]) (cs:=[.int .u32 (k : Int),.slice sa sn sc]) kn rfl (by kernel_rfl) ⟨hc,_,⟨sa,sn,sc,rfl⟩,rfl,hrep⟩⟩
 ·rintro vals w' hvl hC a kn
  match vals,hvl with
  | [],_ =>
   have hsb : Vq w' (.slice va (s.map YF).length vc) s:=hsq.bytes.below ⟨hC.os,hC.tape,hC.output,hC.size,fun j hj => hC.block j hj (fun h => h)⟩
   refine ⟨_,rfl,Ui kn tb_bytes tb_bytes rfl rfl hsb (Own.nil w' w'.heap.size 5) (Nat.le_refl _) (by simpa using hs) (fun d' w'' ho hg => ?_)⟩
   rw [List.nil_append] at ho
   obtain ⟨oa,oc,rfl⟩:=ho.shape
   refine ⟨hC.trans (Chg.grown0 hg.grown),⟨_,_,_,rfl⟩,own_rep (l0:=w.heap.size) ho hC.size⟩
 ·rintro vals w' hvl hC
  match vals,hvl with
  | [v9,v7,v6,v5,v4],_ =>
   obtain ⟨hc,hbx,hrd⟩:=hC
   exact JH rfl ⟨rfl,v7,⟨hbx,hrd,hlo,by have:=hc.size;omega⟩,hc⟩
def k0 : Tk:=⟨35,149,75,129,66,68,[119,67],81,[]⟩
theorem k0_ok : TkOk Tryz.prog k0 true:=⟨Tlk.tty,(fun _ => Tlk.boolP),(fun _ => Tlk.textP),(fun _ => Tlk.octsP),fun f fs h => by cases h⟩
theorem k0_tg : TgOk Tryz.prog k0:=⟨Tlk.eachP,Tlk.sortP,fun f h => by
 simp only [k0,List.contains_eq_mem,decide_eq_true_eq,List.mem_cons,List.not_mem_nil,or_false] at h
 rcases h with rfl | rfl
 ·exact clo_TxnMetadataValueTopic
 ·exact clo_TxnMetadataValue⟩
theorem tell_sTxnMetadataValueTopic : TlPo Tryz.prog 65 true 0 sTxnMetadataValueTopic:=tellFn_ok k0_ok (fun _ => k0_tg) mixed (by kernel_rfl)
def k1 : Tk:=⟨k0.tT,k0.bool,k0.text,k0.octs,k0.each,k0.sorted,k0.clos,k0.gT,(65,sTxnMetadataValueTopic) :: k0.tells⟩
theorem k1_ok : TkOk Tryz.prog k1 true:=Tlk.tk_cons k0_ok tell_sTxnMetadataValueTopic
theorem k1_tg : TgOk Tryz.prog k1:=Tlk.tg_cons k0_tg _ _
theorem tell_top : TlPo Tryz.prog 32 true 1 m.fields:=tellFn_ok k1_ok (fun _ => k1_tg) mixed (by kernel_rfl)
set_option maxHeartbeats 4000000 in
theorem fn_door (v : Nat) (hv : v < 2) (t : Tree) (ht : t.ok) (w : World) (u : TypeId) (x sv : Value) (xs : List UInt8) (hxs : xs = be 2 (v : Int) ++ Yp2 m (v : Int) t) (hl : xs.length ≤ lim) (hs : Vq w sv xs) (hg : w.cell? ⟨1,0,none⟩ = some (.iface u x)) :
  Calls Tryz.prog 9 #[sv] w fun e w' => ∃ cs T,e = .returned (.tuple #[.agg cs.toArray,.bool true]) ∧ Rep (Lo w'.heap.size) w' (treeD T) cs ∧ T.small ∧ T.n = (v : Int) ∧ ToP (v : Int) (m.flexible (v : Int)) m.fields t T ∧ Below w.heap.size w w':=by
 obtain ⟨sa,sc,hsv⟩:=hs.shape
 refine enter (vs:=[sv]) Tryz.func9 rfl Tryz.ntmps9 rfl ?_
 repeat (with_reducible first|apply Yd|apply Ya)
 refine YJ Impl.zv_tree rfl rfl (fun w0 hb0 hg0 hs0 => ?_)
 have hw0 : Below w.heap.size w w0:=Yg hg0 (Nat.le_refl _) (by simp)
 repeat first|(with_reducible first|apply Yd|apply Ya|apply Yc|apply Yb)|((with_reducible apply ws);exact rfl;exact rfl)
 refine Yo rfl (by kernel_rfl) rfl ((fn_new w0).mono ?_)
 rintro e w1 ⟨rfl,hw01⟩
 refine ⟨_,rfl,?_⟩
 have hz01:=hw01.size
 have hw1:=hw0.trans (hw01.mono (by omega))
 refine YJ zv rfl rfl (fun w1a hb1a hg1a hs1a => ?_)
 refine Yn (vs:=d0) rfl rfl rfl (by rw [d0l];exact tz_m) d0_one hb1a (by rw [zl,d0l]) (fun w2 hb2 hg2 hs2' => ?_)
 have hlt:=hb2.lt
 have hw12 : Below w1.heap.size w1 w2:=(Yg hg1a (Nat.le_refl _) (by simp)).trans (Yg hg2 (by omega) (by intro q hq;simp at hq;omega))
 have hw2:=hw1.trans (hw12.mono (by omega))
 have hs2:=hs.below hw2
 have hz2:=hw12.size
 repeat first|(with_reducible first|apply Yd|apply Ya|apply Yc|apply Yb)|((with_reducible apply ws);exact rfl;exact rfl)
 refine Vl tb_bytes tb_bytes rfl rfl rfl hs2 (Own.nil w2 w2.heap.size 5) (Nat.le_refl _) (by simp only [List.length_nil];omega) (fun d3 w3 ho3 hg3 => ?_)
 have hw23 : Below w2.heap.size w2 w3:=hg3.below (Nat.le_refl _) (by simp [Value.ownBlock])
 have hw3:=hw2.trans (hw23.mono (by omega))
 have hb3:=hb2.below hw23 (by omega)
 have hz3:=hw23.size
 have hgl : 1 < w.heap.size:=World.block_lt_of_cell? _ _ hg
 have hg3' : w3.cell? ⟨1,0,none⟩ = some (.iface u x):=by rw [← hg];simp only [World.cell?,hw3.block _ hgl]
 rw [List.nil_append] at ho3
 obtain ⟨sb,hsb,hsbx,hsrc⟩:=own_src ho3 (by simp only [srcLim];simp only [lim] at hl;omega) (by omega) (by omega)
 have hb03 : Box w3 w.heap.size [.int .i64 0,.slice none 0 0,.bool false,.slice none 0 0,.slice none 0 0] 35:=((hb0.below hw01 (by omega)).below hw12 (by omega)).below hw23 (by omega)
 refine Yo rfl (by kernel_rfl) rfl ((fn_read v hv t ht w3 u x d3 w1.heap.size sb xs hxs hb3 hsrc hsb (by omega) hg3' (by omega) (by omega)).mono ?_)
 rintro e w4 ⟨rfl,hc4,cs4,lo4,new4,hlo4,hb4,hr4,hh4⟩
 refine ⟨_,rfl,?_⟩
 have hw34 : Below w1.heap.size w3 w4:=chg_below hc4 (fun j hj h => by rcases h with h | h <;> omega) (by omega)
 have hw4:=hw3.trans (hw34.mono (by omega))
 have hz4:=hw34.size
 have hb04:=hb03.below hw34 (by omega)
 refine Jc rfl (by kernel_rfl) rfl ?_
 repeat (with_reducible first|apply Yc|apply Yb)
 refine Yu rfl rfl ?_
 repeat (with_reducible first|apply Yd|apply Ya|apply Yb|apply Yh)
 obtain ⟨T0,hT0⟩:=Txr.tx_exists ht hh4
 simp only [YG] at hr4
 obtain ⟨c1,c2,rfl,hc1,hr4⟩:=hr4
 simp only [Rep] at hc1
 subst hc1
 have hat : YE w4 w1.heap.size (0 + 1) c2:=by
  have:=hb4.cells.right
  simpa using this
 have hr4' : YG (Lo w4.heap.size) w4 (new4 ++ Txr.txD (Txr.gotP (m.flexible (v : Int)) t)) c2:=YG.mono (fun j hj => ⟨hj.2,rfl⟩) _ _ hr4
 have htell:=tell_top.2 w4.heap.size w4 w1.heap.size 0 c2 (new4 ++ Txr.txD (Txr.gotP (m.flexible (v : Int)) t)) T0 hat hr4' (by omega) (Nat.le_refl _) hT0
 refine Yo rfl tell_top.1 rfl (htell.mono ?_)
 rintro e w5 ⟨cs5,T,rfl,hr5,hT5,hc5⟩
 refine ⟨_,rfl,?_⟩
 have hz5:=hc5.size
 have hw45 : Below w4.heap.size w4 w5:=⟨hc5.os,hc5.tape,hc5.output,hc5.size,fun j hj => hc5.block j hj (fun h => h)⟩
 have hw5:=hw4.trans (hw45.mono (by omega))
 have hb05:=hb04.below hw45 (by omega)
 have hb45:=hb4.below hw45 (by omega)
 obtain ⟨hone,hlen5⟩:=JK hr5
 refine YJ Impl.zv_tree rfl rfl (fun w6 hb6 hg6 hs6 => ?_)
 refine Yn (vs:=cs5) rfl rfl rfl (by rw [hlen5];exact Impl.tz_tree) hone hb6 (by rw [hlen5];rfl) (fun w7 hb7 hg7 hs7 => ?_)
 have hw57 : Below w5.heap.size w5 w7:=(Yg hg6 (Nat.le_refl _) (by simp)).trans (Yg hg7 (by omega) (by intro q hq;simp at hq;omega))
 have hz57:=hw57.size
 have hw7:=hw5.trans (hw57.mono (by omega))
 have hb07:=hb05.below hw57 (by omega)
 have hb47:=hb45.below hw57 (by omega)
 repeat first|(with_reducible first|apply Yd|apply Ya|apply Yc|apply Yb)|((with_reducible apply ws);exact rfl;exact rfl)
 refine Yf (i:=0) rfl to_i16 rfl hb47 (v:=.int .i16 (v : Int)) rfl ?_
 refine YY .i64 rfl ti_i16 ti_i64 rfl (r:=(v : Int)) (by rw [IntKind.wrap_i64];omega) ?_
 repeat ((with_reducible apply ws);exact rfl;exact rfl)
 obtain ⟨x5,r5,rfl⟩ : ∃ x5 r5,cs5 = x5 :: r5:=by
  cases cs5 with
  | nil => simp at hlen5
  | cons x5 r5 => exact ⟨x5,r5,rfl⟩
 refine YA (i:=0) rfl rfl to_i64 rfl hb7 rfl (fun w8 hb8 hg8 hs8 => ?_)
 have hw78 : Below w5.heap.size w7 w8:=Yg hg8 (by omega) (by intro q hq;simp at hq;omega)
 have hw8:=hw7.trans (hw78.mono (by omega))
 have hb08:=hb07.below hw78 (by omega)
 have hz78:=hw78.size
 have hr8:=rep_setN (v : Int) hr5
 obtain ⟨hone8,hlen8⟩:=JK hr8
 refine Yc (Yb ?_)
 repeat (with_reducible first|apply Yd|apply Ya)
 refine YC (cs:=(x5 :: r5).set 0 (.int .i64 (v : Int))) rfl (by rw [hlen8];exact Impl.ta_tree) rfl hb8 ?_
 refine Yn (vs:=(x5 :: r5).set 0 (.int .i64 (v : Int))) rfl rfl rfl (by rw [hlen8];exact Impl.tz_tree) hone8 hb08 (by rw [hlen8];rfl) (fun w9 hb9 hg9 hs9 => ?_)
 repeat first|(with_reducible first|apply Yc|apply Yb|apply Ym)|((with_reducible apply ws);exact rfl;exact rfl)
 have hw89 : Below w.heap.size w8 w9:=Yg hg9 (by omega) (by intro q hq;simp at hq;omega)
 have hw59 : Below w.heap.size w5 w9:=((hw57.trans hw78).mono (by omega)).trans hw89
 refine qk_retCell2 rfl rfl (by rw [hlen8];exact Impl.ta_tree) hb9 rfl ⟨_,setN (v : Int) T,rfl,?_,small_setN _ (small_P m_ok hT5),by cases T;rfl,top_setN _ (Txr.tx_top ht hh4 hT5),hw8.trans hw89⟩
 refine hr8.up (fun r hr => by have:=hr.2;simp only [Lo];omega) (fun r hr => ?_)
 have hr5':=hr.2
 have hge : w4.heap.size ≤ r:=by rcases hr.1 with h | h;exact absurd h (Nat.not_lt_zero _);exact h
 have e1 : w8.heap[r]? = w5.heap[r]?:=(hw57.trans hw78).block r hr5'
 rw [← e1]
 exact hg9.block r (by omega) (by simp;omega)
end
end BTxnMetadataValue
end Go.Proofs.YtlmnaffhadeolaaGreatDoor
