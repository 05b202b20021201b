/- A part of the proof of FnTellTxnMetadataValueCardSaid: what its texts prove stands at the head of each. Conditions: those that each theorem names. -/
import Derived.Test.YtlmnaffhadeolaaGreatDoorPartE
import Derived.Test.YtlmnaffhadeolaaGreatDoorPartF
import Derived.Test.YtlmnaffhadeolaaGreatDoorPartC
import Derived.Test.YtlmnaffhadeolaaGreatDoorPartD
import Derived.Test.YtlmnaffhadeolaaGreatDoorPartA
set_option linter.all false
namespace Go.Proofs.YtlmnaffhadeolaaGreatDoor
namespace Tlk
open Go Go.RowKit
section
variable {P : Program} {ops : Array Oper} {Q : Exit → Act → World → Prop} {N : Nat} {rest : List Oper} {L : Sl} {w : World} {d : Nat} {op : Op} {ty : TypeId} {pos : String} {aft : Array Edge}
theorem wl_does (hd : Nat.blt d N = true) (h : ∀ a,Kn N a L → Jj P ⟨some d,op,ty,pos,aft,none⟩ a w fun v w' => WL rest P ops Q N ((d,v) :: L) w') : WL (⟨some d,op,ty,pos,aft,none⟩ :: rest) P ops Q N L w:=by
 intro a k
 refine wpList_plain rfl (fun K hK => h a k K Q (fun v w' hv => hK _ _ (hv _ (k.put v hd))))
end
theorem ws {ops : Array Oper} {Q : Exit → Act → World → Prop} {N : Nat} {rest : List Oper} {L : Sl} {w : World} {d : Nat} {ty : TypeId} {pos : String} {aft : Array Edge} {o : Op} {v : Value}
  (hs : Ya5 Impl.tbl L o = some v) (hd : Nat.blt d N = true) (h : WL rest Tryz.prog ops Q N ((d,v) :: L) w) : WL (⟨some d,o,ty,pos,aft,none⟩ :: rest) Tryz.prog ops Q N L w:=JJ Impl.tbl Impl.tbl_ok hs hd h
set_option maxRecDepth 100000
theorem b0 (n : Int) : Tryz.prog.built 35 [(0,.int .i64 n)] = some #[.int .i64 n,.slice none 0 0,.bool false,.slice none 0 0,.slice none 0 0]:=by kernel_rfl
theorem b1 (a : Option Addr) (n c : Nat) : Tryz.prog.built 35 [(1,.slice a n c)] = some #[.int .i64 0,.slice a n c,.bool false,.slice none 0 0,.slice none 0 0]:=by kernel_rfl
theorem b3 (a : Option Addr) (n c : Nat) : Tryz.prog.built 35 [(3,.slice a n c)] = some #[.int .i64 0,.slice none 0 0,.bool false,.slice a n c,.slice none 0 0]:=by kernel_rfl
theorem sz5 : XH Tryz.prog 35 5 = true:=by kernel_rfl
theorem tty : TTy Tryz.prog 35:=⟨b0,b1,b3,sz5,Impl.ta_tree,Impl.zv_tree⟩
theorem rep_flagC {ok : Nat → Prop} {w : World} : Rep ok w (treeD nullT) (VM true):=by
 have:=Yi8 (ok:=ok) (w:=w) (s:=[]) (sv:=.slice none 0 0) (b:=true) rep_nilS
 exact this
theorem pt_str : (match Tryz.prog.underlying 82 with | some (.pointer _) => true | _ => false) = true:=by kernel_rfl
theorem is_str : isStr Tryz.prog 9 = true:=by kernel_rfl
theorem is_bytes : isBytes Tryz.prog 22 = true:=by kernel_rfl
theorem boolP : TlC Tryz.prog 149 0 (-1):=by
 refine ⟨by kernel_rfl,fun B w d c T hr hB hT => ?_⟩
 have hT' : ∃ b : Bool,d = .lit (.bool b) ∧ T = XC (if b then 1 else 0):=hT
 obtain ⟨b,rfl,rfl⟩:=hT'
 simp only [Rep,List.cons.injEq,and_true] at hr
 subst hr
 refine enter (vs:=[.bool b]) Tryz.func149 rfl Tryz.ntmps149 rfl ?_
 repeat (with_reducible first|apply Yd|apply Ya)
 refine YJ Impl.zv_tree rfl rfl (fun w1 hb1 hg1 hs1 => ?_)
 repeat first|(with_reducible first|apply Yd|apply Ya|apply Yc|apply Yb)|((with_reducible apply ws);exact rfl;exact rfl)
 cases b with
 | true =>
  refine Yp rfl rfl ?_
  repeat (with_reducible first|apply Yd|apply Ya)
  refine Xa rfl (cs:=[.int .i64 1,.slice none 0 0,.bool false,.slice none 0 0,.slice none 0 0]) (by kernel_rfl) rfl ?_
  refine Yn (vs:=[.int .i64 1,.slice none 0 0,.bool false,.slice none 0 0,.slice none 0 0]) rfl rfl rfl Impl.tz_tree rfl hb1 rfl (fun w2 hb2 hg2 hs2 => ?_)
  repeat (with_reducible first|apply Yc|apply Yb|apply Ym|apply Yj)
  refine XT (cs:=[.int .i64 1,.slice none 0 0,.bool false,.slice none 0 0,.slice none 0 0]) rfl rfl Impl.ta_tree hb2 ⟨_,XC 1,rfl,UI 1,⟨true,rfl,rfl⟩,?_⟩
  exact ⟨hg2.os.trans hg1.os,hg2.tape.trans hg1.tape,hg2.output.trans hg1.output,by omega,fun j hj _ => by rw [hg2.block j (by omega) (by simp;omega),hg1.block j hj (by simp)]⟩
 | false =>
  refine Yu rfl rfl ?_
  repeat (with_reducible first|apply Yd|apply Ya|apply Yb|apply Yh)
  refine Xa rfl (cs:=[.int .i64 0,.slice none 0 0,.bool false,.slice none 0 0,.slice none 0 0]) (by kernel_rfl) rfl ?_
  refine Yn (vs:=[.int .i64 0,.slice none 0 0,.bool false,.slice none 0 0,.slice none 0 0]) rfl rfl rfl Impl.tz_tree rfl hb1 rfl (fun w2 hb2 hg2 hs2 => ?_)
  repeat (with_reducible first|apply Yc|apply Yb|apply Ym)
  refine XT (cs:=[.int .i64 0,.slice none 0 0,.bool false,.slice none 0 0,.slice none 0 0]) rfl rfl Impl.ta_tree hb2 ⟨_,XC 0,rfl,UI 0,⟨false,rfl,rfl⟩,?_⟩
  exact ⟨hg2.os.trans hg1.os,hg2.tape.trans hg1.tape,hg2.output.trans hg1.output,by omega,fun j hj _ => by rw [hg2.block j (by omega) (by simp;omega),hg1.block j hj (by simp)]⟩
theorem textP : TlC Tryz.prog 75 8 0:=by
 refine ⟨by kernel_rfl,fun B w d c T hr hB hT => ?_⟩
 have hT' : (d = .lit (.pointer none) ∧ T = nullT) ∨ (∃ s,d = .ptr (.lit (UM s)) ∧ T = UB s):=hT
 rcases hT' with ⟨rfl,rfl⟩ | ⟨s,rfl,rfl⟩
 ·simp only [Rep,List.cons.injEq,and_true] at hr
  subst hr
  refine enter (vs:=[.pointer none]) Tryz.func75 rfl Tryz.ntmps75 rfl ?_
  repeat (with_reducible first|apply Yd|apply Ya)
  refine YJ Impl.zv_tree rfl rfl (fun w1 hb1 hg1 hs1 => ?_)
  repeat first|(with_reducible first|apply Yd|apply Ya|apply Yc|apply Yb)|((with_reducible apply ws);exact rfl;exact rfl)
  refine wl_ptrNil rfl pt_str rfl ?_
  repeat (with_reducible first|apply Yc|apply Yb)
  refine Yp rfl rfl ?_
  repeat (with_reducible first|apply Yd|apply Ya)
  refine Xa rfl (cs:=VM true) (by kernel_rfl) rfl ?_
  refine Yn (vs:=VM true) rfl rfl rfl Impl.tz_tree rfl hb1 rfl (fun w2 hb2 hg2 hs2 => ?_)
  repeat (with_reducible first|apply Yc|apply Yb|apply Ym|apply Yj)
  refine XT (cs:=VM true) rfl rfl Impl.ta_tree hb2 ⟨_,nullT,rfl,rep_flagC,.inl ⟨rfl,rfl⟩,?_⟩
  exact ⟨hg2.os.trans hg1.os,hg2.tape.trans hg1.tape,hg2.output.trans hg1.output,by omega,fun j hj _ => by rw [hg2.block j (by omega) (by simp;omega),hg1.block j hj (by simp)]⟩
 ·simp only [Rep] at hr
  obtain ⟨b,cs',hc,hbB,hcs,hr⟩:=hr
  simp only [List.cons.injEq,and_true] at hc
  subst hc
  subst hr
  have hbB' : b < B:=hbB
  refine enter (vs:=[.pointer (some ⟨b,0,none⟩)]) Tryz.func75 rfl Tryz.ntmps75 rfl ?_
  repeat (with_reducible first|apply Yd|apply Ya)
  refine YJ Impl.zv_tree rfl rfl (fun w1 hb1 hg1 hs1 => ?_)
  have hcs1 : YE w1 b 0 [UM s]:=hcs.of_block (hg1.block b (by omega) (by simp))
  repeat first|(with_reducible first|apply Yd|apply Ya|apply Yc|apply Yb)|((with_reducible apply ws);exact rfl;exact rfl)
  refine wl_ptrNil rfl pt_str rfl ?_
  repeat (with_reducible first|apply Yc|apply Yb)
  refine Yu rfl rfl ?_
  repeat first|(with_reducible first|apply Yd|apply Ya|apply Yb|apply Yh)|((with_reducible apply ws);exact rfl;exact rfl)
  refine XN rfl to_str rfl (v:=UM s) (by have:=hcs1.cell (i:=0) (v:=UM s) rfl;simpa using this) ?_
  refine wl_does rfl (fun a k => Yr2 (l0:=w1.heap.size) rfl (k.at_ _ _ rfl) is_str is_bytes (Nat.le_refl _) (fun v w2 hv hrv hc2 => ?_))
  obtain ⟨va,vn,vc,rfl⟩:=hv
  have hs2:=hc2.size
  refine Xa rfl (cs:=[.int .i64 0,.slice va vn vc,.bool false,.slice none 0 0,.slice none 0 0]) (by kernel_rfl) rfl ?_
  have hb2:=hb1.chg hc2 (fun h => h)
  refine Yn (vs:=[.int .i64 0,.slice va vn vc,.bool false,.slice none 0 0,.slice none 0 0]) rfl rfl rfl Impl.tz_tree rfl hb2 rfl (fun w3 hb3 hg3 hs3 => ?_)
  repeat (with_reducible first|apply Yc|apply Yb|apply Ym)
  refine XT (cs:=[.int .i64 0,.slice va vn vc,.bool false,.slice none 0 0,.slice none 0 0]) rfl rfl Impl.ta_tree hb3 ⟨_,UB s,rfl,Yi8 (hrv.up (fun r hr => ⟨.inr (by rcases hr.1 with h | h;exact absurd h (Nat.not_lt_zero _);omega),by have:=hr.2;omega⟩) (fun r hr => hg3.block r hr.2 (by rcases hr.1 with h | h;exact absurd h (Nat.not_lt_zero _);simp;omega))),.inr ⟨s,rfl,rfl⟩,?_⟩
  refine ⟨hg3.os.trans (hc2.os.trans hg1.os),hg3.tape.trans (hc2.tape.trans hg1.tape),hg3.output.trans (hc2.output.trans hg1.output),by omega,fun j hj _ => ?_⟩
  rw [hg3.block j (by omega) (by simp;omega),hc2.block j (by omega) (fun h => h),hg1.block j hj (by simp)]
theorem octsP : TlC Tryz.prog 129 9 (-1):=by
 refine ⟨by kernel_rfl,fun B w d c T hr hB hT => ?_⟩
 have hT' : ∃ (s : List UInt8) (b : Bool),(T = .mk 0 s b [] [] ∧ s.length ≤ lim) ∧ (d = .sl b (s.map YF) ∨ (d = .sq (s.map YF) ∧ (s ≠ [] → b = false))):=hT
 obtain ⟨s,b,⟨rfl,hlen⟩,hd⟩:=hT'
 have hsq : Sq B w c (s.map YF):=by
  rcases hd with rfl | ⟨rfl,_⟩
  ·exact sl_sq hr
  ·exact hr
 obtain ⟨ca,cc,rfl,_⟩:=hsq.shape
 have hfl : XQ 9 (-1) d (.mk 0 s ca.isNone [] []):=by
  refine ⟨s,ca.isNone,⟨rfl,hlen⟩,?_⟩
  rcases hd with rfl | ⟨rfl,_⟩
  ·simp only [Rep] at hr
   obtain ⟨a',c',e,_,h1,h2⟩:=hr
   simp only [List.cons.injEq,Value.slice.injEq,and_true] at e
   obtain ⟨rfl,_,rfl⟩:=e
   cases b with
   | true => rw [(h1 rfl).1];exact .inl rfl
   | false => obtain ⟨b',o',cs',ha,_⟩:=h2 rfl;rw [ha];exact .inl rfl
  ·refine .inr ⟨rfl,fun hne => ?_⟩
   simp only [Rep] at hr
   obtain ⟨a',c',e,_,h2⟩:=hr
   simp only [List.cons.injEq,Value.slice.injEq,and_true] at e
   obtain ⟨rfl,_,rfl⟩:=e
   rcases h2 with h2 | ⟨b',o',cs',ha,_⟩
   ·exact absurd (List.map_eq_nil_iff.1 h2) hne
   ·rw [ha];rfl
 refine enter (vs:=[.slice ca (s.map YF).length cc]) Tryz.func129 rfl Tryz.ntmps129 rfl ?_
 repeat (with_reducible first|apply Yd|apply Ya)
 refine YJ Impl.zv_tree rfl rfl (fun w1 hb1 hg1 hs1 => ?_)
 have hw1 : Below w.heap.size w w1:=Yg hg1 (Nat.le_refl _) (by simp)
 repeat first|(with_reducible first|apply Yd|apply Ya|apply Yc|apply Yb)|((with_reducible apply ws);exact rfl;exact rfl)
 refine Vl tb_bytes tb_bytes rfl rfl rfl (hsq.below (hw1.mono hB) (Nat.le_refl _)).bytes (Own.nil w1 w1.heap.size 5) (Nat.le_refl _) (by simpa using hlen) (fun d2 w2 ho2 hg2 => ?_)
 rw [List.nil_append] at ho2
 obtain ⟨da,dc,rfl⟩:=ho2.shape
 have hb2:=hb1.kept hg2.grown (by simp [Value.ownBlock])
 have hs2:=hg2.grown.size
 repeat ((with_reducible apply ws);exact rfl;exact rfl)
 refine wl_sliceNil rfl el_bytes rfl ?_
 refine Xa rfl (cs:=[.int .i64 0,.slice da s.length dc,.bool ca.isNone,.slice none 0 0,.slice none 0 0]) (by kernel_rfl) rfl ?_
 refine Yn (vs:=[.int .i64 0,.slice da s.length dc,.bool ca.isNone,.slice none 0 0,.slice none 0 0]) rfl rfl rfl Impl.tz_tree rfl hb2 rfl (fun w3 hb3 hg3 hs3 => ?_)
 repeat (with_reducible first|apply Yc|apply Yb|apply Ym)
 have ho3:=ho2.kept hg3 (by
  cases hob : (Value.slice da s.length dc).ownBlock with
  | none => exact .inl rfl
  | some g => exact .inr (fun e => by have:=ho2.ge g hob;simp only [Option.some.injEq] at e;omega))
 refine XT (cs:=[.int .i64 0,.slice da s.length dc,.bool ca.isNone,.slice none 0 0,.slice none 0 0]) rfl rfl Impl.ta_tree hb3 ⟨_,.mk 0 s ca.isNone [] [],rfl,Yi8 (own_rep (l0:=w.heap.size) ho3 (by omega)),hfl,?_⟩
 refine ⟨hg3.os.trans (hg2.grown.os.trans hg1.os),hg3.tape.trans (hg2.grown.tape.trans hg1.tape),hg3.output.trans (hg2.grown.output.trans hg1.output),by omega,fun j hj _ => ?_⟩
 rw [hg3.block j (by omega) (by simp;omega),hg2.grown.block j (by omega) (by simp [Value.ownBlock]),hg1.block j hj (by simp)]
theorem eachP : EachC Tryz.prog 66:=⟨by kernel_rfl,fun w B b off g bs kvs v S Inv h1 h2 h3 h4 h5 h6 h7 h8 h9 => Ea.fn_eachG w B b off g bs kvs v S Inv h1 h2 h3 h4 h5 h6 h7 h8 h9⟩
theorem es_tagsI : Yv Tryz.prog 33 = some 2:=by kernel_rfl
theorem fo_tag0 : YK Tryz.prog 81 0 = some 0:=by kernel_rfl
set_option maxHeartbeats 2000000 in
theorem sortP : SoC Tryz.prog 68:=by
 refine ⟨by kernel_rfl,fun w v u hsq hok hmany => ?_⟩
 obtain ⟨ua,uc,rfl,_⟩:=hsq.shape
 rw [List.length_map] at hsq ⊢
 refine enter (vs:=[.slice ua u.length uc]) Tryz.func68 rfl Tryz.ntmps68 rfl ?_
 repeat first|(with_reducible first|apply Yd|apply Ya|apply Yc|apply Yb|apply Yr)|((with_reducible apply ws);exact rfl;exact rfl)
 refine Xu (α:=Nat) (fun i => [(6,.int .i64 (i : Int)),(5,.int .i64 (u.length : Int)),(0,.slice ua u.length uc)]) (fun i w' => i ≤ u.length ∧ Chg (fun _ => False) w w') (fun i => u.length - i) 0 ⟨rfl,rfl,rfl,trivial⟩ ⟨Nat.zero_le _,Chg.refl _ _⟩ ?_
 rintro i w1 ⟨hi,hc1⟩
 have hmany' : u.length ≤ 68719476736:=hmany
 repeat first|(with_reducible first|apply Yd|apply Ya|apply Yc|apply Yb)|((with_reducible apply ws);exact rfl;exact rfl)
 by_cases hlt : i < u.length
 ·refine Yp rfl (by simpa using hlt) ?_
  repeat first|(with_reducible first|apply Yd|apply Ya|apply Yc|apply Yb|apply Yr|apply Yh)|((with_reducible apply ws);exact rfl;exact rfl)
  refine Xu (α:=Unit) (fun _ => [(6,.int .i64 (i : Int)),(5,.int .i64 (u.length : Int)),(0,.slice ua u.length uc),(3,.int .i64 (i : Int))]) (fun _ w' => Chg (fun _ => False) w w') (fun _ => 0) () ⟨rfl,rfl,rfl,rfl,trivial⟩ hc1 ?_
  rintro _ w2 hc2
  repeat (with_reducible apply Yd)
  by_cases h0 : i = 0
  ·subst h0
   refine XJ [(0,.int .i64 ((0 : Nat) : Int)),(1,.bool false),(2,.bool false),(3,undef),(4,undef),(5,undef),(6,undef),(7,undef),(8,undef),(9,undef),(10,undef),(11,undef),(12,undef),(13,undef),(14,undef),(15,.bool false)] []
    (fun _ w' => Chg (fun _ => False) w w') mixed rfl rfl rfl rfl rfl (by show ([0,1,2,3,4,5,6,7,8,9,10,11,12,13,14,15] : List Nat).Nodup;decide) rfl rfl (by decide) rfl rfl rfl rfl (hc2.trans (XP _ _)) ?_ trivial ?_
   ·intro p hp vals w' hC a k
    simp only [List.mem_cons,List.not_mem_nil,or_false] at hp
    rcases hp with rfl | rfl | rfl | rfl | rfl | rfl | rfl | rfl | rfl | rfl | rfl | rfl | rfl | rfl | rfl | rfl
    ·exact gv rfl rfl (Yl k rfl)
    ·exact gv rfl rfl ((rn_gtr k rfl rfl).trans rfl)
    ·exact gv rfl rfl (Yl k rfl)
    iterate 12 (exact gv_no rfl rfl rfl k rfl rfl)
    ·exact gv rfl rfl (Uc k rfl rfl)
   ·rintro vals w3 hvl hC
    refine Yb ?_
    refine Yu rfl rfl ?_
    repeat (with_reducible first|apply Ya|apply Yb|apply Xk|apply XS|apply Yw|apply YB|apply Yq)
    refine Xn rfl rfl rfl (r:=((0 + 1 : Nat) : Int)) (by decide) ?_
    repeat first|(with_reducible apply Yc)|((with_reducible apply ws);exact rfl;exact rfl)
    exact YD (0 + 1) ⟨rfl,rfl,rfl,trivial⟩ ⟨by omega,hC⟩ (by omega)
  ·have hpos : 0 < i:=Nat.pos_of_ne_zero h0
   obtain ⟨b,off,c1,cs,hv,hbB,hcs,hcl,hr⟩:=hsq.get (sz:=2) (i:=i) (by intro d hd;obtain ⟨x,_,rfl⟩:=List.mem_map.1 hd;exact VL x) (by simpa using hlt)
   obtain ⟨b2,off2,c2,cs2,hv2,_,hcs2,hcl2,hr2⟩:=hsq.get (sz:=2) (i:=i - 1) (by intro d hd;obtain ⟨x,_,rfl⟩:=List.mem_map.1 hd;exact VL x) (by simp;omega)
   rw [hv] at hv2
   simp only [Value.slice.injEq,List.length_map,Option.some.injEq,Addr.mk.injEq,and_true,true_and] at hv hv2
   obtain ⟨rfl,_,rfl⟩:=hv
   obtain ⟨⟨rfl,rfl⟩,rfl⟩:=hv2
   simp only [List.getElem_map] at hr hr2
   obtain ⟨q1,rfl,_⟩:=VO hr
   obtain ⟨q2,rfl,_⟩:=VO hr2
   have hrise : ((u[i - 1]'(by omega)).1 : Nat) < (u[i]).1:=List.pairwise_iff_getElem.1 hok.1 (i - 1) i (by omega) hlt (by omega)
   have hbw : b < w.heap.size:=hcs.lt
   refine XJ [(0,.int .i64 (i : Int)),(1,.bool true),(2,.bool true),(3,.slice (some ⟨b,off,none⟩) u.length uc),(4,.int .i64 (i : Int)),(5,.pointer (some ⟨b,off + i * 2,none⟩)),(6,.pointer (some ⟨b,off + i * 2 + 0,none⟩)),(7,.int .u32 (u[i].1 : Nat)),(8,.slice (some ⟨b,off,none⟩) u.length uc),(9,.int .i64 (i : Int)),(10,.int .i64 ((i - 1 : Nat) : Int)),(11,.pointer (some ⟨b,off + (i - 1) * 2,none⟩)),(12,.pointer (some ⟨b,off + (i - 1) * 2 + 0,none⟩)),(13,.int .u32 ((u[i - 1]'(by omega)).1 : Nat)),(14,.bool false),(15,.bool false)] []
    (fun _ w' => Chg (fun _ => False) w w') mixed rfl rfl rfl rfl rfl (by show ([0,1,2,3,4,5,6,7,8,9,10,11,12,13,14,15] : List Nat).Nodup;decide) rfl rfl (by decide) rfl rfl rfl rfl (hc2.trans (XP _ _)) ?_ trivial ?_
   ·intro p hp vals w' hC a k
    have hck:=hcs.chg hC (fun h => h)
    have hck2:=hcs2.chg hC (fun h => h)
    simp only [List.mem_cons,List.not_mem_nil,or_false] at hp
    rcases hp with rfl | rfl | rfl | rfl | rfl | rfl | rfl | rfl | rfl | rfl | rfl | rfl | rfl | rfl | rfl | rfl
    ·exact gv rfl rfl (Yl k rfl)
    ·exact gv rfl rfl ((rn_gtr k rfl rfl).trans (by rw [show decide ((0 : Int) < (i : Int)) = true from by simp;omega]))
    ·exact gv rfl rfl (Yl k rfl)
    ·exact YO rfl rfl rfl k rfl rfl (Yl k rfl)
    ·exact YO rfl rfl rfl k rfl rfl (Yl k rfl)
    ·exact YO rfl rfl rfl k rfl rfl (Yx k rfl rfl es_tagsI hlt)
    ·exact YO rfl rfl rfl k rfl rfl (Yi k rfl fo_tag0)
    ·exact YO rfl rfl rfl k rfl rfl (Yy k rfl to_u32 (hck.cell (i:=0) rfl))
    ·exact YO rfl rfl rfl k rfl rfl (Yl k rfl)
    ·exact YO rfl rfl rfl k rfl rfl (Yl k rfl)
    ·exact YO rfl rfl rfl k rfl rfl (rn_sub k rfl rfl (by rw [IntKind.wrap_i64];omega))
    ·exact YO rfl rfl rfl k rfl rfl (Yx k rfl rfl es_tagsI (by omega))
    ·exact YO rfl rfl rfl k rfl rfl (Yi k rfl fo_tag0)
    ·exact YO rfl rfl rfl k rfl rfl (Yy k rfl to_u32 (hck2.cell (i:=0) rfl))
    ·exact YO rfl rfl rfl k rfl rfl ((Ye4 k rfl rfl).trans (by rw [show decide (((u[i].1 : Nat) : Int) < (((u[i - 1]'(by omega)).1 : Nat) : Int)) = false from by simp;omega]))
    ·exact gv rfl rfl (Uc k rfl rfl)
   ·rintro vals w3 hvl hC
    refine Yb ?_
    refine Yu rfl rfl ?_
    repeat (with_reducible first|apply Ya|apply Yb|apply Xk|apply XS|apply Yw|apply YB|apply Yq)
    refine Xn rfl rfl rfl (r:=((i + 1 : Nat) : Int)) (by rw [IntKind.wrap_i64];omega) ?_
    repeat first|(with_reducible apply Yc)|((with_reducible apply ws);exact rfl;exact rfl)
    exact YD (i + 1) ⟨rfl,rfl,rfl,trivial⟩ ⟨by omega,hC⟩ (by omega)
 ·refine Yu rfl (by simpa using hlt) ?_
  repeat (with_reducible first|apply Xk|apply Yw|apply YB|apply Yq)
  exact JH rfl ⟨rfl,hc1⟩
end Tlk

section
open Go Go.RowKit
theorem endR_out {flex : Bool} {off : Nat} {a r : List Ra} (h : endR flex off a = some r) : (flex = true ∧ a = .tags off :: r) ∨ (flex = false ∧ a = r):=by
 unfold endR at h
 cases flex with
 | false => simp only [Bool.false_eq_true,if_false,Option.some.injEq] at h;exact .inr ⟨rfl,h⟩
 | true =>
  simp only [if_true] at h
  split at h
  ·rename_i o r'
   cases hb : Nat.beq o off with
   | false => rw [hb] at h;cases h
   | true =>
    rw [hb] at h
    simp only [cond_true,Option.some.injEq] at h
    subst h
    rw [Ye hb]
    exact .inl ⟨rfl,rfl⟩
  ·cases h
theorem isEnd_out {flex : Bool} {off : Nat} {a : List Ra} (h : isEnd flex off a = true) : endR flex off a = some []:=by
 unfold isEnd at h
 split at h
 ·assumption
 ·cases h
theorem isPrim_out {p : Rp} {a : List Ra} (h : isPrim p a = true) : a = [.prim p 0]:=by
 unfold isPrim at h
 split at h
 ·rw [rpEq_out h]
 ·cases h
def Reads (_ver : Int) (_tg _flex : Bool) (sh : List Ck) (H : List D → Prop) (a r : List Ra) (off : Nat) (ys : List UInt8) : Prop :=
 ∀ (pre mid post : List D) (s : List UInt8),shDs mid = sh → Ye7 pre → Ye7 mid → D.widths pre = off →
  ∃ new new',rdAs a (pre ++ mid ++ post) (ys ++ s) = rdAs r (pre ++ new ++ post) s ∧ shDs new = sh ∧ Ye7 new ∧ H new' ∧ shDs new' = sh ∧ pos new' ∧ Imp new new'
theorem Reads.weak {ver : Int} {tg flex : Bool} {sh : List Ck} {H H' : List D → Prop} {a r : List Ra} {off : Nat} {ys : List UInt8} (h : Reads ver tg flex sh H a r off ys) (k : ∀ ds,H ds → H' ds) : Reads ver tg flex sh H' a r off ys:=by
 intro pre mid post s hsh hpre hmid hw
 obtain ⟨n1,n1',e1,e2,e3,e4,e5⟩:=h pre mid post s hsh hpre hmid hw
 exact ⟨n1,n1',e1,e2,e3,k _ e4,e5⟩
theorem UA (l : List Value) : Ye7 (YI l):=by
 intro d hd
 simp only [YI,List.mem_map] at hd
 obtain ⟨u,_,rfl⟩:=hd
 rfl
end

section
open Go Go.RowKit
end

section
open Go Go.RowKit
def HzU (tg flex : Bool) (t : Tree) (b : List D) : Prop := if tg then b = [XW (if flex then t.u else [])] else b = []
mutual
def HzF (ver : Int) (tg flex : Bool) : Fld → Tree → List D → Prop
  | .mk kind _ _ nul _ _ of sub, t, ds =>
    if kind = 11 then ∃ d, ds = [d] ∧ HoldS ver nul t (fun els =>
      (if of = 10 then ∀ i, i < t.l.length → ∃ a b, els[i]? = some (.agg (a ++ b)) ∧ Yg9 ver tg flex sub 0 (att t i) a ∧ HzU tg flex (att t i) b
       else els = t.l.map (Vn of (-1)))) d
    else if kind = 10 then ∃ a b, ds = a ++ b ∧ Yg9 ver tg flex sub 0 t a ∧ HzU tg flex t b
    else ∃ d, ds = [d] ∧ JC ver kind nul t d
def Yg9 (ver : Int) (tg flex : Bool) : List Fld → Nat → Tree → List D → Prop
  | [], _, _, ds => ds = []
  | f :: fs, i, t, ds => ∃ a b, ds = a ++ b ∧ shDs a = shF tg f ∧ pos a ∧ (if f.has ver = true then HzF ver tg flex f (att t i) a else a = dfF tg f) ∧ Yg9 ver tg flex fs (i + 1) t b
end
def HzP (ver : Int) (tg flex : Bool) (fs : List Fld) (t : Tree) (ds : List D) : Prop := ∃ a b, ds = a ++ b ∧ Yg9 ver tg flex fs 0 t a ∧ HzU tg flex t b
theorem HzF_mk (ver : Int) (tg flex : Bool) (kind fr upto nul tag df of : Int) (sub : List Fld) (t : Tree) (ds : List D) : HzF ver tg flex (.mk kind fr upto nul tag df of sub) t ds ↔
    if kind = 11 then ∃ d, ds = [d] ∧ HoldS ver nul t (fun els => if of = 10 then ∀ i, i < t.l.length → ∃ ps, els[i]? = some (.agg ps) ∧ HzP ver tg flex sub (att t i) ps else els = t.l.map (Vn of (-1))) d
    else if kind = 10 then HzP ver tg flex sub t ds
    else ∃ d, ds = [d] ∧ JC ver kind nul t d := by
  simp only [HzF, HzP]
  by_cases h11 : kind = 11
  · simp only [h11, if_true]
    by_cases h10 : of = 10
    · simp only [h10, if_true]
      have e : ∀ els : List D, (∀ i, i < t.l.length → ∃ a b, els[i]? = some (.agg (a ++ b)) ∧ Yg9 ver tg flex sub 0 (att t i) a ∧ HzU tg flex (att t i) b) ↔ (∀ i, i < t.l.length → ∃ ps, els[i]? = some (.agg ps) ∧ ∃ a b, ps = a ++ b ∧ Yg9 ver tg flex sub 0 (att t i) a ∧ HzU tg flex (att t i) b) := by
        intro els
        constructor
        · intro h i hi
          obtain ⟨a, b, k1, k2, k3⟩ := h i hi
          exact ⟨a ++ b, k1, a, b, rfl, k2, k3⟩
        · intro h i hi
          obtain ⟨ps, k1, a, b, rfl, k2, k3⟩ := h i hi
          exact ⟨a, b, k1, k2, k3⟩
      simp only [e]
    · simp only [h10, if_false]
  · simp only [h11, if_false]
def ziE : Value → Value → Bool
  | .int k n, .int l m => decide (k = l) && decide (n = m)
  | .bool a, .bool b => a == b
  | .string a, .string b => decide (a.data.toList = b.data.toList)
  | .pointer none, .pointer none => true
  | .slice none 0 0, .slice none 0 0 => true
  | .map none, .map none => true
  | _, _ => false
theorem ziE_out {a b : Value} (h : ziE a b = true) : a = b := by
  unfold ziE at h
  split at h
  · simp only [Bool.and_eq_true, decide_eq_true_eq] at h; rw [h.1, h.2]
  · simp only [beq_iff_eq] at h; rw [h]
  · simp only [decide_eq_true_eq] at h
    rename_i x y
    have : x.data = y.data := Array.ext' h
    cases x; cases y; simp only at this; rw [this]
  · rfl
  · rfl
  · rfl
  · cases h
def ziEs : List Value → List Value → Bool
  | [], [] => true
  | a :: r, b :: s => ziE a b && ziEs r s
  | _, _ => false
theorem ziEs_out : ∀ {a b : List Value}, ziEs a b = true → a = b
  | [], [], _ => rfl
  | a :: r, b :: s, h => by
    simp only [ziEs, Bool.and_eq_true] at h
    rw [ziE_out h.1, ziEs_out h.2]
  | [], _ :: _, h => by cases h
  | _ :: _, [], h => by cases h
def ZmU (tg : Bool) (y : List D) : Prop := tg = true → y = [.lit (.map none)]
mutual
def ZmF (ver : Int) (tg : Bool) : Fld → List D → Prop
  | .mk kind _ _ _ _ _ _ sub, mid => if kind = 10 then ∃ x y, mid = x ++ y ∧ shDs x = JG tg sub ∧ ZmFs ver tg sub x ∧ ZmU tg y else True
def ZmFs (ver : Int) (tg : Bool) : List Fld → List D → Prop
  | [], _ => True
  | f :: fs, mid => ∃ x y, mid = x ++ y ∧ shDs x = shF tg f ∧ (if f.has ver = true then ZmF ver tg f x else x = YI (ziF tg f)) ∧ ZmFs ver tg fs y
end
def ZmP (ver : Int) (tg : Bool) (fs : List Fld) (mid : List D) : Prop := ∃ x y, mid = x ++ y ∧ shDs x = JG tg fs ∧ ZmFs ver tg fs x ∧ ZmU tg y
mutual
def zbF (ver : Int) (tg : Bool) : Fld → List Value → Bool
  | .mk kind _ _ _ _ _ _ sub, vs => if kind = 10 then zbFs ver tg sub (vs.take (JG tg sub).length) && (!tg || ziEs (vs.drop (JG tg sub).length) [.map none]) else true
def zbFs (ver : Int) (tg : Bool) : List Fld → List Value → Bool
  | [], _ => true
  | f :: fs, vs => (if f.has ver then zbF ver tg f (vs.take (shF tg f).length) else ziEs (vs.take (shF tg f).length) (ziF tg f)) && zbFs ver tg fs (vs.drop (shF tg f).length)
end
def zbP (ver : Int) (tg : Bool) (fs : List Fld) (vs : List Value) : Bool := zbFs ver tg fs (vs.take (JG tg fs).length) && (!tg || ziEs (vs.drop (JG tg fs).length) [.map none])
theorem Ye8 {vs : List Value} {x y : List Ck} (h : shDs (YI vs) = x ++ y) : shDs (YI (vs.take x.length)) = x ∧ shDs (YI (vs.drop x.length)) = y ∧ YI vs = YI (vs.take x.length) ++ YI (vs.drop x.length) := by
  have e : YI vs = YI (vs.take x.length) ++ YI (vs.drop x.length) := by
    unfold YI; rw [← List.map_append, List.take_append_drop]
  have hu : ∀ l : List Value, (shDs (YI l)).length = l.length := fun l => by rw [unit_len (UA l)]; simp [YI]
  have hl : x.length ≤ vs.length := by rw [← hu vs, h]; simp
  rw [e, shDs_append] at h
  have h2 := List.append_inj h (by rw [hu]; simp; omega)
  exact ⟨h2.1, h2.2, e⟩
mutual
theorem zbF_out {ver : Int} {tg : Bool} : ∀ {f : Fld} {vs : List Value}, noPt f = true → zbF ver tg f vs = true → shDs (YI vs) = shF tg f → ZmF ver tg f (YI vs)
  | .mk kind fr upto nul tag df of sub, vs, hn, h, hs => by
    simp only [noPt, Bool.and_eq_true, Bool.or_eq_true, Bool.not_eq_true', decide_eq_true_eq, decide_eq_false_iff_not] at hn
    simp only [zbF] at h
    simp only [ZmF]
    by_cases h10 : kind = 10
    · simp only [h10, if_true, Bool.and_eq_true, Bool.or_eq_true, Bool.not_eq_true'] at h ⊢
      have hnn : ¬ 0 ≤ nul := by omega
      have hs' : shDs (YI vs) = JG tg sub ++ (if tg then [.mp] else []) := by rw [hs]; simp [shF, h10, hnn]
      obtain ⟨k1, k2, k3⟩ := Ye8 hs'
      refine ⟨_, _, k3, k1, Jd hn.2 h.1 k1, fun ht => ?_⟩
      rcases h.2 with h2 | h2
      · rw [ht] at h2; cases h2
      · rw [ziEs_out h2]; rfl
    · simp only [h10, if_false]
theorem Jd {ver : Int} {tg : Bool} : ∀ {fs : List Fld} {vs : List Value}, noPts fs = true → zbFs ver tg fs vs = true → shDs (YI vs) = JG tg fs → ZmFs ver tg fs (YI vs)
  | [], _, _, _, _ => by simp only [ZmFs]
  | f :: fs, vs, hn, h, hs => by
    simp only [noPts, Bool.and_eq_true] at hn
    simp only [zbFs, Bool.and_eq_true] at h
    simp only [JG] at hs
    obtain ⟨k1, k2, k3⟩ := Ye8 hs
    simp only [ZmFs]
    refine ⟨_, _, k3, k1, ?_, Jd hn.2 h.2 k2⟩
    by_cases hx : f.has ver = true
    · rw [if_pos hx]; rw [if_pos hx] at h; exact zbF_out hn.1 h.1 k1
    · rw [if_neg hx]; rw [if_neg hx] at h; rw [ziEs_out h.1]
end
theorem zbP_out {ver : Int} {tg : Bool} {fs : List Fld} {vs : List Value} (hn : noPts fs = true) (h : zbP ver tg fs vs = true) (hs : shDs (YI vs) = shP tg fs) : ZmP ver tg fs (YI vs) := by
  unfold zbP at h
  simp only [Bool.and_eq_true, Bool.or_eq_true, Bool.not_eq_true'] at h
  obtain ⟨k1, k2, k3⟩ := Ye8 hs
  refine ⟨_, _, k3, k1, Jd hn h.1 k1, fun ht => ?_⟩
  rcases h.2 with h2 | h2
  · rw [ht] at h2; cases h2
  · rw [ziEs_out h2]; rfl
mutual
def mFz (ver : Int) (tg flex : Bool) (off : Nat) : Fld → List Ra → Option (List Ra)
  | .mk kind _ _ nul _ _ of sub, ra =>
    if kind = 11 then (match ra with
      | .row c nb o st dfl body :: r =>
        bif (c == flex) && (nb || !decide (0 ≤ nul ∧ nul ≤ ver)) && Nat.beq o off && (st == decide (of = 10)) && decide (shDs (YI dfl) = shE tg of sub) && (if of = 10 then noPts sub && zbP ver tg sub dfl else true) &&
          (if of = 10 then (flex || ne1 ver sub) && endsO flex (JG tg sub).length (mFsz ver tg flex 0 sub body) else isPrim (rpV of (-1) ver flex) body) then some r else none
      | _ => none)
    else if kind = 10 then (if 0 ≤ nul then none else match mFsz ver tg flex off sub ra with | some r => endR flex (off + (JG tg sub).length) r | none => none)
    else (match ra with
      | .prim p o :: r => bif rpEq p (rpV kind nul ver flex) && Nat.beq o off then some r else none
      | _ => none)
def mFsz (ver : Int) (tg flex : Bool) (off : Nat) : List Fld → List Ra → Option (List Ra)
  | [], ra => some ra
  | f :: fs, ra => match (if f.has ver then mFz ver tg flex off f ra else some ra) with
    | some r => mFsz ver tg flex (off + (shF tg f).length) fs r
    | none => none
end
def Jx (sh : List Ck) (Z H : List D → Prop) (a r : List Ra) (off : Nat) (ys : List UInt8) : Prop :=
  ∀ (pre mid post : List D) (s : List UInt8), shDs mid = sh → Z mid → Ye7 pre → Ye7 mid → D.widths pre = off →
    ∃ new new', rdAs a (pre ++ mid ++ post) (ys ++ s) = rdAs r (pre ++ new ++ post) s ∧ shDs new = sh ∧ Ye7 new ∧ H new' ∧ shDs new' = sh ∧ pos new' ∧ Imp new new'
theorem readsZ_tags {tg flex : Bool} (htg : flex = true → tg = true) {a r : List Ra} {off : Nat} {t : Tree} {fs : List Fld} (h : endR flex off a = some r) (hu : FitU fs t) :
    Jx (if tg then [.mp] else []) (ZmU tg) (HzU tg flex t) a r off (if flex then uvar t.u.length ++ t.u.flatMap (fun kv => UF kv.1 kv.2) else []) := by
  intro pre mid post s hsh hz hpre hmid hw
  rcases endR_out h with ⟨rfl, rfl⟩ | ⟨rfl, rfl⟩
  · have := htg rfl
    subst this
    simp only [if_true] at hsh ⊢
    have hr : Va t.u := by rw [← hu.1]; exact UT _ _
    refine ⟨[XW t.u], [XW t.u], ?_, by simp [shDs, XW, shD], fun d hd => by simp at hd; subst hd; rfl, by simp [HzU], by simp [shDs, XW, shD], fun d hd => by simp at hd; subst hd; simp [XW, D.width], Imp.refl _⟩
    simp only [rdAs, rdA]
    rw [tagsP_ok t.u s hr hu.2.1 hu.2.2]
    simp only [Option.bind_some]
    subst hw
    rw [Yl8 (Uf hpre) (Uf hmid) (by rw [hsh]; simp [shDs, XW, shD])]
    rfl
  · cases tg with
    | false =>
      simp only [Bool.false_eq_true, if_false] at hsh ⊢
      have : mid = [] := by
        have := unit_len hmid
        rw [hsh] at this
        exact List.length_eq_zero_iff.1 this.symm
      subst this
      exact ⟨[], [], by simp, rfl, hmid, by simp [HzU], rfl, fun d hd => by (cases hd), Imp.refl _⟩
    | true =>
      have hm := hz rfl
      subst hm
      refine ⟨[.lit (.map none)], [XW []], by simp, hsh, hmid, by simp [HzU], by simp [shDs, XW, shD], fun d hd => by rw [List.mem_singleton] at hd; subst hd; exact Nat.one_pos, imp_nilMp⟩
theorem Yp8 {sh1 sh2 : List Ck} {Z1 Z2 H1 H2 : List D → Prop} {a b r : List Ra} {off : Nat} {y1 y2 : List UInt8} (h1 : Jx sh1 Z1 H1 a b off y1) (h2 : Jx sh2 Z2 H2 b r (off + sh1.length) y2) :
    Jx (sh1 ++ sh2) (fun mid => ∃ x y, mid = x ++ y ∧ shDs x = sh1 ∧ Z1 x ∧ Z2 y) (fun ds => ∃ x y, ds = x ++ y ∧ H1 x ∧ H2 y ∧ shDs x = sh1 ∧ pos x) a r off (y1 ++ y2) := by
  rintro pre mid post s hsh ⟨m1, m2, rfl, k1, z1, z2⟩ hpre hmid hw
  have k2 : shDs m2 = sh2 := by rw [shDs_append, k1] at hsh; exact List.append_cancel_left hsh
  have u1 : Ye7 m1 := fun d hd => hmid d (by simp [hd])
  have u2 : Ye7 m2 := fun d hd => hmid d (by simp [hd])
  obtain ⟨n1, n1', e1, e2, e3, e4, e5, e6, e7⟩ := h1 pre m1 (m2 ++ post) (y2 ++ s) k1 z1 hpre u1 hw
  obtain ⟨n2, n2', g1, g2, g3, g4, g5, g6, g7⟩ := h2 (pre ++ n1) m2 post s k2 z2 (unit_app hpre e3) u2 (by rw [widths_append, hw, ← shs_width, e2])
  refine ⟨n1 ++ n2, n1' ++ n2', ?_, by rw [shDs_append, e2, g2], unit_app e3 g3, ⟨n1', n2', rfl, e4, g4, e5, e6⟩, by rw [shDs_append, e5, g5], Uh e6 g6, Imp.app e7 g7⟩
  have a1 : pre ++ (m1 ++ m2) ++ post = pre ++ m1 ++ (m2 ++ post) := by simp [List.append_assoc]
  have a2 : pre ++ n1 ++ (m2 ++ post) = pre ++ n1 ++ m2 ++ post := by simp [List.append_assoc]
  have a3 : pre ++ (n1 ++ n2) ++ post = pre ++ n1 ++ n2 ++ post := by simp [List.append_assoc]
  rw [a1, List.append_assoc y1, e1, a2, g1, a3]
theorem Jx.weak {sh : List Ck} {Z Z' H H' : List D → Prop} {a r : List Ra} {off : Nat} {ys : List UInt8} (h : Jx sh Z H a r off ys) (z : ∀ ds, Z' ds → Z ds) (k : ∀ ds, H ds → H' ds) : Jx sh Z' H' a r off ys := by
  intro pre mid post s hsh hz hpre hmid hw
  obtain ⟨n1, n1', e1, e2, e3, e4, e5⟩ := h pre mid post s hsh (z _ hz) hpre hmid hw
  exact ⟨n1, n1', e1, e2, e3, k _ e4, e5⟩
theorem Yn6 {ver : Int} {tg flex : Bool} (htg : flex = true → tg = true) {a b r : List Ra} {off : Nat} {t : Tree} {fs : List Fld} (h1 : Jx (JG tg fs) (ZmFs ver tg fs) (Yg9 ver tg flex fs 0 t) a b off (wFs ver flex fs 0 t)) (h : endR flex (off + (JG tg fs).length) b = some r) (hf : FitT ver fs t) :
    Jx (shP tg fs) (ZmP ver tg fs) (HzP ver tg flex fs t) a r off (Xc ver flex fs t) := by
  have e : Xc ver flex fs t = wFs ver flex fs 0 t ++ (if flex then uvar t.u.length ++ t.u.flatMap (fun kv => UF kv.1 kv.2) else []) := by
    unfold Xc
    rw [allTagsK_eq hf.1 hf.2]
    cases flex <;> simp [asm]
  rw [e]
  exact (Yp8 h1 (readsZ_tags htg h hf.2)).weak (fun _ h => h) (fun ds ⟨x, y, e1, e2, e3, _⟩ => ⟨x, y, e1, e2, e3⟩)
mutual
theorem mFz_ok (ver : Int) (tg flex : Bool) (htg : flex = true → tg = true) : ∀ (f : Fld) (a r : List Ra) (off : Nat), noPt f = true → mFz ver tg flex off f a = some r → ∀ t, FitF ver f t → Jx (shF tg f) (ZmF ver tg f) (HzF ver tg flex f t) a r off (XA ver flex f t)
  | .mk kind fr upto nul tag df of sub, a, r, off, hno, h, t, hfit => by
    have hns : noPts sub = true := by simp only [noPt, Bool.and_eq_true] at hno; exact hno.2
    have hM : Vf = 32767 := rfl
    simp only [mFz] at h
    simp only [FitF] at hfit
    obtain ⟨hnul, hfit⟩ := hfit
    have hH : ∀ ds, HzF ver tg flex (.mk kind fr upto nul tag df of sub) t ds ↔ _ := fun ds => HzF_mk ver tg flex kind fr upto nul tag df of sub t ds
    rw [Ux ver flex kind fr upto nul tag df of sub t _ rfl]
    by_cases h11 : kind = 11
    · simp only [h11, if_true] at h hfit hH ⊢
      obtain ⟨hlen, hst, hpr⟩ := hfit
      have hth := things_of hlen
      split at h
      · rename_i c nb o st dfl body rr
        cases hc : (c == flex) && (nb || !decide (0 ≤ nul ∧ nul ≤ ver)) && Nat.beq o off && (st == decide (of = 10)) && decide (shDs (YI dfl) = shE tg of sub) && (if of = 10 then noPts sub && zbP ver tg sub dfl else true) &&
          (if of = 10 then (flex || ne1 ver sub) && endsO flex (JG tg sub).length (mFsz ver tg flex 0 sub body) else isPrim (rpV of (-1) ver flex) body) with
        | false => rw [hc] at h; cases h
        | true =>
          rw [hc] at h
          simp only [cond_true, Option.some.injEq] at h
          subst h
          simp only [Bool.and_eq_true, beq_iff_eq, decide_eq_true_eq, Bool.or_eq_true, Bool.not_eq_true', decide_eq_false_iff_not] at hc
          obtain ⟨⟨⟨⟨⟨⟨g1, g2⟩, g3⟩, g4⟩, g5⟩, gz⟩, g6⟩ := hc
          subst g1
          have := Ye g3; subst this
          have hel : ∀ s, ∃ dss els, VY body (YI dfl) t.l.length (t.l.flatMap (Vc of c false (Xc ver c sub)) ++ s) = some (dss, s) ∧ dss.length = t.l.length ∧ els.length = t.l.length ∧ Imp (dss.map (elD st)) els ∧
              (if of = 10 then ∀ i, i < t.l.length → ∃ ps, els[i]? = some (.agg ps) ∧ HzP ver tg c sub (att t i) ps else els = t.l.map (Vn of (-1))) := by
            intro s
            by_cases h10 : of = 10
            · simp only [h10, if_true, decide_true, Bool.and_eq_true] at g4 g5 g6 gz ⊢
              subst g4
              obtain ⟨g6, g7⟩ := g6
              unfold endsO at g7
              split at g7
              · rename_i r' hr'
                have hend := isEnd_out g7
                rw [show Vc 10 c false (Xc ver c sub) = Xc ver c sub from funext fun x => by simp [Vc]]
                obtain ⟨dss, e1, e2, e3⟩ := rdRow_ok body (YI dfl) (Xc ver c sub) (fun x nd => ∃ nd', HzP ver tg c sub x nd' ∧ Imp nd nd') t.l (fun x hx s => by
                  obtain ⟨hf, hu⟩ := hst h10 x hx
                  have hR := Yn6 (off := 0) htg (Yb3 ver tg c htg sub body r' 0 hns hr' 0 x hf) (by rw [Nat.zero_add]; exact hend) ⟨hf, hu⟩
                  obtain ⟨new, new', k1, k2, k3, k4, k5, k6, k7⟩ := hR [] (YI dfl) [] s (by rw [g5]; simp [shE]) (zbP_out gz.1 gz.2 (by rw [g5]; simp [shE])) (fun d hd => by cases hd) (UA _) rfl
                  simp only [List.nil_append, List.append_nil, rdAs] at k1
                  exact ⟨new, k1, new', k4, k7⟩) s
                have hch : ∀ i (hi : i < t.l.length), ∃ ps, HzP ver tg c sub t.l[i] ps ∧ ∃ nd, dss[i]? = some nd ∧ Imp nd ps := by
                  intro i hi
                  obtain ⟨nd, k1, nd', k2, k3⟩ := e3 i hi
                  exact ⟨nd', k2, nd, k1, k3⟩
                let g : Nat → List D := fun i => if hi : i < t.l.length then Classical.choose (hch i hi) else []
                have hg : ∀ i (hi : i < t.l.length), HzP ver tg c sub t.l[i] (g i) ∧ ∃ nd, dss[i]? = some nd ∧ Imp nd (g i) := by
                  intro i hi
                  simp only [g, dif_pos hi]
                  exact Classical.choose_spec (hch i hi)
                refine ⟨dss, (List.range t.l.length).map (fun i => .agg (g i)), e1, e2, by simp, ?_, fun i hi => ⟨g i, by simp [hi], by rw [att_get hi]; exact (hg i hi).1⟩⟩
                refine imp_list (by simp [e2]) (fun i x y hx hy => ?_)
                simp only [List.getElem?_map, Option.map_eq_some_iff] at hx hy
                obtain ⟨nd, hnd, rfl⟩ := hx
                obtain ⟨j, hj, rfl⟩ := hy
                have hi : i < t.l.length := by rw [← e2]; exact (List.getElem?_eq_some_iff.1 hnd).1
                have hji : j = i := by
                  rw [List.getElem?_range hi] at hj
                  simpa using hj.symm
                subst hji
                obtain ⟨_, nd', hnd', him⟩ := hg j hi
                rw [hnd] at hnd'
                simp only [Option.some.injEq] at hnd'
                subst hnd'
                simp only [elD, if_true]
                refine Imp.one (fun ok w cs hr => ?_)
                simp only [Rep] at hr ⊢
                exact him ok w cs hr
              · cases g7
            · simp only [h10, if_false, decide_false] at g4 g5 g6 ⊢
              subst g4
              obtain ⟨⟨h11', h7⟩, hv⟩ := hpr h10
              have hb := isPrim_out g6
              subst hb
              obtain ⟨dss, e1, e2, e3⟩ := rdRow_ok [.prim (rpV of (-1) ver c) 0] (YI dfl) (Vc of c false (Xc ver c sub)) (fun x nd => ∃ e, nd = [e] ∧ Imp [e] [Vn of (-1) x]) t.l (fun x hx s => by
                obtain ⟨nd, d, k1, k2, k3, k4, k5, k6⟩ := rdP_ok of (-1) ver c x (Xc ver c sub) s (hv x hx) (by omega) h10
                have hd : d = Vn of (-1) x ∨ of = 9 := by
                  unfold JC at k4
                  split at k4
                  · rename_i hh; exact .inr hh.1
                  · exact .inl k4
                have hnd := k6 h7
                simp only [rdAs_one, rdA]
                have e : (x.nul && decide ((0 : Int) ≤ -1) && decide ((-1 : Int) ≤ ver)) = false := by simp
                rw [e] at k1
                rw [k1]
                simp only [Option.bind_some]
                have hput := Yl8 (a := []) (m := YI dfl) (b := []) (new := nd) (fun d hd => by cases hd) (Uf (UA _)) (by rw [g5, k2]; simp [shE, h10])
                simp only [D.widths, List.nil_append, List.append_nil] at hput
                rw [hput]
                refine ⟨nd, rfl, ?_⟩
                rcases hd with hd | hd
                · exact ⟨_, hnd, by rw [hd]; exact Imp.refl _⟩
                · subst hd
                  have : rdP (rpV 9 (-1) ver c) (Vc 9 c false (Xc ver c sub) x ++ s) = some ([.sl false (x.s.map YF)], s) := by
                    have hs := hv x hx (.inr rfl)
                    have hwh := Yi2 hs
                    have er : rpV 9 (-1) ver c = (if c then .cbytes else .bytes) := by simp [rpV]
                    rw [er]
                    cases c
                    · simp only [Vc, YR]
                      simp [rdP, hwh]
                      rw [Vi .i32 4 32 rfl rfl]
                      have hw : IntKind.i32.wrap (x.s.length : Int) = x.s.length := by rw [IntKind.wrap_i32]; omega
                      simp only [Option.bind_some, hw]
                      rw [if_neg (by omega), Xz _ _ _ rfl]; rfl
                    · simp only [Vc, YR]
                      simp [rdP, hwh]
                      rw [Xf _ _ (by omega)]
                      simp only [Option.bind_some]
                      rw [if_neg (by omega), Xz _ _ _ (by omega)]; rfl
                  rw [this] at k1
                  simp only [Option.some.injEq, Prod.mk.injEq, and_true] at k1
                  refine ⟨_, k1.symm, ?_⟩
                  rw [show Vn 9 (-1) x = .sq (x.s.map YF) by simp [Vn]]
                  exact imp_slsq rfl (Imp.refl _)) s
              refine ⟨dss, t.l.map (Vn of (-1)), e1, e2, by simp, ?_, rfl⟩
              refine imp_list (by simp [e2]) (fun i x y hx hy => ?_)
              simp only [List.getElem?_map, Option.map_eq_some_iff] at hx hy
              obtain ⟨nd, hnd, rfl⟩ := hx
              obtain ⟨z, hz, rfl⟩ := hy
              have hi : i < t.l.length := (List.getElem?_eq_some_iff.1 hz).1
              obtain ⟨nd', h1, h2⟩ := e3 i hi
              rw [hnd] at h1
              simp only [Option.some.injEq] at h1
              subst h1
              rw [List.getElem?_eq_getElem hi] at hz
              simp only [Option.some.injEq] at hz
              subst hz
              obtain ⟨e, rfl, h2⟩ := h2
              simp only [elD, Bool.false_eq_true, if_false]
              exact h2
          have hpos : ∀ x ∈ t.l, 1 ≤ (Vc of c false (Xc ver c sub) x).length := by
            intro x hx
            by_cases h10 : of = 10
            · simp only [h10, if_true, Bool.and_eq_true] at g6
              have := wPart_pos ver c sub x g6.1
              simpa [h10, Vc] using this
            · exact wVal_pos _ _ _ _ _ h10
          have hfl := Yl0 (Vc of c false (Xc ver c sub)) t.l hpos
          intro pre mid post s hsh _ hpre hmid hw
          have shx : shF tg (.mk 11 fr upto nul tag df of sub) = [.sl] := by simp [shF]
          rw [shx] at hsh ⊢
          obtain ⟨dss, els, e1, e2, e3, e4, e5⟩ := hel s
          obtain ⟨nulb, hnb⟩ : ∃ nulb, (t.nul && decide (0 ≤ nul) && decide (nul ≤ ver)) = nulb := ⟨_, rfl⟩
          rw [hnb]
          have hput : ∀ d : D, shD d = [.sl] → putD (pre ++ mid ++ post) o [d] = some (pre ++ [d] ++ post) := by
            intro d hd
            subst hw
            exact Yl8 (Uf hpre) (Uf hmid) (by rw [hsh]; simp [shDs, hd])
          have fin : ∀ d d', rowP c nb st dfl body ((YR c nulb (if nulb then [] else YQ t.l).length 4 ++ (if nulb then [] else YQ t.l).flatMap (Vc of c false (Xc ver c sub))) ++ s) = some (d, s) → shD d = [.sl] → shD d' = [.sl] → d.width = 1 → d'.width = 1 → HzF ver tg c (.mk 11 fr upto nul tag df of sub) t [d'] → Imp [d] [d'] →
              ∃ new new', rdAs (.row c nb o st dfl body :: rr) (pre ++ mid ++ post) ((YR c nulb (if nulb then [] else YQ t.l).length 4 ++ (if nulb then [] else YQ t.l).flatMap (Vc of c false (Xc ver c sub))) ++ s) = rdAs rr (pre ++ new ++ post) s ∧ shDs new = [.sl] ∧ Ye7 new ∧ HzF ver tg c (.mk 11 fr upto nul tag df of sub) t new' ∧ shDs new' = [.sl] ∧ pos new' ∧ Imp new new' := by
            intro d d' k1 k2 k3 k4 k5 k6 k7
            refine ⟨[d], [d'], ?_, by simp [shDs, k2], fun x hx => by simp at hx; subst hx; exact k4, k6, by simp [shDs, k3], fun x hx => by simp at hx; subst hx; rw [k5]; omega, k7⟩
            simp only [rdAs]
            rw [rdA_row, k1]
            simp only [Option.bind_some]
            rw [hput d k2]
            rfl
          cases nulb with
          | true =>
            simp only [Bool.and_eq_true, decide_eq_true_eq] at hnb
            have hnbt : nb = true := g2.resolve_right (fun h => h ⟨hnb.1.2, hnb.2⟩)
            refine fin (.sl true []) (.sl true []) ?_ rfl rfl rfl rfl ((hH _).2 ⟨_, rfl, .inl ⟨hnb.1.2, hnb.1.1, rfl⟩⟩) (Imp.refl _)
            simp only [if_true, List.length_nil, List.flatMap_nil, List.append_nil]
            rw [rowP, lenP_ok c true 0 s (by omega) (.inl rfl)]
            simp [VY, hnbt]
          | false =>
            have hnn : ¬ (0 ≤ nul ∧ t.nul = true) := by
              rintro ⟨a1, a2⟩
              have a3 := hnul a1 a2
              rw [a2] at hnb
              simp [a1, a3] at hnb
            have hrow : rowP c nb st dfl body ((YR c false t.l.length 4 ++ t.l.flatMap (Vc of c false (Xc ver c sub))) ++ s) = some (if nb then .sl false (dss.map (elD st)) else .sl (decide ((t.l.length : Int) ≤ 0)) (dss.map (elD st)), s) := by
              rw [rowP, List.append_assoc, lenP_ok c false t.l.length _ hlen (.inr (by rw [List.length_append]; omega))]
              simp only [Bool.false_eq_true, if_false, Option.bind_some, Int.toNat_natCast]
              rw [e1]
              simp only [Option.map_some]
              rw [if_neg (by omega : ¬ ((t.l.length : Int) < 0))]
            have hlm : (dss.map (elD st)).length = els.length := by simp [e2, e3]
            simp only [Bool.false_eq_true, if_false, hth] at fin ⊢
            cases hnb2 : nb with
            | true =>
              rw [hnb2] at hrow
              rw [hnb2] at fin
              exact fin _ (.sl false els) hrow rfl rfl rfl rfl ((hH _).2 ⟨_, rfl, .inr ⟨hnn, rfl, rfl, false, els, rfl, fun _ _ => rfl, e3, e5⟩⟩) (imp_sl hlm e4)
            | false =>
              rw [hnb2] at hrow
              rw [hnb2] at g2
              rw [hnb2] at fin
              refine fin _ (.sq els) hrow rfl rfl rfl rfl ((hH _).2 ⟨_, rfl, .inr ⟨hnn, rfl, rfl, false, els, rfl, fun a1 a2 => ?_, e3, e5⟩⟩) (imp_slsq hlm e4)
              simp [a1, a2] at g2
      · cases h
    · simp only [h11, if_false] at h hfit hH ⊢
      by_cases h10 : kind = 10
      · simp only [h10, if_true] at h hfit hH ⊢
        by_cases hn : 0 ≤ nul
        · simp only [hn, if_true] at h
          cases h
        · simp only [hn, if_false, and_false] at h hH ⊢
          split at h
          · rename_i r1 hr1
            have hR := Yn6 htg (Yb3 ver tg flex htg sub a r1 off hns hr1 0 t hfit.1) h hfit
            have es : shF tg (.mk 10 fr upto nul tag df of sub) = shP tg sub := by simp [shF, hn, shP]
            rw [es]
            simp only [Vc]
            exact hR.weak (fun ds hz => by simp only [ZmF, if_true] at hz; exact hz) (fun ds hd => (hH ds).2 hd)
          · cases h
      · simp only [h10, if_false, false_and] at h hfit hH ⊢
        split at h
        · rename_i p o rr
          cases hb : rpEq p (rpV kind nul ver flex) && Nat.beq o off with
          | false => rw [hb] at h; cases h
          | true =>
            rw [hb] at h
            simp only [cond_true, Option.some.injEq] at h
            subst h
            rw [Bool.and_eq_true] at hb
            have := rpEq_out hb.1; subst this
            have := Ye hb.2; subst this
            have es : shF tg (.mk kind fr upto nul tag df of sub) = shV kind nul := by simp [shF, h11, h10]
            rw [es]
            intro pre mid post s hsh _ hpre hmid hw
            obtain ⟨nd, d, k1, k2, k3, k4, k5, _⟩ := rdP_ok kind nul ver flex t (Xc ver flex sub) s hfit hnul h10
            have hsd : shDs [d] = shV kind nul := by
              unfold JC at k4
              split at k4
              · rename_i hh
                rw [hh.1]
                simp [shDs, k4.2.1, shV]
              · rw [k4]; simp only [shDs, List.append_nil, sh_valK]
            refine ⟨nd, [d], ?_, k2, k3, (hH _).2 ⟨d, rfl, k4⟩, hsd, fun x hx => ?_, k5⟩
            · simp only [rdAs, rdA]
              rw [k1]
              simp only [Option.bind_some]
              subst hw
              rw [Yl8 (Uf hpre) (Uf hmid) (by rw [hsh, k2])]
              rfl
            · simp at hx; subst hx
              have h1 : (shDs [x]).length = (shV kind nul).length := by rw [hsd]
              rw [shs_width] at h1
              simp only [D.widths, Nat.add_zero] at h1
              rw [h1]
              unfold shV
              repeat' split
              all_goals simp
        · cases h
theorem Yb3 (ver : Int) (tg flex : Bool) (htg : flex = true → tg = true) : ∀ (fs : List Fld) (a r : List Ra) (off : Nat), noPts fs = true → mFsz ver tg flex off fs a = some r → ∀ i t, Ya4 ver fs i t → Jx (JG tg fs) (ZmFs ver tg fs) (Yg9 ver tg flex fs i t) a r off (wFs ver flex fs i t)
  | [], a, r, off, _, h, i, t, hfit => by
    simp only [mFsz, Option.some.injEq] at h
    subst h
    intro pre mid post s hsh _ hpre hmid hw
    have : mid = [] := by
      have := unit_len hmid
      rw [hsh] at this
      exact List.length_eq_zero_iff.1 this.symm
    subst this
    exact ⟨[], [], by simp [wFs], rfl, hmid, by simp [Yg9], rfl, (fun d hd => by cases hd), Imp.refl _⟩
  | f :: fs, a, r, off, hno, h, i, t, hfit => by
    simp only [noPts, Bool.and_eq_true] at hno
    simp only [mFsz] at h
    simp only [Ya4] at hfit
    obtain ⟨htag, hff, hrest⟩ := hfit
    split at h
    · rename_i b hb
      have h2 := Yb3 ver tg flex htg fs b r (off + (shF tg f).length) hno.2 h (i + 1) t hrest
      have key : Jx (shF tg f) (fun x => if f.has ver = true then ZmF ver tg f x else x = YI (ziF tg f)) (fun ds => if f.has ver = true then HzF ver tg flex f (att t i) ds else ds = dfF tg f) a b off (if f.tag < 0 ∧ f.has ver = true then XA ver flex f (att t i) else []) := by
        by_cases hx : f.has ver = true
        · rw [if_pos hx] at hb
          rw [if_pos ⟨htag, hx⟩]
          simp only [if_pos hx]
          exact mFz_ok ver tg flex htg f a b off hno.1 hb (att t i) (hff hx)
        · rw [if_neg hx] at hb
          rw [if_neg (fun e => hx e.2)]
          simp only [if_neg hx]
          simp only [Option.some.injEq] at hb
          subst hb
          intro pre mid post s hsh hz hpre hmid hw
          subst hz
          obtain ⟨q1, q2⟩ := shDs_dfF tg f hno.1
          exact ⟨_, dfF tg f, by simp, hsh, hmid, rfl, q1, q2, imp_ziF tg f⟩
      have := Yp8 key h2
      simp only [wFs, JG]
      exact this.weak (fun ds hz => by
        simp only [ZmFs] at hz
        exact hz) (fun ds ⟨x, y, e1, e2, e3, e4, e5⟩ => by simp only [Yg9]; exact ⟨x, y, e1, e4, e5, e2, e3⟩)
    · cases h
end
end

section
open Go Go.RowKit
end

section
open Go Go.RowKit
mutual
def tabF (ver : Int) : Fld → Bool
 | .mk kind _ _ _ _ _ of sub => (if kind = 11 then (if of = 10 then Ya2 ver sub else !decide (of = 11) && !decide (of = 7)) else if kind = 10 then Ya2 ver sub else true)
def Ya2 (ver : Int) : List Fld → Bool
 | [] => true
 | f :: fs => decide (f.tag < 0) && (!f.has ver || tabF ver f) && Ya2 ver fs
end
theorem att_fitL (ver : Int) : ∀ (fs : List Fld) (i0 : Nat) (t t' : Tree) (k : Nat),(∀ j,j < fs.length → att t' (k + j) = (fitL ver fs i0 t).getD j Tree.none) → ∀ j (h : j < fs.length),att t' (k + j) = fitF ver fs[j] (att t (i0 + j)):=by
 intro fs i0 t t' k h j hj
 rw [h j hj,List.getD_eq_getElem?_getD,List.getElem?_eq_getElem (by rw [Yb9];exact hj)]
 simp only [Option.getD_some]
 exact fitL_get ver fs i0 t j hj
theorem JV (ver : Int) (fs : List Fld) (t : Tree) (j : Nat) (h : j < fs.length) : att (UU ver fs t) j = fitF ver fs[j] (att t j):=by
 have:=att_fitL ver fs 0 t (UU ver fs t) 0 (fun j hj => by simp [UU,att,Tree.l]) j h
 simpa using this
theorem UL (b : Bool) (t : Tree) (i : Nat) : att (t.withNull b) i = att t i:=by cases t;rfl
theorem UY (b : Bool) (t : Tree) : (t.withNull b).u = t.u:=by cases t;rfl
theorem withNull_nul (b : Bool) (t : Tree) : (t.withNull b).nul = b:=by cases t;rfl
theorem Yk9 (ver : Int) (flex : Bool) : ∀ (fs : List Fld) (i k : Nat) (t t' : Tree),(∀ j (h : j < fs.length),fs[j].has ver = true → XA ver flex fs[j] (att t' (k + j)) = XA ver flex fs[j] (att t (i + j))) → wFs ver flex fs k t' = wFs ver flex fs i t
 | [],_,_,_,_,_ => by simp [wFs]
 | f :: fs,i,k,t,t',h => by
  simp only [wFs]
  have h0:=h 0 (by simp)
  simp only [List.getElem_cons_zero,Nat.add_zero] at h0
  have e : (if f.tag < 0 ∧ f.has ver = true then XA ver flex f (att t' k) else []) = (if f.tag < 0 ∧ f.has ver = true then XA ver flex f (att t i) else []):=by
   split
   ·rename_i hh;rw [h0 hh.2]
   ·rfl
  rw [e]
  congr 1
  exact Yk9 ver flex fs (i + 1) (k + 1) t t' (fun j hj hh => by
   have:=h (j + 1) (by simpa using hj)
   simp only [List.getElem_cons_succ] at this
   rw [show k + 1 + j = k + (j + 1) by omega,show i + 1 + j = i + (j + 1) by omega]
   exact this hh)
theorem Yf8 {fs : List Fld} (h : ∀ f ∈ fs,f.tag < 0) : YN fs = 0:=known_none fs 0 h
theorem Yh9 {ver : Int} : ∀ {fs : List Fld},Ya2 ver fs = true → ∀ f ∈ fs,f.tag < 0
 | [],_,f,hf => by cases hf
 | g :: fs,h,f,hf => by
  simp only [Ya2,Bool.and_eq_true,decide_eq_true_eq] at h
  rcases List.mem_cons.1 hf with rfl | hm
  ·exact h.1.1
  ·exact Yh9 h.2 f hm
theorem Yq9 (k : Nat) (v : List UInt8) : ∀ (u : List (Nat × List UInt8)),(∀ kv ∈ u,kv.1 < k) → Xg k v u = u ++ [(k,v)]
 | [],_ => rfl
 | x :: u,h => by
  have:=h x (by simp)
  simp only [Xg,if_pos this,Yq9 k v u (fun y hy => h y (by simp [hy])),List.cons_append]
theorem fold_rising : ∀ (u acc : List (Nat × List UInt8)),Va (acc ++ u) → u.foldl (fun out kv => if kv.1 < 0 then out else Xg kv.1 kv.2 out) acc = acc ++ u
 | [],acc,_ => by simp
 | x :: u,acc,h => by
  simp only [List.foldl_cons,Nat.not_lt_zero,if_false]
  rw [Yq9 x.1 x.2 acc (fun kv hkv => (List.pairwise_append.1 h).2.2 kv hkv x (by simp))]
  have ih:=fold_rising u (acc ++ [x]) (by simpa [List.append_assoc] using h)
  simp only [Nat.not_lt_zero,if_false] at ih
  rw [ih];simp
theorem unknown_self {fs : List Fld} {u : List (Nat × List UInt8)} (hk : YN fs = 0) (hr : Va u) (hl : u.length ≤ Vf) : Xm fs u = u:=by
 unfold Xm
 rw [List.take_of_length_le hl,hk]
 have:=fold_rising u [] (by simpa using hr)
 simpa using this
theorem Ys3 (k : Nat) (v : List UInt8) : ∀ (u : List (Nat × List UInt8)),(Xg k v u).length ≤ u.length + 1
 | [] => by simp [Xg]
 | x :: u => by
  simp only [Xg]
  have:=Ys3 k v u
  split
  ·simp;omega
  ·split <;> simp
theorem JR (fs : List Fld) (u : List (Nat × List UInt8)) : (Xm fs u).length ≤ Vf:=by
 unfold Xm
 have : ∀ (l out : List (Nat × List UInt8)),(l.foldl (fun out kv => if kv.1 < YN fs then out else Xg kv.1 kv.2 out) out).length ≤ out.length + l.length:=by
  intro l
  induction l with
  | nil => intro out;simp
  | cons x l ih =>
   intro out
   simp only [List.foldl_cons,List.length_cons]
   split
   ·have:=ih out;omega
   ·have:=ih (Xg x.1 x.2 out);have:=Ys3 x.1 x.2 out;omega
 have h:=this (u.take Vf) []
 have : (u.take Vf).length ≤ Vf:=by simp;omega
 simp only [List.length_nil] at h
 omega
theorem Yk6 (s : List UInt8) : Xe (Xe s) = Xe s:=by simp [Xe,List.take_take]
theorem Ye2 (s : List UInt8) : (Xe s).length ≤ Vf:=by simp [Xe];omega
theorem Jh (fs : List Fld) (u : List (Nat × List UInt8)) : Va (Xj fs u):=by
 unfold Xj Va
 exact List.pairwise_map.2 (UT fs u)
theorem Yl1 {fs : List Fld} (hk : YN fs = 0) (u : List (Nat × List UInt8)) : Xm fs (Xj fs u) = Xj fs u:=unknown_self hk (Jh fs u) (by simp [Xj,JR])
theorem allTags_fit {ver : Int} {flex : Bool} {fs : List Fld} (hk : YN fs = 0) (t t' : Tree) (h : t'.u = Xj fs t.u) : YS ver flex fs t' = YS ver flex fs t:=by
 unfold YS
 rw [hk,h,Yl1 hk]
 simp only [List.range_zero,List.flatMap_nil,List.nil_append,Xj,List.map_map]
 refine List.map_congr_left (fun kv _ => ?_)
 simp [Yk6]
theorem fitVal_w (kind : Int) (flex : Bool) (p q : Tree → Tree) (wp : Tree → List UInt8) (null : Bool) (t : Tree) (h10 : kind = 10 → wp ((p t).withNull null) = wp t) : Vc kind flex null wp (XI kind null p t) = Vc kind flex null wp t:=by
 unfold XI
 by_cases h8 : kind = 8 ∨ kind = 9
 ·rw [if_pos h8]
  rcases h8 with rfl | rfl <;> simp [Vc,Tree.s,Yk6]
 ·rw [if_neg h8]
  by_cases h : kind = 10
  ·rw [if_pos h];subst h;simp only [Vc];simpa using h10 rfl
  ·rw [if_neg h]
   have h8' : kind ≠ 8:=fun e => h8 (.inl e)
   have h9' : kind ≠ 9:=fun e => h8 (.inr e)
   simp [Vc,h8',h9',h,Tree.n,Tree.s]
theorem JS (kind : Int) (null : Bool) (p : Tree → Tree) (t : Tree) (h : kind = 8 ∨ kind = 9 ∨ kind = 10) : (XI kind null p t).nul = null:=by
 unfold XI
 rcases h with rfl | rfl | rfl
 ·simp [Tree.nul]
 ·simp [Tree.nul]
 ·simp [withNull_nul]
theorem fld_null (kind fr upto nul tag df of : Int) (sub : List Fld) (ver : Int) (t : Tree) : (Fld.mk kind fr upto nul tag df of sub).null ver t = (t.nul && decide (0 ≤ nul) && decide (nul ≤ ver)):=rfl
theorem mk_nul (n : Int) (s : List UInt8) (b : Bool) (l : List Tree) (u : List (Nat × List UInt8)) : (Tree.mk n s b l u).nul = b:=rfl
theorem mk_l (n : Int) (s : List UInt8) (b : Bool) (l : List Tree) (u : List (Nat × List UInt8)) : (Tree.mk n s b l u).l = l:=rfl
theorem wPart_fit_of {ver : Int} {flex : Bool} {fs : List Fld} (ht : ∀ f ∈ fs,f.tag < 0) (h : ∀ j (hj : j < fs.length),fs[j].has ver = true → ∀ x,XA ver flex fs[j] (fitF ver fs[j] x) = XA ver flex fs[j] x) (t : Tree) (b : Bool) :
  Xc ver flex fs ((UU ver fs t).withNull b) = Xc ver flex fs t:=by
 unfold Xc
 have e1 : wFs ver flex fs 0 ((UU ver fs t).withNull b) = wFs ver flex fs 0 t:=Yk9 ver flex fs 0 0 t _ (fun j hj hh => by
  rw [UL]
  simp only [Nat.zero_add]
  rw [JV ver fs t j hj]
  exact h j hj hh _)
 rw [e1,allTags_fit (Yf8 ht) t _ (by rw [UY];rfl)]
mutual
theorem wField_fit (ver : Int) (flex : Bool) : ∀ (f : Fld),f.tag < 0 → tabF ver f = true → ∀ x,XA ver flex f (fitF ver f x) = XA ver flex f x
 | .mk kind fr upto nul tag df of sub,htag,htab,x => by
  have htag' : ¬ (0 ≤ tag):=by have : tag < 0:=htag;omega
  simp only [tabF] at htab
  rw [fitF_eq]
  rw [fld_null]
  simp only [Fld.kind,Fld.tag,Fld.of,Fld.sub]
  by_cases h11 : kind = 11
  ·simp only [h11,if_true] at htab ⊢
   rw [Ux ver flex 11 fr upto nul tag df of sub _ _ rfl,Ux ver flex 11 fr upto nul tag df of sub x _ rfl]
   simp only [htag',decide_false,Bool.false_and,Bool.or_false,mk_nul,mk_l,if_true]
   have en : (x.nul && decide (0 ≤ nul) && decide (nul ≤ ver) && decide (0 ≤ nul) && decide (nul ≤ ver)) = (x.nul && decide (0 ≤ nul) && decide (nul ≤ ver)):=by
    cases x.nul <;> cases decide (0 ≤ nul) <;> cases decide (nul ≤ ver) <;> rfl
   rw [en]
   have el : YQ ((YQ x.l).map (XI of false (UU ver sub))) = (YQ x.l).map (XI of false (UU ver sub)):=things_of (by simp [YQ];omega)
   rw [el]
   generalize (x.nul && decide (0 ≤ nul) && decide (nul ≤ ver)) = nb
   cases nb with
   | true => rfl
   | false =>
    simp only [Bool.false_eq_true,if_false,List.length_map,List.flatMap_map]
    congr 1
    refine congrArg (fun g => (YQ x.l).flatMap g) (funext fun y => ?_)
    refine fitVal_w of flex _ (UU ver sub) _ false y (fun h10 => ?_)
    rw [if_pos h10] at htab
    exact wFsub_fit ver flex sub htab y false
  ·simp only [h11,if_false] at htab ⊢
   rw [Ux ver flex kind fr upto nul tag df of sub _ _ rfl,Ux ver flex kind fr upto nul tag df of sub x _ rfl]
   simp only [h11,if_false]
   by_cases h10 : kind = 10
   ·simp only [h10,if_true] at htab
    subst h10
    rw [JS 10 _ _ _ (.inr (.inr rfl))]
    have en : (x.nul && decide (0 ≤ nul) && decide (nul ≤ ver) && decide (0 ≤ nul) && decide (nul ≤ ver)) = (x.nul && decide (0 ≤ nul) && decide (nul ≤ ver)):=by
     cases x.nul <;> cases decide (0 ≤ nul) <;> cases decide (nul ≤ ver) <;> rfl
    rw [en]
    have ew : Xc ver flex sub (XI 10 (x.nul && decide (0 ≤ nul) && decide (nul ≤ ver)) (UU ver sub) x) = Xc ver flex sub x:=by
     simp only [XI]
     exact wFsub_fit ver flex sub htab x _
    simp only [Vc,ew]
    rfl
   ·simp only [h10,false_and,if_false]
    by_cases h89 : kind = 8 ∨ kind = 9
    ·rw [JS kind _ _ _ (by rcases h89 with h | h;exact .inl h;exact .inr (.inl h))]
     have en : (x.nul && decide (0 ≤ nul) && decide (nul ≤ ver) && decide (0 ≤ nul) && decide (nul ≤ ver)) = (x.nul && decide (0 ≤ nul) && decide (nul ≤ ver)):=by
      cases x.nul <;> cases decide (0 ≤ nul) <;> cases decide (nul ≤ ver) <;> rfl
     rw [en]
     exact fitVal_w kind flex _ (UU ver sub) _ _ x (fun h => absurd h h10)
    ·have a8 : kind ≠ 8:=fun e => h89 (.inl e)
     have a9 : kind ≠ 9:=fun e => h89 (.inr e)
     simp [XI,Vc,a8,a9,h10,Tree.n,Tree.s]
theorem wFsub_fit (ver : Int) (flex : Bool) : ∀ (fs : List Fld),Ya2 ver fs = true → ∀ (t : Tree) (b : Bool),Xc ver flex fs ((UU ver fs t).withNull b) = Xc ver flex fs t
 | fs,h,t,b => wPart_fit_of (Yh9 h) (Yl5 ver flex fs h) t b
theorem Yl5 (ver : Int) (flex : Bool) : ∀ (fs : List Fld),Ya2 ver fs = true → ∀ j (hj : j < fs.length),fs[j].has ver = true → ∀ x,XA ver flex fs[j] (fitF ver fs[j] x) = XA ver flex fs[j] x
 | [],_,j,hj,_ => by cases hj
 | f :: fs,h,j,hj,hh => by
  simp only [Ya2,Bool.and_eq_true,Bool.or_eq_true,Bool.not_eq_true',decide_eq_true_eq] at h
  cases j with
  | zero =>
   intro x
   simp only [List.getElem_cons_zero] at hh ⊢
   refine wField_fit ver flex f h.1.1 ?_ x
   rcases h.1.2 with h1 | h1
   ·rw [hh] at h1;cases h1
   ·exact h1
  | succ j => exact Yl5 ver flex fs h.2 j (by simpa using hj) hh
end
end

section
open Go Go.RowKit
theorem fitU_fit {fs : List Fld} (hk : YN fs = 0) {t t' : Tree} (ho : ∀ kv ∈ t.u,kv.1 < 4294967296) (h : t'.u = Xj fs t.u) : FitU fs t':=by
 have sub : ∀ kv ∈ Xm fs t.u,∃ x ∈ t.u,x.1 = kv.1:=by
  unfold Xm
  have put : ∀ (k : Nat) (v : List UInt8) (u : List (Nat × List UInt8)),∀ kv ∈ Xg k v u,kv.1 = k ∨ kv ∈ u:=by
   intro k v u
   induction u with
   | nil => intro kv h;simp [Xg] at h;subst h;exact .inl rfl
   | cons x u ih =>
    intro kv h
    simp only [Xg] at h
    split at h
    ·rcases List.mem_cons.1 h with rfl | h
     ·exact .inr (by simp)
     ·rcases ih kv h with h | h
      ·exact .inl h
      ·exact .inr (by simp [h])
    ·split at h
     ·exact .inr h
     ·rcases List.mem_cons.1 h with rfl | h
      ·exact .inl rfl
      ·exact .inr h
  have : ∀ (l out : List (Nat × List UInt8)),∀ kv ∈ l.foldl (fun out kv => if kv.1 < YN fs then out else Xg kv.1 kv.2 out) out,(∃ x ∈ l,x.1 = kv.1) ∨ kv ∈ out:=by
   intro l
   induction l with
   | nil => intro out kv h;exact .inr h
   | cons x l ih =>
    intro out kv h
    simp only [List.foldl_cons] at h
    rcases ih _ kv h with ⟨y,hy,e⟩ | h
    ·exact .inl ⟨y,by simp [hy],e⟩
    ·split at h
     ·exact .inr h
     ·rcases put _ _ _ kv h with h | h
      ·exact .inl ⟨x,by simp,h.symm⟩
      ·exact .inr h
  intro kv hkv
  rcases this _ _ kv hkv with ⟨x,hx,e⟩ | h
  ·exact ⟨x,List.mem_of_mem_take hx,e⟩
  ·cases h
 refine ⟨by rw [h,Yl1 hk],?_,by rw [h];simp [Xj,JR]⟩
 intro kv hkv
 rw [h] at hkv
 simp only [Xj,List.mem_map] at hkv
 obtain ⟨x,hx,rfl⟩:=hkv
 obtain ⟨y,hy,e⟩:=sub x hx
 have:=ho y hy
 exact ⟨by show x.1 < _;omega,Ye2 _⟩
theorem fitV_fit (kind : Int) (null : Bool) (p : Tree → Tree) (t : Tree) (h10 : kind ≠ 10) : FitV kind (XI kind null p t):=by
 intro h
 unfold XI
 rw [if_pos h]
 exact Ye2 _
mutual
theorem fitF_ok (ver : Int) : ∀ (f : Fld),f.tag < 0 → tabF ver f = true → ∀ x : Tree,x.ok → FitF ver f (fitF ver f x)
 | .mk kind fr upto nul tag df of sub,htag,htab,x,hx => by
  have htag' : ¬ (0 ≤ tag):=by have : tag < 0:=htag;omega
  simp only [tabF] at htab
  have hnn : ∀ b : Bool,b = (x.nul && decide (0 ≤ nul) && decide (nul ≤ ver)) → b = true → nul ≤ ver:=by
   intro b e1 e2
   rw [e1] at e2
   simp only [Bool.and_eq_true,decide_eq_true_eq] at e2
   exact e2.2
  rw [fitF_eq]
  rw [fld_null]
  simp only [Fld.kind,Fld.tag,Fld.of,Fld.sub,FitF]
  by_cases h11 : kind = 11
  ·simp only [h11,if_true] at htab ⊢
   simp only [htag',decide_false,Bool.false_and,Bool.or_false,mk_nul,mk_l]
   refine ⟨fun _ e => hnn _ rfl e,by simp [YQ];omega,fun h10 => ?_,fun h10 => ?_⟩
   ·rw [if_pos h10] at htab
    intro y hy
    obtain ⟨z,hz,rfl⟩:=List.mem_map.1 hy
    have hzo:=hx.l z (List.mem_of_mem_take hz)
    subst h10
    simp only [XI]
    exact ⟨Ya0 ver sub htab z hzo false,fitU_fit (Yf8 (Yh9 htab)) hzo.u (by show ((UU ver sub z).withNull false).u = _;rw [UY];rfl)⟩
   ·rw [if_neg h10] at htab
    simp at htab
    refine ⟨htab,fun y hy => ?_⟩
    obtain ⟨z,hz,rfl⟩:=List.mem_map.1 hy
    exact fitV_fit of false _ z h10
  ·simp only [h11,if_false] at htab ⊢
   by_cases h10 : kind = 10
   ·simp only [h10,if_true] at htab ⊢
    refine ⟨fun _ e => ?_,?_,?_⟩
    ·rw [JS 10 _ _ _ (.inr (.inr rfl))] at e
     exact hnn _ rfl e
    ·simp only [XI]
     exact Ya0 ver sub htab x hx _
    ·exact fitU_fit (Yf8 (Yh9 htab)) hx.u (by subst h10;show ((UU ver sub x).withNull _).u = _;rw [UY];rfl)
   ·simp only [h10,if_false]
    refine ⟨fun _ e => ?_,fitV_fit kind _ _ x h10⟩
    by_cases h89 : kind = 8 ∨ kind = 9
    ·rw [JS kind _ _ _ (by rcases h89 with h | h;exact .inl h;exact .inr (.inl h))] at e
     exact hnn _ rfl e
    ·unfold XI at e
     rw [if_neg h89,if_neg h10] at e
     cases e
theorem Ya0 (ver : Int) : ∀ (fs : List Fld),Ya2 ver fs = true → ∀ (t : Tree),t.ok → ∀ b,Ya4 ver fs 0 ((UU ver fs t).withNull b)
 | fs,h,t,ht,b => fitFs_ok ver fs h 0 _ (fun j hj => ⟨att t j,ht.at j,by rw [UL,Nat.zero_add,JV ver fs t j hj]⟩)
theorem fitFs_ok (ver : Int) : ∀ (fs : List Fld),Ya2 ver fs = true → ∀ (i : Nat) (t' : Tree),(∀ j (hj : j < fs.length),∃ x : Tree,x.ok ∧ att t' (i + j) = fitF ver fs[j] x) → Ya4 ver fs i t'
 | [],_,_,_,_ => by simp [Ya4]
 | f :: fs,h,i,t',hall => by
  simp only [Ya2,Bool.and_eq_true,Bool.or_eq_true,Bool.not_eq_true',decide_eq_true_eq] at h
  simp only [Ya4]
  refine ⟨h.1.1,fun hh => ?_,fitFs_ok ver fs h.2 (i + 1) t' (fun j hj => ?_)⟩
  ·obtain ⟨x,hx,e⟩:=hall 0 (by simp)
   simp only [Nat.add_zero,List.getElem_cons_zero] at e
   rw [e]
   refine fitF_ok ver f h.1.1 ?_ x hx
   rcases h.1.2 with h1 | h1
   ·rw [hh] at h1;cases h1
   ·exact h1
  ·obtain ⟨x,hx,e⟩:=hall (j + 1) (by simpa using hj)
   exact ⟨x,hx,by rw [show i + 1 + j = i + (j + 1) by omega,e];simp⟩
end
end

section
open Go Go.RowKit
def Vm (kind n : Int) : Int := if kind = 0 then n % 2 else if kind = 1 then IntKind.i8.wrap n else if kind = 2 then IntKind.i16.wrap n else if kind = 3 then IntKind.i32.wrap n else if kind = 5 then IntKind.u16.wrap n else n
mutual
def UsF : Fld → Tree → Prop
  | .mk kind _ _ nul _ df _ sub, x =>
    if kind = 8 then x.nul = decide (0 ≤ nul) ∧ x.s = []
    else if kind = 7 then x.s = List.replicate 16 0
    else if kind = 9 ∨ kind = 11 then x.s = [] ∧ x.l = []
    else if kind = 10 then x.u = [] ∧ UsFs sub x.l
    else x.n = Vm kind df
def UsFs : List Fld → List Tree → Prop
  | [], l => l = []
  | f :: fs, l => ∃ x r, l = x :: r ∧ UsF f x ∧ UsFs fs r
end
def ToV (kind : Int) (t g : Tree) : Prop := if kind = 8 ∨ kind = 9 then g.s = Xe t.s else if kind = 7 then g.s = XX t.s else g.n = Vm kind t.n
def Yf3 (ver : Int) (flex : Bool) (f : Fld) (x : Tree) : Bool := if f.tag < 0 then f.has ver else flex && !usual f x
theorem toHas_no {ver : Int} {flex : Bool} {f : Fld} {x : Tree} (h : f.tag < 0) : Yf3 ver flex f x = f.has ver := by unfold Yf3; rw [if_pos h]
mutual
def ToF (ver : Int) (flex : Bool) : Fld → Tree → Tree → Prop
  | .mk kind _ _ nul _ _ of sub, t, g =>
    ((kind = 8 ∨ kind = 10 ∨ (0 ≤ nul ∧ nul ≤ ver)) → g.nul = (t.nul && decide (0 ≤ nul) && decide (nul ≤ ver))) ∧
    ((t.nul && decide (0 ≤ nul) && decide (nul ≤ ver)) = false →
      if kind = 10 then ToFs ver flex sub 0 t g.l ∧ g.u = (if flex then Xj sub t.u else [])
      else if kind = 11 then g.l.length = (YQ t.l).length ∧ ∀ (i : Nat) (x y : Tree), (YQ t.l)[i]? = some x → g.l[i]? = some y →
        ((of = 8 ∨ of = 10) → y.nul = false) ∧ (if of = 10 then ToFs ver flex sub 0 x y.l ∧ y.u = (if flex then Xj sub x.u else []) else ToV of x y)
      else ToV kind t g)
def ToFs (ver : Int) (flex : Bool) : List Fld → Nat → Tree → List Tree → Prop
  | [], _, _, l => l = []
  | f :: fs, i, t, l => ∃ x r, l = x :: r ∧ (if Yf3 ver flex f (att t i) = true then ToF ver flex f (att t i) x else UsF f x) ∧ ToFs ver flex fs (i + 1) t r
end
def ToP (ver : Int) (flex : Bool) (fs : List Fld) (t g : Tree) : Prop := ToFs ver flex fs 0 t g.l ∧ g.u = (if flex then Xj fs t.u else [])
theorem ToF_mk (ver : Int) (flex : Bool) (kind fr upto nul tag df of : Int) (sub : List Fld) (t g : Tree) : ToF ver flex (.mk kind fr upto nul tag df of sub) t g ↔
    ((kind = 8 ∨ kind = 10 ∨ (0 ≤ nul ∧ nul ≤ ver)) → g.nul = (t.nul && decide (0 ≤ nul) && decide (nul ≤ ver))) ∧
    ((t.nul && decide (0 ≤ nul) && decide (nul ≤ ver)) = false →
      if kind = 10 then ToP ver flex sub t g
      else if kind = 11 then g.l.length = (YQ t.l).length ∧ ∀ (i : Nat) (x y : Tree), (YQ t.l)[i]? = some x → g.l[i]? = some y → ((of = 8 ∨ of = 10) → y.nul = false) ∧ (if of = 10 then ToP ver flex sub x y else ToV of x y)
      else ToV kind t g) := by
  simp only [ToF, ToP]
mutual
def tabT : Fld → Bool
  | .mk kind _ _ nul tag df of sub => (decide (tag < 0) || (!decide (kind = 8) && !decide (kind = 9) && !decide (kind = 10) && !decide (kind = 11))) && (decide (nul < 0) || decide (kind = 8) || decide (kind = 9) || decide (kind = 11)) && (!decide (kind = 0) || (decide (df = 0) || decide (df = 1))) && decide (IntKind.i64.wrap df = df) && decide (of ≠ 11) && tabTs sub
def tabTs : List Fld → Bool
  | [] => true
  | f :: fs => tabT f && tabTs fs
end
mutual
def noTg : Fld → Bool
  | .mk _ _ _ _ tag _ _ sub => decide (tag < 0) && noTgs sub
def noTgs : List Fld → Bool
  | [] => true
  | f :: fs => noTg f && noTgs fs
end
mutual
def cntF (tg : Bool) : Fld → Nat
  | .mk kind _ _ _ _ _ _ sub => if kind = 11 then 1 else if kind = 10 then cntFs tg sub + (if tg then 1 else 0) else 1
def cntFs (tg : Bool) : List Fld → Nat
  | [] => 0
  | f :: fs => cntF tg f + cntFs tg fs
end
theorem tellTags_cnt (tg : Bool) (u : List (Nat × List UInt8)) : (Vk tg u).length = if tg then 1 else 0 := by cases tg <;> rfl
mutual
theorem Yk2 {tg : Bool} : ∀ {f : Fld} {ds : List D} {T : Tree}, VG tg f ds T → ds.length = cntF tg f
  | .mk kind fr upto nul tag df of sub, ds, T, h => by
    simp only [VG] at h
    simp only [cntF]
    by_cases h11 : kind = 11
    · simp only [h11, if_true] at h ⊢
      obtain ⟨d, els, rfl, _⟩ := h; rfl
    · simp only [h11, if_false] at h ⊢
      by_cases h10 : kind = 10
      · simp only [h10, if_true] at h ⊢
        obtain ⟨a, u, rfl, _, _, hs⟩ := h
        rw [List.length_append, UZ hs, tellTags_cnt]
      · simp only [h10, if_false] at h ⊢
        obtain ⟨d, rfl, _⟩ := h; rfl
theorem UZ {tg : Bool} : ∀ {fs : List Fld} {ds : List D} {l : List Tree}, YP tg fs ds l → ds.length = cntFs tg fs
  | [], ds, l, h => by simp only [YP] at h; rw [h.1]; rfl
  | f :: fs, ds, l, h => by
    simp only [YP] at h
    obtain ⟨a, b, x, r, rfl, _, h1, h2⟩ := h
    rw [List.length_append, Yk2 h1, UZ h2]; rfl
end
mutual
theorem dfF_cnt (tg : Bool) : ∀ (f : Fld), (dfF tg f).length = cntF tg f
  | .mk kind fr upto nul tag df of sub => by
    simp only [dfF, cntF]
    by_cases h11 : kind = 11
    · simp only [h11, if_true]; rfl
    · simp only [h11, if_false]
      by_cases h10 : kind = 10
      · simp only [h10, if_true, List.length_append, dfFs_cnt tg sub]; cases tg <;> rfl
      · simp only [h10, if_false]; rfl
theorem dfFs_cnt (tg : Bool) : ∀ (fs : List Fld), (dfFs tg fs).length = cntFs tg fs
  | [] => rfl
  | f :: fs => by simp only [dfFs, cntFs, List.length_append, dfF_cnt tg f, dfFs_cnt tg fs]
end
theorem hzU_cnt {tg flex : Bool} {t : Tree} {b : List D} (h : HzU tg flex t b) : b.length = if tg then 1 else 0 := by
  unfold HzU at h; cases tg <;> simp_all
mutual
theorem hzF_cnt {ver : Int} {tg flex : Bool} : ∀ {f : Fld} {t : Tree} {ds : List D}, HzF ver tg flex f t ds → ds.length = cntF tg f
  | .mk kind fr upto nul tag df of sub, t, ds, h => by
    simp only [HzF] at h
    simp only [cntF]
    by_cases h11 : kind = 11
    · simp only [h11, if_true] at h ⊢
      obtain ⟨d, rfl, _⟩ := h; rfl
    · simp only [h11, if_false] at h ⊢
      by_cases h10 : kind = 10
      · simp only [h10, if_true] at h ⊢
        obtain ⟨a, b, rfl, hs, hu⟩ := h
        rw [List.length_append, Yi0 hs, hzU_cnt hu]
      · simp only [h10, if_false] at h ⊢
        obtain ⟨d, rfl, _⟩ := h; rfl
theorem Yi0 {ver : Int} {tg flex : Bool} : ∀ {fs : List Fld} {i : Nat} {t : Tree} {ds : List D}, Yg9 ver tg flex fs i t ds → ds.length = cntFs tg fs
  | [], _, _, ds, h => by simp only [Yg9] at h; rw [h]; rfl
  | f :: fs, i, t, ds, h => by
    simp only [Yg9] at h
    obtain ⟨a, b, rfl, _, _, h1, h2⟩ := h
    rw [List.length_append, Yi0 h2]
    simp only [cntFs]
    by_cases hx : f.has ver = true
    · rw [if_pos hx] at h1; rw [hzF_cnt h1]
    · rw [if_neg hx] at h1; rw [h1, dfF_cnt]
end
theorem Yk8 {a b : UInt8} (h : YF a = YF b) : a = b := by
  simp only [YF, D.lit.injEq, Value.int.injEq, true_and] at h
  exact UInt8.toNat_inj.1 (by omega)
theorem bytesD_inj {a b : List UInt8} (h : Xb a = Xb b) : a = b := by
  simp only [Xb, D.sq.injEq] at h
  exact List.map_inj_right (fun _ _ => Yk8) |>.1 h
theorem Ym1 {u v : List (Nat × List UInt8)} (h : XW u = XW v) : u = v := by
  simp only [XW, D.mp.injEq] at h
  refine (List.map_inj_right (fun x y e => ?_)).1 h
  simp only [Prod.mk.injEq] at e
  exact Prod.ext e.1 (bytesD_inj e.2)
theorem strV_inj {a b : List UInt8} (h : UM a = UM b) : a = b := by
  simpa [UM] using h
end

section
open Go Go.RowKit
theorem Ju {k : IntKind} (h : k = .i8 ∨ k = .i16 ∨ k = .i32 ∨ k = .u16) (n : Int) : IntKind.i64.wrap (k.wrap n) = k.wrap n:=by
 rcases h with rfl | rfl | rfl | rfl <;> simp only [IntKind.wrap,IntKind.bits,IntKind.signed] <;> simp <;> (try split) <;> (try split) <;> omega
theorem wrap64_of {n : Int} (h1 : -9223372036854775808 ≤ n) (h2 : n ≤ 9223372036854775807) : IntKind.i64.wrap n = n:=by rw [IntKind.wrap_i64];omega
structure TabT (kind nul tag df of : Int) (sub : List Fld) : Prop where
 tag : tag < 0 ∨ (kind ≠ 8 ∧ kind ≠ 9 ∧ kind ≠ 10 ∧ kind ≠ 11)
 nul : nul < 0 ∨ kind = 8 ∨ kind = 9 ∨ kind = 11
 df0 : kind = 0 → df = 0 ∨ df = 1
 df : IntKind.i64.wrap df = df
 of : of ≠ 11
 sub : tabTs sub = true
theorem tabT_out {kind fr upto nul tag df of : Int} {sub : List Fld} (h : tabT (.mk kind fr upto nul tag df of sub) = true) : TabT kind nul tag df of sub:=by
 simp only [tabT,Bool.and_eq_true,Bool.or_eq_true,Bool.not_eq_true',decide_eq_true_eq,decide_eq_false_iff_not] at h
 obtain ⟨⟨⟨⟨⟨h1,h2⟩,h3⟩,h4⟩,h5⟩,h6⟩:=h
 exact ⟨h1.imp id (fun h => ⟨h.1.1.1,h.1.1.2,h.1.2,h.2⟩),by rcases h2 with ((h | h) | h) | h <;> simp [h],fun e => h3.resolve_left (fun hn => hn e),h4,h5,h6⟩
theorem us_defV {kind nul tag df of : Int} {sub : List Fld} (H : TabT kind nul tag df of sub) (h10 : kind ≠ 10) (h11 : kind ≠ 11) {T : Tree} (h : XQ kind nul (defV kind nul df) T) (fr upto : Int) : UsF (.mk kind fr upto nul tag df of sub) T:=by
 simp only [UsF]
 by_cases h8 : kind = 8
 ·subst h8
  simp only [if_true]
  simp only [XQ,defV] at h
  simp at h
  by_cases hn : 0 ≤ nul
  ·simp only [hn,if_true] at h ⊢
   rcases h with ⟨_,rfl⟩ | ⟨s,hs,_⟩
   ·simp [nullT,Tree.nul,Tree.s]
   ·simp at hs
  ·simp only [hn,if_false] at h ⊢
   obtain ⟨s,hs,rfl⟩:=h
   have:=strV_inj (by simpa using hs)
   subst this
   simp [UB,Tree.nul,Tree.s]
 by_cases h7 : kind = 7
 ·subst h7
  simp only [h8,if_false,if_true]
  have h' : ∃ s : List UInt8,s.length = 16 ∧ D.agg ((List.replicate 16 (0 : UInt8)).map YF) = .agg (s.map YF) ∧ T = UB s:=h
  obtain ⟨s,_,hb,rfl⟩:=h'
  simp only [D.agg.injEq] at hb
  exact ((List.map_inj_right (fun _ _ => Yk8)).1 hb).symm
 by_cases h9 : kind = 9
 ·subst h9
  simp only [h8,h7,if_false,true_or,if_true]
  have h' : ∃ (s : List UInt8) (b : Bool),(T = .mk 0 s b [] [] ∧ s.length ≤ lim) ∧ (D.sl true [] = .sl b (s.map YF) ∨ (D.sl true [] = .sq (s.map YF) ∧ (s ≠ [] → b = false))):=h
  obtain ⟨s,b,⟨rfl,_⟩,hs | ⟨hs,_⟩⟩:=h'
  ·simp only [D.sl.injEq] at hs
   have : s = []:=List.map_eq_nil_iff.1 hs.2.symm
   exact ⟨this,rfl⟩
  ·cases hs
 simp only [h8,h7,h9,h11,h10,if_false,or_self]
 by_cases h0 : kind = 0
 ·subst h0
  simp only [XQ,defV] at h
  simp at h
  subst h
  rcases H.df0 rfl with rfl | rfl <;> simp [XC,Tree.n,Vm]
 unfold XQ at h
 simp only [h0,h7,h8,h9,if_false] at h
 by_cases h1 : kind = 1
 ·subst h1
  simp [Xt,defV] at h
  subst h
  simp [XC,Tree.n,Vm,Ju]
 by_cases h2 : kind = 2
 ·subst h2
  simp [Xt,defV] at h
  subst h
  simp [XC,Tree.n,Vm,Ju]
 by_cases h3 : kind = 3
 ·subst h3
  simp [Xt,defV] at h
  subst h
  simp [XC,Tree.n,Vm,Ju]
 by_cases h5 : kind = 5
 ·subst h5
  simp [Xt,defV] at h
  subst h
  simp [XC,Tree.n,Vm,Ju]
 have hk : Xt kind = none:=by simp [Xt,h1,h2,h3,h5]
 rw [hk] at h
 simp only [defV,h0,h1,h2,h3,h5,h7,h8,h9,if_false,D.lit.injEq,Value.int.injEq,true_and] at h
 obtain ⟨n,hn,rfl⟩:=h
 simp only [XC,Tree.n,Vm,h0,h1,h2,h3,h5,if_false]
 rw [← hn];exact H.df
theorem JE {a b c d : List D} (h : a ++ b = c ++ d) (hl : a.length = c.length) : a = c ∧ b = d:=List.append_inj h hl
mutual
theorem us_of {tg : Bool} : ∀ {f : Fld} {T : Tree},tabT f = true → VG tg f (dfF tg f) T → UsF f T
 | .mk kind fr upto nul tag df of sub,T,ht,h => by
  have H:=tabT_out ht
  by_cases h11 : kind = 11
  ·subst h11
   simp only [VG,dfF] at h
   simp only [if_true] at h
   obtain ⟨d,els,hd,hT,hc,hlen,_⟩:=h
   simp only [List.cons.injEq,and_true] at hd
   subst hd
   have he : els = []:=by
    rcases hc with h | ⟨h,_⟩
    ·simp only [D.sl.injEq] at h;exact h.2.symm
    ·cases h
   subst he
   simp only [UsF]
   simp
   exact ⟨by rw [hT];rfl,List.length_eq_zero_iff.1 (by simpa using hlen)⟩
  by_cases h10 : kind = 10
  ·subst h10
   simp only [VG,dfF] at h
   simp only [h11,if_false,if_true] at h
   obtain ⟨a,u,hd,hT,_,hs⟩:=h
   obtain ⟨h1,h2⟩:=JE hd (by rw [UZ hs,dfFs_cnt])
   subst h1
   simp only [UsF]
   simp
   refine ⟨?_,uss_of H.sub hs⟩
   rw [hT]
   cases tg with
   | false => simp [Tree.u]
   | true =>
    simp only [Vk,if_true,List.cons.injEq,and_true] at h2
    simp only [Tree.u,if_true]
    exact (Ym1 h2).symm
  ·simp only [VG,dfF] at h
   simp only [h11,h10,if_false] at h
   obtain ⟨d,hd,hv⟩:=h
   simp only [List.cons.injEq,and_true] at hd
   subst hd
   exact us_defV H h10 h11 hv fr upto
theorem uss_of {tg : Bool} : ∀ {fs : List Fld} {l : List Tree},tabTs fs = true → YP tg fs (dfFs tg fs) l → UsFs fs l
 | [],l,_,h => by simp only [YP] at h;simp only [UsFs];exact h.2
 | f :: fs,l,ht,h => by
  simp only [tabTs,Bool.and_eq_true] at ht
  simp only [YP,dfFs] at h
  obtain ⟨a,b,x,r,hd,rfl,h1,h2⟩:=h
  obtain ⟨e1,e2⟩:=JE hd (by rw [Yk2 h1,dfF_cnt])
  subst e1;subst e2
  simp only [UsFs]
  exact ⟨x,r,rfl,us_of ht.1 h1,uss_of ht.2 h2⟩
end
end

section
open Go Go.RowKit
theorem Yh6 {kind : Int} (h : kind = 8 ∨ kind = 9) (null : Bool) (p : Tree → Tree) (t : Tree) : XI kind null p t = .mk 0 (Xe t.s) null [] []:=by
 unfold XI;rw [if_pos h]
theorem fitVal_num {kind : Int} (h8 : kind ≠ 8) (h9 : kind ≠ 9) (h10 : kind ≠ 10) (null : Bool) (p : Tree → Tree) (t : Tree) : XI kind null p t = .mk t.n t.s false [] []:=by
 unfold XI;rw [if_neg (by simp [h8,h9]),if_neg h10]
theorem Ug {d : D} {n : Bool} {ds : List D} (h : sliceOf d = some (n,ds)) : d = .sl n ds ∨ d = .sq ds:=by
 unfold sliceOf at h
 split at h <;> simp_all
theorem Yk4 {a b : List UInt8} (h : a.map YF = b.map YF) : a = b:=(List.map_inj_right (fun _ _ => Yk8)).1 h
theorem toV_of {kind nul ver : Int} {t : Tree} {null : Bool} {p : Tree → Tree} (h10 : kind ≠ 10) (h11 : kind ≠ 11) (hn1 : -9223372036854775808 ≤ t.n) (hn2 : t.n ≤ 9223372036854775807) (hnull : null = true → 0 ≤ nul ∧ nul ≤ ver) (Hn : nul < 0 ∨ kind = 8 ∨ kind = 9) {d : D} {T : Tree} (hd : JC ver kind nul (XI kind null p t) d) (hT : XQ kind nul d T) :
  ((kind = 8 ∨ (0 ≤ nul ∧ nul ≤ ver)) → T.nul = null) ∧ (null = false → ToV kind t T):=by
 by_cases h8 : kind = 8
 ·subst h8
  rw [Yh6 (.inl rfl)] at hd
  have hd' : d = (if 0 ≤ nul then (if null then .lit (.pointer none) else .ptr (.lit (UM (Xe t.s)))) else .lit (UM (Xe t.s))):=hd
  have hT' : if 0 ≤ nul then (d = .lit (.pointer none) ∧ T = nullT) ∨ (∃ s,d = .ptr (.lit (UM s)) ∧ T = UB s) else ∃ s,d = .lit (UM s) ∧ T = UB s:=hT
  have ht : ∀ s,ToV 8 t (UB s) ↔ s = Xe t.s:=fun s => by simp [ToV,UB,Tree.s]
  by_cases hnn : 0 ≤ nul
  ·simp only [hnn,if_true] at hd' hT'
   cases null with
   | true =>
    simp only [if_true] at hd'
    subst hd'
    rcases hT' with ⟨_,rfl⟩ | ⟨s,h,_⟩
    ·exact ⟨fun _ => rfl,fun h => by cases h⟩
    ·cases h
   | false =>
    simp only [Bool.false_eq_true,if_false] at hd'
    subst hd'
    rcases hT' with ⟨h,_⟩ | ⟨s,h,rfl⟩
    ·cases h
    ·simp only [D.ptr.injEq,D.lit.injEq] at h
     exact ⟨fun _ => rfl,fun _ => (ht s).2 (strV_inj h).symm⟩
  ·simp only [hnn,if_false] at hd' hT'
   subst hd'
   obtain ⟨s,h,rfl⟩:=hT'
   simp only [D.lit.injEq] at h
   refine ⟨fun _ => ?_,fun _ => (ht s).2 (strV_inj h).symm⟩
   cases null with
   | true => exact absurd (hnull rfl).1 hnn
   | false => rfl
 by_cases h9 : kind = 9
 ·subst h9
  rw [Yh6 (.inr rfl)] at hd
  have hT' : ∃ (s : List UInt8) (b : Bool),(T = .mk 0 s b [] [] ∧ s.length ≤ lim) ∧ (d = .sl b (s.map YF) ∨ (d = .sq (s.map YF) ∧ (s ≠ [] → b = false))):=hT
  obtain ⟨s,b,⟨rfl,_⟩,hc⟩:=hT'
  have ht : ToV 9 t (.mk 0 s b [] []) ↔ s = Xe t.s:=by simp [ToV,Tree.s]
  unfold JC at hd
  split at hd
  ·rename_i hh
   obtain ⟨_,_,n,hsl⟩:=hd
   have hs : s.map YF = (Xe t.s).map YF:=by
    rcases Ug hsl with rfl | rfl
    ·rcases hc with h | ⟨h,_⟩
     ·simp only [D.sl.injEq] at h;exact h.2.symm
     ·cases h
    ·rcases hc with h | ⟨h,_⟩
     ·cases h
     ·simp only [D.sq.injEq] at h;exact h.symm
   refine ⟨fun h => ?_,fun _ => ht.2 (Yk4 hs)⟩
   rcases h with h | h
   ·cases h
   ·exact absurd h hh.2
  ·rename_i hh
   have hnv : 0 ≤ nul ∧ nul ≤ ver:=by
    by_cases h : 0 ≤ nul ∧ nul ≤ ver
    ·exact h
    ·exact absurd ⟨rfl,h⟩ hh
   have hd' : d = (if 0 ≤ nul then .sl null (if null then [] else (Xe t.s).map YF) else .sq ((Xe t.s).map YF)):=hd
   rw [if_pos hnv.1] at hd'
   subst hd'
   rcases hc with h | ⟨h,_⟩
   ·simp only [D.sl.injEq] at h
    refine ⟨fun _ => h.1.symm,fun hf => ?_⟩
    rw [hf] at h
    simp only [Bool.false_eq_true,if_false] at h
    exact ht.2 (Yk4 h.2.symm)
   ·cases h
 have hnn : ¬ 0 ≤ nul:=by rcases Hn with h | h | h;omega;exact absurd h h8;exact absurd h h9
 rw [fitVal_num h8 h9 h10] at hd
 have hd' : d = Vn kind nul (.mk t.n t.s false [] []):=by
  unfold JC at hd
  rw [if_neg (fun h => h9 h.1)] at hd
  exact hd
 subst hd'
 refine ⟨fun h => ?_,fun _ => ?_⟩
 ·rcases h with h | h
  ·exact absurd h h8
  ·exact absurd h.1 hnn
 by_cases h7 : kind = 7
 ·subst h7
  have hT' : ∃ s : List UInt8,s.length = 16 ∧ D.agg ((XX t.s).map YF) = .agg (s.map YF) ∧ T = UB s:=hT
  obtain ⟨s,_,h,rfl⟩:=hT'
  simp only [D.agg.injEq] at h
  show s = XX t.s
  exact (Yk4 h).symm
 simp only [ToV,h8,h9,h7,or_self,if_false]
 by_cases h0 : kind = 0
 ·subst h0
  have hT' : ∃ b : Bool,D.lit (.bool (decide (t.n % 2 = 1))) = .lit (.bool b) ∧ T = XC (if b then 1 else 0):=hT
  obtain ⟨b,h,rfl⟩:=hT'
  simp only [D.lit.injEq,Value.bool.injEq] at h
  subst h
  show (if decide (t.n % 2 = 1) = true then (1 : Int) else 0) = t.n % 2
  by_cases h1 : t.n % 2 = 1
  ·simp [h1]
  ·simp [h1];omega
 unfold XQ at hT
 simp only [h0,h7,h8,h9,if_false] at hT
 by_cases h1 : kind = 1
 ·subst h1
  have hT' : ∃ n,D.lit (.int .i8 (IntKind.i8.wrap t.n)) = .lit (.int .i8 n) ∧ T = XC (IntKind.i64.wrap n):=hT
  obtain ⟨n,h,rfl⟩:=hT'
  simp only [D.lit.injEq,Value.int.injEq,true_and] at h
  subst h
  simp [XC,Tree.n,Vm,Ju]
 by_cases h2 : kind = 2
 ·subst h2
  have hT' : ∃ n,D.lit (.int .i16 (IntKind.i16.wrap t.n)) = .lit (.int .i16 n) ∧ T = XC (IntKind.i64.wrap n):=hT
  obtain ⟨n,h,rfl⟩:=hT'
  simp only [D.lit.injEq,Value.int.injEq,true_and] at h
  subst h
  simp [XC,Tree.n,Vm,Ju]
 by_cases h3 : kind = 3
 ·subst h3
  have hT' : ∃ n,D.lit (.int .i32 (IntKind.i32.wrap t.n)) = .lit (.int .i32 n) ∧ T = XC (IntKind.i64.wrap n):=hT
  obtain ⟨n,h,rfl⟩:=hT'
  simp only [D.lit.injEq,Value.int.injEq,true_and] at h
  subst h
  simp [XC,Tree.n,Vm,Ju]
 by_cases h5 : kind = 5
 ·subst h5
  have hT' : ∃ n,D.lit (.int .u16 (IntKind.u16.wrap t.n)) = .lit (.int .u16 n) ∧ T = XC (IntKind.i64.wrap n):=hT
  obtain ⟨n,h,rfl⟩:=hT'
  simp only [D.lit.injEq,Value.int.injEq,true_and] at h
  subst h
  simp [XC,Tree.n,Vm,Ju]
 have hk : Xt kind = none:=by simp [Xt,h1,h2,h3,h5]
 rw [hk] at hT
 simp only [Vn,h0,h1,h2,h3,h5,h7,h8,h9,if_false,D.lit.injEq,Value.int.injEq,true_and,Tree.n] at hT
 obtain ⟨n,hn,rfl⟩:=hT
 simp only [XC,Tree.n,Vm,h0,h1,h2,h3,h5,if_false]
 rw [← hn];exact wrap64_of hn1 hn2
theorem exV_of {kind nul ver : Int} {t : Tree} (h10 : kind ≠ 10) (h11 : kind ≠ 11) (hf : FitV kind t) {d : D} (hd : JC ver kind nul t d) : ∃ T,XQ kind nul d T:=by
 by_cases h8 : kind = 8
 ·subst h8
  have hd' : d = (if 0 ≤ nul then (if t.nul then .lit (.pointer none) else .ptr (.lit (UM t.s))) else .lit (UM t.s)):=hd
  subst hd'
  by_cases hnn : 0 ≤ nul
  ·cases hb : t.nul with
   | true => exact ⟨nullT,by simp [XQ,hnn]⟩
   | false => exact ⟨UB t.s,by simp [XQ,hnn];exact ⟨t.s,rfl,rfl⟩⟩
  ·exact ⟨UB t.s,by simp [XQ,hnn];exact ⟨t.s,rfl,rfl⟩⟩
 by_cases h9 : kind = 9
 ·subst h9
  have hs : t.s.length ≤ lim:=by have:=hf (.inr rfl);simp only [Vf] at this;simp only [lim];omega
  have mk : ∀ (s : List UInt8) (b : Bool),s.length ≤ lim → (d = .sl b (s.map YF) ∨ (d = .sq (s.map YF) ∧ (s ≠ [] → b = false))) → ∃ T,XQ 9 nul d T:=fun s b h1 h2 => ⟨.mk 0 s b [] [],s,b,⟨rfl,h1⟩,h2⟩
  unfold JC at hd
  split at hd
  ·obtain ⟨_,_,n,hsl⟩:=hd
   rcases Ug hsl with rfl | rfl
   ·exact mk t.s n hs (.inl rfl)
   ·exact mk t.s false hs (.inr ⟨rfl,fun _ => rfl⟩)
  ·have hd' : d = (if 0 ≤ nul then .sl t.nul (if t.nul then [] else t.s.map YF) else .sq (t.s.map YF)):=hd
   subst hd'
   by_cases hnn : 0 ≤ nul
   ·rw [if_pos hnn]
    rw [if_pos hnn] at mk
    cases hb : t.nul with
    | true => rw [hb] at mk;exact mk [] true (by simp) (.inl rfl)
    | false => rw [hb] at mk;exact mk t.s false hs (.inl rfl)
   ·rw [if_neg hnn]
    rw [if_neg hnn] at mk
    exact mk t.s false hs (.inr ⟨rfl,fun _ => rfl⟩)
 have hd' : d = Vn kind nul t:=by
  unfold JC at hd
  rw [if_neg (fun h => h9 h.1)] at hd
  exact hd
 subst hd'
 by_cases h7 : kind = 7
 ·subst h7;exact ⟨UB (XX t.s),XX t.s,VU t.s,rfl,rfl⟩
 by_cases h0 : kind = 0
 ·subst h0;exact ⟨_,_,rfl,rfl⟩
 unfold XQ
 simp only [h0,h7,h8,h9,if_false]
 by_cases h1 : kind = 1
 ·subst h1;exact ⟨_,_,rfl,rfl⟩
 by_cases h2 : kind = 2
 ·subst h2;exact ⟨_,_,rfl,rfl⟩
 by_cases h3 : kind = 3
 ·subst h3;exact ⟨_,_,rfl,rfl⟩
 by_cases h5 : kind = 5
 ·subst h5;exact ⟨_,_,rfl,rfl⟩
 have hk : Xt kind = none:=by simp [Xt,h1,h2,h3,h5]
 rw [hk]
 simp only [Vn,h0,h1,h2,h3,h5,h7,h8,h9,if_false]
 exact ⟨_,_,rfl,rfl⟩
theorem hold_valK (ver kind : Int) (t : Tree) : JC ver kind (-1) t (Vn kind (-1) t):=by
 unfold JC
 split
 ·rename_i h
  rw [h.1]
  exact ⟨rfl,rfl,false,rfl⟩
 ·rfl
end

section
open Go Go.RowKit
theorem okTags_nil : Jt []:=⟨List.Pairwise.nil,fun kv h => by (cases h),by simp⟩
theorem okTags_fit {fs : List Fld} {t : Tree} (h : FitU fs t) : Jt t.u:=by
 refine ⟨by rw [← h.1];exact UT _ _,fun kv hkv => ⟨(h.2.1 kv hkv).1,?_⟩,?_⟩
 ·have:=(h.2.1 kv hkv).2
  simp only [Vf] at this
  simp only [lim];omega
 ·have:=h.2.2
  simp only [Vf] at this
  omega
theorem ex_list {P : Nat → Tree → Prop} : ∀ (n : Nat),(∀ i,i < n → ∃ x,P i x) → ∃ l : List Tree,l.length = n ∧ ∀ (i : Nat) (x : Tree),l[i]? = some x → P i x
 | 0,_ => ⟨[],rfl,fun i x h => by simp at h⟩
 | n + 1,h => by
  obtain ⟨l,hl,hp⟩:=ex_list n (fun i hi => h i (by omega))
  obtain ⟨x,hx⟩:=h n (by omega)
  refine ⟨l ++ [x],by simp [hl],fun i y hy => ?_⟩
  by_cases hi : i < n
  ·rw [List.getElem?_append_left (by omega)] at hy;exact hp i y hy
  ·have hin : i = n:=by
    have:=(List.getElem?_eq_some_iff.1 hy).1
    simp at this;omega
   subst hin
   rw [List.getElem?_append_right (by omega)] at hy
   simp [hl] at hy
   rw [← hy];exact hx
theorem ex_defV (kind nul df : Int) : ∃ T,XQ kind nul (defV kind nul df) T:=by
 by_cases h8 : kind = 8
 ·subst h8
  by_cases hn : 0 ≤ nul
  ·exact ⟨nullT,by simp [XQ,defV,hn]⟩
  ·exact ⟨UB [],by simp [XQ,defV,hn];exact ⟨[],rfl,rfl⟩⟩
 by_cases h9 : kind = 9
 ·subst h9;exact ⟨.mk 0 [] true [] [],[],true,⟨rfl,by simp [lim]⟩,.inl rfl⟩
 by_cases h7 : kind = 7
 ·subst h7;exact ⟨_,List.replicate 16 0,by simp,rfl,rfl⟩
 by_cases h0 : kind = 0
 ·subst h0;exact ⟨_,_,rfl,rfl⟩
 unfold XQ
 simp only [h0,h7,h8,h9,if_false]
 by_cases h1 : kind = 1
 ·subst h1;exact ⟨_,_,rfl,rfl⟩
 by_cases h2 : kind = 2
 ·subst h2;exact ⟨_,_,rfl,rfl⟩
 by_cases h3 : kind = 3
 ·subst h3;exact ⟨_,_,rfl,rfl⟩
 by_cases h5 : kind = 5
 ·subst h5;exact ⟨_,_,rfl,rfl⟩
 have hk : Xt kind = none:=by simp [Xt,h1,h2,h3,h5]
 rw [hk]
 simp only [defV,h0,h1,h2,h3,h5,h7,h8,h9,if_false]
 exact ⟨_,_,rfl,rfl⟩
mutual
theorem ex_df (tg : Bool) : ∀ (f : Fld),∃ T,VG tg f (dfF tg f) T
 | .mk kind fr upto nul tag df of sub => by
  by_cases h11 : kind = 11
  ·subst h11
   refine ⟨.mk 0 [] true [] [],?_⟩
   simp only [VG,dfF,if_true]
   exact ⟨_,[],rfl,rfl,.inl rfl,rfl,Nat.zero_le _,fun i e x h => by simp at h⟩
  by_cases h10 : kind = 10
  ·subst h10
   obtain ⟨l,hl⟩:=exs_df tg sub
   refine ⟨.mk 0 [] false l [],?_⟩
   simp only [VG,dfF,h11,if_false,if_true]
   exact ⟨_,[],rfl,by cases tg <;> rfl,fun _ => okTags_nil,hl⟩
  ·obtain ⟨T,hT⟩:=ex_defV kind nul df
   refine ⟨T,?_⟩
   simp only [VG,dfF,h11,h10,if_false]
   exact ⟨_,rfl,hT⟩
theorem exs_df (tg : Bool) : ∀ (fs : List Fld),∃ l,YP tg fs (dfFs tg fs) l
 | [] => ⟨[],by simp [YP,dfFs]⟩
 | f :: fs => by
  obtain ⟨x,hx⟩:=ex_df tg f
  obtain ⟨r,hr⟩:=exs_df tg fs
  refine ⟨x :: r,?_⟩
  simp only [YP,dfFs]
  exact ⟨_,_,x,r,rfl,rfl,hx,hr⟩
end
theorem hzU_tags {tg flex : Bool} {t : Tree} {b : List D} (htg : flex = true → tg = true) (h : HzU tg flex t b) : b = Vk tg (if flex then t.u else []):=by
 unfold HzU at h
 unfold Vk
 cases tg with
 | true => simpa using h
 | false => simpa using h
theorem exP_of0 {ver : Int} {tg flex : Bool} (htg : flex = true → tg = true) {fs : List Fld} {t : Tree} {ds : List D} (hu : FitU fs t) (hs : ∀ a,Yg9 ver tg flex fs 0 t a → ∃ l,YP tg fs a l) (h : HzP ver tg flex fs t ds) : ∃ T,UV tg fs ds T:=by
 obtain ⟨a,b,rfl,ha,hb⟩:=h
 obtain ⟨l,hl⟩:=hs a ha
 refine ⟨.mk 0 [] false l (if tg then (if flex then t.u else []) else []),a,if flex then t.u else [],by rw [hzU_tags htg hb],rfl,fun _ => ?_,hl⟩
 cases flex with
 | true => exact okTags_fit hu
 | false => exact okTags_nil
mutual
theorem ex_of {ver : Int} {tg flex : Bool} (htg : flex = true → tg = true) : ∀ {f : Fld} {t : Tree} {ds : List D},tabT f = true → FitF ver f t → HzF ver tg flex f t ds → ∃ T,VG tg f ds T
 | .mk kind fr upto nul tag df of sub,t,ds,ht,hf,h => by
  have H:=tabT_out ht
  simp only [FitF] at hf
  obtain ⟨_,hf⟩:=hf
  rw [HzF_mk] at h
  by_cases h11 : kind = 11
  ·subst h11
   simp only [if_true] at h hf
   obtain ⟨hlen,hst,hpr⟩:=hf
   obtain ⟨d,rfl,h⟩:=h
   have hmany : t.l.length ≤ 1000000000:=by simp only [Vf] at hlen;omega
   rcases h with ⟨_,_,rfl⟩ | ⟨_,_,_,n,els,hsl,_,hel,hE⟩
   ·refine ⟨.mk 0 [] true [] [],?_⟩
    simp only [VG,if_true]
    exact ⟨_,[],rfl,rfl,.inl rfl,rfl,Nat.zero_le _,fun i e x h => by simp at h⟩
   ·-- the elements
    obtain ⟨l,hl,hP⟩:=ex_list (P:=fun i x => ∀ e,els[i]? = some e → (if of = 10 then ∃ ps,e = .agg ps ∧ UV tg sub ps x else XQ of (-1) e x)) els.length (fun i hi => by
     have hit : i < t.l.length:=by omega
     by_cases h10 : of = 10
     ·simp only [h10,if_true] at hE ⊢
      obtain ⟨ps,hps,hz⟩:=hE i hit
      have hx:=hst h10 t.l[i] (List.getElem_mem hit)
      rw [att_get hit] at hz
      obtain ⟨T,hT⟩:=exP_of0 htg hx.2 (fun a ha => exs_of htg H.sub hx.1 ha) hz
      exact ⟨T,fun e he => ⟨ps,by rw [hps] at he;exact (Option.some.inj he).symm,hT⟩⟩
     ·simp only [h10,if_false] at hE ⊢
      obtain ⟨⟨o1,o2⟩,hv⟩:=hpr h10
      obtain ⟨T,hT⟩:=exV_of (ver:=ver) h10 o1 (hv t.l[i] (List.getElem_mem hit)) (hold_valK ver of t.l[i])
      refine ⟨T,fun e he => ?_⟩
      rw [hE,List.getElem?_map,List.getElem?_eq_getElem hit] at he
      simp only [Option.map_some,Option.some.injEq] at he
      rw [← he];exact hT)
    have key : ∀ (b : Bool),(d = .sl b els ∨ (d = .sq els ∧ (els ≠ [] → b = false))) → ∃ T,VG tg (.mk 11 fr upto nul tag df of sub) [d] T:=by
     intro b hb
     refine ⟨.mk 0 [] b l [],?_⟩
     rw [UE]
     simp only [if_true]
     exact ⟨d,els,rfl,rfl,hb,hl,by omega,fun i e x he hx => hP i x hx e he⟩
    rcases Ug hsl with rfl | rfl
    ·exact key n (.inl rfl)
    ·exact key false (.inr ⟨rfl,fun _ => rfl⟩)
  ·simp only [h11,if_false] at h hf
   by_cases h10 : kind = 10
   ·subst h10
    simp only [if_true] at h hf
    obtain ⟨T,hT⟩:=exP_of0 htg hf.2 (fun a ha => exs_of htg H.sub hf.1 ha) h
    refine ⟨T,?_⟩
    rw [UE]
    simp only [h11,if_false,if_true]
    exact hT
   ·simp only [h10,if_false] at h hf
    obtain ⟨d,rfl,hv⟩:=h
    obtain ⟨T,hT⟩:=exV_of h10 h11 hf hv
    refine ⟨T,?_⟩
    rw [UE]
    simp only [h11,h10,if_false]
    exact ⟨d,rfl,hT⟩
theorem exs_of {ver : Int} {tg flex : Bool} (htg : flex = true → tg = true) : ∀ {fs : List Fld} {i : Nat} {t : Tree} {ds : List D},tabTs fs = true → Ya4 ver fs i t → Yg9 ver tg flex fs i t ds → ∃ l,YP tg fs ds l
 | [],i,t,ds,_,_,h => by
  simp only [Yg9] at h
  exact ⟨[],by simp [YP,h]⟩
 | f :: fs,i,t,ds,ht,hf,h => by
  simp only [tabTs,Bool.and_eq_true] at ht
  simp only [Ya4] at hf
  simp only [Yg9] at h
  obtain ⟨a,b,rfl,_,_,h1,h2⟩:=h
  obtain ⟨r,hr⟩:=exs_of htg ht.2 hf.2.2 h2
  have hx : ∃ x,VG tg f a x:=by
   by_cases hh : f.has ver = true
   ·rw [if_pos hh] at h1;exact ex_of htg ht.1 (hf.2.1 hh) h1
   ·rw [if_neg hh] at h1;rw [h1];exact ex_df tg f
  obtain ⟨x,hx⟩:=hx
  refine ⟨x :: r,?_⟩
  simp only [YP]
  exact ⟨a,b,x,r,rfl,rfl,hx,hr⟩
end
theorem top_of0 {ver : Int} {tg flex : Bool} (htg : flex = true → tg = true) {fs : List Fld} {t t' : Tree} {ds : List D} {T : Tree} (hu : t'.u = Xj fs t.u) (hs : ∀ a l,Yg9 ver tg flex fs 0 t' a → YP tg fs a l → ToFs ver flex fs 0 t l) (h : HzP ver tg flex fs t' ds) (hT : UV tg fs ds T) : T.nul = false ∧ ToP ver flex fs t T:=by
 obtain ⟨a,b,rfl,ha,hb⟩:=h
 obtain ⟨a',u,hd,hTe,_,hl⟩:=hT
 obtain ⟨e1,e2⟩:=JE hd (by rw [Yi0 ha,UZ hl])
 subst e1;subst e2
 refine ⟨by rw [hTe];rfl,hs a T.l ha hl,?_⟩
 have hb':=hzU_tags htg hb
 have hTu : T.u = if tg then u else []:=by rw [hTe];rfl
 rw [hTu]
 cases tg with
 | true =>
  simp only [Vk,if_true,List.cons.injEq,and_true] at hb' ⊢
  rw [Ym1 hb',hu]
 | false =>
  have : flex = false:=by cases flex with | false => rfl | true => exact absurd (htg rfl) (by decide)
  subst this
  simp
theorem fitF_mk {ver kind fr upto nul tag df of : Int} {sub : List Fld} {t : Tree} (htag : tag < 0) (null : Bool) (hn : (Fld.mk kind fr upto nul tag df of sub).null ver t = null) : fitF ver (.mk kind fr upto nul tag df of sub) t =
  if kind = 11 then .mk 0 [] null ((YQ t.l).map (XI of false (UU ver sub))) [] else XI kind null (UU ver sub) t:=by
 rw [fitF_eq,hn]
 have ht0 : decide (0 ≤ (Fld.mk kind fr upto nul tag df of sub).tag) = false:=by
  show decide (0 ≤ tag) = false
  simp;omega
 rw [ht0,Bool.false_and,Bool.or_false]
 rfl
mutual
theorem to_of {ver : Int} {tg flex : Bool} (htg : flex = true → tg = true) : ∀ {f : Fld} {t : Tree} {ds : List D} {T : Tree},tabT f = true → t.ok → HzF ver tg flex f (fitF ver f t) ds → VG tg f ds T → noTg f = true → ToF ver flex f t T
 | .mk kind fr upto nul tag df of sub,t,ds,T,ht,hok,h,hT,hno => by
  have H:=tabT_out ht
  simp only [noTg,Bool.and_eq_true,decide_eq_true_eq] at hno
  have htag:=hno.1
  obtain ⟨null,hnull⟩ : ∃ null,null = (t.nul && decide (0 ≤ nul) && decide (nul ≤ ver)):=⟨_,rfl⟩
  have hfn : (Fld.mk kind fr upto nul tag df of sub).null ver t = null:=hnull.symm
  have hnn : null = true → 0 ≤ nul ∧ nul ≤ ver:=by
   intro e
   rw [hnull] at e
   simp only [Bool.and_eq_true,decide_eq_true_eq] at e
   exact ⟨e.1.2,e.2⟩
  rw [fitF_mk htag null hfn] at h
  rw [HzF_mk] at h
  rw [UE] at hT
  rw [ToF_mk]
  rw [← hnull]
  by_cases h11 : kind = 11
  ·subst h11
   simp only [if_true] at h hT
   obtain ⟨d,rfl,h⟩:=h
   obtain ⟨d',els,hd',hTe,hc,hlen,_,hel⟩:=hT
   simp only [List.cons.injEq,and_true] at hd'
   subst hd'
   have h10' : ¬ (11 : Int) = 10:=by decide
   simp only [h10',if_false,if_true]
   rcases h with ⟨h0,h1,rfl⟩ | ⟨hn0,_,_,n,els',hsl,hisn,hlen',hE⟩
   ·have h1' : null = true:=h1
    refine ⟨fun _ => ?_,fun hf => by rw [h1'] at hf;cases hf⟩
    rcases hc with hc | ⟨hc,_⟩
    ·simp only [D.sl.injEq] at hc;rw [h1'];exact hc.1.symm
    ·cases hc
   ·have hnf : null = false:=by
     cases hb : null with
     | false => rfl
     | true => exact absurd ⟨(hnn hb).1,by rw [hb];rfl⟩ hn0
    have hee : els' = els:=by
     rcases Ug hsl with rfl | rfl
     ·rcases hc with hc | ⟨hc,_⟩
      ·simp only [D.sl.injEq] at hc;exact hc.2
      ·cases hc
     ·rcases hc with hc | ⟨hc,_⟩
      ·cases hc
      ·simp only [D.sq.injEq] at hc;exact hc
    subst hee
    have hlen2 : els'.length = (YQ t.l).length:=hlen'.trans (List.length_map _)
    refine ⟨fun hm => ?_,fun _ => ⟨by omega,fun i x y hx hy => ?_⟩⟩
    ·rcases hm with hm | hm | hm
     ·exact absurd hm (by simp)
     ·exact absurd hm (by simp)
     ·have:=hisn hm.1 hm.2
      rw [hnf]
      rcases hc with hc | ⟨hc,_⟩
      ·subst hc;simpa [isnOf] using this
      ·subst hc;simp [isnOf] at this
    ·have hix : i < (YQ t.l).length:=(List.getElem?_eq_some_iff.1 hx).1
     have hie : i < els'.length:=by omega
     have hxe : (YQ t.l)[i] = x:=(List.getElem?_eq_some_iff.1 hx).2
     have hxok : x.ok:=hok.l x (by rw [← hxe];exact List.mem_of_mem_take (List.getElem_mem hix))
     have he:=hel i els'[i] y (List.getElem?_eq_getElem hie) hy
     by_cases h10 : of = 10
     ·subst h10
      simp only [if_true] at he hE ⊢
      obtain ⟨ps,hps,hz⟩:=hE i (Nat.lt_of_lt_of_eq hix (List.length_map _).symm)
      obtain ⟨ps',hps',hTP⟩:=he
      rw [List.getElem?_eq_getElem hie,hps'] at hps
      simp only [Option.some.injEq,D.agg.injEq] at hps
      subst hps
      have hatt : att (.mk 0 [] null ((YQ t.l).map (XI 10 false (UU ver sub))) []) i = (UU ver sub x).withNull false:=by
       show ((YQ t.l).map (XI 10 false (UU ver sub))).getD i Tree.none = _
       rw [List.getD_eq_getElem?_getD,List.getElem?_map,hx]
       simp [XI]
      rw [hatt] at hz
      obtain ⟨k1,k2⟩:=top_of0 htg (t:=x) (by rw [UY];rfl) (fun a l ha hl => tos_of htg H.sub hxok (fun j hj => by rw [UL,Nat.zero_add,JV ver sub x j hj]) ha hl hno.2) hz hTP
      exact ⟨fun _ => k1,k2⟩
     ·simp only [h10,if_false] at he hE ⊢
      have hE : els' = ((YQ t.l).map (XI of false (UU ver sub))).map (Vn of (-1)):=hE
      rw [List.map_map] at hE
      have hev : els'[i] = Vn of (-1) (XI of false (UU ver sub) x):=by
       have : els'[i]? = some (Vn of (-1) (XI of false (UU ver sub) x)):=by rw [hE,List.getElem?_map,hx];rfl
       exact (List.getElem?_eq_some_iff.1 this).2
      rw [hev] at he
      obtain ⟨k1,k2⟩:=toV_of (ver:=ver) (t:=x) (null:=false) (p:=UU ver sub) h10 H.of hxok.n.1 hxok.n.2 (fun e => by cases e) (.inl (by omega)) (hold_valK ver of _) he
      exact ⟨fun hm => k1 (.inl (hm.resolve_right (by simp [h10]))),k2 rfl⟩
  ·simp only [h11,if_false] at h hT ⊢
   by_cases h10 : kind = 10
   ·subst h10
    simp only [if_true] at h hT ⊢
    have hneg : nul < 0:=by rcases H.nul with h | h | h | h;exact h;all_goals omega
    have hnf : null = false:=by
     cases hb : null with
     | false => rfl
     | true => have:=(hnn hb).1;omega
    subst hnf
    rw [show XI 10 false (UU ver sub) t = (UU ver sub t).withNull false from by simp [XI]] at h
    obtain ⟨k1,k2⟩:=top_of0 htg (t:=t) (by rw [UY];rfl) (fun a l ha hl => tos_of htg H.sub hok (fun j hj => by rw [UL,Nat.zero_add,JV ver sub t j hj]) ha hl hno.2) h hT
    exact ⟨fun _ => k1,fun _ => k2⟩
   ·simp only [h10,if_false] at h hT ⊢
    obtain ⟨d,rfl,hv⟩:=h
    obtain ⟨d',hd',hV⟩:=hT
    simp only [List.cons.injEq,and_true] at hd'
    subst hd'
    obtain ⟨k1,k2⟩:=toV_of h10 h11 hok.n.1 hok.n.2 hnn (by rcases H.nul with h | h | h | h;exact .inl h;exact .inr (.inl h);exact .inr (.inr h);exact absurd h h11) hv hV
    exact ⟨fun hm => k1 (by rcases hm with hm | hm | hm;exact .inl hm;exact absurd hm (by simp);exact .inr hm),k2⟩
theorem tos_of {ver : Int} {tg flex : Bool} (htg : flex = true → tg = true) : ∀ {fs : List Fld} {i k : Nat} {t t' : Tree} {ds : List D} {l : List Tree},tabTs fs = true → t.ok → (∀ j (h : j < fs.length),att t' (k + j) = fitF ver fs[j] (att t (i + j))) → Yg9 ver tg flex fs k t' ds → YP tg fs ds l → noTgs fs = true → ToFs ver flex fs i t l
 | [],i,k,t,t',ds,l,_,_,_,_,hT,_ => by simp only [YP] at hT;simp only [ToFs];exact hT.2
 | f :: fs,i,k,t,t',ds,l,ht,hok,ha,h,hT,hno => by
  simp only [noTgs,Bool.and_eq_true] at hno
  have hfn : f.tag < 0:=by
   cases f
   have:=hno.1
   simp only [noTg,Bool.and_eq_true,decide_eq_true_eq] at this
   exact this.1
  simp only [tabTs,Bool.and_eq_true] at ht
  simp only [Yg9] at h
  simp only [YP] at hT
  obtain ⟨a,b,rfl,_,_,h1,h2⟩:=h
  obtain ⟨a',b',x,r,hd,rfl,hx,hr⟩:=hT
  have hla : a.length = cntF tg f:=by
   by_cases hh : f.has ver = true
   ·rw [if_pos hh] at h1;exact hzF_cnt h1
   ·rw [if_neg hh] at h1;rw [h1,dfF_cnt]
  obtain ⟨e1,e2⟩:=JE hd (by rw [hla,Yk2 hx])
  subst e1;subst e2
  simp only [ToFs]
  refine ⟨x,r,rfl,?_,tos_of htg (i:=i + 1) (k:=k + 1) ht.2 hok (fun j hj => ?_) h2 hr hno.2⟩
  ·rw [toHas_no hfn]
   by_cases hh : f.has ver = true
   ·rw [if_pos hh] at h1 ⊢
    have h0:=ha 0 (by simp)
    simp only [Nat.add_zero,List.getElem_cons_zero] at h0
    rw [h0] at h1
    exact to_of htg ht.1 (hok.at i) h1 hx hno.1
   ·rw [if_neg hh] at h1 ⊢
    rw [h1] at hx
    exact us_of ht.1 hx
  ·have:=ha (j + 1) (by simpa using hj)
   simp only [List.getElem_cons_succ] at this
   rw [show k + 1 + j = k + (j + 1) by omega,show i + 1 + j = i + (j + 1) by omega]
   exact this
end
end

section
open Go Go.RowKit
theorem smalls_all : ∀ {l : List Tree},(∀ x ∈ l,x.small) → Tree.smalls l
 | [],_ => by simp [Tree.smalls]
 | x :: l,h => by simp only [Tree.smalls];exact ⟨h x (by simp),smalls_all (fun y hy => h y (by simp [hy]))⟩
theorem small_V {kind nul : Int} {d : D} {T : Tree} (h : XQ kind nul d T) : T.small:=by
 unfold XQ at h
 split at h
 ·obtain ⟨b,_,rfl⟩:=h;simp [XC,Tree.small,Tree.smalls]
 split at h
 ·obtain ⟨s,_,_,rfl⟩:=h;simp [UB,Tree.small,Tree.smalls]
 split at h
 ·split at h
  ·rcases h with ⟨_,rfl⟩ | ⟨s,_,rfl⟩ <;> simp [nullT,UB,Tree.small,Tree.smalls]
  ·obtain ⟨s,_,rfl⟩:=h;simp [UB,Tree.small,Tree.smalls]
 split at h
 ·obtain ⟨s,b,⟨rfl,_⟩,_⟩:=h;simp [Tree.small,Tree.smalls]
 split at h
 ·obtain ⟨n,_,rfl⟩:=h;simp [XC,Tree.small,Tree.smalls]
 ·obtain ⟨n,_,rfl⟩:=h;simp [XC,Tree.small,Tree.smalls]
theorem small_P0 {tg : Bool} {fs : List Fld} {ds : List D} {T : Tree} (hl : fs.length ≤ 1000) (hs : ∀ a l,YP tg fs a l → l.length = fs.length ∧ Tree.smalls l) (h : UV tg fs ds T) : T.small:=by
 obtain ⟨a,u,_,hTe,hu,hs'⟩:=h
 obtain ⟨k1,k2⟩:=hs a T.l hs'
 rw [hTe]
 simp only [Tree.small]
 refine ⟨⟨by omega,?_⟩,k2⟩
 cases tg with
 | true => exact (hu rfl).2.2
 | false => simp
mutual
theorem small_F {tg : Bool} : ∀ {f : Fld} {ds : List D} {T : Tree},f.okb = true → VG tg f ds T → T.small
 | .mk kind fr upto nul tag df of sub,ds,T,hk,h => by
  simp only [Fld.okb,Bool.and_eq_true] at hk
  have hl : sub.length ≤ 1000:=Nat.le_of_ble_eq_true hk.1.2
  rw [UE] at h
  by_cases h11 : kind = 11
  ·simp only [h11,if_true] at h
   obtain ⟨d,els,_,hT,_,hlen,hle,hel⟩:=h
   rw [hT]
   simp only [Tree.small]
   refine ⟨⟨by omega,by simp⟩,smalls_all (fun x hx => ?_)⟩
   obtain ⟨i,hi⟩:=List.mem_iff_getElem?.1 hx
   have hlt:=(List.getElem?_eq_some_iff.1 hi).1
   have he:=hel i (els[i]'(by omega)) x (List.getElem?_eq_getElem (by omega)) hi
   by_cases h10 : of = 10
   ·simp only [h10,if_true] at he
    obtain ⟨ps,_,he⟩:=he
    exact small_P0 hl (fun a l hs => Yh8 hk.2 hs) he
   ·simp only [h10,if_false] at he
    exact small_V he
  ·simp only [h11,if_false] at h
   by_cases h10 : kind = 10
   ·simp only [h10,if_true] at h
    exact small_P0 hl (fun a l hs => Yh8 hk.2 hs) h
   ·simp only [h10,if_false] at h
    obtain ⟨d,_,hv⟩:=h
    exact small_V hv
theorem Yh8 {tg : Bool} : ∀ {fs : List Fld} {ds : List D} {l : List Tree},Fld.oksb fs = true → YP tg fs ds l → l.length = fs.length ∧ Tree.smalls l
 | [],ds,l,_,h => by simp only [YP] at h;rw [h.2];simp [Tree.smalls]
 | f :: fs,ds,l,hk,h => by
  simp only [Fld.oksb,Bool.and_eq_true] at hk
  simp only [YP] at h
  obtain ⟨a,b,x,r,_,rfl,h1,h2⟩:=h
  obtain ⟨k1,k2⟩:=Yh8 hk.2 h2
  refine ⟨by simp [k1],?_⟩
  simp only [Tree.smalls]
  exact ⟨small_F hk.1 h1,k2⟩
end
theorem small_P {tg : Bool} {fs : List Fld} {ds : List D} {T : Tree} (hk : JB fs = true) (h : UV tg fs ds T) : T.small:=by
 unfold JB at hk
 rw [Bool.and_eq_true] at hk
 exact small_P0 (Nat.le_of_ble_eq_true hk.2) (fun a l hs => Yh8 hk.1 hs) h
end

section
open Go Go.RowKit
theorem usFs_get : ∀ {fs : List Fld} {l : List Tree},UsFs fs l → l.length = fs.length ∧ ∀ (i : Nat) (h : i < fs.length) (h' : i < l.length),UsF fs[i] l[i]
 | [],l,h => by simp only [UsFs] at h;subst h;exact ⟨rfl,fun i h => by simp at h⟩
 | f :: fs,l,h => by
  simp only [UsFs] at h
  obtain ⟨x,r,rfl,h1,h2⟩:=h
  obtain ⟨k1,k2⟩:=usFs_get h2
  refine ⟨by simp [k1],fun i hi hi' => ?_⟩
  cases i with
  | zero => exact h1
  | succ i => exact k2 i (by simpa using hi) (by simpa using hi')
theorem usF_eq (f : Fld) (x : Tree) : UsF f x ↔
  if f.kind = 8 then x.nul = decide (0 ≤ f.nul) ∧ x.s = []
  else if f.kind = 7 then x.s = List.replicate 16 0
  else if f.kind = 9 ∨ f.kind = 11 then x.s = [] ∧ x.l = []
  else if f.kind = 10 then x.u = [] ∧ UsFs f.sub x.l
  else x.n = Vm f.kind f.df:=by
 cases f
 simp only [UsF,Fld.kind,Fld.nul,Fld.df,Fld.sub]
 exact Iff.rfl
theorem tabTs_get {fs : List Fld} (h : tabTs fs = true) : ∀ f ∈ fs,tabT f = true:=by
 induction fs with
 | nil => intro f hf;cases hf
 | cons g fs ih =>
  simp only [tabTs,Bool.and_eq_true] at h
  intro f hf
  rcases List.mem_cons.1 hf with rfl | hf
  ·exact h.1
  ·exact ih h.2 f hf
theorem tabT_sub {f : Fld} (h : tabT f = true) : tabTs f.sub = true:=by
 cases f
 simp only [tabT,Bool.and_eq_true] at h
 exact h.2
theorem tabT_nul {f : Fld} (h : tabT f = true) (h10 : f.kind = 10) : f.nul < 0:=by
 cases f
 simp only [tabT,Bool.and_eq_true,Bool.or_eq_true,decide_eq_true_eq] at h
 simp only [Fld.kind] at h10
 simp only [Fld.nul]
 omega
section
set_option maxRecDepth 100000
theorem un_bool : Tryz.prog.underlying 4 = some .bool:=by kernel_rfl
theorem ti_i8 : Ue Tryz.prog 58 .i8 = true:=by kernel_rfl
theorem zn_u8 : (Tryz.prog.info? 5).bind (·.zero) = some (.int .u8 0):=by kernel_rfl
theorem fn_number (kind n : Int) (w : World) : Fn 61 [.int .i64 kind,.int .i64 n] w fun v w' => w' = w ∧ v = .int .i64 (Vm kind n):=by
 refine enter Tryz.func61 rfl Tryz.ntmps61 rfl ?_
 repeat first|(with_reducible first|apply Yd|apply Ya|apply Yc|apply Yb|apply Yr)|((with_reducible apply ws);exact rfl;exact rfl)
 by_cases h0 : kind = 0
 ·subst h0
  refine Yp rfl (by decide) ?_
  repeat first|(with_reducible first|apply Yd|apply Ya)|((with_reducible apply ws);exact rfl;exact rfl)
  refine Ud rfl rfl rfl (and1 n) ?_
  repeat first|(with_reducible first|apply Yc|apply Yb|apply Ym|apply Yj|apply YL)|((with_reducible apply ws);exact rfl;exact rfl)
  exact Yk rfl rfl ⟨_,rfl,Below.refl _ _,rfl,rfl⟩
 ·refine Yu rfl (by simpa using h0) ?_
  repeat first|(with_reducible first|apply Yd|apply Ya|apply Yc|apply Yb)|((with_reducible apply ws);exact rfl;exact rfl)
  by_cases h1 : kind = 1
  ·subst h1
   refine Yp rfl (by decide) ?_
   repeat first|(with_reducible first|apply Yd|apply Ya)|((with_reducible apply ws);exact rfl;exact rfl)
   refine YY .i8 rfl ti_l64 ti_i8 rfl rfl ?_
   refine YY .i64 rfl ti_i8 ti_l64 rfl (Ju (.inl rfl) n) ?_
   repeat first|(with_reducible first|apply Yc|apply Yb|apply Ym|apply Yj|apply YL)|((with_reducible apply ws);exact rfl;exact rfl)
   exact Yk rfl rfl ⟨_,rfl,Below.refl _ _,rfl,rfl⟩
  ·refine Yu rfl (by simpa using h1) ?_
   repeat first|(with_reducible first|apply Yd|apply Ya|apply Yc|apply Yb)|((with_reducible apply ws);exact rfl;exact rfl)
   by_cases h2 : kind = 2
   ·subst h2
    refine Yp rfl (by decide) ?_
    repeat first|(with_reducible first|apply Yd|apply Ya)|((with_reducible apply ws);exact rfl;exact rfl)
    refine YY .i16 rfl ti_l64 ti_i16 rfl rfl ?_
    refine YY .i64 rfl ti_i16 ti_l64 rfl (Ju (.inr (.inl rfl)) n) ?_
    repeat first|(with_reducible first|apply Yc|apply Yb|apply Ym|apply Yj|apply YL)|((with_reducible apply ws);exact rfl;exact rfl)
    exact Yk rfl rfl ⟨_,rfl,Below.refl _ _,rfl,rfl⟩
   ·refine Yu rfl (by simpa using h2) ?_
    repeat first|(with_reducible first|apply Yd|apply Ya|apply Yc|apply Yb)|((with_reducible apply ws);exact rfl;exact rfl)
    by_cases h3 : kind = 3
    ·subst h3
     refine Yp rfl (by decide) ?_
     repeat first|(with_reducible first|apply Yd|apply Ya)|((with_reducible apply ws);exact rfl;exact rfl)
     refine YY .i32 rfl ti_l64 ti_i32 rfl rfl ?_
     refine YY .i64 rfl ti_i32 ti_l64 rfl (Ju (.inr (.inr (.inl rfl))) n) ?_
     repeat first|(with_reducible first|apply Yc|apply Yb|apply Ym|apply Yj|apply YL)|((with_reducible apply ws);exact rfl;exact rfl)
     exact Yk rfl rfl ⟨_,rfl,Below.refl _ _,rfl,rfl⟩
    ·refine Yu rfl (by simpa using h3) ?_
     repeat first|(with_reducible first|apply Yd|apply Ya|apply Yc|apply Yb)|((with_reducible apply ws);exact rfl;exact rfl)
     by_cases h5 : kind = 5
     ·subst h5
      refine Yp rfl (by decide) ?_
      repeat first|(with_reducible first|apply Yd|apply Ya)|((with_reducible apply ws);exact rfl;exact rfl)
      refine YY .u16 rfl ti_l64 ti_u16 rfl rfl ?_
      refine YY .i64 rfl ti_u16 ti_l64 rfl (Ju (.inr (.inr (.inr rfl))) n) ?_
      repeat first|(with_reducible first|apply Yc|apply Yb|apply Ym|apply Yj|apply YL)|((with_reducible apply ws);exact rfl;exact rfl)
      exact Yk rfl rfl ⟨_,rfl,Below.refl _ _,rfl,rfl⟩
     ·refine Yu rfl (by simpa using h5) ?_
      repeat first|(with_reducible first|apply Yd|apply Ya|apply Yc|apply Yb|apply Yh|apply Ym|apply XS)|((with_reducible apply ws);exact rfl;exact rfl)
      exact Yk rfl rfl ⟨_,rfl,Below.refl _ _,rfl,by simp [Vm,h0,h1,h2,h3,h5]⟩
def UsOK (fs : List Fld) : Prop:=∀ (g : Tree) (B : Nat) (w : World) (fv : Value) (ts : List Value),B ≤ w.heap.size → Sq B w fv (fs.map fldD) → Rep (Lo B) w (treeD g) ts → g.u = [] → UsFs fs g.l →
 Fn 38 [fv,.agg ts.toArray] w fun v _ => v = .bool true
set_option maxHeartbeats 4000000 in
theorem us_walk (fs : List Fld) (hlen : fs.length ≤ 1000) (htab : tabTs fs = true) (ih : ∀ f ∈ fs,UsOK f.sub) : UsOK fs:=by
 intro g B w fv ts hB hf ht hgu hus
 obtain ⟨fa,fc,rfl,_⟩:=hf.shape
 obtain ⟨sv2,lv,uv,rfl,hs,hl,huu⟩:=Xi ht
 obtain ⟨la,lc,rfl,_⟩:=hl.shape
 obtain ⟨ua,uc,rfl,_⟩:=huu.shape
 obtain ⟨hgl,hget⟩:=usFs_get hus
 have hu0 : g.u.length = 0:=by rw [hgu];rfl
 simp only [List.length_map] at *
 refine enter Tryz.func38 rfl Tryz.ntmps38 rfl ?_
 repeat (with_reducible first|apply Yd|apply Ya)
 refine XF rfl rfl rfl (fun w1 hb1 hg1 hs1 => ?_)
 have hw1 : Below w.heap.size w w1:=Yg hg1 (Nat.le_refl _) (by simp)
 repeat first|(with_reducible first|apply Yd|apply Ya|apply Yc|apply Yb)|((with_reducible apply ws);exact rfl;exact rfl)
 refine Yf rfl to_tags rfl hb1 rfl ?_
 repeat first|(with_reducible first|apply Yc|apply Yb)|((with_reducible apply ws);exact rfl;exact rfl)
 refine Yu rfl (by simp;omega) ?_
 repeat first|(with_reducible first|apply Yd|apply Ya|apply Yc|apply Yb|apply Yr|apply Yh)|((with_reducible apply ws);exact rfl;exact rfl)
 refine Xu (α:=Nat) (fun i => [(14,.int .i64 (i : Int)),(13,.int .i64 (fs.length : Int)),(12,.slice fa fs.length fc),(3,.pointer (some ⟨w.heap.size,0,none⟩))]) (fun i w' => i ≤ fs.length ∧ Below w1.heap.size w1 w') (fun i => fs.length - i) 0 ⟨rfl,rfl,rfl,rfl,trivial⟩ ⟨Nat.zero_le _,Below.refl _ _⟩ ?_
 rintro i w2 ⟨hi,hw2⟩
 have hw02 : Below w.heap.size w w2:=hw1.trans (hw2.mono (by omega))
 have hs12:=hw2.size
 repeat first|(with_reducible first|apply Yd|apply Ya|apply Yc|apply Yb)|((with_reducible apply ws);exact rfl;exact rfl)
 by_cases hlt : i < fs.length
 ·refine Yp rfl (by simpa using hlt) ?_
  obtain ⟨b,off,c',cs,hv,_,hcs,hcl,hr⟩:=(hf.below (hw02.mono hB) (Nat.le_refl _)).get (sz:=8) (i:=i) (by intro d hd;obtain ⟨x,_,rfl⟩:=List.mem_map.1 hd;exact Uo x) (by simpa using hlt)
  simp only [Value.slice.injEq,List.length_map] at hv
  obtain ⟨rfl,_,rfl⟩:=hv
  simp only [List.getElem_map] at hr
  obtain ⟨hone,_⟩:=Yb0 hr
  have hfT:=tabTs_get htab fs[i] (List.getElem_mem hlt)
  have hih:=ih fs[i] (List.getElem_mem hlt)
  have hus1:=hget i hlt (by omega)
  have hatt : att g i = g.l[i]'(by omega):=by simp [att,List.getD_eq_getElem?_getD,List.getElem?_eq_getElem (show i < g.l.length by omega)]
  generalize hff : fs[i] = f at *
  obtain ⟨sv,rfl,hsub⟩:=Vs hr
  repeat first|(with_reducible first|apply Yd|apply Ya|apply Yb|apply Yr|apply Yh)|((with_reducible apply ws);exact rfl;exact rfl)
  refine Ys rfl rfl es_flds rfl hlt ?_
  refine Xv (cs:=[.int .i64 f.kind,.int .i64 f.fr,.int .i64 f.upto,.int .i64 f.nul,.int .i64 f.tag,.int .i64 f.df,.int .i64 f.of,sv]) rfl ta_fld rfl (fun j v e => hcs.cell e) ?_
  refine YJ Yj0 rfl rfl (fun w4 hbx4 hg4 hs4 => ?_)
  repeat ((with_reducible apply ws);exact rfl;exact rfl)
  refine Yn (vs:=[.int .i64 f.kind,.int .i64 f.fr,.int .i64 f.upto,.int .i64 f.nul,.int .i64 f.tag,.int .i64 f.df,.int .i64 f.of,sv]) rfl rfl rfl tz_fld hone hbx4 rfl (fun w5 hbx5 hg5 hs5 => ?_)
  have hw25 : Below w2.heap.size w2 w5:=(Yg hg4 (Nat.le_refl _) (by simp)).trans (Yg hg5 (by omega) (by intro k hk;simp at hk;omega))
  have hw05 : Below w.heap.size w w5:=hw02.trans (hw25.mono (by omega))
  have hw15 : Below w1.heap.size w1 w5:=hw2.trans (hw25.mono (by omega))
  repeat (with_reducible first|apply Yd|apply Ya|apply Yc|apply Yb)
  refine YC (cs:=[.int .i64 g.n,sv2,.bool g.nul,.slice la g.l.length lc,.slice ua g.u.length uc]) rfl ta_tree rfl (hb1.below hw15 (by omega)) ?_
  repeat ((with_reducible apply ws);exact rfl;exact rfl)
  refine Yo rfl (by kernel_rfl) rfl ((fn_at g i B w5 (by omega) _ (Rep.below ht (hw05.mono hB) (Nat.le_refl _))).mono ?_)
  rintro e w6 ⟨v,rfl,hw56,xs,rfl,hxr⟩
  refine ⟨_,rfl,?_⟩
  rw [hatt] at hxr
  generalize hxx : g.l[i]'(by omega) = x at *
  obtain ⟨honex,hxl5⟩:=Yd8 hxr
  obtain ⟨xsv,xlv,xuv,rfl,hxs,hxll,hxu⟩:=Xi hxr
  obtain ⟨xla,xlc,rfl,_⟩:=hxll.shape
  obtain ⟨xsa,xsc,rfl,_⟩:=hxs.shape
  simp only [List.length_map] at *
  refine YJ zv_tree rfl rfl (fun w7 hbx7 hg7 hs7 => ?_)
  skip
  refine Yn (vs:=[.int .i64 x.n,.slice xsa x.s.length xsc,.bool x.nul,.slice xla x.l.length xlc,xuv]) rfl rfl rfl tz_tree honex hbx7 rfl (fun w8 hbx8 hg8 hs8 => ?_)
  have hs56:=hw56.size
  have hw68 : Below w6.heap.size w6 w8:=(Yg hg7 (Nat.le_refl _) (by simp)).trans (Yg hg8 (by omega) (by intro k hk;simp at hk;omega))
  have hw58 : Below w5.heap.size w5 w8:=hw56.trans (hw68.mono (by omega))
  have hw18 : Below w1.heap.size w1 w8:=hw15.trans (hw58.mono (by omega))
  have hw08 : Below w.heap.size w w8:=hw05.trans (hw58.mono (by omega))
  have hbf:=hbx5.below hw58 (by omega)
  repeat first|(with_reducible first|apply Yd|apply Ya|apply Yc|apply Yb)|((with_reducible apply ws);exact rfl;exact rfl)
  refine Yf rfl to_int rfl hbf rfl ?_
  repeat first|(with_reducible first|apply Yd|apply Ya|apply Yc|apply Yb|apply Yr)|((with_reducible apply ws);exact rfl;exact rfl)
  rw [usF_eq] at hus1
  by_cases h8 : f.kind = 8
  ·rw [if_pos h8] at hus1
   refine Yp rfl (by simpa using h8) ?_
   repeat first|(with_reducible first|apply Yd|apply Ya)|((with_reducible apply ws);exact rfl;exact rfl)
   refine Yf rfl to_bool rfl hbx8 rfl ?_
   repeat ((with_reducible apply ws);exact rfl;exact rfl)
   refine Yf rfl to_int rfl hbf rfl ?_
   repeat ((with_reducible apply ws);exact rfl;exact rfl)
   refine wl_neqB rfl rfl un_bool rfl ?_
   rw [hus1.1,show (decide (0 ≤ f.nul) != decide (0 ≤ f.nul)) = false from by simp]
   repeat first|((with_reducible apply ws);exact rfl;exact rfl)|((with_reducible apply YU);exact rfl;exact rfl;exact rfl)
   refine Yf rfl to_bytes rfl hbx8 rfl ?_
   repeat first|(with_reducible first|apply Yc|apply Yb)|((with_reducible apply ws);exact rfl;exact rfl)|((with_reducible apply YU);exact rfl;exact rfl;exact rfl)
   refine Yu rfl (by rw [hus1.2];rfl) ?_
   repeat (with_reducible first|apply Ya|apply Yb|apply Yh|apply XS)
   refine Xn rfl rfl rfl (r:=((i + 1 : Nat) : Int)) (by rw [IntKind.wrap_i64];omega) ?_
   repeat first|(with_reducible apply Yc)|((with_reducible apply ws);exact rfl;exact rfl)
   exact YD (i + 1) ⟨rfl,rfl,rfl,rfl,trivial⟩ ⟨by omega,hw18⟩ (by omega)
  ·refine Yu rfl (by simpa using h8) ?_
   rw [if_neg h8] at hus1
   repeat first|(with_reducible first|apply Yd|apply Ya|apply Yc|apply Yb)|((with_reducible apply ws);exact rfl;exact rfl)
   by_cases h7 : f.kind = 7
   ·rw [if_pos h7] at hus1
    refine Yp rfl (by simpa using h7) ?_
    repeat (with_reducible apply Yd)
    refine XJ [(0,.pointer (some ⟨w6.heap.size,0 + 1,none⟩)),(1,.slice xsa x.s.length xsc)] [4,3,2]
     (fun vals w' => Below w8.heap.size w8 w' ∧ match vals with
      | [] => True
      | [v] => Own w' w8.heap.size 5 v (List.replicate 16 0)
      | [v,_] => v = .bool true
      | v :: _ => v = .bool false)
     mixed rfl rfl rfl rfl rfl (by show ([0,1] : List Nat).Nodup;decide) rfl rfl (by decide) rfl rfl rfl rfl ⟨(Below.refl _ w8).drew,trivial⟩ ?_ ⟨?_,?_,?_,trivial⟩ ?_
    ·intro p hp vals w' hC a k
     simp only [List.mem_cons,List.not_mem_nil,or_false] at hp
     rcases hp with rfl | rfl
     ·exact gv rfl rfl (Yi k rfl fo_tree1)
     ·exact gv rfl rfl (Yy k rfl to_bytes ((hbx8.below hC.1 (by omega)).cell0 (i:=1) rfl))
    ·rintro vals w' hvl ⟨hb',hC⟩ a k
     match vals,hvl with
     | [v3,v2],_ =>
      simp only [] at hC
      subst hC
      exact ⟨_,rfl,Jk k rfl ⟨hb',rfl⟩⟩
    ·rintro vals w' hvl ⟨hb',hC⟩ a k
     match vals,hvl with
     | [v2],_ =>
      have hxs':=(hxs.below ((hw68.mono (show B ≤ w6.heap.size by omega)).trans (hb'.mono (by omega))) (Nat.le_refl _)).bytes
      refine ⟨_,rfl,Yz k rfl (by kernel_rfl) ((Ym0 _ _ _ _ w' hxs' hC.bytes (by rw [hus1];decide) (by decide)).mono ?_)⟩
      rintro e w'' ⟨v,rfl,hb'',rfl⟩
      exact ⟨_,rfl,hb'.trans (hb''.mono hb'.size),by rw [hus1];simp⟩
    ·rintro vals w' hvl ⟨hb',hC⟩ a k
     match vals,hvl with
     | [],_ =>
      refine ⟨_,rfl,does_makeB (B:=w8.heap.size) (n:=16) k tb_bytes zn_u8 rfl hb'.size (fun w'' ho hg => ⟨hb'.trans (Yg hg hb'.size (by simp)),ho⟩)⟩
    ·rintro vals w' hvl ⟨hb',hC⟩
     match vals,hvl with
     | [v4,v3,v2],_ =>
      simp only [] at hC
      subst hC
      refine Yb ?_
      refine Yu rfl rfl ?_
      repeat (with_reducible first|apply Ya|apply Yb|apply Yh|apply XS)
      refine Xn rfl rfl rfl (r:=((i + 1 : Nat) : Int)) (by rw [IntKind.wrap_i64];omega) ?_
      repeat first|(with_reducible apply Yc)|((with_reducible apply ws);exact rfl;exact rfl)
      exact YD (i + 1) ⟨rfl,rfl,rfl,rfl,trivial⟩ ⟨by omega,hw18.trans (hb'.mono (by omega))⟩ (by omega)
   ·refine Yu rfl (by simpa using h7) ?_
    rw [if_neg h7] at hus1
    repeat first|(with_reducible first|apply Yd|apply Ya|apply Yc|apply Yb)|((with_reducible apply ws);exact rfl;exact rfl)
    by_cases h911 : f.kind = 9 ∨ f.kind = 11
    ·rw [if_pos h911] at hus1
     refine Yb8 (α:=Unit) (fun _ => [(53,.bool true),(7,.pointer (some ⟨w6.heap.size,0,none⟩)),(14,.int .i64 (i : Int)),(13,.int .i64 (fs.length : Int)),(12,.slice (some ⟨b,off,none⟩) fs.length fc),(3,.pointer (some ⟨w.heap.size,0,none⟩))]) (fun _ w' => w' = w8) ?_ ?_
     ·by_cases h9 : f.kind = 9
      ·refine Yp rfl (by simpa using h9) ?_
       repeat (with_reducible apply Yh)
       refine XB () ⟨by rw [h9];rfl,rfl,rfl,rfl,rfl,rfl,trivial⟩ rfl
      ·have h11 : f.kind = 11:=by rcases h911 with h | h;exact absurd h h9;exact h
       refine Yu rfl (by simpa using h9) ?_
       repeat first|(with_reducible first|apply Ya|apply Yc)|((with_reducible apply ws);exact rfl;exact rfl)
       refine XB () ⟨by rw [h11];rfl,rfl,rfl,rfl,rfl,rfl,trivial⟩ rfl
     rintro _ w9 h9
     obtain rfl:=h9.symm
     refine Yp rfl rfl ?_
     repeat first|(with_reducible first|apply Yd|apply Ya)|((with_reducible apply ws);exact rfl;exact rfl)
     refine Yf rfl to_bytes rfl hbx8 rfl ?_
     repeat ((with_reducible apply ws);exact rfl;exact rfl)
     rw [show decide ((0 : Int) < (x.s.length : Int)) = false from by rw [hus1.1];rfl]
     repeat first|((with_reducible apply ws);exact rfl;exact rfl)|((with_reducible apply YU);exact rfl;exact rfl;exact rfl)
     refine Yf rfl to_trees rfl hbx8 rfl ?_
     repeat first|(with_reducible first|apply Yc|apply Yb)|((with_reducible apply ws);exact rfl;exact rfl)|((with_reducible apply YU);exact rfl;exact rfl;exact rfl)
     refine Yu rfl (by rw [hus1.2];rfl) ?_
     repeat (with_reducible first|apply Ya|apply Yb|apply Yh|apply XS)
     refine Xn rfl rfl rfl (r:=((i + 1 : Nat) : Int)) (by rw [IntKind.wrap_i64];omega) ?_
     repeat first|(with_reducible apply Yc)|((with_reducible apply ws);exact rfl;exact rfl)
     exact YD (i + 1) ⟨rfl,rfl,rfl,rfl,trivial⟩ ⟨by omega,hw18⟩ (by omega)
    ·rw [if_neg h911] at hus1
     have h9 : f.kind ≠ 9:=fun h => h911 (.inl h)
     have h11 : f.kind ≠ 11:=fun h => h911 (.inr h)
     refine Yb8 (α:=Unit) (fun _ => [(53,.bool false),(23,.int .i64 f.kind),(6,.pointer (some ⟨w2.heap.size,0,none⟩)),(7,.pointer (some ⟨w6.heap.size,0,none⟩)),(14,.int .i64 (i : Int)),(13,.int .i64 (fs.length : Int)),(12,.slice (some ⟨b,off,none⟩) fs.length fc),(3,.pointer (some ⟨w.heap.size,0,none⟩))]) (fun _ w' => w' = w8) ?_ ?_
     ·refine Yu rfl (by simpa using h9) ?_
      repeat first|(with_reducible first|apply Ya|apply Yc)|((with_reducible apply ws);exact rfl;exact rfl)
      refine XB () ⟨?_,rfl,rfl,rfl,rfl,rfl,rfl,rfl,trivial⟩ rfl
      show some (Value.bool (f.kind == 11)) = some (Value.bool false)
      rw [show (f.kind == 11) = false from by simpa using h11]
     rintro _ w9 h9'
     obtain rfl:=h9'.symm
     refine Yu rfl rfl ?_
     repeat first|(with_reducible first|apply Yd|apply Ya|apply Yc|apply Yb)|((with_reducible apply ws);exact rfl;exact rfl)
     by_cases h10 : f.kind = 10
     ·rw [if_pos h10] at hus1
      have hneg:=tabT_nul hfT h10
      refine Yp rfl (by simpa using h10) ?_
      repeat first|(with_reducible first|apply Yd|apply Ya)|((with_reducible apply ws);exact rfl;exact rfl)
      refine Yf rfl to_int rfl hbf rfl ?_
      repeat ((with_reducible apply ws);exact rfl;exact rfl)
      rw [show decide (0 ≤ f.nul) = false from by simp;omega]
      repeat first|((with_reducible apply ws);exact rfl;exact rfl)|((with_reducible apply YU);exact rfl;exact rfl;exact rfl)|((with_reducible apply US);exact rfl;exact rfl;exact rfl;exact rfl)
      refine Yf rfl to_int rfl hbf rfl ?_
      repeat first|((with_reducible apply ws);exact rfl;exact rfl)|((with_reducible apply YU);exact rfl;exact rfl;exact rfl)
      rw [show decide (f.nul < 0) = true from by simp;omega]
      repeat first|((with_reducible apply ws);exact rfl;exact rfl)|((with_reducible apply YU);exact rfl;exact rfl;exact rfl)
      refine Yf rfl to_flds rfl hbf rfl ?_
      repeat ((with_reducible apply YU);exact rfl;exact rfl;exact rfl)
      refine YC (cs:=[.int .i64 x.n,.slice xsa x.s.length xsc,.bool x.nul,.slice xla x.l.length xlc,xuv]) rfl ta_tree rfl hbx8 ?_
      repeat ((with_reducible apply YU);exact rfl;exact rfl;exact rfl)
      refine Yo rfl (by kernel_rfl) rfl ((hih x B w8 sv _ (by omega) (hsub.below ((hw25.mono (show B ≤ w2.heap.size by omega)).trans (hw58.mono (by omega))) (Nat.le_refl _)) (Rep.below hxr (hw68.mono (by omega)) (Nat.le_refl _)) hus1.1 hus1.2).mono ?_)
      rintro e w9 ⟨v,rfl,hw89,rfl⟩
      refine ⟨_,rfl,?_⟩
      have hs89:=hw89.size
      repeat first|(with_reducible first|apply Yc|apply Yb)|((with_reducible apply ws);exact rfl;exact rfl)|((with_reducible apply YU);exact rfl;exact rfl;exact rfl)
      refine Yu rfl rfl ?_
      repeat (with_reducible first|apply Ya|apply Yb|apply Yh|apply XS)
      refine Xn rfl rfl rfl (r:=((i + 1 : Nat) : Int)) (by rw [IntKind.wrap_i64];omega) ?_
      repeat first|(with_reducible apply Yc)|((with_reducible apply ws);exact rfl;exact rfl)
      exact YD (i + 1) ⟨rfl,rfl,rfl,rfl,trivial⟩ ⟨by omega,hw18.trans (hw89.mono (by omega))⟩ (by omega)
     ·rw [if_neg h10] at hus1
      refine Yu rfl (by simpa using h10) ?_
      repeat (with_reducible apply Yd)
      refine XJ [(0,.pointer (some ⟨w6.heap.size,0 + 0,none⟩)),(1,.int .i64 x.n),(2,.pointer (some ⟨w2.heap.size,0 + 0,none⟩)),(3,.int .i64 f.kind),(4,.pointer (some ⟨w2.heap.size,0 + 5,none⟩)),(5,.int .i64 f.df)] [7,6]
       (fun vals w' => Below w8.heap.size w8 w' ∧ match vals with
        | [] => True
        | [v] => v = .int .i64 (Vm f.kind f.df)
        | v :: _ => v = .bool false)
       mixed rfl rfl rfl rfl rfl (by show ([0,1,2,3,4,5] : List Nat).Nodup;decide) rfl rfl (by decide) rfl rfl rfl rfl ⟨(Below.refl _ w8).drew,trivial⟩ ?_ ⟨?_,?_,trivial⟩ ?_
      ·intro p hp vals w' hC a k
       simp only [List.mem_cons,List.not_mem_nil,or_false] at hp
       rcases hp with rfl | rfl | rfl | rfl | rfl | rfl
       ·exact gv rfl rfl (Yi k rfl fo_tree0)
       ·exact gv rfl rfl (Yy k rfl to_i64 ((hbx8.below hC.1 (by omega)).cell0 (i:=0) rfl))
       ·exact gv rfl rfl (Yi k rfl fo_fld0)
       ·exact gv rfl rfl (Yy k rfl to_int ((hbf.below hC.1 (by omega)).cell0 (i:=0) rfl))
       ·exact gv rfl rfl (Yi k rfl fo_fld5)
       ·exact gv rfl rfl (Yy k rfl to_i64 ((hbf.below hC.1 (by omega)).cell0 (i:=5) rfl))
      ·rintro vals w' hvl ⟨hb',hC⟩ a k
       match vals,hvl with
       | [v6],_ =>
        simp only [] at hC
        subst hC
        refine ⟨_,rfl,Vo (rn_neq k rfl rfl) ⟨hb',?_⟩⟩
        rw [hus1];simp
      ·rintro vals w' hvl ⟨hb',hC⟩ a k
       match vals,hvl with
       | [],_ =>
        refine ⟨_,rfl,Yz k rfl (by kernel_rfl) ((fn_number f.kind f.df w').mono ?_)⟩
        rintro e w'' ⟨v,rfl,hb'',rfl,rfl⟩
        exact ⟨_,rfl,hb',rfl⟩
      ·rintro vals w' hvl ⟨hb',hC⟩
       match vals,hvl with
       | [v7,v6],_ =>
        simp only [] at hC
        subst hC
        refine Yb ?_
        refine Yu rfl rfl ?_
        repeat (with_reducible first|apply Ya|apply Yb|apply Yh|apply XS)
        refine Xn rfl rfl rfl (r:=((i + 1 : Nat) : Int)) (by rw [IntKind.wrap_i64];omega) ?_
        repeat first|(with_reducible apply Yc)|((with_reducible apply ws);exact rfl;exact rfl)
        exact YD (i + 1) ⟨rfl,rfl,rfl,rfl,trivial⟩ ⟨by omega,hw18.trans (hb'.mono (by omega))⟩ (by omega)
 ·refine Yu rfl (by simpa using hlt) ?_
  repeat first|(with_reducible first|apply Yd|apply Ya|apply Yc|apply Yb|apply Ym|apply Xk|apply Yw|apply YB|apply Yq)|((with_reducible apply ws);exact rfl;exact rfl)
  exact Yk rfl rfl ⟨_,rfl,hw02,rfl⟩
mutual
theorem usOK_all : ∀ f : Fld,f.okb = true → tabT f = true → UsOK f.sub
 | .mk kind fr upto nul tag df of sub,h,ht => by
  simp only [Fld.okb,Bool.and_eq_true] at h
  have hl : sub.length ≤ 1000:=Nat.le_of_ble_eq_true h.1.2
  have hts : tabTs sub = true:=tabT_sub ht
  exact us_walk sub hl hts (usOKs_all sub h.2 hts)
theorem usOKs_all : ∀ fs : List Fld,Fld.oksb fs = true → tabTs fs = true → ∀ f ∈ fs,UsOK f.sub
 | [],_,_,f,hf => by cases hf
 | g :: fs,h,ht,f,hf => by
  simp only [Fld.oksb,Bool.and_eq_true] at h
  simp only [tabTs,Bool.and_eq_true] at ht
  rcases List.mem_cons.1 hf with e | hf
  ·rw [e];exact usOK_all g h.1 ht.1
  ·exact usOKs_all fs h.2 ht.2 f hf
end
theorem us_ok (fs : List Fld) (h : Fld.oksb fs = true) (hl : fs.length ≤ 1000) (ht : tabTs fs = true) : UsOK fs:=us_walk fs hl ht (usOKs_all fs h ht)
end
end

section
def tagsW (u : List (Nat × List UInt8)) : Nat:=(u.map fun kv => kv.2.length + 1).sum
mutual
def Tree.wt : Tree → Nat
 | .mk _ s _ l u => 1 + s.length + tagsW u + Tree.wts l
def Tree.wts : List Tree → Nat
 | [] => 0
 | t :: l => t.wt + Tree.wts l
end
mutual
def Fld.cost : Fld → Nat
 | .mk _ _ _ _ _ _ _ sub => 60 + ((1 + YN sub) * Fld.costs sub + 60)
def Fld.costs : List Fld → Nat
 | [] => 0
 | f :: l => f.cost + 30 + Fld.costs l
end
theorem JY (n : Nat) (h : n < 34359738368) : (uvar n).length ≤ 6:=by
 rw [uvar];split
 ·simp
 ·rw [uvar];split
  ·simp
  ·rw [uvar];split
   ·simp
   ·rw [uvar];split
    ·simp
    ·rw [uvar];split
     ·simp
     ·omega
theorem be_len : ∀ (k : Nat) (n : Int),(be k n).length = k
 | 0,_ => rfl
 | k + 1,n => by simp only [be,List.length_cons,be_len k n]
theorem Yf7 (flex null : Bool) (n size : Nat) (hn : n ≤ 1000000) (hs : size ≤ 8) : (YR flex null n size).length ≤ 8:=by
 unfold YR
 split
 ·split
  ·simp
  ·exact Nat.le_trans (JY _ (by omega)) (by omega)
 ·split <;> rw [be_len] <;> exact hs
theorem whole_le (s : List UInt8) : (Xe s).length ≤ s.length ∧ (Xe s).length ≤ 32767:=by
 unfold Xe Vf;rw [List.length_take];omega
theorem width8 (k : Int) : width k ≤ 8:=by
 unfold width
 split
 ·omega
 ·split
  ·omega
  ·split <;> omega
def JO (l : List (Nat × List UInt8)) : Nat:=(l.map fun kv => (UF kv.1 kv.2).length).sum
theorem Yh3 (a b : List (Nat × List UInt8)) : JO (a ++ b) = JO a + JO b:=by simp [JO]
theorem Yp7 (l : List (Nat × List UInt8)) : (l.flatMap fun kv => UF kv.1 kv.2).length = JO l:=by
 induction l with
 | nil => rfl
 | cons a l ih => simp [JO]
theorem putTag_key (k : Nat) (v : List UInt8) (l : List (Nat × List UInt8)) : ∀ x ∈ Xg k v l,x = (k,v) ∨ x ∈ l:=by
 induction l with
 | nil => intro x hx;simp [Xg] at hx;exact .inl hx
 | cons a l ih =>
  intro x hx
  simp only [Xg] at hx
  split at hx
  ·rcases List.mem_cons.1 hx with rfl | h
   ·exact .inr (by simp)
   ·rcases ih x h with h | h
    ·exact .inl h
    ·exact .inr (by simp [h])
  ·split at hx
   ·exact .inr hx
   ·rcases List.mem_cons.1 hx with rfl | h
    ·exact .inl rfl
    ·exact .inr h
theorem Yg2 (fs : List Fld) (u : List (Nat × List UInt8)) : ∀ x ∈ Xm fs u,x ∈ u:=by
 have gen : ∀ (l out : List (Nat × List UInt8)),∀ x ∈ l.foldl (fun out kv => if kv.1 < YN fs then out else Xg kv.1 kv.2 out) out,x ∈ out ∨ x ∈ l:=by
  intro l
  induction l with
  | nil => intro out x hx;exact .inl hx
  | cons a l ih =>
   intro out x hx
   rcases ih _ x hx with h | h
   ·simp only [] at h
    split at h
    ·exact .inl h
    ·rcases putTag_key _ _ _ x h with rfl | h
     ·exact .inr (by simp)
     ·exact .inl h
   ·exact .inr (by simp [h])
 intro x hx
 rcases gen (u.take Vf) [] x hx with h | h
 ·cases h
 ·exact List.mem_of_mem_take h
end

section
theorem uvar_le1 (n : Nat) : (uvar n).length ≤ n + 1:=by
 induction n using Nat.strongRecOn with
 | _ n ih =>
  rw [uvar];split
  ·simp
  ·have:=ih (n / 128) (by omega)
   simp only [List.length_cons];omega
theorem uvar_few (a b : Nat) (h : b ≤ 32767) : (uvar (a + b)).length ≤ a + 258:=by
 rw [uvar];split
 ·simp
 ·have:=uvar_le1 ((a + b) / 128)
  simp only [List.length_cons];omega
def Yc3 (l : List (Nat × List UInt8)) : Nat:=(l.map fun kv => 1 + (UF kv.1 kv.2).length).sum
theorem tagsC_eq (l : List (Nat × List UInt8)) : Yc3 l = l.length + JO l:=by
 induction l with
 | nil => rfl
 | cons a l ih => simp only [Yc3,JO,List.map_cons,List.sum_cons,List.length_cons] at *;omega
theorem Yg8 (a b : List (Nat × List UInt8)) : Yc3 (a ++ b) = Yc3 a + Yc3 b:=by simp [Yc3]
theorem Yo2 (g : Nat → List (Nat × List UInt8)) (M : Nat) : ∀ n,(∀ k,Yc3 (g k) ≤ M) → Yc3 ((List.range n).flatMap g) ≤ n * M
 | 0,_ => by simp [Yc3]
 | n + 1,h => by
  rw [List.range_succ,List.flatMap_append,Yg8,Nat.succ_mul]
  have:=Yo2 g M n h
  have:=h n
  simp only [List.flatMap_cons,List.flatMap_nil,List.append_nil];omega
theorem Ym5 (fs : List Fld) (u : List (Nat × List UInt8)) : (Xm fs u).length ≤ 32767:=by
 have put : ∀ (k : Nat) (v : List UInt8) (l : List (Nat × List UInt8)),(Xg k v l).length ≤ l.length + 1:=by
  intro k v l
  induction l with
  | nil => simp [Xg]
  | cons a l ih =>
   simp only [Xg]
   split
   ·simp;omega
   ·split
    ·simp
    ·simp
 have gen : ∀ (l out : List (Nat × List UInt8)),(l.foldl (fun out kv => if kv.1 < YN fs then out else Xg kv.1 kv.2 out) out).length ≤ out.length + l.length:=by
  intro l
  induction l with
  | nil => intro out;simp
  | cons a l ih =>
   intro out
   have h1:=ih (if a.1 < YN fs then out else Xg a.1 a.2 out)
   have h2 : (if a.1 < YN fs then out else Xg a.1 a.2 out).length ≤ out.length + 1:=by
    split
    ·omega
    ·exact put _ _ _
   simp only [List.foldl_cons,List.length_cons];omega
 have h:=gen (u.take Vf) []
 have hM : (u.take Vf).length ≤ 32767:=by rw [List.length_take];exact Nat.min_le_left _ _
 unfold Xm
 simp only [List.length_nil] at h;omega
theorem others_few (fs : List Fld) (u : List (Nat × List UInt8)) : (Xj fs u).length ≤ 32767:=by
 simp only [Xj,List.length_map];exact Ym5 fs u
theorem Yc0 (fs : List Fld) (t : Tree) (hok : t.ok) : JO (Xj fs t.u) ≤ 1074069493:=by
 have gen : ∀ l : List (Nat × List UInt8),(∀ kv ∈ l,kv.1 < 4294967296) → JO (l.map fun kv => (kv.1,Xe kv.2)) ≤ l.length * 32779:=by
  intro l
  induction l with
  | nil => intro _;simp [JO]
  | cons a l ih =>
   intro h
   have h0:=ih (fun x hx => h x (by simp [hx]))
   have ha:=JY a.1 (by have:=h a (by simp);omega)
   have hw:=(whole_le a.2).2
   have hb:=JY (Xe a.2).length (by omega)
   simp only [JO,List.map_cons,List.sum_cons,UF,List.length_append,List.length_cons,Nat.succ_mul] at *
   omega
 have h1:=gen (Xm fs t.u) (fun kv hkv => hok.u kv (Yg2 fs t.u kv hkv))
 have h2:=Ym5 fs t.u
 have h3:=Nat.mul_le_mul_right 32779 h2
 simp only [Xj];omega
theorem part_leF (ver : Int) (flex : Bool) (fs : List Fld) (t : Tree) (M O : Nat) (hF : (wFs ver flex fs 0 t).length ≤ M) (hT : ∀ k,Yc3 (wTs ver flex fs 0 k t) ≤ M) (hO : JO (Xj fs t.u) ≤ O) :
  (Xc ver flex fs t).length ≤ (1 + YN fs) * M + (bif flex then O + 258 else 0):=by
 unfold Xc asm
 rw [Nat.add_mul]
 cases flex with
 | false => simp only [Bool.false_eq_true,if_false,cond_false];omega
 | true =>
  simp only [if_true,cond_true,List.length_append,Yp7]
  have h1:=Yo2 (fun k => wTs ver true fs 0 k t) M (YN fs) hT
  have h2 : YS ver true fs t = (List.range (YN fs)).flatMap (fun k => wTs ver true fs 0 k t) ++ Xj fs t.u:=rfl
  rw [h2,Yh3,List.length_append]
  have h3:=uvar_few ((List.range (YN fs)).flatMap (fun k => wTs ver true fs 0 k t)).length (Xj fs t.u).length (others_few fs t.u)
  have h4:=tagsC_eq ((List.range (YN fs)).flatMap (fun k => wTs ver true fs 0 k t))
  omega
def Yp9 (tag : Int) (n : Nat) : Nat:=if tag < 0 then n else n + n + tag.toNat + 3
theorem le_tagged (tag : Int) (n : Nat) : n ≤ Yp9 tag n:=by unfold Yp9;split <;> omega
theorem tag_le (k : Nat) (b : List UInt8) (n : Nat) (h : b.length ≤ n) : 1 + (UF k b).length ≤ n + n + k + 3:=by
 have h1:=uvar_le1 k
 have h2:=uvar_le1 b.length
 simp only [UF,List.length_append];omega
def oF (fl : Bool) : Nat:=bif fl then 1074069751 else 0
mutual
def Fld.most (fl : Bool) : Fld → Nat
 | .mk kind _ _ _ _ _ of sub =>
  if kind = 11 then 8 + 32767 * (if of = 10 then (1 + YN sub) * Fld.mosts fl sub + oF fl else 32783)
  else if kind = 10 then 1 + ((1 + YN sub) * Fld.mosts fl sub + oF fl) else 32783
def Fld.mosts (fl : Bool) : List Fld → Nat
 | [] => 0
 | f :: fs => Yp9 f.tag (f.most fl) + Fld.mosts fl fs
end
def Yi6 (fl : Bool) (fs : List Fld) : Nat:=(1 + YN fs) * Fld.mosts fl fs + oF fl
theorem flat_le (g : Tree → List UInt8) (c : Nat) : ∀ (l : List Tree),(∀ x ∈ l,(g x).length ≤ c) → (l.flatMap g).length ≤ l.length * c
 | [],_ => by simp
 | x :: l,h => by
  have h1:=h x (by simp)
  have h2:=flat_le g c l (fun y hy => h y (by simp [hy]))
  simp only [List.flatMap_cons,List.length_append,List.length_cons,Nat.succ_mul];omega
theorem wVal_most (kind : Int) (flex null : Bool) (p : Tree → List UInt8) (t : Tree) (h : kind ≠ 10) : (Vc kind flex null p t).length ≤ 32783:=by
 have hw:=whole_le t.s
 have hif : (if null then ([] : List UInt8) else Xe t.s).length ≤ 32767:=by
  cases null
  ·exact hw.2
  ·simp
 unfold Vc
 split
 ·simp
 ·split
  ·simp only [XX,List.length_take];omega
  ·split
   ·have:=Yf7 flex null (if null then ([] : List UInt8) else Xe t.s).length 2 (by omega) (by omega)
    rw [List.length_append];omega
   ·split
    ·have:=Yf7 flex null (if null then ([] : List UInt8) else Xe t.s).length 4 (by omega) (by omega)
     rw [List.length_append];omega
    ·rw [be_len]
     have:=width8 kind
     omega
theorem wVal_part (flex null : Bool) (p : Tree → List UInt8) (t : Tree) : Vc 10 flex null p t = p t:=by simp [Vc]
theorem things_few (l : List Tree) : (YQ l).length ≤ 32767:=by unfold YQ Vf;rw [List.length_take];omega
mutual
theorem Yk5 (ver : Int) (flex : Bool) : ∀ (f : Fld) (t : Tree),t.ok → (XA ver flex f t).length ≤ f.most flex
 | .mk kind fr upto nul tag df of sub,t,ht => by
  have hp : ∀ x : Tree,x.ok → (Xc ver flex sub x).length ≤ (1 + YN sub) * Fld.mosts flex sub + oF flex:=fun x hx =>
   Nat.le_trans (part_leF ver flex sub x _ 1074069493 (wFs_most ver flex sub 0 x hx) (fun k => wTs_most ver flex sub 0 k x hx) (Yc0 sub x hx)) (by cases flex <;> simp [oF])
  rw [Ux ver flex kind fr upto nul tag df of sub t _ rfl]
  simp only [Fld.most]
  generalize (1 + YN sub) * Fld.mosts flex sub + oF flex = c at hp ⊢
  by_cases h11 : kind = 11
  ·simp only [h11,if_true]
   generalize (t.nul && decide (0 ≤ nul) && decide (nul ≤ ver)) = null
   have hlen : (if null then ([] : List Tree) else YQ t.l).length ≤ 32767:=by
    cases null
    ·exact things_few t.l
    ·simp
   have hmem : ∀ x ∈ (if null then ([] : List Tree) else YQ t.l),x.ok:=by
    intro x hx
    cases null
    ·exact ht.l x (List.mem_of_mem_take hx)
    ·simp at hx
   have h8:=Yf7 flex null (if null then ([] : List Tree) else YQ t.l).length 4 (by omega) (by omega)
   rw [List.length_append]
   have h9:=flat_le (Vc of flex false (Xc ver flex sub)) (if of = 10 then c else 32783) (if null then ([] : List Tree) else YQ t.l) (fun x hx => by
    by_cases h10 : of = 10
    ·rw [if_pos h10,h10,wVal_part];exact hp x (hmem x hx)
    ·rw [if_neg h10];exact wVal_most of flex false _ x h10)
   have h10 : (if null then ([] : List Tree) else YQ t.l).length * (if of = 10 then c else 32783) ≤ 32767 * (if of = 10 then c else 32783):=Nat.mul_le_mul_right _ hlen
   omega
  ·simp only [h11,if_false]
   by_cases h10 : kind = 10
   ·simp only [h10,true_and,if_true]
    have h1:=hp t ht
    split
    ·split
     ·rw [be_len];omega
     ·rw [List.length_append,be_len];omega
    ·rw [wVal_part];omega
   ·simp only [h10,false_and,if_false]
    exact wVal_most kind flex _ _ t h10
theorem wFs_most (ver : Int) (flex : Bool) : ∀ (fs : List Fld) (i : Nat) (t : Tree),t.ok → (wFs ver flex fs i t).length ≤ Fld.mosts flex fs
 | [],_,_,_ => by simp [wFs]
 | f :: fs,i,t,ht => by
  have h1:=Yk5 ver flex f (att t i) (ht.at i)
  have h2:=wFs_most ver flex fs (i + 1) t ht
  have h3:=le_tagged f.tag (f.most flex)
  simp only [wFs,Fld.mosts,List.length_append]
  split
  ·omega
  ·simp only [List.length_nil];omega
theorem wTs_most (ver : Int) (flex : Bool) : ∀ (fs : List Fld) (i k : Nat) (t : Tree),t.ok → Yc3 (wTs ver flex fs i k t) ≤ Fld.mosts flex fs
 | [],_,_,_,_ => by simp [wTs,Yc3]
 | f :: fs,i,k,t,ht => by
  have h1:=Yk5 ver flex f (att t i) (ht.at i)
  have h2:=wTs_most ver flex fs (i + 1) k t ht
  simp only [wTs,Fld.mosts,Yg8]
  split
  ·rename_i h
   have h3:=tag_le k (XA ver flex f (att t i)) _ h1
   have h4 : Yp9 f.tag (f.most flex) = f.most flex + f.most flex + k + 3:=by
    unfold Yp9
    rw [if_neg (by omega)]
    have : f.tag.toNat = k:=by omega
    omega
   simp only [Yc3,List.map_cons,List.map_nil,List.sum_cons,List.sum_nil] at h2 ⊢;omega
  ·have : Yc3 ([] : List (Nat × List UInt8)) = 0:=rfl
   omega
end
theorem wPart_most (ver : Int) (flex : Bool) (fs : List Fld) (t : Tree) (ht : t.ok) : (Xc ver flex fs t).length ≤ Yi6 flex fs :=
 Nat.le_trans (part_leF ver flex fs t _ 1074069493 (wFs_most ver flex fs 0 t ht) (fun k => wTs_most ver flex fs 0 k t ht) (Yc0 fs t ht)) (by unfold Yi6;cases flex <;> simp [oF])
mutual
def Fld.price : Fld → Nat
 | .mk _ _ _ _ _ _ _ sub => ((1 + YN sub) * Fld.prices sub + 272) + 24 + 9
def Fld.prices : List Fld → Nat
 | [] => 0
 | f :: fs => Yp9 f.tag f.price + Fld.prices fs
end
end

section
open Go Go.RowKit
section
set_option maxRecDepth 100000
theorem fn_fits3 (kv : Nat × List UInt8) (B : Nat) (w : World) (ts : List Value) (ht : Rep (Lo B) w (Uk kv) ts) : Fn 62 [.agg ts.toArray] w fun v _ => ∃ b : Bool,v = .bool b:=by
 obtain ⟨sv,rfl,hs⟩:=VO ht
 obtain ⟨sa,sc,rfl,_⟩:=hs.shape
 refine enter Tryz.func62 rfl Tryz.ntmps62 rfl ?_
 repeat (with_reducible first|apply Yd|apply Ya)
 refine XF rfl rfl rfl (fun w1 hb1 hg1 hs1 => ?_)
 have hw1 : Below w.heap.size w w1:=Yg hg1 (Nat.le_refl _) (by simp)
 repeat first|(with_reducible first|apply Yd|apply Ya|apply Yc|apply Yb)|((with_reducible apply ws);exact rfl;exact rfl)
 refine Yf rfl to_bytes rfl hb1 rfl ?_
 repeat first|(with_reducible first|apply Yc|apply Yb)|((with_reducible apply ws);exact rfl;exact rfl)
 by_cases h : (2147483647 : Int) < ((kv.2.map YF).length : Int)
 ·refine Yp rfl (by simpa using h) ?_
  repeat first|(with_reducible first|apply Yd|apply Ya|apply Yc|apply Yb|apply Ym|apply Yj)|((with_reducible apply ws);exact rfl;exact rfl)
  exact Yk rfl rfl ⟨_,rfl,hw1,_,rfl⟩
 ·refine Yu rfl (by simpa using h) ?_
  repeat first|(with_reducible first|apply Yd|apply Ya|apply Yc|apply Yb|apply Yh|apply Ym)|((with_reducible apply ws);exact rfl;exact rfl)
  exact Yk rfl rfl ⟨_,rfl,hw1,_,rfl⟩
theorem fn_fits2 (u : List (Nat × List UInt8)) (B : Nat) (w : World) (uv : Value) (hB : B ≤ w.heap.size) (hu : Sq B w uv (u.map Uk)) : Fn 28 [uv] w fun v _ => ∃ b : Bool,v = .bool b:=by
 obtain ⟨ua,uc,rfl,_⟩:=hu.shape
 refine enter Tryz.func28 rfl Tryz.ntmps28 rfl ?_
 repeat first|(with_reducible first|apply Yd|apply Ya|apply Yc|apply Yb)|((with_reducible apply ws);exact rfl;exact rfl)
 by_cases h : (2147483647 : Int) < ((u.map Uk).length : Int)
 ·refine Yp rfl (by simpa using h) ?_
  repeat first|(with_reducible first|apply Yd|apply Ya|apply Yc|apply Yb|apply Ym|apply Yj)|((with_reducible apply ws);exact rfl;exact rfl)
  exact Yk rfl rfl ⟨_,rfl,Below.refl _ _,_,rfl⟩
 ·refine Yu rfl (by simpa using h) ?_
  repeat first|(with_reducible first|apply Yd|apply Ya|apply Yc|apply Yb|apply Yr|apply Yh)|((with_reducible apply ws);exact rfl;exact rfl)
  rw [List.length_map] at *
  refine Xu (α:=Nat) (fun i => [(10,.int .i64 (i : Int)),(9,.int .i64 (u.length : Int)),(8,.slice ua u.length uc)]) (fun i w' => i ≤ u.length ∧ Below w.heap.size w w') (fun i => u.length - i) 0 ⟨rfl,rfl,rfl,trivial⟩ ⟨Nat.zero_le _,Below.refl _ _⟩ ?_
  rintro i w1 ⟨hi,hw1⟩
  repeat first|(with_reducible first|apply Yd|apply Ya|apply Yc|apply Yb)|((with_reducible apply ws);exact rfl;exact rfl)
  by_cases hlt : i < u.length
  ·refine Yp rfl (by simpa using hlt) ?_
   obtain ⟨b,off,c',cs,hv,hbB,hcs,hlen,hr⟩:=(hu.below (hw1.mono hB) (Nat.le_refl _)).get (sz:=2) (i:=i) (by intro d hd;obtain ⟨x,_,rfl⟩:=List.mem_map.1 hd;exact VL x) (by simpa using hlt)
   simp only [Value.slice.injEq,List.length_map] at hv
   obtain ⟨rfl,_,rfl⟩:=hv
   simp only [List.getElem_map] at hr
   obtain ⟨hcone,_⟩:=tag_one hr
   repeat (with_reducible first|apply Yd|apply Ya|apply Yb|apply Yr|apply Yh)
   refine Ys rfl rfl es_tags rfl hlt ?_
   refine Xv rfl (by rw [hlen];exact ta_tag) rfl (fun j v e => hcs.cell e) ?_
   refine YJ zv_tag rfl rfl (fun w8 hb8 hg8 hs8 => ?_)
   refine Yn rfl rfl rfl (by rw [hlen];exact tz_tag) hcone hb8 (by rw [hlen];rfl) (fun w9 hb9 hg9 hs9 => ?_)
   have hs1:=hw1.size
   have hw19 : Below w1.heap.size w1 w9:=(Yg hg8 (Nat.le_refl _) (by simp)).trans (Yg hg9 (by omega) (by intro k hk;simp at hk;omega))
   have hs19:=hw19.size
   repeat (with_reducible first|apply Yd|apply Ya|apply Yc|apply Yb)
   refine YC rfl (by rw [hlen];exact ta_tag) rfl hb9 ?_
   refine Yo rfl (by kernel_rfl) rfl ((fn_fits3 u[i] B w9 _ (Rep.below hr (hw19.mono (by omega)) (Nat.le_refl _))).mono ?_)
   rintro e w10 ⟨v,rfl,hw10,q,rfl⟩
   refine ⟨_,rfl,?_⟩
   repeat first|(with_reducible first|apply Yc|apply Yb)|((with_reducible apply ws);exact rfl;exact rfl)
   cases q
   ·refine Yp rfl rfl ?_
    repeat first|(with_reducible first|apply Yd|apply Ya|apply Yc|apply Yb|apply Ym|apply Yj|apply YL|apply VJ)|((with_reducible apply ws);exact rfl;exact rfl)
    exact Yk rfl rfl ⟨_,rfl,(hw1.trans (hw19.mono hs1)).trans (hw10.mono (by omega)),_,rfl⟩
   ·refine Yu rfl rfl ?_
    repeat (with_reducible first|apply Ya|apply Yb|apply Yh|apply XS)
    refine Xn rfl rfl rfl (r:=((i + 1 : Nat) : Int)) (by rw [IntKind.wrap_i64];omega) ?_
    repeat first|(with_reducible apply Yc)|((with_reducible apply ws);exact rfl;exact rfl)
    exact YD (i + 1) ⟨rfl,rfl,rfl,trivial⟩ ⟨by omega,(hw1.trans (hw19.mono hs1)).trans (hw10.mono (by omega))⟩ (by omega)
  ·refine Yu rfl (by simpa using hlt) ?_
   repeat first|(with_reducible first|apply Yd|apply Ya|apply Yc|apply Yb|apply Ym|apply Xk|apply Yw|apply YB|apply Yq)|((with_reducible apply ws);exact rfl;exact rfl)
   exact Yk rfl rfl ⟨_,rfl,hw1,_,rfl⟩
theorem fn_fits1 (t : Tree) (B : Nat) (w : World) (ts : List Value) (hB : B ≤ w.heap.size) (ht : Rep (Lo B) w (treeD t) ts) : Fn 7 [.agg ts.toArray] w fun v _ => ∃ b : Bool,v = .bool b:=by
 obtain ⟨sv,lv,uv,rfl,hs,hl,hu⟩:=Xi ht
 obtain ⟨la,lc,rfl,_⟩:=hl.shape
 obtain ⟨sa,sc,rfl,_⟩:=hs.shape
 refine enter Tryz.func7 rfl Tryz.ntmps7 rfl ?_
 repeat (with_reducible first|apply Yd|apply Ya)
 refine XF rfl rfl rfl (fun w1 hb1 hg1 hs1 => ?_)
 have hw1 : Below w.heap.size w w1:=Yg hg1 (Nat.le_refl _) (by simp)
 repeat first|(with_reducible first|apply Yd|apply Ya|apply Yc|apply Yb)|((with_reducible apply ws);exact rfl;exact rfl)
 refine Yf rfl to_bytes rfl hb1 rfl ?_
 repeat first|(with_reducible first|apply Yc|apply Yb)|((with_reducible apply ws);exact rfl;exact rfl)
 by_cases h : (2147483647 : Int) < ((t.s.map YF).length : Int)
 ·refine Yp rfl (by simpa using h) ?_
  repeat first|(with_reducible first|apply Yd|apply Ya|apply Yc|apply Yb|apply Ym|apply Yj)|((with_reducible apply ws);exact rfl;exact rfl)
  exact Yk rfl rfl ⟨_,rfl,hw1,_,rfl⟩
 ·refine Yu rfl (by simpa using h) ?_
  repeat first|(with_reducible first|apply Yd|apply Ya|apply Yb|apply Yh)|((with_reducible apply ws);exact rfl;exact rfl)
  refine Yf rfl to_trees rfl hb1 rfl ?_
  repeat first|(with_reducible first|apply Yc|apply Yb)|((with_reducible apply ws);exact rfl;exact rfl)
  by_cases h : (2147483647 : Int) < ((t.l.map treeD).length : Int)
  ·refine Yp rfl (by simpa using h) ?_
   repeat first|(with_reducible first|apply Yd|apply Ya|apply Yc|apply Yb|apply Ym|apply Yj)|((with_reducible apply ws);exact rfl;exact rfl)
   exact Yk rfl rfl ⟨_,rfl,hw1,_,rfl⟩
  ·refine Yu rfl (by simpa using h) ?_
   repeat first|(with_reducible first|apply Yd|apply Ya|apply Yb|apply Yh)|((with_reducible apply ws);exact rfl;exact rfl)
   refine Yf rfl to_tags rfl hb1 rfl ?_
   refine Yo rfl (by kernel_rfl) rfl ((fn_fits2 t.u B w1 _ (by omega) (hu.below (hw1.mono hB) (Nat.le_refl _))).mono ?_)
   rintro e w2 ⟨v,rfl,hw2,q,rfl⟩
   refine ⟨_,rfl,?_⟩
   repeat first|(with_reducible first|apply Yc|apply Yb)|((with_reducible apply ws);exact rfl;exact rfl)
   cases q
   ·refine Yp rfl rfl ?_
    repeat first|(with_reducible first|apply Yd|apply Ya|apply Yc|apply Yb|apply Ym|apply Yj)|((with_reducible apply ws);exact rfl;exact rfl)
    exact Yk rfl rfl ⟨_,rfl,hw1.trans (hw2.mono (by omega)),_,rfl⟩
   ·refine Yu rfl rfl ?_
    repeat first|(with_reducible first|apply Yd|apply Ya|apply Yc|apply Yb|apply Yh|apply Ym)|((with_reducible apply ws);exact rfl;exact rfl)
    exact Yk rfl rfl ⟨_,rfl,hw1.trans (hw2.mono (by omega)),_,rfl⟩
theorem fn_write (m : Msg) (hm : JB m.fields = true) (ver : Int) (t : Tree) (B : Nat) (w : World) (fv : Value) (ts : List Value) (hok : t.ok) (hB : B ≤ w.heap.size) (hf : Sq B w fv (m.fields.map fldD)) (ht : Rep (Lo B) w (treeD t) ts) (hlim : (Yp2 m ver t).length ≤ lim) :
  Fn 21 [.agg #[fv,.int .i64 m.flex],.int .i64 ver,.agg ts.toArray] w fun v w' => Own w' w.heap.size 5 v (Yp2 m ver t):=by
 obtain ⟨sv,lv,uv,rfl,_,_,_⟩:=Xi ht
 obtain ⟨fa,fc,rfl,_⟩:=hf.shape
 refine enter Tryz.func21 rfl Tryz.ntmps21 rfl ?_
 repeat (with_reducible first|apply Yd|apply Ya)
 refine XF (cs:=[.slice fa (m.fields.map fldD).length fc,.int .i64 m.flex]) rfl rfl rfl (fun w1 hb1 hg1 hs1 => XF rfl rfl rfl (fun w2 hb2 hg2 hs2 => ?_))
 have hb12:=hb1.kept hg2 (by simp)
 have hw2 : Below w.heap.size w w2:=(Yg hg1 (Nat.le_refl _) (by simp)).trans (Yg hg2 (by omega) (by simp))
 have hcall : ∀ flex,m.flexible ver = flex → _:=fun flex hfx => part_ok m.fields hm flex ver t B w2 _ _ hok (by omega) (hf.below (hw2.mono hB) (Nat.le_refl _)) (ht.below (hw2.mono hB) (Nat.le_refl _)) (by rw [← hfx];exact hlim)
 repeat first|(with_reducible first|apply Yd|apply Ya|apply Yc|apply Yb)|((with_reducible apply ws);exact rfl;exact rfl)
 refine Yf rfl to_flds rfl hb12 rfl ?_
 repeat ((with_reducible apply ws);exact rfl;exact rfl)
 refine Yf rfl to_int rfl hb12 rfl ?_
 repeat ((with_reducible apply ws);exact rfl;exact rfl)
 by_cases h0 : 0 ≤ m.flex
 ·have e1 : decide (0 ≤ m.flex) = true:=by simpa using h0
  rw [e1]
  repeat first|((with_reducible apply ws);exact rfl;exact rfl)|((with_reducible apply YU);exact rfl;exact rfl;exact rfl)
  refine Yf rfl to_int rfl hb12 rfl ?_
  repeat first|((with_reducible apply ws);exact rfl;exact rfl)|((with_reducible apply YU);exact rfl;exact rfl;exact rfl)
  refine YC (cs:=[.int .i64 t.n,sv,.bool t.nul,lv,uv]) rfl ta_tree rfl hb2 ?_
  refine Yo rfl (by kernel_rfl) rfl ((hcall (decide (m.flex ≤ ver)) (by simp [Msg.flexible,h0])).mono ?_)
  rintro e w3 ⟨v,rfl,hw3,ho⟩
  refine ⟨v,rfl,?_⟩
  repeat first|(with_reducible first|apply Yc|apply Yb|apply Ym)|((with_reducible apply ws);exact rfl;exact rfl)
  have e2 : m.flexible ver = decide (m.flex ≤ ver):=by simp [Msg.flexible,h0]
  refine Yk rfl rfl ⟨_,rfl,hw2.trans (hw3.mono (by omega)),?_⟩
  rw [Yp2,e2]
  exact ho.mono (by omega)
 ·have e1 : decide (0 ≤ m.flex) = false:=by simpa using h0
  rw [e1]
  repeat first|((with_reducible apply ws);exact rfl;exact rfl)|((with_reducible apply US);exact rfl;exact rfl;exact rfl;exact rfl)
  refine YC (cs:=[.int .i64 t.n,sv,.bool t.nul,lv,uv]) rfl ta_tree rfl hb2 ?_
  refine Yo rfl (by kernel_rfl) rfl ((hcall false (by simp [Msg.flexible,h0])).mono ?_)
  rintro e w3 ⟨v,rfl,hw3,ho⟩
  refine ⟨v,rfl,?_⟩
  repeat first|(with_reducible first|apply Yc|apply Yb|apply Ym)|((with_reducible apply ws);exact rfl;exact rfl)
  have e2 : m.flexible ver = false:=by simp [Msg.flexible,h0]
  refine Yk rfl rfl ⟨_,rfl,hw2.trans (hw3.mono (by omega)),?_⟩
  rw [Yp2,e2]
  exact ho.mono (by omega)
theorem fn_kept (m : Msg) (hm : JB m.fields = true) (ver : Int) (t : Tree) (B : Nat) (w : World) (fv : Value) (ts : List Value) (hok : t.ok) (hB : B ≤ w.heap.size) (hf : Sq B w fv (m.fields.map fldD)) (ht : Rep (Lo B) w (treeD t) ts) (hlim : (be 2 ver ++ Yp2 m ver t).length ≤ lim) :
  Fn 10 [.agg #[fv,.int .i64 m.flex],.int .i64 ver,.agg ts.toArray] w fun v w' => Own w' w.heap.size 5 v (be 2 ver ++ Yp2 m ver t):=by
 obtain ⟨sv,lv,uv,rfl,_,_,_⟩:=Xi ht
 obtain ⟨fa,fc,rfl,_⟩:=hf.shape
 rw [List.length_append] at hlim
 refine enter Tryz.func10 rfl Tryz.ntmps10 rfl ?_
 repeat (with_reducible first|apply Yd|apply Ya)
 refine XF (cs:=[.slice fa (m.fields.map fldD).length fc,.int .i64 m.flex]) rfl rfl rfl (fun w1 hb1 hg1 hs1 => XF rfl rfl rfl (fun w2 hb2 hg2 hs2 => ?_))
 have hb12:=hb1.kept hg2 (by simp)
 have hw2 : Below w.heap.size w w2:=(Yg hg1 (Nat.le_refl _) (by simp)).trans (Yg hg2 (by omega) (by simp))
 repeat first|(with_reducible first|apply Yd|apply Yc|apply Yb)|((with_reducible apply ws);exact rfl;exact rfl)
 refine XJ [(0,.int .i64 ver),(2,.agg ([.slice fa (m.fields.map fldD).length fc,.int .i64 m.flex] : List Value).toArray),(3,.int .i64 ver),(4,.agg ([.int .i64 t.n,sv,.bool t.nul,lv,uv] : List Value).toArray)] [7,6,5,1]
  (fun vals w' => Below w2.heap.size w2 w' ∧ match vals with
   | [] => True
   | [v] => Own w' w2.heap.size 5 v (be 2 ver)
   | [v,v1] => Own w' w2.heap.size 5 v1 (be 2 ver) ∧ Own w' w2.heap.size 5 v (Yp2 m ver t)
   | v :: _ => Own w' w2.heap.size 5 v (be 2 ver ++ Yp2 m ver t))
  mixed rfl rfl rfl rfl rfl (by show ([0,2,3,4] : List Nat).Nodup;decide) rfl rfl (by decide) rfl rfl rfl rfl ⟨(Below.refl _ w2).drew,trivial⟩ ?_ ⟨?_,?_,?_,?_,trivial⟩ ?_
 ·intro p hp vals w' hC a k
  simp only [List.mem_cons,List.not_mem_nil,or_false] at hp
  rcases hp with rfl | rfl | rfl | rfl
  ·exact gv rfl rfl (Yl k rfl)
  ·exact gv rfl rfl (YX k rfl ta_msg (hb12.below hC.1 hb12.lt))
  ·exact gv rfl rfl (Yl k rfl)
  ·exact gv rfl rfl (YX k rfl ta_tree (hb2.below hC.1 hb2.lt))
 ·rintro vals w' hvl ⟨hb',hC⟩ a k
  match vals,hvl with
  | [v6,v5,v1],_ => exact ⟨_,rfl,Xr k rfl ⟨hb',hC⟩⟩
 ·rintro vals w' hvl ⟨hb',hC⟩ a k
  match vals,hvl with
  | [v5,v1],_ =>
   obtain ⟨ho1,ho5⟩:=hC
   exact ⟨_,rfl,Ui k tb_bytes tb_bytes rfl rfl ho5.bytes ho1 hb'.size hlim (fun d' w'' ho'' hg'' => ⟨hb'.trans (hg''.below hb'.size ho1.ge),ho''⟩)⟩
 ·rintro vals w' hvl ⟨hb',hC⟩ a k
  match vals,hvl with
  | [v1],_ =>
   simp only [] at hC
   have hs:=hb'.size
   refine ⟨_,rfl,Yz k rfl (by kernel_rfl) ((fn_write m hm ver t B w' _ _ hok (by omega) (hf.below ((hw2.trans (hb'.mono (by omega))).mono hB) (Nat.le_refl _)) (ht.below ((hw2.trans (hb'.mono (by omega))).mono hB) (Nat.le_refl _)) (by omega)).mono ?_)⟩
   rintro e w'' ⟨v,rfl,hb'',ho⟩
   exact ⟨v,rfl,hb'.trans (hb''.mono hs),Own.below hC hb'',ho.mono hs⟩
 ·rintro vals w' hvl ⟨hb',hC⟩ a k
  match vals,hvl with
  | [],_ =>
   exact ⟨_,rfl,Yz k rfl (by kernel_rfl) ((UG ver 2 (by omega) w').mono (by rintro e w'' ⟨v,rfl,hb'',ho⟩;exact ⟨v,rfl,hb'.trans (hb''.mono hb'.size),ho.mono hb'.size⟩))⟩
 ·rintro vals w' hvl ⟨hb',hC⟩
  match vals,hvl with
  | [v7,v6,v5,v1],_ =>
   refine Yb ?_
   repeat (with_reducible apply Ym)
   exact Yk rfl rfl ⟨_,rfl,hw2.trans (hb'.mono (by omega)),Own.mono hC (by omega)⟩
end
end

section
open Go Go.RowKit
theorem fill_many (sz : Nat) : ∀ (css : List (List Value)) (k : Nat) (pre post : List Value),pre.length = k * sz → (∀ cs ∈ css,cs.length = sz) → post.length = css.length * sz →
  Instr.fill (fun i => some (i * sz,sz)) (pre ++ post).toArray ((css.zipIdx k).map fun p => (p.2,Value.agg p.1.toArray)) = some (pre ++ css.flatten).toArray
 | [],k,pre,post,_,_,hl => by
  have : post = []:=List.length_eq_zero_iff.1 (by simpa using hl)
  subst this;simp [Instr.fill]
 | cs :: css,k,pre,post,hp,hc,hl => by
  have hcs:=hc cs (by simp)
  simp only [List.length_cons,Nat.succ_mul] at hl
  obtain ⟨a,b,rfl,ha⟩ : ∃ a b,post = a ++ b ∧ a.length = sz:=⟨post.take sz,post.drop sz,(List.take_append_drop _ _).symm,by rw [List.length_take];omega⟩
  have hb : b.length = css.length * sz:=by rw [List.length_append] at hl;omega
  simp only [List.zipIdx_cons,List.map_cons,Instr.fill]
  have h1 : ¬ ((Value.agg cs.toArray).cells.size ≠ sz):=by simp [Value.cells,hcs]
  have h2 : ¬ (k * sz + (Value.agg cs.toArray).cells.size > (pre ++ (a ++ b)).toArray.size):=by simp [Value.cells,hcs,hp,ha]
  simp only [h1,h2,decide_false,Bool.or_false,Bool.false_eq_true,if_false]
  have hf:=Yo9 (k * sz) cs 0 pre a (by simpa using hp) (by rw [ha,hcs])
  have hf2 : ((Value.agg cs.toArray).cells.zipIdx.foldl (fun cs p => cs.setIfInBounds (k * sz + p.2) p.1) (pre ++ (a ++ b)).toArray) = (pre ++ cs ++ b).toArray:=by
   have hz : cs.toArray.zipIdx = (cs.zipIdx).toArray:=by apply Array.ext';simp
   simp only [Value.cells]
   rw [hz]
   simp only [List.foldl_toArray]
   have gen : ∀ (l : List Value) (j : Nat) (p q r : List Value),p.length = k * sz + j → q.length = l.length →
     (l.zipIdx j).foldl (fun cs p => cs.setIfInBounds (k * sz + p.2) p.1) (p ++ (q ++ r)).toArray = (p ++ (l ++ r)).toArray:=by
    intro l
    induction l with
    | nil => intro j p q r _ hq;have : q = []:=List.length_eq_zero_iff.1 (by simpa using hq);subst this;rfl
    | cons v l ih =>
     intro j p q r hp hq
     cases q with
     | nil => cases hq
     | cons x q =>
      simp only [List.zipIdx_cons,List.foldl_cons]
      have hset : (p ++ (x :: q ++ r)).toArray.setIfInBounds (k * sz + j) v = ((p ++ [v]) ++ (q ++ r)).toArray:=by
       rw [List.setIfInBounds_toArray,← hp];simp
      rw [hset,ih (j + 1) (p ++ [v]) q r (by simp [hp];omega) (by simpa using hq)]
      simp
   have:=gen cs 0 pre a b (by simpa using hp) (by rw [ha,hcs])
   simpa [List.append_assoc] using this
  rw [hf2]
  have ih:=fill_many sz css (k + 1) (pre ++ cs) b (by simp [hp,hcs,Nat.succ_mul]) (fun c h => hc c (by simp [h])) hb
  rw [ih]
  simp
section
variable {P : Program} {ops : Array Oper} {Q : Exit → Act → World → Prop} {N : Nat} {rest : List Oper} {L : Sl} {w : World} {d : Nat} {ty : TypeId} {pos : String} {aft : Array Edge}
theorem wl_sliceN {t e sz n : Nat} {ps : List (Nat × Operand)} {vs : List Value} (css : List (List Value)) (hT : Ut P t e sz = true) (hps : evp L 0 ps = some vs) (hvs : vs = css.map fun cs => Value.agg cs.toArray) (hlen : ∀ cs ∈ css,cs.length = sz) (hn : n = css.length) (hsz : (Nat.blt 0 sz && Nat.ble (n * sz) 16777216 && Nat.blt 0 n) = true) (hd : Nat.blt d N = true)
  (h : ∀ w',Box w' w.heap.size css.flatten e → w.grownBy w' none → w'.heap.size = w.heap.size + 1 → WL rest P ops Q N ((d,.slice (some ⟨w.heap.size,0,none⟩) n n) :: L) w') :
  WL (⟨some d,.buildSlice t n ps.toArray,ty,pos,aft,none⟩ :: rest) P ops Q N L w:=by
 intro a k
 obtain ⟨hu,i,z,hi,hs1,hb1,hz,hzc⟩:=Us hT
 simp only [Bool.and_eq_true] at hsz
 have hsz1 : 0 < sz:=Nat.le_of_ble_eq_true hsz.1.1
 have hsz2:=Nat.le_of_ble_eq_true hsz.1.2
 have hn0 : 0 < n:=Nat.le_of_ble_eq_true hsz.2
 refine Xh (o:=⟨some d,.buildSlice t n ps.toArray,ty,pos,aft,none⟩) (v:=.slice (some ⟨w.heap.size,0,none⟩) n n) (w':=w.alloc (.cells css.flatten.toArray e)) rfl ?_ (h _ (XZ w _ e) (XE w _) (by simp) _ (k.put _ hd))
 have hparts:=Yi7 k ps 0 _ hps
 have hm : (ps.toArray.map fun x => (x.1,a.eval x.2)).toList = (css.zipIdx 0).map fun p => (p.2,Value.agg p.1.toArray):=by
  rw [hvs] at hparts
  have e1 : (ps.toArray.map fun x => (x.1,a.eval x.2)).toList = ps.map fun p => (p.1,a.eval p.2):=by simp
  rw [e1,hparts]
  rw [List.zipIdx_map,List.map_map]
  rfl
 have hfill:=fill_many sz css 0 [] ((List.range (n * sz)).map (z.cells[· % z.cells.size]!)) (by simp) hlen (by simp [hn])
 simp only [List.nil_append] at hfill
 have hmul : 0 < n * sz:=Nat.mul_pos hn0 hsz1
 simp only [execOp,Instr.buildSlice]
 simp only [Sem.run_bind,run_underlying hu,Result.andThen_ok,sizeOf,typeInfo,run_program,hi,Sem.run_pure,hs1]
 rw [show ((2 : Nat) ^ 24) = 16777216 from rfl,if_neg (by omega),if_neg (by omega)]
 simp only [zeroValue,typeInfo,Sem.run_bind,run_program,Result.andThen_ok,hi,Sem.run_pure,hz]
 rw [hm,← List.toArray_range,List.map_toArray,hfill]
 simp [newRow]
end
end

namespace Rdk
open Go Go.RowKit
set_option maxRecDepth 100000
def TInv (st : Option (List UInt8)) (j : Nat) (u : List (Nat × List UInt8)) (st' : Option (List UInt8)) : Prop:=match st with
 | none => st' = none
 | some s => match st' with
  | some s' => tagsP s = tagsR j u s'
  | none => tagsP s = none
theorem tinv_start {st st1 : Option (List UInt8)} {n : Nat} (h : UvRel st n st1) : TInv st n [] st1:=by
 have h2:=h.2
 cases st with
 | none => exact h2
 | some s =>
  simp only [TInv,tagsP] at h2 ⊢
  cases hx : XR s with
  | none => rw [hx] at h2;simp only [] at h2;subst h2;rfl
  | some x => rw [hx] at h2;obtain ⟨rfl,rfl⟩:=h2;rfl
theorem tinv_step {st s1 s2 s3 s4 : Option (List UInt8)} {j k l : Nat} {u : List (Nat × List UInt8)} {bs : List UInt8} (h : TInv st (j + 1) u s1) (h1 : UvRel s1 k s2) (h2 : UvRel s2 l s3) (h3 : VD l s3 bs s4) : TInv st j (Vg k bs u) s4:=by
 have e1:=h1.2
 have e2:=h2.2
 cases st with
 | none =>
  simp only [TInv] at h ⊢
  subst h
  simp only [] at e1
  subst e1
  simp only [] at e2
  subst e2
  exact h3
 | some s =>
  cases s1 with
  | none =>
   simp only [TInv] at h
   simp only [] at e1
   subst e1
   simp only [] at e2
   subst e2
   have h4 : s4 = none:=h3
   subst h4
   exact h
  | some t1 =>
   simp only [TInv,tagsR] at h
   simp only [] at e1
   cases hx : XR t1 with
   | none =>
    rw [hx] at h e1
    simp only [] at e1
    subst e1
    simp only [] at e2
    subst e2
    have h4 : s4 = none:=h3
    subst h4
    exact h
   | some x =>
    rw [hx] at h e1
    obtain ⟨rfl,rfl⟩:=e1
    simp only [Option.bind_some] at h e2
    cases hy : XR x.2 with
    | none =>
     rw [hy] at h e2
     simp only [] at e2
     subst e2
     have h4 : s4 = none:=h3
     subst h4
     exact h
    | some y =>
     rw [hy] at h e2
     obtain ⟨rfl,rfl⟩:=e2
     simp only [Option.bind_some] at h
     simp only [VD,Uu] at h3
     rw [if_neg (by omega),Int.toNat_natCast] at h3
     cases hz : Yb4 y.1 y.2 with
     | none => rw [hz] at h h3;simp only [] at h3;subst h3;exact h
     | some z => rw [hz] at h h3;obtain ⟨rfl,rfl⟩:=h3;exact h
theorem tinv_end {st st' : Option (List UInt8)} {u : List (Nat × List UInt8)} (h : TInv st 0 u st') : Yl2 st u st':=by
 unfold Yl2
 cases st with
 | none => exact h
 | some s =>
  cases st' with
  | none => simp only [TInv] at h;simp only [h]
  | some s' => simp only [TInv,tagsR] at h;simp only [h,and_self]
theorem chg_cut {w w' : World} {rb : Nat} (h : Chg (fun j => j = rb ∨ w.heap.size ≤ j) w w') : Chg (· = rb) w w':=⟨h.os,h.tape,h.output,h.size,fun k hk hn => h.block k hk (by rintro (e | e);exact hn e;omega)⟩
theorem fn_tags (w : World) (rb sb lo : Nat) (st : Option (List UInt8)) (hr : Rdr w rb sb st) (h1 : rb < lo) (h2 : sb < lo) (h3 : lo ≤ w.heap.size) (h4 : rb ≠ sb) :
  Calls Tryz.prog 115 #[.pointer (some ⟨rb,0,none⟩)] w fun e w' => ∃ m u st',e = .returned (.agg #[m]) ∧ Chg (· = rb) w w' ∧ Rdr w' rb sb st' ∧ m.oneCell' = true ∧ Rep (Dk sb lo w') w' (XW u) [m] ∧ Yl2 st u st':=by
 refine enter Tryz.func115 rfl Tryz.ntmps115 rfl ?_
 refine Yd (Ya (YJ zv_tags rfl rfl (fun w1 hb1 hg1 hs1 => Yc (Yb ?_))))
 refine Yd (Ya (YJ zv_tags rfl rfl (fun w2 hb2 hg2 hs2 => Yc (Yb ?_))))
 have c1 : Chg (fun _ => False) w w1:=Chg.grown0 hg1
 have c2 : Chg (fun _ => False) w1 w2:=Chg.grown0 hg2
 have hb1':=hb1.chg c2 id
 have hr2:=(hr.chg c1 id id).chg c2 id id
 obtain ⟨B,hB⟩ : ∃ B,B = w.heap.size:=⟨_,rfl⟩
 rw [← hB] at hs1 hb1' h3
 rw [hs1] at hb2
 rw [hs1] at hs2
 refine Yd (Yd (Ya ?_))
 refine wt rfl rfl ?_
 refine Yo rfl (by kernel_rfl) rfl ((Jz w2 rb sb st hr2 h4).mono ?_)
 rintro en w3 ⟨n,st1,rfl,hc3,hr3,hrel⟩
 refine ⟨_,rfl,?_⟩
 refine wt rfl rfl ?_
 refine Yc (Yb ?_)
 have hrb1 : ¬ (fun j => j = rb) B:=fun e => by have : B = rb:=e;omega
 have hrb2 : ¬ (fun j => j = rb) (B + 1):=fun e => by have : B + 1 = rb:=e;omega
 have hs3:=hc3.size
 have c03 : Chg (fun j => j = rb ∨ B ≤ j) w w3:=((c1.trans c2).wide (fun _ h => h.elim)).trans (hc3.wide (fun j hj => .inl hj))
 refine Yr (Xu (α:=Nat) (fun j => [(0,.pointer (some ⟨rb,0,none⟩)),(2,.pointer (some ⟨B,0,none⟩)),(3,.pointer (some ⟨B + 1,0,none⟩)),(4,.int .u32 (j : Int))])
  (fun j w' => ∃ st' u m,j < 4294967296 ∧ Chg (fun j => j = rb ∨ B ≤ j) w w' ∧ Rdr w' rb sb st' ∧ Box w' B [.map none] 63 ∧ Box w' (B + 1) [m] 63 ∧ Jw w' sb (B + 2) m u ∧ TInv st j u st') (fun j => j) n
  ⟨rfl,by subst hB;rfl,by rw [← hs1];rfl,rfl,trivial⟩ ⟨st1,[],.map none,hrel.1,c03,hr3,hb1'.chg hc3 hrb1,hb2.chg hc3 hrb2,.inl ⟨rfl,rfl⟩,tinv_start hrel⟩ ?_)
 rintro j w4 ⟨s1,u,m,hj,hc4,hr4,hbA,hbB,htm,hinv⟩
 have hs4:=hc4.size
 have nrb : ∀ r,B + 2 ≤ r → r < w4.heap.size → ¬ (fun j => j = rb) r:=fun r h _ e => by have : r = rb:=e;omega
 cases j with
 | zero =>
  refine Yd (Yd (Ya ?_))
  refine wt rfl rfl ?_
  refine wt rfl rfl ?_
  refine Yc (Yb (Yu rfl (by simp) (Xk (Yw (Yq (YB (Yb ?_)))))))
  refine Yd (Ya ?_)
  refine YC (cs:=[m]) rfl ta_tags rfl hbB ?_
  refine Yn (vs:=[m]) rfl rfl rfl tz_tags (by
   rcases htm with ⟨rfl,_⟩ | ⟨r,rfl,_⟩ <;> rfl) hbA rfl (fun w5 hb5 hg5 hs5 => ?_)
  refine Yc (Yb (Ym (XT (cs:=[m]) rfl rfl ta_tags hb5 ?_)))
  have hc5 : Chg (· = B) w4 w5:=Chg.grown hg5
  have n5 : ∀ x : Nat,x < B ∨ B < x → ¬ (fun j => j = B) x:=fun x h e => by have : x = B:=e;omega
  have htm5:=htm.keep hc5 (fun r h _ => n5 r (by omega)) (n5 sb (by omega)) (by omega)
  refine ⟨m,u,s1,rfl,chg_cut (by rw [← hB];exact hc4.trans (hc5.wide (fun j hj => .inr (by have : j = B:=hj;omega)))),hr4.chg hc5 (n5 rb (by omega)) (n5 sb (by omega)),?_,?_,tinv_end hinv⟩
  ·rcases htm with ⟨rfl,_⟩ | ⟨r,rfl,_⟩ <;> rfl
  ·rcases htm5 with ⟨rfl,rfl⟩ | ⟨r,rfl,hlo,ht⟩
   ·exact .inl ⟨rfl,rfl⟩
   ·exact ht.rep (by omega) (by have:=hc5.size;omega)
 | succ j =>
  refine Yd (Yd (Ya ?_))
  refine wt rfl rfl ?_
  refine wt rfl rfl ?_
  refine Yc (Yb (Yp rfl (by simp) (Yh (Yb ?_))))
  refine Yd (Yr (Yd (Ya ?_)))
  refine wt rfl rfl ?_
  refine Yo rfl (by kernel_rfl) rfl ((Jz w4 rb sb s1 hr4 h4).mono ?_)
  rintro en w5 ⟨key,s2,rfl,hc5,hr5,hrel5⟩
  refine ⟨_,rfl,?_⟩
  refine wt rfl rfl ?_
  refine Yo rfl (by kernel_rfl) rfl ((Jz w5 rb sb s2 hr5 h4).mono ?_)
  rintro en w6 ⟨len,s3,rfl,hc6,hr6,hrel6⟩
  refine ⟨_,rfl,?_⟩
  refine wt rfl rfl ?_
  refine wt rfl rfl ?_
  refine Yc (Yb (Ya ?_))
  refine wt rfl rfl ?_
  refine wt rfl rfl ?_
  refine wt rfl rfl ?_
  have hlen:=hrel6.1
  refine YY .i64 (r:=(len : Int)) rfl (by kernel_rfl) (by kernel_rfl) rfl (by rw [IntKind.wrap_i64];omega) ?_
  refine Yo rfl (by kernel_rfl) rfl ((JN w6 rb sb s3 (len : Int) hr6 h4).mono ?_)
  rintro en w7 ⟨v,bs,s4,rfl,hc7,hr7,hsv,_,hspan⟩
  refine ⟨_,rfl,?_⟩
  have c47 : Chg (· = rb) w4 w7:=hc5.trans (hc6.trans hc7)
  have hs7:=c47.size
  have nB : ∀ x : Nat,B ≤ x → ¬ (fun j => j = rb) x:=fun x h e => by have : x = rb:=e;omega
  have hb7:=hbB.chg c47 (nB _ (by omega))
  have ht7:=htm.keep c47 nrb (fun e => h4 e.symm) (by omega)
  have hlt : B + 1 < w7.heap.size:=hb7.lt
  refine Yo rfl (by kernel_rfl) rfl ((fn_set w7 (B + 1) sb (B + 2) key v m u _ bs hb7 ht7 hsv (by omega) (by omega) (by omega) (by omega)).mono ?_)
  rintro en w8 ⟨rfl,m',hb8,ht8,hc8⟩
  refine ⟨_,rfl,?_⟩
  refine Yc (XS (Yb (Ya ?_)))
  refine wt rfl rfl ?_
  refine VS (r:=(j : Int)) rfl rfl rfl (by rw [IntKind.wrap_u32];omega) ?_
  refine wt rfl rfl ?_
  have n8 : ∀ x : Nat,x < B + 1 → ¬ (fun j => j = B + 1 ∨ B + 2 ≤ j) x:=fun x h e => by have : x = B + 1 ∨ B + 2 ≤ x:=e;omega
  refine Yc (YD j ⟨rfl,rfl,rfl,rfl,trivial⟩ ⟨s4,Vg key bs u,m',by omega,?_,hr7.chg hc8 (n8 rb (by omega)) (n8 sb (by omega)),(hbA.chg c47 (nB B (by omega))).chg hc8 (n8 B (by omega)),hb8,ht8,tinv_step hinv hrel5 hrel6 hspan⟩ (by omega))
  exact hc4.trans ((c47.wide (fun j hj => .inl hj)).trans (hc8.wide (fun j hj => .inr (by have : j = B + 1 ∨ B + 2 ≤ j:=hj;omega))))
end Rdk

namespace Rdk
open Go Go.RowKit
set_option maxRecDepth 100000
end Rdk

namespace Rdk
open Go Go.RowKit
theorem allRd_nil {P : Program} : ∀ x ∈ ([] : List (Nat × Rp)),RdC P x.1 x.2:=fun x h => by cases h
theorem Uj {P : Program} {f : Nat} {p : Rp} {l : List (Nat × Rp)} (h : RdC P f p) (hl : ∀ x ∈ l,RdC P x.1 x.2) : ∀ x ∈ (f,p) :: l,RdC P x.1 x.2:=fun x hx => by
 rcases List.mem_cons.1 hx with rfl | hm
 ·exact h
 ·exact hl x hm
theorem allLen_nil {P : Program} : ∀ x ∈ ([] : List (Nat × Bool)),LenC P x.1 x.2:=fun x h => by cases h
theorem Yj5 {P : Program} {f : Nat} {p : Bool} {l : List (Nat × Bool)} (h : LenC P f p) (hl : ∀ x ∈ l,LenC P x.1 x.2) : ∀ x ∈ (f,p) :: l,LenC P x.1 x.2:=fun x hx => by
 rcases List.mem_cons.1 hx with rfl | hm
 ·exact h
 ·exact hl x hm
theorem rpOf_mem : ∀ {l : List (Nat × Rp)} {f : Nat} {p : Rp},rpOf l f = some p → (f,p) ∈ l
 | [],_,_,h => by cases h
 | x :: l,f,p,h => by
  simp only [rpOf] at h
  cases hb : Nat.beq x.1 f with
  | true =>
   rw [hb] at h
   simp only [cond_true,Option.some.injEq] at h
   rw [← Ye hb,← h]
   exact List.mem_cons_self
  | false => rw [hb] at h;exact List.mem_cons_of_mem _ (rpOf_mem h)
theorem lcOf_mem : ∀ {l : List (Nat × Bool)} {f : Nat} {p : Bool},lcOf l f = some p → (f,p) ∈ l
 | [],_,_,h => by cases h
 | x :: l,f,p,h => by
  simp only [lcOf] at h
  cases hb : Nat.beq x.1 f with
  | true =>
   rw [hb] at h
   simp only [cond_true,Option.some.injEq] at h
   rw [← Ye hb,← h]
   exact List.mem_cons_self
  | false => rw [hb] at h;exact List.mem_cons_of_mem _ (lcOf_mem h)
def krFns : List (Nat × Rp) :=
 (105,.i8) ::
 (102,.i16) ::
 (104,.i32) ::
 (103,.i64) ::
 (114,.str) ::
 (113,.cstr) ::
 []
def krLens : List (Nat × Bool) :=
 (107,false) ::
 (106,true) ::
 []
theorem krFns_ok : ∀ x ∈ krFns,RdC Tryz.prog x.1 x.2 :=
 Uj rd_Int8 <|
 Uj rd_Int16 <|
 Uj rd_Int32 <|
 Uj rd_Int64 <|
 Uj rd_String <|
 Uj rd_CompactString <|
 allRd_nil
theorem krLens_ok : ∀ x ∈ krLens,LenC Tryz.prog x.1 x.2 :=
 Yj5 len_ArrayLen <|
 Yj5 len_CompactArrayLen <|
 allLen_nil
def kr : Kr where
 fns:=krFns
 lens:=krLens
 ok:=108
 comp:=109
 tags:=115
 rty:=154
theorem kr_ok (ev : Value) : KrOk Tryz.prog kr 1 ev where
 rd:=fun f p h _ => krFns_ok _ (rpOf_mem h)
 len:=fun f c h _ => krLens_ok _ (lcOf_mem h)
 tags:=fun _ w rb sb lo st hr h1 h2 h3 h4 => fn_tags w rb sb lo st hr h1 h2 h3 h4
 ok:=fun _ w rb sb st hr => fn_ok w rb sb st hr
 comp:=fun _ w rb sb st hr hg => VC w rb sb st ev hr hg
theorem kr_ty : KrTy Tryz.prog kr where
 built:=fun a n c => by kernel_rfl
 zero:=fun w => by kernel_rfl
 size:=by kernel_rfl
end Rdk

section
open Go Go.RowKit
def fldCells (f : Fld) : List Value:=[.int .i64 f.kind,.int .i64 f.fr,.int .i64 f.upto,.int .i64 f.nul,.int .i64 f.tag,.int .i64 f.df,.int .i64 f.of,.slice none 0 0]
theorem VA (ok : Nat → Prop) (w : World) : ∀ (f : Fld),f.sub.isEmpty = true → Rep ok w (fldD f) (fldCells f)
 | .mk a b c d e f g sub,h => by
  have : sub = []:=by cases sub with | nil => rfl | cons _ _ => simp [Fld.sub] at h
  subst this
  simp only [fldD,fldDs,Rep,YG]
  exact ⟨[_],_,rfl,rfl,[_],_,rfl,rfl,[_],_,rfl,rfl,[_],_,rfl,rfl,[_],_,rfl,rfl,[_],_,rfl,rfl,[_],_,rfl,rfl,[_],_,rfl,⟨none,0,rfl,by simp,.inl (by simp)⟩,rfl⟩
def Frs (lo hi : Nat) : Nat → Prop:=fun b => lo ≤ b ∧ b < hi
theorem rep_fr {lo : Nat} {w w' : World} {d : D} {cs : List Value} {lo' : Nat} (h : Rep (Frs lo w.heap.size) w d cs) (hb : Below w.heap.size w w') (hl : lo' ≤ lo) : Rep (Frs lo' w'.heap.size) w' d cs :=
 Rep.mono (fun b k => ⟨⟨Nat.le_trans hl k.1,Nat.lt_of_lt_of_le k.2 hb.size⟩,hb.block b k.2⟩) _ _ h
theorem rep_frw {lo lo' hi : Nat} {w : World} {d : D} {cs : List Value} (h : Rep (Frs lo hi) w d cs) (hl : lo' ≤ lo) : Rep (Frs lo' hi) w d cs :=
 Rep.mono (fun _ k => ⟨⟨Nat.le_trans hl k.1,k.2⟩,rfl⟩) _ _ h
theorem rep_sqshape {ok : Nat → Prop} {w : World} {v : Value} {ds : List D} (h : Rep ok w (.sq ds) [v]) : ∃ a c,v = .slice a ds.length c:=by
 simp only [Rep] at h
 obtain ⟨a,c,e,_⟩:=h
 exact ⟨a,c,by simpa using e⟩
theorem reps_fnil {ok : Nat → Prop} {w : World} : YG ok w (([] : List Fld).map fldD) ([] : List (List Value)).flatten:=by simp [YG]
theorem XM {ok : Nat → Prop} {w : World} {f : Fld} {fs : List Fld} {c : List Value} {cs : List (List Value)} (h : Rep ok w (fldD f) c) (hl : YG ok w (fs.map fldD) cs.flatten) : YG ok w ((f :: fs).map fldD) (c :: cs).flatten:=by
 simp only [List.map_cons,List.flatten_cons,YG]
 exact ⟨_,_,rfl,h,hl⟩
theorem rep_fldS {ok : Nat → Prop} {w : World} {a b c d e f g : Int} {sub : List Fld} {v : Value} (h : Rep ok w (.sq (sub.map fldD)) [v]) : Rep ok w (fldD (.mk a b c d e f g sub)) [.int .i64 a,.int .i64 b,.int .i64 c,.int .i64 d,.int .i64 e,.int .i64 f,.int .i64 g,v]:=by
 have h2 : Rep ok w (.sq (fldDs sub)) [v]:=by rw [fldDs_map];exact h
 simp only [fldD,Rep,YG] at h2 ⊢
 exact ⟨[_],_,rfl,rfl,[_],_,rfl,rfl,[_],_,rfl,rfl,[_],_,rfl,rfl,[_],_,rfl,rfl,[_],_,rfl,rfl,[_],_,rfl,rfl,[_],_,rfl,h2,rfl⟩
section
variable {P : Program} {ops : Array Oper} {Q : Exit → Act → World → Prop} {N : Nat} {rest : List Oper} {L : Sl} {w : World} {d : Nat} {ty : TypeId} {pos : String} {aft : Array Edge}
theorem Jc {x : Operand} {t u : TypeId} (hx : ev L x = some .nilIface) (ht : (match P.underlying t with | some (.interface _) => true | _ => false) = true) (hd : Nat.blt d N = true) (h : WL rest P ops Q N ((d,.bool false) :: L) w) :
  WL (⟨some d,.binOp .neq t x (.const .nilIface) u,ty,pos,aft,none⟩ :: rest) P ops Q N L w:=by
 intro a k
 split at ht
 ·rename_i ms hu
  refine Xh (o:=⟨some d,.binOp .neq t x (.const .nilIface) u,ty,pos,aft,none⟩) (v:=.bool false) (w':=w) rfl ?_ (h _ (k.put _ hd))
  simp only [execOp,k.eval hx,XD]
  have h : ∀ d : Nat,(Op.equalIn (d + 1) t .nilIface .nilIface).run P w = .ok true w:=fun d => by
   simp [Op.equalIn,run_underlying hu]
  simp only [eqGuard,binOp]
  simp [Op.equal,Op.maxDepth,h 9999]
 ·cases ht
end
theorem own_src {w : World} {B u8 : Nat} {d : Value} {s : List UInt8} (h : Own w B u8 d s) (hl : s.length ≤ srcLim) (hx : 0 < B) (hw : 0 < w.heap.size) : ∃ sb,sb < w.heap.size ∧ (sb = 0 ∨ B ≤ sb) ∧ SrcAt w sb d s:=by
 obtain ⟨hxl,⟨rfl,h0⟩ | ⟨g,cap,cur,rfl,hBg,hheap,hle,hcap,hcs,htake⟩⟩:=id h
 ·exact ⟨0,hw,.inl rfl,hl,.inl ⟨rfl,List.length_eq_zero_iff.1 h0,rfl⟩⟩
 ·refine ⟨g,(Array.getElem?_eq_some_iff.1 hheap).1,.inr hBg,hl,.inr ⟨0,cap,rfl,hle,⟨cur,_,_,hheap,?_,?_⟩,by omega⟩⟩
  ·rw [Xp];omega
  ·intro i v hv
   rw [Nat.zero_add]
   rw [← htake,List.getElem?_take] at hv
   split at hv
   ·simpa using hv
   ·cases hv
theorem chg_below {S : Nat → Prop} {B : Nat} {w w' : World} (h : Chg S w w') (hS : ∀ j,j < B → ¬ S j) (hB : B ≤ w.heap.size) : Below B w w':=⟨h.os,h.tape,h.output,h.size,fun k hk => h.block k (by omega) (hS k hk)⟩
end
end Go.Proofs.YtlmnaffhadeolaaGreatDoor
