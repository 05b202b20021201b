/- FnTellTxnMetadataValue: the row, and its card, its one listed variable tied to the program's text (the tie is given). Conditions: those of the row, no Xj. -/
import Derived.Test.YtlmnaffhadeolaaGreatDoorPartH
import Derived.Test.YtlmnaffhadeolaaGreatDoorPartA
import Derived.ProofKit
import Derived.OpenShut
import Derived.Test.YtlmnaffhadeolaaGreatDoorPartE
import Derived.Test.YtlmnaffhadeolaaGreatDoorPartF
import Derived.Test.YtlmnaffhadeolaaGreatDoorPartG
import Derived.Test.YtlmnaffhadeolaaGreatDoorRows
import Derived.Test.YtlmnaffhadeolaaGreatDoorCards
import Derived.Test.YtlmnaffhadeolaaGreatDoorTie
import Derived.ChangeSame
import Derived.ChangeVars
import Derived.JoinedOf
import Derived.RowKit
import Derived.RowKitTokens
import Derived.LaidLaws
import Derived.LaidHandle
import Derived.Stop.Joined
import Derived.SevenTiedAt
set_option linter.all false
namespace Go.Proofs.YtlmnaffhadeolaaGreatDoor.BTxnMetadataValue
open Go Go.RowKit
open Txr (m sTxnMetadataValueTopic)
section
set_option maxRecDepth 100000
theorem len_ok (t : Tree) (ht : t.ok) (ver : Int) (flex : Bool) : 1000 + (Xc ver flex m.fields t).length ≤ lim:=Txr.tx_len ver flex t ht
set_option maxHeartbeats 4000000 in
theorem fn_law (n : Nat) (hn : n < 256) (t : Tree) (ht : t.ok) (w : World) (u : TypeId) (x : Value) (ts : List Value) (hrep : Rep (Lo w.heap.size) w (treeD t) ts) (hg : w.cell? ⟨1,0,none⟩ = some (.iface u x)) :
  Fn 3 [.int .u8 (n : Int),.agg ts.toArray] w fun v _ => v = .bool true:=by
 obtain ⟨sv2,lv,uv,rfl,_,_,_⟩:=Xi hrep
 refine enter Tryz.func3 rfl Tryz.ntmps3 rfl ?_
 repeat (with_reducible first|apply Yd|apply Ya)
 refine XF rfl rfl rfl (fun w1 hb1 hg1 hs1 => ?_)
 have hw1 : Below w.heap.size w w1:=Yg hg1 (Nat.le_refl _) (by simp)
 repeat first|(with_reducible first|apply Yd|apply Ya|apply Yc|apply Yb)|((with_reducible apply ws);exact rfl;exact rfl)
 refine YC (cs:=[.int .i64 t.n,sv2,.bool t.nul,lv,uv]) rfl ta_tree rfl hb1 ?_
 skip
 refine Yo rfl (by kernel_rfl) rfl ((fn_fits1 t w.heap.size w1 _ (by omega) (hrep.below hw1 (Nat.le_refl _))).mono ?_)
 rintro e w2 ⟨v,rfl,hw12,q,rfl⟩
 refine ⟨_,rfl,?_⟩
 have hz12:=hw12.size
 have hw2:=hw1.trans (hw12.mono (by omega))
 repeat first|(with_reducible first|apply Yc|apply Yb)|((with_reducible apply ws);exact rfl;exact rfl)
 cases q
 ·refine Yp rfl rfl ?_
  repeat first|(with_reducible first|apply Yd|apply Ya|apply Yc|apply Yb|apply Ym|apply Yj)|((with_reducible apply ws);exact rfl;exact rfl)
  exact Yk rfl rfl ⟨_,rfl,hw2,rfl⟩
 refine Yu rfl rfl ?_
 repeat (with_reducible first|apply Yd|apply Ya|apply Yb|apply Yh)
 refine Yo rfl (by kernel_rfl) rfl ((fn_table w2).mono ?_)
 rintro e w4 ⟨v,rfl,hw24,fv,rfl,hsq⟩
 refine ⟨_,rfl,?_⟩
 have hz24:=hw24.size
 have hw14:=hw12.trans (hw24.mono (by omega))
 have hw4:=hw2.trans (hw24.mono (by omega))
 repeat ((with_reducible apply ws);exact rfl;exact rfl)
 refine YY .i64 rfl ti_u8 ti_i64 rfl (r:=(n : Int)) (by rw [IntKind.wrap_i64];omega) ?_
 refine wl_rem rfl rfl rfl (by omega) (by omega) (r:=((n % 2 : Nat) : Int)) (by push_cast;rfl) ?_
 refine YJ zv_msg rfl rfl (fun w5 hb5 hg5 hs5 => ?_)
 obtain ⟨fa,fc,rfl,_⟩:=hsq.shape
 refine Yn (vs:=[.slice fa (m.fields.map fldD).length fc,.int .i64 m.flex]) rfl rfl rfl tz_msg rfl hb5 rfl (fun w6 hb6 hg6 hs6 => ?_)
 have hw46 : Below w4.heap.size w4 w6:=(Yg hg5 (Nat.le_refl _) (by simp)).trans (Yg hg6 (by omega) (by intro q hq;simp at hq;omega))
 have hz46:=hw46.size
 have hw16:=hw14.trans (hw46.mono (by omega))
 have hw6:=hw4.trans (hw46.mono (by omega))
 repeat first|(with_reducible first|apply Yd|apply Ya|apply Yc|apply Yb)|((with_reducible apply ws);exact rfl;exact rfl)
 have hv : n % 2 < 2:=Nat.mod_lt n (by omega)
 generalize n % 2 = v at hv ⊢
 have hll:=len_ok t ht (v : Int) (m.flexible (v : Int))
 refine YC (cs:=[.slice fa (m.fields.map fldD).length fc,.int .i64 m.flex]) rfl ta_msg rfl hb6 ?_
 repeat ((with_reducible apply ws);exact rfl;exact rfl)
 refine YC (cs:=[.int .i64 t.n,sv2,.bool t.nul,lv,uv]) rfl ta_tree rfl (hb1.below hw16 hb1.lt) ?_
 refine Yo rfl (by kernel_rfl) rfl ((fn_kept m m_ok (v : Int) t w6.heap.size w6 _ _ ht (Nat.le_refl _) (hsq.below hw46 hz46) ((hrep.below hw6 hw6.size)) (by simp only [List.length_append,be_size];show 2 + (Xc _ _ _ _).length ≤ lim;omega)).mono ?_)
 rintro e w7 ⟨bv7,rfl,hw67,ho7⟩
 refine ⟨_,rfl,?_⟩
 have hz67:=hw67.size
 have hz6:=hw6.size
 have hw7:=hw6.trans (hw67.mono (by omega))
 have hg7 : w7.cell? ⟨1,0,none⟩ = some (.iface u x):=by rw [← hg];simp only [World.cell?,hw7.block _ (World.block_lt_of_cell? _ _ hg)]
 skip
 refine Yo rfl (by kernel_rfl) rfl ((fn_door v hv t ht w7 u x _ _ rfl (by simp only [List.length_append,be_size];show 2 + (Xc _ _ _ _).length ≤ lim;omega) ho7.bytes hg7).mono ?_)
 rintro e w8 ⟨cs8,T,rfl,hr8,hsm8,hn8,hto8,hw78⟩
 refine ⟨_,rfl,?_⟩
 have hz78:=hw78.size
 have hw8:=hw7.trans (hw78.mono (by omega))
 obtain ⟨hone8,hlen8⟩:=Yd8 hr8
 obtain ⟨sv8,lv8,uv8,hcs8,_,_,_⟩:=Xi hr8
 repeat ((with_reducible apply ws);exact rfl;exact rfl)
 refine wl_extract rfl rfl rfl ?_
 refine wl_extract rfl rfl rfl ?_
 refine YJ Impl.zv_tree rfl rfl (fun w9 hb9 hg9 hs9 => ?_)
 refine Yn (vs:=cs8) rfl rfl rfl (by rw [hlen8];exact Impl.tz_tree) hone8 hb9 (by rw [hlen8];rfl) (fun w10 hb10 hg10 hs10 => ?_)
 have hw810 : Below w8.heap.size w8 w10:=(Yg hg9 (Nat.le_refl _) (by simp)).trans (Yg hg10 (by omega) (by intro q hq;simp at hq;omega))
 have hz810:=hw810.size
 have hz7:=hw7.size
 have hw10:=hw8.trans (hw810.mono (by omega))
 have hw610 : Below w6.heap.size w6 w10:=(hw67.trans (hw78.mono (by omega))).trans (hw810.mono (by omega))
 have hw110:=hw16.trans (hw610.mono (by omega))
 have hb610:=hb6.below hw610 hb6.lt
 have hr10 : Rep (Lo w10.heap.size) w10 (treeD T) cs8:=Rep.below hr8 hw810 hz810
 repeat first|(with_reducible first|apply Yd|apply Yc|apply Yb)|((with_reducible apply ws);exact rfl;exact rfl)
 refine XJ [(0,.bool true),(1,.bool true),(2,.pointer (some ⟨w8.heap.size,0 + 0,none⟩)),(3,.int .i64 (v : Int)),(4,.int .i64 (v : Int)),(5,.bool true),(6,.bool true),(7,.bool true),(8,.pointer (some ⟨w4.heap.size,0 + 0,none⟩)),(9,.slice fa (m.fields.map fldD).length fc),(10,.int .i64 (v : Int)),(11,.agg ([.slice fa (m.fields.map fldD).length fc,.int .i64 m.flex] : List Value).toArray),(12,.int .i64 (v : Int)),(14,.agg ([.int .i64 t.n,sv2,.bool t.nul,lv,uv] : List Value).toArray),(15,.agg cs8.toArray)] [19,18,17,16,13]
  (fun vals w' => Below w10.heap.size w10 w' ∧ match vals with
   | [] => True
   | [v7] => v7 = .bool (m.flexible (v : Int))
   | [v10,v7] => v7 = .bool (m.flexible (v : Int)) ∧ ∃ cs : List Value,v10 = .agg cs.toArray ∧ Rep (In w10.heap.size w10.heap.size w') w' (treeD T) cs
   | v :: _ => v = .bool true)
  mixed rfl rfl rfl rfl rfl (by show ([0,1,2,3,4,5,6,7,8,9,10,11,12,14,15] : List Nat).Nodup;decide) rfl rfl (by decide) rfl rfl rfl rfl ⟨(Below.refl _ w10).drew,trivial⟩ ?_ ⟨?_,?_,?_,?_,?_,trivial⟩ ?_
 ·intro p hp vals w' hC a k
  simp only [List.mem_cons,List.not_mem_nil,or_false] at hp
  rcases hp with rfl | rfl | rfl | rfl | rfl | rfl | rfl | rfl | rfl | rfl | rfl | rfl | rfl | rfl | rfl
  ·exact gv rfl rfl (Yl k rfl)
  ·exact gv rfl rfl (Yl k rfl)
  ·exact YO rfl rfl rfl k rfl rfl (Yi k rfl foI0)
  ·exact YO rfl rfl rfl k rfl rfl (Yy k rfl to_int' ((hb10.below hC.1 (by omega)).cell0 (i:=0) (by rw [hcs8,hn8];rfl)))
  ·exact YO rfl rfl rfl k rfl rfl (Yl k rfl)
  ·exact YO rfl rfl rfl k rfl rfl ((rn_eql k rfl rfl).trans (by simp))
  ·exact gv rfl rfl (Uc k rfl rfl)
  ·exact gv rfl rfl (Yl k rfl)
  ·exact YO rfl rfl rfl k rfl rfl (Yi k rfl fo_msg0)
  ·exact YO rfl rfl rfl k rfl rfl (Yy k rfl to_flds ((hb610.below hC.1 (by omega)).cell0 (i:=0) rfl))
  ·exact YO rfl rfl rfl k rfl rfl (Yl k rfl)
  ·exact YO rfl rfl rfl k rfl rfl (YX k rfl ta_msg (hb610.below hC.1 (by omega)))
  ·exact YO rfl rfl rfl k rfl rfl (Yl k rfl)
  ·exact YO rfl rfl rfl k rfl rfl (YX k rfl ta_tree ((hb1.below hw110 hb1.lt).below hC.1 (by omega)))
  ·exact YO rfl rfl rfl k rfl rfl (YX k rfl (by rw [hlen8];exact Impl.ta_tree) (hb10.below hC.1 (by omega)))
 ·rintro vals w' hvl ⟨hb',hC⟩ a k
  match vals,hvl with
  | [v12,v11,v10,v7],_ => exact ⟨_,rfl,Xr k rfl ⟨hb',hC⟩⟩
 ·rintro vals w' hvl ⟨hb',hC⟩ a k
  match vals,hvl with
  | [v11,v10,v7],_ =>
   simp only [] at hC
   subst hC
   exact ⟨_,rfl,Yk0 (b:=true) (v:=.bool true) k rfl rfl ⟨hb',rfl⟩⟩
 ·rintro vals w' hvl ⟨hb',hC⟩ a k
  match vals,hvl with
  | [v10,v7],_ =>
   obtain ⟨rfl,cs,rfl,hr⟩:=hC
   have hz':=hb'.size
   refine ⟨_,rfl,Yz k rfl (by kernel_rfl) ((to_ok (v : Int) (m.flexible (v : Int)) m.fields m_ok tabT_m t T w'.heap.size w' _ _ _ ht (Nat.le_refl _) (hsq.below ((hw46.trans (hw610.mono (by omega))).trans (hb'.mono (by omega))) (by omega)) (Rep.below hrep (hw10.trans (hb'.mono (by have:=hw10.size;omega))) (by have:=hw10.size;omega)) (hr.up (fun r hr => hr.2) (fun _ _ => rfl)) hto8).mono ?_)⟩
   rintro e w'' ⟨v,rfl,hb'',rfl⟩
   exact ⟨_,rfl,hb'.trans (hb''.mono hb'.size),rfl⟩
 ·rintro vals w' hvl ⟨hb',hC⟩ a k
  match vals,hvl with
  | [v7],_ =>
   simp only [] at hC
   have hz':=hb'.size
   refine ⟨_,rfl,Yz k rfl (by kernel_rfl) ((Got.got_ok T w10.heap.size w' _ hsm8 hz' (Rep.below hr10 hb' (Nat.le_refl _))).mono ?_)⟩
   rintro e w'' ⟨v,rfl,hb'',cs,rfl,hr⟩
   exact ⟨_,rfl,hb'.trans (hb''.mono hb'.size),hC,cs,rfl,hr.up (fun r hr => ⟨hr.1.imp (fun h => h) (fun h => by omega),hr.2⟩) (fun _ _ => rfl)⟩
 ·rintro vals w' hvl ⟨hb',hC⟩ a k
  match vals,hvl with
  | [],_ =>
   refine ⟨_,rfl,Yz k rfl (by kernel_rfl) ((fn_flexM m (v : Int) _ w').mono ?_)⟩
   rintro e w'' ⟨v,rfl,hb'',rfl⟩
   exact ⟨_,rfl,hb'.trans (hb''.mono hb'.size),rfl⟩
 ·rintro vals w' hvl ⟨hb',hC⟩
  match vals,hvl with
  | [v13,v12,v11,v10,v7],_ =>
   simp only [] at hC
   subst hC
   refine Yb ?_
   repeat (with_reducible apply Ym)
   exact Yk rfl rfl ⟨_,rfl,hw10.trans (hb'.mono hw10.size),rfl⟩
end
end Go.Proofs.YtlmnaffhadeolaaGreatDoor.BTxnMetadataValue

namespace Go.Proofs.YtlmnaffhadeolaaGreatDoor
open Go Go.RowKit Go.ChangeShapes Go.WideShapes Go.ChangeAt
theorem row_at {W : World} {a : Addr} {sz len : Nat} {f : Nat → List Value} (hsz : 0 < sz) (hlen : 0 < len)
  (hf : ∀ i,i < len → (f i).length = sz ∧ ∀ j v,(f i)[j]? = some v → W.cell? ((a.add (i * sz)).add j) = some v) :
  ∃ b off,a = ⟨b,off,none⟩ ∧ b < W.heap.size ∧ YE W b off ((List.range len).flatMap f):=by
 have h0:=hf 0 hlen
 obtain ⟨b,off,spot⟩:=a
 have hx : ∃ v,(f 0)[0]? = some v:=by
  cases hv : (f 0)[0]? with
  | none => rw [List.getElem?_eq_none_iff] at hv;omega
  | some v => exact ⟨v,rfl⟩
 obtain ⟨v0,hv0⟩:=hx
 have hc0:=h0.2 0 v0 hv0
 have hspot : spot = none:=by simpa [Addr.add] using World.cell?_spot hc0
 subst hspot
 simp only [Nat.zero_mul] at hc0
 have hadd : ∀ n m,(Addr.add (Addr.add ⟨b,off,none⟩ n) m) = ⟨b,off + n + m,none⟩:=fun n m => by rw [YT ⟨b,off,none⟩ n rfl];rw [YT _ _ rfl]
 rw [hadd] at hc0
 have hobj : ∃ arr e fz,W.heap[b]? = some (.cells arr e fz):=by
  unfold World.cell? at hc0
  split at hc0
  ·rename_i c e fz hh;exact ⟨c,e,fz,hh⟩
  ·cases hc0
 obtain ⟨arr,e,fz,hh⟩:=hobj
 have hall : ∀ i j v,i < len → (f i)[j]? = some v → arr[off + i * sz + j]? = some v:=by
  intro i j v hi hv
  have:=(hf i hi).2 j v hv
  rw [hadd] at this
  simpa [World.cell?,hh] using this
 have hflat : ∀ n,n ≤ len → ((List.range n).flatMap f).length = n * sz ∧ ∀ q v,((List.range n).flatMap f)[q]? = some v → arr[off + q]? = some v:=by
  intro n
  induction n with
  | zero => intro _;simp
  | succ n ih =>
   intro hn
   obtain ⟨hl,hq⟩:=ih (by omega)
   rw [List.range_succ,List.flatMap_append]
   simp only [List.flatMap_cons,List.flatMap_nil,List.append_nil]
   refine ⟨by rw [List.length_append,hl,(hf n (by omega)).1,Nat.succ_mul],fun q v hv => ?_⟩
   by_cases hlt : q < n * sz
   ·rw [List.getElem?_append_left (by omega)] at hv;exact hq q v hv
   ·rw [List.getElem?_append_right (by omega),hl] at hv
    have:=hall n (q - n * sz) v (by omega) hv
    rwa [show off + n * sz + (q - n * sz) = off + q from by omega] at this
 obtain ⟨hl,hq⟩:=hflat len (Nat.le_refl _)
 refine ⟨b,off,rfl,(Array.getElem?_eq_some_iff.1 hh).1,arr,e,fz,hh,?_,hq⟩
 have hpos : 0 < len * sz:=Nat.mul_pos hlen hsz
 have hlast : ∃ v,((List.range len).flatMap f)[len * sz - 1]? = some v:=by
  cases hv : ((List.range len).flatMap f)[len * sz - 1]? with
  | none => rw [List.getElem?_eq_none_iff] at hv;omega
  | some v => exact ⟨v,rfl⟩
 obtain ⟨v,hv⟩:=hlast
 have:=(Array.getElem?_eq_some_iff.1 (hq _ v hv)).1
 rw [hl];omega
theorem sum_le : ∀ (a b : List Nat),a.length = b.length → (∀ i (h : i < a.length) (h' : i < b.length),a[i] ≤ b[i]) → a.sum ≤ b.sum
 | [],b,_,_ => by simp
 | x :: a,[],h,_ => by simp at h
 | x :: a,y :: b,h,hall => by
  have h0:=hall 0 (by simp) (by simp)
  have h1:=sum_le a b (by simpa using h) (fun i hi hi' => by have:=hall (i + 1) (by simpa using hi) (by simpa using hi');simpa using this)
  simp only [List.getElem_cons_zero] at h0
  simp only [List.sum_cons];omega
section
variable {H : Type} {enc : TypeId × Value → H} {P : Program} {W : World} {base : Nat} {spare : Nat → Bool} {held : Bool}
theorem open_sq {α : Type} {t e sz : Nat} (ht : P.underlying t = some (.slice e)) (hc : P.cellsOf e = sz) (hsz : 0 < sz) (g : α → D) (φ : α → Prop) (f0 : α → Nat) (bk : DataW H → Nat) (hnil : 1 ≤ bk .nil) (hsl : ∀ es sp : List (DataW H),(es.map bk).sum + 1 ≤ bk (.slice es sp)) {fuel : Nat} {cs : List Value} {x : DataW H × List MemPlace}
  (h : DataW.trod enc P W base spare held fuel t cs = some x)
  (hel : ∀ n cs' x',n < fuel → DataW.trod enc P W base spare held n e cs' = some x' → ∃ y : α,Rep (Lo W.heap.size) W (g y) cs' ∧ φ y ∧ f0 y ≤ bk x'.1) :
  ∃ (l : List α) (v : Value),cs = [v] ∧ l.length ≤ maxLen ∧ Sq W.heap.size W v (l.map g) ∧ (∀ y ∈ l,φ y) ∧ (l.map f0).sum + 1 ≤ bk x.1:=by
 rcases DataW.trod_slice ht h with ⟨rfl,rfl⟩ | ⟨a,len,cap,elems,rest,n,hfu,rfl,rfl,hb,hle,hcap,hlen,hels,_,_⟩
 ·exact ⟨[],_,rfl,by simp,rep_nil _ _,by simp,by simpa using hnil⟩
 ·have hone : ∀ i : Fin len,∃ p : List Value × α,W.cells? base (a.add (i.1 * sz)) sz = some p.1 ∧ Rep (Lo W.heap.size) W (g p.2) p.1 ∧ φ p.2 ∧ f0 p.2 ≤ bk (elems[i.1]'(by have:=i.2;omega)).1:=by
   intro ⟨i,hi⟩
   have h1:=hels i hi
   rw [List.getElem?_eq_getElem (by omega),hc] at h1
   obtain ⟨cs',h2,h3⟩:=Option.bind_eq_some_iff.1 h1
   obtain ⟨y,hy,hφ⟩:=hel n cs' _ (by omega) h3
   exact ⟨(cs',y),h2,hy,hφ⟩
  let F : Fin len → List Value × α:=fun i => Classical.choose (hone i)
  have hF : ∀ i : Fin len,W.cells? base (a.add (i.1 * sz)) sz = some (F i).1 ∧ Rep (Lo W.heap.size) W (g (F i).2) (F i).1 ∧ φ (F i).2 ∧ f0 (F i).2 ≤ bk (elems[i.1]'(by have:=i.2;omega)).1:=fun i => Classical.choose_spec (hone i)
  let f : Nat → List Value:=fun i => if hi : i < len then (F ⟨i,hi⟩).1 else []
  let l : List α:=List.ofFn fun i => (F i).2
  have hll : l.length = len:=by simp [l]
  have hφ : ∀ y ∈ l,φ y:=by
   intro y hy
   obtain ⟨i,hi⟩:=(List.mem_ofFn).1 hy
   rw [← hi];exact (hF i).2.2.1
  have hsum : (l.map f0).sum + 1 ≤ bk (.slice (elems.map (·.1)) (rest.map (·.1))):=by
   refine Nat.le_trans (Nat.succ_le_succ (sum_le (l.map f0) ((elems.map (·.1)).map bk) (by simp [hll,hlen]) (fun i hi hi' => ?_))) (hsl _ _)
   have hi2 : i < len:=by simpa [hll] using hi
   have:=(hF ⟨i,hi2⟩).2.2.2
   simpa [l] using this
  refine ⟨l,_,rfl,by rw [hll];omega,?_,hφ,hsum⟩
  simp only [Sq,Rep]
  refine ⟨some a,cap,by simp [hll],by simpa [hll] using hle,?_⟩
  by_cases hpos : 0 < len
  ·have hfi : ∀ i,i < len → (f i).length = sz ∧ ∀ j v,(f i)[j]? = some v → W.cell? ((a.add (i * sz)).add j) = some v:=by
    intro i hi
    have h1:=(hF ⟨i,hi⟩).1
    have h2:=World.cells?_some h1
    simp only [f,dif_pos hi]
    refine ⟨h2.2.1,fun j v hj => ?_⟩
    have:=h2.2.2 j (by have:=(List.getElem?_eq_some_iff.1 hj).1;omega)
    rw [this];exact hj
   obtain ⟨b,off,rfl,hlt,hcells⟩:=row_at hsz hpos hfi
   refine .inr ⟨b,off,_,rfl,hlt,hcells,?_⟩
   have hreps : ∀ n,n ≤ len → YG (Lo W.heap.size) W ((l.take n).map g) ((List.range n).flatMap f):=by
    intro n
    induction n with
    | zero => intro _;simp [YG]
    | succ n ih =>
     intro hn
     have hnl : n < l.length:=by omega
     rw [List.take_succ_eq_append_getElem hnl,List.map_append,List.range_succ,List.flatMap_append]
     refine (YG.app _ _ _).2 ⟨_,_,rfl,ih (by omega),?_⟩
     simp only [List.map_cons,List.map_nil,List.flatMap_cons,List.flatMap_nil,List.append_nil,YG]
     refine ⟨f n,[],by simp,?_,rfl⟩
     have hln : l[n] = (F ⟨n,by omega⟩).2:=by simp [l]
     have hfn : f n = (F ⟨n,by omega⟩).1:=by simp only [f];rw [dif_pos (by omega)]
     rw [hln,hfn];exact (hF ⟨n,by omega⟩).2.1
   have:=hreps len (Nat.le_refl _)
   rwa [List.take_of_length_le (by omega)] at this
  ·have : l = []:=List.length_eq_zero_iff.1 (by omega)
   left;rw [this];rfl
end
end Go.Proofs.YtlmnaffhadeolaaGreatDoor

namespace Go.Proofs.YtlmnaffhadeolaaGreatDoor
open Go Go.RowKit Go.ChangeShapes Go.WideShapes Go.ChangeAt
theorem co_i64 : Tryz.prog.cellsOf 2 = 1:=by kernel_rfl
theorem co_u8 : Tryz.prog.cellsOf 5 = 1:=by kernel_rfl
theorem co_u32 : Tryz.prog.cellsOf 77 = 1:=by kernel_rfl
theorem co_bool : Tryz.prog.cellsOf 4 = 1:=by kernel_rfl
theorem co_bytes : Tryz.prog.cellsOf 22 = 1:=by kernel_rfl
theorem co_trees : Tryz.prog.cellsOf 23 = 1:=by kernel_rfl
theorem co_tags : Tryz.prog.cellsOf 24 = 1:=by kernel_rfl
theorem co_tree : Tryz.prog.cellsOf 26 = 5:=by kernel_rfl
theorem co_tag : Tryz.prog.cellsOf 79 = 2:=by kernel_rfl
theorem len2 {α : Type} {l : List α} (h : l.length = 2) : ∃ a b,l = [a,b]:=by
 match l,h with
 | [a,b],_ => exact ⟨a,b,rfl⟩
theorem len5 {α : Type} {l : List α} (h : l.length = 5) : ∃ a b c d e,l = [a,b,c,d,e]:=by
 match l,h with
 | [a,b,c,d,e],_ => exact ⟨a,b,c,d,e,rfl⟩
section
set_option maxRecDepth 100000
variable {H : Type} {enc : TypeId × Value → H} {W : World} {base : Nat} {spare : Nat → Bool} {held : Bool}
theorem bk_all {l : List (DataW H)} : Rows.uptoBulkAll l = (l.map Rows.uptoBulk).sum:=by
 induction l with
 | nil => rfl
 | cons x l ih => simp only [Rows.uptoBulkAll,List.map_cons,List.sum_cons,ih]
theorem bk_sl (es sp : List (DataW H)) : (es.map Rows.uptoBulk).sum + 1 ≤ Rows.uptoBulk (.slice es sp):=by
 simp only [Rows.uptoBulk,bk_all];omega
theorem bk_agg (es : List (DataW H)) : (es.map Rows.uptoBulk).sum + 1 ≤ Rows.uptoBulk (.agg es):=by
 simp only [Rows.uptoBulk,bk_all];omega
theorem bk_int (k : IntKind) (n : Int) : 1 ≤ Rows.uptoBulk (H:=H) (.lit (.int k n)):=by simp [Rows.uptoBulk]
theorem bk_nil : 1 ≤ Rows.uptoBulk (H:=H) .nil:=by simp [Rows.uptoBulk]
theorem wts_sum (l : List Tree) : Tree.wts l = (l.map Tree.wt).sum:=by
 induction l with
 | nil => rfl
 | cons x l ih => simp only [Tree.wts,List.map_cons,List.sum_cons,ih]
theorem ones_sum {α : Type} (l : List α) : (l.map fun _ => 1).sum = l.length:=by
 induction l with
 | nil => rfl
 | cons x l ih => simp only [List.map_cons,List.sum_cons,List.length_cons,ih];omega
theorem Yr0 {fuel : Nat} {cs : List Value} {x : DataW H × List MemPlace} (h : DataW.trod enc Tryz.prog W base spare held fuel 22 cs = some x) :
  ∃ (s : List UInt8) (v : Value),cs = [v] ∧ s.length ≤ maxLen ∧ Sq W.heap.size W v (s.map YF) ∧ s.length + 1 ≤ Rows.uptoBulk x.1:=by
 obtain ⟨l,v,h1,h2,h3,_,h5⟩:=open_sq (e:=5) (sz:=1) Tryz.underlying22 co_u8 (by omega) YF (fun _ => True) (fun _ => 1) Rows.uptoBulk bk_nil bk_sl h (fun n cs' x' _ hx => by
  obtain ⟨m,rfl,hxe,hw⟩:=DataW.trod_int Tryz.underlying5 hx
  have hm : 0 ≤ m ∧ m ≤ 255:=by simpa [Lit.wf,IntKind.min,IntKind.max,IntKind.signed,IntKind.bits] using hw
  refine ⟨UInt8.ofNat m.toNat,?_,trivial,by rw [hxe];exact bk_int _ _⟩
  simp only [YF,Rep]
  rw [byteNat _ (by omega)]
  congr 2
  omega)
 rw [ones_sum] at h5
 exact ⟨l,v,h1,h2,h3,h5⟩
theorem open_tags {fuel : Nat} {cs : List Value} {x : DataW H × List MemPlace} (h : DataW.trod enc Tryz.prog W base spare held fuel 24 cs = some x) :
  ∃ (u : List (Nat × List UInt8)) (v : Value),cs = [v] ∧ u.length ≤ maxLen ∧ Sq W.heap.size W v (u.map Uk) ∧ (∀ kv ∈ u,kv.1 < 4294967296) ∧ tagsW u + 1 ≤ Rows.uptoBulk x.1:=by
 refine open_sq (e:=79) (sz:=2) Tryz.underlying24 co_tag (by omega) Uk (fun kv => kv.1 < 4294967296) (fun kv => kv.2.length + 1) Rows.uptoBulk bk_nil bk_sl h (fun n cs' x' _ hx => ?_)
 obtain ⟨xs,k,_,rfl,hl,hlen,hf⟩:=DataW.trod_struct Tryz.underlying79 hx
 rw [co_tag] at hl
 obtain ⟨v0,v1,rfl⟩:=len2 hl
 ·have hxl : xs.length = 2:=hlen
  have h0:=hf 0 _ rfl
  have h1:=hf 1 _ rfl
  rw [List.getElem?_eq_getElem (by omega)] at h0 h1
  simp [co_u32,co_bytes] at h0 h1
  obtain ⟨m,hv0,_,hw⟩:=DataW.trod_int Tryz.underlying77 h0
  obtain ⟨s,v,hv1,_,hs,hsb⟩:=Yr0 h1
  have hm : 0 ≤ m ∧ m ≤ 4294967295:=by simpa [Lit.wf,IntKind.min,IntKind.max,IntKind.signed,IntKind.bits] using hw
  simp only [List.cons.injEq,and_true] at hv0 hv1
  subst hv0;subst hv1
  refine ⟨(m.toNat,s),?_,by simp only [];omega,?_⟩
  rotate_left
  ·obtain ⟨a,b,rfl⟩:=len2 hxl
   ·have:=bk_agg [a.1,b.1]
    simp only [List.map_cons,List.map_nil,List.sum_cons,List.sum_nil,List.getElem_cons_succ,List.getElem_cons_zero] at this hsb ⊢
    omega
  have : (.int .u32 m : Value) = .int .u32 ((m.toNat : Nat) : Int):=by congr 1;omega
  rw [this]
  exact rep_tag hs
theorem open_tree : ∀ (fuel : Nat) (cs : List Value) (x : DataW H × List MemPlace),DataW.trod enc Tryz.prog W base spare held fuel 26 cs = some x →
  ∃ t : Tree,Rep (Lo W.heap.size) W (treeD t) cs ∧ t.ok ∧ t.wt ≤ Rows.uptoBulk x.1:=by
 intro fuel
 induction fuel using Nat.strongRecOn with
 | _ fuel ih =>
  intro cs x h
  obtain ⟨xs,k,hfu,rfl,hl,hlen,hf⟩:=DataW.trod_struct Tryz.underlying26 h
  rw [co_tree] at hl
  obtain ⟨v0,v1,v2,v3,v4,rfl⟩:=len5 hl
  ·have hxl : xs.length = 5:=hlen
   have h0:=hf 0 _ rfl
   have h1:=hf 1 _ rfl
   have h2:=hf 2 _ rfl
   have h3:=hf 3 _ rfl
   have h4:=hf 4 _ rfl
   rw [List.getElem?_eq_getElem (by omega)] at h0 h1 h2 h3 h4
   simp [co_i64,co_bytes,co_bool,co_trees,co_tags] at h0 h1 h2 h3 h4
   obtain ⟨n,hv0,hb0,hw0⟩:=DataW.trod_int Tryz.underlying2 h0
   obtain ⟨s,sv,hv1,hsl,hs,hb1⟩:=Yr0 h1
   obtain ⟨b,hv2,hb2⟩:=DataW.trod_bool Tryz.underlying4 h2
   obtain ⟨l,lv,hv3,_,hl3,hok,hb3⟩:=open_sq (e:=26) (sz:=5) Tryz.underlying23 co_tree (by omega) treeD (fun t => t.ok) Tree.wt Rows.uptoBulk bk_nil bk_sl h3 (fun n cs' x' hn hx => ih n (by omega) cs' x' hx)
   obtain ⟨u,uv,hv4,_,hu,huk,hb4⟩:=open_tags h4
   simp only [List.cons.injEq,and_true] at hv0 hv1 hv2 hv3 hv4
   subst hv0;subst hv1;subst hv2;subst hv3;subst hv4
   refine ⟨.mk n s b l u,rep_tree hs hl3 hu,?_,?_⟩
   rotate_left
   ·obtain ⟨a0,a1,a2,a3,a4,rfl⟩:=len5 hxl
    ·have:=bk_agg [a0.1,a1.1,a2.1,a3.1,a4.1]
     simp only [List.map_cons,List.map_nil,List.sum_cons,List.sum_nil,List.getElem_cons_succ,List.getElem_cons_zero] at this hb0 hb1 hb2 hb3 hb4 ⊢
     simp only [Tree.wt,wts_sum]
     omega
   simp only [Tree.ok]
   refine ⟨by simp only [maxLen] at hsl;omega,huk,?_,by simpa [Lit.wf,IntKind.min,IntKind.max,IntKind.signed,IntKind.bits] using hw0⟩
   have : ∀ l : List Tree,(∀ t ∈ l,t.ok) → Tree.oks l:=by
    intro l
    induction l with
    | nil => intro _;simp [Tree.oks]
    | cons y l ih2 => intro h;simp only [Tree.oks];exact ⟨h y (by simp),ih2 (fun t ht => h t (by simp [ht]))⟩
   exact this l hok
end
end Go.Proofs.YtlmnaffhadeolaaGreatDoor

namespace Go.Proofs.YtlmnaffhadeolaaGreatDoor.BTxnMetadataValue
open Go Go.RowKit Go.ChangeShapes Go.WideShapes Go.ChangeAt
theorem own : ownKnob Tryz.prog.godebug = none := by kernel_rfl
theorem laidOut : laidOutB Tryz.prog = true := by kernel_rfl
theorem gErr : Tryz.prog.globalNamed "pub-mailsack/pub/kmsg/inner/kbin.ErrNotEnoughData" = some 1 := by kernel_rfl
theorem gErrT : (Tryz.prog.globals[(1 : Nat)]?).map (·.type) = some 68 := by kernel_rfl
theorem err_of_laid {W : World} (h : laidMetH Tryz.prog Rows.fnTellTxnMetadataValueRow.laid W) : ∃ u x, W.cell? ⟨1, 0, none⟩ = some (.iface u x) := by
  have h' : laidMet Tryz.prog Rows.fnTellTxnMetadataValueRow.laid W := h
  obtain ⟨ps, ⟨g0, t0, cs0, f0, p0, q0, hg0, ht0, hv0, hd0, _⟩, _⟩ := h'
  obtain rfl := Option.some.inj (gErr.symm.trans hg0)
  obtain rfl := Option.some.inj (gErrT.symm.trans ht0)
  obtain ⟨l0⟩ := cs0
  obtain ⟨fu, u, v, e, _, _⟩ := iface_of_trod Tryz.underlying68 hd0
  have e' : l0 = [.iface u v] := e
  subst e'
  exact ⟨_, _, by simpa using World.var?_cell hg0 hv0 0⟩
abbrev errText : ByteArray := ⟨#[114, 101, 115, 112, 111, 110, 115, 101, 32, 100, 105, 100, 32, 110, 111, 116, 32, 99, 111, 110, 116, 97, 105, 110, 32, 101, 110, 111, 117, 103, 104, 32, 100, 97, 116, 97, 32, 116, 111, 32, 98, 101, 32, 118, 97, 108, 105, 100]⟩
noncomputable def low : Nat := (World.holding Tryz.prog default ⟨#[], #[], []⟩).heap.size
noncomputable def laidWorld (os : Os) : World :=
  let w0 := World.holding Tryz.prog os ⟨#[.cells #[.string errText] 241], #[], []⟩
  { w0 with heap := w0.heap.modify 1 fun
      | .cells _ t frozen => .cells #[.iface 223 (.pointer (some ⟨low, 0, none⟩))] t frozen
      | o => o }
theorem laidWorld_met (os : Os) (args : Array Value) : laidMetH Tryz.prog Rows.fnTellTxnMetadataValueRow.laid ((laidWorld os).forCall (fun _ _ => 0) ⟨#[], args, []⟩).memory :=
  show laidMet Tryz.prog Rows.fnTellTxnMetadataValueRow.laid _ from laidMet_of_run' 8 (by kernel_rfl) (by kernel_rfl)
set_option maxRecDepth 100000 in
theorem lifted (os : Os) (started : os.Started) (H : Type) (enc : TypeId × Value → H) :
    ReturnsInHanded {} Tryz.checked os 3 .any (fun w args => (Rows.fnTellTxnMetadataValueSpec.pre enc Tryz.prog Tryz.f3 [] false w args ∧ laidMetH Tryz.prog Rows.fnTellTxnMetadataValueRow.laid w) ∧ sizedMet enc Tryz.prog Tryz.f3 (OpenSpec.ofChange Rows.fnTellTxnMetadataValueSpec) false w args)
      (Rows.fnTellTxnMetadataValueSpec.post enc Tryz.prog Tryz.f3 false true false false) := by
  refine returnsInHanded_of_change_and (C := Tryz.checked) (X := fun w _ => laidMetH Tryz.prog Rows.fnTellTxnMetadataValueRow.laid w) (fun _ _ _ hh h => h.of_heap hh) own started (by kernel_rfl) Tryz.func3
    (ChangeSpec.witness_at (enc := enc) (C := Tryz.checked) (os := os) (X := fun w _ => laidMetH Tryz.prog Rows.fnTellTxnMetadataValueRow.laid w) false (laidWorld os) #[.int .u8 0, .agg #[.int .i64 0, .slice none 0 0, .bool false, .slice none 0 0, .slice none 0 0]] 8 rfl (by kernel_rfl) (by kernel_rfl) (by kernel_rfl) (by kernel_rfl) (by kernel_rfl) (laidWorld_met os _)) ?_
  intro W base args ds gs before hval0 hW _ _ hL _
  have hval : ∀ (j : Nat) t v, Tryz.f3.params[j]? = some t → args[j]? = some v → Value.okWide Tryz.prog W .any base t v := hval0
  have hW' := hW
  obtain ⟨p, q, hA0, hV, rfl, hfz, hnd⟩ := hW
  have hA : DataW.TrodAll enc Tryz.prog W 0 (fun _ => true) true Tryz.f3.params.toList args.toList ds p := hA0
  rw [Tryz.params3] at hA hval
  obtain ⟨v0, v1, d0, d1, p0, p1, rfl, rfl, rfl, h0, h1⟩ := trodAll_two hA
  obtain ⟨rfl, rfl⟩ := trodVars_none hV
  obtain ⟨a, rfl, rfl, rfl, wa⟩ := open_int Tryz.underlying5 (hval 0 5 v0 rfl rfl) h0
  have hv1 := hval 1 26 v1 rfl rfl
  unfold Value.okWide at hv1
  rw [Tryz.underlying26] at hv1
  obtain ⟨cs, rfl, _⟩ := hv1
  obtain ⟨fuel, hfu⟩ := id h1
  obtain ⟨t, hrep, hok, hwt⟩ := open_tree fuel _ _ hfu
  obtain ⟨eu, ex, hev⟩ := err_of_laid hL
  clear hA0 hval0
  simp only [List.append_nil, List.nil_append] at hW'
  have ha : 0 ≤ a ∧ a ≤ 255 := by simpa [Lit.wf, IntKind.min, IntKind.max, IntKind.signed, IntKind.bits] using wa
  have hlaw := fn_law a.toNat (by omega) t hok W eu ex cs.toList hrep hev
  rw [show ((a.toNat : Nat) : Int) = a from by omega] at hlaw
  simp only [Array.toArray_toList] at hlaw
  refine Calls.mono hlaw fun e W' he => ?_
  obtain ⟨v, rfl, hb, rfl⟩ := he
  refine ⟨_, rfl, _, _, _, [], p1, [], hW', trodAll_mk1 (shut_bool Tryz.underlying4 _), ?_, ?_, hb.frame _, fun h => by cases h⟩
  · exact trodAll_mk2 (shut_int Tryz.underlying5 wa) (Below.trod laidOut (by kernel_rfl) (Nat.le_of_ble_eq_true (by kernel_rfl)) h1 hb (fun x hx => hW'.lt x hx))
  · rfl
theorem said : Rows.FnTellTxnMetadataValueSaid :=
  OpenClaim.holds_of_wide 3 Tryz.f3 rfl rfl rfl rfl rfl rfl rfl ⟨rfl, rfl, rfl, rfl, rfl⟩ rfl rfl rfl rfl rfl (by kernel_rfl) Tryz.func3 (by kernel_rfl)
    (of_decide_eq_true (by kernel_rfl)) (by unfold Func.isWrapper; first | (rw [if_pos (by decide +kernel)]; kernel_rfl) | (rw [if_neg (by decide +kernel)]; exact ⟨rfl, rfl⟩))
    (fun os started H enc _ => lifted os started H enc)
theorem row_tie : Rows.fnTellTxnMetadataValueRow.laidByTextAt .later Tryz.pinned [.sentinel] true :=
  OpenClaim.laidByTextAt_later rfl rfl tie (by kernel_rfl)
theorem holds : Rows.FnTellTxnMetadataValueCardSaid :=
  Claim7.holds_tied_plain_at .later [] [.sentinel] true (true, "951202c2ee62a2485c2c11205be3cb855fe0e9b9b0ed7893dd37afa4e79e5067") false
    said (fun _ h => by cases h) (by kernel_rfl) (fun _ h => by cases h) row_tie rfl ⟨rfl, rfl⟩ (by kernel_rfl) rfl
    (fun f fn hf hfn => by
      obtain rfl : f = 3 := Option.some.inj ((show Tryz.prog.funcNamed "pub-mailsack/laws.FnTellTxnMetadataValue" = some 3 by kernel_rfl).symm.trans hf) |>.symm
      obtain rfl : fn = Tryz.f3 := (Option.some.inj (Tryz.func3.symm.trans hfn)).symm
      exact ⟨by kernel_rfl, fun j t ht => by
        rw [Tryz.params3] at ht
        have hh : Tryz.prog.wantsStandIn 5 = false ∧ Tryz.prog.wantsStandIn 26 = false := ⟨by kernel_rfl, by kernel_rfl⟩
        match j, ht with
        | 0, ht => obtain rfl : 5 = t := by simpa using ht
                   exact hh.1
        | 1, ht => obtain rfl : 26 = t := by simpa using ht
                   exact hh.2
        | j + 2, ht => simp at ht⟩)
    (by kernel_rfl)
end Go.Proofs.YtlmnaffhadeolaaGreatDoor.BTxnMetadataValue
