/- A part of the proof of FnTellTxnMetadataValueCardSaid: what its texts prove stands at the head of each. Conditions: those that each theorem names. -/
import Derived.Test.YtlmnaffhadeolaaGreatDoorPartE
import Derived.Deep.QuietTactic
import Derived.Sort.LotA
import Derived.Test.YtlmnaffhadeolaaGreatDoorPartA
import Derived.Test.YtlmnaffhadeolaaGreatDoorPartC
import Derived.Laws.Small
set_option linter.all false
namespace Go.Proofs.YtlmnaffhadeolaaGreatDoor
namespace Rdk
open Go Go.RowKit Go.Sort Go.Lib Go.Shelf
set_option maxRecDepth 100000
noncomputable def siT : TypeInfo:=(Tryz.prog.info? 166).get (by kernel_rfl)
noncomputable def siE : TypeInfo:=(Tryz.prog.info? 77).get (by kernel_rfl)
theorem siK (n : Nat) (h2 : 2 ≤ n) : Lib.swapperK n siE 10 = 6:=by
 have a : siE.hasPointers = false:=by kernel_rfl
 have b : siE.bytes = 4:=by kernel_rfl
 have c : (n == 0) = false:=by simp;omega
 have d : (n == 1) = false:=by simp;omega
 simp [Lib.swapperK,a,b,c,d]
set_option maxHeartbeats 2000000 in
theorem less_u32 (blk off c Bs size : Nat) (W : World) (G : Nat → Int) (hs : W.cell? ⟨Bs,0,none⟩ = some (.slice (some ⟨blk,off,none⟩) size c))
  (hc : ∀ t,t < size → W.cell? ⟨blk,off + t,none⟩ = some (.int .u32 (G t))) (i j : Nat) (hi : i < size) (hj : j < size) :
  Calls Tryz.prog 121 #[.int .i64 i,.int .i64 j,.pointer (some ⟨Bs,0,none⟩)] W fun e w' => e = .returned (.bool (decide (G i < G j))) ∧ ∃ q,w' = W.drewN q:=by
 have ci:=hc i hi
 have cj:=hc j hj
 go_enter Tryz.func121,Tryz.ntmps121
 go_wp2
 go_quiet (fail)
 go_wp2
 go_ret
 exact ⟨rfl,nq,rfl⟩
abbrev encU : Int → Value:=Value.int .u32
theorem holds_row {w : World} {B blk cap : Nat} {e : TypeId} {zs : List Int} (h : w.ownsRow B e 1 (.slice (some ⟨blk,0,none⟩) zs.length cap) zs.length (zs.map encU)) : Holds encU w blk 0 zs.toArray:=by
 obtain ⟨_,⟨he,_⟩ | ⟨g,cap',cur,he,_,hheap,hle,hcap,hcs,htake⟩⟩:=h
 ·cases he
 ·cases he
  intro j hj
  have hj' : j < zs.length:=by simpa using hj
  have hx : cur[j]? = some (encU zs[j]):=by
   have : (cur.toList.take (zs.length * 1))[j]? = some (encU zs[j]):=by rw [htake];simp [hj']
   rw [List.getElem?_take] at this
   split at this
   ·simpa using this
   ·cases this
  refine ⟨?_,by simp [World.frozen?,hheap]⟩
  rw [show (zs.toArray)[j]! = zs[j] by simp [hj']]
  simp [World.cell?,hheap,hx]
theorem sorted_row {w w' : World} {blk n : Nat} {cur : Array Value} {e : TypeId} {d' : Array Int} {os : Array Obj} (hb : w.heap[blk]? = some (.cells cur e (0,0))) (hsz : d'.size ≤ cur.size) (hw : w' = grow (putRow encU (Sort.ahead w n) blk 0 d') os) :
  YE w' blk 0 (d'.toList.map encU) ∧ Chg (· = blk) w w':=by
 subst hw
 have hlt : blk < w.heap.size:=(Array.getElem?_eq_some_iff.1 hb).1
 have hbl : (putRow encU (Sort.ahead w n) blk 0 d').heap[blk]? = some (.cells (putCells encU 0 d' cur) e (0,0)):=by
  simp [putRow,mapBlock,Sort.ahead,Array.getElem?_modify,hb,onCells]
 constructor
 ·refine ⟨putCells encU 0 d' cur,e,(0,0),by rw [heap_grow_old _ _ (by simpa using hlt)];exact hbl,by simp [putCells];omega,fun i v hv => ?_⟩
  rw [List.getElem?_map] at hv
  have hi : i < d'.size:=by
   cases hx : d'.toList[i]? with
   | none => rw [hx] at hv;cases hv
   | some x => simpa using (List.getElem?_eq_some_iff.1 hx).1
  simp only [Array.getElem?_toList,Array.getElem?_eq_getElem hi,Option.map_some,Option.some.injEq] at hv
  have hic : i < cur.size:=by omega
  simp only [Nat.zero_add,putCells,Array.getElem?_mapIdx,Array.getElem?_eq_getElem hic,Option.map_some,Nat.zero_le,true_and,if_pos hi,Nat.sub_zero]
  rw [getElem!_pos d' i hi,hv]
 ·refine ⟨rfl,rfl,rfl,by simp,fun k hk hne => ?_⟩
  rw [heap_grow_old _ _ (by simpa using hk)]
  have : blk ≠ k:=fun e => hne e.symm
  simp [putRow,mapBlock,Sort.ahead,Array.getElem?_modify,this]
theorem tiny_sorted : ∀ (zs : List Int),zs.length ≤ 1 → zs.Pairwise (fun x y => x ≤ y)
 | [],_ => List.Pairwise.nil
 | [_],_ => List.pairwise_singleton _ _
theorem fn_sortTiny (p : Option Addr) (n c : Nat) (h1 : n ≤ 1) (Bs : Nat) (w : World) :
  Calls Tryz.prog 120 #[.iface 166 (.slice p n c),.func (.func 121) #[] #[.pointer (some ⟨Bs,0,none⟩)]] w fun e w' => e = .returned (.tuple #[]) ∧ ∃ os,w' = grow w os:=by
 have hK : Lib.swapperK n siE 10 = n + 1:=by
  rcases Nat.eq_zero_or_pos n with h | h
  ·subst h;simp [Lib.swapperK]
  ·obtain rfl : n = 1:=by omega
   simp [Lib.swapperK]
 exact Any.sort_Slice_tiny Tryz.gl6 166 77 siT siE (by kernel_rfl) (by kernel_rfl) (by kernel_rfl) (by kernel_rfl) 10 (fun _ => by kernel_rfl) p n c h1 (165 + n) (by
  rw [hK]
  rcases Nat.eq_zero_or_pos n with h | h
  ·subst h;kernel_rfl
  ·obtain rfl : n = 1:=by omega
   kernel_rfl) (.func 121) #[] #[.pointer (some ⟨Bs,0,none⟩)] w
set_option maxHeartbeats 2000000 in
theorem fn_sort (w : World) (B blk cap Bs : Nat) (e0 : TypeId) (zs : List Int) (hlen : zs.length < 4611686018427387904) (hbs : Box w Bs [.slice (some ⟨blk,0,none⟩) zs.length cap] e0)
  (hrow : w.ownsRow B 77 1 (.slice (some ⟨blk,0,none⟩) zs.length cap) zs.length (zs.map encU)) (hne : Bs ≠ blk) :
  Calls Tryz.prog 120 #[.iface 166 (.slice (some ⟨blk,0,none⟩) zs.length cap),.func (.func 121) #[] #[.pointer (some ⟨Bs,0,none⟩)]] w fun e w' =>
   e = .returned (.tuple #[]) ∧ ∃ zs' : List Int,zs'.Perm zs ∧ zs'.Pairwise (fun x y => x ≤ y) ∧ YE w' blk 0 (zs'.map encU) ∧ Chg (· = blk) w w':=by
 have hH:=holds_row hrow
 obtain ⟨hxl,⟨he,_⟩ | ⟨g,cap',cur,he,hBg,hheap,hle,hcap,hcs,htake⟩⟩:=id hrow
 ·cases he
 cases he
 have hblk : blk < w.heap.size:=(Array.getElem?_eq_some_iff.1 hheap).1
 have hsz : zs.toArray.size = zs.length:=by simp
 by_cases h2 : 2 ≤ zs.length
 ·have hless : LessReads Tryz.prog 121 #[.pointer (some ⟨Bs,0,none⟩)] encU ltInt blk 0 zs.toArray.size w:=by
   intro m os dk hs i j hi hj
   rw [hsz] at hs hi hj
   refine less_u32 blk 0 cap Bs zs.length _ (fun t => dk[t]!) ?_ (fun t ht => ?_) i j hi hj
   ·unfold sortWorld
    rw [cell?_grow _ _ _ (by simpa using hbs.lt),cell?_putRow_other _ _ blk 0 dk _ (Or.inl hne)]
    exact hbs.cell (i:=0) rfl
   ·unfold sortWorld
    rw [cell?_grow _ _ _ (by simpa using hblk)]
    exact cell?_putRow encU (Sort.ahead w m) blk 0 zs.toArray dk (holds_ahead _ _ _ _ _ _ hH) (by rw [hs,hsz]) t (by omega)
  have hS:=Any.sort_Slice_sorted Tryz.gl6 166 77 siT siE (by kernel_rfl) (by kernel_rfl) (by kernel_rfl) (by kernel_rfl) 10 (fun _ => by kernel_rfl) (by kernel_rfl) (fun _ => by kernel_rfl) encU (fun _ => rfl) ltInt swo_ltInt 121 _
   (enters_of Tryz.func121 (by kernel_rfl) rfl) blk 0 cap zs.toArray (by rw [hsz];exact h2) (by rw [hsz];exact hlen) 170 (by rw [hsz,siK _ h2];kernel_rfl) true
   (fun args W => run_callFunc_extern Tryz.func170 (by kernel_rfl) (by kernel_rfl) (by kernel_rfl) (e:=Extern.ReflectliteSwapper.swap true) (by kernel_rfl) args W) w hless hH hblk
  change Calls Tryz.prog 120 _ _ _ at hS
  rw [hsz] at hS
  refine hS.mono (fun e w' h => ?_)
  obtain ⟨h1,d',n,os,hp,hso,hw⟩:=h
  have hd : d'.size = zs.length:=by rw [hp.1,hsz]
  refine ⟨h1,d'.toList,?_,?_,?_⟩
  ·have:=hp.2.2
   rw [← hd] at this
   have e1 : d'.toList.take zs.length = d'.toList:=List.take_of_length_le (by simp;omega)
   simpa [hd,e1] using this
  ·rw [List.pairwise_iff_getElem]
   intro i j hi hj hij
   have hi' : i < d'.size:=by simpa using hi
   have hj' : j < d'.size:=by simpa using hj
   have:=hso i j (Nat.zero_le _) hij (by omega)
   rw [getElem!_pos d' i hi',getElem!_pos d' j hj'] at this
   simp only [ltInt,decide_eq_false_iff_not] at this
   simp only [Array.getElem_toList]
   omega
  ·exact sorted_row hheap (by rw [hcs,hd];omega) hw
 ·have hn : zs.length ≤ 1:=by omega
  have hS:=fn_sortTiny (some ⟨blk,0,none⟩) zs.length cap hn Bs w
  refine hS.mono (fun e w' h => ?_)
  obtain ⟨h1,os,hw⟩:=h
  refine ⟨h1,zs,List.Perm.refl _,?_,?_⟩
  ·exact tiny_sorted zs hn
  ·subst hw
   refine ⟨⟨cur,77,(0,0),by rw [heap_grow_old _ _ hblk];exact hheap,by rw [List.length_map];omega,fun i v hv => ?_⟩,⟨rfl,rfl,rfl,by simp,fun k hk _ => heap_grow_old _ _ hk⟩⟩
   rw [← htake,List.getElem?_take] at hv
   split at hv
   ·simpa using hv
   ·cases hv
end Rdk

namespace Ea
open Go Go.RowKit Rdk
set_option maxRecDepth 100000
theorem rt_u32 : Ut Tryz.prog 166 77 1 = true:=by kernel_rfl
theorem to_u32s : Xx Tryz.prog 166 = true:=by kernel_rfl
theorem es_u32s : Yv Tryz.prog 166 = some 1:=by kernel_rfl
theorem el_u32s : (Yv Tryz.prog 166).isSome = true:=by kernel_rfl
theorem un_u32s : Tryz.prog.underlying 166 = some (.slice 77):=by kernel_rfl
theorem zv_u32s (w : World) : (zeroValue 166).run Tryz.prog w = .ok (.slice none 0 0) w:=by kernel_rfl
theorem ne_u32s : (166 : Nat) ≠ 77:=by decide
theorem rising_len : ∀ (l : List Nat) (lo M : Nat),l.Pairwise (· < ·) → (∀ x ∈ l,lo ≤ x ∧ x < M) → l.length ≤ M - lo
 | [],_,_,_,_ => by simp
 | x :: l,lo,M,hp,h => by
  have hp':=List.pairwise_cons.1 hp
  have hx:=h x (by simp)
  have:=rising_len l (x + 1) M hp'.2 (fun y hy => ⟨hp'.1 y hy,(h y (by simp [hy])).2⟩)
  simp only [List.length_cons];omega
theorem Ye3 {w : World} {B e sz n g : Nat} {d : Value} {xs : List Value} (h : w.ownsRow B e sz d n xs) (hg : d.ownBlock = some g) : ∃ cur,w.heap[g]? = some (.cells cur e (0,0)):=by
 rcases h.2 with ⟨rfl,_⟩ | ⟨g',cap',cur,rfl,_,hheap,_⟩
 ·simp [Value.ownBlock] at hg
 ·simp only [Value.ownBlock,Option.some.injEq] at hg;subst hg;exact ⟨cur,hheap⟩
theorem Row.kept {w w' : World} {B e sz n : Nat} {d : Value} {xs : List Value} {row : Option Nat} (h : w.ownsRow B e sz d n xs) (hg : w.grownBy w' row) (hne : d.ownBlock = none ∨ d.ownBlock ≠ row) : w'.ownsRow B e sz d n xs :=
 World.ownsRow.kept h hg hne
theorem nodup_one {α β : Type} (f : α → β) : ∀ (l : List α),(l.map f).Nodup → ∀ x ∈ l,∀ y ∈ l,f x = f y → x = y
 | [],_,x,hx,_,_,_ => by cases hx
 | a :: l,hn,x,hx,y,hy,h => by
  simp only [List.map_cons,List.nodup_cons] at hn
  rcases List.mem_cons.1 hx with e1 | h1
  ·rcases List.mem_cons.1 hy with e2 | h2
   ·rw [e1,e2]
   ·exact (hn.1 (List.mem_map.2 ⟨y,h2,by rw [← h,e1]⟩)).elim
  ·rcases List.mem_cons.1 hy with e2 | h2
   ·exact (hn.1 (List.mem_map.2 ⟨x,h1,by rw [h,e2]⟩)).elim
   ·exact nodup_one f l hn.2 x h1 y h2 h
theorem leftOf_nil (es : Array MapEntry) : leftOf es #[] = es:=by
 unfold leftOf
 exact Array.filter_eq_self.2 (by simp)
set_option maxHeartbeats 4000000 in
theorem fn_eachG (w : World) (B b off f : Nat) (bs : List Value) (kvs : List (Nat × D)) (v : Value) (S : Nat → Prop) (Inv : Nat → World → World → Prop) (hf : UR Tryz.prog f = true) (hkeys : ∀ k ∈ kvs.map (·.1),k < 4294967296) (hb : b < B) (hc : w.cell? ⟨b,off,none⟩ = some v) (hr : Rep (Lo B) w (.mp kvs) [v]) (hB : B ≤ w.heap.size)
  (hS : ∀ j,S j → B ≤ j ∧ j < w.heap.size) (h0 : ∀ w6,Chg (fun j => w.heap.size ≤ j) w w6 → Inv 0 w6 w6)
  (hstep : ∀ (i : Nat) (hi : i < kvs.length) (w6 w' : World) (en : Value),Inv i w6 w' → Chg (fun j => w.heap.size ≤ j) w w6 → Chg S w6 w' → Rep (Lo B) w' kvs[i].2 [en] →
   Calls Tryz.prog f (([.int .u32 ((kvs[i].1 : Nat) : Int),en] ++ bs).toArray) w' fun e w'' => e = .returned (.tuple #[]) ∧ Inv (i + 1) w6 w'' ∧ Chg S w6 w'') :
  Calls Tryz.prog 66 #[.pointer (some ⟨b,off,none⟩),.func (.func f) #[] bs.toArray] w fun en w' => en = .returned (.tuple #[]) ∧ ∃ w6,Chg (fun j => w.heap.size ≤ j) w w6 ∧ Inv kvs.length w6 w' ∧ Chg S w6 w':=by
 obtain ⟨m,rfl,hm⟩:=mp_len hr
 refine enter (vs:=[.pointer (some ⟨b,off,none⟩),.func (.func f) #[] bs.toArray]) Tryz.func66 rfl Tryz.ntmps66 rfl ?_
 refine Yd (Yd (Ya ?_))
 refine wt rfl rfl ?_
 refine wt rfl rfl ?_
 refine wt rfl rfl ?_
 refine XN rfl to_map rfl hc ?_
 refine wl_lenMap rfl um hm rfl ?_
 refine wt rfl rfl ?_
 refine Yc (Yb ?_)
 by_cases hz : kvs = []
 ·subst hz
  refine Yp rfl rfl (Ym (Yj (qk_ret0 rfl ⟨rfl,w,Chg.refl _ _,h0 w (Chg.refl _ _),Chg.refl _ _⟩)))
 have hpos : 0 < kvs.length:=List.length_pos_iff.2 hz
 refine Yu rfl (by simp;omega) (Yh (Yb ?_))
 simp only [Rep] at hr
 rcases hr with ⟨_,h0⟩ | ⟨r,es,clock,hrm,hrB,hmap,hmapd,hks⟩
 ·exact absurd h0 hz
 simp only [List.cons.injEq,Value.map.injEq,and_true] at hrm
 subst hrm
 rw [Yc9] at hks
 have hlen32 : kvs.length ≤ 4294967296:=by
  have:=rising_len (kvs.map (·.1)) 0 4294967296 hmapd.2.2.2 (fun x hx => ⟨Nat.zero_le _,hkeys x hx⟩)
  simpa using this
 have hbw : b < w.heap.size:=by omega
 have hrw : r < w.heap.size:=by have : r < B:=hrB;omega
 refine Yd (Ya ?_)
 refine wt rfl rfl ?_
 refine wt rfl rfl ?_
 refine wt rfl rfl ?_
 refine XN rfl to_map rfl hc ?_
 refine wl_lenMap rfl um hm rfl ?_
 refine wl_makeRow (B:=w.heap.size) (n:=kvs.length) rt_u32 rfl (by simp only [many];omega) rfl (Nat.le_refl _) (fun w1 hrow1 hg1 hs1 => ?_)
 refine YJ zv_u32s rfl rfl (fun w2 hb2 hg2 hs2 => ?_)
 refine YA rfl rfl to_u32s rfl hb2 rfl (fun w3 hb3' hg3 hs3 => ?_)
 have hb3 : Box w3 w1.heap.size [.slice (some ⟨w.heap.size,0,none⟩) 0 kvs.length] 166:=hb3'
 clear hb3'
 have hrow3:=Row.kept (Row.kept hrow1 hg2 (.inr (by simp [Value.ownBlock]))) hg3 (.inr (by simp [Value.ownBlock];omega))
 have hc13 : Chg (fun j => w.heap.size ≤ j) w w3:=((Chg.grown0 hg1).trans (Chg.grown0 hg2)).trans ((Chg.grown hg3).wide (fun j hj => by have : j = w1.heap.size:=hj;omega))
 have hmap3 : w3.heap[r]? = some (.map es clock):=(hc13.block r hrw (by omega)).trans hmap
 have hcell3 : w3.cell? ⟨b,off,none⟩ = some (.map (some r)):=by
  rw [← hc];simp only [World.cell?,hc13.block b hbw (by omega)]
 refine Yc (Yb ?_)
 refine Yd (Yd (Ya ?_))
 refine wt rfl rfl ?_
 refine wt rfl rfl ?_
 refine wt rfl rfl ?_
 refine XN rfl to_map rfl hcell3 ?_
 refine wl_range rfl um hmap3 rfl ?_
 have hit4 : (w3.alloc (.mapIter (some r) clock #[] clock)).heap[w3.heap.size]? = some (.mapIter (some r) clock #[] clock):=heap_alloc_new _ _
 have hs4 : (w3.alloc (.mapIter (some r) clock #[] clock)).heap.size = w3.heap.size + 1:=by simp
 have hg4:=XE w3 (.mapIter (some r) clock #[] clock)
 generalize w3.alloc (.mapIter (some r) clock #[] clock) = w4 at *
 have hb4:=hb3.kept hg4 (by simp)
 have hrow4:=Row.kept hrow3 hg4 (.inr (by simp [Value.ownBlock]))
 have hc14 : Chg (fun j => w.heap.size ≤ j) w w4:=hc13.trans (Chg.grown0 hg4)
 refine Yc (Yb ?_)
 refine Yr (Xu (α:=List Int × Value × Array Nat × Nat) (fun _ => [(0,.pointer (some ⟨b,off,none⟩)),(1,.func (.func f) #[] bs.toArray),(4,.pointer (some ⟨w1.heap.size,0,none⟩)),(24,.pointer (some ⟨w3.heap.size,0,none⟩))])
  (fun z w' => Box w' w1.heap.size [z.2.1] 166 ∧ w'.ownsRow w.heap.size 77 1 z.2.1 z.1.length (z.1.map encU) ∧ w'.heap[w3.heap.size]? = some (.mapIter (some r) clock z.2.2.1 z.2.2.2) ∧ clock ≤ z.2.2.2 ∧
   (z.1.map encU ++ (leftOf es z.2.2.1).toList.map (·.key)).Perm (es.toList.map (·.key)) ∧ Chg (fun j => w.heap.size ≤ j) w w')
  (fun z => (leftOf es z.2.2.1).size) ([],.slice (some ⟨w.heap.size,0,none⟩) 0 kvs.length,#[],clock) ⟨rfl,rfl,rfl,rfl,trivial⟩ ⟨hb4,hrow4,hit4,Nat.le_refl _,?_,hc14⟩ ?_)
 ·simp [leftOf_nil]
 ·rintro ⟨zs,dv,seen,c0⟩ w5 ⟨hb5,hrow5,hit5,hcl5,hperm5,hc5⟩
  simp only [] at hb5 hrow5 hit5 hcl5 hperm5
  have hmap5 : w5.heap[r]? = some (.map es clock):=(hc5.block r hrw (by omega)).trans hmap
  refine Yd (Ya ?_)
  refine wl_next rfl hit5 hmap5 hmapd.2.1.1 hcl5 rfl (fun hleft => ?_) (fun en hen w6 hit6 hc6 hs6 => ?_)
  ·-- nothing is left
   have hl0 : (leftOf es seen).toList = []:=List.length_eq_zero_iff.1 (by simpa using hleft)
   rw [hl0] at hperm5
   simp only [List.map_nil,List.append_nil] at hperm5
   have hzl : zs.length = kvs.length:=by
    have:=hperm5.length_eq
    simp only [List.length_map,Array.length_toList] at this
    rw [this,hmapd.1,List.length_map]
   obtain ⟨g,cap,rfl,hBg,hglt,_⟩:=Row.cells hrow5 (by omega)
   obtain ⟨cur,hcur⟩:=Ye3 (g:=g) hrow5 rfl
   have hog : w1.heap.size ≠ g:=by
    intro e'
    have h1 : w5.heap[w1.heap.size]? = some (.cells cur 77 (0,0)):=by rw [e'];exact hcur
    have h2:=hb5
    simp only [Box,h1,Option.some.injEq,Obj.cells.injEq] at h2
    exact ne_u32s h2.2.1.symm
   refine wl_extract rfl rfl rfl ?_
   repeat (with_reducible first|apply Yd|apply Yc|apply Yb)
   refine Yu rfl rfl ?_
   repeat (with_reducible first|apply Yd|apply Ya|apply Yb|apply Xk|apply Yw|apply YB|apply Yq)
   refine Yf rfl to_u32s rfl hb5 rfl ?_
   refine wl_makeIface rfl un_u32s rfl ?_
   refine Yj7 (caps:=[.tmp 4]) rfl rfl ?_
   refine Yo rfl (by kernel_rfl) rfl ((fn_sort w5 w.heap.size g cap w1.heap.size _ zs (by omega) hb5 hrow5 hog).mono ?_)
   rintro en w6 ⟨rfl,zs',hp',hso',hcs6,hc6⟩
   refine ⟨_,rfl,?_⟩
   have hzz : zs' = (kvs.map (·.1)).map (fun k : Nat => (k : Int)):=keys_sorted hmapd (fun k hk => by
    obtain ⟨kv,hkv,rfl⟩:=List.mem_map.1 hk
    obtain ⟨x,hx,hxk,_⟩:=hks kv hkv
    exact ⟨x,hx,hxk⟩) hperm5 hp' hso'
   subst hzz
   have hc06 : Chg (fun j => w.heap.size ≤ j) w w6:=hc5.trans (hc6.wide (fun j hj => by have : j = g:=hj;omega))
   have hw6 : Below w.heap.size w w6:=⟨hc06.os,hc06.tape,hc06.output,hc06.size,fun k hk => hc06.block k hk (by omega)⟩
   have hb6:=hb5.chg hc6 hog
   repeat (with_reducible first|apply Yd|apply Ya|apply Yc|apply Yb)
   refine Yf rfl to_u32s rfl hb6 rfl ?_
   refine wl_len rfl el_u32s rfl ?_
   repeat first|(with_reducible first|apply Yc|apply Yb|apply Yr)|((with_reducible apply ws);exact rfl;exact rfl)
   refine Xu (α:=Nat) (fun z => [(0,.pointer (some ⟨b,off,none⟩)),(1,.func (.func f) #[] bs.toArray),(37,.slice (some ⟨g,0,none⟩) zs.length cap),(38,.int .i64 (zs.length : Int)),(39,.int .i64 (z : Int))])
    (fun z w' => z ≤ kvs.length ∧ Inv z w6 w' ∧ Chg S w6 w')
    (fun z => kvs.length - z) 0 ⟨rfl,rfl,rfl,rfl,rfl,trivial⟩ ⟨Nat.zero_le _,h0 w6 hc06,Chg.refl _ _⟩ ?_
   rintro i w7 ⟨hin,hI7,hc7⟩
   have hs7:=hc7.size
   have hs6:=hc06.size
   repeat first|(with_reducible first|apply Yd|apply Ya|apply Yc|apply Yb)|((with_reducible apply ws);exact rfl;exact rfl)
   by_cases hi : i < kvs.length
   ·refine Yp rfl (by simp;omega) ?_
    repeat (with_reducible first|apply Yd|apply Ya|apply Yb|apply Yr|apply Yh)
    have hkeep : ∀ j,j < w.heap.size → ¬ S j → w7.heap[j]? = w.heap[j]?:=fun j hj h1 => by
     rw [hc7.block j (by omega) h1]
     exact hc06.block j hj (by omega)
    have hnS : ∀ j,j < B → ¬ S j:=fun j hj h => by have:=(hS j h).1;omega
    have hgk : w7.heap[g]? = w6.heap[g]?:=hc7.block g (by have:=hc6.size;omega) (fun h => by have:=(hS g h).2;omega)
    refine Ys rfl rfl es_u32s rfl (by omega) ?_
    refine XN rfl to_u32 rfl (v:=.int .u32 ((kvs[i].1 : Nat) : Int)) ?_ ?_
    ·have h1:=(hcs6.of_block hgk).cell (i:=i) (v:=encU ((kvs[i].1 : Nat) : Int)) (by simp [hi])
     rw [Nat.mul_one];exact h1
    repeat first|(with_reducible first|apply Ya|apply Yc|apply Yb)|((with_reducible apply ws);exact rfl;exact rfl)
    refine wt rfl rfl ?_
    refine XN rfl to_map rfl (v:=.map (some r)) ?_ ?_
    ·rw [← hc]
     show w7.cell? ⟨b,off,none⟩ = _
     simp only [World.cell?,hkeep b hbw (hnS b hb)]
    have hrB' : r < B:=hrB
    have hmap7 : w7.heap[r]? = some (.map es clock):=(hkeep r hrw (hnS r hrB')).trans hmap
    have hkin : kvs[i] ∈ kvs:=List.getElem_mem hi
    obtain ⟨x0,hx0,hx0k,hx0r⟩:=hks kvs[i] hkin
    repeat ((with_reducible apply ws);exact rfl;exact rfl)
    refine wl_lookup rfl rfl um uk hmap7 hmapd ⟨x0,hx0,hx0k⟩ rfl (fun en hen hek => ?_)
    obtain rfl : en = x0:=nodup_one (·.key) es.toList hmapd.2.1.2.2 en (Array.mem_toList_iff.2 hen) x0 (Array.mem_toList_iff.2 hx0) (by rw [hek,hx0k])
    have hr7 : Rep (Lo B) w7 kvs[i].2 [en.val]:=Rep.mono (fun q hq => ⟨hq,hkeep q (by have h3 : q < B:=hq;omega) (hnS q hq)⟩) _ _ hx0r
    refine wl_callV (vs:=[.int .u32 ((kvs[i].1 : Nat) : Int),en.val]) (bs:=bs) (args:=[.tmp 44,.tmp 50]) rfl rfl hf rfl ((hstep i hi w6 w7 en.val hI7 hc06 hc7 hr7).mono ?_)
    rintro en' w8 ⟨rfl,hI8,hc8⟩
    refine ⟨_,rfl,?_⟩
    repeat (with_reducible first|apply Ya|apply Yc|apply Yb|apply XS)
    refine Xn rfl rfl rfl (r:=((i + 1 : Nat) : Int)) (by rw [IntKind.wrap_i64];omega) ?_
    repeat first|(with_reducible apply Yc)|((with_reducible apply ws);exact rfl;exact rfl)
    refine YD (i + 1) ⟨rfl,rfl,rfl,rfl,rfl,trivial⟩ ⟨hi,hI8,hc8⟩ (by show kvs.length - (i + 1) < kvs.length - i;omega)
   ·refine Yu rfl (by simp;omega) ?_
    repeat (with_reducible first|apply Xk|apply Yw|apply YB|apply Yq)
    have hie : i = kvs.length:=by omega
    subst hie
    exact JH rfl ⟨rfl,w6,hc06,hI7,hc7⟩
  ·-- one more key
   have hen' : en ∈ es.toList:=by
    simp only [leftOf,Array.toList_filter,List.mem_filter] at hen
    exact hen.1
   obtain ⟨k,_,hek⟩:=hmapd.2.2.1 en hen'
   have hpush:=leftOf_push hen hmapd.2.1.2.1
   have hzle : zs.length < es.size:=by
    have h1:=hperm5.length_eq
    have h2:=hpush.length_eq
    simp only [List.length_append,List.length_map,Array.length_toList,List.length_cons] at h1 h2
    omega
   have hes : es.size = kvs.length:=by rw [hmapd.1,List.length_map]
   have hs5:=hc5.size
   have hits : w3.heap.size < w5.heap.size:=(Array.getElem?_eq_some_iff.1 hit5).1
   have hne5 : dv.ownBlock ≠ some w3.heap.size:=by
    intro h
    obtain ⟨cur,hcur⟩:=Ye3 hrow5 h
    rw [hcur] at hit5;cases hit5
   have hno5 : dv.ownBlock ≠ some w1.heap.size:=by
    intro h
    obtain ⟨cur,hcur⟩:=Ye3 hrow5 h
    have h2:=hb5
    simp only [Box,hcur,Option.some.injEq,Obj.cells.injEq] at h2
    exact ne_u32s h2.2.1.symm
   have hib : w1.heap.size ≠ w3.heap.size:=by omega
   have hb6:=hb5.chg hc6 (fun h : w1.heap.size = w3.heap.size => hib h)
   have hg6 : w5.grownBy w6 (some w3.heap.size):=⟨hc6.os,hc6.tape,hc6.output,hc6.size,fun j hj hn => hc6.block j hj (fun h => hn (by rw [h]))⟩
   have hrow6:=Row.kept hrow5 hg6 (.inr hne5)
   have hmap6 : w6.heap[r]? = some (.map es clock):=(hc6.block r (by omega) (fun h : r = w3.heap.size => by omega)).trans hmap5
   refine wl_extract rfl rfl rfl ?_
   repeat (with_reducible first|apply Yd|apply Yc|apply Yb)
   refine Yp rfl rfl ?_
   repeat (with_reducible first|apply Yd|apply Ya|apply Yb|apply Yr|apply Yh)
   refine wl_entry rfl hit6 hmap6 hen' hmapd.2.1.2.1 rfl ?_
   rw [hek]
   refine wl_extract rfl rfl rfl ?_
   repeat first|(with_reducible first|apply Ya|apply Yc|apply Yb)|((with_reducible apply ws);exact rfl;exact rfl)
   refine Yf rfl to_u32s rfl hb6 rfl ?_
   repeat ((with_reducible apply ws);exact rfl;exact rfl)
   refine wl_app1 (v:=.int .u32 (k : Int)) (cs:=[.int .u32 (k : Int)]) (dv:=dv) (xs:=zs.map encU) (n:=zs.length) rt_u32 rfl rfl rfl rfl rfl rfl rfl rfl hrow6 (by omega) (by simp only [many];omega) (fun d7 w7 hrow7 hg7 => ?_)
   have hb7:=hb6.kept hg7.grown (fun h => hno5 h.symm)
   have hit7 : w7.heap[w3.heap.size]? = some (.mapIter (some r) clock (seen.push en.born) clock):=(hg7.grown.block _ (by omega) (fun h => hne5 h.symm)).trans hit6
   obtain ⟨a7,c7,hd7⟩:=Row.shape hrow7
   refine YA rfl rfl to_u32s (by rw [hd7];rfl) hb7 rfl (fun w8 hb8 hg8 hs8 => ?_)
   have hno7 : d7.ownBlock ≠ some w1.heap.size:=by
    intro h
    obtain ⟨cur,hcur⟩:=Ye3 hrow7 h
    have h2:=hb7
    simp only [Box,hcur,Option.some.injEq,Obj.cells.injEq] at h2
    exact ne_u32s h2.2.1.symm
   have hrow8:=Row.kept hrow7 hg8 (.inr hno7)
   have hit8 : w8.heap[w3.heap.size]? = some (.mapIter (some r) clock (seen.push en.born) clock):=(hg8.block _ (by have:=hg7.grown.size;omega) (fun h => hib (by simpa using h.symm))).trans hit7
   have hge:=Row.ge hrow5
   have hc8 : Chg (fun j => w.heap.size ≤ j) w w8:=((hc5.trans (hc6.wide (fun j hj => by have : j = w3.heap.size:=hj;omega))).trans
    (⟨hg7.grown.os,hg7.grown.tape,hg7.grown.output,hg7.grown.size,fun j hj hn => hg7.grown.block j hj (fun h => hn (hge j h.symm))⟩ : Chg (fun j => w.heap.size ≤ j) w6 w7)).trans ((Chg.grown hg8).wide (fun j hj => by have : j = w1.heap.size:=hj;omega))
   repeat (with_reducible first|apply Yc|apply XS)
   refine YD (zs ++ [(k : Int)],d7,seen.push en.born,clock) ⟨rfl,rfl,rfl,rfl,trivial⟩ ⟨hb8,?_,hit8,Nat.le_refl _,?_,hc8⟩ ?_
   ·simpa using hrow8
   ·refine List.Perm.trans ?_ hperm5
    simp only [List.map_append,List.map_cons,List.map_nil,List.append_assoc,List.cons_append,List.nil_append]
    refine List.Perm.append_left _ ?_
    have:=(hpush.map (·.key)).symm
    simpa [hek,encU] using this
   ·have h2:=hpush.length_eq
    simp only [Array.length_toList,List.length_cons] at h2
    show (leftOf es (seen.push en.born)).size < (leftOf es seen).size
    omega
end Ea

section
open Go Go.RowKit
section
set_option maxRecDepth 100000
def Fn (F : FuncId) (vs : List Value) (w : World) (R : Value → World → Prop) : Prop :=
 Calls Tryz.prog F vs.toArray w fun e w' => ∃ v,e = .returned v ∧ Below w.heap.size w w' ∧ R v w'
theorem fn_has (f : Fld) (ver : Int) (B : Nat) (w : World) (_hB : B ≤ w.heap.size) (cs : List Value) (hf : Rep (Lo B) w (fldD f) cs) :
  Fn 35 [.agg cs.toArray,.int .i64 ver] w fun v _ => v = .bool (f.has ver):=by
 obtain ⟨sv,rfl,_⟩:=Vs hf
 refine enter Tryz.func35 rfl Tryz.ntmps35 rfl ?_
 repeat (with_reducible first|apply Yd|apply Ya)
 refine XF rfl rfl rfl (fun w1 hb hg hs => ?_)
 repeat first|(with_reducible first|apply Yd|apply Ya|apply Yc|apply Yb)|((with_reducible apply ws);exact rfl;exact rfl)
 refine Yf rfl to_int rfl hb rfl ?_
 repeat ((with_reducible apply ws);exact rfl;exact rfl)
 have hfin : Below w.heap.size w w1:=Yg hg (Nat.le_refl _) (by simp)
 by_cases h1 : f.fr ≤ ver
 ·have e1 : decide (f.fr ≤ ver) = true:=by simpa using h1
  rw [e1]
  repeat first|((with_reducible apply ws);exact rfl;exact rfl)|((with_reducible apply YU);exact rfl;exact rfl;exact rfl)
  refine Yf rfl to_int rfl hb rfl ?_
  repeat first|((with_reducible apply ws);exact rfl;exact rfl)|((with_reducible apply YU);exact rfl;exact rfl;exact rfl)
  by_cases h2 : f.upto < 0
  ·have e2 : decide (f.upto < 0) = true:=by simpa using h2
   rw [e2]
   repeat first|(with_reducible first|apply Yc|apply Yb|apply Ym)|((with_reducible apply ws);exact rfl;exact rfl)|((with_reducible apply YU);exact rfl;exact rfl;exact rfl)|((with_reducible apply US);exact rfl;exact rfl;exact rfl;exact rfl)
   exact Yk rfl rfl ⟨_,rfl,hfin,by simp [Fld.has,h1,h2]⟩
  ·have e2 : decide (f.upto < 0) = false:=by simpa using h2
   rw [e2]
   repeat first|((with_reducible apply ws);exact rfl;exact rfl)|((with_reducible apply YU);exact rfl;exact rfl;exact rfl)
   refine Yf rfl to_int rfl hb rfl ?_
   repeat first|(with_reducible first|apply Yc|apply Yb|apply Ym)|((with_reducible apply ws);exact rfl;exact rfl)|((with_reducible apply YU);exact rfl;exact rfl;exact rfl)
   exact Yk rfl rfl ⟨_,rfl,hfin,by simp [Fld.has,h1,h2]⟩
 ·have e1 : decide (f.fr ≤ ver) = false:=by simpa using h1
  rw [e1]
  repeat first|(with_reducible first|apply Yc|apply Yb|apply Ym)|((with_reducible apply ws);exact rfl;exact rfl)|((with_reducible apply US);exact rfl;exact rfl;exact rfl;exact rfl)|((with_reducible apply wl_noU);exact rfl;exact rfl;exact rfl)
  exact Yk rfl rfl ⟨_,rfl,hfin,by simp [Fld.has,h1]⟩
theorem fn_null (f : Fld) (ver : Int) (t : Tree) (B : Nat) (w : World) (_hB : B ≤ w.heap.size) (cs ts : List Value) (hf : Rep (Lo B) w (fldD f) cs) (ht : Rep (Lo B) w (treeD t) ts) :
  Fn 70 [.agg cs.toArray,.int .i64 ver,.agg ts.toArray] w fun v _ => v = .bool (f.null ver t):=by
 obtain ⟨sv,rfl,_⟩:=Vs hf
 obtain ⟨sv2,lv,uv,rfl,_,_,_⟩:=Xi ht
 refine enter Tryz.func70 rfl Tryz.ntmps70 rfl ?_
 repeat (with_reducible first|apply Yd|apply Ya)
 refine XF rfl rfl rfl (fun w1 hb1 hg1 hs1 => XF rfl rfl rfl (fun w2 hb2 hg2 hs2 => ?_))
 have hb:=hb1.kept hg2 (by simp)
 have hfin : Below w.heap.size w w2:=(Yg hg1 (Nat.le_refl _) (by simp)).trans (Yg hg2 (by omega) (by simp))
 repeat first|(with_reducible first|apply Yd|apply Ya|apply Yc|apply Yb)|((with_reducible apply ws);exact rfl;exact rfl)
 refine Yf rfl to_bool rfl hb2 rfl ?_
 repeat ((with_reducible apply ws);exact rfl;exact rfl)
 cases hn : t.nul
 ·repeat first|(with_reducible first|apply Yc|apply Yb|apply Ym)|((with_reducible apply ws);exact rfl;exact rfl)|((with_reducible apply US);exact rfl;exact rfl;exact rfl;exact rfl)
  exact Yk rfl rfl ⟨_,rfl,hfin,by simp [Fld.null,hn]⟩
 ·repeat first|((with_reducible apply ws);exact rfl;exact rfl)|((with_reducible apply YU);exact rfl;exact rfl;exact rfl)
  refine Yf rfl to_int rfl hb rfl ?_
  repeat first|((with_reducible apply ws);exact rfl;exact rfl)|((with_reducible apply YU);exact rfl;exact rfl;exact rfl)
  by_cases h1 : 0 ≤ f.nul
  ·have e1 : decide (0 ≤ f.nul) = true:=by simpa using h1
   rw [e1]
   repeat first|((with_reducible apply ws);exact rfl;exact rfl)|((with_reducible apply YU);exact rfl;exact rfl;exact rfl)
   refine Yf rfl to_int rfl hb rfl ?_
   repeat first|(with_reducible first|apply Yc|apply Yb|apply Ym)|((with_reducible apply ws);exact rfl;exact rfl)|((with_reducible apply YU);exact rfl;exact rfl;exact rfl)
   exact Yk rfl rfl ⟨_,rfl,hfin,by simp [Fld.null,hn,h1]⟩
  ·have e1 : decide (0 ≤ f.nul) = false:=by simpa using h1
   rw [e1]
   repeat first|(with_reducible first|apply Yc|apply Yb|apply Ym)|((with_reducible apply ws);exact rfl;exact rfl)|((with_reducible apply US);exact rfl;exact rfl;exact rfl;exact rfl)
   exact Yk rfl rfl ⟨_,rfl,hfin,by simp [Fld.null,hn,h1]⟩
theorem fn_at (t : Tree) (i : Nat) (B : Nat) (w : World) (hB : B ≤ w.heap.size) (ts : List Value) (ht : Rep (Lo B) w (treeD t) ts) :
  Fn 34 [.agg ts.toArray,.int .i64 (i : Int)] w fun v w' => ∃ cs : List Value,v = .agg cs.toArray ∧ Rep (Lo B) w' (treeD (att t i)) cs:=by
 obtain ⟨sv2,lv,uv,rfl,_,hl,_⟩:=Xi ht
 obtain ⟨la,lc,rfl,_⟩:=hl.shape
 refine enter Tryz.func34 rfl Tryz.ntmps34 rfl ?_
 repeat (with_reducible first|apply Yd|apply Ya)
 refine XF rfl rfl rfl (fun w1 hb1 hg1 hs1 => YJ zv_tree rfl rfl (fun w2 hb2 hg2 hs2 => ?_))
 have hb:=hb1.kept hg2 (by simp)
 have hw2 : Below w.heap.size w w2:=(Yg hg1 (Nat.le_refl _) (by simp)).trans (Yg hg2 (by omega) (by simp))
 repeat first|(with_reducible first|apply Yd|apply Ya|apply Yc|apply Yb)|((with_reducible apply ws);exact rfl;exact rfl)
 refine Yf rfl to_trees rfl hb rfl ?_
 repeat first|(with_reducible first|apply Yc|apply Yb)|((with_reducible apply ws);exact rfl;exact rfl)
 by_cases h : i < t.l.length
 ·refine Yp rfl (by simpa using h) ?_
  have hl2:=hl.below (hw2.mono hB) (Nat.le_refl _)
  obtain ⟨b,off,c,cs,hv,hbB,hcs,hlen,hr⟩:=hl2.get (sz:=5) (i:=i) (by intro d hd;obtain ⟨x,_,rfl⟩:=List.mem_map.1 hd;exact Xs x) (by simpa using h)
  simp only [Value.slice.injEq,List.length_map] at hv
  obtain ⟨rfl,_,rfl⟩:=hv
  simp only [List.getElem_map] at hr
  repeat first|(with_reducible first|apply Yd|apply Ya)|((with_reducible apply ws);exact rfl;exact rfl)
  refine Yf rfl to_trees rfl hb rfl ?_
  repeat ((with_reducible apply ws);exact rfl;exact rfl)
  refine Ys rfl rfl es_trees rfl (by simpa using h) ?_
  refine Xv rfl (by rw [hlen];exact ta_tree) rfl (fun j v e => hcs.cell e) ?_
  obtain ⟨hone,hlen5⟩:=Yd8 hr
  refine Yn rfl rfl rfl (by rw [hlen5];exact tz_tree) hone hb2 (by rw [hlen5];rfl) (fun w3 hb3 hg3 hs3 => ?_)
  repeat (with_reducible first|apply Yc|apply Yb|apply Ym|apply Yj)
  have hw3 : Below w.heap.size w w3:=hw2.trans (Yg hg3 (by omega) (by intro k hk;simp at hk;omega))
  refine XT rfl rfl (by rw [hlen5];exact ta_tree) hb3 ⟨_,rfl,hw3,cs,rfl,?_⟩
  have : att t i = t.l[i]:=by simp [att,h]
  rw [this]
  exact hr.below (Yg hg3 (by omega) (by intro k hk;simp at hk;omega)) (Nat.le_refl _)
 ·refine Yu rfl (by simpa using h) ?_
  repeat (with_reducible first|apply Yd|apply Ya|apply Yb|apply Yh)
  refine Xa rfl (cs:=[.int .i64 0,.slice none 0 0,.bool false,.slice none 0 0,.slice none 0 0]) (by kernel_rfl) rfl ?_
  refine Yn rfl rfl rfl tz_tree rfl hb2 rfl (fun w3 hb3 hg3 hs3 => ?_)
  repeat (with_reducible first|apply Yc|apply Yb|apply Ym)
  have hw3 : Below w.heap.size w w3:=hw2.trans (Yg hg3 (by omega) (by intro k hk;simp at hk;omega))
  refine XT (cs:=[.int .i64 0,.slice none 0 0,.bool false,.slice none 0 0,.slice none 0 0]) rfl rfl ta_tree hb3 ⟨_,rfl,hw3,_,rfl,?_⟩
  have : att t i = Tree.none:=by simp [att,List.getD,List.getElem?_eq_none (by omega : t.l.length ≤ i)]
  rw [this]
  exact tree_none _ _
theorem take_min {α : Type} (l : List α) (n : Nat) : l.take (min l.length n) = l.take n:=by
 by_cases h : n ≤ l.length
 ·rw [Nat.min_eq_right h]
 ·rw [Nat.min_eq_left (by omega),List.take_of_length_le (by omega),List.take_of_length_le (by omega)]
theorem min_if (n : Nat) : (if (32767 : Int) < (n : Int) then (32767 : Int) else (n : Int)) = ((min n Vf : Nat) : Int):=by
 unfold Vf
 split <;> omega
theorem Yc6 (v : Value) (ds : List D) (B : Nat) (w : World) (h : Sq B w v ds) : Fn 40 [v] w fun v' w' => w' = w ∧ Sq B w v' (ds.take Vf):=by
 obtain ⟨a,c,rfl,hc⟩:=h.shape
 refine enter Tryz.func40 rfl Tryz.ntmps40 rfl ?_
 repeat first|(with_reducible first|apply Yd|apply Ya|apply Yc|apply Yb)|((with_reducible apply ws);exact rfl;exact rfl)
 refine wl_min rfl rfl rfl (min_if ds.length) ?_
 refine Yg7 rfl rfl el_bytes rfl (by omega) ?_
 repeat first|(with_reducible first|apply Yc|apply Yb|apply Ym)|((with_reducible apply ws);exact rfl;exact rfl)
 exact Yk rfl rfl ⟨_,rfl,Below.refl _ _,rfl,by rw [← take_min ds Vf];exact h.take (by omega)⟩
theorem fn_things (v : Value) (ds : List D) (B : Nat) (w : World) (h : Sq B w v ds) : Fn 71 [v] w fun v' w' => w' = w ∧ Sq B w v' (ds.take Vf):=by
 obtain ⟨a,c,rfl,hc⟩:=h.shape
 refine enter Tryz.func71 rfl Tryz.ntmps71 rfl ?_
 repeat first|(with_reducible first|apply Yd|apply Ya|apply Yc|apply Yb)|((with_reducible apply ws);exact rfl;exact rfl)
 refine wl_min rfl rfl rfl (min_if ds.length) ?_
 refine Yg7 rfl rfl el_trees rfl (by omega) ?_
 repeat first|(with_reducible first|apply Yc|apply Yb|apply Ym)|((with_reducible apply ws);exact rfl;exact rfl)
 exact Yk rfl rfl ⟨_,rfl,Below.refl _ _,rfl,by rw [← take_min ds Vf];exact h.take (by omega)⟩
theorem fn_width (k : Int) (w : World) : Fn 69 [.int .i64 k] w fun v' w' => w' = w ∧ v' = .int .i64 (width k : Nat):=by
 refine enter Tryz.func69 rfl Tryz.ntmps69 rfl ?_
 repeat first|(with_reducible first|apply Yd|apply Ya|apply Yc|apply Yb|apply Yr)|((with_reducible apply ws);exact rfl;exact rfl)
 by_cases h1 : k = 1
 ·subst h1
  refine Yp rfl (by decide) ?_
  repeat first|(with_reducible first|apply Yd|apply Ya|apply Yc|apply Yb|apply Ym|apply Yj|apply YL)|((with_reducible apply ws);exact rfl;exact rfl)
  exact Yk rfl rfl ⟨_,rfl,Below.refl _ _,rfl,rfl⟩
 ·refine Yu rfl (by simpa using h1) ?_
  repeat first|(with_reducible first|apply Yd|apply Ya|apply Yc|apply Yb)|((with_reducible apply ws);exact rfl;exact rfl)
  by_cases h2 : k = 2
  ·subst h2
   refine Yp rfl (by decide) ?_
   repeat (with_reducible first|apply Yb|apply Yh)
   refine Yp rfl (by decide) ?_
   repeat first|(with_reducible first|apply Yd|apply Ya|apply Yc|apply Yb|apply Ym|apply Yj|apply YL)|((with_reducible apply ws);exact rfl;exact rfl)
   exact Yk rfl rfl ⟨_,rfl,Below.refl _ _,rfl,rfl⟩
  ·refine Yu rfl (by simpa using h2) ?_
   repeat first|(with_reducible first|apply Ya|apply Yc|apply Yb)|((with_reducible apply ws);exact rfl;exact rfl)
   by_cases h5 : k = 5
   ·subst h5
    refine Yp rfl (by decide) ?_
    repeat first|(with_reducible first|apply Yd|apply Ya|apply Yc|apply Yb|apply Ym|apply Yj|apply YL)|((with_reducible apply ws);exact rfl;exact rfl)
    exact Yk rfl rfl ⟨_,rfl,Below.refl _ _,rfl,rfl⟩
   ·refine Yu rfl (by simpa using h5) ?_
    repeat first|(with_reducible first|apply Yd|apply Ya|apply Yc|apply Yb)|((with_reducible apply ws);exact rfl;exact rfl)
    by_cases h3 : k = 3
    ·subst h3
     refine Yp rfl (by decide) ?_
     repeat first|(with_reducible first|apply Yd|apply Ya|apply Yc|apply Yb|apply Ym|apply Yj|apply YL)|((with_reducible apply ws);exact rfl;exact rfl)
     exact Yk rfl rfl ⟨_,rfl,Below.refl _ _,rfl,rfl⟩
    ·refine Yu rfl (by simpa using h3) ?_
     repeat first|(with_reducible first|apply Yd|apply Ya|apply Yc|apply Yb|apply Yh|apply Ym|apply XS)|((with_reducible apply ws);exact rfl;exact rfl)
     exact Yk rfl rfl ⟨_,rfl,Below.refl _ _,rfl,by simp [width,h1,h2,h5,h3]⟩
structure FxS where
 k : Nat
 d : Value
 xs : List UInt8
theorem UG (n : Int) (size : Nat) (hs : size ≤ 8) (w : World) : Fn 33 [.int .i64 n,.int .i64 (size : Int)] w fun v w' => Own w' w.heap.size 5 v (be size n):=by
 refine enter Tryz.func33 rfl Tryz.ntmps33 rfl ?_
 repeat first|(with_reducible first|apply Yd|apply Ya|apply Yc|apply Yb)|((with_reducible apply ws);exact rfl;exact rfl)
 refine VS rfl rfl rfl (r:=(size : Int) - 1) (by rw [IntKind.wrap_i64];omega) ?_
 repeat first|(with_reducible first|apply Yc|apply Yb|apply Yr)|((with_reducible apply ws);exact rfl;exact rfl)
 refine Xu (α:=FxS) (fun x => [(6,.int .i64 ((x.k : Int) - 1)),(5,x.d),(0,.int .i64 n)]) (fun x w' => x.k ≤ size ∧ x.xs ++ be x.k n = be size n ∧ Own w' w.heap.size 5 x.d x.xs ∧ Below w.heap.size w w') (fun x => x.k) ⟨size,.slice none 0 0,[]⟩ ⟨rfl,rfl,rfl,trivial⟩ ⟨Nat.le_refl _,rfl,Own.nil _ _ _,Below.refl _ _⟩ ?_
 rintro ⟨k,d,xs⟩ w1 ⟨hk,hx,ho,hb⟩
 simp only [] at hk hx ho
 change WC _ _ _ _ [(6,.int .i64 ((k : Int) - 1)),(5,d),(0,.int .i64 n)] _
 repeat first|(with_reducible first|apply Yd|apply Ya|apply Yc|apply Yb)|((with_reducible apply ws);exact rfl;exact rfl)
 cases k with
 | zero =>
  refine Yu rfl (by decide) ?_
  repeat first|(with_reducible first|apply Yd|apply Ya|apply Yc|apply Yb|apply Ym|apply Xk|apply Yw|apply YB|apply Yq)|((with_reducible apply ws);exact rfl;exact rfl)
  simp only [be,List.append_nil] at hx
  exact Yk rfl rfl ⟨_,rfl,hb,hx ▸ ho⟩
 | succ k =>
  refine Yp rfl (by simp) ?_
  repeat first|(with_reducible first|apply Yd|apply Ya|apply Yb|apply Yr|apply Yh)|((with_reducible apply ws);exact rfl;exact rfl)
  refine wl_mul rfl rfl rfl (r:=((8 * k : Nat) : Int)) (by rw [IntKind.wrap_i64];omega) ?_
  refine wl_shrV rfl rfl rfl (by omega) (r:=n / (2 ^ (8 * k) : Nat)) ?_ ?_
  ·rw [show min ((8 * k : Nat) : Int).toNat IntKind.i64.bits = 8 * k from by simp [IntKind.bits];omega,Int.fdiv_eq_ediv_of_nonneg _ (by exact_mod_cast Nat.zero_le _)]
   push_cast;rfl
  refine YY .u8 rfl ti_l64 ti_u8 rfl (wrap_u8 _) ?_
  refine Yj2 tb_bytes rfl (ys:=[UP (n / (2 ^ (8 * k) : Nat))]) rfl rfl rfl rfl rfl rfl ho hb.size ?_ (fun d' w2 ho2 hg2 => ?_)
  ·have:=congrArg List.length hx
   simp only [List.length_append,be_length] at this
   simp only [List.length_cons,List.length_nil,lim]
   omega
  repeat first|(with_reducible first|apply Ya|apply Yc|apply Yb|apply XS)|((with_reducible apply ws);exact rfl;exact rfl)
  refine VS rfl rfl rfl (r:=(k : Int) - 1) (by rw [IntKind.wrap_i64];omega) ?_
  repeat first|(with_reducible apply Yc)|((with_reducible apply ws);exact rfl;exact rfl)
  refine YD ⟨k,d',xs ++ [UP (n / (2 ^ (8 * k) : Nat))]⟩ ⟨rfl,rfl,rfl,trivial⟩ ⟨by simp only [];omega,?_,ho2,hb.trans (hg2.below hb.size ho.ge)⟩ (by simp)
  simp only [List.append_assoc]
  rw [← hx];rfl
theorem uvar_pos (n : Nat) : 1 ≤ (uvar n).length:=by rw [uvar];split <;> simp
theorem uvar_len_le : ∀ (k n : Nat),n < 2 ^ (7 * k) → (uvar n).length ≤ k + 1
 | 0,n,h => by rw [Yl3 (by simpa using (by omega : n < 128))];simp
 | k + 1,n,h => by
  by_cases h1 : n < 128
  ·rw [Yl3 h1];simp
  ·rw [uvar_ge (by omega)]
   have:=uvar_len_le k (n / 128) (by
    rw [show 7 * (k + 1) = 7 * k + 7 from by omega,Nat.pow_add] at h
    exact Nat.div_lt_of_lt_mul (by rw [Nat.mul_comm];exact h))
   simp only [List.length_cons];omega
structure UvS where
 m : Nat
 d : Value
 xs : List UInt8
theorem fn_uvarint (n : Nat) (hn : n < 18446744073709551616) (w : World) : Fn 81 [.int .u64 (n : Int)] w fun v w' => Own w' w.heap.size 5 v (uvar n):=by
 have hlen : (uvar n).length ≤ 11:=uvar_len_le 10 n (Nat.lt_of_lt_of_le hn (by decide))
 refine enter Tryz.func81 rfl Tryz.ntmps81 rfl ?_
 repeat first|(with_reducible first|apply Yd|apply Ya|apply Yc|apply Yb|apply Yr)|((with_reducible apply ws);exact rfl;exact rfl)
 refine Xu (α:=UvS) (fun x => [(0,.int .u64 (x.m : Int)),(3,x.d)]) (fun x w' => x.m ≤ n ∧ x.xs ++ uvar x.m = uvar n ∧ Own w' w.heap.size 5 x.d x.xs ∧ Below w.heap.size w w') (fun x => x.m) ⟨n,.slice none 0 0,[]⟩ ⟨rfl,rfl,trivial⟩ ⟨Nat.le_refl _,rfl,Own.nil _ _ _,Below.refl _ _⟩ ?_
 rintro ⟨m,d,xs⟩ w1 ⟨hm,hx,ho,hb⟩
 simp only [] at hm hx ho
 change WC _ _ _ _ [(0,.int .u64 (m : Int)),(3,d)] _
 have hl:=congrArg List.length hx
 simp only [List.length_append] at hl
 have:=uvar_pos m
 repeat first|(with_reducible first|apply Yd|apply Ya|apply Yc|apply Yb)|((with_reducible apply ws);exact rfl;exact rfl)
 by_cases h : m < 128
 ·refine Yu rfl (by simp;omega) ?_
  repeat first|(with_reducible first|apply Yd|apply Ya|apply Yb|apply Xk|apply Yw|apply YB|apply Yq)|((with_reducible apply ws);exact rfl;exact rfl)
  refine YY .u8 rfl ti_u64 ti_u8 rfl (r:=((UInt8.ofNat m).toNat : Int)) (by rw [byteNat m (by omega),IntKind.wrap_u8];omega) ?_
  refine Yj2 tb_bytes rfl (ys:=[UInt8.ofNat m]) rfl rfl rfl rfl rfl rfl ho hb.size (by simp only [List.length_cons,List.length_nil,lim];omega) (fun d' w2 ho2 hg2 => ?_)
  repeat first|(with_reducible first|apply Yc|apply Yb|apply Ym)|((with_reducible apply ws);exact rfl;exact rfl)
  rw [Yl3 h] at hx
  exact Yk rfl rfl ⟨_,rfl,hb.trans (hg2.below hb.size ho.ge),hx ▸ ho2⟩
 ·refine Yp rfl (by simp;omega) ?_
  repeat first|(with_reducible first|apply Yd|apply Ya|apply Yb|apply Yr|apply Yh)|((with_reducible apply ws);exact rfl;exact rfl)
  refine Ud rfl rfl rfl (and127w m (by omega)) ?_
  refine YY .u8 rfl ti_u64 ti_u8 rfl (r:=((m % 128 : Nat) : Int)) (by rw [IntKind.wrap_u8];omega) ?_
  refine wl_or rfl rfl rfl (r:=((UInt8.ofNat (m % 128 + 128)).toNat : Int)) (by rw [or128b _ (by omega),byteNat _ (by omega)]) ?_
  refine Yj2 tb_bytes rfl (ys:=[UInt8.ofNat (m % 128 + 128)]) rfl rfl rfl rfl rfl rfl ho hb.size (by simp only [List.length_cons,List.length_nil,lim];omega) (fun d' w2 ho2 hg2 => ?_)
  repeat first|(with_reducible first|apply Ya|apply Yc|apply Yb)|((with_reducible apply ws);exact rfl;exact rfl)
  refine wl_shr rfl rfl rfl (r:=((m / 128 : Nat) : Int)) (shr_nat m 7 64 (by omega)) ?_
  repeat first|(with_reducible first|apply Yc|apply XS)|((with_reducible apply ws);exact rfl;exact rfl)
  refine YD ⟨m / 128,d',xs ++ [UInt8.ofNat (m % 128 + 128)]⟩ ⟨rfl,rfl,trivial⟩ ⟨by simp only [];omega,?_,ho2,hb.trans (hg2.below hb.size ho.ge)⟩ (by simp only [];omega)
  simp only [List.append_assoc]
  rw [← hx,uvar_ge (n:=m) (by omega)];rfl
theorem Jb (flex null : Bool) (n size : Nat) (hn : n < 9223372036854775807) (hs : size ≤ 8) (w : World) :
  Fn 131 [.bool flex,.bool null,.int .i64 (n : Int),.int .i64 (size : Int)] w fun v w' => Own w' w.heap.size 5 v (YR flex null n size):=by
 refine enter Tryz.func131 rfl Tryz.ntmps131 rfl ?_
 repeat first|(with_reducible first|apply Yd|apply Ya|apply Yc|apply Yb|apply Yr)|((with_reducible apply ws);exact rfl;exact rfl)
 cases flex
 ·repeat first|(with_reducible first|apply Yc|apply Yb)|((with_reducible apply ws);exact rfl;exact rfl)|((with_reducible apply US);exact rfl;exact rfl;exact rfl;exact rfl)
  refine Yu rfl rfl ?_
  repeat first|(with_reducible first|apply Yd|apply Ya|apply Yc|apply Yb)|((with_reducible apply ws);exact rfl;exact rfl)
  refine Yu rfl rfl ?_
  repeat first|(with_reducible first|apply Yd|apply Ya|apply Yc|apply Yb)|((with_reducible apply ws);exact rfl;exact rfl)
  cases null
  ·refine Yu rfl rfl ?_
   repeat first|(with_reducible first|apply Yd|apply Ya|apply Yb|apply Yh|apply XS)|((with_reducible apply ws);exact rfl;exact rfl)
   refine Yo rfl (by kernel_rfl) rfl ((UG n size hs w).mono ?_)
   rintro e w' ⟨v,rfl,hb,ho⟩
   refine ⟨v,rfl,?_⟩
   repeat first|(with_reducible first|apply Yc|apply Yb|apply Ym)|((with_reducible apply ws);exact rfl;exact rfl)
   exact Yk rfl rfl ⟨_,rfl,hb,by simpa [YR] using ho⟩
  ·refine Yp rfl rfl ?_
   repeat first|(with_reducible first|apply Yd|apply Ya)|((with_reducible apply ws);exact rfl;exact rfl)
   refine Yo rfl (by kernel_rfl) rfl ((UG (-1) size hs w).mono ?_)
   rintro e w' ⟨v,rfl,hb,ho⟩
   refine ⟨v,rfl,?_⟩
   repeat first|(with_reducible first|apply Yc|apply Yb|apply Ym|apply Yj|apply YL)|((with_reducible apply ws);exact rfl;exact rfl)
   exact Yk rfl rfl ⟨_,rfl,hb,by simpa [YR] using ho⟩
 ·repeat first|(with_reducible first|apply Yc|apply Yb)|((with_reducible apply ws);exact rfl;exact rfl)|((with_reducible apply YU);exact rfl;exact rfl;exact rfl)
  cases null
  ·refine Yu rfl rfl ?_
   repeat first|(with_reducible first|apply Yd|apply Ya|apply Yc|apply Yb)|((with_reducible apply ws);exact rfl;exact rfl)
   refine Yp rfl rfl ?_
   repeat first|(with_reducible first|apply Yd|apply Ya)|((with_reducible apply ws);exact rfl;exact rfl)
   refine YY .u64 rfl ti_i64 ti_u64 rfl (r:=(n : Int)) (by rw [IntKind.wrap_u64];omega) ?_
   refine Xn rfl rfl rfl (r:=((n + 1 : Nat) : Int)) (by rw [IntKind.wrap_u64];omega) ?_
   refine Yo rfl (by kernel_rfl) rfl ((fn_uvarint (n + 1) (by omega) w).mono ?_)
   rintro e w' ⟨v,rfl,hb,ho⟩
   refine ⟨v,rfl,?_⟩
   repeat first|(with_reducible first|apply Yc|apply Yb|apply Ym|apply Yj|apply YL)|((with_reducible apply ws);exact rfl;exact rfl)
   exact Yk rfl rfl ⟨_,rfl,hb,by simpa [YR] using ho⟩
  ·refine Yp rfl rfl ?_
   repeat (with_reducible first|apply Yd|apply Ya)
   refine wl_lit tb_bytes rfl (ys:=[0]) rfl rfl rfl rfl (fun w1 ho hb => ?_)
   repeat first|(with_reducible first|apply Yc|apply Yb|apply Ym|apply Yj|apply YL)|((with_reducible apply ws);exact rfl;exact rfl)
   exact Yk rfl rfl ⟨_,rfl,hb,by simpa [YR] using ho⟩
end
end

section
open Go Go.RowKit
theorem Vq.below {w w' : World} {v : Value} {ys : List UInt8} (h : Vq w v ys) (hb : Below w.heap.size w w') : Vq w' v ys:=by
 rcases h with ⟨a,c,rfl,rfl⟩ | ⟨b,off,c,rfl,hc⟩
 ·exact .inl ⟨a,c,rfl,rfl⟩
 ·exact .inr ⟨b,off,c,rfl,hc.of_block (hb.block b hc.lt)⟩
theorem Vq.get {w : World} {v : Value} {ys : List UInt8} (h : Vq w v ys) {i : Nat} (hi : i < ys.length) : ∃ b off c,v = .slice (some ⟨b,off,none⟩) ys.length c ∧ w.cell? ⟨b,off + i * 1,none⟩ = some (.int .u8 (ys[i].toNat : Int)):=by
 rcases h with ⟨a,c,rfl,rfl⟩ | ⟨b,off,c,rfl,hc⟩
 ·simp at hi
 ·refine ⟨b,off,c,rfl,?_⟩
  rw [Nat.mul_one]
  exact hc.cell (by simp [bv,hi])
theorem take_ne {xs ys : List UInt8} {i : Nat} (hx : i < xs.length) (hy : i < ys.length) (h : xs[i] ≠ ys[i]) : (xs == ys) = false:=by
 rw [beq_eq_false_iff_ne]
 rintro rfl
 exact h rfl
theorem u8_ne {a b : UInt8} : ((a.toNat : Int) != (b.toNat : Int)) = (a != b):=by
 rw [Bool.eq_iff_iff]
 simp only [bne_iff_ne,ne_eq]
 rw [Int.ofNat_inj,UInt8.toNat_inj]
section
set_option maxRecDepth 100000
theorem Ym0 (va vb : Value) (xs ys : List UInt8) (w : World) (ha : Vq w va xs) (hb : Vq w vb ys) (hx : xs.length ≤ lim) (hy : ys.length ≤ lim) :
  Fn 23 [va,vb] w fun v _ => v = .bool (xs == ys):=by
 simp only [lim] at hx hy
 obtain ⟨aa,ca,hva⟩:=ha.shape
 obtain ⟨ab,cb,hvb⟩:=hb.shape
 subst hva;subst hvb
 refine enter Tryz.func23 rfl Tryz.ntmps23 rfl ?_
 repeat first|(with_reducible first|apply Yd|apply Ya|apply Yc|apply Yb)|((with_reducible apply ws);exact rfl;exact rfl)
 by_cases hl : xs.length = ys.length
 ·refine Yu rfl (by simp [hl]) ?_
  repeat first|(with_reducible first|apply Yd|apply Ya|apply Yc|apply Yb|apply Yr|apply Yh)|((with_reducible apply ws);exact rfl;exact rfl)
  refine Xu (α:=Nat) (fun i => [(13,.int .i64 (i : Int)),(12,.int .i64 (xs.length : Int)),(0,.slice aa xs.length ca),(1,.slice ab ys.length cb)]) (fun i w' => i ≤ xs.length ∧ xs.take i = ys.take i ∧ Below w.heap.size w w') (fun i => xs.length - i) 0 ⟨rfl,rfl,rfl,rfl,trivial⟩ ⟨by omega,rfl,Below.refl _ _⟩ ?_
  rintro i w1 ⟨hi,ht,hw⟩
  repeat first|(with_reducible first|apply Yd|apply Ya|apply Yc|apply Yb)|((with_reducible apply ws);exact rfl;exact rfl)
  by_cases hlt : i < xs.length
  ·refine Yp rfl (by simpa using hlt) ?_
   repeat first|(with_reducible first|apply Yd|apply Ya|apply Yc|apply Yb|apply Yr|apply Yh)|((with_reducible apply ws);exact rfl;exact rfl)
   obtain ⟨b1,o1,c1,hv1,hc1⟩:=(ha.below hw).get hlt
   obtain ⟨b2,o2,c2,hv2,hc2⟩:=(hb.below hw).get (i:=i) (by omega)
   simp only [Value.slice.injEq] at hv1 hv2
   obtain ⟨rfl,_,rfl⟩:=hv1
   obtain ⟨rfl,_,rfl⟩:=hv2
   refine XJ [(0,.slice (some ⟨b1,o1,none⟩) xs.length ca),(1,.int .i64 (i : Int)),(2,.pointer (some ⟨b1,o1 + i * 1,none⟩)),(3,.int .u8 (xs[i].toNat : Int)),(4,.slice (some ⟨b2,o2,none⟩) ys.length cb),(5,.int .i64 (i : Int)),(6,.pointer (some ⟨b2,o2 + i * 1,none⟩)),(7,.int .u8 (ys[i].toNat : Int)),(8,.bool ((xs[i].toNat : Int) != (ys[i].toNat : Int)))] []
    (fun _ w' => Below w.heap.size w w' ∧ w'.cell? ⟨b1,o1 + i * 1,none⟩ = some (.int .u8 (xs[i].toNat : Int)) ∧ w'.cell? ⟨b2,o2 + i * 1,none⟩ = some (.int .u8 (ys[i].toNat : Int)))
    mixed rfl rfl rfl rfl rfl (by show ([0,1,2,3,4,5,6,7,8] : List Nat).Nodup;decide) rfl rfl (by decide) rfl rfl rfl rfl ⟨hw.drew,hc1,hc2⟩ ?_ trivial ?_
   ·intro p hp vals w' hC a k
    simp only [List.mem_cons,List.not_mem_nil,or_false] at hp
    rcases hp with rfl | rfl | rfl | rfl | rfl | rfl | rfl | rfl | rfl
    ·exact gv rfl rfl (Yl k rfl)
    ·exact gv rfl rfl (Yl k rfl)
    ·exact gv rfl rfl (Yx k rfl rfl es_bytes hlt)
    ·exact gv rfl rfl (Yy k rfl to_u8 hC.2.1)
    ·exact gv rfl rfl (Yl k rfl)
    ·exact gv rfl rfl (Yl k rfl)
    ·exact gv rfl rfl (Yx k rfl rfl es_bytes (by omega))
    ·exact gv rfl rfl (Yy k rfl to_u8 hC.2.2)
    ·exact gv rfl rfl (rn_neq k rfl rfl)
   ·rintro vals w' hvl ⟨hw',_,_⟩
    refine Yb ?_
    by_cases hne : xs[i] = ys[i]
    ·refine Yu rfl (by rw [hne];simp) ?_
     repeat (with_reducible first|apply Ya|apply Yb|apply Yh|apply XS)
     refine Xn rfl rfl rfl (r:=((i + 1 : Nat) : Int)) (by rw [IntKind.wrap_i64];omega) ?_
     repeat first|(with_reducible apply Yc)|((with_reducible apply ws);exact rfl;exact rfl)
     refine YD (i + 1) ⟨rfl,rfl,rfl,rfl,trivial⟩ ⟨by omega,?_,hw'⟩ (by omega)
     rw [List.take_succ_eq_append_getElem hlt,List.take_succ_eq_append_getElem (by omega),ht,hne]
    ·refine Yp rfl (by rw [u8_ne];simpa using hne) ?_
     repeat first|(with_reducible first|apply Yd|apply Ya|apply Yc|apply Yb|apply Ym|apply Yj|apply YL|apply VJ)|((with_reducible apply ws);exact rfl;exact rfl)
     exact Yk rfl rfl ⟨_,rfl,hw',by rw [take_ne hlt (by omega) hne]⟩
  ·refine Yu rfl (by simpa using hlt) ?_
   repeat first|(with_reducible first|apply Yd|apply Ya|apply Yc|apply Yb|apply Ym|apply Xk|apply Yw|apply YB|apply Yq)|((with_reducible apply ws);exact rfl;exact rfl)
   refine Yk rfl rfl ⟨_,rfl,hw,?_⟩
   rw [List.take_of_length_le (by omega),List.take_of_length_le (by omega)] at ht
   simp [ht]
 ·refine Yp rfl (by simp;omega) ?_
  repeat first|(with_reducible first|apply Yd|apply Ya|apply Yc|apply Yb|apply Ym|apply Yj)|((with_reducible apply ws);exact rfl;exact rfl)
  refine Yk rfl rfl ⟨_,rfl,Below.refl _ _,?_⟩
  have : (xs == ys) = false:=by rw [beq_eq_false_iff_ne];rintro rfl;exact hl rfl
  rw [this]
theorem known_snoc (fs : List Fld) (f : Fld) : YN (fs ++ [f]) = if 0 ≤ f.tag then max (YN fs) (f.tag.toNat + 1) else YN fs:=by simp [YN]
theorem known_le {fs : List Fld} (h : ∀ f ∈ fs,f.tag < 2147483647) : YN fs < 2147483648:=by
 have : ∀ (fs : List Fld) (m : Nat),m < 2147483648 → (∀ f ∈ fs,f.tag < 2147483647) → fs.foldl (fun n f => if 0 ≤ f.tag then max n (f.tag.toNat + 1) else n) m < 2147483648:=by
  intro fs
  induction fs with
  | nil => intro m hm _;simpa using hm
  | cons f fs ih =>
   intro m hm h
   simp only [List.foldl_cons]
   refine ih _ ?_ (fun g hg => h g (by simp [hg]))
   have:=h f (by simp)
   split <;> omega
 exact this fs 0 (by omega) h
theorem fn_known (v : Value) (fs : List Fld) (B : Nat) (w : World) (hB : B ≤ w.heap.size) (h : Sq B w v (fs.map fldD)) (ht : ∀ f ∈ fs,f.tag < 2147483647) (hl : fs.length ≤ 1000000) :
  Fn 72 [v] w fun r _ => r = .int .u32 (YN fs : Nat):=by
 obtain ⟨a,c,rfl,_⟩:=h.shape
 simp only [List.length_map] at *
 refine enter Tryz.func72 rfl Tryz.ntmps72 rfl ?_
 repeat first|(with_reducible first|apply Yd|apply Ya|apply Yc|apply Yb|apply Yr)|((with_reducible apply ws);exact rfl;exact rfl)
 refine Xu (α:=Nat) (fun i => [(8,.int .i64 (i : Int)),(7,.int .i64 (fs.length : Int)),(6,.slice a fs.length c),(3,.int .u32 (YN (fs.take i) : Nat))]) (fun i w' => i ≤ fs.length ∧ Below w.heap.size w w') (fun i => fs.length - i) 0 ⟨rfl,rfl,rfl,rfl,trivial⟩ ⟨by omega,Below.refl _ _⟩ ?_
 rintro i w1 ⟨hi,hw⟩
 repeat first|(with_reducible first|apply Yd|apply Ya|apply Yc|apply Yb)|((with_reducible apply ws);exact rfl;exact rfl)
 by_cases hlt : i < fs.length
 ·refine Yp rfl (by simpa using hlt) ?_
  obtain ⟨b,off,c',cs,hv,_,hcs,hlen,hr⟩:=(h.below (hw.mono hB) (Nat.le_refl _)).get (sz:=8) (i:=i) (by intro d hd;obtain ⟨x,_,rfl⟩:=List.mem_map.1 hd;exact Uo x) (by simpa using hlt)
  simp only [Value.slice.injEq,List.length_map] at hv
  obtain ⟨rfl,_,rfl⟩:=hv
  simp only [List.getElem_map] at hr
  obtain ⟨hone,_⟩:=Yb0 hr
  have hti:=ht fs[i] (by simp)
  have hkl:=known_le (fs:=fs.take i) (fun f hf => ht f (List.mem_of_mem_take hf))
  have hsn:=known_snoc (fs.take i) fs[i]
  rw [← List.take_succ_eq_append_getElem hlt] at hsn
  obtain ⟨sv,hce,_⟩:=Vs hr
  subst hce
  repeat (with_reducible first|apply Yd|apply Ya|apply Yb|apply Yr|apply Yh)
  refine Ys rfl rfl es_flds rfl hlt ?_
  refine Xv (cs:=[.int .i64 fs[i].kind,.int .i64 fs[i].fr,.int .i64 fs[i].upto,.int .i64 fs[i].nul,.int .i64 fs[i].tag,.int .i64 fs[i].df,.int .i64 fs[i].of,sv]) rfl ta_fld rfl (fun j v e => hcs.cell e) ?_
  refine YJ Yj0 rfl rfl (fun w2 hb2 hg2 hs2 => ?_)
  refine Yn rfl rfl rfl tz_fld hone hb2 rfl (fun w3 hb3 hg3 hs3 => ?_)
  have hs1:=hw.size
  have hw3 : Below w.heap.size w w3:=(hw.trans (Yg hg2 hs1 (by simp))).trans (Yg hg3 (by omega) (by intro k hk;simp at hk;omega))
  repeat first|(with_reducible first|apply Yd|apply Ya|apply Yc|apply Yb)|((with_reducible apply ws);exact rfl;exact rfl)
  refine Yf rfl to_int rfl hb3 rfl ?_
  repeat first|(with_reducible first|apply Yc|apply Yb)|((with_reducible apply ws);exact rfl;exact rfl)
  by_cases htag : 0 ≤ fs[i].tag
  ·refine Yp rfl (by simpa using htag) ?_
   rw [if_pos htag] at hsn
   repeat first|(with_reducible apply Ya)|((with_reducible apply ws);exact rfl;exact rfl)
   refine Yf rfl to_int rfl hb3 rfl ?_
   refine YY .u32 rfl ti_i64 ti_u32 rfl (r:=fs[i].tag) (by rw [IntKind.wrap_u32];omega) ?_
   refine Xn rfl rfl rfl (r:=fs[i].tag + 1) (by rw [IntKind.wrap_u32];omega) ?_
   refine wl_max rfl rfl rfl (r:=((YN (fs.take (i + 1)) : Nat) : Int)) (by rw [hsn];split <;> omega) ?_
   repeat first|(with_reducible first|apply Ya|apply Yc|apply Yb|apply XS)|((with_reducible apply ws);exact rfl;exact rfl)
   refine Xn rfl rfl rfl (r:=((i + 1 : Nat) : Int)) (by rw [IntKind.wrap_i64];omega) ?_
   repeat first|(with_reducible apply Yc)|((with_reducible apply ws);exact rfl;exact rfl)
   exact YD (i + 1) ⟨rfl,rfl,rfl,rfl,trivial⟩ ⟨by omega,hw3⟩ (by omega)
  ·refine Yu rfl (by simpa using htag) ?_
   rw [if_neg htag] at hsn
   repeat (with_reducible first|apply Ya|apply Yb|apply Yh|apply XS)
   refine Xn rfl rfl rfl (r:=((i + 1 : Nat) : Int)) (by rw [IntKind.wrap_i64];omega) ?_
   repeat first|(with_reducible apply Yc)|((with_reducible apply ws);exact rfl;exact rfl)
   exact YD (i + 1) ⟨rfl,rfl,rfl,by rw [hsn];rfl,trivial⟩ ⟨by omega,hw3⟩ (by omega)
 ·refine Yu rfl (by simpa using hlt) ?_
  repeat first|(with_reducible first|apply Yd|apply Ya|apply Yc|apply Yb|apply Ym|apply Xk|apply Yw|apply YB|apply Yq)|((with_reducible apply ws);exact rfl;exact rfl)
  refine Yk rfl rfl ⟨_,rfl,hw,?_⟩
  rw [List.take_of_length_le (by omega)]
end
end

section
open Go Go.RowKit
section
variable {P : Program} {N : Nat} {L : Sl} {a : Act} {w : World}
theorem gv_noU {ops : List Oper} {i j t : Nat} {o : Oper} {want : Bool} (ho : ops[i]? = some o) (hg : o.guard = some (j, want)) (hj : YH ops j = some t) (k : Kn N a L) (hb : lk L t = some undef) : Ya3 P ops i undef a w := by
  unfold Ya3
  rw [ho]
  have h1 := k.at_ t _ hb
  have hy : yielded ops.toArray a.tmps j = none := by
    have hj' : (ops[j]?).bind (·.dst) = some t := hj
    simp only [yielded, List.getElem?_toArray, hj', Option.bind_some]
    simp only [gt, Array.getD_eq_getD_getElem?] at h1
    cases ht : a.tmps[t]? with
    | none => rfl
    | some v => rw [ht] at h1; simp at h1; subst h1; rfl
  exact .inr ⟨by simp [Region.wanted, hg, hy], rfl⟩
end
abbrev Tg : Type := (Nat × List UInt8) × Value
def Vd (qs : List Tg) : List Value := qs.flatMap fun q => [.int .u32 q.1.1, q.2]
theorem Jf (a b : List Tg) : Vd (a ++ b) = Vd a ++ Vd b := by simp [Vd]
theorem Je (q : Tg) (b : List Tg) : Vd (q :: b) = [.int .u32 q.1.1, q.2] ++ Vd b := by simp [Vd]
theorem Ye0 (a : List Tg) : (Vd a).length = a.length * 2 := by
  induction a with
  | nil => rfl
  | cons q a ih => rw [Je]; simp only [List.length_append, ih, List.length_cons, List.length_nil]; omega
theorem Yh0 (qs : List Tg) {j : Nat} (hj : j < qs.length) : Vd qs = Vd (qs.take j) ++ ([.int .u32 qs[j].1.1, qs[j].2] ++ Vd (qs.drop (j + 1))) := by
  rw [← Je, ← Jf, List.getElem_cons_drop, List.take_append_drop]
theorem Yd4 {w : World} {g : Nat} {qs : List Tg} (h : YE w g 0 (Vd qs)) {j : Nat} (hj : j < qs.length) : YE w g (0 + j * 2) [.int .u32 qs[j].1.1, qs[j].2] := by
  rw [Yh0 qs hj] at h
  have := h.part
  rwa [Ye0, List.length_take, Nat.min_eq_left (by omega)] at this
theorem Yr6 (qs : List Tg) {j : Nat} (hj : j < qs.length) (q : Tg) : (Vd qs).take (j * 2) ++ [.int .u32 q.1.1, q.2] ++ (Vd qs).drop (j * 2 + 2) = Vd (qs.set j q) := by
  have e1 : (Vd (qs.take j)).length = j * 2 := by rw [Ye0, List.length_take, Nat.min_eq_left (by omega)]
  rw [Yh0 qs hj, List.set_eq_take_append_cons_drop, if_pos hj, Jf, Je]
  rw [List.take_append_of_le_length (by omega), List.take_of_length_le (by omega), ← List.append_assoc, List.drop_append_of_le_length (by simp [e1])]
  rw [List.drop_of_length_le (by simp [e1])]
  simp
theorem Yk1 {B : Nat} {w : World} : ∀ (qs : List Tg), (∀ q ∈ qs, Sq B w q.2 (q.1.2.map YF)) → YG (Lo B) w (qs.map fun q => Uk q.1) (Vd qs)
  | [], _ => by simp [Vd, YG]
  | q :: qs, h => by
    rw [Je, List.map_cons]
    simp only [YG]
    refine ⟨_, _, rfl, ?_, Yk1 qs (fun x hx => h x (by simp [hx]))⟩
    have h1 := h q (by simp)
    simp only [Sq] at h1
    simp only [Uk, Rep, YG, Xb]
    refine ⟨[_], [q.2], rfl, rfl, [q.2], [], rfl, ?_, rfl⟩
    simpa [Rep] using h1
theorem putTag_at (k : Nat) (v : List UInt8) : ∀ (l : List (Nat × List UInt8)) (j : Nat) (_ : j ≤ l.length), (∀ q (h : q < l.length), q < j → l[q].1 < k) → (∀ h : j < l.length, ¬ l[j].1 < k) →
    Xg k v l = if (∃ h : j < l.length, l[j].1 = k) then l else l.take j ++ (k, v) :: l.drop j
  | [], j, hj, _, _ => by
    have : j = 0 := by simpa using hj
    subst this; simp [Xg]
  | kv :: r, 0, _, _, h2 => by
    have := h2 (by simp)
    simp only [List.getElem_cons_zero] at this
    simp only [Xg, if_neg this, List.length_cons, List.getElem_cons_zero, List.take_zero, List.drop_zero, List.nil_append]
    by_cases he : kv.1 = k <;> simp [he]
  | kv :: r, j + 1, hj, h1, h2 => by
    have h0 := h1 0 (by simp) (by omega)
    simp only [List.getElem_cons_zero] at h0
    have ih := putTag_at k v r j (by simpa using hj) (fun q h hq => h1 (q + 1) (Nat.succ_lt_succ h) (Nat.succ_lt_succ hq)) (fun h => h2 (Nat.succ_lt_succ h))
    simp only [Xg, if_pos h0, ih, List.length_cons, List.getElem_cons_succ, Nat.add_lt_add_iff_right, List.take_succ_cons, List.drop_succ_cons]
    split <;> simp
def step (least : Nat) (out : List (Nat × List UInt8)) (kv : Nat × List UInt8) : List (Nat × List UInt8) := if kv.1 < least then out else Xg kv.1 kv.2 out
theorem putTag_length (k : Nat) (v : List UInt8) (l : List (Nat × List UInt8)) : (Xg k v l).length ≤ l.length + 1 := by
  induction l with
  | nil => simp [Xg]
  | cons a l ih => simp only [Xg]; split; · simp; omega
                   · split <;> simp
theorem Yp5 (least : Nat) (u : List (Nat × List UInt8)) {i : Nat} (hi : i < u.length) : (u.take (i + 1)).foldl (step least) [] = step least ((u.take i).foldl (step least) []) u[i] := by
  rw [List.take_succ_eq_append_getElem hi, List.foldl_append]; rfl
theorem VB (least : Nat) : ∀ (u out : List (Nat × List UInt8)), (u.foldl (step least) out).length ≤ out.length + u.length
  | [], out => by simp
  | kv :: u, out => by
    have h1 := VB least u (step least out kv)
    have h2 : (step least out kv).length ≤ out.length + 1 := by
      unfold step; split
      · omega
      · exact putTag_length _ _ _
    simp only [List.foldl_cons, List.length_cons]; omega
structure UkS where
  i : Nat
  d : Value
  qs : List Tg
structure UkI (B : Nat) (w : World) (N0 tt least : Nat) (u : List (Nat × List UInt8)) (x : UkS) (w' : World) : Prop where
  le : x.i ≤ min u.length Vf
  below : Below w.heap.size w w'
  row : w'.ownsRow N0 tt 2 x.d x.qs.length (Vd x.qs)
  says : x.qs.map (·.1) = (u.take x.i).foldl (step least) []
  at_ : ∀ q ∈ x.qs, Sq B w q.2 (q.1.2.map YF)
theorem Yq2 {qs : List Tg} {l : List (Nat × List UInt8)} (h : qs.map (·.1) = l) : l.length = qs.length := by rw [← h]; simp
theorem tg_get {qs : List Tg} {l : List (Nat × List UInt8)} (h : qs.map (·.1) = l) {j : Nat} (hj : j < qs.length) (hl : j < l.length) : l[j] = qs[j].1 := by subst h; simp
theorem shift_end (qs : List Tg) (x q : Tg) {j : Nat} (hj : j ≤ qs.length) : (qs.take j ++ x :: qs.drop j).set j q = qs.take j ++ q :: qs.drop j := by
  rw [List.set_append_right _ _ (by simp; omega)]
  have : j - (qs.take j).length = 0 := by simp; omega
  rw [this]; rfl
theorem shift_step (qs : List Tg) (x : Tg) {k : Nat} (hk : k + 1 ≤ qs.length) : (qs.take (k + 1) ++ x :: qs.drop (k + 1)).set (k + 1) qs[k] = qs.take k ++ qs[k] :: qs.drop k := by
  rw [shift_end qs x _ hk, List.take_succ_eq_append_getElem (by omega), List.append_assoc]
  congr 1
  simp only [List.singleton_append]
  rw [List.getElem_cons_drop]
theorem Row.kept {w w' : World} {B e sz : Nat} {d : Value} {n : Nat} {xs : List Value} {row : Option Nat} (h : w.ownsRow B e sz d n xs) (hg : w.grownBy w' row) (hne : ∀ g, d.ownBlock = some g → row ≠ some g) : w'.ownsRow B e sz d n xs := by
  refine World.ownsRow.kept h hg ?_
  cases hd : d.ownBlock with
  | none => exact .inl rfl
  | some g => exact .inr (fun e => hne g hd e.symm)
section
set_option maxRecDepth 100000
theorem Yi9 (fv uv : Value) (fs : List Fld) (u : List (Nat × List UInt8)) (B : Nat) (w : World) (hB : B ≤ w.heap.size) (hf : Sq B w fv (fs.map fldD)) (hu : Sq B w uv (u.map Uk)) (ht : ∀ f ∈ fs, f.tag < 2147483647) (hl : fs.length ≤ 1000000) :
    Fn 39 [fv, uv] w fun r w' => ∃ qs : List Tg, w'.ownsRow w.heap.size 79 2 r qs.length (Vd qs) ∧ qs.map (·.1) = Xm fs u ∧ ∀ q ∈ qs, Sq B w q.2 (q.1.2.map YF) := by
  obtain ⟨au, cu, rfl, hcu⟩ := hu.shape
  simp only [List.length_map] at *
  have hkn := known_le ht
  refine enter Tryz.func39 rfl Tryz.ntmps39 rfl ?_
  repeat first|(with_reducible first|apply Yd|apply Ya|apply Yc|apply Yb)|((with_reducible apply ws);exact rfl;exact rfl)
  refine Yo rfl (by kernel_rfl) rfl ((fn_known fv fs B w hB hf ht hl).mono ?_)
  rintro e w0 ⟨v, rfl, hw0, rfl⟩
  refine ⟨_, rfl, ?_⟩
  repeat first|(with_reducible first|apply Yd|apply Ya|apply Yc|apply Yb)|((with_reducible apply ws);exact rfl;exact rfl)
  refine wl_min rfl rfl rfl (min_if u.length) ?_
  refine Yg7 rfl rfl el_tags rfl (by omega) ?_
  repeat first|(with_reducible first|apply Yc|apply Yb|apply Yr)|((with_reducible apply ws);exact rfl;exact rfl)
  refine Xu (α := UkS) (fun x => [(19, .int .i64 (x.i : Int)), (18, .int .i64 ((min u.length Vf : Nat) : Int)), (17, .slice au (min u.length Vf) cu), (6, x.d), (5, .int .u32 (YN fs : Nat))]) (UkI B w w.heap.size 79 (YN fs) u) (fun x => min u.length Vf - x.i) ⟨0, .slice none 0 0, []⟩ ⟨rfl, rfl, rfl, rfl, rfl, trivial⟩ ⟨Nat.zero_le _, hw0, World.ownsRow_nil _ _ _ _, rfl, by simp⟩ ?_
  rintro ⟨i, d, qs⟩ w1 ⟨hi, hw1, hrow, hsay, hat⟩
  simp only [] at hi hrow hsay hat
  change WC _ _ _ _ [(19, .int .i64 (i : Int)), (18, .int .i64 ((min u.length Vf : Nat) : Int)), (17, .slice au (min u.length Vf) cu), (6, d), (5, .int .u32 (YN fs : Nat))] _
  have hqn : qs.length ≤ 32767 := by
    rw [← Yq2 hsay]
    have := VB (YN fs) (u.take i) []
    simp only [List.length_nil, List.length_take, Nat.zero_add] at this
    simp only [Vf] at hi; omega
  repeat first|(with_reducible first|apply Yd|apply Ya|apply Yc|apply Yb)|((with_reducible apply ws);exact rfl;exact rfl)
  by_cases hlt : i < min u.length Vf
  · refine Yp rfl (by simpa using hlt) ?_
    have hi32 : i < 32767 := Nat.lt_of_lt_of_le hlt (Nat.min_le_right u.length Vf)
    have hiu : i < u.length := by omega
    have hsn := Yp5 (YN fs) u hiu
    obtain ⟨b, off, c', cs, hv, _, hcs, hlen, hr⟩ := (hu.below (hw1.mono hB) (Nat.le_refl _)).get (sz := 2) (i := i) (by intro d hd; obtain ⟨x, _, rfl⟩ := List.mem_map.1 hd; exact VL x) (by simpa using hiu)
    simp only [Value.slice.injEq, List.length_map] at hv
    obtain ⟨rfl, _, rfl⟩ := hv
    simp only [List.getElem_map] at hr
    obtain ⟨hone, _⟩ := tag_one hr
    obtain ⟨sv, hce, hsv1⟩ := VO hr
    subst hce
    have hsv : Sq B w sv (u[i].2.map YF) := by
      obtain ⟨b2, off2, c2, cs2, hv2, _, hcs2, hlen2, hr2⟩ := hu.get (sz := 2) (i := i) (by intro d hd; obtain ⟨x, _, rfl⟩ := List.mem_map.1 hd; exact VL x) (by simpa using hiu)
      simp only [Value.slice.injEq, Option.some.injEq, Addr.mk.injEq, and_true] at hv2
      obtain ⟨⟨rfl, rfl⟩, _, _⟩ := hv2
      simp only [List.getElem_map] at hr2
      obtain ⟨sv2, hce2, hsv2⟩ := VO hr2
      subst hce2
      have hb1 := hw1.mono hB
      have e1 := hcs.cell (i := 1) (v := sv) rfl
      have e2 := (hcs2.of_block (hb1.block b (by assumption))).cell (i := 1) (v := sv2) rfl
      rw [e1] at e2; cases e2
      exact hsv2
    repeat (with_reducible first|apply Yd|apply Ya|apply Yb|apply Yr|apply Yh)
    refine Ys rfl rfl es_tags rfl hlt ?_
    refine Xv (cs := [.int .u32 u[i].1, sv]) rfl ta_tag rfl (fun j v e => hcs.cell e) ?_
    refine YJ zv_tag rfl rfl (fun w2 hb2 hg2 hs2 => ?_)
    refine Yn (vs := [.int .u32 u[i].1, sv]) rfl rfl rfl tz_tag hone hb2 rfl (fun w3 hb3 hg3 hs3 => ?_)
    have hs1 := hw1.size
    have hw3 : Below w.heap.size w w3 := (hw1.trans (Yg hg2 hs1 (by simp))).trans (Yg hg3 (by omega) (by intro k hk; simp at hk; omega))
    have hdlt : ∀ g, d.ownBlock = some g → w.heap.size ≤ g ∧ g < w1.heap.size := fun g hg => World.ownsRow.lt hrow g hg
    have hrow3 : w3.ownsRow w.heap.size 79 2 d qs.length (Vd qs) :=
      Row.kept (Row.kept hrow hg2 (fun g _ => by simp)) hg3 (fun g hg e => by have := hdlt g hg; simp at e; omega)
    refine Yc (Yb (Yd (Ya ?_)))
    repeat ((with_reducible apply ws);exact rfl;exact rfl)
    refine Yc (Yb ?_)
    refine UJ (α := Nat) (fun j => [(19, .int .i64 (i : Int)), (18, .int .i64 ((min u.length Vf : Nat) : Int)), (17, .slice (some ⟨b, off, none⟩) (min u.length Vf) cu), (9, .int .i64 (j : Int)), (8, .pointer (some ⟨w1.heap.size, 0, none⟩)), (6, d), (5, .int .u32 (YN fs : Nat))])
      (fun j w' => j ≤ qs.length ∧ (∀ q (h : q < qs.length), q < j → qs[q].1.1 < u[i].1) ∧ (∀ h : j < qs.length, ¬ qs[j].1.1 < u[i].1) ∧ Below w.heap.size w w' ∧ w'.ownsRow w.heap.size 79 2 d qs.length (Vd qs) ∧ Box w' w1.heap.size [.int .u32 u[i].1, sv] 79) ?_ ?_
    · repeat (with_reducible apply Yr)
      refine Xu (α := Nat) (fun j => [(19, .int .i64 (i : Int)), (18, .int .i64 ((min u.length Vf : Nat) : Int)), (17, .slice (some ⟨b, off, none⟩) (min u.length Vf) cu), (9, .int .i64 (j : Int)), (8, .pointer (some ⟨w1.heap.size, 0, none⟩)), (6, d), (5, .int .u32 (YN fs : Nat))])
        (fun j w' => j ≤ qs.length ∧ (∀ q (h : q < qs.length), q < j → qs[q].1.1 < u[i].1) ∧ Below w.heap.size w w' ∧ w'.ownsRow w.heap.size 79 2 d qs.length (Vd qs) ∧ Box w' w1.heap.size [.int .u32 u[i].1, sv] 79) (fun j => qs.length - j) 0 ⟨rfl, rfl, rfl, rfl, rfl, rfl, rfl, trivial⟩ ⟨Nat.zero_le _, by omega, hw3, hrow3, hb3⟩ ?_
      rintro j w4 ⟨hj, hbef, hw4, hrow4, hb4⟩
      repeat (with_reducible apply Yd)
      obtain ⟨ad, cd, hde⟩ := Row.shape hrow4
      subst hde
      by_cases hjl : j < qs.length
      · obtain ⟨g, cap, hde, hg1, hg2', hca⟩ := Row.cells hrow4 (by omega)
        simp only [Value.slice.injEq, true_and] at hde
        obtain ⟨rfl, rfl⟩ := hde
        have hcj := Yd4 hca hjl
        refine XJ [(0, .int .i64 (j : Int)), (1, .slice (some ⟨g, 0, none⟩) qs.length cd), (2, .int .i64 (qs.length : Int)), (3, .bool (decide ((j : Int) < (qs.length : Int)))), (4, .bool (decide ((j : Int) < (qs.length : Int)))), (5, .slice (some ⟨g, 0, none⟩) qs.length cd), (6, .int .i64 (j : Int)), (7, .pointer (some ⟨g, 0 + j * 2, none⟩)), (8, .pointer (some ⟨g, 0 + j * 2 + 0, none⟩)), (9, .int .u32 (qs[j].1.1 : Nat)), (10, .pointer (some ⟨w1.heap.size, 0 + 0, none⟩)), (11, .int .u32 (u[i].1 : Nat)), (12, .bool (decide ((qs[j].1.1 : Int) < (u[i].1 : Int)))), (13, .bool (decide ((qs[j].1.1 : Int) < (u[i].1 : Int))))] []
          (fun _ w' => w' = w4.drew)
          mixed rfl rfl rfl rfl rfl (by show ([0,1,2,3,4,5,6,7,8,9,10,11,12,13] : List Nat).Nodup; decide) rfl rfl (by decide) rfl rfl rfl rfl rfl ?_ trivial ?_
        · intro p hp vals w' hC a k
          subst hC
          simp only [List.mem_cons, List.not_mem_nil, or_false] at hp
          have ht4 : decide ((j : Int) < (qs.length : Int)) = true := by simpa using hjl
          rcases hp with rfl | rfl | rfl | rfl | rfl | rfl | rfl | rfl | rfl | rfl | rfl | rfl | rfl | rfl
          · exact gv rfl rfl (Yl k rfl)
          · exact gv rfl rfl (Yl k rfl)
          · exact gv rfl rfl (rn_len k rfl el_tags)
          · exact gv rfl rfl (Ye4 k rfl rfl)
          · exact gv rfl rfl (Yl k rfl)
          · exact YO rfl rfl rfl k rfl (by rw [ht4]; rfl) (Yl k rfl)
          · exact YO rfl rfl rfl k rfl (by rw [ht4]; rfl) (Yl k rfl)
          · exact YO rfl rfl rfl k rfl (by rw [ht4]; rfl) (Yx k rfl rfl es_tags hjl)
          · exact YO rfl rfl rfl k rfl (by rw [ht4]; rfl) (Yi k rfl fo_tag0)
          · exact YO rfl rfl rfl k rfl (by rw [ht4]; rfl) (Yy k rfl to_u32 (hcj.cell (i := 0) rfl))
          · exact YO rfl rfl rfl k rfl (by rw [ht4]; rfl) (Yi k rfl fo_tag0)
          · exact YO rfl rfl rfl k rfl (by rw [ht4]; rfl) (Yy k rfl to_u32 (hb4.cell0 (i := 0) rfl))
          · exact YO rfl rfl rfl k rfl (by rw [ht4]; rfl) (Ye4 k rfl rfl)
          · exact gv rfl rfl (Uc k rfl (by rw [ht4]; rfl))
        · rintro vals w5 hvl rfl
          refine Yb ?_
          by_cases hle : qs[j].1.1 < u[i].1
          · refine Yp rfl (by simpa using hle) ?_
            repeat first|(with_reducible first|apply Ya|apply Yb|apply Yr|apply Yh)|((with_reducible apply ws);exact rfl;exact rfl)
            refine Xn rfl rfl rfl (r := ((j + 1 : Nat) : Int)) (by rw [IntKind.wrap_i64]; omega) ?_
            repeat first|(with_reducible first|apply Yc|apply XS)|((with_reducible apply ws);exact rfl;exact rfl)
            refine YD (j + 1) ⟨rfl, rfl, rfl, rfl, rfl, rfl, rfl, trivial⟩ ⟨by omega, ?_, hw4.drew, hrow4, hb4⟩ (by omega)
            intro q hq hqj
            by_cases hqe : q = j
            · subst hqe; exact hle
            · exact hbef q hq (by omega)
          · refine Yu rfl (by simpa using hle) ?_
            repeat (with_reducible first|apply Xk|apply Yw|apply YB|apply Yq)
            exact XB j ⟨rfl, rfl, rfl, rfl, rfl, rfl, rfl, trivial⟩ ⟨hj, hbef, fun _ => hle, hw4.drew, hrow4, hb4⟩
      · have hjn : j = qs.length := by omega
        have ht4 : decide ((j : Int) < (qs.length : Int)) = false := by simpa using hjl
        refine XJ [(0, .int .i64 (j : Int)), (1, .slice ad qs.length cd), (2, .int .i64 (qs.length : Int)), (3, .bool (decide ((j : Int) < (qs.length : Int)))), (4, .bool (decide ((j : Int) < (qs.length : Int)))), (5, undef), (6, undef), (7, undef), (8, undef), (9, undef), (10, undef), (11, undef), (12, undef), (13, .bool false)] []
          (fun _ w' => w' = w4.drew)
          mixed rfl rfl rfl rfl rfl (by show ([0,1,2,3,4,5,6,7,8,9,10,11,12,13] : List Nat).Nodup; decide) rfl rfl (by decide) rfl rfl rfl rfl rfl ?_ trivial ?_
        · intro p hp vals w' hC a k
          subst hC
          simp only [List.mem_cons, List.not_mem_nil, or_false] at hp
          rcases hp with rfl | rfl | rfl | rfl | rfl | rfl | rfl | rfl | rfl | rfl | rfl | rfl | rfl | rfl
          · exact gv rfl rfl (Yl k rfl)
          · exact gv rfl rfl (Yl k rfl)
          · exact gv rfl rfl (rn_len k rfl el_tags)
          · exact gv rfl rfl (Ye4 k rfl rfl)
          · exact gv rfl rfl (Yl k rfl)
          iterate 8 (exact gv_no rfl rfl rfl k rfl (by rw [ht4]; rfl))
          · exact gv rfl rfl (Uc k rfl (by rw [ht4]; rfl))
        · rintro vals w5 hvl rfl
          refine Yb ?_
          refine Yu rfl rfl ?_
          repeat (with_reducible first|apply Xk|apply Yw|apply YB|apply Yq)
          exact XB j ⟨rfl, rfl, rfl, rfl, rfl, rfl, rfl, trivial⟩ ⟨hj, hbef, fun h => absurd h hjl, hw4.drew, hrow4, hb4⟩
    rintro j w4 ⟨hj, hbef, hnot, hw4, hrow4, hb4⟩
    obtain ⟨ad, cd, hde⟩ := Row.shape hrow4
    subst hde
    have hjl' : j ≤ ((u.take i).foldl (step (YN fs)) []).length := by rw [Yq2 hsay]; exact hj
    have hput := putTag_at u[i].1 u[i].2 ((u.take i).foldl (step (YN fs)) []) j hjl'
      (fun q hq hqj => by rw [tg_get hsay (by rw [← Yq2 hsay]; exact hq) hq]; exact hbef q _ hqj)
      (fun h => by rw [tg_get hsay (by rw [← Yq2 hsay]; exact h) h]; exact hnot _)
    refine UJ (α := Unit) (fun _ => [(19, .int .i64 (i : Int)), (18, .int .i64 ((min u.length Vf : Nat) : Int)), (17, .slice (some ⟨b, off, none⟩) (min u.length Vf) cu), (9, .int .i64 (j : Int)), (8, .pointer (some ⟨w1.heap.size, 0, none⟩)), (6, .slice ad qs.length cd), (5, .int .u32 (YN fs : Nat))])
      (fun _ w' => YN fs ≤ u[i].1 ∧ (∀ h : j < qs.length, qs[j].1.1 ≠ u[i].1) ∧ w' = w4.drew) ?_ ?_
    · refine Yd ?_
      by_cases hk : u[i].1 < YN fs
      · have ht4 : decide ((u[i].1 : Int) < (YN fs : Int)) = true := by simpa using hk
        refine XJ [(0, .pointer (some ⟨w1.heap.size, 0 + 0, none⟩)), (1, .int .u32 (u[i].1 : Nat)), (2, .int .u32 (YN fs : Nat)), (3, .bool (decide ((u[i].1 : Int) < (YN fs : Int)))), (4, .bool (decide ((u[i].1 : Int) < (YN fs : Int)))), (5, undef), (6, undef), (7, undef), (8, undef), (9, undef), (10, undef), (11, undef), (12, undef), (13, undef), (14, undef), (15, undef), (16, undef), (17, undef), (18, undef), (19, .bool true)] []
          (fun _ w' => w' = w4.drew) mixed rfl rfl rfl rfl rfl (by show ([0,1,2,3,4,5,6,7,8,9,10,11,12,13,14,15,16,17,18,19] : List Nat).Nodup; decide) rfl rfl (by decide) rfl rfl rfl rfl rfl ?_ trivial ?_
        · intro p hp vals w' hC a k
          subst hC
          simp only [List.mem_cons, List.not_mem_nil, or_false] at hp
          rcases hp with rfl | rfl | rfl | rfl | rfl | rfl | rfl | rfl | rfl | rfl | rfl | rfl | rfl | rfl | rfl | rfl | rfl | rfl | rfl | rfl
          · exact gv rfl rfl (Yi k rfl fo_tag0)
          · exact gv rfl rfl (Yy k rfl to_u32 (hb4.cell0 (i := 0) rfl))
          · exact gv rfl rfl (Yl k rfl)
          · exact gv rfl rfl (Ye4 k rfl rfl)
          · exact gv rfl rfl (Yl k rfl)
          iterate 5 (exact gv_no rfl rfl rfl k rfl (by rw [ht4]; rfl))
          iterate 8 (exact gv_noU rfl rfl rfl k rfl)
          · exact gv_no rfl rfl rfl k rfl (by rw [ht4]; rfl)
          · exact gv rfl rfl (Uc k rfl (by rw [ht4]; rfl))
        · rintro vals w5 hvl rfl
          refine Yb ?_
          refine Yp rfl rfl ?_
          repeat (with_reducible first|apply Ya|apply Yb|apply Xk|apply YB|apply Yq)
          refine Xn rfl rfl rfl (r := ((i + 1 : Nat) : Int)) (by rw [IntKind.wrap_i64]; omega) ?_
          repeat first|(with_reducible apply Yc)|((with_reducible apply ws);exact rfl;exact rfl)
          refine YD ⟨i + 1, .slice ad qs.length cd, qs⟩ ⟨rfl, rfl, rfl, rfl, rfl, trivial⟩ ⟨by simp only []; omega, hw4.drew, hrow4, ?_, hat⟩ (by simp only []; omega)
          rw [hsay, hsn, step, if_pos hk]
      · have ht4 : decide ((u[i].1 : Int) < (YN fs : Int)) = false := by simpa using hk
        by_cases hjl : j < qs.length
        · obtain ⟨g, cap, hde, hg1, hg2', hca⟩ := Row.cells hrow4 (by omega)
          simp only [Value.slice.injEq, true_and] at hde
          obtain ⟨rfl, rfl⟩ := hde
          have hcj := Yd4 hca hjl
          have ht8 : decide ((j : Int) < (qs.length : Int)) = true := by simpa using hjl
          refine XJ [(0, .pointer (some ⟨w1.heap.size, 0 + 0, none⟩)), (1, .int .u32 (u[i].1 : Nat)), (2, .int .u32 (YN fs : Nat)), (3, .bool (decide ((u[i].1 : Int) < (YN fs : Int)))), (4, .bool (decide ((u[i].1 : Int) < (YN fs : Int)))), (5, .int .i64 (j : Int)), (6, .slice (some ⟨g, 0, none⟩) qs.length cd), (7, .int .i64 (qs.length : Int)), (8, .bool (decide ((j : Int) < (qs.length : Int)))), (9, .bool (decide ((j : Int) < (qs.length : Int)))), (10, .slice (some ⟨g, 0, none⟩) qs.length cd), (11, .int .i64 (j : Int)), (12, .pointer (some ⟨g, 0 + j * 2, none⟩)), (13, .pointer (some ⟨g, 0 + j * 2 + 0, none⟩)), (14, .int .u32 (qs[j].1.1 : Nat)), (15, .pointer (some ⟨w1.heap.size, 0 + 0, none⟩)), (16, .int .u32 (u[i].1 : Nat)), (17, .bool ((qs[j].1.1 : Int) == (u[i].1 : Int))), (18, .bool ((qs[j].1.1 : Int) == (u[i].1 : Int))), (19, .bool ((qs[j].1.1 : Int) == (u[i].1 : Int)))] []
            (fun _ w' => w' = w4.drew) mixed rfl rfl rfl rfl rfl (by show ([0,1,2,3,4,5,6,7,8,9,10,11,12,13,14,15,16,17,18,19] : List Nat).Nodup; decide) rfl rfl (by decide) rfl rfl rfl rfl rfl ?_ trivial ?_
          · intro p hp vals w' hC a k
            subst hC
            simp only [List.mem_cons, List.not_mem_nil, or_false] at hp
            rcases hp with rfl | rfl | rfl | rfl | rfl | rfl | rfl | rfl | rfl | rfl | rfl | rfl | rfl | rfl | rfl | rfl | rfl | rfl | rfl | rfl
            · exact gv rfl rfl (Yi k rfl fo_tag0)
            · exact gv rfl rfl (Yy k rfl to_u32 (hb4.cell0 (i := 0) rfl))
            · exact gv rfl rfl (Yl k rfl)
            · exact gv rfl rfl (Ye4 k rfl rfl)
            · exact gv rfl rfl (Yl k rfl)
            · exact YO rfl rfl rfl k rfl (by rw [ht4]; rfl) (Yl k rfl)
            · exact YO rfl rfl rfl k rfl (by rw [ht4]; rfl) (Yl k rfl)
            · exact YO rfl rfl rfl k rfl (by rw [ht4]; rfl) (rn_len k rfl el_tags)
            · exact YO rfl rfl rfl k rfl (by rw [ht4]; rfl) (Ye4 k rfl rfl)
            · exact YO rfl rfl rfl k rfl (by rw [ht4]; rfl) (Yl k rfl)
            · exact YO rfl rfl rfl k rfl (by rw [ht8]; rfl) (Yl k rfl)
            · exact YO rfl rfl rfl k rfl (by rw [ht8]; rfl) (Yl k rfl)
            · exact YO rfl rfl rfl k rfl (by rw [ht8]; rfl) (Yx k rfl rfl es_tags hjl)
            · exact YO rfl rfl rfl k rfl (by rw [ht8]; rfl) (Yi k rfl fo_tag0)
            · exact YO rfl rfl rfl k rfl (by rw [ht8]; rfl) (Yy k rfl to_u32 (hcj.cell (i := 0) rfl))
            · exact YO rfl rfl rfl k rfl (by rw [ht8]; rfl) (Yi k rfl fo_tag0)
            · exact YO rfl rfl rfl k rfl (by rw [ht8]; rfl) (Yy k rfl to_u32 (hb4.cell0 (i := 0) rfl))
            · exact YO rfl rfl rfl k rfl (by rw [ht8]; rfl) (rn_eql k rfl rfl)
            · exact YO rfl rfl rfl k rfl (by rw [ht4]; rfl) (Uc k rfl (by rw [ht8]; rfl))
            · exact gv rfl rfl (Uc k rfl (by rw [ht4]; rfl))
          · rintro vals w5 hvl rfl
            refine Yb ?_
            by_cases hq : qs[j].1.1 = u[i].1
            · refine Yp rfl (by simp [hq]) ?_
              repeat (with_reducible first|apply Ya|apply Yb|apply Xk|apply YB|apply Yq)
              refine Xn rfl rfl rfl (r := ((i + 1 : Nat) : Int)) (by rw [IntKind.wrap_i64]; omega) ?_
              repeat first|(with_reducible apply Yc)|((with_reducible apply ws);exact rfl;exact rfl)
              refine YD ⟨i + 1, .slice (some ⟨g, 0, none⟩) qs.length cd, qs⟩ ⟨rfl, rfl, rfl, rfl, rfl, trivial⟩ ⟨by simp only []; omega, hw4.drew, hrow4, ?_, hat⟩ (by simp only []; omega)
              rw [hsn, step, if_neg hk, hput, if_pos, hsay]
              have hjl2 : j < ((u.take i).foldl (step (YN fs)) []).length := by rw [Yq2 hsay]; exact hjl
              exact ⟨hjl2, by rw [tg_get hsay hjl hjl2]; exact hq⟩
            · refine Yu rfl (by simp only [beq_eq_false_iff_ne]; omega) ?_
              repeat (with_reducible apply Yh)
              exact XB () ⟨rfl, rfl, rfl, rfl, rfl, rfl, rfl, trivial⟩ ⟨by omega, fun _ => hq, rfl⟩
        · have ht8 : decide ((j : Int) < (qs.length : Int)) = false := by simpa using hjl
          refine XJ [(0, .pointer (some ⟨w1.heap.size, 0 + 0, none⟩)), (1, .int .u32 (u[i].1 : Nat)), (2, .int .u32 (YN fs : Nat)), (3, .bool (decide ((u[i].1 : Int) < (YN fs : Int)))), (4, .bool (decide ((u[i].1 : Int) < (YN fs : Int)))), (5, .int .i64 (j : Int)), (6, .slice ad qs.length cd), (7, .int .i64 (qs.length : Int)), (8, .bool (decide ((j : Int) < (qs.length : Int)))), (9, .bool (decide ((j : Int) < (qs.length : Int)))), (10, undef), (11, undef), (12, undef), (13, undef), (14, undef), (15, undef), (16, undef), (17, undef), (18, .bool false), (19, .bool false)] []
            (fun _ w' => w' = w4.drew) mixed rfl rfl rfl rfl rfl (by show ([0,1,2,3,4,5,6,7,8,9,10,11,12,13,14,15,16,17,18,19] : List Nat).Nodup; decide) rfl rfl (by decide) rfl rfl rfl rfl rfl ?_ trivial ?_
          · intro p hp vals w' hC a k
            subst hC
            simp only [List.mem_cons, List.not_mem_nil, or_false] at hp
            rcases hp with rfl | rfl | rfl | rfl | rfl | rfl | rfl | rfl | rfl | rfl | rfl | rfl | rfl | rfl | rfl | rfl | rfl | rfl | rfl | rfl
            · exact gv rfl rfl (Yi k rfl fo_tag0)
            · exact gv rfl rfl (Yy k rfl to_u32 (hb4.cell0 (i := 0) rfl))
            · exact gv rfl rfl (Yl k rfl)
            · exact gv rfl rfl (Ye4 k rfl rfl)
            · exact gv rfl rfl (Yl k rfl)
            · exact YO rfl rfl rfl k rfl (by rw [ht4]; rfl) (Yl k rfl)
            · exact YO rfl rfl rfl k rfl (by rw [ht4]; rfl) (Yl k rfl)
            · exact YO rfl rfl rfl k rfl (by rw [ht4]; rfl) (rn_len k rfl el_tags)
            · exact YO rfl rfl rfl k rfl (by rw [ht4]; rfl) (Ye4 k rfl rfl)
            · exact YO rfl rfl rfl k rfl (by rw [ht4]; rfl) (Yl k rfl)
            iterate 8 (exact gv_no rfl rfl rfl k rfl (by rw [ht8]; rfl))
            · exact YO rfl rfl rfl k rfl (by rw [ht4]; rfl) (Uc k rfl (by rw [ht8]; rfl))
            · exact gv rfl rfl (Uc k rfl (by rw [ht4]; rfl))
          · rintro vals w5 hvl rfl
            refine Yb ?_
            refine Yu rfl rfl ?_
            repeat (with_reducible apply Yh)
            exact XB () ⟨rfl, rfl, rfl, rfl, rfl, rfl, rfl, trivial⟩ ⟨by omega, fun h => absurd h hjl, rfl⟩
    rintro _ w5 ⟨hk, hne, rfl⟩
    have hins : (u.take (i + 1)).foldl (step (YN fs)) [] = ((u.take i).foldl (step (YN fs)) []).take j ++ (u[i].1, u[i].2) :: ((u.take i).foldl (step (YN fs)) []).drop j := by
      rw [hsn, step, if_neg (by omega), hput, if_neg]
      rintro ⟨h1, h2⟩
      have h1' : j < qs.length := by rw [← Yq2 hsay]; exact h1
      rw [tg_get hsay h1' h1] at h2
      exact hne h1' h2
    have hdlt4 := fun g hg => World.ownsRow.lt hrow4 g hg
    have hsz4 : w1.heap.size < w4.heap.size := hb4.lt
    repeat first|(with_reducible first|apply Yd|apply Ya)|((with_reducible apply ws);exact rfl;exact rfl)
    refine Xa rfl (cs := [.int .u32 0, .slice none 0 0]) (by kernel_rfl) rfl ?_
    refine wl_app1 (by kernel_rfl) rfl rfl rfl rfl rfl rfl rfl rfl hrow4 (by simp; omega) (by simp only [many]; omega) (fun d' w5 hrow5 hg5 => ?_)
    have hrow6 : w5.ownsRow w.heap.size 79 2 d' (qs.length + 1) (Vd (qs.take qs.length ++ (((0, []), .slice none 0 0) : Tg) :: qs.drop qs.length)) := by
      rw [List.take_length, List.drop_length, Jf]; exact hrow5
    have hb5 : Box w5 w1.heap.size [.int .u32 u[i].1, sv] 79 := Box.kept (w := w4.drew) hb4 hg5.grown (fun e => by have := (hdlt _ e.symm).2; omega)
    have hw5 : Below w.heap.size w w5 := hw4.drew.trans (hg5.below (by simp; omega) (fun g hg => (hdlt4 g hg).1))
    obtain ⟨g, cap, hde, hgB, hglt, _⟩ := Row.cells hrow5 (by omega)
    subst hde
    have hgne : g ≠ w1.heap.size := by
      rcases hg5.fresh with h | h
      · exact fun e => by have := (hdlt g (by rw [← h]; rfl)).2; omega
      · exact fun e => by have h3 : w4.heap.size ≤ g := h g rfl; omega
    repeat first|(with_reducible first|apply Yd|apply Ya|apply Yc|apply Yb)|((with_reducible apply ws);exact rfl;exact rfl)
    refine VS rfl rfl rfl (r := (qs.length : Int)) (by rw [IntKind.wrap_i64]; omega) ?_
    repeat first|(with_reducible first|apply Yc|apply Yb|apply Yr)|((with_reducible apply ws);exact rfl;exact rfl)
    refine Xu (α := Nat) (fun k => [(19, .int .i64 (i : Int)), (18, .int .i64 ((min u.length Vf : Nat) : Int)), (17, .slice (some ⟨b, off, none⟩) (min u.length Vf) cu), (9, .int .i64 (j : Int)), (8, .pointer (some ⟨w1.heap.size, 0, none⟩)), (6, .slice (some ⟨g, 0, none⟩) (qs.length + 1) cap), (5, .int .u32 (YN fs : Nat)), (10, .int .i64 (k : Int))])
      (fun k w' => j ≤ k ∧ k ≤ qs.length ∧ Below w.heap.size w w' ∧ (∃ x : Tg, w'.ownsRow w.heap.size 79 2 (.slice (some ⟨g, 0, none⟩) (qs.length + 1) cap) (qs.length + 1) (Vd (qs.take k ++ x :: qs.drop k))) ∧ Box w' w1.heap.size [.int .u32 u[i].1, sv] 79) (fun k => k - j) qs.length ⟨rfl, rfl, rfl, rfl, rfl, rfl, rfl, rfl, trivial⟩ ⟨hj, Nat.le_refl _, hw5, ⟨_, hrow6⟩, hb5⟩ ?_
    rintro k w6 ⟨hjk, hkq, hw6, ⟨x, hrow6⟩, hb6⟩
    repeat first|(with_reducible first|apply Yd|apply Ya|apply Yc|apply Yb)|((with_reducible apply ws);exact rfl;exact rfl)
    have hll : (qs.take k ++ x :: qs.drop k).length = qs.length + 1 := by simp; omega
    by_cases hkj : j < k
    · refine Yp rfl (by simpa using hkj) ?_
      obtain ⟨k, rfl⟩ : ∃ k', k = k' + 1 := ⟨k - 1, by omega⟩
      repeat first|(with_reducible first|apply Yd|apply Ya|apply Yb|apply Yr|apply Yh)|((with_reducible apply ws);exact rfl;exact rfl)
      refine VS rfl rfl rfl (r := (k : Int)) (by rw [IntKind.wrap_i64]; omega) ?_
      refine Ys rfl rfl es_tags rfl (by omega) ?_
      obtain ⟨g2, cap2, hde2, _, _, hca⟩ := Row.cells hrow6 (by omega)
      cases hde2
      have hcj := Yd4 hca (j := k) (by omega)
      rw [List.getElem_append_left (by simp; omega)] at hcj
      refine Xv (cs := [.int .u32 ((qs.take (k + 1))[k]'(by simp; omega)).1.1, ((qs.take (k + 1))[k]'(by simp; omega)).2]) rfl ta_tag rfl (fun j v e => hcj.cell e) ?_
      refine Ys rfl rfl es_tags rfl (by omega) ?_
      have hone2 : (([.int .u32 ((qs.take (k + 1))[k]'(by simp; omega)).1.1, ((qs.take (k + 1))[k]'(by simp; omega)).2] : List Value).all fun v => v.oneCell') = true := by
        obtain ⟨a3, c3, h3, _⟩ := (hat ((qs.take (k + 1))[k]'(by simp; omega)) (List.mem_of_mem_take (List.getElem_mem _))).shape
        rw [h3]; rfl
      refine Yl7 (sz := 2) (cs := [.int .u32 ((qs.take (k + 1))[k]'(by simp; omega)).1.1, ((qs.take (k + 1))[k]'(by simp; omega)).2]) hrow6 rfl rfl rfl rfl tz_tag hone2 (by omega) (fun w7 hrow7 hg7 hs7 => ?_)
      rw [Yr6 _ (by omega)] at hrow7
      have hsh := shift_step qs x (k := k) (by omega)
      rw [List.getElem_take] at hrow7
      rw [hsh] at hrow7
      repeat first|(with_reducible first|apply Ya|apply Yc|apply Yb|apply XS)|((with_reducible apply ws);exact rfl;exact rfl)
      refine VS rfl rfl rfl (r := (k : Int)) (by rw [IntKind.wrap_i64]; omega) ?_
      repeat first|(with_reducible apply Yc)|((with_reducible apply ws);exact rfl;exact rfl)
      have hs6 := hw6.size
      exact YD k ⟨rfl, rfl, rfl, rfl, rfl, rfl, rfl, rfl, trivial⟩ ⟨by omega, by omega, hw6.trans (Yg hg7 hs6 (by intro q hq; simp at hq; omega)), ⟨_, hrow7⟩, hb6.kept hg7 (by simp; omega)⟩ (by omega)
    · have hkj' : k = j := by omega
      subst hkj'
      refine Yu rfl (by simp) ?_
      repeat first|(with_reducible first|apply Ya|apply Yb|apply Xk|apply Yw|apply YB|apply Yq)|((with_reducible apply ws);exact rfl;exact rfl)
      refine YC (cs := [.int .u32 u[i].1, sv]) rfl ta_tag rfl hb6 ?_
      refine Ys rfl rfl es_tags rfl (by omega) ?_
      refine Yl7 (sz := 2) (cs := [.int .u32 u[i].1, sv]) hrow6 rfl rfl rfl rfl tz_tag hone (by omega) (fun w7 hrow7 hg7 hs7 => ?_)
      have hset := Yr6 (qs.take k ++ x :: qs.drop k) (j := k) (by omega) ((u[i].1, u[i].2), sv)
      simp only [] at hset
      rw [hset, shift_end qs x _ hkq] at hrow7
      have hs6 := hw6.size
      repeat (with_reducible first|apply Ya|apply Yc|apply Yb|apply XS)
      refine Xn rfl rfl rfl (r := ((i + 1 : Nat) : Int)) (by rw [IntKind.wrap_i64]; omega) ?_
      repeat first|(with_reducible apply Yc)|((with_reducible apply ws);exact rfl;exact rfl)
      refine YD ⟨i + 1, .slice (some ⟨g, 0, none⟩) (qs.length + 1) cap, qs.take k ++ ((u[i].1, u[i].2), sv) :: qs.drop k⟩ ⟨rfl, rfl, rfl, rfl, rfl, trivial⟩ ⟨by simp only []; omega, hw6.trans (Yg hg7 hs6 (by intro q hq; simp at hq; omega)), ?_, ?_, ?_⟩ (by simp only []; omega)
      · simp only []
        rw [show (qs.take k ++ (((u[i].1, u[i].2), sv) : Tg) :: qs.drop k).length = qs.length + 1 from by simp; omega]
        exact hrow7
      · simp only []
        rw [hins, ← hsay, List.map_append, List.map_cons, List.map_take, List.map_drop]
      · intro q hq
        simp only [List.mem_append, List.mem_cons] at hq
        rcases hq with hq | rfl | hq
        · exact hat q (List.mem_of_mem_take hq)
        · exact hsv
        · exact hat q (List.mem_of_mem_drop hq)
  · refine Yu rfl (by simpa using hlt) ?_
    repeat first|(with_reducible first|apply Yd|apply Ya|apply Yc|apply Yb|apply Ym|apply Xk|apply Yw|apply YB|apply Yq)|((with_reducible apply ws);exact rfl;exact rfl)
    refine Yk rfl rfl ⟨_, rfl, hw1, ?_⟩
    have hin : i = min u.length Vf := by omega
    refine ⟨qs, hrow, ?_, hat⟩
    rw [hsay, hin]
    show _ = (u.take Vf).foldl (step (YN fs)) []
    rw [take_min]
theorem Ys7 (fv uv : Value) (fs : List Fld) (u : List (Nat × List UInt8)) (B : Nat) (w : World) (hB : B ≤ w.heap.size) (hf : Sq B w fv (fs.map fldD)) (hu : Sq B w uv (u.map Uk)) (ht : ∀ f ∈ fs, f.tag < 2147483647) (hl : fs.length ≤ 1000000) :
    Fn 39 [fv, uv] w fun r w' => Sq w'.heap.size w' r ((Xm fs u).map Uk) := by
  refine (Yi9 fv uv fs u B w hB hf hu ht hl).mono ?_
  rintro e w1 ⟨v, rfl, hw1, qs, hrow, hsay, hat⟩
  refine ⟨v, rfl, hw1, ?_⟩
  have hd : (Xm fs u).map Uk = qs.map fun q => Uk q.1 := by
    rw [← hsay, List.map_map]; rfl
  rw [hd]
  have hr := Yk1 (B := w1.heap.size) (w := w1) qs (fun q hq => (hat q hq).below (hw1.mono hB) (by have := hw1.size; omega))
  exact Row.sq (ds := qs.map fun q => Uk q.1) (by simpa using hrow) hr (Nat.le_refl _)
end
end

section
mutual
def Tree.ok : Tree → Prop
 | .mk n s _ l u => s.length ≤ 9223372036854775807 ∧ (∀ kv ∈ u,kv.1 < 4294967296) ∧ Tree.oks l ∧ (-9223372036854775808 ≤ n ∧ n ≤ 9223372036854775807)
def Tree.oks : List Tree → Prop
 | [] => True
 | t :: l => t.ok ∧ Tree.oks l
end
mutual
def Fld.okb : Fld → Bool
 | .mk _ _ _ _ tag _ of sub => decide (tag < 2147483647) && decide (of ≠ 11) && Nat.ble sub.length 1000 && Fld.oksb sub
def Fld.oksb : List Fld → Bool
 | [] => true
 | f :: l => f.okb && Fld.oksb l
end
theorem Tree.oks_mem : ∀ {l : List Tree},Tree.oks l → ∀ t ∈ l,t.ok
 | [],_,t,h => by cases h
 | x :: l,h,t,ht => by
  simp only [Tree.oks] at h
  rcases List.mem_cons.1 ht with rfl | h1
  ·exact h.1
  ·exact Tree.oks_mem h.2 t h1
theorem Tree.ok_none : Tree.none.ok:=by simp [Tree.none,Tree.ok,Tree.oks]
theorem Tree.ok.at {t : Tree} (h : t.ok) (i : Nat) : (att t i).ok:=by
 cases t with
 | mk n s nul l u =>
  simp only [Tree.ok] at h
  unfold att
  by_cases hi : i < l.length
  ·have : (Tree.mk n s nul l u).l.getD i Tree.none = l[i]:=by simp [Tree.l,hi]
   rw [this];exact Tree.oks_mem h.2.2.1 _ (List.getElem_mem _)
  ·have : (Tree.mk n s nul l u).l.getD i Tree.none = Tree.none:=by simp [Tree.l,List.getD,List.getElem?_eq_none (by omega : l.length ≤ i)]
   rw [this];exact Tree.ok_none
theorem Tree.ok.s {t : Tree} (h : t.ok) : t.s.length ≤ 9223372036854775807:=by cases t;simp only [Tree.ok] at h;exact h.1
theorem Tree.ok.u {t : Tree} (h : t.ok) : ∀ kv ∈ t.u,kv.1 < 4294967296:=by cases t;simp only [Tree.ok] at h;exact h.2.1
theorem Tree.ok.l {t : Tree} (h : t.ok) : ∀ x ∈ t.l,x.ok:=by cases t;simp only [Tree.ok] at h;exact Tree.oks_mem h.2.2.1
theorem Tree.ok.n {t : Tree} (h : t.ok) : -9223372036854775808 ≤ t.n ∧ t.n ≤ 9223372036854775807:=by cases t;simp only [Tree.ok] at h;exact h.2.2.2
mutual
def Tree.small : Tree → Prop
 | .mk _ _ _ l u => (l.length ≤ 1000000000 ∧ u.length ≤ 1000000000) ∧ Tree.smalls l
def Tree.smalls : List Tree → Prop
 | [] => True
 | t :: l => t.small ∧ Tree.smalls l
end
theorem Tree.smalls_mem : ∀ {l : List Tree},Tree.smalls l → ∀ t ∈ l,t.small
 | [],_,t,h => by cases h
 | x :: l,h,t,ht => by
  simp only [Tree.smalls] at h
  rcases List.mem_cons.1 ht with rfl | h1
  ·exact h.1
  ·exact Tree.smalls_mem h.2 t h1
theorem Tree.small.lens {t : Tree} (h : t.small) : t.l.length ≤ 1000000000 ∧ t.u.length ≤ 1000000000:=by cases t;simp only [Tree.small] at h;exact h.1
theorem Tree.small.l {t : Tree} (h : t.small) : ∀ x ∈ t.l,x.small:=by cases t;simp only [Tree.small] at h;exact Tree.smalls_mem h.2
theorem Fld.oksb_mem : ∀ {l : List Fld},Fld.oksb l = true → ∀ f ∈ l,f.okb = true
 | [],_,t,h => by cases h
 | x :: l,h,t,ht => by
  simp only [Fld.oksb,Bool.and_eq_true] at h
  rcases List.mem_cons.1 ht with rfl | h1
  ·exact h.1
  ·exact Fld.oksb_mem h.2 t h1
theorem Fld.okb_tag {f : Fld} (h : f.okb = true) : f.tag < 2147483647:=by
 cases f;simp only [Fld.okb,Bool.and_eq_true,decide_eq_true_eq] at h;exact h.1.1.1
theorem Fld.okb_sub {f : Fld} (h : f.okb = true) : Fld.oksb f.sub = true ∧ f.sub.length ≤ 1000:=by
 cases f;simp only [Fld.okb,Bool.and_eq_true,decide_eq_true_eq] at h;exact ⟨h.2,Nat.le_of_ble_eq_true h.1.2⟩
def JB (fs : List Fld) : Bool:=Fld.oksb fs && Nat.ble fs.length 1000
theorem JB.sub {f : Fld} (h : f.okb = true) : JB f.sub = true:=by
 have:=Fld.okb_sub h
 simp only [JB,Bool.and_eq_true]
 exact ⟨this.1,Nat.ble_eq_true_of_le this.2⟩
theorem JB.mem {fs : List Fld} (h : JB fs = true) : ∀ f ∈ fs,f.okb = true:=by
 simp only [JB,Bool.and_eq_true] at h;exact Fld.oksb_mem h.1
theorem JB.len {fs : List Fld} (h : JB fs = true) : fs.length ≤ 1000:=by
 simp only [JB,Bool.and_eq_true] at h;exact Nat.le_of_ble_eq_true h.2
theorem JB.tag {fs : List Fld} (h : JB fs = true) : ∀ f ∈ fs,f.tag < 2147483647:=fun f hf => Fld.okb_tag (JB.mem h f hf)
end

section
open Go Go.RowKit
theorem Own.below {w w' : World} {B u8 : Nat} {d : Value} {xs : List UInt8} (h : Own w B u8 d xs) (hb : Below w.heap.size w w') : Own w' B u8 d xs:=by
 refine h.kept (JX hb) ?_
 cases hd : d.ownBlock with
 | none => exact .inl rfl
 | some g => exact .inr (by simp)
theorem Own.bytes {w : World} {B u8 : Nat} {d : Value} {xs : List UInt8} (h : Own w B u8 d xs) : Vq w d xs:=by
 by_cases hn : 0 < xs.length
 ·obtain ⟨g,cap,rfl,_,_,hc⟩:=Row.cells h hn
  exact .inr ⟨g,0,cap,rfl,hc⟩
 ·have h0 : xs = []:=List.length_eq_zero_iff.1 (by omega)
  subst h0
  obtain ⟨hxl,⟨rfl,_⟩ | ⟨g,cap,cur,rfl,hBg,hheap,hle,hcap,hcs,htake⟩⟩:=h
  ·exact .inl ⟨none,0,rfl,rfl⟩
  ·exact .inr ⟨g,0,cap,rfl,cur,u8,(0,0),hheap,by simp [bv],by simp [bv]⟩
theorem zero_u8 : (Tryz.prog.info? 5).bind (·.zero) = some (.int .u8 0):=by kernel_rfl
def PartOK (fs : List Fld) : Prop:=∀ (flex : Bool) (ver : Int) (t : Tree) (B : Nat) (w : World) (fv : Value) (ts : List Value),t.ok → B ≤ w.heap.size → Sq B w fv (fs.map fldD) → Rep (Lo B) w (treeD t) ts → (Xc ver flex fs t).length ≤ lim →
 Fn 49 [fv,.int .i64 ver,.bool flex,.agg ts.toArray] w fun v w' => Own w' w.heap.size 5 v (Xc ver flex fs t)
def ValueOK (kind : Int) (sub : List Fld) : Prop:=∀ (null flex : Bool) (ver : Int) (t : Tree) (B : Nat) (w : World) (fv : Value) (ts : List Value),t.ok → B ≤ w.heap.size → Sq B w fv (sub.map fldD) → Rep (Lo B) w (treeD t) ts → (Vc kind flex null (Xc ver flex sub) t).length ≤ lim →
 Fn 132 [.int .i64 kind,fv,.bool null,.int .i64 ver,.bool flex,.agg ts.toArray] w fun v w' => Own w' w.heap.size 5 v (Vc kind flex null (Xc ver flex sub) t)
def FieldOK (f : Fld) : Prop:=∀ (flex : Bool) (ver : Int) (t : Tree) (B : Nat) (w : World) (cs ts : List Value),t.ok → B ≤ w.heap.size → Rep (Lo B) w (fldD f) cs → Rep (Lo B) w (treeD t) ts → (XA ver flex f t).length ≤ lim →
 Fn 80 [.agg cs.toArray,.int .i64 ver,.bool flex,.agg ts.toArray] w fun v w' => Own w' w.heap.size 5 v (XA ver flex f t)
theorem Yj6 (s : List UInt8) : (s.map YF).take Vf = (Xe s).map YF:=by simp [Xe]
theorem Yc7 (k : Int) : width k ≤ 8:=by
 unfold width
 split
 ·omega
 ·split
  ·omega
  ·split <;> omega
section
set_option maxRecDepth 100000
theorem value_of (kind : Int) (sub : List Fld) (hp : PartOK sub) : ValueOK kind sub:=by
 intro null flex ver t B w fv ts hok hB hf ht hlim
 obtain ⟨sv,lv,uv,rfl,hs,_,_⟩:=Xi ht
 obtain ⟨sa,sc,rfl,_⟩:=hs.shape
 refine enter Tryz.func132 rfl Tryz.ntmps132 rfl ?_
 repeat (with_reducible first|apply Yd|apply Ya)
 refine XF rfl rfl rfl (fun w1 hb hg hsz => ?_)
 have hw1 : Below w.heap.size w w1:=Yg hg (Nat.le_refl _) (by simp)
 have hB1 : B ≤ w1.heap.size:=by omega
 repeat first|(with_reducible first|apply Yd|apply Ya|apply Yc|apply Yb|apply Yr)|((with_reducible apply ws);exact rfl;exact rfl)
 by_cases h0 : kind = 0
 ·subst h0
  refine Yp rfl (by decide) ?_
  repeat first|(with_reducible first|apply Yd|apply Ya)|((with_reducible apply ws);exact rfl;exact rfl)
  refine Yf rfl to_i64 rfl hb rfl ?_
  refine Ud rfl rfl rfl (and1 t.n) ?_
  refine YY .u8 rfl ti_l64 ti_u8 rfl (wrap_bit _) ?_
  refine wl_lit tb_bytes rfl (ys:=[UP (t.n % 2)]) rfl rfl rfl rfl (fun w2 ho hb2 => ?_)
  repeat first|(with_reducible first|apply Yc|apply Yb|apply Ym|apply Yj|apply YL)|((with_reducible apply ws);exact rfl;exact rfl)
  exact Yk rfl rfl ⟨_,rfl,hw1.trans (hb2.mono (by omega)),by simpa [Vc] using ho.mono (by omega)⟩
 ·refine Yu rfl (by simpa using h0) ?_
  repeat first|(with_reducible first|apply Yd|apply Ya|apply Yc|apply Yb)|((with_reducible apply ws);exact rfl;exact rfl)
  by_cases h7 : kind = 7
  ·subst h7
   refine Yp rfl (by decide) ?_
   repeat (with_reducible first|apply Yd|apply Ya)
   refine wl_makeB (n:=16) tb_bytes zero_u8 rfl rfl (B:=w1.heap.size) (Nat.le_refl _) (fun w2 ho2 hg2 => ?_)
   repeat first|(with_reducible first|apply Yd|apply Ya|apply Yc|apply Yb)|((with_reducible apply ws);exact rfl;exact rfl)
   have hb2:=hb.kept hg2 (by simp)
   refine Yf rfl to_bytes rfl hb2 rfl ?_
   have hw2 : Below w.heap.size w w2:=hw1.trans (Yg hg2 (by omega) (by simp))
   refine wl_copyB tb_bytes rfl rfl rfl ho2 rfl (hs.below (hw2.mono hB) (Nat.le_refl _)).bytes (fun w3 ho3 hg3 => ?_)
   repeat first|(with_reducible first|apply Yd|apply Ya|apply Yc|apply Yb|apply Ym|apply Yj|apply YL)|((with_reducible apply ws);exact rfl;exact rfl)
   refine Yk rfl rfl ⟨_,rfl,hw2.trans (Yg hg3 (by have:=hw2.size;omega) (by intro k hk;simp at hk;omega)),?_⟩
   have e : XX t.s = t.s.take 16 ++ (List.replicate 16 (0 : UInt8)).drop (min t.s.length 16):=by
    unfold XX
    rw [List.take_append]
    by_cases h : 16 ≤ t.s.length
    ·rw [Nat.min_eq_right h,List.drop_of_length_le (by simp),show 16 - t.s.length = 0 from by omega];rfl
    ·rw [Nat.min_eq_left (by omega),List.take_replicate,List.drop_replicate,Nat.min_eq_left (by omega)]
   have e7 : Vc 7 flex null (Xc ver flex sub) t = XX t.s:=by simp [Vc]
   rw [e7,e]
   exact ho3.mono (by omega)
  ·refine Yu rfl (by simpa using h7) ?_
   repeat first|(with_reducible first|apply Yd|apply Ya|apply Yc|apply Yb)|((with_reducible apply ws);exact rfl;exact rfl)
   by_cases h8 : kind = 8
   ·subst h8
    have e8 : Vc 8 flex null (Xc ver flex sub) t = YR flex null (if null then [] else Xe t.s).length 2 ++ (if null then [] else Xe t.s):=by simp [Vc]
    rw [e8] at hlim ⊢
    refine Yp rfl (by decide) ?_
    repeat first|(with_reducible first|apply Yd|apply Ya)|((with_reducible apply ws);exact rfl;exact rfl)
    refine Yf rfl to_bytes rfl hb rfl ?_
    have hs1:=hs.below (hw1.mono hB) (Nat.le_refl _)
    refine Yo rfl (by kernel_rfl) rfl ((Yc6 _ _ _ _ hs1).mono ?_)
    rintro e w2 ⟨v,rfl,hb2,rfl,hsq⟩
    refine ⟨v,rfl,?_⟩
    rw [Yj6] at hsq
    have hby:=hsq.bytes
    obtain ⟨a3,c3,rfl⟩:=hby.shape
    cases null
    ·simp only [Bool.false_eq_true,if_false] at hlim ⊢
     repeat first|(with_reducible first|apply Yd|apply Ya|apply Yc|apply Yb)|((with_reducible apply ws);exact rfl;exact rfl)
     refine Yu rfl rfl ?_
     repeat first|(with_reducible first|apply Yd|apply Ya|apply Yb|apply Yh)|((with_reducible apply ws);exact rfl;exact rfl)
     have hwl : (Xe t.s).length ≤ 32767:=by simp [Xe,Vf];omega
     refine Yo rfl (by kernel_rfl) rfl ((Jb flex false (Xe t.s).length 2 (by omega) (by omega) w2).mono ?_)
     rintro e w3 ⟨v,rfl,hb3,ho3⟩
     refine ⟨v,rfl,?_⟩
     repeat ((with_reducible apply ws);exact rfl;exact rfl)
     refine Vl tb_bytes tb_bytes rfl rfl rfl (hby.below hb3) ho3 hb3.size (by simpa using hlim) (fun d' w4 ho4 hg4 => ?_)
     repeat first|(with_reducible first|apply Yc|apply Yb|apply Ym|apply Yj|apply YL)|((with_reducible apply ws);exact rfl;exact rfl)
     exact Yk rfl rfl ⟨_,rfl,hw1.trans ((hb3.mono (by omega)).trans (hg4.below (by have:=hb3.size;omega) (fun g hg => by have:=ho3.ge g hg;omega))),ho4.mono (by omega)⟩
    ·simp only [if_true] at hlim ⊢
     repeat first|(with_reducible first|apply Yd|apply Ya|apply Yc|apply Yb)|((with_reducible apply ws);exact rfl;exact rfl)
     refine Yp rfl rfl ?_
     repeat first|(with_reducible first|apply Yd|apply Ya|apply Yc|apply Yb)|((with_reducible apply ws);exact rfl;exact rfl)
     refine Yo rfl (by kernel_rfl) rfl ((Jb flex true 0 2 (by omega) (by omega) w2).mono ?_)
     rintro e w3 ⟨v,rfl,hb3,ho3⟩
     refine ⟨v,rfl,?_⟩
     repeat ((with_reducible apply ws);exact rfl;exact rfl)
     refine Vl (ys:=[]) tb_bytes tb_bytes rfl rfl rfl (.inl ⟨none,0,rfl,rfl⟩) ho3 hb3.size (by simpa using hlim) (fun d' w4 ho4 hg4 => ?_)
     repeat first|(with_reducible first|apply Yc|apply Yb|apply Ym|apply Yj|apply YL)|((with_reducible apply ws);exact rfl;exact rfl)
     exact Yk rfl rfl ⟨_,rfl,hw1.trans ((hb3.mono (by omega)).trans (hg4.below (by have:=hb3.size;omega) (fun g hg => by have:=ho3.ge g hg;omega))),ho4.mono (by omega)⟩
   ·refine Yu rfl (by simpa using h8) ?_
    repeat first|(with_reducible first|apply Yd|apply Ya|apply Yc|apply Yb)|((with_reducible apply ws);exact rfl;exact rfl)
    by_cases h9 : kind = 9
    ·subst h9
     have e9 : Vc 9 flex null (Xc ver flex sub) t = YR flex null (if null then [] else Xe t.s).length 4 ++ (if null then [] else Xe t.s):=by simp [Vc]
     rw [e9] at hlim ⊢
     refine Yp rfl (by decide) ?_
     repeat first|(with_reducible first|apply Yd|apply Ya)|((with_reducible apply ws);exact rfl;exact rfl)
     refine Yf rfl to_bytes rfl hb rfl ?_
     have hs1:=hs.below (hw1.mono hB) (Nat.le_refl _)
     refine Yo rfl (by kernel_rfl) rfl ((Yc6 _ _ _ _ hs1).mono ?_)
     rintro e w2 ⟨v,rfl,hb2,rfl,hsq⟩
     refine ⟨v,rfl,?_⟩
     rw [Yj6] at hsq
     have hby:=hsq.bytes
     obtain ⟨a3,c3,rfl⟩:=hby.shape
     cases null
     ·simp only [Bool.false_eq_true,if_false] at hlim ⊢
      repeat first|(with_reducible first|apply Yd|apply Ya|apply Yc|apply Yb)|((with_reducible apply ws);exact rfl;exact rfl)
      refine Yu rfl rfl ?_
      repeat first|(with_reducible first|apply Yd|apply Ya|apply Yb|apply Yh)|((with_reducible apply ws);exact rfl;exact rfl)
      have hwl : (Xe t.s).length ≤ 32767:=by simp [Xe,Vf];omega
      refine Yo rfl (by kernel_rfl) rfl ((Jb flex false (Xe t.s).length 4 (by omega) (by omega) w2).mono ?_)
      rintro e w3 ⟨v,rfl,hb3,ho3⟩
      refine ⟨v,rfl,?_⟩
      repeat ((with_reducible apply ws);exact rfl;exact rfl)
      refine Vl tb_bytes tb_bytes rfl rfl rfl (hby.below hb3) ho3 hb3.size (by simpa using hlim) (fun d' w4 ho4 hg4 => ?_)
      repeat first|(with_reducible first|apply Yc|apply Yb|apply Ym|apply Yj|apply YL)|((with_reducible apply ws);exact rfl;exact rfl)
      exact Yk rfl rfl ⟨_,rfl,hw1.trans ((hb3.mono (by omega)).trans (hg4.below (by have:=hb3.size;omega) (fun g hg => by have:=ho3.ge g hg;omega))),ho4.mono (by omega)⟩
     ·simp only [if_true] at hlim ⊢
      repeat first|(with_reducible first|apply Yd|apply Ya|apply Yc|apply Yb)|((with_reducible apply ws);exact rfl;exact rfl)
      refine Yp rfl rfl ?_
      repeat first|(with_reducible first|apply Yd|apply Ya|apply Yc|apply Yb)|((with_reducible apply ws);exact rfl;exact rfl)
      refine Yo rfl (by kernel_rfl) rfl ((Jb flex true 0 4 (by omega) (by omega) w2).mono ?_)
      rintro e w3 ⟨v,rfl,hb3,ho3⟩
      refine ⟨v,rfl,?_⟩
      repeat ((with_reducible apply ws);exact rfl;exact rfl)
      refine Vl (ys:=[]) tb_bytes tb_bytes rfl rfl rfl (.inl ⟨none,0,rfl,rfl⟩) ho3 hb3.size (by simpa using hlim) (fun d' w4 ho4 hg4 => ?_)
      repeat first|(with_reducible first|apply Yc|apply Yb|apply Ym|apply Yj|apply YL)|((with_reducible apply ws);exact rfl;exact rfl)
      exact Yk rfl rfl ⟨_,rfl,hw1.trans ((hb3.mono (by omega)).trans (hg4.below (by have:=hb3.size;omega) (fun g hg => by have:=ho3.ge g hg;omega))),ho4.mono (by omega)⟩
    ·refine Yu rfl (by simpa using h9) ?_
     repeat first|(with_reducible first|apply Yd|apply Ya|apply Yc|apply Yb)|((with_reducible apply ws);exact rfl;exact rfl)
     by_cases h10 : kind = 10
     ·subst h10
      have e10 : Vc 10 flex null (Xc ver flex sub) t = Xc ver flex sub t:=by simp [Vc]
      rw [e10] at hlim ⊢
      refine Yp rfl (by decide) ?_
      repeat first|(with_reducible first|apply Yd|apply Ya)|((with_reducible apply ws);exact rfl;exact rfl)
      refine YC (cs:=[.int .i64 t.n,.slice sa (t.s.map YF).length sc,.bool t.nul,lv,uv]) rfl ta_tree rfl hb ?_
      refine Yo rfl (by kernel_rfl) rfl ((hp flex ver t B w1 _ _ hok hB1 (hf.below (hw1.mono hB) (Nat.le_refl _)) (ht.below (hw1.mono hB) (Nat.le_refl _)) hlim).mono ?_)
      rintro e w3 ⟨v,rfl,hb3,ho3⟩
      refine ⟨v,rfl,?_⟩
      repeat first|(with_reducible first|apply Yc|apply Yb|apply Ym|apply Yj|apply YL)|((with_reducible apply ws);exact rfl;exact rfl)
      exact Yk rfl rfl ⟨_,rfl,hw1.trans (hb3.mono (by omega)),ho3.mono (by omega)⟩
     ·refine Yu rfl (by simpa using h10) ?_
      repeat (with_reducible first|apply Yd|apply Yb|apply Yh|apply XS)
      have ed : Vc kind flex null (Xc ver flex sub) t = be (width kind) t.n:=by simp [Vc,h0,h7,h8,h9,h10]
      rw [ed]
      have hbx : ∀ w',Below w1.heap.size w1 w' → Box w' w.heap.size [.int .i64 t.n,.slice sa (t.s.map YF).length sc,.bool t.nul,lv,uv] 26:=fun w' h => hb.below h (by omega)
      refine XJ [(0,.pointer (some ⟨w.heap.size,0 + 0,none⟩)),(1,.int .i64 t.n),(2,.int .i64 kind)] [5,4,3]
       (fun vals w' => Below w1.heap.size w1 w' ∧ match vals with
        | [] => True
        | [v] => v = .int .i64 (width kind : Nat)
        | v :: _ => Own w' w1.heap.size 5 v (be (width kind) t.n))
       mixed rfl rfl rfl rfl rfl (by show ([0,1,2] : List Nat).Nodup;decide) rfl rfl (by decide) rfl rfl rfl rfl ⟨(Below.refl _ w1).drew,trivial⟩ ?_ ⟨?_,?_,?_,trivial⟩ ?_
      ·intro p hp vals w' hC a k
       simp only [List.mem_cons,List.not_mem_nil,or_false] at hp
       rcases hp with rfl | rfl | rfl
       ·exact gv rfl rfl (Yi k rfl fo_tree0)
       ·exact gv rfl rfl (Yy k rfl to_i64 ((hbx _ hC.1).cell0 (i:=0) rfl))
       ·exact gv rfl rfl (Yl k rfl)
      ·rintro vals w' hvl ⟨hb',hC⟩ a k
       match vals,hvl with
       | [v4,v3],_ => exact ⟨_,rfl,Xr k rfl ⟨hb',hC⟩⟩
      ·rintro vals w' hvl ⟨hb',hC⟩ a k
       match vals,hvl with
       | [v3],_ =>
        simp only [] at hC
        subst hC
        have hwd:=Yc7 kind
        exact ⟨_,rfl,Yz k rfl (by kernel_rfl) ((UG t.n (width kind) hwd w').mono (by rintro e w'' ⟨v,rfl,hb'',ho⟩;exact ⟨v,rfl,hb'.trans (hb''.mono hb'.size),ho.mono hb'.size⟩))⟩
      ·rintro vals w' hvl ⟨hb',hC⟩ a k
       match vals,hvl with
       | [],_ =>
        exact ⟨_,rfl,Yz k rfl (by kernel_rfl) ((fn_width kind w').mono (by rintro e w'' ⟨v,rfl,hb'',rfl,rfl⟩;exact ⟨_,rfl,hb',rfl⟩))⟩
      ·rintro vals w' hvl ⟨hb',hC⟩
       match vals,hvl with
       | [v5,v4,v3],_ =>
        refine Yb ?_
        repeat (with_reducible apply Ym)
        exact Yk rfl rfl ⟨_,rfl,hw1.trans (hb'.mono (by omega)),Own.mono hC (by omega)⟩
end
end

section
open Go Go.RowKit
theorem Yj1 {α β : Type} (g : α → List β) (l : List α) (i : Nat) : ((l.take i).flatMap g).length ≤ (l.flatMap g).length:=by
 have : l.flatMap g = (l.take i).flatMap g ++ (l.drop i).flatMap g:=by rw [← List.flatMap_append,List.take_append_drop]
 rw [this,List.length_append];omega
theorem Yg0 {α β : Type} (g : α → List β) (l : List α) {i : Nat} (hi : i < l.length) : (l.take (i + 1)).flatMap g = (l.take i).flatMap g ++ g l[i]:=by
 rw [List.take_succ_eq_append_getElem hi,List.flatMap_append];simp
structure FdS where
 i : Nat
 d : Value
section
set_option maxRecDepth 100000
theorem field_of (f : Fld) (hv : ∀ k,ValueOK k f.sub) (hp : PartOK f.sub) : FieldOK f:=by
 intro flex ver t B w cs ts hok hB hf ht hlim
 obtain ⟨sv,rfl,hsub⟩:=Vs hf
 obtain ⟨sv2,lv,uv,rfl,hs,hl,hu⟩:=Xi ht
 obtain ⟨la,lc,rfl,_⟩:=hl.shape
 rw [wField_eq] at hlim ⊢
 refine enter Tryz.func80 rfl Tryz.ntmps80 rfl ?_
 repeat (with_reducible first|apply Yd|apply Ya)
 refine XF rfl rfl rfl (fun w1 hb1 hg1 hs1 => XF rfl rfl rfl (fun w2 hb2 hg2 hs2 => ?_))
 have hb4:=hb1.kept hg2 (by simp)
 have hw2 : Below w.heap.size w w2:=(Yg hg1 (Nat.le_refl _) (by simp)).trans (Yg hg2 (by omega) (by simp))
 have hB2 : B ≤ w2.heap.size:=by omega
 have hbt : ∀ w',Below w2.heap.size w2 w' → Box w' w1.heap.size [.int .i64 t.n,sv2,.bool t.nul,.slice la (t.l.map treeD).length lc,uv] 26:=fun w' h => hb2.below h (by omega)
 have hbf : ∀ w',Below w2.heap.size w2 w' → Box w' w.heap.size [.int .i64 f.kind,.int .i64 f.fr,.int .i64 f.upto,.int .i64 f.nul,.int .i64 f.tag,.int .i64 f.df,.int .i64 f.of,sv] 55:=fun w' h => hb4.below h (by omega)
 repeat first|(with_reducible first|apply Yd|apply Ya|apply Yc|apply Yb)|((with_reducible apply ws);exact rfl;exact rfl)
 refine YC (cs:=[.int .i64 f.kind,.int .i64 f.fr,.int .i64 f.upto,.int .i64 f.nul,.int .i64 f.tag,.int .i64 f.df,.int .i64 f.of,sv]) rfl ta_fld rfl hb4 ?_
 repeat ((with_reducible apply ws);exact rfl;exact rfl)
 refine YC (cs:=[.int .i64 t.n,sv2,.bool t.nul,.slice la (t.l.map treeD).length lc,uv]) rfl ta_tree rfl hb2 ?_
 refine Yo rfl (by kernel_rfl) rfl ((fn_null f ver t B w2 hB2 _ _ (hf.below (hw2.mono hB) (Nat.le_refl _)) (ht.below (hw2.mono hB) (Nat.le_refl _))).mono ?_)
 rintro e w3 ⟨v,rfl,hw3,rfl⟩
 refine ⟨_,rfl,?_⟩
 have hB3 : B ≤ w3.heap.size:=by have:=hw3.size;omega
 have hw03 : Below w.heap.size w w3:=hw2.trans (hw3.mono (by omega))
 repeat first|(with_reducible first|apply Yd|apply Ya|apply Yc|apply Yb)|((with_reducible apply ws);exact rfl;exact rfl)
 refine Yf rfl to_int rfl (hbf _ hw3) rfl ?_
 repeat first|(with_reducible first|apply Yc|apply Yb)|((with_reducible apply ws);exact rfl;exact rfl)
 by_cases h11 : f.kind = 11
 ·refine Yp rfl (by simpa using h11) ?_
  rw [if_pos h11] at hlim ⊢
  repeat first|(with_reducible first|apply Yd|apply Ya)|((with_reducible apply ws);exact rfl;exact rfl)
  refine Yf rfl to_trees rfl (hbt _ hw3) rfl ?_
  have hl3 : Sq B w3 (.slice la (t.l.map treeD).length lc) (t.l.map treeD):=hl.below (hw03.mono hB) (Nat.le_refl _)
  refine Yo rfl (by kernel_rfl) rfl ((fn_things _ _ _ _ hl3).mono ?_)
  rintro e w4 ⟨v,rfl,hb4',rfl,hsq⟩
  refine ⟨v,rfl,?_⟩
  have hsq' : Sq B w4 v ((YQ t.l).map treeD):=by simpa [YQ] using hsq
  refine YV rfl rfl (Yc (Yb ?_))
  refine UJ (α:=Value) (fun x => [(10,x),(9,.bool (f.null ver t)),(7,.pointer (some ⟨w1.heap.size,0,none⟩)),(4,.pointer (some ⟨w.heap.size,0,none⟩)),(2,.bool flex),(1,.int .i64 ver)])
   (fun x w' => w' = w4 ∧ Sq B w4 x ((if f.null ver t then [] else YQ t.l).map treeD)) ?_ ?_
  ·repeat first|(with_reducible first|apply Yd|apply Ya|apply Yc|apply Yb)|((with_reducible apply ws);exact rfl;exact rfl)
   cases hn : f.null ver t
   ·refine Yu rfl rfl ?_
    repeat (with_reducible apply Yh)
    exact XB v ⟨rfl,rfl,rfl,rfl,rfl,rfl,trivial⟩ ⟨rfl,by simpa using hsq'⟩
   ·refine Yp rfl rfl ?_
    repeat first|(with_reducible first|apply Ya|apply Yc)|((with_reducible apply ws);exact rfl;exact rfl)
    exact XB (.slice none 0 0) ⟨rfl,rfl,rfl,rfl,rfl,rfl,trivial⟩ ⟨rfl,by simp only [Sq,Rep];exact ⟨none,0,rfl,by simp,.inl (by simp)⟩⟩
  rintro x w5 ⟨rfl,hx⟩
  generalize hxl : (if f.null ver t then [] else YQ t.l) = xs at hx hlim ⊢
  have hxs : ∀ y ∈ xs,y.ok:=by
   intro y hy;subst hxl
   split at hy
   ·cases hy
   ·exact hok.l y (List.mem_of_mem_take hy)
  have hxn : xs.length ≤ 32767:=by
   subst hxl;split
   ·simp
   ·simp only [YQ,Vf,List.length_take];omega
  obtain ⟨xa,xc,rfl,_⟩:=hx.shape
  rw [List.length_map] at *
  repeat first|(with_reducible first|apply Yd|apply Ya)|((with_reducible apply ws);exact rfl;exact rfl)
  refine Yo rfl (by kernel_rfl) rfl ((Jb flex (f.null ver t) xs.length 4 (by omega) (by omega) w5).mono ?_)
  rintro e w6 ⟨v6,rfl,hb6,ho6⟩
  refine ⟨v6,rfl,?_⟩
  repeat first|(with_reducible first|apply Yd|apply Ya|apply Yc|apply Yb|apply Yr)|((with_reducible apply ws);exact rfl;exact rfl)
  have hw5:=hw3.size
  refine Xu (α:=FdS) (fun s => [(31,.int .i64 (s.i : Int)),(30,.int .i64 (xs.length : Int)),(11,s.d),(10,.slice xa xs.length xc),(7,.pointer (some ⟨w1.heap.size,0,none⟩)),(4,.pointer (some ⟨w.heap.size,0,none⟩)),(2,.bool flex),(1,.int .i64 ver)])
   (fun s w' => s.i ≤ xs.length ∧ Below w5.heap.size w5 w' ∧ Own w' w5.heap.size 5 s.d (YR flex (f.null ver t) xs.length 4 ++ (xs.take s.i).flatMap (Vc f.of flex false (Xc ver flex f.sub)))) (fun s => xs.length - s.i) ⟨0,v6⟩ ⟨rfl,rfl,rfl,rfl,rfl,rfl,rfl,rfl,trivial⟩ ⟨Nat.zero_le _,hb6,by simpa using ho6⟩ ?_
  rintro ⟨i,d⟩ w7 ⟨hi,hw7,ho7⟩
  simp only [] at hi ho7
  change WC _ _ _ _ [(31,.int .i64 (i : Int)),(30,.int .i64 (xs.length : Int)),(11,d),(10,.slice xa xs.length xc),(7,.pointer (some ⟨w1.heap.size,0,none⟩)),(4,.pointer (some ⟨w.heap.size,0,none⟩)),(2,.bool flex),(1,.int .i64 ver)] _
  repeat first|(with_reducible first|apply Yd|apply Ya|apply Yc|apply Yb)|((with_reducible apply ws);exact rfl;exact rfl)
  by_cases hlt : i < xs.length
  ·refine Yp rfl (by simpa using hlt) ?_
   repeat first|(with_reducible first|apply Yd|apply Ya|apply Yc|apply Yb|apply Yr|apply Yh)|((with_reducible apply ws);exact rfl;exact rfl)
   obtain ⟨b,off,c',cs,hv2,hbB,hcs,hlen,hr⟩:=hx.get (sz:=5) (i:=i) (by intro d hd;obtain ⟨x,_,rfl⟩:=List.mem_map.1 hd;exact Xs x) (by simpa using hlt)
   simp only [Value.slice.injEq,List.length_map] at hv2
   obtain ⟨rfl,_,rfl⟩:=hv2
   simp only [List.getElem_map] at hr
   have hcsw : ∀ w',Below w5.heap.size w5 w' → YE w' b (off + i * 5) cs:=fun w' h => hcs.of_block (h.block b (by omega))
   have h25 : ∀ w',Below w5.heap.size w5 w' → Below w2.heap.size w2 w':=fun w' h => hw3.trans (h.mono hw5)
   have htk:=Yg0 (Vc f.of flex false (Xc ver flex f.sub)) xs hlt
   have hle:=Yj1 (Vc f.of flex false (Xc ver flex f.sub)) xs (i + 1)
   rw [htk] at hle
   simp only [List.length_append] at hle hlim
   refine XJ [(0,d),(1,.pointer (some ⟨w.heap.size,0 + 6,none⟩)),(2,.int .i64 f.of),(3,.pointer (some ⟨w.heap.size,0 + 7,none⟩)),(4,sv),(5,.int .i64 ver),(6,.bool flex),(7,.slice (some ⟨b,off,none⟩) xs.length xc),(8,.int .i64 (i : Int)),(9,.pointer (some ⟨b,off + i * 5,none⟩)),(10,.agg cs.toArray)] [13,12,11]
    (fun vals w' => Below w5.heap.size w5 w' ∧ match vals with
     | [] => w' = w7.drew
     | [v] => Below w7.heap.size w7 w' ∧ Own w' w7.heap.size 5 v (Vc f.of flex false (Xc ver flex f.sub) xs[i])
     | v :: _ => Own w' w5.heap.size 5 v (YR flex (f.null ver t) xs.length 4 ++ (xs.take (i + 1)).flatMap (Vc f.of flex false (Xc ver flex f.sub))))
    mixed rfl rfl rfl rfl rfl (by show ([0,1,2,3,4,5,6,7,8,9,10] : List Nat).Nodup;decide) rfl rfl (by decide) rfl rfl rfl rfl ⟨hw7.drew,rfl⟩ ?_ ⟨?_,?_,?_,trivial⟩ ?_
   ·intro p hp vals w' hC a k
    simp only [List.mem_cons,List.not_mem_nil,or_false] at hp
    rcases hp with rfl | rfl | rfl | rfl | rfl | rfl | rfl | rfl | rfl | rfl | rfl
    ·exact gv rfl rfl (Yl k rfl)
    ·exact gv rfl rfl (Yi k rfl fo_fld6)
    ·exact gv rfl rfl (Yy k rfl to_int ((hbf _ (h25 _ hC.1)).cell0 (i:=6) rfl))
    ·exact gv rfl rfl (Yi k rfl fo_fld7)
    ·exact gv rfl rfl (Yy k rfl to_flds ((hbf _ (h25 _ hC.1)).cell0 (i:=7) rfl))
    ·exact gv rfl rfl (Yl k rfl)
    ·exact gv rfl rfl (Yl k rfl)
    ·exact gv rfl rfl (Yl k rfl)
    ·exact gv rfl rfl (Yl k rfl)
    ·exact gv rfl rfl (Yx k rfl rfl es_trees hlt)
    ·exact gv rfl rfl (Vw k rfl (by rw [hlen];exact ta_tree) (fun j v e => (hcsw _ hC.1).cell e))
   ·rintro vals w' hvl ⟨hb',hC⟩ a k
    match vals,hvl with
    | [v12,v11],_ => exact ⟨_,rfl,Xr k rfl ⟨hb',hC⟩⟩
   ·rintro vals w' hvl ⟨hb',hC⟩ a k
    match vals,hvl with
    | [v11],_ =>
     obtain ⟨hb7,hov⟩:=hC
     refine ⟨_,rfl,Ui k tb_bytes tb_bytes rfl rfl hov.bytes (ho7.below hb7) hb'.size (by simp only [List.length_append];omega) (fun d' w'' ho'' hg'' => ⟨hb'.trans (hg''.below hb'.size ho7.ge),?_⟩)⟩
     simp only []
     rw [htk,← List.append_assoc];exact ho''
   ·rintro vals w' hvl ⟨hb',hC⟩ a k
    match vals,hvl with
    | [],_ =>
     simp only [] at hC
     subst hC
     have hw70:=hw7.size
     exact ⟨_,rfl,Yz k rfl (by kernel_rfl) ((hv f.of false flex ver xs[i] w5.heap.size w7.drew _ _ (hxs _ (List.getElem_mem hlt)) hw70 (hsub.below (((hw03.trans (hw7.mono (by omega))).drew).mono hB) (by omega)) (Rep.below hr ((hw7.drew).mono (by omega)) (by omega)) (by omega)).mono (by rintro e w'' ⟨v,rfl,hb'',ho⟩;exact ⟨v,rfl,hb'.trans (hb''.mono hw70),(Below.refl _ w7).drew.trans hb'',ho⟩))⟩
   ·rintro vals w' hvl ⟨hb',hC⟩
    match vals,hvl with
    | [v13,v12,v11],_ =>
     refine Yb ?_
     repeat (with_reducible apply Ya)
     refine Xn rfl rfl rfl (r:=((i + 1 : Nat) : Int)) (by rw [IntKind.wrap_i64];omega) ?_
     repeat first|(with_reducible apply Yc)|((with_reducible apply ws);exact rfl;exact rfl)
     exact YD ⟨i + 1,v13⟩ ⟨rfl,rfl,rfl,rfl,rfl,rfl,rfl,rfl,trivial⟩ ⟨by simp only [];omega,hb',hC⟩ (by simp only [];omega)
  ·refine Yu rfl (by simpa using hlt) ?_
   repeat first|(with_reducible first|apply Yd|apply Ya|apply Yc|apply Yb|apply Ym|apply Xk|apply Yj|apply Yw|apply YB|apply Yq)|((with_reducible apply ws);exact rfl;exact rfl)
   refine Yk rfl rfl ⟨_,rfl,hw03.trans (hw7.mono (by omega)),?_⟩
   rw [List.take_of_length_le (by omega)] at ho7
   exact ho7.mono (by omega)
 ·refine Yu rfl (by simpa using h11) ?_
  rw [if_neg h11] at hlim ⊢
  refine Yh (Yb ?_)
  refine UJ (α:=Unit) (fun _ => [(9,.bool (f.null ver t)),(7,.pointer (some ⟨w1.heap.size,0,none⟩)),(4,.pointer (some ⟨w.heap.size,0,none⟩)),(2,.bool flex),(1,.int .i64 ver)]) (fun _ w' => w' = w3 ∧ ¬ (f.kind = 10 ∧ 0 ≤ f.nul)) ?_ ?_
  ·repeat first|(with_reducible first|apply Yd|apply Ya)|((with_reducible apply ws);exact rfl;exact rfl)
   refine Yf rfl to_int rfl (hbf _ hw3) rfl ?_
   repeat ((with_reducible apply ws);exact rfl;exact rfl)
   by_cases h10 : f.kind = 10
   ·have e10 : (f.kind == 10) = true:=by simpa using h10
    rw [e10]
    repeat first|((with_reducible apply ws);exact rfl;exact rfl)|((with_reducible apply YU);exact rfl;exact rfl;exact rfl)
    refine Yf rfl to_int rfl (hbf _ hw3) rfl ?_
    repeat first|(with_reducible first|apply Yc|apply Yb)|((with_reducible apply ws);exact rfl;exact rfl)|((with_reducible apply YU);exact rfl;exact rfl;exact rfl)
    by_cases hnl : 0 ≤ f.nul
    ·refine Yp rfl (by simpa using hnl) ?_
     rw [if_pos ⟨h10,hnl⟩] at hlim ⊢
     repeat first|(with_reducible first|apply Yd|apply Ya|apply Yc|apply Yb)|((with_reducible apply ws);exact rfl;exact rfl)
     cases hn : f.null ver t
     ·refine Yu rfl rfl ?_
      rw [hn] at hlim
      simp only [Bool.false_eq_true,if_false] at hlim ⊢
      repeat (with_reducible first|apply Yd|apply Yb|apply Yh)
      refine XJ [(1,.pointer (some ⟨w.heap.size,0 + 7,none⟩)),(2,sv),(3,.int .i64 ver),(4,.bool flex),(5,.agg ([.int .i64 t.n,sv2,.bool t.nul,.slice la (t.l.map treeD).length lc,uv] : List Value).toArray)] [8,7,6,0]
       (fun vals w' => Below w3.heap.size w3 w' ∧ match vals with
        | [] => True
        | [v] => Own w' w3.heap.size 5 v (be 1 1)
        | [v,v0] => Own w' w3.heap.size 5 v0 (be 1 1) ∧ Own w' w3.heap.size 5 v (Xc ver flex f.sub t)
        | v :: _ => Own w' w3.heap.size 5 v (be 1 1 ++ Xc ver flex f.sub t))
       mixed rfl rfl rfl rfl rfl (by show ([1,2,3,4,5] : List Nat).Nodup;decide) rfl rfl (by decide) rfl rfl rfl rfl ⟨(Below.refl _ w3).drew,trivial⟩ ?_ ⟨?_,?_,?_,?_,trivial⟩ ?_
      ·intro p hp vals w' hC a k
       simp only [List.mem_cons,List.not_mem_nil,or_false] at hp
       have hb2' : Below w2.heap.size w2 w':=hw3.trans (hC.1.mono hw3.size)
       rcases hp with rfl | rfl | rfl | rfl | rfl
       ·exact gv rfl rfl (Yi k rfl fo_fld7)
       ·exact gv rfl rfl (Yy k rfl to_flds ((hbf _ hb2').cell0 (i:=7) rfl))
       ·exact gv rfl rfl (Yl k rfl)
       ·exact gv rfl rfl (Yl k rfl)
       ·exact gv rfl rfl (YX k rfl ta_tree (hbt _ hb2'))
      ·rintro vals w' hvl ⟨hb',hC⟩ a k
       match vals,hvl with
       | [v7,v6,v0],_ => exact ⟨_,rfl,Xr k rfl ⟨hb',hC⟩⟩
      ·rintro vals w' hvl ⟨hb',hC⟩ a k
       match vals,hvl with
       | [v6,v0],_ =>
        obtain ⟨ho0,ho6⟩:=hC
        exact ⟨_,rfl,Ui k tb_bytes tb_bytes rfl rfl ho6.bytes ho0 hb'.size (by simpa using hlim) (fun d' w'' ho'' hg'' => ⟨hb'.trans (hg''.below hb'.size ho0.ge),ho''⟩)⟩
      ·rintro vals w' hvl ⟨hb',hC⟩ a k
       match vals,hvl with
       | [v0],_ =>
        simp only [] at hC
        have hs3:=hb'.size
        refine ⟨_,rfl,Yz k rfl (by kernel_rfl) ((hp flex ver t w3.heap.size w' _ _ hok hs3 (hsub.below ((hw03.trans (hb'.mono hw03.size)).mono hB) (by omega)) (Rep.below ht ((hw03.trans (hb'.mono hw03.size)).mono hB) (by omega)) (by simp only [List.length_append] at hlim;omega)).mono ?_)⟩
        rintro e w'' ⟨v,rfl,hb'',ho⟩
        exact ⟨v,rfl,hb'.trans (hb''.mono hs3),Own.below hC hb'',ho.mono hs3⟩
      ·rintro vals w' hvl ⟨hb',hC⟩ a k
       match vals,hvl with
       | [],_ =>
        exact ⟨_,rfl,Yz k rfl (by kernel_rfl) ((UG 1 1 (by omega) w').mono (by rintro e w'' ⟨v,rfl,hb'',ho⟩;exact ⟨v,rfl,hb'.trans (hb''.mono hb'.size),ho.mono hb'.size⟩))⟩
      ·rintro vals w' hvl ⟨hb',hC⟩
       match vals,hvl with
       | [v8,v7,v6,v0],_ =>
        refine Yb ?_
        repeat (with_reducible first|apply Ym|apply VJ)
        exact Yk rfl rfl ⟨_,rfl,hw03.trans (hb'.mono (by have:=hw03.size;omega)),Own.mono hC (by have:=hw03.size;omega)⟩
     ·refine Yp rfl rfl ?_
      repeat (with_reducible first|apply Yd|apply Ya)
      refine Yo rfl (by kernel_rfl) rfl ((UG (-1) 1 (by omega) w3).mono ?_)
      rintro e w' ⟨v,rfl,hb,ho⟩
      refine ⟨v,rfl,?_⟩
      repeat first|(with_reducible first|apply Yc|apply Yb|apply Ym|apply Yj|apply VJ)|((with_reducible apply ws);exact rfl;exact rfl)
      exact Yk rfl rfl ⟨_,rfl,hw03.trans (hb.mono hw03.size),by simpa using ho.mono hw03.size⟩
    ·refine Yu rfl (by simpa using hnl) ?_
     repeat (with_reducible apply Yh)
     exact XB () ⟨rfl,rfl,rfl,rfl,rfl,trivial⟩ ⟨rfl,fun h => hnl h.2⟩
   ·have e10 : (f.kind == 10) = false:=by simpa using h10
    rw [e10]
    repeat first|(with_reducible first|apply Yc|apply Yb)|((with_reducible apply ws);exact rfl;exact rfl)|((with_reducible apply US);exact rfl;exact rfl;exact rfl;exact rfl)
    refine Yu rfl rfl ?_
    repeat (with_reducible apply Yh)
    exact XB () ⟨rfl,rfl,rfl,rfl,rfl,trivial⟩ ⟨rfl,fun h => h10 h.1⟩
  rintro _ w4 ⟨rfl,hno⟩
  rw [if_neg hno] at hlim ⊢
  repeat first|(with_reducible first|apply Yd|apply Ya)|((with_reducible apply ws);exact rfl;exact rfl)
  refine Yf rfl to_int rfl (hbf _ hw3) rfl ?_
  repeat ((with_reducible apply ws);exact rfl;exact rfl)
  refine Yf rfl to_flds rfl (hbf _ hw3) rfl ?_
  repeat ((with_reducible apply ws);exact rfl;exact rfl)
  refine YC (cs:=[.int .i64 t.n,sv2,.bool t.nul,.slice la (t.l.map treeD).length lc,uv]) rfl ta_tree rfl (hbt _ hw3) ?_
  refine Yo rfl (by kernel_rfl) rfl ((hv f.kind (f.null ver t) flex ver t B w4 _ _ hok hB3 (hsub.below (hw03.mono hB) (Nat.le_refl _)) (Rep.below ht (hw03.mono hB) (Nat.le_refl _)) hlim).mono ?_)
  rintro e w' ⟨v,rfl,hb,ho⟩
  refine ⟨v,rfl,?_⟩
  repeat first|(with_reducible first|apply Yc|apply Yb|apply Ym)|((with_reducible apply ws);exact rfl;exact rfl)
  exact Yk rfl rfl ⟨_,rfl,hw03.trans (hb.mono hw03.size),ho.mono hw03.size⟩
end
end

section
open Go Go.RowKit
theorem usual_eq (f : Fld) (t : Tree) : usual f t =
  if f.kind = 0 then decide (t.n % 2 = f.df)
  else if f.kind = 7 then (t.s.take 16).all (· == 0)
  else if f.kind = 8 ∨ f.kind = 9 then (if 0 ≤ f.nul then t.nul else t.s.isEmpty)
  else if f.kind = 11 then t.l.isEmpty
  else if f.kind = 10 then usuals f.sub 0 t && (Xm f.sub t.u).isEmpty
  else be (width f.kind) t.n == be (width f.kind) f.df:=by
 cases f
 simp only [usual,Fld.kind,Fld.nul,Fld.df,Fld.sub]
 rfl
theorem usuals_drop (fs : List Fld) (t : Tree) {i : Nat} (hi : i < fs.length) : usuals (fs.drop i) i t = (usual fs[i] (att t i) && usuals (fs.drop (i + 1)) (i + 1) t):=by
 rw [List.drop_eq_getElem_cons hi]
 simp only [usuals]
def Yn8 (f : Fld) : Prop:=∀ (t : Tree) (B : Nat) (w : World) (cs ts : List Value),t.ok → B ≤ w.heap.size → Rep (Lo B) w (fldD f) cs → Rep (Lo B) w (treeD t) ts →
 Fn 36 [.agg cs.toArray,.agg ts.toArray] w fun v _ => v = .bool (usual f t)
section
variable {P : Program} {N : Nat} {L : Sl} {a : Act} {w : World} {d : Option Nat} {ty : TypeId} {pos : String} {aft : Array Edge} {g : Option (Nat × Bool)}
theorem Jk {x : Operand} {t : TypeId} {b : Bool} {R : Value → World → Prop} (k : Kn N a L) (hx : ev L x = some (.bool b)) (h : R (.bool (!b)) w) : Jj P ⟨d,.unOp .not t x,ty,pos,aft,g⟩ a w R:=Vo (rn_not k hx) h
end
section
set_option maxRecDepth 100000
theorem usual_of (f : Fld) (hsubOK : JB f.sub = true) (hu : ∀ g ∈ f.sub,Yn8 g) : Yn8 f:=by
 intro t B w cs ts hok hB hf ht
 obtain ⟨sv,rfl,hsub⟩:=Vs hf
 obtain ⟨sv2,lv,uv,rfl,hs,hl,huu⟩:=Xi ht
 obtain ⟨la,lc,rfl,_⟩:=hl.shape
 obtain ⟨sa,sc,rfl,_⟩:=hs.shape
 rw [usual_eq]
 refine enter Tryz.func36 rfl Tryz.ntmps36 rfl ?_
 repeat (with_reducible first|apply Yd|apply Ya)
 refine XF rfl rfl rfl (fun w1 hb1 hg1 hs1 => XF rfl rfl rfl (fun w2 hb2 hg2 hs2 => ?_))
 have hb4:=hb1.kept hg2 (by simp)
 have hw2 : Below w.heap.size w w2:=(Yg hg1 (Nat.le_refl _) (by simp)).trans (Yg hg2 (by omega) (by simp))
 have hB2 : B ≤ w2.heap.size:=by omega
 have hbt : ∀ w',Below w2.heap.size w2 w' → Box w' w1.heap.size [.int .i64 t.n,.slice sa (t.s.map YF).length sc,.bool t.nul,.slice la (t.l.map treeD).length lc,uv] 26:=fun w' h => hb2.below h (by omega)
 have hbf : ∀ w',Below w2.heap.size w2 w' → Box w' w.heap.size [.int .i64 f.kind,.int .i64 f.fr,.int .i64 f.upto,.int .i64 f.nul,.int .i64 f.tag,.int .i64 f.df,.int .i64 f.of,sv] 55:=fun w' h => hb4.below h (by omega)
 repeat first|(with_reducible first|apply Yd|apply Ya|apply Yc|apply Yb)|((with_reducible apply ws);exact rfl;exact rfl)
 refine Yf rfl to_int rfl hb4 rfl ?_
 repeat first|(with_reducible first|apply Yd|apply Ya|apply Yc|apply Yb|apply Yr)|((with_reducible apply ws);exact rfl;exact rfl)
 by_cases h0 : f.kind = 0
 ·refine Yp rfl (by simpa using h0) ?_
  rw [if_pos h0]
  repeat first|(with_reducible first|apply Yd|apply Ya)|((with_reducible apply ws);exact rfl;exact rfl)
  refine Yf rfl to_i64 rfl hb2 rfl ?_
  refine Ud rfl rfl rfl (and1 t.n) ?_
  repeat ((with_reducible apply ws);exact rfl;exact rfl)
  refine Yf rfl to_i64 rfl hb4 rfl ?_
  repeat first|(with_reducible first|apply Yc|apply Yb|apply Ym|apply Yj|apply YL)|((with_reducible apply ws);exact rfl;exact rfl)
  exact Yk rfl rfl ⟨_,rfl,hw2,by rw [Bool.beq_eq_decide_eq]⟩
 ·refine Yu rfl (by simpa using h0) ?_
  rw [if_neg h0]
  repeat first|(with_reducible first|apply Yd|apply Ya|apply Yc|apply Yb)|((with_reducible apply ws);exact rfl;exact rfl)
  by_cases h7 : f.kind = 7
  ·refine Yp rfl (by simpa using h7) ?_
   rw [if_pos h7]
   repeat first|(with_reducible first|apply Yd|apply Ya)|((with_reducible apply ws);exact rfl;exact rfl)
   refine Yf rfl to_bytes rfl hb2 rfl ?_
   repeat first|(with_reducible first|apply Yc|apply Yb|apply Yr)|((with_reducible apply ws);exact rfl;exact rfl)
   rw [List.length_map] at *
   refine Xu (α:=Nat) (fun i => [(24,.int .i64 (i : Int)),(23,.int .i64 (t.s.length : Int)),(22,.slice sa t.s.length sc)]) (fun i w' => i ≤ t.s.length ∧ ((t.s.take i).take 16).all (· == 0) = true ∧ Below w2.heap.size w2 w') (fun i => t.s.length - i) 0 ⟨rfl,rfl,rfl,trivial⟩ ⟨Nat.zero_le _,rfl,Below.refl _ _⟩ ?_
   rintro i w3 ⟨hi,hall,hw3⟩
   have hsl:=hok.s
   repeat first|(with_reducible first|apply Yd|apply Ya|apply Yc|apply Yb)|((with_reducible apply ws);exact rfl;exact rfl)
   by_cases hlt : i < t.s.length
   ·refine Yp rfl (by simpa using hlt) ?_
    repeat first|(with_reducible first|apply Yd|apply Ya|apply Yb|apply Yr|apply Yh)|((with_reducible apply ws);exact rfl;exact rfl)
    have hs3 : Sq B w3 (.slice sa t.s.length sc) (t.s.map YF):=hs.below ((hw2.trans (hw3.mono (by omega))).mono hB) (Nat.le_refl _)
    obtain ⟨b1,o1,c1,hv1,hc1⟩:=hs3.bytes.get hlt
    simp only [Value.slice.injEq] at hv1
    obtain ⟨rfl,_,rfl⟩:=hv1
    refine Ys rfl rfl es_bytes rfl hlt ?_
    refine XN rfl to_u8 rfl hc1 ?_
    repeat first|(with_reducible first|apply Yd|apply Ya|apply Yc|apply Yb)|((with_reducible apply ws);exact rfl;exact rfl)
    by_cases h16 : i < 16
    ·have e16 : decide ((i : Int) < 16) = true:=by simp;omega
     rw [e16]
     repeat first|(with_reducible first|apply Yc|apply Yb)|((with_reducible apply ws);exact rfl;exact rfl)|((with_reducible apply YU);exact rfl;exact rfl;exact rfl)
     by_cases hz : t.s[i] = 0
     ·refine Yu rfl (by rw [hz];rfl) ?_
      repeat (with_reducible first|apply Ya|apply Yb|apply Yh|apply XS)
      refine Xn rfl rfl rfl (r:=((i + 1 : Nat) : Int)) (by rw [IntKind.wrap_i64];omega) ?_
      repeat first|(with_reducible apply Yc)|((with_reducible apply ws);exact rfl;exact rfl)
      refine YD (i + 1) ⟨rfl,rfl,rfl,trivial⟩ ⟨by omega,?_,hw3⟩ (by omega)
      rw [List.take_succ_eq_append_getElem hlt,List.take_of_length_le (by simp;omega)]
      rw [List.take_of_length_le (by simp;omega)] at hall
      simp [hall,hz]
     ·refine Yp rfl (by simp only [bne_iff_ne,ne_eq];intro e;exact hz (UInt8.toNat_inj.1 (by simpa using e))) ?_
      repeat first|(with_reducible first|apply Yd|apply Ya|apply Yc|apply Yb|apply Ym|apply Yj|apply YL|apply VJ)|((with_reducible apply ws);exact rfl;exact rfl)
      refine Yk rfl rfl ⟨_,rfl,hw2.trans (hw3.mono (by omega)),?_⟩
      show Value.bool false = Value.bool _
      congr 1
      symm
      rw [List.all_eq_false]
      refine ⟨t.s[i],?_,by simpa using hz⟩
      rw [List.mem_iff_getElem]
      exact ⟨i,by simp;omega,by simp⟩
    ·have e16 : decide ((i : Int) < 16) = false:=by simp;omega
     rw [e16]
     repeat first|(with_reducible first|apply Yc|apply Yb)|((with_reducible apply ws);exact rfl;exact rfl)|((with_reducible apply US);exact rfl;exact rfl;exact rfl;exact rfl)
     refine Yu rfl rfl ?_
     repeat (with_reducible first|apply Ya|apply Yb|apply Yh|apply XS)
     refine Xn rfl rfl rfl (r:=((i + 1 : Nat) : Int)) (by rw [IntKind.wrap_i64];omega) ?_
     repeat first|(with_reducible apply Yc)|((with_reducible apply ws);exact rfl;exact rfl)
     refine YD (i + 1) ⟨rfl,rfl,rfl,trivial⟩ ⟨by omega,?_,hw3⟩ (by omega)
     rw [List.take_take,Nat.min_eq_left (by omega)]
     rw [List.take_take,Nat.min_eq_left (by omega)] at hall
     exact hall
   ·refine Yu rfl (by simpa using hlt) ?_
    repeat first|(with_reducible first|apply Yd|apply Ya|apply Yc|apply Yb|apply Ym|apply Xk|apply Yj|apply YL|apply Yw|apply YB|apply Yq)|((with_reducible apply ws);exact rfl;exact rfl)
    refine Yk rfl rfl ⟨_,rfl,hw2.trans (hw3.mono (by omega)),?_⟩
    have hi2 : i = t.s.length:=by omega
    rw [hi2,List.take_length] at hall
    show Value.bool true = Value.bool _
    rw [hall]
  ·refine Yu rfl (by simpa using h7) ?_
   rw [if_neg h7]
   repeat first|(with_reducible first|apply Yd|apply Ya|apply Yc|apply Yb)|((with_reducible apply ws);exact rfl;exact rfl)
   by_cases h89 : f.kind = 8 ∨ f.kind = 9
   ·rw [if_pos h89]
    refine Yb8 (α:=Unit) (fun _ => [(36,.bool true),(2,.pointer (some ⟨w.heap.size,0,none⟩)),(3,.pointer (some ⟨w1.heap.size,0,none⟩))]) (fun _ w' => w' = w2) ?_ ?_
    ·by_cases h8 : f.kind = 8
     ·refine Yp rfl (by simpa using h8) ?_
      repeat (with_reducible apply Yh)
      refine XB () ⟨by rw [h8];rfl,rfl,rfl,trivial⟩ rfl
     ·have h9 : f.kind = 9:=by rcases h89 with h | h;exact absurd h h8;exact h
      refine Yu rfl (by simpa using h8) ?_
      repeat first|(with_reducible first|apply Ya|apply Yc)|((with_reducible apply ws);exact rfl;exact rfl)
      refine XB () ⟨by rw [h9];rfl,rfl,rfl,trivial⟩ rfl
    rintro _ w3 rfl
    refine Yp rfl rfl ?_
    repeat first|(with_reducible first|apply Yd|apply Ya)|((with_reducible apply ws);exact rfl;exact rfl)
    refine Yf rfl to_int rfl hb4 rfl ?_
    repeat first|(with_reducible first|apply Yc|apply Yb)|((with_reducible apply ws);exact rfl;exact rfl)
    by_cases hnl : 0 ≤ f.nul
    ·refine Yp rfl (by simpa using hnl) ?_
     rw [if_pos hnl]
     repeat first|(with_reducible first|apply Yd|apply Ya)|((with_reducible apply ws);exact rfl;exact rfl)
     refine Yf rfl to_bool rfl hb2 rfl ?_
     repeat first|(with_reducible first|apply Yc|apply Yb|apply Ym|apply Yj|apply YL)|((with_reducible apply ws);exact rfl;exact rfl)
     exact Yk rfl rfl ⟨_,rfl,hw2,rfl⟩
    ·refine Yu rfl (by simpa using hnl) ?_
     rw [if_neg hnl]
     repeat first|(with_reducible first|apply Yd|apply Ya|apply Yb|apply Yh)|((with_reducible apply ws);exact rfl;exact rfl)
     refine Yf rfl to_bytes rfl hb2 rfl ?_
     repeat first|(with_reducible first|apply Yc|apply Yb|apply Ym|apply Yj|apply YL)|((with_reducible apply ws);exact rfl;exact rfl)
     refine Yk rfl rfl ⟨_,rfl,hw2,?_⟩
     show Value.bool _ = Value.bool _
     congr 1
     cases t.s <;> simp
     omega
   ·rw [if_neg h89]
    have h8 : f.kind ≠ 8:=fun h => h89 (.inl h)
    have h9 : f.kind ≠ 9:=fun h => h89 (.inr h)
    refine Yb8 (α:=Unit) (fun _ => [(36,.bool false),(10,.int .i64 f.kind),(2,.pointer (some ⟨w.heap.size,0,none⟩)),(3,.pointer (some ⟨w1.heap.size,0,none⟩))]) (fun _ w' => w' = w2) ?_ ?_
    ·refine Yu rfl (by simpa using h8) ?_
     repeat first|(with_reducible first|apply Ya|apply Yc)|((with_reducible apply ws);exact rfl;exact rfl)
     refine XB () ⟨?_,rfl,rfl,rfl,trivial⟩ rfl
     show some (Value.bool (f.kind == 9)) = some (Value.bool false)
     rw [show (f.kind == 9) = false from by simpa using h9]
    rintro _ w3 h3
    obtain rfl:=h3.symm
    refine Yu rfl rfl ?_
    repeat first|(with_reducible first|apply Yd|apply Ya|apply Yc|apply Yb)|((with_reducible apply ws);exact rfl;exact rfl)
    by_cases h11 : f.kind = 11
    ·refine Yp rfl (by simpa using h11) ?_
     rw [if_pos h11]
     repeat first|(with_reducible first|apply Yd|apply Ya)|((with_reducible apply ws);exact rfl;exact rfl)
     refine Yf rfl to_trees rfl hb2 rfl ?_
     repeat first|(with_reducible first|apply Yc|apply Yb|apply Ym|apply Yj|apply YL)|((with_reducible apply ws);exact rfl;exact rfl)
     refine Yk rfl rfl ⟨_,rfl,hw2,?_⟩
     show Value.bool _ = Value.bool _
     congr 1
     cases t.l <;> simp
     omega
    ·refine Yu rfl (by simpa using h11) ?_
     rw [if_neg h11]
     repeat first|(with_reducible first|apply Yd|apply Ya|apply Yc|apply Yb)|((with_reducible apply ws);exact rfl;exact rfl)
     by_cases h10 : f.kind = 10
     ·refine Yp rfl (by simpa using h10) ?_
      rw [if_pos h10]
      repeat first|(with_reducible first|apply Yd|apply Ya)|((with_reducible apply ws);exact rfl;exact rfl)
      refine Yf rfl to_flds rfl hb4 rfl ?_
      obtain ⟨fa,fc,rfl,_⟩:=hsub.shape
      rw [List.length_map] at *
      repeat first|(with_reducible first|apply Yc|apply Yb|apply Yr)|((with_reducible apply ws);exact rfl;exact rfl)
      refine Xu (α:=Nat) (fun i => [(59,.int .i64 (i : Int)),(58,.int .i64 (f.sub.length : Int)),(57,.slice fa f.sub.length fc),(2,.pointer (some ⟨w.heap.size,0,none⟩)),(3,.pointer (some ⟨w1.heap.size,0,none⟩))]) (fun i w' => i ≤ f.sub.length ∧ usuals f.sub 0 t = usuals (f.sub.drop i) i t ∧ Below w2.heap.size w2 w') (fun i => f.sub.length - i) 0 ⟨rfl,rfl,rfl,rfl,rfl,trivial⟩ ⟨Nat.zero_le _,rfl,Below.refl _ _⟩ ?_
      rintro i w3 ⟨hi,hall,hw3⟩
      have hfl:=JB.len hsubOK
      have hw03 : Below w.heap.size w w3:=hw2.trans (hw3.mono (by omega))
      have hB3 : B ≤ w3.heap.size:=by have:=hw3.size;omega
      have hs23:=hw3.size
      repeat first|(with_reducible first|apply Yd|apply Ya|apply Yc|apply Yb)|((with_reducible apply ws);exact rfl;exact rfl)
      by_cases hlt : i < f.sub.length
      ·refine Yp rfl (by simpa using hlt) ?_
       obtain ⟨b,off,c',cs,hv,_,hcs,hlen,hr⟩:=(hsub.below (hw03.mono hB) (Nat.le_refl _)).get (sz:=8) (i:=i) (by intro d hd;obtain ⟨x,_,rfl⟩:=List.mem_map.1 hd;exact Uo x) (by simpa using hlt)
       simp only [Value.slice.injEq,List.length_map] at hv
       obtain ⟨rfl,_,rfl⟩:=hv
       simp only [List.getElem_map] at hr
       obtain ⟨hone,_⟩:=Yb0 hr
       repeat first|(with_reducible first|apply Yd|apply Ya|apply Yb|apply Yr|apply Yh)|((with_reducible apply ws);exact rfl;exact rfl)
       refine Ys rfl rfl es_flds rfl hlt ?_
       refine Xv rfl (by rw [hlen];exact ta_fld) rfl (fun j v e => hcs.cell e) ?_
       refine YJ Yj0 rfl rfl (fun w4 hbx4 hg4 hs4 => ?_)
       repeat ((with_reducible apply ws);exact rfl;exact rfl)
       refine Yn rfl rfl rfl (by rw [hlen];exact tz_fld) hone hbx4 (by rw [hlen];rfl) (fun w5 hbx5 hg5 hs5 => ?_)
       have hw35 : Below w3.heap.size w3 w5:=(Yg hg4 (Nat.le_refl _) (by simp)).trans (Yg hg5 (by omega) (by intro k hk;simp at hk;omega))
       have hw05 : Below w.heap.size w w5:=hw03.trans (hw35.mono (by omega))
       have hw25 : Below w2.heap.size w2 w5:=hw3.trans (hw35.mono (by omega))
       repeat (with_reducible first|apply Yd|apply Yc|apply Yb)
       refine XJ [(0,.agg cs.toArray),(1,.agg ([.int .i64 t.n,.slice sa t.s.length sc,.bool t.nul,.slice la t.l.length lc,uv] : List Value).toArray),(2,.int .i64 (i : Int))] [5,4,3]
        (fun vals w' => Below w5.heap.size w5 w' ∧ match vals with
         | [] => True
         | [v] => ∃ xs : List Value,v = .agg xs.toArray ∧ Rep (Lo B) w' (treeD (att t i)) xs
         | [v,_] => v = .bool (usual f.sub[i] (att t i))
         | v :: _ => v = .bool (!usual f.sub[i] (att t i)))
        mixed rfl rfl rfl rfl rfl (by show ([0,1,2] : List Nat).Nodup;decide) rfl rfl (by decide) rfl rfl rfl rfl ⟨(Below.refl _ w5).drew,trivial⟩ ?_ ⟨?_,?_,?_,trivial⟩ ?_
       ·intro p hp vals w' hC a k
        simp only [List.mem_cons,List.not_mem_nil,or_false] at hp
        rcases hp with rfl | rfl | rfl
        ·exact gv rfl rfl (YX k rfl (by rw [hlen];exact ta_fld) (hbx5.below hC.1 (by omega)))
        ·exact gv rfl rfl (YX k rfl (by rw [show ([.int .i64 t.n,.slice sa t.s.length sc,.bool t.nul,.slice la t.l.length lc,uv] : List Value).length = 5 from rfl];exact ta_tree) (by have:=hbt _ (hw25.trans (hC.1.mono (by omega)));rw [List.length_map] at this;exact this))
        ·exact gv rfl rfl (Yl k rfl)
       ·rintro vals w' hvl ⟨hb',hC⟩ a k
        match vals,hvl with
        | [v4,v3],_ =>
         simp only [] at hC
         subst hC
         exact ⟨_,rfl,Jk k rfl ⟨hb',rfl⟩⟩
       ·rintro vals w' hvl ⟨hb',hC⟩ a k
        match vals,hvl with
        | [v3],_ =>
         obtain ⟨xs,rfl,hxr⟩:=hC
         refine ⟨_,rfl,Yz k rfl (by kernel_rfl) ((hu f.sub[i] (List.getElem_mem hlt) (att t i) B w' _ _ (hok.at i) (by have:=hb'.size;omega) (Rep.below hr ((hw35.trans (hb'.mono (by omega))).mono hB3) (Nat.le_refl _)) hxr).mono ?_)⟩
         rintro e w'' ⟨v,rfl,hb'',rfl⟩
         exact ⟨_,rfl,hb'.trans (hb''.mono hb'.size),rfl⟩
       ·rintro vals w' hvl ⟨hb',hC⟩ a k
        match vals,hvl with
        | [],_ =>
         refine ⟨_,rfl,Yz k rfl (by kernel_rfl) ((fn_at t i B w' (by have:=hb'.size;omega) _ (by have:=Rep.below ht ((hw05.trans (hb'.mono (by omega))).mono hB) (Nat.le_refl _);rw [List.length_map] at this;exact this)).mono ?_)⟩
         rintro e w'' ⟨v,rfl,hb'',xs,rfl,hxr⟩
         exact ⟨_,rfl,hb'.trans (hb''.mono hb'.size),xs,rfl,hxr⟩
       ·rintro vals w' hvl ⟨hb',hC⟩
        match vals,hvl with
        | [v5,v4,v3],_ =>
         simp only [] at hC
         subst hC
         refine Yb ?_
         have hdr:=usuals_drop f.sub t hlt
         cases hus : usual f.sub[i] (att t i)
         ·refine Yp rfl rfl ?_
          repeat first|(with_reducible first|apply Yd|apply Ya|apply Yc|apply Yb|apply Ym|apply Yj|apply YL|apply VJ)|((with_reducible apply ws);exact rfl;exact rfl)
          refine Yk rfl rfl ⟨_,rfl,hw05.trans (hb'.mono (by omega)),?_⟩
          rw [hall,hdr,hus];simp
         ·refine Yu rfl rfl ?_
          repeat (with_reducible first|apply Ya|apply Yb|apply Yh|apply XS)
          refine Xn rfl rfl rfl (r:=((i + 1 : Nat) : Int)) (by rw [IntKind.wrap_i64];omega) ?_
          repeat first|(with_reducible apply Yc)|((with_reducible apply ws);exact rfl;exact rfl)
          refine YD (i + 1) ⟨rfl,rfl,rfl,rfl,rfl,trivial⟩ ⟨by omega,?_,hw25.trans (hb'.mono (by omega))⟩ (by omega)
          rw [hall,hdr,hus];simp
      ·refine Yu rfl (by simpa using hlt) ?_
       repeat first|(with_reducible first|apply Yd|apply Ya|apply Yb|apply Xk|apply Yw|apply YB|apply Yq)|((with_reducible apply ws);exact rfl;exact rfl)
       refine Yf rfl to_flds rfl (hbf _ hw3) rfl ?_
       repeat ((with_reducible apply ws);exact rfl;exact rfl)
       refine Yf rfl to_tags rfl (hbt _ hw3) rfl ?_
       refine Yo rfl (by kernel_rfl) rfl ((Ys7 _ _ f.sub t.u B w3 hB3 (hsub.below (hw03.mono hB) (Nat.le_refl _)) (huu.below (hw03.mono hB) (Nat.le_refl _)) (JB.tag hsubOK) (by omega)).mono ?_)
       rintro e w4 ⟨v,rfl,hw4,hsq⟩
       refine ⟨_,rfl,?_⟩
       obtain ⟨va,vc,rfl,_⟩:=hsq.shape
       rw [List.length_map]
       repeat first|(with_reducible first|apply Yc|apply Yb|apply Ym|apply Yj|apply YL)|((with_reducible apply ws);exact rfl;exact rfl)
       refine Yk rfl rfl ⟨_,rfl,hw03.trans (hw4.mono hw03.size),?_⟩
       show Value.bool _ = Value.bool _
       congr 1
       rw [hall,List.drop_of_length_le (by omega)]
       simp only [usuals,Bool.true_and]
       cases Xm f.sub t.u <;> simp
       omega
     ·refine Yu rfl (by simpa using h10) ?_
      rw [if_neg h10]
      repeat (with_reducible first|apply Yd|apply Yb|apply Yh|apply XS)
      refine XJ [(0,.pointer (some ⟨w1.heap.size,0 + 0,none⟩)),(1,.int .i64 t.n),(2,.pointer (some ⟨w.heap.size,0 + 0,none⟩)),(3,.int .i64 f.kind),(6,.pointer (some ⟨w.heap.size,0 + 5,none⟩)),(7,.int .i64 f.df),(8,.pointer (some ⟨w.heap.size,0 + 0,none⟩)),(9,.int .i64 f.kind)] [13,12,11,10,5,4]
       (fun vals w' => Below w2.heap.size w2 w' ∧ match vals with
        | [] => True
        | [v4] => v4 = .int .i64 (width f.kind : Nat)
        | [v5,_] => Own w' w2.heap.size 5 v5 (be (width f.kind) t.n)
        | [v10,v5,_] => Own w' w2.heap.size 5 v5 (be (width f.kind) t.n) ∧ v10 = .int .i64 (width f.kind : Nat)
        | [v11,_,v5,_] => Own w' w2.heap.size 5 v5 (be (width f.kind) t.n) ∧ Own w' w2.heap.size 5 v11 (be (width f.kind) f.df)
        | v :: _ => v = .bool (be (width f.kind) t.n == be (width f.kind) f.df))
       mixed rfl rfl rfl rfl rfl (by show ([0,1,2,3,6,7,8,9] : List Nat).Nodup;decide) rfl rfl (by decide) rfl rfl rfl rfl ⟨(Below.refl _ w2).drew,trivial⟩ ?_ ⟨?_,?_,?_,?_,?_,?_,trivial⟩ ?_
      ·intro p hp vals w' hC a k
       simp only [List.mem_cons,List.not_mem_nil,or_false] at hp
       rcases hp with rfl | rfl | rfl | rfl | rfl | rfl | rfl | rfl
       ·exact gv rfl rfl (Yi k rfl fo_tree0)
       ·exact gv rfl rfl (Yy k rfl to_i64 ((hbt _ hC.1).cell0 (i:=0) rfl))
       ·exact gv rfl rfl (Yi k rfl fo_fld0)
       ·exact gv rfl rfl (Yy k rfl to_int ((hbf _ hC.1).cell0 (i:=0) rfl))
       ·exact gv rfl rfl (Yi k rfl fo_fld5)
       ·exact gv rfl rfl (Yy k rfl to_i64 ((hbf _ hC.1).cell0 (i:=5) rfl))
       ·exact gv rfl rfl (Yi k rfl fo_fld0)
       ·exact gv rfl rfl (Yy k rfl to_int ((hbf _ hC.1).cell0 (i:=0) rfl))
      ·rintro vals w' hvl ⟨hb',hC⟩ a k
       match vals,hvl with
       | [v12,v11,v10,v5,v4],_ => exact ⟨_,rfl,Xr k rfl ⟨hb',hC⟩⟩
      ·rintro vals w' hvl ⟨hb',hC⟩ a k
       match vals,hvl with
       | [v11,v10,v5,v4],_ =>
        obtain ⟨ho5,ho11⟩:=hC
        refine ⟨_,rfl,Yz k rfl (by kernel_rfl) ((Ym0 _ _ _ _ w' ho5.bytes ho11.bytes (by rw [be_length];exact Nat.le_trans (Yc7 _) (by decide)) (by rw [be_length];exact Nat.le_trans (Yc7 _) (by decide))).mono ?_)⟩
        rintro e w'' ⟨v,rfl,hb'',rfl⟩
        exact ⟨_,rfl,hb'.trans (hb''.mono hb'.size),rfl⟩
      ·rintro vals w' hvl ⟨hb',hC⟩ a k
       match vals,hvl with
       | [v10,v5,v4],_ =>
        obtain ⟨ho5,rfl⟩:=hC
        refine ⟨_,rfl,Yz k rfl (by kernel_rfl) ((UG f.df (width f.kind) (Yc7 _) w').mono ?_)⟩
        rintro e w'' ⟨v,rfl,hb'',ho⟩
        exact ⟨_,rfl,hb'.trans (hb''.mono hb'.size),ho5.below hb'',ho.mono hb'.size⟩
      ·rintro vals w' hvl ⟨hb',hC⟩ a k
       match vals,hvl with
       | [v5,v4],_ =>
        simp only [] at hC
        refine ⟨_,rfl,Yz k rfl (by kernel_rfl) ((fn_width f.kind w').mono ?_)⟩
        rintro e w'' ⟨v,rfl,hb'',rfl,rfl⟩
        exact ⟨_,rfl,hb',hC,rfl⟩
      ·rintro vals w' hvl ⟨hb',hC⟩ a k
       match vals,hvl with
       | [v4],_ =>
        simp only [] at hC
        subst hC
        refine ⟨_,rfl,Yz k rfl (by kernel_rfl) ((UG t.n (width f.kind) (Yc7 _) w').mono ?_)⟩
        rintro e w'' ⟨v,rfl,hb'',ho⟩
        exact ⟨_,rfl,hb'.trans (hb''.mono hb'.size),ho.mono hb'.size⟩
      ·rintro vals w' hvl ⟨hb',hC⟩ a k
       match vals,hvl with
       | [],_ =>
        refine ⟨_,rfl,Yz k rfl (by kernel_rfl) ((fn_width f.kind w').mono ?_)⟩
        rintro e w'' ⟨v,rfl,hb'',rfl,rfl⟩
        exact ⟨_,rfl,hb',rfl⟩
      ·rintro vals w' hvl ⟨hb',hC⟩
       match vals,hvl with
       | [v13,v12,v11,v10,v5,v4],_ =>
        simp only [] at hC
        subst hC
        refine Yb ?_
        repeat (with_reducible apply Ym)
        exact Yk rfl rfl ⟨_,rfl,hw2.trans (hb'.mono (by omega)),rfl⟩
end
end

section
open Go Go.RowKit
theorem wFs_drop (ver : Int) (flex : Bool) (fs : List Fld) (t : Tree) {i : Nat} (hi : i < fs.length) : wFs ver flex (fs.drop i) i t =
    (if fs[i].tag < 0 ∧ fs[i].has ver = true then XA ver flex fs[i] (att t i) else []) ++ wFs ver flex (fs.drop (i + 1)) (i + 1) t := by
  rw [List.drop_eq_getElem_cons hi]
  simp only [wFs]
theorem wTs_drop (ver : Int) (flex : Bool) (fs : List Fld) (k : Nat) (t : Tree) {i : Nat} (hi : i < fs.length) : wTs ver flex (fs.drop i) i k t =
    (if fs[i].tag = (k : Int) ∧ usual fs[i] (att t i) = false then [(k, XA ver flex fs[i] (att t i))] else []) ++ wTs ver flex (fs.drop (i + 1)) (i + 1) k t := by
  rw [List.drop_eq_getElem_cons hi]
  simp only [wTs]
def Yf1 (l : List (Nat × List UInt8)) : List UInt8 := l.flatMap fun kv => UF kv.1 kv.2
theorem XG (a b : List (Nat × List UInt8)) : Yf1 (a ++ b) = Yf1 a ++ Yf1 b := by simp [Yf1]
theorem Yi4 (k : Nat) (b : List UInt8) : Yf1 [(k, b)] = UF k b := by simp [Yf1]
theorem tagB_len (l : List (Nat × List UInt8)) : l.length ≤ (Yf1 l).length := by
  induction l with
  | nil => simp
  | cons a l ih =>
    have : Yf1 (a :: l) = UF a.1 a.2 ++ Yf1 l := by simp [Yf1]
    rw [this]
    have := uvar_pos a.1
    simp only [List.length_cons, List.length_append, UF]; omega
theorem wTag_len (k : Nat) (b : List UInt8) : b.length ≤ (UF k b).length := by simp [UF]; omega
def below (ver : Int) (flex : Bool) (fs : List Fld) (t : Tree) (m : Nat) : List (Nat × List UInt8) := (List.range m).flatMap fun k => wTs ver flex fs 0 k t
theorem Yg5 (ver : Int) (flex : Bool) (fs : List Fld) (t : Tree) (m : Nat) : below ver flex fs t (m + 1) = below ver flex fs t m ++ wTs ver flex fs 0 m t := by
  simp [below, List.range_succ]
theorem below_le (ver : Int) (flex : Bool) (fs : List Fld) (t : Tree) {m n : Nat} (h : m ≤ n) : (Yf1 (below ver flex fs t m)).length ≤ (Yf1 (below ver flex fs t n)).length := by
  induction n with
  | zero => have : m = 0 := by omega
            subst this; exact Nat.le_refl _
  | succ n ih =>
    by_cases h1 : m = n + 1
    · subst h1; exact Nat.le_refl _
    · have := ih (by omega)
      rw [Yg5, XG, List.length_append]; omega
theorem JZ (ver : Int) (flex : Bool) (fs : List Fld) (t : Tree) : YS ver flex fs t = below ver flex fs t (YN fs) ++ Xj fs t.u := rfl
theorem wPart_false (ver : Int) (fs : List Fld) (t : Tree) : Xc ver false fs t = wFs ver false fs 0 t := rfl
theorem Yg3 (ver : Int) (fs : List Fld) (t : Tree) : Xc ver true fs t = wFs ver true fs 0 t ++ (uvar (YS ver true fs t).length ++ Yf1 (YS ver true fs t)) := rfl
theorem putTag_mem (k : Nat) (v : List UInt8) (l : List (Nat × List UInt8)) : ∀ x ∈ Xg k v l, x = (k, v) ∨ x ∈ l := by
  induction l with
  | nil => intro x hx; simp [Xg] at hx; exact .inl hx
  | cons a l ih =>
    intro x hx
    simp only [Xg] at hx
    split at hx
    · rcases List.mem_cons.1 hx with rfl | h
      · exact .inr (by simp)
      · rcases ih x h with h | h
        · exact .inl h
        · exact .inr (by simp [h])
    · split at hx
      · exact .inr hx
      · rcases List.mem_cons.1 hx with rfl | h
        · exact .inl rfl
        · exact .inr h
theorem unknown_mem (fs : List Fld) (u : List (Nat × List UInt8)) : ∀ x ∈ Xm fs u, x ∈ u := by
  have : ∀ (l out : List (Nat × List UInt8)), ∀ x ∈ l.foldl (step (YN fs)) out, x ∈ out ∨ x ∈ l := by
    intro l
    induction l with
    | nil => intro out x hx; exact .inl hx
    | cons a l ih =>
      intro out x hx
      rcases ih _ x hx with h | h
      · unfold step at h
        split at h
        · exact .inl h
        · rcases putTag_mem _ _ _ x h with rfl | h
          · exact .inr (by simp)
          · exact .inl h
      · exact .inr (by simp [h])
  intro x hx
  rcases this (u.take Vf) [] x hx with h | h
  · cases h
  · exact List.mem_of_mem_take h
theorem unknown_len (fs : List Fld) (u : List (Nat × List UInt8)) : (Xm fs u).length ≤ 32767 := by
  have := VB (YN fs) (u.take Vf) []
  simp only [List.length_nil, List.length_take, Nat.zero_add] at this
  exact Nat.le_trans this (Nat.min_le_left _ _)
theorem apart_of {v d : Value} {n : Nat} (hv : ∀ g, v.ownBlock = some g → n ≤ g) (hd : ∀ g, d.ownBlock = some g → g < n) : v.ownBlock = none ∨ v.ownBlock ≠ d.ownBlock := by
  cases h : v.ownBlock with
  | none => exact .inl rfl
  | some g => exact .inr (fun e => by have h1 := hv g h; have h2 := hd g e.symm; omega)
theorem Own.apart {w w' : World} {B u8 : Nat} {v d d' : Value} {ys : List UInt8} (hv : Own w B u8 v ys) (hd : v.ownBlock = none ∨ v.ownBlock ≠ d.ownBlock) (hg : Grew w w' d d') : Own w' B u8 v ys ∧ (v.ownBlock = none ∨ v.ownBlock ≠ d'.ownBlock) := by
  refine ⟨hv.kept hg.grown hd, ?_⟩
  rcases hd with h | h
  · exact .inl h
  · rcases hg.fresh with hf | hf
    · exact .inr (by rw [hf]; exact h)
    · cases hvb : v.ownBlock with
      | none => exact .inl rfl
      | some g => exact .inr (fun e => by have h1 := hf g e.symm; have h2 := hv.lt g hvb; omega)
theorem Yk0 {P : Program} {N : Nat} {L : Sl} {a : Act} {w : World} {d : Option Nat} {ty : TypeId} {pos : String} {aft : Array Edge} {g : Option (Nat × Bool)} {c x y : Operand} {b : Bool} {v : Value} {R : Value → World → Prop} (k : Kn N a L) (hc : ev L c = some (.bool b)) (hv : ev L (bif b then x else y) = some v) (h : R v w) : Jj P ⟨d, .pick c x y, ty, pos, aft, g⟩ a w R := Vo (Uc k hc hv) h
theorem Below.between {n : Nat} {a b c : World} (h : Below n a b) (k : Below n a c) (hs : b.heap.size ≤ c.heap.size) : Below n b c :=
  ⟨k.os.trans h.os.symm, k.tape.trans h.tape.symm, k.output.trans h.output.symm, hs, fun i hi => (k.block i hi).trans (h.block i hi).symm⟩
structure PtS where
  i : Nat
  d : Value
  xs : List UInt8
structure PtT where
  k : Nat
  d : Value
  l : List (Nat × List UInt8)
section
set_option maxRecDepth 100000
theorem part_of (fs : List Fld) (hfs : JB fs = true) (hF : ∀ f ∈ fs, FieldOK f) (hU : ∀ f ∈ fs, Yn8 f) : PartOK fs := by
  intro flex ver t B w fv ts hok hB hf ht hlim
  obtain ⟨sv2, lv, uv, rfl, hs, hl, hu⟩ := Xi ht
  obtain ⟨fa, fc, rfl, _⟩ := hf.shape
  have hn := JB.len hfs
  rw [List.length_map] at *
  have hFs : (wFs ver flex fs 0 t).length ≤ lim := by
    cases flex
    · exact hlim
    · rw [Yg3, List.length_append] at hlim; omega
  refine enter Tryz.func49 rfl Tryz.ntmps49 rfl ?_
  repeat (with_reducible first|apply Yd|apply Ya)
  refine XF rfl rfl rfl (fun w1 hb1 hg1 hs1 => ?_)
  have hw1 : Below w.heap.size w w1 := Yg hg1 (Nat.le_refl _) (by simp)
  refine YV rfl rfl (Yc (Yb ?_))
  refine Yd (Ya ?_)
  repeat ((with_reducible apply ws);exact rfl;exact rfl)
  refine Yc (Yb (Yd (Ya ?_)))
  repeat ((with_reducible apply ws);exact rfl;exact rfl)
  refine Yc (Yb ?_)
  refine UJ (α := PtS) (fun s => [(9, s.d), (10, .slice none 0 0), (11, .int .i64 0), (7, .pointer (some ⟨w.heap.size, 0, none⟩)), (2, .bool flex), (1, .int .i64 ver), (0, .slice fa fs.length fc)])
    (fun s w' => Below w1.heap.size w1 w' ∧ Own w' w1.heap.size 5 s.d (wFs ver flex fs 0 t)) ?_ ?_
  · repeat first|(with_reducible first|apply Yd|apply Ya|apply Yc|apply Yb|apply Yr)|((with_reducible apply ws);exact rfl;exact rfl)
    refine Xu (α := PtS) (fun s => [(23, .int .i64 (s.i : Int)), (22, .int .i64 (fs.length : Int)), (21, .slice fa fs.length fc), (9, s.d), (10, .slice none 0 0), (11, .int .i64 0), (7, .pointer (some ⟨w.heap.size, 0, none⟩)), (2, .bool flex), (1, .int .i64 ver), (0, .slice fa fs.length fc)])
      (fun s w' => s.i ≤ fs.length ∧ Below w1.heap.size w1 w' ∧ Own w' w1.heap.size 5 s.d s.xs ∧ s.xs ++ wFs ver flex (fs.drop s.i) s.i t = wFs ver flex fs 0 t) (fun s => fs.length - s.i) ⟨0, .slice none 0 0, []⟩ ⟨rfl, rfl, rfl, rfl, rfl, rfl, rfl, rfl, rfl, rfl, trivial⟩ ⟨Nat.zero_le _, Below.refl _ _, Own.nil _ _ _, rfl⟩ ?_
    rintro ⟨i, d, xs⟩ w2 ⟨hi, hw2, ho2, hx⟩
    simp only [] at hi ho2 hx
    change WC _ _ _ _ [(23, .int .i64 (i : Int)), (22, .int .i64 (fs.length : Int)), (21, .slice fa fs.length fc), (9, d), (10, .slice none 0 0), (11, .int .i64 0), (7, .pointer (some ⟨w.heap.size, 0, none⟩)), (2, .bool flex), (1, .int .i64 ver), (0, .slice fa fs.length fc)] _
    have hw02 : Below w.heap.size w w2 := hw1.trans (hw2.mono (by omega))
    repeat first|(with_reducible first|apply Yd|apply Ya|apply Yc|apply Yb)|((with_reducible apply ws);exact rfl;exact rfl)
    by_cases hlt : i < fs.length
    · refine Yp rfl (by simpa using hlt) ?_
      obtain ⟨b, off, c', cs, hv, _, hcs, hlen, hr⟩ := (hf.below (hw02.mono hB) (Nat.le_refl _)).get (sz := 8) (i := i) (by intro d hd; obtain ⟨x, _, rfl⟩ := List.mem_map.1 hd; exact Uo x) (by simpa using hlt)
      simp only [Value.slice.injEq, List.length_map] at hv
      obtain ⟨rfl, _, rfl⟩ := hv
      simp only [List.getElem_map] at hr
      obtain ⟨hone, _⟩ := Yb0 hr
      obtain ⟨sv, hce, _⟩ := Vs hr
      subst hce
      have hdr := wFs_drop ver flex fs t hlt
      repeat first|(with_reducible first|apply Yd|apply Ya|apply Yb|apply Yr|apply Yh)|((with_reducible apply ws);exact rfl;exact rfl)
      refine Ys rfl rfl es_flds rfl hlt ?_
      refine Xv (cs := [.int .i64 fs[i].kind, .int .i64 fs[i].fr, .int .i64 fs[i].upto, .int .i64 fs[i].nul, .int .i64 fs[i].tag, .int .i64 fs[i].df, .int .i64 fs[i].of, sv]) rfl ta_fld rfl (fun j v e => hcs.cell e) ?_
      refine YJ Yj0 rfl rfl (fun w3 hb3 hg3 hs3 => ?_)
      repeat ((with_reducible apply ws);exact rfl;exact rfl)
      refine Yn (vs := [.int .i64 fs[i].kind, .int .i64 fs[i].fr, .int .i64 fs[i].upto, .int .i64 fs[i].nul, .int .i64 fs[i].tag, .int .i64 fs[i].df, .int .i64 fs[i].of, sv]) rfl rfl rfl tz_fld hone hb3 rfl (fun w4 hb4 hg4 hs4 => ?_)
      have hw24 : Below w2.heap.size w2 w4 := (Yg hg3 (Nat.le_refl _) (by simp)).trans (Yg hg4 (by omega) (by intro k hk; simp at hk; omega))
      have hs12 := hw2.size
      have hw14 : Below w1.heap.size w1 w4 := hw2.trans (hw24.mono hs12)
      have hw04 : Below w.heap.size w w4 := hw02.trans (hw24.mono (by omega))
      have ho4 := ho2.below hw24
      have hB4 : B ≤ w4.heap.size := by omega
      repeat first|(with_reducible first|apply Yd|apply Ya|apply Yc|apply Yb)|((with_reducible apply ws);exact rfl;exact rfl)
      refine Yf rfl to_int rfl hb4 rfl ?_
      repeat ((with_reducible apply ws);exact rfl;exact rfl)
      by_cases htag : fs[i].tag < 0
      · have e1 : decide (fs[i].tag < 0) = true := by simpa using htag
        rw [e1]
        repeat ((with_reducible apply YU);exact rfl;exact rfl;exact rfl)
        refine YC (cs := [.int .i64 fs[i].kind, .int .i64 fs[i].fr, .int .i64 fs[i].upto, .int .i64 fs[i].nul, .int .i64 fs[i].tag, .int .i64 fs[i].df, .int .i64 fs[i].of, sv]) rfl ta_fld rfl hb4 ?_
        repeat first|((with_reducible apply ws);exact rfl;exact rfl)|((with_reducible apply YU);exact rfl;exact rfl;exact rfl)
        refine Yo rfl (by kernel_rfl) rfl ((fn_has fs[i] ver B w4 hB4 _ (Rep.below hr (hw24.mono (by omega)) (Nat.le_refl _))).mono ?_)
        rintro e w5 ⟨v, rfl, hw5, rfl⟩
        refine ⟨_, rfl, ?_⟩
        have hb5 := hb4.below hw5 hb4.lt
        have hs45 := hw5.size
        have hw15 := hw14.trans (hw5.mono (by omega))
        have hw05 := hw04.trans (hw5.mono (by omega))
        have ho5 := ho4.below hw5
        repeat first|(with_reducible first|apply Yc|apply Yb)|((with_reducible apply ws);exact rfl;exact rfl)
        cases hh : fs[i].has ver
        · refine Yu rfl rfl ?_
          repeat (with_reducible first|apply Ya|apply Yb|apply Yh|apply XS)
          refine Xn rfl rfl rfl (r := ((i + 1 : Nat) : Int)) (by rw [IntKind.wrap_i64]; omega) ?_
          repeat first|(with_reducible apply Yc)|((with_reducible apply ws);exact rfl;exact rfl)
          refine YD ⟨i + 1, d, xs⟩ ⟨rfl, rfl, rfl, rfl, rfl, rfl, rfl, rfl, rfl, rfl, trivial⟩ ⟨by simp only []; omega, hw15, ho5, ?_⟩ (by simp only []; omega)
          rw [hdr, if_neg (by rw [hh]; simp)] at hx
          exact hx
        · refine Yp rfl rfl ?_
          rw [hdr, if_pos ⟨htag, hh⟩] at hx
          have hxl := congrArg List.length hx
          simp only [List.length_append] at hxl
          skip
          have hw25 : Below w2.heap.size w2 w5 := hw24.trans (hw5.mono (by omega))
          refine XJ [(0, d), (1, .agg ([.int .i64 fs[i].kind, .int .i64 fs[i].fr, .int .i64 fs[i].upto, .int .i64 fs[i].nul, .int .i64 fs[i].tag, .int .i64 fs[i].df, .int .i64 fs[i].of, sv] : List Value).toArray), (2, .int .i64 ver), (3, .bool flex), (4, .agg ([.int .i64 t.n, sv2, .bool t.nul, lv, uv] : List Value).toArray), (5, .int .i64 (i : Int))] [9, 8, 7, 6]
            (fun vals w' => Below w1.heap.size w1 w' ∧ Box w' w2.heap.size [.int .i64 fs[i].kind, .int .i64 fs[i].fr, .int .i64 fs[i].upto, .int .i64 fs[i].nul, .int .i64 fs[i].tag, .int .i64 fs[i].df, .int .i64 fs[i].of, sv] 55 ∧ match vals with
              | [] => Below w5.heap.size w5 w'
              | [v] => Below w5.heap.size w5 w' ∧ ∃ xs' : List Value, v = .agg xs'.toArray ∧ Rep (Lo B) w' (treeD (att t i)) xs'
              | [v, _] => Below w5.heap.size w5 w' ∧ Own w' w5.heap.size 5 v (XA ver flex fs[i] (att t i))
              | v :: _ => Own w' w1.heap.size 5 v (xs ++ XA ver flex fs[i] (att t i)))
            mixed rfl rfl rfl rfl rfl (by show ([0,1,2,3,4,5] : List Nat).Nodup; decide) rfl rfl (by decide) rfl rfl rfl rfl ⟨hw15.drew, hb5, (Below.refl _ w5).drew⟩ ?_ ⟨?_, ?_, ?_, ?_, trivial⟩ ?_
          · intro p hp vals w' hC a k
            simp only [List.mem_cons, List.not_mem_nil, or_false] at hp
            rcases hp with rfl | rfl | rfl | rfl | rfl | rfl
            · exact gv rfl rfl (Yl k rfl)
            · exact gv rfl rfl (YX k rfl ta_fld hC.2.1)
            · exact gv rfl rfl (Yl k rfl)
            · exact gv rfl rfl (Yl k rfl)
            · exact gv rfl rfl (YX k rfl ta_tree (hb1.below hC.1 (by omega)))
            · exact gv rfl rfl (Yl k rfl)
          · rintro vals w' hvl ⟨hb', hbx', hC⟩ a k
            match vals, hvl with
            | [v8, v7, v6], _ => exact ⟨_, rfl, Xr k rfl ⟨hb', hbx', hC⟩⟩
          · rintro vals w' hvl ⟨hb', hbx', hC⟩ a k
            match vals, hvl with
            | [v7, v6], _ =>
              obtain ⟨hb5', ho7⟩ := hC
              have hod := ho5.below hb5'
              refine ⟨_, rfl, Ui k tb_bytes tb_bytes rfl rfl ho7.bytes hod (by have := hb'.size; omega) (by omega) (fun d' w'' ho'' hg'' => ⟨hb'.trans (hg''.below hb'.size hod.ge), hbx'.kept hg''.grown ?_, ho''⟩)⟩
              intro e
              have := ho2.lt _ e.symm
              omega
          · rintro vals w' hvl ⟨hb', hbx', hC⟩ a k
            match vals, hvl with
            | [v6], _ =>
              obtain ⟨hb5', xs', rfl, hxr⟩ := hC
              have hs5' := hb5'.size
              refine ⟨_, rfl, Yz k rfl (by kernel_rfl) ((hF fs[i] (List.getElem_mem hlt) flex ver (att t i) B w' _ _ (hok.at i) (by omega) (Rep.below hr ((hw25.trans (hb5'.mono (by omega))).mono (by omega)) (Nat.le_refl _)) hxr (by omega)).mono ?_)⟩
              rintro e w'' ⟨v, rfl, hb'', ho⟩
              exact ⟨_, rfl, hb'.trans (hb''.mono hb'.size), hbx'.below hb'' hbx'.lt, hb5'.trans (hb''.mono hs5'), ho.mono hs5'⟩
          · rintro vals w' hvl ⟨hb', hbx', hC⟩ a k
            match vals, hvl with
            | [], _ =>
              simp only [] at hC
              have hs5' := hC.size
              refine ⟨_, rfl, Yz k rfl (by kernel_rfl) ((fn_at t i B w' (by omega) _ (Rep.below ht ((hw05.trans (hC.mono (by omega))).mono hB) (Nat.le_refl _))).mono ?_)⟩
              rintro e w'' ⟨v, rfl, hb'', xs', rfl, hxr⟩
              exact ⟨_, rfl, hb'.trans (hb''.mono hb'.size), hbx'.below hb'' hbx'.lt, hC.trans (hb''.mono hs5'), xs', rfl, hxr⟩
          · rintro vals w' hvl ⟨hb', hbx', hC⟩
            match vals, hvl with
            | [v9, v8, v7, v6], _ =>
              refine Yb ?_
              repeat (with_reducible apply Ya)
              refine Xn rfl rfl rfl (r := ((i + 1 : Nat) : Int)) (by rw [IntKind.wrap_i64]; omega) ?_
              repeat first|(with_reducible apply Yc)|((with_reducible apply ws);exact rfl;exact rfl)
              refine YD ⟨i + 1, v9, xs ++ XA ver flex fs[i] (att t i)⟩ ⟨rfl, rfl, rfl, rfl, rfl, rfl, rfl, rfl, rfl, rfl, trivial⟩ ⟨by simp only []; omega, hb', hC, ?_⟩ (by simp only []; omega)
              rw [List.append_assoc]; exact hx
      · have e1 : decide (fs[i].tag < 0) = false := by simpa using htag
        rw [e1]
        repeat first|(with_reducible first|apply Yc|apply Yb)|((with_reducible apply ws);exact rfl;exact rfl)|((with_reducible apply US);exact rfl;exact rfl;exact rfl;exact rfl)
        refine Yu rfl rfl ?_
        repeat (with_reducible first|apply Ya|apply Yb|apply Yh|apply XS)
        refine Xn rfl rfl rfl (r := ((i + 1 : Nat) : Int)) (by rw [IntKind.wrap_i64]; omega) ?_
        repeat first|(with_reducible apply Yc)|((with_reducible apply ws);exact rfl;exact rfl)
        refine YD ⟨i + 1, d, xs⟩ ⟨rfl, rfl, rfl, rfl, rfl, rfl, rfl, rfl, rfl, rfl, trivial⟩ ⟨by simp only []; omega, hw14, ho4, ?_⟩ (by simp only []; omega)
        rw [hdr, if_neg (fun h => htag h.1)] at hx
        exact hx
    · refine Yu rfl (by simpa using hlt) ?_
      repeat (with_reducible first|apply Xk|apply Yw|apply YB|apply Yq)
      refine XB ⟨0, d, xs⟩ ⟨rfl, rfl, rfl, rfl, rfl, rfl, rfl, trivial⟩ ⟨hw2, ?_⟩
      rw [List.drop_of_length_le (by omega)] at hx
      simp only [wFs, List.append_nil] at hx
      rw [← hx]; exact ho2
  rintro ⟨_, out, _⟩ w2 ⟨hw2, ho2⟩
  simp only [] at ho2
  have hs12 := hw2.size
  have hw02 : Below w.heap.size w w2 := hw1.trans (hw2.mono (by omega))
  refine Yd (Yd (Ya ?_))
  repeat ((with_reducible apply ws);exact rfl;exact rfl)
  refine Yc (Yb ?_)
  cases flex
  · refine Yp rfl rfl ?_
    repeat first|(with_reducible first|apply Yd|apply Ya|apply Yc|apply Yb|apply Ym|apply Yj)|((with_reducible apply ws);exact rfl;exact rfl)
    exact Yk rfl rfl ⟨_, rfl, hw02, by rw [wPart_false]; exact ho2.mono (by omega)⟩
  refine Yu rfl rfl ?_
  refine Yh (Yb ?_)
  have hKn := known_le (JB.tag hfs)
  have hlimA := hlim
  rw [Yg3, JZ] at hlimA
  simp only [List.length_append, XG] at hlimA
  refine UJ (α := PtT) (fun s => [(10, s.d), (11, .int .i64 (s.l.length : Int)), (9, out), (7, .pointer (some ⟨w.heap.size, 0, none⟩)), (2, .bool true), (1, .int .i64 ver), (0, .slice fa fs.length fc)])
    (fun s w' => Below w2.heap.size w2 w' ∧ Own w' w2.heap.size 5 s.d (Yf1 s.l) ∧ s.l = below ver true fs t (YN fs)) ?_ ?_
  · repeat first|(with_reducible first|apply Yd|apply Ya)|((with_reducible apply ws);exact rfl;exact rfl)
    refine Yo rfl (by kernel_rfl) rfl ((fn_known _ fs B w2 (by omega) (hf.below (hw02.mono hB) (Nat.le_refl _)) (JB.tag hfs) (by omega)).mono ?_)
    rintro e w3 ⟨v, rfl, hw3, rfl⟩
    refine ⟨_, rfl, ?_⟩
    refine YY .i64 rfl ti_u32 ti_i64 rfl (r := (YN fs : Int)) (by rw [IntKind.wrap_i64]; omega) ?_
    repeat first|(with_reducible first|apply Yc|apply Yb|apply Yr)|((with_reducible apply ws);exact rfl;exact rfl)
    refine Xu (α := PtT) (fun s => [(52, .int .i64 (s.k : Int)), (51, .int .i64 (YN fs : Int)), (10, s.d), (11, .int .i64 (s.l.length : Int)), (9, out), (7, .pointer (some ⟨w.heap.size, 0, none⟩)), (2, .bool true), (1, .int .i64 ver), (0, .slice fa fs.length fc)])
      (fun s w' => s.k ≤ YN fs ∧ Below w2.heap.size w2 w' ∧ Own w' w2.heap.size 5 s.d (Yf1 s.l) ∧ s.l = below ver true fs t s.k) (fun s => YN fs - s.k) ⟨0, .slice none 0 0, []⟩ ⟨rfl, rfl, rfl, rfl, rfl, rfl, rfl, rfl, rfl, trivial⟩ ⟨Nat.zero_le _, hw3, Own.nil _ _ _, rfl⟩ ?_
    rintro ⟨k, d, l⟩ w4 ⟨hk, hw4, hd4, hl⟩
    simp only [] at hk hd4 hl
    change WC _ _ _ _ [(52, .int .i64 (k : Int)), (51, .int .i64 (YN fs : Int)), (10, d), (11, .int .i64 (l.length : Int)), (9, out), (7, .pointer (some ⟨w.heap.size, 0, none⟩)), (2, .bool true), (1, .int .i64 ver), (0, .slice fa fs.length fc)] _
    repeat first|(with_reducible first|apply Yd|apply Ya|apply Yc|apply Yb)|((with_reducible apply ws);exact rfl;exact rfl)
    by_cases hkl : k < YN fs
    · refine Yp rfl (by simpa using hkl) ?_
      repeat first|(with_reducible first|apply Yd|apply Ya|apply Yc|apply Yb|apply Yr|apply Yh)|((with_reducible apply ws);exact rfl;exact rfl)
      have hbl := below_le ver true fs t (m := k + 1) (n := YN fs) hkl
      rw [Yg5, XG, List.length_append] at hbl
      refine Xu (α := PtT) (fun s => [(57, .int .i64 (s.k : Int)), (56, .int .i64 (fs.length : Int)), (55, .slice fa fs.length fc), (14, .int .i64 (k : Int)), (52, .int .i64 (k : Int)), (51, .int .i64 (YN fs : Int)), (10, s.d), (11, .int .i64 (s.l.length : Int)), (9, out), (7, .pointer (some ⟨w.heap.size, 0, none⟩)), (2, .bool true), (1, .int .i64 ver), (0, .slice fa fs.length fc)])
        (fun s w' => s.k ≤ fs.length ∧ Below w2.heap.size w2 w' ∧ Own w' w2.heap.size 5 s.d (Yf1 s.l) ∧ s.l ++ wTs ver true (fs.drop s.k) s.k k t = below ver true fs t k ++ wTs ver true fs 0 k t) (fun s => fs.length - s.k) ⟨0, d, l⟩ ⟨rfl, rfl, rfl, rfl, rfl, rfl, rfl, rfl, rfl, rfl, rfl, rfl, rfl, trivial⟩ ⟨Nat.zero_le _, hw4, hd4, by rw [hl]; rfl⟩ ?_
      rintro ⟨i, d, l⟩ w5 ⟨hi, hw5, hd5, hl⟩
      simp only [] at hi hd5 hl
      change WC _ _ _ _ [(57, .int .i64 (i : Int)), (56, .int .i64 (fs.length : Int)), (55, .slice fa fs.length fc), (14, .int .i64 (k : Int)), (52, .int .i64 (k : Int)), (51, .int .i64 (YN fs : Int)), (10, d), (11, .int .i64 (l.length : Int)), (9, out), (7, .pointer (some ⟨w.heap.size, 0, none⟩)), (2, .bool true), (1, .int .i64 ver), (0, .slice fa fs.length fc)] _
      have hs25 := hw5.size
      have hw05 : Below w.heap.size w w5 := hw02.trans (hw5.mono (by omega))
      have hll := congrArg (fun x => (Yf1 x).length) hl
      simp only [XG, List.length_append] at hll
      have hln := tagB_len l
      simp only [lim] at hlimA
      repeat first|(with_reducible first|apply Yd|apply Ya|apply Yc|apply Yb)|((with_reducible apply ws);exact rfl;exact rfl)
      by_cases hlt : i < fs.length
      · refine Yp rfl (by simpa using hlt) ?_
        obtain ⟨b, off, c', cs, hv, _, hcs, hlen, hr⟩ := (hf.below (hw05.mono hB) (Nat.le_refl _)).get (sz := 8) (i := i) (by intro d hd; obtain ⟨x, _, rfl⟩ := List.mem_map.1 hd; exact Uo x) (by simpa using hlt)
        simp only [Value.slice.injEq, List.length_map] at hv
        obtain ⟨rfl, _, rfl⟩ := hv
        simp only [List.getElem_map] at hr
        obtain ⟨hone, _⟩ := Yb0 hr
        obtain ⟨sv, hce, _⟩ := Vs hr
        subst hce
        have hdr := wTs_drop ver true fs k t hlt
        repeat first|(with_reducible first|apply Yd|apply Ya|apply Yb|apply Yr|apply Yh)|((with_reducible apply ws);exact rfl;exact rfl)
        refine Ys rfl rfl es_flds rfl hlt ?_
        refine Xv (cs := [.int .i64 fs[i].kind, .int .i64 fs[i].fr, .int .i64 fs[i].upto, .int .i64 fs[i].nul, .int .i64 fs[i].tag, .int .i64 fs[i].df, .int .i64 fs[i].of, sv]) rfl ta_fld rfl (fun j v e => hcs.cell e) ?_
        refine YJ Yj0 rfl rfl (fun w6 hb6 hg6 hs6 => ?_)
        repeat ((with_reducible apply ws);exact rfl;exact rfl)
        refine Yn (vs := [.int .i64 fs[i].kind, .int .i64 fs[i].fr, .int .i64 fs[i].upto, .int .i64 fs[i].nul, .int .i64 fs[i].tag, .int .i64 fs[i].df, .int .i64 fs[i].of, sv]) rfl rfl rfl tz_fld hone hb6 rfl (fun w7 hb7 hg7 hs7 => ?_)
        have hw57 : Below w5.heap.size w5 w7 := (Yg hg6 (Nat.le_refl _) (by simp)).trans (Yg hg7 (by omega) (by intro k hk; simp at hk; omega))
        have hw27 : Below w2.heap.size w2 w7 := hw5.trans (hw57.mono hs25)
        have hw07 : Below w.heap.size w w7 := hw02.trans (hw27.mono (by omega))
        have hd7 := hd5.below hw57
        have hs57 := hw57.size
        have hB7 : B ≤ w7.heap.size := by omega
        have htc : ∀ w', Below w7.heap.size w7 w' → Box w' w.heap.size [.int .i64 t.n, sv2, .bool t.nul, lv, uv] 26 := fun w' h => hb1.below (hw2.trans ((hw27.trans (h.mono (by omega))).mono (by omega))) (by omega)
        repeat (with_reducible first|apply Yd|apply Yc|apply Yb)
        have hrw : ∀ w', Below w7.heap.size w7 w' → Rep (Lo B) w' (fldD fs[i]) [.int .i64 fs[i].kind, .int .i64 fs[i].fr, .int .i64 fs[i].upto, .int .i64 fs[i].nul, .int .i64 fs[i].tag, .int .i64 fs[i].df, .int .i64 fs[i].of, sv] := fun w' h => Rep.below hr ((hw57.trans (h.mono hs57)).mono (by omega)) (Nat.le_refl _)
        have htw : ∀ w', Below w7.heap.size w7 w' → Rep (Lo B) w' (treeD t) [.int .i64 t.n, sv2, .bool t.nul, lv, uv] := fun w' h => Rep.below ht ((hw07.trans (h.mono (by omega))).mono hB) (Nat.le_refl _)
        by_cases htk : fs[i].tag = (k : Int)
        · have e1 : (fs[i].tag == (k : Int)) = true := by simpa using htk
          refine XJ [(0, .pointer (some ⟨w5.heap.size, 0 + 4, none⟩)), (1, .int .i64 fs[i].tag), (2, .int .i64 (k : Int)), (3, .bool true), (4, .bool true), (5, .agg ([.int .i64 fs[i].kind, .int .i64 fs[i].fr, .int .i64 fs[i].upto, .int .i64 fs[i].nul, .int .i64 fs[i].tag, .int .i64 fs[i].df, .int .i64 fs[i].of, sv] : List Value).toArray), (6, .agg ([.int .i64 t.n, sv2, .bool t.nul, lv, uv] : List Value).toArray), (7, .int .i64 (i : Int))] [11, 10, 9, 8]
            (fun vals w' => Below w7.heap.size w7 w' ∧ match vals with
              | [] => True
              | [v] => ∃ xs' : List Value, v = .agg xs'.toArray ∧ Rep (Lo B) w' (treeD (att t i)) xs'
              | [v, _] => v = .bool (usual fs[i] (att t i))
              | v :: _ => v = .bool (!usual fs[i] (att t i)))
            mixed rfl rfl rfl rfl rfl (by show ([0,1,2,3,4,5,6,7] : List Nat).Nodup; decide) rfl rfl (by decide) rfl rfl rfl rfl ⟨(Below.refl _ w7).drew, trivial⟩ ?_ ⟨?_, ?_, ?_, ?_, trivial⟩ ?_
          · intro p hp vals w' hC a k
            simp only [List.mem_cons, List.not_mem_nil, or_false] at hp
            rcases hp with rfl | rfl | rfl | rfl | rfl | rfl | rfl | rfl
            · exact gv rfl rfl (Yi k rfl fo_fld4)
            · exact gv rfl rfl (Yy k rfl to_int ((hb7.below hC.1 hb7.lt).cell0 (i := 4) rfl))
            · exact gv rfl rfl (Yl k rfl)
            · refine gv rfl rfl ?_
              rw [← e1]
              exact rn_eql k rfl rfl
            · exact gv rfl rfl (Yl k rfl)
            · exact YO rfl rfl rfl k rfl rfl (YX k rfl ta_fld (hb7.below hC.1 hb7.lt))
            · exact YO rfl rfl rfl k rfl rfl (YX k rfl ta_tree (htc _ hC.1))
            · exact YO rfl rfl rfl k rfl rfl (Yl k rfl)
          · rintro vals w' hvl ⟨hb', hC⟩ a k
            match vals, hvl with
            | [v10, v9, v8], _ =>
              simp only [] at hC
              subst hC
              exact ⟨_, rfl, Yk0 k rfl rfl ⟨hb', rfl⟩⟩
          · rintro vals w' hvl ⟨hb', hC⟩ a k
            match vals, hvl with
            | [v9, v8], _ =>
              simp only [] at hC
              subst hC
              exact ⟨_, rfl, Jk k rfl ⟨hb', rfl⟩⟩
          · rintro vals w' hvl ⟨hb', hC⟩ a k
            match vals, hvl with
            | [v8], _ =>
              obtain ⟨xs', rfl, hxr⟩ := hC
              refine ⟨_, rfl, Yz k rfl (by kernel_rfl) ((hU fs[i] (List.getElem_mem hlt) (att t i) B w' _ _ (hok.at i) (by have := hb'.size; omega) (hrw _ hb') hxr).mono ?_)⟩
              rintro e w'' ⟨v, rfl, hb'', rfl⟩
              exact ⟨_, rfl, hb'.trans (hb''.mono hb'.size), rfl⟩
          · rintro vals w' hvl ⟨hb', hC⟩ a k
            match vals, hvl with
            | [], _ =>
              refine ⟨_, rfl, Yz k rfl (by kernel_rfl) ((fn_at t i B w' (by have := hb'.size; omega) _ (htw _ hb')).mono ?_)⟩
              rintro e w'' ⟨v, rfl, hb'', xs', rfl, hxr⟩
              exact ⟨_, rfl, hb'.trans (hb''.mono hb'.size), xs', rfl, hxr⟩
          · rintro vals w8 hvl ⟨hw78, hC⟩
            match vals, hvl with
            | [v11, v10, v9, v8], _ =>
              simp only [] at hC
              subst hC
              refine Yb ?_
              have hs78 := hw78.size
              have hd8 := hd7.below hw78
              have hw28 := hw27.trans (hw78.mono (by omega))
              cases hus : usual fs[i] (att t i)
              · refine Yp rfl rfl ?_
                rw [if_pos ⟨htk, hus⟩] at hdr
                rw [hdr] at hl hll
                simp only [XG, Yi4, List.length_append] at hll
                have hwl := wTag_len k (XA ver true fs[i] (att t i))
                refine Yd ?_
                refine XJ [(0, .agg ([.int .i64 fs[i].kind, .int .i64 fs[i].fr, .int .i64 fs[i].upto, .int .i64 fs[i].nul, .int .i64 fs[i].tag, .int .i64 fs[i].df, .int .i64 fs[i].of, sv] : List Value).toArray), (1, .int .i64 ver), (2, .bool true), (3, .agg ([.int .i64 t.n, sv2, .bool t.nul, lv, uv] : List Value).toArray), (4, .int .i64 (i : Int))] [7, 6, 5]
                  (fun vals w' => Below w8.heap.size w8 w' ∧ match vals with
                    | [] => True
                    | [v] => ∃ xs' : List Value, v = .agg xs'.toArray ∧ Rep (Lo B) w' (treeD (att t i)) xs'
                    | v :: _ => Own w' w8.heap.size 5 v (XA ver true fs[i] (att t i)))
                  mixed rfl rfl rfl rfl rfl (by show ([0,1,2,3,4] : List Nat).Nodup; decide) rfl rfl (by decide) rfl rfl rfl rfl ⟨(Below.refl _ w8).drew, trivial⟩ ?_ ⟨?_, ?_, ?_, trivial⟩ ?_
                · intro p hp vals w' hC a k
                  have h7' := hw78.trans (hC.1.mono hs78)
                  simp only [List.mem_cons, List.not_mem_nil, or_false] at hp
                  rcases hp with rfl | rfl | rfl | rfl | rfl
                  · exact gv rfl rfl (YX k rfl ta_fld (hb7.below h7' hb7.lt))
                  · exact gv rfl rfl (Yl k rfl)
                  · exact gv rfl rfl (Yl k rfl)
                  · exact gv rfl rfl (YX k rfl ta_tree (htc _ h7'))
                  · exact gv rfl rfl (Yl k rfl)
                · rintro vals w' hvl ⟨hb', hC⟩ a k
                  match vals, hvl with
                  | [v6, v5], _ => exact ⟨_, rfl, Xr k rfl ⟨hb', hC⟩⟩
                · rintro vals w' hvl ⟨hb', hC⟩ a k
                  match vals, hvl with
                  | [v5], _ =>
                    obtain ⟨xs', rfl, hxr⟩ := hC
                    have h7' := hw78.trans (hb'.mono hs78)
                    refine ⟨_, rfl, Yz k rfl (by kernel_rfl) ((hF fs[i] (List.getElem_mem hlt) true ver (att t i) B w' _ _ (hok.at i) (by have := hb'.size; omega) (hrw _ h7') hxr (by simp only [lim]; omega)).mono ?_)⟩
                    rintro e w'' ⟨v, rfl, hb'', ho⟩
                    exact ⟨_, rfl, hb'.trans (hb''.mono hb'.size), ho.mono hb'.size⟩
                · rintro vals w' hvl ⟨hb', hC⟩ a k
                  match vals, hvl with
                  | [], _ =>
                    refine ⟨_, rfl, Yz k rfl (by kernel_rfl) ((fn_at t i B w' (by have := hb'.size; omega) _ (htw _ (hw78.trans (hb'.mono hs78)))).mono ?_)⟩
                    rintro e w'' ⟨v, rfl, hb'', xs', rfl, hxr⟩
                    exact ⟨_, rfl, hb'.trans (hb''.mono hb'.size), xs', rfl, hxr⟩
                rintro vals w9 hvl ⟨hw89, hC⟩
                match vals, hvl with
                | [v7, v6, v5], _ =>
                  refine Yb ?_
                  simp only [] at hC
                  have hs89 := hw89.size
                  have hd9 := hd8.below hw89
                  have hw29 := hw28.trans (hw89.mono (by omega))
                  have hap := apart_of hC.ge hd8.lt
                  obtain ⟨va, vc, rfl⟩ := hC.shape
                  repeat first|(with_reducible first|apply Yd|apply Ya)|((with_reducible apply ws);exact rfl;exact rfl)
                  refine YY .u64 rfl ti_i64 ti_u64 rfl (r := (k : Int)) (by rw [IntKind.wrap_u64]; omega) ?_
                  refine Yo rfl (by kernel_rfl) rfl ((fn_uvarint k (by omega) w9).mono ?_)
                  rintro e w10 ⟨u1, rfl, hw10, hu1⟩
                  refine ⟨u1, rfl, ?_⟩
                  have hs10 := hw10.size
                  have hd10 := hd9.below hw10
                  have hv10 := Own.below hC hw10
                  refine Vl tb_bytes tb_bytes rfl rfl rfl hu1.bytes hd10 (by omega) (by simp only [lim]; simp only [UF, List.length_append] at hll; omega) (fun d1 w11 hd11 hg11 => ?_)
                  obtain ⟨hv11, hap11⟩ := hv10.apart hap hg11
                  have hs11 := hg11.grown.size
                  repeat ((with_reducible apply ws);exact rfl;exact rfl)
                  refine YY .u64 rfl ti_i64 ti_u64 rfl (r := ((XA ver true fs[i] (att t i)).length : Int)) (by rw [IntKind.wrap_u64]; simp only [UF, List.length_append] at hll; omega) ?_
                  refine Yo rfl (by kernel_rfl) rfl ((fn_uvarint (XA ver true fs[i] (att t i)).length (by simp only [UF, List.length_append] at hll; omega) w11).mono ?_)
                  rintro e w12 ⟨u2, rfl, hw12, hu2⟩
                  refine ⟨u2, rfl, ?_⟩
                  have hs12' := hw12.size
                  have hd12 := hd11.below hw12
                  have hv12 := hv11.below hw12
                  refine Vl tb_bytes tb_bytes rfl rfl rfl hu2.bytes hd12 (by omega) (by simp only [lim, List.length_append]; simp only [UF, List.length_append] at hll; omega) (fun d2 w13 hd13 hg13 => ?_)
                  obtain ⟨hv13, hap13⟩ := hv12.apart hap11 hg13
                  have hs13 := hg13.grown.size
                  repeat ((with_reducible apply ws);exact rfl;exact rfl)
                  refine Vl tb_bytes tb_bytes rfl rfl rfl hv13.bytes hd13 (by omega) (by simp only [lim, List.length_append]; simp only [UF, List.length_append] at hll; omega) (fun d3 w14 hd14 hg14 => ?_)
                  have hw2e : Below w2.heap.size w2 w14 :=
                    (((((hw29.trans (hw10.mono (by omega))).trans (hg11.below (by omega) hd10.ge)).trans (hw12.mono (by omega))).trans (hg13.below (by omega) hd12.ge)).trans (hg14.below (by omega) hd13.ge))
                  repeat first|(with_reducible first|apply Ya|apply Yc|apply Yb)|((with_reducible apply ws);exact rfl;exact rfl)
                  refine Xn rfl rfl rfl (r := ((l ++ [(k, XA ver true fs[i] (att t i))]).length : Int)) (by rw [IntKind.wrap_i64]; simp only [List.length_append, List.length_cons, List.length_nil]; omega) ?_
                  repeat first|(with_reducible first|apply Ya|apply Yc|apply Yb|apply XS)|((with_reducible apply ws);exact rfl;exact rfl)
                  refine Xn rfl rfl rfl (r := ((i + 1 : Nat) : Int)) (by rw [IntKind.wrap_i64]; omega) ?_
                  repeat first|(with_reducible apply Yc)|((with_reducible apply ws);exact rfl;exact rfl)
                  refine YD ⟨i + 1, d3, l ++ [(k, XA ver true fs[i] (att t i))]⟩ ⟨rfl, rfl, rfl, rfl, rfl, rfl, rfl, rfl, rfl, rfl, rfl, rfl, rfl, trivial⟩ ⟨by simp only []; omega, hw2e, ?_, ?_⟩ (by simp only []; omega)
                  · simp only [XG, Yi4, UF]
                    simpa only [List.append_assoc] using hd14
                  · simp only []
                    rw [List.append_assoc]; exact hl
              · refine Yu rfl rfl ?_
                rw [if_neg (by rw [hus]; simp)] at hdr
                rw [hdr] at hl
                repeat (with_reducible first|apply Ya|apply Yb|apply Yh|apply XS)
                refine Xn rfl rfl rfl (r := ((i + 1 : Nat) : Int)) (by rw [IntKind.wrap_i64]; omega) ?_
                repeat first|(with_reducible apply Yc)|((with_reducible apply ws);exact rfl;exact rfl)
                exact YD ⟨i + 1, d, l⟩ ⟨rfl, rfl, rfl, rfl, rfl, rfl, rfl, rfl, rfl, rfl, rfl, rfl, rfl, trivial⟩ ⟨by simp only []; omega, hw28, hd8, hl⟩ (by simp only []; omega)
        · have e1 : (fs[i].tag == (k : Int)) = false := by simpa using htk
          refine XJ [(0, .pointer (some ⟨w5.heap.size, 0 + 4, none⟩)), (1, .int .i64 fs[i].tag), (2, .int .i64 (k : Int)), (3, .bool false), (4, .bool false), (5, undef), (6, undef), (7, undef), (8, undef), (9, undef), (10, undef), (11, .bool false)] []
            (fun vals w' => w' = w7.drew)
            mixed rfl rfl rfl rfl rfl (by show ([0,1,2,3,4,5,6,7,8,9,10,11] : List Nat).Nodup; decide) rfl rfl (by decide) rfl rfl rfl rfl rfl ?_ trivial ?_
          · intro p hp vals w' hC a k
            subst hC
            simp only [List.mem_cons, List.not_mem_nil, or_false] at hp
            rcases hp with rfl | rfl | rfl | rfl | rfl | rfl | rfl | rfl | rfl | rfl | rfl | rfl
            · exact gv rfl rfl (Yi k rfl fo_fld4)
            · exact gv rfl rfl (Yy k rfl to_int (hb7.cell0 (i := 4) rfl))
            · exact gv rfl rfl (Yl k rfl)
            · refine gv rfl rfl ?_
              rw [← e1]
              exact rn_eql k rfl rfl
            · exact gv rfl rfl (Yl k rfl)
            iterate 6 (exact gv_no rfl rfl rfl k rfl rfl)
            · exact gv rfl rfl (Uc k rfl rfl)
          · rintro vals w8 hvl rfl
            refine Yb ?_
            refine Yu rfl rfl ?_
            rw [if_neg (fun h => htk h.1)] at hdr
            rw [hdr] at hl
            repeat (with_reducible first|apply Ya|apply Yb|apply Yh|apply XS)
            refine Xn rfl rfl rfl (r := ((i + 1 : Nat) : Int)) (by rw [IntKind.wrap_i64]; omega) ?_
            repeat first|(with_reducible apply Yc)|((with_reducible apply ws);exact rfl;exact rfl)
            exact YD ⟨i + 1, d, l⟩ ⟨rfl, rfl, rfl, rfl, rfl, rfl, rfl, rfl, rfl, rfl, rfl, rfl, rfl, trivial⟩ ⟨by simp only []; omega, hw27.drew, hd7, hl⟩ (by simp only []; omega)
      · refine Yu rfl (by simpa using hlt) ?_
        repeat (with_reducible first|apply Ya|apply Yb|apply Xk|apply XS|apply Yw|apply YB|apply Yq)
        refine Xn rfl rfl rfl (r := ((k + 1 : Nat) : Int)) (by rw [IntKind.wrap_i64]; omega) ?_
        repeat first|(with_reducible apply Yc)|((with_reducible apply ws);exact rfl;exact rfl)
        refine YD ⟨k + 1, d, l⟩ ⟨rfl, rfl, rfl, rfl, rfl, rfl, rfl, rfl, rfl, trivial⟩ ⟨by simp only []; omega, hw5, hd5, ?_⟩ (by simp only []; omega)
        simp only []
        rw [Yg5, ← hl, List.drop_of_length_le (by omega)]
        simp [wTs]
    · refine Yu rfl (by simpa using hkl) ?_
      repeat (with_reducible first|apply Xk|apply Yw|apply YB|apply Yq)
      have hke : k = YN fs := by omega
      subst hke
      exact XB ⟨0, d, l⟩ ⟨rfl, rfl, rfl, rfl, rfl, rfl, rfl, trivial⟩ ⟨hw4, hd4, hl⟩
  rintro ⟨_, d, l⟩ w3 ⟨hw3, hd3, hl⟩
  simp only [] at hd3 hl
  have hs23 := hw3.size
  have hw03 : Below w.heap.size w w3 := hw02.trans (hw3.mono (by omega))
  have hbx3 : Box w3 w.heap.size [.int .i64 t.n, sv2, .bool t.nul, lv, uv] 26 := hb1.below (hw2.trans (hw3.mono (by omega))) (by omega)
  have hll := tagB_len (below ver true fs t (YN fs) ++ Xj fs t.u)
  rw [XG, List.length_append, List.length_append] at hll
  refine UJ (α := PtT) (fun s => [(10, s.d), (11, .int .i64 ((YS ver true fs t).length : Int)), (9, out)])
    (fun s w' => Below w2.heap.size w2 w' ∧ Own w' w2.heap.size 5 s.d (Yf1 (YS ver true fs t))) ?_ ?_
  · repeat first|(with_reducible first|apply Yd|apply Ya)|((with_reducible apply ws);exact rfl;exact rfl)
    refine Yf rfl to_tags rfl hbx3 rfl ?_
    refine Yo rfl (by kernel_rfl) rfl ((Yi9 _ _ fs t.u B w3 (by omega) (hf.below (hw03.mono hB) (Nat.le_refl _)) (hu.below (hw03.mono hB) (Nat.le_refl _)) (JB.tag hfs) (by omega)).mono ?_)
    rintro e w4 ⟨v, rfl, hw4, qs, hrow, hsay, hat⟩
    refine ⟨_, rfl, ?_⟩
    have hs34 := hw4.size
    have hd4 := hd3.below hw4
    have hqn : qs.length ≤ 32767 := by have := unknown_len fs t.u; rw [← hsay] at this; simpa using this
    have hoth : Xj fs t.u = qs.map fun q => (q.1.1, Xe q.1.2) := by simp only [Xj, ← hsay, List.map_map]; rfl
    have hkeys : ∀ q ∈ qs, q.1.1 < 4294967296 := by
      intro q hq
      have : q.1 ∈ Xm fs t.u := by rw [← hsay]; exact List.mem_map_of_mem hq
      exact hok.u _ (unknown_mem fs t.u _ this)
    obtain ⟨va, vc, rfl⟩ := Row.shape hrow
    have hvb := fun g hg => World.ownsRow.lt hrow g hg
    repeat first|(with_reducible first|apply Yc|apply Yb|apply Yr)|((with_reducible apply ws);exact rfl;exact rfl)
    refine Xu (α := PtT) (fun s => [(102, .int .i64 (s.k : Int)), (101, .int .i64 (qs.length : Int)), (100, .slice va qs.length vc), (10, s.d), (11, .int .i64 (s.l.length : Int)), (9, out), (7, .pointer (some ⟨w.heap.size, 0, none⟩))])
      (fun s w' => s.k ≤ qs.length ∧ Below w2.heap.size w2 w' ∧ w4.heap.size ≤ w'.heap.size ∧ Own w' w2.heap.size 5 s.d (Yf1 s.l) ∧ s.l = below ver true fs t (YN fs) ++ (qs.take s.k).map (fun q => (q.1.1, Xe q.1.2)) ∧ w'.ownsRow w3.heap.size 79 2 (.slice va qs.length vc) qs.length (Vd qs) ∧ (∀ g, s.d.ownBlock = some g → g < w3.heap.size ∨ w4.heap.size ≤ g)) (fun s => qs.length - s.k) ⟨0, d, l⟩ ⟨rfl, rfl, rfl, rfl, rfl, rfl, rfl, trivial⟩ ⟨Nat.zero_le _, hw3.trans (hw4.mono hs23), Nat.le_refl _, hd4, by rw [hl]; simp, hrow, fun g hg => .inl (hd3.lt g hg)⟩ ?_
    rintro ⟨i, d, l⟩ w5 ⟨hi, hw5, hs45, hd5, hl, hrow5, hdb⟩
    simp only [] at hi hd5 hl hdb
    change WC _ _ _ _ [(102, .int .i64 (i : Int)), (101, .int .i64 (qs.length : Int)), (100, .slice va qs.length vc), (10, d), (11, .int .i64 (l.length : Int)), (9, out), (7, .pointer (some ⟨w.heap.size, 0, none⟩))] _
    have hs25 := hw5.size
    have hll5 : (Yf1 (below ver true fs t (YN fs))).length + (Yf1 (Xj fs t.u)).length ≤ 140737488355328 := by simp only [lim] at hlimA; omega
    repeat first|(with_reducible first|apply Yd|apply Ya|apply Yc|apply Yb)|((with_reducible apply ws);exact rfl;exact rfl)
    by_cases hlt : i < qs.length
    · refine Yp rfl (by simpa using hlt) ?_
      obtain ⟨g, cap, hde, hg1, hg2', hca⟩ := Row.cells hrow5 (by omega)
      simp only [Value.slice.injEq, true_and] at hde
      obtain ⟨rfl, rfl⟩ := hde
      have hcj := Yd4 hca hlt
      have hsq := hat qs[i] (List.getElem_mem hlt)
      have hone : (([.int .u32 (qs[i].1.1 : Nat), qs[i].2] : List Value).all fun v => v.oneCell') = true := by
        obtain ⟨a3, c3, h3, _⟩ := hsq.shape
        rw [h3]; rfl
      have hle : (Yf1 l).length + (UF qs[i].1.1 (Xe qs[i].1.2)).length ≤ 140737488355328 := by
        have h1 : (Yf1 (Xj fs t.u)).length ≥ (Yf1 ((qs.take (i + 1)).map fun q => (q.1.1, Xe q.1.2))).length := by
          rw [hoth]
          have : qs.map (fun q => (q.1.1, Xe q.1.2)) = (qs.take (i + 1)).map (fun q => (q.1.1, Xe q.1.2)) ++ (qs.drop (i + 1)).map (fun q => (q.1.1, Xe q.1.2)) := by rw [← List.map_append, List.take_append_drop]
          rw [this, XG, List.length_append]; omega
        rw [List.take_succ_eq_append_getElem hlt, List.map_append, XG, List.length_append] at h1
        simp only [List.map_cons, List.map_nil, Yi4] at h1
        rw [hl, XG, List.length_append]
        omega
      have hln := tagB_len l
      repeat (with_reducible first|apply Yd|apply Ya|apply Yb|apply Yr|apply Yh)
      refine Ys rfl rfl es_tags rfl hlt ?_
      refine Xv (cs := [.int .u32 (qs[i].1.1 : Nat), qs[i].2]) rfl ta_tag rfl (fun j v e => hcj.cell e) ?_
      refine YJ zv_tag rfl rfl (fun w6 hb6 hg6 hs6 => ?_)
      refine Yn (vs := [.int .u32 (qs[i].1.1 : Nat), qs[i].2]) rfl rfl rfl tz_tag hone hb6 rfl (fun w7 hb7 hg7 hs7 => ?_)
      have hw57 : Below w5.heap.size w5 w7 := (Yg hg6 (Nat.le_refl _) (by simp)).trans (Yg hg7 (by omega) (by intro k hk; simp at hk; omega))
      have hw27 : Below w2.heap.size w2 w7 := hw5.trans (hw57.mono hs25)
      have hd7 := hd5.below hw57
      have hs57 := hw57.size
      have hrow7 := Row.kept hrow5 (JX hw57) (fun g _ => by simp)
      have hsq7 : Sq B w7 qs[i].2 (qs[i].1.2.map YF) := hsq.below ((Below.between hw3 hw27 (by omega)).mono (by omega)) (Nat.le_refl _)
      repeat first|(with_reducible first|apply Yd|apply Ya|apply Yc|apply Yb)|((with_reducible apply ws);exact rfl;exact rfl)
      refine Yf rfl to_bytes rfl hb7 rfl ?_
      refine Yo rfl (by kernel_rfl) rfl ((Yc6 _ _ _ _ hsq7).mono ?_)
      rintro e w8 ⟨vb, rfl, _, rfl, hsb⟩
      refine ⟨vb, rfl, ?_⟩
      rw [Yj6] at hsb
      have hby := hsb
      obtain ⟨ba, bc, rfl, _⟩ := hsb.shape
      rw [List.length_map] at *
      repeat first|(with_reducible first|apply Yd|apply Ya|apply Yc|apply Yb)|((with_reducible apply ws);exact rfl;exact rfl)
      refine Yf rfl to_u32 rfl hb7 rfl ?_
      have hk32 := hkeys qs[i] (List.getElem_mem hlt)
      refine YY .u64 rfl ti_u32 ti_u64 rfl (r := (qs[i].1.1 : Int)) (by rw [IntKind.wrap_u64]; omega) ?_
      refine Yo rfl (by kernel_rfl) rfl ((fn_uvarint qs[i].1.1 (by omega) w8).mono ?_)
      rintro e w9 ⟨u1, rfl, hw9, hu1⟩
      refine ⟨u1, rfl, ?_⟩
      have hs89 := hw9.size
      have hd9 := hd7.below hw9
      have hrow9 := Row.kept hrow7 (JX hw9) (fun g _ => by simp)
      have hBw : ∀ w', Below w2.heap.size w8 w' → Sq B w' (.slice ba (Xe qs[i].1.2).length bc) ((Xe qs[i].1.2).map YF) := fun w' h => hby.below (h.mono (by omega)) (Nat.le_refl _)
      have hwl : (Xe qs[i].1.2).length ≤ 32767 := by simp [Xe, Vf]; omega
      simp only [UF, List.length_append] at hle
      refine Vl tb_bytes tb_bytes rfl rfl rfl hu1.bytes hd9 (by omega) (by simp only [lim]; omega) (fun d1 w10 hd10 hg10 => ?_)
      have hs10 := hg10.grown.size
      have hb89 : Below w2.heap.size w8 w9 := hw9.mono (by omega)
      have hb810 := hb89.trans (hg10.below (by omega) hd9.ge)
      have hrow10 := Row.kept hrow9 hg10.grown (fun g hg e => by have h1 := hvb g hg; have h2 := hdb g e; omega)
      have hdb10 : ∀ g, d1.ownBlock = some g → g < w3.heap.size ∨ w4.heap.size ≤ g := by
        intro g hg
        rcases hg10.fresh with h | h
        · exact hdb g (by rw [← h]; exact hg)
        · have := h g hg; right; omega
      repeat ((with_reducible apply ws);exact rfl;exact rfl)
      refine YY .u64 rfl ti_i64 ti_u64 rfl (r := ((Xe qs[i].1.2).length : Int)) (by rw [IntKind.wrap_u64]; omega) ?_
      refine Yo rfl (by kernel_rfl) rfl ((fn_uvarint (Xe qs[i].1.2).length (by omega) w10).mono ?_)
      rintro e w11 ⟨u2, rfl, hw11, hu2⟩
      refine ⟨u2, rfl, ?_⟩
      have hs11 := hw11.size
      have hd11 := hd10.below hw11
      have hrow11 := Row.kept hrow10 (JX hw11) (fun g _ => by simp)
      have hb811 := hb810.trans (hw11.mono (by omega))
      refine Vl tb_bytes tb_bytes rfl rfl rfl hu2.bytes hd11 (by omega) (by simp only [lim, List.length_append]; omega) (fun d2 w12 hd12 hg12 => ?_)
      have hs12' := hg12.grown.size
      have hb812 := hb811.trans (hg12.below (by omega) hd11.ge)
      have hrow12 := Row.kept hrow11 hg12.grown (fun g hg e => by have h1 := hvb g hg; have h2 := hdb10 g e; omega)
      have hdb12 : ∀ g, d2.ownBlock = some g → g < w3.heap.size ∨ w4.heap.size ≤ g := by
        intro g hg
        rcases hg12.fresh with h | h
        · exact hdb10 g (by rw [← h]; exact hg)
        · have := h g hg; right; omega
      repeat ((with_reducible apply ws);exact rfl;exact rfl)
      refine Vl tb_bytes tb_bytes rfl rfl rfl (hBw _ hb812).bytes hd12 (by omega) (by simp only [lim, List.length_append]; omega) (fun d3 w13 hd13 hg13 => ?_)
      have hs13 := hg13.grown.size
      have hb813 := hb812.trans (hg13.below (by omega) hd12.ge)
      have hrow13 := Row.kept hrow12 hg13.grown (fun g hg e => by have h1 := hvb g hg; have h2 := hdb12 g e; omega)
      have hdb13 : ∀ g, d3.ownBlock = some g → g < w3.heap.size ∨ w4.heap.size ≤ g := by
        intro g hg
        rcases hg13.fresh with h | h
        · exact hdb12 g (by rw [← h]; exact hg)
        · have := h g hg; right; omega
      repeat first|(with_reducible first|apply Ya|apply Yc|apply Yb)|((with_reducible apply ws);exact rfl;exact rfl)
      refine Xn rfl rfl rfl (r := ((l ++ [(qs[i].1.1, Xe qs[i].1.2)]).length : Int)) (by rw [IntKind.wrap_i64]; simp only [List.length_append, List.length_cons, List.length_nil]; omega) ?_
      repeat first|(with_reducible first|apply Ya|apply Yc|apply Yb|apply XS)|((with_reducible apply ws);exact rfl;exact rfl)
      refine Xn rfl rfl rfl (r := ((i + 1 : Nat) : Int)) (by rw [IntKind.wrap_i64]; omega) ?_
      repeat first|(with_reducible apply Yc)|((with_reducible apply ws);exact rfl;exact rfl)
      refine YD ⟨i + 1, d3, l ++ [(qs[i].1.1, Xe qs[i].1.2)]⟩ ⟨rfl, rfl, rfl, rfl, rfl, rfl, rfl, trivial⟩ ⟨by simp only []; omega, hw27.trans hb813, by omega, ?_, ?_, hrow13, hdb13⟩ (by simp only []; omega)
      · simp only [XG, Yi4, UF]
        simpa only [List.append_assoc] using hd13
      · simp only []
        rw [hl, List.take_succ_eq_append_getElem hlt, List.map_append, List.append_assoc]; rfl
    · refine Yu rfl (by simpa using hlt) ?_
      repeat (with_reducible first|apply Xk|apply Yw|apply YB|apply Yq)
      have hla : l = YS ver true fs t := by
        rw [hl, List.take_of_length_le (by omega), JZ, hoth]
      subst hla
      exact XB ⟨0, d, []⟩ ⟨rfl, rfl, rfl, trivial⟩ ⟨hw5, hd5⟩
  rintro ⟨_, d, _⟩ w4 ⟨hw4, hd4⟩
  simp only [] at hd4
  have hs24 := hw4.size
  have ho4 := ho2.below hw4
  have hal : (YS ver true fs t).length = (below ver true fs t (YN fs)).length + (Xj fs t.u).length := by rw [JZ, List.length_append]
  have htl : (Yf1 (YS ver true fs t)).length = (Yf1 (below ver true fs t (YN fs))).length + (Yf1 (Xj fs t.u)).length := by rw [JZ, XG, List.length_append]
  rw [← hal] at hlimA
  have hap := apart_of hd4.ge ho2.lt
  repeat first|(with_reducible first|apply Yd|apply Ya)|((with_reducible apply ws);exact rfl;exact rfl)
  refine YY .u64 rfl ti_i64 ti_u64 rfl (r := ((YS ver true fs t).length : Int)) (by rw [IntKind.wrap_u64]; simp only [lim] at hlimA; omega) ?_
  refine Yo rfl (by kernel_rfl) rfl ((fn_uvarint (YS ver true fs t).length (by simp only [lim] at hlimA; omega) w4).mono ?_)
  rintro e w5 ⟨u1, rfl, hw5, hu1⟩
  refine ⟨u1, rfl, ?_⟩
  have hs5 := hw5.size
  have hd5 := hd4.below hw5
  have ho5 := ho4.below hw5
  refine Vl tb_bytes tb_bytes rfl rfl rfl hu1.bytes ho5 (by omega) (by omega) (fun o1 w6 ho6 hg6 => ?_)
  obtain ⟨hd6, hap6⟩ := hd5.apart hap hg6
  have hs6 := hg6.grown.size
  obtain ⟨da, dc, rfl⟩ := hd6.shape
  repeat ((with_reducible apply ws);exact rfl;exact rfl)
  refine Vl tb_bytes tb_bytes rfl rfl rfl hd6.bytes ho6 (by omega) (by rw [List.length_append]; omega) (fun o2 w7 ho7 hg7 => ?_)
  have hs7 := hg7.grown.size
  repeat first|(with_reducible first|apply Yc|apply Yb|apply Ym)|((with_reducible apply ws);exact rfl;exact rfl)
  refine Yk rfl rfl ⟨_, rfl, ((((hw02.trans (hw4.mono (by omega))).trans (hw5.mono (by omega))).trans (hg6.below (by omega) (fun g hg => by have := ho5.ge g hg; omega))).trans (hg7.below (by omega) (fun g hg => by have := ho6.ge g hg; omega))), ?_⟩
  rw [Yg3, ← List.append_assoc]
  exact ho7.mono (by omega)
end
mutual
theorem field_ok : ∀ f : Fld, f.okb = true → FieldOK f ∧ Yn8 f
  | .mk kind fr upto nul tag df of sub, h => by
    have hs : JB sub = true := JB.sub h
    have ih := fields_ok sub (by simp only [JB, Bool.and_eq_true] at hs; exact hs.1)
    have hp := part_of sub hs (fun f hf => (ih f hf).1) (fun f hf => (ih f hf).2)
    exact ⟨field_of _ (fun k => value_of k _ hp) hp, usual_of _ hs (fun g hg => (ih g hg).2)⟩
theorem fields_ok : ∀ fs : List Fld, Fld.oksb fs = true → ∀ f ∈ fs, FieldOK f ∧ Yn8 f
  | [], _, f, hf => by cases hf
  | g :: fs, h, f, hf => by
    simp only [Fld.oksb, Bool.and_eq_true] at h
    have hg := field_ok g h.1
    have hr := fields_ok fs h.2
    rcases List.mem_cons.1 hf with h0 | h1
    · rw [h0]; exact hg
    · exact hr f h1
end
theorem part_ok (fs : List Fld) (h : JB fs = true) : PartOK fs := by
  have ih := fields_ok fs (by simp only [JB, Bool.and_eq_true] at h; exact h.1)
  exact part_of fs h (fun f hf => (ih f hf).1) (fun f hf => (ih f hf).2)
end

section
open Go Go.RowKit
theorem rt_tags : Ut Tryz.prog 24 79 2 = true:=by kernel_rfl
theorem tree_out {ok : Nat → Prop} {w : World} {t : Tree} {cs : List Value} (h : Rep ok w (treeD t) cs) :
  ∃ sv lv uv,cs = [.int .i64 t.n,sv,.bool t.nul,lv,uv] ∧ Rep ok w (.sq (t.s.map YF)) [sv] ∧ Rep ok w (.sq (t.l.map treeD)) [lv] ∧ Rep ok w (.sq (t.u.map Uk)) [uv]:=by
 cases t with
 | mk n s nul l u =>
  simp only [treeD,Xb,Rep,YG,VR] at h
  obtain ⟨c1,r1,rfl,rfl,c2,r2,rfl,h2,c3,r3,rfl,rfl,c4,r4,rfl,h4,c5,r5,rfl,h5,rfl⟩:=h
  obtain ⟨a2,b2,rfl,h2'⟩:=h2
  obtain ⟨a4,b4,rfl,h4'⟩:=h4
  obtain ⟨a5,b5,rfl,h5'⟩:=h5
  refine ⟨_,_,_,rfl,?_,?_,?_⟩ <;> simp only [Rep]
  ·exact ⟨_,_,rfl,h2'⟩
  ·exact ⟨_,_,rfl,h4'⟩
  ·exact ⟨_,_,rfl,h5'⟩
theorem sq_one {ok : Nat → Prop} {w : World} {ds : List D} {v : Value} (h : Rep ok w (.sq ds) [v]) : ∃ a c,v = .slice a ds.length c:=by
 simp only [Rep] at h
 obtain ⟨a,c,e,_⟩:=h
 exact ⟨a,c,by simpa using e⟩
theorem treeG_one {ok : Nat → Prop} {w : World} {t : Tree} {cs : List Value} (h : Rep ok w (treeD t) cs) : (cs.all fun v => v.oneCell') = true ∧ cs.length = 5:=by
 obtain ⟨sv,lv,uv,rfl,h1,h2,h3⟩:=tree_out h
 obtain ⟨a,b,rfl⟩:=sq_one h1
 obtain ⟨c,d,rfl⟩:=sq_one h2
 obtain ⟨e,f,rfl⟩:=sq_one h3
 exact ⟨rfl,rfl⟩
theorem RowD.sqb {B lo bx e sz : Nat} {w : World} {d : Value} {ds : List D} (h : RowD B lo bx e sz w d ds) : Rep (fun r => In B lo w r ∧ r ≠ bx) w (.sq ds) [d]:=by
 obtain ⟨ha,hl,xs,hr,hx⟩:=h
 simp only [Rep]
 have hx' : YG (fun r => In B lo w r ∧ r ≠ bx) w ds xs:=hx.up (fun _ hr => ⟨⟨hr.1,hr.2.1⟩,hr.2.2.1⟩) (fun _ _ => rfl)
 by_cases hn : 0 < ds.length
 ·obtain ⟨g,cap,hd,hg1,hg2,hc⟩:=Row.cells hr hn
  subst hd
  obtain ⟨_,⟨he,_⟩ | ⟨g',cap',cur,he,_,_,hle,_⟩⟩:=hr
  ·cases he
  ·cases he
   exact ⟨_,cap,rfl,hle,.inr ⟨g,0,xs,rfl,⟨⟨.inr hg1,hg2⟩,fun e => ha (by rw [← e];rfl)⟩,hc,hx'⟩⟩
 ·have h0 : ds = []:=List.length_eq_zero_iff.1 (by omega)
  subst h0
  obtain ⟨hxl,⟨rfl,_⟩ | ⟨g,cap,cur,rfl,hBg,hheap,hle,hcap,hcs,htake⟩⟩:=hr
  ·exact ⟨none,0,rfl,Nat.le_refl _,.inl (by simp)⟩
  ·have hx0 : xs = []:=List.length_eq_zero_iff.1 (by simpa using hxl)
   subst hx0
   exact ⟨some ⟨g,0,none⟩,cap,rfl,hle,.inr ⟨g,0,[],rfl,⟨⟨.inr hBg,(Array.getElem?_eq_some_iff.1 hheap).1⟩,fun e => ha (by rw [← e];rfl)⟩,⟨cur,e,(0,0),hheap,by simp,by simp⟩,hx'⟩⟩
theorem Ym6 {a b c : World} {bx : Nat} {row : Option Nat} (h : a.grownBy b (some bx)) (k : b.grownBy c row) (hr : ∀ g,row = some g → g = bx ∨ a.heap.size ≤ g) : a.grownBy c (some bx) :=
 ⟨k.os.trans h.os,k.tape.trans h.tape,k.output.trans h.output,Nat.le_trans h.size k.size,fun i hi hne => by
  rw [← h.block i hi hne]
  refine k.block i (Nat.lt_of_lt_of_le hi h.size) (fun e => ?_)
  rcases hr i e.symm with rfl | h2
  ·exact hne rfl
  ·omega⟩
theorem Rep.offLo {B lo bx : Nat} {w : World} {d : Value} {x : D} {cs : List Value} (h : Rep (Lo B) w x cs) (hs : B ≤ w.heap.size) (hb : B ≤ bx) (hd : ∀ g,d.ownBlock = some g → B ≤ g) : Rep (Off B lo bx d w) w x cs:=by
 refine h.up (fun r hr => ⟨.inl hr,Nat.lt_of_lt_of_le hr hs,fun e => ?_,fun e => ?_⟩) (fun _ _ => rfl)
 ·simp only [Lo] at hr;omega
 ·have:=hd r e;simp only [Lo] at hr;omega
theorem In.up {B lo lo' : Nat} {w w' : World} (hlo : lo' ≤ lo) (hs : w.heap.size ≤ w'.heap.size) : ∀ r,In B lo w r → In B lo' w' r :=
 fun _ h => ⟨h.1.elim .inl (fun x => .inr (Nat.le_trans hlo x)),Nat.lt_of_lt_of_le h.2 hs⟩
section
set_option maxRecDepth 100000
end
end

section
open Go Go.RowKit
def Fld.one : Fld → Fld | .mk _ fr upto _ _ df of sub => .mk of fr upto (-1) (-1) df of sub
section
set_option maxRecDepth 100000
end
end

namespace Impl
open Go Go.RowKit
def tbl : Tbl:=⟨[(26,0,0),(26,1,1),(26,2,2),(26,3,3),(26,4,4),(79,0,0),(79,1,1),(35,0,0),(35,1,1),(35,2,2),(35,3,3),(35,4,4),(81,0,0),(81,1,1)],
 [22,23,24,32,33]⟩
theorem tbl_ok : tbl.ok Tryz.prog = true:=by kernel_rfl
theorem ws {ops : Array Oper} {Q : Exit → Act → World → Prop} {N : Nat} {rest : List Oper} {L : Sl} {w : World} {d : Nat} {ty : TypeId} {pos : String} {aft : Array Edge} {o : Op} {v : Value}
  (hs : Ya5 tbl L o = some v) (hd : Nat.blt d N = true) (h : WL rest Tryz.prog ops Q N ((d,v) :: L) w) : WL (⟨some d,o,ty,pos,aft,none⟩ :: rest) Tryz.prog ops Q N L w:=JJ tbl tbl_ok hs hd h
theorem fo_tree3 : YK Tryz.prog 35 3 = some 3:=by kernel_rfl
theorem to_trees : Xx Tryz.prog 32 = true:=by kernel_rfl
theorem to_tags : Xx Tryz.prog 33 = true:=by kernel_rfl
theorem ta_tree : VN Tryz.prog 35 = some 5:=by kernel_rfl
theorem tz_tree : (Tryz.prog.info? 35).map (·.size) = some 5:=by kernel_rfl
theorem ta_tag : VN Tryz.prog 81 = some 2:=by kernel_rfl
theorem tz_tag : (Tryz.prog.info? 81).map (·.size) = some 2:=by kernel_rfl
theorem es_trees : Yv Tryz.prog 32 = some 5:=by kernel_rfl
theorem rt_tags : Ut Tryz.prog 33 81 2 = true:=by kernel_rfl
theorem zv_tree (w : World) : (zeroValue 35).run Tryz.prog w = .ok (.agg #[.int .i64 0,.slice none 0 0,.bool false,.slice none 0 0,.slice none 0 0]) w:=by kernel_rfl
end Impl

namespace Got
open Go Go.RowKit
theorem ws {ops : Array Oper} {Q : Exit → Act → World → Prop} {N : Nat} {rest : List Oper} {L : Sl} {w : World} {d : Nat} {ty : TypeId} {pos : String} {aft : Array Edge} {o : Op} {v : Value}
  (hs : Ya5 Impl.tbl L o = some v) (hd : Nat.blt d N = true) (h : WL rest Tryz.prog ops Q N ((d,v) :: L) w) : WL (⟨some d,o,ty,pos,aft,none⟩ :: rest) Tryz.prog ops Q N L w:=JJ Impl.tbl Impl.tbl_ok hs hd h
theorem S_zv_tree (w : World) : (zeroValue 35).run Tryz.prog w = .ok (.agg #[.int .i64 0,.slice none 0 0,.bool false,.slice none 0 0,.slice none 0 0]) w:=by kernel_rfl
theorem S_zv_tag (w : World) : (zeroValue 81).run Tryz.prog w = .ok (.agg #[.int .u32 0,.slice none 0 0]) w:=by kernel_rfl
theorem S_ta_tree : VN Tryz.prog 35 = some 5:=by kernel_rfl
theorem S_tz_tree : (Tryz.prog.info? 35).map (·.size) = some 5:=by kernel_rfl
theorem S_ta_tag : VN Tryz.prog 81 = some 2:=by kernel_rfl
theorem S_tz_tag : (Tryz.prog.info? 81).map (·.size) = some 2:=by kernel_rfl
theorem S_es_trees : Yv Tryz.prog 32 = some 5:=by kernel_rfl
theorem S_es_tags : Yv Tryz.prog 33 = some 2:=by kernel_rfl
theorem S_to_trees : Xx Tryz.prog 32 = true:=by kernel_rfl
theorem S_to_tags : Xx Tryz.prog 33 = true:=by kernel_rfl
theorem D_zv_tree (w : World) : (zeroValue 26).run Tryz.prog w = .ok (.agg #[.int .i64 0,.slice none 0 0,.bool false,.slice none 0 0,.slice none 0 0]) w:=by kernel_rfl
theorem D_ta_tree : VN Tryz.prog 26 = some 5:=by kernel_rfl
theorem D_tz_tree : (Tryz.prog.info? 26).map (·.size) = some 5:=by kernel_rfl
theorem Yq7 : Xx Tryz.prog 23 = true:=by kernel_rfl
theorem D_to_tags : Xx Tryz.prog 24 = true:=by kernel_rfl
theorem Yr8 : YK Tryz.prog 26 3 = some 3:=by kernel_rfl
theorem Ys0 : Ut Tryz.prog 23 26 5 = true:=by kernel_rfl
theorem D_rt_tags : Ut Tryz.prog 24 79 2 = true:=by kernel_rfl
def GotOK (t : Tree) : Prop:=∀ (B : Nat) (w : World) (ts : List Value),t.small → B ≤ w.heap.size → Rep (Lo B) w (treeD t) ts →
 Fn 13 [.agg ts.toArray] w fun v w' => ∃ cs : List Value,v = .agg cs.toArray ∧ Rep (In B w.heap.size w') w' (treeD t) cs
section
set_option maxRecDepth 100000
theorem got_of (t : Tree) (hF : ∀ x ∈ t.l,GotOK x) : GotOK t:=by
 intro B w ts hsm hB ht
 obtain ⟨sv,lv,uv,rfl,hs,hl,hu⟩:=Xi ht
 obtain ⟨la,lc,rfl,_⟩:=hl.shape
 obtain ⟨sa,sc,rfl,_⟩:=hs.shape
 obtain ⟨ua,uc,rfl,_⟩:=hu.shape
 have hln:=hsm.lens
 refine enter Tryz.func13 rfl Tryz.ntmps13 rfl ?_
 repeat (with_reducible first|apply Yd|apply Ya)
 refine XF rfl rfl rfl (fun w1 hb1 hg1 hs1 => YJ D_zv_tree rfl rfl (fun w2 hb2 hg2 hs2 => ?_))
 have hbt2 : Box w2 w.heap.size [.int .i64 t.n,.slice sa (t.s.map YF).length sc,.bool t.nul,.slice la (t.l.map treeD).length lc,.slice ua (t.u.map Uk).length uc] 35:=hb1.kept hg2 (by simp)
 have hw2 : Below w.heap.size w w2:=(Yg hg1 (Nat.le_refl _) (by simp)).trans (Yg hg2 (by omega) (by simp))
 refine Yc (Yb (Yd (Ya ?_)))
 repeat ((with_reducible apply ws);exact rfl;exact rfl)
 refine Yf rfl to_i64 rfl hbt2 rfl ?_
 repeat ((with_reducible apply ws);exact rfl;exact rfl)
 refine Yf rfl to_bytes rfl hbt2 rfl ?_
 repeat ((with_reducible apply ws);exact rfl;exact rfl)
 refine Yf rfl to_bool rfl hbt2 rfl ?_
 refine Xa rfl (cs:=[.int .i64 t.n,.slice sa (t.s.map YF).length sc,.bool t.nul,.slice none 0 0,.slice none 0 0]) (by kernel_rfl) rfl ?_
 refine YJ D_zv_tree rfl rfl (fun w3 hb3 hg3 hs3 => ?_)
 refine Yn (vs:=[.int .i64 t.n,.slice sa (t.s.map YF).length sc,.bool t.nul,.slice none 0 0,.slice none 0 0]) rfl rfl rfl D_tz_tree rfl hb3 rfl (fun w4 hb4 hg4 hs4 => ?_)
 have hbt4:=(hbt2.kept hg3 (by simp)).kept hg4 (by simp;omega)
 have hbz4:=(hb2.kept hg3 (by simp)).kept hg4 (by simp;omega)
 have hw4 : Below w.heap.size w w4:=(hw2.trans (Yg hg3 (by omega) (by simp))).trans (Yg hg4 (by omega) (by intro k hk;simp at hk;omega))
 refine Yc (Yb ?_)
 refine UJ (α:=Value) (fun d => [(3,.pointer (some ⟨w2.heap.size,0,none⟩)),(2,.pointer (some ⟨w1.heap.size,0,none⟩)),(1,.pointer (some ⟨w.heap.size,0,none⟩))])
  (fun d w' => Below w.heap.size w w' ∧ w4.heap.size ≤ w'.heap.size ∧ Box w' w.heap.size [.int .i64 t.n,.slice sa (t.s.map YF).length sc,.bool t.nul,.slice la (t.l.map treeD).length lc,.slice ua (t.u.map Uk).length uc] 35 ∧ Box w' w1.heap.size [.int .i64 0,.slice none 0 0,.bool false,.slice none 0 0,.slice none 0 0] 26 ∧ Box w' w2.heap.size [.int .i64 t.n,.slice sa (t.s.map YF).length sc,.bool t.nul,d,.slice none 0 0] 26 ∧ RowD B w4.heap.size w2.heap.size 26 5 w' d (t.l.map treeD)) ?_ ?_
 ·repeat first|(with_reducible first|apply Yd|apply Ya)|((with_reducible apply ws);exact rfl;exact rfl)
  refine Yf rfl S_to_trees rfl hbt4 rfl ?_
  repeat first|(with_reducible first|apply Yc|apply Yb|apply Yr)|((with_reducible apply ws);exact rfl;exact rfl)
  refine Xu (α:=PtS) (fun s => [(18,.int .i64 (s.i : Int)),(17,.int .i64 ((t.l.map treeD).length : Int)),(16,.slice la (t.l.map treeD).length lc),(3,.pointer (some ⟨w2.heap.size,0,none⟩)),(2,.pointer (some ⟨w1.heap.size,0,none⟩)),(1,.pointer (some ⟨w.heap.size,0,none⟩))])
   (fun s w' => s.i ≤ t.l.length ∧ Below w.heap.size w w' ∧ w4.heap.size ≤ w'.heap.size ∧ Box w' w.heap.size [.int .i64 t.n,.slice sa (t.s.map YF).length sc,.bool t.nul,.slice la (t.l.map treeD).length lc,.slice ua (t.u.map Uk).length uc] 35 ∧ Box w' w1.heap.size [.int .i64 0,.slice none 0 0,.bool false,.slice none 0 0,.slice none 0 0] 26 ∧ Box w' w2.heap.size [.int .i64 t.n,.slice sa (t.s.map YF).length sc,.bool t.nul,s.d,.slice none 0 0] 26 ∧ RowD B w4.heap.size w2.heap.size 26 5 w' s.d ((t.l.take s.i).map treeD)) (fun s => t.l.length - s.i) ⟨0,.slice none 0 0,[]⟩ ⟨rfl,rfl,rfl,rfl,rfl,rfl,trivial⟩ ⟨Nat.zero_le _,hw4,Nat.le_refl _,hbt4,hbz4,hb4,RowD.nil _ _ _ _ _ _⟩ ?_
  rintro ⟨i,d,_⟩ w12 ⟨hi,hw12,hs1012,hbt12,hbr12,hbq12,hrd12⟩
  simp only [] at hi hbq12 hrd12
  change WC _ _ _ _ [(18,.int .i64 (i : Int)),(17,.int .i64 ((t.l.map treeD).length : Int)),(16,.slice la (t.l.map treeD).length lc),(3,.pointer (some ⟨w2.heap.size,0,none⟩)),(2,.pointer (some ⟨w1.heap.size,0,none⟩)),(1,.pointer (some ⟨w.heap.size,0,none⟩))] _
  repeat first|(with_reducible first|apply Yd|apply Ya|apply Yc|apply Yb)|((with_reducible apply ws);exact rfl;exact rfl)
  by_cases hlt : i < t.l.length
  ·refine Yp rfl (by simpa using hlt) ?_
   obtain ⟨b,off,c',cs,hv,hbB,hcs,hlen,hr⟩:=(hl.below (hw12.mono hB) (Nat.le_refl _)).get (sz:=5) (i:=i) (by intro d hd;obtain ⟨x,_,rfl⟩:=List.mem_map.1 hd;exact Xs x) (by simpa using hlt)
   simp only [Value.slice.injEq,List.length_map] at hv
   obtain ⟨rfl,_,rfl⟩:=hv
   simp only [List.getElem_map] at hr
   obtain ⟨hcone,_⟩:=treeG_one hr
   repeat (with_reducible first|apply Yd|apply Ya|apply Yb|apply Yr|apply Yh)
   refine Ys rfl rfl S_es_trees rfl (by simpa using hlt) ?_
   refine Xv rfl (by rw [hlen];exact S_ta_tree) rfl (fun j v e => hcs.cell e) ?_
   refine YJ S_zv_tree rfl rfl (fun w13 hb13 hg13 hs13 => ?_)
   refine Yn rfl rfl rfl (by rw [hlen];exact S_tz_tree) hcone hb13 (by rw [hlen];rfl) (fun w14 hb14 hg14 hs14 => ?_)
   have hw1214 : Below w12.heap.size w12 w14:=(Yg hg13 (Nat.le_refl _) (by simp)).trans (Yg hg14 (by omega) (by intro k hk;simp at hk;omega))
   have hw14 : Below w.heap.size w w14:=hw12.trans (hw1214.mono (by omega))
   have hrd14:=hrd12.below hw1214
   have hbr14:=hbr12.below hw1214 hbr12.lt
   have hbt14:=hbt12.below hw1214 hbt12.lt
   have hbq14:=hbq12.below hw1214 hbq12.lt
   have hdl : ∀ g,d.ownBlock = some g → w4.heap.size ≤ g ∧ g < w12.heap.size:=hrd12.low
   repeat (with_reducible first|apply Yc|apply Yb)
   refine wc_parS [(0,.pointer (some ⟨w2.heap.size,0 + 3,none⟩)),(1,d),(2,.agg cs.toArray),(6,.pointer (some ⟨w2.heap.size,0 + 3,none⟩))] [7,5,4,3]
    (fun vals w' => Below w.heap.size w w' ∧ w14.heap.size ≤ w'.heap.size ∧ Box w' w.heap.size [.int .i64 t.n,.slice sa (t.s.map YF).length sc,.bool t.nul,.slice (some ⟨b,off,none⟩) (t.l.map treeD).length lc,.slice ua (t.u.map Uk).length uc] 35 ∧ Box w' w1.heap.size [.int .i64 0,.slice none 0 0,.bool false,.slice none 0 0,.slice none 0 0] 26 ∧ Box w' w12.heap.size cs 35 ∧ match vals with
     | [] => Below w14.heap.size w14 w'
     | [v] => Below w14.heap.size w14 w' ∧ ∃ xs' : List Value,v = .agg xs'.toArray ∧ Rep (In B w14.heap.size w') w' (treeD t.l[i]) xs'
     | [v,_] => Below w14.heap.size w14 w' ∧ ∃ (b8 : Nat) (xs' : List Value),v = .slice (some ⟨b8,0,none⟩) 1 1 ∧ Box w' b8 xs' 26 ∧ xs'.length = 5 ∧ (xs'.all fun v => v.oneCell') = true ∧ Rep (In B w14.heap.size w') w' (treeD t.l[i]) xs'
     | [v,_,_] => Box w' w2.heap.size [.int .i64 t.n,.slice sa (t.s.map YF).length sc,.bool t.nul,d,.slice none 0 0] 26 ∧ RowD B w4.heap.size w2.heap.size 26 5 w' v ((t.l.take (i + 1)).map treeD)
     | _ :: v :: _ => Box w' w2.heap.size [.int .i64 t.n,.slice sa (t.s.map YF).length sc,.bool t.nul,v,.slice none 0 0] 26 ∧ RowD B w4.heap.size w2.heap.size 26 5 w' v ((t.l.take (i + 1)).map treeD))
    mixed rfl rfl rfl rfl rfl (by show ([0,1,2,6] : List Nat).Nodup;decide) rfl rfl (by decide) rfl rfl rfl rfl ⟨hw14.drew,Nat.le_refl _,hbt14,hbr14,hb14,(Below.refl _ w14).drew⟩ ?_ ⟨?_,?_,?_,?_,trivial⟩ ?_
   ·intro p hp vals w' hC hnp a k
    obtain ⟨hC1,hC2,hC3,hC4,hC5,hC6⟩:=hC
    simp only [List.mem_cons,List.not_mem_nil,or_false] at hp
    rcases hp with rfl | rfl | rfl | rfl
    ·exact gv rfl rfl (Yi k rfl Yr8)
    ·have hbx : Box w' w2.heap.size [.int .i64 t.n,.slice sa (t.s.map YF).length sc,.bool t.nul,d,.slice none 0 0] 26:=by
      match vals,hC6,hnp with
      | [],h,_ => exact hbq14.below h hbq14.lt
      | [_],h,_ => exact hbq14.below h.1 hbq14.lt
      | [_,_],h,_ => exact hbq14.below h.1 hbq14.lt
      | [_,_,_],h,_ => exact h.1
      | _ :: _ :: _ :: _ :: r,_,hnp =>
       have:=hnp 7 (by rw [show ([7,5,4,3] : List Nat).length - (_ :: _ :: _ :: _ :: r).length = 0 from by simp only [List.length_cons,List.length_nil];omega];simp)
       exact absurd (show true = false from this) (by simp)
     exact gv rfl rfl (Yy k rfl Yq7 (hbx.cell0 (i:=3) rfl))
    ·exact gv rfl rfl (YX k rfl (by rw [hlen];exact S_ta_tree) hC5)
    ·exact gv rfl rfl (Yi k rfl Yr8)
   ·rintro vals w' hvl ⟨hC1,hC2,hC3,hC4,hC5,hC6⟩ a k
    match vals,hvl with
    | [v9,v8,v7],_ =>
     obtain ⟨hbx,hrd⟩:=hC6
     obtain ⟨a9,c9,rfl⟩:=hrd.shape
     refine ⟨_,rfl,Ya8 k rfl rfl Yq7 rfl hbx rfl (fun w'' hbx'' hg'' hs'' => ⟨hC1.trans (Yg hg'' (by omega) (by intro q hq;simp at hq;omega)),by omega,hC3.kept hg'' (by simp;omega),hC4.kept hg'' (by simp;omega),hC5.kept hg'' (by simp;omega),hbx'',hrd.stored hg''⟩)⟩
   ·rintro vals w' hvl ⟨hC1,hC2,hC3,hC4,hC5,hC6⟩ a k
    match vals,hvl with
    | [v8,v7],_ =>
     obtain ⟨hb7',b8,xs',rfl,hb8,hl5,hone'',hrep⟩:=hC6
     have hrdw:=hrd14.below hb7'
     obtain ⟨xs0,hrow0,hreps0⟩:=hrdw.row
     refine ⟨_,rfl,Ym4 k Ys0 rfl rfl hb8 hl5 hone'' hrow0 (by omega) (by simp only [List.length_map,List.length_take,many];omega) (fun d' w'' hrow'' hg'' => ?_)⟩
     have hs'':=hg''.grown.size
     have hne : ∀ q,q < w4.heap.size ∨ w12.heap.size ≤ q → some q ≠ d.ownBlock:=fun q hq e => by have:=hdl q e.symm;omega
     refine ⟨hC1.trans (hg''.below (by omega) (fun g hg => by have:=hdl g hg;omega)),by omega,hC3.kept hg''.grown (hne _ (by omega)),hC4.kept hg''.grown (hne _ (by omega)),hC5.kept hg''.grown (hne _ (by omega)),(hbq14.below hb7' hbq14.lt).kept hg''.grown (hne _ (by omega)),?_⟩
     have hsn:=hrdw.snoc (by omega) (by omega) hreps0 (hrep.off (by omega) ⟨by omega,by omega⟩ (fun g hg => by have:=hdl g hg;omega)) hrow'' hg''
     rw [List.take_succ_eq_append_getElem hlt,List.map_append]
     exact hsn
   ·rintro vals w' hvl ⟨hC1,hC2,hC3,hC4,hC5,hC6⟩ a k
    match vals,hvl with
    | [v7],_ =>
     obtain ⟨hb7',xs',rfl,hrep⟩:=hC6
     obtain ⟨hone'',hl5⟩:=treeG_one hrep
     have hga:=XE w' (.cells xs'.toArray 26)
     refine ⟨_,rfl,Uv k Ys0 rfl rfl hl5 rfl ⟨hC1.trans (Yg hga (by omega) (by simp)),by simp;omega,hC3.kept hga (by simp),hC4.kept hga (by simp),hC5.kept hga (by simp),hb7'.trans (Yg hga (by omega) (by simp)),_,xs',rfl,XZ _ _ _,hl5,hone'',hrep.up (In.up (Nat.le_refl _) (by simp)) (fun r hr => hga.block r hr.2 (by simp))⟩⟩
   ·rintro vals w' hvl ⟨hC1,hC2,hC3,hC4,hC5,hC6⟩ a k
    match vals,hvl with
    | [],_ =>
     simp only [] at hC6
     refine ⟨_,rfl,Yz k rfl (by kernel_rfl) ((hF t.l[i] (List.getElem_mem hlt) B w' _ (hsm.l _ (List.getElem_mem hlt)) (by omega) (Rep.below hr ((hw1214.trans (hC6.mono (by omega))).mono (by omega)) (Nat.le_refl _))).mono ?_)⟩
     rintro e w'' ⟨v,rfl,hb'',cs'',rfl,hrep⟩
     exact ⟨_,rfl,hC1.trans (hb''.mono (by omega)),by have:=hb''.size;omega,hC3.below hb'' hC3.lt,hC4.below hb'' hC4.lt,hC5.below hb'' hC5.lt,hC6.trans (hb''.mono (by omega)),cs'',rfl,hrep.up (In.up (by omega) (Nat.le_refl _)) (fun _ _ => rfl)⟩
   ·rintro vals w' hvl ⟨hC1,hC2,hC3,hC4,hC5,hC6⟩
    match vals,hvl with
    | [v11,v9,v8,v7],_ =>
     refine Yb ?_
     repeat (with_reducible apply Ya)
     refine Xn rfl rfl rfl (r:=((i + 1 : Nat) : Int)) (by rw [IntKind.wrap_i64];omega) ?_
     repeat first|(with_reducible apply Yc)|((with_reducible apply ws);exact rfl;exact rfl)
     exact YD ⟨i + 1,v9,[]⟩ ⟨rfl,rfl,rfl,rfl,rfl,rfl,trivial⟩ ⟨by simp only [];omega,hC1,by omega,hC3,hC4,hC6.1,hC6.2⟩ (by simp only [];omega)
  ·refine Yu rfl (by simpa using hlt) ?_
   repeat (with_reducible first|apply Xk|apply Yw|apply YB|apply Yq)
   rw [List.take_of_length_le (by omega)] at hrd12
   exact XB d ⟨rfl,rfl,rfl,trivial⟩ ⟨hw12,hs1012,hbt12,hbr12,hbq12,hrd12⟩
 rintro d w5 ⟨hw5,hs45,hbt5,hbz5,hbo5,hrd5⟩
 have hdone:=hrd5.sqb
 obtain ⟨da,dc,rfl⟩:=hrd5.shape
 refine UJ (α:=Value) (fun e => [(3,.pointer (some ⟨w2.heap.size,0,none⟩)),(2,.pointer (some ⟨w1.heap.size,0,none⟩))])
  (fun e w' => Below w.heap.size w w' ∧ w5.grownBy w' (some w2.heap.size) ∧ Box w' w1.heap.size [.int .i64 0,.slice none 0 0,.bool false,.slice none 0 0,.slice none 0 0] 26 ∧ Box w' w2.heap.size [.int .i64 t.n,.slice sa (t.s.map YF).length sc,.bool t.nul,.slice da (t.l.map treeD).length dc,e] 26 ∧ RowD B w5.heap.size w2.heap.size 79 2 w' e (t.u.map Uk)) ?_ ?_
 ·repeat first|(with_reducible first|apply Yd|apply Ya)|((with_reducible apply ws);exact rfl;exact rfl)
  refine Yf rfl S_to_tags rfl hbt5 rfl ?_
  rw [show (t.u.map Uk).length = t.u.length from List.length_map ..]
  repeat first|(with_reducible first|apply Yc|apply Yb|apply Yr)|((with_reducible apply ws);exact rfl;exact rfl)
  refine Xu (α:=PtS) (fun s => [(33,.int .i64 (s.i : Int)),(32,.int .i64 (t.u.length : Int)),(31,.slice ua t.u.length uc),(3,.pointer (some ⟨w2.heap.size,0,none⟩)),(2,.pointer (some ⟨w1.heap.size,0,none⟩)),(1,.pointer (some ⟨w.heap.size,0,none⟩))])
   (fun s w' => s.i ≤ t.u.length ∧ Below w.heap.size w w' ∧ w5.grownBy w' (some w2.heap.size) ∧ Box w' w1.heap.size [.int .i64 0,.slice none 0 0,.bool false,.slice none 0 0,.slice none 0 0] 26 ∧ Box w' w2.heap.size [.int .i64 t.n,.slice sa (t.s.map YF).length sc,.bool t.nul,.slice da (t.l.map treeD).length dc,s.d] 26 ∧ RowD B w5.heap.size w2.heap.size 79 2 w' s.d ((t.u.take s.i).map Uk)) (fun s => t.u.length - s.i) ⟨0,.slice none 0 0,[]⟩ ⟨rfl,rfl,rfl,rfl,rfl,rfl,trivial⟩ ⟨Nat.zero_le _,hw5,⟨rfl,rfl,rfl,Nat.le_refl _,fun _ _ _ => rfl⟩,hbz5,hbo5,RowD.nil _ _ _ _ _ _⟩ ?_
  rintro ⟨i,e,_⟩ w7 ⟨hi,hw7,hgb7,hbz7,hbo7,hrd7⟩
  simp only [] at hi hbo7 hrd7
  change WC _ _ _ _ [(33,.int .i64 (i : Int)),(32,.int .i64 (t.u.length : Int)),(31,.slice ua t.u.length uc),(3,.pointer (some ⟨w2.heap.size,0,none⟩)),(2,.pointer (some ⟨w1.heap.size,0,none⟩)),(1,.pointer (some ⟨w.heap.size,0,none⟩))] _
  repeat first|(with_reducible first|apply Yd|apply Ya|apply Yc|apply Yb)|((with_reducible apply ws);exact rfl;exact rfl)
  by_cases hlt : i < t.u.length
  ·refine Yp rfl (by simpa using hlt) ?_
   obtain ⟨b,off,c',cs,hv,hbB,hcs,hlen,hr⟩:=(hu.below (hw7.mono hB) (Nat.le_refl _)).get (sz:=2) (i:=i) (by intro d hd;obtain ⟨x,_,rfl⟩:=List.mem_map.1 hd;exact VL x) (by simpa using hlt)
   simp only [Value.slice.injEq,List.length_map] at hv
   obtain ⟨rfl,_,rfl⟩:=hv
   simp only [List.getElem_map] at hr
   obtain ⟨hcone,_⟩:=tag_one hr
   obtain ⟨qv,hce,hqv⟩:=VO hr
   subst hce
   obtain ⟨qa,qc,rfl,_⟩:=hqv.shape
   repeat (with_reducible first|apply Yd|apply Ya|apply Yb|apply Yr|apply Yh)
   refine Ys rfl rfl S_es_tags rfl hlt ?_
   refine Xv (cs:=[.int .u32 (t.u[i].1 : Nat),.slice qa (t.u[i].2.map YF).length qc]) rfl S_ta_tag rfl (fun j v e => hcs.cell e) ?_
   refine YJ S_zv_tag rfl rfl (fun w8 hb8 hg8 hs8 => ?_)
   refine Yn (vs:=[.int .u32 (t.u[i].1 : Nat),.slice qa (t.u[i].2.map YF).length qc]) rfl rfl rfl S_tz_tag hcone hb8 rfl (fun w9 hb9 hg9 hs9 => ?_)
   have hw79 : Below w7.heap.size w7 w9:=(Yg hg8 (Nat.le_refl _) (by simp)).trans (Yg hg9 (by omega) (by intro k hk;simp at hk;omega))
   have hs57:=hgb7.size
   have hw9 : Below w.heap.size w w9:=hw7.trans (hw79.mono (by omega))
   have hgb9 : w5.grownBy w9 (some w2.heap.size):=Ym6 hgb7 (JX hw79) (fun g h => by cases h)
   have hbz9:=hbz7.below hw79 hbz7.lt
   have hbo9:=hbo7.below hw79 hbo7.lt
   have hrd9:=hrd7.below hw79
   obtain ⟨ea,ec,hes⟩:=hrd9.shape
   obtain ⟨xs0,hrow0,hreps0⟩:=hrd9.row
   have hel : ∀ g,e.ownBlock = some g → w5.heap.size ≤ g ∧ g < w7.heap.size:=hrd7.low
   have hs79:=hw79.size
   repeat first|(with_reducible first|apply Ya|apply Yc|apply Yb)|((with_reducible apply ws);exact rfl;exact rfl)
   refine Yf rfl D_to_tags rfl hbo9 rfl ?_
   repeat ((with_reducible apply ws);exact rfl;exact rfl)
   refine Yf rfl to_u32 rfl hb9 rfl ?_
   repeat ((with_reducible apply ws);exact rfl;exact rfl)
   refine Yf rfl to_bytes rfl hb9 rfl ?_
   refine Xa rfl (cs:=[.int .u32 (t.u[i].1 : Nat),.slice qa (t.u[i].2.map YF).length qc]) (by kernel_rfl) rfl ?_
   refine wl_app1 (cs:=[.int .u32 (t.u[i].1 : Nat),.slice qa (t.u[i].2.map YF).length qc]) D_rt_tags rfl rfl rfl hcone rfl rfl rfl rfl hrow0 (by omega) (by simp only [List.length_map,List.length_take,many];omega) (fun d' w10 hrow10 hg10 => ?_)
   have hs10:=hg10.grown.size
   have hne : ∀ q,q < w5.heap.size ∨ w7.heap.size ≤ q → some q ≠ e.ownBlock:=fun q hq h => by have:=hel q h.symm;omega
   have hr9 : Rep (Lo B) w9 (Uk t.u[i]) [.int .u32 (t.u[i].1 : Nat),.slice qa (t.u[i].2.map YF).length qc]:=Rep.below hr (hw79.mono (by omega)) (Nat.le_refl _)
   have hsn:=hrd9.snoc (by omega) (by omega) hreps0 (hr9.offLo (by omega) (by omega) (fun g hg => by have:=hel g hg;omega)) hrow10 hg10
   have hbo10:=hbo9.kept hg10.grown (hne _ (by omega))
   have hbz10:=hbz9.kept hg10.grown (hne _ (by omega))
   obtain ⟨fa,fc,hfs⟩:=hsn.shape
   subst hfs
   repeat ((with_reducible apply ws);exact rfl;exact rfl)
   refine YA rfl rfl D_to_tags rfl hbo10 rfl (fun w11 hbo11 hg11 hs11 => ?_)
   repeat (with_reducible first|apply Ya|apply Yc|apply Yb|apply XS)
   refine Xn rfl rfl rfl (r:=((i + 1 : Nat) : Int)) (by rw [IntKind.wrap_i64];omega) ?_
   repeat first|(with_reducible apply Yc)|((with_reducible apply ws);exact rfl;exact rfl)
   refine YD ⟨i + 1,_,[]⟩ ⟨rfl,rfl,rfl,rfl,rfl,rfl,trivial⟩ ⟨by simp only [];omega,(hw9.trans (hg10.below (by omega) (fun g hg => by have:=hel g hg;omega))).trans (Yg hg11 (by omega) (by intro q hq;simp at hq;omega)),Ym6 (Ym6 hgb9 hg10.grown (fun q hq => .inr (by have:=hel q hq;omega))) hg11 (fun q hq => .inl (by simpa using hq.symm)),hbz10.kept hg11 (by simp;omega),hbo11,?_⟩ (by simp only [];omega)
   simp only []
   rw [List.take_succ_eq_append_getElem hlt,List.map_append]
   exact hsn.stored hg11
  ·refine Yu rfl (by simpa using hlt) ?_
   repeat (with_reducible first|apply Xk|apply Yw|apply YB|apply Yq)
   rw [List.take_of_length_le (by omega)] at hrd7
   exact XB e ⟨rfl,rfl,trivial⟩ ⟨hw7,hgb7,hbz7,hbo7,hrd7⟩
 rintro e w6 ⟨hw6,hgb6,hbz6,hbo6,hrd6⟩
 obtain ⟨ea,ec,hes⟩:=hrd6.shape
 subst hes
 repeat (with_reducible first|apply Yd|apply Ya)
 refine YC (cs:=[.int .i64 t.n,.slice sa (t.s.map YF).length sc,.bool t.nul,.slice da (t.l.map treeD).length dc,.slice ea (t.u.map Uk).length ec]) rfl D_ta_tree rfl hbo6 ?_
 refine Yn (vs:=[.int .i64 t.n,.slice sa (t.s.map YF).length sc,.bool t.nul,.slice da (t.l.map treeD).length dc,.slice ea (t.u.map Uk).length ec]) rfl rfl rfl D_tz_tree rfl hbz6 rfl (fun w7 hbz7 hg7 hs7 => ?_)
 repeat (with_reducible first|apply Yc|apply Yb|apply Ym)
 have hs56:=hgb6.size
 have hw7:=hw6.trans (Yg hg7 (by have:=hw6.size;omega) (by intro q hq;simp at hq;omega))
 refine XT (cs:=[.int .i64 t.n,.slice sa (t.s.map YF).length sc,.bool t.nul,.slice da (t.l.map treeD).length dc,.slice ea (t.u.map Uk).length ec]) rfl rfl D_ta_tree hbz7 ⟨_,rfl,hw7,_,rfl,?_⟩
 have hse:=hrd6.sqb
 have e0 : t = .mk t.n t.s t.nul t.l t.u:=by cases t;rfl
 rw [e0]
 refine rep_tree ((hs.below (hw7.mono hB) (Nat.le_refl _)).up (fun r hr => ⟨.inl hr,by simp only [Lo] at hr;omega⟩) (fun _ _ => rfl)) ?_ ?_
 ·refine hdone.up (fun r hr => In.up (by omega) (by omega) r hr.1) (fun r hr => ?_)
  have h1 : r ≠ w1.heap.size:=by
   rcases hr.1.1 with h | h <;> omega
  rw [hg7.block r (by have:=hr.1.2;omega) (by simp;omega),hgb6.block r hr.1.2 (by simpa using hr.2)]
 ·refine hse.up (fun r hr => In.up (by omega) (by omega) r hr.1) (fun r hr => ?_)
  have h1 : r ≠ w1.heap.size:=by
   rcases hr.1.1 with h | h <;> omega
  rw [hg7.block r hr.1.2 (by simp;omega)]
end
mutual
theorem got_ok : ∀ t : Tree,GotOK t
 | .mk _ _ _ l _ => got_of _ (gots_ok l)
theorem gots_ok : ∀ l : List Tree,∀ x ∈ l,GotOK x
 | [],x,hx => by cases hx
 | y :: l,x,hx => by
  have hy:=got_ok y
  have hl:=gots_ok l
  rcases List.mem_cons.1 hx with h0 | h1
  ·rw [h0];exact hy
  ·exact hl x h1
end
end Got

section
open Go Go.RowKit
section
variable {P : Program} {N : Nat} {L : Sl} {a : Act} {w : World} {d : Nat} {ty : TypeId} {pos : String} {aft : Array Edge}
theorem does_makeB {t u8 B n : Nat} {kl kc : IntKind} {R : Value → World → Prop} {gd : Option (Nat × Bool)} (_ : Kn N a L) (hT : UN P t u8 = true) (hz : (P.info? u8).bind (·.zero) = some (.int .u8 0)) (hn : Nat.ble n 1000000 = true) (hB : B ≤ w.heap.size)
  (h : ∀ w',Own w' B u8 (.slice (some ⟨w.heap.size,0,none⟩) n n) (List.replicate n 0) → w.grownBy w' none → R (.slice (some ⟨w.heap.size,0,none⟩) n n) w') : Jj P ⟨some d,.makeSlice t (.const (.int kl (n : Int))) (.const (.int kc (n : Int))),ty,pos,aft,gd⟩ a w R:=by
 obtain ⟨hu,i,z,hi,hs1,hb1,hz',hzc⟩:=Vh hT
 have hn':=Nat.le_of_ble_eq_true hn
 obtain ⟨w',hr,ho,hg⟩:=run_makeSlice_full (P:=P) (w:=w) B t u8 i z 1 hu hi hz' hs1 kl kc n (by omega) (by rw [hb1];omega) (by simp only [maxLen];omega) hB
 have hzz : z = .int .u8 0:=by rw [hi] at hz;simp only [Option.bind_some,hz',Option.some.injEq] at hz;exact hz
 subst hzz
 have hc : (madeCells (Value.cells (.int .u8 0)) (n * 1)).toList = bv (List.replicate n 0):=by
  simp only [madeCells,Nat.mul_one,bv,List.map_replicate,Array.toList_map]
  apply List.ext_getElem
  ·simp
  ·intro j h1 h2;simp [Value.cells,Nat.mod_one]
 rw [hc] at ho
 refine Vo (v:=.slice (some ⟨w.heap.size,0,none⟩) n n) (w':=w') ?_ (h w' ?_ hg)
 ·simp only [execOp,XD,Sem.run_bind,hr,Result.andThen_ok,Sem.run_pure]
 ·unfold Own;rw [List.length_replicate];exact ho
theorem wl_neqB {ops : Array Oper} {Q : Exit → Act → World → Prop} {rest : List Oper} {x y : Operand} {t u : TypeId} {m n : Bool} (hx : ev L x = some (.bool m)) (hy : ev L y = some (.bool n)) (ht : P.underlying t = some .bool) (hd : Nat.blt d N = true) (h : WL rest P ops Q N ((d,.bool (m != n)) :: L) w) :
  WL (⟨some d,.binOp .neq t x y u,ty,pos,aft,none⟩ :: rest) P ops Q N L w:=by
 intro a k
 refine Xh (o:=⟨some d,.binOp .neq t x y u,ty,pos,aft,none⟩) (v:=.bool (m != n)) (w':=w) rfl ?_ (h _ (k.put _ hd))
 simp only [execOp,k.eval hx,k.eval hy]
 simp [eqGuard,run_neq_bool w t m n ht]
 cases m <;> cases n <;> rfl
theorem rn_gtr {d : Option Nat} {gd : Option (Nat × Bool)} {x y : Operand} {t u : TypeId} {kk : IntKind} {m n : Int} (k : Kn N a L) (hx : ev L x = some (.int kk m)) (hy : ev L y = some (.int kk n)) : (execOp a.eval ⟨d,.binOp .gtr t x y u,ty,pos,aft,gd⟩).run P w = .ok (.value (.bool (decide (n < m)))) w:=by
 simp only [execOp,k.eval hx,k.eval hy];simp [go_sem]
theorem rn_sub {d : Option Nat} {gd : Option (Nat × Bool)} {x y : Operand} {t u : TypeId} {kk : IntKind} {m n r : Int} (k : Kn N a L) (hx : ev L x = some (.int kk m)) (hy : ev L y = some (.int kk n)) (hr : kk.wrap (m - n) = r) : (execOp a.eval ⟨d,.binOp .sub t x y u,ty,pos,aft,gd⟩).run P w = .ok (.value (.int kk r)) w:=by
 simp only [execOp,k.eval hx,k.eval hy];simp [go_sem,hr]
end
section
variable {P : Program} {N : Nat} {L : Sl} {w : World}
theorem qk_retCell2 {fn : Func} {R : Ending → World → Prop} {t u b : Nat} {tt e : TypeId} {cs : List Value} {x : Value} (hr : fn.results = #[.cell t tt,.tmp u]) (hv : lk L t = some (.pointer (some ⟨b,0,none⟩))) (ht : VN P tt = some cs.length) (hB : Box w b cs e) (hx : lk L u = some x) (h : R (.returned (.tuple #[.agg cs.toArray,x])) w) : QK .ret (bodyPost P fn R) N L w:=by
 intro a k
 have h1:=k.at_ t _ hv
 have h2:=k.at_ u _ hx
 refine ⟨k.defers,.tuple #[.agg cs.toArray,x],?_,h⟩
 have hl:=run_loadCells_list (P:=P) w ⟨b,0,none⟩ cs (fun j v e => by rw [YT _ _ rfl];simp only [Nat.zero_add];exact hB.cell e)
 unfold VN at ht
 simp only [gt] at h1 h2
 rw [Array.getD_eq_getD_getElem?] at h1 h2
 split at ht
 ·rename_i u hu
  cases hi : P.info? tt with
  | none => simp [hi] at ht
  | some i => simp [hi] at ht;simp [results,hr,h1,h2,loadVar,isAgg,run_underlying hu,sizeOf,typeInfo,hi,ht,hl,asAddr]
 ·rename_i u hu
  cases hi : P.info? tt with
  | none => simp [hi] at ht
  | some i => simp [hi] at ht;simp [results,hr,h1,h2,loadVar,isAgg,run_underlying hu,sizeOf,typeInfo,hi,ht,hl,asAddr]
 ·cases ht
end
end
end Go.Proofs.YtlmnaffhadeolaaGreatDoor
