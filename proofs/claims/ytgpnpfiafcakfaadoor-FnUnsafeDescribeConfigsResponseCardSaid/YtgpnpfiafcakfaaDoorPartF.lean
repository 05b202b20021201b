/- A part of the proof of FnUnsafeDescribeConfigsResponseCardSaid: what its texts prove stands at the head of each. Conditions: those that each theorem names. -/
import Derived.Test.YtgpnpfiafcakfaaDoorPartE
import Derived.Test.YtgpnpfiafcakfaaDoorPartD
import Derived.Test.YtgpnpfiafcakfaaDoorPartB
import Derived.Deep.QuietTactic
import Derived.Sort.LotA
import Derived.Test.YtgpnpfiafcakfaaDoorPartA
import Derived.Test.YtgpnpfiafcakfaaDoorPartC
import Derived.Laws.Small
set_option linter.all false
namespace Go.Proofs.YtgpnpfiafcakfaaDoor
open Go Go.RowKit
section
variable {P : Program} {ops : Array Oper} {Q : Exit → Act → World → Prop} {N : Nat} {rest : List Oper} {L : Sl} {w : World} {d : Nat} {ty : TypeId} {pos : String} {aft : Array Edge}
end
section
set_option maxRecDepth 100000
end
end Go.Proofs.YtgpnpfiafcakfaaDoor

namespace Go.Proofs.YtgpnpfiafcakfaaDoor
open Go Go.RowKit
section
set_option maxRecDepth 100000
end
end Go.Proofs.YtgpnpfiafcakfaaDoor

namespace Go.Proofs.YtgpnpfiafcakfaaDoor
open Go Go.RowKit
section
set_option maxRecDepth 100000
end
end Go.Proofs.YtgpnpfiafcakfaaDoor

namespace Go.Proofs.YtgpnpfiafcakfaaDoor
open Go Go.RowKit
section
set_option maxRecDepth 100000
end
end Go.Proofs.YtgpnpfiafcakfaaDoor

namespace Go.Proofs.YtgpnpfiafcakfaaDoor
open Go Go.RowKit
def fns : List (Nat × Pf) :=
 []
def kt (tlen teach : Nat) (ver : Int) : Kt := ⟨fns, tlen, teach, .int .i16 ver⟩
end Go.Proofs.YtgpnpfiafcakfaaDoor

namespace Go.Proofs.YtgpnpfiafcakfaaDoor.Rdk
open Go Go.RowKit
theorem run_lenMap {P : Program} {t ty kt et : TypeId} (w : World) (m : Option Nat) (n : Nat) (h : P.underlying t = some (.map kt et)) (hm : (m = none ∧ n = 0) ∨ ∃ r es clock, m = some r ∧ w.heap[r]? = some (.map es clock) ∧ es.size = n) :
  (Builtin.len_ #[t] ty #[.map m]).run P w = .ok (.int .i64 (n : Int)) w := by
 rcases hm with ⟨rfl, rfl⟩ | ⟨r, es, clock, rfl, hb, rfl⟩
 ·simp [Builtin.len_, run_underlying h, goInt]
 ·simp [Builtin.len_, run_underlying h, MapKept.run_getObj_map hb, goInt]
theorem mp_len {ok : Nat → Prop} {w : World} {kvs : List (Nat × D)} {v : Value} (h : Rep ok w (.mp kvs) [v]) : ∃ m, v = .map m ∧ ((m = none ∧ kvs.length = 0) ∨ ∃ r es clock, m = some r ∧ w.heap[r]? = some (.map es clock) ∧ es.size = kvs.length) := by
 simp only [Rep] at h
 rcases h with ⟨e, rfl⟩ | ⟨r, es, clock, e, _, hb, hm, _⟩
 ·simp only [List.cons.injEq, and_true] at e
  exact ⟨none, e, .inl ⟨rfl, rfl⟩⟩
 ·simp only [List.cons.injEq, and_true] at e
  exact ⟨some r, e, .inr ⟨r, es, clock, rfl, hb, by rw [hm.1, List.length_map]⟩⟩
section
variable {P : Program} {ops : Array Oper} {Q : Exit → Act → World → Prop} {N : Nat} {rest : List Oper} {L : Sl} {w : World} {d : Nat} {ty : TypeId} {pos : String} {aft : Array Edge}
theorem wl_lenMap {x : Operand} {t kt et : TypeId} {m : Option Nat} {n : Nat} (hx : ev L x = some (.map m)) (hu : P.underlying t = some (.map kt et)) (hm : (m = none ∧ n = 0) ∨ ∃ r es clock, m = some r ∧ w.heap[r]? = some (.map es clock) ∧ es.size = n) (hd : Nat.blt d N = true)
  (h : WL rest P ops Q N ((d, .int .i64 (n : Int)) :: L) w) : WL (⟨some d, .call ⟨.builtin .len, #[x], #[t]⟩, ty, pos, aft, none⟩ :: rest) P ops Q N L w := by
 intro a k
 refine st_of (o := ⟨some d, .call ⟨.builtin .len, #[x], #[t]⟩, ty, pos, aft, none⟩) rfl ?_ (h _ (k.put _ hd))
 simp [execOp, resolve, k.eval hx, invoke, builtin, run_lenMap w m n hu hm]
end
end Go.Proofs.YtgpnpfiafcakfaaDoor.Rdk

namespace Go.Proofs.YtgpnpfiafcakfaaDoor.Rdk
open Go Go.RowKit Go.Sort Go.Lib Go.Shelf
set_option maxRecDepth 100000
noncomputable def siT : TypeInfo := (Tryd.prog.info? 92).get (by kernel_rfl)
noncomputable def siE : TypeInfo := (Tryd.prog.info? 48).get (by kernel_rfl)
theorem siK (n : Nat) (h2 : 2 ≤ n) : Lib.swapperK n siE 10 = 6 := by
 have a : siE.hasPointers = false := by kernel_rfl
 have b : siE.bytes = 4 := by kernel_rfl
 have c : (n == 0) = false := by simp; omega
 have d : (n == 1) = false := by simp; omega
 simp [Lib.swapperK, a, b, c, d]
set_option maxHeartbeats 2000000 in
theorem less_u32 (blk off c Bs size : Nat) (W : World) (G : Nat → Int) (hs : W.cell? ⟨Bs, 0, none⟩ = some (.slice (some ⟨blk, off, none⟩) size c))
  (hc : ∀ t, t < size → W.cell? ⟨blk, off + t, none⟩ = some (.int .u32 (G t))) (i j : Nat) (hi : i < size) (hj : j < size) :
  Calls Tryd.prog 47 #[.int .i64 i, .int .i64 j, .pointer (some ⟨Bs, 0, none⟩)] W fun e w' => e = .returned (.bool (decide (G i < G j))) ∧ ∃ q, w' = W.drewN q := by
 have ci := hc i hi
 have cj := hc j hj
 go_enter Tryd.func47, Tryd.ntmps47
 go_wp2
 go_quiet (fail)
 go_wp2
 go_ret
 exact ⟨rfl, nq, rfl⟩
abbrev encU : Int → Value := Value.int .u32
theorem holds_row {w : World} {B blk cap : Nat} {e : TypeId} {zs : List Int} (h : w.ownsRow B e 1 (.slice (some ⟨blk, 0, none⟩) zs.length cap) zs.length (zs.map encU)) : Holds encU w blk 0 zs.toArray := by
 obtain ⟨_, ⟨he, _⟩ | ⟨g, cap', cur, he, _, hheap, hle, hcap, hcs, htake⟩⟩ := h
 ·cases he
 ·cases he
  intro j hj
  have hj' : j < zs.length := by simpa using hj
  have hx : cur[j]? = some (encU zs[j]) := by
   have : (cur.toList.take (zs.length * 1))[j]? = some (encU zs[j]) := by rw [htake]; simp [hj']
   rw [List.getElem?_take] at this
   split at this
   ·simpa using this
   ·cases this
  refine ⟨?_, by simp [World.frozen?, hheap]⟩
  rw [show (zs.toArray)[j]! = zs[j] by simp [hj']]
  simp [World.cell?, hheap, hx]
theorem sorted_row {w w' : World} {blk n : Nat} {cur : Array Value} {e : TypeId} {d' : Array Int} {os : Array Obj} (hb : w.heap[blk]? = some (.cells cur e (0, 0))) (hsz : d'.size ≤ cur.size) (hw : w' = grow (putRow encU (Sort.ahead w n) blk 0 d') os) :
  CellsAt w' blk 0 (d'.toList.map encU) ∧ Chg (· = blk) w w' := by
 subst hw
 have hlt : blk < w.heap.size := (Array.getElem?_eq_some_iff.1 hb).1
 have hbl : (putRow encU (Sort.ahead w n) blk 0 d').heap[blk]? = some (.cells (putCells encU 0 d' cur) e (0, 0)) := by
  simp [putRow, mapBlock, Sort.ahead, Array.getElem?_modify, hb, onCells]
 constructor
 ·refine ⟨putCells encU 0 d' cur, e, (0, 0), by rw [heap_grow_old _ _ (by simpa using hlt)]; exact hbl, by simp [putCells]; omega, fun i v hv => ?_⟩
  rw [List.getElem?_map] at hv
  have hi : i < d'.size := by
   cases hx : d'.toList[i]? with
   | none => rw [hx] at hv; cases hv
   | some x => simpa using (List.getElem?_eq_some_iff.1 hx).1
  simp only [Array.getElem?_toList, Array.getElem?_eq_getElem hi, Option.map_some, Option.some.injEq] at hv
  have hic : i < cur.size := by omega
  simp only [Nat.zero_add, putCells, Array.getElem?_mapIdx, Array.getElem?_eq_getElem hic, Option.map_some, Nat.zero_le, true_and, if_pos hi, Nat.sub_zero]
  rw [getElem!_pos d' i hi, hv]
 ·refine ⟨rfl, rfl, rfl, by simp, fun k hk hne => ?_⟩
  rw [heap_grow_old _ _ (by simpa using hk)]
  have : blk ≠ k := fun e => hne e.symm
  simp [putRow, mapBlock, Sort.ahead, Array.getElem?_modify, this]
theorem tiny_sorted : ∀ (zs : List Int), zs.length ≤ 1 → zs.Pairwise (fun x y => x ≤ y)
 | [], _ => List.Pairwise.nil
 | [_], _ => List.pairwise_singleton _ _
theorem fn_sortTiny (p : Option Addr) (n c : Nat) (h1 : n ≤ 1) (Bs : Nat) (w : World) :
  Calls Tryd.prog 46 #[.iface 92 (.slice p n c), .func (.func 47) #[] #[.pointer (some ⟨Bs, 0, none⟩)]] w fun e w' => e = .returned (.tuple #[]) ∧ ∃ os, w' = grow w os := by
 have hK : Lib.swapperK n siE 10 = n + 1 := by
  rcases Nat.eq_zero_or_pos n with h | h
  ·subst h; simp [Lib.swapperK]
  ·obtain rfl : n = 1 := by omega
   simp [Lib.swapperK]
 exact Any.sort_Slice_tiny Tryd.gl6 92 48 siT siE (by kernel_rfl) (by kernel_rfl) (by kernel_rfl) (by kernel_rfl) 10 (fun _ => by kernel_rfl) p n c h1 (64 + n) (by
  rw [hK]
  rcases Nat.eq_zero_or_pos n with h | h
  ·subst h; kernel_rfl
  ·obtain rfl : n = 1 := by omega
   kernel_rfl) (.func 47) #[] #[.pointer (some ⟨Bs, 0, none⟩)] w
set_option maxHeartbeats 2000000 in
theorem fn_sort (w : World) (B blk cap Bs : Nat) (e0 : TypeId) (zs : List Int) (hlen : zs.length < 4611686018427387904) (hbs : Box w Bs [.slice (some ⟨blk, 0, none⟩) zs.length cap] e0)
  (hrow : w.ownsRow B 48 1 (.slice (some ⟨blk, 0, none⟩) zs.length cap) zs.length (zs.map encU)) (hne : Bs ≠ blk) :
  Calls Tryd.prog 46 #[.iface 92 (.slice (some ⟨blk, 0, none⟩) zs.length cap), .func (.func 47) #[] #[.pointer (some ⟨Bs, 0, none⟩)]] w fun e w' =>
   e = .returned (.tuple #[]) ∧ ∃ zs' : List Int, zs'.Perm zs ∧ zs'.Pairwise (fun x y => x ≤ y) ∧ CellsAt w' blk 0 (zs'.map encU) ∧ Chg (· = blk) w w' := by
 have hH := holds_row hrow
 obtain ⟨hxl, ⟨he, _⟩ | ⟨g, cap', cur, he, hBg, hheap, hle, hcap, hcs, htake⟩⟩ := id hrow
 ·cases he
 cases he
 have hblk : blk < w.heap.size := (Array.getElem?_eq_some_iff.1 hheap).1
 have hsz : zs.toArray.size = zs.length := by simp
 by_cases h2 : 2 ≤ zs.length
 ·have hless : LessReads Tryd.prog 47 #[.pointer (some ⟨Bs, 0, none⟩)] encU ltInt blk 0 zs.toArray.size w := by
   intro m os dk hs i j hi hj
   rw [hsz] at hs hi hj
   refine less_u32 blk 0 cap Bs zs.length _ (fun t => dk[t]!) ?_ (fun t ht => ?_) i j hi hj
   ·unfold sortWorld
    rw [cell?_grow _ _ _ (by simpa using hbs.lt), cell?_putRow_other _ _ blk 0 dk _ (Or.inl hne)]
    exact hbs.cell (i := 0) rfl
   ·unfold sortWorld
    rw [cell?_grow _ _ _ (by simpa using hblk)]
    exact cell?_putRow encU (Sort.ahead w m) blk 0 zs.toArray dk (holds_ahead _ _ _ _ _ _ hH) (by rw [hs, hsz]) t (by omega)
  have hS := Any.sort_Slice_sorted Tryd.gl6 92 48 siT siE (by kernel_rfl) (by kernel_rfl) (by kernel_rfl) (by kernel_rfl) 10 (fun _ => by kernel_rfl) (by kernel_rfl) (fun _ => by kernel_rfl) encU (fun _ => rfl) ltInt swo_ltInt 47 _
   (enters_of Tryd.func47 (by kernel_rfl) rfl) blk 0 cap zs.toArray (by rw [hsz]; exact h2) (by rw [hsz]; exact hlen) 69 (by rw [hsz, siK _ h2]; kernel_rfl) true
   (fun args W => run_callFunc_extern Tryd.func69 (by kernel_rfl) (by kernel_rfl) (by kernel_rfl) (e := Extern.ReflectliteSwapper.swap true) (by kernel_rfl) args W) w hless hH hblk
  change Calls Tryd.prog 46 _ _ _ at hS
  rw [hsz] at hS
  refine hS.mono (fun e w' h => ?_)
  obtain ⟨h1, d', n, os, hp, hso, hw⟩ := h
  have hd : d'.size = zs.length := by rw [hp.1, hsz]
  refine ⟨h1, d'.toList, ?_, ?_, ?_⟩
  ·have := hp.2.2
   rw [← hd] at this
   have e1 : d'.toList.take zs.length = d'.toList := List.take_of_length_le (by simp; omega)
   simpa [hd, e1] using this
  ·rw [List.pairwise_iff_getElem]
   intro i j hi hj hij
   have hi' : i < d'.size := by simpa using hi
   have hj' : j < d'.size := by simpa using hj
   have := hso i j (Nat.zero_le _) hij (by omega)
   rw [getElem!_pos d' i hi', getElem!_pos d' j hj'] at this
   simp only [ltInt, decide_eq_false_iff_not] at this
   simp only [Array.getElem_toList]
   omega
  ·exact sorted_row hheap (by rw [hcs, hd]; omega) hw
 ·have hn : zs.length ≤ 1 := by omega
  have hS := fn_sortTiny (some ⟨blk, 0, none⟩) zs.length cap hn Bs w
  refine hS.mono (fun e w' h => ?_)
  obtain ⟨h1, os, hw⟩ := h
  refine ⟨h1, zs, List.Perm.refl _, ?_, ?_⟩
  ·exact tiny_sorted zs hn
  ·subst hw
   refine ⟨⟨cur, 48, (0, 0), by rw [heap_grow_old _ _ hblk]; exact hheap, by rw [List.length_map]; omega, fun i v hv => ?_⟩, ⟨rfl, rfl, rfl, by simp, fun k hk _ => heap_grow_old _ _ hk⟩⟩
   rw [← htake, List.getElem?_take] at hv
   split at hv
   ·simpa using hv
   ·cases hv
end Go.Proofs.YtgpnpfiafcakfaaDoor.Rdk

namespace Go.Proofs.YtgpnpfiafcakfaaDoor.Ea
open Go Go.RowKit Rdk
set_option maxRecDepth 100000
theorem rt_u32 : rowTy Tryd.prog 92 48 1 = true := by kernel_rfl
theorem to_u32s : tyOne Tryd.prog 92 = true := by kernel_rfl
theorem es_u32s : elemSize Tryd.prog 92 = some 1 := by kernel_rfl
theorem el_u32s : (elemSize Tryd.prog 92).isSome = true := by kernel_rfl
theorem un_u32s : Tryd.prog.underlying 92 = some (.slice 48) := by kernel_rfl
theorem zv_u32s (w : World) : (zeroValue 92).run Tryd.prog w = .ok (.slice none 0 0) w := by kernel_rfl
theorem ne_u32s : (92 : Nat) ≠ 48 := by decide
theorem rising_len : ∀ (l : List Nat) (lo M : Nat), l.Pairwise (· < ·) → (∀ x ∈ l, lo ≤ x ∧ x < M) → l.length ≤ M - lo
 | [], _, _, _, _ => by simp
 | x :: l, lo, M, hp, h => by
  have hp' := List.pairwise_cons.1 hp
  have hx := h x (by simp)
  have := rising_len l (x + 1) M hp'.2 (fun y hy => ⟨hp'.1 y hy, (h y (by simp [hy])).2⟩)
  simp only [List.length_cons]; omega
theorem row_block {w : World} {B e sz n g : Nat} {d : Value} {xs : List Value} (h : w.ownsRow B e sz d n xs) (hg : d.ownBlock = some g) : ∃ cur, w.heap[g]? = some (.cells cur e (0, 0)) := by
 rcases h.2 with ⟨rfl, _⟩ | ⟨g', cap', cur, rfl, _, hheap, _⟩
 ·simp [Value.ownBlock] at hg
 ·simp only [Value.ownBlock, Option.some.injEq] at hg; subst hg; exact ⟨cur, hheap⟩
theorem Row.kept {w w' : World} {B e sz n : Nat} {d : Value} {xs : List Value} {row : Option Nat} (h : w.ownsRow B e sz d n xs) (hg : w.grownBy w' row) (hne : d.ownBlock = none ∨ d.ownBlock ≠ row) : w'.ownsRow B e sz d n xs :=
 World.ownsRow.kept h hg hne
theorem nodup_one {α β : Type} (f : α → β) : ∀ (l : List α), (l.map f).Nodup → ∀ x ∈ l, ∀ y ∈ l, f x = f y → x = y
 | [], _, x, hx, _, _, _ => by cases hx
 | a :: l, hn, x, hx, y, hy, h => by
  simp only [List.map_cons, List.nodup_cons] at hn
  rcases List.mem_cons.1 hx with e1 | h1
  ·rcases List.mem_cons.1 hy with e2 | h2
   ·rw [e1, e2]
   ·exact (hn.1 (List.mem_map.2 ⟨y, h2, by rw [← h, e1]⟩)).elim
  ·rcases List.mem_cons.1 hy with e2 | h2
   ·exact (hn.1 (List.mem_map.2 ⟨x, h1, by rw [h, e2]⟩)).elim
   ·exact nodup_one f l hn.2 x h1 y h2 h
theorem leftOf_nil (es : Array MapEntry) : leftOf es #[] = es := by
 unfold leftOf
 exact Array.filter_eq_self.2 (by simp)
set_option maxHeartbeats 4000000 in
theorem fn_eachG (w : World) (B b off f : Nat) (bs : List Value) (kvs : List (Nat × D)) (v : Value) (S : Nat → Prop) (Inv : Nat → World → World → Prop) (hf : isFn Tryd.prog f = true) (hkeys : ∀ k ∈ kvs.map (·.1), k < 4294967296) (hb : b < B) (hc : w.cell? ⟨b, off, none⟩ = some v) (hr : Rep (Lo B) w (.mp kvs) [v]) (hB : B ≤ w.heap.size)
  (hS : ∀ j, S j → B ≤ j ∧ j < w.heap.size) (h0 : ∀ w6, Chg (fun j => w.heap.size ≤ j) w w6 → Inv 0 w6 w6)
  (hstep : ∀ (i : Nat) (hi : i < kvs.length) (w6 w' : World) (en : Value), Inv i w6 w' → Chg (fun j => w.heap.size ≤ j) w w6 → Chg S w6 w' → Rep (Lo B) w' kvs[i].2 [en] →
   Calls Tryd.prog f (([.int .u32 ((kvs[i].1 : Nat) : Int), en] ++ bs).toArray) w' fun e w'' => e = .returned (.tuple #[]) ∧ Inv (i + 1) w6 w'' ∧ Chg S w6 w'') :
  Calls Tryd.prog 20 #[.pointer (some ⟨b, off, none⟩), .func (.func f) #[] bs.toArray] w fun en w' => en = .returned (.tuple #[]) ∧ ∃ w6, Chg (fun j => w.heap.size ≤ j) w w6 ∧ Inv kvs.length w6 w' ∧ Chg S w6 w' := by
 obtain ⟨m, rfl, hm⟩ := mp_len hr
 refine enter (vs := [.pointer (some ⟨b, off, none⟩), .func (.func f) #[] bs.toArray]) Tryd.func20 rfl Tryd.ntmps20 rfl ?_
 refine wc_seq (wc_seq (wc_region ?_))
 refine wt rfl rfl ?_
 refine wt rfl rfl ?_
 refine wt rfl rfl ?_
 refine wl_load rfl to_map rfl hc ?_
 refine wl_lenMap rfl um hm rfl ?_
 refine wt rfl rfl ?_
 refine wl_nil (qk_thn ?_)
 by_cases hz : kvs = []
 ·subst hz
  refine wc_yes rfl rfl (wc_ret (qk_thn_ret (qk_ret0 rfl ⟨rfl, w, Chg.refl _ _, h0 w (Chg.refl _ _), Chg.refl _ _⟩)))
 have hpos : 0 < kvs.length := List.length_pos_iff.2 hz
 refine wc_no rfl (by simp; omega) (wc_skip (qk_thn ?_))
 simp only [Rep] at hr
 rcases hr with ⟨_, h0⟩ | ⟨r, es, clock, hrm, hrB, hmap, hmapd, hks⟩
 ·exact absurd h0 hz
 simp only [List.cons.injEq, Value.map.injEq, and_true] at hrm
 subst hrm
 rw [repKs_iff] at hks
 have hlen32 : kvs.length ≤ 4294967296 := by
  have := rising_len (kvs.map (·.1)) 0 4294967296 hmapd.2.2.2 (fun x hx => ⟨Nat.zero_le _, hkeys x hx⟩)
  simpa using this
 have hbw : b < w.heap.size := by omega
 have hrw : r < w.heap.size := by have : r < B := hrB; omega
 refine wc_seq (wc_region ?_)
 refine wt rfl rfl ?_
 refine wt rfl rfl ?_
 refine wt rfl rfl ?_
 refine wl_load rfl to_map rfl hc ?_
 refine wl_lenMap rfl um hm rfl ?_
 refine wl_makeRow (B := w.heap.size) (n := kvs.length) rt_u32 rfl (by simp only [many]; omega) rfl (Nat.le_refl _) (fun w1 hrow1 hg1 hs1 => ?_)
 refine wl_alloc zv_u32s rfl rfl (fun w2 hb2 hg2 hs2 => ?_)
 refine wl_storeB rfl rfl to_u32s rfl hb2 rfl (fun w3 hb3' hg3 hs3 => ?_)
 have hb3 : Box w3 w1.heap.size [.slice (some ⟨w.heap.size, 0, none⟩) 0 kvs.length] 92 := hb3'
 clear hb3'
 have hrow3 := Row.kept (Row.kept hrow1 hg2 (.inr (by simp [Value.ownBlock]))) hg3 (.inr (by simp [Value.ownBlock]; omega))
 have hc13 : Chg (fun j => w.heap.size ≤ j) w w3 := ((Chg.grown0 hg1).trans (Chg.grown0 hg2)).trans ((Chg.grown hg3).wide (fun j hj => by have : j = w1.heap.size := hj; omega))
 have hmap3 : w3.heap[r]? = some (.map es clock) := (hc13.block r hrw (by omega)).trans hmap
 have hcell3 : w3.cell? ⟨b, off, none⟩ = some (.map (some r)) := by
  rw [← hc]; simp only [World.cell?, hc13.block b hbw (by omega)]
 refine wl_nil (qk_thn ?_)
 refine wc_seq (wc_seq (wc_region ?_))
 refine wt rfl rfl ?_
 refine wt rfl rfl ?_
 refine wt rfl rfl ?_
 refine wl_load rfl to_map rfl hcell3 ?_
 refine wl_range rfl um hmap3 rfl ?_
 have hit4 : (w3.alloc (.mapIter (some r) clock #[] clock)).heap[w3.heap.size]? = some (.mapIter (some r) clock #[] clock) := heap_alloc_new _ _
 have hs4 : (w3.alloc (.mapIter (some r) clock #[] clock)).heap.size = w3.heap.size + 1 := by simp
 have hg4 := grown_alloc w3 (.mapIter (some r) clock #[] clock)
 generalize w3.alloc (.mapIter (some r) clock #[] clock) = w4 at *
 have hb4 := hb3.kept hg4 (by simp)
 have hrow4 := Row.kept hrow3 hg4 (.inr (by simp [Value.ownBlock]))
 have hc14 : Chg (fun j => w.heap.size ≤ j) w w4 := hc13.trans (Chg.grown0 hg4)
 refine wl_nil (qk_thn ?_)
 refine wc_block (wc_loop (α := List Int × Value × Array Nat × Nat) (fun _ => [(0, .pointer (some ⟨b, off, none⟩)), (1, .func (.func f) #[] bs.toArray), (4, .pointer (some ⟨w1.heap.size, 0, none⟩)), (24, .pointer (some ⟨w3.heap.size, 0, none⟩))])
  (fun z w' => Box w' w1.heap.size [z.2.1] 92 ∧ w'.ownsRow w.heap.size 48 1 z.2.1 z.1.length (z.1.map encU) ∧ w'.heap[w3.heap.size]? = some (.mapIter (some r) clock z.2.2.1 z.2.2.2) ∧ clock ≤ z.2.2.2 ∧
   (z.1.map encU ++ (leftOf es z.2.2.1).toList.map (·.key)).Perm (es.toList.map (·.key)) ∧ Chg (fun j => w.heap.size ≤ j) w w')
  (fun z => (leftOf es z.2.2.1).size) ([], .slice (some ⟨w.heap.size, 0, none⟩) 0 kvs.length, #[], clock) ⟨rfl, rfl, rfl, rfl, trivial⟩ ⟨hb4, hrow4, hit4, Nat.le_refl _, ?_, hc14⟩ ?_)
 ·simp [leftOf_nil]
 ·rintro ⟨zs, dv, seen, c0⟩ w5 ⟨hb5, hrow5, hit5, hcl5, hperm5, hc5⟩
  simp only [] at hb5 hrow5 hit5 hcl5 hperm5
  have hmap5 : w5.heap[r]? = some (.map es clock) := (hc5.block r hrw (by omega)).trans hmap
  refine wc_seq (wc_region ?_)
  refine wl_next rfl hit5 hmap5 hmapd.2.1.1 hcl5 rfl (fun hleft => ?_) (fun en hen w6 hit6 hc6 hs6 => ?_)
  ·-- nothing is left
   have hl0 : (leftOf es seen).toList = [] := List.length_eq_zero_iff.1 (by simpa using hleft)
   rw [hl0] at hperm5
   simp only [List.map_nil, List.append_nil] at hperm5
   have hzl : zs.length = kvs.length := by
    have := hperm5.length_eq
    simp only [List.length_map, Array.length_toList] at this
    rw [this, hmapd.1, List.length_map]
   obtain ⟨g, cap, rfl, hBg, hglt, _⟩ := Row.cells hrow5 (by omega)
   obtain ⟨cur, hcur⟩ := row_block (g := g) hrow5 rfl
   have hog : w1.heap.size ≠ g := by
    intro e'
    have h1 : w5.heap[w1.heap.size]? = some (.cells cur 48 (0, 0)) := by rw [e']; exact hcur
    have h2 := hb5
    simp only [Box, h1, Option.some.injEq, Obj.cells.injEq] at h2
    exact ne_u32s h2.2.1.symm
   refine wl_extract rfl rfl rfl ?_
   repeat (with_reducible first|apply wc_seq|apply wl_nil|apply qk_thn)
   refine wc_no rfl rfl ?_
   repeat (with_reducible first|apply wc_seq|apply wc_region|apply qk_thn|apply wc_exit|apply qk_thn_exit|apply qk_in_exit|apply qk_round_exit)
   refine wl_loadB rfl to_u32s rfl hb5 rfl ?_
   refine wl_makeIface rfl un_u32s rfl ?_
   refine wl_makeFunc (caps := [.tmp 4]) rfl rfl ?_
   refine wl_call rfl (by kernel_rfl) rfl ((fn_sort w5 w.heap.size g cap w1.heap.size _ zs (by omega) hb5 hrow5 hog).mono ?_)
   rintro en w6 ⟨rfl, zs', hp', hso', hcs6, hc6⟩
   refine ⟨_, rfl, ?_⟩
   have hzz : zs' = (kvs.map (·.1)).map (fun k : Nat => (k : Int)) := keys_sorted hmapd (fun k hk => by
    obtain ⟨kv, hkv, rfl⟩ := List.mem_map.1 hk
    obtain ⟨x, hx, hxk, _⟩ := hks kv hkv
    exact ⟨x, hx, hxk⟩) hperm5 hp' hso'
   subst hzz
   have hc06 : Chg (fun j => w.heap.size ≤ j) w w6 := hc5.trans (hc6.wide (fun j hj => by have : j = g := hj; omega))
   have hw6 : Below w.heap.size w w6 := ⟨hc06.os, hc06.tape, hc06.output, hc06.size, fun k hk => hc06.block k hk (by omega)⟩
   have hb6 := hb5.chg hc6 hog
   repeat (with_reducible first|apply wc_seq|apply wc_region|apply wl_nil|apply qk_thn)
   refine wl_loadB rfl to_u32s rfl hb6 rfl ?_
   refine wl_len rfl el_u32s rfl ?_
   repeat first|(with_reducible first|apply wl_nil|apply qk_thn|apply wc_block)|((with_reducible apply ws);exact rfl;exact rfl)
   refine wc_loop (α := Nat) (fun z => [(0, .pointer (some ⟨b, off, none⟩)), (1, .func (.func f) #[] bs.toArray), (37, .slice (some ⟨g, 0, none⟩) zs.length cap), (38, .int .i64 (zs.length : Int)), (39, .int .i64 (z : Int))])
    (fun z w' => z ≤ kvs.length ∧ Inv z w6 w' ∧ Chg S w6 w')
    (fun z => kvs.length - z) 0 ⟨rfl, rfl, rfl, rfl, rfl, trivial⟩ ⟨Nat.zero_le _, h0 w6 hc06, Chg.refl _ _⟩ ?_
   rintro i w7 ⟨hin, hI7, hc7⟩
   have hs7 := hc7.size
   have hs6 := hc06.size
   repeat first|(with_reducible first|apply wc_seq|apply wc_region|apply wl_nil|apply qk_thn)|((with_reducible apply ws);exact rfl;exact rfl)
   by_cases hi : i < kvs.length
   ·refine wc_yes rfl (by simp; omega) ?_
    repeat (with_reducible first|apply wc_seq|apply wc_region|apply qk_thn|apply wc_block|apply wc_skip)
    have hkeep : ∀ j, j < w.heap.size → ¬ S j → w7.heap[j]? = w.heap[j]? := fun j hj h1 => by
     rw [hc7.block j (by omega) h1]
     exact hc06.block j hj (by omega)
    have hnS : ∀ j, j < B → ¬ S j := fun j hj h => by have := (hS j h).1; omega
    have hgk : w7.heap[g]? = w6.heap[g]? := hc7.block g (by have := hc6.size; omega) (fun h => by have := (hS g h).2; omega)
    refine wl_indexAddr rfl rfl es_u32s rfl (by omega) ?_
    refine wl_load rfl to_u32 rfl (v := .int .u32 ((kvs[i].1 : Nat) : Int)) ?_ ?_
    ·have h1 := (hcs6.of_block hgk).cell (i := i) (v := encU ((kvs[i].1 : Nat) : Int)) (by simp [hi])
     rw [Nat.mul_one]; exact h1
    repeat first|(with_reducible first|apply wc_region|apply wl_nil|apply qk_thn)|((with_reducible apply ws);exact rfl;exact rfl)
    refine wt rfl rfl ?_
    refine wl_load rfl to_map rfl (v := .map (some r)) ?_ ?_
    ·rw [← hc]
     show w7.cell? ⟨b, off, none⟩ = _
     simp only [World.cell?, hkeep b hbw (hnS b hb)]
    have hrB' : r < B := hrB
    have hmap7 : w7.heap[r]? = some (.map es clock) := (hkeep r hrw (hnS r hrB')).trans hmap
    have hkin : kvs[i] ∈ kvs := List.getElem_mem hi
    obtain ⟨x0, hx0, hx0k, hx0r⟩ := hks kvs[i] hkin
    repeat ((with_reducible apply ws);exact rfl;exact rfl)
    refine wl_lookup rfl rfl um uk hmap7 hmapd ⟨x0, hx0, hx0k⟩ rfl (fun en hen hek => ?_)
    obtain rfl : en = x0 := nodup_one (·.key) es.toList hmapd.2.1.2.2 en (Array.mem_toList_iff.2 hen) x0 (Array.mem_toList_iff.2 hx0) (by rw [hek, hx0k])
    have hr7 : Rep (Lo B) w7 kvs[i].2 [en.val] := Rep.mono (fun q hq => ⟨hq, hkeep q (by have h3 : q < B := hq; omega) (hnS q hq)⟩) _ _ hx0r
    refine wl_callV (vs := [.int .u32 ((kvs[i].1 : Nat) : Int), en.val]) (bs := bs) (args := [.tmp 44, .tmp 50]) rfl rfl hf rfl ((hstep i hi w6 w7 en.val hI7 hc06 hc7 hr7).mono ?_)
    rintro en' w8 ⟨rfl, hI8, hc8⟩
    refine ⟨_, rfl, ?_⟩
    repeat (with_reducible first|apply wc_region|apply wl_nil|apply qk_thn|apply qk_in)
    refine wl_add rfl rfl rfl (r := ((i + 1 : Nat) : Int)) (by rw [IntKind.wrap_i64]; omega) ?_
    repeat first|(with_reducible apply wl_nil)|((with_reducible apply ws);exact rfl;exact rfl)
    refine qk_round (i + 1) ⟨rfl, rfl, rfl, rfl, rfl, trivial⟩ ⟨hi, hI8, hc8⟩ (by show kvs.length - (i + 1) < kvs.length - i; omega)
   ·refine wc_no rfl (by simp; omega) ?_
    repeat (with_reducible first|apply wc_exit|apply qk_thn_exit|apply qk_in_exit|apply qk_round_exit)
    have hie : i = kvs.length := by omega
    subst hie
    exact qk_end0 rfl ⟨rfl, w6, hc06, hI7, hc7⟩
  ·-- one more key
   have hen' : en ∈ es.toList := by
    simp only [leftOf, Array.toList_filter, List.mem_filter] at hen
    exact hen.1
   obtain ⟨k, _, hek⟩ := hmapd.2.2.1 en hen'
   have hpush := leftOf_push hen hmapd.2.1.2.1
   have hzle : zs.length < es.size := by
    have h1 := hperm5.length_eq
    have h2 := hpush.length_eq
    simp only [List.length_append, List.length_map, Array.length_toList, List.length_cons] at h1 h2
    omega
   have hes : es.size = kvs.length := by rw [hmapd.1, List.length_map]
   have hs5 := hc5.size
   have hits : w3.heap.size < w5.heap.size := (Array.getElem?_eq_some_iff.1 hit5).1
   have hne5 : dv.ownBlock ≠ some w3.heap.size := by
    intro h
    obtain ⟨cur, hcur⟩ := row_block hrow5 h
    rw [hcur] at hit5; cases hit5
   have hno5 : dv.ownBlock ≠ some w1.heap.size := by
    intro h
    obtain ⟨cur, hcur⟩ := row_block hrow5 h
    have h2 := hb5
    simp only [Box, hcur, Option.some.injEq, Obj.cells.injEq] at h2
    exact ne_u32s h2.2.1.symm
   have hib : w1.heap.size ≠ w3.heap.size := by omega
   have hb6 := hb5.chg hc6 (fun h : w1.heap.size = w3.heap.size => hib h)
   have hg6 : w5.grownBy w6 (some w3.heap.size) := ⟨hc6.os, hc6.tape, hc6.output, hc6.size, fun j hj hn => hc6.block j hj (fun h => hn (by rw [h]))⟩
   have hrow6 := Row.kept hrow5 hg6 (.inr hne5)
   have hmap6 : w6.heap[r]? = some (.map es clock) := (hc6.block r (by omega) (fun h : r = w3.heap.size => by omega)).trans hmap5
   refine wl_extract rfl rfl rfl ?_
   repeat (with_reducible first|apply wc_seq|apply wl_nil|apply qk_thn)
   refine wc_yes rfl rfl ?_
   repeat (with_reducible first|apply wc_seq|apply wc_region|apply qk_thn|apply wc_block|apply wc_skip)
   refine wl_entry rfl hit6 hmap6 hen' hmapd.2.1.2.1 rfl ?_
   rw [hek]
   refine wl_extract rfl rfl rfl ?_
   repeat first|(with_reducible first|apply wc_region|apply wl_nil|apply qk_thn)|((with_reducible apply ws);exact rfl;exact rfl)
   refine wl_loadB rfl to_u32s rfl hb6 rfl ?_
   repeat ((with_reducible apply ws);exact rfl;exact rfl)
   refine wl_app1 (v := .int .u32 (k : Int)) (cs := [.int .u32 (k : Int)]) (dv := dv) (xs := zs.map encU) (n := zs.length) rt_u32 rfl rfl rfl rfl rfl rfl rfl rfl hrow6 (by omega) (by simp only [many]; omega) (fun d7 w7 hrow7 hg7 => ?_)
   have hb7 := hb6.kept hg7.grown (fun h => hno5 h.symm)
   have hit7 : w7.heap[w3.heap.size]? = some (.mapIter (some r) clock (seen.push en.born) clock) := (hg7.grown.block _ (by omega) (fun h => hne5 h.symm)).trans hit6
   obtain ⟨a7, c7, hd7⟩ := Row.shape hrow7
   refine wl_storeB rfl rfl to_u32s (by rw [hd7]; rfl) hb7 rfl (fun w8 hb8 hg8 hs8 => ?_)
   have hno7 : d7.ownBlock ≠ some w1.heap.size := by
    intro h
    obtain ⟨cur, hcur⟩ := row_block hrow7 h
    have h2 := hb7
    simp only [Box, hcur, Option.some.injEq, Obj.cells.injEq] at h2
    exact ne_u32s h2.2.1.symm
   have hrow8 := Row.kept hrow7 hg8 (.inr hno7)
   have hit8 : w8.heap[w3.heap.size]? = some (.mapIter (some r) clock (seen.push en.born) clock) := (hg8.block _ (by have := hg7.grown.size; omega) (fun h => hib (by simpa using h.symm))).trans hit7
   have hge := Row.ge hrow5
   have hc8 : Chg (fun j => w.heap.size ≤ j) w w8 := ((hc5.trans (hc6.wide (fun j hj => by have : j = w3.heap.size := hj; omega))).trans
    (⟨hg7.grown.os, hg7.grown.tape, hg7.grown.output, hg7.grown.size, fun j hj hn => hg7.grown.block j hj (fun h => hn (hge j h.symm))⟩ : Chg (fun j => w.heap.size ≤ j) w6 w7)).trans ((Chg.grown hg8).wide (fun j hj => by have : j = w1.heap.size := hj; omega))
   repeat (with_reducible first|apply wl_nil|apply qk_in)
   refine qk_round (zs ++ [(k : Int)], d7, seen.push en.born, clock) ⟨rfl, rfl, rfl, rfl, trivial⟩ ⟨hb8, ?_, hit8, Nat.le_refl _, ?_, hc8⟩ ?_
   ·simpa using hrow8
   ·refine List.Perm.trans ?_ hperm5
    simp only [List.map_append, List.map_cons, List.map_nil, List.append_assoc, List.cons_append, List.nil_append]
    refine List.Perm.append_left _ ?_
    have := (hpush.map (·.key)).symm
    simpa [hek, encU] using this
   ·have h2 := hpush.length_eq
    simp only [Array.length_toList, List.length_cons] at h2
    show (leftOf es (seen.push en.born)).size < (leftOf es seen).size
    omega
end Go.Proofs.YtgpnpfiafcakfaaDoor.Ea

namespace Go.Proofs.YtgpnpfiafcakfaaDoor
open Go Go.RowKit
section
set_option maxRecDepth 100000
def Fn (F : FuncId) (vs : List Value) (w : World) (R : Value → World → Prop) : Prop :=
 Calls Tryd.prog F vs.toArray w fun e w' => ∃ v, e = .returned v ∧ Below w.heap.size w w' ∧ R v w'
structure FxS where
 k : Nat
 d : Value
 xs : List UInt8
structure UvS where
 m : Nat
 d : Value
 xs : List UInt8
theorem fn_version (n most : Nat) (hn : n < 256) (hm : most < 32768) (w : World) : Fn 6 [.int .u8 (n : Int), .int .i64 (most : Int)] w fun v w' => w' = w ∧ v = .int .i64 ((n % (most + 1) : Nat) : Int) := by
 refine enter Tryd.func6 rfl Tryd.ntmps6 rfl ?_
 repeat first|(with_reducible first|apply wc_seq|apply wc_region|apply wl_nil|apply qk_thn)|((with_reducible apply ws);exact rfl;exact rfl)
 refine wl_conv .i64 rfl ti_u8 ti_i64 rfl (r := (n : Int)) (by rw [IntKind.wrap_i64]; omega) ?_
 repeat ((with_reducible apply ws);exact rfl;exact rfl)
 refine wl_add rfl rfl rfl (r := ((most + 1 : Nat) : Int)) (by rw [IntKind.wrap_i64]; omega) ?_
 refine wl_rem rfl rfl rfl (by omega) (by omega) (r := ((n % (most + 1) : Nat) : Int)) (by push_cast; rfl) ?_
 repeat first|(with_reducible first|apply wl_nil|apply qk_thn|apply wc_ret)|((with_reducible apply ws);exact rfl;exact rfl)
 exact qk_ret1 rfl rfl ⟨_, rfl, Below.refl _ _, rfl, rfl⟩
end
end Go.Proofs.YtgpnpfiafcakfaaDoor

namespace Go.Proofs.YtgpnpfiafcakfaaDoor
open Go Go.RowKit
theorem BytesAt.below {w w' : World} {v : Value} {ys : List UInt8} (h : BytesAt w v ys) (hb : Below w.heap.size w w') : BytesAt w' v ys := by
 rcases h with ⟨a, c, rfl, rfl⟩ | ⟨b, off, c, rfl, hc⟩
 ·exact .inl ⟨a, c, rfl, rfl⟩
 ·exact .inr ⟨b, off, c, rfl, hc.of_block (hb.block b hc.lt)⟩
theorem BytesAt.get {w : World} {v : Value} {ys : List UInt8} (h : BytesAt w v ys) {i : Nat} (hi : i < ys.length) : ∃ b off c, v = .slice (some ⟨b, off, none⟩) ys.length c ∧ w.cell? ⟨b, off + i * 1, none⟩ = some (.int .u8 (ys[i].toNat : Int)) := by
 rcases h with ⟨a, c, rfl, rfl⟩ | ⟨b, off, c, rfl, hc⟩
 ·simp at hi
 ·refine ⟨b, off, c, rfl, ?_⟩
  rw [Nat.mul_one]
  exact hc.cell (by simp [bv, hi])
theorem take_ne {xs ys : List UInt8} {i : Nat} (hx : i < xs.length) (hy : i < ys.length) (h : xs[i] ≠ ys[i]) : (xs == ys) = false := by
 rw [beq_eq_false_iff_ne]
 rintro rfl
 exact h rfl
theorem u8_ne {a b : UInt8} : ((a.toNat : Int) != (b.toNat : Int)) = (a != b) := by
 rw [Bool.eq_iff_iff]
 simp only [bne_iff_ne, ne_eq]
 rw [Int.ofNat_inj, UInt8.toNat_inj]
section
set_option maxRecDepth 100000
theorem fn_same (va vb : Value) (xs ys : List UInt8) (w : World) (ha : BytesAt w va xs) (hb : BytesAt w vb ys) (hx : xs.length ≤ lim) (hy : ys.length ≤ lim) :
  Fn 16 [va, vb] w fun v _ => v = .bool (xs == ys) := by
 simp only [lim] at hx hy
 obtain ⟨aa, ca, hva⟩ := ha.shape
 obtain ⟨ab, cb, hvb⟩ := hb.shape
 subst hva; subst hvb
 refine enter Tryd.func16 rfl Tryd.ntmps16 rfl ?_
 repeat first|(with_reducible first|apply wc_seq|apply wc_region|apply wl_nil|apply qk_thn)|((with_reducible apply ws);exact rfl;exact rfl)
 by_cases hl : xs.length = ys.length
 ·refine wc_no rfl (by simp [hl]) ?_
  repeat first|(with_reducible first|apply wc_seq|apply wc_region|apply wl_nil|apply qk_thn|apply wc_block|apply wc_skip)|((with_reducible apply ws);exact rfl;exact rfl)
  refine wc_loop (α := Nat) (fun i => [(13, .int .i64 (i : Int)), (12, .int .i64 (xs.length : Int)), (0, .slice aa xs.length ca), (1, .slice ab ys.length cb)]) (fun i w' => i ≤ xs.length ∧ xs.take i = ys.take i ∧ Below w.heap.size w w') (fun i => xs.length - i) 0 ⟨rfl, rfl, rfl, rfl, trivial⟩ ⟨by omega, rfl, Below.refl _ _⟩ ?_
  rintro i w1 ⟨hi, ht, hw⟩
  repeat first|(with_reducible first|apply wc_seq|apply wc_region|apply wl_nil|apply qk_thn)|((with_reducible apply ws);exact rfl;exact rfl)
  by_cases hlt : i < xs.length
  ·refine wc_yes rfl (by simpa using hlt) ?_
   repeat first|(with_reducible first|apply wc_seq|apply wc_region|apply wl_nil|apply qk_thn|apply wc_block|apply wc_skip)|((with_reducible apply ws);exact rfl;exact rfl)
   obtain ⟨b1, o1, c1, hv1, hc1⟩ := (ha.below hw).get hlt
   obtain ⟨b2, o2, c2, hv2, hc2⟩ := (hb.below hw).get (i := i) (by omega)
   simp only [Value.slice.injEq] at hv1 hv2
   obtain ⟨rfl, _, rfl⟩ := hv1
   obtain ⟨rfl, _, rfl⟩ := hv2
   refine wc_par [(0, .slice (some ⟨b1, o1, none⟩) xs.length ca), (1, .int .i64 (i : Int)), (2, .pointer (some ⟨b1, o1 + i * 1, none⟩)), (3, .int .u8 (xs[i].toNat : Int)), (4, .slice (some ⟨b2, o2, none⟩) ys.length cb), (5, .int .i64 (i : Int)), (6, .pointer (some ⟨b2, o2 + i * 1, none⟩)), (7, .int .u8 (ys[i].toNat : Int)), (8, .bool ((xs[i].toNat : Int) != (ys[i].toNat : Int)))] []
    (fun _ w' => Below w.heap.size w w' ∧ w'.cell? ⟨b1, o1 + i * 1, none⟩ = some (.int .u8 (xs[i].toNat : Int)) ∧ w'.cell? ⟨b2, o2 + i * 1, none⟩ = some (.int .u8 (ys[i].toNat : Int)))
    mixed rfl rfl rfl rfl rfl (by show ([0,1,2,3,4,5,6,7,8] : List Nat).Nodup; decide) rfl rfl (by decide) rfl rfl rfl rfl ⟨hw.drew, hc1, hc2⟩ ?_ trivial ?_
   ·intro p hp vals w' hC a k
    simp only [List.mem_cons, List.not_mem_nil, or_false] at hp
    rcases hp with rfl | rfl | rfl | rfl | rfl | rfl | rfl | rfl | rfl
    ·exact gv rfl rfl (rn_move k rfl)
    ·exact gv rfl rfl (rn_move k rfl)
    ·exact gv rfl rfl (rn_indexAddr k rfl rfl es_bytes hlt)
    ·exact gv rfl rfl (rn_load k rfl to_u8 hC.2.1)
    ·exact gv rfl rfl (rn_move k rfl)
    ·exact gv rfl rfl (rn_move k rfl)
    ·exact gv rfl rfl (rn_indexAddr k rfl rfl es_bytes (by omega))
    ·exact gv rfl rfl (rn_load k rfl to_u8 hC.2.2)
    ·exact gv rfl rfl (rn_neq k rfl rfl)
   ·rintro vals w' hvl ⟨hw', _, _⟩
    refine qk_thn ?_
    by_cases hne : xs[i] = ys[i]
    ·refine wc_no rfl (by rw [hne]; simp) ?_
     repeat (with_reducible first|apply wc_region|apply qk_thn|apply wc_skip|apply qk_in)
     refine wl_add rfl rfl rfl (r := ((i + 1 : Nat) : Int)) (by rw [IntKind.wrap_i64]; omega) ?_
     repeat first|(with_reducible apply wl_nil)|((with_reducible apply ws);exact rfl;exact rfl)
     refine qk_round (i + 1) ⟨rfl, rfl, rfl, rfl, trivial⟩ ⟨by omega, ?_, hw'⟩ (by omega)
     rw [List.take_succ_eq_append_getElem hlt, List.take_succ_eq_append_getElem (by omega), ht, hne]
    ·refine wc_yes rfl (by rw [u8_ne]; simpa using hne) ?_
     repeat first|(with_reducible first|apply wc_seq|apply wc_region|apply wl_nil|apply qk_thn|apply wc_ret|apply qk_thn_ret|apply qk_in_ret|apply qk_round_ret)|((with_reducible apply ws);exact rfl;exact rfl)
     exact qk_ret1 rfl rfl ⟨_, rfl, hw', by rw [take_ne hlt (by omega) hne]⟩
  ·refine wc_no rfl (by simpa using hlt) ?_
   repeat first|(with_reducible first|apply wc_seq|apply wc_region|apply wl_nil|apply qk_thn|apply wc_ret|apply wc_exit|apply qk_thn_exit|apply qk_in_exit|apply qk_round_exit)|((with_reducible apply ws);exact rfl;exact rfl)
   refine qk_ret1 rfl rfl ⟨_, rfl, hw, ?_⟩
   rw [List.take_of_length_le (by omega), List.take_of_length_le (by omega)] at ht
   simp [ht]
 ·refine wc_yes rfl (by simp; omega) ?_
  repeat first|(with_reducible first|apply wc_seq|apply wc_region|apply wl_nil|apply qk_thn|apply wc_ret|apply qk_thn_ret)|((with_reducible apply ws);exact rfl;exact rfl)
  refine qk_ret1 rfl rfl ⟨_, rfl, Below.refl _ _, ?_⟩
  have : (xs == ys) = false := by rw [beq_eq_false_iff_ne]; rintro rfl; exact hl rfl
  rw [this]
end
end Go.Proofs.YtgpnpfiafcakfaaDoor

namespace Go.Proofs.YtgpnpfiafcakfaaDoor
open Go Go.RowKit
section
variable {P : Program} {N : Nat} {L : Sl} {a : Act} {w : World}
end
abbrev Tg : Type := (Nat × List UInt8) × Value
def tcells (qs : List Tg) : List Value := qs.flatMap fun q => [.int .u32 q.1.1, q.2]
def step (least : Nat) (out : List (Nat × List UInt8)) (kv : Nat × List UInt8) : List (Nat × List UInt8) := if kv.1 < least then out else putTag kv.1 kv.2 out
structure UkS where
  i : Nat
  d : Value
  qs : List Tg
structure UkI (B : Nat) (w : World) (N0 tt least : Nat) (u : List (Nat × List UInt8)) (x : UkS) (w' : World) : Prop where
  le : x.i ≤ min u.length Most
  below : Below w.heap.size w w'
  row : w'.ownsRow N0 tt 2 x.d x.qs.length (tcells x.qs)
  says : x.qs.map (·.1) = (u.take x.i).foldl (step least) []
  at_ : ∀ q ∈ x.qs, Sq B w q.2 (q.1.2.map byteD)
theorem Row.kept {w w' : World} {B e sz : Nat} {d : Value} {n : Nat} {xs : List Value} {row : Option Nat} (h : w.ownsRow B e sz d n xs) (hg : w.grownBy w' row) (hne : ∀ g, d.ownBlock = some g → row ≠ some g) : w'.ownsRow B e sz d n xs := by
  refine World.ownsRow.kept h hg ?_
  cases hd : d.ownBlock with
  | none => exact .inl rfl
  | some g => exact .inr (fun e => hne g hd e.symm)
section
set_option maxRecDepth 100000
end
end Go.Proofs.YtgpnpfiafcakfaaDoor

namespace Go.Proofs.YtgpnpfiafcakfaaDoor
mutual
def Tree.ok : Tree → Prop
 | .mk n s _ l u => s.length ≤ 9223372036854775807 ∧ (∀ kv ∈ u, kv.1 < 4294967296) ∧ Tree.oks l ∧ (-9223372036854775808 ≤ n ∧ n ≤ 9223372036854775807)
def Tree.oks : List Tree → Prop
 | [] => True
 | t :: l => t.ok ∧ Tree.oks l
end
mutual
def Fld.okb : Fld → Bool
 | .mk _ _ _ _ tag _ of sub => decide (tag < 2147483647) && decide (of ≠ 11) && Nat.ble sub.length 1000 && Fld.oksb sub
def Fld.oksb : List Fld → Bool
 | [] => true
 | f :: l => f.okb && Fld.oksb l
end
theorem Tree.oks_mem : ∀ {l : List Tree}, Tree.oks l → ∀ t ∈ l, t.ok
 | [], _, t, h => by cases h
 | x :: l, h, t, ht => by
  simp only [Tree.oks] at h
  rcases List.mem_cons.1 ht with rfl | h1
  ·exact h.1
  ·exact Tree.oks_mem h.2 t h1
theorem Tree.ok_none : Tree.none.ok := by simp [Tree.none, Tree.ok, Tree.oks]
theorem Tree.ok.at {t : Tree} (h : t.ok) (i : Nat) : (att t i).ok := by
 cases t with
 | mk n s nul l u =>
  simp only [Tree.ok] at h
  unfold att
  by_cases hi : i < l.length
  ·have : (Tree.mk n s nul l u).l.getD i Tree.none = l[i] := by simp [Tree.l, hi]
   rw [this]; exact Tree.oks_mem h.2.2.1 _ (List.getElem_mem _)
  ·have : (Tree.mk n s nul l u).l.getD i Tree.none = Tree.none := by simp [Tree.l, List.getD, List.getElem?_eq_none (by omega : l.length ≤ i)]
   rw [this]; exact Tree.ok_none
theorem Tree.ok.s {t : Tree} (h : t.ok) : t.s.length ≤ 9223372036854775807 := by cases t; simp only [Tree.ok] at h; exact h.1
theorem Tree.ok.u {t : Tree} (h : t.ok) : ∀ kv ∈ t.u, kv.1 < 4294967296 := by cases t; simp only [Tree.ok] at h; exact h.2.1
theorem Tree.ok.l {t : Tree} (h : t.ok) : ∀ x ∈ t.l, x.ok := by cases t; simp only [Tree.ok] at h; exact Tree.oks_mem h.2.2.1
theorem Tree.ok.n {t : Tree} (h : t.ok) : -9223372036854775808 ≤ t.n ∧ t.n ≤ 9223372036854775807 := by cases t; simp only [Tree.ok] at h; exact h.2.2.2
mutual
def Tree.small : Tree → Prop
 | .mk _ _ _ l u => (l.length ≤ 1000000000 ∧ u.length ≤ 1000000000) ∧ Tree.smalls l
def Tree.smalls : List Tree → Prop
 | [] => True
 | t :: l => t.small ∧ Tree.smalls l
end
theorem Tree.smalls_mem : ∀ {l : List Tree}, Tree.smalls l → ∀ t ∈ l, t.small
 | [], _, t, h => by cases h
 | x :: l, h, t, ht => by
  simp only [Tree.smalls] at h
  rcases List.mem_cons.1 ht with rfl | h1
  ·exact h.1
  ·exact Tree.smalls_mem h.2 t h1
theorem Tree.small.lens {t : Tree} (h : t.small) : t.l.length ≤ 1000000000 ∧ t.u.length ≤ 1000000000 := by cases t; simp only [Tree.small] at h; exact h.1
theorem Tree.small.l {t : Tree} (h : t.small) : ∀ x ∈ t.l, x.small := by cases t; simp only [Tree.small] at h; exact Tree.smalls_mem h.2
theorem Fld.oksb_mem : ∀ {l : List Fld}, Fld.oksb l = true → ∀ f ∈ l, f.okb = true
 | [], _, t, h => by cases h
 | x :: l, h, t, ht => by
  simp only [Fld.oksb, Bool.and_eq_true] at h
  rcases List.mem_cons.1 ht with rfl | h1
  ·exact h.1
  ·exact Fld.oksb_mem h.2 t h1
theorem Fld.okb_tag {f : Fld} (h : f.okb = true) : f.tag < 2147483647 := by
 cases f; simp only [Fld.okb, Bool.and_eq_true, decide_eq_true_eq] at h; exact h.1.1.1
theorem Fld.okb_sub {f : Fld} (h : f.okb = true) : Fld.oksb f.sub = true ∧ f.sub.length ≤ 1000 := by
 cases f; simp only [Fld.okb, Bool.and_eq_true, decide_eq_true_eq] at h; exact ⟨h.2, Nat.le_of_ble_eq_true h.1.2⟩
def fsok (fs : List Fld) : Bool := Fld.oksb fs && Nat.ble fs.length 1000
theorem fsok.sub {f : Fld} (h : f.okb = true) : fsok f.sub = true := by
 have := Fld.okb_sub h
 simp only [fsok, Bool.and_eq_true]
 exact ⟨this.1, Nat.ble_eq_true_of_le this.2⟩
theorem fsok.mem {fs : List Fld} (h : fsok fs = true) : ∀ f ∈ fs, f.okb = true := by
 simp only [fsok, Bool.and_eq_true] at h; exact Fld.oksb_mem h.1
theorem fsok.len {fs : List Fld} (h : fsok fs = true) : fs.length ≤ 1000 := by
 simp only [fsok, Bool.and_eq_true] at h; exact Nat.le_of_ble_eq_true h.2
theorem fsok.tag {fs : List Fld} (h : fsok fs = true) : ∀ f ∈ fs, f.tag < 2147483647 := fun f hf => Fld.okb_tag (fsok.mem h f hf)
end Go.Proofs.YtgpnpfiafcakfaaDoor

namespace Go.Proofs.YtgpnpfiafcakfaaDoor
open Go Go.RowKit
theorem Own.below {w w' : World} {B u8 : Nat} {d : Value} {xs : List UInt8} (h : Own w B u8 d xs) (hb : Below w.heap.size w w') : Own w' B u8 d xs := by
 refine h.kept (grown_of hb) ?_
 cases hd : d.ownBlock with
 | none => exact .inl rfl
 | some g => exact .inr (by simp)
theorem Own.bytes {w : World} {B u8 : Nat} {d : Value} {xs : List UInt8} (h : Own w B u8 d xs) : BytesAt w d xs := by
 by_cases hn : 0 < xs.length
 ·obtain ⟨g, cap, rfl, _, _, hc⟩ := Row.cells h hn
  exact .inr ⟨g, 0, cap, rfl, hc⟩
 ·have h0 : xs = [] := List.length_eq_zero_iff.1 (by omega)
  subst h0
  obtain ⟨hxl, ⟨rfl, _⟩ | ⟨g, cap, cur, rfl, hBg, hheap, hle, hcap, hcs, htake⟩⟩ := h
  ·exact .inl ⟨none, 0, rfl, rfl⟩
  ·exact .inr ⟨g, 0, cap, rfl, cur, u8, (0, 0), hheap, by simp [bv], by simp [bv]⟩
section
set_option maxRecDepth 100000
end
end Go.Proofs.YtgpnpfiafcakfaaDoor

namespace Go.Proofs.YtgpnpfiafcakfaaDoor
open Go Go.RowKit
structure FdS where
 i : Nat
 d : Value
section
set_option maxRecDepth 100000
end
end Go.Proofs.YtgpnpfiafcakfaaDoor

namespace Go.Proofs.YtgpnpfiafcakfaaDoor
open Go Go.RowKit
section
variable {P : Program} {N : Nat} {L : Sl} {a : Act} {w : World} {d : Option Nat} {ty : TypeId} {pos : String} {aft : Array Edge} {g : Option (Nat × Bool)}
theorem does_not {x : Operand} {t : TypeId} {b : Bool} {R : Value → World → Prop} (k : Kn N a L) (hx : ev L x = some (.bool b)) (h : R (.bool (!b)) w) : Does P ⟨d, .unOp .not t x, ty, pos, aft, g⟩ a w R := does_of (rn_not k hx) h
end
section
set_option maxRecDepth 100000
end
end Go.Proofs.YtgpnpfiafcakfaaDoor

namespace Go.Proofs.YtgpnpfiafcakfaaDoor
open Go Go.RowKit
def below (ver : Int) (flex : Bool) (fs : List Fld) (t : Tree) (m : Nat) : List (Nat × List UInt8) := (List.range m).flatMap fun k => wTs ver flex fs 0 k t
theorem Own.apart {w w' : World} {B u8 : Nat} {v d d' : Value} {ys : List UInt8} (hv : Own w B u8 v ys) (hd : v.ownBlock = none ∨ v.ownBlock ≠ d.ownBlock) (hg : Grew w w' d d') : Own w' B u8 v ys ∧ (v.ownBlock = none ∨ v.ownBlock ≠ d'.ownBlock) := by
  refine ⟨hv.kept hg.grown hd, ?_⟩
  rcases hd with h | h
  · exact .inl h
  · rcases hg.fresh with hf | hf
    · exact .inr (by rw [hf]; exact h)
    · cases hvb : v.ownBlock with
      | none => exact .inl rfl
      | some g => exact .inr (fun e => by have h1 := hf g e.symm; have h2 := hv.lt g hvb; omega)
theorem does_pick {P : Program} {N : Nat} {L : Sl} {a : Act} {w : World} {d : Option Nat} {ty : TypeId} {pos : String} {aft : Array Edge} {g : Option (Nat × Bool)} {c x y : Operand} {b : Bool} {v : Value} {R : Value → World → Prop} (k : Kn N a L) (hc : ev L c = some (.bool b)) (hv : ev L (bif b then x else y) = some v) (h : R v w) : Does P ⟨d, .pick c x y, ty, pos, aft, g⟩ a w R := does_of (rn_pick k hc hv) h
structure PtS where
  i : Nat
  d : Value
  xs : List UInt8
structure PtT where
  k : Nat
  d : Value
  l : List (Nat × List UInt8)
section
set_option maxRecDepth 100000
end
end Go.Proofs.YtgpnpfiafcakfaaDoor

namespace Go.Proofs.YtgpnpfiafcakfaaDoor
open Go Go.RowKit
theorem rt_tags : rowTy Tryd.prog 33 50 2 = true := by kernel_rfl
theorem tree_out {ok : Nat → Prop} {w : World} {t : Tree} {cs : List Value} (h : Rep ok w (treeD t) cs) :
  ∃ sv lv uv, cs = [.int .i64 t.n, sv, .bool t.nul, lv, uv] ∧ Rep ok w (.sq (t.s.map byteD)) [sv] ∧ Rep ok w (.sq (t.l.map treeD)) [lv] ∧ Rep ok w (.sq (t.u.map tagD)) [uv] := by
 cases t with
 | mk n s nul l u =>
  simp only [treeD, bytesD, Rep, Reps, treeDs_map] at h
  obtain ⟨c1, r1, rfl, rfl, c2, r2, rfl, h2, c3, r3, rfl, rfl, c4, r4, rfl, h4, c5, r5, rfl, h5, rfl⟩ := h
  obtain ⟨a2, b2, rfl, h2'⟩ := h2
  obtain ⟨a4, b4, rfl, h4'⟩ := h4
  obtain ⟨a5, b5, rfl, h5'⟩ := h5
  refine ⟨_, _, _, rfl, ?_, ?_, ?_⟩ <;> simp only [Rep]
  ·exact ⟨_, _, rfl, h2'⟩
  ·exact ⟨_, _, rfl, h4'⟩
  ·exact ⟨_, _, rfl, h5'⟩
theorem sq_one {ok : Nat → Prop} {w : World} {ds : List D} {v : Value} (h : Rep ok w (.sq ds) [v]) : ∃ a c, v = .slice a ds.length c := by
 simp only [Rep] at h
 obtain ⟨a, c, e, _⟩ := h
 exact ⟨a, c, by simpa using e⟩
theorem treeG_one {ok : Nat → Prop} {w : World} {t : Tree} {cs : List Value} (h : Rep ok w (treeD t) cs) : (cs.all fun v => v.oneCell') = true ∧ cs.length = 5 := by
 obtain ⟨sv, lv, uv, rfl, h1, h2, h3⟩ := tree_out h
 obtain ⟨a, b, rfl⟩ := sq_one h1
 obtain ⟨c, d, rfl⟩ := sq_one h2
 obtain ⟨e, f, rfl⟩ := sq_one h3
 exact ⟨rfl, rfl⟩
theorem RowD.sqb {B lo bx e sz : Nat} {w : World} {d : Value} {ds : List D} (h : RowD B lo bx e sz w d ds) : Rep (fun r => In B lo w r ∧ r ≠ bx) w (.sq ds) [d] := by
 obtain ⟨ha, hl, xs, hr, hx⟩ := h
 simp only [Rep]
 have hx' : Reps (fun r => In B lo w r ∧ r ≠ bx) w ds xs := hx.up (fun _ hr => ⟨⟨hr.1, hr.2.1⟩, hr.2.2.1⟩) (fun _ _ => rfl)
 by_cases hn : 0 < ds.length
 ·obtain ⟨g, cap, hd, hg1, hg2, hc⟩ := Row.cells hr hn
  subst hd
  obtain ⟨_, ⟨he, _⟩ | ⟨g', cap', cur, he, _, _, hle, _⟩⟩ := hr
  ·cases he
  ·cases he
   exact ⟨_, cap, rfl, hle, .inr ⟨g, 0, xs, rfl, ⟨⟨.inr hg1, hg2⟩, fun e => ha (by rw [← e]; rfl)⟩, hc, hx'⟩⟩
 ·have h0 : ds = [] := List.length_eq_zero_iff.1 (by omega)
  subst h0
  obtain ⟨hxl, ⟨rfl, _⟩ | ⟨g, cap, cur, rfl, hBg, hheap, hle, hcap, hcs, htake⟩⟩ := hr
  ·exact ⟨none, 0, rfl, Nat.le_refl _, .inl (by simp)⟩
  ·have hx0 : xs = [] := List.length_eq_zero_iff.1 (by simpa using hxl)
   subst hx0
   exact ⟨some ⟨g, 0, none⟩, cap, rfl, hle, .inr ⟨g, 0, [], rfl, ⟨⟨.inr hBg, (Array.getElem?_eq_some_iff.1 hheap).1⟩, fun e => ha (by rw [← e]; rfl)⟩, ⟨cur, e, (0, 0), hheap, by simp, by simp⟩, hx'⟩⟩
theorem grown_but {a b c : World} {bx : Nat} {row : Option Nat} (h : a.grownBy b (some bx)) (k : b.grownBy c row) (hr : ∀ g, row = some g → g = bx ∨ a.heap.size ≤ g) : a.grownBy c (some bx) :=
 ⟨k.os.trans h.os, k.tape.trans h.tape, k.output.trans h.output, Nat.le_trans h.size k.size, fun i hi hne => by
  rw [← h.block i hi hne]
  refine k.block i (Nat.lt_of_lt_of_le hi h.size) (fun e => ?_)
  rcases hr i e.symm with rfl | h2
  ·exact hne rfl
  ·omega⟩
theorem Rep.offLo {B lo bx : Nat} {w : World} {d : Value} {x : D} {cs : List Value} (h : Rep (Lo B) w x cs) (hs : B ≤ w.heap.size) (hb : B ≤ bx) (hd : ∀ g, d.ownBlock = some g → B ≤ g) : Rep (Off B lo bx d w) w x cs := by
 refine h.up (fun r hr => ⟨.inl hr, Nat.lt_of_lt_of_le hr hs, fun e => ?_, fun e => ?_⟩) (fun _ _ => rfl)
 ·simp only [Lo] at hr; omega
 ·have := hd r e; simp only [Lo] at hr; omega
theorem In.up {B lo lo' : Nat} {w w' : World} (hlo : lo' ≤ lo) (hs : w.heap.size ≤ w'.heap.size) : ∀ r, In B lo w r → In B lo' w' r :=
 fun _ h => ⟨h.1.elim .inl (fun x => .inr (Nat.le_trans hlo x)), Nat.lt_of_lt_of_le h.2 hs⟩
section
set_option maxRecDepth 100000
end
end Go.Proofs.YtgpnpfiafcakfaaDoor

namespace Go.Proofs.YtgpnpfiafcakfaaDoor
open Go Go.RowKit
def Fld.one : Fld → Fld | .mk _ fr upto _ _ df of sub => .mk of fr upto (-1) (-1) df of sub
section
set_option maxRecDepth 100000
end
end Go.Proofs.YtgpnpfiafcakfaaDoor

namespace Go.Proofs.YtgpnpfiafcakfaaDoor.Impl
open Go Go.RowKit
def tbl : Tbl := ⟨[(35, 0, 0), (35, 1, 1), (35, 2, 2), (35, 3, 3), (35, 4, 4), (50, 0, 0), (50, 1, 1), (27, 0, 0), (27, 1, 1), (27, 2, 2), (27, 3, 3), (27, 4, 4), (51, 0, 0), (51, 1, 1)],
 [22, 32, 33, 24, 25]⟩
theorem tbl_ok : tbl.ok Tryd.prog = true := by kernel_rfl
theorem ws {ops : Array Oper} {Q : Exit → Act → World → Prop} {N : Nat} {rest : List Oper} {L : Sl} {w : World} {d : Nat} {ty : TypeId} {pos : String} {aft : Array Edge} {o : Op} {v : Value}
  (hs : stepOp tbl L o = some v) (hd : Nat.blt d N = true) (h : WL rest Tryd.prog ops Q N ((d, v) :: L) w) : WL (⟨some d, o, ty, pos, aft, none⟩ :: rest) Tryd.prog ops Q N L w := wl_step tbl tbl_ok hs hd h
theorem fo_tree3 : fieldOff Tryd.prog 27 3 = some 3 := by kernel_rfl
theorem to_trees : tyOne Tryd.prog 24 = true := by kernel_rfl
theorem to_tags : tyOne Tryd.prog 25 = true := by kernel_rfl
theorem ta_tree : tyAgg Tryd.prog 27 = some 5 := by kernel_rfl
theorem tz_tree : (Tryd.prog.info? 27).map (·.size) = some 5 := by kernel_rfl
theorem es_trees : elemSize Tryd.prog 24 = some 5 := by kernel_rfl
theorem rt_tags : rowTy Tryd.prog 25 51 2 = true := by kernel_rfl
theorem zv_tree (w : World) : (zeroValue 27).run Tryd.prog w = .ok (.agg #[.int .i64 0, .slice none 0 0, .bool false, .slice none 0 0, .slice none 0 0]) w := by kernel_rfl
end Go.Proofs.YtgpnpfiafcakfaaDoor.Impl

namespace Go.Proofs.YtgpnpfiafcakfaaDoor.Got
open Go Go.RowKit
theorem ws {ops : Array Oper} {Q : Exit → Act → World → Prop} {N : Nat} {rest : List Oper} {L : Sl} {w : World} {d : Nat} {ty : TypeId} {pos : String} {aft : Array Edge} {o : Op} {v : Value}
  (hs : stepOp Impl.tbl L o = some v) (hd : Nat.blt d N = true) (h : WL rest Tryd.prog ops Q N ((d, v) :: L) w) : WL (⟨some d, o, ty, pos, aft, none⟩ :: rest) Tryd.prog ops Q N L w := wl_step Impl.tbl Impl.tbl_ok hs hd h
theorem S_zv_tree (w : World) : (zeroValue 27).run Tryd.prog w = .ok (.agg #[.int .i64 0, .slice none 0 0, .bool false, .slice none 0 0, .slice none 0 0]) w := by kernel_rfl
theorem S_zv_tag (w : World) : (zeroValue 51).run Tryd.prog w = .ok (.agg #[.int .u32 0, .slice none 0 0]) w := by kernel_rfl
theorem S_ta_tree : tyAgg Tryd.prog 27 = some 5 := by kernel_rfl
theorem S_tz_tree : (Tryd.prog.info? 27).map (·.size) = some 5 := by kernel_rfl
theorem S_ta_tag : tyAgg Tryd.prog 51 = some 2 := by kernel_rfl
theorem S_tz_tag : (Tryd.prog.info? 51).map (·.size) = some 2 := by kernel_rfl
theorem S_es_trees : elemSize Tryd.prog 24 = some 5 := by kernel_rfl
theorem S_es_tags : elemSize Tryd.prog 25 = some 2 := by kernel_rfl
theorem S_to_trees : tyOne Tryd.prog 24 = true := by kernel_rfl
theorem S_to_tags : tyOne Tryd.prog 25 = true := by kernel_rfl
theorem D_zv_tree (w : World) : (zeroValue 35).run Tryd.prog w = .ok (.agg #[.int .i64 0, .slice none 0 0, .bool false, .slice none 0 0, .slice none 0 0]) w := by kernel_rfl
theorem D_ta_tree : tyAgg Tryd.prog 35 = some 5 := by kernel_rfl
theorem D_tz_tree : (Tryd.prog.info? 35).map (·.size) = some 5 := by kernel_rfl
theorem D_to_trees : tyOne Tryd.prog 32 = true := by kernel_rfl
theorem D_to_tags : tyOne Tryd.prog 33 = true := by kernel_rfl
theorem D_fo_tree3 : fieldOff Tryd.prog 35 3 = some 3 := by kernel_rfl
theorem D_rt_trees : rowTy Tryd.prog 32 35 5 = true := by kernel_rfl
theorem D_rt_tags : rowTy Tryd.prog 33 50 2 = true := by kernel_rfl
def GotOK (t : Tree) : Prop := ∀ (B : Nat) (w : World) (ts : List Value), t.small → B ≤ w.heap.size → Rep (Lo B) w (treeD t) ts →
 Fn 9 [.agg ts.toArray] w fun v w' => ∃ cs : List Value, v = .agg cs.toArray ∧ Rep (In B w.heap.size w') w' (treeD t) cs
section
set_option maxRecDepth 100000
theorem got_of (t : Tree) (hF : ∀ x ∈ t.l, GotOK x) : GotOK t := by
 intro B w ts hsm hB ht
 obtain ⟨sv, lv, uv, rfl, hs, hl, hu⟩ := tree_cells ht
 obtain ⟨la, lc, rfl, _⟩ := hl.shape
 obtain ⟨sa, sc, rfl, _⟩ := hs.shape
 obtain ⟨ua, uc, rfl, _⟩ := hu.shape
 have hln := hsm.lens
 refine enter Tryd.func9 rfl Tryd.ntmps9 rfl ?_
 repeat (with_reducible first|apply wc_seq|apply wc_region)
 refine wl_box1 rfl rfl rfl (fun w1 hb1 hg1 hs1 => wl_alloc D_zv_tree rfl rfl (fun w2 hb2 hg2 hs2 => ?_))
 have hbt2 : Box w2 w.heap.size [.int .i64 t.n, .slice sa (t.s.map byteD).length sc, .bool t.nul, .slice la (t.l.map treeD).length lc, .slice ua (t.u.map tagD).length uc] 27 := hb1.kept hg2 (by simp)
 have hw2 : Below w.heap.size w w2 := (below_of hg1 (Nat.le_refl _) (by simp)).trans (below_of hg2 (by omega) (by simp))
 refine wl_nil (qk_thn (wc_seq (wc_region ?_)))
 repeat ((with_reducible apply ws);exact rfl;exact rfl)
 refine wl_loadB rfl to_i64 rfl hbt2 rfl ?_
 repeat ((with_reducible apply ws);exact rfl;exact rfl)
 refine wl_loadB rfl to_bytes rfl hbt2 rfl ?_
 repeat ((with_reducible apply ws);exact rfl;exact rfl)
 refine wl_loadB rfl to_bool rfl hbt2 rfl ?_
 refine wl_build rfl (cs := [.int .i64 t.n, .slice sa (t.s.map byteD).length sc, .bool t.nul, .slice none 0 0, .slice none 0 0]) (by kernel_rfl) rfl ?_
 refine wl_alloc D_zv_tree rfl rfl (fun w3 hb3 hg3 hs3 => ?_)
 refine wl_storeBAgg (vs := [.int .i64 t.n, .slice sa (t.s.map byteD).length sc, .bool t.nul, .slice none 0 0, .slice none 0 0]) rfl rfl rfl D_tz_tree rfl hb3 rfl (fun w4 hb4 hg4 hs4 => ?_)
 have hbt4 := (hbt2.kept hg3 (by simp)).kept hg4 (by simp; omega)
 have hbz4 := (hb2.kept hg3 (by simp)).kept hg4 (by simp; omega)
 have hw4 : Below w.heap.size w w4 := (hw2.trans (below_of hg3 (by omega) (by simp))).trans (below_of hg4 (by omega) (by intro k hk; simp at hk; omega))
 refine wl_nil (qk_thn ?_)
 refine wc_cut (α := Value) (fun d => [(3, .pointer (some ⟨w2.heap.size, 0, none⟩)), (2, .pointer (some ⟨w1.heap.size, 0, none⟩)), (1, .pointer (some ⟨w.heap.size, 0, none⟩))])
  (fun d w' => Below w.heap.size w w' ∧ w4.heap.size ≤ w'.heap.size ∧ Box w' w.heap.size [.int .i64 t.n, .slice sa (t.s.map byteD).length sc, .bool t.nul, .slice la (t.l.map treeD).length lc, .slice ua (t.u.map tagD).length uc] 27 ∧ Box w' w1.heap.size [.int .i64 0, .slice none 0 0, .bool false, .slice none 0 0, .slice none 0 0] 35 ∧ Box w' w2.heap.size [.int .i64 t.n, .slice sa (t.s.map byteD).length sc, .bool t.nul, d, .slice none 0 0] 35 ∧ RowD B w4.heap.size w2.heap.size 35 5 w' d (t.l.map treeD)) ?_ ?_
 ·repeat first|(with_reducible first|apply wc_seq|apply wc_region)|((with_reducible apply ws);exact rfl;exact rfl)
  refine wl_loadB rfl S_to_trees rfl hbt4 rfl ?_
  repeat first|(with_reducible first|apply wl_nil|apply qk_thn|apply wc_block)|((with_reducible apply ws);exact rfl;exact rfl)
  refine wc_loop (α := PtS) (fun s => [(18, .int .i64 (s.i : Int)), (17, .int .i64 ((t.l.map treeD).length : Int)), (16, .slice la (t.l.map treeD).length lc), (3, .pointer (some ⟨w2.heap.size, 0, none⟩)), (2, .pointer (some ⟨w1.heap.size, 0, none⟩)), (1, .pointer (some ⟨w.heap.size, 0, none⟩))])
   (fun s w' => s.i ≤ t.l.length ∧ Below w.heap.size w w' ∧ w4.heap.size ≤ w'.heap.size ∧ Box w' w.heap.size [.int .i64 t.n, .slice sa (t.s.map byteD).length sc, .bool t.nul, .slice la (t.l.map treeD).length lc, .slice ua (t.u.map tagD).length uc] 27 ∧ Box w' w1.heap.size [.int .i64 0, .slice none 0 0, .bool false, .slice none 0 0, .slice none 0 0] 35 ∧ Box w' w2.heap.size [.int .i64 t.n, .slice sa (t.s.map byteD).length sc, .bool t.nul, s.d, .slice none 0 0] 35 ∧ RowD B w4.heap.size w2.heap.size 35 5 w' s.d ((t.l.take s.i).map treeD)) (fun s => t.l.length - s.i) ⟨0, .slice none 0 0, []⟩ ⟨rfl, rfl, rfl, rfl, rfl, rfl, trivial⟩ ⟨Nat.zero_le _, hw4, Nat.le_refl _, hbt4, hbz4, hb4, RowD.nil _ _ _ _ _ _⟩ ?_
  rintro ⟨i, d, _⟩ w12 ⟨hi, hw12, hs1012, hbt12, hbr12, hbq12, hrd12⟩
  simp only [] at hi hbq12 hrd12
  change WC _ _ _ _ [(18, .int .i64 (i : Int)), (17, .int .i64 ((t.l.map treeD).length : Int)), (16, .slice la (t.l.map treeD).length lc), (3, .pointer (some ⟨w2.heap.size, 0, none⟩)), (2, .pointer (some ⟨w1.heap.size, 0, none⟩)), (1, .pointer (some ⟨w.heap.size, 0, none⟩))] _
  repeat first|(with_reducible first|apply wc_seq|apply wc_region|apply wl_nil|apply qk_thn)|((with_reducible apply ws);exact rfl;exact rfl)
  by_cases hlt : i < t.l.length
  ·refine wc_yes rfl (by simpa using hlt) ?_
   obtain ⟨b, off, c', cs, hv, hbB, hcs, hlen, hr⟩ := (hl.below (hw12.mono hB) (Nat.le_refl _)).get (sz := 5) (i := i) (by intro d hd; obtain ⟨x, _, rfl⟩ := List.mem_map.1 hd; exact treeD_width x) (by simpa using hlt)
   simp only [Value.slice.injEq, List.length_map] at hv
   obtain ⟨rfl, _, rfl⟩ := hv
   simp only [List.getElem_map] at hr
   obtain ⟨hcone, _⟩ := treeG_one hr
   repeat (with_reducible first|apply wc_seq|apply wc_region|apply qk_thn|apply wc_block|apply wc_skip)
   refine wl_indexAddr rfl rfl S_es_trees rfl (by simpa using hlt) ?_
   refine wl_loadAgg rfl (by rw [hlen]; exact S_ta_tree) rfl (fun j v e => hcs.cell e) ?_
   refine wl_alloc S_zv_tree rfl rfl (fun w13 hb13 hg13 hs13 => ?_)
   refine wl_storeBAgg rfl rfl rfl (by rw [hlen]; exact S_tz_tree) hcone hb13 (by rw [hlen]; rfl) (fun w14 hb14 hg14 hs14 => ?_)
   have hw1214 : Below w12.heap.size w12 w14 := (below_of hg13 (Nat.le_refl _) (by simp)).trans (below_of hg14 (by omega) (by intro k hk; simp at hk; omega))
   have hw14 : Below w.heap.size w w14 := hw12.trans (hw1214.mono (by omega))
   have hrd14 := hrd12.below hw1214
   have hbr14 := hbr12.below hw1214 hbr12.lt
   have hbt14 := hbt12.below hw1214 hbt12.lt
   have hbq14 := hbq12.below hw1214 hbq12.lt
   have hdl : ∀ g, d.ownBlock = some g → w4.heap.size ≤ g ∧ g < w12.heap.size := hrd12.low
   repeat (with_reducible first|apply wl_nil|apply qk_thn)
   refine wc_parS [(0, .pointer (some ⟨w2.heap.size, 0 + 3, none⟩)), (1, d), (2, .agg cs.toArray), (6, .pointer (some ⟨w2.heap.size, 0 + 3, none⟩))] [7, 5, 4, 3]
    (fun vals w' => Below w.heap.size w w' ∧ w14.heap.size ≤ w'.heap.size ∧ Box w' w.heap.size [.int .i64 t.n, .slice sa (t.s.map byteD).length sc, .bool t.nul, .slice (some ⟨b, off, none⟩) (t.l.map treeD).length lc, .slice ua (t.u.map tagD).length uc] 27 ∧ Box w' w1.heap.size [.int .i64 0, .slice none 0 0, .bool false, .slice none 0 0, .slice none 0 0] 35 ∧ Box w' w12.heap.size cs 27 ∧ match vals with
     | [] => Below w14.heap.size w14 w'
     | [v] => Below w14.heap.size w14 w' ∧ ∃ xs' : List Value, v = .agg xs'.toArray ∧ Rep (In B w14.heap.size w') w' (treeD t.l[i]) xs'
     | [v, _] => Below w14.heap.size w14 w' ∧ ∃ (b8 : Nat) (xs' : List Value), v = .slice (some ⟨b8, 0, none⟩) 1 1 ∧ Box w' b8 xs' 35 ∧ xs'.length = 5 ∧ (xs'.all fun v => v.oneCell') = true ∧ Rep (In B w14.heap.size w') w' (treeD t.l[i]) xs'
     | [v, _, _] => Box w' w2.heap.size [.int .i64 t.n, .slice sa (t.s.map byteD).length sc, .bool t.nul, d, .slice none 0 0] 35 ∧ RowD B w4.heap.size w2.heap.size 35 5 w' v ((t.l.take (i + 1)).map treeD)
     | _ :: v :: _ => Box w' w2.heap.size [.int .i64 t.n, .slice sa (t.s.map byteD).length sc, .bool t.nul, v, .slice none 0 0] 35 ∧ RowD B w4.heap.size w2.heap.size 35 5 w' v ((t.l.take (i + 1)).map treeD))
    mixed rfl rfl rfl rfl rfl (by show ([0,1,2,6] : List Nat).Nodup; decide) rfl rfl (by decide) rfl rfl rfl rfl ⟨hw14.drew, Nat.le_refl _, hbt14, hbr14, hb14, (Below.refl _ w14).drew⟩ ?_ ⟨?_, ?_, ?_, ?_, trivial⟩ ?_
   ·intro p hp vals w' hC hnp a k
    obtain ⟨hC1, hC2, hC3, hC4, hC5, hC6⟩ := hC
    simp only [List.mem_cons, List.not_mem_nil, or_false] at hp
    rcases hp with rfl | rfl | rfl | rfl
    ·exact gv rfl rfl (rn_fieldAddr k rfl D_fo_tree3)
    ·have hbx : Box w' w2.heap.size [.int .i64 t.n, .slice sa (t.s.map byteD).length sc, .bool t.nul, d, .slice none 0 0] 35 := by
      match vals, hC6, hnp with
      | [], h, _ => exact hbq14.below h hbq14.lt
      | [_], h, _ => exact hbq14.below h.1 hbq14.lt
      | [_, _], h, _ => exact hbq14.below h.1 hbq14.lt
      | [_, _, _], h, _ => exact h.1
      | _ :: _ :: _ :: _ :: r, _, hnp =>
       have := hnp 7 (by rw [show ([7, 5, 4, 3] : List Nat).length - (_ :: _ :: _ :: _ :: r).length = 0 from by simp only [List.length_cons, List.length_nil]; omega]; simp)
       exact absurd (show true = false from this) (by simp)
     exact gv rfl rfl (rn_load k rfl D_to_trees (hbx.cell0 (i := 3) rfl))
    ·exact gv rfl rfl (rn_loadBAgg k rfl (by rw [hlen]; exact S_ta_tree) hC5)
    ·exact gv rfl rfl (rn_fieldAddr k rfl D_fo_tree3)
   ·rintro vals w' hvl ⟨hC1, hC2, hC3, hC4, hC5, hC6⟩ a k
    match vals, hvl with
    | [v9, v8, v7], _ =>
     obtain ⟨hbx, hrd⟩ := hC6
     obtain ⟨a9, c9, rfl⟩ := hrd.shape
     refine ⟨_, rfl, does_storeB k rfl rfl D_to_trees rfl hbx rfl (fun w'' hbx'' hg'' hs'' => ⟨hC1.trans (below_of hg'' (by omega) (by intro q hq; simp at hq; omega)), by omega, hC3.kept hg'' (by simp; omega), hC4.kept hg'' (by simp; omega), hC5.kept hg'' (by simp; omega), hbx'', hrd.stored hg''⟩)⟩
   ·rintro vals w' hvl ⟨hC1, hC2, hC3, hC4, hC5, hC6⟩ a k
    match vals, hvl with
    | [v8, v7], _ =>
     obtain ⟨hb7', b8, xs', rfl, hb8, hl5, hone'', hrep⟩ := hC6
     have hrdw := hrd14.below hb7'
     obtain ⟨xs0, hrow0, hreps0⟩ := hrdw.row
     refine ⟨_, rfl, does_app1 k D_rt_trees rfl rfl hb8 hl5 hone'' hrow0 (by omega) (by simp only [List.length_map, List.length_take, many]; omega) (fun d' w'' hrow'' hg'' => ?_)⟩
     have hs'' := hg''.grown.size
     have hne : ∀ q, q < w4.heap.size ∨ w12.heap.size ≤ q → some q ≠ d.ownBlock := fun q hq e => by have := hdl q e.symm; omega
     refine ⟨hC1.trans (hg''.below (by omega) (fun g hg => by have := hdl g hg; omega)), by omega, hC3.kept hg''.grown (hne _ (by omega)), hC4.kept hg''.grown (hne _ (by omega)), hC5.kept hg''.grown (hne _ (by omega)), (hbq14.below hb7' hbq14.lt).kept hg''.grown (hne _ (by omega)), ?_⟩
     have hsn := hrdw.snoc (by omega) (by omega) hreps0 (hrep.off (by omega) ⟨by omega, by omega⟩ (fun g hg => by have := hdl g hg; omega)) hrow'' hg''
     rw [List.take_succ_eq_append_getElem hlt, List.map_append]
     exact hsn
   ·rintro vals w' hvl ⟨hC1, hC2, hC3, hC4, hC5, hC6⟩ a k
    match vals, hvl with
    | [v7], _ =>
     obtain ⟨hb7', xs', rfl, hrep⟩ := hC6
     obtain ⟨hone'', hl5⟩ := treeG_one hrep
     have hga := grown_alloc w' (.cells xs'.toArray 35)
     refine ⟨_, rfl, does_slice1 k D_rt_trees rfl rfl hl5 rfl ⟨hC1.trans (below_of hga (by omega) (by simp)), by simp; omega, hC3.kept hga (by simp), hC4.kept hga (by simp), hC5.kept hga (by simp), hb7'.trans (below_of hga (by omega) (by simp)), _, xs', rfl, box_alloc _ _ _, hl5, hone'', hrep.up (In.up (Nat.le_refl _) (by simp)) (fun r hr => hga.block r hr.2 (by simp))⟩⟩
   ·rintro vals w' hvl ⟨hC1, hC2, hC3, hC4, hC5, hC6⟩ a k
    match vals, hvl with
    | [], _ =>
     simp only [] at hC6
     refine ⟨_, rfl, does_call k rfl (by kernel_rfl) ((hF t.l[i] (List.getElem_mem hlt) B w' _ (hsm.l _ (List.getElem_mem hlt)) (by omega) (Rep.below hr ((hw1214.trans (hC6.mono (by omega))).mono (by omega)) (Nat.le_refl _))).mono ?_)⟩
     rintro e w'' ⟨v, rfl, hb'', cs'', rfl, hrep⟩
     exact ⟨_, rfl, hC1.trans (hb''.mono (by omega)), by have := hb''.size; omega, hC3.below hb'' hC3.lt, hC4.below hb'' hC4.lt, hC5.below hb'' hC5.lt, hC6.trans (hb''.mono (by omega)), cs'', rfl, hrep.up (In.up (by omega) (Nat.le_refl _)) (fun _ _ => rfl)⟩
   ·rintro vals w' hvl ⟨hC1, hC2, hC3, hC4, hC5, hC6⟩
    match vals, hvl with
    | [v11, v9, v8, v7], _ =>
     refine qk_thn ?_
     repeat (with_reducible apply wc_region)
     refine wl_add rfl rfl rfl (r := ((i + 1 : Nat) : Int)) (by rw [IntKind.wrap_i64]; omega) ?_
     repeat first|(with_reducible apply wl_nil)|((with_reducible apply ws);exact rfl;exact rfl)
     exact qk_round ⟨i + 1, v9, []⟩ ⟨rfl, rfl, rfl, rfl, rfl, rfl, trivial⟩ ⟨by simp only []; omega, hC1, by omega, hC3, hC4, hC6.1, hC6.2⟩ (by simp only []; omega)
  ·refine wc_no rfl (by simpa using hlt) ?_
   repeat (with_reducible first|apply wc_exit|apply qk_thn_exit|apply qk_in_exit|apply qk_round_exit)
   rw [List.take_of_length_le (by omega)] at hrd12
   exact qk_cut d ⟨rfl, rfl, rfl, trivial⟩ ⟨hw12, hs1012, hbt12, hbr12, hbq12, hrd12⟩
 rintro d w5 ⟨hw5, hs45, hbt5, hbz5, hbo5, hrd5⟩
 have hdone := hrd5.sqb
 obtain ⟨da, dc, rfl⟩ := hrd5.shape
 refine wc_cut (α := Value) (fun e => [(3, .pointer (some ⟨w2.heap.size, 0, none⟩)), (2, .pointer (some ⟨w1.heap.size, 0, none⟩))])
  (fun e w' => Below w.heap.size w w' ∧ w5.grownBy w' (some w2.heap.size) ∧ Box w' w1.heap.size [.int .i64 0, .slice none 0 0, .bool false, .slice none 0 0, .slice none 0 0] 35 ∧ Box w' w2.heap.size [.int .i64 t.n, .slice sa (t.s.map byteD).length sc, .bool t.nul, .slice da (t.l.map treeD).length dc, e] 35 ∧ RowD B w5.heap.size w2.heap.size 50 2 w' e (t.u.map tagD)) ?_ ?_
 ·repeat first|(with_reducible first|apply wc_seq|apply wc_region)|((with_reducible apply ws);exact rfl;exact rfl)
  refine wl_loadB rfl S_to_tags rfl hbt5 rfl ?_
  rw [show (t.u.map tagD).length = t.u.length from List.length_map ..]
  repeat first|(with_reducible first|apply wl_nil|apply qk_thn|apply wc_block)|((with_reducible apply ws);exact rfl;exact rfl)
  refine wc_loop (α := PtS) (fun s => [(33, .int .i64 (s.i : Int)), (32, .int .i64 (t.u.length : Int)), (31, .slice ua t.u.length uc), (3, .pointer (some ⟨w2.heap.size, 0, none⟩)), (2, .pointer (some ⟨w1.heap.size, 0, none⟩)), (1, .pointer (some ⟨w.heap.size, 0, none⟩))])
   (fun s w' => s.i ≤ t.u.length ∧ Below w.heap.size w w' ∧ w5.grownBy w' (some w2.heap.size) ∧ Box w' w1.heap.size [.int .i64 0, .slice none 0 0, .bool false, .slice none 0 0, .slice none 0 0] 35 ∧ Box w' w2.heap.size [.int .i64 t.n, .slice sa (t.s.map byteD).length sc, .bool t.nul, .slice da (t.l.map treeD).length dc, s.d] 35 ∧ RowD B w5.heap.size w2.heap.size 50 2 w' s.d ((t.u.take s.i).map tagD)) (fun s => t.u.length - s.i) ⟨0, .slice none 0 0, []⟩ ⟨rfl, rfl, rfl, rfl, rfl, rfl, trivial⟩ ⟨Nat.zero_le _, hw5, ⟨rfl, rfl, rfl, Nat.le_refl _, fun _ _ _ => rfl⟩, hbz5, hbo5, RowD.nil _ _ _ _ _ _⟩ ?_
  rintro ⟨i, e, _⟩ w7 ⟨hi, hw7, hgb7, hbz7, hbo7, hrd7⟩
  simp only [] at hi hbo7 hrd7
  change WC _ _ _ _ [(33, .int .i64 (i : Int)), (32, .int .i64 (t.u.length : Int)), (31, .slice ua t.u.length uc), (3, .pointer (some ⟨w2.heap.size, 0, none⟩)), (2, .pointer (some ⟨w1.heap.size, 0, none⟩)), (1, .pointer (some ⟨w.heap.size, 0, none⟩))] _
  repeat first|(with_reducible first|apply wc_seq|apply wc_region|apply wl_nil|apply qk_thn)|((with_reducible apply ws);exact rfl;exact rfl)
  by_cases hlt : i < t.u.length
  ·refine wc_yes rfl (by simpa using hlt) ?_
   obtain ⟨b, off, c', cs, hv, hbB, hcs, hlen, hr⟩ := (hu.below (hw7.mono hB) (Nat.le_refl _)).get (sz := 2) (i := i) (by intro d hd; obtain ⟨x, _, rfl⟩ := List.mem_map.1 hd; exact tagD_width x) (by simpa using hlt)
   simp only [Value.slice.injEq, List.length_map] at hv
   obtain ⟨rfl, _, rfl⟩ := hv
   simp only [List.getElem_map] at hr
   obtain ⟨hcone, _⟩ := tag_one hr
   obtain ⟨qv, hce, hqv⟩ := tag_cells hr
   subst hce
   obtain ⟨qa, qc, rfl, _⟩ := hqv.shape
   repeat (with_reducible first|apply wc_seq|apply wc_region|apply qk_thn|apply wc_block|apply wc_skip)
   refine wl_indexAddr rfl rfl S_es_tags rfl hlt ?_
   refine wl_loadAgg (cs := [.int .u32 (t.u[i].1 : Nat), .slice qa (t.u[i].2.map byteD).length qc]) rfl S_ta_tag rfl (fun j v e => hcs.cell e) ?_
   refine wl_alloc S_zv_tag rfl rfl (fun w8 hb8 hg8 hs8 => ?_)
   refine wl_storeBAgg (vs := [.int .u32 (t.u[i].1 : Nat), .slice qa (t.u[i].2.map byteD).length qc]) rfl rfl rfl S_tz_tag hcone hb8 rfl (fun w9 hb9 hg9 hs9 => ?_)
   have hw79 : Below w7.heap.size w7 w9 := (below_of hg8 (Nat.le_refl _) (by simp)).trans (below_of hg9 (by omega) (by intro k hk; simp at hk; omega))
   have hs57 := hgb7.size
   have hw9 : Below w.heap.size w w9 := hw7.trans (hw79.mono (by omega))
   have hgb9 : w5.grownBy w9 (some w2.heap.size) := grown_but hgb7 (grown_of hw79) (fun g h => by cases h)
   have hbz9 := hbz7.below hw79 hbz7.lt
   have hbo9 := hbo7.below hw79 hbo7.lt
   have hrd9 := hrd7.below hw79
   obtain ⟨ea, ec, hes⟩ := hrd9.shape
   obtain ⟨xs0, hrow0, hreps0⟩ := hrd9.row
   have hel : ∀ g, e.ownBlock = some g → w5.heap.size ≤ g ∧ g < w7.heap.size := hrd7.low
   have hs79 := hw79.size
   repeat first|(with_reducible first|apply wc_region|apply wl_nil|apply qk_thn)|((with_reducible apply ws);exact rfl;exact rfl)
   refine wl_loadB rfl D_to_tags rfl hbo9 rfl ?_
   repeat ((with_reducible apply ws);exact rfl;exact rfl)
   refine wl_loadB rfl to_u32 rfl hb9 rfl ?_
   repeat ((with_reducible apply ws);exact rfl;exact rfl)
   refine wl_loadB rfl to_bytes rfl hb9 rfl ?_
   refine wl_build rfl (cs := [.int .u32 (t.u[i].1 : Nat), .slice qa (t.u[i].2.map byteD).length qc]) (by kernel_rfl) rfl ?_
   refine wl_app1 (cs := [.int .u32 (t.u[i].1 : Nat), .slice qa (t.u[i].2.map byteD).length qc]) D_rt_tags rfl rfl rfl hcone rfl rfl rfl rfl hrow0 (by omega) (by simp only [List.length_map, List.length_take, many]; omega) (fun d' w10 hrow10 hg10 => ?_)
   have hs10 := hg10.grown.size
   have hne : ∀ q, q < w5.heap.size ∨ w7.heap.size ≤ q → some q ≠ e.ownBlock := fun q hq h => by have := hel q h.symm; omega
   have hr9 : Rep (Lo B) w9 (tagD t.u[i]) [.int .u32 (t.u[i].1 : Nat), .slice qa (t.u[i].2.map byteD).length qc] := Rep.below hr (hw79.mono (by omega)) (Nat.le_refl _)
   have hsn := hrd9.snoc (by omega) (by omega) hreps0 (hr9.offLo (by omega) (by omega) (fun g hg => by have := hel g hg; omega)) hrow10 hg10
   have hbo10 := hbo9.kept hg10.grown (hne _ (by omega))
   have hbz10 := hbz9.kept hg10.grown (hne _ (by omega))
   obtain ⟨fa, fc, hfs⟩ := hsn.shape
   subst hfs
   repeat ((with_reducible apply ws);exact rfl;exact rfl)
   refine wl_storeB rfl rfl D_to_tags rfl hbo10 rfl (fun w11 hbo11 hg11 hs11 => ?_)
   repeat (with_reducible first|apply wc_region|apply wl_nil|apply qk_thn|apply qk_in)
   refine wl_add rfl rfl rfl (r := ((i + 1 : Nat) : Int)) (by rw [IntKind.wrap_i64]; omega) ?_
   repeat first|(with_reducible apply wl_nil)|((with_reducible apply ws);exact rfl;exact rfl)
   refine qk_round ⟨i + 1, _, []⟩ ⟨rfl, rfl, rfl, rfl, rfl, rfl, trivial⟩ ⟨by simp only []; omega, (hw9.trans (hg10.below (by omega) (fun g hg => by have := hel g hg; omega))).trans (below_of hg11 (by omega) (by intro q hq; simp at hq; omega)), grown_but (grown_but hgb9 hg10.grown (fun q hq => .inr (by have := hel q hq; omega))) hg11 (fun q hq => .inl (by simpa using hq.symm)), hbz10.kept hg11 (by simp; omega), hbo11, ?_⟩ (by simp only []; omega)
   simp only []
   rw [List.take_succ_eq_append_getElem hlt, List.map_append]
   exact hsn.stored hg11
  ·refine wc_no rfl (by simpa using hlt) ?_
   repeat (with_reducible first|apply wc_exit|apply qk_thn_exit|apply qk_in_exit|apply qk_round_exit)
   rw [List.take_of_length_le (by omega)] at hrd7
   exact qk_cut e ⟨rfl, rfl, trivial⟩ ⟨hw7, hgb7, hbz7, hbo7, hrd7⟩
 rintro e w6 ⟨hw6, hgb6, hbz6, hbo6, hrd6⟩
 obtain ⟨ea, ec, hes⟩ := hrd6.shape
 subst hes
 repeat (with_reducible first|apply wc_seq|apply wc_region)
 refine wl_loadBAgg (cs := [.int .i64 t.n, .slice sa (t.s.map byteD).length sc, .bool t.nul, .slice da (t.l.map treeD).length dc, .slice ea (t.u.map tagD).length ec]) rfl D_ta_tree rfl hbo6 ?_
 refine wl_storeBAgg (vs := [.int .i64 t.n, .slice sa (t.s.map byteD).length sc, .bool t.nul, .slice da (t.l.map treeD).length dc, .slice ea (t.u.map tagD).length ec]) rfl rfl rfl D_tz_tree rfl hbz6 rfl (fun w7 hbz7 hg7 hs7 => ?_)
 repeat (with_reducible first|apply wl_nil|apply qk_thn|apply wc_ret)
 have hs56 := hgb6.size
 have hw7 := hw6.trans (below_of hg7 (by have := hw6.size; omega) (by intro q hq; simp at hq; omega))
 refine qk_retCell (cs := [.int .i64 t.n, .slice sa (t.s.map byteD).length sc, .bool t.nul, .slice da (t.l.map treeD).length dc, .slice ea (t.u.map tagD).length ec]) rfl rfl D_ta_tree hbz7 ⟨_, rfl, hw7, _, rfl, ?_⟩
 have hse := hrd6.sqb
 have e0 : t = .mk t.n t.s t.nul t.l t.u := by cases t; rfl
 rw [e0]
 refine rep_tree ((hs.below (hw7.mono hB) (Nat.le_refl _)).up (fun r hr => ⟨.inl hr, by simp only [Lo] at hr; omega⟩) (fun _ _ => rfl)) ?_ ?_
 ·refine hdone.up (fun r hr => In.up (by omega) (by omega) r hr.1) (fun r hr => ?_)
  have h1 : r ≠ w1.heap.size := by
   rcases hr.1.1 with h | h <;> omega
  rw [hg7.block r (by have := hr.1.2; omega) (by simp; omega), hgb6.block r hr.1.2 (by simpa using hr.2)]
 ·refine hse.up (fun r hr => In.up (by omega) (by omega) r hr.1) (fun r hr => ?_)
  have h1 : r ≠ w1.heap.size := by
   rcases hr.1.1 with h | h <;> omega
  rw [hg7.block r hr.1.2 (by simp; omega)]
end
mutual
theorem got_ok : ∀ t : Tree, GotOK t
 | .mk _ _ _ l _ => got_of _ (gots_ok l)
theorem gots_ok : ∀ l : List Tree, ∀ x ∈ l, GotOK x
 | [], x, hx => by cases hx
 | y :: l, x, hx => by
  have hy := got_ok y
  have hl := gots_ok l
  rcases List.mem_cons.1 hx with h0 | h1
  ·rw [h0]; exact hy
  ·exact hl x h1
end
end Go.Proofs.YtgpnpfiafcakfaaDoor.Got

namespace Go.Proofs.YtgpnpfiafcakfaaDoor
open Go Go.RowKit
section
variable {P : Program} {N : Nat} {L : Sl} {a : Act} {w : World} {d : Nat} {ty : TypeId} {pos : String} {aft : Array Edge}
theorem wl_neqB {ops : Array Oper} {Q : Exit → Act → World → Prop} {rest : List Oper} {x y : Operand} {t u : TypeId} {m n : Bool} (hx : ev L x = some (.bool m)) (hy : ev L y = some (.bool n)) (ht : P.underlying t = some .bool) (hd : Nat.blt d N = true) (h : WL rest P ops Q N ((d, .bool (m != n)) :: L) w) :
  WL (⟨some d, .binOp .neq t x y u, ty, pos, aft, none⟩ :: rest) P ops Q N L w := by
 intro a k
 refine st_of (o := ⟨some d, .binOp .neq t x y u, ty, pos, aft, none⟩) (v := .bool (m != n)) (w' := w) rfl ?_ (h _ (k.put _ hd))
 simp only [execOp, k.eval hx, k.eval hy]
 simp [eqGuard, run_neq_bool w t m n ht]
 cases m <;> cases n <;> rfl
theorem rn_gtr {d : Option Nat} {gd : Option (Nat × Bool)} {x y : Operand} {t u : TypeId} {kk : IntKind} {m n : Int} (k : Kn N a L) (hx : ev L x = some (.int kk m)) (hy : ev L y = some (.int kk n)) : (execOp a.eval ⟨d, .binOp .gtr t x y u, ty, pos, aft, gd⟩).run P w = .ok (.value (.bool (decide (n < m)))) w := by
 simp only [execOp, k.eval hx, k.eval hy]; simp [go_sem]
theorem rn_sub {d : Option Nat} {gd : Option (Nat × Bool)} {x y : Operand} {t u : TypeId} {kk : IntKind} {m n r : Int} (k : Kn N a L) (hx : ev L x = some (.int kk m)) (hy : ev L y = some (.int kk n)) (hr : kk.wrap (m - n) = r) : (execOp a.eval ⟨d, .binOp .sub t x y u, ty, pos, aft, gd⟩).run P w = .ok (.value (.int kk r)) w := by
 simp only [execOp, k.eval hx, k.eval hy]; simp [go_sem, hr]
end
section
variable {P : Program} {N : Nat} {L : Sl} {w : World}
theorem qk_retCell2 {fn : Func} {R : Ending → World → Prop} {t u b : Nat} {tt e : TypeId} {cs : List Value} {x : Value} (hr : fn.results = #[.cell t tt, .tmp u]) (hv : lk L t = some (.pointer (some ⟨b, 0, none⟩))) (ht : tyAgg P tt = some cs.length) (hB : Box w b cs e) (hx : lk L u = some x) (h : R (.returned (.tuple #[.agg cs.toArray, x])) w) : QK .ret (bodyPost P fn R) N L w := by
 intro a k
 have h1 := k.at_ t _ hv
 have h2 := k.at_ u _ hx
 refine ⟨k.defers, .tuple #[.agg cs.toArray, x], ?_, h⟩
 have hl := run_loadCells_list (P := P) w ⟨b, 0, none⟩ cs (fun j v e => by rw [add_plain _ _ rfl]; simp only [Nat.zero_add]; exact hB.cell e)
 unfold tyAgg at ht
 simp only [gt] at h1 h2
 rw [Array.getD_eq_getD_getElem?] at h1 h2
 split at ht
 ·rename_i u hu
  cases hi : P.info? tt with
  | none => simp [hi] at ht
  | some i => simp [hi] at ht; simp [results, hr, h1, h2, loadVar, isAgg, run_underlying hu, sizeOf, typeInfo, hi, ht, hl, asAddr]
 ·rename_i u hu
  cases hi : P.info? tt with
  | none => simp [hi] at ht
  | some i => simp [hi] at ht; simp [results, hr, h1, h2, loadVar, isAgg, run_underlying hu, sizeOf, typeInfo, hi, ht, hl, asAddr]
 ·cases ht
end
end Go.Proofs.YtgpnpfiafcakfaaDoor

namespace Go.Proofs.YtgpnpfiafcakfaaDoor.Tlk
open Go Go.RowKit
section
variable {P : Program} {ops : Array Oper} {Q : Exit → Act → World → Prop} {N : Nat} {rest : List Oper} {L : Sl} {w : World} {d : Nat} {op : Op} {ty : TypeId} {pos : String} {aft : Array Edge}
theorem wl_does (hd : Nat.blt d N = true) (h : ∀ a, Kn N a L → Does P ⟨some d, op, ty, pos, aft, none⟩ a w fun v w' => WL rest P ops Q N ((d, v) :: L) w') : WL (⟨some d, op, ty, pos, aft, none⟩ :: rest) P ops Q N L w := by
 intro a k
 refine wpList_plain rfl (fun K hK => h a k K Q (fun v w' hv => hK _ _ (hv _ (k.put v hd))))
end
theorem ws {ops : Array Oper} {Q : Exit → Act → World → Prop} {N : Nat} {rest : List Oper} {L : Sl} {w : World} {d : Nat} {ty : TypeId} {pos : String} {aft : Array Edge} {o : Op} {v : Value}
  (hs : stepOp Impl.tbl L o = some v) (hd : Nat.blt d N = true) (h : WL rest Tryd.prog ops Q N ((d, v) :: L) w) : WL (⟨some d, o, ty, pos, aft, none⟩ :: rest) Tryd.prog ops Q N L w := wl_step Impl.tbl Impl.tbl_ok hs hd h
set_option maxRecDepth 100000
theorem b0 (n : Int) : Tryd.prog.built 27 [(0, .int .i64 n)] = some #[.int .i64 n, .slice none 0 0, .bool false, .slice none 0 0, .slice none 0 0] := by kernel_rfl
theorem b1 (a : Option Addr) (n c : Nat) : Tryd.prog.built 27 [(1, .slice a n c)] = some #[.int .i64 0, .slice a n c, .bool false, .slice none 0 0, .slice none 0 0] := by kernel_rfl
theorem b3 (a : Option Addr) (n c : Nat) : Tryd.prog.built 27 [(3, .slice a n c)] = some #[.int .i64 0, .slice none 0 0, .bool false, .slice a n c, .slice none 0 0] := by kernel_rfl
theorem sz5 : sizeIs Tryd.prog 27 5 = true := by kernel_rfl
theorem tty : TTy Tryd.prog 27 := ⟨b0, b1, b3, sz5, Impl.ta_tree, Impl.zv_tree⟩
theorem rep_flagC {ok : Nat → Prop} {w : World} : Rep ok w (treeD nullT) (flagC true) := by
 have := rep_text (ok := ok) (w := w) (s := []) (sv := .slice none 0 0) (b := true) rep_nilS
 exact this
theorem pt_str : (match Tryd.prog.underlying 61 with | some (.pointer _) => true | _ => false) = true := by kernel_rfl
theorem is_str : isStr Tryd.prog 9 = true := by kernel_rfl
theorem is_bytes : isBytes Tryd.prog 22 = true := by kernel_rfl
theorem boolP : TlC Tryd.prog 54 0 (-1) := by
 refine ⟨by kernel_rfl, fun B w d c T hr hB hT => ?_⟩
 have hT' : ∃ b : Bool, d = .lit (.bool b) ∧ T = leafT (if b then 1 else 0) := hT
 obtain ⟨b, rfl, rfl⟩ := hT'
 simp only [Rep, List.cons.injEq, and_true] at hr
 subst hr
 refine enter (vs := [.bool b]) Tryd.func54 rfl Tryd.ntmps54 rfl ?_
 repeat (with_reducible first|apply wc_seq|apply wc_region)
 refine wl_alloc Impl.zv_tree rfl rfl (fun w1 hb1 hg1 hs1 => ?_)
 repeat first|(with_reducible first|apply wc_seq|apply wc_region|apply wl_nil|apply qk_thn)|((with_reducible apply ws);exact rfl;exact rfl)
 cases b with
 | true =>
  refine wc_yes rfl rfl ?_
  repeat (with_reducible first|apply wc_seq|apply wc_region)
  refine wl_build rfl (cs := [.int .i64 1, .slice none 0 0, .bool false, .slice none 0 0, .slice none 0 0]) (by kernel_rfl) rfl ?_
  refine wl_storeBAgg (vs := [.int .i64 1, .slice none 0 0, .bool false, .slice none 0 0, .slice none 0 0]) rfl rfl rfl Impl.tz_tree rfl hb1 rfl (fun w2 hb2 hg2 hs2 => ?_)
  repeat (with_reducible first|apply wl_nil|apply qk_thn|apply wc_ret|apply qk_thn_ret)
  refine qk_retCell (cs := [.int .i64 1, .slice none 0 0, .bool false, .slice none 0 0, .slice none 0 0]) rfl rfl Impl.ta_tree hb2 ⟨_, leafT 1, rfl, rep_leaf 1, ⟨true, rfl, rfl⟩, ?_⟩
  exact ⟨hg2.os.trans hg1.os, hg2.tape.trans hg1.tape, hg2.output.trans hg1.output, by omega, fun j hj _ => by rw [hg2.block j (by omega) (by simp; omega), hg1.block j hj (by simp)]⟩
 | false =>
  refine wc_no rfl rfl ?_
  repeat (with_reducible first|apply wc_seq|apply wc_region|apply qk_thn|apply wc_skip)
  refine wl_build rfl (cs := [.int .i64 0, .slice none 0 0, .bool false, .slice none 0 0, .slice none 0 0]) (by kernel_rfl) rfl ?_
  refine wl_storeBAgg (vs := [.int .i64 0, .slice none 0 0, .bool false, .slice none 0 0, .slice none 0 0]) rfl rfl rfl Impl.tz_tree rfl hb1 rfl (fun w2 hb2 hg2 hs2 => ?_)
  repeat (with_reducible first|apply wl_nil|apply qk_thn|apply wc_ret)
  refine qk_retCell (cs := [.int .i64 0, .slice none 0 0, .bool false, .slice none 0 0, .slice none 0 0]) rfl rfl Impl.ta_tree hb2 ⟨_, leafT 0, rfl, rep_leaf 0, ⟨false, rfl, rfl⟩, ?_⟩
  exact ⟨hg2.os.trans hg1.os, hg2.tape.trans hg1.tape, hg2.output.trans hg1.output, by omega, fun j hj _ => by rw [hg2.block j (by omega) (by simp; omega), hg1.block j hj (by simp)]⟩
theorem textP : TlC Tryd.prog 43 8 0 := by
 refine ⟨by kernel_rfl, fun B w d c T hr hB hT => ?_⟩
 have hT' : (d = .lit (.pointer none) ∧ T = nullT) ∨ (∃ s, d = .ptr (.lit (strV s)) ∧ T = textT s) := hT
 rcases hT' with ⟨rfl, rfl⟩ | ⟨s, rfl, rfl⟩
 ·simp only [Rep, List.cons.injEq, and_true] at hr
  subst hr
  refine enter (vs := [.pointer none]) Tryd.func43 rfl Tryd.ntmps43 rfl ?_
  repeat (with_reducible first|apply wc_seq|apply wc_region)
  refine wl_alloc Impl.zv_tree rfl rfl (fun w1 hb1 hg1 hs1 => ?_)
  repeat first|(with_reducible first|apply wc_seq|apply wc_region|apply wl_nil|apply qk_thn)|((with_reducible apply ws);exact rfl;exact rfl)
  refine wl_ptrNil rfl pt_str rfl ?_
  repeat (with_reducible first|apply wl_nil|apply qk_thn)
  refine wc_yes rfl rfl ?_
  repeat (with_reducible first|apply wc_seq|apply wc_region)
  refine wl_build rfl (cs := flagC true) (by kernel_rfl) rfl ?_
  refine wl_storeBAgg (vs := flagC true) rfl rfl rfl Impl.tz_tree rfl hb1 rfl (fun w2 hb2 hg2 hs2 => ?_)
  repeat (with_reducible first|apply wl_nil|apply qk_thn|apply wc_ret|apply qk_thn_ret)
  refine qk_retCell (cs := flagC true) rfl rfl Impl.ta_tree hb2 ⟨_, nullT, rfl, rep_flagC, .inl ⟨rfl, rfl⟩, ?_⟩
  exact ⟨hg2.os.trans hg1.os, hg2.tape.trans hg1.tape, hg2.output.trans hg1.output, by omega, fun j hj _ => by rw [hg2.block j (by omega) (by simp; omega), hg1.block j hj (by simp)]⟩
 ·simp only [Rep] at hr
  obtain ⟨b, cs', hc, hbB, hcs, hr⟩ := hr
  simp only [List.cons.injEq, and_true] at hc
  subst hc
  subst hr
  have hbB' : b < B := hbB
  refine enter (vs := [.pointer (some ⟨b, 0, none⟩)]) Tryd.func43 rfl Tryd.ntmps43 rfl ?_
  repeat (with_reducible first|apply wc_seq|apply wc_region)
  refine wl_alloc Impl.zv_tree rfl rfl (fun w1 hb1 hg1 hs1 => ?_)
  have hcs1 : CellsAt w1 b 0 [strV s] := hcs.of_block (hg1.block b (by omega) (by simp))
  repeat first|(with_reducible first|apply wc_seq|apply wc_region|apply wl_nil|apply qk_thn)|((with_reducible apply ws);exact rfl;exact rfl)
  refine wl_ptrNil rfl pt_str rfl ?_
  repeat (with_reducible first|apply wl_nil|apply qk_thn)
  refine wc_no rfl rfl ?_
  repeat first|(with_reducible first|apply wc_seq|apply wc_region|apply qk_thn|apply wc_skip)|((with_reducible apply ws);exact rfl;exact rfl)
  refine wl_load rfl to_str rfl (v := strV s) (by have := hcs1.cell (i := 0) (v := strV s) rfl; simpa using this) ?_
  refine wl_does rfl (fun a k => do_toBytes (l0 := w1.heap.size) rfl (k.at_ _ _ rfl) is_str is_bytes (Nat.le_refl _) (fun v w2 hv hrv hc2 => ?_))
  obtain ⟨va, vn, vc, rfl⟩ := hv
  have hs2 := hc2.size
  refine wl_build rfl (cs := [.int .i64 0, .slice va vn vc, .bool false, .slice none 0 0, .slice none 0 0]) (by kernel_rfl) rfl ?_
  have hb2 := hb1.chg hc2 (fun h => h)
  refine wl_storeBAgg (vs := [.int .i64 0, .slice va vn vc, .bool false, .slice none 0 0, .slice none 0 0]) rfl rfl rfl Impl.tz_tree rfl hb2 rfl (fun w3 hb3 hg3 hs3 => ?_)
  repeat (with_reducible first|apply wl_nil|apply qk_thn|apply wc_ret)
  refine qk_retCell (cs := [.int .i64 0, .slice va vn vc, .bool false, .slice none 0 0, .slice none 0 0]) rfl rfl Impl.ta_tree hb3 ⟨_, textT s, rfl, rep_text (hrv.up (fun r hr => ⟨.inr (by rcases hr.1 with h | h; exact absurd h (Nat.not_lt_zero _); omega), by have := hr.2; omega⟩) (fun r hr => hg3.block r hr.2 (by rcases hr.1 with h | h; exact absurd h (Nat.not_lt_zero _); simp; omega))), .inr ⟨s, rfl, rfl⟩, ?_⟩
  refine ⟨hg3.os.trans (hc2.os.trans hg1.os), hg3.tape.trans (hc2.tape.trans hg1.tape), hg3.output.trans (hc2.output.trans hg1.output), by omega, fun j hj _ => ?_⟩
  rw [hg3.block j (by omega) (by simp; omega), hc2.block j (by omega) (fun h => h), hg1.block j hj (by simp)]
theorem eachP : EachC Tryd.prog 20 := ⟨by kernel_rfl, fun w B b off g bs kvs v S Inv h1 h2 h3 h4 h5 h6 h7 h8 h9 => Ea.fn_eachG w B b off g bs kvs v S Inv h1 h2 h3 h4 h5 h6 h7 h8 h9⟩
theorem es_tagsI : elemSize Tryd.prog 25 = some 2 := by kernel_rfl
theorem fo_tag0 : fieldOff Tryd.prog 51 0 = some 0 := by kernel_rfl
set_option maxHeartbeats 2000000 in
theorem sortP : SoC Tryd.prog 22 := by
 refine ⟨by kernel_rfl, fun w v u hsq hok hmany => ?_⟩
 obtain ⟨ua, uc, rfl, _⟩ := hsq.shape
 rw [List.length_map] at hsq ⊢
 refine enter (vs := [.slice ua u.length uc]) Tryd.func22 rfl Tryd.ntmps22 rfl ?_
 repeat first|(with_reducible first|apply wc_seq|apply wc_region|apply wl_nil|apply qk_thn|apply wc_block)|((with_reducible apply ws);exact rfl;exact rfl)
 refine wc_loop (α := Nat) (fun i => [(6, .int .i64 (i : Int)), (5, .int .i64 (u.length : Int)), (0, .slice ua u.length uc)]) (fun i w' => i ≤ u.length ∧ Chg (fun _ => False) w w') (fun i => u.length - i) 0 ⟨rfl, rfl, rfl, trivial⟩ ⟨Nat.zero_le _, Chg.refl _ _⟩ ?_
 rintro i w1 ⟨hi, hc1⟩
 have hmany' : u.length ≤ 68719476736 := hmany
 repeat first|(with_reducible first|apply wc_seq|apply wc_region|apply wl_nil|apply qk_thn)|((with_reducible apply ws);exact rfl;exact rfl)
 by_cases hlt : i < u.length
 ·refine wc_yes rfl (by simpa using hlt) ?_
  repeat first|(with_reducible first|apply wc_seq|apply wc_region|apply wl_nil|apply qk_thn|apply wc_block|apply wc_skip)|((with_reducible apply ws);exact rfl;exact rfl)
  refine wc_loop (α := Unit) (fun _ => [(6, .int .i64 (i : Int)), (5, .int .i64 (u.length : Int)), (0, .slice ua u.length uc), (3, .int .i64 (i : Int))]) (fun _ w' => Chg (fun _ => False) w w') (fun _ => 0) () ⟨rfl, rfl, rfl, rfl, trivial⟩ hc1 ?_
  rintro _ w2 hc2
  repeat (with_reducible apply wc_seq)
  by_cases h0 : i = 0
  ·subst h0
   refine wc_par [(0, .int .i64 ((0 : Nat) : Int)), (1, .bool false), (2, .bool false), (3, undef), (4, undef), (5, undef), (6, undef), (7, undef), (8, undef), (9, undef), (10, undef), (11, undef), (12, undef), (13, undef), (14, undef), (15, .bool false)] []
    (fun _ w' => Chg (fun _ => False) w w') mixed rfl rfl rfl rfl rfl (by show ([0,1,2,3,4,5,6,7,8,9,10,11,12,13,14,15] : List Nat).Nodup; decide) rfl rfl (by decide) rfl rfl rfl rfl (hc2.trans (chg_drew _ _)) ?_ trivial ?_
   ·intro p hp vals w' hC a k
    simp only [List.mem_cons, List.not_mem_nil, or_false] at hp
    rcases hp with rfl | rfl | rfl | rfl | rfl | rfl | rfl | rfl | rfl | rfl | rfl | rfl | rfl | rfl | rfl | rfl
    ·exact gv rfl rfl (rn_move k rfl)
    ·exact gv rfl rfl ((rn_gtr k rfl rfl).trans rfl)
    ·exact gv rfl rfl (rn_move k rfl)
    iterate 12 (exact gv_no rfl rfl rfl k rfl rfl)
    ·exact gv rfl rfl (rn_pick k rfl rfl)
   ·rintro vals w3 hvl hC
    refine qk_thn ?_
    refine wc_no rfl rfl ?_
    repeat (with_reducible first|apply wc_region|apply qk_thn|apply wc_exit|apply qk_in|apply qk_thn_exit|apply qk_in_exit|apply qk_round_exit)
    refine wl_add rfl rfl rfl (r := ((0 + 1 : Nat) : Int)) (by decide) ?_
    repeat first|(with_reducible apply wl_nil)|((with_reducible apply ws);exact rfl;exact rfl)
    exact qk_round (0 + 1) ⟨rfl, rfl, rfl, trivial⟩ ⟨by omega, hC⟩ (by omega)
  ·have hpos : 0 < i := Nat.pos_of_ne_zero h0
   obtain ⟨b, off, c1, cs, hv, hbB, hcs, hcl, hr⟩ := hsq.get (sz := 2) (i := i) (by intro d hd; obtain ⟨x, _, rfl⟩ := List.mem_map.1 hd; exact tagD_width x) (by simpa using hlt)
   obtain ⟨b2, off2, c2, cs2, hv2, _, hcs2, hcl2, hr2⟩ := hsq.get (sz := 2) (i := i - 1) (by intro d hd; obtain ⟨x, _, rfl⟩ := List.mem_map.1 hd; exact tagD_width x) (by simp; omega)
   rw [hv] at hv2
   simp only [Value.slice.injEq, List.length_map, Option.some.injEq, Addr.mk.injEq, and_true, true_and] at hv hv2
   obtain ⟨rfl, _, rfl⟩ := hv
   obtain ⟨⟨rfl, rfl⟩, rfl⟩ := hv2
   simp only [List.getElem_map] at hr hr2
   obtain ⟨q1, rfl, _⟩ := tag_cells hr
   obtain ⟨q2, rfl, _⟩ := tag_cells hr2
   have hrise : ((u[i - 1]'(by omega)).1 : Nat) < (u[i]).1 := List.pairwise_iff_getElem.1 hok.1 (i - 1) i (by omega) hlt (by omega)
   have hbw : b < w.heap.size := hcs.lt
   refine wc_par [(0, .int .i64 (i : Int)), (1, .bool true), (2, .bool true), (3, .slice (some ⟨b, off, none⟩) u.length uc), (4, .int .i64 (i : Int)), (5, .pointer (some ⟨b, off + i * 2, none⟩)), (6, .pointer (some ⟨b, off + i * 2 + 0, none⟩)), (7, .int .u32 (u[i].1 : Nat)), (8, .slice (some ⟨b, off, none⟩) u.length uc), (9, .int .i64 (i : Int)), (10, .int .i64 ((i - 1 : Nat) : Int)), (11, .pointer (some ⟨b, off + (i - 1) * 2, none⟩)), (12, .pointer (some ⟨b, off + (i - 1) * 2 + 0, none⟩)), (13, .int .u32 ((u[i - 1]'(by omega)).1 : Nat)), (14, .bool false), (15, .bool false)] []
    (fun _ w' => Chg (fun _ => False) w w') mixed rfl rfl rfl rfl rfl (by show ([0,1,2,3,4,5,6,7,8,9,10,11,12,13,14,15] : List Nat).Nodup; decide) rfl rfl (by decide) rfl rfl rfl rfl (hc2.trans (chg_drew _ _)) ?_ trivial ?_
   ·intro p hp vals w' hC a k
    have hck := hcs.chg hC (fun h => h)
    have hck2 := hcs2.chg hC (fun h => h)
    simp only [List.mem_cons, List.not_mem_nil, or_false] at hp
    rcases hp with rfl | rfl | rfl | rfl | rfl | rfl | rfl | rfl | rfl | rfl | rfl | rfl | rfl | rfl | rfl | rfl
    ·exact gv rfl rfl (rn_move k rfl)
    ·exact gv rfl rfl ((rn_gtr k rfl rfl).trans (by rw [show decide ((0 : Int) < (i : Int)) = true from by simp; omega]))
    ·exact gv rfl rfl (rn_move k rfl)
    ·exact gv_yes rfl rfl rfl k rfl rfl (rn_move k rfl)
    ·exact gv_yes rfl rfl rfl k rfl rfl (rn_move k rfl)
    ·exact gv_yes rfl rfl rfl k rfl rfl (rn_indexAddr k rfl rfl es_tagsI hlt)
    ·exact gv_yes rfl rfl rfl k rfl rfl (rn_fieldAddr k rfl fo_tag0)
    ·exact gv_yes rfl rfl rfl k rfl rfl (rn_load k rfl to_u32 (hck.cell (i := 0) rfl))
    ·exact gv_yes rfl rfl rfl k rfl rfl (rn_move k rfl)
    ·exact gv_yes rfl rfl rfl k rfl rfl (rn_move k rfl)
    ·exact gv_yes rfl rfl rfl k rfl rfl (rn_sub k rfl rfl (by rw [IntKind.wrap_i64]; omega))
    ·exact gv_yes rfl rfl rfl k rfl rfl (rn_indexAddr k rfl rfl es_tagsI (by omega))
    ·exact gv_yes rfl rfl rfl k rfl rfl (rn_fieldAddr k rfl fo_tag0)
    ·exact gv_yes rfl rfl rfl k rfl rfl (rn_load k rfl to_u32 (hck2.cell (i := 0) rfl))
    ·exact gv_yes rfl rfl rfl k rfl rfl ((rn_lss k rfl rfl).trans (by rw [show decide (((u[i].1 : Nat) : Int) < (((u[i - 1]'(by omega)).1 : Nat) : Int)) = false from by simp; omega]))
    ·exact gv rfl rfl (rn_pick k rfl rfl)
   ·rintro vals w3 hvl hC
    refine qk_thn ?_
    refine wc_no rfl rfl ?_
    repeat (with_reducible first|apply wc_region|apply qk_thn|apply wc_exit|apply qk_in|apply qk_thn_exit|apply qk_in_exit|apply qk_round_exit)
    refine wl_add rfl rfl rfl (r := ((i + 1 : Nat) : Int)) (by rw [IntKind.wrap_i64]; omega) ?_
    repeat first|(with_reducible apply wl_nil)|((with_reducible apply ws);exact rfl;exact rfl)
    exact qk_round (i + 1) ⟨rfl, rfl, rfl, trivial⟩ ⟨by omega, hC⟩ (by omega)
 ·refine wc_no rfl (by simpa using hlt) ?_
  repeat (with_reducible first|apply wc_exit|apply qk_thn_exit|apply qk_in_exit|apply qk_round_exit)
  exact qk_end0 rfl ⟨rfl, hc1⟩
end Go.Proofs.YtgpnpfiafcakfaaDoor.Tlk

namespace Go.Proofs.YtgpnpfiafcakfaaDoor
open Go Go.RowKit
def Reads (_ver : Int) (_tg _flex : Bool) (sh : List Ck) (H : List D → Prop) (a r : List Ra) (off : Nat) (ys : List UInt8) : Prop :=
 ∀ (pre mid post : List D) (s : List UInt8), shDs mid = sh → unit pre → unit mid → D.widths pre = off →
  ∃ new new', rdAs a (pre ++ mid ++ post) (ys ++ s) = rdAs r (pre ++ new ++ post) s ∧ shDs new = sh ∧ unit new ∧ H new' ∧ shDs new' = sh ∧ pos new' ∧ Imp new new'
theorem Reads.weak {ver : Int} {tg flex : Bool} {sh : List Ck} {H H' : List D → Prop} {a r : List Ra} {off : Nat} {ys : List UInt8} (h : Reads ver tg flex sh H a r off ys) (k : ∀ ds, H ds → H' ds) : Reads ver tg flex sh H' a r off ys := by
 intro pre mid post s hsh hpre hmid hw
 obtain ⟨n1, n1', e1, e2, e3, e4, e5⟩ := h pre mid post s hsh hpre hmid hw
 exact ⟨n1, n1', e1, e2, e3, k _ e4, e5⟩
end Go.Proofs.YtgpnpfiafcakfaaDoor

namespace Go.Proofs.YtgpnpfiafcakfaaDoor
open Go Go.RowKit
end Go.Proofs.YtgpnpfiafcakfaaDoor

namespace Go.Proofs.YtgpnpfiafcakfaaDoor
open Go Go.RowKit
def HzU (tg flex : Bool) (t : Tree) (b : List D) : Prop := if tg then b = [tagsK (if flex then t.u else [])] else b = []
mutual
def HzF (ver : Int) (tg flex : Bool) : Fld → Tree → List D → Prop
  | .mk kind _ _ nul _ _ of sub, t, ds =>
    if kind = 11 then ∃ d, ds = [d] ∧ HoldS ver nul t (fun els =>
      (if of = 10 then ∀ i, i < t.l.length → ∃ a b, els[i]? = some (.agg (a ++ b)) ∧ HzFs ver tg flex sub 0 (att t i) a ∧ HzU tg flex (att t i) b
       else els = t.l.map (valK of (-1)))) d
    else if kind = 10 then ∃ a b, ds = a ++ b ∧ HzFs ver tg flex sub 0 t a ∧ HzU tg flex t b
    else ∃ d, ds = [d] ∧ HoldV ver kind nul t d
def HzFs (ver : Int) (tg flex : Bool) : List Fld → Nat → Tree → List D → Prop
  | [], _, _, ds => ds = []
  | f :: fs, i, t, ds => ∃ a b, ds = a ++ b ∧ shDs a = shF tg f ∧ pos a ∧ (if f.has ver = true then HzF ver tg flex f (att t i) a else a = dfF tg f) ∧ HzFs ver tg flex fs (i + 1) t b
end
def ziE : Value → Value → Bool
  | .int k n, .int l m => decide (k = l) && decide (n = m)
  | .bool a, .bool b => a == b
  | .string a, .string b => decide (a.data.toList = b.data.toList)
  | .pointer none, .pointer none => true
  | .slice none 0 0, .slice none 0 0 => true
  | .map none, .map none => true
  | _, _ => false
def ziEs : List Value → List Value → Bool
  | [], [] => true
  | a :: r, b :: s => ziE a b && ziEs r s
  | _, _ => false
def ZmU (tg : Bool) (y : List D) : Prop := tg = true → y = [.lit (.map none)]
mutual
def ZmF (ver : Int) (tg : Bool) : Fld → List D → Prop
  | .mk kind _ _ _ _ _ _ sub, mid => if kind = 10 then ∃ x y, mid = x ++ y ∧ shDs x = shFs tg sub ∧ ZmFs ver tg sub x ∧ ZmU tg y else True
def ZmFs (ver : Int) (tg : Bool) : List Fld → List D → Prop
  | [], _ => True
  | f :: fs, mid => ∃ x y, mid = x ++ y ∧ shDs x = shF tg f ∧ (if f.has ver = true then ZmF ver tg f x else x = litsD (ziF tg f)) ∧ ZmFs ver tg fs y
end
mutual
def zbF (ver : Int) (tg : Bool) : Fld → List Value → Bool
  | .mk kind _ _ _ _ _ _ sub, vs => if kind = 10 then zbFs ver tg sub (vs.take (shFs tg sub).length) && (!tg || ziEs (vs.drop (shFs tg sub).length) [.map none]) else true
def zbFs (ver : Int) (tg : Bool) : List Fld → List Value → Bool
  | [], _ => true
  | f :: fs, vs => (if f.has ver then zbF ver tg f (vs.take (shF tg f).length) else ziEs (vs.take (shF tg f).length) (ziF tg f)) && zbFs ver tg fs (vs.drop (shF tg f).length)
end
def zbP (ver : Int) (tg : Bool) (fs : List Fld) (vs : List Value) : Bool := zbFs ver tg fs (vs.take (shFs tg fs).length) && (!tg || ziEs (vs.drop (shFs tg fs).length) [.map none])
mutual
def mFz (ver : Int) (tg flex : Bool) (off : Nat) : Fld → List Ra → Option (List Ra)
  | .mk kind _ _ nul _ _ of sub, ra =>
    if kind = 11 then (match ra with
      | .row c nb o st dfl body :: r =>
        bif (c == flex) && (nb || !decide (0 ≤ nul ∧ nul ≤ ver)) && Nat.beq o off && (st == decide (of = 10)) && decide (shDs (litsD dfl) = shE tg of sub) && (if of = 10 then noPts sub && zbP ver tg sub dfl else true) &&
          (if of = 10 then (flex || ne1 ver sub) && endsO flex (shFs tg sub).length (mFsz ver tg flex 0 sub body) else isPrim (rpV of (-1) ver flex) body) then some r else none
      | _ => none)
    else if kind = 10 then (if 0 ≤ nul then none else match mFsz ver tg flex off sub ra with | some r => endR flex (off + (shFs tg sub).length) r | none => none)
    else (match ra with
      | .prim p o :: r => bif rpEq p (rpV kind nul ver flex) && Nat.beq o off then some r else none
      | _ => none)
def mFsz (ver : Int) (tg flex : Bool) (off : Nat) : List Fld → List Ra → Option (List Ra)
  | [], ra => some ra
  | f :: fs, ra => match (if f.has ver then mFz ver tg flex off f ra else some ra) with
    | some r => mFsz ver tg flex (off + (shF tg f).length) fs r
    | none => none
end
def ReadsZ (sh : List Ck) (Z H : List D → Prop) (a r : List Ra) (off : Nat) (ys : List UInt8) : Prop :=
  ∀ (pre mid post : List D) (s : List UInt8), shDs mid = sh → Z mid → unit pre → unit mid → D.widths pre = off →
    ∃ new new', rdAs a (pre ++ mid ++ post) (ys ++ s) = rdAs r (pre ++ new ++ post) s ∧ shDs new = sh ∧ unit new ∧ H new' ∧ shDs new' = sh ∧ pos new' ∧ Imp new new'
theorem ReadsZ.weak {sh : List Ck} {Z Z' H H' : List D → Prop} {a r : List Ra} {off : Nat} {ys : List UInt8} (h : ReadsZ sh Z H a r off ys) (z : ∀ ds, Z' ds → Z ds) (k : ∀ ds, H ds → H' ds) : ReadsZ sh Z' H' a r off ys := by
  intro pre mid post s hsh hz hpre hmid hw
  obtain ⟨n1, n1', e1, e2, e3, e4, e5⟩ := h pre mid post s hsh (z _ hz) hpre hmid hw
  exact ⟨n1, n1', e1, e2, e3, k _ e4, e5⟩
end Go.Proofs.YtgpnpfiafcakfaaDoor

namespace Go.Proofs.YtgpnpfiafcakfaaDoor
open Go Go.RowKit
end Go.Proofs.YtgpnpfiafcakfaaDoor

namespace Go.Proofs.YtgpnpfiafcakfaaDoor
open Go Go.RowKit
mutual
def tabF (ver : Int) : Fld → Bool
 | .mk kind _ _ _ _ _ of sub => (if kind = 11 then (if of = 10 then tabFs ver sub else !decide (of = 11) && !decide (of = 7)) else if kind = 10 then tabFs ver sub else true)
def tabFs (ver : Int) : List Fld → Bool
 | [] => true
 | f :: fs => decide (f.tag < 0) && (!f.has ver || tabF ver f) && tabFs ver fs
end
end Go.Proofs.YtgpnpfiafcakfaaDoor

namespace Go.Proofs.YtgpnpfiafcakfaaDoor
open Go Go.RowKit
end Go.Proofs.YtgpnpfiafcakfaaDoor

namespace Go.Proofs.YtgpnpfiafcakfaaDoor
open Go Go.RowKit
def number (kind n : Int) : Int := if kind = 0 then n % 2 else if kind = 1 then IntKind.i8.wrap n else if kind = 2 then IntKind.i16.wrap n else if kind = 3 then IntKind.i32.wrap n else if kind = 5 then IntKind.u16.wrap n else n
mutual
def UsF : Fld → Tree → Prop
  | .mk kind _ _ nul _ df _ sub, x =>
    if kind = 8 then x.nul = decide (0 ≤ nul) ∧ x.s = []
    else if kind = 7 then x.s = List.replicate 16 0
    else if kind = 9 ∨ kind = 11 then x.s = [] ∧ x.l = []
    else if kind = 10 then x.u = [] ∧ UsFs sub x.l
    else x.n = number kind df
def UsFs : List Fld → List Tree → Prop
  | [], l => l = []
  | f :: fs, l => ∃ x r, l = x :: r ∧ UsF f x ∧ UsFs fs r
end
def ToV (kind : Int) (t g : Tree) : Prop := if kind = 8 ∨ kind = 9 then g.s = whole t.s else if kind = 7 then g.s = sixteen t.s else g.n = number kind t.n
def toHas (ver : Int) (flex : Bool) (f : Fld) (x : Tree) : Bool := if f.tag < 0 then f.has ver else flex && !usual f x
mutual
def ToF (ver : Int) (flex : Bool) : Fld → Tree → Tree → Prop
  | .mk kind _ _ nul _ _ of sub, t, g =>
    ((kind = 8 ∨ kind = 10 ∨ (0 ≤ nul ∧ nul ≤ ver)) → g.nul = (t.nul && decide (0 ≤ nul) && decide (nul ≤ ver))) ∧
    ((t.nul && decide (0 ≤ nul) && decide (nul ≤ ver)) = false →
      if kind = 10 then ToFs ver flex sub 0 t g.l ∧ g.u = (if flex then others sub t.u else [])
      else if kind = 11 then g.l.length = (things t.l).length ∧ ∀ (i : Nat) (x y : Tree), (things t.l)[i]? = some x → g.l[i]? = some y →
        ((of = 8 ∨ of = 10) → y.nul = false) ∧ (if of = 10 then ToFs ver flex sub 0 x y.l ∧ y.u = (if flex then others sub x.u else []) else ToV of x y)
      else ToV kind t g)
def ToFs (ver : Int) (flex : Bool) : List Fld → Nat → Tree → List Tree → Prop
  | [], _, _, l => l = []
  | f :: fs, i, t, l => ∃ x r, l = x :: r ∧ (if toHas ver flex f (att t i) = true then ToF ver flex f (att t i) x else UsF f x) ∧ ToFs ver flex fs (i + 1) t r
end
mutual
def tabT : Fld → Bool
  | .mk kind _ _ nul tag df of sub => (decide (tag < 0) || (!decide (kind = 8) && !decide (kind = 9) && !decide (kind = 10) && !decide (kind = 11))) && (decide (nul < 0) || decide (kind = 8) || decide (kind = 9) || decide (kind = 11)) && (!decide (kind = 0) || (decide (df = 0) || decide (df = 1))) && decide (IntKind.i64.wrap df = df) && decide (of ≠ 11) && tabTs sub
def tabTs : List Fld → Bool
  | [] => true
  | f :: fs => tabT f && tabTs fs
end
mutual
def noTg : Fld → Bool
  | .mk _ _ _ _ tag _ _ sub => decide (tag < 0) && noTgs sub
def noTgs : List Fld → Bool
  | [] => true
  | f :: fs => noTg f && noTgs fs
end
mutual
def cntF (tg : Bool) : Fld → Nat
  | .mk kind _ _ _ _ _ _ sub => if kind = 11 then 1 else if kind = 10 then cntFs tg sub + (if tg then 1 else 0) else 1
def cntFs (tg : Bool) : List Fld → Nat
  | [] => 0
  | f :: fs => cntF tg f + cntFs tg fs
end
theorem tellTags_cnt (tg : Bool) (u : List (Nat × List UInt8)) : (TellTags tg u).length = if tg then 1 else 0 := by cases tg <;> rfl
mutual
theorem tellF_cnt {tg : Bool} : ∀ {f : Fld} {ds : List D} {T : Tree}, TellF tg f ds T → ds.length = cntF tg f
  | .mk kind fr upto nul tag df of sub, ds, T, h => by
    simp only [TellF] at h
    simp only [cntF]
    by_cases h11 : kind = 11
    · simp only [h11, if_true] at h ⊢
      obtain ⟨d, els, rfl, _⟩ := h; rfl
    · simp only [h11, if_false] at h ⊢
      by_cases h10 : kind = 10
      · simp only [h10, if_true] at h ⊢
        obtain ⟨a, u, rfl, _, _, hs⟩ := h
        rw [List.length_append, tellFs_cnt hs, tellTags_cnt]
      · simp only [h10, if_false] at h ⊢
        obtain ⟨d, rfl, _⟩ := h; rfl
theorem tellFs_cnt {tg : Bool} : ∀ {fs : List Fld} {ds : List D} {l : List Tree}, TellFs tg fs ds l → ds.length = cntFs tg fs
  | [], ds, l, h => by simp only [TellFs] at h; rw [h.1]; rfl
  | f :: fs, ds, l, h => by
    simp only [TellFs] at h
    obtain ⟨a, b, x, r, rfl, _, h1, h2⟩ := h
    rw [List.length_append, tellF_cnt h1, tellFs_cnt h2]; rfl
end
theorem byteD_inj {a b : UInt8} (h : byteD a = byteD b) : a = b := by
  simp only [byteD, D.lit.injEq, Value.int.injEq, true_and] at h
  exact UInt8.toNat_inj.1 (by omega)
theorem bytesD_inj {a b : List UInt8} (h : bytesD a = bytesD b) : a = b := by
  simp only [bytesD, D.sq.injEq] at h
  exact List.map_inj_right (fun _ _ => byteD_inj) |>.1 h
theorem tagsK_inj {u v : List (Nat × List UInt8)} (h : tagsK u = tagsK v) : u = v := by
  simp only [tagsK, D.mp.injEq] at h
  refine (List.map_inj_right (fun x y e => ?_)).1 h
  simp only [Prod.mk.injEq] at e
  exact Prod.ext e.1 (bytesD_inj e.2)
theorem strV_inj {a b : List UInt8} (h : strV a = strV b) : a = b := by
  simpa [strV] using h
end Go.Proofs.YtgpnpfiafcakfaaDoor

namespace Go.Proofs.YtgpnpfiafcakfaaDoor
open Go Go.RowKit
structure TabT (kind nul tag df of : Int) (sub : List Fld) : Prop where
 tag : tag < 0 ∨ (kind ≠ 8 ∧ kind ≠ 9 ∧ kind ≠ 10 ∧ kind ≠ 11)
 nul : nul < 0 ∨ kind = 8 ∨ kind = 9 ∨ kind = 11
 df0 : kind = 0 → df = 0 ∨ df = 1
 df : IntKind.i64.wrap df = df
 of : of ≠ 11
 sub : tabTs sub = true
theorem split_cnt {a b c d : List D} (h : a ++ b = c ++ d) (hl : a.length = c.length) : a = c ∧ b = d := List.append_inj h hl
end Go.Proofs.YtgpnpfiafcakfaaDoor

namespace Go.Proofs.YtgpnpfiafcakfaaDoor
open Go Go.RowKit
theorem bytes_inj {a b : List UInt8} (h : a.map byteD = b.map byteD) : a = b := (List.map_inj_right (fun _ _ => byteD_inj)).1 h
end Go.Proofs.YtgpnpfiafcakfaaDoor

namespace Go.Proofs.YtgpnpfiafcakfaaDoor
open Go Go.RowKit
end Go.Proofs.YtgpnpfiafcakfaaDoor

namespace Go.Proofs.YtgpnpfiafcakfaaDoor
open Go Go.RowKit
end Go.Proofs.YtgpnpfiafcakfaaDoor
