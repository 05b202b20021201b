/- FnMakeShareAcknowledgeRequest: for every number and every tree the statement's function returns true and leaves its arguments as they were. Conditions: those of the row, no others. -/
import Derived.Test.YtgpnpfiafcakfaaGreatPartE
import Derived.Test.YtgpnpfiafcakfaaGreatPartC
import Derived.Test.YtgpnpfiafcakfaaGreatPartA
import Derived.Test.YtgpnpfiafcakfaaGreatPartD
import Derived.ProofKit
import Derived.OpenShut
import Derived.Test.YtgpnpfiafcakfaaGreatRows
import Derived.JoinedCond
set_option linter.all false
namespace Go.Proofs.YtgpnpfiafcakfaaGreat
open Go Go.RowKit
theorem RowD.okb {B lo l0 bx e sz : Nat} {w : World} {d : Value} {ds : List D} (h : RowD B lo bx e sz w d ds) (hl : l0 ≤ lo) (hn : ∃ g, d.ownBlock = some g) : Rep (In B l0 w) w (.sl false ds) [d] := by
 obtain ⟨ha, hlw, xs, hr, hx⟩ := h
 obtain ⟨g, hg⟩ := hn
 have hgl := hlw g hg
 have hx' : Reps (In B l0 w) w ds xs := hx.up (fun _ hr => ⟨by have := hr.1; omega, hr.2.1⟩) (fun _ _ => rfl)
 simp only [Rep]
 obtain ⟨hxl, ⟨rfl, _⟩ | ⟨g', cap, cur, rfl, hBg, hheap, hle, hcap, hcs, htake⟩⟩ := hr
 ·cases hg
 ·have : g' = g := by simpa [Value.ownBlock] using hg
  subst this
  refine ⟨some ⟨g', 0, none⟩, cap, rfl, hle, (fun h => by cases h), fun _ => ⟨g', 0, xs, rfl, ⟨.inr (by omega), hgl.2⟩, ⟨cur, e, (0, 0), hheap, ?_, fun i v hv => ?_⟩, hx'⟩⟩
  ·rw [hxl, hcs, Nat.zero_add]; exact Nat.mul_le_mul_right _ hle
  ·rw [← htake, List.getElem?_take] at hv
   split at hv
   ·simpa using hv
   ·cases hv
def isNn (i : Nat) : Option Fw → Bool
 | some (.nn j) => Nat.beq j i
 | _ => false
def isLn (i : Nat) : Option Fw → Bool
 | some (.ln j) => Nat.beq j i
 | _ => false
def isFd3 (i : Nat) : Option Fw → Bool
 | some (.fd j 3) => Nat.beq j i
 | _ => false
def isC0 : Option Fw → Bool
 | some (.cv (.int .i64 0)) => true
 | _ => false
def zero5 (P : Program) (t n : Nat) : Bool := match P.info? t with
 | some i => Nat.beq i.size n && (match i.zero with | some z => Nat.beq z.cells.size n | none => false)
 | none => false
def optIs (o : Option Nat) (n : Nat) : Bool := match o with
 | some m => Nat.beq m n
 | none => false
theorem optIs_out {o : Option Nat} {n : Nat} (h : optIs o n = true) : o = some n := by
 unfold optIs at h
 split at h
 ·rw [beq_out h]
 ·cases h
def eachTy (P : Program) (q : Ep) (n : Nat) : Bool := optIs (elemSize P q.ti) n && optIs (tyAgg P q.tl) n && zero5 P q.ta n && sizeIs P q.ts n
theorem eachTy_out {P : Program} {q : Ep} {n : Nat} (h : eachTy P q n = true) : elemSize P q.ti = some n ∧ tyAgg P q.tl = some n ∧ (∃ (z : Value) (zs : List Value), (∀ w : World, (zeroValue q.ta).run P w = .ok z w) ∧ z.cells = zs.toArray ∧ zs.length = n) ∧ (P.info? q.ts).map (·.size) = some n := by
 simp only [eachTy, Bool.and_eq_true] at h
 obtain ⟨⟨⟨h1, h2⟩, h3⟩, h4⟩ := h
 refine ⟨optIs_out h1, optIs_out h2, ?_, ?_⟩
 ·unfold zero5 at h3
  split at h3
  ·rename_i i hi
   rw [Bool.and_eq_true] at h3
   obtain ⟨_, h3⟩ := h3
   split at h3
   ·rename_i z hz
    exact ⟨z, z.cells.toList, fun w => by simp [zeroValue, typeInfo, hi, hz], by simp, by rw [Array.length_toList]; exact beq_out h3⟩
   ·cases h3
  ·cases h3
 ·unfold sizeIs at h4
  split at h4
  ·rename_i i hi
   rw [hi]; simp [beq_out h4]
  ·cases h4
def bodyR (P : Program) (K : Fk) (N : Nat) (S : List Nat) (vs xb off : Nat) (of : Int) (sub : List Fld) (tE sz : Nat) : Code → Bool
 | .region _ ⟨l⟩ fl => rowBodyR P K fl N S vs xb off of sub tE sz l
 | _ => false
def mrOf : Option Fw → Option (Nat × Nat)
 | some (.mr e sz) => some (e, sz)
 | _ => none
def vpOf : Option Fw → Option Nat
 | some (.vp o) => some o
 | _ => none
def makeR (P : Program) (K : Fk) (i : Nat) (f : Fld) (N : Nat) (S : List Nat) (vs ts off : Nat) (ops : List Oper) : Option (Nat × Nat) := match lastO ops with
 | some (init, ⟨none, .store ty x y, _, _, _, none⟩) => (match opsF P K i f N S (FA0 vs ts) init with
  | some A => bif optIs (vpOf (evF A x)) off && sizeIs P ty 1 then mrOf (evF A y) else none
  | none => none)
 | _ => none
def loopR (P : Program) (K : Fk) (N : Nat) (S : List Nat) (tg : Bool) (f : Fld) (i off vs : Nat) (p : Nat × Nat) (A : FA) (lp : Code) : Bool := match eachP N S lp with
 | some q => isLn i (lkF A q.n) && isFd3 i (lkF A q.sl) && isC0 (lkF A q.ix) && outS S q.n && outS S q.sl && eachTy P q 5 && bodyR P K N (q.xb :: q.ix :: q.n :: q.sl :: S) vs q.xb off f.of f.sub p.1 p.2 q.body &&
   Nat.beq (shE tg f.of f.sub).length p.2 && Nat.blt 0 p.2 && Nat.ble p.2 1000
 | none => false
def listR (P : Program) (K : Fk) (N : Nat) (S : List Nat) (tg : Bool) (f : Fld) (i off vs ts : Nat) : Code → Bool
 | .seq (.region _ ⟨ops5⟩ false) (.cond (.tmp s) (.seq (.region _ ⟨ops6⟩ false) (.seq (.region _ ⟨ops7⟩ false) lp)) .skip) =>
  (match opsF P K i f N S (FA0 vs ts) ops5 with | some A5 => isNn i (lkF A5 s) | none => false) &&
  (match makeR P K i f N S vs ts off ops6, opsF P K i f N S (FA0 vs ts) ops7 with
  | some p, some A7 => loopR P K N S tg f i off vs p A7 lp
  | _, _ => false)
 | _ => false
section
variable {P : Program} {K : Fk} {N B l0 vb tb : Nat} {tcs : List Value} {tg : Bool} {t : Tree} {w : World}
theorem fieldK_list {f : Fld} (hk : f.kind = 11) (x : Tree) : fieldK tg f x = [if 0 ≤ f.nul then .sl x.nul (if x.nul then [] else x.l.map (elK tg f.of f.sub)) else .sq (x.l.map (elK tg f.of f.sub))] := by
 cases f with
 | mk kind fr upto nul tag df of sub =>
  have : kind = 11 := hk
  subst this
  rw [fieldK_mk]
  simp only [if_true, Fld.nul, Fld.of, Fld.sub]
  have e : (if of = 10 then x.l.map (fun x => D.agg (partK tg sub x)) else x.l.map (valK of (-1))) = x.l.map (elK tg of sub) := by
   by_cases h : of = 10
   ·simp only [h, if_true]; exact List.map_congr_left (fun y _ => by simp [elK])
   ·simp only [h, if_false]; exact List.map_congr_left (fun y _ => by simp [elK, h])
  rw [e]; rfl
theorem give_list {f : Fld} {x : Tree} (hk : f.kind = 11) (h : GiveF tg f x) : x.l.length ≤ many ∧ (f.nul < 0 → x.nul = true → x.l = []) ∧ (f.of = 10 → ∀ y ∈ x.l, GiveP tg f.sub y) ∧ (f.of ≠ 10 → ∀ y ∈ x.l, IntKind.i64.wrap y.n = y.n) := by
 cases f with
 | mk kind fr upto nul tag df of sub =>
  simp only [GiveF] at h
  exact ⟨h.2.1, h.2.2.2.1 hk, h.2.2.2.2.1 hk, h.2.2.2.2.2.1 hk⟩
theorem rowLoop_ok (hK : FkOk P K tg) (hm : P.follows .mixedOrders = true) {e : TypeId} {f : Fld} (hk : f.kind = 11) {i off vs : Nat} {p : Nat × Nat} {A : FA} {lp : Code} {Q : Exit → Act → World → Prop} {L : Sl} (hvs : lk L vs = some (.pointer (some ⟨vb, 0, none⟩)))
  (h : loopR P K N (L.map (·.1)) tg f i off vs p A lp = true) (hg : GiveF tg f (att t i)) (hn : (att t i).nul = false) {w0 : World} (hf : Fb B l0 vb) (hl0 : l0 ≤ w0.heap.size) {a : Act} (k : Kn N a L) (kF : KnF N B l0 vb tb w0.heap.size tcs tg t w a A) {cA cC : List Value} {d : Value} (hA : cA.length = off) (hb : Box w vb (cA ++ [d] ++ cC) e)
  (hrd : RowD B w0.heap.size vb p.1 p.2 w d []) (hown : ∃ g, d.ownBlock = some g) (hc : Chg (fun j => j = vb ∨ w0.heap.size ≤ j) w0 w)
  (hq : ∀ w' d', Box w' vb (cA ++ [d'] ++ cC) e → RowD B w0.heap.size vb p.1 p.2 w' d' ((att t i).l.map (elK tg f.of f.sub)) → (∃ g, d'.ownBlock = some g) → Chg (fun j => j = vb ∨ w0.heap.size ≤ j) w0 w' → QK .normal Q N L w') : lp.wp P Q a w := by
 unfold loopR at h
 split at h
 ·rename_i q hq1
  simp only [Bool.and_eq_true] at h
  obtain ⟨⟨⟨⟨⟨⟨⟨⟨⟨g1, g2⟩, g3⟩, g4⟩, g5⟩, g6⟩, g7⟩, g8⟩, g9⟩, g10⟩ := h
  have hlo := hc.size
  have hBv := hf.le
  have hvl := hf.lt
  obtain ⟨x, hx⟩ : ∃ x, x = att t i := ⟨_, rfl⟩
  rw [← hx] at hg hn hq
  obtain ⟨hlen, hnl, hgs, hgn⟩ := give_list hk hg
  have f1 : gt a q.n = .int .i64 x.l.length := by
   unfold isLn at g1
   split at g1
   ·rename_i j hj; have := beq_out g1; subst this; rw [hx]; exact kF.at_ _ _ hj
   ·cases g1
  obtain ⟨slv, hslv, hsl⟩ : ∃ slv, gt a q.sl = slv ∧ Rep (Lo B) w (.sq (x.l.map treeD)) [slv] := by
   unfold isFd3 at g2
   split at g2
   ·rename_i j hj
    have := beq_out g2; subst this
    obtain ⟨cs, hr, e2⟩ := kF.at_ _ _ hj
    obtain ⟨s1, l1, u1, rfl, _, hl1, _⟩ := tree_cellsG hr
    simp only [List.getElem?_cons_succ, List.getElem?_cons_zero, Option.some.injEq] at e2
    exact ⟨l1, e2.symm, by rw [hx]; exact hl1⟩
   ·cases g2
  have f3 : gt a q.ix = .int .i64 0 := by
   unfold isC0 at g3
   split at g3
   ·rename_i hj; exact kF.at_ _ _ hj
   ·cases g3
  obtain ⟨t1, t2, ⟨z, zs, t3, t4, t5⟩, t6⟩ := eachTy_out g6
  have hsl0 : Rep (Lo B) w0 (.sq (x.l.map treeD)) [slv] := Rep.mono (fun b hb => ⟨hb, (hc.block b (by have h3 : b < B := hb; omega) (by have h3 : b < B := hb; rintro (h | h) <;> omega)).symm⟩) _ _ hsl
  have s_n : ∀ {u : Nat}, u ∈ L.map (·.1) → u ≠ q.n := fun hu => outS_ne g4 hu
  have s_l : ∀ {u : Nat}, u ∈ L.map (·.1) → u ≠ q.sl := fun hu => outS_ne g5 hu
  have hLn : lk L q.n = none := lk_none_of g4
  have hLs : lk L q.sl = none := lk_none_of g5
  have hqo := hq1
  have hdist : lk L q.ix = none ∧ q.ix ≠ q.n ∧ q.ix ≠ q.sl ∧ q.n ≠ q.sl ∧ vs ≠ q.xb ∧ vs ≠ q.ix ∧ vs ≠ q.n ∧ vs ≠ q.sl := by
   have hvm : vs ∈ L.map (·.1) := List.mem_map.2 ⟨_, lk_mem hvs, rfl⟩
   have hne : q.n ≠ q.sl := by
    intro e; rw [e, hslv] at f1
    have := sq_shape hsl
    obtain ⟨b, c, e2, _⟩ := this
    rw [e2] at f1; cases f1
   unfold eachP at hqo
   split at hqo
   ·obtain ⟨hb2, hqe⟩ := bif_cond hqo
    subst hqe
    simp only [Bool.and_eq_true, Bool.not_eq_true'] at hb2
    obtain ⟨⟨⟨⟨⟨⟨⟨⟨⟨⟨⟨⟨⟨⟨⟨⟨⟨⟨⟨⟨⟨⟨⟨b1, b2⟩, b3⟩, b4⟩, b5⟩, b6⟩, b7⟩, b8⟩, b9⟩, n1⟩, n2⟩, n3⟩, n4⟩, n5⟩, n6⟩, o1⟩, o2⟩, o3⟩, o4⟩, o5⟩, o6⟩, m1⟩, m2⟩, m3⟩ := hb2
    refine ⟨lk_none_of (by unfold outS at o1 ⊢; simp only [List.all_cons, Bool.and_eq_true] at o1; exact o1.2.2), fun e => outS_ne o1 (s := _) (by simp) e.symm, fun e => outS_ne o1 (s := _) (by simp) e.symm, hne, outS_ne o5 (by simp [hvm]), outS_ne o1 (by simp [hvm]), outS_ne g4 hvm, outS_ne g5 hvm⟩
   ·cases hqo
  obtain ⟨e1, e2, e3, e4, v1, v2, v3, v4⟩ := hdist
  have kF' : Kn N a ((q.ix, .int .i64 0) :: (q.n, .int .i64 x.l.length) :: (q.sl, slv) :: L) := by
   refine ⟨k.size, k.defers, fun s u hu => ?_⟩
   simp only [lk] at hu
   cases h1 : Nat.beq q.ix s with
   | true => rw [h1] at hu; simp only [cond_true, Option.some.injEq] at hu; rw [← beq_out h1, ← hu]; exact f3
   | false =>
    rw [h1] at hu; simp only [cond_false] at hu
    cases h2 : Nat.beq q.n s with
    | true => rw [h2] at hu; simp only [cond_true, Option.some.injEq] at hu; rw [← beq_out h2, ← hu]; exact f1
    | false =>
     rw [h2] at hu; simp only [cond_false] at hu
     cases h3 : Nat.beq q.sl s with
     | true => rw [h3] at hu; simp only [cond_true, Option.some.injEq] at hu; rw [← beq_out h3, ← hu]; exact hslv
     | false => rw [h3] at hu; exact k.at_ s u hu
  refine each_ok (sz := 5) (z := z) (zs := zs) (len := x.l.length) (slv := slv) hq1 (by simp only [many] at hlen; omega) _ (fun s u hu => ?_) (by rw [lk_eq]) (by rw [lk_ne e2, lk_eq]) (by rw [lk_ne e3, lk_ne e4, lk_eq]) t1 t2 t3 t4 t5 t6
   (fun kk w' => ∃ d', Box w' vb (cA ++ [d'] ++ cC) e ∧ RowD B w0.heap.size vb p.1 p.2 w' d' ((x.l.take kk).map (elK tg f.of f.sub)) ∧ (∃ g, d'.ownBlock = some g) ∧ Chg (fun j => j = vb ∨ w0.heap.size ≤ j) w0 w')
   (fun kk w' cs => ∃ y, x.l[kk]? = some y ∧ Rep (Lo B) w' (treeD y) cs) ⟨d, hb, hrd, hown, hc⟩ ?_ ?_ ?_ a kF'
  ·rw [lk_ne (by rintro rfl; rw [e1] at hu; cases hu), lk_ne (by rintro rfl; rw [hLn] at hu; cases hu), lk_ne (by rintro rfl; rw [hLs] at hu; cases hu)]; exact hu
  ·rintro kk w' hkk ⟨d', hb', hrd', hown', hc'⟩
   have hr := Lo.upS hsl0 hc' (by omega) (fun j hj => by rcases hj with h | h <;> omega)
   simp only [Rep] at hr
   obtain ⟨ad, c', e0, hle, hs⟩ := hr
   rcases hs with hs | ⟨b, o', cs', rfl, ho, hcs, hd⟩
   ·rw [List.map_eq_nil_iff] at hs; rw [hs] at hkk; cases hkk
   ·obtain ⟨pre, cc, post, rfl, hl, hrr⟩ := Reps.get _ cs' hd (sz := 5) (fun d hd => by obtain ⟨y, _, rfl⟩ := List.mem_map.1 hd; exact treeD_width y) kk (by simpa using hkk)
    simp only [List.getElem_map] at hrr
    obtain ⟨s1, l1, u1, rfl, q1, q2, q3⟩ := tree_cellsG hrr
    obtain ⟨_, _, rfl, _⟩ := sq_shape q1
    obtain ⟨_, _, rfl, _⟩ := sq_shape q2
    obtain ⟨_, _, rfl, _⟩ := sq_shape q3
    simp only [List.length_map, List.cons.injEq, and_true] at e0
    exact ⟨b, o', _, c', e0, by rw [← hl]; exact hcs.part, rfl, rfl, _, List.getElem?_eq_getElem hkk, hrr⟩
  ·rintro kk w' hkk ⟨d', hb', hrd', hown', hc'⟩ cs w'' ⟨y, hy, hrep⟩ hbx hcx hsx Q' L' hL' hnext
   subst hL'
   have hyy : y = x.l[kk] := by rw [List.getElem?_eq_getElem hkk] at hy; exact (Option.some.inj hy).symm
   subst hyy
   have hmem := List.getElem_mem hkk
   have hsw := hc'.size
   generalize q.body = cb at g7 ⊢
   unfold bodyR at g7
   split at g7
   ·rename_i rid l fl
    have hrd'' := hrd'.below (w' := w'') ⟨hcx.os, hcx.tape, hcx.output, hcx.size, fun j hj => hcx.block j hj (fun h => h)⟩
    have hvm := hb'.lt
    refine rowBody_ok (vb := vb) (xbk := w'.heap.size) (lo := w0.heap.size) (d := d') (cells := cA ++ [d'] ++ cC) (xcs := cs) (x := x.l[kk]) (e := e) (tX := q.ta) hK hm (L := (q.xb, .pointer (some ⟨w'.heap.size, 0, none⟩)) :: (q.ix, .int .i64 kk) :: (q.n, .int .i64 x.l.length) :: (q.sl, slv) :: L) (h := g7)
     (by rw [lk_ne v1.symm, lk_ne v2.symm, lk_ne v3.symm, lk_ne v4.symm]; exact hvs) (by rw [lk_eq]) (beq_out g8) (Nat.le_of_ble_eq_true g9) (Nat.le_of_ble_eq_true g10) (hb'.chg hcx (fun h => h)) (by rw [List.append_assoc, List.getElem?_append_right (by omega), hA, Nat.sub_self]; rfl) hbx (Lo.upS hrep hcx (by omega) (fun j h => h.elim)) (by omega)
     (fun e5 => by have := hrd'.low _ e5; omega) hrd'' (by rw [List.length_map, List.length_take]; simp only [many] at hlen ⊢; omega) hBv (by omega) (by have := hcx.size; omega) (fun h10 => hgs h10 _ hmem) (fun h10 => hgn h10 _ hmem) ?_
    intro w3 d3 hb3 hrd3 hown3 hc3
    refine hnext w3 ⟨d3, ?_, ?_, hown3, (hc'.trans (hcx.wide (fun j h => h.elim))).trans hc3⟩
    ·have : (cA ++ [d'] ++ cC).set off d3 = cA ++ [d3] ++ cC := by
      subst hA; simp
     rw [← this]; exact hb3
    ·rw [List.take_succ_eq_append_getElem hkk, List.map_append]; exact hrd3
   ·cases g7
  ·rintro w' ⟨d', hb', hrd', hown', hc'⟩
   rw [List.take_length] at hrd'
   exact hq w' d' hb' hrd' hown' hc'
 ·cases h
end
end Go.Proofs.YtgpnpfiafcakfaaGreat

namespace Go.Proofs.YtgpnpfiafcakfaaGreat
open Go Go.RowKit
section
variable {P : Program} {K : Fk} {N B l0 vb tb : Nat} {tcs : List Value} {tg : Bool} {t : Tree} {w : World}
theorem list_ok (hK : FkOk P K tg) (hf : Fb B l0 vb) (hl0 : l0 ≤ w.heap.size) (hm : P.follows .mixedOrders = true) {e tT : TypeId} {f : Fld} (hk : f.kind = 11) {i off vs ts : Nat} {c : Code} {Q : Exit → Act → World → Prop} {L : Sl} (hvs : lk L vs = some (.pointer (some ⟨vb, 0, none⟩))) (hts : lk L ts = some (.pointer (some ⟨tb, 0, none⟩)))
  (h : listR P K N (L.map (·.1)) tg f i off vs ts c = true) (hg : GiveF tg f (att t i)) {pre post : List D} (hS : FSt B l0 vb e w (pre ++ [.sl true []] ++ post)) (hF : FWd B vb tb tT tcs t w) (hp : D.widths pre = off)
  (hq : ∀ w', FSt B l0 vb e w' (pre ++ fieldK tg f (att t i) ++ post) → Chg (fun j => j = vb ∨ w.heap.size ≤ j) w w' → QK .normal Q N L w') : WC c P Q N L w := by
 intro a k
 unfold listR at h
 split at h
 ·rename_i i5 ops5 s i6 ops6 i7 ops7 lp
  rw [Bool.and_eq_true] at h
  obtain ⟨g1, g2⟩ := h
  obtain ⟨hlen, hnl, _⟩ := give_list hk hg
  split at g1
  ·rename_i A5 hA5
   have hvl := hS.lt
   have hf1 := hf.le
   have hf2 := hf.lt
   have seg : ∀ {l : List Oper} {A A' : FA} {a : Act} {w1 : World} {Q1 : Exit → Act → World → Prop}, opsF P K i f N (L.map (·.1)) A l = some A' → FWd B vb tb tT tcs t w1 → KnF N B l0 vb tb w.heap.size tcs tg t w1 a A → Kn N a L → w.heap.size ≤ w1.heap.size →
     (∀ a' w', Chg (fun _ => False) w1 w' → FWd B vb tb tT tcs t w' → KnF N B l0 vb tb w.heap.size tcs tg t w' a' A' → Kn N a' L → Q1 .normal a' w') → ∀ id, (Code.region id l.toArray false).wp P Q1 a w1 := by
    intro l A A' a w1 Q1 hA hF1 kF kL hlo hq1 id
    refine wp_region_lit ?_
    have := opsF_ok hK hf hg (ops := l.toArray) (Q := Q1) (L := L) (post := []) l hA hF1 kF kL hlo (by omega) (fun a' w' h1 h2 h3 h4 => wpList_nil (hq1 a' w' h1 h2 h3 h4))
    simpa using this
   refine wp_seq (seg hA5 hF (knF0 k hvs hts) k (Nat.le_refl _) (fun a1 w1 hc1 hF1 kF1 kL1 => ?_) i5)
   show Code.wp P _ _ _ _
   have hb : a1.eval (.tmp s) = .bool (!(att t i).nul) := by
    unfold isNn at g1
    split at g1
    ·rename_i j hj; have := beq_out g1; subst this; exact kF1.at_ _ _ hj
    ·cases g1
   refine wp_cond_split hb (fun hnul => ?_) (fun hnul => ?_)
   ·-- a row is made
    have hnul' : (att t i).nul = false := by simpa using hnul
    split at g2
    ·rename_i p A7 hmk hA7
     unfold makeR at hmk
     split at hmk
     ·rename_i init ty x y _ _ _ hl6
      have hl6' := lastO_out hl6
      simp only at hl6'
      split at hmk
      ·rename_i A6 hA6
       cases hcnd : optIs (vpOf (evF A6 x)) off && sizeIs P ty 1 with
       | false => rw [hcnd] at hmk; cases hmk
       | true =>
        rw [hcnd] at hmk
        simp only [cond_true] at hmk
        rw [Bool.and_eq_true] at hcnd
        have hx6 : evF A6 x = some (.vp off) := by
         have := optIs_out hcnd.1
         unfold vpOf at this
         split at this
         ·rename_i hh; cases this; exact hh
         ·cases this
        have hy6 : evF A6 y = some (.mr p.1 p.2) := by
         unfold mrOf at hmk
         split at hmk
         ·rename_i hh; cases hmk; exact hh
         ·cases hmk
        refine wp_seq ?_
        have hlo1 := hc1.size
        subst hl6'
        refine wp_region_lit (opsF_ok hK hf hg (L := L) init hA6 hF1 (knF0 kL1 hvs hts) kL1 hlo1 (by omega) (fun a2 w2 hc2 hF2 kF2 kL2 => ?_))
        refine wpList_plain rfl (fun KK hKK => ?_)
        obtain ⟨g, cap, hv, hown, hgv⟩ := kF2.eval hy6
        have hc12 := hc1.trans hc2
        obtain ⟨cs, hbx, hrs⟩ := hS.up hf hc12 (fun _ h => h.elim)
        rw [List.append_assoc] at hrs
        obtain ⟨c1, c23, rfl, r1, r23⟩ := (Reps.app _ _ _).1 hrs
        obtain ⟨c2, c3, rfl, r2, r3⟩ := (Reps.app _ _ _).1 r23
        have l1 := Reps.len _ _ r1
        have l2 := Reps.len _ _ r2
        simp only [D.widths, D.width] at l2
        refine do_storeSeg (A := c1) (seg := c2) (C := c3) (vs := [a2.eval y]) (R := fun _ w3 => Box w3 vb (c1 ++ [a2.eval y] ++ c3) e ∧ w2.grownBy w3 (some vb)) rfl (kF2.eval hx6) rfl (by rw [hv]; rfl) hcnd.2 (by rw [hv]; rfl) (by simpa [List.append_assoc] using hbx) (by rw [l1, hp]) (by simpa using l2) (fun w'' hb'' hg'' => ⟨hb'', hg''⟩) KK _ (fun v w3 hR => hKK _ _ (wpList_nil ?_))
        obtain ⟨hb3, hg3⟩ := hR
        have kL3 : Kn N (a2.put none v) L := ⟨kL2.size, kL2.defers, kL2.at_⟩
        show Code.wp P _ _ _ _
        have hc3 : Chg (· = vb) w2 w3 := Chg.grown hg3
        have hc03 : Chg (fun j => j = vb ∨ w.heap.size ≤ j) w w3 := (hc12.wide (fun _ h => h.elim)).trans (hc3.wide (fun j hj => .inl hj))
        have hF3 : FWd B vb tb tT tcs t w3 := hF2.up hf hc3 (by have := hc12.size; omega) (fun j hj => .inl hj)
        have hrd3 : RowD B w.heap.size vb p.1 p.2 w3 (a2.eval y) [] := by
         have h0 : RowD B w.heap.size vb p.1 p.2 w2 (a2.eval y) [] := by
          refine ⟨by rw [hv]; simpa [Value.ownBlock] using hgv, fun g' hg' => World.ownsRow.lt hown g' hg', [], hown, by simp [Reps]⟩
         exact h0.stored hg3
        refine wp_seq (seg hA7 hF3 (knF0 kL3 hvs hts) kL3 (by have := hc03.size; omega) (fun a4 w4 hc4 hF4 kF4 kL4 => ?_) i7)
        show Code.wp P _ _ _ _
        refine rowLoop_ok hK hm hk (w0 := w) (cA := c1) (cC := c3) (d := a2.eval y) hvs g2 hg hnul' hf hl0 kL4 kF4 (by rw [l1, hp]) (hb3.chg hc4 (fun h => h)) (hrd3.below ⟨hc4.os, hc4.tape, hc4.output, hc4.size, fun j hj => hc4.block j hj (fun h => h)⟩) ⟨g, by rw [hv]; rfl⟩ (hc03.trans (hc4.wide (fun j h => h.elim))) ?_
        intro w' d' hb' hrd' hown' hc'
        refine hq w' ⟨c1 ++ [d'] ++ c3, hb', ?_⟩ hc'
        have up : ∀ {ds : List D} {cs : List Value}, Reps (In B l0 w2) w2 ds cs → Reps (In B l0 w) w ds cs → Reps (In B l0 w') w' ds cs := fun _ h => In.ups hf h hc' (fun j hj => hj)
        obtain ⟨cs0, hbx0, hrs0⟩ := hS
        have e0 : cs0 = c1 ++ (c2 ++ c3) := by
         have h1 := hbx0.chg hc12 (fun h => h)
         have h2 := hbx
         unfold Box at h1 h2
         rw [h1] at h2
         simpa using h2
        subst e0
        rw [List.append_assoc] at hrs0
        obtain ⟨d1, d23, hd1, s1, s23⟩ := (Reps.app _ _ _).1 hrs0
        obtain ⟨d2, d3, rfl, s2, s3⟩ := (Reps.app _ _ _).1 s23
        have ld1 := Reps.len _ _ s1
        have ld2 := Reps.len _ _ s2
        simp only [D.widths, D.width] at ld2
        have hh := List.append_inj hd1 (by rw [l1, ld1])
        obtain ⟨rfl, hh2⟩ := hh
        obtain ⟨rfl, rfl⟩ := List.append_inj hh2 (by rw [l2, ld2])
        have hrow := hrd'.okb hl0 hown'
        rw [List.append_assoc, List.append_assoc]
        refine (Reps.app _ _ _).2 ⟨c1, [d'] ++ c3, rfl, In.ups hf s1 hc' (fun j hj => hj), (Reps.app _ _ _).2 ⟨[d'], c3, rfl, ?_, In.ups hf s3 hc' (fun j hj => hj)⟩⟩
        rw [fieldK_list hk, rep_one]
        by_cases hn : 0 ≤ f.nul
        ·rw [if_pos hn, hnul']; exact hrow
        ·rw [if_neg hn]; exact sl_sq hrow
      ·cases hmk
     ·cases hmk
    ·cases g2
   ·-- null
    have hnul' : (att t i).nul = true := by simpa using hnul
    refine wp_skip (hq w1 ?_ (hc1.wide (fun _ h => h.elim)) _ kL1)
    obtain ⟨cs, hbx, hrs⟩ := hS.up hf hc1 (fun _ h => h.elim)
    refine ⟨cs, hbx, ?_⟩
    rw [fieldK_list hk]
    by_cases hn : 0 ≤ f.nul
    ·rw [if_pos hn, hnul']; simpa using hrs
    ·rw [if_neg hn, hnl (by omega) hnul']
     rw [List.append_assoc] at hrs ⊢
     obtain ⟨c1, c23, rfl, r1, r23⟩ := (Reps.app _ _ _).1 hrs
     obtain ⟨c2, c3, rfl, r2, r3⟩ := (Reps.app _ _ _).1 r23
     refine (Reps.app _ _ _).2 ⟨c1, c2 ++ c3, rfl, r1, (Reps.app _ _ _).2 ⟨c2, c3, rfl, ?_, r3⟩⟩
     rw [rep_one] at r2 ⊢
     exact sl_sq r2
  ·cases g1
 ·cases h
end
end Go.Proofs.YtgpnpfiafcakfaaGreat

namespace Go.Proofs.YtgpnpfiafcakfaaGreat
open Go Go.RowKit
structure TagG (w : World) (ok : Nat → Prop) (r : Nat) (u : List (Nat × List UInt8)) : Prop where
 at_ : ∃ es clock, w.heap[r]? = some (.map es clock) ∧ Mapped es clock (u.map (·.1)) ∧ RepKs ok w es (u.map fun kv => (kv.1, bytesD kv.2))
 up : Rising u
section
variable {P : Program} {w : World} {mty kt et : TypeId} {r clock : Nat} {es : Array MapEntry} {ks : List Nat}
theorem run_tagSetG (hm : P.underlying mty = some (.map kt et)) (hd : P.underlying kt = some (.int .u32)) {ok : Nat → Prop} {u : List (Nat × List UInt8)} (h : TagG w ok r u) (hok : ∀ b, ok b → b < w.heap.size ∧ b ≠ r) (key : Nat) {val : Value} {s : List UInt8} (hv : Rep ok w (bytesD s) [val]) :
  ∃ w', (Instr.mapUpdate mty (.map (some r)) (.int .u32 key) val).run P w = .ok () w' ∧ Chg (· = r) w w' ∧ w'.heap.size = w.heap.size ∧ TagG w' ok r (setTag key s u) := by
 obtain ⟨⟨es, clock, hb, hmap, hk⟩, hu⟩ := h
 rw [repKs_iff] at hk
 have hk' : ∀ kv ∈ u, ∃ e ∈ es, e.key = .int .u32 kv.1 ∧ Rep ok w (bytesD kv.2) [e.val] := fun kv hkv => hk (kv.1, bytesD kv.2) (List.mem_map.2 ⟨kv, hkv, rfl⟩)
 obtain ⟨w', es', clock', hrun, hb', hc, hsz, hst, hcase⟩ := run_mapUpd hm hd hb hmap (fun k hk0 => by
  obtain ⟨kv, hkv, rfl⟩ := List.mem_map.1 hk0
  obtain ⟨e, he, h1, _⟩ := hk' kv hkv
  exact ⟨e, he, h1⟩) key val
 have keep : ∀ {d : D} {cs : List Value}, Rep ok w d cs → Rep ok w' d cs := fun hr => Rep.mono (fun b hb => ⟨hb, hc.block b (hok b hb).1 (hok b hb).2⟩) _ _ hr
 have hnew : Rep ok w' (bytesD s) [val] := keep hv
 have hlen := setTag_length (k := key) (v := s) hu
 refine ⟨w', hrun, hc, hsz, ⟨⟨es', clock', hb', ⟨?_, hst, ?_, List.pairwise_map.2 (setTag_rising hu)⟩, ?_⟩, setTag_rising hu⟩⟩
 ·rw [List.length_map, hlen]
  rcases hcase with ⟨hni, rfl⟩ | ⟨hin, j, e, _, _, rfl⟩
  ·rw [if_neg hni, Array.size_push, hmap.1, List.length_map]
  ·rw [if_pos hin, Array.size_modify, hmap.1, List.length_map]
 ·intro e he
  rcases hcase with ⟨hni, rfl⟩ | ⟨hin, j, e0, hj, hj2, rfl⟩
  ·simp only [Array.toList_push, List.mem_append, List.mem_singleton] at he
   rcases he with he | rfl
   ·obtain ⟨k, hk0, e1⟩ := hmap.2.2.1 e he
    obtain ⟨kv, hkv, rfl⟩ := List.mem_map.1 hk0
    refine ⟨kv.1, List.mem_map.2 ⟨kv, (mem_setTag hu).2 (.inr ⟨hkv, fun e2 => hni (by rw [← e2]; exact hk0)⟩), rfl⟩, e1⟩
   ·exact ⟨key, List.mem_map.2 ⟨(key, s), (mem_setTag hu).2 (.inl rfl), rfl⟩, rfl⟩
  ·have hkeys := MapKept.modify_keys (es := es) j (fun e => { e with key := .int .u32 key, val := val }) (fun e' he' => by rw [hj] at he'; cases he'; exact hj2.symm)
   have : e.key ∈ (es.modify j fun e => { e with key := .int .u32 key, val := val }).toList.map (·.key) := List.mem_map.2 ⟨e, he, rfl⟩
   rw [hkeys] at this
   obtain ⟨y, hy, e1⟩ := List.mem_map.1 this
   obtain ⟨k, hk0, e2⟩ := hmap.2.2.1 y hy
   obtain ⟨kv, hkv, rfl⟩ := List.mem_map.1 hk0
   by_cases hkk : kv.1 = key
   ·exact ⟨key, List.mem_map.2 ⟨(key, s), (mem_setTag hu).2 (.inl rfl), rfl⟩, by rw [← e1, e2, hkk]⟩
   ·exact ⟨kv.1, List.mem_map.2 ⟨kv, (mem_setTag hu).2 (.inr ⟨hkv, hkk⟩), rfl⟩, by rw [← e1, e2]⟩
 ·rw [repKs_iff]
  intro kvd hkvd
  obtain ⟨kv, hkv, rfl⟩ := List.mem_map.1 hkvd
  rcases (mem_setTag hu).1 hkv with rfl | ⟨hold, hkne⟩
  ·rcases hcase with ⟨hni, rfl⟩ | ⟨hin, j, e0, hj, hj2, rfl⟩
   ·exact ⟨_, Array.mem_push_self, rfl, hnew⟩
   ·refine ⟨{ e0 with key := .int .u32 key, val := val }, ?_, rfl, hnew⟩
    have hlt := (Array.getElem?_eq_some_iff.1 hj).1
    refine Array.mem_of_getElem? (i := j) ?_
    rw [Array.getElem?_modify, if_pos rfl, hj]; rfl
  ·obtain ⟨e, he, h1, h2⟩ := hk' kv hold
   rcases hcase with ⟨hni, rfl⟩ | ⟨hin, j, e0, hj, hj2, rfl⟩
   ·exact ⟨e, Array.mem_push_of_mem _ he, h1, keep h2⟩
   ·obtain ⟨i, hi⟩ := Array.mem_iff_getElem?.1 he
    have hij : j ≠ i := by
     rintro rfl
     rw [hj] at hi
     simp only [Option.some.injEq] at hi
     subst hi
     rw [hj2] at h1
     simp only [Value.int.injEq, true_and] at h1
     exact hkne (by omega)
    refine ⟨e, Array.mem_of_getElem? (i := i) ?_, h1, keep h2⟩
    rw [Array.getElem?_modify, if_neg hij]; exact hi
theorem TagG.keep {w w' : World} {S : Nat → Prop} {ok : Nat → Prop} {r : Nat} {u : List (Nat × List UInt8)} (h : TagG w ok r u) (hc : Chg S w w') (hr : ¬ S r) (hs : ∀ b, ok b → b < w.heap.size ∧ ¬ S b) : TagG w' ok r u := by
 obtain ⟨⟨es, clock, hb, hm, hk⟩, hu⟩ := h
 have hlt : r < w.heap.size := (Array.getElem?_eq_some_iff.1 hb).1
 exact ⟨⟨es, clock, (hc.block r hlt hr).trans hb, hm, RepKs.mono (fun b hb => ⟨hb, hc.block b (hs b hb).1 (hs b hb).2⟩) es _ hk⟩, hu⟩
theorem tagG_new (w : World) (ok : Nat → Prop) : TagG (w.alloc (.map #[] 0)) ok w.heap.size [] := ⟨⟨#[], 0, heap_alloc_new w _, ⟨rfl, MapKept.stamped_empty 0, by simp, by simp⟩, by simp [RepKs]⟩, by simp [Rising]⟩
end
def TgAt (B lo : Nat) (w : World) (m : Value) (u : List (Nat × List UInt8)) : Prop := (m = .map none ∧ u = []) ∨ ∃ r, m = .map (some r) ∧ lo ≤ r ∧ TagG w (Lo B) r u
theorem TgAt.keep {B vb lo : Nat} (hf : Fb B lo vb) {w w' : World} {S : Nat → Prop} {m : Value} {u : List (Nat × List UInt8)} (h : TgAt B lo w m u) (hc : Chg S w w') (hlo : lo ≤ w.heap.size) (hs : ∀ j, S j → j = vb) : TgAt B lo w' m u := by
 have h1 := hf.le
 have h2 := hf.lt
 rcases h with h | ⟨r, rfl, hr, ht⟩
 ·exact .inl h
 ·exact .inr ⟨r, rfl, hr, ht.keep hc (fun e => by have := hs r e; omega) (fun b hb => ⟨by have h3 : b < B := hb; omega, fun e => by have h3 : b < B := hb; have := hs b e; omega⟩)⟩
theorem TgAt.rep {B l0 lo : Nat} {w : World} {m : Value} {u : List (Nat × List UInt8)} (h : TgAt B lo w m u) (hlo : lo ≤ w.heap.size) (hl : l0 ≤ lo) (hB : B ≤ w.heap.size) : Rep (In B l0 w) w (tagsK u) [m] := by
 simp only [tagsK, Rep]
 rcases h with ⟨rfl, rfl⟩ | ⟨r, rfl, hr, ⟨es, clock, hb, hm, hk⟩, _⟩
 ·exact .inl ⟨rfl, rfl⟩
 ·have hlt : r < w.heap.size := (Array.getElem?_eq_some_iff.1 hb).1
  refine .inr ⟨r, es, clock, rfl, ⟨.inr (by omega), hlt⟩, hb, ?_, RepKs.mono (fun b hb => ⟨⟨.inl hb, by have h3 : b < B := hb; omega⟩, rfl⟩) es _ hk⟩
  rw [List.map_map]
  exact hm
def SetP (P : Program) (f : Nat) : Prop := isFn P f = true ∧ ∀ (w : World) (B vb lo off key : Nat) (cells : List Value) (e : TypeId) (m val : Value) (s : List UInt8) (u : List (Nat × List UInt8)), Box w vb cells e → cells[off]? = some m → TgAt B lo w m u → Rep (Lo B) w (bytesD s) [val] → Fb B lo vb → lo ≤ w.heap.size →
 Calls P f #[.pointer (some ⟨vb, off, none⟩), .int .u32 key, val] w fun en w' => en = .returned (.tuple #[]) ∧ ∃ m', Box w' vb (cells.set off m') e ∧ TgAt B lo w' m' (setTag key s u) ∧ Chg (fun j => j = vb ∨ lo ≤ j) w w'
def rolOpT (P : Program) (e : Operand → Option Rl) : Op → Option Rl
 | .move x => e x
 | .nilCheck x => match e x with | some (.vp o) => some (.vp o) | _ => none
 | .fieldAddr s x f => match e x with
  | some (.vp o) => (fieldOff P s f).map fun k => .vp (o + k)
  | some (.xp o) => (fieldOff P s f).map fun k => .xp (o + k)
  | _ => none
 | .load t x => match e x with
  | some (.xp k) => bif tyOne P t && Nat.blt k 2 then some (.xf k) else none
  | _ => none
 | _ => none
def rolAtT (P : Program) (fl : Bool) (ops : List Oper) (vs xb : Nat) : Nat → Nat → Option Rl
 | 0, _ => none
 | n + 1, i => match ops[i]? with
  | some o => rolOpT P (opR fl ops vs xb (rolAtT P fl ops vs xb n) i) o.op
  | none => none
theorem rolOpT_mono {P : Program} {e e' : Operand → Option Rl} (he : ∀ x r, e x = some r → e' x = some r) {op : Op} {r : Rl} (h : rolOpT P e op = some r) : rolOpT P e' op = some r := by
 unfold rolOpT at h ⊢
 split at h
 ·exact he _ _ h
 ·split at h
  ·rename_i hx; simp only [he _ _ hx]; exact h
  ·cases h
 ·split at h
  ·rename_i hx; simp only [he _ _ hx]; exact h
  ·rename_i hx; simp only [he _ _ hx]; exact h
  ·cases h
 ·split at h
  ·rename_i hx; simp only [he _ _ hx]; exact h
  ·cases h
 ·cases h
theorem rolAtT_mono {P : Program} {fl : Bool} {ops : List Oper} {vs xb : Nat} : ∀ (n i : Nat) (r : Rl), rolAtT P fl ops vs xb n i = some r → rolAtT P fl ops vs xb (n + 1) i = some r
 | 0, i, r, h => by cases h
 | n + 1, i, r, h => by
  unfold rolAtT at h ⊢
  split at h
  ·rename_i o ho
   exact rolOpT_mono (fun x r hx => opR_mono (fun j r hj => rolAtT_mono n j r hj) x r hx) h
  ·cases h
theorem rolOpT_ok {P : Program} {a : Act} {w : World} {o : Oper} {vb xbk : Nat} {d : Value} {xcs : List Value} {x : Tree} {tX : TypeId} (hX : Box w xbk xcs tX) (hl : xcs.length = 2) {e : Operand → Option Rl} (he : ∀ y r, e y = some r → a.eval y = r.v vb xbk d xcs x) {r : Rl} (h : rolOpT P e o.op = some r) :
  (execOp a.eval o).run P w = .ok (.value (r.v vb xbk d xcs x)) w := by
 generalize hop : o.op = op at h
 unfold rolOpT at h
 split at h
 ·have := he _ _ h; rw [← this]; exact ro_move hop
 ·split at h
  ·rename_i hx; cases h; exact ro_nilCheck hop (he _ _ hx)
  ·cases h
 ·split at h
  ·rename_i hx
   simp only [Option.map_eq_some_iff] at h
   obtain ⟨k, hk, rfl⟩ := h
   exact ro_fieldAddr hop (he _ _ hx) hk
  ·rename_i hx
   simp only [Option.map_eq_some_iff] at h
   obtain ⟨k, hk, rfl⟩ := h
   exact ro_fieldAddr hop (he _ _ hx) hk
  ·cases h
 ·split at h
  ·rename_i k hx
   obtain ⟨hb, rfl⟩ := bif_cond h
   rw [Bool.and_eq_true] at hb
   have hk : k < xcs.length := by rw [hl]; exact Nat.le_of_ble_eq_true hb.2
   have hv : xcs[k]? = some xcs[k] := List.getElem?_eq_getElem hk
   have e2 : Rl.v vb xbk d xcs x (.xf k) = xcs[k] := getD_some hv
   rw [e2]
   exact ro_load hop (he _ _ hx) hb.1 (hX.cell hv)
  ·cases h
 ·cases h
def isXf (k : Nat) : Option Rl → Bool
 | some (.xf j) => Nat.beq j k
 | _ => false
def setOk (set off : Nat) (e : Operand → Option Rl) : Op → Bool
 | .call ⟨.value (.func f), ⟨[p, x, y]⟩, _⟩ => Nat.beq f set && isVp off (e p) && isXf 0 (e x) && isXf 1 (e y)
 | _ => false
theorem rolPtrT_ok {P : Program} {a : Act} {w : World} {o : Oper} {vb xbk : Nat} {d : Value} {xcs : List Value} {x : Tree} {e : Operand → Option Rl} (hp : isPtrOp o.op = true) (he : ∀ y r, e y = some r → a.eval y = r.v vb xbk d xcs x) {r : Rl} (h : rolOpT P e o.op = some r) :
  (execOp a.eval o).run P w = .ok (.value (r.v vb xbk d xcs x)) w := by
 generalize hop : o.op = op at h hp
 unfold rolOpT at h
 split at h
 ·have := he _ _ h; rw [← this]; exact ro_move hop
 ·split at h
  ·rename_i hx; cases h; exact ro_nilCheck hop (he _ _ hx)
  ·cases h
 ·split at h
  ·rename_i hx
   simp only [Option.map_eq_some_iff] at h
   obtain ⟨k, hk, rfl⟩ := h
   exact ro_fieldAddr hop (he _ _ hx) hk
  ·rename_i hx
   simp only [Option.map_eq_some_iff] at h
   obtain ⟨k, hk, rfl⟩ := h
   exact ro_fieldAddr hop (he _ _ hx) hk
  ·cases h
 ·cases hp
 ·cases h
def tagBodyR (P : Program) (set : Nat) (N : Nat) (S : List Nat) (vs xb off : Nat) : Code → Bool
 | .region _ ⟨ops⟩ fl =>
  let ist := ops.length - 1
  regOk fl N S ops && Nat.blt ist ops.length && (List.range ops.length).all (fun i => Nat.beq i ist || ((rolAtT P fl ops vs xb 30 i).isSome && ((prs fl ops ist).contains i || opAt ops i isPtrOp))) && (rolAtT P fl ops vs xb 30 ist).isNone && opAt ops ist (setOk set off (opR fl ops vs xb (fun i => rolAtT P fl ops vs xb 30 i) ist))
 | _ => false
section
variable {P : Program} {N : Nat} {L : Sl} {w : World}
theorem tagBody_ok {set : Nat} (hset : SetP P set) (hm : P.follows .mixedOrders = true) {c : Code} {Q : Exit → Act → World → Prop} {vs xb off vb xbk lo B : Nat} {e tX : TypeId} (h : tagBodyR P set N (L.map (·.1)) vs xb off c = true)
  (hvs : lk L vs = some (.pointer (some ⟨vb, 0, none⟩))) (hxb : lk L xb = some (.pointer (some ⟨xbk, 0, none⟩))) {cells xcs : List Value} {m : Value} {u : List (Nat × List UInt8)} {kv : Nat × List UInt8}
  (hst : Box w vb cells e) (hcell : cells[off]? = some m) (hX : Box w xbk xcs tX) (hrep : Rep (Lo B) w (tagD kv) xcs) (htg : TgAt B lo w m u) (hfb : Fb B lo vb) (hlo : lo ≤ w.heap.size)
  (hq : ∀ w' m', Box w' vb (cells.set off m') e → TgAt B lo w' m' (setTag kv.1 kv.2 u) → Chg (fun j => j = vb ∨ lo ≤ j) w w' → QK .normal Q N L w') : WC c P Q N L w := by
 unfold tagBodyR at h
 split at h
 ·rename_i rid ops fl
  simp only [Bool.and_eq_true] at h
  obtain ⟨⟨⟨⟨g1, g2⟩, g3⟩, g4⟩, g5⟩ := h
  obtain ⟨ist, hist⟩ : ∃ ist, ist = ops.length - 1 := ⟨_, rfl⟩
  rw [← hist] at g2 g3 g4 g5
  obtain ⟨r, hr⟩ : ∃ r : Nat → Option Rl, r = fun i => rolAtT P fl ops vs xb 30 i := ⟨_, rfl⟩
  have hmono : ∀ i rr, rolAtT P fl ops vs xb 29 i = some rr → r i = some rr := fun i rr hh => by rw [hr]; exact rolAtT_mono 29 i rr hh
  have hxc : ∃ sv, xcs = [.int .u32 kv.1, sv] ∧ Rep (Lo B) w (bytesD kv.2) [sv] := by
   simp only [tagD, Rep, Reps, bytesD] at hrep
   obtain ⟨c1, r1, rfl, rfl, c2, r2, rfl, h2, rfl⟩ := hrep
   obtain ⟨a2, b2, rfl, h2'⟩ := h2
   exact ⟨_, rfl, by simp only [bytesD, Rep]; exact ⟨_, _, rfl, h2'⟩⟩
  obtain ⟨sv, rfl, hsv⟩ := hxc
  obtain ⟨o0, ho0, hok0⟩ := opAt_out g5
  have lt_of : ∀ {i : Nat} {o : Oper}, ops[i]? = some o → i < ops.length := fun h => (List.getElem?_eq_some_iff.1 h).1
  have hread : ∀ i, i < ops.length → i ≠ ist → (∃ rr, r i = some rr) ∧ (i ∈ prs fl ops ist ∨ opAt ops i isPtrOp = true) := by
   intro i hi hne
   have := List.all_eq_true.1 g3 i (List.mem_range.2 hi)
   rw [Bool.or_eq_true] at this
   rcases this with h | h
   ·exact absurd (beq_out h) hne
   ·rw [Bool.and_eq_true] at h
    rw [Bool.or_eq_true] at h
    exact ⟨by rw [hr]; exact Option.isSome_iff_exists.1 h.1, h.2.imp (fun h => by simpa using h) id⟩
  have hnone : r ist = none := by rw [hr]; simpa using g4
  let C : List (Nat × Value) → World → Prop := fun dn w' => (dn = [] ∧ Chg (fun _ => False) w w') ∨ (∃ v, dn = [(ist, v)] ∧ ∃ m', Box w' vb (cells.set off m') e ∧ TgAt B lo w' m' (setTag kv.1 kv.2 u) ∧ Chg (fun j => j = vb ∨ lo ≤ j) w w')
  have rdEv : ∀ {i : Nat} {a : Act}, Kn N a L → (∀ j ∈ prs fl ops i, j ∉ [ist] → ∀ dd, dstOf ops j = some dd → gt a dd = (match r j with | some q => q.v vb xbk undef [.int .u32 kv.1, sv] Tree.none | none => undef)) → ∀ y rr, opR fl ops vs xb r i y = some rr → a.eval y = rr.v vb xbk undef [.int .u32 kv.1, sv] Tree.none := by
   intro i a k hf y rr hy
   refine opR_ok k hvs hxb (fun j hj dd hdd q hq => ?_) y rr hy
   by_cases hjc : j = ist
   ·subst hjc; rw [hnone] at hq; cases hq
   ·have := hf j hj (by simpa using hjc) dd hdd
    rw [hq] at this; exact this
  refine wc_reg (fl := fl) [ist] (fun i => match r i with | some q => q.v vb xbk undef [.int .u32 kv.1, sv] Tree.none | none => undef) C g1 hm (by simpa using g2) (.inl ⟨rfl, Chg.refl _ _⟩) (.inl ⟨rfl, chg_drew _ _⟩) ?_ ?_ ?_
  ·intro i o ho hni dn w' hC hnd a k hf
   have hil := lt_of ho
   have hne : i ≠ ist := by simpa using hni
   obtain ⟨⟨rr, hrr⟩, hpre⟩ := hread i hil hne
   simp only [hrr]
   have hrr2 := hrr
   rw [hr] at hrr2
   simp only at hrr2
   unfold rolAtT at hrr2
   rw [ho] at hrr2
   simp only at hrr2
   rcases hpre with hpre | hpp
   rotate_left
   ·obtain ⟨o2, ho2, hp2⟩ := opAt_out hpp
    rw [ho] at ho2; cases ho2
    exact rolPtrT_ok hp2 (e := opR fl ops vs xb (rolAtT P fl ops vs xb 29) i) (fun y q hy => rdEv k hf y q (opR_mono hmono y q hy)) hrr2
   have hXw : Box w' xbk [.int .u32 kv.1, sv] tX := by
    rcases hC with ⟨_, hc⟩ | ⟨v, rfl, _⟩
    ·exact hX.chg hc (fun h => h)
    ·exact absurd hpre (hnd ist v (by simp))
   exact rolOpT_ok hXw rfl (e := opR fl ops vs xb (rolAtT P fl ops vs xb 29) i) (fun y q hy => rdEv k hf y q (opR_mono hmono y q hy)) hrr2
  ·intro i o ho hi dn w' hC hnew hpre a k hf hdn
   have : i = ist := by simpa using hi
   subst this
   rw [ho0] at ho; cases ho
   have ev := rdEv k hf
   have hc : dn = [] ∧ Chg (fun _ => False) w w' := by
    rcases hC with h | ⟨v, rfl, _⟩
    ·exact h
    ·exact absurd (by simp) (hnew v)
   obtain ⟨rfl, hc⟩ := hc
   unfold setOk at hok0
   split at hok0
   ·rename_i f p x y ats hop
    simp only [Bool.and_eq_true] at hok0
    obtain ⟨⟨⟨p1, p2⟩, p3⟩, p4⟩ := hok0
    have := beq_out p1; subst this
    have e1 : a.eval p = .pointer (some ⟨vb, off, none⟩) := by
     unfold isVp at p2
     split at p2
     ·rename_i o' hy
      have := beq_out p2; subst this
      exact ev p (.vp o') (by rw [hr]; exact hy)
     ·cases p2
    have xfv : ∀ {q : Option Rl} {n : Nat}, isXf n q = true → q = some (.xf n) := by
     intro q n hq
     unfold isXf at hq
     split at hq
     ·rw [beq_out hq]
     ·cases hq
    have e2 : a.eval x = .int .u32 kv.1 := ev x (.xf 0) (by rw [hr]; exact xfv p3)
    have e3 : a.eval y = sv := ev y (.xf 1) (by rw [hr]; exact xfv p4)
    have hc1 := hc.size
    refine do_call hop (vs := #[.pointer (some ⟨vb, off, none⟩), .int .u32 kv.1, sv]) (by simp only [List.map_toArray, List.map_cons, List.map_nil, e1, e2, e3]) hset.1 ((hset.2 w' B vb lo off kv.1 cells e m sv kv.2 u (hst.chg hc (fun h => h)) hcell (htg.keep hfb hc hlo (fun j h => h.elim)) (Lo.upS hsv hc (by have := hfb.le; have := hfb.lt; omega) (fun j h => h.elim)) hfb (by omega)).mono ?_)
    rintro en w'' ⟨rfl, m', hb', ht', hc'⟩
    exact ⟨_, rfl, .inr ⟨_, rfl, m', hb', ht', (hc.wide (fun j h => h.elim)).trans hc'⟩⟩
   ·cases hok0
  ·intro dn w' hC hall a k hf hdn
   rcases hC with ⟨rfl, _⟩ | ⟨v, rfl, m', hb', ht', hc'⟩
   ·obtain ⟨v, hv⟩ := hall ist (by simp); cases hv
   ·exact hq w' m' hb' ht' hc' a k
 ·cases h
end
end Go.Proofs.YtgpnpfiafcakfaaGreat

namespace Go.Proofs.YtgpnpfiafcakfaaGreat
open Go Go.RowKit
def isLu : Option Fw → Bool
 | some .lu => true
 | _ => false
def isUt : Option Fw → Bool
 | some .ut => true
 | _ => false
def tagLoopR (P : Program) (set N : Nat) (S : List Nat) (vs off : Nat) (A : FA) (lp : Code) : Bool := match eachP N S lp with
 | some q => isLu (lkF A q.n) && isUt (lkF A q.sl) && isC0 (lkF A q.ix) && outS S q.n && outS S q.sl && eachTy P q 2 && tagBodyR P set N (q.xb :: q.ix :: q.n :: q.sl :: S) vs q.xb off q.body
 | none => false
def tgsR (P : Program) (K : Fk) (set N : Nat) (S : List Nat) (f0 : Fld) (off vs ts : Nat) : Code → Bool
 | .seq (.region _ ⟨ops⟩ false) lp => (match opsF P K 0 f0 N S (FA0 vs ts) ops with
  | some A => tagLoopR P set N S vs off A lp
  | none => false)
 | _ => false
def scalarC (P : Program) (K : Fk) (N : Nat) (S : List Nat) (f : Fld) (i off vs ts n : Nat) : Code → Bool
 | .region _ ⟨l⟩ false => scalarR P K N S f i off vs ts n l
 | _ => false
def kindIs (k : Int) : Fld → Bool
 | .mk kind _ _ _ _ _ _ _ => decide (kind = k)
theorem kindIs_out {k : Int} {f : Fld} (h : kindIs k f = true) : f.kind = k := by cases f; simpa [kindIs, Fld.kind] using h
def fillFs (P : Program) (K : Fk) (N : Nat) (S : List Nat) (tg : Bool) (vs ts : Nat) : List Fld → Nat → Nat → Code → Option Code
 | [], _, _, c => some c
 | f :: fs, i, off, c => match c with
  | .seq x rest => bif (bif kindIs 11 f then listR P K N S tg f i off vs ts x else scalarC P K N S f i off vs ts (shF tg f).length x) then fillFs P K N S tg vs ts fs (i + 1) (off + (shF tg f).length) rest else none
  | _ => none
def ZFs (tg : Bool) : List Fld → List D → Prop
 | [], ds => ds = []
 | f :: fs, ds => ∃ a b, ds = a ++ b ∧ D.widths a = (shF tg f).length ∧ (f.kind = 11 → a = [.sl true []]) ∧ ZFs tg fs b
section
variable {P : Program} {K : Fk} {N B l0 vb tb : Nat} {tcs : List Value} {tg : Bool} {t : Tree} {w : World}
theorem FWd.next {tT : TypeId} (hf : Fb B l0 vb) (hl0 : l0 ≤ w.heap.size) {w' : World} (h : FWd B vb tb tT tcs t w) (hc : Chg (fun j => j = vb ∨ w.heap.size ≤ j) w w') : FWd B vb tb tT tcs t w' := h.up hf hc hl0 (fun j hj => hj)
theorem fillFs_ok (hK : FkOk P K tg) (hf : Fb B l0 vb) (hm : P.follows .mixedOrders = true) {e tT : TypeId} {vs ts : Nat} {Q : Exit → Act → World → Prop} {L : Sl} (hvs : lk L vs = some (.pointer (some ⟨vb, 0, none⟩))) (hts : lk L ts = some (.pointer (some ⟨tb, 0, none⟩))) :
  ∀ (fs : List Fld) (i off : Nat) (c c' : Code), fillFs P K N (L.map (·.1)) tg vs ts fs i off c = some c' → GiveFs tg fs i t → ∀ (w : World) (pre zs post : List D), ZFs tg fs zs → FSt B l0 vb e w (pre ++ zs ++ post) → FWd B vb tb tT tcs t w → l0 ≤ w.heap.size → D.widths pre = off →
   (∀ w', FSt B l0 vb e w' (pre ++ partsK tg fs i t ++ post) → FWd B vb tb tT tcs t w' → Chg (fun j => j = vb ∨ w.heap.size ≤ j) w w' → WC c' P Q N L w') → WC c P Q N L w
 | [], i, off, c, c', h, hg, w, pre, zs, post, hz, hS, hF, hl0, hp, hq => by
  simp only [fillFs, Option.some.injEq] at h
  subst h
  simp only [ZFs] at hz
  subst hz
  exact hq w (by simpa [partsK] using hS) hF (Chg.refl _ _)
 | f :: fs, i, off, c, c', h, hg, w, pre, zs, post, hz, hS, hF, hl0, hp, hq => by
  simp only [fillFs] at h
  split at h
  ·rename_i x rest
   obtain ⟨hb, h⟩ : (bif kindIs 11 f then listR P K N (L.map (·.1)) tg f i off vs ts x else scalarC P K N (L.map (·.1)) f i off vs ts (shF tg f).length x) = true ∧ fillFs P K N (L.map (·.1)) tg vs ts fs (i + 1) (off + (shF tg f).length) rest = some c' := by
    cases hb : (bif kindIs 11 f then listR P K N (L.map (·.1)) tg f i off vs ts x else scalarC P K N (L.map (·.1)) f i off vs ts (shF tg f).length x) with
    | false => rw [hb] at h; cases h
    | true => rw [hb] at h; exact ⟨rfl, h⟩
   simp only [GiveFs] at hg
   simp only [ZFs] at hz
   obtain ⟨a, b, rfl, ha, hal, hzb⟩ := hz
   have hw := width_fieldK tg f (att t i)
   have step : ∀ w', FSt B l0 vb e w' (pre ++ fieldK tg f (att t i) ++ (b ++ post)) → Chg (fun j => j = vb ∨ w.heap.size ≤ j) w w' → QK .normal (Thn P rest Q) N L w' := by
    intro w' hS' hc'
    refine qk_thn (fillFs_ok hK hf hm hvs hts fs (i + 1) _ rest c' h hg.2 w' (pre ++ fieldK tg f (att t i)) b post hzb (by simpa [List.append_assoc] using hS') (hF.next hf hl0 hc') (by have := hc'.size; omega) (by rw [widths_append, hp, hw]) (fun w'' hS'' hF'' hc'' => hq w'' (by simpa [partsK, List.append_assoc] using hS'') hF'' ?_))
    exact hc'.trans (hc''.wide (fun j hj => hj.elim .inl (fun h => .inr (by have := hc'.size; omega))))
   refine wc_seq ?_
   cases hk : kindIs 11 f with
   | true =>
    rw [hk] at hb
    have hk' := kindIs_out hk
    refine list_ok hK hf hl0 hm hk' hvs hts hb hg.1 (pre := pre) (post := b ++ post) ?_ hF hp step
    rw [← hal hk']; simpa [List.append_assoc] using hS
   | false =>
    rw [hk] at hb
    simp only [cond_false] at hb
    unfold scalarC at hb
    split at hb
    ·exact scalar_ok hK hf (lo := w.heap.size) hvs hts hb hg.1 (pre := pre) (mid := a) (post := b ++ post) (by simpa [List.append_assoc] using hS) hF (Nat.le_refl _) hl0 hp ha hw step
    ·cases hb
  ·cases h
theorem tgs_ok (hK : FkOk P K tg) (hf : Fb B l0 vb) (hl0 : l0 ≤ w.heap.size) {set : Nat} (hset : SetP P set) (hm : P.follows .mixedOrders = true) {e tT : TypeId} {f0 : Fld} {off vs ts : Nat} {c : Code} {Q : Exit → Act → World → Prop} {L : Sl} (hvs : lk L vs = some (.pointer (some ⟨vb, 0, none⟩))) (hts : lk L ts = some (.pointer (some ⟨tb, 0, none⟩)))
  (h : tgsR P K set N (L.map (·.1)) f0 off vs ts c = true) (hg : GiveF tg f0 (att t 0)) (hu : GiveU t.u) {pre : List D} (hS : FSt B l0 vb e w (pre ++ [.lit (.map none)])) (hF : FWd B vb tb tT tcs t w) (hp : D.widths pre = off)
  (hq : ∀ w', FSt B l0 vb e w' (pre ++ [tagsK t.u]) → Chg (fun j => j = vb ∨ w.heap.size ≤ j) w w' → QK .normal Q N L w') : WC c P Q N L w := by
 intro a k
 unfold tgsR at h
 split at h
 ·rename_i i0 ops lp
  split at h
  ·rename_i A hA
   have hvl := hS.lt
   have hf1 := hf.le
   have hf2 := hf.lt
   have hfw : Fb B w.heap.size vb := ⟨hf1, hvl⟩
   refine wp_seq (wp_region_lit ?_)
   have := opsF_ok hK hf hg (lo := w.heap.size) (ops := ops.toArray) (Q := Exit.then (fun a w => lp.wp P Q a w) Q) (L := L) (post := []) ops hA hF (knF0 k hvs hts) k (Nat.le_refl _) hl0 (fun a1 w1 hc1 hF1 kF1 kL1 => wpList_nil ?_)
   ·simpa using this
   show Code.wp P _ _ _ _
   unfold tagLoopR at h
   split at h
   ·rename_i q hq1
    simp only [Bool.and_eq_true] at h
    obtain ⟨⟨⟨⟨⟨⟨g1, g2⟩, g3⟩, g4⟩, g5⟩, g6⟩, g7⟩ := h
    have hlo := hc1.size
    have f1 : gt a1 q.n = .int .i64 t.u.length := by
     unfold isLu at g1
     split at g1
     ·rename_i hj; exact kF1.at_ _ _ hj
     ·cases g1
    obtain ⟨sv, lv, uv, htc, _, _, huv⟩ := tree_cellsG hF1.rep
    have f2 : gt a1 q.sl = uv := by
     unfold isUt at g2
     split at g2
     ·rename_i hj
      have := kF1.at_ _ _ hj
      simp only [dnF, htc, List.getElem?_cons_succ, List.getElem?_cons_zero, Option.some.injEq] at this
      exact this.symm
     ·cases g2
    have f3 : gt a1 q.ix = .int .i64 0 := by
     unfold isC0 at g3
     split at g3
     ·rename_i hj; exact kF1.at_ _ _ hj
     ·cases g3
    obtain ⟨t1, t2, ⟨z, zs, t3, t4, t5⟩, t6⟩ := eachTy_out g6
    have huv0 : Rep (Lo B) w (.sq (t.u.map tagD)) [uv] := Rep.mono (fun b hb => ⟨hb, (hc1.block b (by have h3 : b < B := hb; omega) (fun h => h)).symm⟩) _ _ huv
    have hLn : lk L q.n = none := lk_none_of g4
    have hLs : lk L q.sl = none := lk_none_of g5
    have hqo := hq1
    have hvm : vs ∈ L.map (·.1) := List.mem_map.2 ⟨_, lk_mem hvs, rfl⟩
    have hdist : lk L q.ix = none ∧ q.ix ≠ q.n ∧ q.ix ≠ q.sl ∧ q.n ≠ q.sl ∧ vs ≠ q.xb ∧ vs ≠ q.ix ∧ vs ≠ q.n ∧ vs ≠ q.sl := by
     have hne : q.n ≠ q.sl := by
      intro e; rw [e, f2] at f1
      obtain ⟨b, c, e2, _⟩ := sq_shape huv
      rw [e2] at f1; cases f1
     unfold eachP at hqo
     split at hqo
     ·obtain ⟨hb2, hqe⟩ := bif_cond hqo
      subst hqe
      simp only [Bool.and_eq_true, Bool.not_eq_true'] at hb2
      obtain ⟨⟨⟨⟨⟨⟨⟨⟨⟨⟨⟨⟨⟨⟨⟨⟨⟨⟨⟨⟨⟨⟨⟨b1, b2⟩, b3⟩, b4⟩, b5⟩, b6⟩, b7⟩, b8⟩, b9⟩, n1⟩, n2⟩, n3⟩, n4⟩, n5⟩, n6⟩, o1⟩, o2⟩, o3⟩, o4⟩, o5⟩, o6⟩, m1⟩, m2⟩, m3⟩ := hb2
      refine ⟨lk_none_of (by unfold outS at o1 ⊢; simp only [List.all_cons, Bool.and_eq_true] at o1; exact o1.2.2), fun e => outS_ne o1 (s := _) (by simp) e.symm, fun e => outS_ne o1 (s := _) (by simp) e.symm, hne, outS_ne o5 (by simp [hvm]), outS_ne o1 (by simp [hvm]), outS_ne g4 hvm, outS_ne g5 hvm⟩
     ·cases hqo
    obtain ⟨e1, e2, e3, e4, v1, v2, v3, v4⟩ := hdist
    have kF' : Kn N a1 ((q.ix, .int .i64 0) :: (q.n, .int .i64 t.u.length) :: (q.sl, uv) :: L) := by
     refine ⟨kL1.size, kL1.defers, fun s u hu => ?_⟩
     simp only [lk] at hu
     cases h1 : Nat.beq q.ix s with
     | true => rw [h1] at hu; simp only [cond_true, Option.some.injEq] at hu; rw [← beq_out h1, ← hu]; exact f3
     | false =>
      rw [h1] at hu; simp only [cond_false] at hu
      cases h2 : Nat.beq q.n s with
      | true => rw [h2] at hu; simp only [cond_true, Option.some.injEq] at hu; rw [← beq_out h2, ← hu]; exact f1
      | false =>
       rw [h2] at hu; simp only [cond_false] at hu
       cases h3 : Nat.beq q.sl s with
       | true => rw [h3] at hu; simp only [cond_true, Option.some.injEq] at hu; rw [← beq_out h3, ← hu]; exact f2
       | false => rw [h3] at hu; exact kL1.at_ s u hu
    obtain ⟨cs, hbx, hrs⟩ := hS.up hf hc1 (fun _ h => h.elim)
    obtain ⟨cA, c2, rfl, r1, r2⟩ := (Reps.app _ _ _).1 hrs
    rw [rep_one] at r2
    simp only [Rep] at r2
    subst r2
    have l1 := Reps.len _ _ r1
    have hulen := hu.2
    refine each_ok (sz := 2) (z := z) (zs := zs) (len := t.u.length) (slv := uv) hq1 (by simp only [many] at hulen; omega) _ (fun s u hu => ?_) (by rw [lk_eq]) (by rw [lk_ne e2, lk_eq]) (by rw [lk_ne e3, lk_ne e4, lk_eq]) t1 t2 t3 t4 t5 t6
     (fun kk w' => ∃ m', Box w' vb (cA ++ [m']) e ∧ TgAt B w.heap.size w' m' (t.u.take kk) ∧ Chg (fun j => j = vb ∨ w.heap.size ≤ j) w w')
     (fun kk w' cs => ∃ kv, t.u[kk]? = some kv ∧ Rep (Lo B) w' (tagD kv) cs) ⟨_, hbx, .inl ⟨rfl, by simp⟩, hc1.wide (fun _ h => h.elim)⟩ ?_ ?_ ?_ a1 kF'
    ·rw [lk_ne (by rintro rfl; rw [e1] at hu; cases hu), lk_ne (by rintro rfl; rw [hLn] at hu; cases hu), lk_ne (by rintro rfl; rw [hLs] at hu; cases hu)]; exact hu
    ·rintro kk w' hkk ⟨m', hb', ht', hc'⟩
     have hr := Lo.upS huv0 hc' (by omega) (fun j hj => by rcases hj with h | h <;> omega)
     simp only [Rep] at hr
     obtain ⟨ad, c', e0, hle, hs⟩ := hr
     rcases hs with hs | ⟨b, o', cs', rfl, ho, hcs, hd⟩
     ·rw [List.map_eq_nil_iff] at hs; rw [hs] at hkk; cases hkk
     ·obtain ⟨pre', cc, post', rfl, hl, hrr⟩ := Reps.get _ cs' hd (sz := 2) (fun d hd => by obtain ⟨y, _, rfl⟩ := List.mem_map.1 hd; exact tagD_width y) kk (by simpa using hkk)
      simp only [List.getElem_map] at hrr
      have hrr0 := hrr
      simp only [tagD, Rep, Reps, bytesD] at hrr
      obtain ⟨d1, d2, rfl, rfl, d3, d4, rfl, h2, rfl⟩ := hrr
      obtain ⟨a2, b2, rfl, h2'⟩ := h2
      simp only [List.length_map, List.cons.injEq, and_true] at e0
      exact ⟨b, o', _, c', e0, by rw [← hl]; exact hcs.part, rfl, rfl, _, List.getElem?_eq_getElem hkk, hrr0⟩
    ·rintro kk w' hkk ⟨m', hb', ht', hc'⟩ cs w'' ⟨y, hy, hrep⟩ hbx' hcx hsx Q' L' hL' hnext
     subst hL'
     have hyy : y = t.u[kk] := by rw [List.getElem?_eq_getElem hkk] at hy; exact (Option.some.inj hy).symm
     subst hyy
     have hsw := hc'.size
     refine tagBody_ok (vb := vb) (xbk := w'.heap.size) (lo := w.heap.size) (cells := cA ++ [m']) (xcs := cs) (kv := t.u[kk]) (m := m') (u := t.u.take kk) (e := e) (tX := q.ta) hset hm (L := (q.xb, .pointer (some ⟨w'.heap.size, 0, none⟩)) :: (q.ix, .int .i64 kk) :: (q.n, .int .i64 t.u.length) :: (q.sl, uv) :: L) (h := g7)
      (by rw [lk_ne v1.symm, lk_ne v2.symm, lk_ne v3.symm, lk_ne v4.symm]; exact hvs) (by rw [lk_eq]) (hb'.chg hcx (fun h => h)) (by rw [List.getElem?_append_right (by omega), l1, hp, Nat.sub_self]; rfl) hbx' (Lo.upS hrep hcx (by omega) (fun j h => h.elim)) (ht'.keep hfw hcx hsw (fun j h => h.elim)) hfw (by have := hcx.size; omega) ?_
     intro w3 m3 hb3 ht3 hc3
     refine hnext w3 ⟨m3, ?_, ?_, (hc'.trans (hcx.wide (fun j h => h.elim))).trans hc3⟩
     ·have : (cA ++ [m']).set off m3 = cA ++ [m3] := by
       have : off = cA.length := by rw [l1, hp]
       subst this; simp
      rw [← this]; exact hb3
     ·rw [List.take_succ_eq_append_getElem hkk]
      rw [setTag_end] at ht3
      ·exact ht3
      ·intro x hx
       obtain ⟨j, hj, rfl⟩ := List.mem_iff_getElem.1 hx
       have hj' : j < kk := by simp only [List.length_take] at hj; omega
       rw [List.getElem_take]
       exact List.pairwise_iff_getElem.1 hu.1 j kk (by omega) hkk hj'
    ·rintro w' ⟨m', hb', ht', hc'⟩
     rw [List.take_length] at ht'
     refine hq w' ⟨cA ++ [m'], hb', (Reps.app _ _ _).2 ⟨cA, [m'], rfl, ?_, rep_one.2 (ht'.rep hc'.size hl0 (by have := hc'.size; omega))⟩⟩ hc'
     have r0 : Reps (In B l0 w) w pre cA := by
      obtain ⟨cs0, hbx0, hrs0⟩ := hS
      have h1 := hbx0.chg hc1 (fun h => h)
      have h2 := hbx
      unfold Box at h1 h2
      rw [h1] at h2
      have e0 : cs0 = cA ++ [.map none] := by simpa using h2
      subst e0
      obtain ⟨x1, x2, he, y1, y2⟩ := (Reps.app _ _ _).1 hrs0
      have := Reps.len _ _ y1
      obtain ⟨rfl, _⟩ := List.append_inj he (by rw [l1, this])
      exact y1
     exact In.ups hf r0 hc' (fun j hj => hj)
   ·cases h
  ·cases h
 ·cases h
end
end Go.Proofs.YtgpnpfiafcakfaaGreat

namespace Go.Proofs.YtgpnpfiafcakfaaGreat
open Go Go.RowKit
def headF0 (f0 : List Fld) : Option Fld := match f0 with
 | f :: _ => some f
 | [] => none
def fillFnR (P : Program) (K : Fk) (set : Nat) (tg : Bool) (f : Nat) (fs : List Fld) : Bool := match P.funcs[f]? with
 | some fn => (match fn.body with
  | some (.seq (.region _ ⟨[⟨some ts, .box _ (.tmp 1), _, _, _, none⟩]⟩ false) rest) => isFn P f && Nat.beq fn.results.size 0 && Nat.ble 2 fn.ntmps && Nat.blt ts fn.ntmps && !Nat.beq ts 0 && tg && (match headF0 fs, fillFs P K fn.ntmps [0, ts] tg 0 ts fs 0 1 rest with
   | some f0, some c' => tgsR P K set fn.ntmps [0, ts] f0 (1 + (shFs tg fs).length) 0 ts c'
   | _, _ => false)
  | _ => false)
 | none => false
def zD : Value → D
 | .slice none 0 0 => .sl true []
 | v => .lit v
def isNilSl : List Value → Bool
 | [.slice none 0 0] => true
 | _ => false
def isNilMp : List Value → Bool
 | [.map none] => true
 | _ => false
def zfsB (tg : Bool) : List Fld → List Value → Bool
 | [], vs => isNilMp vs
 | f :: fs, vs => Nat.ble (shF tg f).length vs.length && (!kindIs 11 f || isNilSl (vs.take (shF tg f).length)) && zfsB tg fs (vs.drop (shF tg f).length)
theorem zD_width (v : Value) : (zD v).width = 1 := by unfold zD; split <;> rfl
theorem zDs_widths : ∀ (vs : List Value), D.widths (vs.map zD) = vs.length
 | [] => rfl
 | v :: vs => by simp only [List.map_cons, D.widths, zD_width, zDs_widths vs, List.length_cons]; omega
theorem zDs_rep (ok : Nat → Prop) (w : World) : ∀ (vs : List Value), Reps ok w (vs.map zD) vs
 | [] => by simp [Reps]
 | v :: vs => by
  simp only [List.map_cons, Reps]
  refine ⟨[v], vs, rfl, ?_, zDs_rep ok w vs⟩
  unfold zD
  split
  ·simp only [Rep]; exact ⟨none, 0, rfl, Nat.le_refl _, by simp, by simp⟩
  ·simp [Rep]
theorem zfsB_out {tg : Bool} : ∀ {fs : List Fld} {vs : List Value}, zfsB tg fs vs = true → ∃ zs, vs.map zD = zs ++ [.lit (.map none)] ∧ ZFs tg fs zs
 | [], vs, h => by
  simp only [zfsB] at h
  unfold isNilMp at h
  split at h
  ·exact ⟨[], rfl, by simp [ZFs]⟩
  ·cases h
 | f :: fs, vs, h => by
  simp only [zfsB, Bool.and_eq_true, Bool.or_eq_true, Bool.not_eq_true'] at h
  obtain ⟨⟨h1, h2⟩, h3⟩ := h
  have h1 := Nat.le_of_ble_eq_true h1
  obtain ⟨zs, e, hz⟩ := zfsB_out h3
  refine ⟨(vs.take (shF tg f).length).map zD ++ zs, ?_, ?_⟩
  ·rw [List.append_assoc, ← e, ← List.map_append, List.take_append_drop]
  ·simp only [ZFs]
   refine ⟨_, zs, rfl, ?_, fun hk => ?_, hz⟩
   ·rw [zDs_widths, List.length_take]; omega
   ·rcases h2 with h2 | h2
    ·have : kindIs 11 f = true := by cases f; simpa [kindIs, Fld.kind] using hk
     rw [this] at h2; cases h2
    ·unfold isNilSl at h2
     split at h2
     ·rename_i e2; rw [e2]; rfl
     ·cases h2
def sizeOpt (P : Program) (t n : Nat) : Bool := match P.info? t with
 | some i => Nat.beq i.size n
 | none => false
def zeroOf (P : Program) (t : Nat) : Option (List Value) := match P.info? t with
 | some i => (match i.zero with | some z => some z.cells.toList | none => none)
 | none => none
theorem zeroOf_out {P : Program} {t : Nat} {zs : List Value} (h : zeroOf P t = some zs) : ∃ z : Value, (∀ w : World, (zeroValue t).run P w = .ok z w) ∧ z.cells = zs.toArray := by
 unfold zeroOf at h
 split at h
 ·rename_i i hi
  split at h
  ·rename_i z hz
   cases h
   exact ⟨z, fun w => by simp [zeroValue, typeInfo, hi, hz], by simp⟩
  ·cases h
 ·cases h
def zeroZ (P : Program) (tg : Bool) (fs : List Fld) (t : Nat) : Bool := match zeroOf P t with
 | some zs => zfsB tg fs zs && Nat.beq zs.length (shP tg fs).length
 | none => false
def zeroN (P : Program) (t n : Nat) : Bool := match zeroOf P t with
 | some zs => Nat.beq zs.length n
 | none => false
def cellRes (r : Array ResultVar) : Option (Nat × Nat) := match r with
 | ⟨[.cell s t]⟩ => some (s, t)
 | _ => none
theorem cellRes_out {r : Array ResultVar} {p : Nat × Nat} (h : cellRes r = some p) : r = #[.cell p.1 p.2] := by
 unfold cellRes at h
 split at h
 ·cases h; rfl
 ·cases h
def makeTail (P : Program) (N n vs ts rs : Nat) (rt : Nat) : Code → Option Code
 | .seq c1 (.seq (.region _ ⟨[⟨some d, .load t3 (.tmp vs2), _, _, _, none⟩, ⟨none, .store t4 (.tmp rs2) (.tmp d2), _, _, _, none⟩]⟩ false) .ret) =>
  bif Nat.beq vs vs2 && Nat.beq rs rs2 && Nat.beq d d2 && Nat.blt d N && !Nat.beq d vs && !Nat.beq d ts && !Nat.beq d rs && optIs (tyAgg P t3) n && sizeOpt P t4 n && optIs (tyAgg P rt) n then some c1 else none
 | _ => none
def makeMid (P : Program) (K : Fk) (set : Nat) (tg : Bool) (fs : List Fld) (N vs ts rs : Nat) (r : Option (Nat × Nat)) (rest : Code) : Bool := match r with
 | some p => Nat.beq p.1 rs && (match fillFs P K N [vs, ts, rs] tg vs ts fs 0 0 rest with
  | some c => (match makeTail P N (shP tg fs).length vs ts rs p.2 c, headF0 fs with
   | some c1, some f0 => tgsR P K set N [vs, ts, rs] f0 (shFs tg fs).length vs ts c1
   | _, _ => false)
  | none => false)
 | none => false
def makeFnR (P : Program) (K : Fk) (set : Nat) (tg : Bool) (f : Nat) (fs : List Fld) : Bool := match P.funcs[f]? with
 | some fn => (match fn.body with
  | some (.seq (.region _ ⟨[⟨some ts, .box _ (.tmp 0), _, _, _, none⟩, ⟨some rs, .alloc t1, _, _, _, none⟩]⟩ false) (.seq (.region _ ⟨[⟨some vs, .alloc t2, _, _, _, none⟩]⟩ false) rest)) =>
   isFn P f && Nat.ble 1 fn.ntmps && Nat.blt ts fn.ntmps && Nat.blt rs fn.ntmps && Nat.blt vs fn.ntmps && !Nat.beq ts rs && !Nat.beq vs ts && !Nat.beq vs rs && tg && zeroN P t1 (shP tg fs).length && zeroZ P tg fs t2 &&
   makeMid P K set tg fs fn.ntmps vs ts rs (cellRes fn.results) rest
  | _ => false)
 | none => false
def FillP (P : Program) (f : Nat) (tg : Bool) (fs : List Fld) : Prop := isFn P f = true ∧ ∀ (w : World) (B l0 vb : Nat) (e : TypeId) (ver : Value) (zs : List D) (t : Tree) (tcs : List Value), FSt B l0 vb e w (.lit ver :: zs ++ [.lit (.map none)]) → ZFs tg fs zs → Rep (Lo B) w (treeD t) tcs → GiveP tg fs t → Fb B l0 vb → l0 ≤ w.heap.size →
 Calls P f #[.pointer (some ⟨vb, 0, none⟩), .agg tcs.toArray] w fun en w' => en = .returned (.tuple #[]) ∧ FSt B l0 vb e w' (.lit ver :: partK tg fs t) ∧ Chg (fun j => j = vb ∨ w.heap.size ≤ j) w w'
mutual
def D.one : D → Prop
 | .lit v => v.oneCell' = true
 | .agg ds => D.ones ds
 | _ => True
def D.ones : List D → Prop
 | [] => True
 | d :: ds => d.one ∧ D.ones ds
end
theorem ones_append : ∀ {a b : List D}, D.ones a → D.ones b → D.ones (a ++ b)
 | [], _, _, h => h
 | _ :: _, _, h, k => ⟨h.1, ones_append h.2 k⟩
mutual
theorem rep_one1 {ok : Nat → Prop} {w : World} : ∀ {d : D} {cs : List Value}, Rep ok w d cs → d.one → (cs.all fun v => v.oneCell') = true
 | .lit v, cs, h, h1 => by simp only [Rep] at h; subst h; simp only [D.one] at h1; simp [h1]
 | .agg ds, cs, h, h1 => by simp only [Rep] at h; simp only [D.one] at h1; exact rep_ones h h1
 | .ptr d, cs, h, _ => by simp only [Rep] at h; obtain ⟨b, c, rfl, _⟩ := h; rfl
 | .sl n ds, cs, h, _ => by simp only [Rep] at h; obtain ⟨b, c, rfl, _⟩ := h; rfl
 | .sq ds, cs, h, _ => by simp only [Rep] at h; obtain ⟨b, c, rfl, _⟩ := h; rfl
 | .mp kvs, cs, h, _ => by
  simp only [Rep] at h
  rcases h with ⟨rfl, _⟩ | ⟨r, es, clock, rfl, _⟩ <;> rfl
theorem rep_ones {ok : Nat → Prop} {w : World} : ∀ {ds : List D} {cs : List Value}, Reps ok w ds cs → D.ones ds → (cs.all fun v => v.oneCell') = true
 | [], cs, h, _ => by simp only [Reps] at h; subst h; rfl
 | d :: ds, cs, h, h1 => by
  simp only [Reps] at h
  obtain ⟨c1, c2, rfl, h2, h3⟩ := h
  simp only [D.ones] at h1
  rw [List.all_append, rep_one1 h2 h1.1, rep_ones h3 h1.2]; rfl
end
theorem one_bytes : ∀ (s : List UInt8), D.ones (s.map byteD)
 | [] => by simp [D.ones]
 | c :: s => ⟨rfl, one_bytes s⟩
theorem one_valK (kind nul : Int) (t : Tree) : (valK kind nul t).one := by
 unfold valK
 repeat' split
 all_goals first | exact rfl | exact trivial | skip
 simp only [D.one]; exact one_bytes _
mutual
theorem one_fieldK (tg : Bool) : ∀ (f : Fld) (t : Tree), D.ones (fieldK tg f t)
 | .mk kind fr upto nul tag df of sub, t => by
  rw [fieldK_mk]
  by_cases h11 : kind = 11
  ·simp only [h11, if_true]
   refine ⟨?_, trivial⟩
   split <;> simp [D.one]
  ·simp only [h11, if_false]
   by_cases h10 : kind = 10
   ·simp only [h10, if_true]
    by_cases hn : 0 ≤ nul
    ·simp only [hn, if_true]
     refine ⟨?_, trivial⟩
     split
     ·exact rfl
     ·exact trivial
    ·simp only [hn, if_false]
     refine ones_append (one_partsK tg sub 0 t) ?_
     cases tg <;> simp [D.ones, tagsK, D.one]
   ·simp only [h10, if_false]
    exact ⟨one_valK _ _ _, trivial⟩
theorem one_partsK (tg : Bool) : ∀ (fs : List Fld) (i : Nat) (t : Tree), D.ones (partsK tg fs i t)
 | [], _, _ => by simp [partsK, D.ones]
 | f :: fs, i, t => by simp only [partsK]; exact ones_append (one_fieldK tg f _) (one_partsK tg fs (i + 1) t)
end
theorem one_partK (tg : Bool) (fs : List Fld) (t : Tree) : D.ones (partK tg fs t) := by
 refine ones_append (one_partsK tg fs 0 t) ?_
 cases tg <;> simp [D.ones, tagsK, D.one]
section
variable {P : Program} {K : Fk} {tg : Bool}
theorem widths_one (v : Value) (l : List D) : D.widths (.lit v :: l) = 1 + D.widths l := rfl
theorem fillFn_ok (hK : FkOk P K tg) {set : Nat} (hset : SetP P set) (hm : P.follows .mixedOrders = true) {f : Nat} {fs : List Fld} (h : fillFnR P K set tg f fs = true) : FillP P f tg fs := by
 unfold fillFnR at h
 split at h
 ·rename_i fn hfn
  split at h
  ·rename_i i1 ts bt ty1 p1 a1 rest hbody
   simp only [Bool.and_eq_true, Bool.not_eq_true'] at h
   obtain ⟨⟨⟨⟨⟨⟨g1, g2⟩, g3⟩, g4⟩, g5⟩, htg⟩, g6⟩ := h
   subst htg
   split at g6
   ·rename_i f0 c' hf0 hc'
    refine ⟨g1, fun w B l0 vb e ver zs t tcs hS hz hr hg hf hl0 => ?_⟩
    have hres : fn.results = #[] := by
     have := beq_out g2
     exact Array.eq_empty_of_size_eq_zero this
    refine enter (vs := [.pointer (some ⟨vb, 0, none⟩), .agg tcs.toArray]) hfn hbody rfl g3 ?_
    have hts := nb_ne g5
    refine wc_seq (wc_region (l := [_]) ?_)
    refine wl_box1 (v := .agg tcs.toArray) (cs := tcs) rfl rfl g4 (fun w1 hb1 hg1 hs1 => wl_nil (qk_thn ?_))
    have hc1 : Chg (fun _ => False) w w1 := Chg.grown0 hg1
    have hvb := hS.lt
    have hF : FWd B vb w.heap.size bt tcs t w1 := ⟨hb1, Lo.upS hr hc1 (by have := hf.le; omega) (fun j h => h.elim), by omega⟩
    have main : ∀ (R : Ending → World → Prop), (∀ w3, FSt B l0 vb e w3 (.lit ver :: partK true fs t) → Chg (fun j => j = vb ∨ w.heap.size ≤ j) w w3 → R (.returned (.tuple #[])) w3) → WC rest P (bodyPost P fn R) fn.ntmps [(0, .pointer (some ⟨vb, 0, none⟩)), (ts, .pointer (some ⟨w.heap.size, 0, none⟩))] w1 := by
     intro R hR
     refine fillFs_ok hK hf hm (vs := 0) (ts := ts) (tb := w.heap.size) (tT := bt) (tcs := tcs) (e := e) (t := t) rfl (by rw [lk_ne (fun e => hts e.symm), lk_eq]) fs 0 1 rest c' hc' hg.1 w1 [.lit ver] zs [.lit (.map none)] hz (hS.up hf hc1 (fun j h => h.elim)) hF (by omega) rfl ?_
     intro w2 hS2 hF2 hc2
     obtain ⟨f1, fr, rfl⟩ : ∃ f1 fr, fs = f1 :: fr := by
      unfold headF0 at hf0
      split at hf0
      ·exact ⟨_, _, rfl⟩
      ·cases hf0
     simp only [headF0, Option.some.injEq] at hf0
     subst hf0
     refine tgs_ok hK hf (by have := hc2.size; omega) hset hm (vs := 0) (ts := ts) (tb := w.heap.size) (tT := bt) (tcs := tcs) (e := e) (f0 := f1) (t := t) rfl (by rw [lk_ne (fun e => hts e.symm), lk_eq]) g6 (by have := hg.1; simp only [GiveFs] at this; exact this.1) (hg.2 rfl) (pre := .lit ver :: partsK true (f1 :: fr) 0 t) (by simpa using hS2) hF2 (by rw [widths_one, width_partsK]) ?_
     intro w3 hS3 hc3
     refine qk_end0 hres (hR w3 ?_ ?_)
     ·simpa [partK] using hS3
     ·refine (hc1.wide (fun j h => h.elim)).trans ((hc2.trans (hc3.wide (fun j hj => ?_))).wide (fun j hj => ?_))
      ·rcases hj with h | h
       ·exact .inl h
       ·exact .inr (by have := hc2.size; omega)
      ·rcases hj with h | h
       ·exact .inl h
       ·exact .inr (by omega)
    intro a ka
    refine main _ (fun w3 h1 h2 => ⟨rfl, h1, h2⟩) a (ka.pick (fun s u hu => ?_))
    simp only [argsL, lk] at hu ⊢
    by_cases h0 : 0 = s
    ·subst h0
     have e1 : Nat.beq ts 0 = false := g5
     simp only [Nat.beq_refl, cond_true] at hu
     rw [e1]; simpa using hu
    ·have e0 : Nat.beq 0 s = false := by
      cases hb : Nat.beq 0 s with
      | true => exact absurd (beq_out hb) h0
      | false => rfl
     rw [e0] at hu
     simp only [cond_false] at hu
     cases h2 : Nat.beq ts s with
     | true => rw [h2] at hu; simpa using hu
     | false => rw [h2] at hu; cases hu
   ·cases g6
  ·cases h
 ·cases h
theorem makeFn_ok (hK : FkOk P K tg) {set : Nat} (hset : SetP P set) (hm : P.follows .mixedOrders = true) {f : Nat} {fs : List Fld} (h : makeFnR P K set tg f fs = true) : CvP P f (GiveP tg fs) (partK tg fs) := by
 unfold makeFnR at h
 split at h
 ·rename_i fn hfn
  split at h
  ·rename_i i1 ts bt ty1 p1 a1 rs t1 ty2 p2 a2 i2 vs t2 ty3 p3 a3 rest hbody
   simp only [Bool.and_eq_true, Bool.not_eq_true'] at h
   obtain ⟨⟨⟨⟨⟨⟨⟨⟨⟨⟨⟨g1, g2⟩, g3⟩, g4⟩, g5⟩, g6⟩, g7⟩, g8⟩, htg⟩, g9⟩, g10⟩, g11⟩ := h
   subst htg
   unfold makeMid at g11
   split at g11
   ·rename_i p hp
    rw [Bool.and_eq_true] at g11
    obtain ⟨gp, g11⟩ := g11
    have hpr := beq_out gp
    split at g11
    ·rename_i c hc
     split at g11
     ·rename_i c1 f0 hc1 hf0
      obtain ⟨f1, fr, rfl⟩ : ∃ f1 fr, fs = f1 :: fr := by
       unfold headF0 at hf0
       split at hf0
       ·exact ⟨_, _, rfl⟩
       ·cases hf0
      simp only [headF0, Option.some.injEq] at hf0
      subst hf0
      have hres := cellRes_out hp
      rw [hpr] at hres
      refine ⟨g1, fun B w x cs hg hr hB => ?_⟩
      refine enter (vs := [.agg cs.toArray]) hfn hbody rfl g2 ?_
      have n1 := nb_ne g6
      have n2 := nb_ne g7
      have n3 := nb_ne g8
      have hz1 : ∃ zs1, zeroOf P t1 = some zs1 ∧ zs1.length = (shP true (f1 :: fr)).length := by
       unfold zeroN at g9
       split at g9
       ·rename_i zs h1; exact ⟨zs, h1, beq_out g9⟩
       ·cases g9
      have hz2 : ∃ zs2, zeroOf P t2 = some zs2 ∧ zfsB true (f1 :: fr) zs2 = true ∧ zs2.length = (shP true (f1 :: fr)).length := by
       unfold zeroZ at g10
       split at g10
       ·rename_i zs h1; rw [Bool.and_eq_true] at g10; exact ⟨zs, h1, g10.1, beq_out g10.2⟩
       ·cases g10
      obtain ⟨zs1, z1a, z1l⟩ := hz1
      obtain ⟨z1, z1r, z1c⟩ := zeroOf_out z1a
      obtain ⟨zs2, z2a, z2b, z2l⟩ := hz2
      obtain ⟨z2, z2r, z2c⟩ := zeroOf_out z2a
      obtain ⟨zz, ze, hz⟩ := zfsB_out z2b
      refine wc_seq (wc_region (l := [_, _]) ?_)
      refine wl_box1 (v := .agg cs.toArray) (cs := cs) rfl rfl g3 (fun w1 hb1 hg1 hs1 => ?_)
      refine wl_alloc z1r z1c g4 (fun w2 hb2 hg2 hs2 => wl_nil (qk_thn ?_))
      refine wc_seq (wc_region (l := [_]) ?_)
      refine wl_alloc z2r z2c g5 (fun w3 hb3 hg3 hs3 => wl_nil (qk_thn ?_))
      have hc3 : Chg (fun _ => False) w w3 := (Chg.grown0 hg1).trans ((Chg.grown0 hg2).trans (Chg.grown0 hg3))
      have hbt : Box w3 w.heap.size cs bt := (hb1.kept hg2 (by simp)).kept hg3 (by simp)
      have hbr : Box w3 w1.heap.size zs1 t1 := hb2.kept hg3 (by simp)
      have hf : Fb B (w2.heap.size + 1) w2.heap.size := ⟨by omega, by omega⟩
      have hF : FWd B w2.heap.size w.heap.size bt cs x w3 := ⟨hbt, Lo.upS hr hc3 hB (fun j h => h.elim), by omega⟩
      have hS : FSt B (w2.heap.size + 1) w2.heap.size t2 w3 ([] ++ zz ++ [.lit (.map none)]) := ⟨zs2, hb3, by rw [List.nil_append, ← ze]; exact zDs_rep _ _ _⟩
      have hL : ∀ {w' : World} {a : Act}, Kn fn.ntmps a ((vs, .pointer (some ⟨w2.heap.size, 0, none⟩)) :: (rs, .pointer (some ⟨w1.heap.size, 0, none⟩)) :: (ts, .pointer (some ⟨w.heap.size, 0, none⟩)) :: argsL 0 [.agg cs.toArray]) → Kn fn.ntmps a [(vs, .pointer (some ⟨w2.heap.size, 0, none⟩)), (ts, .pointer (some ⟨w.heap.size, 0, none⟩)), (rs, .pointer (some ⟨w1.heap.size, 0, none⟩))] := by
       intro w' a ka
       refine ka.pick (fun s u hu => ?_)
       simp only [lk] at hu ⊢
       cases h1 : Nat.beq vs s with
       | true => rw [h1] at hu; simpa using hu
       | false =>
        rw [h1] at hu; simp only [cond_false] at hu ⊢
        cases h2 : Nat.beq ts s with
        | true =>
         rw [h2] at hu
         have := beq_out h2; subst this
         have h3 : Nat.beq rs ts = false := by
          cases hb : Nat.beq rs ts with
          | true => exact absurd (beq_out hb).symm n1
          | false => rfl
         rw [h3]; simpa using hu
        | false =>
         rw [h2] at hu; simp only [cond_false] at hu
         cases h3 : Nat.beq rs s with
         | true => rw [h3] at hu; simpa using hu
         | false => rw [h3] at hu; cases hu
      have main : ∀ (R : Ending → World → Prop), (∀ w6 vs', Reps (In B w.heap.size w6) w6 (partK true (f1 :: fr) x) vs' → (vs'.all fun v => v.oneCell') = true → Chg (fun _ => False) w w6 → R (.returned (.agg vs'.toArray)) w6) → WC rest P (bodyPost P fn R) fn.ntmps [(vs, .pointer (some ⟨w2.heap.size, 0, none⟩)), (ts, .pointer (some ⟨w.heap.size, 0, none⟩)), (rs, .pointer (some ⟨w1.heap.size, 0, none⟩))] w3 := by
       intro R hR
       refine fillFs_ok hK hf hm (vs := vs) (ts := ts) (tb := w.heap.size) (tT := bt) (tcs := cs) (e := t2) (t := x) (by rw [lk_eq]) (by rw [lk_ne n2, lk_eq]) (f1 :: fr) 0 0 rest c hc hg.1 w3 [] zz [.lit (.map none)] hz hS hF (by omega) rfl ?_
       intro w4 hS4 hF4 hc4
       unfold makeTail at hc1
       split at hc1
       ·rename_i c1' i3 d t3 vs2 ty4 p4 a4 t4 rs2 d2 ty5 p5 a5
        obtain ⟨hb, hce⟩ := bif_cond hc1
        subst hce
        simp only [Bool.and_eq_true, Bool.not_eq_true'] at hb
        obtain ⟨⟨⟨⟨⟨⟨⟨⟨⟨e1, e2⟩, e3⟩, e4⟩, e5⟩, e6⟩, e7⟩, e8⟩, e9⟩, e10⟩ := hb
        have := beq_out e1; subst this
        have := beq_out e2; subst this
        have := beq_out e3; subst this
        refine wc_seq ?_
        refine tgs_ok hK hf (by have := hc4.size; omega) hset hm (vs := vs) (ts := ts) (tb := w.heap.size) (tT := bt) (tcs := cs) (e := t2) (f0 := f1) (t := x) (by rw [lk_eq]) (by rw [lk_ne n2, lk_eq]) g11 (by have := hg.1; simp only [GiveFs] at this; exact this.1) (hg.2 rfl) (pre := partsK true (f1 :: fr) 0 x) (by simpa using hS4) hF4 (width_partsK _ _ _ _) ?_
        intro w5 hS5 hc5
        have hc35 : Chg (fun j => j = w2.heap.size ∨ w3.heap.size ≤ j) w3 w5 := hc4.trans (hc5.wide (fun j hj => hj.elim .inl (fun h => .inr (by have := hc4.size; omega))))
        obtain ⟨vs', hb5, hr5⟩ := hS5
        have hr5' : Reps (In B (w2.heap.size + 1) w5) w5 (partK true (f1 :: fr) x) vs' := by simpa [partK] using hr5
        have hl5 := Reps.len _ _ hr5'
        have hlen : vs'.length = (shP true (f1 :: fr)).length := by
         rw [hl5]
         simp only [partK, shP, widths_append, width_partsK, List.length_append]
         congr 1
        have hbr5 : Box w5 w1.heap.size zs1 t1 := hbr.chg hc35 (by rintro (h | h) <;> omega)
        have hone : (vs'.all fun v => v.oneCell') = true := rep_ones hr5' (one_partK true (f1 :: fr) x)
        refine qk_thn (wc_seq (wc_region (l := [_, _]) ?_))
        refine wl_loadBAgg (cs := vs') (by simp only [ev]; rw [lk_eq]) (by rw [hlen]; exact optIs_out e8) e4 hb5 ?_
        refine wl_storeBAgg (v := .agg vs'.toArray) (vs := vs') (by simp only [ev]; rw [lk_ne (nb_ne e7), lk_ne n3, lk_ne n1, lk_eq]) (by simp only [ev]; rw [lk_eq]) rfl ?_ hone hbr5 (by rw [z1l, hlen]) (fun w6 hb6 hg6 hs6 => ?_)
        ·unfold sizeOpt at e9
         split at e9
         ·rename_i ii hi; rw [hi, hlen]; simp [beq_out e9]
         ·cases e9
        refine wl_nil (qk_thn (wc_ret ?_))
        refine qk_retCell (t := rs) (tt := p.2) (b := w1.heap.size) (cs := vs') hres (by rw [lk_ne (nb_ne e7), lk_ne n3, lk_ne n1, lk_eq]) (by rw [hlen]; exact optIs_out e10) hb6 ?_
        have hc6 : Chg (· = w1.heap.size) w5 w6 := Chg.grown hg6
        refine hR w6 vs' ?_ hone ?_
        ·refine hr5'.up (fun b hb => ⟨?_, Nat.lt_of_lt_of_le hb.2 hc6.size⟩) (fun b hb => hc6.block b hb.2 ?_)
         ·have := hb.1; omega
         ·have := hb.1; intro e; omega
        ·exact ⟨hc6.os.trans (hc35.os.trans hc3.os), hc6.tape.trans (hc35.tape.trans hc3.tape), hc6.output.trans (hc35.output.trans hc3.output), by have := hc6.size; have := hc35.size; have := hc3.size; omega, fun j hj _ => (hc6.block j (by have := hc35.size; omega) (by intro e; omega)).trans ((hc35.block j (by omega) (by rintro (h | h) <;> omega)).trans (hc3.block j hj (fun h => h)))⟩
       ·cases hc1
      intro a ka
      exact main _ (fun w6 vs' h1 h2 h3 => ⟨_, vs', rfl, rfl, h1, h2, h3⟩) a (hL (w' := w3) ka)
     ·cases g11
    ·cases g11
   ·cases g11
  ·cases h
 ·cases h
end
end Go.Proofs.YtgpnpfiafcakfaaGreat

namespace Go.Proofs.YtgpnpfiafcakfaaGreat
open Go Go.RowKit
mutual
def tabG : Fld → Bool
 | .mk kind _ _ _ tag _ of sub => decide (tag < 0) && (!decide (kind = 11) || (!decide (of = 11))) && Nat.ble sub.length 1000 && tabGs sub
def tabGs : List Fld → Bool
 | [] => true
 | f :: fs => tabG f && tabGs fs
end
theorem others_keys {fs : List Fld} {u : List (Nat × List UInt8)} (hu : ∀ kv ∈ u, kv.1 < 4294967296) : ∀ kv ∈ others fs u, kv.1 < 4294967296 := by
 by_cases hk : True
 ·intro kv hkv
  simp only [others, List.mem_map] at hkv
  obtain ⟨x, hx, rfl⟩ := hkv
  have put : ∀ (k : Nat) (v : List UInt8) (u : List (Nat × List UInt8)), ∀ kv ∈ putTag k v u, kv.1 = k ∨ kv ∈ u := by
   intro k v u
   induction u with
   | nil => intro kv h; simp [putTag] at h; subst h; exact .inl rfl
   | cons x u ih =>
    intro kv h
    simp only [putTag] at h
    split at h
    ·rcases List.mem_cons.1 h with rfl | h
     ·exact .inr (by simp)
     ·rcases ih kv h with h | h
      ·exact .inl h
      ·exact .inr (by simp [h])
    ·split at h
     ·exact .inr h
     ·rcases List.mem_cons.1 h with rfl | h
      ·exact .inl rfl
      ·exact .inr h
  have all : ∀ (l out : List (Nat × List UInt8)), (∀ kv ∈ l, kv.1 < 4294967296) → (∀ kv ∈ out, kv.1 < 4294967296) → ∀ kv ∈ l.foldl (fun out kv => if kv.1 < known fs then out else putTag kv.1 kv.2 out) out, kv.1 < 4294967296 := by
   intro l
   induction l with
   | nil => intro out _ h; exact h
   | cons x l ih =>
    intro out hl ho
    simp only [List.foldl_cons]
    refine ih _ (fun kv h => hl kv (by simp [h])) (fun kv h => ?_)
    split at h
    ·exact ho kv h
    ·rcases put _ _ _ kv h with e | h
     ·rw [e]; exact hl x (by simp)
     ·exact ho kv h
  exact all _ [] (fun kv h => hu kv (List.mem_of_mem_take h)) (fun kv h => by cases h) x hx
 ·exact absurd trivial hk
theorem others_len (fs : List Fld) (u : List (Nat × List UInt8)) : (others fs u).length ≤ 32767 := by
 simp only [others, List.length_map]
 exact unknownLen fs u
theorem oks_of : ∀ {l : List Tree}, (∀ x ∈ l, x.ok) → Tree.oks l
 | [], _ => by simp [Tree.oks]
 | x :: l, h => by simp only [Tree.oks]; exact ⟨h x (by simp), oks_of (fun y hy => h y (by simp [hy]))⟩
theorem smalls_of : ∀ {l : List Tree}, (∀ x ∈ l, x.small) → Tree.smalls l
 | [], _ => by simp [Tree.smalls]
 | x :: l, h => by simp only [Tree.smalls]; exact ⟨h x (by simp), smalls_of (fun y hy => h y (by simp [hy]))⟩
theorem fitVal_ok {kind : Int} {null : Bool} {p : Tree → Tree} {t : Tree} (ht : t.ok) (hp : kind = 10 → ((p t).withNull null).ok ∧ ((p t).withNull null).small) : (fitVal kind null p t).ok ∧ (fitVal kind null p t).small := by
 unfold fitVal
 split
 ·have := whole_len t.s
  simp only [Most] at this
  simp only [Tree.ok, Tree.small, Tree.oks, Tree.smalls]
  exact ⟨⟨by omega, by simp, trivial, by omega⟩, by simp, trivial⟩
 ·split
  ·exact hp (by assumption)
  ·simp only [Tree.ok, Tree.small, Tree.oks, Tree.smalls]
   exact ⟨⟨ht.s, by simp, trivial, ht.n⟩, by simp, trivial⟩
theorem withNull_mk (b : Bool) (n : Int) (s : List UInt8) (c : Bool) (l : List Tree) (u : List (Nat × List UInt8)) : (Tree.mk n s c l u).withNull b = .mk n s b l u := rfl
theorem fitF_mk (ver kind fr upto nul tag df of : Int) (sub : List Fld) (t : Tree) : fitF ver (.mk kind fr upto nul tag df of sub) t =
  if kind = 11 then .mk 0 [] ((t.nul && decide (0 ≤ nul) && decide (nul ≤ ver)) || (decide (0 ≤ tag) && t.l.isEmpty)) ((things t.l).map (fitVal of false (fitP ver sub))) [] else fitVal kind (t.nul && decide (0 ≤ nul) && decide (nul ≤ ver)) (fitP ver sub) t := fitF_eq ver _ t
mutual
theorem fitF_big (ver : Int) : ∀ (f : Fld), tabG f = true → ∀ x : Tree, x.ok → (fitF ver f x).ok ∧ (fitF ver f x).small
 | .mk kind fr upto nul tag df of sub, h, x, hx => by
  simp only [tabG, Bool.and_eq_true, decide_eq_true_eq] at h
  obtain ⟨⟨⟨_, _⟩, hl⟩, hs⟩ := h
  have hl := Nat.le_of_ble_eq_true hl
  rw [fitF_mk]
  split
  ·have hel : ∀ y ∈ (things x.l).map (fitVal of false (fitP ver sub)), y.ok ∧ y.small := by
    intro y hy
    obtain ⟨z, hz, rfl⟩ := List.mem_map.1 hy
    exact fitVal_ok (hx.l z (List.mem_of_mem_take hz)) (fun _ => fitP_big ver sub hs hl z (hx.l z (List.mem_of_mem_take hz)) false)
   simp only [Tree.ok, Tree.small]
   refine ⟨⟨by simp, by simp, oks_of (fun y hy => (hel y hy).1), by omega⟩, ⟨by simp [things, Most]; omega, by simp⟩, smalls_of (fun y hy => (hel y hy).2)⟩
  ·exact fitVal_ok hx (fun _ => fitP_big ver sub hs hl x hx _)
theorem fitP_big (ver : Int) : ∀ (fs : List Fld), tabGs fs = true → fs.length ≤ 1000 → ∀ t : Tree, t.ok → ∀ b, ((fitP ver fs t).withNull b).ok ∧ ((fitP ver fs t).withNull b).small
 | fs, h, hl, t, ht, b => by
  have hel := fitL_big ver fs h 0 t ht
  have hu := others_keys (fs := fs) ht.u
  have hn := others_len fs t.u
  simp only [fitP, withNull_mk, Tree.ok, Tree.small]
  refine ⟨⟨by simp, hu, oks_of (fun y hy => (hel y hy).1), by omega⟩, ⟨by rw [fitL_length]; omega, by omega⟩, smalls_of (fun y hy => (hel y hy).2)⟩
theorem fitL_big (ver : Int) : ∀ (fs : List Fld), tabGs fs = true → ∀ (i : Nat) (t : Tree), t.ok → ∀ y ∈ fitL ver fs i t, y.ok ∧ y.small
 | [], _, _, _, _, y, hy => by simp [fitL] at hy
 | f :: fs, h, i, t, ht, y, hy => by
  simp only [tabGs, Bool.and_eq_true] at h
  simp only [fitL, List.mem_cons] at hy
  rcases hy with rfl | hy
  ·exact fitF_big ver f h.1 _ (ht.at i)
  ·exact fitL_big ver fs h.2 (i + 1) t ht y hy
end
theorem wrap_of {n : Int} (h : -9223372036854775808 ≤ n ∧ n ≤ 9223372036854775807) : IntKind.i64.wrap n = n := by rw [IntKind.wrap_i64]; omega
theorem others_give (fs : List Fld) (u : List (Nat × List UInt8)) : GiveU (others fs u) := ⟨others_rising fs u, by have := others_len fs u; simp only [many]; omega⟩
theorem fitVal_ten (null : Bool) (p : Tree → Tree) (t : Tree) : fitVal 10 null p t = (p t).withNull null := by simp [fitVal]
mutual
theorem giveF_ok (ver : Int) (tg : Bool) : ∀ (f : Fld), tabG f = true → ∀ x : Tree, x.ok → GiveF tg f (fitF ver f x)
 | .mk kind fr upto nul tag df of sub, h, x, hx => by
  have hbig := fitF_big ver _ h x hx
  simp only [tabG, Bool.and_eq_true, decide_eq_true_eq] at h
  obtain ⟨⟨⟨htag, h11⟩, hl⟩, hs⟩ := h
  have hl := Nat.le_of_ble_eq_true hl
  have e := fitF_mk ver kind fr upto nul tag df of sub x
  simp only [GiveF]
  refine ⟨wrap_of hbig.1.n, ?_, fun h9 hn => ?_, fun h11' hn hnul => ?_, fun h11' h10 y hy => ?_, fun h11' h10 y hy => ?_, fun h10 hnul => ?_⟩
  ·have := hbig.2
   generalize fitF ver (.mk kind fr upto nul tag df of sub) x = y at this
   cases y
   simp only [Tree.small] at this
   simp only [Tree.l, many]
   omega
  ·rw [e, if_neg (by omega), fitVal_nul kind _ _ _ (.inr (.inl h9))]
   simp; omega
  ·rw [e, if_pos h11'] at hnul
   simp only [mk_nul, Bool.or_eq_true, Bool.and_eq_true, decide_eq_true_eq] at hnul
   omega
  ·rw [e, if_pos h11', mk_l] at hy
   obtain ⟨z, hz, rfl⟩ := List.mem_map.1 hy
   have hzo := hx.l z (List.mem_of_mem_take hz)
   subst h10
   rw [fitVal_ten]
   exact ⟨givePart_ok ver tg sub hs z hzo false, fun _ => by rw [withNull_u]; exact others_give sub z.u⟩
  ·rw [e, if_pos h11', mk_l] at hy
   obtain ⟨z, hz, rfl⟩ := List.mem_map.1 hy
   have hzo := hx.l z (List.mem_of_mem_take hz)
   exact wrap_of (fitVal_ok hzo (fun h => absurd h h10)).1.n
  ·subst h10
   rw [e, if_neg (by decide)]
   rw [fitVal_ten]
   exact ⟨givePart_ok ver tg sub hs x hx _, fun _ => by rw [withNull_u]; exact others_give sub x.u⟩
theorem givePart_ok (ver : Int) (tg : Bool) : ∀ (fs : List Fld), tabGs fs = true → ∀ (t : Tree), t.ok → ∀ b, GiveFs tg fs 0 ((fitP ver fs t).withNull b)
 | fs, h, t, ht, b => giveFs_ok ver tg fs h 0 _ (fun j hj => ⟨att t j, ht.at j, by rw [withNull_att, Nat.zero_add, att_fitP ver fs t j hj]⟩)
theorem giveFs_ok (ver : Int) (tg : Bool) : ∀ (fs : List Fld), tabGs fs = true → ∀ (i : Nat) (t' : Tree), (∀ j (hj : j < fs.length), ∃ x : Tree, x.ok ∧ att t' (i + j) = fitF ver fs[j] x) → GiveFs tg fs i t'
 | [], _, _, _, _ => by simp [GiveFs]
 | f :: fs, h, i, t', hall => by
  simp only [tabGs, Bool.and_eq_true] at h
  simp only [GiveFs]
  refine ⟨?_, giveFs_ok ver tg fs h.2 (i + 1) t' (fun j hj => ?_)⟩
  ·obtain ⟨x, hx, e⟩ := hall 0 (by simp)
   simp only [Nat.add_zero, List.getElem_cons_zero] at e
   rw [e]
   exact giveF_ok ver tg f h.1 x hx
  ·obtain ⟨x, hx, e⟩ := hall (j + 1) (by simpa using hj)
   exact ⟨x, hx, by rw [show i + 1 + j = i + (j + 1) by omega, e]; simp⟩
end
theorem give_ok (ver : Int) (tg : Bool) {fs : List Fld} (h : tabGs fs = true) {t : Tree} (ht : t.ok) (b : Bool) : GiveP tg fs ((fitP ver fs t).withNull b) :=
 ⟨givePart_ok ver tg fs h t ht b, fun _ => by rw [withNull_u]; exact others_give fs t.u⟩
end Go.Proofs.YtgpnpfiafcakfaaGreat

namespace Go.Proofs.YtgpnpfiafcakfaaGreat.Impl
open Go Go.RowKit
def tbl : Tbl := ⟨[(26, 0, 0), (26, 1, 1), (26, 2, 2), (26, 3, 3), (26, 4, 4), (64, 0, 0), (64, 1, 1), (39, 0, 0), (39, 1, 1), (39, 2, 2), (39, 3, 3), (39, 4, 4), (65, 0, 0), (65, 1, 1)],
 [22, 23, 24, 36, 37]⟩
theorem tbl_ok : tbl.ok Tryz.prog = true := by kernel_rfl
theorem ws {ops : Array Oper} {Q : Exit → Act → World → Prop} {N : Nat} {rest : List Oper} {L : Sl} {w : World} {d : Nat} {ty : TypeId} {pos : String} {aft : Array Edge} {o : Op} {v : Value}
  (hs : stepOp tbl L o = some v) (hd : Nat.blt d N = true) (h : WL rest Tryz.prog ops Q N ((d, v) :: L) w) : WL (⟨some d, o, ty, pos, aft, none⟩ :: rest) Tryz.prog ops Q N L w := wl_step tbl tbl_ok hs hd h
theorem fo_tree3 : fieldOff Tryz.prog 39 3 = some 3 := by kernel_rfl
theorem to_trees : tyOne Tryz.prog 36 = true := by kernel_rfl
theorem to_tags : tyOne Tryz.prog 37 = true := by kernel_rfl
theorem ta_tree : tyAgg Tryz.prog 39 = some 5 := by kernel_rfl
theorem tz_tree : (Tryz.prog.info? 39).map (·.size) = some 5 := by kernel_rfl
theorem ta_tag : tyAgg Tryz.prog 65 = some 2 := by kernel_rfl
theorem tz_tag : (Tryz.prog.info? 65).map (·.size) = some 2 := by kernel_rfl
theorem es_trees : elemSize Tryz.prog 36 = some 5 := by kernel_rfl
theorem rt_trees : rowTy Tryz.prog 36 39 5 = true := by kernel_rfl
theorem rt_tags : rowTy Tryz.prog 37 65 2 = true := by kernel_rfl
theorem zv_tree (w : World) : (zeroValue 39).run Tryz.prog w = .ok (.agg #[.int .i64 0, .slice none 0 0, .bool false, .slice none 0 0, .slice none 0 0]) w := by kernel_rfl
end Go.Proofs.YtgpnpfiafcakfaaGreat.Impl

namespace Go.Proofs.YtgpnpfiafcakfaaGreat.Impl
open Go Go.RowKit
set_option maxRecDepth 100000
section
variable {P : Program} {ops : Array Oper} {Q : Exit → Act → World → Prop} {N : Nat} {rest : List Oper} {L : Sl} {w : World} {d : Nat} {ty : TypeId} {pos : String} {aft : Array Edge}
theorem wl_toStrB {x : Operand} {s t : TypeId} {v : Value} {bs : List UInt8} (hx : ev L x = some v) (hv : BytesAt w v bs) (hs : isBytes P s = true) (ht : isStr P t = true) (hd : Nat.blt d N = true) (h : WL rest P ops Q N ((d, strV bs) :: L) w) :
  WL (⟨some d, .convert s t x, ty, pos, aft, none⟩ :: rest) P ops Q N L w := fun a k => st_of (o := ⟨some d, .convert s t x, ty, pos, aft, none⟩) rfl (ro_toStr rfl (k.eval hx) hv hs ht) (h _ (k.put _ hd))
theorem wl_does {op : Op} (hd : Nat.blt d N = true) (h : ∀ a, Kn N a L → Does P ⟨some d, op, ty, pos, aft, none⟩ a w fun v w' => WL rest P ops Q N ((d, v) :: L) w') : WL (⟨some d, op, ty, pos, aft, none⟩ :: rest) P ops Q N L w := by
 intro a k
 refine wpList_plain rfl (fun K hK => h a k K Q (fun v w' hv => hK _ _ (hv _ (k.put v hd))))
end
theorem set_same {α : Type} {l : List α} {i : Nat} {v : α} (h : l[i]? = some v) : l.set i v = l := by
 refine List.ext_getElem? (fun j => ?_)
 rw [List.getElem?_set]
 split
 ·rename_i e; subst e
  have := (List.getElem?_eq_some_iff.1 h).1
  simp [this, h]
  exact (List.getElem?_eq_some_iff.1 h).2.symm
 ·rfl
theorem setP : SetP Tryz.prog 31 := by
 refine ⟨by kernel_rfl, fun w B vb lo off key cells e m val s u hb hm ht hv hf hlo => ?_⟩
 have hf1 := hf.le
 have hf2 := hf.lt
 refine enter (vs := [.pointer (some ⟨vb, off, none⟩), .int .u32 key, val]) Tryz.func31 rfl Tryz.ntmps31 rfl ?_
 have upd : ∀ (w1 : World) (r : Nat) (u1 : List (Nat × List UInt8)), Box w1 vb (cells.set off (.map (some r))) e → lo ≤ r → TagG w1 (Lo B) r u1 → Rep (Lo B) w1 (bytesD s) [val] → lo ≤ w1.heap.size → Chg (fun j => j = vb ∨ lo ≤ j) w w1 → setTag key s u1 = setTag key s u →
   ∃ w', (Instr.mapUpdate 54 (.map (some r)) (.int .u32 key) val).run Tryz.prog w1 = .ok () w' ∧ (∃ m', Box w' vb (cells.set off m') e ∧ TgAt B lo w' m' (setTag key s u) ∧ Chg (fun j => j = vb ∨ lo ≤ j) w w') := by
  intro w1 r u1 hb1 hr htm hv1 hl1 hc heq
  obtain ⟨w', hrun, hc', _, ht'⟩ := run_tagSetG Rdk.um Rdk.uk htm (fun b hbb => ⟨by have h3 : b < B := hbb; omega, by have h3 : b < B := hbb; omega⟩) key hv1
  exact ⟨w', hrun, .map (some r), hb1.chg hc' (by show vb ≠ r; omega), .inr ⟨r, rfl, hr, by rw [← heq]; exact ht'⟩, hc.trans (hc'.wide (fun j hj => .inr (by have : j = r := hj; omega)))⟩
 have hoff : off < cells.length := (List.getElem?_eq_some_iff.1 hm).1
 rcases ht with ⟨rfl, rfl⟩ | ⟨r, rfl, hr, htm⟩
 ·refine wc_seq (wc_seq (wc_region ?_))
  refine Rdk.wt rfl rfl ?_
  refine Rdk.wt rfl rfl ?_
  refine Rdk.wt rfl rfl ?_
  refine wl_loadB (i := off + 0) rfl Rdk.to_map rfl hb hm ?_
  refine Rdk.wl_mapNil rfl (by kernel_rfl) rfl ?_
  refine wl_nil (qk_thn (wc_yes rfl rfl (wc_region ?_)))
  refine Rdk.wt rfl rfl ?_
  refine Rdk.wl_makeMap rfl ?_
  have hal : Chg (fun _ => False) w (w.alloc (.map #[] 0)) := chg_alloc w _ _
  have hnew := tagG_new w (Lo B)
  have hb1 := hb.chg hal id
  have hs1 : (w.alloc (.map #[] 0)).heap.size = w.heap.size + 1 := by simp
  have hv1 := Lo.upS hv hal (by omega) (fun j h => h.elim)
  generalize w.alloc (.map #[] 0) = w1 at *
  refine Rdk.wt rfl rfl ?_
  refine Rdk.wt rfl rfl ?_
  refine wl_storeB (i := off + 0) rfl rfl Rdk.to_map rfl hb1 hm (fun w2 hb2 hg2 hs2 => ?_)
  have hc2 := Chg.grown hg2
  have hvl := hb.lt
  obtain ⟨w3, hrun, m', hb3, ht3, hc3⟩ := upd w2 w.heap.size [] (by simpa using hb2) hlo (hnew.keep hc2 (fun e => by have : w.heap.size = vb := e; omega) (fun b hbb => ⟨by have h3 : b < B := hbb; omega, fun e => by have h3 : b < B := hbb; have : b = vb := e; omega⟩)) (Lo.upS hv1 hc2 (by omega) (fun j hj => by have : j = vb := hj; omega)) (by omega) ((hal.wide (fun _ h => h.elim)).trans (hc2.wide (fun j hj => .inl hj))) rfl
  refine wl_nil (qk_thn (wc_region ?_))
  refine Rdk.wt rfl rfl ?_
  refine Rdk.wt rfl rfl ?_
  refine Rdk.wt rfl rfl ?_
  refine wl_loadB (i := off + 0) (v := .map (some w.heap.size)) rfl Rdk.to_map rfl hb2 (by simp [hoff]) ?_
  refine Rdk.wt rfl rfl ?_
  refine Rdk.wt rfl rfl ?_
  refine Rdk.wl_mapUpd rfl rfl rfl hrun ?_
  exact wl_nil (qk_end0 rfl ⟨rfl, m', hb3, ht3, hc3⟩)
 ·obtain ⟨w3, hrun, m', hb3, ht3, hc3⟩ := upd w r u (by rw [set_same hm]; exact hb) hr htm hv hlo (Chg.refl _ _) rfl
  refine wc_seq (wc_seq (wc_region ?_))
  refine Rdk.wt rfl rfl ?_
  refine Rdk.wt rfl rfl ?_
  refine Rdk.wt rfl rfl ?_
  refine wl_loadB (i := off + 0) rfl Rdk.to_map rfl hb hm ?_
  refine Rdk.wl_mapNil rfl (by kernel_rfl) rfl ?_
  refine wl_nil (qk_thn (wc_no rfl rfl (wc_skip (qk_thn (wc_region ?_)))))
  refine Rdk.wt rfl rfl ?_
  refine Rdk.wt rfl rfl ?_
  refine Rdk.wt rfl rfl ?_
  refine wl_loadB (i := off + 0) rfl Rdk.to_map rfl hb hm ?_
  refine Rdk.wt rfl rfl ?_
  refine Rdk.wt rfl rfl ?_
  refine Rdk.wl_mapUpd rfl rfl rfl hrun ?_
  exact wl_nil (qk_end0 rfl ⟨rfl, m', hb3, ht3, hc3⟩)
theorem atP : AtP Tryz.prog 29 := by
 refine ⟨by kernel_rfl, fun B w t cs i hr hB => ?_⟩
 refine enter (vs := [.agg cs.toArray, .int .i64 (i : Int)]) Tryz.func29 rfl Tryz.ntmps29 rfl ?_
 obtain ⟨sv, lv, uv, rfl, hs, hl, hu⟩ := tree_cells hr
 obtain ⟨la, lc, rfl, _⟩ := hl.shape
 repeat (with_reducible first|apply wc_seq|apply wc_region)
 refine wl_box1 (cs := [.int .i64 t.n, sv, .bool t.nul, .slice la (t.l.map treeD).length lc, uv]) rfl rfl rfl (fun w1 hb1 hg1 hs1 => wl_alloc zv_tree rfl rfl (fun w2 hb2 hg2 hs2 => ?_))
 have hbt := hb1.kept hg2 (by simp)
 have hc2 : Chg (fun _ => False) w w2 := (Chg.grown0 hg1).trans (Chg.grown0 hg2)
 repeat first|(with_reducible first|apply wc_seq|apply wc_region|apply wl_nil|apply qk_thn)|((with_reducible apply ws);exact rfl;exact rfl)
 refine wl_loadB rfl to_trees rfl hbt rfl ?_
 repeat first|(with_reducible first|apply wl_nil|apply qk_thn)|((with_reducible apply ws);exact rfl;exact rfl)
 by_cases hlt : i < t.l.length
 ·refine wc_yes rfl (by simpa using hlt) ?_
  repeat first|(with_reducible first|apply wc_seq|apply wc_region)|((with_reducible apply ws);exact rfl;exact rfl)
  refine wl_loadB rfl to_trees rfl hbt rfl ?_
  repeat ((with_reducible apply ws);exact rfl;exact rfl)
  obtain ⟨b, off, c', cs', hv, hbB, hcs, hlen, hr'⟩ := hl.get (sz := 5) (i := i) (by intro d hd; obtain ⟨x, _, rfl⟩ := List.mem_map.1 hd; exact treeD_width x) (by simpa using hlt)
  simp only [Value.slice.injEq, List.length_map] at hv
  obtain ⟨rfl, _, rfl⟩ := hv
  simp only [List.getElem_map] at hr'
  obtain ⟨hone, _⟩ := tree_one hr'
  have hcs2 : CellsAt w2 b (off + i * 5) cs' := hcs.chg hc2 (fun h => h)
  refine wl_indexAddr rfl rfl es_trees rfl (by simpa using hlt) ?_
  refine wl_loadAgg (cs := cs') rfl (by rw [hlen]; exact ta_tree) rfl (fun j v e => hcs2.cell e) ?_
  refine wl_storeBAgg (v := .agg cs'.toArray) (vs := cs') rfl rfl rfl (by rw [hlen]; exact tz_tree) hone hb2 (by rw [hlen]; rfl) (fun w3 hb3 hg3 hs3 => ?_)
  repeat (with_reducible first|apply wl_nil|apply qk_thn|apply wc_ret|apply qk_thn_ret)
  refine qk_retCell (cs := cs') rfl rfl (by rw [hlen]; exact ta_tree) hb3 ⟨cs', rfl, ?_, ?_⟩
  ·have e : att t i = t.l[i] := by simp [att, List.getD_eq_getElem?_getD, hlt]
   rw [e]
   exact Rep.mono (fun b hb => ⟨hb, by have h3 : b < B := hb; rw [hg3.block b (by omega) (by simp; omega), hc2.block b (by omega) (fun h => h)]⟩) _ _ hr'
  ·exact ⟨hg3.os.trans hc2.os, hg3.tape.trans hc2.tape, hg3.output.trans hc2.output, by have := hc2.size; omega, fun j hj _ => (hg3.block j (by have := hc2.size; omega) (by simp; omega)).trans (hc2.block j hj (fun h => h))⟩
 ·refine wc_no rfl (by simpa using hlt) ?_
  repeat (with_reducible first|apply wc_seq|apply wc_region|apply qk_thn|apply wc_skip)
  refine wl_build (cs := [.int .i64 0, .slice none 0 0, .bool false, .slice none 0 0, .slice none 0 0]) rfl (by kernel_rfl) rfl ?_
  refine wl_storeBAgg (v := .agg [.int .i64 0, .slice none 0 0, .bool false, .slice none 0 0, .slice none 0 0].toArray) (vs := [.int .i64 0, .slice none 0 0, .bool false, .slice none 0 0, .slice none 0 0]) rfl rfl rfl tz_tree rfl hb2 rfl (fun w3 hb3 hg3 hs3 => ?_)
  repeat (with_reducible first|apply wl_nil|apply qk_thn|apply wc_ret)
  refine qk_retCell (cs := [.int .i64 0, .slice none 0 0, .bool false, .slice none 0 0, .slice none 0 0]) rfl rfl ta_tree hb3 ⟨_, rfl, ?_, ?_⟩
  ·have e : att t i = Tree.none := by simp [att, List.getD_eq_getElem?_getD, List.getElem?_eq_none (by omega : t.l.length ≤ i)]
   rw [e]
   exact tree_none B w3
  ·exact ⟨hg3.os.trans hc2.os, hg3.tape.trans hc2.tape, hg3.output.trans hc2.output, by have := hc2.size; omega, fun j hj _ => (hg3.block j (by have := hc2.size; omega) (by simp; omega)).trans (hc2.block j hj (fun h => h))⟩
theorem ip_bytes : isBytes Tryz.prog 22 = true := by kernel_rfl
theorem ip_str : isStr Tryz.prog 9 = true := by kernel_rfl
theorem textP : CvP Tryz.prog 28 (fun _ => True) fun t => [valK 8 0 t] := by
 refine ⟨by kernel_rfl, fun B w t cs _ hr hB => ?_⟩
 refine enter (vs := [.agg cs.toArray]) Tryz.func28 rfl Tryz.ntmps28 rfl ?_
 obtain ⟨sv, lv, uv, rfl, hs, hl, hu⟩ := tree_cells hr
 have hzs : ∀ w : World, (zeroValue 9).run Tryz.prog w = .ok (.string ⟨#[]⟩) w := fun w => by kernel_rfl
 repeat (with_reducible first|apply wc_seq|apply wc_region)
 refine wl_box1 (cs := [.int .i64 t.n, sv, .bool t.nul, lv, uv]) rfl rfl rfl (fun w1 hb1 hg1 hs1 => ?_)
 have hc1 : Chg (fun _ => False) w w1 := Chg.grown0 hg1
 repeat first|(with_reducible first|apply wc_seq|apply wc_region|apply wl_nil|apply qk_thn)|((with_reducible apply ws);exact rfl;exact rfl)
 refine wl_loadB rfl Go.Proofs.YtgpnpfiafcakfaaGreat.to_bool rfl hb1 rfl ?_
 repeat (with_reducible first|apply wl_nil|apply qk_thn)
 cases hn : t.nul
 ·refine wc_no rfl rfl ?_
  repeat first|(with_reducible first|apply wc_seq|apply wc_region|apply qk_thn|apply wc_skip)|((with_reducible apply ws);exact rfl;exact rfl)
  refine wl_loadB rfl Go.Proofs.YtgpnpfiafcakfaaGreat.to_bytes rfl hb1 rfl ?_
  refine wl_toStrB rfl ((hs.below ⟨hc1.os, hc1.tape, hc1.output, hc1.size, fun j hj => hc1.block j (by omega) (fun h => h)⟩ (Nat.le_refl B)).bytes) ip_bytes ip_str rfl ?_
  refine wl_alloc (z := .string ⟨#[]⟩) (cs := [.string ⟨#[]⟩]) hzs rfl rfl (fun w2 hb2 hg2 hs2 => ?_)
  refine wl_storeB (i := 0) rfl rfl Go.Proofs.YtgpnpfiafcakfaaGreat.to_str rfl hb2 rfl (fun w3 hb3 hg3 hs3 => ?_)
  have hc2 : Chg (fun _ => False) w1 w2 := Chg.grown0 hg2
  repeat first|(with_reducible first|apply wc_seq|apply wc_region|apply wl_nil|apply qk_thn|apply wc_ret)|((with_reducible apply ws);exact rfl;exact rfl)
  refine qk_ret1 rfl rfl ⟨_, [.pointer (some ⟨w1.heap.size, 0, none⟩)], rfl, rfl, ?_, rfl, ?_⟩
  ·have e : valK 8 0 t = .ptr (.lit (strV t.s)) := by simp [valK, hn]
   show Reps _ _ [valK 8 0 t] _
   rw [e, rep_one]
   simp only [Rep]
   exact ⟨w1.heap.size, [strV t.s], rfl, ⟨.inr (by omega), by omega⟩, by simpa using hb3.cells, rfl⟩
  ·exact ⟨hg3.os.trans (hc2.os.trans hc1.os), hg3.tape.trans (hc2.tape.trans hc1.tape), hg3.output.trans (hc2.output.trans hc1.output), by omega, fun j hj _ => (hg3.block j (by omega) (by simp; omega)).trans ((hc2.block j (by omega) (fun h => h)).trans (hc1.block j hj (fun h => h)))⟩
 ·refine wc_yes rfl rfl ?_
  repeat first|(with_reducible first|apply wc_seq|apply wc_region|apply wl_nil|apply qk_thn|apply wc_ret|apply qk_thn_ret)|((with_reducible apply ws);exact rfl;exact rfl)
  refine qk_ret1 rfl rfl ⟨_, [.pointer none], rfl, rfl, ?_, rfl, hc1⟩
  have e : valK 8 0 t = .lit (.pointer none) := by simp [valK, hn]
  show Reps _ _ [valK 8 0 t] _
  rw [e, rep_one]
  simp [Rep]
theorem sixP : SxP Tryz.prog 52 := by
 refine ⟨by kernel_rfl, fun B w s v hs hB => ?_⟩
 have hz : ∀ w : World, (zeroValue 73).run Tryz.prog w = .ok (.agg (bv (List.replicate 16 0)).toArray) w := fun w => by kernel_rfl
 refine enter (vs := [v]) Tryz.func52 rfl Tryz.ntmps52 rfl ?_
 refine wc_seq (wc_region (wl_alloc (cs := bv (List.replicate 16 0)) hz rfl rfl (fun w1 hb1 hg1 hs1 => wl_nil (qk_thn ?_))))
 have hc1 : Chg (fun _ => False) w w1 := Chg.grown0 hg1
 refine wc_seq (wc_region ?_)
 refine wl_arrSl rfl (n := 16) (by kernel_rfl) rfl ?_
 refine ws rfl rfl ?_
 refine wl_does rfl (fun a k => does_copyBox k tb_bytes rfl rfl hb1 (by simp) (rep_bytesAt (Lo.upS hs hc1 hB (fun j h => h.elim))) (fun w2 hb2 hg2 => ?_))
 have e16 : s.take 16 ++ (List.replicate 16 (0 : UInt8)).drop (min s.length 16) = sixteen s := by
  unfold sixteen
  rw [List.take_append]
  congr 1
  rw [List.drop_replicate, List.take_replicate]
  congr 1
  omega
 rw [e16] at hb2
 have hl16 : (bv (sixteen s)).length = 16 := by rw [bv_length]; simp [sixteen]
 refine wl_nil (qk_thn (wc_seq (wc_region ?_)))
 refine wl_loadBAgg (cs := bv (sixteen s)) rfl (by rw [hl16]; kernel_rfl) rfl hb2 ?_
 refine wl_storeBAgg (v := .agg (bv (sixteen s)).toArray) (vs := bv (sixteen s)) rfl rfl rfl (by rw [hl16]; kernel_rfl) (List.all_eq_true.2 (fun v hv => bv_one _ v hv)) hb2 rfl (fun w3 hb3 hg3 hs3 => ?_)
 refine wl_nil (qk_thn (wc_ret ?_))
 refine qk_retCell (cs := bv (sixteen s)) rfl rfl (by rw [hl16]; kernel_rfl) hb3 ⟨rfl, ?_⟩
 have hz2 := hg2.size
 exact ⟨hg3.os.trans (hg2.os.trans hc1.os), hg3.tape.trans (hg2.tape.trans hc1.tape), hg3.output.trans (hg2.output.trans hc1.output), by omega, fun j hj _ => (hg3.block j (by omega) (by simp; omega)).trans ((hg2.block j (by omega) (by simp; omega)).trans (hc1.block j hj (fun h => h)))⟩
end Go.Proofs.YtgpnpfiafcakfaaGreat.Impl

namespace Go.Proofs.YtgpnpfiafcakfaaGreat
open Go Go.RowKit
theorem rt_trees : rowTy Tryz.prog 23 26 5 = true := by kernel_rfl
theorem rt_tags : rowTy Tryz.prog 24 64 2 = true := by kernel_rfl
theorem tree_out {ok : Nat → Prop} {w : World} {t : Tree} {cs : List Value} (h : Rep ok w (treeD t) cs) :
  ∃ sv lv uv, cs = [.int .i64 t.n, sv, .bool t.nul, lv, uv] ∧ Rep ok w (.sq (t.s.map byteD)) [sv] ∧ Rep ok w (.sq (t.l.map treeD)) [lv] ∧ Rep ok w (.sq (t.u.map tagD)) [uv] := by
 cases t with
 | mk n s nul l u =>
  simp only [treeD, bytesD, Rep, Reps, treeDs_map] at h
  obtain ⟨c1, r1, rfl, rfl, c2, r2, rfl, h2, c3, r3, rfl, rfl, c4, r4, rfl, h4, c5, r5, rfl, h5, rfl⟩ := h
  obtain ⟨a2, b2, rfl, h2'⟩ := h2
  obtain ⟨a4, b4, rfl, h4'⟩ := h4
  obtain ⟨a5, b5, rfl, h5'⟩ := h5
  refine ⟨_, _, _, rfl, ?_, ?_, ?_⟩ <;> simp only [Rep]
  ·exact ⟨_, _, rfl, h2'⟩
  ·exact ⟨_, _, rfl, h4'⟩
  ·exact ⟨_, _, rfl, h5'⟩
theorem sq_one {ok : Nat → Prop} {w : World} {ds : List D} {v : Value} (h : Rep ok w (.sq ds) [v]) : ∃ a c, v = .slice a ds.length c := by
 simp only [Rep] at h
 obtain ⟨a, c, e, _⟩ := h
 exact ⟨a, c, by simpa using e⟩
def FitOK (fs : List Fld) : Prop := ∀ (ver : Int) (t : Tree) (B : Nat) (w : World) (fv : Value) (ts : List Value), t.ok → B ≤ w.heap.size → Sq B w fv (fs.map fldD) → Rep (Lo B) w (treeD t) ts →
 Fn 11 [fv, .int .i64 ver, .agg ts.toArray] w fun v w' => ∃ cs : List Value, v = .agg cs.toArray ∧ Rep (In B w.heap.size w') w' (treeD (fitP ver fs t)) cs
def FittedOK (f : Fld) : Prop := ∀ (ver : Int) (t : Tree) (B : Nat) (w : World) (cs ts : List Value), t.ok → B ≤ w.heap.size → Rep (Lo B) w (fldD f) cs → Rep (Lo B) w (treeD t) ts →
 Fn 20 [.agg cs.toArray, .int .i64 ver, .agg ts.toArray] w fun v w' => ∃ cs : List Value, v = .agg cs.toArray ∧ Rep (In B w.heap.size w') w' (treeD (fitF ver f t)) cs
theorem treeG_one {ok : Nat → Prop} {w : World} {t : Tree} {cs : List Value} (h : Rep ok w (treeD t) cs) : (cs.all fun v => v.oneCell') = true ∧ cs.length = 5 := by
 obtain ⟨sv, lv, uv, rfl, h1, h2, h3⟩ := tree_out h
 obtain ⟨a, b, rfl⟩ := sq_one h1
 obtain ⟨c, d, rfl⟩ := sq_one h2
 obtain ⟨e, f, rfl⟩ := sq_one h3
 exact ⟨rfl, rfl⟩
theorem RowD.sqb {B lo bx e sz : Nat} {w : World} {d : Value} {ds : List D} (h : RowD B lo bx e sz w d ds) : Rep (fun r => In B lo w r ∧ r ≠ bx) w (.sq ds) [d] := by
 obtain ⟨ha, hl, xs, hr, hx⟩ := h
 simp only [Rep]
 have hx' : Reps (fun r => In B lo w r ∧ r ≠ bx) w ds xs := hx.up (fun _ hr => ⟨⟨hr.1, hr.2.1⟩, hr.2.2.1⟩) (fun _ _ => rfl)
 by_cases hn : 0 < ds.length
 ·obtain ⟨g, cap, hd, hg1, hg2, hc⟩ := Row.cells hr hn
  subst hd
  obtain ⟨_, ⟨he, _⟩ | ⟨g', cap', cur, he, _, _, hle, _⟩⟩ := hr
  ·cases he
  ·cases he
   exact ⟨_, cap, rfl, hle, .inr ⟨g, 0, xs, rfl, ⟨⟨.inr hg1, hg2⟩, fun e => ha (by rw [← e]; rfl)⟩, hc, hx'⟩⟩
 ·have h0 : ds = [] := List.length_eq_zero_iff.1 (by omega)
  subst h0
  obtain ⟨hxl, ⟨rfl, _⟩ | ⟨g, cap, cur, rfl, hBg, hheap, hle, hcap, hcs, htake⟩⟩ := hr
  ·exact ⟨none, 0, rfl, Nat.le_refl _, .inl (by simp)⟩
  ·have hx0 : xs = [] := List.length_eq_zero_iff.1 (by simpa using hxl)
   subst hx0
   exact ⟨some ⟨g, 0, none⟩, cap, rfl, hle, .inr ⟨g, 0, [], rfl, ⟨⟨.inr hBg, (Array.getElem?_eq_some_iff.1 hheap).1⟩, fun e => ha (by rw [← e]; rfl)⟩, ⟨cur, e, (0, 0), hheap, by simp, by simp⟩, hx'⟩⟩
theorem grown_but {a b c : World} {bx : Nat} {row : Option Nat} (h : a.grownBy b (some bx)) (k : b.grownBy c row) (hr : ∀ g, row = some g → g = bx ∨ a.heap.size ≤ g) : a.grownBy c (some bx) :=
 ⟨k.os.trans h.os, k.tape.trans h.tape, k.output.trans h.output, Nat.le_trans h.size k.size, fun i hi hne => by
  rw [← h.block i hi hne]
  refine k.block i (Nat.lt_of_lt_of_le hi h.size) (fun e => ?_)
  rcases hr i e.symm with rfl | h2
  ·exact hne rfl
  ·omega⟩
theorem Rep.offLo {B lo bx : Nat} {w : World} {d : Value} {x : D} {cs : List Value} (h : Rep (Lo B) w x cs) (hs : B ≤ w.heap.size) (hb : B ≤ bx) (hd : ∀ g, d.ownBlock = some g → B ≤ g) : Rep (Off B lo bx d w) w x cs := by
 refine h.up (fun r hr => ⟨.inl hr, Nat.lt_of_lt_of_le hr hs, fun e => ?_, fun e => ?_⟩) (fun _ _ => rfl)
 ·simp only [Lo] at hr; omega
 ·have := hd r e; simp only [Lo] at hr; omega
theorem In.up {B lo lo' : Nat} {w w' : World} (hlo : lo' ≤ lo) (hs : w.heap.size ≤ w'.heap.size) : ∀ r, In B lo w r → In B lo' w' r :=
 fun _ h => ⟨h.1.elim .inl (fun x => .inr (Nat.le_trans hlo x)), Nat.lt_of_lt_of_le h.2 hs⟩
section
set_option maxRecDepth 100000
theorem fit_of (fs : List Fld) (hfs : fsok fs = true) (hF : ∀ f ∈ fs, FittedOK f) : FitOK fs := by
 intro ver t B w fv ts hok hB hf ht
 obtain ⟨sv2, lv, uv, rfl, hs, hl, hu⟩ := tree_cells ht
 obtain ⟨fa, fc, rfl, _⟩ := hf.shape
 have hn := fsok.len hfs
 rw [List.length_map] at *
 refine enter Tryz.func11 rfl Tryz.ntmps11 rfl ?_
 repeat (with_reducible first|apply wc_seq|apply wc_region)
 refine wl_box1 rfl rfl rfl (fun w1 hb1 hg1 hs1 => wl_alloc zv_tree rfl rfl (fun w2 hb2 hg2 hs2 => ?_))
 have hb12 := hb1.kept hg2 (by simp)
 have hw2 : Below w.heap.size w w2 := (below_of hg1 (Nat.le_refl _) (by simp)).trans (below_of hg2 (by omega) (by simp))
 refine wl_nil (qk_thn (wc_seq (wc_region ?_)))
 refine wl_build rfl (cs := [.int .i64 0, .slice none 0 0, .bool false, .slice none 0 0, .slice none 0 0]) (by kernel_rfl) rfl ?_
 refine wl_alloc zv_tree rfl rfl (fun w3 hb3 hg3 hs3 => ?_)
 refine wl_storeBAgg (vs := [.int .i64 0, .slice none 0 0, .bool false, .slice none 0 0, .slice none 0 0]) rfl rfl rfl tz_tree rfl hb3 rfl (fun w4 hb4 hg4 hs4 => ?_)
 have hb14 := (hb12.kept hg3 (by simp)).kept hg4 (by simp; omega)
 have hb24 := (hb2.kept hg3 (by simp)).kept hg4 (by simp; omega)
 have hw4 : Below w.heap.size w w4 := (hw2.trans (below_of hg3 (by omega) (by simp))).trans (below_of hg4 (by omega) (by intro k hk; simp at hk; omega))
 refine wl_nil (qk_thn ?_)
 refine wc_cut (α := Value) (fun d => [(7, .pointer (some ⟨w2.heap.size, 0, none⟩)), (6, .pointer (some ⟨w1.heap.size, 0, none⟩)), (5, .pointer (some ⟨w.heap.size, 0, none⟩)), (1, .int .i64 ver), (0, .slice fa fs.length fc)])
  (fun d w' => Below w.heap.size w w' ∧ w4.heap.size ≤ w'.heap.size ∧ Box w' w.heap.size [.int .i64 t.n, sv2, .bool t.nul, lv, uv] 26 ∧ Box w' w1.heap.size [.int .i64 0, .slice none 0 0, .bool false, .slice none 0 0, .slice none 0 0] 26 ∧ Box w' w2.heap.size [.int .i64 0, .slice none 0 0, .bool false, d, .slice none 0 0] 26 ∧ RowD B w4.heap.size w2.heap.size 26 5 w' d ((fitL ver fs 0 t).map treeD)) ?_ ?_
 ·repeat first|(with_reducible first|apply wc_seq|apply wc_region|apply wl_nil|apply qk_thn|apply wc_block)|((with_reducible apply ws);exact rfl;exact rfl)
  refine wc_loop (α := PtS) (fun s => [(15, .int .i64 (s.i : Int)), (14, .int .i64 (fs.length : Int)), (13, .slice fa fs.length fc), (7, .pointer (some ⟨w2.heap.size, 0, none⟩)), (6, .pointer (some ⟨w1.heap.size, 0, none⟩)), (5, .pointer (some ⟨w.heap.size, 0, none⟩)), (1, .int .i64 ver), (0, .slice fa fs.length fc)])
   (fun s w' => s.i ≤ fs.length ∧ Below w.heap.size w w' ∧ w4.heap.size ≤ w'.heap.size ∧ Box w' w.heap.size [.int .i64 t.n, sv2, .bool t.nul, lv, uv] 26 ∧ Box w' w1.heap.size [.int .i64 0, .slice none 0 0, .bool false, .slice none 0 0, .slice none 0 0] 26 ∧ Box w' w2.heap.size [.int .i64 0, .slice none 0 0, .bool false, s.d, .slice none 0 0] 26 ∧ RowD B w4.heap.size w2.heap.size 26 5 w' s.d (((fitL ver fs 0 t).take s.i).map treeD)) (fun s => fs.length - s.i) ⟨0, .slice none 0 0, []⟩ ⟨rfl, rfl, rfl, rfl, rfl, rfl, rfl, rfl, trivial⟩ ⟨Nat.zero_le _, hw4, Nat.le_refl _, hb14, hb24, hb4, RowD.nil _ _ _ _ _ _⟩ ?_
  rintro ⟨i, d, _⟩ w5 ⟨hi, hw5, hs45, hbt5, hbz5, hbo5, hrd5⟩
  simp only [] at hi hbo5 hrd5
  change WC _ _ _ _ [(15, .int .i64 (i : Int)), (14, .int .i64 (fs.length : Int)), (13, .slice fa fs.length fc), (7, .pointer (some ⟨w2.heap.size, 0, none⟩)), (6, .pointer (some ⟨w1.heap.size, 0, none⟩)), (5, .pointer (some ⟨w.heap.size, 0, none⟩)), (1, .int .i64 ver), (0, .slice fa fs.length fc)] _
  repeat first|(with_reducible first|apply wc_seq|apply wc_region|apply wl_nil|apply qk_thn)|((with_reducible apply ws);exact rfl;exact rfl)
  by_cases hlt : i < fs.length
  ·refine wc_yes rfl (by simpa using hlt) ?_
   obtain ⟨b, off, c', cs, hv, _, hcs, hlen, hr⟩ := (hf.below (hw5.mono hB) (Nat.le_refl _)).get (sz := 8) (i := i) (by intro d hd; obtain ⟨x, _, rfl⟩ := List.mem_map.1 hd; exact fldD_width x) (by simpa using hlt)
   simp only [Value.slice.injEq, List.length_map] at hv
   obtain ⟨rfl, _, rfl⟩ := hv
   simp only [List.getElem_map] at hr
   obtain ⟨hone, _⟩ := fld_one hr
   repeat first|(with_reducible first|apply wc_seq|apply wc_region|apply qk_thn|apply wc_block|apply wc_skip)|((with_reducible apply ws);exact rfl;exact rfl)
   refine wl_indexAddr rfl rfl es_flds rfl hlt ?_
   refine wl_loadAgg rfl (by rw [hlen]; exact ta_fld) rfl (fun j v e => hcs.cell e) ?_
   refine wl_alloc zv_fld rfl rfl (fun w6 hb6 hg6 hs6 => ?_)
   repeat ((with_reducible apply ws);exact rfl;exact rfl)
   refine wl_storeBAgg rfl rfl rfl (by rw [hlen]; exact tz_fld) hone hb6 (by rw [hlen]; rfl) (fun w7 hb7 hg7 hs7 => ?_)
   have hw57 : Below w5.heap.size w5 w7 := (below_of hg6 (Nat.le_refl _) (by simp)).trans (below_of hg7 (by omega) (by intro k hk; simp at hk; omega))
   have hw7 : Below w.heap.size w w7 := hw5.trans (hw57.mono (by omega))
   have hrd7 := hrd5.below hw57
   have hbt7 := hbt5.below hw57 hbt5.lt
   have hbz7 := hbz5.below hw57 hbz5.lt
   have hbo7 := hbo5.below hw57 hbo5.lt
   have hdl : ∀ g, d.ownBlock = some g → w4.heap.size ≤ g ∧ g < w5.heap.size := hrd5.low
   obtain ⟨da, dc, hds⟩ := hrd5.shape
   repeat (with_reducible first|apply wl_nil|apply qk_thn)
   refine wc_parS [(0, .pointer (some ⟨w2.heap.size, 0 + 3, none⟩)), (1, d), (2, .agg cs.toArray), (3, .int .i64 ver), (4, .agg ([.int .i64 t.n, sv2, .bool t.nul, lv, uv] : List Value).toArray), (5, .int .i64 (i : Int)), (10, .pointer (some ⟨w2.heap.size, 0 + 3, none⟩))] [11, 9, 8, 7, 6]
    (fun vals w' => Below w.heap.size w w' ∧ w7.heap.size ≤ w'.heap.size ∧ Box w' w.heap.size [.int .i64 t.n, sv2, .bool t.nul, lv, uv] 26 ∧ Box w' w1.heap.size [.int .i64 0, .slice none 0 0, .bool false, .slice none 0 0, .slice none 0 0] 26 ∧ Box w' w5.heap.size cs 50 ∧ match vals with
     | [] => Below w7.heap.size w7 w'
     | [v] => Below w7.heap.size w7 w' ∧ ∃ xs' : List Value, v = .agg xs'.toArray ∧ Rep (Lo B) w' (treeD (att t i)) xs'
     | [v, _] => Below w7.heap.size w7 w' ∧ ∃ xs' : List Value, v = .agg xs'.toArray ∧ Rep (In B w7.heap.size w') w' (treeD (fitF ver fs[i] (att t i))) xs'
     | [v, _, _] => Below w7.heap.size w7 w' ∧ ∃ (b8 : Nat) (xs' : List Value), v = .slice (some ⟨b8, 0, none⟩) 1 1 ∧ Box w' b8 xs' 26 ∧ xs'.length = 5 ∧ (xs'.all fun v => v.oneCell') = true ∧ Rep (In B w7.heap.size w') w' (treeD (fitF ver fs[i] (att t i))) xs'
     | [v, _, _, _] => Box w' w2.heap.size [.int .i64 0, .slice none 0 0, .bool false, d, .slice none 0 0] 26 ∧ RowD B w4.heap.size w2.heap.size 26 5 w' v (((fitL ver fs 0 t).take (i + 1)).map treeD)
     | _ :: v :: _ => Box w' w2.heap.size [.int .i64 0, .slice none 0 0, .bool false, v, .slice none 0 0] 26 ∧ RowD B w4.heap.size w2.heap.size 26 5 w' v (((fitL ver fs 0 t).take (i + 1)).map treeD))
    mixed rfl rfl rfl rfl rfl (by show ([0,1,2,3,4,5,10] : List Nat).Nodup; decide) rfl rfl (by decide) rfl rfl rfl rfl ⟨hw7.drew, Nat.le_refl _, hbt7, hbz7, hb7, (Below.refl _ w7).drew⟩ ?_ ⟨?_, ?_, ?_, ?_, ?_, trivial⟩ ?_
   ·intro p hp vals w' hC hnp a k
    obtain ⟨hC1, hC2, hC3, hC4, hC5, hC6⟩ := hC
    simp only [List.mem_cons, List.not_mem_nil, or_false] at hp
    rcases hp with rfl | rfl | rfl | rfl | rfl | rfl | rfl
    ·exact gv rfl rfl (rn_fieldAddr k rfl fo_tree3)
    ·have hbx : Box w' w2.heap.size [.int .i64 0, .slice none 0 0, .bool false, d, .slice none 0 0] 26 := by
      match vals, hC6, hnp with
      | [], h, _ => exact hbo7.below h hbo7.lt
      | [_], h, _ => exact hbo7.below h.1 hbo7.lt
      | [_, _], h, _ => exact hbo7.below h.1 hbo7.lt
      | [_, _, _], h, _ => exact hbo7.below h.1 hbo7.lt
      | [_, _, _, _], h, _ => exact h.1
      | _ :: _ :: _ :: _ :: _ :: r, _, hnp =>
       have := hnp 11 (by rw [show ([11, 9, 8, 7, 6] : List Nat).length - (_ :: _ :: _ :: _ :: _ :: r).length = 0 from by simp only [List.length_cons, List.length_nil]; omega]; simp)
       exact absurd (show true = false from this) (by simp)
     exact gv rfl rfl (rn_load k rfl to_trees (hbx.cell0 (i := 3) rfl))
    ·exact gv rfl rfl (rn_loadBAgg k rfl (by rw [hlen]; exact ta_fld) hC5)
    ·exact gv rfl rfl (rn_move k rfl)
    ·exact gv rfl rfl (rn_loadBAgg k rfl ta_tree hC3)
    ·exact gv rfl rfl (rn_move k rfl)
    ·exact gv rfl rfl (rn_fieldAddr k rfl fo_tree3)
   ·rintro vals w' hvl ⟨hC1, hC2, hC3, hC4, hC5, hC6⟩ a k
    match vals, hvl with
    | [v9, v8, v7, v6], _ =>
     obtain ⟨hbx, hrd⟩ := hC6
     obtain ⟨a9, c9, rfl⟩ := hrd.shape
     refine ⟨_, rfl, does_storeB k rfl rfl to_trees rfl hbx rfl (fun w'' hbx'' hg'' hs'' => ⟨hC1.trans (below_of hg'' (by have := hC1.size; omega) (by intro q hq; simp at hq; omega)), by omega, hC3.kept hg'' (by simp; omega), hC4.kept hg'' (by simp; omega), hC5.kept hg'' (by simp; omega), hbx'', hrd.stored hg''⟩)⟩
   ·rintro vals w' hvl ⟨hC1, hC2, hC3, hC4, hC5, hC6⟩ a k
    match vals, hvl with
    | [v8, v7, v6], _ =>
     obtain ⟨hb7', b8, xs', rfl, hb8, hl5, hone', hrep⟩ := hC6
     have hrdw := hrd7.below hb7'
     obtain ⟨xs0, hrow0, hreps0⟩ := hrdw.row
     refine ⟨_, rfl, does_app1 k rt_trees rfl rfl hb8 hl5 hone' hrow0 (by omega) (by simp only [List.length_map, List.length_take, fitL_length, many]; omega) (fun d' w'' hrow'' hg'' => ?_)⟩
     have hs'' := hg''.grown.size
     have hne : ∀ q, q < w4.heap.size ∨ w5.heap.size ≤ q → some q ≠ d.ownBlock := fun q hq e => by have := hdl q e.symm; omega
     refine ⟨hC1.trans (hg''.below (by omega) (fun g hg => by have := hdl g hg; omega)), by omega, hC3.kept hg''.grown (hne _ (by omega)), hC4.kept hg''.grown (hne _ (by omega)), hC5.kept hg''.grown (hne _ (by omega)), (hbo7.below hb7' hbo7.lt).kept hg''.grown (hne _ (by omega)), ?_⟩
     have hsn := hrdw.snoc (by omega) (by omega) hreps0 (hrep.off (by omega) ⟨by omega, by omega⟩ (fun g hg => by have := hdl g hg; omega)) hrow'' hg''
     rw [fitL_take ver fs t hlt, List.map_append]
     exact hsn
   ·rintro vals w' hvl ⟨hC1, hC2, hC3, hC4, hC5, hC6⟩ a k
    match vals, hvl with
    | [v7, v6], _ =>
     obtain ⟨hb7', xs', rfl, hrep⟩ := hC6
     obtain ⟨hone', hl5⟩ := treeG_one hrep
     have hga := grown_alloc w' (.cells xs'.toArray 26)
     refine ⟨_, rfl, does_slice1 k rt_trees rfl rfl hl5 rfl ⟨hC1.trans (below_of hga (by omega) (by simp)), by simp; omega, hC3.kept hga (by simp), hC4.kept hga (by simp), hC5.kept hga (by simp), hb7'.trans (below_of hga (by omega) (by simp)), _, xs', rfl, box_alloc _ _ _, hl5, hone', hrep.up (In.up (Nat.le_refl _) (by simp)) (fun r hr => hga.block r hr.2 (by simp))⟩⟩
   ·rintro vals w' hvl ⟨hC1, hC2, hC3, hC4, hC5, hC6⟩ a k
    match vals, hvl with
    | [v6], _ =>
     obtain ⟨hb7', xs', rfl, hxr⟩ := hC6
     refine ⟨_, rfl, does_call k rfl (by kernel_rfl) ((hF fs[i] (List.getElem_mem hlt) ver (att t i) B w' _ _ (hok.at i) (by omega) (Rep.below hr ((hw57.trans (hb7'.mono (by omega))).mono (by omega)) (Nat.le_refl _)) hxr).mono ?_)⟩
     rintro e w'' ⟨v, rfl, hb'', cs'', rfl, hrep⟩
     exact ⟨_, rfl, hC1.trans (hb''.mono (by omega)), by have := hb''.size; omega, hC3.below hb'' hC3.lt, hC4.below hb'' hC4.lt, hC5.below hb'' hC5.lt, hb7'.trans (hb''.mono (by omega)), cs'', rfl, hrep.up (In.up (by omega) (Nat.le_refl _)) (fun _ _ => rfl)⟩
   ·rintro vals w' hvl ⟨hC1, hC2, hC3, hC4, hC5, hC6⟩ a k
    match vals, hvl with
    | [], _ =>
     refine ⟨_, rfl, does_call k rfl (by kernel_rfl) ((fn_at t i B w' (by omega) _ (Rep.below ht (hC1.mono hB) (Nat.le_refl _))).mono ?_)⟩
     rintro e w'' ⟨v, rfl, hb'', xs', rfl, hxr⟩
     exact ⟨_, rfl, hC1.trans (hb''.mono (by omega)), by have := hb''.size; omega, hC3.below hb'' hC3.lt, hC4.below hb'' hC4.lt, hC5.below hb'' hC5.lt, hC6.trans (hb''.mono (by omega)), xs', rfl, hxr⟩
   ·rintro vals w' hvl ⟨hC1, hC2, hC3, hC4, hC5, hC6⟩
    match vals, hvl with
    | [v11, v9, v8, v7, v6], _ =>
     refine qk_thn ?_
     repeat (with_reducible apply wc_region)
     refine wl_add rfl rfl rfl (r := ((i + 1 : Nat) : Int)) (by rw [IntKind.wrap_i64]; omega) ?_
     repeat first|(with_reducible apply wl_nil)|((with_reducible apply ws);exact rfl;exact rfl)
     exact qk_round ⟨i + 1, v9, []⟩ ⟨rfl, rfl, rfl, rfl, rfl, rfl, rfl, rfl, trivial⟩ ⟨by simp only []; omega, hC1, by omega, hC3, hC4, hC6.1, hC6.2⟩ (by simp only []; omega)
  ·refine wc_no rfl (by simpa using hlt) ?_
   repeat (with_reducible first|apply wc_exit|apply qk_thn_exit|apply qk_in_exit|apply qk_round_exit)
   rw [List.take_of_length_le (by rw [fitL_length]; omega)] at hrd5
   exact qk_cut d ⟨rfl, rfl, rfl, rfl, rfl, trivial⟩ ⟨hw5, hs45, hbt5, hbz5, hbo5, hrd5⟩
 rintro d w5 ⟨hw5, hs45, hbt5, hbz5, hbo5, hrd5⟩
 have hdone := hrd5.sqb
 have hdlt := hrd5.low
 obtain ⟨da, dc, rfl⟩ := hrd5.shape
 rw [List.length_map, fitL_length] at *
 refine wc_cut (α := Value) (fun _ => [(7, .pointer (some ⟨w2.heap.size, 0, none⟩)), (6, .pointer (some ⟨w1.heap.size, 0, none⟩))])
  (fun e w' => Below w.heap.size w w' ∧ w5.grownBy w' (some w2.heap.size) ∧ Box w' w1.heap.size [.int .i64 0, .slice none 0 0, .bool false, .slice none 0 0, .slice none 0 0] 26 ∧ Box w' w2.heap.size [.int .i64 0, .slice none 0 0, .bool false, .slice da fs.length dc, e] 26 ∧ RowD B w5.heap.size w2.heap.size 64 2 w' e ((others fs t.u).map tagD)) ?_ ?_
 ·repeat first|(with_reducible first|apply wc_seq|apply wc_region)|((with_reducible apply ws);exact rfl;exact rfl)
  refine wl_loadB rfl to_tags rfl hbt5 rfl ?_
  refine wl_call rfl (by kernel_rfl) rfl ((fn_unknownR _ _ fs t.u B w5 (by omega) (hf.below (hw5.mono hB) (Nat.le_refl _)) (hu.below (hw5.mono hB) (Nat.le_refl _)) (fsok.tag hfs) (by omega)).mono ?_)
  rintro e w6 ⟨v, rfl, hw6, qs, hrow, hsay, hat⟩
  refine ⟨_, rfl, ?_⟩
  have hs56 := hw6.size
  have hqn : qs.length ≤ 32767 := by have := unknown_len fs t.u; rw [← hsay] at this; simpa using this
  have hoth : others fs t.u = qs.map fun q => (q.1.1, whole q.1.2) := by simp only [others, ← hsay, List.map_map]; rfl
  obtain ⟨va, vc, rfl⟩ := Row.shape hrow
  have hvb := fun g hg => World.ownsRow.lt hrow g hg
  repeat first|(with_reducible first|apply wl_nil|apply qk_thn|apply wc_block)|((with_reducible apply ws);exact rfl;exact rfl)
  refine wc_loop (α := PtS) (fun s => [(37, .int .i64 (s.i : Int)), (36, .int .i64 (qs.length : Int)), (35, .slice va qs.length vc), (7, .pointer (some ⟨w2.heap.size, 0, none⟩)), (6, .pointer (some ⟨w1.heap.size, 0, none⟩)), (5, .pointer (some ⟨w.heap.size, 0, none⟩))])
   (fun s w' => s.i ≤ qs.length ∧ Below w.heap.size w w' ∧ w6.heap.size ≤ w'.heap.size ∧ w5.grownBy w' (some w2.heap.size) ∧ Box w' w.heap.size [.int .i64 t.n, sv2, .bool t.nul, lv, uv] 26 ∧ Box w' w1.heap.size [.int .i64 0, .slice none 0 0, .bool false, .slice none 0 0, .slice none 0 0] 26 ∧ Box w' w2.heap.size [.int .i64 0, .slice none 0 0, .bool false, .slice da fs.length dc, s.d] 26 ∧ RowD B w6.heap.size w2.heap.size 64 2 w' s.d ((qs.take s.i).map fun q => tagD (q.1.1, whole q.1.2)) ∧ w'.ownsRow w5.heap.size 64 2 (.slice va qs.length vc) qs.length (tcells qs)) (fun s => qs.length - s.i) ⟨0, .slice none 0 0, []⟩ ⟨rfl, rfl, rfl, rfl, rfl, rfl, trivial⟩ ⟨Nat.zero_le _, hw5.trans (hw6.mono (by omega)), Nat.le_refl _, ⟨hw6.os, hw6.tape, hw6.output, hw6.size, fun k hk _ => hw6.block k hk⟩, hbt5.below hw6 hbt5.lt, hbz5.below hw6 hbz5.lt, hbo5.below hw6 hbo5.lt, RowD.nil _ _ _ _ _ _, hrow⟩ ?_
  rintro ⟨i, e, _⟩ w7 ⟨hi, hw7, hs67, hgb7, hbt7, hbz7, hbo7, hrd7, hrow7⟩
  simp only [] at hi hbo7 hrd7
  change WC _ _ _ _ [(37, .int .i64 (i : Int)), (36, .int .i64 (qs.length : Int)), (35, .slice va qs.length vc), (7, .pointer (some ⟨w2.heap.size, 0, none⟩)), (6, .pointer (some ⟨w1.heap.size, 0, none⟩)), (5, .pointer (some ⟨w.heap.size, 0, none⟩))] _
  repeat first|(with_reducible first|apply wc_seq|apply wc_region|apply wl_nil|apply qk_thn)|((with_reducible apply ws);exact rfl;exact rfl)
  by_cases hlt : i < qs.length
  ·refine wc_yes rfl (by simpa using hlt) ?_
   obtain ⟨g, cap, hde, hg1, hg2', hca⟩ := Row.cells hrow7 (by omega)
   simp only [Value.slice.injEq, true_and] at hde
   obtain ⟨rfl, rfl⟩ := hde
   have hvg := hvb g rfl
   have hcj := tcells_at hca hlt
   have hsq5 := hat qs[i] (List.getElem_mem hlt)
   have hone : (([.int .u32 (qs[i].1.1 : Nat), qs[i].2] : List Value).all fun v => v.oneCell') = true := by
    obtain ⟨a3, c3, h3, _⟩ := hsq5.shape
    rw [h3]; rfl
   repeat (with_reducible first|apply wc_seq|apply wc_region|apply qk_thn|apply wc_block|apply wc_skip)
   refine wl_indexAddr rfl rfl es_tags rfl hlt ?_
   refine wl_loadAgg (cs := [.int .u32 (qs[i].1.1 : Nat), qs[i].2]) rfl ta_tag rfl (fun j v e => hcj.cell e) ?_
   refine wl_alloc zv_tag rfl rfl (fun w8 hb8 hg8 hs8 => ?_)
   refine wl_storeBAgg (vs := [.int .u32 (qs[i].1.1 : Nat), qs[i].2]) rfl rfl rfl tz_tag hone hb8 rfl (fun w9 hb9 hg9 hs9 => ?_)
   have hw79 : Below w7.heap.size w7 w9 := (below_of hg8 (Nat.le_refl _) (by simp)).trans (below_of hg9 (by omega) (by intro k hk; simp at hk; omega))
   have hw9 : Below w.heap.size w w9 := hw7.trans (hw79.mono (by omega))
   have hgb9 : w5.grownBy w9 (some w2.heap.size) := grown_but hgb7 (grown_of hw79) (fun g h => by cases h)
   have hbt9 := hbt7.below hw79 hbt7.lt
   have hbz9 := hbz7.below hw79 hbz7.lt
   have hbo9 := hbo7.below hw79 hbo7.lt
   have hrd9 := hrd7.below hw79
   have hrow9 := Row.kept hrow7 (grown_of hw79) (fun g _ => by simp)
   have hel : ∀ g, e.ownBlock = some g → w6.heap.size ≤ g ∧ g < w7.heap.size := hrd7.low
   have hsq9 : Sq B w9 qs[i].2 (qs[i].1.2.map byteD) := hsq5.below (Below.between (hw5.mono hB) (hw9.mono hB) (by omega)) (Nat.le_refl _)
   have hs79 := hw79.size
   repeat (with_reducible first|apply wl_nil|apply qk_thn)
   refine wc_parS [(0, .pointer (some ⟨w2.heap.size, 0 + 4, none⟩)), (1, e), (2, .pointer (some ⟨w7.heap.size, 0 + 0, none⟩)), (3, .int .u32 (qs[i].1.1 : Nat)), (4, .pointer (some ⟨w7.heap.size, 0 + 1, none⟩)), (5, qs[i].2), (10, .pointer (some ⟨w2.heap.size, 0 + 4, none⟩))] [11, 9, 8, 7, 6]
    (fun vals w' => Below w.heap.size w w' ∧ w9.heap.size ≤ w'.heap.size ∧ w5.grownBy w' (some w2.heap.size) ∧ Box w' w.heap.size [.int .i64 t.n, sv2, .bool t.nul, lv, uv] 26 ∧ Box w' w1.heap.size [.int .i64 0, .slice none 0 0, .bool false, .slice none 0 0, .slice none 0 0] 26 ∧ Box w' w7.heap.size [.int .u32 (qs[i].1.1 : Nat), qs[i].2] 64 ∧ w'.ownsRow w5.heap.size 64 2 (.slice (some ⟨g, 0, none⟩) qs.length vc) qs.length (tcells qs) ∧ match vals with
     | [] => Below w9.heap.size w9 w'
     | [v] => Below w9.heap.size w9 w' ∧ Sq B w' v ((whole qs[i].1.2).map byteD)
     | [v, _] => Below w9.heap.size w9 w' ∧ ∃ xs' : List Value, v = .agg xs'.toArray ∧ Rep (Lo B) w' (tagD (qs[i].1.1, whole qs[i].1.2)) xs'
     | [v, _, _] => Below w9.heap.size w9 w' ∧ ∃ (b8 : Nat) (xs' : List Value), v = .slice (some ⟨b8, 0, none⟩) 1 1 ∧ Box w' b8 xs' 64 ∧ xs'.length = 2 ∧ (xs'.all fun v => v.oneCell') = true ∧ Rep (Lo B) w' (tagD (qs[i].1.1, whole qs[i].1.2)) xs'
     | [v, _, _, _] => Box w' w2.heap.size [.int .i64 0, .slice none 0 0, .bool false, .slice da fs.length dc, e] 26 ∧ RowD B w6.heap.size w2.heap.size 64 2 w' v ((qs.take (i + 1)).map fun q => tagD (q.1.1, whole q.1.2))
     | _ :: v :: _ => Box w' w2.heap.size [.int .i64 0, .slice none 0 0, .bool false, .slice da fs.length dc, v] 26 ∧ RowD B w6.heap.size w2.heap.size 64 2 w' v ((qs.take (i + 1)).map fun q => tagD (q.1.1, whole q.1.2)))
    mixed rfl rfl rfl rfl rfl (by show ([0,1,2,3,4,5,10] : List Nat).Nodup; decide) rfl rfl (by decide) rfl rfl rfl rfl ⟨hw9.drew, Nat.le_refl _, grown_but hgb9 (grown_drew w9 none) (fun g h => by cases h), hbt9, hbz9, hb9, hrow9, (Below.refl _ w9).drew⟩ ?_ ⟨?_, ?_, ?_, ?_, ?_, trivial⟩ ?_
   ·intro p hp vals w' hC hnp a k
    obtain ⟨hC1, hC2, hC3, hC4, hC5, hC6, hC7, hC8⟩ := hC
    simp only [List.mem_cons, List.not_mem_nil, or_false] at hp
    rcases hp with rfl | rfl | rfl | rfl | rfl | rfl | rfl
    ·exact gv rfl rfl (rn_fieldAddr k rfl fo_tree4)
    ·have hbx : Box w' w2.heap.size [.int .i64 0, .slice none 0 0, .bool false, .slice da fs.length dc, e] 26 := by
      match vals, hC8, hnp with
      | [], h, _ => exact hbo9.below h hbo9.lt
      | [_], h, _ => exact hbo9.below h.1 hbo9.lt
      | [_, _], h, _ => exact hbo9.below h.1 hbo9.lt
      | [_, _, _], h, _ => exact hbo9.below h.1 hbo9.lt
      | [_, _, _, _], h, _ => exact h.1
      | _ :: _ :: _ :: _ :: _ :: r, _, hnp =>
       have := hnp 11 (by rw [show ([11, 9, 8, 7, 6] : List Nat).length - (_ :: _ :: _ :: _ :: _ :: r).length = 0 from by simp only [List.length_cons, List.length_nil]; omega]; simp)
       exact absurd (show true = false from this) (by simp)
     exact gv rfl rfl (rn_load k rfl to_tags (hbx.cell0 (i := 4) rfl))
    ·exact gv rfl rfl (rn_fieldAddr k rfl fo_tag0)
    ·exact gv rfl rfl (rn_load k rfl to_u32 (hC6.cell0 (i := 0) rfl))
    ·exact gv rfl rfl (rn_fieldAddr k rfl fo_tag1)
    ·exact gv rfl rfl (rn_load k rfl to_bytes (hC6.cell0 (i := 1) rfl))
    ·exact gv rfl rfl (rn_fieldAddr k rfl fo_tree4)
   ·rintro vals w' hvl ⟨hC1, hC2, hC3, hC4, hC5, hC6, hC7, hC8⟩ a k
    match vals, hvl with
    | [v9, v8, v7, v6], _ =>
     obtain ⟨hbx, hrd⟩ := hC8
     obtain ⟨a9, c9, rfl⟩ := hrd.shape
     refine ⟨_, rfl, does_storeB k rfl rfl to_tags rfl hbx rfl (fun w'' hbx'' hg'' hs'' => ⟨hC1.trans (below_of hg'' (by omega) (by intro q hq; simp at hq; omega)), by omega, grown_but hC3 hg'' (fun g h => .inl (by simpa using h.symm)), hC4.kept hg'' (by simp; omega), hC5.kept hg'' (by simp; omega), hC6.kept hg'' (by simp; omega), Row.kept hC7 hg'' (fun q hq e => by have := hvb q hq; simp at e; omega), hbx'', hrd.stored hg''⟩)⟩
   ·rintro vals w' hvl ⟨hC1, hC2, hC3, hC4, hC5, hC6, hC7, hC8⟩ a k
    match vals, hvl with
    | [v8, v7, v6], _ =>
     obtain ⟨hb9', b8, xs', rfl, hb8', hl2, hone', hrep⟩ := hC8
     have hrdw := hrd9.below hb9'
     obtain ⟨xs0, hrow0, hreps0⟩ := hrdw.row
     refine ⟨_, rfl, does_app1 k rt_tags rfl rfl hb8' hl2 hone' hrow0 (by omega) (by simp only [List.length_map, List.length_take, many]; omega) (fun d' w'' hrow'' hg'' => ?_)⟩
     have hs'' := hg''.grown.size
     have hne : ∀ q, q < w6.heap.size ∨ w7.heap.size ≤ q → some q ≠ e.ownBlock := fun q hq h => by have := hel q h.symm; omega
     refine ⟨hC1.trans (hg''.below (by omega) (fun g hg => by have := hel g hg; omega)), by omega, grown_but hC3 hg''.grown (fun q hq => .inr (by have := hel q hq; omega)), hC4.kept hg''.grown (hne _ (by omega)), hC5.kept hg''.grown (hne _ (by omega)), hC6.kept hg''.grown (hne _ (by omega)), Row.kept hC7 hg''.grown (fun q hq h => by have h1 := hvb q hq; have h2 := hel q h; omega), (hbo9.below hb9' hbo9.lt).kept hg''.grown (hne _ (by omega)), ?_⟩
     have hsn := hrdw.snoc (by omega) (by omega) hreps0 (hrep.offLo (by omega) (by omega) (fun g hg => by have := hel g hg; omega)) hrow'' hg''
     rw [List.take_succ_eq_append_getElem hlt, List.map_append]
     exact hsn
   ·rintro vals w' hvl ⟨hC1, hC2, hC3, hC4, hC5, hC6, hC7, hC8⟩ a k
    match vals, hvl with
    | [v7, v6], _ =>
     obtain ⟨hb9', xs', rfl, hrep⟩ := hC8
     obtain ⟨hone', hl2⟩ := tag_one hrep
     have hga := grown_alloc w' (.cells xs'.toArray 64)
     refine ⟨_, rfl, does_slice1 k rt_tags rfl rfl hl2 rfl ⟨hC1.trans (below_of hga (by omega) (by simp)), by simp; omega, grown_but hC3 hga (fun g h => by cases h), hC4.kept hga (by simp), hC5.kept hga (by simp), hC6.kept hga (by simp), Row.kept hC7 hga (fun q _ => by simp), hb9'.trans (below_of hga (by omega) (by simp)), _, xs', rfl, box_alloc _ _ _, hl2, hone', hrep.up (fun _ h => h) (fun r hr => hga.block r (by simp only [Lo] at hr; omega) (by simp))⟩⟩
   ·rintro vals w' hvl ⟨hC1, hC2, hC3, hC4, hC5, hC6, hC7, hC8⟩ a k
    match vals, hvl with
    | [v6], _ =>
     obtain ⟨hb9', hsq6⟩ := hC8
     obtain ⟨a6, c6, rfl, _⟩ := hsq6.shape
     refine ⟨_, rfl, does_build (cs := [.int .u32 (qs[i].1.1 : Nat), .slice a6 ((whole qs[i].1.2).map byteD).length c6]) k rfl (by kernel_rfl) ⟨hC1, hC2, hC3, hC4, hC5, hC6, hC7, hb9', _, rfl, rep_tag hsq6⟩⟩
   ·rintro vals w' hvl ⟨hC1, hC2, hC3, hC4, hC5, hC6, hC7, hC8⟩ a k
    match vals, hvl with
    | [], _ =>
     simp only [] at hC8
     have hsqw := hsq9.below (hC8.mono (by omega)) (Nat.le_refl _)
     refine ⟨_, rfl, does_call k rfl (by kernel_rfl) ((fn_whole _ _ _ _ hsqw).mono ?_)⟩
     rintro e' w'' ⟨v, rfl, hb'', rfl, hsq'⟩
     rw [whole_map] at hsq'
     exact ⟨_, rfl, hC1, hC2, hC3, hC4, hC5, hC6, hC7, hC8, hsq'⟩
   ·rintro vals w' hvl ⟨hC1, hC2, hC3, hC4, hC5, hC6, hC7, hC8⟩
    match vals, hvl with
    | [v11, v9, v8, v7, v6], _ =>
     refine qk_thn ?_
     repeat (with_reducible apply wc_region)
     refine wl_add rfl rfl rfl (r := ((i + 1 : Nat) : Int)) (by rw [IntKind.wrap_i64]; omega) ?_
     repeat first|(with_reducible apply wl_nil)|((with_reducible apply ws);exact rfl;exact rfl)
     exact qk_round ⟨i + 1, v9, []⟩ ⟨rfl, rfl, rfl, rfl, rfl, rfl, trivial⟩ ⟨by simp only []; omega, hC1, by omega, hC3, hC4, hC5, hC8.1, hC8.2, hC7⟩ (by simp only []; omega)
  ·refine wc_no rfl (by simpa using hlt) ?_
   repeat (with_reducible first|apply wc_exit|apply qk_thn_exit|apply qk_in_exit|apply qk_round_exit)
   rw [List.take_of_length_le (by omega)] at hrd7
   refine qk_cut e ⟨rfl, rfl, trivial⟩ ⟨hw7, hgb7, hbz7, hbo7, ?_⟩
   rw [hoth, List.map_map]
   obtain ⟨ha, hlo, xs, hr, hx⟩ := hrd7
   refine ⟨ha, fun g hg => by have := hlo g hg; omega, xs, Row.mono hr hs56, hx.up (fun r hr => ⟨hr.1.elim .inl (fun x => .inr (by omega)), hr.2⟩) (fun _ _ => rfl)⟩
 rintro e w6 ⟨hw6, hgb6, hbz6, hbo6, hrd6⟩
 obtain ⟨ea, ec, hes⟩ := hrd6.shape
 subst hes
 repeat (with_reducible first|apply wc_seq|apply wc_region)
 refine wl_loadBAgg (cs := [.int .i64 0, .slice none 0 0, .bool false, .slice da fs.length dc, .slice ea ((others fs t.u).map tagD).length ec]) rfl ta_tree rfl hbo6 ?_
 refine wl_storeBAgg (vs := [.int .i64 0, .slice none 0 0, .bool false, .slice da fs.length dc, .slice ea ((others fs t.u).map tagD).length ec]) rfl rfl rfl tz_tree rfl hbz6 rfl (fun w7 hbz7 hg7 hs7 => ?_)
 repeat (with_reducible first|apply wl_nil|apply qk_thn|apply wc_ret)
 have hs56 := hgb6.size
 refine qk_retCell (cs := [.int .i64 0, .slice none 0 0, .bool false, .slice da fs.length dc, .slice ea ((others fs t.u).map tagD).length ec]) rfl rfl ta_tree hbz7 ⟨_, rfl, hw6.trans (below_of hg7 (by have := hw6.size; omega) (by intro q hq; simp at hq; omega)), _, rfl, ?_⟩
 have hse := hrd6.sqb
 refine rep_tree (rep_nil _ _) ?_ ?_
 ·refine hdone.up (fun r hr => In.up (by omega) (by omega) r hr.1) (fun r hr => ?_)
  have h1 : r ≠ w1.heap.size := by
   rcases hr.1.1 with h | h <;> omega
  rw [hg7.block r (by have := hr.1.2; omega) (by simp; omega), hgb6.block r hr.1.2 (by simpa using hr.2)]
 ·refine hse.up (fun r hr => In.up (by omega) (by omega) r hr.1) (fun r hr => ?_)
  have h1 : r ≠ w1.heap.size := by
   rcases hr.1.1 with h | h <;> omega
  rw [hg7.block r hr.1.2 (by simp; omega)]
end
end Go.Proofs.YtgpnpfiafcakfaaGreat

namespace Go.Proofs.YtgpnpfiafcakfaaGreat
open Go Go.RowKit
def Fld.one : Fld → Fld | .mk _ fr upto _ _ df of sub => .mk of fr upto (-1) (-1) df of sub
theorem one_fit (f : Fld) (ver : Int) (x : Tree) (h : f.of ≠ 11) : fitF ver f.one x = fitVal f.of false (fitP ver f.sub) x := by
 have hk : f.one.kind = f.of := by cases f; rfl
 have hs : f.one.sub = f.sub := by cases f; rfl
 have hn : f.one.null ver x = false := by cases f; simp [Fld.one, Fld.null, Fld.nul]
 rw [fitF_eq, if_neg (by rw [hk]; exact h), hk, hs, hn]
theorem one_rep {ok : Nat → Prop} {w : World} {f : Fld} {sv : Value} (h : Rep ok w (.sq (f.sub.map fldD)) [sv]) :
  Rep ok w (fldD f.one) [.int .i64 f.of, .int .i64 f.fr, .int .i64 f.upto, .int .i64 (-1), .int .i64 (-1), .int .i64 f.df, .int .i64 f.of, sv] := by
 cases f with
 | mk kind fr upto nul tag df of sub =>
  simp only [Rep, Fld.sub] at h
  simp only [Fld.one, fldD, Rep, Reps, fldDs_map, Fld.fr, Fld.upto, Fld.df, Fld.of]
  exact ⟨[_], _, rfl, rfl, [_], _, rfl, rfl, [_], _, rfl, rfl, [_], _, rfl, rfl, [_], _, rfl, rfl, [_], _, rfl, rfl, [_], _, rfl, rfl, [_], _, rfl, h, rfl⟩
theorem fitVal_text {k : Int} (h : k = 8 ∨ k = 9) (null : Bool) (p : Tree → Tree) (t : Tree) : fitVal k null p t = .mk 0 (whole t.s) null [] [] := by simp only [fitVal, if_pos h]
section
set_option maxRecDepth 100000
theorem fitted_of (f : Fld) (hp : FitOK f.sub) (hone : f.kind = 11 → FittedOK f.one) (hof : f.of ≠ 11) : FittedOK f := by
 intro ver t B w cs ts hok hB hf ht
 obtain ⟨sv, rfl, hsub⟩ := fld_cells hf
 obtain ⟨sv2, lv, uv, rfl, hs, hl, hu⟩ := tree_cells ht
 obtain ⟨la, lc, rfl, _⟩ := hl.shape
 obtain ⟨sa, sc, rfl, _⟩ := hs.shape
 rw [fitF_eq]
 refine enter Tryz.func20 rfl Tryz.ntmps20 rfl ?_
 repeat (with_reducible first|apply wc_seq|apply wc_region)
 refine wl_box1 rfl rfl rfl (fun w1 hb1 hg1 hs1 => wl_box1 rfl rfl rfl (fun w2 hb2 hg2 hs2 => wl_alloc zv_tree rfl rfl (fun w3 hb3 hg3 hs3 => ?_)))
 have hbf3 : Box w3 w.heap.size [.int .i64 f.kind, .int .i64 f.fr, .int .i64 f.upto, .int .i64 f.nul, .int .i64 f.tag, .int .i64 f.df, .int .i64 f.of, sv] 50 := (hb1.kept hg2 (by simp)).kept hg3 (by simp)
 have hbt3 : Box w3 w1.heap.size [.int .i64 t.n, .slice sa (t.s.map byteD).length sc, .bool t.nul, .slice la (t.l.map treeD).length lc, uv] 26 := hb2.kept hg3 (by simp)
 have hw3 : Below w.heap.size w w3 := ((below_of hg1 (Nat.le_refl _) (by simp)).trans (below_of hg2 (by omega) (by simp))).trans (below_of hg3 (by omega) (by simp))
 have hB3 : B ≤ w3.heap.size := by omega
 repeat (with_reducible first|apply wc_seq|apply wc_region|apply wl_nil|apply qk_thn)
 refine wl_loadBAgg (cs := [.int .i64 f.kind, .int .i64 f.fr, .int .i64 f.upto, .int .i64 f.nul, .int .i64 f.tag, .int .i64 f.df, .int .i64 f.of, sv]) rfl ta_fld rfl hbf3 ?_
 repeat ((with_reducible apply ws);exact rfl;exact rfl)
 refine wl_loadBAgg (cs := [.int .i64 t.n, .slice sa (t.s.map byteD).length sc, .bool t.nul, .slice la (t.l.map treeD).length lc, uv]) rfl ta_tree rfl hbt3 ?_
 refine wl_call rfl (by kernel_rfl) rfl ((fn_null f ver t B w3 hB3 _ _ (hf.below (hw3.mono hB) (Nat.le_refl _)) (ht.below (hw3.mono hB) (Nat.le_refl _))).mono ?_)
 rintro e w4 ⟨v, rfl, hw34, rfl⟩
 refine ⟨_, rfl, ?_⟩
 have hs34 := hw34.size
 have hB4 : B ≤ w4.heap.size := by omega
 have hw4 : Below w.heap.size w w4 := hw3.trans (hw34.mono (by omega))
 have hbf4 := hbf3.below hw34 hbf3.lt
 have hbt4 := hbt3.below hw34 hbt3.lt
 have hbr4 := hb3.below hw34 hb3.lt
 have hsub4 := hsub.below (hw4.mono hB) (Nat.le_refl _)
 have hs4 := hs.below (hw4.mono hB) (Nat.le_refl _)
 have hl4 := hl.below (hw4.mono hB) (Nat.le_refl _)
 repeat first|(with_reducible first|apply wc_seq|apply wc_region|apply wl_nil|apply qk_thn)|((with_reducible apply ws);exact rfl;exact rfl)
 refine wl_loadB rfl to_int rfl hbf4 rfl ?_
 repeat first|(with_reducible first|apply wc_seq|apply wc_region|apply wl_nil|apply qk_thn|apply wc_block)|((with_reducible apply ws);exact rfl;exact rfl)
 by_cases h89 : f.kind = 8 ∨ f.kind = 9
 ·have h11 : f.kind ≠ 11 := by rcases h89 with h | h <;> omega
  rw [if_neg h11, fitVal_text h89]
  refine wc_cutT (α := Unit) (fun _ => [(19, .bool true), (7, .bool (f.null ver t)), (6, .pointer (some ⟨w2.heap.size, 0, none⟩)), (5, .pointer (some ⟨w1.heap.size, 0, none⟩))]) (fun _ w' => w' = w4) ?_ ?_
  ·by_cases h8 : f.kind = 8
   ·refine wc_yes rfl (by simpa using h8) ?_
    repeat (with_reducible apply wc_skip)
    refine qk_cut () ⟨by rw [h8]; rfl, rfl, rfl, rfl, trivial⟩ rfl
   ·have h9 : f.kind = 9 := by rcases h89 with h | h; exact absurd h h8; exact h
    refine wc_no rfl (by simpa using h8) ?_
    repeat first|(with_reducible first|apply wc_region|apply wl_nil)|((with_reducible apply ws);exact rfl;exact rfl)
    refine qk_cut () ⟨by rw [h9]; rfl, rfl, rfl, rfl, trivial⟩ rfl
  rintro _ w5 h5
  obtain rfl := h5.symm
  refine wc_yes rfl rfl ?_
  repeat first|(with_reducible first|apply wc_seq|apply wc_region)|((with_reducible apply ws);exact rfl;exact rfl)
  refine wl_loadB rfl to_bytes rfl hbt4 rfl ?_
  refine wl_call rfl (by kernel_rfl) rfl ((fn_whole _ _ _ _ hs4).mono ?_)
  rintro e w6 ⟨v, rfl, _, h6, hsq⟩
  obtain rfl := h6.symm
  refine ⟨v, rfl, ?_⟩
  rw [whole_map] at hsq
  obtain ⟨a3, c3, rfl, _⟩ := hsq.shape
  repeat ((with_reducible apply ws);exact rfl;exact rfl)
  refine wl_build rfl (cs := [.int .i64 0, .slice a3 ((whole t.s).map byteD).length c3, .bool (f.null ver t), .slice none 0 0, .slice none 0 0]) (by kernel_rfl) rfl ?_
  refine wl_storeBAgg (vs := [.int .i64 0, .slice a3 ((whole t.s).map byteD).length c3, .bool (f.null ver t), .slice none 0 0, .slice none 0 0]) rfl rfl rfl tz_tree rfl hbr4 rfl (fun w7 hbr7 hg7 hs7 => ?_)
  repeat (with_reducible first|apply wl_nil|apply qk_thn|apply wc_ret|apply qk_thn_ret|apply qk_in_ret)
  refine qk_retCell (cs := [.int .i64 0, .slice a3 ((whole t.s).map byteD).length c3, .bool (f.null ver t), .slice none 0 0, .slice none 0 0]) rfl rfl ta_tree hbr7 ⟨_, rfl, hw4.trans (below_of hg7 (by omega) (by intro q hq; simp at hq; omega)), _, rfl, ?_⟩
  refine rep_tree ?_ (rep_nil _ _) (rep_nil _ _)
  exact (hsq.below (below_of hg7 (by omega) (by intro q hq; simp at hq; omega)) (Nat.le_refl _)).up (fun r hr => ⟨.inl hr, by simp only [Lo] at hr; omega⟩) (fun _ _ => rfl)
 ·have h8 : f.kind ≠ 8 := fun h => h89 (.inl h)
  have h9 : f.kind ≠ 9 := fun h => h89 (.inr h)
  refine wc_cutT (α := Unit) (fun _ => [(19, .bool false), (18, .int .i64 f.kind), (7, .bool (f.null ver t)), (6, .pointer (some ⟨w2.heap.size, 0, none⟩)), (5, .pointer (some ⟨w1.heap.size, 0, none⟩)), (3, .pointer (some ⟨w.heap.size, 0, none⟩)), (1, .int .i64 ver)]) (fun _ w' => w' = w4) ?_ ?_
  ·refine wc_no rfl (by simpa using h8) ?_
   repeat first|(with_reducible first|apply wc_region|apply wl_nil)|((with_reducible apply ws);exact rfl;exact rfl)
   refine qk_cut () ⟨?_, rfl, rfl, rfl, rfl, rfl, rfl, trivial⟩ rfl
   show some (Value.bool (f.kind == 9)) = some (Value.bool false)
   rw [show (f.kind == 9) = false from by simpa using h9]
  rintro _ w5 h5
  obtain rfl := h5.symm
  refine wc_no rfl rfl ?_
  repeat first|(with_reducible first|apply wc_seq|apply wc_region|apply wl_nil|apply qk_thn)|((with_reducible apply ws);exact rfl;exact rfl)
  by_cases h10 : f.kind = 10
  ·have e10 : fitVal f.kind (f.null ver t) (fitP ver f.sub) t = (fitP ver f.sub t).withNull (f.null ver t) := by simp [fitVal, h10]
   rw [if_neg (by omega), e10]
   refine wc_yes rfl (by simpa using h10) ?_
   repeat first|(with_reducible first|apply wc_seq|apply wc_region)|((with_reducible apply ws);exact rfl;exact rfl)
   refine wl_loadB rfl to_flds rfl hbf4 rfl ?_
   repeat ((with_reducible apply ws);exact rfl;exact rfl)
   refine wl_loadBAgg (cs := [.int .i64 t.n, .slice sa (t.s.map byteD).length sc, .bool t.nul, .slice la (t.l.map treeD).length lc, uv]) rfl ta_tree rfl hbt4 ?_
   refine wl_call rfl (by kernel_rfl) rfl ((hp ver t B w4 _ _ hok hB4 hsub4 (ht.below (hw4.mono hB) (Nat.le_refl _))).mono ?_)
   rintro e w6 ⟨v, rfl, hw46, cs6, rfl, hrep⟩
   refine ⟨_, rfl, ?_⟩
   have hs46 := hw46.size
   obtain ⟨s6, l6, u6, rfl, hr1, hr2, hr3⟩ := tree_out hrep
   obtain ⟨a1, c1, rfl⟩ := sq_one hr1
   obtain ⟨a2, c2, rfl⟩ := sq_one hr2
   obtain ⟨a3, c3, rfl⟩ := sq_one hr3
   have hbr6 := hbr4.below hw46 hbr4.lt
   refine wl_alloc zv_tree rfl rfl (fun w7 hb7 hg7 hs7 => ?_)
   refine wl_storeBAgg rfl rfl rfl tz_tree rfl hb7 rfl (fun w8 hb8 hg8 hs8 => ?_)
   repeat first|(with_reducible first|apply wc_seq|apply wc_region|apply wl_nil|apply qk_thn)|((with_reducible apply ws);exact rfl;exact rfl)
   refine wl_storeB rfl rfl to_bool rfl hb8 rfl (fun w9 hb9 hg9 hs9 => ?_)
   repeat (with_reducible first|apply wc_seq|apply wc_region|apply wl_nil|apply qk_thn)
   refine wl_loadBAgg (cs := [.int .i64 (fitP ver f.sub t).n, .slice a1 ((fitP ver f.sub t).s.map byteD).length c1, .bool (f.null ver t), .slice a2 ((fitP ver f.sub t).l.map treeD).length c2, .slice a3 ((fitP ver f.sub t).u.map tagD).length c3]) rfl ta_tree rfl hb9 ?_
   have hbr9 := ((hbr6.kept hg7 (by simp)).kept hg8 (by simp; omega)).kept hg9 (by simp; omega)
   refine wl_storeBAgg rfl rfl rfl tz_tree rfl hbr9 rfl (fun w10 hb10 hg10 hs10 => ?_)
   repeat (with_reducible first|apply wl_nil|apply qk_thn|apply wc_ret|apply qk_thn_ret|apply qk_in_ret)
   have hw69 : Below w6.heap.size w6 w9 := ((below_of hg7 (Nat.le_refl _) (by simp)).trans (below_of hg8 (by omega) (by intro q hq; simp at hq; omega))).trans (below_of hg9 (by omega) (by intro q hq; simp at hq; omega))
   refine qk_retCell (cs := [.int .i64 (fitP ver f.sub t).n, .slice a1 ((fitP ver f.sub t).s.map byteD).length c1, .bool (f.null ver t), .slice a2 ((fitP ver f.sub t).l.map treeD).length c2, .slice a3 ((fitP ver f.sub t).u.map tagD).length c3]) rfl rfl ta_tree hb10 ⟨_, rfl, ((hw4.trans (hw46.mono (by omega))).trans (hw69.mono (by omega))).trans (below_of hg10 (by omega) (by intro q hq; simp at hq; omega)), _, rfl, ?_⟩
   have hblk : ∀ r, In B w4.heap.size w6 r → w10.heap[r]? = w6.heap[r]? := fun r hr => by
    have hne : r ≠ w2.heap.size := by rcases hr.1 with h | h <;> omega
    rw [hg10.block r (by have := hr.2; omega) (by simp; omega), hw69.block r hr.2]
   have hin : ∀ r, In B w4.heap.size w6 r → In B w.heap.size w10 r := In.up (by omega) (by omega)
   have e1 : (fitP ver f.sub t).withNull (f.null ver t) = .mk (fitP ver f.sub t).n (fitP ver f.sub t).s (f.null ver t) (fitP ver f.sub t).l (fitP ver f.sub t).u := by cases fitP ver f.sub t; rfl
   rw [e1]
   exact rep_tree (hr1.up hin hblk) (hr2.up hin hblk) (hr3.up hin hblk)
  ·refine wc_no rfl (by simpa using h10) ?_
   repeat first|(with_reducible first|apply wc_seq|apply wc_region|apply wl_nil|apply qk_thn)|((with_reducible apply ws);exact rfl;exact rfl)
   by_cases h11 : f.kind = 11
   ·refine wc_yes rfl (by simpa using h11) ?_
    rw [if_pos h11]
    have hone' := hone h11
    generalize hq : (f.null ver t || (decide (0 ≤ f.tag) && t.l.isEmpty)) = q
    refine wc_cut (α := Unit) (fun _ => [(9, .pointer (some ⟨w4.heap.size, 0, none⟩)), (7, .bool (f.null ver t)), (6, .pointer (some ⟨w2.heap.size, 0, none⟩)), (5, .pointer (some ⟨w1.heap.size, 0, none⟩)), (3, .pointer (some ⟨w.heap.size, 0, none⟩)), (1, .int .i64 ver)]) (fun _ w' => Below w4.heap.size w4 w' ∧ w'.heap.size = w4.heap.size + 1 ∧ Box w' w4.heap.size [.int .i64 0, .slice none 0 0, .bool q, .slice none 0 0, .slice none 0 0] 26) ?_ ?_
    ·refine wc_region ?_
     cases hn : f.null ver t
     ·rw [hn, Bool.false_or] at hq
      repeat first|((with_reducible apply ws);exact rfl;exact rfl)|((with_reducible apply wl_yes);exact rfl;exact rfl;exact rfl)
      refine wl_loadB rfl to_int rfl hbf4 rfl ?_
      repeat first|((with_reducible apply ws);exact rfl;exact rfl)|((with_reducible apply wl_yes);exact rfl;exact rfl;exact rfl)
      by_cases htg : 0 ≤ f.tag
      ·have e1 : decide (0 ≤ f.tag) = true := by simpa using htg
       rw [e1]
       rw [e1, Bool.true_and] at hq
       repeat first|((with_reducible apply ws);exact rfl;exact rfl)|((with_reducible apply wl_yes);exact rfl;exact rfl;exact rfl)
       refine wl_loadB rfl to_trees rfl hbt4 rfl ?_
       repeat first|((with_reducible apply ws);exact rfl;exact rfl)|((with_reducible apply wl_yes);exact rfl;exact rfl;exact rfl)
       have e2 : (((t.l.map treeD).length : Int) == 0) = q := by
        rw [← hq]; cases t.l <;> simp
        omega
       rw [e2]
       refine wl_build rfl (cs := [.int .i64 0, .slice none 0 0, .bool q, .slice none 0 0, .slice none 0 0]) (by kernel_rfl) rfl ?_
       refine wl_alloc zv_tree rfl rfl (fun w6 hb6 hg6 hs6 => ?_)
       refine wl_storeBAgg (vs := [.int .i64 0, .slice none 0 0, .bool q, .slice none 0 0, .slice none 0 0]) rfl rfl rfl tz_tree rfl hb6 rfl (fun w7 hb7 hg7 hs7 => ?_)
       exact wl_nil (qk_cut () ⟨rfl, rfl, rfl, rfl, rfl, rfl, trivial⟩ ⟨(below_of hg6 (Nat.le_refl _) (by simp)).trans (below_of hg7 (by omega) (by intro q hq; simp at hq; omega)), by omega, hb7⟩)
      ·have e1 : decide (0 ≤ f.tag) = false := by simpa using htg
       rw [e1]
       rw [e1, Bool.false_and] at hq
       subst hq
       repeat first|((with_reducible apply ws);exact rfl;exact rfl)|((with_reducible apply wl_yes);exact rfl;exact rfl;exact rfl)|((with_reducible apply wl_no);exact rfl;exact rfl;exact rfl;exact rfl)
       refine wl_build rfl (cs := [.int .i64 0, .slice none 0 0, .bool false, .slice none 0 0, .slice none 0 0]) (by kernel_rfl) rfl ?_
       refine wl_alloc zv_tree rfl rfl (fun w6 hb6 hg6 hs6 => ?_)
       refine wl_storeBAgg (vs := [.int .i64 0, .slice none 0 0, .bool false, .slice none 0 0, .slice none 0 0]) rfl rfl rfl tz_tree rfl hb6 rfl (fun w7 hb7 hg7 hs7 => ?_)
       exact wl_nil (qk_cut () ⟨rfl, rfl, rfl, rfl, rfl, rfl, trivial⟩ ⟨(below_of hg6 (Nat.le_refl _) (by simp)).trans (below_of hg7 (by omega) (by intro q hq; simp at hq; omega)), by omega, hb7⟩)
     ·rw [hn, Bool.true_or] at hq
      subst hq
      repeat first|((with_reducible apply ws);exact rfl;exact rfl)|((with_reducible apply wl_no);exact rfl;exact rfl;exact rfl;exact rfl)|((with_reducible apply wl_noU);exact rfl;exact rfl;exact rfl)
      refine wl_build rfl (cs := [.int .i64 0, .slice none 0 0, .bool true, .slice none 0 0, .slice none 0 0]) (by kernel_rfl) rfl ?_
      refine wl_alloc zv_tree rfl rfl (fun w6 hb6 hg6 hs6 => ?_)
      refine wl_storeBAgg (vs := [.int .i64 0, .slice none 0 0, .bool true, .slice none 0 0, .slice none 0 0]) rfl rfl rfl tz_tree rfl hb6 rfl (fun w7 hb7 hg7 hs7 => ?_)
      exact wl_nil (qk_cut () ⟨rfl, rfl, rfl, rfl, rfl, rfl, trivial⟩ ⟨(below_of hg6 (Nat.le_refl _) (by simp)).trans (below_of hg7 (by omega) (by intro q hq; simp at hq; omega)), by omega, hb7⟩)
    rintro _ w5 ⟨hw45, hs45, hbq5⟩
    have hbf5 := hbf4.below hw45 hbf4.lt
    have hbt5 := hbt4.below hw45 hbt4.lt
    have hbr5 := hbr4.below hw45 hbr4.lt
    have hw5 : Below w.heap.size w w5 := hw4.trans (hw45.mono (by omega))
    obtain ⟨hfone, _⟩ := fld_one hf
    repeat (with_reducible first|apply wc_seq|apply wc_region)
    refine wl_loadBAgg (cs := [.int .i64 f.kind, .int .i64 f.fr, .int .i64 f.upto, .int .i64 f.nul, .int .i64 f.tag, .int .i64 f.df, .int .i64 f.of, sv]) rfl ta_fld rfl hbf5 ?_
    refine wl_alloc zv_fld rfl rfl (fun w6 hb6 hg6 hs6 => ?_)
    refine wl_storeBAgg (vs := [.int .i64 f.kind, .int .i64 f.fr, .int .i64 f.upto, .int .i64 f.nul, .int .i64 f.tag, .int .i64 f.df, .int .i64 f.of, sv]) rfl rfl rfl tz_fld hfone hb6 rfl (fun w7 hb7 hg7 hs7 => ?_)
    repeat first|(with_reducible first|apply wc_seq|apply wc_region|apply wl_nil|apply qk_thn)|((with_reducible apply ws);exact rfl;exact rfl)
    refine wl_loadB rfl to_int rfl ((hbf5.kept hg6 (by simp)).kept hg7 (by simp; omega)) rfl ?_
    repeat ((with_reducible apply ws);exact rfl;exact rfl)
    refine wl_storeB rfl rfl to_int rfl hb7 rfl (fun w8 hb8 hg8 hs8 => ?_)
    repeat ((with_reducible apply ws);exact rfl;exact rfl)
    refine wl_storeB rfl rfl to_int rfl hb8 rfl (fun w9 hb9 hg9 hs9 => ?_)
    repeat ((with_reducible apply ws);exact rfl;exact rfl)
    refine wl_storeB rfl rfl to_int rfl hb9 rfl (fun w10 hb10 hg10 hs10 => ?_)
    have hb10' : Box w10 w5.heap.size [.int .i64 f.of, .int .i64 f.fr, .int .i64 f.upto, .int .i64 (-1), .int .i64 (-1), .int .i64 f.df, .int .i64 f.of, sv] 50 := hb10
    have hw510 : Below w5.heap.size w5 w10 := ((((below_of hg6 (Nat.le_refl _) (by simp)).trans (below_of hg7 (by omega) (by intro q hq; simp at hq; omega))).trans (below_of hg8 (by omega) (by intro q hq; simp at hq; omega))).trans (below_of hg9 (by omega) (by intro q hq; simp at hq; omega))).trans (below_of hg10 (by omega) (by intro q hq; simp at hq; omega))
    have hw10 : Below w.heap.size w w10 := hw5.trans (hw510.mono (by omega))
    have hbt10 := hbt5.below hw510 hbt5.lt
    have hbr10 := hbr5.below hw510 hbr5.lt
    have hbq10 := hbq5.below hw510 hbq5.lt
    have hsz10 : w10.heap.size = w5.heap.size + 1 := by omega
    repeat first|(with_reducible first|apply wc_seq|apply wc_region|apply wl_nil|apply qk_thn)|((with_reducible apply ws);exact rfl;exact rfl)
    refine wl_loadB rfl to_trees rfl hbt10 rfl ?_
    refine wl_call rfl (by kernel_rfl) rfl ((fn_things _ _ _ _ (hl.below (hw10.mono hB) (Nat.le_refl _))).mono ?_)
    rintro e w11 ⟨v, rfl, _, h11', hsq⟩
    obtain rfl := h11'.symm
    refine ⟨v, rfl, ?_⟩
    have hsq' : Sq B w10 v ((things t.l).map treeD) := by simpa [things] using hsq
    have hxok : ∀ x ∈ things t.l, x.ok := fun x hx => hok.l x (List.mem_of_mem_take hx)
    generalize hxs : things t.l = xs at hsq' hxok ⊢
    have hxn : xs.length ≤ 32767 := by subst hxs; simp only [things, Most, List.length_take]; omega
    obtain ⟨xa, xc, rfl, _⟩ := hsq'.shape
    rw [List.length_map] at hsq' ⊢
    repeat first|(with_reducible first|apply wl_nil|apply qk_thn|apply wc_block)|((with_reducible apply ws);exact rfl;exact rfl)
    refine wc_loop (α := PtS) (fun s => [(62, .int .i64 (s.i : Int)), (61, .int .i64 (xs.length : Int)), (60, .slice xa xs.length xc), (10, .pointer (some ⟨w5.heap.size, 0, none⟩)), (9, .pointer (some ⟨w4.heap.size, 0, none⟩)), (6, .pointer (some ⟨w2.heap.size, 0, none⟩)), (1, .int .i64 ver)])
     (fun s w' => s.i ≤ xs.length ∧ Below w.heap.size w w' ∧ w10.heap.size ≤ w'.heap.size ∧ Box w' w2.heap.size [.int .i64 0, .slice none 0 0, .bool false, .slice none 0 0, .slice none 0 0] 26 ∧ Box w' w5.heap.size [.int .i64 f.of, .int .i64 f.fr, .int .i64 f.upto, .int .i64 (-1), .int .i64 (-1), .int .i64 f.df, .int .i64 f.of, sv] 50 ∧ Box w' w4.heap.size [.int .i64 0, .slice none 0 0, .bool q, s.d, .slice none 0 0] 26 ∧ RowD B w10.heap.size w4.heap.size 26 5 w' s.d ((xs.take s.i).map fun x => treeD (fitVal f.of false (fitP ver f.sub) x))) (fun s => xs.length - s.i) ⟨0, .slice none 0 0, []⟩ ⟨rfl, rfl, rfl, rfl, rfl, rfl, rfl, trivial⟩ ⟨Nat.zero_le _, hw10, Nat.le_refl _, hbr10, hb10', hbq10, RowD.nil _ _ _ _ _ _⟩ ?_
    rintro ⟨i, d, _⟩ w12 ⟨hi, hw12, hs1012, hbr12, hbo12, hbq12, hrd12⟩
    simp only [] at hi hbq12 hrd12
    change WC _ _ _ _ [(62, .int .i64 (i : Int)), (61, .int .i64 (xs.length : Int)), (60, .slice xa xs.length xc), (10, .pointer (some ⟨w5.heap.size, 0, none⟩)), (9, .pointer (some ⟨w4.heap.size, 0, none⟩)), (6, .pointer (some ⟨w2.heap.size, 0, none⟩)), (1, .int .i64 ver)] _
    repeat first|(with_reducible first|apply wc_seq|apply wc_region|apply wl_nil|apply qk_thn)|((with_reducible apply ws);exact rfl;exact rfl)
    by_cases hlt : i < xs.length
    ·refine wc_yes rfl (by simpa using hlt) ?_
     obtain ⟨b, off, c', cs, hv, hbB, hcs, hlen, hr⟩ := (hsq'.below (Below.between (hw10.mono hB) (hw12.mono hB) hs1012) (Nat.le_refl _)).get (sz := 5) (i := i) (by intro d hd; obtain ⟨x, _, rfl⟩ := List.mem_map.1 hd; exact treeD_width x) (by simpa using hlt)
     simp only [Value.slice.injEq, List.length_map] at hv
     obtain ⟨rfl, _, rfl⟩ := hv
     simp only [List.getElem_map] at hr
     obtain ⟨hcone, _⟩ := treeG_one hr
     repeat (with_reducible first|apply wc_seq|apply wc_region|apply qk_thn|apply wc_block|apply wc_skip)
     refine wl_indexAddr rfl rfl es_trees rfl hlt ?_
     refine wl_loadAgg rfl (by rw [hlen]; exact ta_tree) rfl (fun j v e => hcs.cell e) ?_
     refine wl_alloc zv_tree rfl rfl (fun w13 hb13 hg13 hs13 => ?_)
     refine wl_storeBAgg rfl rfl rfl (by rw [hlen]; exact tz_tree) hcone hb13 (by rw [hlen]; rfl) (fun w14 hb14 hg14 hs14 => ?_)
     have hw1214 : Below w12.heap.size w12 w14 := (below_of hg13 (Nat.le_refl _) (by simp)).trans (below_of hg14 (by omega) (by intro k hk; simp at hk; omega))
     have hw14 : Below w.heap.size w w14 := hw12.trans (hw1214.mono (by omega))
     have hrd14 := hrd12.below hw1214
     have hbr14 := hbr12.below hw1214 hbr12.lt
     have hbo14 := hbo12.below hw1214 hbo12.lt
     have hbq14 := hbq12.below hw1214 hbq12.lt
     have hdl : ∀ g, d.ownBlock = some g → w10.heap.size ≤ g ∧ g < w12.heap.size := hrd12.low
     repeat (with_reducible first|apply wl_nil|apply qk_thn)
     refine wc_parS [(0, .pointer (some ⟨w4.heap.size, 0 + 3, none⟩)), (1, d), (2, .agg ([.int .i64 f.of, .int .i64 f.fr, .int .i64 f.upto, .int .i64 (-1), .int .i64 (-1), .int .i64 f.df, .int .i64 f.of, sv] : List Value).toArray), (3, .int .i64 ver), (4, .agg cs.toArray), (8, .pointer (some ⟨w4.heap.size, 0 + 3, none⟩))] [9, 7, 6, 5]
      (fun vals w' => Below w.heap.size w w' ∧ w14.heap.size ≤ w'.heap.size ∧ Box w' w2.heap.size [.int .i64 0, .slice none 0 0, .bool false, .slice none 0 0, .slice none 0 0] 26 ∧ Box w' w5.heap.size [.int .i64 f.of, .int .i64 f.fr, .int .i64 f.upto, .int .i64 (-1), .int .i64 (-1), .int .i64 f.df, .int .i64 f.of, sv] 50 ∧ Box w' w12.heap.size cs 26 ∧ match vals with
       | [] => Below w14.heap.size w14 w'
       | [v] => Below w14.heap.size w14 w' ∧ ∃ xs' : List Value, v = .agg xs'.toArray ∧ Rep (In B w14.heap.size w') w' (treeD (fitVal f.of false (fitP ver f.sub) xs[i])) xs'
       | [v, _] => Below w14.heap.size w14 w' ∧ ∃ (b8 : Nat) (xs' : List Value), v = .slice (some ⟨b8, 0, none⟩) 1 1 ∧ Box w' b8 xs' 26 ∧ xs'.length = 5 ∧ (xs'.all fun v => v.oneCell') = true ∧ Rep (In B w14.heap.size w') w' (treeD (fitVal f.of false (fitP ver f.sub) xs[i])) xs'
       | [v, _, _] => Box w' w4.heap.size [.int .i64 0, .slice none 0 0, .bool q, d, .slice none 0 0] 26 ∧ RowD B w10.heap.size w4.heap.size 26 5 w' v ((xs.take (i + 1)).map fun x => treeD (fitVal f.of false (fitP ver f.sub) x))
       | _ :: v :: _ => Box w' w4.heap.size [.int .i64 0, .slice none 0 0, .bool q, v, .slice none 0 0] 26 ∧ RowD B w10.heap.size w4.heap.size 26 5 w' v ((xs.take (i + 1)).map fun x => treeD (fitVal f.of false (fitP ver f.sub) x)))
      mixed rfl rfl rfl rfl rfl (by show ([0,1,2,3,4,8] : List Nat).Nodup; decide) rfl rfl (by decide) rfl rfl rfl rfl ⟨hw14.drew, Nat.le_refl _, hbr14, hbo14, hb14, (Below.refl _ w14).drew⟩ ?_ ⟨?_, ?_, ?_, ?_, trivial⟩ ?_
     ·intro p hp vals w' hC hnp a k
      obtain ⟨hC1, hC2, hC3, hC4, hC5, hC6⟩ := hC
      simp only [List.mem_cons, List.not_mem_nil, or_false] at hp
      rcases hp with rfl | rfl | rfl | rfl | rfl | rfl
      ·exact gv rfl rfl (rn_fieldAddr k rfl fo_tree3)
      ·have hbx : Box w' w4.heap.size [.int .i64 0, .slice none 0 0, .bool q, d, .slice none 0 0] 26 := by
        match vals, hC6, hnp with
        | [], h, _ => exact hbq14.below h hbq14.lt
        | [_], h, _ => exact hbq14.below h.1 hbq14.lt
        | [_, _], h, _ => exact hbq14.below h.1 hbq14.lt
        | [_, _, _], h, _ => exact h.1
        | _ :: _ :: _ :: _ :: r, _, hnp =>
         have := hnp 9 (by rw [show ([9, 7, 6, 5] : List Nat).length - (_ :: _ :: _ :: _ :: r).length = 0 from by simp only [List.length_cons, List.length_nil]; omega]; simp)
         exact absurd (show true = false from this) (by simp)
       exact gv rfl rfl (rn_load k rfl to_trees (hbx.cell0 (i := 3) rfl))
      ·exact gv rfl rfl (rn_loadBAgg k rfl ta_fld hC4)
      ·exact gv rfl rfl (rn_move k rfl)
      ·exact gv rfl rfl (rn_loadBAgg k rfl (by rw [hlen]; exact ta_tree) hC5)
      ·exact gv rfl rfl (rn_fieldAddr k rfl fo_tree3)
     ·rintro vals w' hvl ⟨hC1, hC2, hC3, hC4, hC5, hC6⟩ a k
      match vals, hvl with
      | [v9, v8, v7], _ =>
       obtain ⟨hbx, hrd⟩ := hC6
       obtain ⟨a9, c9, rfl⟩ := hrd.shape
       refine ⟨_, rfl, does_storeB k rfl rfl to_trees rfl hbx rfl (fun w'' hbx'' hg'' hs'' => ⟨hC1.trans (below_of hg'' (by omega) (by intro q hq; simp at hq; omega)), by omega, hC3.kept hg'' (by simp; omega), hC4.kept hg'' (by simp; omega), hC5.kept hg'' (by simp; omega), hbx'', hrd.stored hg''⟩)⟩
     ·rintro vals w' hvl ⟨hC1, hC2, hC3, hC4, hC5, hC6⟩ a k
      match vals, hvl with
      | [v8, v7], _ =>
       obtain ⟨hb7', b8, xs', rfl, hb8, hl5, hone'', hrep⟩ := hC6
       have hrdw := hrd14.below hb7'
       obtain ⟨xs0, hrow0, hreps0⟩ := hrdw.row
       refine ⟨_, rfl, does_app1 k rt_trees rfl rfl hb8 hl5 hone'' hrow0 (by omega) (by simp only [List.length_map, List.length_take, many]; omega) (fun d' w'' hrow'' hg'' => ?_)⟩
       have hs'' := hg''.grown.size
       have hne : ∀ q, q < w10.heap.size ∨ w12.heap.size ≤ q → some q ≠ d.ownBlock := fun q hq e => by have := hdl q e.symm; omega
       refine ⟨hC1.trans (hg''.below (by omega) (fun g hg => by have := hdl g hg; omega)), by omega, hC3.kept hg''.grown (hne _ (by omega)), hC4.kept hg''.grown (hne _ (by omega)), hC5.kept hg''.grown (hne _ (by omega)), (hbq14.below hb7' hbq14.lt).kept hg''.grown (hne _ (by omega)), ?_⟩
       have hsn := hrdw.snoc (by omega) (by omega) hreps0 (hrep.off (by omega) ⟨by omega, by omega⟩ (fun g hg => by have := hdl g hg; omega)) hrow'' hg''
       rw [List.take_succ_eq_append_getElem hlt, List.map_append]
       exact hsn
     ·rintro vals w' hvl ⟨hC1, hC2, hC3, hC4, hC5, hC6⟩ a k
      match vals, hvl with
      | [v7], _ =>
       obtain ⟨hb7', xs', rfl, hrep⟩ := hC6
       obtain ⟨hone'', hl5⟩ := treeG_one hrep
       have hga := grown_alloc w' (.cells xs'.toArray 26)
       refine ⟨_, rfl, does_slice1 k rt_trees rfl rfl hl5 rfl ⟨hC1.trans (below_of hga (by omega) (by simp)), by simp; omega, hC3.kept hga (by simp), hC4.kept hga (by simp), hC5.kept hga (by simp), hb7'.trans (below_of hga (by omega) (by simp)), _, xs', rfl, box_alloc _ _ _, hl5, hone'', hrep.up (In.up (Nat.le_refl _) (by simp)) (fun r hr => hga.block r hr.2 (by simp))⟩⟩
     ·rintro vals w' hvl ⟨hC1, hC2, hC3, hC4, hC5, hC6⟩ a k
      match vals, hvl with
      | [], _ =>
       simp only [] at hC6
       refine ⟨_, rfl, does_call k rfl (by kernel_rfl) ((hone' ver xs[i] B w' [.int .i64 f.of, .int .i64 f.fr, .int .i64 f.upto, .int .i64 (-1), .int .i64 (-1), .int .i64 f.df, .int .i64 f.of, sv] _ (hxok _ (List.getElem_mem hlt)) (by omega) (one_rep (hsub.below (hC1.mono hB) (Nat.le_refl _))) (Rep.below hr ((hw1214.trans (hC6.mono (by omega))).mono (by omega)) (Nat.le_refl _))).mono ?_)⟩
       rintro e w'' ⟨v, rfl, hb'', cs'', rfl, hrep⟩
       rw [one_fit f ver xs[i] hof] at hrep
       exact ⟨_, rfl, hC1.trans (hb''.mono (by omega)), by have := hb''.size; omega, hC3.below hb'' hC3.lt, hC4.below hb'' hC4.lt, hC5.below hb'' hC5.lt, hC6.trans (hb''.mono (by omega)), cs'', rfl, hrep.up (In.up (by omega) (Nat.le_refl _)) (fun _ _ => rfl)⟩
     ·rintro vals w' hvl ⟨hC1, hC2, hC3, hC4, hC5, hC6⟩
      match vals, hvl with
      | [v11, v9, v8, v7], _ =>
       refine qk_thn ?_
       repeat (with_reducible apply wc_region)
       refine wl_add rfl rfl rfl (r := ((i + 1 : Nat) : Int)) (by rw [IntKind.wrap_i64]; omega) ?_
       repeat first|(with_reducible apply wl_nil)|((with_reducible apply ws);exact rfl;exact rfl)
       exact qk_round ⟨i + 1, v9, []⟩ ⟨rfl, rfl, rfl, rfl, rfl, rfl, rfl, trivial⟩ ⟨by simp only []; omega, hC1, by omega, hC3, hC4, hC6.1, hC6.2⟩ (by simp only []; omega)
    ·refine wc_no rfl (by simpa using hlt) ?_
     repeat (with_reducible first|apply wc_seq|apply wc_region|apply qk_thn|apply wc_exit|apply qk_thn_exit|apply qk_in_exit|apply qk_round_exit)
     rw [List.take_of_length_le (by omega)] at hrd12
     have hdone := hrd12.sqb
     obtain ⟨da, dc, rfl⟩ := hrd12.shape
     refine wl_loadBAgg (cs := [.int .i64 0, .slice none 0 0, .bool q, .slice da (xs.map fun x => treeD (fitVal f.of false (fitP ver f.sub) x)).length dc, .slice none 0 0]) rfl ta_tree rfl hbq12 ?_
     refine wl_storeBAgg (vs := [.int .i64 0, .slice none 0 0, .bool q, .slice da (xs.map fun x => treeD (fitVal f.of false (fitP ver f.sub) x)).length dc, .slice none 0 0]) rfl rfl rfl tz_tree rfl hbr12 rfl (fun w13 hb13 hg13 hs13 => ?_)
     repeat (with_reducible first|apply wl_nil|apply qk_thn|apply wc_ret|apply qk_thn_ret|apply qk_in_ret)
     refine qk_retCell (cs := [.int .i64 0, .slice none 0 0, .bool q, .slice da (xs.map fun x => treeD (fitVal f.of false (fitP ver f.sub) x)).length dc, .slice none 0 0]) rfl rfl ta_tree hb13 ⟨_, rfl, hw12.trans (below_of hg13 (by omega) (by intro q hq; simp at hq; omega)), _, rfl, ?_⟩
     refine rep_tree (rep_nil _ _) ?_ (rep_nil _ _)
     rw [List.map_map]
     refine hdone.up (fun r hr => In.up (by omega) (by omega) r hr.1) (fun r hr => ?_)
     have h1 : r ≠ w2.heap.size := by
      rcases hr.1.1 with h | h <;> omega
     rw [hg13.block r hr.1.2 (by simp; omega)]
   ·refine wc_no rfl (by simpa using h11) ?_
    have ed : fitVal f.kind (f.null ver t) (fitP ver f.sub) t = .mk t.n t.s false [] [] := by simp [fitVal, h8, h9, h10]
    rw [if_neg h11, ed]
    repeat first|(with_reducible first|apply wc_seq|apply wc_region|apply qk_thn|apply wc_skip|apply qk_in)|((with_reducible apply ws);exact rfl;exact rfl)
    refine wl_loadB rfl to_i64 rfl hbt4 rfl ?_
    repeat ((with_reducible apply ws);exact rfl;exact rfl)
    refine wl_loadB rfl to_bytes rfl hbt4 rfl ?_
    refine wl_build rfl (cs := [.int .i64 t.n, .slice sa (t.s.map byteD).length sc, .bool false, .slice none 0 0, .slice none 0 0]) (by kernel_rfl) rfl ?_
    refine wl_storeBAgg (vs := [.int .i64 t.n, .slice sa (t.s.map byteD).length sc, .bool false, .slice none 0 0, .slice none 0 0]) rfl rfl rfl tz_tree rfl hbr4 rfl (fun w7 hbr7 hg7 hs7 => ?_)
    repeat (with_reducible first|apply wl_nil|apply qk_thn|apply wc_ret)
    refine qk_retCell (cs := [.int .i64 t.n, .slice sa (t.s.map byteD).length sc, .bool false, .slice none 0 0, .slice none 0 0]) rfl rfl ta_tree hbr7 ⟨_, rfl, hw4.trans (below_of hg7 (by omega) (by intro q hq; simp at hq; omega)), _, rfl, ?_⟩
    refine rep_tree ?_ (rep_nil _ _) (rep_nil _ _)
    exact (hs4.below (below_of hg7 (by omega) (by intro q hq; simp at hq; omega)) (Nat.le_refl _)).up (fun r hr => ⟨.inl hr, by simp only [Lo] at hr; omega⟩) (fun _ _ => rfl)
end
mutual
theorem fitted_ok : ∀ f : Fld, f.okb = true → FittedOK f
 | .mk kind fr upto nul tag df of sub, h => by
  have hs : fsok sub = true := fsok.sub h
  have hof : (Fld.mk kind fr upto nul tag df of sub).of ≠ 11 := Fld.okb_of h
  have ih := fitteds_ok sub (by simp only [fsok, Bool.and_eq_true] at hs; exact hs.1)
  have hp := fit_of sub hs ih
  refine fitted_of _ hp (fun _ => fitted_of _ hp (fun h11 => absurd h11 hof) hof) hof
theorem fitteds_ok : ∀ fs : List Fld, Fld.oksb fs = true → ∀ f ∈ fs, FittedOK f
 | [], _, f, hf => by cases hf
 | g :: fs, h, f, hf => by
  simp only [Fld.oksb, Bool.and_eq_true] at h
  have hg := fitted_ok g h.1
  have hr := fitteds_ok fs h.2
  rcases List.mem_cons.1 hf with h0 | h1
  ·rw [h0]; exact hg
  ·exact hr f h1
end
theorem fit_ok (fs : List Fld) (h : fsok fs = true) : FitOK fs := by
 have ih := fitteds_ok fs (by simp only [fsok, Bool.and_eq_true] at h; exact h.1)
 exact fit_of fs h ih
end Go.Proofs.YtgpnpfiafcakfaaGreat

namespace Go.Proofs.YtgpnpfiafcakfaaGreat.BShareAcknowledgeRequest
open Go Go.RowKit
def sShareAcknowledgeRequestTopicPartitionAcknowledgementBatch : List Fld := [.mk 4 0 (-1) (-1) (-1) 0 0 [], .mk 4 0 (-1) (-1) (-1) 0 0 [], .mk 11 0 (-1) (-1) (-1) 0 1 []]
def sShareAcknowledgeRequestTopicPartition : List Fld := [.mk 3 0 (-1) (-1) (-1) 0 0 [], .mk 11 0 (-1) (-1) (-1) 0 10 sShareAcknowledgeRequestTopicPartitionAcknowledgementBatch]
def sShareAcknowledgeRequestTopic : List Fld := [.mk 7 0 (-1) (-1) (-1) 0 0 [], .mk 11 0 (-1) (-1) (-1) 0 10 sShareAcknowledgeRequestTopicPartition]
def m : Msg := ⟨[.mk 8 0 (-1) 0 (-1) 0 0 [], .mk 8 0 (-1) 0 (-1) 0 0 [], .mk 3 0 (-1) (-1) (-1) 0 0 [], .mk 0 2 (-1) (-1) (-1) 0 0 [], .mk 11 0 (-1) (-1) (-1) 0 10 sShareAcknowledgeRequestTopic], 0⟩
theorem m_ok : fsok m.fields = true := by decide
def most : Nat := 2
def tbl : Tbl := ⟨[(31, 0, 0), (31, 1, 1), (58, 0, 0), (39, 0, 0), (39, 1, 1), (39, 2, 2), (39, 3, 3), (39, 4, 4)], [22]⟩
theorem tbl_ok : tbl.ok Tryz.prog = true := by kernel_rfl
theorem ws {ops : Array Oper} {Q : Exit → Act → World → Prop} {N : Nat} {rest : List Oper} {L : Sl} {w : World} {d : Nat} {ty : TypeId} {pos : String} {aft : Array Edge} {o : Op} {v : Value}
  (hs : stepOp tbl L o = some v) (hd : Nat.blt d N = true) (h : WL rest Tryz.prog ops Q N ((d, v) :: L) w) : WL (⟨some d, o, ty, pos, aft, none⟩ :: rest) Tryz.prog ops Q N L w := wl_step tbl tbl_ok hs hd h
theorem zv_msg (w : World) : (zeroValue 31).run Tryz.prog w = .ok (.agg #[.slice none 0 0, .int .i64 0]) w := by kernel_rfl
theorem rt_flds : rowTy Tryz.prog 29 50 8 = true := by kernel_rfl
theorem to_i16 : tyOne Tryz.prog 45 = true := by kernel_rfl
section
set_option maxRecDepth 100000
set_option maxHeartbeats 4000000
theorem fn_tsShareAcknowledgeRequestTopicPartitionAcknowledgementBatch (w : World) : Fn 51 [] w fun v w' => Rep (Frs w.heap.size w'.heap.size) w' (.sq (sShareAcknowledgeRequestTopicPartitionAcknowledgementBatch.map fldD)) [v] := by
 refine enter Tryz.func51 rfl Tryz.ntmps51 rfl ?_
 repeat first|(with_reducible first|apply wc_seq|apply wc_region|apply wl_nil|apply qk_thn)|((with_reducible apply ws);exact rfl;exact rfl)
 have hW : Below w.heap.size w w := ⟨rfl, rfl, rfl, Nat.le_refl _, fun _ _ => rfl⟩
 refine wl_build rfl (cs := [.int .i64 4, .int .i64 0, .int .i64 (-1), .int .i64 (-1), .int .i64 (-1), .int .i64 0, .int .i64 0, .slice none 0 0]) (by kernel_rfl) rfl ?_
 refine wl_build rfl (cs := [.int .i64 4, .int .i64 0, .int .i64 (-1), .int .i64 (-1), .int .i64 (-1), .int .i64 0, .int .i64 0, .slice none 0 0]) (by kernel_rfl) rfl ?_
 refine wl_build rfl (cs := [.int .i64 11, .int .i64 0, .int .i64 (-1), .int .i64 (-1), .int .i64 (-1), .int .i64 0, .int .i64 1, .slice none 0 0]) (by kernel_rfl) rfl ?_
 refine wl_sliceN [[.int .i64 4, .int .i64 0, .int .i64 (-1), .int .i64 (-1), .int .i64 (-1), .int .i64 0, .int .i64 0, .slice none 0 0], [.int .i64 4, .int .i64 0, .int .i64 (-1), .int .i64 (-1), .int .i64 (-1), .int .i64 0, .int .i64 0, .slice none 0 0], [.int .i64 11, .int .i64 0, .int .i64 (-1), .int .i64 (-1), .int .i64 (-1), .int .i64 0, .int .i64 1, .slice none 0 0]] rt_flds rfl rfl (by simp) rfl rfl rfl (fun w2 hbS hgS hsS => ?_)
 have hs_2 := below_of hgS (Nat.le_refl _) (by simp)
 have hz := hW.size
 replace hW := hW.trans (hs_2.mono hW.size)
 have hfin : Rep (Frs w.heap.size w2.heap.size) w2 (.sq (sShareAcknowledgeRequestTopicPartitionAcknowledgementBatch.map fldD)) [.slice (some ⟨w.heap.size, 0, none⟩) 3 3] := by
  simp only [Rep]
  exact ⟨_, 3, rfl, Nat.le_refl _, .inr ⟨w.heap.size, 0, _, rfl, ⟨hz, hbS.lt⟩, hbS.cells, (reps_fcons (rep_fld0 _ _ (.mk 4 0 (-1) (-1) (-1) 0 0 []) rfl) (reps_fcons (rep_fld0 _ _ (.mk 4 0 (-1) (-1) (-1) 0 0 []) rfl) (reps_fcons (rep_fld0 _ _ (.mk 11 0 (-1) (-1) (-1) 0 1 []) rfl) reps_fnil)))⟩⟩
 repeat first|(with_reducible first|apply wl_nil|apply qk_thn|apply wc_ret)|((with_reducible apply ws);exact rfl;exact rfl)
 exact qk_ret1 rfl rfl ⟨_, rfl, hW, hfin⟩
theorem fn_tsShareAcknowledgeRequestTopicPartition (w : World) : Fn 27 [] w fun v w' => Rep (Frs w.heap.size w'.heap.size) w' (.sq (sShareAcknowledgeRequestTopicPartition.map fldD)) [v] := by
 refine enter Tryz.func27 rfl Tryz.ntmps27 rfl ?_
 repeat first|(with_reducible first|apply wc_seq|apply wc_region|apply wl_nil|apply qk_thn)|((with_reducible apply ws);exact rfl;exact rfl)
 have hW : Below w.heap.size w w := ⟨rfl, rfl, rfl, Nat.le_refl _, fun _ _ => rfl⟩
 refine wl_build rfl (cs := [.int .i64 3, .int .i64 0, .int .i64 (-1), .int .i64 (-1), .int .i64 (-1), .int .i64 0, .int .i64 0, .slice none 0 0]) (by kernel_rfl) rfl ?_
 refine wl_call rfl (by kernel_rfl) rfl ((fn_tsShareAcknowledgeRequestTopicPartitionAcknowledgementBatch w).mono ?_)
 rintro e w2 ⟨sv, rfl, hs_2, hsq1⟩
 obtain ⟨a1, c1, rfl⟩ := rep_sqshape hsq1
 refine ⟨_, rfl, ?_⟩
 replace hsq1 := rep_frw hsq1 hW.size
 replace hW := hW.trans (hs_2.mono hW.size)
 refine wl_build rfl (cs := [.int .i64 11, .int .i64 0, .int .i64 (-1), .int .i64 (-1), .int .i64 (-1), .int .i64 0, .int .i64 10, .slice a1 (sShareAcknowledgeRequestTopicPartitionAcknowledgementBatch.map fldD).length c1]) (by kernel_rfl) rfl ?_
 refine wl_sliceN [[.int .i64 3, .int .i64 0, .int .i64 (-1), .int .i64 (-1), .int .i64 (-1), .int .i64 0, .int .i64 0, .slice none 0 0], [.int .i64 11, .int .i64 0, .int .i64 (-1), .int .i64 (-1), .int .i64 (-1), .int .i64 0, .int .i64 10, .slice a1 (sShareAcknowledgeRequestTopicPartitionAcknowledgementBatch.map fldD).length c1]] rt_flds rfl rfl (by simp) rfl rfl rfl (fun w3 hbS hgS hsS => ?_)
 have hs_3 := below_of hgS (Nat.le_refl _) (by simp)
 have hz := hW.size
 replace hsq1 := rep_fr hsq1 hs_3 (Nat.le_refl _)
 replace hW := hW.trans (hs_3.mono hW.size)
 have hfin : Rep (Frs w.heap.size w3.heap.size) w3 (.sq (sShareAcknowledgeRequestTopicPartition.map fldD)) [.slice (some ⟨w2.heap.size, 0, none⟩) 2 2] := by
  simp only [Rep]
  exact ⟨_, 2, rfl, Nat.le_refl _, .inr ⟨w2.heap.size, 0, _, rfl, ⟨hz, hbS.lt⟩, hbS.cells, (reps_fcons (rep_fld0 _ _ (.mk 3 0 (-1) (-1) (-1) 0 0 []) rfl) (reps_fcons (rep_fldS hsq1) reps_fnil))⟩⟩
 repeat first|(with_reducible first|apply wl_nil|apply qk_thn|apply wc_ret)|((with_reducible apply ws);exact rfl;exact rfl)
 exact qk_ret1 rfl rfl ⟨_, rfl, hW, hfin⟩
theorem fn_tsShareAcknowledgeRequestTopic (w : World) : Fn 16 [] w fun v w' => Rep (Frs w.heap.size w'.heap.size) w' (.sq (sShareAcknowledgeRequestTopic.map fldD)) [v] := by
 refine enter Tryz.func16 rfl Tryz.ntmps16 rfl ?_
 repeat first|(with_reducible first|apply wc_seq|apply wc_region|apply wl_nil|apply qk_thn)|((with_reducible apply ws);exact rfl;exact rfl)
 have hW : Below w.heap.size w w := ⟨rfl, rfl, rfl, Nat.le_refl _, fun _ _ => rfl⟩
 refine wl_build rfl (cs := [.int .i64 7, .int .i64 0, .int .i64 (-1), .int .i64 (-1), .int .i64 (-1), .int .i64 0, .int .i64 0, .slice none 0 0]) (by kernel_rfl) rfl ?_
 refine wl_call rfl (by kernel_rfl) rfl ((fn_tsShareAcknowledgeRequestTopicPartition w).mono ?_)
 rintro e w2 ⟨sv, rfl, hs_2, hsq1⟩
 obtain ⟨a1, c1, rfl⟩ := rep_sqshape hsq1
 refine ⟨_, rfl, ?_⟩
 replace hsq1 := rep_frw hsq1 hW.size
 replace hW := hW.trans (hs_2.mono hW.size)
 refine wl_build rfl (cs := [.int .i64 11, .int .i64 0, .int .i64 (-1), .int .i64 (-1), .int .i64 (-1), .int .i64 0, .int .i64 10, .slice a1 (sShareAcknowledgeRequestTopicPartition.map fldD).length c1]) (by kernel_rfl) rfl ?_
 refine wl_sliceN [[.int .i64 7, .int .i64 0, .int .i64 (-1), .int .i64 (-1), .int .i64 (-1), .int .i64 0, .int .i64 0, .slice none 0 0], [.int .i64 11, .int .i64 0, .int .i64 (-1), .int .i64 (-1), .int .i64 (-1), .int .i64 0, .int .i64 10, .slice a1 (sShareAcknowledgeRequestTopicPartition.map fldD).length c1]] rt_flds rfl rfl (by simp) rfl rfl rfl (fun w3 hbS hgS hsS => ?_)
 have hs_3 := below_of hgS (Nat.le_refl _) (by simp)
 have hz := hW.size
 replace hsq1 := rep_fr hsq1 hs_3 (Nat.le_refl _)
 replace hW := hW.trans (hs_3.mono hW.size)
 have hfin : Rep (Frs w.heap.size w3.heap.size) w3 (.sq (sShareAcknowledgeRequestTopic.map fldD)) [.slice (some ⟨w2.heap.size, 0, none⟩) 2 2] := by
  simp only [Rep]
  exact ⟨_, 2, rfl, Nat.le_refl _, .inr ⟨w2.heap.size, 0, _, rfl, ⟨hz, hbS.lt⟩, hbS.cells, (reps_fcons (rep_fld0 _ _ (.mk 7 0 (-1) (-1) (-1) 0 0 []) rfl) (reps_fcons (rep_fldS hsq1) reps_fnil))⟩⟩
 repeat first|(with_reducible first|apply wl_nil|apply qk_thn|apply wc_ret)|((with_reducible apply ws);exact rfl;exact rfl)
 exact qk_ret1 rfl rfl ⟨_, rfl, hW, hfin⟩
theorem fn_table (w : World) : Fn 6 [] w fun v w' => ∃ fv, v = .agg #[fv, .int .i64 m.flex] ∧ Sq w'.heap.size w' fv (m.fields.map fldD) := by
 refine enter Tryz.func6 rfl Tryz.ntmps6 rfl ?_
 repeat (with_reducible first|apply wc_seq|apply wc_region)
 refine wl_alloc zv_msg rfl rfl (fun w1 hb1 hg1 hs1 => ?_)
 have hs_1 := below_of hg1 (Nat.le_refl _) (by simp)
 repeat (with_reducible first|apply wc_seq|apply wc_region|apply wl_nil|apply qk_thn)
 have hW : Below w1.heap.size w1 w1 := ⟨rfl, rfl, rfl, Nat.le_refl _, fun _ _ => rfl⟩
 refine wl_build rfl (cs := [.int .i64 8, .int .i64 0, .int .i64 (-1), .int .i64 0, .int .i64 (-1), .int .i64 0, .int .i64 0, .slice none 0 0]) (by kernel_rfl) rfl ?_
 refine wl_build rfl (cs := [.int .i64 8, .int .i64 0, .int .i64 (-1), .int .i64 0, .int .i64 (-1), .int .i64 0, .int .i64 0, .slice none 0 0]) (by kernel_rfl) rfl ?_
 refine wl_build rfl (cs := [.int .i64 3, .int .i64 0, .int .i64 (-1), .int .i64 (-1), .int .i64 (-1), .int .i64 0, .int .i64 0, .slice none 0 0]) (by kernel_rfl) rfl ?_
 refine wl_build rfl (cs := [.int .i64 0, .int .i64 2, .int .i64 (-1), .int .i64 (-1), .int .i64 (-1), .int .i64 0, .int .i64 0, .slice none 0 0]) (by kernel_rfl) rfl ?_
 refine wl_call rfl (by kernel_rfl) rfl ((fn_tsShareAcknowledgeRequestTopic w1).mono ?_)
 rintro e w2 ⟨sv, rfl, hs_2, hsq4⟩
 obtain ⟨a4, c4, rfl⟩ := rep_sqshape hsq4
 refine ⟨_, rfl, ?_⟩
 replace hsq4 := rep_frw hsq4 hW.size
 replace hW := hW.trans (hs_2.mono hW.size)
 replace hb1 := hb1.below hs_2 hb1.lt
 refine wl_build rfl (cs := [.int .i64 11, .int .i64 0, .int .i64 (-1), .int .i64 (-1), .int .i64 (-1), .int .i64 0, .int .i64 10, .slice a4 (sShareAcknowledgeRequestTopic.map fldD).length c4]) (by kernel_rfl) rfl ?_
 refine wl_sliceN [[.int .i64 8, .int .i64 0, .int .i64 (-1), .int .i64 0, .int .i64 (-1), .int .i64 0, .int .i64 0, .slice none 0 0], [.int .i64 8, .int .i64 0, .int .i64 (-1), .int .i64 0, .int .i64 (-1), .int .i64 0, .int .i64 0, .slice none 0 0], [.int .i64 3, .int .i64 0, .int .i64 (-1), .int .i64 (-1), .int .i64 (-1), .int .i64 0, .int .i64 0, .slice none 0 0], [.int .i64 0, .int .i64 2, .int .i64 (-1), .int .i64 (-1), .int .i64 (-1), .int .i64 0, .int .i64 0, .slice none 0 0], [.int .i64 11, .int .i64 0, .int .i64 (-1), .int .i64 (-1), .int .i64 (-1), .int .i64 0, .int .i64 10, .slice a4 (sShareAcknowledgeRequestTopic.map fldD).length c4]] rt_flds rfl rfl (by simp) rfl rfl rfl (fun w3 hbS hgS hsS => ?_)
 have hs_3 := below_of hgS (Nat.le_refl _) (by simp)
 have hz := hW.size
 replace hsq4 := rep_fr hsq4 hs_3 (Nat.le_refl _)
 replace hW := hW.trans (hs_3.mono hW.size)
 replace hb1 := hb1.below hs_3 hb1.lt
 have hfin : Rep (Frs w1.heap.size w3.heap.size) w3 (.sq (m.fields.map fldD)) [.slice (some ⟨w2.heap.size, 0, none⟩) 5 5] := by
  simp only [Rep]
  exact ⟨_, 5, rfl, Nat.le_refl _, .inr ⟨w2.heap.size, 0, _, rfl, ⟨hz, hbS.lt⟩, hbS.cells, (reps_fcons (rep_fld0 _ _ (.mk 8 0 (-1) 0 (-1) 0 0 []) rfl) (reps_fcons (rep_fld0 _ _ (.mk 8 0 (-1) 0 (-1) 0 0 []) rfl) (reps_fcons (rep_fld0 _ _ (.mk 3 0 (-1) (-1) (-1) 0 0 []) rfl) (reps_fcons (rep_fld0 _ _ (.mk 0 2 (-1) (-1) (-1) 0 0 []) rfl) (reps_fcons (rep_fldS hsq4) reps_fnil)))))⟩⟩
 refine wl_build rfl (cs := [.slice (some ⟨w2.heap.size, 0, none⟩) 5 5, .int .i64 0]) (by kernel_rfl) rfl ?_
 refine wl_storeBAgg (vs := [.slice (some ⟨w2.heap.size, 0, none⟩) 5 5, .int .i64 0]) rfl rfl rfl tz_msg rfl hb1 rfl (fun wz hbz hgz hsz => ?_)
 repeat (with_reducible first|apply wl_nil|apply qk_thn|apply wc_ret)
 have hW0 := hs_1.trans (hW.mono hs_1.size)
 refine qk_retCell (cs := [.slice (some ⟨w2.heap.size, 0, none⟩) 5 5, .int .i64 0]) rfl rfl ta_msg hbz ⟨_, rfl, hW0.trans (below_of hgz hW0.size (by intro q hq; simp at hq; omega)), _, rfl, ?_⟩
 exact Rep.mono (fun b hb => ⟨by have := hb.2; simp only [Lo]; omega, hgz.block b hb.2 (by have := hb.1; simp; omega)⟩) _ _ hfin
noncomputable def z0 : List Value := match Tryz.prog.info? 58 with | some i => (match i.zero with | some z => z.cells.toList | none => []) | none => []
noncomputable def d0 : List Value := match (defF Tryz.prog 26).bind fun l => setAll l z0 with | some cs => cs | none => []
noncomputable def cs0 (ver : Int) : List Value := .int .i16 ver :: d0.drop 1
theorem d0_eq : (defF Tryz.prog 26).bind (fun l => setAll l z0) = some d0 := by kernel_rfl
theorem zv (w : World) : (zeroValue 58).run Tryz.prog w = .ok (.agg z0.toArray) w := by kernel_rfl
theorem fn_new (w : World) : Calls Tryz.prog 14 #[] w fun e w' => e = .returned (.pointer (some ⟨w.heap.size, 0, none⟩)) ∧ Box w' w.heap.size d0 58 ∧ Below w.heap.size w w' := by
 obtain ⟨l, hl, hset⟩ := Option.bind_eq_some_iff.1 d0_eq
 refine enter (vs := []) Tryz.func14 rfl Tryz.ntmps14 rfl ?_
 repeat first|(with_reducible first|apply wc_seq|apply wc_region|apply wl_nil|apply qk_thn)|((with_reducible apply ws);exact rfl;exact rfl)
 refine wl_alloc zv rfl rfl (fun w1 hb1 hg1 hs1 => ?_)
 repeat (with_reducible first|apply wc_seq|apply wc_region|apply wl_nil|apply qk_thn)
 have hdef := defF_ok (w := w1) hl (b := w.heap.size) (pre := []) (cs := z0) (post := []) (cs' := d0) (e := 58) (by simpa using hb1) hset
 refine wl_call rfl hdef.1 rfl (hdef.2.mono ?_)
 rintro e w2 ⟨rfl, hb2, hc2⟩
 refine ⟨_, rfl, ?_⟩
 repeat first|(with_reducible first|apply wc_seq|apply wc_region|apply wl_nil|apply qk_thn|apply wc_ret)|((with_reducible apply ws);exact rfl;exact rfl)
 exact qk_ret1 rfl rfl ⟨rfl, by simpa using hb2, (below_of hg1 (Nat.le_refl _) (by simp)).trans (chg_below hc2 (fun j hj h => by have : j = w.heap.size := h; omega) (by omega))⟩
theorem fn_max (w : World) : Calls Tryz.prog 5 #[] w fun e w' => e = .returned (.int .i64 (most : Int)) ∧ Below w.heap.size w w' := by
 refine enter (vs := []) Tryz.func5 rfl Tryz.ntmps5 rfl ?_
 repeat first|(with_reducible first|apply wc_seq|apply wc_region|apply wl_nil|apply qk_thn)|((with_reducible apply ws);exact rfl;exact rfl)
 refine wl_call rfl (by kernel_rfl) rfl ((fn_new w).mono ?_)
 rintro e w1 ⟨rfl, hb1, hw1⟩
 refine ⟨_, rfl, ?_⟩
 skip
 have hmax : Calls Tryz.prog 15 #[.pointer (some ⟨w.heap.size, 0, none⟩)] w1 fun e w' => e = .returned (.int .i16 (most : Int)) ∧ w' = w1 := by
  refine enter (vs := [.pointer (some ⟨w.heap.size, 0, none⟩)]) Tryz.func15 rfl Tryz.ntmps15 rfl ?_
  repeat first|(with_reducible first|apply wc_seq|apply wc_region|apply wl_nil|apply qk_thn|apply wc_ret)|((with_reducible apply ws);exact rfl;exact rfl)
  exact qk_ret1 rfl rfl ⟨rfl, rfl⟩
 refine wl_call rfl (by kernel_rfl) rfl ((hmax).mono ?_)
 rintro e w2 ⟨rfl, rfl⟩
 refine ⟨_, rfl, ?_⟩
 refine wl_conv .i64 rfl ti_i16 ti_i64 rfl (r := (most : Int)) rfl ?_
 repeat first|(with_reducible first|apply wl_nil|apply qk_thn|apply wc_ret)|((with_reducible apply ws);exact rfl;exact rfl)
 exact qk_ret1 rfl rfl ⟨rfl, hw1⟩
theorem fn_set (w : World) (b : Nat) (x : Value) (r : List Value) (ver : Int) (hb : Box w b (x :: r) 58) : Calls Tryz.prog 17 #[.pointer (some ⟨b, 0, none⟩), .int .i16 ver] w fun e w' => e = .returned (.tuple #[]) ∧ Box w' b (.int .i16 ver :: r) 58 ∧ w.grownBy w' (some b) := by
 refine enter (vs := [.pointer (some ⟨b, 0, none⟩), .int .i16 ver]) Tryz.func17 rfl Tryz.ntmps17 rfl ?_
 repeat first|(with_reducible apply wc_region)|((with_reducible apply ws);exact rfl;exact rfl)
 refine wl_storeB (i := 0) rfl rfl to_i16 rfl hb rfl (fun w1 hb1 hg1 _ => ?_)
 exact wl_nil (qk_end0 rfl ⟨rfl, hb1, hg1⟩)
theorem z0_hd : z0 = .int .i16 0 :: z0.drop 1 := by kernel_rfl
theorem zf_ok : zfsB true m.fields (z0.drop 1) = true := by kernel_rfl
theorem tab_all : (List.range (most + 1)).all (fun v => tabFs (v : Int) m.fields) = true := by kernel_rfl
theorem tab_ok (v : Nat) (h : v ≤ most) : tabFs (v : Int) m.fields = true := List.all_eq_true.1 tab_all v (List.mem_range.2 (by omega))
theorem late_all : (List.range (most + 1)).all (fun v => lateFs (v : Int) m.fields) = true := by kernel_rfl
theorem late_ok (v : Nat) (h : v ≤ most) : lateFs (v : Int) m.fields = true := List.all_eq_true.1 late_all v (List.mem_range.2 (by omega))
theorem tabG_ok : tabGs m.fields = true := by kernel_rfl
theorem len_ok1 : m.fields.length ≤ 1000 := by decide
theorem ap : ∀ v : Nat, v ≤ most → appRun Tryz.prog (kt 42 43 (v : Int)) 5 19 (.int .i16 :: shP true m.fields) = some (some .dst, exP (v : Int) true (m.flexible (v : Int)) 1 0 1 m.fields, true)
 | 0, _ => by kernel_rfl
 | 1, _ => by kernel_rfl
 | 2, _ => by kernel_rfl
 | n + 3, h => absurd h (by simp only [most]; omega)
abbrev txF : Nat := 28
abbrev sxF : Nat := 52
def k0 : Fk := ⟨29, txF, 999999, sxF, [], []⟩
theorem no_fn : isFn Tryz.prog 999999 = true → False := fun h => Bool.noConfusion (h.symm.trans (show isFn Tryz.prog 999999 = false by kernel_rfl))
theorem txP : isFn Tryz.prog txF = true → CvP Tryz.prog txF (fun _ => True) fun t => [valK 8 0 t] := fun _ => Impl.textP
theorem sxP : isFn Tryz.prog sxF = true → SxP Tryz.prog sxF := fun _ => Impl.sixP
theorem k0_ok : FkOk Tryz.prog k0 true := ⟨Impl.atP, txP, fun h => (no_fn h).elim, sxP, (fun _ _ h => by cases h), (fun _ _ h => by cases h)⟩
theorem mk_sShareAcknowledgeRequestTopicPartitionAcknowledgementBatch : CvP Tryz.prog 66 (GiveP true sShareAcknowledgeRequestTopicPartitionAcknowledgementBatch) (partK true sShareAcknowledgeRequestTopicPartitionAcknowledgementBatch) := makeFn_ok k0_ok Impl.setP mixed (by kernel_rfl)
def k1 : Fk := { k0 with mks := (66, sShareAcknowledgeRequestTopicPartitionAcknowledgementBatch) :: k0.mks }
theorem k1_ok : FkOk Tryz.prog k1 true := k0_ok.add mk_sShareAcknowledgeRequestTopicPartitionAcknowledgementBatch
theorem mk_sShareAcknowledgeRequestTopicPartition : CvP Tryz.prog 53 (GiveP true sShareAcknowledgeRequestTopicPartition) (partK true sShareAcknowledgeRequestTopicPartition) := makeFn_ok k1_ok Impl.setP mixed (by kernel_rfl)
def k2 : Fk := { k1 with mks := (53, sShareAcknowledgeRequestTopicPartition) :: k1.mks }
theorem k2_ok : FkOk Tryz.prog k2 true := k1_ok.add mk_sShareAcknowledgeRequestTopicPartition
theorem mk_sShareAcknowledgeRequestTopic : CvP Tryz.prog 30 (GiveP true sShareAcknowledgeRequestTopic) (partK true sShareAcknowledgeRequestTopic) := makeFn_ok k2_ok Impl.setP mixed (by kernel_rfl)
def k3 : Fk := { k2 with mks := (30, sShareAcknowledgeRequestTopic) :: k2.mks }
theorem k3_ok : FkOk Tryz.prog k3 true := k2_ok.add mk_sShareAcknowledgeRequestTopic
theorem fillP : FillP Tryz.prog 18 true m.fields := fillFn_ok k3_ok Impl.setP mixed (by kernel_rfl)
theorem fn_make (v : Nat) (hv : v ≤ most) (t : Tree) (ht : t.ok) (w : World) (ts : List Value) (hrep : Rep (Lo w.heap.size) w (treeD (fitP (v : Int) m.fields t)) ts) (hl : (wPart (v : Int) (m.flexible (v : Int)) m.fields t).length ≤ lim) :
  Fn 9 [.int .i64 (v : Int), .agg ts.toArray] w fun d w' => Own w' w.heap.size 5 d (wPart (v : Int) (m.flexible (v : Int)) m.fields t) := by
 obtain ⟨t', ht'⟩ : ∃ t', t' = fitP (v : Int) m.fields t := ⟨_, rfl⟩
 have hgive : GiveP true m.fields t' := by rw [ht']; exact give_ok (v : Int) true tabG_ok ht false
 obtain ⟨hfit, hwire⟩ := fitt_ok (tab_ok v hv) ht (m.flexible (v : Int))
 replace hfit : FitT (v : Int) m.fields t' := by rw [ht']; exact hfit
 replace hwire : wPart (v : Int) (m.flexible (v : Int)) m.fields t' = wPart (v : Int) (m.flexible (v : Int)) m.fields t := by rw [ht']; exact hwire
 rw [← ht'] at hrep
 have hvm : v < 32768 := by simp only [most] at hv; omega
 refine enter (vs := [.int .i64 (v : Int), .agg ts.toArray]) Tryz.func9 rfl Tryz.ntmps9 rfl ?_
 obtain ⟨sv, lv, uv, rfl, _, _, _⟩ := tree_cells hrep
 repeat (with_reducible first|apply wc_seq|apply wc_region)
 refine wl_box1 (cs := [.int .i64 t'.n, sv, .bool t'.nul, lv, uv]) rfl rfl rfl (fun w1 hb1 hg1 hs1 => ?_)
 repeat first|(with_reducible first|apply wc_seq|apply wc_region|apply wl_nil|apply qk_thn)|((with_reducible apply ws);exact rfl;exact rfl)
 refine wl_build (ps := []) (vs := []) (cs := z0) rfl (by kernel_rfl) rfl ?_
 refine wl_box1 (v := .agg z0.toArray) (cs := z0) rfl rfl rfl (fun w2 hb2 hg2 hs2 => ?_)
 repeat first|(with_reducible first|apply wc_seq|apply wc_region|apply wl_nil|apply qk_thn)|((with_reducible apply ws);exact rfl;exact rfl)
 refine wl_conv .i16 rfl ti_i64 ti_i16 rfl (r := (v : Int)) (be2_ver v hvm) ?_
 rw [z0_hd] at hb2
 refine wl_call rfl (by kernel_rfl) rfl ((fn_set w2 w1.heap.size _ _ (v : Int) hb2).mono ?_)
 rintro e w3 ⟨rfl, hb3, hg3⟩
 refine ⟨_, rfl, ?_⟩
 have hz3 := hg3.size
 have hw13 : Below w1.heap.size w1 w3 := (below_of hg2 (Nat.le_refl _) (by simp)).trans (below_of hg3 (by omega) (by intro q hq; simp at hq; omega))
 have hw3 : Below w.heap.size w w3 := (below_of hg1 (Nat.le_refl _) (by simp)).trans (hw13.mono (by omega))
 have hbt3 := hb1.below hw13 hb1.lt
 repeat first|(with_reducible first|apply wc_seq|apply wc_region|apply wl_nil|apply qk_thn)|((with_reducible apply ws);exact rfl;exact rfl)
 refine wl_loadBAgg (cs := [.int .i64 t'.n, sv, .bool t'.nul, lv, uv]) rfl Impl.ta_tree rfl hbt3 ?_
 obtain ⟨zs, ze, hz⟩ := zfsB_out zf_ok
 have hS : FSt w.heap.size (w1.heap.size + 1) w1.heap.size 58 w3 (.lit (.int .i16 (v : Int)) :: zs ++ [.lit (.map none)]) := ⟨_, hb3, by
  rw [List.cons_append, ← ze]
  simp only [Reps]
  exact ⟨[_], _, rfl, by simp [Rep], zDs_rep _ _ _⟩⟩
 refine wl_call rfl (by kernel_rfl) rfl ((fillP.2 w3 w.heap.size (w1.heap.size + 1) w1.heap.size _ _ zs t' _ hS hz (hrep.below hw3 (Nat.le_refl _)) hgive ⟨by omega, by omega⟩ (by omega)).mono ?_)
 rintro e w4 ⟨rfl, hS4, hc4⟩
 refine ⟨_, rfl, ?_⟩
 repeat first|(with_reducible first|apply wc_seq|apply wc_region|apply wl_nil|apply qk_thn)|((with_reducible apply ws);exact rfl;exact rfl)
 obtain ⟨cs4, hb4, hr4⟩ := hS4
 have hz4 := hc4.size
 have hb4l := hb4.lt
 have hr4' : Reps (Lo w4.heap.size) w4 (.lit (.int .i16 (v : Int)) :: partK true m.fields t') cs4 := Reps.mono (fun b hb => ⟨hb.2, rfl⟩) _ _ hr4
 have hsem : semL [.lit (.int .i16 (v : Int)) :: partK true m.fields t'] (exP (v : Int) true (m.flexible (v : Int)) 1 0 1 m.fields) = some (wPart (v : Int) (m.flexible (v : Int)) m.fields t) := by
  rw [← hwire]
  exact exP_of (ver := (v : Int)) (tg := true) (flex := m.flexible (v : Int)) (fs := m.fields) (m := 1) (k := 0) (off := 1) (t := t') (E := [.lit (.int .i16 (v : Int)) :: partK true m.fields t']) (pre := [.lit (.int .i16 (v : Int))]) (post := []) (fun _ => rfl)
   (fun pre' post' h1 h2 h3 => exFs_ok (v : Int) true (m.flexible (v : Int)) (fun _ => rfl) m.fields 0 t' _ 1 0 1 pre' post' h1 h2 h3 rfl hfit.1 (late_ok v hv)) (by simp) (by intro d hd; simp at hd; subst hd; simp [D.width]) rfl hfit.1 hfit.2
 have hw : IntKind.i16.wrap (v : Int) = (v : Int) := be2_ver v hvm
 have hcall := app_ok (Rdk.tlenOk _ _) (fnsOk _ _ _) (Rdk.teachOk _ _) (ap v hv) (B := w4.heap.size) (b := w1.heap.size) (w := w4) (ds := .lit (.int .i16 (v : Int)) :: partK true m.fields t') (cs := cs4) (d := .slice none 0 0) (xs := []) ⟨hb4.cells, hb4l, hr4'⟩ (by
  simp only [shDs, shD, hw, if_true, sh_partK]
  rfl) (lits_head hr4') (Own.nil w4 w4.heap.size 5) (Nat.le_refl _) hsem (by simp only [List.length_nil]; omega)
 refine wl_call rfl hcall.1 rfl (hcall.2.mono ?_)
 rintro e w5 ⟨d5, rfl, ho5, hg5⟩
 refine ⟨_, rfl, ?_⟩
 have hw45 : Below w4.heap.size w4 w5 := hg5.below (Nat.le_refl _) (by simp [Value.ownBlock])
 have hw34 : Below w.heap.size w3 w4 := chg_below hc4 (fun j hj h => by rcases h with h | h <;> omega) (by omega)
 repeat first|(with_reducible first|apply wl_nil|apply qk_thn|apply wc_ret)|((with_reducible apply ws);exact rfl;exact rfl)
 rw [List.nil_append] at ho5
 exact qk_ret1 rfl rfl ⟨_, rfl, (hw3.trans hw34).trans (hw45.mono (by omega)), ho5.mono (by omega)⟩
end
end Go.Proofs.YtgpnpfiafcakfaaGreat.BShareAcknowledgeRequest

namespace Go.Proofs.YtgpnpfiafcakfaaGreat.Impl
open Go Go.RowKit
def GivenOK (t : Tree) : Prop := ∀ (B : Nat) (w : World) (ts : List Value), t.ok → t.small → B ≤ w.heap.size → Rep (Lo B) w (treeD t) ts →
 Fn 10 [.agg ts.toArray] w fun v w' => ∃ cs : List Value, v = .agg cs.toArray ∧ Rep (In B w.heap.size w') w' (treeD t) cs
section
set_option maxRecDepth 100000
theorem given_of (t : Tree) (hF : ∀ x ∈ t.l, GivenOK x) : GivenOK t := by
 intro B w ts hok hsm hB ht
 obtain ⟨sv, lv, uv, rfl, hs, hl, hu⟩ := tree_cells ht
 obtain ⟨la, lc, rfl, _⟩ := hl.shape
 obtain ⟨sa, sc, rfl, _⟩ := hs.shape
 obtain ⟨ua, uc, rfl, _⟩ := hu.shape
 have hln := hsm.lens
 refine enter Tryz.func10 rfl Tryz.ntmps10 rfl ?_
 repeat (with_reducible first|apply wc_seq|apply wc_region)
 refine wl_box1 rfl rfl rfl (fun w1 hb1 hg1 hs1 => wl_alloc zv_tree rfl rfl (fun w2 hb2 hg2 hs2 => ?_))
 have hbt2 : Box w2 w.heap.size [.int .i64 t.n, .slice sa (t.s.map byteD).length sc, .bool t.nul, .slice la (t.l.map treeD).length lc, .slice ua (t.u.map tagD).length uc] 26 := hb1.kept hg2 (by simp)
 have hw2 : Below w.heap.size w w2 := (below_of hg1 (Nat.le_refl _) (by simp)).trans (below_of hg2 (by omega) (by simp))
 refine wl_nil (qk_thn (wc_seq (wc_region ?_)))
 repeat ((with_reducible apply ws);exact rfl;exact rfl)
 refine wl_loadB rfl to_i64 rfl hbt2 rfl ?_
 repeat ((with_reducible apply ws);exact rfl;exact rfl)
 refine wl_loadB rfl to_bytes rfl hbt2 rfl ?_
 repeat ((with_reducible apply ws);exact rfl;exact rfl)
 refine wl_loadB rfl to_bool rfl hbt2 rfl ?_
 refine wl_build rfl (cs := [.int .i64 t.n, .slice sa (t.s.map byteD).length sc, .bool t.nul, .slice none 0 0, .slice none 0 0]) (by kernel_rfl) rfl ?_
 refine wl_alloc zv_tree rfl rfl (fun w3 hb3 hg3 hs3 => ?_)
 refine wl_storeBAgg (vs := [.int .i64 t.n, .slice sa (t.s.map byteD).length sc, .bool t.nul, .slice none 0 0, .slice none 0 0]) rfl rfl rfl tz_tree rfl hb3 rfl (fun w4 hb4 hg4 hs4 => ?_)
 have hbt4 := (hbt2.kept hg3 (by simp)).kept hg4 (by simp; omega)
 have hbz4 := (hb2.kept hg3 (by simp)).kept hg4 (by simp; omega)
 have hw4 : Below w.heap.size w w4 := (hw2.trans (below_of hg3 (by omega) (by simp))).trans (below_of hg4 (by omega) (by intro k hk; simp at hk; omega))
 refine wl_nil (qk_thn ?_)
 refine wc_cut (α := Value) (fun d => [(3, .pointer (some ⟨w2.heap.size, 0, none⟩)), (2, .pointer (some ⟨w1.heap.size, 0, none⟩)), (1, .pointer (some ⟨w.heap.size, 0, none⟩))])
  (fun d w' => Below w.heap.size w w' ∧ w4.heap.size ≤ w'.heap.size ∧ Box w' w.heap.size [.int .i64 t.n, .slice sa (t.s.map byteD).length sc, .bool t.nul, .slice la (t.l.map treeD).length lc, .slice ua (t.u.map tagD).length uc] 26 ∧ Box w' w1.heap.size [.int .i64 0, .slice none 0 0, .bool false, .slice none 0 0, .slice none 0 0] 39 ∧ Box w' w2.heap.size [.int .i64 t.n, .slice sa (t.s.map byteD).length sc, .bool t.nul, d, .slice none 0 0] 39 ∧ RowD B w4.heap.size w2.heap.size 39 5 w' d (t.l.map treeD)) ?_ ?_
 ·repeat first|(with_reducible first|apply wc_seq|apply wc_region)|((with_reducible apply ws);exact rfl;exact rfl)
  refine wl_loadB rfl Go.Proofs.YtgpnpfiafcakfaaGreat.to_trees rfl hbt4 rfl ?_
  repeat first|(with_reducible first|apply wl_nil|apply qk_thn|apply wc_block)|((with_reducible apply ws);exact rfl;exact rfl)
  refine wc_loop (α := PtS) (fun s => [(18, .int .i64 (s.i : Int)), (17, .int .i64 ((t.l.map treeD).length : Int)), (16, .slice la (t.l.map treeD).length lc), (3, .pointer (some ⟨w2.heap.size, 0, none⟩)), (2, .pointer (some ⟨w1.heap.size, 0, none⟩)), (1, .pointer (some ⟨w.heap.size, 0, none⟩))])
   (fun s w' => s.i ≤ t.l.length ∧ Below w.heap.size w w' ∧ w4.heap.size ≤ w'.heap.size ∧ Box w' w.heap.size [.int .i64 t.n, .slice sa (t.s.map byteD).length sc, .bool t.nul, .slice la (t.l.map treeD).length lc, .slice ua (t.u.map tagD).length uc] 26 ∧ Box w' w1.heap.size [.int .i64 0, .slice none 0 0, .bool false, .slice none 0 0, .slice none 0 0] 39 ∧ Box w' w2.heap.size [.int .i64 t.n, .slice sa (t.s.map byteD).length sc, .bool t.nul, s.d, .slice none 0 0] 39 ∧ RowD B w4.heap.size w2.heap.size 39 5 w' s.d ((t.l.take s.i).map treeD)) (fun s => t.l.length - s.i) ⟨0, .slice none 0 0, []⟩ ⟨rfl, rfl, rfl, rfl, rfl, rfl, trivial⟩ ⟨Nat.zero_le _, hw4, Nat.le_refl _, hbt4, hbz4, hb4, RowD.nil _ _ _ _ _ _⟩ ?_
  rintro ⟨i, d, _⟩ w12 ⟨hi, hw12, hs1012, hbt12, hbr12, hbq12, hrd12⟩
  simp only [] at hi hbq12 hrd12
  change WC _ _ _ _ [(18, .int .i64 (i : Int)), (17, .int .i64 ((t.l.map treeD).length : Int)), (16, .slice la (t.l.map treeD).length lc), (3, .pointer (some ⟨w2.heap.size, 0, none⟩)), (2, .pointer (some ⟨w1.heap.size, 0, none⟩)), (1, .pointer (some ⟨w.heap.size, 0, none⟩))] _
  repeat first|(with_reducible first|apply wc_seq|apply wc_region|apply wl_nil|apply qk_thn)|((with_reducible apply ws);exact rfl;exact rfl)
  by_cases hlt : i < t.l.length
  ·refine wc_yes rfl (by simpa using hlt) ?_
   obtain ⟨b, off, c', cs, hv, hbB, hcs, hlen, hr⟩ := (hl.below (hw12.mono hB) (Nat.le_refl _)).get (sz := 5) (i := i) (by intro d hd; obtain ⟨x, _, rfl⟩ := List.mem_map.1 hd; exact treeD_width x) (by simpa using hlt)
   simp only [Value.slice.injEq, List.length_map] at hv
   obtain ⟨rfl, _, rfl⟩ := hv
   simp only [List.getElem_map] at hr
   obtain ⟨hcone, _⟩ := treeG_one hr
   repeat (with_reducible first|apply wc_seq|apply wc_region|apply qk_thn|apply wc_block|apply wc_skip)
   refine wl_indexAddr rfl rfl Go.Proofs.YtgpnpfiafcakfaaGreat.es_trees rfl (by simpa using hlt) ?_
   refine wl_loadAgg rfl (by rw [hlen]; exact Go.Proofs.YtgpnpfiafcakfaaGreat.ta_tree) rfl (fun j v e => hcs.cell e) ?_
   refine wl_alloc Go.Proofs.YtgpnpfiafcakfaaGreat.zv_tree rfl rfl (fun w13 hb13 hg13 hs13 => ?_)
   refine wl_storeBAgg rfl rfl rfl (by rw [hlen]; exact Go.Proofs.YtgpnpfiafcakfaaGreat.tz_tree) hcone hb13 (by rw [hlen]; rfl) (fun w14 hb14 hg14 hs14 => ?_)
   have hw1214 : Below w12.heap.size w12 w14 := (below_of hg13 (Nat.le_refl _) (by simp)).trans (below_of hg14 (by omega) (by intro k hk; simp at hk; omega))
   have hw14 : Below w.heap.size w w14 := hw12.trans (hw1214.mono (by omega))
   have hrd14 := hrd12.below hw1214
   have hbr14 := hbr12.below hw1214 hbr12.lt
   have hbt14 := hbt12.below hw1214 hbt12.lt
   have hbq14 := hbq12.below hw1214 hbq12.lt
   have hdl : ∀ g, d.ownBlock = some g → w4.heap.size ≤ g ∧ g < w12.heap.size := hrd12.low
   repeat (with_reducible first|apply wl_nil|apply qk_thn)
   refine wc_parS [(0, .pointer (some ⟨w2.heap.size, 0 + 3, none⟩)), (1, d), (2, .agg cs.toArray), (6, .pointer (some ⟨w2.heap.size, 0 + 3, none⟩))] [7, 5, 4, 3]
    (fun vals w' => Below w.heap.size w w' ∧ w14.heap.size ≤ w'.heap.size ∧ Box w' w.heap.size [.int .i64 t.n, .slice sa (t.s.map byteD).length sc, .bool t.nul, .slice (some ⟨b, off, none⟩) (t.l.map treeD).length lc, .slice ua (t.u.map tagD).length uc] 26 ∧ Box w' w1.heap.size [.int .i64 0, .slice none 0 0, .bool false, .slice none 0 0, .slice none 0 0] 39 ∧ Box w' w12.heap.size cs 26 ∧ match vals with
     | [] => Below w14.heap.size w14 w'
     | [v] => Below w14.heap.size w14 w' ∧ ∃ xs' : List Value, v = .agg xs'.toArray ∧ Rep (In B w14.heap.size w') w' (treeD t.l[i]) xs'
     | [v, _] => Below w14.heap.size w14 w' ∧ ∃ (b8 : Nat) (xs' : List Value), v = .slice (some ⟨b8, 0, none⟩) 1 1 ∧ Box w' b8 xs' 39 ∧ xs'.length = 5 ∧ (xs'.all fun v => v.oneCell') = true ∧ Rep (In B w14.heap.size w') w' (treeD t.l[i]) xs'
     | [v, _, _] => Box w' w2.heap.size [.int .i64 t.n, .slice sa (t.s.map byteD).length sc, .bool t.nul, d, .slice none 0 0] 39 ∧ RowD B w4.heap.size w2.heap.size 39 5 w' v ((t.l.take (i + 1)).map treeD)
     | _ :: v :: _ => Box w' w2.heap.size [.int .i64 t.n, .slice sa (t.s.map byteD).length sc, .bool t.nul, v, .slice none 0 0] 39 ∧ RowD B w4.heap.size w2.heap.size 39 5 w' v ((t.l.take (i + 1)).map treeD))
    mixed rfl rfl rfl rfl rfl (by show ([0,1,2,6] : List Nat).Nodup; decide) rfl rfl (by decide) rfl rfl rfl rfl ⟨hw14.drew, Nat.le_refl _, hbt14, hbr14, hb14, (Below.refl _ w14).drew⟩ ?_ ⟨?_, ?_, ?_, ?_, trivial⟩ ?_
   ·intro p hp vals w' hC hnp a k
    obtain ⟨hC1, hC2, hC3, hC4, hC5, hC6⟩ := hC
    simp only [List.mem_cons, List.not_mem_nil, or_false] at hp
    rcases hp with rfl | rfl | rfl | rfl
    ·exact gv rfl rfl (rn_fieldAddr k rfl fo_tree3)
    ·have hbx : Box w' w2.heap.size [.int .i64 t.n, .slice sa (t.s.map byteD).length sc, .bool t.nul, d, .slice none 0 0] 39 := by
      match vals, hC6, hnp with
      | [], h, _ => exact hbq14.below h hbq14.lt
      | [_], h, _ => exact hbq14.below h.1 hbq14.lt
      | [_, _], h, _ => exact hbq14.below h.1 hbq14.lt
      | [_, _, _], h, _ => exact h.1
      | _ :: _ :: _ :: _ :: r, _, hnp =>
       have := hnp 7 (by rw [show ([7, 5, 4, 3] : List Nat).length - (_ :: _ :: _ :: _ :: r).length = 0 from by simp only [List.length_cons, List.length_nil]; omega]; simp)
       exact absurd (show true = false from this) (by simp)
     exact gv rfl rfl (rn_load k rfl to_trees (hbx.cell0 (i := 3) rfl))
    ·exact gv rfl rfl (rn_loadBAgg k rfl (by rw [hlen]; exact Go.Proofs.YtgpnpfiafcakfaaGreat.ta_tree) hC5)
    ·exact gv rfl rfl (rn_fieldAddr k rfl fo_tree3)
   ·rintro vals w' hvl ⟨hC1, hC2, hC3, hC4, hC5, hC6⟩ a k
    match vals, hvl with
    | [v9, v8, v7], _ =>
     obtain ⟨hbx, hrd⟩ := hC6
     obtain ⟨a9, c9, rfl⟩ := hrd.shape
     refine ⟨_, rfl, does_storeB k rfl rfl to_trees rfl hbx rfl (fun w'' hbx'' hg'' hs'' => ⟨hC1.trans (below_of hg'' (by omega) (by intro q hq; simp at hq; omega)), by omega, hC3.kept hg'' (by simp; omega), hC4.kept hg'' (by simp; omega), hC5.kept hg'' (by simp; omega), hbx'', hrd.stored hg''⟩)⟩
   ·rintro vals w' hvl ⟨hC1, hC2, hC3, hC4, hC5, hC6⟩ a k
    match vals, hvl with
    | [v8, v7], _ =>
     obtain ⟨hb7', b8, xs', rfl, hb8, hl5, hone'', hrep⟩ := hC6
     have hrdw := hrd14.below hb7'
     obtain ⟨xs0, hrow0, hreps0⟩ := hrdw.row
     refine ⟨_, rfl, does_app1 k rt_trees rfl rfl hb8 hl5 hone'' hrow0 (by omega) (by simp only [List.length_map, List.length_take, many]; omega) (fun d' w'' hrow'' hg'' => ?_)⟩
     have hs'' := hg''.grown.size
     have hne : ∀ q, q < w4.heap.size ∨ w12.heap.size ≤ q → some q ≠ d.ownBlock := fun q hq e => by have := hdl q e.symm; omega
     refine ⟨hC1.trans (hg''.below (by omega) (fun g hg => by have := hdl g hg; omega)), by omega, hC3.kept hg''.grown (hne _ (by omega)), hC4.kept hg''.grown (hne _ (by omega)), hC5.kept hg''.grown (hne _ (by omega)), (hbq14.below hb7' hbq14.lt).kept hg''.grown (hne _ (by omega)), ?_⟩
     have hsn := hrdw.snoc (by omega) (by omega) hreps0 (hrep.off (by omega) ⟨by omega, by omega⟩ (fun g hg => by have := hdl g hg; omega)) hrow'' hg''
     rw [List.take_succ_eq_append_getElem hlt, List.map_append]
     exact hsn
   ·rintro vals w' hvl ⟨hC1, hC2, hC3, hC4, hC5, hC6⟩ a k
    match vals, hvl with
    | [v7], _ =>
     obtain ⟨hb7', xs', rfl, hrep⟩ := hC6
     obtain ⟨hone'', hl5⟩ := treeG_one hrep
     have hga := grown_alloc w' (.cells xs'.toArray 39)
     refine ⟨_, rfl, does_slice1 k rt_trees rfl rfl hl5 rfl ⟨hC1.trans (below_of hga (by omega) (by simp)), by simp; omega, hC3.kept hga (by simp), hC4.kept hga (by simp), hC5.kept hga (by simp), hb7'.trans (below_of hga (by omega) (by simp)), _, xs', rfl, box_alloc _ _ _, hl5, hone'', hrep.up (In.up (Nat.le_refl _) (by simp)) (fun r hr => hga.block r hr.2 (by simp))⟩⟩
   ·rintro vals w' hvl ⟨hC1, hC2, hC3, hC4, hC5, hC6⟩ a k
    match vals, hvl with
    | [], _ =>
     simp only [] at hC6
     refine ⟨_, rfl, does_call k rfl (by kernel_rfl) ((hF t.l[i] (List.getElem_mem hlt) B w' _ (hok.l _ (List.getElem_mem hlt)) (hsm.l _ (List.getElem_mem hlt)) (by omega) (Rep.below hr ((hw1214.trans (hC6.mono (by omega))).mono (by omega)) (Nat.le_refl _))).mono ?_)⟩
     rintro e w'' ⟨v, rfl, hb'', cs'', rfl, hrep⟩
     exact ⟨_, rfl, hC1.trans (hb''.mono (by omega)), by have := hb''.size; omega, hC3.below hb'' hC3.lt, hC4.below hb'' hC4.lt, hC5.below hb'' hC5.lt, hC6.trans (hb''.mono (by omega)), cs'', rfl, hrep.up (In.up (by omega) (Nat.le_refl _)) (fun _ _ => rfl)⟩
   ·rintro vals w' hvl ⟨hC1, hC2, hC3, hC4, hC5, hC6⟩
    match vals, hvl with
    | [v11, v9, v8, v7], _ =>
     refine qk_thn ?_
     repeat (with_reducible apply wc_region)
     refine wl_add rfl rfl rfl (r := ((i + 1 : Nat) : Int)) (by rw [IntKind.wrap_i64]; omega) ?_
     repeat first|(with_reducible apply wl_nil)|((with_reducible apply ws);exact rfl;exact rfl)
     exact qk_round ⟨i + 1, v9, []⟩ ⟨rfl, rfl, rfl, rfl, rfl, rfl, trivial⟩ ⟨by simp only []; omega, hC1, by omega, hC3, hC4, hC6.1, hC6.2⟩ (by simp only []; omega)
  ·refine wc_no rfl (by simpa using hlt) ?_
   repeat (with_reducible first|apply wc_exit|apply qk_thn_exit|apply qk_in_exit|apply qk_round_exit)
   rw [List.take_of_length_le (by omega)] at hrd12
   exact qk_cut d ⟨rfl, rfl, rfl, trivial⟩ ⟨hw12, hs1012, hbt12, hbr12, hbq12, hrd12⟩
 rintro d w5 ⟨hw5, hs45, hbt5, hbz5, hbo5, hrd5⟩
 have hdone := hrd5.sqb
 obtain ⟨da, dc, rfl⟩ := hrd5.shape
 refine wc_cut (α := Value) (fun e => [(3, .pointer (some ⟨w2.heap.size, 0, none⟩)), (2, .pointer (some ⟨w1.heap.size, 0, none⟩))])
  (fun e w' => Below w.heap.size w w' ∧ w5.grownBy w' (some w2.heap.size) ∧ Box w' w1.heap.size [.int .i64 0, .slice none 0 0, .bool false, .slice none 0 0, .slice none 0 0] 39 ∧ Box w' w2.heap.size [.int .i64 t.n, .slice sa (t.s.map byteD).length sc, .bool t.nul, .slice da (t.l.map treeD).length dc, e] 39 ∧ RowD B w5.heap.size w2.heap.size 65 2 w' e (t.u.map tagD)) ?_ ?_
 ·repeat first|(with_reducible first|apply wc_seq|apply wc_region)|((with_reducible apply ws);exact rfl;exact rfl)
  refine wl_loadB rfl Go.Proofs.YtgpnpfiafcakfaaGreat.to_tags rfl hbt5 rfl ?_
  rw [show (t.u.map tagD).length = t.u.length from List.length_map ..]
  repeat first|(with_reducible first|apply wl_nil|apply qk_thn|apply wc_block)|((with_reducible apply ws);exact rfl;exact rfl)
  refine wc_loop (α := PtS) (fun s => [(33, .int .i64 (s.i : Int)), (32, .int .i64 (t.u.length : Int)), (31, .slice ua t.u.length uc), (3, .pointer (some ⟨w2.heap.size, 0, none⟩)), (2, .pointer (some ⟨w1.heap.size, 0, none⟩)), (1, .pointer (some ⟨w.heap.size, 0, none⟩))])
   (fun s w' => s.i ≤ t.u.length ∧ Below w.heap.size w w' ∧ w5.grownBy w' (some w2.heap.size) ∧ Box w' w1.heap.size [.int .i64 0, .slice none 0 0, .bool false, .slice none 0 0, .slice none 0 0] 39 ∧ Box w' w2.heap.size [.int .i64 t.n, .slice sa (t.s.map byteD).length sc, .bool t.nul, .slice da (t.l.map treeD).length dc, s.d] 39 ∧ RowD B w5.heap.size w2.heap.size 65 2 w' s.d ((t.u.take s.i).map tagD)) (fun s => t.u.length - s.i) ⟨0, .slice none 0 0, []⟩ ⟨rfl, rfl, rfl, rfl, rfl, rfl, trivial⟩ ⟨Nat.zero_le _, hw5, ⟨rfl, rfl, rfl, Nat.le_refl _, fun _ _ _ => rfl⟩, hbz5, hbo5, RowD.nil _ _ _ _ _ _⟩ ?_
  rintro ⟨i, e, _⟩ w7 ⟨hi, hw7, hgb7, hbz7, hbo7, hrd7⟩
  simp only [] at hi hbo7 hrd7
  change WC _ _ _ _ [(33, .int .i64 (i : Int)), (32, .int .i64 (t.u.length : Int)), (31, .slice ua t.u.length uc), (3, .pointer (some ⟨w2.heap.size, 0, none⟩)), (2, .pointer (some ⟨w1.heap.size, 0, none⟩)), (1, .pointer (some ⟨w.heap.size, 0, none⟩))] _
  repeat first|(with_reducible first|apply wc_seq|apply wc_region|apply wl_nil|apply qk_thn)|((with_reducible apply ws);exact rfl;exact rfl)
  by_cases hlt : i < t.u.length
  ·refine wc_yes rfl (by simpa using hlt) ?_
   obtain ⟨b, off, c', cs, hv, hbB, hcs, hlen, hr⟩ := (hu.below (hw7.mono hB) (Nat.le_refl _)).get (sz := 2) (i := i) (by intro d hd; obtain ⟨x, _, rfl⟩ := List.mem_map.1 hd; exact tagD_width x) (by simpa using hlt)
   simp only [Value.slice.injEq, List.length_map] at hv
   obtain ⟨rfl, _, rfl⟩ := hv
   simp only [List.getElem_map] at hr
   obtain ⟨hcone, _⟩ := tag_one hr
   obtain ⟨qv, hce, hqv⟩ := tag_cells hr
   subst hce
   obtain ⟨qa, qc, rfl, _⟩ := hqv.shape
   repeat (with_reducible first|apply wc_seq|apply wc_region|apply qk_thn|apply wc_block|apply wc_skip)
   refine wl_indexAddr rfl rfl es_tags rfl hlt ?_
   refine wl_loadAgg (cs := [.int .u32 (t.u[i].1 : Nat), .slice qa (t.u[i].2.map byteD).length qc]) rfl Go.Proofs.YtgpnpfiafcakfaaGreat.ta_tag rfl (fun j v e => hcs.cell e) ?_
   refine wl_alloc zv_tag rfl rfl (fun w8 hb8 hg8 hs8 => ?_)
   refine wl_storeBAgg (vs := [.int .u32 (t.u[i].1 : Nat), .slice qa (t.u[i].2.map byteD).length qc]) rfl rfl rfl Go.Proofs.YtgpnpfiafcakfaaGreat.tz_tag hcone hb8 rfl (fun w9 hb9 hg9 hs9 => ?_)
   have hw79 : Below w7.heap.size w7 w9 := (below_of hg8 (Nat.le_refl _) (by simp)).trans (below_of hg9 (by omega) (by intro k hk; simp at hk; omega))
   have hs57 := hgb7.size
   have hw9 : Below w.heap.size w w9 := hw7.trans (hw79.mono (by omega))
   have hgb9 : w5.grownBy w9 (some w2.heap.size) := grown_but hgb7 (grown_of hw79) (fun g h => by cases h)
   have hbz9 := hbz7.below hw79 hbz7.lt
   have hbo9 := hbo7.below hw79 hbo7.lt
   have hrd9 := hrd7.below hw79
   obtain ⟨ea, ec, hes⟩ := hrd9.shape
   obtain ⟨xs0, hrow0, hreps0⟩ := hrd9.row
   have hel : ∀ g, e.ownBlock = some g → w5.heap.size ≤ g ∧ g < w7.heap.size := hrd7.low
   have hs79 := hw79.size
   repeat first|(with_reducible first|apply wc_region|apply wl_nil|apply qk_thn)|((with_reducible apply ws);exact rfl;exact rfl)
   refine wl_loadB rfl to_tags rfl hbo9 rfl ?_
   repeat ((with_reducible apply ws);exact rfl;exact rfl)
   refine wl_loadB rfl to_u32 rfl hb9 rfl ?_
   repeat ((with_reducible apply ws);exact rfl;exact rfl)
   refine wl_loadB rfl to_bytes rfl hb9 rfl ?_
   refine wl_build rfl (cs := [.int .u32 (t.u[i].1 : Nat), .slice qa (t.u[i].2.map byteD).length qc]) (by kernel_rfl) rfl ?_
   refine wl_app1 (cs := [.int .u32 (t.u[i].1 : Nat), .slice qa (t.u[i].2.map byteD).length qc]) rt_tags rfl rfl rfl hcone rfl rfl rfl rfl hrow0 (by omega) (by simp only [List.length_map, List.length_take, many]; omega) (fun d' w10 hrow10 hg10 => ?_)
   have hs10 := hg10.grown.size
   have hne : ∀ q, q < w5.heap.size ∨ w7.heap.size ≤ q → some q ≠ e.ownBlock := fun q hq h => by have := hel q h.symm; omega
   have hr9 : Rep (Lo B) w9 (tagD t.u[i]) [.int .u32 (t.u[i].1 : Nat), .slice qa (t.u[i].2.map byteD).length qc] := Rep.below hr (hw79.mono (by omega)) (Nat.le_refl _)
   have hsn := hrd9.snoc (by omega) (by omega) hreps0 (hr9.offLo (by omega) (by omega) (fun g hg => by have := hel g hg; omega)) hrow10 hg10
   have hbo10 := hbo9.kept hg10.grown (hne _ (by omega))
   have hbz10 := hbz9.kept hg10.grown (hne _ (by omega))
   obtain ⟨fa, fc, hfs⟩ := hsn.shape
   subst hfs
   repeat ((with_reducible apply ws);exact rfl;exact rfl)
   refine wl_storeB rfl rfl to_tags rfl hbo10 rfl (fun w11 hbo11 hg11 hs11 => ?_)
   repeat (with_reducible first|apply wc_region|apply wl_nil|apply qk_thn|apply qk_in)
   refine wl_add rfl rfl rfl (r := ((i + 1 : Nat) : Int)) (by rw [IntKind.wrap_i64]; omega) ?_
   repeat first|(with_reducible apply wl_nil)|((with_reducible apply ws);exact rfl;exact rfl)
   refine qk_round ⟨i + 1, _, []⟩ ⟨rfl, rfl, rfl, rfl, rfl, rfl, trivial⟩ ⟨by simp only []; omega, (hw9.trans (hg10.below (by omega) (fun g hg => by have := hel g hg; omega))).trans (below_of hg11 (by omega) (by intro q hq; simp at hq; omega)), grown_but (grown_but hgb9 hg10.grown (fun q hq => .inr (by have := hel q hq; omega))) hg11 (fun q hq => .inl (by simpa using hq.symm)), hbz10.kept hg11 (by simp; omega), hbo11, ?_⟩ (by simp only []; omega)
   simp only []
   rw [List.take_succ_eq_append_getElem hlt, List.map_append]
   exact hsn.stored hg11
  ·refine wc_no rfl (by simpa using hlt) ?_
   repeat (with_reducible first|apply wc_exit|apply qk_thn_exit|apply qk_in_exit|apply qk_round_exit)
   rw [List.take_of_length_le (by omega)] at hrd7
   exact qk_cut e ⟨rfl, rfl, trivial⟩ ⟨hw7, hgb7, hbz7, hbo7, hrd7⟩
 rintro e w6 ⟨hw6, hgb6, hbz6, hbo6, hrd6⟩
 obtain ⟨ea, ec, hes⟩ := hrd6.shape
 subst hes
 repeat (with_reducible first|apply wc_seq|apply wc_region)
 refine wl_loadBAgg (cs := [.int .i64 t.n, .slice sa (t.s.map byteD).length sc, .bool t.nul, .slice da (t.l.map treeD).length dc, .slice ea (t.u.map tagD).length ec]) rfl ta_tree rfl hbo6 ?_
 refine wl_storeBAgg (vs := [.int .i64 t.n, .slice sa (t.s.map byteD).length sc, .bool t.nul, .slice da (t.l.map treeD).length dc, .slice ea (t.u.map tagD).length ec]) rfl rfl rfl tz_tree rfl hbz6 rfl (fun w7 hbz7 hg7 hs7 => ?_)
 repeat (with_reducible first|apply wl_nil|apply qk_thn|apply wc_ret)
 have hs56 := hgb6.size
 have hw7 := hw6.trans (below_of hg7 (by have := hw6.size; omega) (by intro q hq; simp at hq; omega))
 refine qk_retCell (cs := [.int .i64 t.n, .slice sa (t.s.map byteD).length sc, .bool t.nul, .slice da (t.l.map treeD).length dc, .slice ea (t.u.map tagD).length ec]) rfl rfl ta_tree hbz7 ⟨_, rfl, hw7, _, rfl, ?_⟩
 have hse := hrd6.sqb
 have e0 : t = .mk t.n t.s t.nul t.l t.u := by cases t; rfl
 rw [e0]
 refine rep_tree ((hs.below (hw7.mono hB) (Nat.le_refl _)).up (fun r hr => ⟨.inl hr, by simp only [Lo] at hr; omega⟩) (fun _ _ => rfl)) ?_ ?_
 ·refine hdone.up (fun r hr => In.up (by omega) (by omega) r hr.1) (fun r hr => ?_)
  have h1 : r ≠ w1.heap.size := by
   rcases hr.1.1 with h | h <;> omega
  rw [hg7.block r (by have := hr.1.2; omega) (by simp; omega), hgb6.block r hr.1.2 (by simpa using hr.2)]
 ·refine hse.up (fun r hr => In.up (by omega) (by omega) r hr.1) (fun r hr => ?_)
  have h1 : r ≠ w1.heap.size := by
   rcases hr.1.1 with h | h <;> omega
  rw [hg7.block r hr.1.2 (by simp; omega)]
end
mutual
theorem given_ok : ∀ t : Tree, GivenOK t
 | .mk _ _ _ l _ => given_of _ (givens_ok l)
theorem givens_ok : ∀ l : List Tree, ∀ x ∈ l, GivenOK x
 | [], x, hx => by cases hx
 | y :: l, x, hx => by
  have hy := given_ok y
  have hl := givens_ok l
  rcases List.mem_cons.1 hx with h0 | h1
  ·rw [h0]; exact hy
  ·exact hl x h1
end
end Go.Proofs.YtgpnpfiafcakfaaGreat.Impl

namespace Go.Proofs.YtgpnpfiafcakfaaGreat.BShareAcknowledgeRequest
open Go Go.RowKit
section
set_option maxRecDepth 100000
theorem len_ok (t : Tree) (ht : t.ok) (hsm : t.wt ≤ 1048576) (ver : Int) (flex : Bool) : 1000 + (wPart ver flex m.fields t).length ≤ lim := by
 have h1 := wPart_price ver flex m.fields t ht
 have h2 : 1000 + partPrice m.fields * 1048576 ≤ lim := by decide +kernel
 exact Nat.le_trans (Nat.add_le_add_left (Nat.le_trans h1 (Nat.mul_le_mul_left (partPrice m.fields) hsm)) 1000) h2
set_option maxHeartbeats 4000000 in
theorem fn_law (n : Nat) (hn : n < 256) (t : Tree) (ht : t.ok) (hsm : t.wt ≤ 1048576) (w : World) (ts : List Value) (hrep : Rep (Lo w.heap.size) w (treeD t) ts) :
  Fn 3 [.int .u8 (n : Int), .agg ts.toArray] w fun v _ => v = .bool true := by
 obtain ⟨sv2, lv, uv, rfl, _, _, _⟩ := tree_cells hrep
 refine enter Tryz.func3 rfl Tryz.ntmps3 rfl ?_
 repeat (with_reducible first|apply wc_seq|apply wc_region)
 refine wl_box1 rfl rfl rfl (fun w1 hb1 hg1 hs1 => ?_)
 have hw1 : Below w.heap.size w w1 := below_of hg1 (Nat.le_refl _) (by simp)
 repeat first|(with_reducible first|apply wc_seq|apply wc_region|apply wl_nil|apply qk_thn)|((with_reducible apply ws);exact rfl;exact rfl)
 refine wl_loadBAgg (cs := [.int .i64 t.n, sv2, .bool t.nul, lv, uv]) rfl ta_tree rfl hb1 ?_
 skip
 refine wl_call rfl (by kernel_rfl) rfl ((fn_fits1 t w.heap.size w1 _ (by omega) (hrep.below hw1 (Nat.le_refl _))).mono ?_)
 rintro e w2 ⟨v, rfl, hw12, q, rfl⟩
 refine ⟨_, rfl, ?_⟩
 have hz12 := hw12.size
 have hw2 := hw1.trans (hw12.mono (by omega))
 repeat first|(with_reducible first|apply wl_nil|apply qk_thn)|((with_reducible apply ws);exact rfl;exact rfl)
 cases q
 ·refine wc_yes rfl rfl ?_
  repeat first|(with_reducible first|apply wc_seq|apply wc_region|apply wl_nil|apply qk_thn|apply wc_ret|apply qk_thn_ret)|((with_reducible apply ws);exact rfl;exact rfl)
  exact qk_ret1 rfl rfl ⟨_, rfl, hw2, rfl⟩
 refine wc_no rfl rfl ?_
 repeat (with_reducible first|apply wc_seq|apply wc_region|apply qk_thn|apply wc_skip)
 refine wl_call rfl (by kernel_rfl) rfl ((fn_max w2).mono ?_)
 rintro e w3 ⟨rfl, hw23⟩
 refine ⟨_, rfl, ?_⟩
 have hz23 := hw23.size
 have hw13 := hw12.trans (hw23.mono (by omega))
 have hw3 := hw2.trans (hw23.mono (by omega))
 repeat first|(with_reducible first|apply wc_seq|apply wc_region|apply wl_nil|apply qk_thn)|((with_reducible apply ws);exact rfl;exact rfl)
 refine wc_no rfl (by decide) ?_
 repeat (with_reducible first|apply wc_seq|apply wc_region|apply qk_thn|apply wc_skip)
 refine wl_call rfl (by kernel_rfl) rfl ((fn_table w3).mono ?_)
 rintro e w4 ⟨v, rfl, hw34, fv, rfl, hsq⟩
 refine ⟨_, rfl, ?_⟩
 have hz34 := hw34.size
 have hw14 := hw13.trans (hw34.mono (by omega))
 have hw4 := hw3.trans (hw34.mono (by omega))
 repeat ((with_reducible apply ws);exact rfl;exact rfl)
 refine wl_call rfl (by kernel_rfl) rfl ((fn_version n most hn (by decide) w4).mono ?_)
 rintro e w4' ⟨v, rfl, _, hww, rfl⟩
 obtain rfl : w4 = w4' := hww.symm
 refine ⟨_, rfl, ?_⟩
 refine wl_alloc zv_msg rfl rfl (fun w5 hb5 hg5 hs5 => ?_)
 obtain ⟨fa, fc, rfl, _⟩ := hsq.shape
 refine wl_storeBAgg (vs := [.slice fa (m.fields.map fldD).length fc, .int .i64 m.flex]) rfl rfl rfl tz_msg rfl hb5 rfl (fun w6 hb6 hg6 hs6 => ?_)
 have hw46 : Below w4.heap.size w4 w6 := (below_of hg5 (Nat.le_refl _) (by simp)).trans (below_of hg6 (by omega) (by intro q hq; simp at hq; omega))
 have hz46 := hw46.size
 have hw16 := hw14.trans (hw46.mono (by omega))
 have hw6 := hw4.trans (hw46.mono (by omega))
 have hz6 := hw6.size
 have hv : n % (most + 1) ≤ most := by have := Nat.mod_lt n (show most + 1 > 0 by omega); omega
 generalize n % (most + 1) = v at hv ⊢
 have hll := len_ok t ht hsm (v : Int) (m.flexible (v : Int))
 have hsq6 := hsq.below hw46 hz46
 have ht6 := hrep.below hw6 (Nat.le_refl _)
 have hb16 : Box w6 w.heap.size [.int .i64 t.n, sv2, .bool t.nul, lv, uv] 26 := hb1.below hw16 hb1.lt
 obtain ⟨W, hW⟩ : ∃ W, W = wPart (v : Int) (m.flexible (v : Int)) m.fields t := ⟨_, rfl⟩
 have hWl : W.length ≤ lim := by rw [hW]; omega
 repeat first|(with_reducible first|apply wc_seq|apply wl_nil|apply qk_thn)|((with_reducible apply ws);exact rfl;exact rfl)
 have hbt : ∀ w', Below w6.heap.size w6 w' → Box w' w.heap.size [.int .i64 t.n, sv2, .bool t.nul, lv, uv] 26 := fun w' h => hb16.below h hb16.lt
 have hbm : ∀ w', Below w6.heap.size w6 w' → Box w' w4.heap.size [.slice fa (m.fields.map fldD).length fc, .int .i64 m.flex] 31 := fun w' h => hb6.below h hb6.lt
 refine wc_par [(0, .int .i64 (v : Int)), (1, .pointer (some ⟨w4.heap.size, 0 + 0, none⟩)), (2, .slice fa (m.fields.map fldD).length fc), (3, .int .i64 (v : Int)), (4, .agg ([.int .i64 t.n, sv2, .bool t.nul, lv, uv] : List Value).toArray), (8, .agg ([.slice fa (m.fields.map fldD).length fc, .int .i64 m.flex] : List Value).toArray), (9, .int .i64 (v : Int)), (10, .agg ([.int .i64 t.n, sv2, .bool t.nul, lv, uv] : List Value).toArray)] [13, 12, 11, 7, 6, 5]
  (fun vals w' => Below w6.heap.size w6 w' ∧ match vals with
   | [] => True
   | [u] => ∃ cs : List Value, u = .agg cs.toArray ∧ Rep (Lo w'.heap.size) w' (treeD (fitP (v : Int) m.fields t)) cs
   | [u, _] => ∃ cs : List Value, u = .agg cs.toArray ∧ Rep (Lo w'.heap.size) w' (treeD (fitP (v : Int) m.fields t)) cs
   | [u, _, _] => Own w' w6.heap.size 5 u W
   | [u, u7, _, _] => Own w' w6.heap.size 5 u7 W ∧ Own w' w6.heap.size 5 u W
   | u :: _ => u = .bool true)
  mixed rfl rfl rfl rfl rfl (by show ([0,1,2,3,4,8,9,10] : List Nat).Nodup; decide) rfl rfl (by decide) rfl rfl rfl rfl ⟨(Below.refl _ w6).drew, trivial⟩ ?_ ⟨?_, ?_, ?_, ?_, ?_, ?_, trivial⟩ ?_
 ·intro p hp vals w' hC a k
  simp only [List.mem_cons, List.not_mem_nil, or_false] at hp
  rcases hp with rfl | rfl | rfl | rfl | rfl | rfl | rfl | rfl
  ·exact gv rfl rfl (rn_move k rfl)
  ·exact gv rfl rfl (rn_fieldAddr k rfl fo_msg0)
  ·exact gv rfl rfl (rn_load k rfl to_flds ((hbm _ hC.1).cell0 (i := 0) rfl))
  ·exact gv rfl rfl (rn_move k rfl)
  ·exact gv rfl rfl (rn_loadBAgg k rfl ta_tree (hbt _ hC.1))
  ·exact gv rfl rfl (rn_loadBAgg k rfl ta_msg (hbm _ hC.1))
  ·exact gv rfl rfl (rn_move k rfl)
  ·exact gv rfl rfl (rn_loadBAgg k rfl ta_tree (hbt _ hC.1))
 ·rintro vals w' hvl ⟨hb', hC⟩ a k
  match vals, hvl with
  | [v12, v11, v7, v6, v5], _ => exact ⟨_, rfl, does_assign k rfl ⟨hb', hC⟩⟩
 ·rintro vals w' hvl ⟨hb', hC⟩ a k
  match vals, hvl with
  | [v11, v7, v6, v5], _ =>
   obtain ⟨ho7, ho11⟩ := hC
   refine ⟨_, rfl, does_call k rfl (by kernel_rfl) ((fn_same _ _ _ _ w' ho7.bytes ho11.bytes hWl hWl).mono ?_)⟩
   rintro e w'' ⟨v, rfl, hb'', rfl⟩
   exact ⟨_, rfl, hb'.trans (hb''.mono hb'.size), by simp⟩
 ·rintro vals w' hvl ⟨hb', hC⟩ a k
  match vals, hvl with
  | [v7, v6, v5], _ =>
   simp only [] at hC
   have hs' := hb'.size
   refine ⟨_, rfl, does_call k rfl (by kernel_rfl) ((fn_write m m_ok (v : Int) t w6.heap.size w' _ _ ht (by omega) (hsq6.below hb' (Nat.le_refl _)) (Rep.below (hrep.below hw6 hz6) hb' (Nat.le_refl _)) (by show (wPart _ _ _ _).length ≤ lim; rw [← hW]; exact hWl)).mono ?_)⟩
   rintro e w'' ⟨u, rfl, hb'', ho⟩
   have ho' : Own w'' w'.heap.size 5 u W := by rw [hW]; exact ho
   exact ⟨u, rfl, hb'.trans (hb''.mono hs'), Own.below hC hb'', ho'.mono hs'⟩
 ·rintro vals w' hvl ⟨hb', hC⟩ a k
  match vals, hvl with
  | [v6, v5], _ =>
   obtain ⟨cs, rfl, hr⟩ := hC
   have hs' := hb'.size
   refine ⟨_, rfl, does_call k rfl (by kernel_rfl) ((fn_make v hv t ht w' cs hr (by rw [← hW]; exact hWl)).mono ?_)⟩
   rintro e w'' ⟨u, rfl, hb'', ho⟩
   have ho' : Own w'' w'.heap.size 5 u W := by rw [hW]; exact ho
   exact ⟨u, rfl, hb'.trans (hb''.mono hs'), ho'.mono hs'⟩
 ·rintro vals w' hvl ⟨hb', hC⟩ a k
  match vals, hvl with
  | [v5], _ =>
   obtain ⟨cs, rfl, hr⟩ := hC
   have hbig := fitP_big (v : Int) m.fields tabG_ok len_ok1 t ht false
   refine ⟨_, rfl, does_call k rfl (by kernel_rfl) ((Impl.given_ok (fitP (v : Int) m.fields t) w'.heap.size w' cs hbig.1 hbig.2 (Nat.le_refl _) hr).mono ?_)⟩
   rintro e w'' ⟨u, rfl, hb'', cs', rfl, hr'⟩
   exact ⟨_, rfl, hb'.trans (hb''.mono hb'.size), cs', rfl, hr'.up (fun r h => h.2) (fun _ _ => rfl)⟩
 ·rintro vals w' hvl ⟨hb', hC⟩ a k
  match vals, hvl with
  | [], _ =>
   have hs' := hb'.size
   refine ⟨_, rfl, does_call k rfl (by kernel_rfl) ((fit_ok m.fields m_ok (v : Int) t w6.heap.size w' _ _ ht (by omega) (hsq6.below hb' (Nat.le_refl _)) (Rep.below (hrep.below hw6 hz6) hb' (Nat.le_refl _))).mono ?_)⟩
   rintro e w'' ⟨u, rfl, hb'', cs', rfl, hr'⟩
   exact ⟨_, rfl, hb'.trans (hb''.mono hs'), cs', rfl, hr'.up (fun r h => h.2) (fun _ _ => rfl)⟩
 ·rintro vals w' hvl ⟨hb', hC⟩
  match vals, hvl with
  | [v13, v12, v11, v7, v6, v5], _ =>
   simp only [] at hC
   subst hC
   refine qk_thn ?_
   repeat (with_reducible apply wc_ret)
   exact qk_ret1 rfl rfl ⟨_, rfl, hw6.trans (hb'.mono hw6.size), rfl⟩
end
end Go.Proofs.YtgpnpfiafcakfaaGreat.BShareAcknowledgeRequest

namespace Go.Proofs.YtgpnpfiafcakfaaGreat
open Go Go.RowKit Go.ChangeShapes Go.WideShapes Go.ChangeAt
theorem row_at {W : World} {a : Addr} {sz len : Nat} {f : Nat → List Value} (hsz : 0 < sz) (hlen : 0 < len)
  (hf : ∀ i, i < len → (f i).length = sz ∧ ∀ j v, (f i)[j]? = some v → W.cell? ((a.add (i * sz)).add j) = some v) :
  ∃ b off, a = ⟨b, off, none⟩ ∧ b < W.heap.size ∧ CellsAt W b off ((List.range len).flatMap f) := by
 have h0 := hf 0 hlen
 obtain ⟨b, off, spot⟩ := a
 have hx : ∃ v, (f 0)[0]? = some v := by
  cases hv : (f 0)[0]? with
  | none => rw [List.getElem?_eq_none_iff] at hv; omega
  | some v => exact ⟨v, rfl⟩
 obtain ⟨v0, hv0⟩ := hx
 have hc0 := h0.2 0 v0 hv0
 have hspot : spot = none := by simpa [Addr.add] using World.cell?_spot hc0
 subst hspot
 simp only [Nat.zero_mul] at hc0
 have hadd : ∀ n m, (Addr.add (Addr.add ⟨b, off, none⟩ n) m) = ⟨b, off + n + m, none⟩ := fun n m => by rw [add_plain ⟨b, off, none⟩ n rfl]; rw [add_plain _ _ rfl]
 rw [hadd] at hc0
 have hobj : ∃ arr e fz, W.heap[b]? = some (.cells arr e fz) := by
  unfold World.cell? at hc0
  split at hc0
  ·rename_i c e fz hh; exact ⟨c, e, fz, hh⟩
  ·cases hc0
 obtain ⟨arr, e, fz, hh⟩ := hobj
 have hall : ∀ i j v, i < len → (f i)[j]? = some v → arr[off + i * sz + j]? = some v := by
  intro i j v hi hv
  have := (hf i hi).2 j v hv
  rw [hadd] at this
  simpa [World.cell?, hh] using this
 have hflat : ∀ n, n ≤ len → ((List.range n).flatMap f).length = n * sz ∧ ∀ q v, ((List.range n).flatMap f)[q]? = some v → arr[off + q]? = some v := by
  intro n
  induction n with
  | zero => intro _; simp
  | succ n ih =>
   intro hn
   obtain ⟨hl, hq⟩ := ih (by omega)
   rw [List.range_succ, List.flatMap_append]
   simp only [List.flatMap_cons, List.flatMap_nil, List.append_nil]
   refine ⟨by rw [List.length_append, hl, (hf n (by omega)).1, Nat.succ_mul], fun q v hv => ?_⟩
   by_cases hlt : q < n * sz
   ·rw [List.getElem?_append_left (by omega)] at hv; exact hq q v hv
   ·rw [List.getElem?_append_right (by omega), hl] at hv
    have := hall n (q - n * sz) v (by omega) hv
    rwa [show off + n * sz + (q - n * sz) = off + q from by omega] at this
 obtain ⟨hl, hq⟩ := hflat len (Nat.le_refl _)
 refine ⟨b, off, rfl, (Array.getElem?_eq_some_iff.1 hh).1, arr, e, fz, hh, ?_, hq⟩
 have hpos : 0 < len * sz := Nat.mul_pos hlen hsz
 have hlast : ∃ v, ((List.range len).flatMap f)[len * sz - 1]? = some v := by
  cases hv : ((List.range len).flatMap f)[len * sz - 1]? with
  | none => rw [List.getElem?_eq_none_iff] at hv; omega
  | some v => exact ⟨v, rfl⟩
 obtain ⟨v, hv⟩ := hlast
 have := (Array.getElem?_eq_some_iff.1 (hq _ v hv)).1
 rw [hl]; omega
theorem sum_le : ∀ (a b : List Nat), a.length = b.length → (∀ i (h : i < a.length) (h' : i < b.length), a[i] ≤ b[i]) → a.sum ≤ b.sum
 | [], b, _, _ => by simp
 | x :: a, [], h, _ => by simp at h
 | x :: a, y :: b, h, hall => by
  have h0 := hall 0 (by simp) (by simp)
  have h1 := sum_le a b (by simpa using h) (fun i hi hi' => by have := hall (i + 1) (by simpa using hi) (by simpa using hi'); simpa using this)
  simp only [List.getElem_cons_zero] at h0
  simp only [List.sum_cons]; omega
section
variable {H : Type} {enc : TypeId × Value → H} {P : Program} {W : World} {base : Nat} {spare : Nat → Bool} {held : Bool}
theorem open_sq {α : Type} {t e sz : Nat} (ht : P.underlying t = some (.slice e)) (hc : P.cellsOf e = sz) (hsz : 0 < sz) (g : α → D) (φ : α → Prop) (f0 : α → Nat) (bk : DataW H → Nat) (hnil : 1 ≤ bk .nil) (hsl : ∀ es sp : List (DataW H), (es.map bk).sum + 1 ≤ bk (.slice es sp)) {fuel : Nat} {cs : List Value} {x : DataW H × List MemPlace}
  (h : DataW.trod enc P W base spare held fuel t cs = some x)
  (hel : ∀ n cs' x', n < fuel → DataW.trod enc P W base spare held n e cs' = some x' → ∃ y : α, Rep (Lo W.heap.size) W (g y) cs' ∧ φ y ∧ f0 y ≤ bk x'.1) :
  ∃ (l : List α) (v : Value), cs = [v] ∧ l.length ≤ maxLen ∧ Sq W.heap.size W v (l.map g) ∧ (∀ y ∈ l, φ y) ∧ (l.map f0).sum + 1 ≤ bk x.1 := by
 rcases DataW.trod_slice ht h with ⟨rfl, rfl⟩ | ⟨a, len, cap, elems, rest, n, hfu, rfl, rfl, hb, hle, hcap, hlen, hels, _, _⟩
 ·exact ⟨[], _, rfl, by simp, rep_nil _ _, by simp, by simpa using hnil⟩
 ·have hone : ∀ i : Fin len, ∃ p : List Value × α, W.cells? base (a.add (i.1 * sz)) sz = some p.1 ∧ Rep (Lo W.heap.size) W (g p.2) p.1 ∧ φ p.2 ∧ f0 p.2 ≤ bk (elems[i.1]'(by have := i.2; omega)).1 := by
   intro ⟨i, hi⟩
   have h1 := hels i hi
   rw [List.getElem?_eq_getElem (by omega), hc] at h1
   obtain ⟨cs', h2, h3⟩ := Option.bind_eq_some_iff.1 h1
   obtain ⟨y, hy, hφ⟩ := hel n cs' _ (by omega) h3
   exact ⟨(cs', y), h2, hy, hφ⟩
  let F : Fin len → List Value × α := fun i => Classical.choose (hone i)
  have hF : ∀ i : Fin len, W.cells? base (a.add (i.1 * sz)) sz = some (F i).1 ∧ Rep (Lo W.heap.size) W (g (F i).2) (F i).1 ∧ φ (F i).2 ∧ f0 (F i).2 ≤ bk (elems[i.1]'(by have := i.2; omega)).1 := fun i => Classical.choose_spec (hone i)
  let f : Nat → List Value := fun i => if hi : i < len then (F ⟨i, hi⟩).1 else []
  let l : List α := List.ofFn fun i => (F i).2
  have hll : l.length = len := by simp [l]
  have hφ : ∀ y ∈ l, φ y := by
   intro y hy
   obtain ⟨i, hi⟩ := (List.mem_ofFn).1 hy
   rw [← hi]; exact (hF i).2.2.1
  have hsum : (l.map f0).sum + 1 ≤ bk (.slice (elems.map (·.1)) (rest.map (·.1))) := by
   refine Nat.le_trans (Nat.succ_le_succ (sum_le (l.map f0) ((elems.map (·.1)).map bk) (by simp [hll, hlen]) (fun i hi hi' => ?_))) (hsl _ _)
   have hi2 : i < len := by simpa [hll] using hi
   have := (hF ⟨i, hi2⟩).2.2.2
   simpa [l] using this
  refine ⟨l, _, rfl, by rw [hll]; omega, ?_, hφ, hsum⟩
  simp only [Sq, Rep]
  refine ⟨some a, cap, by simp [hll], by simpa [hll] using hle, ?_⟩
  by_cases hpos : 0 < len
  ·have hfi : ∀ i, i < len → (f i).length = sz ∧ ∀ j v, (f i)[j]? = some v → W.cell? ((a.add (i * sz)).add j) = some v := by
    intro i hi
    have h1 := (hF ⟨i, hi⟩).1
    have h2 := World.cells?_some h1
    simp only [f, dif_pos hi]
    refine ⟨h2.2.1, fun j v hj => ?_⟩
    have := h2.2.2 j (by have := (List.getElem?_eq_some_iff.1 hj).1; omega)
    rw [this]; exact hj
   obtain ⟨b, off, rfl, hlt, hcells⟩ := row_at hsz hpos hfi
   refine .inr ⟨b, off, _, rfl, hlt, hcells, ?_⟩
   have hreps : ∀ n, n ≤ len → Reps (Lo W.heap.size) W ((l.take n).map g) ((List.range n).flatMap f) := by
    intro n
    induction n with
    | zero => intro _; simp [Reps]
    | succ n ih =>
     intro hn
     have hnl : n < l.length := by omega
     rw [List.take_succ_eq_append_getElem hnl, List.map_append, List.range_succ, List.flatMap_append]
     refine (Reps.app _ _ _).2 ⟨_, _, rfl, ih (by omega), ?_⟩
     simp only [List.map_cons, List.map_nil, List.flatMap_cons, List.flatMap_nil, List.append_nil, Reps]
     refine ⟨f n, [], by simp, ?_, rfl⟩
     have hln : l[n] = (F ⟨n, by omega⟩).2 := by simp [l]
     have hfn : f n = (F ⟨n, by omega⟩).1 := by simp only [f]; rw [dif_pos (by omega)]
     rw [hln, hfn]; exact (hF ⟨n, by omega⟩).2.1
   have := hreps len (Nat.le_refl _)
   rwa [List.take_of_length_le (by omega)] at this
  ·have : l = [] := List.length_eq_zero_iff.1 (by omega)
   left; rw [this]; rfl
end
end Go.Proofs.YtgpnpfiafcakfaaGreat

namespace Go.Proofs.YtgpnpfiafcakfaaGreat
open Go Go.RowKit Go.ChangeShapes Go.WideShapes Go.ChangeAt
theorem co_i64 : Tryz.prog.cellsOf 2 = 1 := by kernel_rfl
theorem co_u8 : Tryz.prog.cellsOf 5 = 1 := by kernel_rfl
theorem co_u32 : Tryz.prog.cellsOf 62 = 1 := by kernel_rfl
theorem co_bool : Tryz.prog.cellsOf 4 = 1 := by kernel_rfl
theorem co_bytes : Tryz.prog.cellsOf 22 = 1 := by kernel_rfl
theorem co_trees : Tryz.prog.cellsOf 23 = 1 := by kernel_rfl
theorem co_tags : Tryz.prog.cellsOf 24 = 1 := by kernel_rfl
theorem co_tree : Tryz.prog.cellsOf 26 = 5 := by kernel_rfl
theorem co_tag : Tryz.prog.cellsOf 64 = 2 := by kernel_rfl
theorem len2 {α : Type} {l : List α} (h : l.length = 2) : ∃ a b, l = [a, b] := by
 match l, h with
 | [a, b], _ => exact ⟨a, b, rfl⟩
theorem len5 {α : Type} {l : List α} (h : l.length = 5) : ∃ a b c d e, l = [a, b, c, d, e] := by
 match l, h with
 | [a, b, c, d, e], _ => exact ⟨a, b, c, d, e, rfl⟩
section
set_option maxRecDepth 100000
variable {H : Type} {enc : TypeId × Value → H} {W : World} {base : Nat} {spare : Nat → Bool} {held : Bool}
theorem bk_all {l : List (DataW H)} : Rows.uptoBulkAll l = (l.map Rows.uptoBulk).sum := by
 induction l with
 | nil => rfl
 | cons x l ih => simp only [Rows.uptoBulkAll, List.map_cons, List.sum_cons, ih]
theorem bk_sl (es sp : List (DataW H)) : (es.map Rows.uptoBulk).sum + 1 ≤ Rows.uptoBulk (.slice es sp) := by
 simp only [Rows.uptoBulk, bk_all]; omega
theorem bk_agg (es : List (DataW H)) : (es.map Rows.uptoBulk).sum + 1 ≤ Rows.uptoBulk (.agg es) := by
 simp only [Rows.uptoBulk, bk_all]; omega
theorem bk_int (k : IntKind) (n : Int) : 1 ≤ Rows.uptoBulk (H := H) (.lit (.int k n)) := by simp [Rows.uptoBulk]
theorem bk_nil : 1 ≤ Rows.uptoBulk (H := H) .nil := by simp [Rows.uptoBulk]
theorem wts_sum (l : List Tree) : Tree.wts l = (l.map Tree.wt).sum := by
 induction l with
 | nil => rfl
 | cons x l ih => simp only [Tree.wts, List.map_cons, List.sum_cons, ih]
theorem ones_sum {α : Type} (l : List α) : (l.map fun _ => 1).sum = l.length := by
 induction l with
 | nil => rfl
 | cons x l ih => simp only [List.map_cons, List.sum_cons, List.length_cons, ih]; omega
theorem open_bytes {fuel : Nat} {cs : List Value} {x : DataW H × List MemPlace} (h : DataW.trod enc Tryz.prog W base spare held fuel 22 cs = some x) :
  ∃ (s : List UInt8) (v : Value), cs = [v] ∧ s.length ≤ maxLen ∧ Sq W.heap.size W v (s.map byteD) ∧ s.length + 1 ≤ Rows.uptoBulk x.1 := by
 obtain ⟨l, v, h1, h2, h3, _, h5⟩ := open_sq (e := 5) (sz := 1) Tryz.underlying22 co_u8 (by omega) byteD (fun _ => True) (fun _ => 1) Rows.uptoBulk bk_nil bk_sl h (fun n cs' x' _ hx => by
  obtain ⟨m, rfl, hxe, hw⟩ := DataW.trod_int Tryz.underlying5 hx
  have hm : 0 ≤ m ∧ m ≤ 255 := by simpa [Lit.wf, IntKind.min, IntKind.max, IntKind.signed, IntKind.bits] using hw
  refine ⟨UInt8.ofNat m.toNat, ?_, trivial, by rw [hxe]; exact bk_int _ _⟩
  simp only [byteD, Rep]
  rw [byteNat _ (by omega)]
  congr 2
  omega)
 rw [ones_sum] at h5
 exact ⟨l, v, h1, h2, h3, h5⟩
theorem open_tags {fuel : Nat} {cs : List Value} {x : DataW H × List MemPlace} (h : DataW.trod enc Tryz.prog W base spare held fuel 24 cs = some x) :
  ∃ (u : List (Nat × List UInt8)) (v : Value), cs = [v] ∧ u.length ≤ maxLen ∧ Sq W.heap.size W v (u.map tagD) ∧ (∀ kv ∈ u, kv.1 < 4294967296) ∧ tagsW u + 1 ≤ Rows.uptoBulk x.1 := by
 refine open_sq (e := 64) (sz := 2) Tryz.underlying24 co_tag (by omega) tagD (fun kv => kv.1 < 4294967296) (fun kv => kv.2.length + 1) Rows.uptoBulk bk_nil bk_sl h (fun n cs' x' _ hx => ?_)
 obtain ⟨xs, k, _, rfl, hl, hlen, hf⟩ := DataW.trod_struct Tryz.underlying64 hx
 rw [co_tag] at hl
 obtain ⟨v0, v1, rfl⟩ := len2 hl
 ·have hxl : xs.length = 2 := hlen
  have h0 := hf 0 _ rfl
  have h1 := hf 1 _ rfl
  rw [List.getElem?_eq_getElem (by omega)] at h0 h1
  simp [co_u32, co_bytes] at h0 h1
  obtain ⟨m, hv0, _, hw⟩ := DataW.trod_int Tryz.underlying62 h0
  obtain ⟨s, v, hv1, _, hs, hsb⟩ := open_bytes h1
  have hm : 0 ≤ m ∧ m ≤ 4294967295 := by simpa [Lit.wf, IntKind.min, IntKind.max, IntKind.signed, IntKind.bits] using hw
  simp only [List.cons.injEq, and_true] at hv0 hv1
  subst hv0; subst hv1
  refine ⟨(m.toNat, s), ?_, by simp only []; omega, ?_⟩
  rotate_left
  ·obtain ⟨a, b, rfl⟩ := len2 hxl
   ·have := bk_agg [a.1, b.1]
    simp only [List.map_cons, List.map_nil, List.sum_cons, List.sum_nil, List.getElem_cons_succ, List.getElem_cons_zero] at this hsb ⊢
    omega
  have : (.int .u32 m : Value) = .int .u32 ((m.toNat : Nat) : Int) := by congr 1; omega
  rw [this]
  exact rep_tag hs
theorem open_tree : ∀ (fuel : Nat) (cs : List Value) (x : DataW H × List MemPlace), DataW.trod enc Tryz.prog W base spare held fuel 26 cs = some x →
  ∃ t : Tree, Rep (Lo W.heap.size) W (treeD t) cs ∧ t.ok ∧ t.wt ≤ Rows.uptoBulk x.1 := by
 intro fuel
 induction fuel using Nat.strongRecOn with
 | _ fuel ih =>
  intro cs x h
  obtain ⟨xs, k, hfu, rfl, hl, hlen, hf⟩ := DataW.trod_struct Tryz.underlying26 h
  rw [co_tree] at hl
  obtain ⟨v0, v1, v2, v3, v4, rfl⟩ := len5 hl
  ·have hxl : xs.length = 5 := hlen
   have h0 := hf 0 _ rfl
   have h1 := hf 1 _ rfl
   have h2 := hf 2 _ rfl
   have h3 := hf 3 _ rfl
   have h4 := hf 4 _ rfl
   rw [List.getElem?_eq_getElem (by omega)] at h0 h1 h2 h3 h4
   simp [co_i64, co_bytes, co_bool, co_trees, co_tags] at h0 h1 h2 h3 h4
   obtain ⟨n, hv0, hb0, hw0⟩ := DataW.trod_int Tryz.underlying2 h0
   obtain ⟨s, sv, hv1, hsl, hs, hb1⟩ := open_bytes h1
   obtain ⟨b, hv2, hb2⟩ := DataW.trod_bool Tryz.underlying4 h2
   obtain ⟨l, lv, hv3, _, hl3, hok, hb3⟩ := open_sq (e := 26) (sz := 5) Tryz.underlying23 co_tree (by omega) treeD (fun t => t.ok) Tree.wt Rows.uptoBulk bk_nil bk_sl h3 (fun n cs' x' hn hx => ih n (by omega) cs' x' hx)
   obtain ⟨u, uv, hv4, _, hu, huk, hb4⟩ := open_tags h4
   simp only [List.cons.injEq, and_true] at hv0 hv1 hv2 hv3 hv4
   subst hv0; subst hv1; subst hv2; subst hv3; subst hv4
   refine ⟨.mk n s b l u, rep_tree hs hl3 hu, ?_, ?_⟩
   rotate_left
   ·obtain ⟨a0, a1, a2, a3, a4, rfl⟩ := len5 hxl
    ·have := bk_agg [a0.1, a1.1, a2.1, a3.1, a4.1]
     simp only [List.map_cons, List.map_nil, List.sum_cons, List.sum_nil, List.getElem_cons_succ, List.getElem_cons_zero] at this hb0 hb1 hb2 hb3 hb4 ⊢
     simp only [Tree.wt, wts_sum]
     omega
   simp only [Tree.ok]
   refine ⟨by simp only [maxLen] at hsl; omega, huk, ?_, by simpa [Lit.wf, IntKind.min, IntKind.max, IntKind.signed, IntKind.bits] using hw0⟩
   have : ∀ l : List Tree, (∀ t ∈ l, t.ok) → Tree.oks l := by
    intro l
    induction l with
    | nil => intro _; simp [Tree.oks]
    | cons y l ih2 => intro h; simp only [Tree.oks]; exact ⟨h y (by simp), ih2 (fun t ht => h t (by simp [ht]))⟩
   exact this l hok
end
end Go.Proofs.YtgpnpfiafcakfaaGreat

namespace Go.Proofs.YtgpnpfiafcakfaaGreat.BShareAcknowledgeRequest
open Go Go.RowKit Go.ChangeShapes Go.WideShapes Go.ChangeAt
theorem own : ownKnob Tryz.prog.godebug = none := by kernel_rfl
theorem laidOut : laidOutB Tryz.prog = true := by kernel_rfl
set_option maxRecDepth 100000 in
theorem lifted (os : Os) (started : os.Started) (H : Type) (enc : TypeId × Value → H) (F : Stop.Interp) :
  ReturnsInHanded {} Tryz.checked os 3 .any ((Rows.OpenSpec.upto Rows.fnMakeShareAcknowledgeRequestSpec).pre6 enc Tryz.prog Tryz.f3 Rows.fnMakeShareAcknowledgeRequestUptoRow.domain false) (((Rows.OpenSpec.upto Rows.fnMakeShareAcknowledgeRequestSpec).at F).post enc Tryz.prog Tryz.f3 false true false false) := by
 refine returnsInHanded_of_cond (C := Tryz.checked) (s := Rows.OpenSpec.upto Rows.fnMakeShareAcknowledgeRequestSpec) (k := Rows.uptoSmall) rfl own started (by kernel_rfl) Tryz.func3
  (OpenSpec.witness (enc := enc) (C := Tryz.checked) (s := Rows.OpenSpec.upto Rows.fnMakeShareAcknowledgeRequestSpec) (k := Rows.uptoSmall) rfl false ⟨#[], #[.int .u8 0, .agg #[.int .i64 0, .slice none 0 0, .bool false, .slice none 0 0, .slice none 0 0]], []⟩ 8 (by kernel_rfl) (by kernel_rfl) (by kernel_rfl)
   (x := ([.lit (.int .u8 0), .agg [.lit (.int .i64 0), .nil, .lit (.bool false), .nil, .nil]], [], [])) (by kernel_rfl) rfl (by kernel_rfl)) ?_
 intro W base args ds gs before hval0 hW _ hk _
 have hsmall := of_decide_eq_true hk
 suffices key : Calls Tryz.prog 3 args W fun e W' => ∃ v, e = .returned v ∧ Rows.fnMakeShareAcknowledgeRequestSpec.post enc Tryz.prog Tryz.f3 false true false false W args v W' from key
 have hval : ∀ (j : Nat) t v, Tryz.f3.params[j]? = some t → args[j]? = some v → Value.okWide Tryz.prog W .any base t v := hval0
 have hW' := hW
 obtain ⟨p, q, hA0, hV, rfl, hfz, hnd⟩ := hW
 have hA : DataW.TrodAll enc Tryz.prog W 0 (fun _ => true) true Tryz.f3.params.toList args.toList ds p := hA0
 rw [Tryz.params3] at hA hval
 obtain ⟨v0, v1, d0, d1, p0, p1, rfl, rfl, rfl, h0, h1⟩ := trodAll_two hA
 obtain ⟨rfl, rfl⟩ := trodVars_none hV
 obtain ⟨a, rfl, rfl, rfl, wa⟩ := open_int Tryz.underlying5 (hval 0 5 v0 rfl rfl) h0
 have hv1 := hval 1 26 v1 rfl rfl
 unfold Value.okWide at hv1
 rw [Tryz.underlying26] at hv1
 obtain ⟨cs, rfl, _⟩ := hv1
 obtain ⟨fuel, hfu⟩ := id h1
 obtain ⟨t, hrep, hok, hwt⟩ := open_tree fuel _ _ hfu
 clear hA0 hval0
 simp only [List.append_nil, List.nil_append] at hW'
 have ha : 0 ≤ a ∧ a ≤ 255 := by simpa [Lit.wf, IntKind.min, IntKind.max, IntKind.signed, IntKind.bits] using wa
 have hsm : t.wt ≤ 1048576 := by simp only [List.append_nil, List.cons_append, List.nil_append, Rows.uptoBulkAll] at hsmall; simp only [] at hwt; omega
 have hlaw := fn_law a.toNat (by omega) t hok hsm W cs.toList hrep
 rw [show ((a.toNat : Nat) : Int) = a from by omega] at hlaw
 simp only [Array.toArray_toList] at hlaw
 refine Calls.mono hlaw fun e W' he => ?_
 obtain ⟨v, rfl, hb, rfl⟩ := he
 refine ⟨_, rfl, _, _, _, [], p1, [], hW', trodAll_mk1 (shut_bool Tryz.underlying4 _), ?_, ?_, hb.frame _, fun h => by cases h⟩
 ·exact trodAll_mk2 (shut_int Tryz.underlying5 wa) (Below.trod laidOut (by kernel_rfl) (Nat.le_of_ble_eq_true (by kernel_rfl)) h1 hb (fun x hx => hW'.lt x hx))
 ·rfl
set_option maxHeartbeats 400000000 in
theorem holds : Rows.FnMakeShareAcknowledgeRequestUptoSaid :=
 OpenClaim.holds_of_cond 3 Tryz.f3 rfl rfl rfl rfl rfl rfl rfl ⟨rfl, rfl, rfl, rfl, rfl⟩ rfl rfl rfl rfl rfl (by kernel_rfl) Tryz.func3 (by unfold joinedFacts; simp only [Bool.and_eq_true]; and_intros <;> as_aux_lemma => kernel_rfl)
  (of_decide_eq_true (by kernel_rfl)) (by unfold Func.isWrapper; first | (rw [if_pos (by decide +kernel)]; kernel_rfl) | (rw [if_neg (by decide +kernel)]; exact ⟨rfl, rfl⟩))
  (fun os started H enc _ F => lifted os started H enc F)
end Go.Proofs.YtgpnpfiafcakfaaGreat.BShareAcknowledgeRequest
