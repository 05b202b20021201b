/- A part of the proof of FnUnsafeDescribeConfigsResponseCardSaid: what its texts prove stands at the head of each. Conditions: those that each theorem names. -/
import Derived.Test.YtgpnpfiafcakfaaDoorPartB
import Derived.Test.YtgpnpfiafcakfaaDoorPartA
import Derived.Deep.LoopGhost
import Derived.Laws.CopyRow
import Derived.Laws.OwnMore
set_option linter.all false
namespace Go.Proofs.YtgpnpfiafcakfaaDoor
open Go Go.RowKit
structure Fr (rb : Nat) (it it' : Wi) (R R' : List Value) (w w' : World) : Prop where
 b : it'.b = it.b
 lo : it'.lo = it.lo
 pre : it'.pre = it.pre
 post : it'.post = it.post
 e : it'.e = it.e
 chg : Chg (fun j => j = rb ∨ j = it.b ∨ it.lo ≤ j) w w'
 more : ∃ X, R' = R ++ X
theorem Fr.refl (rb : Nat) (it : Wi) (R : List Value) (w : World) : Fr rb it it R R w w := ⟨rfl, rfl, rfl, rfl, rfl, Chg.refl _ _, [], by simp⟩
theorem Fr.trans {rb : Nat} {x y z : Wi} {R R' R'' : List Value} {w w' w'' : World} (h : Fr rb x y R R' w w') (k : Fr rb y z R' R'' w' w'') : Fr rb x z R R'' w w'' := by
 obtain ⟨X, hX⟩ := h.more
 obtain ⟨Y, hY⟩ := k.more
 refine ⟨k.b.trans h.b, k.lo.trans h.lo, k.pre.trans h.pre, k.post.trans h.post, k.e.trans h.e, h.chg.trans (k.chg.wide (fun j hj => by rw [h.b, h.lo] at hj; exact hj)), X ++ Y, by rw [hY, hX, List.append_assoc]⟩
section
variable {P : Program} {K : Kr} {N g rb sb : Nat} {ev : Value} {k : Nat} {rows : List (Nat × Nat × Nat)} {zs : List (Nat × List Value)} {S : RS} {Ad : List (Nat × Nat)} {R : List Value} {I : List Int} {it : Wi} {sst st0 st : Option (List UInt8)} {a : Act} {w : World}
theorem RAt.slot (H : RAt N g rb sb ev k rows zs S Ad R I it sst st0 st a w) {A : WA} {a' : Act} (kn : KnW N rb a' A Ad R I) : RAt N g rb sb ev k rows zs { S with A := A } Ad R I it sst st0 st a' w :=
 ⟨kn, H.ho, H.last, H.ad, H.lens, H.row, H.box, H.ds, H.cl, H.sh, H.cells, H.rdr, H.pd, H.fresh, H.rel, H.lo, H.ne, H.gl⟩
theorem guardR_ok {full : List Oper} {A : WA} {j : Nat} {b : Bool} (kn : KnW N rb a A Ad R I) (h : guardR full A j = some b) : yielded full.toArray a.tmps j = some b := by
 unfold guardR at h
 split at h
 ·rename_i t ht
  split at h
  ·rename_i b' hb
   cases h
   have h1 := kn.at_ t _ hb
   simp only [denW, Option.some.injEq] at h1
   have h2 : gt a t = .bool b := h1.symm
   simp only [gt] at h2
   unfold yielded
   have : (full.toArray[j]?).bind (·.dst) = some t := by simpa using ht
   rw [this]
   simp only [Option.bind_some]
   cases h3 : a.tmps[t]? with
   | none => rw [Array.getD_eq_getD_getElem?, h3] at h2; simp [undef] at h2
   | some v => rw [Array.getD_eq_getD_getElem?, h3] at h2; simp at h2; subst h2; rfl
  ·cases h
 ·cases h
theorem KnW.know {A : WA} (h : KnW N rb a A Ad R I) {t : Nat} {s : Wd} (e : denW rb Ad R I s = some (gt a t)) : KnW N rb a ((t, s) :: A) Ad R I := by
 refine ⟨h.size, h.defers, fun u s' e' => ?_⟩
 simp only [lkW] at e'
 cases hb : Nat.beq t u with
 | true => rw [hb] at e'; simp at e'; subst e'; rw [← beq_out hb]; exact e
 | false => rw [hb] at e'; exact h.at_ u s' e'
theorem RAt.next (H : RAt N g rb sb ev k rows zs S Ad R I it sst st0 st a w) {A : WA} {t : Nat} {h : Hi} {pd : Pd} {zs' : List (Nat × List Value)} {v : Value} {w' : World} {a' : Act} (hc : Chg (fun _ => False) w w') (hv : HiV R v h) (hl : LastV ev st v h) (hkn : KnW N rb a' A Ad R I) (hgt : gt a' t = v)
  (hpd : PdOk sb it.lo w' (R ++ [v]) it.ds it.cs zs' st0 st pd) : RAt N g rb sb ev k rows zs' { (({ S with A := A } : RS).new t h) with pd := pd } Ad (R ++ [v]) I it sst st0 st a' w' := by
 have hs : ∀ j : Nat, False → j < it.lo ∧ j ≠ sb := fun j h => h.elim
 refine ⟨?_, H.ho.give hv, last_give H.ho.1 hl, H.ad, H.lens, ?_, H.box.chg hc id, Dk.up H.ds hc hs, H.cl, H.sh, H.cells, H.rdr.chg hc id id, hpd, H.fresh, H.rel, ⟨H.lo.1, H.lo.2.1, H.lo.2.2.1, Nat.le_trans H.lo.2.2.2 hc.size⟩, H.ne, ?_⟩
 ·have := (hkn.more [v]).know (t := t) (s := .res R.length) (by simp [denW, hgt])
  rw [H.ho.1] at this
  exact this
 ·intro q rest hq hk
  obtain ⟨n, cap, j, h1, h2⟩ := H.row q rest hq hk
  exact ⟨n, cap, j, get_more h1, h2⟩
 ·refine ⟨?_, H.gl.2⟩
  have h1 := H.gl.1
  have hg : w'.heap[g]? = w.heap[g]? := hc.block g (by have := H.lo.2.2.2; have := H.gl.2.2.1; omega) id
  simp only [World.cell?] at h1 ⊢
  rw [hg]; exact h1
theorem chg_alloc (w : World) (o : Obj) (S : Nat → Prop) : Chg S w (w.alloc o) := Chg.grown0 (grown_alloc w o)
theorem chg_drew (w : World) (S : Nat → Prop) : Chg S w w.drew := Chg.grown0 (grown_drew w none)
theorem agg_of {v : Value} (h : v.cells.size = 16) : v = .agg v.cells := by
 cases v <;> first | rfl | (simp [Value.cells] at h)
theorem uuid_size {sb lo : Nat} {w : World} {v : Value} {nd : List D} {st0 st : Option (List UInt8)} (h : Reps (Dk sb lo w) w nd v.cells.toList) (hr : RdRel .uuid st0 nd st) : v.cells.size = 16 := by
 have h1 := Reps.len _ _ h
 rw [← shs_width, hr.1] at h1
 simpa [shR] using h1
theorem varA_ok (H : RAt N g rb sb ev k rows zs S Ad R I it sst st0 st a w) {l : List Oper} {x : RS × List Oper} (hx : varA P N S l = some x) {ops : Array Oper} {Q : Exit → Act → World → Prop}
  (hq : ∀ v a' w', Chg (fun _ => False) w w' → RAt N g rb sb ev k rows zs x.1 Ad (R ++ [v]) I it sst st0 st a' w' → wpList P ops Q x.2 a' w') : wpList P ops Q l a w := by
 unfold varA at hx
 split at hx
 ·rename_i u t y1 p1 f1 t2 u2 xx y2 p2 f2 r
  split at hx
  ·rename_i n n' hpd hlk
   cases hc : Nat.beq n n' && Nat.beq u u2 && !Nat.beq u xx && Nat.blt u N && z16 P t && sizeIs P t2 16 with
   | false => rw [hc] at hx; cases hx
   | true =>
    rw [hc] at hx
    simp only [cond_true, Option.some.injEq] at hx
    subst hx
    simp only [Bool.and_eq_true] at hc
    obtain ⟨⟨⟨⟨⟨g1, g2⟩, g3⟩, g4⟩, g5⟩, g6⟩ := hc
    have := beq_out g1; subst this
    have := beq_out g2; subst this
    have g3' : u ≠ xx := by intro e; subst e; simp [Nat.beq_refl] at g3
    have hp := H.pd
    rw [hpd] at hp
    obtain ⟨v, nd, hv, hreps, hone, _, hrel⟩ := hp
    have hsz := uuid_size hreps hrel
    have hx0 : gt a xx = v := by
     have h1 := H.kn.at_ xx _ hlk
     simp only [denW, hv, Option.some.injEq] at h1
     exact h1.symm
    obtain ⟨z, hz, hzs⟩ : ∃ z : Array Value, (zeroValue t).run P w = .ok (.agg z) w ∧ z.size = 16 := by
     unfold z16 at g5
     split at g5
     ·rename_i i hi
      split at g5
      ·rename_i z hz; exact ⟨z, by simp [zeroValue, typeInfo, hi, hz], beq_out g5⟩
      ·cases g5
     ·cases g5
    refine st_of (o := ⟨some u, .alloc t, y1, p1, f1, none⟩) (v := .pointer (some ⟨w.heap.size, 0, none⟩)) (w' := w.alloc (.cells z t)) rfl (by simp [execOp, Instr.alloc, hz, newVar, newRow, Value.cells]) ?_
    have hal := chg_alloc w (.cells z t) (fun _ => False)
    have hbox : Box (w.alloc (.cells z t)) w.heap.size ([] ++ z.toList ++ []) t := by simpa using box_alloc w z.toList t
    have hb : u < a.tmps.size := by rw [H.kn.size]; exact Nat.le_of_ble_eq_true g4
    have e1 : (a.put (some u) (.pointer (some ⟨w.heap.size, 0, none⟩))).eval (.tmp u) = .pointer (some ⟨w.heap.size, 0, none⟩) := by rw [eval_tmp, gt_put_same _ _ _ hb]
    have e2 : (a.put (some u) (.pointer (some ⟨w.heap.size, 0, none⟩))).eval (.tmp xx) = v := by rw [eval_tmp, gt_put_ne _ _ _ _ (fun e => g3' e.symm)]; exact hx0
    refine st_storeSeg e1 e2 (vs := v.cells.toList) rfl (by rw [Array.length_toList, hsz]; exact g6) hone hbox rfl (by rw [Array.length_toList, Array.length_toList, hsz, hzs]) (fun w' hb' hg' => ?_)
    have hch : Chg (fun _ => False) w w' := ⟨hg'.os.trans hal.os, hg'.tape.trans hal.tape, hg'.output.trans hal.output, Nat.le_trans hal.size hg'.size, fun j hj hn => (hg'.block j (by have := hal.size; omega) (fun e => by simp only [Option.some.injEq] at e; omega)).trans (hal.block j hj hn)⟩
    have hs : ∀ j : Nat, False → j < it.lo ∧ j ≠ sb := fun j h => h.elim
    rw [put_none]
    refine hq (.pointer (some ⟨w.heap.size, 0, none⟩)) _ w' hch (H.next (A := dropW S.A u) (t := u) (h := .vr) (pd := .vr n S.H.length) (zs' := zs) hch trivial trivial (H.kn.putOff _) (gt_put_same _ _ _ hb) ?_)
    refine ⟨v, nd, w.heap.size, t, get_more hv, Dk.up hreps hch hs, hone, hrel, ?_, by simpa using hb', H.lo.2.2.2⟩
    rw [← H.ho.1]; simp
  ·cases hx
 ·cases hx
theorem newA_ok (H : RAt N g rb sb ev k rows zs S Ad R I it sst st0 st a w) {l : List Oper} {x : RS × List Oper} (hx : newA P N S l = some x) {ops : Array Oper} {Q : Exit → Act → World → Prop}
  (hq : ∀ v a' w', Chg (fun _ => False) w w' → RAt N g rb sb ev k rows zs x.1 Ad (R ++ [v]) I it sst st0 st a' w' → wpList P ops Q x.2 a' w') : wpList P ops Q l a w := by
 unfold newA at hx
 split at hx
 ·rename_i u t y1 p1 f1 r
  split at hx
  ·rename_i hpd
   cases hc : Nat.blt u N && zOne P t with
   | false => rw [hc] at hx; cases hx
   | true =>
    rw [hc] at hx
    simp only [cond_true, Option.some.injEq] at hx
    subst hx
    rw [Bool.and_eq_true] at hc
    obtain ⟨g4, g5⟩ := hc
    have hst : st = st0 := by have := H.pd; rw [hpd] at this; exact this
    obtain ⟨z, hz, z0, hzs⟩ : ∃ z : Value, (zeroValue t).run P w = .ok z w ∧ ∃ z0, z.cells = #[z0] := by
     unfold zOne at g5
     split at g5
     ·rename_i i hi
      split at g5
      ·rename_i z hz
       refine ⟨z, by simp [zeroValue, typeInfo, hi, hz], ?_⟩
       have := beq_out g5
       obtain ⟨z0, hz0⟩ := List.length_eq_one_iff.1 (show z.cells.toList.length = 1 from this)
       exact ⟨z0, Array.ext' hz0⟩
      ·cases g5
     ·cases g5
    refine st_of (o := ⟨some u, .alloc t, y1, p1, f1, none⟩) (v := .pointer (some ⟨w.heap.size, 0, none⟩)) (w' := w.alloc (.cells #[z0] t)) rfl (by simp [execOp, Instr.alloc, hz, newVar, newRow, hzs]) ?_
    have hal := chg_alloc w (.cells #[z0] t) (fun _ => False)
    have hbox : Box (w.alloc (.cells #[z0] t)) w.heap.size [z0] t := box_alloc w [z0] t
    have hb : u < a.tmps.size := by rw [H.kn.size]; exact Nat.le_of_ble_eq_true g4
    refine hq (.pointer (some ⟨w.heap.size, 0, none⟩)) _ _ hal (H.next (A := dropW S.A u) (t := u) (h := .vr) (pd := .va S.H.length) (zs' := zs) hal trivial trivial (H.kn.putOff _) (gt_put_same _ _ _ hb) ?_)
    refine ⟨hst, w.heap.size, z0, t, by rw [← H.ho.1]; simp, hbox, H.lo.2.2.2, ?_⟩
    refine H.ds.up (fun r hr => ⟨⟨hr.1, Nat.lt_of_lt_of_le hr.2 hal.size⟩, hr.2⟩) (fun r hr => hal.block r hr.2 id)
  ·cases hx
 ·cases hx
theorem rd_ptr {p : Rp} {st0 st : Option (List UInt8)} {nd : List D} (ht : isTw p = true) (h : RdRel p st0 nd st) : ∃ d, nd = [d] ∧ RdRel (ptrOf p) st0 [.ptr d] st := by
 obtain ⟨h1, h2, h3⟩ := h
 have hs : shR p = [.o] := by cases p <;> first | rfl | (cases ht; done)
 have hs' : shR (ptrOf p) = [.pt] := by cases p <;> first | rfl | (cases ht; done)
 have hl : nd.length = 1 := by
  have := unit_len (ds := nd) h2
  rw [h1, hs] at this
  simpa using this.symm
 obtain ⟨d, rfl⟩ := List.length_eq_one_iff.1 hl
 refine ⟨d, rfl, by rw [hs']; rfl, fun x hx => by simp at hx; subst hx; rfl, ?_⟩
 cases st0 with
 | none => exact h3
 | some s =>
  simp only at h3 ⊢
  have key : rdP (ptrOf p) s = (rdP p s).map fun x => (x.1.map D.ptr, x.2) := by
   cases p <;> first | (cases ht; done) | skip
   ·simp only [ptrOf, rdP]
    cases intP .i16 2 s with
    | none => rfl
    | some x => simp only [Option.bind_some]; cases spanP x.1 x.2 <;> rfl
   ·simp only [ptrOf, rdP]
    cases uvarP s with
    | none => rfl
    | some x => simp only [Option.bind_some]; cases spanP ((x.1 : Int) - 1) x.2 <;> rfl
  rw [key]
  cases hr : rdP p s with
  | none => rw [hr] at h3; exact h3
  | some x =>
   rw [hr] at h3
   simp only [Option.map_some] at h3 ⊢
   exact ⟨h3.1, by rw [← h3.2]; rfl⟩
theorem putA_ok (H : RAt N g rb sb ev k rows zs S Ad R I it sst st0 st a w) {l : List Oper} {x : RS × List Oper} (hx : putA P S l = some x) {ops : Array Oper} {Q : Exit → Act → World → Prop}
  (hq : ∀ a' w', Chg (fun j => it.lo ≤ j) w w' → RAt N g rb sb ev k rows zs x.1 Ad R I it sst st0 st a' w' → wpList P ops Q x.2 a' w') : wpList P ops Q l a w := by
 unfold putA at hx
 split at hx
 ·rename_i t2 u xx y2 p2 f2 r
  split at hx
  ·rename_i p n m m' n' hpd hlu hlx
   cases hc : Nat.beq m m' && Nat.beq n n' && tyOne P t2 with
   | false => rw [hc] at hx; cases hx
   | true =>
    rw [hc] at hx
    simp only [cond_true, Option.some.injEq] at hx
    subst hx
    simp only [Bool.and_eq_true] at hc
    obtain ⟨⟨g1, g2⟩, g3⟩ := hc
    have := beq_out g1; subst this
    have := beq_out g2; subst this
    have hpq := H.pd
    rw [hpd] at hpq
    obtain ⟨v, nd, ub, x0, e0, hv, hv1, hone, hrep, htx, hrel, hm, hbox, hlo, hds⟩ := hpq
    have e1 : a.eval (.tmp u) = .pointer (some ⟨ub, 0, none⟩) := by
     have h1 := H.kn.at_ u _ hlu
     simp only [denW, hm, Option.some.injEq] at h1
     rw [eval_tmp]; exact h1.symm
    have e2 : a.eval (.tmp xx) = v := by
     have h1 := H.kn.at_ xx _ hlx
     simp only [denW, hv, Option.some.injEq] at h1
     rw [eval_tmp]; exact h1.symm
    have hb2 := box_set hbox 0 v
    have hch : Chg (fun j => it.lo ≤ j) w (w.setCell ⟨ub, 0, none⟩ v) := (Chg.grown hb2.2).wide (fun j hj => by subst hj; exact hlo)
    have hbl := hbox.lt
    refine st_store e1 e2 g3 hone (hbox.cell (i := 0) rfl) (hbox.frozen _) ?_
    rw [put_none]
    refine hq _ _ hch ?_
    have hlo4 := H.lo
    have hgw : w.grownBy (w.setCell ⟨ub, 0, none⟩ v) (some ub) := hb2.2
    have hblk : ∀ r, r < w.heap.size → r ≠ ub → (w.setCell ⟨ub, 0, none⟩ v).heap[r]? = w.heap[r]? := fun r h1 h2 => hgw.block r h1 (fun e => h2 (by simpa using e))
    refine ⟨H.kn, H.ho, H.last, H.ad, H.lens, H.row, H.box.chg hch (by omega), ?_, H.cl, H.sh, H.cells, H.rdr.chg hch (by omega) (by omega), ?_, H.fresh, H.rel, ⟨hlo4.1, hlo4.2.1, hlo4.2.2.1, Nat.le_trans hlo4.2.2.2 hch.size⟩, H.ne, ?_⟩
    ·exact hds.up (fun r hr => ⟨hr.1.1, Nat.lt_of_lt_of_le hr.1.2 hch.size⟩) (fun r hr => hblk r hr.1.2 (by omega))
    ·obtain ⟨d, rfl, hrel'⟩ := rd_ptr htx hrel
     refine ⟨.pointer (some ⟨ub, 0, none⟩), [.ptr d], hm, ?_, rfl, fun _ => rfl, hrel'⟩
     show Reps _ _ [.ptr d] [.pointer (some ⟨ub, 0, none⟩)]
     have hrep' : Rep (Dk sb it.lo (w.setCell ⟨ub, 0, none⟩ v)) (w.setCell ⟨ub, 0, none⟩ v) d [v] := by
      have h1 : Reps (Dk sb it.lo (w.setCell ⟨ub, 0, none⟩ v)) (w.setCell ⟨ub, 0, none⟩ v) [d] [v] := hrep.up (fun r hr => ⟨hr.1.1, Nat.lt_of_lt_of_le hr.1.2 hch.size⟩) (fun r hr => hblk r hr.1.2 hr.2)
      simp only [Reps] at h1
      obtain ⟨c1, c2, h2, h3, h4⟩ := h1
      subst h4
      rw [List.append_nil] at h2
      rw [h2]; exact h3
     simp only [Reps]
     refine ⟨[.pointer (some ⟨ub, 0, none⟩)], [], rfl, ?_, rfl⟩
     simp only [Rep]
     exact ⟨ub, [v], rfl, ⟨.inr hlo, Nat.lt_of_lt_of_le hbl hch.size⟩, by have := hb2.1.cells; simpa using this, hrep'⟩
    ·refine ⟨?_, H.gl.2⟩
     have h1 := H.gl.1
     have hg : (w.setCell ⟨ub, 0, none⟩ v).heap[g]? = w.heap[g]? := hch.block g (by have := H.gl.2.2.1; omega) (by have := H.gl.2.2.1; omega)
     simp only [World.cell?] at h1 ⊢
     rw [hg]; exact h1
  ·cases hx
 ·cases hx
theorem varB_ok (H : RAt N g rb sb ev k rows zs S Ad R I it sst st0 st a w) {l : List Oper} {x : RS × List Oper} (hx : varB P N S l = some x) {ops : Array Oper} {Q : Exit → Act → World → Prop}
  (hq : ∀ R' a' w', (∃ X, R' = R ++ X) → Chg (fun j => it.lo ≤ j) w w' → RAt N g rb sb ev k rows zs x.1 Ad R' I it sst st0 st a' w' → wpList P ops Q x.2 a' w') : wpList P ops Q l a w := by
 unfold varB at hx
 split at hx
 ·rename_i y hy
  cases hx
  exact varA_ok H hy (fun v a' w' hc H' => hq _ a' w' ⟨[v], rfl⟩ (hc.wide (fun _ h => h.elim)) H')
 ·split at hx
  ·rename_i y hy
   cases hx
   exact newA_ok H hy (fun v a' w' hc H' => hq _ a' w' ⟨[v], rfl⟩ (hc.wide (fun _ h => h.elim)) H')
  ·exact putA_ok H hx (fun a' w' hc H' => hq _ a' w' ⟨[], by simp⟩ hc H')
theorem varL_ok (H : RAt N g rb sb ev k rows zs S Ad R I it sst st0 st a w) {op : Op} {x : Nat × RS} (hx : varL P S op = some x) {d : Nat} (hd : Nat.blt d N = true) {ops : Array Oper} {Q : Exit → Act → World → Prop} {rest : List Oper} {ty : TypeId} {pos : String} {aft : Array Edge}
  (hq : ∀ v, RAt N g rb sb ev k rows zs { x.2 with A := (d, .res x.1) :: x.2.A } Ad R I it sst st0 st (a.put (some d) v) w → wpList P ops Q rest (a.put (some d) v) w) : wpList P ops Q (⟨some d, op, ty, pos, aft, none⟩ :: rest) a w := by
 unfold varL at hx
 split at hx
 ·rename_i t u
  split at hx
  ·rename_i n m m' hpd hlk
   cases hc : Nat.beq m m' && agg16 P t with
   | false => rw [hc] at hx; cases hx
   | true =>
    rw [hc] at hx
    simp only [cond_true, Option.some.injEq] at hx
    subst hx
    simp only [Bool.and_eq_true] at hc
    have := beq_out hc.1; subst this
    have hp := H.pd
    rw [hpd] at hp
    obtain ⟨v, nd, ub, e, hv, hreps, hone, hrel, hm, hbox, hub⟩ := hp
    have hsz := uuid_size hreps hrel
    have hx0 : a.eval (.tmp u) = .pointer (some ⟨ub, 0, none⟩) := by
     have h1 := H.kn.at_ u _ hlk
     simp only [denW, hm, Option.some.injEq] at h1
     exact h1.symm
    have h16 : tyAgg P t = some v.cells.toList.length := by
     have h2 := hc.2
     unfold agg16 at h2
     split at h2
     ·rename_i k hk; rw [hk, beq_out h2, Array.length_toList, hsz]
     ·cases h2
    refine st_loadAgg hx0 h16 (fun j y hj => by rw [add_plain _ _ rfl]; exact hbox.cell0 hj) ?_
    have hv2 : (.agg v.cells.toList.toArray : Value) = v := by rw [Array.toArray_toList]; exact (agg_of hsz).symm
    rw [hv2]
    refine hq v ?_
    have hk := H.kn.put (t := d) (s := .res n) (v := v) hv hd
    refine ⟨hk, H.ho, H.last, H.ad, H.lens, H.row, H.box, H.ds, H.cl, H.sh, H.cells, H.rdr, ?_, H.fresh, H.rel, H.lo, H.ne, H.gl⟩
    exact ⟨v, nd, hv, hreps, hone, fun h => absurd h (by decide), hrel⟩
  ·cases hx
 ·cases hx
theorem opsR_ok (hK : KrOk P K g ev) {full : List Oper} : ∀ (n : Nat) (l : List Oper) {S S' : RS} {R : List Value} {it : Wi} {st0 st : Option (List UInt8)} {a : Act} {w : World} {Q : Exit → Act → World → Prop}, opsR K P N k rows full n S l = some S' → RAt N g rb sb ev k rows zs S Ad R I it sst st0 st a w →
  (∀ R' it' st0' st' a' w', Fr rb it it' R R' w w' → RAt N g rb sb ev k rows zs S' Ad R' I it' sst st0' st' a' w' → Q .normal a' w') → wpList P full.toArray Q l a w := by
 intro n
 induction n with
 | zero =>
  intro l S S' R it st0 st a w Q h H hq
  cases l with
  | nil =>
   simp only [opsR, Option.some.injEq] at h
   subst h
   exact hq R it st0 st a w (Fr.refl _ _ _ _) H
  | cons o l => simp [opsR] at h
 | succ n ih =>
  intro l S S' R it st0 st a w Q h H hq
  cases l with
  | nil =>
   simp only [opsR, Option.some.injEq] at h
   subst h
   exact hq R it st0 st a w (Fr.refl _ _ _ _) H
  | cons o l =>
   simp only [opsR] at h
   split at h
   ·rename_i x hx
    refine varB_ok H hx (fun R1 a' w' hX hc H' => ?_)
    exact ih x.2 h H' (fun R' it' st0' st'' a'' w'' hf H'' => hq R' it' st0' st'' a'' w'' (Fr.trans ⟨rfl, rfl, rfl, rfl, rfl, hc.wide (fun _ h => .inr (.inr h)), hX⟩ hf) H'')
   split at h
   ·rename_i dd op ty pos aft j want _
    cases hd : Nat.blt dd N with
    | false => rw [hd] at h; cases h
    | true =>
     rw [hd] at h
     simp only [cond_true] at h
     split at h
     ·rename_i b hb
      refine st_guard (guardR_ok H.kn hb) (fun e => ?_) (fun e => ?_)
      ·rw [e] at h
       simp only [beq_self_eq_true, cond_true] at h
       exact ih _ h H hq
      ·have hne : (b == want) = false := by simpa using e
       rw [hne] at h
       simp only [cond_false] at h
       exact ih l h (H.slot (H.kn.putOff undef)) hq
     ·cases h
   ·rename_i dd op ty pos aft _
    cases hd : Nat.blt dd N with
    | false => rw [hd] at h; cases h
    | true =>
     rw [hd] at h
     simp only [cond_true] at h
     split at h
     ·rename_i x hx
      obtain ⟨v, hm, hp⟩ := lookR_ok H hx
      exact hp full.toArray Q l (some dd) ty pos aft (ih l h (H.slot (H.kn.put hm hd)) hq)
     ·split at h
      ·rename_i x hx
       obtain ⟨v, hm, hp⟩ := elemR_ok H hx
       exact hp full.toArray Q l (some dd) ty pos aft (ih l h (H.slot (H.kn.put hm hd)) hq)
      ·split at h
       ·rename_i x hx
        refine giveR_ok hK H (h := x.1) (pd := x.2) hx hd (fun v w' st' hc H' => ?_)
        exact ih l h H' (fun R' it' st0' st'' a' w'' hf H'' => hq R' it' st0' st'' a' w'' (Fr.trans ⟨rfl, rfl, rfl, rfl, rfl, hc.wide (fun j hj => .inl hj), [v], rfl⟩ hf) H'')
       ·split at h
        ·rename_i S1 hx
         refine dfltR_ok H hx (fun it1 w' e1 e2 e3 e4 e5 hc H' => ?_)
         exact ih l h H' (fun R' it' st0' st'' a' w'' hf H'' => hq R' it' st0' st'' a' w'' (Fr.trans ⟨e1, e2, e3, e4, e5, hc.wide (fun j hj => .inr (.inl hj)), [], by simp⟩ hf) H'')
        ·split at h
         ·rename_i x hx
          exact varL_ok H hx hd (fun v H' => ih l h H' hq)
         ·cases h
   ·rename_i op ty pos aft _
    split at h
    ·rename_i S1 hx
     refine storeR_ok H hx (fun it1 w' e1 e2 e3 e4 e5 hc H' => ?_)
     exact ih l h H' (fun R' it' st0' st'' a' w'' hf H'' => hq R' it' st0' st'' a' w'' (Fr.trans ⟨e1, e2, e3, e4, e5, hc.wide (fun j hj => .inr (.inl hj)), [], by simp⟩ hf) H'')
    ·cases h
   ·cases h
def Bad (N g rb : Nat) (ev : Value) (rs : Nat) (it : Wi) (w : World) (a' : Act) (w' : World) : Prop := a'.defers = [] ∧ gt a' rs = ev ∧ Chg (fun j => j = rb ∨ j = it.b ∨ it.lo ≤ j) w w' ∧ a'.tmps.size = N ∧ w'.cell? ⟨g, 0, none⟩ = some ev
theorem badR_ok (hK : KrOk P K g ev) (H : RAt N g rb sb ev k rows zs S Ad R I it sst st0 st a w) {rs : Nat} {c : Code} (h : badR K P N rs S c = true) (hst : st = none) {Q : Exit → Act → World → Prop} (hq : ∀ a' w', Bad N g rb ev rs it w a' w' → Q .ret a' w') : c.wp P Q a w := by
 unfold badR at h
 split at h
 ·rename_i id ta f x y0 y1 p1 f1 tb a2 y2 p2 f2
  simp only [Bool.and_eq_true] at h
  obtain ⟨⟨⟨⟨⟨⟨h1, h2⟩, h3⟩, h4⟩, h5⟩, h6⟩, h7⟩ := h
  have := beq_out h1; subst this
  have := beq_out h3; subst this
  have := beq_out h4; subst this
  have hx : evW S.A x = some .rdr := by
   unfold isRdr at h7
   split at h7
   ·assumption
   ·cases h7
  have ex : a.eval x = .pointer (some ⟨rb, 0, none⟩) := by have := H.kn.eval hx; simp only [denW, Option.some.injEq] at this; exact this.symm
  refine wp_seq (wp_region_lit (st_call h2 ?_))
  have e : (#[x] : Array Operand).map a.eval = #[.pointer (some ⟨rb, 0, none⟩)] := by simp [ex]
  rw [e]
  refine (hK.comp h2 w rb sb st H.rdr H.gl.1).mono (fun e w' he => ?_)
  obtain ⟨rfl, rfl⟩ := he
  refine ⟨_, rfl, st_assign ?_⟩
  subst hst
  rw [eval_tmp, gt_put_same _ _ _ (by rw [H.kn.size]; exact Nat.le_of_ble_eq_true h5)]
  refine wp_ret (hq _ _ ⟨?_, ?_, Chg.refl _ _, ?_, H.gl.1⟩)
  ·rw [put_defers, put_defers]; exact H.kn.defers
  ·rw [gt_put_same _ _ _ (by rw [put_size, H.kn.size]; exact Nat.le_of_ble_eq_true h6)]; rfl
  ·rw [put_size, put_size]; exact H.kn.size
 ·cases h
end
end Go.Proofs.YtgpnpfiafcakfaaDoor

namespace Go.Proofs.YtgpnpfiafcakfaaDoor
open Go Go.RowKit
section
variable {P : Program} {ops : Array Oper} {Q : Exit → Act → World → Prop} {N : Nat} {rest : List Oper} {L : Sl} {w : World} {d : Nat} {ty : TypeId} {pos : String} {aft : Array Edge}
end
end Go.Proofs.YtgpnpfiafcakfaaDoor

namespace Go.Proofs.YtgpnpfiafcakfaaDoor
open Go Go.RowKit
def Fails (S : RS) (s : List UInt8) : Prop :=
 ∀ x, rdAs S.acts (litsD S.dfl) s = some x → match S.pd with
  | .no => False
  | .rd p _ => rdP p x.2 = none
  | .len c _ _ => lenP c x.2 = none
  | .ok c _ _ => lenP c x.2 = none
  | .made c _ _ _ => lenP c x.2 = none
  | .done c nb _ st dfl body => rowP c nb st dfl body x.2 = none
  | .tg _ => tagsP x.2 = none
  | .vr _ _ => rdP .uuid x.2 = none
  | .va _ => False
  | .rv p _ _ => rdP (ptrOf p) x.2 = none
theorem Fails.same {S S' : RS} {s : List UInt8} (h : Fails S s) (h1 : S'.acts = S.acts) (h2 : S'.dfl = S.dfl) (h3 : S'.pd = S.pd) : Fails S' s := by
 unfold Fails at *
 rw [h1, h2, h3]; exact h
theorem fails_end {acts : List Ra} {ra : Ra} {ds0 : List D} {s : List UInt8} (h : ∀ x, rdAs acts ds0 s = some x → rdA ra x.1 x.2 = none) : rdAs (acts ++ [ra]) ds0 s = none := by
 rw [rdAs_append]
 cases hr : rdAs acts ds0 s with
 | none => rfl
 | some x => simp only [Option.bind_some, rdAs_one]; exact h x hr
section
variable {P : Program} {K : Kr} {N rs : Nat}
theorem giveR_fails {S : RS} {op : Op} {x : Hi × Pd} {t : Nat} {s : List UInt8} (h : giveR K P S op = some x) (hf : Fails S s) : Fails { (S.new t x.1) with pd := x.2 } s := by
 have none_of : S.pd = .no → rdAs S.acts (litsD S.dfl) s = none := by
  intro hp
  cases hr : rdAs S.acts (litsD S.dfl) s with
  | none => rfl
  | some y => have := hf y hr; rw [hp] at this; exact absurd this (by simp)
 have vac : S.pd = .no → Fails { (S.new t x.1) with pd := x.2 } s := by
  intro hp y hy
  have h0 := none_of hp
  have hy' : rdAs S.acts (litsD S.dfl) s = some y := hy
  rw [h0] at hy'; cases hy'
 have keep : x.2 = S.pd → Fails { (S.new t x.1) with pd := x.2 } s := fun e => hf.same rfl rfl e
 unfold giveR at h
 split at h
 ·cases hb : isFn P _ with
  | false => rw [hb] at h; cases h
  | true =>
   rw [hb] at h
   simp only [cond_true] at h
   split at h
   ·split at h
    ·rename_i hp
     exact vac hp
    ·rename_i c n z hp
     cases hb2 : Nat.beq _ K.ok with
     | false => rw [hb2] at h; cases h
     | true =>
      rw [hb2] at h
      simp only [cond_true, Option.some.injEq] at h
      refine keep ?_
      rw [← h, hp]
    ·rename_i m hp
     intro y hy
     have hy' : rdAs S.acts (litsD S.dfl) s = some y := hy
     have := hf y hy'
     rw [hp] at this
     exact this.elim
    ·cases h
   ·cases h
 ·split at h
  ·rename_i n _
   split at h
   ·cases hb2 : Nat.beq (n + 1) S.H.length with
    | false => rw [hb2] at h; cases h
    | true =>
     rw [hb2] at h
     simp only [cond_true, Option.some.injEq] at h
     exact keep (by rw [← h])
   ·cases h
  ·cases h
 ·split at h
  ·split at h
   ·simp only [Option.some.injEq] at h
    exact keep (by rw [← h])
   ·cases h
  ·cases h
 ·split at h
  ·split at h
   ·simp only [Option.some.injEq] at h
    exact keep (by rw [← h])
   ·cases h
  ·cases h
 ·cases h
theorem storeR_fails {k : Nat} {S S1 : RS} {op : Op} {s : List UInt8} (h : storeR P k S op = some S1) (hf : Fails S s) : Fails S1 s := by
 unfold storeR at h
 split at h
 ·rename_i t x y
  split at h
  ·rename_i k' off n _ _
   cases hb : Nat.beq k k' with
   | false => rw [hb] at h; cases h
   | true =>
    rw [hb] at h
    simp only [cond_true] at h
    split at h
    ·rename_i p n' hp
     cases hc : Nat.beq n n' && sizeIs P t (shR p).length && decide ((S.shp.drop off).take (shR p).length = shR p) with
     | false => rw [hc] at h; cases h
     | true =>
      rw [hc] at h
      simp only [cond_true, Option.some.injEq] at h
      subst h
      intro x hx
      exfalso
      have := fails_end (ra := .prim p off) (fun y hy => by have h1 := hf y hy; rw [hp] at h1; simp only [] at h1; simp only [rdA, h1, Option.bind_none]) (acts := S.acts) (ds0 := litsD S.dfl) (s := s)
      exact absurd (hx.symm.trans this) (by simp)
    ·rename_i c nb r st dfl body hp
     cases hc : Nat.beq n r && sizeIs P t 1 && decide ((S.shp.drop off).take 1 = [.sl]) with
     | false => rw [hc] at h; cases h
     | true =>
      rw [hc] at h
      simp only [cond_true, Option.some.injEq] at h
      subst h
      intro x hx
      exfalso
      have := fails_end (ra := .row c nb off st dfl body) (fun y hy => by have h1 := hf y hy; rw [hp] at h1; simp only [] at h1; rw [rdA_row, h1]; rfl) (acts := S.acts) (ds0 := litsD S.dfl) (s := s)
      exact absurd (hx.symm.trans this) (by simp)
    ·rename_i n' hp
     cases hc : Nat.beq n n' && sizeIs P t 1 && decide ((S.shp.drop off).take 1 = [.mp]) with
     | false => rw [hc] at h; cases h
     | true =>
      rw [hc] at h
      simp only [cond_true, Option.some.injEq] at h
      subst h
      intro x hx
      exfalso
      have := fails_end (ra := .tags off) (fun y hy => by have h1 := hf y hy; rw [hp] at h1; simp only [] at h1; simp only [rdA, h1, Option.bind_none]) (acts := S.acts) (ds0 := litsD S.dfl) (s := s)
      exact absurd (hx.symm.trans this) (by simp)
    ·cases h
  ·cases h
 ·cases h
theorem dfltR_fails {k : Nat} {S S1 : RS} {op : Op} {s : List UInt8} (h : dfltR P k S op = some S1) (hf : Fails S s) : False := by
 unfold dfltR at h
 split at h
 ·split at h
  ·rename_i hpd hact
   have := hf (litsD S.dfl, s) (by rw [hact]; simp [rdAs])
   rw [hpd] at this
   exact this
  ·cases h
 ·cases h
theorem bif_some {α : Type} {b : Bool} {a x : α} (h : (bif b then some a else none) = some x) : a = x := by
 cases b with
 | false => cases h
 | true => exact Option.some.inj h
theorem varA_fails {S : RS} {l : List Oper} {x : RS × List Oper} {s : List UInt8} (h : varA P N S l = some x) (hf : Fails S s) : Fails x.1 s := by
 unfold varA at h
 split at h
 ·split at h
  ·rename_i n n' hpd _
   have hx := bif_some h
   subst hx
   intro y hy
   have := hf y hy
   rw [hpd] at this
   exact this
  ·cases h
 ·cases h
theorem newA_fails {S : RS} {l : List Oper} {x : RS × List Oper} {s : List UInt8} (h : newA P N S l = some x) (hf : Fails S s) : Fails x.1 s := by
 unfold newA at h
 split at h
 ·split at h
  ·rename_i hpd
   have hx := bif_some h
   subst hx
   intro y hy
   have := hf y hy
   rw [hpd] at this
   exact this
  ·cases h
 ·cases h
theorem putA_fails {S : RS} {l : List Oper} {x : RS × List Oper} {s : List UInt8} (h : putA P S l = some x) (hf : Fails S s) : Fails x.1 s := by
 unfold putA at h
 split at h
 ·split at h
  ·rename_i p n m m' n' hpd _ _
   have hx := bif_some h
   subst hx
   intro y hy
   have := hf y hy
   rw [hpd] at this
   exact this
  ·cases h
 ·cases h
theorem varB_fails {S : RS} {l : List Oper} {x : RS × List Oper} {s : List UInt8} (h : varB P N S l = some x) (hf : Fails S s) : Fails x.1 s := by
 unfold varB at h
 split at h
 ·rename_i y hy; cases h; exact varA_fails hy hf
 ·split at h
  ·rename_i y hy; cases h; exact newA_fails hy hf
  ·exact putA_fails h hf
theorem varL_fails {S : RS} {op : Op} {x : Nat × RS} {s : List UInt8} (h : varL P S op = some x) (hf : Fails S s) (A : WA) : Fails { x.2 with A := A } s := by
 unfold varL at h
 split at h
 ·split at h
  ·rename_i n m m' hpd _
   have hx := bif_some h
   subst hx
   intro y hy
   have := hf y hy
   rw [hpd] at this
   exact this
  ·cases h
 ·cases h
theorem opsR_fails {k : Nat} {rows : List (Nat × Nat × Nat)} {full : List Oper} : ∀ (n : Nat) (l : List Oper) {S S' : RS} {s : List UInt8}, opsR K P N k rows full n S l = some S' → Fails S s → Fails S' s := by
 intro n
 induction n with
 | zero =>
  intro l S S' s h hf
  cases l with
  | nil => simp only [opsR, Option.some.injEq] at h; subst h; exact hf
  | cons o l => simp [opsR] at h
 | succ n ih =>
  intro l S S' s h hf
  cases l with
  | nil => simp only [opsR, Option.some.injEq] at h; subst h; exact hf
  | cons o l =>
   simp only [opsR] at h
   split at h
   ·rename_i x hx
    exact ih _ h (varB_fails hx hf)
   split at h
   ·rename_i dd op ty pos aft j want _
    cases hd : Nat.blt dd N with
    | false => rw [hd] at h; cases h
    | true =>
     rw [hd] at h
     simp only [cond_true] at h
     split at h
     ·rename_i b hb
      cases hw : b == want with
      | true => rw [hw] at h; exact ih _ h hf
      | false => rw [hw] at h; exact ih _ h (hf.same rfl rfl rfl)
     ·cases h
   ·rename_i dd op ty pos aft _
    cases hd : Nat.blt dd N with
    | false => rw [hd] at h; cases h
    | true =>
     rw [hd] at h
     simp only [cond_true] at h
     split at h
     ·exact ih _ h (hf.same rfl rfl rfl)
     ·split at h
      ·exact ih _ h (hf.same rfl rfl rfl)
      ·split at h
       ·rename_i x hx
        exact ih _ h (giveR_fails hx hf)
       ·split at h
        ·rename_i S1 hx
         exact absurd (dfltR_fails hx hf) id
        ·split at h
         ·rename_i x hx
          exact ih _ h (varL_fails hx hf _)
         ·cases h
   ·split at h
    ·rename_i S1 hx
     exact ih _ h (storeR_fails hx hf)
    ·cases h
   ·cases h
end
end Go.Proofs.YtgpnpfiafcakfaaDoor

namespace Go.Proofs.YtgpnpfiafcakfaaDoor
open Go Go.RowKit
theorem zeroCells_flat (zc : List Value) (hz : 0 < zc.length) : ∀ n, (Builtin.zeroCells zc.toArray n).toList = (List.replicate n zc).flatten
 | 0 => by simp [Builtin.zeroCells]
 | n + 1 => by
  have ih := zeroCells_flat zc hz n
  rw [List.replicate_succ', List.flatten_append, ← ih]
  simp only [Builtin.zeroCells, Array.toList_map, Array.toList_range, List.size_toArray, List.flatten_cons, List.flatten_nil, List.append_nil]
  rw [Nat.succ_mul, List.range_add, List.map_append, List.map_map]
  congr 1
  apply List.ext_getElem
  ·simp
  ·intro i h1 h2
   simp only [List.getElem_map, List.getElem_range, Function.comp]
   rw [Nat.add_comm, Nat.add_mul_mod_self_right, Nat.mod_eq_of_lt h2]
   simp [h2]
theorem zerosOf_out {P : Program} {t : TypeId} {zc : List Value} (h : zerosOf P t = some zc) : ∃ e i z, P.underlying t = some (.slice e) ∧ P.info? e = some i ∧ i.zero = some z ∧ z.cells.toList = zc ∧ zc.length = i.size ∧ 0 < zc.length ∧ i.bytes ≤ 1024 ∧ (zc.all fun v => v.oneCell') = true := by
 unfold zerosOf at h
 split at h
 ·rename_i e he
  split at h
  ·rename_i i hi
   split at h
   ·rename_i z hz
    cases hc : z.cells.toList.all (·.oneCell') && Nat.beq z.cells.size i.size && Nat.blt 0 i.size && Nat.ble i.bytes 1024 with
    | false => rw [hc] at h; cases h
    | true =>
     rw [hc] at h
     simp only [cond_true, Option.some.injEq] at h
     simp only [Bool.and_eq_true] at hc
     have h1 := beq_out hc.1.1.2
     have h2 := Nat.le_of_ble_eq_true hc.1.2
     have hl : zc.length = i.size := by rw [← h, Array.length_toList]; exact h1
     exact ⟨e, i, z, he, hi, hz, h, hl, by omega, Nat.le_of_ble_eq_true hc.2, by rw [← h]; exact hc.1.1.1⟩
   ·cases h
  ·cases h
 ·cases h
theorem lenP_lt {c : Bool} {s : List UInt8} {x : Int × List UInt8} (h : lenP c s = some x) : x.1 < 2147483648 := by
 simp only [lenP, Option.bind_eq_some_iff] at h
 obtain ⟨y, hy, hx⟩ := h
 split at hx
 ·cases hx
 ·cases hx
  split at hy
  ·simp only [Option.map_eq_some_iff] at hy
   obtain ⟨z, _, rfl⟩ := hy
   simp only [IntKind.wrap_i32]
   omega
  ·simp only [intP, Option.map_eq_some_iff] at hy
   obtain ⟨z, _, rfl⟩ := hy
   simp only [IntKind.wrap_i32]
   omega
theorem run_appMake {P : Program} (w : World) {t u ty : TypeId} {zc : List Value} {l : Int} (hz : zerosOf P t = some zc) (hu : isInt P u .i32 = true) (hl : 0 < l) (hlim : l ≤ 4294967296) :
  ∃ cap e, l.toNat ≤ cap ∧ (Builtin.append_ #[t, u] ty #[.slice none 0 0, .int .i32 l]).run P w = .ok (.slice (some ⟨w.heap.size, 0, none⟩) l.toNat cap) (w.drew.alloc (.cells ((List.replicate cap zc).flatten).toArray e)) := by
 obtain ⟨e, i, z, ht, hi, hzz, hzc, hlen, hpos, hb, _⟩ := zerosOf_out hz
 have hu' := isInt_out hu
 have hwrap : IntKind.i64.wrap l = l := by rw [IntKind.wrap_i64]; omega
 have hneg : ¬ l < 0 := by omega
 have hcap := grownCap_ge w l.toNat 0 e
 have hmul : l.toNat * i.bytes ≤ 4294967296 * 1024 := Nat.mul_le_mul (by omega) hb
 have hmulI : ¬ ((281474976710656 : Int) < l * (i.bytes : Int)) := by
  have : l * (i.bytes : Int) = ((l.toNat * i.bytes : Nat) : Int) := by rw [Int.natCast_mul, Int.toNat_of_nonneg (by omega)]
  rw [this]; omega
 have h48 : ¬ (281474976710656 < Builtin.nextslicecap l.toNat 0 * i.bytes) := by
  rw [nextslicecap_zero (by omega)]; omega
 have hza : z.cells = zc.toArray := by rw [← hzc]
 have hmx : max l 0 = l := by omega
 have hle0 : ¬ l ≤ 0 := by omega
 have h63l : ¬ (9223372036854775807 : Int) < l := by omega
 refine ⟨grownCap w l.toNat 0 e, e, by omega, ?_⟩
 have hns : ¬ l.toNat * i.size = 0 := by rw [← hlen]; exact Nat.ne_of_gt (Nat.mul_pos (by omega) hpos)
 have hall : Builtin.zeroCells zc.toArray l.toNat ++ Builtin.zeroCells zc.toArray (grownCap w l.toNat 0 e - l.toNat) = ((List.replicate (grownCap w l.toNat 0 e) zc).flatten).toArray := by
  apply Array.ext'
  rw [Array.toList_append, zeroCells_flat zc hpos, zeroCells_flat zc hpos, ← List.flatten_append, List.replicate_append_replicate]
  congr 2; omega
 rw [← hall]
 simp [Builtin.append_, run_underlying ht, run_underlying hu', sizeOf, typeInfo, zeroValue, hi, hzz, h48, Question.forced, run_firstCells_none, newRow, grownCap, asInt, asIntOf, hwrap, hneg, hmulI, hza, hmx, hle0, h63l]
 exact fun h => absurd h hns
section
variable {P : Program} {K : Kr} {N g rb sb : Nat} {ev : Value} {k : Nat} {rows : List (Nat × Nat × Nat)} {zs : List (Nat × List Value)} {S : RS} {Ad : List (Nat × Nat)} {R : List Value} {I : List Int} {it : Wi} {sst st0 st : Option (List UInt8)} {a : Act} {w : World}
theorem fr_of {R : List Value} {v : Value} {w w' : World} (hc : Chg (fun _ => False) w w') : Fr rb it it R (R ++ [v]) w w' := ⟨rfl, rfl, rfl, rfl, rfl, hc.wide (fun _ h => h.elim), [v], rfl⟩
theorem lz_ok (H : RAt N g rb sb ev k rows zs S Ad R I it sst st0 st a w) {q : Operand} {h l t u : Nat} {c : Bool} {cd : Code} (hq0 : evW S.A q = some (.res h)) (hh : hiAt S h = some (.lz l)) (hpd : S.pd = .len c l none) (hn : nilR P N S.A cd = some (t, u)) {Q : Exit → Act → World → Prop}
  (hq : ∀ v a' w', Fr rb it it R (R ++ [v]) w w' → RAt N g rb sb ev k rows zs { (({ S with A := dropW (dropW S.A u) t } : RS).new t (.sl0 l)) with pd := .len c l (some S.H.length) } Ad (R ++ [v]) I it sst st0 st a' w' → Q .normal a' w') : (Code.cond q cd .skip).wp P Q a w := by
 have hd := H.kn.eval hq0
 simp only [denW] at hd
 obtain ⟨l0, hl0, hval⟩ := H.ho.2 h _ _ hh hd
 have hp := H.pd
 rw [hpd] at hp
 obtain ⟨l1, hl1, hrel, _⟩ := hp
 rw [hl0] at hl1
 simp only [Option.some.injEq, Value.int.injEq, true_and] at hl1
 subst hl1
 unfold nilR at hn
 split at hn
 ·rename_i id ua ty y1 p1 f1 ub ua2 y2 p2 f2
  cases hc : Nat.beq ua ua2 && Nat.blt ua N && Nat.blt ub N && sliceTy P ty && isNil0 S.A ub && !Nat.beq ua ub with
  | false => rw [hc] at hn; cases hn
  | true =>
   rw [hc] at hn
   simp only [cond_true, Option.some.injEq, Prod.mk.injEq] at hn
   obtain ⟨rfl, rfl⟩ := hn
   simp only [Bool.and_eq_true] at hc
   obtain ⟨⟨⟨⟨⟨h1, h2⟩, h3⟩, h4⟩, h5⟩, h6⟩ := hc
   have := beq_out h1; subst this
   have hne : ua ≠ ub := by rintro rfl; rw [Nat.beq_refl] at h6; cases h6
   have hnil : gt a ub = .slice none 0 0 := by
    unfold isNil0 at h5
    split at h5
    ·rename_i hx
     have := H.kn.at_ ub _ hx
     simp only [denW, Option.some.injEq] at this
     exact this.symm
    ·cases h5
   by_cases h0 : l0 = 0
   ·subst h0
    refine wp_cond_true hval ?_
    unfold sliceTy elemSize at h4
    split at h4
    ·rename_i e he
     cases hi : P.info? e with
     | none => rw [hi] at h4; simp at h4
     | some inf =>
      have hrun : (execOp a.eval ⟨some ua, .buildSlice ty 0 #[], y1, p1, f1, none⟩).run P w = .ok (.value (.slice (some ⟨w.heap.size, 0, none⟩) 0 0)) (w.alloc (.cells #[] e)) := by
       simp [execOp, Instr.buildSlice, run_underlying he, sizeOf, typeInfo, hi, newRow, Instr.fill]
       rw [show Array.range 0 = #[] from rfl, Array.map_empty]
      have hal : Chg (fun _ => False) w (w.alloc (.cells #[] e)) := chg_alloc w _ _
      refine wp_region_lit (st_of (o := ⟨some ua, .buildSlice ty 0 #[], y1, p1, f1, none⟩) rfl hrun (st_assign ?_))
      have k1 := H.kn.putOff (t := ua) (.slice (some ⟨w.heap.size, 0, none⟩) 0 0)
      have e1 : gt (a.put (some ua) (.slice (some ⟨w.heap.size, 0, none⟩) 0 0)) ua = .slice (some ⟨w.heap.size, 0, none⟩) 0 0 := gt_put_same _ _ _ (by rw [H.kn.size]; exact Nat.le_of_ble_eq_true h2)
      rw [eval_tmp, e1]
      refine hq (.slice (some ⟨w.heap.size, 0, none⟩) 0 0) _ _ (fr_of hal) ?_
      have k2 := k1.putOff (t := ub) (.slice (some ⟨w.heap.size, 0, none⟩) 0 0)
      refine H.next hal ⟨_, _, rfl⟩ trivial (A := dropW (dropW S.A ua) ub) k2 ?_ ?_
      ·exact gt_put_same _ _ _ (by rw [k1.size]; exact Nat.le_of_ble_eq_true h3)
      ·refine ⟨0, get_more hl0, hrel, fun h => absurd rfl h, fun _ => ⟨w.heap.size, ?_, ⟨.inr H.lo.2.2.2, by simp⟩, ⟨#[], e, (0, 0), heap_alloc_new w _, by simp, by simp⟩⟩⟩
       rw [← H.ho.1]; simp
    ·cases h4
   ·have hval' : a.eval q = .bool false := by rw [hval]; simp [h0]
    refine wp_cond_false hval' (wp_skip ?_)
    refine hq (.slice none 0 0) a w (fr_of (Chg.refl _ _)) ?_
    refine H.next (Chg.refl _ _) ⟨_, _, rfl⟩ trivial (H.kn.weak (lessW_trans (lessW_drop _ _) (lessW_drop _ _))) hnil ⟨l0, get_more hl0, hrel, fun _ => ?_, fun h => absurd h h0⟩
    rw [← H.ho.1]; simp
 ·cases hn
theorem lp_ok (H : RAt N g rb sb ev k rows zs S Ad R I it sst st0 st a w) {q : Operand} {h l t x y u ty : Nat} {c : Bool} {z z' : Option Nat} {zc : List Value} {cd : Code} (hq0 : evW S.A q = some (.res h)) (hh : hiAt S h = some (.lp l)) (hpd : S.pd = .ok c l z) (hn : madeR P N S l cd = some (t, x, y, u, z')) (hty : madeTy cd = some ty) (hzc : zerosOf P ty = some zc) (hzz : optEq z z' = true) {Q : Exit → Act → World → Prop}
  (hq : ∀ v a' w', Fr rb it it R (R ++ [v]) w w' → RAt N g rb sb ev k rows ((S.H.length, zc) :: zs) { (({ S with A := dropW (dropW (dropW (dropW S.A x) y) u) t } : RS).new t (.row l)) with pd := .made c l z S.H.length } Ad (R ++ [v]) I it sst st0 st a' w' → Q .normal a' w') : (Code.cond q cd .skip).wp P Q a w := by
 have hd := H.kn.eval hq0
 simp only [denW] at hd
 obtain ⟨l0, hl0, hval⟩ := H.ho.2 h _ _ hh hd
 have hp := H.pd
 rw [hpd] at hp
 obtain ⟨l1, s1, hl1, hrel, hst, hzok⟩ := hp
 rw [hl0] at hl1
 simp only [Option.some.injEq, Value.int.injEq, true_and] at hl1
 subst hl1
 obtain ⟨_, _, _, _, _, _, _, hzlen, hzpos, _, hzone⟩ := zerosOf_out hzc
 have hlim : l0 ≤ 4294967296 := by
  subst hst
  cases st0 with
  | none => simp [LenRel] at hrel
  | some s0 =>
   simp only [LenRel] at hrel
   split at hrel
   ·rename_i p hp
    simp only [Option.some.injEq] at hrel
    have := lenP_lt hp
    rw [hrel.2]
    omega
   ·cases hrel
 unfold madeR at hn
 split at hn
 ·rename_i id tx tb y1 p1 f1 tyy ts y2 p2 f2 ta x2 yy2 t0 t32 y3 p3 f3 tb2 a2 y4 p4 f4
  cases hc : Nat.beq tx x2 && Nat.beq tyy yy2 && Nat.beq ta a2 && Nat.beq tb tb2 && Nat.blt tx N && Nat.blt tyy N && Nat.blt ta N && Nat.blt tb N && !Nat.beq tx tyy && sliceTy P t0 && isInt P t32 .i32 && isRes S.A ts l && !Nat.beq tx ts && !Nat.beq tx tb && !Nat.beq tyy tb && !Nat.beq ta tb with
  | false => rw [hc] at hn; cases hn
  | true =>
   rw [hc] at hn
   simp only [cond_true] at hn
   simp only [Bool.and_eq_true] at hc
   obtain ⟨⟨⟨⟨⟨⟨⟨⟨⟨⟨⟨⟨⟨⟨⟨g1, g2⟩, g3⟩, g4⟩, g5⟩, g6⟩, g7⟩, g8⟩, g9⟩, g10⟩, g11⟩, g12⟩, g13⟩, g14⟩, g15⟩, g16⟩ := hc
   have := beq_out g1; subst this
   have := beq_out g2; subst this
   have := beq_out g3; subst this
   have := beq_out g4; subst this
   have ne : ∀ p q : Nat, (!Nat.beq p q) = true → p ≠ q := by rintro p q h rfl; rw [Nat.beq_refl] at h; cases h
   simp only [madeTy, Option.some.injEq] at hty
   subst hty
   have hres : gt a ts = .int .i32 l0 := by
    unfold isRes at g12
    split at g12
    ·rename_i n hx
     have := beq_out g12; subst this
     have := H.kn.at_ ts _ hx
     simp only [denW] at this
     rw [hl0] at this
     simpa using this.symm
    ·cases g12
   have hslot : ∃ v0, gt a tb = v0 ∧ (l0 ≠ 0 → v0 = .slice none 0 0) ∧ (match z with | none => v0 = .slice none 0 0 | some zi => R[zi]? = some v0) ∧ (tb, tx, tyy, ta, z') = (t, x, y, u, z') := by
    split at hn
    ·rename_i hx
     cases hn
     have := H.kn.at_ _ _ hx
     simp only [denW, Option.some.injEq] at this
     have hzn : z = none := by cases z with | none => rfl | some _ => cases hzz
     subst hzn
     exact ⟨_, this.symm, fun _ => rfl, rfl, rfl⟩
    ·rename_i zi hx
     split at hn
     ·rename_i l' hzi
      cases hll : Nat.beq l l' with
      | false => rw [hll] at hn; cases hn
      | true =>
       rw [hll] at hn
       simp only [cond_true, Option.some.injEq, Prod.mk.injEq] at hn
       obtain ⟨rfl, rfl, rfl, rfl, rfl⟩ := hn
       cases z with
       | none => cases hzz
       | some zi' =>
        have := beq_out hzz; subst this
        have hg := H.kn.at_ tb _ hx
        simp only [denW] at hg
        refine ⟨gt a tb, rfl, fun h0 => ?_, hg, rfl⟩
        have := hzok.1 h0
        rw [hg] at this
        simpa using this
     ·cases hn
    ·cases hn
   obtain ⟨v0, hv0, hnz, hz0, hvars⟩ := hslot
   simp only [Prod.mk.injEq, and_true] at hvars
   obtain ⟨rfl, rfl, rfl, rfl⟩ := hvars
   by_cases hpos : 0 < l0
   ·have hval' : a.eval q = .bool true := by rw [hval]; simp [hpos]
    have hv0' := hnz (by omega)
    subst hv0'
    obtain ⟨cap, e, hcap, hrun⟩ := run_appMake (P := P) w (ty := y3) hzc g11 hpos hlim
    refine wp_cond_true hval' (wp_region_lit (st_move ?_))
    rw [eval_tmp, hv0]
    have k1 := H.kn.putOff (t := tx) (.slice none 0 0)
    have e1 : gt (a.put (some tx) (.slice none 0 0)) tx = .slice none 0 0 := gt_put_same _ _ _ (by rw [H.kn.size]; exact Nat.le_of_ble_eq_true g5)
    have e2 : gt (a.put (some tx) (.slice none 0 0)) ts = .int .i32 l0 := by rw [gt_put_ne _ _ _ _ (ne _ _ g13).symm]; exact hres
    generalize a.put (some tx) (.slice none 0 0) = b1 at *
    refine st_move ?_
    rw [eval_tmp, e2]
    have k2 := k1.putOff (t := tyy) (.int .i32 l0)
    have e3 : gt (b1.put (some tyy) (.int .i32 l0)) tx = .slice none 0 0 := by rw [gt_put_ne _ _ _ _ (ne _ _ g9)]; exact e1
    have e4 : gt (b1.put (some tyy) (.int .i32 l0)) tyy = .int .i32 l0 := gt_put_same _ _ _ (by rw [k1.size]; exact Nat.le_of_ble_eq_true g6)
    generalize b1.put (some tyy) (.int .i32 l0) = b2 at *
    have hexec : (execOp b2.eval ⟨some ta, .call ⟨.builtin .append, #[.tmp tx, .tmp tyy], #[t0, t32]⟩, y3, p3, f3, none⟩).run P w = .ok (.value (.slice (some ⟨w.heap.size, 0, none⟩) l0.toNat cap)) (w.drew.alloc (.cells ((List.replicate cap zc).flatten).toArray e)) := by
     simp only [execOp, resolve, List.map_toArray, List.map_cons, List.map_nil, eval_tmp, e3, e4, Sem.run_bind, Sem.run_pure, Result.andThen_ok, invoke, builtin, hrun]
    refine st_of (o := ⟨some ta, .call ⟨.builtin .append, #[.tmp tx, .tmp tyy], #[t0, t32]⟩, y3, p3, f3, none⟩) rfl hexec ?_
    have hal : Chg (fun _ => False) w (w.drew.alloc (.cells ((List.replicate cap zc).flatten).toArray e)) := (chg_drew w _).trans (chg_alloc w.drew _ _)
    have k3 := k2.putOff (t := ta) (.slice (some ⟨w.heap.size, 0, none⟩) l0.toNat cap)
    have e5 : gt (b2.put (some ta) (.slice (some ⟨w.heap.size, 0, none⟩) l0.toNat cap)) ta = .slice (some ⟨w.heap.size, 0, none⟩) l0.toNat cap := gt_put_same _ _ _ (by rw [k2.size]; exact Nat.le_of_ble_eq_true g7)
    refine st_assign ?_
    rw [eval_tmp, e5]
    have k4 := k3.putOff (t := tb) (.slice (some ⟨w.heap.size, 0, none⟩) l0.toNat cap)
    refine hq (.slice (some ⟨w.heap.size, 0, none⟩) l0.toNat cap) _ _ (fr_of hal) ?_
    refine H.next hal trivial trivial k4 (gt_put_same _ _ _ (by rw [k3.size]; exact Nat.le_of_ble_eq_true g8)) ?_
    refine ⟨l0, s1, _, zc, zs, get_more hl0, hrel, hst, (hzok.turn hal (fun k h => h.elim)).more, by rw [← H.ho.1]; simp, rfl, ⟨fun _ => ⟨w.heap.size, cap, e, rfl, H.lo.2.2.2, by simp, hcap, box_alloc w.drew _ _, rfl, ?_⟩, fun h => absurd hpos h⟩, hzone, hzpos⟩
    exact H.ds.up (fun r hr => ⟨⟨hr.1, Nat.lt_of_lt_of_le hr.2 hal.size⟩, hr.2⟩) (fun r hr => hal.block r hr.2 (fun h => h))
   ·have hval' : a.eval q = .bool false := by rw [hval]; simp [hpos]
    refine wp_cond_false hval' (wp_skip (hq v0 a w (fr_of (Chg.refl _ _)) ?_))
    refine H.next (Chg.refl _ _) trivial trivial (H.kn.weak (lessW_trans (lessW_trans (lessW_trans (lessW_drop _ _) (lessW_drop _ _)) (lessW_drop _ _)) (lessW_drop _ _))) hv0 ?_
    refine ⟨l0, s1, v0, zc, zs, get_more hl0, hrel, hst, hzok.more, by rw [← H.ho.1]; simp, rfl, ⟨fun h => absurd h hpos, fun _ => ?_⟩, hzone, hzpos⟩
    cases z with
    | none => exact hz0
    | some zi => exact get_more hz0
 ·cases hn
end
end Go.Proofs.YtgpnpfiafcakfaaDoor

namespace Go.Proofs.YtgpnpfiafcakfaaDoor
open Go Go.RowKit
theorem rdRow_snoc (body : List Ra) (dfl : List D) : ∀ (n : Nat) (s : List UInt8), rdRow body dfl (n + 1) s = (rdRow body dfl n s).bind fun x => (rdAs body dfl x.2).map fun y => (x.1 ++ [y.1], y.2)
 | 0, s => by
  simp only [rdRow, Option.bind_some]
  cases rdAs body dfl s <;> simp
 | n + 1, s => by
  rw [rdRow]
  cases h : rdAs body dfl s with
  | none => rw [rdRow, h]; rfl
  | some x =>
   simp only [Option.bind_some]
   rw [rdRow_snoc body dfl n x.2, rdRow, h]
   simp only [Option.bind_some]
   cases rdRow body dfl n x.2 with
   | none => rfl
   | some y =>
    simp only [Option.bind_some, Option.map_some]
    cases rdAs body dfl y.2 <;> simp
theorem rdRow_none (body : List Ra) (dfl : List D) (s : List UInt8) (i : Nat) : ∀ (n : Nat), i ≤ n → rdRow body dfl i s = none → rdRow body dfl n s = none
 | 0, h, e => by
  have : i = 0 := by omega
  subst this; exact e
 | n + 1, h, e => by
  by_cases hi : i ≤ n
  ·rw [rdRow_snoc, rdRow_none body dfl s i n hi e]; rfl
  ·have : i = n + 1 := by omega
   subst this; exact e
def ItR (body : List Ra) (dfl : List D) (i : Nat) (s : List UInt8) (dss : List (List D)) (st : Option (List UInt8)) : Prop := match rdRow body dfl i s with
 | some x => st = some x.2 ∧ dss = x.1
 | none => st = none
theorem ItR.step {body : List Ra} {dfl : List Value} {i : Nat} {s : List UInt8} {dss : List (List D)} {st st' : Option (List UInt8)} {ds : List D} (h : ItR body (litsD dfl) i s dss st) (k : OutR body (litsD dfl) st ds st') : ItR body (litsD dfl) (i + 1) s (dss ++ [ds]) st' := by
 unfold ItR at *
 rw [rdRow_snoc]
 have k2 := k.2
 cases hx : rdRow body (litsD dfl) i s with
 | none =>
  rw [hx] at h
  simp only [] at h
  subst h
  exact k2
 | some x =>
  rw [hx] at h
  obtain ⟨rfl, rfl⟩ := h
  simp only [] at k2
  simp only [Option.bind_some]
  cases hy : rdAs body (litsD dfl) x.2 with
  | none => rw [hy] at k2; exact k2
  | some y =>
   rw [hy] at k2
   obtain ⟨rfl, rfl⟩ := k2
   exact ⟨rfl, rfl⟩
theorem rep_elD {ok : Nat → Prop} {w : World} {stt : Bool} {ds : List D} {cs : List Value} (h : Reps ok w ds cs) : Rep ok w (elD stt ds) cs := by
 unfold elD
 split
 ·simpa only [Rep] using h
 ·split
  ·obtain ⟨c1, c2, rfl, h1, h2⟩ := h
   simp only [Reps] at h2
   subst h2
   simpa using h1
  ·simpa only [Rep] using h
section
variable {P : Program} {K : Kr} {N g rb sb : Nat} {ev : Value} {k : Nat} {rows : List (Nat × Nat × Nat)} {zs : List (Nat × List Value)} {S : RS} {Ad : List (Nat × Nat)} {R : List Value} {I : List Int} {it : Wi} {sst st0 st : Option (List UInt8)} {a : Act} {w : World}
theorem denW_wide {s : Wd} {v : Value} (Ad' : List (Nat × Nat)) (R' : List Value) (I' : List Int) (h : denW rb Ad R I s = some v) : denW rb (Ad ++ Ad') (R ++ R') (I ++ I') s = some v := by
 cases s with
 | val v => exact h
 | rdr => exact h
 | at_ k o =>
  simp only [denW, Option.map_eq_some_iff] at h ⊢
  obtain ⟨p, hp, e⟩ := h
  exact ⟨p, get_more hp, e⟩
 | res n => exact get_more h
 | idx m =>
  simp only [denW, Option.map_eq_some_iff] at h ⊢
  obtain ⟨p, hp, e⟩ := h
  exact ⟨p, get_more hp, e⟩
theorem KnW.wide {A : WA} (h : KnW N rb a A Ad R I) (Ad' : List (Nat × Nat)) (R' : List Value) (I' : List Int) : KnW N rb a A (Ad ++ Ad') (R ++ R') (I ++ I') := ⟨h.size, h.defers, fun t s e => denW_wide Ad' R' I' (h.at_ t s e)⟩
theorem KnW.back {a' : Act} {A : WA} {Ad' : List (Nat × Nat)} {R' : List Value} {I' : List Int} (h : KnW N rb a A Ad R I) (h' : KnW N rb a' A (Ad ++ Ad') (R ++ R') (I ++ I')) : KnW N rb a' A Ad R I := by
 refine ⟨h'.size, h'.defers, fun t s e => ?_⟩
 have h1 := h.at_ t s e
 have h2 := h'.at_ t s e
 rw [denW_wide Ad' R' I' h1] at h2
 rw [h1, h2]
theorem head_ok {V : WA} {x1 y1 c1 i1 l1 N : Nat} {r1 : Nat} {t1 u1 ta tb tc : TypeId} {p1 p2 p3 : String} {f1 f2 f3 : Array Edge} {i l : Int} {Q : Exit → Act → World → Prop} (k : KnW N rb a V Ad R I) (hx : lkW V x1 = none) (hy : lkW V y1 = none) (hc : lkW V c1 = none) (bx : Nat.blt x1 N = true) (bY : Nat.blt y1 N = true) (bc : Nat.blt c1 N = true) (hi : gt a i1 = .int .i32 i) (hl : gt a l1 = .int .i32 l)
  (n1 : i1 ≠ x1) (n2 : i1 ≠ y1) (n3 : i1 ≠ c1) (n4 : x1 ≠ y1) (n5 : x1 ≠ l1)
  (hq : ∀ b, KnW N rb b V Ad R I → gt b i1 = .int .i32 i → gt b c1 = .bool (decide (i < l)) → Q .normal b w) :
  (Code.region r1 #[⟨some x1, .move (.tmp i1), ta, p1, f1, none⟩, ⟨some y1, .move (.tmp l1), tb, p2, f2, none⟩, ⟨some c1, .binOp .lss t1 (.tmp x1) (.tmp y1) u1, tc, p3, f3, none⟩] false).wp P Q a w := by
 refine wp_region_lit (st_move ?_)
 rw [eval_tmp, hi]
 have k1 := k.putFree (t := x1) (.int .i32 i) hx
 have e1 : gt (a.put (some x1) (.int .i32 i)) x1 = .int .i32 i := gt_put_same _ _ _ (by rw [k.size]; exact Nat.le_of_ble_eq_true bx)
 have e2 : gt (a.put (some x1) (.int .i32 i)) i1 = .int .i32 i := by rw [gt_put_ne _ _ _ _ n1]; exact hi
 have e3 : gt (a.put (some x1) (.int .i32 i)) l1 = .int .i32 l := by rw [gt_put_ne _ _ _ _ n5.symm]; exact hl
 generalize a.put (some x1) (.int .i32 i) = b1 at *
 refine st_move ?_
 rw [eval_tmp, e3]
 have k2 := k1.putFree (t := y1) (.int .i32 l) hy
 have d1 : gt (b1.put (some y1) (.int .i32 l)) x1 = .int .i32 i := by rw [gt_put_ne _ _ _ _ n4]; exact e1
 have d2 : gt (b1.put (some y1) (.int .i32 l)) y1 = .int .i32 l := gt_put_same _ _ _ (by rw [k1.size]; exact Nat.le_of_ble_eq_true bY)
 have d3 : gt (b1.put (some y1) (.int .i32 l)) i1 = .int .i32 i := by rw [gt_put_ne _ _ _ _ n2]; exact e2
 generalize b1.put (some y1) (.int .i32 l) = b2 at *
 refine st_lss d1 d2 ?_
 have k3 := k2.putFree (t := c1) (.bool (decide (i < l))) hc
 exact hq _ k3 (by rw [gt_put_ne _ _ _ _ n3]; exact d3) (gt_put_same _ _ _ (by rw [k2.size]; exact Nat.le_of_ble_eq_true bc))
theorem tail_ok {V : WA} {u1 w1 i1 N : Nat} {r1 : Nat} {t1 u2 ta tb tc : TypeId} {p1 p2 p3 : String} {f1 f2 f3 : Array Edge} {i : Int} {Q : Exit → Act → World → Prop} (k : KnW N rb a V Ad R I) (hu : lkW V u1 = none) (hw : lkW V w1 = none) (hv : lkW V i1 = none) (bu : Nat.blt u1 N = true) (bw : Nat.blt w1 N = true) (bi : Nat.blt i1 N = true) (hi : gt a i1 = .int .i32 i)
  (hq : ∀ b, KnW N rb b V Ad R I → gt b i1 = .int .i32 (IntKind.i32.wrap (i + 1)) → Q .normal b w) :
  (Code.region r1 #[⟨some u1, .move (.tmp i1), ta, p1, f1, none⟩, ⟨some w1, .binOp .add t1 (.tmp u1) (.const (.int .i32 1)) u2, tb, p2, f2, none⟩, ⟨some i1, .assign (.tmp w1), tc, p3, f3, none⟩] false).wp P Q a w := by
 refine wp_region_lit (st_move ?_)
 rw [eval_tmp, hi]
 have k1 := k.putFree (t := u1) (.int .i32 i) hu
 have e1 : gt (a.put (some u1) (.int .i32 i)) u1 = .int .i32 i := gt_put_same _ _ _ (by rw [k.size]; exact Nat.le_of_ble_eq_true bu)
 generalize a.put (some u1) (.int .i32 i) = b1 at *
 refine st_add e1 (by rfl) ?_
 have k2 := k1.putFree (t := w1) (.int .i32 (IntKind.i32.wrap (i + 1))) hw
 have d1 : gt (b1.put (some w1) (.int .i32 (IntKind.i32.wrap (i + 1)))) w1 = .int .i32 (IntKind.i32.wrap (i + 1)) := gt_put_same _ _ _ (by rw [k1.size]; exact Nat.le_of_ble_eq_true bw)
 generalize b1.put (some w1) (.int .i32 (IntKind.i32.wrap (i + 1))) = b2 at *
 refine st_assign ?_
 rw [eval_tmp, d1]
 exact hq _ (k2.putFree _ hv) (gt_put_same _ _ _ (by rw [k2.size]; exact Nat.le_of_ble_eq_true bi))
end
end Go.Proofs.YtgpnpfiafcakfaaDoor

namespace Go.Proofs.YtgpnpfiafcakfaaDoor
open Go Go.RowKit
section
variable {P : Program} {K : Kr} {N g rb sb : Nat} {ev : Value} {k : Nat} {rows : List (Nat × Nat × Nat)} {zs : List (Nat × List Value)} {S : RS} {Ad : List (Nat × Nat)} {R : List Value} {I : List Int} {it : Wi} {sst st0 st : Option (List UInt8)} {a : Act} {w : World}
theorem loopR_ok {rs id q1 q2 x1 y1 c1 u1 w1 i1 l1 l r : Nat} {t1 u2 t3 u3 ta tb tc td te tf : TypeId} {p1 p2 p3 p4 p5 p6 : String} {f1 f2 f3 f4 f5 f6 : Array Edge} {c : Bool} {z : Option Nat} {zc : List Value} {zs' : List (Nat × List Value)} {V : WA} {S2 : RS} {body : Code} {Q : Exit → Act → World → Prop}
  (H : RAt N g rb sb ev k rows zs S Ad R I it sst st0 st a w) (hpd : S.pd = .made c l z r) (hzs : zs = (r, zc) :: zs') (hlast : lastRow S.H = true)
  (kV : lessW S.A V) (vi : lkW V i1 = none) (vx : lkW V x1 = none) (vy : lkW V y1 = none) (vc : lkW V c1 = none) (vu : lkW V u1 = none) (vw : lkW V w1 = none) (hl1 : lkW V l1 = some (.res l)) (hi0 : lkW S.A i1 = some (.val (.int .i32 0)))
  (bx : Nat.blt x1 N = true) (bY : Nat.blt y1 N = true) (bc : Nat.blt c1 N = true) (bu : Nat.blt u1 N = true) (bw : Nat.blt w1 N = true) (bi : Nat.blt i1 N = true)
  (n1 : i1 ≠ x1) (n2 : i1 ≠ y1) (n3 : i1 ≠ c1) (n4 : x1 ≠ y1) (n5 : x1 ≠ l1)
  (hwi : lessW S2.A V) (hidx : lkW S2.A i1 = some (.idx (k + 1))) (hno : S2.pd = .no) (hlenS : S2.cells.length = zc.length)
  (hbody : ∀ (Ad' : List (Nat × Nat)) (R' : List Value) (I' : List Int) (it' : Wi) (st' : Option (List UInt8)) (a' : Act) (w' : World) (Q' : Exit → Act → World → Prop), RAt N g rb sb ev (k + 1) ((k + 1, r, zc.length) :: rows) zs' ⟨(i1, .idx (k + 1)) :: V, S.H, .no, zc.map some, shDs (litsD zc), false, zc, []⟩ Ad' R' I' it' st' st' st' a' w' →
   (∀ R'' it'' st0'' st'' a'' w'', Fr rb it' it'' R' R'' w' w'' → RAt N g rb sb ev (k + 1) ((k + 1, r, zc.length) :: rows) zs' S2 Ad' R'' I' it'' st' st0'' st'' a'' w'' → Q' .normal a'' w'') →
   (∀ a'' w'', Bad N g rb ev rs it' w' a'' w'' → (∀ s, st' = some s → Fails S2 s) → Q' .ret a'' w'') → body.wp P Q' a' w')
  (hq : ∀ st' a' w', Fr rb it it R R w w' → RAt N g rb sb ev k rows zs' { S with A := V, pd := .done c z.isSome r S2.st S2.dfl S2.acts } Ad R I it sst st0 st' a' w' → Q .normal a' w')
  (hbad : ∀ a' w', Bad N g rb ev rs it w a' w' → (∀ s, sst = some s → Fails { S with A := V, pd := .done c z.isSome r S2.st S2.dfl S2.acts } s) → Q .ret a' w') :
  (Code.block id (.loop (.seq (.seq (.region q1 #[⟨some x1, .move (.tmp i1), ta, p1, f1, none⟩, ⟨some y1, .move (.tmp l1), tb, p2, f2, none⟩, ⟨some c1, .binOp .lss t1 (.tmp x1) (.tmp y1) u2, tc, p3, f3, none⟩] false) (.cond (.tmp c1) .skip (.exit id))) (.seq body (.region q2 #[⟨some u1, .move (.tmp i1), td, p4, f4, none⟩, ⟨some w1, .binOp .add t3 (.tmp u1) (.const (.int .i32 1)) u3, te, p5, f5, none⟩, ⟨some i1, .assign (.tmp w1), tf, p6, f6, none⟩] false))))).wp P Q a w := by
 have hp := H.pd
 rw [hpd] at hp
 obtain ⟨l0, s1, v, zc', rest, hl0, hrel, hst, hzok, hr, hzs', hnew, hone, hpos⟩ := hp
 rw [hzs] at hzs'
 simp only [List.cons.injEq, Prod.mk.injEq, true_and] at hzs'
 obtain ⟨rfl, rfl⟩ := hzs'
 subst hst
 obtain ⟨s0, hs0, hlen0⟩ : ∃ s0, st0 = some s0 ∧ lenP c s0 = some (l0, s1) := by
  cases st0 with
  | none => simp [LenRel] at hrel
  | some s0 =>
   simp only [LenRel] at hrel
   split at hrel
   ·rename_i x hx
    obtain ⟨e1, e2⟩ := hrel
    simp only [Option.some.injEq] at e1
    exact ⟨s0, rfl, by rw [hx, e1, e2]⟩
   ·cases hrel
 have hlt := lenP_lt hlen0
 simp only [] at hlt
 have kn := H.kn.weak kV
 have hgl : ∀ b, KnW N rb b V Ad R I → gt b l1 = .int .i32 l0 := by
  intro b kb
  have := kb.at_ l1 _ hl1
  simp only [denW] at this
  rw [hl0] at this
  simpa using this.symm
 have hgi : gt a i1 = .int .i32 0 := by
  have := H.kn.at_ i1 _ hi0
  simp only [denW, Option.some.injEq] at this
  exact this.symm
 have hrow : rowP c z.isSome S2.st S2.dfl S2.acts s0 = (rdRow S2.acts (litsD S2.dfl) l0.toNat s1).map fun y =>
  (if z.isSome then (if l0 < 0 then .sl true [] else .sl false (y.1.map (elD S2.st))) else .sl (decide (l0 ≤ 0)) (y.1.map (elD S2.st)), y.2) := by
  simp only [rowP, hlen0, Option.bind_some]
 have hlo := H.lo
 have hne := H.ne
 have hglb := H.gl
 have fin : ∀ (d : D) (stf : Option (List UInt8)) (af : Act) (wf : World), KnW N rb af V Ad R I → Chg (fun j => j = rb ∨ it.lo ≤ j) w wf → v.cells = #[v] → v.oneCell' = true → Rep (Dk sb it.lo wf) wf d [v] → shD d = [.sl] → (match rowP c z.isSome S2.st S2.dfl S2.acts s0 with
   | some x => stf = some x.2 ∧ d = x.1
   | none => stf = none) → Rdr wf rb sb stf → Reps (Dk sb it.lo wf) wf it.ds it.cs → Q .normal af wf := by
  intro d stf af wf kf hc hv1 hv2 hd hsd hrr hrd hds
  refine hq stf af wf ⟨rfl, rfl, rfl, rfl, rfl, hc.wide (fun j hj => by rcases hj with h | h; exact .inl h; exact .inr (.inr h)), [], by simp⟩ ⟨kf, H.ho, ?_, H.ad, H.lens, H.row, ?_, hds, H.cl, H.sh, H.cells, hrd, ?_, H.fresh, H.rel, ⟨hlo.1, hlo.2.1, hlo.2.2.1, Nat.le_trans hlo.2.2.2 hc.size⟩, H.ne, ?_⟩
  ·intro h u hh hu
   unfold lastRow at hlast
   simp only [] at hh
   split at hlast
   ·rename_i n hx
    rw [hx] at hh
    cases hh
    trivial
   ·cases hlast
  ·exact H.box.chg hc (by rintro (h | h); exact hne.2.1 h; omega)
  ·refine ⟨v, d, hr, hv1, hv2, hd, hsd, ?_⟩
   rw [hs0]
   exact hrr
  ·refine ⟨?_, H.gl.2⟩
   have h1 := H.gl.1
   have hg : wf.heap[g]? = w.heap[g]? := hc.block g (by omega) (by rintro (h | h); exact hglb.2.1 h; omega)
   simp only [World.cell?] at h1 ⊢
   rw [hg]; exact h1
 by_cases hpl : 0 < l0
 ·obtain ⟨hb, cap, e, rfl, hbl, hbw, hcap, hbox, _, hreps⟩ := hnew.1 hpl
  obtain ⟨m, hm⟩ : ∃ m : Nat, l0 = (m : Int) := ⟨l0.toNat, by omega⟩
  subst hm
  simp only [Int.toNat_natCast] at hcap hrow
  refine wp_block (wp_loop_ghost (fun n a' w' => ∃ i sti dss cells, i ≤ m ∧ n = m - i ∧ KnW N rb a' V Ad R I ∧ gt a' i1 = .int .i32 (i : Int) ∧ Chg (fun j => j = rb ∨ hb ≤ j) w w' ∧ Box w' hb (cells ++ (List.replicate (cap - i) zc).flatten) e ∧ cells.length = i * zc.length ∧ dss.length = i ∧ Reps (Dk sb (hb + 1) w') w' (dss.map (elD S2.st)) cells ∧ Rdr w' rb sb sti ∧ ItR S2.acts (litsD S2.dfl) i s1 dss sti)
   m ⟨0, some s1, [], [], Nat.zero_le _, rfl, kn, hgi, Chg.refl _ _, by simpa using hbox, by simp, rfl, by simp [Reps], H.rdr, by simp [ItR, rdRow]⟩ ?_)
  rintro n a' w' ⟨i, sti, dss, cells, hi, rfl, k', hgi', hc', hbox', hcl, hdl, hrp, hrd, hit⟩
  have hsz := hc'.size
  refine wp_seq (wp_seq (head_ok k' vx vy vc bx bY bc hgi' (hgl a' k') n1 n2 n3 n4 n5 (fun b kb hbi hbc => ?_)))
  by_cases hlt' : i < m
  ·have hd1 : decide ((i : Int) < (m : Int)) = true := by simpa using hlt'
   rw [hd1] at hbc
   refine wp_cond_true hbc (wp_skip (wp_seq ?_))
   have hxs : cap - i = (cap - i - 1) + 1 := by omega
   rw [hxs, List.replicate_succ, List.flatten_cons, ← List.append_assoc] at hbox'
   have hbw' := hbox'.lt
   have hgne : g ≠ hb := by omega
   have HB : RAt N g rb sb ev (k + 1) ((k + 1, r, zc.length) :: rows) zs' ⟨(i1, .idx (k + 1)) :: V, S.H, .no, zc.map some, shDs (litsD zc), false, zc, []⟩ (Ad ++ [(hb, cells.length)]) R (I ++ [(i : Int)]) ⟨hb, w'.heap.size, cells, (List.replicate (cap - i - 1) zc).flatten, zc, e, litsD zc⟩ sti sti sti b w' := by
    refine ⟨?_, H.ho, ?_, ?_, ?_, ?_, hbox', reps_lits _, ?_, ⟨rfl, ?_⟩, ?_, hrd, rfl, fun _ => ⟨rfl, rfl⟩, ⟨rfl, ?_⟩, ⟨hbw', by simp only []; omega, by simp only []; omega, Nat.le_refl _⟩, ⟨hne.1, by simp only []; omega, by simp only []; omega⟩, ⟨?_, hglb.2.1, by simp only []; omega, hgne⟩⟩
    ·have := (kb.wide [(hb, cells.length)] [] [(i : Int)]).know (t := i1) (s := .idx (k + 1)) (by
      simp only [denW]
      rw [List.getElem?_append_right (by rw [H.lens.2]; exact Nat.le_refl _), H.lens.2, Nat.sub_self, hbi]
      rfl)
     rw [List.append_nil] at this
     exact this
    ·intro h u hh hu
     unfold lastRow at hlast
     simp only [] at hh
     split at hlast
     ·rename_i n hx
      rw [hx] at hh
      cases hh
      trivial
     ·cases hlast
    ·rw [List.getElem?_append_right (by rw [H.lens.1]; exact Nat.le_refl _), H.lens.1, Nat.sub_self]; rfl
    ·simp [H.lens.1, H.lens.2]
    ·intro q rest' hq1 hq2
     simp only [List.cons.injEq] at hq1
     obtain ⟨rfl, rfl⟩ := hq1
     refine ⟨_, cap, i, hr, ?_, hcl, by simpa using hlt'⟩
     rw [List.getElem?_append_right (by rw [H.lens.2]; exact Nat.le_refl _), H.lens.2, Nat.sub_self]; rfl
    ·simp
    ·intro d hd
     simp only [litsD, List.mem_map] at hd
     obtain ⟨u, _, rfl⟩ := hd
     rfl
    ·intro j u hj
     simp only [List.getElem?_map, Option.map_eq_some_iff] at hj
     obtain ⟨u', hu, he⟩ := hj
     cases he
     exact hu
    ·cases sti with
     | none => rfl
     | some s => simp [rdAs]
    ·have h1 := H.gl.1
     have hg : w'.heap[g]? = w.heap[g]? := hc'.block g (by omega) (by rintro (h | h); exact hglb.2.1 h; omega)
     simp only [World.cell?] at h1 ⊢
     rw [hg]; exact h1
   refine hbody _ _ _ _ _ _ _ _ HB ?_ ?_
   ·intro R'' it'' st0'' st'' a2 w2 f2 H2
    obtain ⟨X, hX⟩ := f2.more
    subst hX
    have k2 : KnW N rb a2 V Ad R I := KnW.back k' (H2.kn.weak hwi)
    have hgi2 : gt a2 i1 = .int .i32 (i : Int) := by
     have := H2.kn.at_ i1 _ hidx
     simp only [denW] at this
     rw [List.getElem?_append_right (by rw [H.lens.2]; exact Nat.le_refl _), H.lens.2, Nat.sub_self] at this
     simpa using this.symm
    have hwrap : IntKind.i32.wrap ((i : Int) + 1) = ((i + 1 : Nat) : Int) := by rw [IntKind.wrap_i32]; omega
    have hpd2 := H2.pd
    rw [hno] at hpd2
    have hst2 : st'' = st0'' := hpd2
    subst hst2
    refine tail_ok k2 vu vw vi bu bw bi hgi2 (fun b2 kb2 hb2 => ?_)
    rw [hwrap] at hb2
    have hcs2 : it''.cs.length = zc.length := by rw [← H2.cl]; exact hlenS
    have hf2 := f2.chg
    simp only [] at hf2
    have hbx2 := H2.box
    rw [f2.b, f2.pre, f2.post, f2.e] at hbx2
    simp only [] at hbx2
    have hlo2 : it''.lo = w'.heap.size := f2.lo
    refine ⟨m - (i + 1), by omega, i + 1, st'', dss ++ [it''.ds], cells ++ it''.cs, hlt', rfl, kb2, hb2, ?_, ?_, ?_, by simp [hdl], ?_, H2.rdr, hit.step H2.rel⟩
    ·exact hc'.trans (hf2.wide (fun j hj => by rcases hj with h | h | h; exact .inl h; exact .inr (by omega); exact .inr (by omega)))
    ·rw [show cap - (i + 1) = cap - i - 1 by omega]; exact hbx2
    ·rw [List.length_append, hcl, hcs2, Nat.add_mul]; omega
    ·rw [List.map_append]
     refine (Reps.app _ _ _).2 ⟨cells, it''.cs, rfl, ?_, ?_⟩
     ·exact hrp.up (fun r' hr' => ⟨hr'.1, Nat.lt_of_lt_of_le hr'.2 hf2.size⟩) (fun r' hr' => hf2.block r' hr'.2 (by
       have := hr'.1
       have := hr'.2
       rintro (h | h | h) <;> omega))
     ·refine ⟨it''.cs, [], by simp, rep_elD ?_, rfl⟩
      have hd2 := H2.ds
      rw [hlo2] at hd2
      exact hd2.up (fun r' hr' => ⟨by rcases hr'.1 with h | h; exact .inl h; exact .inr (by omega), hr'.2⟩) (fun _ _ => rfl)
   ·intro a2 w2 hB hF
    obtain ⟨b1, b2, b3, b4, b5⟩ := hB
    refine hbad a2 w2 ⟨b1, b2, ?_, b4, b5⟩ ?_
    ·exact (hc'.trans (b3.wide (fun j hj => by simp only [] at hj; rcases hj with h | h | h; exact .inl h; exact .inr (by omega); exact .inr (by omega)))).wide (fun j hj => by rcases hj with h | h; exact .inl h; exact .inr (.inr (by omega)))
    ·intro s hs x hx
     simp only [] at hx ⊢
     have hrl := H.rel.2
     rw [hs] at hrl
     simp only [hx] at hrl
     have : s0 = x.2 := by
      have := hs0.symm.trans hrl.1
      simpa using this
     subst this
     rw [hrow]
     have hnn : rdRow S2.acts (litsD S2.dfl) m s1 = none := by
      unfold ItR at hit
      cases hy : rdRow S2.acts (litsD S2.dfl) i s1 with
      | none => exact rdRow_none _ _ _ i m hi hy
      | some y =>
       rw [hy] at hit
       refine rdRow_none _ _ _ (i + 1) m hlt' ?_
       rw [rdRow_snoc, hy]
       simp only [Option.bind_some]
       have := hF y.2 hit.1
       unfold Fails at this
       rw [hno] at this
       cases hz : rdAs S2.acts (litsD S2.dfl) y.2 with
       | none => rfl
       | some u => exact (this u hz).elim
     rw [hnn]; rfl
  ·have hd1 : decide ((i : Int) < (m : Int)) = false := by simpa using hlt'
   rw [hd1] at hbc
   have : i = m := by omega
   subst this
   refine wp_cond_false hbc (wp_exit ?_)
   show (if id = id then _ else _)
   rw [if_pos rfl]
   have hcells : CellsAt w' hb 0 cells := hbox'.cells.left
   have hok : ∀ r', Dk sb (hb + 1) w' r' → Dk sb it.lo w' r' := fun r' hr' => ⟨by rcases hr'.1 with h | h; exact .inl h; exact .inr (by omega), hr'.2⟩
   have hrp' := hrp.up hok (fun _ _ => rfl)
   have hdk : Dk sb it.lo w' hb := ⟨.inr hbl, by omega⟩
   have hds : Reps (Dk sb it.lo w') w' it.ds it.cs := hreps.up (fun r' hr' => ⟨hr'.1.1, by have := hr'.1.2; omega⟩) (fun r' hr' => hc'.block r' hr'.1.2 (by
    have h1 := hr'.1.1
    have h2 := hr'.2
    rintro (h | h) <;> omega))
   refine fin (.sl false (dss.map (elD S2.st))) sti b w' kb (hc'.wide (fun j hj => by rcases hj with h | h; exact .inl h; exact .inr (by omega))) rfl rfl ?_ ?_ ?_ hrd hds
   ·exact ⟨some ⟨hb, 0, none⟩, cap, by simp [hdl], by simpa [hdl] using hcap, (fun h => by cases h), fun _ => ⟨hb, 0, cells, rfl, hdk, hcells, hrp'⟩⟩
   ·rfl
   ·rw [hrow]
    unfold ItR at hit
    cases hy : rdRow S2.acts (litsD S2.dfl) i s1 with
    | none => rw [hy] at hit; exact hit
    | some y =>
     rw [hy] at hit
     obtain ⟨h1, rfl⟩ := hit
     simp only [Option.map_some]
     refine ⟨h1, ?_⟩
     rw [if_neg (by omega : ¬ ((i : Int) < 0)), show decide ((i : Int) ≤ 0) = false from decide_eq_false (by omega)]
     cases z <;> rfl
 ·have hm0 : l0.toNat = 0 := by omega
  rw [hm0] at hrow
  simp only [rdRow, Option.map_some, List.map_nil] at hrow
  have hdone : ∀ b, KnW N rb b V Ad R I → Q .normal b w := by
   intro b kb
   have hv := hnew.2 hpl
   cases z with
   | none =>
    simp only [] at hv
    subst hv
    refine fin (.sl true []) (some s1) b w kb (Chg.refl _ _) rfl rfl ⟨none, 0, rfl, Nat.le_refl _, fun _ => ⟨rfl, rfl, rfl⟩, (fun h => by cases h)⟩ rfl ?_ H.rdr H.ds
    rw [hrow, show decide (l0 ≤ 0) = true from decide_eq_true (by omega)]; exact ⟨rfl, rfl⟩
   | some zi =>
    simp only [] at hv
    by_cases h0 : l0 = 0
    ·obtain ⟨bb, hz, hdk, hcz⟩ := hzok.2 h0
     rw [hv] at hz
     simp only [Option.some.injEq] at hz
     subst hz
     refine fin (.sl false []) (some s1) b w kb (Chg.refl _ _) rfl rfl ⟨some ⟨bb, 0, none⟩, 0, rfl, Nat.le_refl _, (fun h => by cases h), fun _ => ⟨bb, 0, [], rfl, hdk, hcz, rfl⟩⟩ rfl ?_ H.rdr H.ds
     rw [hrow]; simp [h0]
    ·have hz := hzok.1 h0
     rw [hv] at hz
     simp only [Option.some.injEq] at hz
     subst hz
     refine fin (.sl true []) (some s1) b w kb (Chg.refl _ _) rfl rfl ⟨none, 0, rfl, Nat.le_refl _, fun _ => ⟨rfl, rfl, rfl⟩, (fun h => by cases h)⟩ rfl ?_ H.rdr H.ds
     rw [hrow]
     have : l0 < 0 := by omega
     simp [this]
  refine wp_block (wp_loop_ghost (fun n a' w' => n = 0 ∧ a' = a ∧ w' = w) 0 ⟨rfl, rfl, rfl⟩ ?_)
  rintro n a' w' ⟨rfl, rfl, rfl⟩
  refine wp_seq (wp_seq (head_ok kn vx vy vc bx bY bc hgi (hgl _ kn) n1 n2 n3 n4 n5 (fun b kb hbi hbc => ?_)))
  rw [decide_eq_false hpl] at hbc
  refine wp_cond_false hbc (wp_exit ?_)
  show (if id = id then _ else _)
  rw [if_pos rfl]
  exact hdone b kb
end
end Go.Proofs.YtgpnpfiafcakfaaDoor

namespace Go.Proofs.YtgpnpfiafcakfaaDoor
open Go Go.RowKit
section
variable {P : Program} {K : Kr} {N g rb sb : Nat} {ev : Value} {k : Nat} {rows : List (Nat × Nat × Nat)} {zs : List (Nat × List Value)} {S : RS} {Ad : List (Nat × Nat)} {R : List Value} {I : List Int} {it : Wi} {sst st0 st : Option (List UInt8)} {a : Act} {w : World}
theorem failsAt (H : RAt N g rb sb ev k rows zs S Ad R I it sst st0 none a w) : ∀ s, sst = some s → Fails S s := by
 rintro s rfl x hx
 have hr := H.rel.2
 simp only [hx] at hr
 obtain ⟨rfl, _⟩ := hr
 have hp := H.pd
 split
 ·rename_i e; rw [e] at hp; cases hp
 ·rename_i e; rw [e] at hp
  obtain ⟨_, _, _, _, _, _, _, _, h⟩ := hp
  simp only [] at h
  split at h
  ·cases h.1
  ·assumption
 ·rename_i e; rw [e] at hp
  obtain ⟨_, _, h, _⟩ := hp
  simp only [LenRel] at h
  split at h
  ·cases h.1
  ·assumption
 ·rename_i e; rw [e] at hp
  obtain ⟨_, _, _, _, h, _⟩ := hp
  cases h
 ·rename_i e; rw [e] at hp
  obtain ⟨_, _, _, _, _, _, _, h, _⟩ := hp
  cases h
 ·rename_i e; rw [e] at hp
  obtain ⟨_, _, _, _, _, _, _, h⟩ := hp
  simp only [] at h
  split at h
  ·cases h.1
  ·assumption
 ·rename_i e; rw [e] at hp
  obtain ⟨_, _, _, _, _, h⟩ := hp
  simp only [TagRel] at h
  split at h
  ·cases h.1
  ·assumption
 ·rename_i e; rw [e] at hp
  obtain ⟨_, _, _, _, _, _, _, hr, _⟩ := hp
  have h := hr.2.2
  simp only [] at h
  split at h
  ·cases h.1
  ·assumption
 ·rename_i e; rw [e] at hp
  cases hp.1
 ·rename_i e; rw [e] at hp
  obtain ⟨_, _, _, _, _, _, _, _, _, htx, hrel, _⟩ := hp
  obtain ⟨_, _, h⟩ := rd_ptr htx hrel
  have h := h.2.2
  simp only [] at h
  split at h
  ·cases h.1
  ·assumption
theorem fails_ok {S : RS} {c : Bool} {l : Nat} {z : Option Nat} {s : List UInt8} (h : Fails S s) (hp : S.pd = .len c l z) : Fails { S with pd := .ok c l z } s := by
 intro x hx
 have := h x hx
 rw [hp] at this
 exact this
theorem fails_lz {S : RS} {c : Bool} {l : Nat} {z : Option Nat} {s : List UInt8} (h : Fails S s) (hp : S.pd = .len c l z) (A : WA) (H : List Hi) (z' : Option Nat) : Fails { S with A := A, H := H, pd := .len c l z' } s := by
 intro x hx
 have := h x hx
 rw [hp] at this
 exact this
theorem fails_lp {S : RS} {c : Bool} {l r : Nat} {z z' : Option Nat} {s : List UInt8} (h : Fails S s) (hp : S.pd = .ok c l z) (A : WA) (H : List Hi) : Fails { S with A := A, H := H, pd := .made c l z' r } s := by
 intro x hx
 have := h x hx
 rw [hp] at this
 exact this
theorem fails_done {S : RS} {c : Bool} {l r : Nat} {z : Option Nat} {s : List UInt8} (h : Fails S s) (hp : S.pd = .made c l z r) (A : WA) (nb stt : Bool) (dfl : List Value) (body : List Ra) : Fails { S with A := A, pd := .done c nb r stt dfl body } s := by
 intro x hx
 have := h x hx
 rw [hp] at this
 simp only [] at this ⊢
 simp only [rowP, this, Option.bind_none]
theorem condR_fails {rs h : Nat} {a b : Code} {x : RS × List (Nat × List Value)} (e : condR K P N rs zs S h a b = some x) : ∀ s, Fails S s → Fails x.1 s := by
 intro s hf
 unfold condR at e
 split at e
 ·rename_i c l z hh hpd
  cases hb : Nat.beq (h + 1) S.H.length && badR K P N rs S a with
  | false => rw [hb] at e; cases e
  | true =>
   rw [hb] at e
   cases e
   exact fails_ok hf hpd
 ·rename_i hh hpd
  cases hb : Nat.beq _ _ with
  | false => rw [hb] at e; cases e
  | true =>
   rw [hb] at e
   simp only [cond_true] at e
   split at e
   ·cases e
    exact fails_lz hf hpd _ _ _
   ·cases e
 ·rename_i hh hpd
  cases hb : Nat.beq _ _ with
  | false => rw [hb] at e; cases e
  | true =>
   rw [hb] at e
   simp only [cond_true] at e
   split at e
   ·split at e
    ·cases hz : optEq _ _ with
     | false => rw [hz] at e; cases e
     | true =>
      rw [hz] at e
      cases e
      exact fails_lp hf hpd _ _
    ·cases e
   ·cases e
 ·cases e
theorem runR_fails {rs : Nat} : ∀ (n k : Nat) (rows : List (Nat × Nat × Nat)) (zs : List (Nat × List Value)) (S : RS) (c : Code) (S' : RS) (zs' : List (Nat × List Value)) (e : Bool), runR K P N rs n k rows zs S c = some (S', zs', e) → ∀ s, Fails S s → Fails S' s := by
 intro n
 induction n with
 | zero => intro k rows zs S c S' zs' e h; simp [runR] at h
 | succ n ih =>
  intro k rows zs S c S' zs' e h s hf
  unfold runR at h
  split at h
  ·cases h; exact hf
  ·split at h
   ·split at h
    ·cases hb : Nat.beq _ S.H.length && Nat.beq k 0 with
     | false => rw [hb] at h; cases h
     | true => rw [hb] at h; cases h; exact hf
    ·cases h
   ·cases h
  ·split at h
   ·rename_i S1 hx
    cases h
    exact opsR_fails _ _ hx hf
   ·cases h
  ·split at h
   ·rename_i S1 zs1 h1
    exact ih _ _ _ _ _ _ _ _ h s (ih _ _ _ _ _ _ _ _ h1 s hf)
   ·rename_i S1 zs1 h1
    cases h
    exact ih _ _ _ _ _ _ _ _ h1 s hf
   ·cases h
  ·split at h
   ·exact ih _ _ _ _ _ _ _ _ h s hf
   ·exact ih _ _ _ _ _ _ _ _ h s hf
   ·split at h
    ·rename_i x hx
     cases h
     exact condR_fails hx s hf
    ·cases h
   ·cases h
  ·split at h
   ·split at h
    ·rename_i hpd
     cases hb : Nat.beq _ _ && isRes _ _ _ && i0 _ _ && lastRow S.H with
     | false => rw [hb] at h; cases h
     | true =>
      rw [hb] at h
      simp only [cond_true] at h
      split at h
      ·cases hc : bodyOk _ _ _ _ _ with
       | false => rw [hc] at h; cases h
       | true =>
        rw [hc] at h
        cases h
        exact fails_done hf hpd _ _ _ _ _
      ·cases h
    ·cases h
   ·split at h
    ·rename_i S1 zs1 h1
     cases h
     exact ih _ _ _ _ _ _ _ _ h1 s hf
    ·cases h
  ·cases h
end
end Go.Proofs.YtgpnpfiafcakfaaDoor

namespace Go.Proofs.YtgpnpfiafcakfaaDoor
open Go Go.RowKit
theorem nbeq_ne {p q : Nat} (h : (!Nat.beq p q) = true) : p ≠ q := by
 rintro rfl
 rw [Nat.beq_refl] at h; cases h
theorem loopPat_out {N id : Nat} {b : Code} {q : Lp} (h : loopPat N id b = some q) : ∃ (r1 r2 : Nat) (t1 u2 t3 u3 ta tb tc td te tf : TypeId) (p1 p2 p3 p4 p5 p6 : String) (f1 f2 f3 f4 f5 f6 : Array Edge),
  b = .loop (.seq (.seq (.region r1 #[⟨some q.x, .move (.tmp q.i), ta, p1, f1, none⟩, ⟨some q.y, .move (.tmp q.l), tb, p2, f2, none⟩, ⟨some q.c, .binOp .lss t1 (.tmp q.x) (.tmp q.y) u2, tc, p3, f3, none⟩] false) (.cond (.tmp q.c) .skip (.exit id))) (.seq q.body (.region r2 #[⟨some q.u, .move (.tmp q.i), td, p4, f4, none⟩, ⟨some q.w, .binOp .add t3 (.tmp q.u) (.const (.int .i32 1)) u3, te, p5, f5, none⟩, ⟨some q.i, .assign (.tmp q.w), tf, p6, f6, none⟩] false))) ∧
  (Nat.blt q.x N = true ∧ Nat.blt q.y N = true ∧ Nat.blt q.c N = true ∧ Nat.blt q.u N = true ∧ Nat.blt q.w N = true ∧ Nat.blt q.i N = true) ∧ q.i ≠ q.x ∧ q.i ≠ q.y ∧ q.i ≠ q.c ∧ q.x ≠ q.y ∧ q.x ≠ q.l := by
 unfold loopPat at h
 split at h
 ·rename_i r1 x1 i1 ta p1 f1 y1 l1 tb p2 f2 c1 t1 x2 y2 u2 tc p3 f3 c2 id2 body r2 u1 i2 td p4 f4 w1 t3 uu2 u3 te p5 f5 i3 w2 tf p6 f6
  cases hc : Nat.beq i1 i2 && Nat.beq i1 i3 && Nat.beq x1 x2 && Nat.beq y1 y2 && Nat.beq c1 c2 && Nat.beq u1 uu2 && Nat.beq w1 w2 && Nat.beq id id2 && Nat.blt x1 N && Nat.blt y1 N && Nat.blt c1 N && Nat.blt u1 N && Nat.blt w1 N && Nat.blt i1 N && !Nat.beq i1 x1 && !Nat.beq i1 y1 && !Nat.beq i1 c1 && !Nat.beq x1 y1 && !Nat.beq x1 l1 with
  | false => rw [hc] at h; cases h
  | true =>
   rw [hc] at h
   simp only [cond_true, Option.some.injEq] at h
   subst h
   simp only [Bool.and_eq_true] at hc
   obtain ⟨⟨⟨⟨⟨⟨⟨⟨⟨⟨⟨⟨⟨⟨⟨⟨⟨⟨g1, g2⟩, g3⟩, g4⟩, g5⟩, g6⟩, g7⟩, g8⟩, g9⟩, g10⟩, g11⟩, g12⟩, g13⟩, g14⟩, g15⟩, g16⟩, g17⟩, g18⟩, g19⟩ := hc
   have := beq_out g1; subst this
   have := beq_out g2; subst this
   have := beq_out g3; subst this
   have := beq_out g4; subst this
   have := beq_out g5; subst this
   have := beq_out g6; subst this
   have := beq_out g7; subst this
   have := beq_out g8; subst this
   exact ⟨r1, r2, t1, u2, t3, u3, ta, tb, tc, td, te, tf, p1, p2, p3, p4, p5, p6, f1, f2, f3, f4, f5, f6, rfl, ⟨g9, g10, g11, g12, g13, g14⟩, nbeq_ne g15, nbeq_ne g16, nbeq_ne g17, nbeq_ne g18, nbeq_ne g19⟩
 ·cases h
theorem isRes_out {A : WA} {s l : Nat} (h : isRes A s l = true) : lkW A s = some (.res l) := by
 unfold isRes at h
 split at h
 ·rename_i n hn; rw [hn, beq_out h]
 ·cases h
theorem isIdx_out {A : WA} {s l : Nat} (h : isIdx A s l = true) : lkW A s = some (.idx l) := by
 unfold isIdx at h
 split at h
 ·rename_i n hn; rw [hn, beq_out h]
 ·cases h
theorem i0_out {A : WA} {t : Nat} (h : i0 A t = true) : lkW A t = some (.val (.int .i32 0)) := by
 unfold i0 at h
 split at h
 ·assumption
 ·cases h
theorem isNo_out {p : Pd} (h : isNo p = true) : p = .no := by cases p <;> first | rfl | cases h
theorem lkW_drop_self (A : WA) (t : Nat) : lkW (dropW A t) t = none := by rw [lkW_drop, if_pos rfl]
theorem lkW_drop_none {A : WA} {t u : Nat} (h : lkW A u = none) : lkW (dropW A t) u = none := by
 rw [lkW_drop]
 split
 ·rfl
 ·exact h
theorem loopW_less (A : WA) (q : Lp) : lessW A (loopW A q) :=
 lessW_trans (lessW_trans (lessW_trans (lessW_trans (lessW_trans (lessW_trans (lessW_kept A) (lessW_drop _ _)) (lessW_drop _ _)) (lessW_drop _ _)) (lessW_drop _ _)) (lessW_drop _ _)) (lessW_drop _ _)
theorem Bad.wide {N g rb rs : Nat} {ev : Value} {it it' : Wi} {R R' : List Value} {w w' : World} (f : Fr rb it it' R R' w w') {a2 : Act} {w2 : World} (h : Bad N g rb ev rs it' w' a2 w2) : Bad N g rb ev rs it w a2 w2 := by
 obtain ⟨b1, b2, b3, b4, b5⟩ := h
 exact ⟨b1, b2, f.chg.trans (b3.wide (fun j hj => by rw [f.b, f.lo] at hj; exact hj)), b4, b5⟩
section
variable {P : Program} {K : Kr} {N g rb sb : Nat} {ev : Value}
theorem zs_free {k : Nat} {rows : List (Nat × Nat × Nat)} {zs zs' : List (Nat × List Value)} {S : RS} {Ad : List (Nat × Nat)} {R : List Value} {I : List Int} {it : Wi} {sst st0 st : Option (List UInt8)} {a : Act} {w : World} (H : RAt N g rb sb ev k rows zs S Ad R I it sst st0 st a w) (h : S.pd = .no) : RAt N g rb sb ev k rows zs' S Ad R I it sst st0 st a w := by
 have hp := H.pd
 refine ⟨H.kn, H.ho, H.last, H.ad, H.lens, H.row, H.box, H.ds, H.cl, H.sh, H.cells, H.rdr, ?_, H.fresh, H.rel, H.lo, H.ne, H.gl⟩
 rw [h] at hp ⊢
 exact hp
theorem condR_ok (hK : KrOk P K g ev) {k : Nat} {rows : List (Nat × Nat × Nat)} {zs : List (Nat × List Value)} {S : RS} {Ad : List (Nat × Nat)} {R : List Value} {I : List Int} {it : Wi} {sst st0 st : Option (List UInt8)} {a : Act} {w : World}
  {rs h : Nat} {q : Operand} {c d : Code} {x : RS × List (Nat × List Value)} (hq0 : evW S.A q = some (.res h)) (e : condR K P N rs zs S h c d = some x) (H : RAt N g rb sb ev k rows zs S Ad R I it sst st0 st a w) {Q : Exit → Act → World → Prop}
  (hq : ∀ R' it' st0' st' a' w', Fr rb it it' R R' w w' → RAt N g rb sb ev k rows x.2 x.1 Ad R' I it' sst st0' st' a' w' → Q .normal a' w')
  (hbad : ∀ a' w', Bad N g rb ev rs it w a' w' → (∀ s, sst = some s → Fails x.1 s) → Q .ret a' w') : (Code.cond q c d).wp P Q a w := by
 unfold condR at e
 split at e
 ·rename_i cc l z hh hpd
  cases hb : Nat.beq (h + 1) S.H.length && badR K P N rs S c with
  | false => rw [hb] at e; cases e
  | true =>
   rw [hb] at e
   simp only [cond_true, Option.some.injEq] at e
   subst e
   rw [Bool.and_eq_true] at hb
   have hlen := beq_out hb.1
   have hv := H.kn.eval hq0
   simp only [denW] at hv
   have hl := H.last .nok (a.eval q) (by rw [← hlen, Nat.add_sub_cancel]; exact hh) (by rw [← hlen, Nat.add_sub_cancel]; exact hv)
   simp only [LastV] at hl
   cases st with
   | none =>
    refine wp_cond_true (by rw [hl]; rfl) (badR_ok hK H hb.2 rfl (fun a' w' hB => hbad a' w' hB ?_))
    exact fun s hs => fails_ok (failsAt H s hs) hpd
   | some s1 =>
    refine wp_cond_false (by rw [hl]; rfl) (wp_skip (hq R it st0 (some s1) a w (Fr.refl _ _ _ _) ?_))
    have hp := H.pd
    rw [hpd] at hp
    obtain ⟨l0, h1, h2, h3⟩ := hp
    exact ⟨H.kn, H.ho, H.last, H.ad, H.lens, H.row, H.box, H.ds, H.cl, H.sh, H.cells, H.rdr, ⟨l0, s1, h1, h2, rfl, h3⟩, H.fresh, H.rel, H.lo, H.ne, H.gl⟩
 ·rename_i l' cc l hh hpd
  cases hb : Nat.beq l l' with
  | false => rw [hb] at e; cases e
  | true =>
   rw [hb] at e
   have := beq_out hb; subst this
   simp only [cond_true] at e
   split at e
   ·rename_i t u hn
    simp only [Option.some.injEq] at e
    subst e
    exact lz_ok H hq0 hh hpd hn (fun v a' w' f H' => hq _ _ _ _ a' w' f H')
   ·cases e
 ·rename_i l' cc l z hh hpd
  cases hb : Nat.beq l l' with
  | false => rw [hb] at e; cases e
  | true =>
   rw [hb] at e
   have := beq_out hb; subst this
   simp only [cond_true] at e
   split at e
   ·rename_i t xx y u z' ty hn hty
    split at e
    ·rename_i zc hzc
     cases hz : optEq z z' with
     | false => rw [hz] at e; cases e
     | true =>
      rw [hz] at e
      simp only [cond_true, Option.some.injEq] at e
      subst e
      exact lp_ok H hq0 hh hpd hn hty hzc hz (fun v a' w' f H' => hq _ _ _ _ a' w' f H')
    ·cases e
   ·cases e
 ·cases e
theorem runR_ok (hK : KrOk P K g ev) {rs : Nat} : ∀ (n k : Nat) (rows : List (Nat × Nat × Nat)) (zs : List (Nat × List Value)) (S : RS) (c : Code) (S' : RS) (zs' : List (Nat × List Value)) (e : Bool), runR K P N rs n k rows zs S c = some (S', zs', e) →
  ∀ (Ad : List (Nat × Nat)) (R : List Value) (I : List Int) (it : Wi) (sst st0 st : Option (List UInt8)) (a : Act) (w : World) (Q : Exit → Act → World → Prop), RAt N g rb sb ev k rows zs S Ad R I it sst st0 st a w →
   (∀ R' it' st0' st' a' w', Fr rb it it' R R' w w' → RAt N g rb sb ev k rows zs' S' Ad R' I it' sst st0' st' a' w' → (e = true → S'.pd = .no ∧ gt a' rs = endV ev st') → Q (if e then .ret else .normal) a' w') →
   (∀ a' w', Bad N g rb ev rs it w a' w' → (∀ s, sst = some s → Fails S' s) → Q .ret a' w') → c.wp P Q a w := by
 intro n
 induction n with
 | zero => intro k rows zs S c S' zs' e h; simp [runR] at h
 | succ n ih =>
  intro k rows zs S c S' zs' e h Ad R I it sst st0 st a w Q H hq hbad
  unfold runR at h
  split at h
  ·cases h
   exact wp_skip (hq R it st0 st a w (Fr.refl _ _ _ _) H (fun h => by cases h))
  ·split at h
   ·rename_i e0 hpd hrs
    split at h
    ·rename_i her
     cases hb : Nat.beq (e0 + 1) S.H.length && Nat.beq k 0 with
     | false => rw [hb] at h; cases h
     | true =>
      rw [hb] at h
      cases h
      rw [Bool.and_eq_true] at hb
      have hlen := beq_out hb.1
      have hv := H.kn.at_ rs _ hrs
      simp only [denW] at hv
      have hl := H.last .er (gt a rs) (by rw [← hlen, Nat.add_sub_cancel]; exact her) (by rw [← hlen, Nat.add_sub_cancel]; exact hv)
      exact wp_ret (hq R it st0 st a w (Fr.refl _ _ _ _) H (fun _ => ⟨hpd, hl⟩))
    ·cases h
   ·cases h
  ·split at h
   ·rename_i S1 hx
    cases h
    refine wp_region_lit (opsR_ok hK _ _ hx H (fun R' it' st0' st' a' w' f H' => hq R' it' st0' st' a' w' f H' (fun h => by cases h)))
   ·cases h
  ·split at h
   ·rename_i S1 zs1 h1
    refine wp_seq (ih _ _ _ _ _ _ _ _ h1 Ad R I it sst st0 st a w _ H (fun R' it' st0' st' a' w' f H' _ => ?_) (fun a' w' hB hF => ?_))
    ·exact ih _ _ _ _ _ _ _ _ h Ad R' I it' sst st0' st' a' w' Q H' (fun R'' it'' st0'' st'' a'' w'' f' H'' hr => hq R'' it'' st0'' st'' a'' w'' (f.trans f') H'' hr) (fun a'' w'' hB hF => hbad a'' w'' (hB.wide f) hF)
    ·exact hbad a' w' hB (fun s hs => runR_fails _ _ _ _ _ _ _ _ _ h s (hF s hs))
   ·rename_i S1 zs1 h1
    cases h
    exact wp_seq (ih _ _ _ _ _ _ _ _ h1 Ad R I it sst st0 st a w _ H (fun R' it' st0' st' a' w' f H' hr => hq R' it' st0' st' a' w' f H' hr) (fun a' w' hB hF => hbad a' w' hB hF))
   ·cases h
  ·split at h
   ·rename_i hq0
    have hv := H.kn.eval hq0
    simp only [denW, Option.some.injEq] at hv
    exact wp_cond_true hv.symm (ih _ _ _ _ _ _ _ _ h Ad R I it sst st0 st a w Q H hq hbad)
   ·rename_i hq0
    have hv := H.kn.eval hq0
    simp only [denW, Option.some.injEq] at hv
    exact wp_cond_false hv.symm (ih _ _ _ _ _ _ _ _ h Ad R I it sst st0 st a w Q H hq hbad)
   ·rename_i h0 hq0
    split at h
    ·rename_i x hx
     cases h
     exact condR_ok hK hq0 hx H (fun R' it' st0' st' a' w' f H' => hq R' it' st0' st' a' w' f H' (fun h => by cases h)) hbad
    ·cases h
   ·cases h
  ·split at h
   ·rename_i id b q hpat
    split at h
    ·rename_i cc l z r r' zc zs0 hpd
     cases hb : Nat.beq r r' && isRes (loopW S.A q) q.l l && i0 S.A q.i && lastRow S.H with
     | false => rw [hb] at h; cases h
     | true =>
      rw [hb] at h
      simp only [cond_true] at h
      split at h
      ·rename_i S2 zs2 hrun
       cases hc : bodyOk (loopW S.A q) k q.i zc.length S2 with
       | false => rw [hc] at h; cases h
       | true =>
        rw [hc] at h
        cases h
        simp only [Bool.and_eq_true] at hb
        obtain ⟨⟨⟨g1, g2⟩, g3⟩, g4⟩ := hb
        have := beq_out g1; subst this
        unfold bodyOk at hc
        simp only [Bool.and_eq_true] at hc
        obtain ⟨⟨⟨c1, c2⟩, c3⟩, c4⟩ := hc
        obtain ⟨r1, r2, t1, u2, t3, u3, ta, tb, tc, td, te, tf, p1, p2, p3, p4, p5, p6, f1, f2, f3, f4, f5, f6, rfl, ⟨b1, b2, b3, b4, b5, b6⟩, n1, n2, n3, n4, n5⟩ := loopPat_out hpat
        refine loopR_ok (V := loopW S.A q) (rs := rs) H hpd rfl g4 (loopW_less _ _) ?_ ?_ ?_ ?_ ?_ ?_ (isRes_out g2) (i0_out g3) b1 b2 b3 b4 b5 b6 n1 n2 n3 n4 n5 (lessW_within c1) (isIdx_out c2) (isNo_out c3) (beq_out c4)
         (fun Ad' R' I' it' st' a' w' Q' H' hq' hbad' => ih _ _ _ _ _ _ _ _ hrun Ad' R' I' it' st' st' st' a' w' Q' H' (fun R'' it'' st0'' st'' a'' w'' f H'' _ => hq' R'' it'' st0'' st'' a'' w'' f (zs_free H'' (isNo_out c3))) hbad')
         (fun st' a' w' f H' => hq R it st0 st' a' w' f H' (fun h => by cases h)) hbad
        ·unfold loopW
         exact lkW_drop_none (lkW_drop_none (lkW_drop_none (lkW_drop_none (lkW_drop_none (lkW_drop_self _ _)))))
        ·unfold loopW
         exact lkW_drop_none (lkW_drop_none (lkW_drop_none (lkW_drop_none (lkW_drop_self _ _))))
        ·unfold loopW
         exact lkW_drop_none (lkW_drop_none (lkW_drop_none (lkW_drop_self _ _)))
        ·unfold loopW
         exact lkW_drop_none (lkW_drop_none (lkW_drop_self _ _))
        ·unfold loopW
         exact lkW_drop_none (lkW_drop_self _ _)
        ·unfold loopW
         exact lkW_drop_self _ _
      ·cases h
    ·cases h
   ·rename_i id b hpat
    split at h
    ·rename_i S1 zs1 h1
     cases h
     exact wp_block (ih _ _ _ _ _ _ _ _ h1 Ad R I it sst st0 st a w _ H (fun R' it' st0' st' a' w' f H' hr => hq R' it' st0' st' a' w' f H' hr) (fun a' w' hB hF => hbad a' w' hB hF))
    ·cases h
  ·cases h
end
end Go.Proofs.YtgpnpfiafcakfaaDoor

namespace Go.Proofs.YtgpnpfiafcakfaaDoor
open Go Go.RowKit
structure Hd where
 rs : Nat
 x : Nat
 y : Nat
 f : Nat
 u : Nat
 b : Nat
 r : Nat
 rest : Code
def distinct : List Nat → Bool
 | [] => true
 | x :: r => r.all (fun y => !Nat.beq x y) && distinct r
def headF (K : Kr) (N : Nat) : Code → Option Hd
 | .seq (.region _ ⟨[⟨some rs, .assign (.const .nilIface), _, _, _, none⟩]⟩ false) (.seq (.region _ ⟨[⟨some x, .move (.tmp 0), _, _, _, none⟩, ⟨some y, .call ⟨.value (.func f), ⟨[.tmp x2]⟩, _⟩, _, _, _, none⟩]⟩ false)
   (.seq (.region _ ⟨[⟨some u, .move (.tmp 1), _, _, _, none⟩, ⟨some b, .build tb ⟨[(0, .tmp u2)]⟩, _, _, _, none⟩, ⟨some r, .alloc ta, _, _, _, none⟩, ⟨none, .store ts (.tmp r2) (.tmp b2), _, _, _, none⟩]⟩ false) rest)) =>
  bif Nat.beq x x2 && Nat.beq u u2 && Nat.beq r r2 && Nat.beq b b2 && Nat.beq tb K.rty && Nat.beq ta K.rty && Nat.beq ts K.rty && [rs, x, y, u, b, r].all (fun t => Nat.blt t N) && distinct [0, 1, 2, rs, x, y, u, b, r] then some ⟨rs, x, y, f, u, b, r, rest⟩ else none
 | _ => none
def resIs (r : Array ResultVar) (t : Nat) : Bool := match r with
 | ⟨[.tmp u]⟩ => Nat.beq u t
 | _ => false
theorem resIs_out {r : Array ResultVar} {t : Nat} (h : resIs r t = true) : r = #[.tmp t] := by
 unfold resIs at h
 split at h
 ·rw [beq_out h]
 ·cases h
structure KrTy (P : Program) (K : Kr) : Prop where
 built : ∀ a n c, P.built K.rty [(0, .slice a n c)] = some #[.slice a n c, .bool false]
 zero : ∀ w : World, (zeroValue K.rty).run P w = .ok (.agg #[.slice none 0 0, .bool false]) w
 size : sizeIs P K.rty 2 = true
theorem headF_out {K : Kr} {N : Nat} {c : Code} {q : Hd} (h : headF K N c = some q) : ∃ (i1 i2 i3 : Nat) (ats : Array TypeId) (t1 t2 t3 t4 t5 t6 t7 : TypeId) (p1 p2 p3 p4 p5 p6 p7 : String) (f1 f2 f3 f4 f5 f6 f7 : Array Edge),
  c = .seq (.region i1 #[⟨some q.rs, .assign (.const .nilIface), t1, p1, f1, none⟩] false) (.seq (.region i2 #[⟨some q.x, .move (.tmp 0), t2, p2, f2, none⟩, ⟨some q.y, .call ⟨.value (.func q.f), #[.tmp q.x], ats⟩, t3, p3, f3, none⟩] false)
   (.seq (.region i3 #[⟨some q.u, .move (.tmp 1), t4, p4, f4, none⟩, ⟨some q.b, .build K.rty #[(0, .tmp q.u)], t5, p5, f5, none⟩, ⟨some q.r, .alloc K.rty, t6, p6, f6, none⟩, ⟨none, .store K.rty (.tmp q.r) (.tmp q.b), t7, p7, f7, none⟩] false) q.rest)) ∧
  (∀ t ∈ [q.rs, q.x, q.y, q.u, q.b, q.r], Nat.blt t N = true) ∧ distinct [0, 1, 2, q.rs, q.x, q.y, q.u, q.b, q.r] = true := by
 unfold headF at h
 split at h
 ·rename_i i1 rs t1 p1 f1 i2 x t2 p2 f2 y f x2 ats t3 p3 f3 i3 u t4 p4 f4 b tb u2 t5 p5 f5 r ta t6 p6 f6 ts r2 b2 t7 p7 f7 rest
  cases hc : Nat.beq x x2 && Nat.beq u u2 && Nat.beq r r2 && Nat.beq b b2 && Nat.beq tb K.rty && Nat.beq ta K.rty && Nat.beq ts K.rty && [rs, x, y, u, b, r].all (fun t => Nat.blt t N) && distinct [0, 1, 2, rs, x, y, u, b, r] with
  | false => rw [hc] at h; cases h
  | true =>
   rw [hc] at h
   simp only [cond_true, Option.some.injEq] at h
   subst h
   simp only [Bool.and_eq_true] at hc
   obtain ⟨⟨⟨⟨⟨⟨⟨⟨g1, g2⟩, g3⟩, g4⟩, g5⟩, g6⟩, g7⟩, g8⟩, g9⟩ := hc
   have := beq_out g1; subst this
   have := beq_out g2; subst this
   have := beq_out g3; subst this
   have := beq_out g4; subst this
   have h5 := beq_out g5; subst h5
   have h6 := beq_out g6; subst h6
   have h7 := beq_out g7; subst h7
   exact ⟨i1, i2, i3, ats, t1, t2, t3, t4, t5, t6, t7, p1, p2, p3, p4, p5, p6, p7, f1, f2, f3, f4, f5, f6, f7, rfl, fun t ht => List.all_eq_true.1 g8 t ht, g9⟩
 ·cases h
theorem distinct_out : ∀ {l : List Nat}, distinct l = true → l.Pairwise (· ≠ ·)
 | [], _ => .nil
 | x :: r, h => by
  simp only [distinct, Bool.and_eq_true, List.all_eq_true] at h
  exact .cons (fun y hy => nbeq_ne (h.1 y hy)) (distinct_out h.2)
def SrcAt (w : World) (sb : Nat) (v : Value) (s : List UInt8) : Prop := s.length ≤ srcLim ∧ ((v = .slice none 0 0 ∧ s = [] ∧ sb = 0) ∨ ∃ o c, v = .slice (some ⟨sb, o, none⟩) s.length c ∧ s.length ≤ c ∧ CellsAt w sb o (bv s) ∧ sb ≠ 0)
section
variable {P : Program} {K : Kr} {g : Nat} {ev : Value} {w : World}
theorem start_act {a : Act} {N : Nat} {v0 v1 v2 : Value} {c : Code} {Q : Exit → Act → World → Prop} (h : a.tmps.size = N ∧ a.defers = [] ∧ gt a 0 = v0 ∧ gt a 1 = v1 ∧ gt a 2 = v2) (k : ∀ a0 : Act, (a0.tmps.size = N ∧ a0.defers = [] ∧ gt a0 0 = v0 ∧ gt a0 1 = v1 ∧ gt a0 2 = v2) → c.wp P Q a0 w) : c.wp P Q a w := k a h
end
end Go.Proofs.YtgpnpfiafcakfaaDoor

namespace Go.Proofs.YtgpnpfiafcakfaaDoor
open Go Go.RowKit
def SrcV (w : World) (sb : Nat) (v : Value) (s : List UInt8) : Prop := (v = .slice none 0 0 ∧ s = []) ∨ ∃ o c, v = .slice (some ⟨sb, o, none⟩) s.length c ∧ s.length ≤ c ∧ CellsAt w sb o (bv s) ∧ sb ≠ 0
theorem Rdr.view {w : World} {rb sb : Nat} {st : Option (List UInt8)} (h : Rdr w rb sb st) : ∃ a c s e, Box w rb [.slice a s.length c, .bool st.isNone] e ∧ s.length ≤ c ∧ s.length ≤ srcLim ∧ SrcV w sb (.slice a s.length c) s ∧ ((st = none ∧ s = [] ∧ a = none ∧ c = 0) ∨ st = some s) := by
 cases st with
 | none =>
  obtain ⟨e, h⟩ := h
  exact ⟨none, 0, [], e, h, Nat.le_refl _, Nat.zero_le _, .inl ⟨rfl, rfl⟩, .inl ⟨rfl, rfl, rfl, rfl⟩⟩
 | some s =>
  obtain ⟨v, e, hb, hl, hv, _⟩ := h
  rcases hv with ⟨rfl, rfl⟩ | ⟨o, c, rfl, hle, hc⟩
  ·exact ⟨none, 0, [], e, hb, Nat.le_refl _, Nat.zero_le _, .inl ⟨rfl, rfl⟩, .inr rfl⟩
  ·exact ⟨some ⟨sb, o, none⟩, c, s, e, hb, hle, hl, .inr ⟨o, c, rfl, hle, hc⟩, .inr rfl⟩
theorem SrcV.rdr {w : World} {rb sb : Nat} {v : Value} {s : List UInt8} {e : TypeId} (h : SrcV w sb v s) (hb : Box w rb [v, .bool false] e) (hn : sb ≠ 0 → v ≠ .slice none 0 0) (hl : s.length ≤ srcLim) : Rdr w rb sb (some s) := ⟨v, e, hb, hl, h, hn⟩
theorem SrcV.chg {S : Nat → Prop} {w w' : World} {sb : Nat} {v : Value} {s : List UInt8} (h : SrcV w sb v s) (hc : Chg S w w') (hs : ¬ S sb) : SrcV w' sb v s := by
 rcases h with h | ⟨o, c, e, hle, hcs, hz⟩
 ·exact .inl h
 ·exact .inr ⟨o, c, e, hle, hcs.chg hc hs, hz⟩
theorem nn_drop {c m n k : Nat} {p : Addr} : Value.slice (if c = m then some p else (some p).map (·.add m)) n k ≠ .slice none 0 0 := by split <;> simp
theorem Rdr.nn {w : World} {rb sb : Nat} {s : List UInt8} {v x : Value} {e : TypeId} (h : Rdr w rb sb (some s)) (hb : Box w rb [v, x] e) (hz : sb ≠ 0) : v ≠ .slice none 0 0 := by
 obtain ⟨v', e', hb', _, _, hn⟩ := h
 have h1 := hb'.cell0 (i := 0) rfl
 have h2 := hb.cell0 (i := 0) rfl
 rw [h1] at h2
 simp only [Option.some.injEq] at h2
 rw [← h2]; exact hn hz
theorem SrcV.nz {w : World} {sb : Nat} {v : Value} {s : List UInt8} (h : SrcV w sb v s) (hs : s ≠ []) : sb ≠ 0 := by
 rcases h with ⟨_, h⟩ | ⟨_, _, _, _, _, h⟩
 ·exact absurd h hs
 ·exact h
theorem Rdr.nz {w : World} {rb sb : Nat} {s : List UInt8} (h : Rdr w rb sb (some s)) (hs : s ≠ []) : sb ≠ 0 := by
 obtain ⟨v, e, _, _, h, _⟩ := h
 exact SrcV.nz h hs
theorem Rdr.nn_drop {w : World} {rb sb m : Nat} {s : List UInt8} {a : Option Addr} {n c k l : Nat} {x : Value} {e : TypeId} (h : Rdr w rb sb (some s)) (hb : Box w rb [.slice a n c, x] e) (hv : SrcV w sb (.slice a n c) s) (hz : sb ≠ 0) : Value.slice (if c = m then a else a.map (·.add m)) l k ≠ .slice none 0 0 := by
 have h1 := h.nn hb hz
 cases a with
 | none =>
  exfalso
  rcases hv with ⟨e, _⟩ | ⟨o, c', e, _⟩
  ·exact h1 e
  ·simp at e
 | some p => exact _root_.Go.Proofs.YtgpnpfiafcakfaaDoor.nn_drop
theorem Rdr.nn_take {w : World} {rb sb : Nat} {s : List UInt8} {a : Option Addr} {n c k l : Nat} {x : Value} {e : TypeId} (h : Rdr w rb sb (some s)) (hb : Box w rb [.slice a n c, x] e) (hv : SrcV w sb (.slice a n c) s) (hz : sb ≠ 0) : Value.slice a l k ≠ .slice none 0 0 := by
 have h1 := h.nn hb hz
 cases a with
 | none =>
  exfalso
  rcases hv with ⟨e, _⟩ | ⟨o, c', e, _⟩
  ·exact h1 e
  ·simp at e
 | some p => simp
theorem bv_take (s : List UInt8) (m : Nat) : bv (s.take m) = (bv s).take m := by simp [bv]
theorem bv_drop (s : List UInt8) (m : Nat) : bv (s.drop m) = (bv s).drop m := by simp [bv]
theorem bv_len (s : List UInt8) : (bv s).length = s.length := by simp [bv]
theorem SrcV.drop {w : World} {sb : Nat} {a : Option Addr} {c m : Nat} {s : List UInt8} (h : SrcV w sb (.slice a s.length c) s) (hm : m ≤ s.length) : SrcV w sb (.slice (if c = m then a else a.map (·.add m)) (s.length - m) (c - m)) (s.drop m) := by
 rcases h with ⟨e, rfl⟩ | ⟨o, c', e, hle, hcs, hz⟩
 ·simp only [Value.slice.injEq] at e
  obtain ⟨rfl, _, rfl⟩ := e
  simp only [List.length_nil, Nat.le_zero] at hm
  subst hm
  exact .inl ⟨by simp, rfl⟩
 ·simp only [Value.slice.injEq, true_and] at e
  obtain ⟨rfl, rfl⟩ := e
  have hcs' : CellsAt w sb (o + m) (bv (s.drop m)) := by
   have h1 : bv s = (bv s).take m ++ (bv s).drop m := (List.take_append_drop _ _).symm
   rw [h1] at hcs
   have := hcs.right
   rw [List.length_take, bv_len, Nat.min_eq_left hm, ← bv_drop] at this
   exact this
  by_cases hcm : c = m
  ·subst hcm
   have : s.drop c = [] := List.drop_eq_nil_of_le hle
   right
   refine ⟨o, 0, ?_, by simp [this], ?_, hz⟩
   ·simp only [if_true, Nat.sub_self, List.length_drop]
   ·rw [this]
    obtain ⟨arr, e, fz, h1, h2, h3⟩ := hcs
    exact ⟨arr, e, fz, h1, by simp [bv]; omega, fun i v hv => by simp [bv] at hv⟩
  ·right
   refine ⟨o + m, c - m, ?_, by simp; omega, hcs', hz⟩
   simp [hcm, Addr.add]
theorem SrcV.take {w : World} {sb : Nat} {a : Option Addr} {c m : Nat} {s : List UInt8} (h : SrcV w sb (.slice a s.length c) s) (hm : m ≤ s.length) : SrcV w sb (.slice a m m) (s.take m) := by
 rcases h with ⟨e, rfl⟩ | ⟨o, c', e, hle, hcs, hz⟩
 ·simp only [Value.slice.injEq] at e
  obtain ⟨rfl, _, rfl⟩ := e
  simp only [List.length_nil, Nat.le_zero] at hm
  subst hm
  exact .inl ⟨rfl, rfl⟩
 ·simp only [Value.slice.injEq, true_and] at e
  obtain ⟨rfl, rfl⟩ := e
  right
  have hl : (s.take m).length = m := by simp; omega
  refine ⟨o, m, by rw [hl], by rw [hl]; exact Nat.le_refl _, ?_, hz⟩
  have h1 : bv s = bv (s.take m) ++ (bv s).drop m := by rw [bv_take]; exact (List.take_append_drop _ _).symm
  rw [h1] at hcs
  exact hcs.left
theorem SrcV.cell {w : World} {sb : Nat} {a : Option Addr} {c i : Nat} {s : List UInt8} (h : SrcV w sb (.slice a s.length c) s) (hi : i < s.length) : ∃ o, a = some ⟨sb, o, none⟩ ∧ w.cell? ⟨sb, o + i * 1, none⟩ = some (.int .u8 s[i].toNat) := by
 rcases h with ⟨e, rfl⟩ | ⟨o, c', e, hle, hcs, hz⟩
 ·cases hi
 ·simp only [Value.slice.injEq, true_and] at e
  obtain ⟨rfl, rfl⟩ := e
  refine ⟨o, rfl, ?_⟩
  rw [Nat.mul_one]
  exact hcs.cell (by simp [bv, hi])
theorem SrcV.sq {w : World} {sb lo : Nat} {v : Value} {s : List UInt8} (h : SrcV w sb v s) (hs : sb < w.heap.size) : Rep (Dk sb lo w) w (.sq (s.map byteD)) [v] := by
 simp only [Rep, List.length_map]
 rcases h with ⟨rfl, rfl⟩ | ⟨o, c, rfl, hle, hcs, _⟩
 ·exact ⟨none, 0, rfl, Nat.le_refl _, .inl rfl⟩
 ·exact ⟨_, c, rfl, hle, .inr ⟨sb, o, bv s, rfl, ⟨.inl rfl, hs⟩, hcs, (reps_bytes s _).2 rfl⟩⟩
def RdC (P : Program) (f : Nat) (p : Rp) : Prop := ∀ (w : World) (rb sb lo : Nat) (st : Option (List UInt8)), Rdr w rb sb st → rb < lo → sb < lo → lo ≤ w.heap.size → rb ≠ sb →
  Calls P f #[.pointer (some ⟨rb, 0, none⟩)] w fun e w' => ∃ v nd st', e = .returned v ∧ Chg (· = rb) w w' ∧ Rdr w' rb sb st' ∧ Reps (Dk sb lo w') w' nd v.cells.toList ∧ (v.cells.toList.all fun v => v.oneCell') = true ∧ ((shR p).length = 1 → v.cells = #[v]) ∧ RdRel p st nd st'
def LenC (P : Program) (f : Nat) (c : Bool) : Prop := ∀ (w : World) (rb sb lo : Nat) (st : Option (List UInt8)), Rdr w rb sb st → rb < lo → sb < lo → lo ≤ w.heap.size → rb ≠ sb →
  Calls P f #[.pointer (some ⟨rb, 0, none⟩)] w fun e w' => ∃ l st', e = .returned (.int .i32 l) ∧ Chg (· = rb) w w' ∧ Rdr w' rb sb st' ∧ LenRel c st l st'
section
variable {P : Program} {ops : Array Oper} {Q : Exit → Act → World → Prop} {N : Nat} {rest : List Oper} {L : Sl} {w : World} {d : Nat} {ty : TypeId} {pos : String} {aft : Array Edge}
theorem wl_sliceLo {x y : Operand} {t : TypeId} {a : Option Addr} {n c m : Nat} {kk : IntKind} (hx : ev L x = some (.slice a n c)) (hy : ev L y = some (.int kk (m : Int))) (ht : elemSize P t = some 1) (hd : Nat.blt d N = true) (hm : m ≤ n)
  (h : WL rest P ops Q N ((d, .slice (if c = m then a else a.map (·.add m)) (n - m) (c - m)) :: L) w) : WL (⟨some d, .slice t x (some y) none none, ty, pos, aft, none⟩ :: rest) P ops Q N L w := by
 intro b k
 refine st_of (o := ⟨some d, .slice t x (some y) none none, ty, pos, aft, none⟩) (v := .slice (if c = m then a else a.map (·.add m)) (n - m) (c - m)) rfl ?_ (h _ (k.put _ hd))
 unfold elemSize at ht
 split at ht
 ·rename_i e he
  cases hie : P.info? e with
  | none => simp [hie] at ht
  | some inf =>
   simp only [hie, Option.map_some, Option.some.injEq] at ht
   simp only [execOp, k.eval hx, Option.map_some, Option.map_none, k.eval hy]
   simp [Instr.sliceAt, Instr.slice, run_underlying he, Instr.sliceBounds, Instr.sliceBound, asIntOf, sizeOf, typeInfo, hie, hm, ht]
 ·cases ht
theorem wl_slice3 {x y z : Operand} {t : TypeId} {a : Option Addr} {n c m : Nat} {kk kz : IntKind} (hx : ev L x = some (.slice a n c)) (hy : ev L y = some (.int kk (m : Int))) (hz : ev L z = some (.int kz (m : Int))) (ht : elemSize P t = some 1) (hd : Nat.blt d N = true) (hm : m ≤ c)
  (h : WL rest P ops Q N ((d, .slice a m m) :: L) w) : WL (⟨some d, .slice t x none (some y) (some z), ty, pos, aft, none⟩ :: rest) P ops Q N L w := by
 intro b k
 refine st_of (o := ⟨some d, .slice t x none (some y) (some z), ty, pos, aft, none⟩) (v := .slice a m m) rfl ?_ (h _ (k.put _ hd))
 unfold elemSize at ht
 split at ht
 ·rename_i e he
  cases hie : P.info? e with
  | none => simp [hie] at ht
  | some inf =>
   simp only [execOp, k.eval hx, Option.map_some, Option.map_none, k.eval hy, k.eval hz]
   cases a <;> simp [Instr.sliceAt, Instr.slice, run_underlying he, Instr.sliceBounds, Instr.sliceBound, asIntOf, sizeOf, typeInfo, hie, hm, Addr.add]
 ·cases ht
end
end Go.Proofs.YtgpnpfiafcakfaaDoor

namespace Go.Proofs.YtgpnpfiafcakfaaDoor
open Go Go.RowKit
def HoldV (ver kind nul : Int) (t : Tree) (d : D) : Prop :=
  if kind = 9 ∧ ¬ (0 ≤ nul ∧ nul ≤ ver) then d.isAgg = false ∧ shD d = [.sl] ∧ ∃ n, sliceOf d = some (n, t.s.map byteD) else d = valK kind nul t
def HoldS (ver nul : Int) (t : Tree) (Q : List D → Prop) (d : D) : Prop :=
  (0 ≤ nul ∧ t.nul = true ∧ d = .sl true []) ∨ (¬ (0 ≤ nul ∧ t.nul = true) ∧ d.isAgg = false ∧ shD d = [.sl] ∧ ∃ n els, sliceOf d = some (n, els) ∧ (0 ≤ nul → nul ≤ ver → isnOf d = some false) ∧ els.length = t.l.length ∧ Q els)
def HoldU (tg flex : Bool) (t : Tree) (b : List D) : Prop := if tg then (if flex then b = [tagsK t.u] else ∃ d, b = [d] ∧ shD d = [.mp]) else b = []
mutual
def HoldF (ver : Int) (tg flex : Bool) : Fld → Tree → List D → Prop
  | .mk kind _ _ nul _ _ of sub, t, ds =>
    if kind = 11 then ∃ d, ds = [d] ∧ HoldS ver nul t (fun els =>
      (if of = 10 then ∀ i, i < t.l.length → ∃ a b, els[i]? = some (.agg (a ++ b)) ∧ HoldFs ver tg flex sub 0 (att t i) a ∧ HoldU tg flex (att t i) b
       else els = t.l.map (valK of (-1)))) d
    else if kind = 10 then (if 0 ≤ nul then (t.nul = true ∧ ds = [.lit (.pointer none)]) ∨ (t.nul = false ∧ ∃ a b, ds = [.ptr (.agg (a ++ b))] ∧ HoldFs ver tg flex sub 0 t a ∧ HoldU tg flex t b)
      else ∃ a b, ds = a ++ b ∧ HoldFs ver tg flex sub 0 t a ∧ HoldU tg flex t b)
    else ∃ d, ds = [d] ∧ HoldV ver kind nul t d
def HoldFs (ver : Int) (tg flex : Bool) : List Fld → Nat → Tree → List D → Prop
  | [], _, _, ds => ds = []
  | f :: fs, i, t, ds => ∃ a b, ds = a ++ b ∧ shDs a = shF tg f ∧ pos a ∧ (f.has ver = true → HoldF ver tg flex f (att t i) a) ∧ HoldFs ver tg flex fs (i + 1) t b
end
def HoldP (ver : Int) (tg flex : Bool) (fs : List Fld) (t : Tree) (ds : List D) : Prop := ∃ a b, ds = a ++ b ∧ HoldFs ver tg flex fs 0 t a ∧ HoldU tg flex t b
theorem HoldU.sh {tg flex : Bool} {t : Tree} {b : List D} (h : HoldU tg flex t b) : shDs b = (if tg then [.mp] else []) ∧ pos b := by
  unfold HoldU at h
  cases tg with
  | false => simp at h; subst h; exact ⟨rfl, fun d hd => by cases hd⟩
  | true =>
    simp only [if_true] at h ⊢
    cases flex with
    | true => simp at h; subst h; exact ⟨by simp [shDs, tagsK, shD], fun d hd => by simp at hd; subst hd; simp [tagsK, D.width]⟩
    | false =>
      simp at h
      obtain ⟨d, rfl, hd⟩ := h
      refine ⟨by simp [shDs, hd], fun x hx => ?_⟩
      simp at hx; subst hx
      rw [← sh_width, hd]; simp
theorem HoldFs.sh {ver : Int} {tg flex : Bool} : ∀ {fs : List Fld} {i : Nat} {t : Tree} {ds : List D}, HoldFs ver tg flex fs i t ds → shDs ds = shFs tg fs ∧ pos ds
  | [], i, t, ds, h => by simp only [HoldFs] at h; subst h; exact ⟨rfl, fun d hd => by cases hd⟩
  | f :: fs, i, t, ds, h => by
    simp only [HoldFs] at h
    obtain ⟨a, b, rfl, h1, h2, _, h4⟩ := h
    obtain ⟨h5, h6⟩ := HoldFs.sh h4
    exact ⟨by simp only [shDs_append, shFs, h1, h5], pos_append h2 h6⟩
theorem HoldP.sh {ver : Int} {tg flex : Bool} {fs : List Fld} {t : Tree} {ds : List D} (h : HoldP ver tg flex fs t ds) : shDs ds = shP tg fs ∧ pos ds := by
  obtain ⟨a, b, rfl, h1, h2⟩ := h
  exact ⟨by rw [shDs_append, h1.sh.1, h2.sh.1]; rfl, pos_append h1.sh.2 h2.sh.2⟩
section
variable {E : List (List D)} {k off : Nat} {pre post : List D} {ver : Int} {flex : Bool}
end
end Go.Proofs.YtgpnpfiafcakfaaDoor

namespace Go.Proofs.YtgpnpfiafcakfaaDoor
open Go Go.RowKit
def rpV (kind nul ver : Int) (flex : Bool) : Rp :=
 if kind = 0 then .bool else if kind = 1 then .i8 else if kind = 2 then .i16 else if kind = 3 then .i32 else if kind = 5 then .u16 else if kind = 7 then .uuid
 else if kind = 8 then (if 0 ≤ nul then (if nul ≤ ver then (if flex then .cnstr else .nstr) else (if flex then .pcstr else .pstr)) else (if flex then .cstr else .str))
 else if kind = 9 then (if 0 ≤ nul ∧ nul ≤ ver then (if flex then .cnbytes else .nbytes) else (if flex then .cbytes else .bytes))
 else .i64
def Imp (a b : List D) : Prop := ∀ (ok : Nat → Prop) (w : World) (cs : List Value), Reps ok w a cs → Reps ok w b cs
theorem Imp.refl (a : List D) : Imp a a := fun _ _ _ h => h
theorem Imp.app {a b c d : List D} (h : Imp a b) (k : Imp c d) : Imp (a ++ c) (b ++ d) := by
 intro ok w cs hr
 obtain ⟨c1, c2, rfl, h1, h2⟩ := (Reps.app _ _ _).1 hr
 exact (Reps.app _ _ _).2 ⟨c1, c2, rfl, h ok w c1 h1, k ok w c2 h2⟩
theorem Imp.one {a b : D} (h : ∀ (ok : Nat → Prop) (w : World) (cs : List Value), Rep ok w a cs → Rep ok w b cs) : Imp [a] [b] := by
 intro ok w cs hr
 simp only [Reps] at hr ⊢
 obtain ⟨c1, c2, e, h1, h2⟩ := hr
 exact ⟨c1, c2, e, h ok w c1 h1, h2⟩
theorem rep_one {ok : Nat → Prop} {w : World} {d : D} {cs : List Value} : Reps ok w [d] cs ↔ Rep ok w d cs := by
 simp only [Reps]
 constructor
 ·rintro ⟨c1, c2, rfl, h, rfl⟩; simpa using h
 ·intro h; exact ⟨cs, [], by simp, h, rfl⟩
theorem imp_agg (ds : List D) : Imp ds [.agg ds] := by
 intro ok w cs hr
 rw [rep_one]; simpa only [Rep] using hr
theorem wrap_i16 (n : Int) : IntKind.i16.wrap n = (n + 32768) % 65536 - 32768 := by
 simp [IntKind.wrap, IntKind.bits, IntKind.signed]
 split <;> omega
theorem uvarR_cons (k : Nat) (c : UInt8) (r : List UInt8) : uvarR (k + 1) (c :: r) = if k = 0 then (if c.toNat ≤ 15 then some (c.toNat, r) else none)
   else if c.toNat < 128 then some (c.toNat, r)
   else match uvarR k r with
    | some (n, r') => some (c.toNat - 128 + 128 * n, r')
    | none => none := by rw [uvarR.eq_def]; rfl
end Go.Proofs.YtgpnpfiafcakfaaDoor

namespace Go.Proofs.YtgpnpfiafcakfaaDoor
open Go Go.RowKit
def Rising (u : List (Nat × List UInt8)) : Prop := u.Pairwise fun a b => a.1 < b.1
theorem imp_sl {n : Bool} {a b : List D} (hl : a.length = b.length) (h : Imp a b) : Imp [.sl n a] [.sl n b] := by
 refine Imp.one (fun ok w cs hr => ?_)
 simp only [Rep] at hr ⊢
 obtain ⟨p, c, e, hle, h1, h2⟩ := hr
 refine ⟨p, c, by rw [← hl]; exact e, by rw [← hl]; exact hle, fun hn => ?_, fun hn => ?_⟩
 ·obtain ⟨k1, k2, k3⟩ := h1 hn
  subst k2
  refine ⟨k1, ?_, k3⟩
  cases b with
  | nil => rfl
  | cons x b => simp at hl
 ·obtain ⟨b', off, cs', k1, k2, k3, k4⟩ := h2 hn
  exact ⟨b', off, cs', k1, k2, k3, h ok w cs' k4⟩
def rpN : Rp → Nat
 | .bool => 0 | .i8 => 1 | .i16 => 2 | .i32 => 3 | .i64 => 4 | .u16 => 5 | .uuid => 6 | .str => 7 | .cstr => 8 | .nstr => 9 | .cnstr => 10 | .bytes => 11 | .cbytes => 12 | .nbytes => 13 | .cnbytes => 14 | .pstr => 15 | .pcstr => 16
def rpEq (a b : Rp) : Bool := Nat.beq (rpN a) (rpN b)
def ne1 (ver : Int) (fs : List Fld) : Bool := fs.any fun f => f.has ver && decide (f.tag < 0) && !decide (f.kind = 10)
def endR (flex : Bool) (off : Nat) (ra : List Ra) : Option (List Ra) := if flex then (match ra with
 | .tags o :: r => bif Nat.beq o off then some r else none
 | _ => none) else some ra
def isEnd (flex : Bool) (off : Nat) (ra : List Ra) : Bool := match endR flex off ra with
 | some [] => true
 | _ => false
def endsO (flex : Bool) (off : Nat) : Option (List Ra) → Bool
 | some r => isEnd flex off r
 | none => false
def isPrim (p : Rp) : List Ra → Bool
 | [.prim q 0] => rpEq q p
 | _ => false
mutual
def mF (ver : Int) (tg flex : Bool) (off : Nat) : Fld → List Ra → Option (List Ra)
 | .mk kind _ _ nul _ _ of sub, ra =>
  if kind = 11 then (match ra with
   | .row c nb o st dfl body :: r =>
    bif (c == flex) && (nb == decide (0 ≤ nul ∧ nul ≤ ver)) && Nat.beq o off && (st == decide (of = 10)) && decide (shDs (litsD dfl) = shE tg of sub) &&
     (if of = 10 then (flex || ne1 ver sub) && endsO flex (shFs tg sub).length (mFs ver tg flex 0 sub body) else isPrim (rpV of (-1) ver flex) body) then some r else none
   | _ => none)
  else if kind = 10 then (if 0 ≤ nul then none else match mFs ver tg flex off sub ra with | some r => endR flex (off + (shFs tg sub).length) r | none => none)
  else (match ra with
   | .prim p o :: r => bif rpEq p (rpV kind nul ver flex) && Nat.beq o off then some r else none
   | _ => none)
def mFs (ver : Int) (tg flex : Bool) (off : Nat) : List Fld → List Ra → Option (List Ra)
 | [], ra => some ra
 | f :: fs, ra => match (if f.has ver then mF ver tg flex off f ra else some ra) with
  | some r => mFs ver tg flex (off + (shF tg f).length) fs r
  | none => none
end
end Go.Proofs.YtgpnpfiafcakfaaDoor

namespace Go.Proofs.YtgpnpfiafcakfaaDoor
open Go Go.RowKit
theorem repKs_iff {ok : Nat → Prop} {w : World} {es : Array MapEntry} : ∀ (kvs : List (Nat × D)), RepKs ok w es kvs ↔ ∀ kv ∈ kvs, ∃ e ∈ es, e.key = .int .u32 kv.1 ∧ Rep ok w kv.2 [e.val]
 | [] => by simp [RepKs]
 | kv :: kvs => by simp only [RepKs, repKs_iff kvs, List.mem_cons, forall_eq_or_imp]
theorem mem_setTag {k : Nat} {v : List UInt8} : ∀ {u : List (Nat × List UInt8)}, Rising u → ∀ {kv : Nat × List UInt8}, kv ∈ setTag k v u ↔ kv = (k, v) ∨ (kv ∈ u ∧ kv.1 ≠ k)
 | [], _, kv => by simp [setTag]
 | x :: u, h, kv => by
  have hx := List.pairwise_cons.1 h
  simp only [setTag]
  split
  ·rename_i hlt
   simp only [List.mem_cons, mem_setTag hx.2]
   constructor
   ·rintro (rfl | rfl | ⟨h1, h2⟩)
    ·exact .inr ⟨.inl rfl, by omega⟩
    ·exact .inl rfl
    ·exact .inr ⟨.inr h1, h2⟩
   ·rintro (rfl | ⟨rfl | h1, h2⟩)
    ·exact .inr (.inl rfl)
    ·exact .inl rfl
    ·exact .inr (.inr ⟨h1, h2⟩)
  ·split
   ·rename_i h1 h2
    simp only [List.mem_cons]
    constructor
    ·rintro (rfl | h3)
     ·exact .inl rfl
     ·exact .inr ⟨.inr h3, by have := hx.1 kv h3; omega⟩
    ·rintro (rfl | ⟨rfl | h3, h4⟩)
     ·exact .inl rfl
     ·exact absurd h2 h4
     ·exact .inr h3
   ·rename_i h1 h2
    simp only [List.mem_cons]
    constructor
    ·rintro (rfl | rfl | h3)
     ·exact .inl rfl
     ·exact .inr ⟨.inl rfl, h2⟩
     ·exact .inr ⟨.inr h3, by have := hx.1 kv h3; omega⟩
    ·rintro (rfl | ⟨rfl | h3, _⟩)
     ·exact .inl rfl
     ·exact .inr (.inl rfl)
     ·exact .inr (.inr h3)
theorem setTag_rising {k : Nat} {v : List UInt8} : ∀ {u : List (Nat × List UInt8)}, Rising u → Rising (setTag k v u)
 | [], _ => by simp [setTag, Rising]
 | x :: u, h => by
  have hx := List.pairwise_cons.1 h
  simp only [setTag]
  split
  ·rename_i hlt
   refine List.pairwise_cons.2 ⟨fun y hy => ?_, setTag_rising hx.2⟩
   rcases (mem_setTag hx.2).1 hy with rfl | ⟨h1, _⟩
   ·exact hlt
   ·exact hx.1 y h1
  ·split
   ·rename_i h1 h2
    exact List.pairwise_cons.2 ⟨fun y hy => by have := hx.1 y hy; show k < _; omega, hx.2⟩
   ·rename_i h1 h2
    refine List.pairwise_cons.2 ⟨fun y hy => ?_, h⟩
    rcases List.mem_cons.1 hy with rfl | hm
    ·show k < _; omega
    ·have := hx.1 y hm; show k < _; omega
theorem setTag_length {k : Nat} {v : List UInt8} : ∀ {u : List (Nat × List UInt8)}, Rising u → (setTag k v u).length = if k ∈ u.map (·.1) then u.length else u.length + 1
 | [], _ => by simp [setTag]
 | x :: u, h => by
  have hx := List.pairwise_cons.1 h
  have ih := setTag_length (k := k) (v := v) hx.2
  simp only [setTag]
  split
  ·rename_i hlt
   simp only [List.length_cons, ih, List.map_cons, List.mem_cons]
   have : (k = x.1 ∨ k ∈ u.map (·.1)) ↔ k ∈ u.map (·.1) := by
    constructor
    ·rintro (h | h)
     ·omega
     ·exact h
    ·exact .inr
   simp only [this]
   split <;> rfl
  ·split
   ·rename_i h1 h2
    rw [if_pos (by simp [h2])]; simp
   ·rename_i h1 h2
    rw [if_neg ?_]
    ·simp
    ·simp only [List.map_cons, List.mem_cons, List.mem_map, not_or, not_exists, not_and]
     refine ⟨fun e => h2 e.symm, fun y hy e => ?_⟩
     have := hx.1 y hy
     omega
section
variable {P : Program} {w : World} {mty kt et : TypeId} {r clock : Nat} {es : Array MapEntry} {ks : List Nat}
theorem run_mapUpd (hm : P.underlying mty = some (.map kt et)) (hd : P.underlying kt = some (.int .u32)) (hb : w.heap[r]? = some (.map es clock)) (hmap : Mapped es clock ks) (hin : ∀ k ∈ ks, ∃ e ∈ es, e.key = .int .u32 k) (key : Nat) (val : Value) :
  ∃ w' es' clock', (Instr.mapUpdate mty (.map (some r)) (.int .u32 key) val).run P w = .ok () w' ∧ w'.heap[r]? = some (.map es' clock') ∧ Chg (· = r) w w' ∧ w'.heap.size = w.heap.size ∧ MapKept.Stamped es' clock' ∧
   ((key ∉ ks ∧ es' = es.push { key := .int .u32 key, val := val, born := clock }) ∨ (key ∈ ks ∧ ∃ j e, es[j]? = some e ∧ e.key = .int .u32 key ∧ es' = es.modify j fun e => { e with key := .int .u32 key, val := val })) := by
 obtain ⟨h1, h2, h3, _⟩ := hmap
 have hk : MapKept.IsKey (.int .u32) (.int .u32 (key : Int)) := rfl
 have hks : ∀ x ∈ es.toList, MapKept.IsKey (.int .u32) x.key := fun x hx => by
  obtain ⟨k, _, e⟩ := h3 x hx
  rw [e]; rfl
 have chg : ∀ o, Chg (· = r) w { w with heap := w.heap.setIfInBounds r o } := fun o => ⟨rfl, rfl, rfl, by simp, fun k _ hne => (MapKept.heap_set hb).2 k hne⟩
 rcases MapKept.findNow_spec hk es.toList 0 hks with ⟨g1, g2⟩ | ⟨j, e, g1, g2, g3⟩
 ·refine ⟨_, es.push { key := .int .u32 key, val := val, born := clock }, clock + 1, ?_, (MapKept.heap_set hb).1, chg _, by simp, MapKept.stamped_push h2 g2, .inl ⟨fun hin' => ?_, rfl⟩⟩
  ·simp [Instr.mapUpdate, run_underlying hm, MapKept.run_getObj_map hb, MapKept.run_checkKey hd hk, MapKept.run_findKey hd g1, MapKept.run_setObj_map _ hb, Result.andThen]
  ·obtain ⟨x, hx, e⟩ := hin key hin'
   exact g2 x (Array.mem_toList_iff.2 hx) e
 ·have hj : es[j]? = some e := by simpa using g2
  refine ⟨_, es.modify j fun e => { e with key := .int .u32 key, val := val }, clock, ?_, (MapKept.heap_set hb).1, chg _, by simp, ?_, .inr ⟨?_, j, e, hj, g3, rfl⟩⟩
  ·simp [Instr.mapUpdate, run_underlying hm, MapKept.run_getObj_map hb, MapKept.run_checkKey hd hk, MapKept.run_findKey hd g1, hj, g3, MapKept.run_keyThatStays hk, MapKept.run_setObj_map _ hb, Result.andThen]
  ·exact MapKept.stamped_modify h2 _ _ (fun _ _ => rfl) (fun e' _ he' => by rw [hj] at he'; cases he'; exact g3.symm)
  ·obtain ⟨k, hk', e'⟩ := h3 e (Array.mem_toList_iff.2 (Array.mem_of_getElem? hj))
   rw [g3] at e'
   simp only [Value.int.injEq, true_and] at e'
   have : key = k := by omega
   rw [this]; exact hk'
structure TagMap (w : World) (sb r : Nat) (u : List (Nat × List UInt8)) : Prop where
 at_ : ∃ es clock, w.heap[r]? = some (.map es clock) ∧ Mapped es clock (u.map (·.1)) ∧ RepKs (fun b => b = sb) w es (u.map fun kv => (kv.1, bytesD kv.2))
 up : Rising u
theorem TagMap.keep {w w' : World} {S : Nat → Prop} {sb r : Nat} {u : List (Nat × List UInt8)} (h : TagMap w sb r u) (hc : Chg S w w') (hr : ¬ S r) (hs : ¬ S sb) (hsb : sb < w.heap.size) : TagMap w' sb r u := by
 obtain ⟨⟨es, clock, hb, hm, hk⟩, hu⟩ := h
 have hlt : r < w.heap.size := (Array.getElem?_eq_some_iff.1 hb).1
 exact ⟨⟨es, clock, (hc.block r hlt hr).trans hb, hm, RepKs.mono (fun b hb => ⟨hb, by subst hb; exact hc.block b hsb hs⟩) es _ hk⟩, hu⟩
theorem src_rep {w : World} {sb : Nat} {v : Value} {s : List UInt8} (h : SrcV w sb v s) : Rep (fun b => b = sb) w (bytesD s) [v] := by
 simp only [bytesD, Rep, List.length_map]
 rcases h with ⟨rfl, rfl⟩ | ⟨o, c, rfl, hle, hcs, _⟩
 ·exact ⟨none, 0, rfl, Nat.le_refl _, .inl rfl⟩
 ·exact ⟨_, c, rfl, hle, .inr ⟨sb, o, bv s, rfl, rfl, hcs, (reps_bytes s _).2 rfl⟩⟩
theorem run_tagSet (hm : P.underlying mty = some (.map kt et)) (hd : P.underlying kt = some (.int .u32)) {sb : Nat} {u : List (Nat × List UInt8)} (h : TagMap w sb r u) (hne : r ≠ sb) (hsb : sb < w.heap.size) (key : Nat) {val : Value} {s : List UInt8} (hv : SrcV w sb val s) :
  ∃ w', (Instr.mapUpdate mty (.map (some r)) (.int .u32 key) val).run P w = .ok () w' ∧ Chg (· = r) w w' ∧ w'.heap.size = w.heap.size ∧ TagMap w' sb r (setTag key s u) := by
 obtain ⟨⟨es, clock, hb, hmap, hk⟩, hu⟩ := h
 rw [repKs_iff] at hk
 have hk' : ∀ kv ∈ u, ∃ e ∈ es, e.key = .int .u32 kv.1 ∧ Rep (fun b => b = sb) w (bytesD kv.2) [e.val] := fun kv hkv => hk (kv.1, bytesD kv.2) (List.mem_map.2 ⟨kv, hkv, rfl⟩)
 obtain ⟨w', es', clock', hrun, hb', hc, hsz, hst, hcase⟩ := run_mapUpd hm hd hb hmap (fun k hk0 => by
  obtain ⟨kv, hkv, rfl⟩ := List.mem_map.1 hk0
  obtain ⟨e, he, h1, _⟩ := hk' kv hkv
  exact ⟨e, he, h1⟩) key val
 have keep : ∀ {d : D} {cs : List Value}, Rep (fun b => b = sb) w d cs → Rep (fun b => b = sb) w' d cs := fun hr => Rep.mono (fun b hb => ⟨hb, by subst hb; exact hc.block b hsb (fun e => hne e.symm)⟩) _ _ hr
 have hnew : Rep (fun b => b = sb) w' (bytesD s) [val] := keep (src_rep hv)
 have hlen := setTag_length (k := key) (v := s) hu
 refine ⟨w', hrun, hc, hsz, ⟨⟨es', clock', hb', ⟨?_, hst, ?_, List.pairwise_map.2 (setTag_rising hu)⟩, ?_⟩, setTag_rising hu⟩⟩
 ·rw [List.length_map, hlen]
  rcases hcase with ⟨hni, rfl⟩ | ⟨hin, j, e, _, _, rfl⟩
  ·rw [if_neg hni, Array.size_push, hmap.1, List.length_map]
  ·rw [if_pos hin, Array.size_modify, hmap.1, List.length_map]
 ·intro e he
  rcases hcase with ⟨hni, rfl⟩ | ⟨hin, j, e0, hj, hj2, rfl⟩
  ·simp only [Array.toList_push, List.mem_append, List.mem_singleton] at he
   rcases he with he | rfl
   ·obtain ⟨k, hk0, e1⟩ := hmap.2.2.1 e he
    obtain ⟨kv, hkv, rfl⟩ := List.mem_map.1 hk0
    refine ⟨kv.1, List.mem_map.2 ⟨kv, (mem_setTag hu).2 (.inr ⟨hkv, fun e2 => hni (by rw [← e2]; exact hk0)⟩), rfl⟩, e1⟩
   ·exact ⟨key, List.mem_map.2 ⟨(key, s), (mem_setTag hu).2 (.inl rfl), rfl⟩, rfl⟩
  ·have hkeys := MapKept.modify_keys (es := es) j (fun e => { e with key := .int .u32 key, val := val }) (fun e' he' => by rw [hj] at he'; cases he'; exact hj2.symm)
   have : e.key ∈ (es.modify j fun e => { e with key := .int .u32 key, val := val }).toList.map (·.key) := List.mem_map.2 ⟨e, he, rfl⟩
   rw [hkeys] at this
   obtain ⟨y, hy, e1⟩ := List.mem_map.1 this
   obtain ⟨k, hk0, e2⟩ := hmap.2.2.1 y hy
   obtain ⟨kv, hkv, rfl⟩ := List.mem_map.1 hk0
   by_cases hkk : kv.1 = key
   ·exact ⟨key, List.mem_map.2 ⟨(key, s), (mem_setTag hu).2 (.inl rfl), rfl⟩, by rw [← e1, e2, hkk]⟩
   ·exact ⟨kv.1, List.mem_map.2 ⟨kv, (mem_setTag hu).2 (.inr ⟨hkv, hkk⟩), rfl⟩, by rw [← e1, e2]⟩
 ·rw [repKs_iff]
  intro kvd hkvd
  obtain ⟨kv, hkv, rfl⟩ := List.mem_map.1 hkvd
  rcases (mem_setTag hu).1 hkv with rfl | ⟨hold, hkne⟩
  ·rcases hcase with ⟨hni, rfl⟩ | ⟨hin, j, e0, hj, hj2, rfl⟩
   ·exact ⟨_, Array.mem_push_self, rfl, hnew⟩
   ·refine ⟨{ e0 with key := .int .u32 key, val := val }, ?_, rfl, hnew⟩
    have hlt := (Array.getElem?_eq_some_iff.1 hj).1
    refine Array.mem_of_getElem? (i := j) ?_
    rw [Array.getElem?_modify, if_pos rfl, hj]; rfl
  ·obtain ⟨e, he, h1, h2⟩ := hk' kv hold
   rcases hcase with ⟨hni, rfl⟩ | ⟨hin, j, e0, hj, hj2, rfl⟩
   ·exact ⟨e, Array.mem_push_of_mem _ he, h1, keep h2⟩
   ·obtain ⟨i, hi⟩ := Array.mem_iff_getElem?.1 he
    have hij : j ≠ i := by
     rintro rfl
     rw [hj] at hi
     simp only [Option.some.injEq] at hi
     subst hi
     rw [hj2] at h1
     simp only [Value.int.injEq, true_and] at h1
     exact hkne (by omega)
    refine ⟨e, Array.mem_of_getElem? (i := i) ?_, h1, keep h2⟩
    rw [Array.getElem?_modify, if_neg hij]; exact hi
theorem tagMap_new (w : World) (sb : Nat) : TagMap (w.alloc (.map #[] 0)) sb w.heap.size [] := ⟨⟨#[], 0, heap_alloc_new w _, ⟨rfl, MapKept.stamped_empty 0, by simp, by simp⟩, by simp [RepKs]⟩, by simp [Rising]⟩
theorem TagMap.rep {w : World} {sb r lo : Nat} {u : List (Nat × List UInt8)} (h : TagMap w sb r u) (hr : lo ≤ r) (hsb : sb < w.heap.size) : Rep (Dk sb lo w) w (tagsK u) [.map (some r)] := by
 obtain ⟨⟨es, clock, hb, hm, hk⟩, hu⟩ := h
 have hlt : r < w.heap.size := (Array.getElem?_eq_some_iff.1 hb).1
 simp only [tagsK, Rep]
 refine .inr ⟨r, es, clock, rfl, ⟨.inr hr, hlt⟩, hb, ?_, RepKs.mono (fun b hb => ⟨by subst hb; exact ⟨.inl rfl, hsb⟩, rfl⟩) es _ hk⟩
 rw [List.map_map]
 exact hm
end
end Go.Proofs.YtgpnpfiafcakfaaDoor

namespace Go.Proofs.YtgpnpfiafcakfaaDoor
open Go Go.RowKit
theorem tree_cellsG {ok : Nat → Prop} {w : World} {t : Tree} {cs : List Value} (h : Rep ok w (treeD t) cs) :
  ∃ sv lv uv, cs = [.int .i64 t.n, sv, .bool t.nul, lv, uv] ∧ Rep ok w (bytesD t.s) [sv] ∧ Rep ok w (.sq (t.l.map treeD)) [lv] ∧ Rep ok w (.sq (t.u.map tagD)) [uv] := by
 cases t with
 | mk n s nul l u =>
  simp only [treeD, Rep, Reps, bytesD] at h
  obtain ⟨c1, r1, rfl, rfl, c2, r2, rfl, h2, c3, r3, rfl, rfl, c4, r4, rfl, h4, c5, r5, rfl, h5, rfl⟩ := h
  obtain ⟨a2, b2, rfl, h2'⟩ := h2
  obtain ⟨a4, b4, rfl, h4'⟩ := h4
  obtain ⟨a5, b5, rfl, h5'⟩ := h5
  refine ⟨_, _, _, rfl, ?_, ?_, ?_⟩
  ·simp only [bytesD, Rep]; exact ⟨_, _, rfl, h2'⟩
  ·simp only [Rep, Tree.l, ← treeDs_map]; exact ⟨_, _, rfl, h4'⟩
  ·simp only [Rep]; exact ⟨_, _, rfl, h5'⟩
theorem sq_shape {ok : Nat → Prop} {w : World} {ds : List D} {v : Value} (h : Rep ok w (.sq ds) [v]) : ∃ a c, v = .slice a ds.length c ∧ ds.length ≤ c := by
 simp only [Rep] at h
 obtain ⟨a, c, e, hle, _⟩ := h
 exact ⟨a, c, by simpa using e, hle⟩
structure Fb (B l0 vb : Nat) : Prop where
 le : B ≤ vb
 lt : vb < l0
theorem In.upS {B l0 vb : Nat} (hf : Fb B l0 vb) {S : Nat → Prop} {w w' : World} {d : D} {cs : List Value} (hr : Rep (In B l0 w) w d cs) (h : Chg S w w') (hs : ∀ j, S j → j = vb ∨ w.heap.size ≤ j) : Rep (In B l0 w') w' d cs :=
 Rep.mono (fun b hb => ⟨⟨hb.1, Nat.lt_of_lt_of_le hb.2 h.size⟩, h.block b hb.2 (fun e => by have h1 := hf.le; have h2 := hf.lt; have h3 := hb.2; have h4 := hb.1; rcases hs b e with h | h <;> omega)⟩) d cs hr
theorem In.ups {B l0 vb : Nat} (hf : Fb B l0 vb) {S : Nat → Prop} {w w' : World} {d : List D} {cs : List Value} (hr : Reps (In B l0 w) w d cs) (h : Chg S w w') (hs : ∀ j, S j → j = vb ∨ w.heap.size ≤ j) : Reps (In B l0 w') w' d cs :=
 Reps.mono (fun b hb => ⟨⟨hb.1, Nat.lt_of_lt_of_le hb.2 h.size⟩, h.block b hb.2 (fun e => by have h1 := hf.le; have h2 := hf.lt; have h3 := hb.2; have h4 := hb.1; rcases hs b e with h | h <;> omega)⟩) d cs hr
theorem Lo.upS {B : Nat} {S : Nat → Prop} {w w' : World} {d : D} {cs : List Value} (hr : Rep (Lo B) w d cs) (h : Chg S w w') (hB : B ≤ w.heap.size) (hs : ∀ j, S j → B ≤ j) : Rep (Lo B) w' d cs :=
 Rep.mono (fun b hb => ⟨hb, h.block b (by have h3 : b < B := hb; omega) (fun e => by have h3 : b < B := hb; have := hs b e; omega)⟩) d cs hr
def GiveU (u : List (Nat × List UInt8)) : Prop := Rising u ∧ u.length ≤ many
mutual
def GiveF (tg : Bool) : Fld → Tree → Prop
 | .mk kind _ _ nul _ _ of sub, x => IntKind.i64.wrap x.n = x.n ∧ x.l.length ≤ many ∧ (kind = 9 → nul < 0 → x.nul = false) ∧ (kind = 11 → nul < 0 → x.nul = true → x.l = []) ∧
  (kind = 11 → of = 10 → ∀ y ∈ x.l, GiveFs tg sub 0 y ∧ (tg = true → GiveU y.u)) ∧ (kind = 11 → of ≠ 10 → ∀ y ∈ x.l, IntKind.i64.wrap y.n = y.n) ∧ (kind = 10 → (nul < 0 ∨ x.nul = false) → GiveFs tg sub 0 x ∧ (tg = true → GiveU x.u))
def GiveFs (tg : Bool) : List Fld → Nat → Tree → Prop
 | [], _, _ => True
 | f :: fs, i, t => GiveF tg f (att t i) ∧ GiveFs tg fs (i + 1) t
end
def GiveP (tg : Bool) (fs : List Fld) (t : Tree) : Prop := GiveFs tg fs 0 t ∧ (tg = true → GiveU t.u)
inductive Dw where
 | val (kind nul : Int) (i : Nat)
 | sub (fs : List Fld) (i : Nat)
 | psub (fs : List Fld) (i : Nat)
def Dw.D (tg : Bool) (t : Tree) : Dw → List D
 | .val kind nul i => [valK kind nul (att t i)]
 | .sub fs i => partK tg fs (att t i)
 | .psub fs i => [if (att t i).nul then .lit (.pointer none) else .ptr (.agg (partK tg fs (att t i)))]
inductive Fw where
 | vp (o : Nat) | tb | tp (k : Nat) | wt | ut | lu | at_ (i : Nat) | fd (i k : Nat) | nn (i : Nat) | ln (i : Nat) | an (i : Nat) | dv (d : Dw) | mr (e sz : Nat) | cv (v : Value)
def dnF (B l0 vb tb lo : Nat) (tcs : List Value) (tg : Bool) (t : Tree) (w : World) : Fw → Value → Prop
 | .vp o, v => v = .pointer (some ⟨vb, o, none⟩)
 | .tb, v => v = .pointer (some ⟨tb, 0, none⟩)
 | .tp k, v => v = .pointer (some ⟨tb, k, none⟩)
 | .wt, v => v = .agg tcs.toArray
 | .ut, v => tcs[4]? = some v
 | .lu, v => v = .int .i64 t.u.length
 | .at_ i, v => ∃ cs, v = .agg cs.toArray ∧ Rep (Lo B) w (treeD (att t i)) cs
 | .fd i k, v => ∃ cs, Rep (Lo B) w (treeD (att t i)) cs ∧ cs[k]? = some v
 | .nn i, v => v = .bool (!(att t i).nul)
 | .ln i, v => v = .int .i64 (att t i).l.length
 | .an i, v => v = .int .i64 ((att t i).n % 2)
 | .dv d, v => ∃ cs, v.cells = cs.toArray ∧ Reps (In B l0 w) w (d.D tg t) cs ∧ (cs.all fun v => v.oneCell') = true
 | .mr e sz, v => ∃ g c, v = .slice (some ⟨g, 0, none⟩) 0 c ∧ w.ownsRow lo e sz v 0 [] ∧ g ≠ vb
 | .cv u, v => v = u
theorem dnF.up {B l0 vb tb lo : Nat} (hf : Fb B l0 vb) {tcs : List Value} {tg : Bool} {t : Tree} {S : Nat → Prop} {w w' : World} {x : Fw} {v : Value} (h : dnF B l0 vb tb lo tcs tg t w x v) (hc : Chg S w w') (hl0 : l0 ≤ w.heap.size) (hs : ∀ j, S j → j = vb ∨ w.heap.size ≤ j) : dnF B l0 vb tb lo tcs tg t w' x v := by
 have hBs : B ≤ w.heap.size := by have := hf.le; have := hf.lt; omega
 have hs' : ∀ j, S j → B ≤ j := fun j hj => by have := hf.le; rcases hs j hj with h | h <;> omega
 cases x with
 | vp o => exact h
 | tb => exact h
 | tp k => exact h
 | wt => exact h
 | ut => exact h
 | lu => exact h
 | at_ i => obtain ⟨cs, e, hr⟩ := h; exact ⟨cs, e, Lo.upS hr hc hBs hs'⟩
 | fd i k => obtain ⟨cs, hr, e⟩ := h; exact ⟨cs, Lo.upS hr hc hBs hs', e⟩
 | nn i => exact h
 | ln i => exact h
 | an i => exact h
 | dv d => obtain ⟨cs, e, hr, h1⟩ := h; exact ⟨cs, e, In.ups hf hr hc hs, h1⟩
 | mr e sz =>
  obtain ⟨g, c, rfl, hr, hne⟩ := h
  refine ⟨g, c, rfl, ?_, hne⟩
  obtain ⟨hx, ⟨he, _⟩ | ⟨g', cap, cur, he, hlo, hb, r⟩⟩ := hr
  ·cases he
  ·cases he
   have hlt : g < w.heap.size := (Array.getElem?_eq_some_iff.1 hb).1
   exact ⟨hx, .inr ⟨g, c, cur, rfl, hlo, (hc.block g hlt (fun e => by rcases hs g e with h | h; exact hne h; omega)).trans hb, r⟩⟩
 | cv u => exact h
abbrev FA := List (Nat × Fw)
def lkF : FA → Nat → Option Fw
 | [], _ => none
 | kv :: r, t => bif Nat.beq kv.1 t then some kv.2 else lkF r t
def evF (A : FA) : Operand → Option Fw
 | .tmp t => lkF A t
 | .const v => some (.cv v)
 | _ => none
structure Fk where
 at_ : Nat
 text : Nat
 octs : Nat
 six : Nat
 mks : List (Nat × List Fld)
 pts : List (Nat × List Fld)
def lkM : List (Nat × List Fld) → Nat → Option (List Fld)
 | [], _ => none
 | kv :: r, f => bif Nat.beq kv.1 f then some kv.2 else lkM r f
mutual
def fldEq : Fld → Fld → Bool
 | .mk a b c d e f g s, .mk a' b' c' d' e' f' g' s' => decide (a = a') && decide (b = b') && decide (c = c') && decide (d = d') && decide (e = e') && decide (f = f') && decide (g = g') && fldsEq s s'
def fldsEq : List Fld → List Fld → Bool
 | [], [] => true
 | x :: r, y :: s => fldEq x y && fldsEq r s
 | _, _ => false
end
mutual
theorem fldEq_out : ∀ (x y : Fld), fldEq x y = true → x = y
 | .mk a b c d e f g s, .mk a' b' c' d' e' f' g' s', h => by
  simp only [fldEq, Bool.and_eq_true, decide_eq_true_eq] at h
  obtain ⟨⟨⟨⟨⟨⟨⟨rfl, rfl⟩, rfl⟩, rfl⟩, rfl⟩, rfl⟩, rfl⟩, h⟩ := h
  rw [fldsEq_out s s' h]
theorem fldsEq_out : ∀ (x y : List Fld), fldsEq x y = true → x = y
 | [], [], _ => rfl
 | x :: r, y :: s, h => by
  simp only [fldsEq, Bool.and_eq_true] at h
  rw [fldEq_out x y h.1, fldsEq_out r s h.2]
 | [], y :: s, h => by simp [fldsEq] at h
 | x :: r, [], h => by simp [fldsEq] at h
end
def CvP (P : Program) (f : Nat) (ok : Tree → Prop) (g : Tree → List D) : Prop := isFn P f = true ∧ ∀ (B : Nat) (w : World) (x : Tree) (cs : List Value), ok x → Rep (Lo B) w (treeD x) cs → B ≤ w.heap.size →
 Calls P f #[.agg cs.toArray] w fun en w' => ∃ v vs, en = .returned v ∧ v.cells = vs.toArray ∧ Reps (In B w.heap.size w') w' (g x) vs ∧ (vs.all fun v => v.oneCell') = true ∧ Chg (fun _ => False) w w'
def AtP (P : Program) (f : Nat) : Prop := isFn P f = true ∧ ∀ (B : Nat) (w : World) (t : Tree) (cs : List Value) (i : Nat), Rep (Lo B) w (treeD t) cs → B ≤ w.heap.size →
 Calls P f #[.agg cs.toArray, .int .i64 i] w fun en w' => ∃ cs', en = .returned (.agg cs'.toArray) ∧ Rep (Lo B) w' (treeD (att t i)) cs' ∧ Chg (fun _ => False) w w'
def SxP (P : Program) (f : Nat) : Prop := isFn P f = true ∧ ∀ (B : Nat) (w : World) (s : List UInt8) (v : Value), Rep (Lo B) w (bytesD s) [v] → B ≤ w.heap.size →
 Calls P f #[v] w fun en w' => en = .returned (.agg (bv (sixteen s)).toArray) ∧ Chg (fun _ => False) w w'
structure FkOk (P : Program) (K : Fk) (tg : Bool) : Prop where
 at_ : AtP P K.at_
 text : isFn P K.text = true → CvP P K.text (fun _ => True) fun t => [valK 8 0 t]
 octs : isFn P K.octs = true → CvP P K.octs (fun _ => True) fun t => [valK 9 0 t]
 six : isFn P K.six = true → SxP P K.six
 mks : ∀ f fs, lkM K.mks f = some fs → CvP P f (GiveP tg fs) (partK tg fs)
 pts : ∀ f fs, lkM K.pts f = some fs → CvP P f (fun x => x.nul = false → GiveP tg fs x) fun x => [if x.nul then .lit (.pointer none) else .ptr (.agg (partK tg fs x))]
def isBytes (P : Program) (t : Nat) : Bool := match P.underlying t with | some (.slice e) => (match P.underlying e with | some (.int .u8) => true | _ => false) | _ => false
def isStr (P : Program) (t : Nat) : Bool := match P.underlying t with | some .string => true | _ => false
end Go.Proofs.YtgpnpfiafcakfaaDoor

namespace Go.Proofs.YtgpnpfiafcakfaaDoor
open Go Go.RowKit
section
variable {P : Program} {ops : Array Oper} {Q : Exit → Act → World → Prop} {N : Nat} {rest : List Oper} {L : Sl} {w : World} {d : Nat} {ty : TypeId} {pos : String} {aft : Array Edge}
end
end Go.Proofs.YtgpnpfiafcakfaaDoor

namespace Go.Proofs.YtgpnpfiafcakfaaDoor
open Go Go.RowKit
section
variable {P : Program} {a : Act} {w : World} {o : Oper}
theorem ro_move {x : Operand} (h : o.op = .move x) : (execOp a.eval o).run P w = .ok (.value (a.eval x)) w := by cases o; simp only at h; subst h; simp [execOp]
theorem ro_nilCheck {x : Operand} {p : Addr} (h : o.op = .nilCheck x) (hx : a.eval x = .pointer (some p)) : (execOp a.eval o).run P w = .ok (.value (.pointer (some p))) w := by cases o; simp only at h; subst h; simp [execOp, hx]
theorem ro_fieldAddr {x : Operand} {b o' s f off : Nat} (h : o.op = .fieldAddr s x f) (hx : a.eval x = .pointer (some ⟨b, o', none⟩)) (hf : fieldOff P s f = some off) : (execOp a.eval o).run P w = .ok (.value (.pointer (some ⟨b, o' + off, none⟩))) w := by
 cases o; simp only at h; subst h
 unfold fieldOff at hf
 split at hf
 ·rename_i fs hs
  split at hf
  ·rename_i fd hfd
   split at hf
   ·rename_i i hi
    split at hf
    ·cases hf
    ·rename_i hne
     cases hf
     simp [execOp, hx, Instr.fieldAt, run_underlying hs, hfd, Instr.sureAddr, fieldPlace, sizeOf, typeInfo, hi, hne, add_plain]
   ·cases hf
  ·cases hf
 ·cases hf
theorem ro_load {x : Operand} {p : Addr} {t : TypeId} {v : Value} (h : o.op = .load t x) (hx : a.eval x = .pointer (some p)) (ht : tyOne P t = true) (hc : w.cell? p = some v) : (execOp a.eval o).run P w = .ok (.value v) w := by
 cases o; simp only at h; subst h; simp [execOp, hx, Instr.loadAt, Instr.sureAddr, loadVar, run_isAgg_one ht, hc]
theorem ro_convInt {x : Operand} {s t : TypeId} {k k' : IntKind} {n : Int} (h : o.op = .convert s t x) (hx : a.eval x = .int k n) (hs : P.underlying s = some (.int k)) (ht : P.underlying t = some (.int k')) : (execOp a.eval o).run P w = .ok (.value (.int k' (k'.wrap n))) w := by
 cases o; simp only at h; subst h; simp [execOp, hx, convert, run_underlying hs, run_underlying ht, Conv.intToInt]
theorem ro_len {x : Operand} {t : TypeId} {b : Option Addr} {n c : Nat} (h : o.op = .call ⟨.builtin .len, #[x], #[t]⟩) (hx : a.eval x = .slice b n c) (ht : (elemSize P t).isSome = true) : (execOp a.eval o).run P w = .ok (.value (.int .i64 n)) w := by
 cases o; simp only at h; subst h
 unfold elemSize at ht
 split at ht
 ·rename_i e he
  simp [execOp, resolve, invoke, builtin, Builtin.len_, run_underlying he, hx, goInt]
 ·cases ht
theorem do_call {f : FuncId} {args : Array Operand} {ats : Array TypeId} {vs : Array Value} {R : Value → World → Prop} (h : o.op = .call ⟨.value (.func f), args, ats⟩) (ha : args.map a.eval = vs) (hf : isFn P f = true) (hc : Calls P f vs w fun e w' => ∃ v, e = .returned v ∧ R v w') : Does P o a w R := by
 cases o; simp only at h; subst h
 have hargs : args = args.toList.toArray := by simp
 intro K Q hK
 unfold Oper.wp
 have hr : ∀ (d : Option Tmp) (ty : TypeId) (pos : String) (aft : Array Edge) (g : Option (Nat × Bool)), (execOp a.eval ⟨d, .call ⟨.value (.func f), args, ats⟩, ty, pos, aft, g⟩).run P w = .ok (.enter f vs) w := by
  intro d ty pos aft g
  unfold isFn at hf
  cases hfn : P.funcs[f]? with
  | none => simp [hfn] at hf
  | some fn =>
   simp [hfn] at hf
   have h2 : fn.body ≠ none := by intro e; simp [e] at hf
   simp [execOp, resolve, Deferred.ofValue, Act.eval, invoke, callFunc, hfn, hf.1, h2]
   exact ha
 rw [hr]
 refine hc.mono (fun e w' he => ?_)
 obtain ⟨v, rfl, hv⟩ := he
 exact hK _ _ hv
theorem do_of {v : Value} {R : Value → World → Prop} (hr : (execOp a.eval o).run P w = .ok (.value v) w) (h : R v w) : Does P o a w R := does_of hr h
end
theorem FkOk.add {P : Program} {K : Fk} {tg : Bool} (h : FkOk P K tg) {f : Nat} {fs : List Fld} (hc : CvP P f (GiveP tg fs) (partK tg fs)) : FkOk P { K with mks := (f, fs) :: K.mks } tg := by
 refine ⟨h.at_, h.text, h.octs, h.six, fun g gs hg => ?_, h.pts⟩
 simp only [lkM] at hg
 cases hb : Nat.beq f g with
 | true => rw [hb] at hg; simp only [cond_true, Option.some.injEq] at hg; rw [← beq_out hb, ← hg]; exact hc
 | false => rw [hb] at hg; exact h.mks g gs hg
structure KnF (N B l0 vb tb lo : Nat) (tcs : List Value) (tg : Bool) (t : Tree) (w : World) (a : Act) (A : FA) : Prop where
 size : a.tmps.size = N
 defers : a.defers = []
 at_ : ∀ s x, lkF A s = some x → dnF B l0 vb tb lo tcs tg t w x (gt a s)
structure FWd (B vb tb : Nat) (tT : TypeId) (tcs : List Value) (t : Tree) (w : World) : Prop where
 box : Box w tb tcs tT
 rep : Rep (Lo B) w (treeD t) tcs
 ne : tb ≠ vb
theorem FWd.up {B l0 vb tb : Nat} (hf : Fb B l0 vb) {tT : TypeId} {tcs : List Value} {t : Tree} {S : Nat → Prop} {w w' : World} (h : FWd B vb tb tT tcs t w) (hc : Chg S w w') (hl0 : l0 ≤ w.heap.size) (hs : ∀ j, S j → j = vb ∨ w.heap.size ≤ j) : FWd B vb tb tT tcs t w' :=
 ⟨h.box.chg hc (fun e => by rcases hs _ e with h1 | h1; exact h.ne h1; have := h.box.lt; omega), Lo.upS h.rep hc (by have := hf.le; have := hf.lt; omega) (fun j hj => by have := hf.le; have := hf.lt; rcases hs j hj with h | h <;> omega), h.ne⟩
section
variable {P : Program} {K : Fk} {N B l0 vb tb lo : Nat} {tcs : List Value} {tg : Bool} {t : Tree} {w : World} {a : Act} {A : FA}
theorem KnF.up (hf : Fb B l0 vb) {S : Nat → Prop} {w' : World} (h : KnF N B l0 vb tb lo tcs tg t w a A) (hc : Chg S w w') (hl0 : l0 ≤ w.heap.size) (hs : ∀ j, S j → j = vb ∨ w.heap.size ≤ j) : KnF N B l0 vb tb lo tcs tg t w' a A := ⟨h.size, h.defers, fun s x e => (h.at_ s x e).up hf hc hl0 hs⟩
theorem KnF.put (h : KnF N B l0 vb tb lo tcs tg t w a A) {d : Nat} {x : Fw} {v : Value} (hd : Nat.blt d N = true) (hv : dnF B l0 vb tb lo tcs tg t w x v) : KnF N B l0 vb tb lo tcs tg t w (a.put (some d) v) ((d, x) :: A) := by
 refine ⟨(put_size a _ v).trans h.size, (put_defers a _ v).trans h.defers, fun s y e => ?_⟩
 simp only [lkF] at e
 cases hb : Nat.beq d s with
 | true =>
  rw [hb] at e
  simp only [cond_true, Option.some.injEq] at e
  have := beq_out hb; subst this; subst e
  rw [gt_put_same _ _ _ (by rw [h.size]; exact Nat.le_of_ble_eq_true hd)]; exact hv
 | false =>
  rw [hb] at e
  rw [gt_put_ne _ _ _ _ (by rintro rfl; rw [Nat.beq_refl] at hb; cases hb)]
  exact h.at_ s y e
theorem KnF.eval (h : KnF N B l0 vb tb lo tcs tg t w a A) {x : Operand} {f : Fw} (e : evF A x = some f) : dnF B l0 vb tb lo tcs tg t w f (a.eval x) := by
 unfold evF at e
 split at e
 ·exact h.at_ _ _ e
 ·cases e; rfl
 ·cases e
end
end Go.Proofs.YtgpnpfiafcakfaaDoor

namespace Go.Proofs.YtgpnpfiafcakfaaDoor
open Go Go.RowKit
def FSt (B l0 vb : Nat) (e : TypeId) (w : World) (ds : List D) : Prop := ∃ cs, Box w vb cs e ∧ Reps (In B l0 w) w ds cs
theorem FSt.up {B l0 vb : Nat} (hf : Fb B l0 vb) {e : TypeId} {S : Nat → Prop} {w w' : World} {ds : List D} (h : FSt B l0 vb e w ds) (hc : Chg S w w') (hs : ∀ j, S j → w.heap.size ≤ j) : FSt B l0 vb e w' ds := by
 obtain ⟨cs, hb, hr⟩ := h
 exact ⟨cs, hb.chg hc (fun hj => by have := hs _ hj; have := hb.lt; omega), In.ups hf hr hc (fun j hj => .inr (hs j hj))⟩
theorem FSt.lt {B l0 vb : Nat} {e : TypeId} {w : World} {ds : List D} (h : FSt B l0 vb e w ds) : vb < w.heap.size := by obtain ⟨cs, hb, _⟩ := h; exact hb.lt
section
variable {P : Program} {a : Act} {w : World} {o : Oper}
theorem do_storeSeg {x y : Operand} {b off : Nat} {t e : TypeId} {vs seg A C : List Value} {v : Value} {R : Value → World → Prop} (hop : o.op = .store t x y) (hx : a.eval x = .pointer (some ⟨b, off, none⟩)) (hy : a.eval y = v) (hv : v.cells = vs.toArray) (hsz : sizeIs P t vs.length = true)
  (h1 : (vs.all fun v => v.oneCell') = true) (hB : Box w b (A ++ seg ++ C) e) (hA : A.length = off) (hl : seg.length = vs.length) (h : ∀ w', Box w' b (A ++ vs ++ C) e → w.grownBy w' (some b) → R undef w') : Does P o a w R := by
 cases o; simp only at hop; subst hop
 have hst := run_storeCells_at P b off e vs 0 (A ++ seg ++ C).toArray w hB (by simp; omega) (fun u hu => List.all_eq_true.1 h1 u hu)
 simp only [Nat.add_zero] at hst
 have hnew : ((A ++ seg ++ C).toArray.toList.take off ++ vs ++ (A ++ seg ++ C).toArray.toList.drop (off + vs.length)) = A ++ vs ++ C := by
  subst hA
  simp only []
  rw [List.append_assoc A seg C, List.take_left', ← hl, ← List.append_assoc, ← List.length_append, List.drop_left']
  ·rfl
  ·rfl
 refine does_skip (w' := w.setRow b (A ++ vs ++ C).toArray) ?_ (h _ ?_ ?_)
 ·unfold sizeIs at hsz
  split at hsz
  ·rename_i i hi
   have hsz' := beq_out hsz
   rw [hnew] at hst
   simp [execOp, hx, hy, Instr.storeAt, Instr.sureAddr, storeVar, hv, sizeOf, typeInfo, hi, hsz', hst]
  ·cases hsz
 ·exact setRow_heap w b _ _ _ _ hB
 ·exact ⟨rfl, rfl, rfl, by simp, fun k' _ hk => setRow_other w b k' _ (fun e' => hk (by rw [e']))⟩
end
theorem sl_sq {ok : Nat → Prop} {w : World} {b : Bool} {ds : List D} {cs : List Value} (h : Rep ok w (.sl b ds) cs) : Rep ok w (.sq ds) cs := by
 simp only [Rep] at h ⊢
 obtain ⟨a, c, e, hle, h1, h2⟩ := h
 refine ⟨a, c, e, hle, ?_⟩
 cases b with
 | true => exact .inl (h1 rfl).2.1
 | false => exact .inr (h2 rfl)
section
variable {P : Program} {K : Fk} {N B l0 vb tb lo : Nat} {tcs : List Value} {tg : Bool} {t : Tree} {w : World} {a : Act} {A : FA}
end
end Go.Proofs.YtgpnpfiafcakfaaDoor
