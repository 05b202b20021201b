/- A part of the proof of FnUnsafeDescribeConfigsResponseCardSaid: what its texts prove stands at the head of each. Conditions: those that each theorem names. -/
import Derived.Test.YtgpnpfiafcakfaaDoorPartD
import Derived.Test.YtgpnpfiafcakfaaDoorPartC
import Derived.Maps.RangeRun
import Derived.Laws.MakeOwn
import Derived.Test.YtgpnpfiafcakfaaDoorProg
import Derived.Shelf.GgSortFunc.Whole
import Derived.Shelf.GgSortFunc.Tiny
import Derived.Ground.GgsProg
import Derived.Test.YtgpnpfiafcakfaaDoorPartA
import Derived.ScopeJumps
import Derived.Laws.BytesString
import Derived.Carry
import Derived.Test.YtgpnpfiafcakfaaDoorPartB
set_option linter.all false
namespace Go.Proofs.YtgpnpfiafcakfaaDoor
open Go Go.RowKit
def isEc : Option Ru → Bool
 | some .ec => true
 | _ => false
def isEp : Option Ru → Bool
 | some .ep => true
 | _ => false
def isDst : Option Ru → Bool
 | some .dst => true
 | _ => false
def isLpU (k : Nat) : Option Ru → Bool
 | some (.lp j) => Nat.beq j k
 | _ => false
def fitsU (kind : Int) (before : Bool) : Ru → Bool
 | .evi k => decide (kindInt kind = some k)
 | .elf k => decide (kindInt kind = some k)
 | .elf0 => i64k kind
 | .dst => before
 | _ => true
def leafU (kind : Int) : Option Ru → Bool
 | some (.elf k) => decide (kindInt kind = some k)
 | some .elf0 => i64k kind
 | _ => false
def slU (P : Program) (tT : Nat) (fl : Bool) (ops : List Oper) (e : Operand → Option Ru) (isl : Nat) (kind : Int) (pe : List Nat) : Op → Bool
 | .buildSlice t 1 ⟨[(0, y)]⟩ => rowTy P t tT 5 && valueOk fl ops isl (leafU kind (e y)) y pe
 | _ => false
def apU (P : Program) (tT : Nat) (fl : Bool) (ops : List Oper) (e : Operand → Option Ru) (iap isl : Nat) : Op → Bool
 | .call ⟨.builtin .append, ⟨[y, z]⟩, ⟨[t2, t3]⟩⟩ => rowTy P t2 tT 5 && Nat.beq t2 t3 && isDst (e y) && actRef fl ops iap isl z
 | _ => false
def stU (P : Program) (fl : Bool) (ops : List Oper) (e : Operand → Option Ru) (ist iap i : Nat) : Op → Bool
 | .store t x y => isLpU (i * 5 + 3) (e x) && sizeIs P t 1 && actRef fl ops ist iap y
 | _ => false
def bodyBR (P : Program) (K : Tk) (fl : Bool) (N : Nat) (S : List Nat) (vs tt ix off n i sz : Nat) (kind : Int) (sub : List Fld) (ops : List Oper) : Bool :=
 match actAt ops isSlice1, actAt ops isApp with
 | some isl, some iap =>
  let r := fun j => ruAt P K.tT fl ops vs tt ix off n i sz 30 j
  let e := fun j => opU fl ops vs tt ix r j
  let ist := ops.length - 1
  let pe := (List.range ops.length).filter fun j => (r j).isNone && !Nat.beq j isl && !Nat.beq j iap && !Nat.beq j ist
  regOk fl N S ops && Nat.blt ist ops.length && Nat.blt isl ops.length && Nat.blt iap ops.length && !Nat.beq isl iap && !Nat.beq isl ist && !Nat.beq iap ist && (r isl).isNone && (r iap).isNone && (r ist).isNone &&
  pe.all (fun j => reach fl ops (pe ++ [isl]) iap j) && (prs fl ops iap).contains isl && (prs fl ops ist).contains iap &&
  (List.range ops.length).all (fun j => match r j with | some q => fitsU kind ((prs fl ops ist).contains j) q | none => true) &&
  preOk P K (fun j x => isEc (e j x)) (fun j x => isEp (e j x)) (fun _ _ => false) kind (-1) sub fl ops pe &&
  opAt ops isl (slU P K.tT fl ops (e isl) isl kind pe) && opAt ops iap (apU P K.tT fl ops (e iap) iap isl) && opAt ops ist (stU P fl ops (e ist) ist iap i)
 | _, _ => false
section
variable {P : Program} {K : Tk} {tg : Bool}
def SF (l0 tT : Nat) (G : Tree → Prop) (w : World) (v : Value) : Prop := ∃ b8 cs T, v = .slice (some ⟨b8, 0, none⟩) 1 1 ∧ Box w b8 cs tT ∧ Rep (In 0 l0 w) w (treeD T) cs ∧ G T
theorem SF.up {l0 lb tT : Nat} (hf : Fb 0 l0 lb) {G : Tree → Prop} {w w' : World} {v : Value} (h : SF l0 tT G w v) (hc : Chg (fun _ => False) w w') : SF l0 tT G w' v := by
 obtain ⟨b8, cs, T, rfl, hb, hr, hg⟩ := h
 exact ⟨b8, cs, T, rfl, hb.chg hc (fun h => h), In.upS hf hr hc (fun _ h => h.elim), hg⟩
theorem bodyB_ok (hK : TkOk P K tg) (hm : P.follows .mixedOrders = true) {fl : Bool} {N id : Nat} {L : Sl} {ops : List Oper} {Q : Exit → Act → World → Prop} {vs tt ix off m l0 lo B sz : Nat} {u : Un} {kind : Int} {sub : List Fld} {e : TypeId} {uv : Value} {w : World} {Ts xs : List Tree} {b : Bool} {ds : List D} {cs : List Value}
  (h : bodyBR P K fl N (L.map (·.1)) vs tt ix off u.n Ts.length sz kind sub ops = true) (hvs : lk L vs = some (.pointer (some ⟨u.sb, u.so, none⟩))) (htt : lk L tt = some (.pointer (some ⟨u.tb, 0, none⟩))) (hix : lk L ix = some (.int .i64 u.k))
  (hst : LSt l0 lo u.tb u.lb u.n uv K.tT e w Ts m b u.d xs) (hs : TSrc B u.eb u.eo tg kind (-1) sub w ds u.ec cs) (hW : RuW u uv K.tT off sz w) (hsb : u.sb < B) (hBt : B ≤ u.tb) (hBl : B ≤ u.lb) (hlen : xs.length + 1 ≤ many)
  (hq : ∀ w' T v, TellX tg kind (-1) sub ds T → LSt l0 lo u.tb u.lb u.n uv K.tT e w' Ts m b v (xs ++ [T]) → Chg (fun j => j = u.lb ∨ lo ≤ j) w w' → QK .normal Q N L w') : WC (.region id ops.toArray fl) P Q N L w := by
 unfold bodyBR at h
 split at h
 ·rename_i isl iap hisl hiap
  simp only [Bool.and_eq_true, Bool.not_eq_true'] at h
  obtain ⟨⟨⟨⟨⟨⟨⟨⟨⟨⟨⟨⟨⟨⟨⟨⟨⟨g1, g2⟩, g2a⟩, g2b⟩, n1⟩, n2⟩, n3⟩, r1⟩, r2⟩, r3⟩, g4⟩, g4a⟩, g4b⟩, g5⟩, g6⟩, g7⟩, g8⟩, g9⟩ := h
  obtain ⟨ist, hist⟩ : ∃ ist, ist = ops.length - 1 := ⟨_, rfl⟩
  rw [← hist] at g2 n2 n3 r3 g4 g4b g5 g6 g7 g9
  have n1 := nb_ne n1
  have n2 := nb_ne n2
  have n3 := nb_ne n3
  obtain ⟨r, hr⟩ : ∃ r : Nat → Option Ru, r = fun j => ruAt P K.tT fl ops vs tt ix off u.n Ts.length sz 30 j := ⟨_, rfl⟩
  have hmono : ∀ i rr, ruAt P K.tT fl ops vs tt ix off u.n Ts.length sz 29 i = some rr → r i = some rr := fun i rr hh => by rw [hr]; exact ruAt_mono 29 i rr hh
  obtain ⟨pe, hpe⟩ : ∃ pe, pe = (List.range ops.length).filter (fun j => (ruAt P K.tT fl ops vs tt ix off u.n Ts.length sz 30 j).isNone && !Nat.beq j isl && !Nat.beq j iap && !Nat.beq j ist) := ⟨_, rfl⟩
  rw [← hpe] at g4 g6 g7
  have bne : ∀ {x y : Nat}, x ≠ y → Nat.beq x y = false := fun {x y} hne => by cases hb : Nat.beq x y with | false => rfl | true => exact absurd (beq_out hb) hne
  have hpm : ∀ j, j ∈ pe ↔ j < ops.length ∧ r j = none ∧ j ≠ isl ∧ j ≠ iap ∧ j ≠ ist := by
   intro j
   rw [hpe, hr]
   simp only [List.mem_filter, List.mem_range, Bool.and_eq_true, Option.isNone_iff_eq_none, Bool.not_eq_true']
   constructor
   ·rintro ⟨h1, ⟨⟨h2, h3⟩, h4⟩, h5⟩; exact ⟨h1, h2, nb_ne h3, nb_ne h4, nb_ne h5⟩
   ·rintro ⟨h1, h2, h3, h4, h5⟩; exact ⟨h1, ⟨⟨h2, bne h3⟩, bne h4⟩, bne h5⟩
  obtain ⟨osl, hosl, hsl⟩ := opAt_out g7
  obtain ⟨oap, hoap, hap⟩ := opAt_out g8
  obtain ⟨ost, hos, host⟩ := opAt_out g9
  have rn : ∀ j, j ∈ pe ∨ j = isl ∨ j = iap ∨ j = ist → r j = none := by
   rw [hr]
   rintro j (h | rfl | rfl | rfl)
   ·have := ((hpm j).1 h).2.1; rw [hr] at this; exact this
   ·simpa using r1
   ·simpa using r2
   ·simpa using r3
  have hBw := hs.Bw
  have hebB := hs.lt
  have hllb := hst.llb
  have hltb := hst.ltb
  have hl0l := hst.l0l
  have hlow := hst.low
  let G := TellX tg kind (-1) sub ds
  let W0 := w.heap.size
  have hfb : Fb 0 w.heap.size u.lb := ⟨Nat.zero_le _, by omega⟩
  let I : World → Prop := fun w' => Chg (fun _ => False) w w'
  let F : Nat → Value → World → Prop := fun j v w' => (j ∈ pe → preF w.heap.size G pe j v w') ∧ (j = isl → SF w.heap.size K.tT G w' v)
  let S : List (Nat × Value) → List Value → World → Prop := fun pd vals w' => match vals with
   | [] => I w' ∧ ∀ j v, (j, v) ∈ pd → F j v w'
   | [v] => ∃ T, G T ∧ RowD 0 lo u.lb K.tT 5 w' v ((xs ++ [T]).map treeD) ∧ Chg (fun j => lo ≤ j) w w'
   | _ => ∃ T v, G T ∧ LSt l0 lo u.tb u.lb u.n uv K.tT e w' Ts m b v (xs ++ [T]) ∧ Chg (fun j => j = u.lb ∨ lo ≤ j) w w'
  have hSc : ∀ {pd : List (Nat × Value)} {vals : List Value} {w' : World}, S pd vals w' → Chg (fun j => j = u.lb ∨ lo ≤ j) w w' := by
   intro pd vals w' hS
   match vals, hS with
   | [], hS => exact hS.1.wide (fun _ h => h.elim)
   | [v], hS => obtain ⟨T, _, _, hc⟩ := hS; exact hc.wide (fun _ h => .inr h)
   | _ :: _ :: _, hS => obtain ⟨T, v, _, _, hc⟩ := hS; exact hc
  have hRu : ∀ {w' : World}, Chg (fun j => j = u.lb ∨ lo ≤ j) w w' → RuW u uv K.tT off sz w' := by
   intro w' hc
   refine ⟨hW.tr.chg hc (by have := hst.ne; omega), ?_, hW.elem, ?_, hW.sl⟩
   ·rw [← hW.row]; simp only [World.cell?]; rw [hc.block u.sb (by omega) (by omega)]
   ·rw [← hW.cel]; simp only [World.cell?]; rw [hc.block u.eb (by omega) (by omega)]
  have hdc : ∀ {w' : World}, Chg (fun j => lo ≤ j) w w' → w'.cell? ⟨u.lb, Ts.length * 5 + 3, none⟩ = some u.d := by
   intro w' hc
   obtain ⟨c1, hb, hrr⟩ := hst.ls
   have hl1 : c1.length = Ts.length * 5 := by rw [Reps.len _ _ hrr, widths_trees]
   refine (hb.chg hc (by omega)).cell ?_
   rw [List.getElem?_append_right (by simp [hl1])]
   simp [hl1]
  have rdEv : ∀ {i : Nat} {a : Act}, Kn N a L → (∀ j ∈ prs fl ops i, j ∉ pe ++ [isl] → j ∉ [iap, ist] → ∀ dd, dstOf ops j = some dd → gt a dd = (match r j with | some q => q.v u | none => undef)) → ∀ y rr, opU fl ops vs tt ix r i y = some rr → a.eval y = rr.v u := by
   intro i a k hf y rr hy
   refine opU_ok k hvs htt hix (fun j hj dd hdd q hq => ?_) y rr hy
   have hn1 : j ∉ pe ++ [isl] := fun hp => by
    have := rn j (by rcases List.mem_append.1 hp with h | h; exact .inl h; exact .inr (.inl (by simpa using h)))
    rw [this] at hq; cases hq
   have hn2 : j ∉ [iap, ist] := fun hp => by
    have := rn j (by rcases List.mem_cons.1 hp with h | h; exact .inr (.inr (.inl h)); exact .inr (.inr (.inr (by simpa using h))))
    rw [this] at hq; cases hq
   have := hf j hj hn1 hn2 dd hdd
   rw [hq] at this; exact this
  refine wc_phase (fl := fl) (pe ++ [isl]) [iap, ist] (fun j => match r j with | some q => q.v u | none => undef) I F S g1 hm ?_ (by simpa using n3) ?_ (by simp only [chainOk, Bool.and_true]; exact g4b) ?_ (Chg.refl _ _) (chg_drew _ _) (fun pd w' hI hF _ => ⟨hI, fun j v hj => (hF j v hj).2⟩) ?_ ?_ ?_ ?_
  ·rw [List.all_eq_true]
   intro j hj
   simp only [List.mem_append, List.mem_cons, List.not_mem_nil, or_false] at hj
   rcases hj with (hj | rfl) | rfl | rfl
   ·exact Nat.ble_eq_true_of_le (by have := ((hpm j).1 hj).1; exact this)
   ·exact g2a
   ·exact g2b
   ·exact g2
  ·intro j hj
   simp only [List.mem_append, List.mem_cons, List.not_mem_nil, or_false] at hj ⊢
   rcases hj with hj | rfl
   ·have := (hpm j).1 hj; omega
   ·omega
  ·intro p0 hp0 j hj
   have : p0 = iap := by simpa using hp0.symm
   subst this
   simp only [List.mem_append, List.mem_cons, List.not_mem_nil, or_false] at hj
   rcases hj with hj | rfl
   ·exact List.all_eq_true.1 g4 j hj
   ·unfold reach
    rw [Bool.or_eq_true]
    exact .inl g4a
  ·intro j o ho hnp hni w' hw a k hf
   have hjl := (List.getElem?_eq_some_iff.1 ho).1
   simp only [List.mem_append, List.mem_cons, List.not_mem_nil, or_false, not_or] at hnp hni
   cases hrj : r j with
   | none => exact absurd ((hpm j).2 ⟨hjl, hrj, hnp.2, hni.1, hni.2⟩) hnp.1
   | some rr =>
    simp only [hrj]
    have hfit : fitsU kind ((prs fl ops ist).contains j) rr = true := by
     have := List.all_eq_true.1 g5 j (List.mem_range.2 hjl)
     rw [hr] at hrj
     simp only at hrj
     rw [hrj] at this
     exact this
    have hrr2 := hrj
    rw [hr] at hrr2
    simp only at hrr2
    unfold ruAt at hrr2
    rw [ho] at hrr2
    simp only at hrr2
    have hch : Chg (fun j => j = u.lb ∨ lo ≤ j) w w' := by
     rcases hw with hI | ⟨pd, vals, hS, _⟩
     ·exact hI.wide (fun _ h => h.elim)
     ·exact hSc hS
    refine rolU_ok hK.ty (hRu hch) (e := opU fl ops vs tt ix (ruAt P K.tT fl ops vs tt ix off u.n Ts.length sz 29) j) (fun y q hy => rdEv k hf y q (opU_mono hmono y q hy)) hrr2 ?_ ?_ ?_
    ·rintro rfl
     have hin : j ∈ prs fl ops ist := by simpa [fitsU] using hfit
     rcases hw with hI | ⟨pd, vals, hS, hvl, hnd⟩
     ·exact hdc (hI.wide (fun _ h => h.elim))
     ·match vals, hS, hvl, hnd with
      | [], hS, _, _ => exact hdc (hS.1.wide (fun _ h => h.elim))
      | [v], hS, _, _ => obtain ⟨T, _, _, hc⟩ := hS; exact hdc hc
      | _ :: _ :: _, _, _, hnd => exact absurd hin (hnd 1 ist (by simp) rfl)
    ·rintro k' rfl
     simp only [fitsU, decide_eq_true_eq] at hfit
     obtain ⟨q, hq1, _⟩ := src_int hs hfit
     exact ⟨q, hq1⟩
    ·rintro rfl
     obtain ⟨q, hq1, _⟩ := src_i64 hs hfit
     exact ⟨q, hq1⟩
  ·intro j o ho hj pd w' hI hF hpr a k hf hdn
   have ev := rdEv k hf
   have hsrc : TSrc B u.eb u.eo tg kind (-1) sub w' ds u.ec cs := hs.up hI (fun _ h => h.elim)
   have hsz := hI.size
   have hFpe : ∀ j v, (j, v) ∈ pd → j ∈ pe → preF w.heap.size G pe j v w' := fun j v hj' hp => (hF j v hj').2.1 hp
   rcases List.mem_append.1 hj with hjp | hjs
   ·have hne : j ≠ isl := ((hpm j).1 hjp).2.2.1
    have hd := pre_act (a := a) (l0 := w.heap.size) hK (by rw [hr] at *; exact g6) hjp ho (c := u.ec) (sb := u.eb) (so := u.eo) (B := B) (ds := ds) (cs := cs) (pd := pd.filter (fun p => pe.contains p.1))
     (fun x hx => by
      unfold isEc at hx
      split at hx
      ·rename_i hx'; exact ev x .ec (by rw [hr]; exact hx')
      ·cases hx)
     (fun x hx => by
      unfold isEp at hx
      split at hx
      ·rename_i hx'; exact ev x .ep (by rw [hr]; exact hx')
      ·cases hx)
     (fun x hx => by cases hx) hsrc (by omega)
     (fun j v hj' => by
      simp only [List.mem_filter, List.contains_eq_mem, decide_eq_true_eq] at hj'
      exact hFpe j v hj'.1 hj'.2)
     (fun j' hj' hp => by
      obtain ⟨v, hv⟩ := hpr j' hj' (List.mem_append.2 (.inl hp))
      exact ⟨v, by simp only [List.mem_filter, List.contains_eq_mem, decide_eq_true_eq]; exact ⟨hv, hp⟩⟩)
     (fun j v d hj' hd' => by
      simp only [List.mem_filter] at hj'
      exact hdn j v d hj'.1 hd')
    exact fun K' Q' hK' => hd K' Q' (fun v w'' ⟨hc, hv⟩ => hK' v w'' ⟨hI.trans hc, ⟨fun _ => hv, fun e => absurd e hne⟩, fun j v hp => ⟨fun hm' => preF_up hfb hc (hp.1 hm'), fun e => (hp.2 e).up hfb hc⟩⟩)
   ·have : j = isl := by simpa using hjs
    subst this
    rw [hosl] at ho; cases ho
    unfold slU at hsl
    split at hsl
    ·rename_i t y hop
     rw [Bool.and_eq_true] at hsl
     obtain ⟨hT, hval⟩ := hsl
     have hall : ∀ q ∈ pe, q ∈ prs fl ops j → ∃ v, (q, v) ∈ pd := fun q hq1 hq2 => hpr q hq2 (List.mem_append.2 (.inl hq1))
     have hvf : VF w.heap.size G w' (a.eval y) := by
      match pe, hval, hFpe, hall with
      | [], hval, _, _ =>
       simp only [valueOk] at hval
       unfold leafU at hval
       split at hval
       ·rename_i k' hy
        have hy' := ev y (.elf k') (by rw [hr]; exact hy)
        rw [decide_eq_true_eq] at hval
        obtain ⟨q, hm1, hG⟩ := src_int hsrc hval
        rw [hy']
        simp only [Ru.v]
        rw [hm1]
        exact ⟨_, _, rfl, rep_leaf _, hG⟩
       ·rename_i hy
        have hy' := ev y .elf0 (by rw [hr]; exact hy)
        obtain ⟨q, hm1, hG⟩ := src_i64 hsrc hval
        rw [hy']
        simp only [Ru.v]
        rw [hm1]
        exact ⟨_, _, rfl, rep_leaf _, hG⟩
       ·cases hval
      | [ib], hval, hFpe, hall =>
       obtain ⟨s, rfl, hs2, hs3⟩ := actRef_out hval
       obtain ⟨v, hv⟩ := hall ib (by simp) hs3
       have := hFpe ib v hv (by simp) rfl
       have he : a.eval (.tmp s) = v := hdn ib v s hv hs2
       rw [he]; exact this
      | [ic, ib], hval, hFpe, hall =>
       obtain ⟨s, rfl, hs2, hs3⟩ := actRef_out hval
       obtain ⟨v, hv⟩ := hall ib (by simp) hs3
       have := (hFpe ib v hv (by simp)).1 rfl
       have he : a.eval (.tmp s) = v := hdn ib v s hv hs2
       rw [he]; exact this
      | _ :: _ :: _ :: _, hval, _, _ => cases hval
     obtain ⟨cs5, T, hve, hrep, hG⟩ := hvf
     have hl5 : cs5.length = 5 := by rw [Rep.len _ _ hrep, treeD_width]
     refine do_slice1 hop hT hve (v := .agg cs5.toArray) rfl hl5 (by decide) (by decide) (fun w'' hb8 hc2 hz2 => ?_)
     refine ⟨hI.trans hc2, ⟨fun hp => absurd rfl ((hpm _).1 hp).2.2.1, fun _ => ⟨w'.heap.size, cs5, T, rfl, hb8, In.upS hfb hrep hc2 (fun _ h => h.elim), hG⟩⟩, fun j v hp => ⟨fun hm' => preF_up hfb hc2 (hp.1 hm'), fun e => (hp.2 e).up hfb hc2⟩⟩
    ·cases hsl
  ·intro k j o hjk ho pd vals w' hvl hall hS a kn hf hdn hdq
   have ev := rdEv kn hf
   match k, hjk with
   | 0, hjk =>
    have : j = iap := by simpa using hjk.symm
    subst this
    have hv0 : vals = [] := List.length_eq_zero_iff.1 hvl
    subst hv0
    obtain ⟨hI, hF⟩ := hS
    rw [hoap] at ho; cases ho
    unfold apU at hap
    split at hap
    ·rename_i y z t2 t3 hop
     simp only [Bool.and_eq_true] at hap
     obtain ⟨⟨⟨p1, p2⟩, p3⟩, p4⟩ := hap
     have := beq_out p2; subst this
     obtain ⟨s, rfl, hs2, hs3⟩ := actRef_out p4
     obtain ⟨v, hv⟩ := hall isl (by simp)
     obtain ⟨b8, cs8, T, rfl, hb8, hrep, hG⟩ := (hF isl v hv).2 rfl
     have hze : a.eval (.tmp s) = .slice (some ⟨b8, 0, none⟩) 1 1 := hdn isl _ s hv hs2
     have hye : a.eval y = u.d := by
      unfold isDst at p3
      split at p3
      ·rename_i hy; exact ev y .dst (by rw [hr]; exact hy)
      ·cases p3
     have hz := hI.size
     have hrow := hst.row.below (w' := w') ⟨hI.os, hI.tape, hI.output, hI.size, fun j hj => hI.block j hj (fun h => h)⟩
     refine do_rowApp hop p1 hye hze hrow hb8 (by rw [Rep.len _ _ hrep, treeD_width]) (tree_oneG hrep).1 (x := treeD T) ?_ (by simpa using hlen) (by omega) (by omega) (by omega) (by omega) (fun v' w'' hr' _ hc' _ _ => ?_)
     ·refine hrep.up (fun q hq' => ?_) (fun _ _ => rfl)
      have h1 := hq'.1
      have h2 := hq'.2
      have hlw := hst.row.low
      refine ⟨.inr (by omega), h2, by omega, fun e => ?_⟩
      have := hlw q e
      omega
     ·exact ⟨T, hG, by simpa using hr', (hI.wide (fun _ h => h.elim)).trans hc'⟩
    ·cases hap
   | 1, hjk =>
    have : j = ist := by simpa using hjk.symm
    subst this
    match vals, hvl, hS, hdq with
    | [v], _, hS, hdq =>
     obtain ⟨T, hG, hrow, hc⟩ := hS
     rw [hos] at ho; cases ho
     unfold stU at host
     split at host
     ·rename_i t x y hop
      simp only [Bool.and_eq_true] at host
      obtain ⟨⟨hx, hsz⟩, hy⟩ := host
      have hxe : a.eval x = .pointer (some ⟨u.lb, Ts.length * 5 + 3, none⟩) := by
       unfold isLpU at hx
       split at hx
       ·rename_i k' hx'
        have := beq_out hx; subst this
        exact ev x (.lp (Ts.length * 5 + 3)) (by rw [hr]; exact hx')
       ·cases hx
      obtain ⟨s, rfl, hs2, hs3⟩ := actRef_out hy
      have hye : a.eval (.tmp s) = v := hdq 0 iap v s rfl rfl hs2
      refine hst.put hc hrow hop hxe hye hsz (fun w'' hL hc2 => ?_)
      exact ⟨T, v, hG, hL, (hc.wide (fun _ h => .inr h)).trans (hc2.wide (fun _ h => .inl h))⟩
     ·cases host
   | k + 2, hjk => simp at hjk
  ·intro pd vals w' hvl hall hS a kn hf _ _
   match vals, hvl, hS with
   | [_, _], _, hS =>
    obtain ⟨T, v, hG, hL, hc⟩ := hS
    exact hq w' T v hG hL hc a kn
 ·cases h
end
end Go.Proofs.YtgpnpfiafcakfaaDoor

namespace Go.Proofs.YtgpnpfiafcakfaaDoor
open Go Go.RowKit
section
variable {P : Program} {a : Act} {w : World} {o : Oper}
theorem do_rowLast {tT lo vb : Nat} {x y : Operand} {t : TypeId} {v : Value} {els : List D} {T0 T : Tree} {cs : List Value} {R : Value → World → Prop} (hrd : RowD 0 lo vb tT 5 w v (els ++ [treeD T0])) (hr : Rep (Off 0 lo vb v w) w (treeD T) cs)
  (hop : o.op = .store t x y) (hx : ∀ g n c, v = .slice (some ⟨g, 0, none⟩) n c → n = els.length + 1 → a.eval x = .pointer (some ⟨g, els.length * 5, none⟩)) (hy : a.eval y = .agg cs.toArray) (hsz : sizeIs P t 5 = true) (hw5 : ∀ d ∈ els, d.width = 5)
  (hR : ∀ w', RowD 0 lo vb tT 5 w' v (els ++ [treeD T]) → Chg (fun j => v.ownBlock = some j) w w' → R undef w') : Does P o a w R := by
 obtain ⟨xs, ho, hreps⟩ := hrd.row
 have hlen : (els ++ [treeD T0]).length = els.length + 1 := by simp
 rw [hlen] at ho
 unfold World.ownsRow at ho
 obtain ⟨hxl, ⟨_, h0⟩ | ⟨g, cap, cur, rfl, hge, hcur, hcap, hmax, hcs, htake⟩⟩ := ho
 ·omega
 rw [Reps.app] at hreps
 obtain ⟨c1, c2, rfl, hr1, hr2⟩ := hreps
 have hr2 := rep_one.1 hr2
 have hl2 : c2.length = 5 := by rw [Rep.len _ _ hr2, treeD_width]
 have hl1 : c1.length = els.length * 5 := by simp only [List.length_append] at hxl; omega
 have hlc : cs.length = 5 := by rw [Rep.len _ _ hr, treeD_width]
 have h1 := (tree_oneG hr).1
 obtain ⟨C, hC⟩ : ∃ C, cur.toList = c1 ++ c2 ++ C := ⟨cur.toList.drop ((els.length + 1) * 5), by rw [← htake, List.take_append_drop]⟩
 have hbox : Box w g (c1 ++ c2 ++ C) tT := by
  unfold Box
  rw [hcur, ← hC]
 refine do_storeSeg (vs := cs) (seg := c2) (A := c1) (C := C) hop (hx g _ cap rfl rfl) hy rfl (by rw [hlc]; exact hsz) h1 hbox hl1 (by rw [hl2, hlc]) (fun w' hb' hg' => ?_)
 have hc := Chg.grown hg'
 have hz := hc.size
 have hown : (Value.slice (some ⟨g, 0, none⟩) (els.length + 1) cap).ownBlock = some g := rfl
 have hup : ∀ {d : D} {cc : List Value}, Rep (Off 0 lo vb (.slice (some ⟨g, 0, none⟩) (els.length + 1) cap) w) w d cc → Rep (Off 0 lo vb (.slice (some ⟨g, 0, none⟩) (els.length + 1) cap) w') w' d cc := fun hh =>
  hh.up (fun q hq => ⟨hq.1, by have := hq.2.1; omega, hq.2.2⟩) (fun q hq => hc.block q hq.2.1 (fun e => hq.2.2.2 (by rw [hown]; have e' : q = g := e; rw [e'])))
 refine hR w' ⟨hrd.apart, fun g' hg2 => ⟨(hrd.low g' hg2).1, by have := (hrd.low g' hg2).2; omega⟩, c1 ++ cs, ?_, ?_⟩ (hc.wide (fun j hj => by rw [hown]; have e' : j = g := hj; rw [e']))
 ·have : (els ++ [treeD T]).length = els.length + 1 := by simp
  rw [this]
  unfold World.ownsRow
  refine ⟨by simp only [List.length_append]; omega, .inr ⟨g, cap, (c1 ++ cs ++ C).toArray, rfl, hge, hb', hcap, hmax, ?_, ?_⟩⟩
  ·rw [← hcs]
   have : cur.size = cur.toList.length := by simp
   rw [this, hC]
   simp; omega
  ·simp only []
   rw [show (els.length + 1) * 5 = (c1 ++ cs).length by simp only [List.length_append]; omega, List.take_left']
   rfl
 ·rw [Reps.app]
  refine ⟨c1, cs, rfl, ?_, rep_one.2 (hup hr)⟩
  exact Reps.mono (fun q hq => ⟨⟨hq.1, by have := hq.2.1; omega, hq.2.2⟩, hc.block q hq.2.1 (fun e => hq.2.2.2 (by rw [hown]; have e' : q = g := e; rw [e']))⟩) _ _ hr1
end
end Go.Proofs.YtgpnpfiafcakfaaDoor

namespace Go.Proofs.YtgpnpfiafcakfaaDoor
open Go Go.RowKit
def isLnU : Option Ru → Bool
 | some .ln => true
 | _ => false
def slZ (P : Program) (tT : Nat) : Op → Bool
 | .buildSlice t 1 ⟨[(0, .const (.agg ⟨[.int .i64 0, .slice none 0 0, .bool false, .slice none 0 0, .slice none 0 0]⟩))]⟩ => rowTy P t tT 5
 | _ => false
def atSlot (ops : List Oper) (s : Nat) (p : Nat → Bool) : Bool := match idxOf ops s with
 | some j => p j
 | none => false
def elOk (ops : List Oper) (r : Nat → Option Ru) (kind : Int) (se : Nat) : List Nat → Bool
 | [] => atSlot ops se fun j => leafU kind (r j)
 | [ib] => atSlot ops se fun j => Nat.beq j ib
 | [_, ib] => atSlot ops se fun j => Nat.beq j ib
 | _ => false
def bodyAR (P : Program) (K : Tk) (fl : Bool) (N : Nat) (S : List Nat) (vs tt ix off n i sz : Nat) (kind : Int) (sub : List Fld) (sv sl se : Nat) (ops : List Oper) : Bool :=
 match actAt ops isSlice1, actAt ops isApp with
 | some isl, some iap =>
  let r := fun j => ruAt P K.tT fl ops vs tt ix off n i sz 30 j
  let e := fun j => opU fl ops vs tt ix r j
  let ist := ops.length - 1
  let pe := (List.range ops.length).filter fun j => (r j).isNone && !Nat.beq j isl && !Nat.beq j iap && !Nat.beq j ist
  regOk fl N S ops && Nat.blt ist ops.length && Nat.blt isl ops.length && Nat.blt iap ops.length && !Nat.beq isl iap && !Nat.beq isl ist && !Nat.beq iap ist && (r isl).isNone && (r iap).isNone && (r ist).isNone &&
  pe.all (fun j => reach fl ops (pe ++ [isl]) iap j) && (prs fl ops iap).contains isl && (prs fl ops ist).contains iap &&
  (List.range ops.length).all (fun j => match r j with | some q => fitsU kind ((prs fl ops ist).contains j) q | none => true) &&
  preOk P K (fun j x => isEc (e j x)) (fun j x => isEp (e j x)) (fun _ _ => false) kind (-1) sub fl ops pe &&
  opAt ops isl (slZ P K.tT) && opAt ops iap (apU P K.tT fl ops (e iap) iap isl) && opAt ops ist (stU P fl ops (e ist) ist iap i) &&
  atSlot ops sv (fun j => Nat.beq j iap) && atSlot ops sl (fun j => isLnU (r j)) && elOk ops r kind se pe
 | _, _ => false
section
variable {P : Program} {K : Tk} {tg : Bool}
def ZF (tT : Nat) (w : World) (v : Value) : Prop := ∃ b8, v = .slice (some ⟨b8, 0, none⟩) 1 1 ∧ Box w b8 (flagC false) tT
theorem atSlot_out {ops : List Oper} {s : Nat} {p : Nat → Bool} (h : atSlot ops s p = true) : ∃ j, dstOf ops j = some s ∧ p j = true := by
 unfold atSlot at h
 split at h
 ·rename_i j hj; exact ⟨j, idxOf_out hj, h⟩
 ·cases h
theorem bodyA_ok (hK : TkOk P K tg) (hm : P.follows .mixedOrders = true) {fl : Bool} {N id : Nat} {L : Sl} {ops : List Oper} {Q : Exit → Act → World → Prop} {vs tt ix off m l0 lo B sz sv sl se : Nat} {u : Un} {kind : Int} {sub : List Fld} {e : TypeId} {uv : Value} {w : World} {Ts xs : List Tree} {b : Bool} {ds : List D} {cs : List Value}
  (h : bodyAR P K fl N (L.map (·.1)) vs tt ix off u.n Ts.length sz kind sub sv sl se ops = true) (hvs : lk L vs = some (.pointer (some ⟨u.sb, u.so, none⟩))) (htt : lk L tt = some (.pointer (some ⟨u.tb, 0, none⟩))) (hix : lk L ix = some (.int .i64 u.k))
  (hst : LSt l0 lo u.tb u.lb u.n uv K.tT e w Ts m b u.d xs) (hs : TSrc B u.eb u.eo tg kind (-1) sub w ds u.ec cs) (hW : RuW u uv K.tT off sz w) (hsb : u.sb < B) (hBt : B ≤ u.tb) (hBl : B ≤ u.lb) (hlen : xs.length + 1 ≤ many)
  (hq : ∀ w' v ev, (∃ cs T, ev = .agg cs.toArray ∧ TellX tg kind (-1) sub ds T ∧ Rep (Off 0 lo u.lb v w') w' (treeD T) cs) → LSt l0 lo u.tb u.lb u.n uv K.tT e w' Ts m b v (xs ++ [Tree.none]) → Chg (fun j => j = u.lb ∨ u.d.ownBlock = some j) w w' → QK .normal Q N ((sv, v) :: (sl, .int .i64 xs.length) :: (se, ev) :: L) w') : WC (.region id ops.toArray fl) P Q N L w := by
 unfold bodyAR at h
 split at h
 ·rename_i isl iap hisl hiap
  simp only [Bool.and_eq_true, Bool.not_eq_true'] at h
  obtain ⟨⟨⟨⟨⟨⟨⟨⟨⟨⟨⟨⟨⟨⟨⟨⟨⟨⟨⟨⟨g1, g2⟩, g2a⟩, g2b⟩, n1⟩, n2⟩, n3⟩, r1⟩, r2⟩, r3⟩, g4⟩, g4a⟩, g4b⟩, g5⟩, g6⟩, g7⟩, g8⟩, g9⟩, g10⟩, g11⟩, g12⟩ := h
  obtain ⟨ist, hist⟩ : ∃ ist, ist = ops.length - 1 := ⟨_, rfl⟩
  rw [← hist] at g2 n2 n3 r3 g4 g4b g5 g6 g9 g12
  have n1 := nb_ne n1
  have n2 := nb_ne n2
  have n3 := nb_ne n3
  obtain ⟨r, hr⟩ : ∃ r : Nat → Option Ru, r = fun j => ruAt P K.tT fl ops vs tt ix off u.n Ts.length sz 30 j := ⟨_, rfl⟩
  have hmono : ∀ i rr, ruAt P K.tT fl ops vs tt ix off u.n Ts.length sz 29 i = some rr → r i = some rr := fun i rr hh => by rw [hr]; exact ruAt_mono 29 i rr hh
  obtain ⟨pe, hpe⟩ : ∃ pe, pe = (List.range ops.length).filter (fun j => (ruAt P K.tT fl ops vs tt ix off u.n Ts.length sz 30 j).isNone && !Nat.beq j isl && !Nat.beq j iap && !Nat.beq j ist) := ⟨_, rfl⟩
  rw [← hpe] at g4 g6 g12
  have bne : ∀ {x y : Nat}, x ≠ y → Nat.beq x y = false := fun {x y} hne => by cases hb : Nat.beq x y with | false => rfl | true => exact absurd (beq_out hb) hne
  have hpm : ∀ j, j ∈ pe ↔ j < ops.length ∧ r j = none ∧ j ≠ isl ∧ j ≠ iap ∧ j ≠ ist := by
   intro j
   rw [hpe, hr]
   simp only [List.mem_filter, List.mem_range, Bool.and_eq_true, Option.isNone_iff_eq_none, Bool.not_eq_true']
   constructor
   ·rintro ⟨h1, ⟨⟨h2, h3⟩, h4⟩, h5⟩; exact ⟨h1, h2, nb_ne h3, nb_ne h4, nb_ne h5⟩
   ·rintro ⟨h1, h2, h3, h4, h5⟩; exact ⟨h1, ⟨⟨h2, bne h3⟩, bne h4⟩, bne h5⟩
  obtain ⟨osl, hosl, hsl⟩ := opAt_out g7
  obtain ⟨oap, hoap, hap⟩ := opAt_out g8
  obtain ⟨ost, hos, host⟩ := opAt_out g9
  have rn : ∀ j, j ∈ pe ∨ j = isl ∨ j = iap ∨ j = ist → r j = none := by
   rw [hr]
   rintro j (h | rfl | rfl | rfl)
   ·have := ((hpm j).1 h).2.1; rw [hr] at this; exact this
   ·simpa using r1
   ·simpa using r2
   ·simpa using r3
  have hBw := hs.Bw
  have hebB := hs.lt
  have hllb := hst.llb
  have hltb := hst.ltb
  have hl0l := hst.l0l
  have hlow := hst.low
  let G := TellX tg kind (-1) sub ds
  let W0 := w.heap.size
  have hfb : Fb 0 w.heap.size u.lb := ⟨Nat.zero_le _, by omega⟩
  let I : World → Prop := fun w' => Chg (fun _ => False) w w'
  let F : Nat → Value → World → Prop := fun j v w' => (j ∈ pe → preF w.heap.size G pe j v w') ∧ (j = isl → ZF K.tT w' v)
  let S : List (Nat × Value) → List Value → World → Prop := fun pd vals w' => match vals with
   | [] => I w' ∧ ∀ j v, (j, v) ∈ pd → F j v w'
   | [v] => (RowD 0 lo u.lb K.tT 5 w' v ((xs ++ [Tree.none]).map treeD) ∧ Chg (fun j => u.d.ownBlock = some j) w w') ∧ ∃ wb, Chg (fun j => u.d.ownBlock = some j) wb w' ∧ (∀ g, v.ownBlock = some g → u.d.ownBlock = some g ∨ wb.heap.size ≤ g) ∧ ∀ j v, (j, v) ∈ pd → j ∈ pe → preF w.heap.size G pe j v wb
   | v :: _ => (LSt l0 lo u.tb u.lb u.n uv K.tT e w' Ts m b v (xs ++ [Tree.none]) ∧ Chg (fun j => j = u.lb ∨ u.d.ownBlock = some j) w w') ∧ ∃ wb, Chg (fun j => j = u.lb ∨ u.d.ownBlock = some j) wb w' ∧ (∀ g, v.ownBlock = some g → u.d.ownBlock = some g ∨ wb.heap.size ≤ g) ∧ ∀ j v, (j, v) ∈ pd → j ∈ pe → preF w.heap.size G pe j v wb
  have hdl := hst.row.low
  have hSc : ∀ {pd : List (Nat × Value)} {vals : List Value} {w' : World}, S pd vals w' → Chg (fun j => j = u.lb ∨ lo ≤ j) w w' := by
   intro pd vals w' hS
   match vals, hS with
   | [], hS => exact hS.1.wide (fun _ h => h.elim)
   | [v], hS => exact hS.1.2.wide (fun j h => .inr (hdl j h).1)
   | _ :: _ :: _, hS => exact hS.1.2.wide (fun j h => h.imp (fun h => h) (fun h => (hdl j h).1))
  have hRu : ∀ {w' : World}, Chg (fun j => j = u.lb ∨ lo ≤ j) w w' → RuW u uv K.tT off sz w' := by
   intro w' hc
   refine ⟨hW.tr.chg hc (by have := hst.ne; omega), ?_, hW.elem, ?_, hW.sl⟩
   ·rw [← hW.row]; simp only [World.cell?]; rw [hc.block u.sb (by omega) (by omega)]
   ·rw [← hW.cel]; simp only [World.cell?]; rw [hc.block u.eb (by omega) (by omega)]
  have hdc : ∀ {w' : World}, Chg (fun j => lo ≤ j) w w' → w'.cell? ⟨u.lb, Ts.length * 5 + 3, none⟩ = some u.d := by
   intro w' hc
   obtain ⟨c1, hb, hrr⟩ := hst.ls
   have hl1 : c1.length = Ts.length * 5 := by rw [Reps.len _ _ hrr, widths_trees]
   refine (hb.chg hc (by omega)).cell ?_
   rw [List.getElem?_append_right (by simp [hl1])]
   simp [hl1]
  have rdEv : ∀ {i : Nat} {a : Act}, Kn N a L → (∀ j ∈ prs fl ops i, j ∉ pe ++ [isl] → j ∉ [iap, ist] → ∀ dd, dstOf ops j = some dd → gt a dd = (match r j with | some q => q.v u | none => undef)) → ∀ y rr, opU fl ops vs tt ix r i y = some rr → a.eval y = rr.v u := by
   intro i a k hf y rr hy
   refine opU_ok k hvs htt hix (fun j hj dd hdd q hq => ?_) y rr hy
   have hn1 : j ∉ pe ++ [isl] := fun hp => by
    have := rn j (by rcases List.mem_append.1 hp with h | h; exact .inl h; exact .inr (.inl (by simpa using h)))
    rw [this] at hq; cases hq
   have hn2 : j ∉ [iap, ist] := fun hp => by
    have := rn j (by rcases List.mem_cons.1 hp with h | h; exact .inr (.inr (.inl h)); exact .inr (.inr (.inr (by simpa using h))))
    rw [this] at hq; cases hq
   have := hf j hj hn1 hn2 dd hdd
   rw [hq] at this; exact this
  refine wc_phase (fl := fl) (pe ++ [isl]) [iap, ist] (fun j => match r j with | some q => q.v u | none => undef) I F S g1 hm ?_ (by simpa using n3) ?_ (by simp only [chainOk, Bool.and_true]; exact g4b) ?_ (Chg.refl _ _) (chg_drew _ _) (fun pd w' hI hF _ => ⟨hI, fun j v hj => (hF j v hj).2⟩) ?_ ?_ ?_ ?_
  ·rw [List.all_eq_true]
   intro j hj
   simp only [List.mem_append, List.mem_cons, List.not_mem_nil, or_false] at hj
   rcases hj with (hj | rfl) | rfl | rfl
   ·exact Nat.ble_eq_true_of_le (by have := ((hpm j).1 hj).1; exact this)
   ·exact g2a
   ·exact g2b
   ·exact g2
  ·intro j hj
   simp only [List.mem_append, List.mem_cons, List.not_mem_nil, or_false] at hj ⊢
   rcases hj with hj | rfl
   ·have := (hpm j).1 hj; omega
   ·omega
  ·intro p0 hp0 j hj
   have : p0 = iap := by simpa using hp0.symm
   subst this
   simp only [List.mem_append, List.mem_cons, List.not_mem_nil, or_false] at hj
   rcases hj with hj | rfl
   ·exact List.all_eq_true.1 g4 j hj
   ·unfold reach
    rw [Bool.or_eq_true]
    exact .inl g4a
  ·intro j o ho hnp hni w' hw a k hf
   have hjl := (List.getElem?_eq_some_iff.1 ho).1
   simp only [List.mem_append, List.mem_cons, List.not_mem_nil, or_false, not_or] at hnp hni
   cases hrj : r j with
   | none => exact absurd ((hpm j).2 ⟨hjl, hrj, hnp.2, hni.1, hni.2⟩) hnp.1
   | some rr =>
    simp only [hrj]
    have hfit : fitsU kind ((prs fl ops ist).contains j) rr = true := by
     have := List.all_eq_true.1 g5 j (List.mem_range.2 hjl)
     rw [hr] at hrj
     simp only at hrj
     rw [hrj] at this
     exact this
    have hrr2 := hrj
    rw [hr] at hrr2
    simp only at hrr2
    unfold ruAt at hrr2
    rw [ho] at hrr2
    simp only at hrr2
    have hch : Chg (fun j => j = u.lb ∨ lo ≤ j) w w' := by
     rcases hw with hI | ⟨pd, vals, hS, _⟩
     ·exact hI.wide (fun _ h => h.elim)
     ·exact hSc hS
    refine rolU_ok hK.ty (hRu hch) (e := opU fl ops vs tt ix (ruAt P K.tT fl ops vs tt ix off u.n Ts.length sz 29) j) (fun y q hy => rdEv k hf y q (opU_mono hmono y q hy)) hrr2 ?_ ?_ ?_
    ·rintro rfl
     have hin : j ∈ prs fl ops ist := by simpa [fitsU] using hfit
     rcases hw with hI | ⟨pd, vals, hS, hvl, hnd⟩
     ·exact hdc (hI.wide (fun _ h => h.elim))
     ·match vals, hS, hvl, hnd with
      | [], hS, _, _ => exact hdc (hS.1.wide (fun _ h => h.elim))
      | [v], hS, _, _ => exact hdc (hS.1.2.wide (fun j h => (hdl j h).1))
      | _ :: _ :: _, _, _, hnd => exact absurd hin (hnd 1 ist (by simp) rfl)
    ·rintro k' rfl
     simp only [fitsU, decide_eq_true_eq] at hfit
     obtain ⟨q, hq1, _⟩ := src_int hs hfit
     exact ⟨q, hq1⟩
    ·rintro rfl
     obtain ⟨q, hq1, _⟩ := src_i64 hs hfit
     exact ⟨q, hq1⟩
  ·intro j o ho hj pd w' hI hF hpr a k hf hdn
   have ev := rdEv k hf
   have hsrc : TSrc B u.eb u.eo tg kind (-1) sub w' ds u.ec cs := hs.up hI (fun _ h => h.elim)
   have hsz := hI.size
   have hFpe : ∀ j v, (j, v) ∈ pd → j ∈ pe → preF w.heap.size G pe j v w' := fun j v hj' hp => (hF j v hj').2.1 hp
   rcases List.mem_append.1 hj with hjp | hjs
   ·have hne : j ≠ isl := ((hpm j).1 hjp).2.2.1
    have hd := pre_act (a := a) (l0 := w.heap.size) hK (by rw [hr] at *; exact g6) hjp ho (c := u.ec) (sb := u.eb) (so := u.eo) (B := B) (ds := ds) (cs := cs) (pd := pd.filter (fun p => pe.contains p.1))
     (fun x hx => by
      unfold isEc at hx
      split at hx
      ·rename_i hx'; exact ev x .ec (by rw [hr]; exact hx')
      ·cases hx)
     (fun x hx => by
      unfold isEp at hx
      split at hx
      ·rename_i hx'; exact ev x .ep (by rw [hr]; exact hx')
      ·cases hx)
     (fun x hx => by cases hx) hsrc (by omega)
     (fun j v hj' => by
      simp only [List.mem_filter, List.contains_eq_mem, decide_eq_true_eq] at hj'
      exact hFpe j v hj'.1 hj'.2)
     (fun j' hj' hp => by
      obtain ⟨v, hv⟩ := hpr j' hj' (List.mem_append.2 (.inl hp))
      exact ⟨v, by simp only [List.mem_filter, List.contains_eq_mem, decide_eq_true_eq]; exact ⟨hv, hp⟩⟩)
     (fun j v d hj' hd' => by
      simp only [List.mem_filter] at hj'
      exact hdn j v d hj'.1 hd')
    exact fun K' Q' hK' => hd K' Q' (fun v w'' ⟨hc, hv⟩ => hK' v w'' ⟨hI.trans hc, ⟨fun _ => hv, fun e => absurd e hne⟩, fun j v hp => ⟨fun hm' => preF_up hfb hc (hp.1 hm'), fun e => by obtain ⟨b8, h1, h2⟩ := hp.2 e; exact ⟨b8, h1, h2.chg hc (fun h => h)⟩⟩⟩)
   ·have : j = isl := by simpa using hjs
    subst this
    rw [hosl] at ho; cases ho
    unfold slZ at hsl
    split at hsl
    ·rename_i t hop
     refine do_slice1 (cs := flagC false) hop hsl rfl rfl rfl (by decide) (by decide) (fun w'' hb8 hc2 hz2 => ?_)
     exact ⟨hI.trans hc2, ⟨fun hp => absurd rfl ((hpm _).1 hp).2.2.1, fun _ => ⟨w'.heap.size, rfl, hb8⟩⟩, fun j v hp => ⟨fun hm' => preF_up hfb hc2 (hp.1 hm'), fun e => by obtain ⟨b8, h1, h2⟩ := hp.2 e; exact ⟨b8, h1, h2.chg hc2 (fun h => h)⟩⟩⟩
    ·cases hsl
  ·intro k j o hjk ho pd vals w' hvl hall hS a kn hf hdn hdq
   have ev := rdEv kn hf
   match k, hjk with
   | 0, hjk =>
    have : j = iap := by simpa using hjk.symm
    subst this
    have hv0 : vals = [] := List.length_eq_zero_iff.1 hvl
    subst hv0
    obtain ⟨hI, hF⟩ := hS
    rw [hoap] at ho; cases ho
    unfold apU at hap
    split at hap
    ·rename_i y z t2 t3 hop
     simp only [Bool.and_eq_true] at hap
     obtain ⟨⟨⟨p1, p2⟩, p3⟩, p4⟩ := hap
     have := beq_out p2; subst this
     obtain ⟨s, rfl, hs2, hs3⟩ := actRef_out p4
     obtain ⟨v, hv⟩ := hall isl (by simp)
     obtain ⟨b8, rfl, hb8⟩ := (hF isl v hv).2 rfl
     have hze : a.eval (.tmp s) = .slice (some ⟨b8, 0, none⟩) 1 1 := hdn isl _ s hv hs2
     have hye : a.eval y = u.d := by
      unfold isDst at p3
      split at p3
      ·rename_i hy; exact ev y .dst (by rw [hr]; exact hy)
      ·cases p3
     have hz := hI.size
     have hrow := hst.row.below (w' := w') ⟨hI.os, hI.tape, hI.output, hI.size, fun j hj => hI.block j hj (fun h => h)⟩
     refine do_rowApp hop p1 hye hze hrow hb8 rfl rfl (x := treeD Tree.none) ?_ (by simpa using hlen) (by omega) (by omega) (by omega) (by omega) (fun v' w'' hr' _ hc' hc3 hfr => ?_)
     ·exact (tree_none 0 w').up (fun q hq' => absurd hq' (Nat.not_lt_zero _)) (fun _ _ => rfl)
     ·exact ⟨⟨by simpa using hr', (hI.wide (fun _ h => h.elim)).trans hc3⟩, w', hc3, hfr, fun j v hj hp => (hF j v hj).1 hp⟩
    ·cases hap
   | 1, hjk =>
    have : j = ist := by simpa using hjk.symm
    subst this
    match vals, hvl, hS, hdq with
    | [v], _, hS, hdq =>
     obtain ⟨⟨hrow, hc⟩, wb, hcb, hfr, hpf⟩ := hS
     rw [hos] at ho; cases ho
     unfold stU at host
     split at host
     ·rename_i t x y hop
      simp only [Bool.and_eq_true] at host
      obtain ⟨⟨hx, hsz⟩, hy⟩ := host
      have hxe : a.eval x = .pointer (some ⟨u.lb, Ts.length * 5 + 3, none⟩) := by
       unfold isLpU at hx
       split at hx
       ·rename_i k' hx'
        have := beq_out hx; subst this
        exact ev x (.lp (Ts.length * 5 + 3)) (by rw [hr]; exact hx')
       ·cases hx
      obtain ⟨s, rfl, hs2, hs3⟩ := actRef_out hy
      have hye : a.eval (.tmp s) = v := hdq 0 iap v s rfl rfl hs2
      refine hst.put (hc.wide (fun j h => (hdl j h).1)) hrow hop hxe hye hsz (fun w'' hL hc2 => ?_)
      exact ⟨⟨hL, (hc.wide (fun _ h => .inr h)).trans (hc2.wide (fun _ h => .inl h))⟩, wb, (hcb.wide (fun _ h => .inr h)).trans (hc2.wide (fun _ h => .inl h)), hfr, hpf⟩
     ·cases host
   | k + 2, hjk => simp at hjk
  ·intro pd vals w' hvl hall hS a kn hf hdn hdq
   match vals, hvl, hS, hdq with
   | [v, _], _, hS, hdq =>
    obtain ⟨⟨hL, hc⟩, wb, hcb, hfr, hpf⟩ := hS
    obtain ⟨j1, hj1, hb1⟩ := atSlot_out g10
    have := beq_out hb1; subst this
    obtain ⟨j2, hj2, hb2⟩ := atSlot_out g11
    have f1 : gt a sv = v := hdq 0 j1 v sv rfl rfl hj1
    have hnotp : ∀ {j : Nat} {q : Ru}, r j = some q → j ∉ pe ++ [isl] ∧ j ∉ [j1, ist] := by
     intro j q hq
     constructor
     ·intro hp
      have := rn j (by rcases List.mem_append.1 hp with h | h; exact .inl h; exact .inr (.inl (by simpa using h)))
      rw [this] at hq; cases hq
     ·intro hp
      have := rn j (by rcases List.mem_cons.1 hp with h | h; exact .inr (.inr (.inl h)); exact .inr (.inr (.inr (by simpa using h))))
      rw [this] at hq; cases hq
    have f2 : gt a sl = .int .i64 xs.length := by
     unfold isLnU at hb2
     split at hb2
     ·rename_i hr2
      have hr2' : r j2 = some .ln := by rw [hr]; exact hr2
      have := hf j2 (hnotp hr2').1 (hnotp hr2').2 sl hj2
      rw [hr2'] at this
      simp only [Ru.v] at this
      obtain ⟨a1, n1, hd⟩ := hst.row.shape
      rw [hd] at this
      simpa [lenV] using this
     ·cases hb2
    have f3 : ∃ ev, gt a se = ev ∧ VF w.heap.size G wb ev := by
     match pe, g12, hpf, hall with
     | [], g12, _, _ =>
      obtain ⟨j3, hj3, hb3⟩ := atSlot_out g12
      unfold leafU at hb3
      split at hb3
      ·rename_i k' hr3
       have hr3' : r j3 = some (.elf k') := by rw [hr]; exact hr3
       have := hf j3 (hnotp hr3').1 (hnotp hr3').2 se hj3
       rw [hr3'] at this
       rw [decide_eq_true_eq] at hb3
       obtain ⟨q, hm1, hG⟩ := src_int hs hb3
       simp only [Ru.v] at this
       rw [hm1] at this
       exact ⟨_, this, _, _, rfl, rep_leaf _, hG⟩
      ·rename_i hr3
       have hr3' : r j3 = some .elf0 := by rw [hr]; exact hr3
       have := hf j3 (hnotp hr3').1 (hnotp hr3').2 se hj3
       rw [hr3'] at this
       obtain ⟨q, hm1, hG⟩ := src_i64 hs hb3
       simp only [Ru.v] at this
       rw [hm1] at this
       exact ⟨_, this, _, _, rfl, rep_leaf _, hG⟩
      ·cases hb3
     | [ib], g12, hpf, hall =>
      obtain ⟨j3, hj3, hb3⟩ := atSlot_out g12
      have := beq_out hb3; subst this
      obtain ⟨v3, hv3⟩ := hall j3 (by simp)
      exact ⟨v3, hdn j3 v3 se hv3 hj3, hpf j3 v3 hv3 (by simp) rfl⟩
     | [ic, ib], g12, hpf, hall =>
      obtain ⟨j3, hj3, hb3⟩ := atSlot_out g12
      have := beq_out hb3; subst this
      obtain ⟨v3, hv3⟩ := hall j3 (by simp)
      exact ⟨v3, hdn j3 v3 se hv3 hj3, (hpf j3 v3 hv3 (by simp)).1 rfl⟩
     | _ :: _ :: _ :: _, g12, _, _ => cases g12
    obtain ⟨ev, f3, hvf⟩ := f3
    obtain ⟨cs5, T5, rfl, hr5, hG5⟩ := hvf
    have hoff : Rep (Off 0 lo u.lb v w') w' (treeD T5) cs5 := by
     have hzb := hcb.size
     refine hr5.up (fun q hq' => ?_) (fun q hq' => ?_)
     ·have h1 := hq'.1
      have h2 := hq'.2
      refine ⟨.inr (by omega), by omega, by omega, fun e => ?_⟩
      rcases hfr q e with h | h
      ·have := (hdl q h).2; omega
      ·omega
     ·have h1 := hq'.1
      have h2 := hq'.2
      refine hcb.block q h2 (fun e => ?_)
      rcases e with e | e
      ·omega
      ·have := (hdl q e).2; omega
    exact hq w' v _ ⟨cs5, T5, rfl, hG5, hoff⟩ hL hc a (((kn.with f3).with f2).with f1)
 ·cases h
end
end Go.Proofs.YtgpnpfiafcakfaaDoor

namespace Go.Proofs.YtgpnpfiafcakfaaDoor
open Go Go.RowKit
def putR (P : Program) (N : Nat) (S : List Nat) (sv sl se : Nat) : List Oper → Bool
 | [⟨some s1, .indexAddr t (.tmp a) (.tmp b), _, _, _, none⟩, ⟨none, .store t2 (.tmp s2) (.tmp c), _, _, _, none⟩] =>
  Nat.beq a sv && Nat.beq b sl && Nat.beq s2 s1 && Nat.beq c se && optIs (elemSize P t) 5 && sizeIs P t2 5 && Nat.blt s1 N && outS (sv :: sl :: se :: S) s1 && outS (sl :: se :: S) sv && outS (se :: S) sl && outS S se
 | _ => false
section
variable {P : Program} {K : Tk} {tg : Bool} {Q : Exit → Act → World → Prop} {N : Nat} {L : Sl} {w : World}
theorem wl_do0 {ops : Array Oper} {rest : List Oper} {op : Op} {ty : TypeId} {pos : String} {aft : Array Edge} (h : ∀ a, Kn N a L → Does P ⟨none, op, ty, pos, aft, none⟩ a w fun _ w' => WL rest P ops Q N L w') : WL (⟨none, op, ty, pos, aft, none⟩ :: rest) P ops Q N L w := by
 intro a k
 refine wpList_plain rfl (fun K hK => h a k K Q (fun v w' hv => hK _ _ (hv _ (k.put0 v))))
theorem put_ok {id sv sl se : Nat} {ops : List Oper} (h : putR P N (L.map (·.1)) sv sl se ops = true) {l0 lo tb lb n m : Nat} {uv : Value} {tT e : TypeId} {Ts xs : List Tree} {b : Bool} {v ev : Value} {G : Tree → Prop}
  (hst : LSt l0 lo tb lb n uv tT e w Ts m b v (xs ++ [Tree.none])) (hev : ∃ cs T, ev = .agg cs.toArray ∧ G T ∧ Rep (Off 0 lo lb v w) w (treeD T) cs)
  (hq : ∀ w' T, G T → LSt l0 lo tb lb n uv tT e w' Ts m b v (xs ++ [T]) → Chg (fun j => v.ownBlock = some j) w w' → QK .normal Q N L w') : WC (.region id ops.toArray false) P Q N ((sv, v) :: (sl, .int .i64 xs.length) :: (se, ev) :: L) w := by
 obtain ⟨cs, T, rfl, hG, hrep⟩ := hev
 unfold putR at h
 split at h
 ·rename_i s1 t a b' ty1 p1 f1 t2 s2 c ty2 p2 f2
  simp only [Bool.and_eq_true] at h
  obtain ⟨⟨⟨⟨⟨⟨⟨⟨⟨⟨g1, g2⟩, g3⟩, g4⟩, g5⟩, g6⟩, g7⟩, g8⟩, g9⟩, g10⟩, g11⟩ := h
  have := beq_out g1; subst this
  have := beq_out g2; subst this
  have := beq_out g3; subst this
  have := beq_out g4; subst this
  have hrow := hst.row
  rw [List.map_append, List.map_cons, List.map_nil] at hrow
  obtain ⟨g, cap, hv⟩ : ∃ g cap, v = .slice (some ⟨g, 0, none⟩) (xs.length + 1) cap := by
   obtain ⟨ys, ho, _⟩ := hrow.row
   unfold World.ownsRow at ho
   rcases ho with ⟨_, ⟨_, h0⟩ | ⟨g, cap, cur, hv, _⟩⟩
   ·simp at h0
   ·exact ⟨g, cap, by simpa using hv⟩
  have nsl : a ≠ b' := fun e => outS_ne g9 (s := b') (by simp) e.symm
  have nse : a ≠ c := fun e => outS_ne g9 (s := c) (by simp) e.symm
  have nle : b' ≠ c := fun e => outS_ne g10 (s := c) (by simp) e.symm
  have n1v : s2 ≠ a := fun e => outS_ne g8 (s := a) (by simp) e.symm
  have n1e : s2 ≠ c := fun e => outS_ne g8 (s := c) (by simp) e.symm
  have l1 : lk ((a, v) :: (b', Value.int .i64 xs.length) :: (c, .agg cs.toArray) :: L) a = some v := lk_eq
  have l2 : lk ((a, v) :: (b', Value.int .i64 xs.length) :: (c, .agg cs.toArray) :: L) b' = some (.int .i64 xs.length) := by rw [lk_ne nsl, lk_eq]
  have l3 : lk ((a, v) :: (b', Value.int .i64 xs.length) :: (c, .agg cs.toArray) :: L) c = some (.agg cs.toArray) := by rw [lk_ne nse, lk_ne nle, lk_eq]
  subst hv
  refine wc_region (wl_indexAddr (by show lk _ a = _; exact l1) (by show lk _ b' = _; exact l2) (optIs_out g5) g7 (by omega) (wl_do0 (fun act k => ?_)))
  have e1 : act.eval (.tmp s2) = .pointer (some ⟨g, 0 + xs.length * 5, none⟩) := k.at_ s2 _ lk_eq
  have e2 : act.eval (.tmp c) = .agg cs.toArray := k.at_ c _ (by rw [lk_ne n1e]; exact l3)
  refine do_rowLast hrow hrep rfl (fun g' n' c' hv' hn' => ?_) e2 g6 (fun d hd => by obtain ⟨x, _, rfl⟩ := List.mem_map.1 hd; exact treeD_width x) (fun w' hr' hc => ?_)
  ·simp only [Value.slice.injEq, Option.some.injEq, Addr.mk.injEq] at hv'
   obtain ⟨⟨rfl, _, _⟩, _, _⟩ := hv'
   rw [e1, List.length_map, Nat.zero_add]
  ·have hown : (Value.slice (some ⟨g, 0, none⟩) (xs.length + 1) cap).ownBlock = some g := rfl
   have hlw := hrow.low g hown
   have hz := hc.size
   have hlow := hst.low
   have hllb := hst.llb
   have hltb := hst.ltb
   have hl0l := hst.l0l
   have hS : ∀ j, (Value.slice (some ⟨g, 0, none⟩) (xs.length + 1) cap).ownBlock = some j → lo ≤ j := fun j hj => by
    rw [hown] at hj; simp only [Option.some.injEq] at hj; omega
   obtain ⟨c1, hb, hr⟩ := hst.ls
   refine wl_nil (qk_drop ?_ (qk_drop ?_ (qk_drop ?_ (qk_drop ?_ (hq w' T hG ⟨hst.tr.chg hc (fun hj => by have := hS _ hj; omega), ⟨c1, hb.chg hc (fun hj => by have := hS _ hj; omega), Reps.mono (fun q hq' => ⟨hq', hc.block q (by have := hq'.2; omega) (fun hj => by have := hS _ hj; have := hq'.2; omega)⟩) _ _ hr⟩, by rw [List.map_append]; exact hr', hst.ne, hst.ltb, hst.llb, hst.l0l, by omega⟩ hc)))))
   ·refine lk_none_of ?_
    simpa [outS] using g8
   ·refine lk_none_of ?_
    simpa [outS] using g9
   ·refine lk_none_of ?_
    simpa [outS] using g10
   ·exact lk_none_of g11
 ·cases h
end
end Go.Proofs.YtgpnpfiafcakfaaDoor

namespace Go.Proofs.YtgpnpfiafcakfaaDoor
open Go Go.RowKit
structure Ix where
 ix : Nat
 n : Nat
 c : Nat
 p : Nat
 iv : Nat
 u : Nat
 id : Nat
 id3 : Nat
 body : Code
def ixP (N : Nat) (S : List Nat) : Code → Option Ix
 | .block id (.loop (.seq (.region _ ⟨[⟨some c, .binOp .lss _ (.tmp ix) (.tmp n) _, _, _, _, none⟩]⟩ false) (.seq (.cond (.tmp c2) .skip (.exit id2)) (.seq (.block id3 (.seq (.region _ ⟨[⟨some p, .move (.tmp ix2), _, _, _, none⟩, ⟨some iv, .assign (.tmp p2), _, _, _, none⟩]⟩ false) body))
   (.region _ ⟨[⟨some u, .binOp .add _ (.tmp ix3) (.const (.int .i64 1)) _, _, _, _, none⟩, ⟨some ix4, .move (.tmp u2), _, _, _, none⟩]⟩ false))))) =>
  bif Nat.beq c c2 && Nat.beq id id2 && Nat.beq ix ix2 && Nat.beq p p2 && Nat.beq ix ix3 && Nat.beq ix ix4 && Nat.beq u u2 && Nat.blt c N && Nat.blt p N && Nat.blt iv N && Nat.blt u N && Nat.blt ix N &&
   outS (n :: S) ix && outS (ix :: n :: S) c && outS (ix :: n :: S) p && outS (ix :: n :: S) iv && outS (ix :: n :: S) u && outS S n && !Nat.beq iv p then some ⟨ix, n, c, p, iv, u, id, id3, body⟩ else none
 | _ => none
section
variable {P : Program} {Q : Exit → Act → World → Prop} {N : Nat} {L : Sl} {w : World}
theorem ix_ok {c : Code} {q : Ix} (hq : ixP N (L.map (·.1)) c = some q) {len : Nat} (hl63 : len < 9223372036854775807) (I : Nat → World → Prop) (h0 : I 0 w)
  (body : ∀ k w', k < len → I k w' → ∀ (Q' : Exit → Act → World → Prop) (L' : Sl), L' = (q.iv, .int .i64 k) :: (q.ix, .int .i64 k) :: (q.n, .int .i64 len) :: L → (∀ w3, I (k + 1) w3 → QK .normal Q' N L' w3) → WC q.body P Q' N L' w')
  (hend : ∀ w', I len w' → QK .normal Q N L w') : WC c P Q N ((q.ix, .int .i64 0) :: (q.n, .int .i64 len) :: L) w := by
 unfold ixP at hq
 split at hq
 ·rename_i id i1 cc t0 ix n t1 x1 x2 x3 c2 id2 id3 i2 p ix2 y1 y2 y3 iv p2 y4 y5 y6 body' i3 u ty1 ix3 ty2 z4 z5 z6 ix4 u2 z7 z8 z9
  have hq' := bif_cond hq
  obtain ⟨hb, hqe⟩ := hq'
  subst hqe
  simp only [Bool.and_eq_true, Bool.not_eq_true'] at hb
  obtain ⟨⟨⟨⟨⟨⟨⟨⟨⟨⟨⟨⟨⟨⟨⟨⟨⟨⟨b1, b2⟩, b3⟩, b4⟩, b7⟩, b8⟩, b9⟩, n1⟩, n2⟩, n3⟩, n5⟩, n6⟩, o1⟩, o2⟩, o3⟩, o4⟩, o6⟩, o7⟩, m1⟩ := hb
  have := beq_out b1; subst this
  have := beq_out b2; subst this
  have := beq_out b3; subst this
  have := beq_out b4; subst this
  have := beq_out b7; subst this
  have := beq_out b8; subst this
  have := beq_out b9; subst this
  simp only at body
  have hm1 := nb_ne m1
  have k1 : n ≠ ix := outS_ne o1 (by simp)
  have oS : ∀ {d : Nat}, outS (ix :: n :: L.map (·.1)) d = true → ix ≠ d ∧ n ≠ d ∧ lk L d = none := by
   intro d h
   refine ⟨outS_ne h (by simp), outS_ne h (by simp), lk_none_of ?_⟩
   unfold outS at h ⊢
   simp only [List.all_cons, Bool.and_eq_true] at h
   exact h.2.2
  obtain ⟨c_1, c_2, c_4⟩ := oS o2
  obtain ⟨p_1, p_2, p_4⟩ := oS o3
  obtain ⟨v_1, v_2, v_4⟩ := oS o4
  obtain ⟨u_1, u_2, u_4⟩ := oS o6
  have ixL : lk L ix = none := lk_none_of (by unfold outS at o1; simp only [List.all_cons, Bool.and_eq_true] at o1; exact o1.2)
  have nL : lk L n = none := lk_none_of o7
  have lkR : ∀ (k : Nat) (d : Nat), ix ≠ d → n ≠ d → lk L d = none → lk ((ix, Value.int .i64 k) :: (n, .int .i64 len) :: L) d = none := by
   intro k d h1 h2 h4
   rw [lk_ne h1, lk_ne h2, h4]
  refine wc_block (wc_loopK (α := Nat) (fun k => (ix, .int .i64 k) :: (n, .int .i64 len) :: L) (fun k w' => k ≤ len ∧ I k w') (fun k => len - k) 0 (fun a k => k) ⟨Nat.zero_le _, h0⟩ ?_)
  ·rintro k w' ⟨hk, hI⟩
   refine wc_seq (wc_region (l := [_]) (wl_lss (m := (k : Int)) (n := (len : Int)) lk_eq (by simp only [ev]; rw [lk_ne k1.symm, lk_eq]) n1 (wl_nil (qk_thn ?_))))
   by_cases hlt : k < len
   ·refine wc_seq (wc_cond (t := true) (by simp only [ev]; rw [lk_eq]; simp [hlt]) (fun _ => wc_skip (qk_thn ?_)) (fun e => by cases e))
    refine wc_drop (lkR k _ c_1 c_2 c_4) ?_
    refine wc_seq (wc_block (wc_seq (wc_region (l := [_, _]) ?_)))
    refine wl_move (v := .int .i64 k) (by simp only [ev]; rw [lk_eq]) n2 ?_
    refine wl_assign (v := .int .i64 k) (by simp only [ev]; rw [lk_eq]) n3 (wl_nil (qk_thn ?_))
    have main := body k w' hlt hI (Exit.inBlock id3 (Thn P (.region i3 #[⟨some u, .binOp .add ty1 (.tmp ix) (.const (.int .i64 1)) ty2, z4, z5, z6, none⟩, ⟨some ix, .move (.tmp u), z7, z8, z9, none⟩] false) (Exit.then (fun a' w'' => ∃ z : Nat, Kn N a' ((ix, Value.int .i64 (z : Int)) :: (n, .int .i64 len) :: L) ∧ (z ≤ len ∧ I z w'') ∧ len - z < len - k) (Exit.inBlock id Q)))) _ rfl ?_
    ·intro a ka
     refine main a ?_
     refine ka.pick (fun t v e => ?_)
     by_cases e1 : iv = t
     ·subst e1; rw [lk_eq] at e ⊢; exact e
     ·rw [lk_ne e1] at e ⊢
      have e2 : p ≠ t := by rintro rfl; rw [lkR k _ p_1 p_2 p_4] at e; cases e
      rw [lk_ne e2]; exact e
    ·intro w3 hI3
     refine qk_in (qk_thn (wc_drop (lkR k _ v_1 v_2 v_4) (wc_region (l := [_, _]) ?_)))
     refine wl_add (kk := .i64) (m := (k : Int)) (n := 1) (r := ((k + 1 : Nat) : Int)) (by simp only [ev]; rw [lk_eq]) rfl n5 ?_ ?_
     ·rw [IntKind.wrap_i64]; omega
     refine wl_move (v := .int .i64 ((k + 1 : Nat) : Int)) (by simp only [ev]; rw [lk_eq]) n6 (wl_nil (fun a ka => ⟨k + 1, ?_, ⟨by omega, hI3⟩, by omega⟩))
     refine ka.pick (fun t v e => ?_)
     by_cases e1 : ix = t
     ·subst e1; rw [lk_eq] at e ⊢; exact e
     ·rw [lk_ne e1] at e ⊢
      have e2 : u ≠ t := by rintro rfl; rw [lk_ne u_2, u_4] at e; cases e
      rw [lk_ne e2, lk_ne e1]; exact e
   ·refine wc_seq (wc_cond (t := false) (by simp only [ev]; rw [lk_eq]; simp [hlt]) (fun e => by cases e) (fun _ => ?_))
    have : k = len := by omega
    subst this
    refine wc_exit (qk_thn_exit (qk_round_exit (qk_in_exit (fun a ka => hend w' hI a (ka.pick (fun t v e => ?_))))))
    by_cases e1 : cc = t
    ·subst e1; rw [c_4] at e; cases e
    rw [lk_ne e1]
    by_cases e2 : ix = t
    ·subst e2; rw [ixL] at e; cases e
    rw [lk_ne e2]
    by_cases e3 : n = t
    ·subst e3; rw [nL] at e; cases e
    rw [lk_ne e3]; exact e
 ·cases hq
end
end Go.Proofs.YtgpnpfiafcakfaaDoor

namespace Go.Proofs.YtgpnpfiafcakfaaDoor
open Go Go.RowKit
def tElemR (P : Program) (K : Tk) (N : Nat) (S : List Nat) (vs tt iv off n i sz : Nat) (kind : Int) (sub : List Fld) : Code → Bool
 | .seq (.region _ ⟨o1⟩ true) (.cond (.tmp s) (.seq (.region _ ⟨oA⟩ flA) (.region _ ⟨oA2⟩ false)) (.region _ ⟨oB⟩ flB)) =>
  match choiceR P N S o1, oA2 with
  | some d, [⟨some s1, .indexAddr t (.tmp sv) (.tmp sl), y1, y2, y3, none⟩, ⟨none, .store t2 (.tmp s2) (.tmp se), z1, z2, z3, none⟩] => Nat.beq d s && outS S d && bodyAR P K flA N (d :: S) vs tt iv off n i sz kind sub sv sl se oA &&
   putR P N (d :: S) sv sl se [⟨some s1, .indexAddr t (.tmp sv) (.tmp sl), y1, y2, y3, none⟩, ⟨none, .store t2 (.tmp s2) (.tmp se), z1, z2, z3, none⟩] && bodyBR P K flB N (d :: S) vs tt iv off n i sz kind sub oB && !Nat.beq d vs && !Nat.beq d tt && !Nat.beq d iv
  | _, _ => false
 | _ => false
theorem tellV_width {kind nul : Int} {d : D} {T : Tree} (h : TellV kind nul d T) (h7 : kind ≠ 7) : d.width = 1 := by
 unfold TellV at h
 by_cases h0 : kind = 0
 ·simp only [h0, if_true] at h
  obtain ⟨b, rfl, _⟩ := h; rfl
 simp only [h0, h7, if_false] at h
 by_cases h8 : kind = 8
 ·simp only [h8, if_true] at h
  by_cases hn : 0 ≤ nul
  ·simp only [hn, if_true] at h
   rcases h with ⟨rfl, _⟩ | ⟨s, rfl, _⟩ <;> rfl
  ·simp only [hn, if_false] at h
   obtain ⟨s, rfl, _⟩ := h; rfl
 simp only [h8, if_false] at h
 by_cases h9 : kind = 9
 ·simp only [h9, if_true] at h
  obtain ⟨s, b, _, rfl | ⟨rfl, _⟩⟩ := h <;> rfl
 simp only [h9, if_false] at h
 cases hk : kindInt kind with
 | some k => rw [hk] at h; obtain ⟨n, rfl, _⟩ := h; rfl
 | none => rw [hk] at h; obtain ⟨n, rfl, _⟩ := h; rfl
section
variable {P : Program} {K : Tk} {tg : Bool} {Q : Exit → Act → World → Prop} {N : Nat} {L : Sl} {w : World}
theorem tElem_ok (hK : TkOk P K tg) (hm : P.follows .mixedOrders = true) {c0 : Code} {vs tt iv off n m sb so tb lb l0 lo B sz : Nat} {kind : Int} {sub : List Fld} {e : TypeId} {uv c d : Value} {Ts xs : List Tree} {b : Bool} {dd : D} {els : List D} {el : D}
  (h : tElemR P K N (L.map (·.1)) vs tt iv off n Ts.length sz kind sub c0 = true) (hvs : lk L vs = some (.pointer (some ⟨sb, so, none⟩))) (htt : lk L tt = some (.pointer (some ⟨tb, 0, none⟩))) (hix : lk L iv = some (.int .i64 xs.length))
  (hst : LSt l0 lo tb lb n uv K.tT e w Ts m b d xs) (hs : LSrc B sb (so + off) tg kind sub w dd c els) (hsz : ∀ e ∈ els, e.width = sz) (h0 : 0 < sz) (hel : els[xs.length]? = some el) (hBt : B ≤ tb) (hBl : B ≤ lb) (hlen : xs.length + 1 ≤ many)
  (hq : ∀ w' T v, TellE tg kind sub el T → LSt l0 lo tb lb n uv K.tT e w' Ts m b v (xs ++ [T]) → Chg (fun j => j = lb ∨ lo ≤ j) w w' → QK .normal Q N L w') : WC c0 P Q N L w := by
 unfold tElemR at h
 split at h
 ·rename_i i1 o1 s i2 oA flA i3 oA2 i4 oB flB
  split at h
  ·rename_i d1 s1 t sv sl y1 y2 y3 t2 s2 se z1 z2 z3 hch
   simp only [Bool.and_eq_true, Bool.not_eq_true'] at h
   obtain ⟨⟨⟨⟨⟨⟨⟨g1, g2⟩, g3⟩, g4⟩, g5⟩, g6⟩, g7⟩, g8⟩ := h
   have := beq_out g1; subst this
   have nvs := nb_ne g6
   have ntt := nb_ne g7
   have niv := nb_ne g8
   have hdL : lk L d1 = none := lk_none_of g2
   refine wc_seq (choice_ok hm hch (fun bb w1 hc1 => qk_thn ?_))
   have hlw := hst.low
   have hst1 : LSt l0 lo tb lb n uv K.tT e w1 Ts m b d xs := by
    obtain ⟨c1, hb, hr⟩ := hst.ls
    have hz := hc1.size
    exact ⟨hst.tr.chg hc1 (fun h => h), ⟨c1, hb.chg hc1 (fun h => h), Reps.mono (fun q hq' => ⟨hq', hc1.block q (by have := hq'.2; omega) (fun h => h)⟩) _ _ hr⟩, hst.row.below ⟨hc1.os, hc1.tape, hc1.output, hc1.size, fun j hj => hc1.block j hj (fun h => h)⟩, hst.ne, hst.ltb, hst.llb, hst.l0l, by omega⟩
   have hs1 := hs.up hc1 (fun _ h => h.elim)
   obtain ⟨eb, ro, cp, cs, hc, hcl, hat, ds, hds, hsrc⟩ := hs1.elem hsz hel
   obtain ⟨ec, cr, rfl⟩ : ∃ ec cr, cs = ec :: cr := by
    cases cs with
    | nil => simp at hcl; omega
    | cons x r => exact ⟨x, r, rfl⟩
   have hkl : xs.length < els.length := (List.getElem?_eq_some_iff.1 hel).1
   obtain ⟨x0, hx0⟩ := hs1.tell el (by have := (List.getElem?_eq_some_iff.1 hel).2; rw [← this]; exact List.getElem_mem _)
   have hS1 : TSrc B eb (ro + xs.length * sz) tg kind (-1) sub w1 ds ec (ec :: cr) := by
    refine hsrc ec (fun h10 h7 => ?_)
    unfold TellE at hx0
    simp only [h10, if_false] at hx0
    have hw1 := tellV_width hx0 h7
    have : sz = 1 := by rw [← hsz el (by have := (List.getElem?_eq_some_iff.1 hel).2; rw [← this]; exact List.getElem_mem _)]; exact hw1
    rw [this] at hcl
    have : cr = [] := by cases cr with | nil => rfl | cons _ _ => simp at hcl
    rw [this]
   have hTE : ∀ T, TellX tg kind (-1) sub ds T → TellE tg kind sub el T := by
    intro T hT
    unfold TellX at hT
    unfold TellE
    by_cases h10 : kind = 10
    ·simp only [h10, if_true] at hT hds ⊢
     exact ⟨ds, hds, hT⟩
    ·simp only [h10, if_false] at hT hds ⊢
     obtain ⟨d', hd', hT⟩ := hT
     rw [hds] at hd'
     simp only [List.cons.injEq, and_true] at hd'
     rw [hd']; exact hT
   have hW : RuW ⟨tb, lb, n, sb, so, d, c, xs.length, eb, ro + xs.length * sz, ec⟩ uv K.tT off sz w1 := by
    refine ⟨hst1.tr, ?_, ⟨ro, els.length, cp, hc, hkl, rfl⟩, ?_, ?_⟩
    ·have := hs1.at_.cell (i := 0) (v := c) rfl; simpa using this
    ·have := hat.cell (i := 0) (v := ec) rfl; simpa using this
    ·obtain ⟨a1, n1, hd⟩ := hst1.row.shape; exact ⟨a1, _, n1, hd⟩
   have hvs' : lk ((d1, Value.bool bb) :: L) vs = some (.pointer (some ⟨sb, so, none⟩)) := by rw [lk_ne nvs]; exact hvs
   have htt' : lk ((d1, Value.bool bb) :: L) tt = some (.pointer (some ⟨tb, 0, none⟩)) := by rw [lk_ne ntt]; exact htt
   have hix' : lk ((d1, Value.bool bb) :: L) iv = some (.int .i64 xs.length) := by rw [lk_ne niv]; exact hix
   have hsbB := hs.lt
   refine wc_cond (t := bb) (by simp only [ev]; rw [lk_eq]) (fun hbb => ?_) (fun hbb => ?_)
   ·refine wc_seq (bodyA_ok (u := ⟨tb, lb, n, sb, so, d, c, xs.length, eb, ro + xs.length * sz, ec⟩) hK hm g3 hvs' htt' hix' hst1 hS1 hW hsbB hBt hBl hlen (fun w2 v ev hev hL hc2 => qk_thn ?_))
    refine put_ok (G := TellX tg kind (-1) sub ds) g4 hL hev (fun w3 T hG hL3 hc3 => qk_drop hdL (hq w3 T v (hTE T hG) hL3 ?_))
    have hdl := hst1.row.low
    have hvl := hL.row.low
    exact ((hc1.wide (fun _ h => h.elim)).trans (hc2.wide (fun j h => h.imp (fun h => h) (fun h => (hdl j h).1)))).trans (hc3.wide (fun j h => .inr (hvl j h).1))
   ·refine bodyB_ok (u := ⟨tb, lb, n, sb, so, d, c, xs.length, eb, ro + xs.length * sz, ec⟩) hK hm g5 hvs' htt' hix' hst1 hS1 hW hsbB hBt hBl hlen (fun w2 T v hG hL hc2 => qk_drop hdL (hq w2 T v (hTE T hG) hL ((hc1.wide (fun _ h => h.elim)).trans hc2)))
  ·cases h
 ·cases h
end
end Go.Proofs.YtgpnpfiafcakfaaDoor

namespace Go.Proofs.YtgpnpfiafcakfaaDoor
open Go Go.RowKit
def isLenC (P : Program) (e : Operand → Option Rt) : Op → Bool
 | .call ⟨.builtin .len, ⟨[x]⟩, ⟨[t]⟩⟩ => isCel (e x) && (elemSize P t).isSome
 | _ => false
def isZeroO : Op → Bool
 | .move (.const (.int .i64 0)) => true
 | _ => false
def lHeadR (P : Program) (K : Tk) (N : Nat) (S : List Nat) (vs tt off n nn ix : Nat) (ops : List Oper) : Bool :=
 let r := fun j => rtAt P K.tT false ops vs tt off n 30 j
 let e := fun j => opT false ops vs tt r j
 regOk false N S ops && (List.range ops.length).all (fun j => fitsL (r j) || ((r j).isNone && (opAt ops j isZeroO || opAt ops j (isLenC P (e j))))) &&
 atSlot ops nn (fun j => (r j).isNone && !opAt ops j isZeroO) && atSlot ops ix (fun j => (r j).isNone && opAt ops j isZeroO)
section
variable {P : Program} {K : Tk} {Q : Exit → Act → World → Prop} {N : Nat} {L : Sl} {w : World}
theorem lHead_ok (hT : TTy P K.tT) (hm : P.follows .mixedOrders = true) {id : Nat} {ops : List Oper} {vs tt off n nn ix sb so tb lb : Nat} {uv c : Value} {ca : Option Addr} {len cn : Nat} (h : lHeadR P K N (L.map (·.1)) vs tt off n nn ix ops = true)
  (hvs : lk L vs = some (.pointer (some ⟨sb, so, none⟩))) (htt : lk L tt = some (.pointer (some ⟨tb, 0, none⟩))) (hW : ∀ w', Chg (fun _ => False) w w' → RtW tb lb n sb so off c uv K.tT w') (hcs : c = .slice ca len cn)
  (hq : ∀ w', Chg (fun _ => False) w w' → QK .normal Q N ((ix, .int .i64 0) :: (nn, .int .i64 len) :: L) w') : WC (.region id ops.toArray false) P Q N L w := by
 unfold lHeadR at h
 simp only [Bool.and_eq_true] at h
 obtain ⟨⟨⟨g1, g2⟩, g3⟩, g4⟩ := h
 obtain ⟨r, hr⟩ : ∃ r : Nat → Option Rt, r = fun j => rtAt P K.tT false ops vs tt off n 30 j := ⟨_, rfl⟩
 have hmono : ∀ i rr, rtAt P K.tT false ops vs tt off n 29 i = some rr → r i = some rr := fun i rr hh => by rw [hr]; exact rtAt_mono 29 i rr hh
 let rv : Nat → Value := fun j => match r j with | some q => q.v tb lb n sb so off c | none => if opAt ops j isZeroO then .int .i64 0 else .int .i64 len
 have rdEv : ∀ {i : Nat} {a : Act}, Kn N a L → (∀ j ∈ prs false ops i, j ∉ ([] : List Nat) → ∀ dd, dstOf ops j = some dd → gt a dd = rv j) → ∀ y rr, opT false ops vs tt r i y = some rr → a.eval y = rr.v tb lb n sb so off c := by
  intro i a k hf y rr hy
  refine opT_ok k hvs htt (fun j hj dd hdd q hq => ?_) y rr hy
  have := hf j hj (by simp) dd hdd
  simp only [rv] at this
  rw [hq] at this; exact this
 refine wc_reg (fl := false) [] rv (fun _ w' => Chg (fun _ => False) w w') g1 hm rfl (Chg.refl _ _) (chg_drew _ _) ?_ ?_ ?_
 ·intro j o ho _ dn w' hC _ a k hf
  have hjl := (List.getElem?_eq_some_iff.1 ho).1
  have hall := List.all_eq_true.1 g2 j (List.mem_range.2 hjl)
  rw [Bool.or_eq_true] at hall
  simp only [rv]
  cases hrj : r j with
  | some rr =>
   simp only []
   have hrr2 := hrj
   rw [hr] at hrr2
   simp only at hrr2
   have hfit : fitsL (some rr) = true := by
    rcases hall with h | h
    ·rw [hrr2] at h; exact h
    ·rw [Bool.and_eq_true] at h; rw [hrr2] at h; cases h.1
   unfold rtAt at hrr2
   rw [ho] at hrr2
   simp only at hrr2
   refine rolT_ok hT (hW w' hC) (e := opT false ops vs tt (rtAt P K.tT false ops vs tt off n 29) j) (fun y q hy => rdEv k hf y q (opT_mono hmono y q hy)) hrr2 ?_ ?_ ?_
   ·rintro k' rfl; cases hfit
   ·rintro rfl; cases hfit
   ·rintro rfl; exact ⟨ca, len, cn, hcs⟩
  | none =>
   simp only []
   have hno : fitsL (rtAt P K.tT false ops vs tt off n 30 j) = false := by
    rw [hr] at hrj; simp only [] at hrj; rw [hrj]; rfl
   rw [hno] at hall
   simp only [Bool.false_eq_true, false_or, Bool.and_eq_true, Bool.or_eq_true] at hall
   obtain ⟨_, hz⟩ := hall
   cases hz0 : opAt ops j isZeroO with
   | true =>
    simp only [if_true]
    obtain ⟨o2, ho2, h2⟩ := opAt_out hz0
    rw [ho] at ho2; cases ho2
    unfold isZeroO at h2
    split at h2
    ·rename_i hop; exact ro_move (P := P) (a := a) (w := w') hop
    ·cases h2
   | false =>
    simp only [Bool.false_eq_true, if_false]
    have hl := hz.resolve_left (by rw [hz0]; decide)
    obtain ⟨o2, ho2, h2⟩ := opAt_out hl
    rw [ho] at ho2; cases ho2
    unfold isLenC at h2
    split at h2
    ·rename_i x t hop
     rw [Bool.and_eq_true] at h2
     have hx : a.eval x = c := by
      have h21 := h2.1
      unfold isCel at h21
      split at h21
      ·rename_i hx'; exact rdEv k hf x .cel (by rw [hr]; exact hx')
      ·cases h21
     exact ro_len hop (by rw [hx, hcs]) h2.2
    ·cases h2
 ·intro i o ho hi; cases hi
 ·intro dn w' hC _ a k hf _
  obtain ⟨j1, hj1, hb1⟩ := atSlot_out g3
  obtain ⟨j2, hj2, hb2⟩ := atSlot_out g4
  simp only [Bool.and_eq_true, Option.isNone_iff_eq_none, Bool.not_eq_true'] at hb1 hb2
  have f1 := hf j1 (by simp) nn hj1
  have f2 := hf j2 (by simp) ix hj2
  have e1 : r j1 = none := by rw [hr]; exact hb1.1
  have e2 : r j2 = none := by rw [hr]; exact hb2.1
  simp only [rv, e1, hb1.2, Bool.false_eq_true, if_false] at f1
  simp only [rv, e2, hb2.2, if_true] at f2
  exact hq w' hC a ((k.with f1).with f2)
end
end Go.Proofs.YtgpnpfiafcakfaaDoor

namespace Go.Proofs.YtgpnpfiafcakfaaDoor
open Go Go.RowKit
def tListR (P : Program) (K : Tk) (N : Nat) (S : List Nat) (vs tt off n i sz : Nat) (kind : Int) (sub : List Fld) : Code → Code → Bool
 | .region _ ⟨o1⟩ fl, .seq (.region _ ⟨o2⟩ false) blk => flgR P K fl N S vs tt off n i o1 && (match ixP N S blk with
  | some q => lHeadR P K N S vs tt off n q.n q.ix o2 && tElemR P K N (q.iv :: q.ix :: q.n :: S) vs tt q.iv off n i sz kind sub q.body && !Nat.beq q.iv vs && !Nat.beq q.ix vs && !Nat.beq q.n vs && !Nat.beq q.iv tt && !Nat.beq q.ix tt && !Nat.beq q.n tt && Nat.blt 0 sz
  | none => false)
 | _, _ => false
section
variable {P : Program} {K : Tk} {tg : Bool} {Q : Exit → Act → World → Prop} {N : Nat} {L : Sl} {w : World}
theorem tList_ok (hK : TkOk P K tg) (hm : P.follows .mixedOrders = true) {x1 x2 : Code} {vs tt off n m sb so tb lb l0 B sz : Nat} {kind : Int} {sub : List Fld} {e : TypeId} {uv c : Value} {Ts : List Tree} {dd : D} {els : List D}
  (h : tListR P K N (L.map (·.1)) vs tt off n Ts.length sz kind sub x1 x2 = true) (hvs : lk L vs = some (.pointer (some ⟨sb, so, none⟩))) (htt : lk L tt = some (.pointer (some ⟨tb, 0, none⟩)))
  (hst : TSt l0 tb lb n uv K.tT e w Ts (m + 1)) (hs : LSrc B sb (so + off) tg kind sub w dd c els) (hsz : ∀ e ∈ els, e.width = sz) (hmany : els.length ≤ many) (hBt : B ≤ tb) (hBl : B ≤ lb)
  (hq : ∀ w' xs, xs.length = els.length → (∀ (i : Nat) (el : D) (x : Tree), els[i]? = some el → xs[i]? = some x → TellE tg kind sub el x) → TSt l0 tb lb n uv K.tT e w' (Ts ++ [.mk 0 [] (isNilV c) xs []]) m → Chg (· = lb) w w' → QK .normal Q N L w') :
  WC x1 P (Thn P x2 Q) N L w := by
 unfold tListR at h
 split at h
 ·rename_i i1 o1 fl i2 o2 blk
  rw [Bool.and_eq_true] at h
  obtain ⟨h1, h⟩ := h
  split at h
  ·rename_i q hqx
   simp only [Bool.and_eq_true, Bool.not_eq_true'] at h
   obtain ⟨⟨⟨⟨⟨⟨⟨⟨h2, h3⟩, n1⟩, n2⟩, n3⟩, n4⟩, n5⟩, n6⟩, h0⟩ := h
   have n1 := nb_ne n1; have n2 := nb_ne n2; have n3 := nb_ne n3; have n4 := nb_ne n4; have n5 := nb_ne n5; have n6 := nb_ne n6
   have h0 : 0 < sz := Nat.le_of_ble_eq_true h0
   obtain ⟨ca, cn, hcs, _⟩ := hs.shape
   have hsbB := hs.lt
   refine flg_ok hK.ty hm h1 hvs htt hst hs hBt hBl (fun w1 hL1 hc1 => qk_thn (wc_seq ?_))
   have hs1 := hs.up hc1 (fun j hj => by have e' : j = lb := hj; omega)
   have hlow1 := hL1.low
   have hltb := hL1.ltb
   have hllb := hL1.llb
   have hl0l := hL1.l0l
   refine lHead_ok (c := c) (ca := ca) (cn := cn) (len := els.length) hK.ty hm h2 hvs htt (fun w' hc => ⟨hL1.tr.chg hc (fun h => h), by have := (hs1.up hc (fun _ h => h.elim)).at_.cell (i := 0) (v := c) rfl; simpa using this⟩) hcs (fun w2 hc2 => qk_thn ?_)
   have hz12 := hc2.size
   have hL2 : LSt l0 w1.heap.size tb lb n uv K.tT e w2 Ts m (isNilV c) (.slice none 0 0) [] := by
    obtain ⟨c1, hb, hr⟩ := hL1.ls
    exact ⟨hL1.tr.chg hc2 (fun h => h), ⟨c1, hb.chg hc2 (fun h => h), Reps.mono (fun q hq' => ⟨hq', hc2.block q hq'.2 (fun h => h)⟩) _ _ hr⟩, RowD.nil 0 _ lb K.tT 5 w2, hL1.ne, hL1.ltb, hL1.llb, hL1.l0l, hz12⟩
   have hs2 := hs1.up hc2 (fun _ h => h.elim)
   have hBw := hs.Bw
   have hz01 := hc1.size
   refine ix_ok hqx (len := els.length) (by simp only [many] at hmany; omega) (fun k w' => ∃ d xs, LSt l0 w1.heap.size tb lb n uv K.tT e w' Ts m (isNilV c) d xs ∧ xs.length = k ∧ (∀ (i : Nat) (el : D) (x : Tree), els[i]? = some el → xs[i]? = some x → TellE tg kind sub el x) ∧ Chg (fun j => j = lb ∨ w1.heap.size ≤ j) w2 w')
    ⟨_, [], hL2, rfl, fun i el x _ hx => by simp at hx, Chg.refl _ _⟩ ?_ ?_
   ·rintro k w' hk ⟨d, xs, hL, rfl, hT, hc⟩ Q' L' rfl hnext
    have hs' := hs2.up hc (fun j hj => by rcases hj with hj | hj <;> omega)
    have hel : els[xs.length]? = some els[xs.length] := List.getElem?_eq_getElem hk
    refine tElem_ok hK hm h3 (by rw [lk_ne n1, lk_ne n2, lk_ne n3]; exact hvs) (by rw [lk_ne n4, lk_ne n5, lk_ne n6]; exact htt) lk_eq hL hs' hsz h0 hel hBt hBl (by omega) (fun w3 T v hTE hL3 hc3 => hnext w3 ⟨v, xs ++ [T], hL3, by simp, fun i el x hi hx => ?_, hc.trans hc3⟩)
    by_cases hil : i < xs.length
    ·rw [List.getElem?_append_left hil] at hx
     exact hT i el x hi hx
    ·have hie : i = xs.length := by
      have := (List.getElem?_eq_some_iff.1 hx).1
      simp at this; omega
     subst hie
     rw [List.getElem?_append_right (Nat.le_refl _)] at hx
     simp at hx
     rw [hel] at hi
     cases hi
     rw [← hx]; exact hTE
   ·rintro w' ⟨d, xs, hL, hxl, hT, hc⟩
    refine hq w' xs hxl hT hL.done ?_
    have hz := hc.size
    refine ⟨hc.os.trans (hc2.os.trans hc1.os), hc.tape.trans (hc2.tape.trans hc1.tape), hc.output.trans (hc2.output.trans hc1.output), by omega, fun j hj hn => ?_⟩
    rw [hc.block j (by omega) (by rintro (e | e); exact hn e; omega), hc2.block j (by omega) (fun h => h), hc1.block j hj hn]
  ·cases h
 ·cases h
end
end Go.Proofs.YtgpnpfiafcakfaaDoor

namespace Go.Proofs.YtgpnpfiafcakfaaDoor
open Go Go.RowKit
mutual
def noPt : Fld → Bool
 | .mk kind _ _ nul _ _ _ sub => (!decide (kind = 10) || decide (nul < 0)) && noPts sub
def noPts : List Fld → Bool
 | [] => true
 | f :: fs => noPt f && noPts fs
end
def ziV (kind nul df : Int) : List Value :=
 if kind = 0 then [.bool (decide (df = 1))] else if kind = 1 then [.int .i8 (IntKind.i8.wrap df)] else if kind = 2 then [.int .i16 (IntKind.i16.wrap df)] else if kind = 3 then [.int .i32 (IntKind.i32.wrap df)] else if kind = 5 then [.int .u16 (IntKind.u16.wrap df)]
 else if kind = 7 then List.replicate 16 (.int .u8 0) else if kind = 8 then (if 0 ≤ nul then [.pointer none] else [strV []]) else if kind = 9 then [.slice none 0 0] else [.int .i64 (IntKind.i64.wrap df)]
def defV (kind nul df : Int) : D :=
 if kind = 0 then .lit (.bool (decide (df = 1))) else if kind = 1 then .lit (.int .i8 (IntKind.i8.wrap df)) else if kind = 2 then .lit (.int .i16 (IntKind.i16.wrap df)) else if kind = 3 then .lit (.int .i32 (IntKind.i32.wrap df)) else if kind = 5 then .lit (.int .u16 (IntKind.u16.wrap df))
 else if kind = 7 then .agg ((List.replicate 16 (0 : UInt8)).map byteD) else if kind = 8 then (if 0 ≤ nul then .lit (.pointer none) else .lit (strV [])) else if kind = 9 then .sl true [] else .lit (.int .i64 (IntKind.i64.wrap df))
mutual
def ziF (tg : Bool) : Fld → List Value
 | .mk kind _ _ nul _ df _ sub => if kind = 11 then [.slice none 0 0] else if kind = 10 then ziFs tg sub ++ (if tg then [.map none] else []) else ziV kind nul df
def ziFs (tg : Bool) : List Fld → List Value
 | [] => []
 | f :: fs => ziF tg f ++ ziFs tg fs
end
mutual
def dfF (tg : Bool) : Fld → List D
 | .mk kind _ _ nul _ df _ sub => if kind = 11 then [.sl true []] else if kind = 10 then dfFs tg sub ++ (if tg then [tagsK []] else []) else [defV kind nul df]
def dfFs (tg : Bool) : List Fld → List D
 | [] => []
 | f :: fs => dfF tg f ++ dfFs tg fs
end
theorem imp_nilSl : Imp [.lit (.slice none 0 0)] [.sl true []] := by
 refine Imp.one (fun ok w cs h => ?_)
 simp only [Rep] at h ⊢
 exact ⟨none, 0, h, Nat.le_refl _, fun _ => by simp, fun h => by cases h⟩
theorem imp_nilMp : Imp [.lit (.map none)] [tagsK []] := by
 refine Imp.one (fun ok w cs h => ?_)
 simp only [tagsK, List.map_nil, Rep] at h ⊢
 exact .inl ⟨h, by simp⟩
end Go.Proofs.YtgpnpfiafcakfaaDoor

namespace Go.Proofs.YtgpnpfiafcakfaaDoor
open Go Go.RowKit
theorem tellV_widthV {kind nul : Int} {d : D} {T : Tree} (h : TellV kind nul d T) (h10 : kind ≠ 10) : d.width = (shV kind nul).length := by
 by_cases h7 : kind = 7
 ·subst h7
  simp only [TellV] at h
  simp at h
  obtain ⟨s, hs, rfl, _⟩ := h
  simp only [D.width, shV]
  simp
  rw [← shs_width, shDs_bytes, List.length_replicate]; exact hs
 ·rw [tellV_width h h7]
  unfold shV
  repeat' split
  all_goals first | rfl | (exfalso; omega)
theorem widths_tags (tg : Bool) (u : List (Nat × List UInt8)) : D.widths (TellTags tg u) = (if tg then [Ck.mp] else []).length := by
 rw [tellTags_width]; cases tg <;> rfl
mutual
theorem TellF.wide {tg : Bool} : ∀ {f : Fld} {ds : List D} {T : Tree}, noPt f = true → TellF tg f ds T → D.widths ds = (shF tg f).length
 | .mk kind fr upto nul tag df of sub, ds, T, hn, h => by
  simp only [noPt, Bool.and_eq_true, Bool.or_eq_true, Bool.not_eq_true', decide_eq_true_eq, decide_eq_false_iff_not] at hn
  simp only [TellF] at h
  by_cases h11 : kind = 11
  ·simp only [h11, if_true] at h
   obtain ⟨d, els, rfl, _, hd, _⟩ := h
   rcases hd with rfl | ⟨rfl, _⟩ <;> simp [shF, h11, D.widths, D.width]
  ·simp only [h11, if_false] at h
   by_cases h10 : kind = 10
   ·simp only [h10, if_true] at h
    obtain ⟨a, u, rfl, _, _, hs⟩ := h
    have hnn : ¬ 0 ≤ nul := by have := hn.1; omega
    rw [widths_append, TellFs.wide hn.2 hs, widths_tags]
    simp [shF, h10, hnn]
   ·simp only [h10, if_false] at h
    obtain ⟨d, rfl, hv⟩ := h
    simp only [D.widths, Nat.add_zero, shF, h11, h10, if_false]
    exact tellV_widthV hv h10
theorem TellFs.wide {tg : Bool} : ∀ {fs : List Fld} {ds : List D} {l : List Tree}, noPts fs = true → TellFs tg fs ds l → D.widths ds = (shFs tg fs).length
 | [], ds, l, _, h => by simp only [TellFs] at h; obtain ⟨rfl, _⟩ := h; rfl
 | f :: fs, ds, l, hn, h => by
  simp only [noPts, Bool.and_eq_true] at hn
  simp only [TellFs] at h
  obtain ⟨a, b, x, r, rfl, _, h1, h2⟩ := h
  rw [widths_append, TellF.wide hn.1 h1, TellFs.wide hn.2 h2]
  simp [shFs]
end
theorem TellP.wide {tg : Bool} {fs : List Fld} {ds : List D} {T : Tree} (hn : noPts fs = true) (h : TellP tg fs ds T) : D.widths ds = (shP tg fs).length := by
 obtain ⟨a, u, rfl, _, _, hs⟩ := h
 rw [widths_append, TellFs.wide hn hs, widths_tags]
 simp [shP]
theorem TellE.wide {tg : Bool} {kind : Int} {sub : List Fld} {e : D} {x : Tree} (hn : noPts sub = true) (h : TellE tg kind sub e x) : e.width = (shE tg kind sub).length := by
 unfold TellE at h
 by_cases h10 : kind = 10
 ·simp only [h10, if_true] at h
  obtain ⟨ps, rfl, h⟩ := h
  simp only [D.width, shE, h10, if_true]
  exact TellP.wide hn h
 ·simp only [h10, if_false] at h
  simp only [shE, h10, if_false]
  exact tellV_widthV h h10
def tFs (P : Program) (K : Tk) (N : Nat) (S : List Nat) (tg : Bool) (vs tt n : Nat) : List Fld → Nat → Nat → Code → Option Code
 | [], _, i, c => bif Nat.beq i n then some c else none
 | .mk kind _ _ nul _ _ of sub :: fs, off, i, .seq a r =>
  if kind = 11 then (match r with
   | .seq b r2 => bif tListR P K N S vs tt off n i (shE tg of sub).length of sub a b then tFs P K N S tg vs tt n fs (off + 1) (i + 1) r2 else none
   | _ => none)
  else (match a with
   | .region _ ⟨ops⟩ fl => bif Nat.blt 0 (if kind = 10 then (shP tg sub).length else (shV kind nul).length) && sclR P K fl N S vs tt off n i kind nul sub ops then tFs P K N S tg vs tt n fs (off + (if kind = 10 then (shP tg sub).length else (shV kind nul).length)) (i + 1) r else none
   | _ => none)
 | _, _, _, _ => none
section
variable {P : Program} {K : Tk} {tg : Bool} {Q : Exit → Act → World → Prop} {N : Nat} {L : Sl} {w : World}
theorem wc_thn2 {x y z : Code} (h : WC x P (Thn P y (Thn P z Q)) N L w) : WC x P (Thn P (.seq y z) Q) N L w := by
 intro a k
 refine wp_mono (h a k) (fun e a' w' hq => ?_)
 cases e with
 | normal => exact wp_seq hq
 | _ => exact hq
theorem tFs_ok (hK : TkOk P K tg) (hm : P.follows .mixedOrders = true) {vs tt n sb so tb lb l0 B : Nat} {e : TypeId} {uv : Value} (hBt : B ≤ tb) (hBl : B ≤ lb) (hsb : sb < B) (hvs : lk L vs = some (.pointer (some ⟨sb, so, none⟩))) (htt : lk L tt = some (.pointer (some ⟨tb, 0, none⟩))) :
  ∀ (fs : List Fld) (c c' : Code) (off : Nat) (Ts : List Tree) (w : World) (ds : List D) (cs : List Value), tFs P K N (L.map (·.1)) tg vs tt n fs off Ts.length c = some c' → noPts fs = true → TSt l0 tb lb n uv K.tT e w Ts fs.length → CellsAt w sb (so + off) cs → Reps (Lo B) w ds cs → B ≤ w.heap.size → (∃ l, TellFs tg fs ds l) →
   (∀ w' xs, TellFs tg fs ds xs → TSt l0 tb lb n uv K.tT e w' (Ts ++ xs) 0 → (Ts ++ xs).length = n → Chg (· = lb) w w' → WC c' P Q N L w') → WC c P Q N L w
 | [], c, c', off, Ts, w, ds, cs, h, _, hst, _, _, _, hT, hq => by
  simp only [tFs] at h
  obtain ⟨hb, rfl⟩ := bif_cond h
  have hn := beq_out hb
  obtain ⟨l, hl⟩ := hT
  simp only [TellFs] at hl
  obtain ⟨rfl, rfl⟩ := hl
  exact hq w [] (by simp [TellFs]) (by simpa using hst) (by simpa using hn) (Chg.refl _ _)
 | .mk kind fr upto nul tag df of sub :: fs, c, c', off, Ts, w, ds, cs, h, hno, hst, hat, hr, hBw, hT, hq => by
  simp only [noPts, Bool.and_eq_true] at hno
  obtain ⟨hno1, hno2⟩ := hno
  obtain ⟨l, hl⟩ := hT
  simp only [TellFs] at hl
  obtain ⟨a, b, x, r, rfl, rfl, hx, hrest⟩ := hl
  rw [Reps.app] at hr
  obtain ⟨c1, c2, rfl, hr1, hr2⟩ := hr
  have hw1 : c1.length = (shF tg (.mk kind fr upto nul tag df of sub)).length := by rw [Reps.len _ _ hr1]; exact TellF.wide hno1 hx
  have hnp : noPts sub = true := by simp only [noPt, Bool.and_eq_true] at hno1; exact hno1.2
  cases c with
  | seq ca cr =>
   simp only [tFs] at h
   have step : ∀ (k : Nat) (cr' : Code) (w' : World) (T : Tree), tFs P K N (L.map (·.1)) tg vs tt n fs (off + k) (Ts.length + 1) cr' = some c' → k = (shF tg (.mk kind fr upto nul tag df of sub)).length → TellF tg (.mk kind fr upto nul tag df of sub) a T → TSt l0 tb lb n uv K.tT e w' (Ts ++ [T]) fs.length → Chg (· = lb) w w' → WC cr' P Q N L w' := by
    intro k cr' w' T h' hk hTT hst' hc
    have hBs : ∀ j, j < B → ¬ j = lb := fun j hj e => by omega
    refine tFs_ok hK hm hBt hBl hsb hvs htt fs cr' c' (off + k) (Ts ++ [T]) w' b c2 (by simpa using h') hno2 hst' ?_ (Reps.mono (fun q hq' => ⟨hq', hc.block q (by have h3 : q < B := hq'; omega) (hBs q hq')⟩) _ _ hr2) (Nat.le_trans hBw hc.size) ⟨r, hrest⟩ (fun w2 xs hxs hst2 hl2 hc2 => ?_)
    ·have := hat.right
     rw [hw1, ← hk, Nat.add_assoc] at this
     exact this.chg hc (by omega)
    ·refine hq w2 (T :: xs) ?_ (by simpa using hst2) (by simpa using hl2) (hc.trans hc2)
     simp only [TellFs]
     exact ⟨a, b, T, xs, rfl, rfl, hTT, hxs⟩
   by_cases h11 : kind = 11
   ·subst h11
    simp only [if_true] at h
    split at h
    ·rename_i cb r2
     obtain ⟨hL, h'⟩ : tListR P K N (L.map (·.1)) vs tt off n Ts.length (shE tg of sub).length of sub ca cb = true ∧ tFs P K N (L.map (·.1)) tg vs tt n fs (off + 1) (Ts.length + 1) r2 = some c' := by
      cases hb : tListR P K N (L.map (·.1)) vs tt off n Ts.length (shE tg of sub).length of sub ca cb with
      | false => rw [hb] at h; cases h
      | true => rw [hb] at h; exact ⟨rfl, h⟩
     have hx' := hx
     rw [TellF_mk] at hx
     simp only [if_true] at hx
     obtain ⟨d, els, rfl, hTx, hd, hlen, hmany, hel⟩ := hx
     have hrd : Rep (Lo B) w d c1 := rep_one.1 hr1
     obtain ⟨cc, rfl⟩ : ∃ cc, c1 = [cc] := by
      have : c1.length = 1 := by rw [hw1]; simp [shF]
      exact List.length_eq_one_iff.1 this
     have hels : ∀ el ∈ els, ∃ y, TellE tg of sub el y := by
      intro el hin
      obtain ⟨i, hi⟩ := List.mem_iff_getElem?.1 hin
      have hlt := (List.getElem?_eq_some_iff.1 hi).1
      have hxi : x.l[i]? = some (x.l[i]'(by omega)) := List.getElem?_eq_getElem (by omega)
      exact ⟨x.l[i]'(by omega), by unfold TellE; exact hel i el _ hi hxi⟩
     have hs : LSrc B sb (so + off) tg of sub w d cc els := ⟨hat.left, hrd, by rcases hd with rfl | ⟨rfl, _⟩; exact .inl ⟨_, rfl⟩; exact .inr rfl, hels, hsb, hBw⟩
     refine wc_seq (wc_thn2 (tList_ok hK hm hL hvs htt hst hs (fun el hin => by obtain ⟨y, hy⟩ := hels el hin; exact hy.wide hnp) (by simp only [many]; omega) hBt hBl (fun w' xs hxl hxs hst' hc => qk_thn ?_)))
     refine step 1 r2 w' _ h' (by simp [shF]) ?_ hst' hc
     rw [TellF_mk]
     simp only [if_true]
     refine ⟨d, els, rfl, rfl, ?_, by simpa [Tree.l] using hxl, hmany, fun i el y hi hy => ?_⟩
     ·simpa [Tree.nul] using hs.flag
     ·have := hxs i el y hi (by simpa [Tree.l] using hy)
      unfold TellE at this
      exact this
    ·cases h
   ·simp only [h11, if_false] at h
    split at h
    ·rename_i id ops fl
     obtain ⟨h0, hS, h'⟩ : 0 < (if kind = 10 then (shP tg sub).length else (shV kind nul).length) ∧ sclR P K fl N (L.map (·.1)) vs tt off n Ts.length kind nul sub ops = true ∧ tFs P K N (L.map (·.1)) tg vs tt n fs (off + (if kind = 10 then (shP tg sub).length else (shV kind nul).length)) (Ts.length + 1) cr = some c' := by
      cases hb : Nat.blt 0 (if kind = 10 then (shP tg sub).length else (shV kind nul).length) && sclR P K fl N (L.map (·.1)) vs tt off n Ts.length kind nul sub ops with
      | false => rw [hb] at h; cases h
      | true =>
       rw [hb] at h
       rw [Bool.and_eq_true] at hb
       exact ⟨Nat.le_of_ble_eq_true hb.1, hb.2, h⟩
     have hXF : ∀ T, TellX tg kind nul sub a T ↔ TellF tg (.mk kind fr upto nul tag df of sub) a T := by
      intro T
      rw [TellF_mk]
      simp only [h11, if_false, TellX]
     have hk : (if kind = 10 then (shP tg sub).length else (shV kind nul).length) = (shF tg (.mk kind fr upto nul tag df of sub)).length := by
      by_cases h10 : kind = 10
      ·have hnn : ¬ 0 ≤ nul := by
        simp only [noPt, h10, decide_true, Bool.not_true, Bool.false_or, Bool.and_eq_true, decide_eq_true_eq] at hno1
        omega
       simp [shF, h10, hnn, shP]
      ·simp [shF, h11, h10]
     have hpos : 0 < c1.length := by
      rw [hw1, ← hk]
      exact h0
     obtain ⟨cc, cr', rfl⟩ : ∃ cc cr', c1 = cc :: cr' := by
      cases c1 with
      | nil => simp at hpos
      | cons y ys => exact ⟨y, ys, rfl⟩
     have hsrc : TSrc B sb (so + off) tg kind nul sub w a cc (cc :: cr') := by
      refine ⟨hat.left, hr1, ⟨x, (hXF x).2 hx⟩, hsb, hBw, fun h10 h7 => ?_⟩
      have hl : (cc :: cr').length = 1 := by
       rw [hw1, ← hk, if_neg h10]
       unfold shV
       repeat' split
       all_goals first | rfl | (exfalso; omega)
      cases cr' with
      | nil => rfl
      | cons _ _ => simp at hl
     have hc0 : w.cell? ⟨sb, so + off, none⟩ = some cc := by
      have := hat.cell (i := 0) (v := cc) rfl
      simpa using this
     refine wc_seq (scl_ok hK hm hS hvs htt hst hsrc hc0 hBt hBl (fun w' T hTX hst' hc => qk_thn ?_))
     exact step _ cr w' T h' hk ((hXF T).1 hTX) hst' hc
    ·cases h
  | _ => simp [tFs] at h
end
end Go.Proofs.YtgpnpfiafcakfaaDoor

namespace Go.Proofs.YtgpnpfiafcakfaaDoor
open Go Go.RowKit
section
variable {P : Program} {ops : Array Oper} {Q : Exit → Act → World → Prop} {N : Nat} {rest : List Oper} {L : Sl} {w : World} {d : Nat} {ty : TypeId} {pos : String} {aft : Array Edge}
theorem wl_callV {x : Operand} {f : FuncId} {bs vs : List Value} {args : List Operand} {ats : Array TypeId} (hx : ev L x = some (.func (.func f) #[] bs.toArray)) (ha : evs L args = some vs) (hf : isFn P f = true) (hd : Nat.blt d N = true)
  (hc : Calls P f (vs ++ bs).toArray w fun e w' => ∃ v, e = .returned v ∧ WL rest P ops Q N ((d, v) :: L) w') :
  WL (⟨some d, .call ⟨.value x, args.toArray, ats⟩, ty, pos, aft, none⟩ :: rest) P ops Q N L w := by
 intro a k
 refine wpList_plain rfl (fun K hK => ?_)
 unfold Oper.wp
 have hargs : args.toArray.map a.eval = vs.toArray := by rw [List.map_toArray, k.evals ha]
 have hr : (execOp a.eval ⟨some d, .call ⟨.value x, args.toArray, ats⟩, ty, pos, aft, none⟩).run P w = .ok (.enter f (vs ++ bs).toArray) w := by
  unfold isFn at hf
  cases hfn : P.funcs[f]? with
  | none => simp [hfn] at hf
  | some fn =>
   simp [hfn] at hf
   have h2 : fn.body ≠ none := by intro e; simp [e] at hf
   have h3 := hf.1
   simp only [execOp, resolve, Deferred.ofValue, k.eval hx, hargs, Sem.run_bind, Sem.run_pure, Result.andThen_ok, invoke, callFunc, run_program, hfn]
   simp [h3, h2]
 rw [hr]
 refine hc.mono (fun e w' he => ?_)
 obtain ⟨v, rfl, hv⟩ := he
 exact hK _ _ (hv _ (k.put v hd))
theorem wl_makeFunc {f : FuncId} {caps : List Operand} {vs : List Value} (ha : evs L caps = some vs) (hd : Nat.blt d N = true) (h : WL rest P ops Q N ((d, .func (.func f) #[] vs.toArray) :: L) w) :
  WL (⟨some d, .makeFunc (.func f) #[] caps.toArray, ty, pos, aft, none⟩ :: rest) P ops Q N L w := by
 intro a k
 refine st_of (o := ⟨some d, .makeFunc (.func f) #[] caps.toArray, ty, pos, aft, none⟩) (v := .func (.func f) #[] vs.toArray) (w' := w) rfl ?_ (h _ (k.put _ hd))
 have hargs : caps.toArray.map a.eval = vs.toArray := by rw [List.map_toArray, k.evals ha]
 simp [execOp, Instr.makeFunc, hargs]
theorem wl_makeIface {x : Operand} {t e : TypeId} {v : Value} (hx : ev L x = some v) (hu : P.underlying t = some (.slice e)) (hd : Nat.blt d N = true) (h : WL rest P ops Q N ((d, .iface t v) :: L) w) :
  WL (⟨some d, .makeInterface t x, ty, pos, aft, none⟩ :: rest) P ops Q N L w := by
 intro a k
 refine st_of (o := ⟨some d, .makeInterface t x, ty, pos, aft, none⟩) (v := .iface t v) (w' := w) rfl ?_ (h _ (k.put _ hd))
 simp [execOp, Instr.makeInterface, run_underlying hu, k.eval hx]
theorem wl_extract {x : Operand} {i : Nat} {vs : Array Value} {v : Value} (hx : ev L x = some (.tuple vs)) (hv : vs[i]? = some v) (hd : Nat.blt d N = true) (h : WL rest P ops Q N ((d, v) :: L) w) :
  WL (⟨some d, .extract x i, ty, pos, aft, none⟩ :: rest) P ops Q N L w := by
 intro a k
 refine st_of (o := ⟨some d, .extract x i, ty, pos, aft, none⟩) (v := v) (w' := w) rfl ?_ (h _ (k.put _ hd))
 simp [execOp, Instr.extract, k.eval hx, hv]
theorem wl_range {x : Operand} {t kt et bm clock : Nat} {es : Array MapEntry} (hx : ev L x = some (.map (some bm))) (hu : P.underlying t = some (.map kt et)) (hb : w.heap[bm]? = some (.map es clock)) (hd : Nat.blt d N = true)
  (h : WL rest P ops Q N ((d, .pointer (some ⟨w.heap.size, 0, none⟩)) :: L) (w.alloc (.mapIter (some bm) clock #[] clock))) : WL (⟨some d, .range t x, ty, pos, aft, none⟩ :: rest) P ops Q N L w := by
 intro a k
 refine st_of (o := ⟨some d, .range t x, ty, pos, aft, none⟩) (v := .pointer (some ⟨w.heap.size, 0, none⟩)) (w' := w.alloc (.mapIter (some bm) clock #[] clock)) rfl ?_ (h _ (k.put _ hd))
 simp [execOp, k.eval hx, run_range_map w t kt et bm es clock hu hb]
theorem wl_next {x : Operand} {r bm since c0 clock : Nat} {seen : Array Nat} {es : Array MapEntry} (hx : ev L x = some (.pointer (some ⟨r, 0, none⟩))) (hr : w.heap[r]? = some (.mapIter (some bm) since seen c0)) (hb : w.heap[bm]? = some (.map es clock)) (hold : ∀ x ∈ es.toList, x.born < since) (hsc : since ≤ c0) (hd : Nat.blt d N = true)
  (h0 : (leftOf es seen).size = 0 → WL rest P ops Q N ((d, .tuple #[.bool false]) :: L) w)
  (h1 : ∀ e ∈ (leftOf es seen).toList, ∀ w', w'.heap[r]? = some (.mapIter (some bm) since (seen.push e.born) clock) → Chg (· = r) w w' → w'.heap.size = w.heap.size → WL rest P ops Q N ((d, .tuple #[.bool true, e.key, e.val]) :: L) w') :
  WL (⟨some d, .next x false, ty, pos, aft, none⟩ :: rest) P ops Q N L w := by
 intro a k
 have hlt : r < w.heap.size := (Array.getElem?_eq_some_iff.1 hr).1
 rcases run_next_at (P := P) w ty r bm since c0 seen es clock hr hb hold hsc with ⟨hz, hrun⟩ | ⟨e, he, w1, hw1, hrun⟩
 ·refine st_of (o := ⟨some d, .next x false, ty, pos, aft, none⟩) (v := .tuple #[.bool false]) (w' := w) rfl ?_ (h0 hz _ (k.put _ hd))
  simp [execOp, k.eval hx, hrun]
 ·refine st_of (o := ⟨some d, .next x false, ty, pos, aft, none⟩) (v := .tuple #[.bool true, e.key, e.val]) (w' := Go.ChangeMaps.setBlock w1 r (.mapIter (some bm) since (seen.push e.born) clock)) rfl ?_ (h1 e he _ ?_ ?_ ?_ _ (k.put _ hd))
  ·simp [execOp, k.eval hx, hrun]
  ·rcases hw1 with rfl | rfl <;> simp [Go.ChangeMaps.setBlock, hlt]
  ·rcases hw1 with rfl | rfl <;> exact ⟨rfl, rfl, rfl, by simp [Go.ChangeMaps.setBlock], fun j _ hn => by
    have : r ≠ j := fun e => hn e.symm
    simp [Go.ChangeMaps.setBlock, this] <;> rfl⟩
  ·rcases hw1 with rfl | rfl <;> simp [Go.ChangeMaps.setBlock]
theorem wl_entry {x : Operand} {r bm since clock : Nat} {seen : Array Nat} {es : Array MapEntry} {e : MapEntry} (hx : ev L x = some (.pointer (some ⟨r, 0, none⟩))) (hr : w.heap[r]? = some (.mapIter (some bm) since (seen.push e.born) clock)) (hb : w.heap[bm]? = some (.map es clock)) (he : e ∈ es.toList) (hn : (es.toList.map (·.born)).Nodup) (hd : Nat.blt d N = true)
  (h : WL rest P ops Q N ((d, .tuple #[e.key, e.val]) :: L) w) : WL (⟨some d, .entry x, ty, pos, aft, none⟩ :: rest) P ops Q N L w := by
 intro a k
 refine st_of (o := ⟨some d, .entry x, ty, pos, aft, none⟩) (v := .tuple #[e.key, e.val]) (w' := w) rfl ?_ (h _ (k.put _ hd))
 simp [execOp, k.eval hx, run_entry_at w r bm since seen es clock e hr hb he hn]
theorem wl_makeRow {t e sz B n : Nat} {kl kc : IntKind} {x : Operand} (hT : rowTy P t e sz = true) (hx : ev L x = some (.int kc (n : Int))) (hn : n ≤ many) (hd : Nat.blt d N = true) (hB : B ≤ w.heap.size)
  (h : ∀ w', w'.ownsRow B e sz (.slice (some ⟨w.heap.size, 0, none⟩) 0 n) 0 [] → w.grownBy w' none → w'.heap.size = w.heap.size + 1 → WL rest P ops Q N ((d, .slice (some ⟨w.heap.size, 0, none⟩) 0 n) :: L) w') :
  WL (⟨some d, .makeSlice t (.const (.int kl 0)) x, ty, pos, aft, none⟩ :: rest) P ops Q N L w := by
 intro a k
 obtain ⟨hu, i, z, hi, hs1, hb1, hz, hzc⟩ := rowTy_out hT
 have hm : i.bytes * n ≤ 281474976710656 := by have := Nat.mul_le_mul hb1 hn; simp only [many] at this; omega
 have h63 : n ≤ maxLen := by simp only [many, maxLen] at *; omega
 have h63' : (n : Int) ≤ 9223372036854775807 := by simp only [maxLen] at h63; omega
 have hb' : (i.bytes : Int) * (n : Int) ≤ 281474976710656 := by
  have h : ((i.bytes * n : Nat) : Int) ≤ 281474976710656 := by omega
  rwa [Int.natCast_mul] at h
 have hr := run_make (P := P) w t e i z hu hi hz kl kc 0 n (Int.le_refl _) (by omega) hb' h63'
 simp only [Int.toNat_zero, Int.toNat_natCast] at hr
 refine st_of (o := ⟨some d, .makeSlice t (.const (.int kl 0)) x, ty, pos, aft, none⟩) (w' := w.alloc (.cells (madeCells z.cells (n * i.size)) e)) rfl ?_ (h _ (by rw [← hs1]; exact World.ownsRow_made w _ n hB h63 (size_madeCells _ _)) (World.grownBy_alloc w _ none) (by simp) _ (k.put _ hd))
 simp only [execOp, eval_const, k.eval hx, Sem.run_bind, hr, Result.andThen_ok, Sem.run_pure]
theorem wl_lookup {x y : Operand} {t kt et bm clock key : Nat} {es : Array MapEntry} {ks : List Nat} (hx : ev L x = some (.map (some bm))) (hy : ev L y = some (.int .u32 (key : Int))) (hu : P.underlying t = some (.map kt et)) (hk : P.underlying kt = some (.int .u32)) (hb : w.heap[bm]? = some (.map es clock)) (hm : Mapped es clock ks) (hin : ∃ e ∈ es, e.key = .int .u32 (key : Int)) (hd : Nat.blt d N = true)
  (h : ∀ e ∈ es, e.key = .int .u32 (key : Int) → WL rest P ops Q N ((d, e.val) :: L) w) : WL (⟨some d, .lookup t x y false, ty, pos, aft, none⟩ :: rest) P ops Q N L w := by
 intro a k
 have hik : MapKept.IsKey (.int .u32) (.int .u32 (key : Int)) := rfl
 have hks : ∀ x ∈ es.toList, MapKept.IsKey (.int .u32) x.key := fun x hx => by
  obtain ⟨k, _, e⟩ := hm.2.2.1 x hx
  rw [e]; rfl
 rcases MapKept.findNow_spec hik es.toList 0 hks with ⟨_, g2⟩ | ⟨j, e, g1, g2, g3⟩
 ·obtain ⟨e, he, hek⟩ := hin
  exact absurd hek (g2 e (Array.mem_toList_iff.2 he))
 ·have hj : es[j]? = some e := by simpa using g2
  refine st_of (o := ⟨some d, .lookup t x y false, ty, pos, aft, none⟩) (v := e.val) (w' := w) rfl ?_ (h e (Array.mem_of_getElem? hj) g3 _ (k.put _ hd))
  simp [execOp, k.eval hx, k.eval hy, Instr.lookup, run_underlying hu, MapKept.run_getObj_map hb, MapKept.run_checkKey hk hik, MapKept.run_findKey hk g1, Result.andThen]
end
theorem sorted_one : ∀ (a b : List Int), a.Perm b → a.Pairwise (fun x y => x ≤ y) → b.Pairwise (fun x y => x ≤ y) → a = b
 | [], b, h, _, _ => (List.Perm.nil_eq h)
 | x :: a, [], h, _, _ => by have := h.length_eq; simp at this
 | x :: a, y :: b, h, ha, hb => by
  have ha' := List.pairwise_cons.1 ha
  have hb' := List.pairwise_cons.1 hb
  have hx : x ∈ y :: b := h.mem_iff.1 (by simp)
  have hy : y ∈ x :: a := h.mem_iff.2 (by simp)
  have e : x = y := by
   rcases List.mem_cons.1 hx with e | hx
   ·exact e
   ·rcases List.mem_cons.1 hy with e | hy
    ·exact e.symm
    ·have := hb'.1 x hx; have := ha'.1 y hy; omega
  subst e
  rw [sorted_one a b h.cons_inv ha'.2 hb'.2]
theorem perm_sub {α : Type} [DecidableEq α] : ∀ (a b : List α), a.Nodup → (∀ x ∈ a, x ∈ b) → b.length ≤ a.length → a.Perm b
 | [], b, _, _, h => by
  have : b = [] := List.length_eq_zero_iff.1 (by simpa using h)
  subst this; exact List.Perm.refl _
 | x :: a, b, hn, hs, hl => by
  have hn' := List.nodup_cons.1 hn
  have hx : x ∈ b := hs x (by simp)
  have h1 := List.perm_cons_erase hx
  refine (List.Perm.cons x (perm_sub a (b.erase x) hn'.2 (fun y hy => ?_) ?_)).trans h1.symm
  ·exact (List.mem_erase_of_ne (fun e => hn'.1 (by rw [← e]; exact hy))).2 (hs y (by simp [hy]))
  ·rw [List.length_erase_of_mem hx]; simp at hl; omega
theorem leftOf_push {es : Array MapEntry} {seen : Array Nat} {e : MapEntry} (he : e ∈ (leftOf es seen).toList) (hn : (es.toList.map (·.born)).Nodup) : (leftOf es seen).toList.Perm (e :: (leftOf es (seen.push e.born)).toList) := by
 have h1 : (leftOf es (seen.push e.born)).toList = (leftOf es seen).toList.filter (fun x => x.born != e.born) := by
  simp only [leftOf, Array.toList_filter, List.filter_filter]
  apply List.filter_congr
  intro x _
  simp only [Array.contains_push]
  cases hb : (x.born == e.born) <;> cases seen.contains x.born <;> simp_all
 rw [h1]
 have hnd : ((leftOf es seen).toList.map (·.born)).Nodup := by
  simp only [leftOf, Array.toList_filter]
  exact (List.filter_sublist.map _).nodup hn
 generalize (leftOf es seen).toList = l at he hnd
 induction l with
 | nil => cases he
 | cons y l ih =>
  simp only [List.map_cons, List.nodup_cons] at hnd
  rcases List.mem_cons.1 he with rfl | he
  ·have hall : l.filter (fun x => x.born != e.born) = l := by
    refine List.filter_eq_self.2 (fun x hx => ?_)
    have : x.born ≠ e.born := fun h => hnd.1 (by rw [← h]; exact List.mem_map.2 ⟨x, hx, rfl⟩)
    simpa using this
   rw [List.filter_cons, if_neg (by simp), hall]
  ·have hne : y.born ≠ e.born := fun h => hnd.1 (by rw [h]; exact List.mem_map.2 ⟨e, he, rfl⟩)
   rw [List.filter_cons, if_pos (by simpa using hne)]
   exact (List.Perm.cons y (ih he hnd.2)).trans (List.Perm.swap _ _ _)
def intOf : Value → Int
 | .int _ n => n
 | _ => 0
theorem keys_sorted {es : Array MapEntry} {clock : Nat} {ks : List Nat} {zs zs' : List Int} (hm : Mapped es clock ks) (hk : ∀ k ∈ ks, ∃ e ∈ es, e.key = .int .u32 (k : Int)) (hz : (zs.map (Value.int .u32)).Perm (es.toList.map (·.key))) (hp : zs'.Perm zs) (hs : zs'.Pairwise (fun x y => x ≤ y)) : zs' = ks.map (fun k : Nat => (k : Int)) := by
 have h1 : (ks.map (fun k : Nat => (k : Int))).Perm (es.toList.map (fun e => intOf e.key)) := by
  refine perm_sub _ _ ?_ ?_ ?_
  ·refine List.pairwise_map.2 (hm.2.2.2.imp (fun h e => by omega))
  ·intro x hx
   obtain ⟨k, hk', rfl⟩ := List.mem_map.1 hx
   obtain ⟨e, he, hek⟩ := hk k hk'
   exact List.mem_map.2 ⟨e, Array.mem_toList_iff.2 he, by rw [hek]; rfl⟩
  ·simp [hm.1]
 have h2 : zs.Perm (es.toList.map (fun e => intOf e.key)) := by
  have := hz.map intOf
  simpa [List.map_map, Function.comp_def, intOf] using this
 exact sorted_one _ _ ((hp.trans h2).trans h1.symm) hs (List.pairwise_map.2 (hm.2.2.2.imp (fun h => by omega)))
end Go.Proofs.YtgpnpfiafcakfaaDoor

namespace Go.Proofs.YtgpnpfiafcakfaaDoor
open Go Go.RowKit
theorem flat_rep {α : Type} (l : List α) (d : α) (hl : 0 < l.length) : ∀ (n j : Nat), j < n * l.length → (List.replicate n l).flatten[j]? = some (l.getD (j % l.length) d)
 | 0, j, h => by simp at h
 | n + 1, j, h => by
  rw [List.replicate_succ, List.flatten_cons]
  by_cases hj : j < l.length
  ·rw [List.getElem?_append_left hj, Nat.mod_eq_of_lt hj, List.getD_eq_getElem?_getD, List.getElem?_eq_getElem hj]; rfl
  ·rw [List.getElem?_append_right (by omega), flat_rep l d hl n (j - l.length) (by rw [Nat.add_mul] at h; omega)]
   congr 2
   rw [← Nat.mod_eq_sub_mod (by omega)]
theorem flat_len {α : Type} (l : List α) : ∀ n, (List.replicate n l).flatten.length = n * l.length
 | 0 => by simp
 | n + 1 => by rw [List.replicate_succ, List.flatten_cons, List.length_append, flat_len l n, Nat.add_mul, Nat.one_mul, Nat.add_comm]
theorem made_trees (n : Nat) : (madeCells (flagC false).toArray (n * 5)) = ((List.replicate n (flagC false)).flatten).toArray := by
 apply Array.ext'
 simp only [madeCells, Array.toList_map, Array.toList_range]
 apply List.ext_getElem?
 intro j
 by_cases hj : j < n * 5
 ·rw [flat_rep (flagC false) undef (by decide) n j hj]
  simp only [List.getElem?_map, List.getElem?_range hj, Option.map_some, Option.some.injEq]
  have h5 : (flagC false).toArray.size = 5 := rfl
  rw [h5]
  have hlt : j % 5 < 5 := Nat.mod_lt _ (by omega)
  have hl5 : (flagC false).length = 5 := rfl
  rw [hl5, List.getD_eq_getElem?_getD, List.getElem?_eq_getElem (by rw [hl5]; exact hlt), Option.getD_some]
  rw [getElem!_pos (flagC false).toArray (j % 5) (by rw [h5]; exact hlt)]
  simp
 ·have h1 : ((List.replicate n (flagC false)).flatten).length = n * 5 := flat_len _ n
  rw [List.getElem?_eq_none (by simp; omega), List.getElem?_eq_none (by rw [h1]; omega)]
section
variable {P : Program} {ops : Array Oper} {Q : Exit → Act → World → Prop} {N : Nat} {rest : List Oper} {L : Sl} {w : World} {d : Nat} {ty : TypeId} {pos : String} {aft : Array Edge}
theorem wl_makeTrees {t tT n : Nat} {kl kc : IntKind} (hT : TTy P tT) (hr : rowTy P t tT 5 = true) (hn : Nat.ble n 1000000 = true) (hd : Nat.blt d N = true)
  (h : ∀ w', Box w' w.heap.size ((List.replicate n (flagC false)).flatten) tT → w.grownBy w' none → w'.heap.size = w.heap.size + 1 → WL rest P ops Q N ((d, .slice (some ⟨w.heap.size, 0, none⟩) n n) :: L) w') :
  WL (⟨some d, .makeSlice t (.const (.int kl (.ofNat n))) (.const (.int kc (.ofNat n))), ty, pos, aft, none⟩ :: rest) P ops Q N L w := by
 intro a k
 have hn' := Nat.le_of_ble_eq_true hn
 obtain ⟨hu, i, z, hi, hs1, hb1, hz, hzc⟩ := rowTy_out hr
 have hm : i.bytes * n ≤ 281474976710656 := by have := Nat.mul_le_mul hb1 hn'; omega
 have hb' : (i.bytes : Int) * (n : Int) ≤ 281474976710656 := by
  have h : ((i.bytes * n : Nat) : Int) ≤ 281474976710656 := by omega
  rwa [Int.natCast_mul] at h
 have hr := run_make (P := P) w t tT i z hu hi hz kl kc n n (by omega) (Int.le_refl _) hb' (by omega)
 simp only [Int.toNat_natCast] at hr
 have hzz : z = .agg (flagC false).toArray := by
  have h1 := hT.zero w
  simpa [zeroValue, typeInfo, hi, hz, flagC] using h1
 have hc : z.cells = (flagC false).toArray := by rw [hzz]; rfl
 rw [hc, hs1, made_trees] at hr
 refine st_of (o := ⟨some d, .makeSlice t (.const (.int kl (.ofNat n))) (.const (.int kc (.ofNat n))), ty, pos, aft, none⟩) (w' := w.alloc (.cells ((List.replicate n (flagC false)).flatten).toArray tT)) rfl ?_ (h _ (box_alloc w _ tT) (grown_alloc w _) (by simp) _ (k.put _ hd))
 simp only [execOp, eval_const, Sem.run_bind]
 rw [show (Int.ofNat n) = (n : Int) from rfl, hr]
 rfl
end
structure USt (lo tb : Nat) (hd : List Value) (tT gT : Nat) (w : World) (d : Value) (us : List (Nat × List UInt8)) : Prop where
 box : Box w tb (hd ++ [d]) tT
 row : RowD 0 lo tb gT 2 w d (us.map tagD)
 lt : tb < lo
 low : lo ≤ w.heap.size
def ClC (P : Program) (tT gT f : Nat) : Prop := isFn P f = true ∧ ∀ (w : World) (lo tb B : Nat) (hd : List Value) (d : Value) (us : List (Nat × List UInt8)) (k : Nat) (s : List UInt8) (val : Value), USt lo tb hd tT gT w d us → hd.length = 4 → Rep (Lo B) w (bytesD s) [val] → B ≤ tb → k < 4294967296 → s.length ≤ lim → us.length + 1 ≤ many →
 Calls P f #[.int .u32 (k : Int), val, .pointer (some ⟨tb, 0, none⟩)] w fun en w' => en = .returned (.tuple #[]) ∧ ∃ d', USt lo tb hd tT gT w' d' (us ++ [(k, s)]) ∧ Chg (fun j => j = tb ∨ d.ownBlock = some j) w w'
def EachC (P : Program) (f : Nat) : Prop := isFn P f = true ∧ ∀ (w : World) (B b off g : Nat) (bs : List Value) (kvs : List (Nat × D)) (v : Value) (S : Nat → Prop) (Inv : Nat → World → World → Prop), isFn P g = true → (∀ k ∈ kvs.map (·.1), k < 4294967296) → b < B → w.cell? ⟨b, off, none⟩ = some v → Rep (Lo B) w (.mp kvs) [v] → B ≤ w.heap.size →
  (∀ j, S j → B ≤ j ∧ j < w.heap.size) → (∀ w6, Chg (fun j => w.heap.size ≤ j) w w6 → Inv 0 w6 w6) →
  (∀ (i : Nat) (hi : i < kvs.length) (w6 w' : World) (en : Value), Inv i w6 w' → Chg (fun j => w.heap.size ≤ j) w w6 → Chg S w6 w' → Rep (Lo B) w' kvs[i].2 [en] →
   Calls P g (([.int .u32 ((kvs[i].1 : Nat) : Int), en] ++ bs).toArray) w' fun e w'' => e = .returned (.tuple #[]) ∧ Inv (i + 1) w6 w'' ∧ Chg S w6 w'') →
  Calls P f #[.pointer (some ⟨b, off, none⟩), .func (.func g) #[] bs.toArray] w fun en w' => en = .returned (.tuple #[]) ∧ ∃ w6, Chg (fun j => w.heap.size ≤ j) w w6 ∧ Inv kvs.length w6 w' ∧ Chg S w6 w'
def SoC (P : Program) (f : Nat) : Prop := isFn P f = true ∧ ∀ (w : World) (v : Value) (u : List (Nat × List UInt8)), Sq w.heap.size w v (u.map tagD) → OkTags u → u.length ≤ many →
 Calls P f #[v] w fun en w' => en = .returned (.tuple #[]) ∧ Chg (fun _ => False) w w'
structure TgOk (P : Program) (K : Tk) : Prop where
 each : EachC P K.each
 sorted : SoC P K.sorted
 clos : ∀ f, K.clos.contains f = true → ClC P K.tT K.gT f
def tgsT (P : Program) (K : Tk) (N : Nat) (S : List Nat) (vs tt toff : Nat) : Code → Code → Bool
 | .region _ ⟨[⟨some a, .move (.tmp v1), _, _, _, none⟩, ⟨some b, .nilCheck (.tmp a1), _, _, _, none⟩, ⟨some c, .fieldAddr st (.tmp b1) k, _, _, _, none⟩, ⟨some d, .makeFunc (.func cl) ⟨[]⟩ ⟨[.tmp t1]⟩, _, _, _, none⟩, ⟨some e, .call ⟨.value (.func f), ⟨[.tmp c1, .tmp d1]⟩, _⟩, _, _, _, none⟩]⟩ false,
  .region _ ⟨[⟨some a', .fieldAddr t2 (.tmp t3) k2, _, _, _, none⟩, ⟨some b', .load tl (.tmp a2), _, _, _, none⟩, ⟨some c', .call ⟨.value (.func so), ⟨[.tmp b2]⟩, _⟩, _, _, _, none⟩]⟩ false =>
  Nat.beq v1 vs && Nat.beq a1 a && Nat.beq b1 b && Nat.beq t1 tt && Nat.beq c1 c && Nat.beq d1 d && Nat.beq f K.each && Nat.beq t3 tt && Nat.beq a2 a' && Nat.beq b2 b' && Nat.beq so K.sorted && K.clos.contains cl && optIs (fieldOff P st k) toff && optIs (fieldOff P t2 k2) 4 && tyOne P tl &&
  Nat.blt a N && Nat.blt b N && Nat.blt c N && Nat.blt d N && Nat.blt e N && Nat.blt a' N && Nat.blt b' N && Nat.blt c' N &&
  outS S a && outS S b && outS S c && outS S d && outS S e && outS S a' && outS S b' && outS S c' && !Nat.beq d c
 | _, _ => false
section
variable {P : Program} {K : Tk} {Q : Exit → Act → World → Prop} {N : Nat} {L : Sl} {w : World}
theorem qk_pick {e : Exit} {F : Sl} (hF : ∀ t v, lk F t = some v → lk L t = some v) (h : QK e Q N F w) : QK e Q N L w := fun a k => h a (k.pick hF)
theorem tags_get (u : List (Nat × List UInt8)) (i : Nat) (hi : i < (u.map fun kv => (kv.1, bytesD kv.2)).length) : (u.map fun kv => (kv.1, bytesD kv.2))[i] = ((u[i]'(by simpa using hi)).1, bytesD (u[i]'(by simpa using hi)).2) := by simp
theorem tags_len {u : List (Nat × List UInt8)} (h : OkTags u) : u.length ≤ 4294967296 := by
 have key : ∀ (l : List Nat) (lo : Nat), l.Pairwise (· < ·) → (∀ x ∈ l, lo ≤ x ∧ x < 4294967296) → l.length ≤ 4294967296 - lo := by
  intro l
  induction l with
  | nil => intro lo _ _; simp
  | cons x l ih =>
   intro lo hp hb
   have hp' := List.pairwise_cons.1 hp
   have hx := hb x (by simp)
   have := ih (x + 1) hp'.2 (fun y hy => ⟨hp'.1 y hy, (hb y (by simp [hy])).2⟩)
   simp only [List.length_cons]; omega
 have := key (u.map (·.1)) 0 (by rw [List.pairwise_map]; exact h.1) (fun x hx => by
  obtain ⟨kv, hkv, rfl⟩ := List.mem_map.1 hx
  exact ⟨Nat.zero_le _, (h.2.1 kv hkv).1⟩)
 simpa using this
theorem tgsT_ok (hK : TgOk P K) {vs tt toff sb so tb B : Nat} {hd : List Value} {u : List (Nat × List UInt8)} {v : Value} {x1 x2 : Code} (h : tgsT P K N (L.map (·.1)) vs tt toff x1 x2 = true) (hvs : lk L vs = some (.pointer (some ⟨sb, so, none⟩))) (htt : lk L tt = some (.pointer (some ⟨tb, 0, none⟩)))
  (hbx : Box w tb (hd ++ [.slice none 0 0]) K.tT) (hhd : hd.length = 4) (hBt : B ≤ tb) (hsb : sb < B) (hBw : B ≤ w.heap.size) (hc : w.cell? ⟨sb, so + toff, none⟩ = some v) (hr : Rep (Lo B) w (tagsK u) [v]) (hu : OkTags u)
  (hq : ∀ w' d lo, USt lo tb hd K.tT K.gT w' d u → w.heap.size ≤ lo → Chg (· = tb) w w' → QK .normal Q N L w') : WC x1 P (Thn P x2 Q) N L w := by
 unfold tgsT at h
 split at h
 ·rename_i i1 a v1 y1 y2 y3 b a1 z1 z2 z3 c st b1 k q1 q2 q3 d cl t1 r1 r2 r3 e f c1 d1 ats s1 s2 s3 i2 a' t2 t3 k2 m1 m2 m3 b' tl a2 n1 n2 n3 c' so' b2 ats2 o1 o2 o3
  simp only [Bool.and_eq_true, Bool.not_eq_true'] at h
  obtain ⟨⟨⟨⟨⟨⟨⟨⟨⟨⟨⟨⟨⟨⟨⟨⟨⟨⟨⟨⟨⟨⟨⟨⟨⟨⟨⟨⟨⟨⟨⟨e1, e2⟩, e3⟩, e4⟩, e5⟩, e6⟩, e7⟩, e8⟩, e9⟩, e10⟩, e11⟩, hcl⟩, hfo⟩, hfo2⟩, hto⟩, l1⟩, l2⟩, l3⟩, l4⟩, l5⟩, l6⟩, l7⟩, l8⟩, u1⟩, u2⟩, u3⟩, u4⟩, u5⟩, u6⟩, u7⟩, u8⟩, ndc⟩ := h
  have := beq_out e1; subst this
  have := beq_out e2; subst this
  have := beq_out e3; subst this
  have := beq_out e4; subst this
  have := beq_out e5; subst this
  have := beq_out e6; subst this
  have := beq_out e7; subst this
  have := beq_out e8; subst this
  have := beq_out e9; subst this
  have := beq_out e10; subst this
  have := beq_out e11; subst this
  have ndc := nb_ne ndc
  have inL : ∀ {s : Nat} {x : Value}, lk L s = some x → ∀ {d : Nat}, outS (L.map (·.1)) d = true → d ≠ s := by
   intro s x hs d hd e
   subst e
   rw [lk_none_of hd] at hs; cases hs
  have hlen := tags_len hu
  have htw := hbx.lt
  have hcloC := hK.clos _ hcl
  refine wc_region ?_
  refine wl_move (by show lk L v1 = _; exact hvs) l1 ?_
  refine wl_nilCheck (by show lk _ a1 = _; exact lk_eq) l2 ?_
  refine wl_fieldAddr (by show lk _ b1 = _; exact lk_eq) (optIs_out hfo) l3 ?_
  refine wl_makeFunc (caps := [.tmp t3]) (vs := [.pointer (some ⟨tb, 0, none⟩)]) ?_ l4 ?_
  ·simp only [evs, ev]
   rw [lk_ne (inL htt u3), lk_ne (inL htt u2), lk_ne (inL htt u1), htt]
  refine wl_call (args := [.tmp c1, .tmp d1]) (vs := [.pointer (some ⟨sb, so + toff, none⟩), .func (.func cl) #[] #[.pointer (some ⟨tb, 0, none⟩)]]) ?_ hK.each.1 l5 ?_
  ·simp only [evs, ev]
   rw [lk_ne ndc, lk_eq, lk_eq]
  have hkv : tagsK u = .mp (u.map fun kv => (kv.1, bytesD kv.2)) := rfl
  rw [hkv] at hr
  refine (hK.each.2 w B sb (so + toff) cl [.pointer (some ⟨tb, 0, none⟩)] (u.map fun kv => (kv.1, bytesD kv.2)) v (· = tb) (fun i w6 w' => ∃ d, USt w6.heap.size tb hd K.tT K.gT w' d (u.take i)) hcloC.1 ?_ hsb hc hr hBw (fun j hj => by have hj : j = tb := hj; subst hj; exact ⟨hBt, htw⟩) ?_ ?_).mono ?_
  ·intro k hk
   simp only [List.map_map, List.mem_map] at hk
   obtain ⟨kv, hkv, rfl⟩ := hk
   exact (hu.2.1 kv hkv).1
  ·intro w6 hc6
   have hz := hc6.size
   exact ⟨.slice none 0 0, hbx.chg hc6 (by omega), RowD.nil _ _ _ _ _ _, by omega, Nat.le_refl _⟩
  ·rintro i hi w6 w' en ⟨d, hU⟩ hc6 hcS hren
   have hi' : i < u.length := by simpa using hi
   rw [tags_get u i hi] at hren
   simp only at hren
   have hkvi := hu.2.1 u[i] (List.getElem_mem hi')
   have hcall := hcloC.2 w' w6.heap.size tb B hd d (u.take i) u[i].1 u[i].2 en hU hhd hren hBt hkvi.1 hkvi.2 (by rw [List.length_take]; simp only [many]; omega)
   rw [tags_get u i hi]
   refine hcall.mono ?_
   rintro e' w'' ⟨rfl, d', hU', hc'⟩
   refine ⟨rfl, ⟨d', ?_⟩, ?_⟩
   ·rw [List.take_succ_eq_append_getElem hi']; exact hU'
   ·have hlow := hU.row.low
    have hz := hcS.size
    have hz' := hc'.size
    refine ⟨hc'.os.trans hcS.os, hc'.tape.trans hcS.tape, hc'.output.trans hcS.output, by omega, fun j hj hn => ?_⟩
    rw [hc'.block j (by omega) (fun e => ?_), hcS.block j hj hn]
    rcases e with e | e
    ·exact hn e
    ·have := (hlow j e).1; omega
  ·rintro en w7 ⟨rfl, w6, hc6, ⟨d, hU⟩, hc7⟩
   refine ⟨_, rfl, ?_⟩
   have hz6 := hc6.size
   have hz7 := hc7.size
   rw [List.length_map, List.take_length] at hU
   have hc07 : Chg (· = tb) w w7 := ⟨hc7.os.trans hc6.os, hc7.tape.trans hc6.tape, hc7.output.trans hc6.output, by omega, fun j hj hn => by rw [hc7.block j (by omega) hn, hc6.block j hj (by omega)]⟩
   refine wl_nil (qk_pick (F := L) (fun s x hs => by rw [lk_ne (inL hs u5), lk_ne (inL hs u4), lk_ne (inL hs u3), lk_ne (inL hs u2), lk_ne (inL hs u1)]; exact hs) (qk_thn ?_))
   refine wc_region ?_
   refine wl_fieldAddr (by show lk _ t3 = _; exact htt) (optIs_out hfo2) l6 ?_
   obtain ⟨da, dc, hd⟩ := hU.row.shape
   refine wl_loadB (v := d) (by show lk _ a2 = _; exact lk_eq) hto l7 hU.box (by rw [List.getElem?_append_right (by omega)]; simp [hhd]) ?_
   refine wl_call (args := [.tmp b2]) (vs := [d]) ?_ hK.sorted.1 l8 ?_
   ·simp only [evs, ev]
    rw [lk_eq]
   have hsq : Sq w7.heap.size w7 d (u.map tagD) := (hU.row.sq).up (fun r hr => hr.2) (fun _ _ => rfl)
   refine (hK.sorted.2 w7 d u hsq hu (by simp only [many]; omega)).mono ?_
   rintro en w8 ⟨rfl, hc8⟩
   refine ⟨_, rfl, ?_⟩
   have hz8 := hc8.size
   refine wl_nil (qk_pick (F := L) (fun s x hs => by rw [lk_ne (inL hs u8), lk_ne (inL hs u7), lk_ne (inL hs u6)]; exact hs) (hq w8 d w6.heap.size ?_ (by omega) ?_))
   ·exact ⟨hU.box.chg hc8 (fun h => h), hU.row.below ⟨hc8.os, hc8.tape, hc8.output, hc8.size, fun j hj => hc8.block j hj (fun h => h)⟩, hU.lt, by have := hU.low; omega⟩
   ·exact hc07.trans (hc8.wide (fun _ h => h.elim))
 ·cases h
end
def endT (P : Program) (K : Tk) (N : Nat) (S : List Nat) (tt rs : Nat) : Code → Bool
 | .seq (.region _ ⟨[⟨some a, .load t1 (.tmp x), _, _, _, none⟩, ⟨none, .store t2 (.tmp y) (.tmp a1), _, _, _, none⟩]⟩ false) .ret => Nat.beq x tt && Nat.beq y rs && Nat.beq a1 a && optIs (tyAgg P t1) 5 && sizeIs P t2 5 && Nat.blt a N && outS S a && Nat.beq t2 K.tT
 | _ => false
def tailT (P : Program) (K : Tk) (tg : Bool) (N : Nat) (S : List Nat) (vs tt rs toff : Nat) (c : Code) : Bool :=
 if tg then (match c with
  | .seq x1 (.seq x2 r) => tgsT P K N S vs tt toff x1 x2 && endT P K N S tt rs r
  | _ => false)
 else endT P K N S tt rs c
def resT (P : Program) (rs : Nat) : Option (Nat × Nat) → Bool
 | some p => Nat.beq p.1 rs && optIs (tyAgg P p.2) 5
 | none => false
def fldsT (P : Program) (K : Tk) (tg : Bool) (N : Nat) (S : List Nat) (vs tt rs n off toff : Nat) (fs : List Fld) (rest : Code) : Bool := match tFs P K N S tg vs tt n fs off 0 rest with
 | some c => tailT P K tg N S vs tt rs toff c
 | none => false
def tellFnR (P : Program) (K : Tk) (tg : Bool) (off : Nat) (f : Nat) (fs : List Fld) : Bool := match P.funcs[f]? with
 | some fn => (match fn.body with
  | some (.seq (.region _ ⟨[⟨some rs, .alloc t1, _, _, _, none⟩]⟩ false) (.seq (.region _ ⟨[⟨some s5, .makeSlice tL (.const (.int _ (.ofNat n1))) (.const (.int _ (.ofNat n2))), _, _, _, none⟩, ⟨some s6, .build t2 ⟨[(3, .tmp s5')]⟩, _, _, _, none⟩, ⟨some tt, .alloc t3, _, _, _, none⟩, ⟨none, .store t4 (.tmp tt') (.tmp s6'), _, _, _, none⟩]⟩ false) rest)) =>
   isFn P f && Nat.ble 1 fn.ntmps && Nat.beq t1 K.tT && Nat.beq t2 K.tT && Nat.beq t3 K.tT && Nat.beq n1 fs.length && Nat.beq n2 n1 && Nat.ble n1 1000000 && rowTy P tL K.tT 5 && Nat.beq s5' s5 && Nat.beq s6' s6 && Nat.beq tt' tt && sizeIs P t4 5 &&
   Nat.blt rs fn.ntmps && Nat.blt s5 fn.ntmps && Nat.blt s6 fn.ntmps && Nat.blt tt fn.ntmps && outS [0] rs && outS [rs, 0] s5 && outS [s5, rs, 0] s6 && outS [s6, s5, rs, 0] tt && noPts fs && resT P rs (cellRes fn.results) &&
   fldsT P K tg fn.ntmps [0, tt, rs] 0 tt rs n1 off (off + (shFs tg fs).length) fs rest
  | _ => false)
 | none => false
def TlPo (P : Program) (f : Nat) (tg : Bool) (off : Nat) (fs : List Fld) : Prop := isFn P f = true ∧ ∀ (B : Nat) (w : World) (sb so : Nat) (cs : List Value) (ds : List D) (T : Tree), CellsAt w sb (so + off) cs → Reps (Lo B) w ds cs → sb < B → B ≤ w.heap.size → TellP tg fs ds T →
 Calls P f #[.pointer (some ⟨sb, so, none⟩)] w fun en w' => ∃ cs' T', en = .returned (.agg cs'.toArray) ∧ Rep (In 0 w.heap.size w') w' (treeD T') cs' ∧ TellP tg fs ds T' ∧ Chg (fun _ => False) w w'
theorem tellFn_ok {P : Program} {K : Tk} {tg : Bool} (hK : TkOk P K tg) (hG : tg = true → TgOk P K) (hm : P.follows .mixedOrders = true) {off f : Nat} {fs : List Fld} (h : tellFnR P K tg off f fs = true) : TlPo P f tg off fs := by
 unfold tellFnR at h
 split at h
 ·rename_i fn hfn
  split at h
  ·rename_i i1 rs t1 y1 y2 y3 i2 s5 tL kl n1 kc n2 z1 z2 z3 s6 t2 s5' q1 q2 q3 tt t3 r1 r2 r3 t4 tt' s6' u1 u2 u3 rest hbody
   simp only [Bool.and_eq_true] at h
   obtain ⟨⟨⟨⟨⟨⟨⟨⟨⟨⟨⟨⟨⟨⟨⟨⟨⟨⟨⟨⟨⟨⟨⟨g1, g2⟩, e1⟩, e2⟩, e3⟩, e4⟩, e5⟩, g3⟩, g4⟩, e6⟩, e7⟩, e8⟩, g5⟩, l1⟩, l2⟩, l3⟩, l4⟩, o1⟩, o2⟩, o3⟩, o4⟩, hno⟩, hres⟩, hfl⟩ := h
   have := beq_out e1; subst this
   have := beq_out e2; subst this
   have := beq_out e3; subst this
   have := beq_out e5; subst this
   have := beq_out e6; subst this
   have := beq_out e7; subst this
   have := beq_out e8; subst this
   have hn1 := beq_out e4
   obtain ⟨p, hp, hprs, hpt⟩ : ∃ p, cellRes fn.results = some p ∧ p.1 = rs ∧ tyAgg P p.2 = some 5 := by
    unfold resT at hres
    split at hres
    ·rename_i p hp; rw [Bool.and_eq_true] at hres; exact ⟨p, hp, beq_out hres.1, optIs_out hres.2⟩
    ·cases hres
   have hr0 := cellRes_out hp
   refine ⟨g1, fun B w sb so cs ds T hat hrep hsb hBw hT => ?_⟩
   refine enter (vs := [.pointer (some ⟨sb, so, none⟩)]) hfn hbody rfl g2 ?_
   obtain ⟨a, u, rfl, hTe, hu, hTs⟩ := hT
   have hsz : ∀ {t : Nat}, sizeIs P t 5 = true → (P.info? t).map (·.size) = some 5 := by
    intro t ht
    unfold sizeIs at ht
    split at ht
    ·rename_i i hi; simp [hi, beq_out ht]
    ·cases ht
   rw [Reps.app] at hrep
   obtain ⟨c1, c2, rfl, hr1, hr2⟩ := hrep
   have hc1l : c1.length = (shFs tg fs).length := by rw [Reps.len _ _ hr1]; exact TellFs.wide hno hTs
   have n_rs0 : rs ≠ 0 := fun e => outS_ne o1 (s := 0) (by simp) e.symm
   have n_s5 : s5' ≠ rs := fun e => outS_ne o2 (s := rs) (by simp) e.symm
   have n_tts6 : tt' ≠ s6' := fun e => outS_ne o4 (s := s6') (by simp) e.symm
   have n_tts5 : tt' ≠ s5' := fun e => outS_ne o4 (s := s5') (by simp) e.symm
   have n_ttrs : tt' ≠ rs := fun e => outS_ne o4 (s := rs) (by simp) e.symm
   have n_tt0 : tt' ≠ 0 := fun e => outS_ne o4 (s := 0) (by simp) e.symm
   have n_s6s5 : s6' ≠ s5' := fun e => outS_ne o3 (s := s5') (by simp) e.symm
   have n_s6rs : s6' ≠ rs := fun e => outS_ne o3 (s := rs) (by simp) e.symm
   have n_s60 : s6' ≠ 0 := fun e => outS_ne o3 (s := 0) (by simp) e.symm
   have n_s50 : s5' ≠ 0 := fun e => outS_ne o2 (s := 0) (by simp) e.symm
   refine wc_seq (wc_region (l := [_]) ?_)
   refine wl_alloc (cs := flagC false) hK.ty.zero rfl l1 (fun w1 hb1 hg1 hs1 => wl_nil (qk_thn ?_))
   refine wc_seq (wc_region (l := [_, _, _, _]) ?_)
   refine wl_makeTrees hK.ty g4 g3 l2 (fun w2 hb2 hg2 hs2 => ?_)
   refine wl_build (ps := [(3, .tmp s5')]) (vs := [(3, .slice (some ⟨w1.heap.size, 0, none⟩) n2 n2)]) (cs := [.int .i64 0, .slice none 0 0, .bool false, .slice (some ⟨w1.heap.size, 0, none⟩) n2 n2, .slice none 0 0]) ?_ (hK.ty.b3 _ _ _) l3 ?_
   ·simp only [evps, ev]; rw [lk_eq]
   refine wl_alloc (cs := flagC false) hK.ty.zero rfl l4 (fun w3 hb3 hg3 hs3 => ?_)
   refine wl_storeBAgg (b := w2.heap.size) (vs := [.int .i64 0, .slice none 0 0, .bool false, .slice (some ⟨w1.heap.size, 0, none⟩) n2 n2, .slice none 0 0]) (by show lk _ tt' = _; exact lk_eq) (by show lk _ s6' = _; rw [lk_ne n_tts6]; exact lk_eq) rfl (hsz g5) rfl hb3 rfl (fun w4 hb4 hg4 hs4 => wl_nil ?_)
   have hbr4 : Box w4 w.heap.size (flagC false) K.tT := ((hb1.kept hg2 (by simp)).kept hg3 (by simp)).kept hg4 (by simp; omega)
   have hbl4 : Box w4 w1.heap.size ((List.replicate n2 (flagC false)).flatten) K.tT := (hb2.kept hg3 (by simp)).kept hg4 (by simp; omega)
   have hc04 : Chg (fun _ => False) w w4 := ⟨hg4.os.trans (hg3.os.trans (hg2.os.trans hg1.os)), hg4.tape.trans (hg3.tape.trans (hg2.tape.trans hg1.tape)), hg4.output.trans (hg3.output.trans (hg2.output.trans hg1.output)), by omega, fun j hj _ => by
    rw [hg4.block j (by omega) (by simp; omega), hg3.block j (by omega) (by simp), hg2.block j (by omega) (by simp), hg1.block j hj (by simp)]⟩
   have lowB : ∀ j, Lo B j → Lo B j ∧ w4.heap[j]? = w.heap[j]? := fun j hj => ⟨hj, hc04.block j (by have h3 : j < B := hj; omega) (fun h => h)⟩
   refine qk_pick (F := [(0, .pointer (some ⟨sb, so, none⟩)), (tt', .pointer (some ⟨w2.heap.size, 0, none⟩)), (rs, .pointer (some ⟨w.heap.size, 0, none⟩))]) (fun s x hs => ?_) (qk_thn ?_)
   ·simp only [lk] at hs
    by_cases h0 : s = 0
    ·subst h0
     simp only [Nat.beq_refl, cond_true] at hs
     rw [lk_ne n_tt0, lk_ne n_s60, lk_ne n_s50, lk_ne n_rs0]
     exact hs
    ·have hb0 : Nat.beq 0 s = false := by cases hb : Nat.beq 0 s with | false => rfl | true => exact absurd (beq_out hb).symm h0
     rw [hb0] at hs
     simp only [cond_false] at hs
     by_cases ht : s = tt'
     ·subst ht
      simp only [Nat.beq_refl, cond_true] at hs
      rw [lk_eq]; exact hs
     ·have hb1 : Nat.beq tt' s = false := by cases hb : Nat.beq tt' s with | false => rfl | true => exact absurd (beq_out hb).symm ht
      rw [hb1] at hs
      simp only [cond_false] at hs
      by_cases hr : s = rs
      ·subst hr
       simp only [Nat.beq_refl, cond_true] at hs
       rw [lk_ne n_ttrs, lk_ne n_s6rs, lk_ne n_s5, lk_eq]; exact hs
      ·have hb2 : Nat.beq rs s = false := by cases hb : Nat.beq rs s with | false => rfl | true => exact absurd (beq_out hb).symm hr
       rw [hb2] at hs
       cases hs
   unfold fldsT at hfl
   split at hfl
   ·rename_i c hc
    have hst : TSt w4.heap.size w2.heap.size w1.heap.size n2 (.slice none 0 0) K.tT K.tT w4 [] fs.length := by
     refine ⟨hb4, ⟨_, hbl4, ?_⟩, by omega, by omega, by omega, Nat.le_refl _⟩
     rw [List.map_nil, List.nil_append, reps_flags, hn1]
    refine tFs_ok (L := [(0, .pointer (some ⟨sb, so, none⟩)), (tt', .pointer (some ⟨w2.heap.size, 0, none⟩)), (rs, .pointer (some ⟨w.heap.size, 0, none⟩))]) hK hm (by omega) (by omega) hsb rfl (by rw [lk_ne (fun e => n_tt0 e.symm), lk_eq]) fs rest c off [] w4 a c1 hc hno hst (hat.left.chg hc04 (fun h => h)) (Reps.mono lowB _ _ hr1) (by omega) ⟨T.l, hTs⟩ (fun w5 xs hxs hst5 hxl hc5 => ?_)
    rw [List.nil_append] at hst5 hxl
    have hz5 := hc5.size
    obtain ⟨lcs, hbl5, hls5⟩ := hst5.ls
    simp only [List.replicate_zero, List.append_nil] at hls5
    have fin : ∀ (r : Code) (w7 : World) (d : Value) (u' : List (Nat × List UInt8)), endT P K fn.ntmps [0, tt', rs] tt' rs r = true → Box w7 w2.heap.size [.int .i64 0, .slice none 0 0, .bool false, .slice (some ⟨w1.heap.size, 0, none⟩) n2 n2, d] K.tT → Rep (fun q => w4.heap.size ≤ q ∧ q < w7.heap.size) w7 (.sq (u'.map tagD)) [d] → d.oneCell' = true → Chg (· = w2.heap.size) w5 w7 → (tg = true → u' = u) → (tg = false → u' = []) →
      WC r P (bodyPost P fn fun en w' => ∃ cs' T', en = .returned (.agg cs'.toArray) ∧ Rep (In 0 w.heap.size w') w' (treeD T') cs' ∧ TellP tg fs (a ++ TellTags tg u) T' ∧ Chg (fun _ => False) w w') fn.ntmps [(0, .pointer (some ⟨sb, so, none⟩)), (tt', .pointer (some ⟨w2.heap.size, 0, none⟩)), (rs, .pointer (some ⟨w.heap.size, 0, none⟩))] w7 := by
     intro r w7 d u' he hb7 hd h1 hc7 hu1 hu2
     unfold endT at he
     split at he
     ·rename_i i3 a1 t1 x1 m1 m2 m3 t2 y1 a2 n1 n3 n4
      simp only [Bool.and_eq_true] at he
      obtain ⟨⟨⟨⟨⟨⟨⟨k1, k2⟩, k3⟩, k4⟩, k5⟩, k6⟩, k7⟩, k8⟩ := he
      have k1 := beq_out k1
      have k2 := beq_out k2
      have k3 := beq_out k3
      subst k3
      subst k1
      subst k2
      have hz7 := hc7.size
      have nrs : a2 ≠ y1 := fun e => outS_ne k7 (s := y1) (by simp) e.symm
      have hbr7 : Box w7 w.heap.size (flagC false) K.tT := (hbr4.chg hc5 (by omega)).chg hc7 (by omega)
      have hbl7 := hbl5.chg hc7 (by omega : ¬ w1.heap.size = w2.heap.size)
      refine wc_seq (wc_region (l := [_, _]) ?_)
      refine wl_loadBAgg (cs := [.int .i64 0, .slice none 0 0, .bool false, .slice (some ⟨w1.heap.size, 0, none⟩) n2 n2, d]) (by show lk _ x1 = _; rw [lk_ne (fun e => n_tt0 e.symm), lk_eq]) (optIs_out k4) k6 hb7 ?_
      refine wl_storeBAgg (b := w.heap.size) (vs := [.int .i64 0, .slice none 0 0, .bool false, .slice (some ⟨w1.heap.size, 0, none⟩) n2 n2, d]) (by show lk _ y1 = _; rw [lk_ne nrs, lk_ne (fun e => n_rs0 e.symm), lk_ne n_ttrs, lk_eq]) (by show lk _ a2 = _; exact lk_eq) rfl (hsz k5) (by show (true && (true && (true && (true && (d.oneCell' && true))))) = true; rw [h1]; rfl) hbr7 rfl (fun w8 hb8 hg8 hs8 => wl_nil (qk_thn (wc_ret ?_)))
      have hres2 : fn.results = #[.cell y1 p.2] := by rw [hr0, hprs]
      refine qk_retCell (cs := [.int .i64 0, .slice none 0 0, .bool false, .slice (some ⟨w1.heap.size, 0, none⟩) n2 n2, d]) hres2 (by rw [lk_ne nrs, lk_ne (fun e => n_rs0 e.symm), lk_ne n_ttrs, lk_eq]) hpt hb8 ⟨_, .mk 0 [] false xs u', rfl, ?_, ?_, ?_⟩
      ·have up7 : ∀ q, w4.heap.size ≤ q ∧ q < w7.heap.size → w8.heap[q]? = w7.heap[q]? := fun q hq => hg8.block q hq.2 (by simp; omega)
       have hd8 : Rep (In 0 w.heap.size w8) w8 (.sq (u'.map tagD)) [d] := hd.up (fun q hq => ⟨.inr (by omega), by omega⟩) up7
       have hl8 : Reps (In 0 w.heap.size w8) w8 (xs.map treeD) lcs := hls5.up (fun q hq => ⟨.inr (by rcases hq.1 with h | h; exact absurd h (Nat.not_lt_zero _); omega), by have := hq.2; omega⟩) (fun q hq => by
        have h4 : w4.heap.size ≤ q := by rcases hq.1 with h | h; exact absurd h (Nat.not_lt_zero _); exact h
        rw [up7 q ⟨h4, by have := hq.2; omega⟩, hc7.block q hq.2 (by omega)])
       have hbl8 : Box w8 w1.heap.size lcs K.tT := hbl7.kept hg8 (by simp; omega)
       simp only [treeD, Rep, Reps, bytesD, List.map_nil]
       refine ⟨[_], _, rfl, rfl, [_], _, rfl, ⟨none, 0, rfl, Nat.le_refl _, .inl trivial⟩, [_], _, rfl, rfl, [_], _, rfl, ?_, [_], _, rfl, by simpa only [Rep] using hd8, rfl⟩
       rw [treeDs_map]
       refine ⟨some ⟨w1.heap.size, 0, none⟩, n2, by rw [List.length_map, hxl], by rw [List.length_map, hxl]; exact Nat.le_refl _, .inr ⟨w1.heap.size, 0, lcs, rfl, ⟨.inr (by omega), hbl8.lt⟩, hbl8.cells, hl8⟩⟩
      ·refine ⟨a, u, rfl, ?_, hu, hxs⟩
       cases tg with
       | true => simp only [if_true, Tree.l]; rw [hu1 rfl]
       | false => simp only [Bool.false_eq_true, if_false, Tree.l]; rw [hu2 rfl]
      ·refine ⟨hg8.os.trans (hc7.os.trans (hc5.os.trans hc04.os)), hg8.tape.trans (hc7.tape.trans (hc5.tape.trans hc04.tape)), hg8.output.trans (hc7.output.trans (hc5.output.trans hc04.output)), by omega, fun j hj _ => ?_⟩
       rw [hg8.block j (by omega) (by simp; omega), hc7.block j (by omega) (by omega), hc5.block j (by omega) (by omega), hc04.block j hj (fun h => h)]
     ·cases he
    unfold tailT at hfl
    cases tg with
    | false =>
     simp only [Bool.false_eq_true, if_false] at hfl
     exact fin c w5 (.slice none 0 0) [] hfl hst5.tr (by simp only [Rep, List.map_nil]; exact ⟨none, 0, rfl, Nat.le_refl _, .inl trivial⟩) rfl (Chg.refl _ _) (fun h => by cases h) (fun _ => rfl)
    | true =>
     simp only [if_true] at hfl
     split at hfl
     ·rename_i x1 x2 r
      rw [Bool.and_eq_true] at hfl
      obtain ⟨f1, f2⟩ := hfl
      have hrm : Rep (Lo B) w (tagsK u) c2 := by
       have : Reps (Lo B) w [tagsK u] c2 := hr2
       exact rep_one.1 this
      obtain ⟨mv, rfl⟩ : ∃ mv, c2 = [mv] := by
       have : c2.length = 1 := by rw [Rep.len _ _ hrm]; rfl
       exact List.length_eq_one_iff.1 this
      have hmc : w5.cell? ⟨sb, so + (off + (shFs true fs).length), none⟩ = some mv := by
       have := hat.right.cell (i := 0) (v := mv) rfl
       rw [hc1l] at this
       have e : so + (off + (shFs true fs).length) = so + off + (shFs true fs).length + 0 := by omega
       rw [e, ← this]
       simp only [World.cell?]
       rw [hc5.block sb (by omega) (by omega), hc04.block sb (by omega) (fun h => h)]
      have hrm5 : Rep (Lo B) w5 (tagsK u) [mv] := Rep.mono (fun q hq => ⟨hq, by
       have h3 : q < B := hq
       rw [hc5.block q (by omega) (by omega), hc04.block q (by omega) (fun h => h)]⟩) _ _ hrm
      refine wc_seq (wc_thn2 (tgsT_ok (hG rfl) (sb := sb) (so := so) (tb := w2.heap.size) (B := B) (u := u) (hd := [.int .i64 0, .slice none 0 0, .bool false, .slice (some ⟨w1.heap.size, 0, none⟩) n2 n2]) f1 rfl (by rw [lk_ne (fun e => n_tt0 e.symm), lk_eq]) hst5.tr rfl (by omega) hsb (by omega) hmc hrm5 (hu rfl) (fun w7 d lo hU hlo hc7 => qk_thn ?_)))
      have hz7 := hc7.size
      refine fin r w7 d u f2 hU.box ?_ ?_ hc7 (fun _ => rfl) (fun h => by cases h)
      ·exact hU.row.sq.up (fun q hq => ⟨by rcases hq.1 with h | h; exact absurd h (Nat.not_lt_zero _); omega, hq.2⟩) (fun _ _ => rfl)
      ·obtain ⟨da, dc, hd⟩ := hU.row.shape
       rw [hd]; rfl
     ·cases hfl
   ·cases hfl
  ·cases h
 ·cases h
end Go.Proofs.YtgpnpfiafcakfaaDoor

/-
 DERIVED: THE SHELF's CONTRACTS AT THIS DUMP, IN PLAIN WORDS (tools/lay-plain.mjs out of 'YtgpnpfiafcakfaaDoorLay6.lean', which tools/lay-shelf.mjs wrote): THE SAME DECLARATIONS UNDER THE SAME NAMES: 'import', 'namespace', 'open', 'def', 'theorem' AND NOTHING ELSE: no command of the shelf's: FOR A HAND-IN. Each laying: the table of numbers ('.._ren') and one theorem, a field a fact of the dump's own or the kernel's comparison; each contract: ONE APPLICATION.
-/
namespace Go.Proofs
open Go.Shelf
def Tryd.gl6_ren : Go.Shelf.Ren := ⟨fun | 6 => 46 | 10 => 57 | 11 => 58 | 12 => 59 | 13 => 60 | 14 => 61 | 24 => 73 | 25 => 74 | 26 => 75 | 27 => 76 | 28 => 77 | 29 => 78 | 30 => 79 | 31 => 80 | 32 => 81 | 33 => 82 | 34 => 83 | 35 => 84 | 36 => 85 | 37 => 86 | 38 => 87 | 39 => 88 | n => n, fun | 20 => 20 | 26 => 94 | 35 => 108 | 0 => 0 | 37 => 110 | 3 => 3 | 41 => 113 | 44 => 116 | 49 => 48 | 51 => 124 | 4 => 4 | 54 => 127 | 53 => 126 | 58 => 131 | 5 => 5 | 9 => 9 | 60 => 133 | 64 => 137 | 66 => 139 | 67 => 140 | 17 => 17 | 32 => 105 | 33 => 106 | 82 => 155 | 12 => 12 | 75 => 148 | 76 => 149 | 77 => 150 | 78 => 151 | 79 => 152 | 80 => 153 | n => n, fun | n => n⟩
theorem Tryd.gl6 : Go.Proofs.LaysGg.n6 Tryd.prog Tryd.gl6_ren := {
 mixed := by kernel_rfl
 f6 := Tryd.func46.trans (congrArg some (by kernel_rfl))
 f10 := Tryd.func57.trans (congrArg some (by kernel_rfl))
 f11 := Tryd.func58.trans (congrArg some (by kernel_rfl))
 f12 := Tryd.func59.trans (congrArg some (by kernel_rfl))
 f13 := Tryd.func60.trans (congrArg some (by kernel_rfl))
 f14 := Tryd.func61.trans (congrArg some (by kernel_rfl))
 f24 := Tryd.func73.trans (congrArg some (by kernel_rfl))
 f25 := Tryd.func74.trans (congrArg some (by kernel_rfl))
 f26 := Tryd.func75.trans (congrArg some (by kernel_rfl))
 f27 := Tryd.func76.trans (congrArg some (by kernel_rfl))
 f28 := Tryd.func77.trans (congrArg some (by kernel_rfl))
 f29 := Tryd.func78.trans (congrArg some (by kernel_rfl))
 f30 := Tryd.func79.trans (congrArg some (by kernel_rfl))
 f31 := Tryd.func80.trans (congrArg some (by kernel_rfl))
 f32 := Tryd.func81.trans (congrArg some (by kernel_rfl))
 f33 := Tryd.func82.trans (congrArg some (by kernel_rfl))
 f34 := Tryd.func83.trans (congrArg some (by kernel_rfl))
 f35 := Tryd.func84.trans (congrArg some (by kernel_rfl))
 f36 := Tryd.func85.trans (congrArg some (by kernel_rfl))
 f37 := Tryd.func86.trans (congrArg some (by kernel_rfl))
 f38 := Tryd.func87.trans (congrArg some (by kernel_rfl))
 f39 := Tryd.func88.trans (congrArg some (by kernel_rfl))
 t0 := Tryd.underlying0
 a0 := Tryd.isAgg0
 z0 := Tryd.sizeOf0
 v0 := Tryd.zeroValue0
 i0 := by kernel_rfl
 t3 := Tryd.underlying3
 a3 := Tryd.isAgg3
 z3 := Tryd.sizeOf3
 v3 := Tryd.zeroValue3
 i3 := by kernel_rfl
 t4 := Tryd.underlying4
 a4 := Tryd.isAgg4
 z4 := Tryd.sizeOf4
 v4 := Tryd.zeroValue4
 i4 := by kernel_rfl
 t5 := Tryd.underlying5
 a5 := Tryd.isAgg5
 z5 := Tryd.sizeOf5
 v5 := Tryd.zeroValue5
 i5 := by kernel_rfl
 t9 := Tryd.underlying9
 a9 := Tryd.isAgg9
 z9 := Tryd.sizeOf9
 v9 := Tryd.zeroValue9
 i9 := by kernel_rfl
 t12 := Tryd.underlying12
 a12 := Tryd.isAgg12
 z12 := Tryd.sizeOf12
 v12 := Tryd.zeroValue12
 i12 := by kernel_rfl
 t17 := Tryd.underlying17
 a17 := Tryd.isAgg17
 z17 := Tryd.sizeOf17
 v17 := Tryd.zeroValue17
 i17 := by kernel_rfl
 t20 := Tryd.underlying20
 a20 := Tryd.isAgg20
 z20 := Tryd.sizeOf20
 v20 := Tryd.zeroValue20
 i20 := by kernel_rfl
 t26 := Tryd.underlying94
 a26 := Tryd.isAgg94
 z26 := Tryd.sizeOf94
 v26 := Tryd.zeroValue94
 i26 := by kernel_rfl
 t32 := Tryd.underlying105
 a32 := Tryd.isAgg105
 z32 := Tryd.sizeOf105
 v32 := Tryd.zeroValue105
 i32 := by kernel_rfl
 t33 := Tryd.underlying106
 a33 := Tryd.isAgg106
 z33 := Tryd.sizeOf106
 v33 := Tryd.zeroValue106
 i33 := by kernel_rfl
 t35 := Tryd.underlying108
 a35 := Tryd.isAgg108
 z35 := Tryd.sizeOf108
 v35 := Tryd.zeroValue108
 i35 := by kernel_rfl
 t37 := Tryd.underlying110
 a37 := Tryd.isAgg110
 z37 := Tryd.sizeOf110
 v37 := Tryd.zeroValue110
 i37 := by kernel_rfl
 t41 := Tryd.underlying113
 a41 := Tryd.isAgg113
 z41 := Tryd.sizeOf113
 v41 := Tryd.zeroValue113
 i41 := by kernel_rfl
 t44 := Tryd.underlying116
 a44 := Tryd.isAgg116
 z44 := Tryd.sizeOf116
 v44 := Tryd.zeroValue116
 i44 := by kernel_rfl
 t49 := Tryd.underlying48
 a49 := Tryd.isAgg48
 z49 := Tryd.sizeOf48
 v49 := Tryd.zeroValue48
 i49 := by kernel_rfl
 t51 := Tryd.underlying124
 a51 := Tryd.isAgg124
 z51 := Tryd.sizeOf124
 v51 := Tryd.zeroValue124
 i51 := by kernel_rfl
 t53 := Tryd.underlying126
 a53 := Tryd.isAgg126
 z53 := Tryd.sizeOf126
 v53 := Tryd.zeroValue126
 i53 := by kernel_rfl
 t54 := Tryd.underlying127
 a54 := Tryd.isAgg127
 z54 := Tryd.sizeOf127
 v54 := Tryd.zeroValue127
 i54 := by kernel_rfl
 t58 := Tryd.underlying131
 a58 := Tryd.isAgg131
 z58 := Tryd.sizeOf131
 v58 := Tryd.zeroValue131
 i58 := by kernel_rfl
 t60 := Tryd.underlying133
 a60 := Tryd.isAgg133
 z60 := Tryd.sizeOf133
 v60 := Tryd.zeroValue133
 i60 := by kernel_rfl
 t64 := Tryd.underlying137
 a64 := Tryd.isAgg137
 z64 := Tryd.sizeOf137
 v64 := Tryd.zeroValue137
 i64 := by kernel_rfl
 t66 := Tryd.underlying139
 a66 := Tryd.isAgg139
 z66 := Tryd.sizeOf139
 v66 := Tryd.zeroValue139
 i66 := by kernel_rfl
 t67 := Tryd.underlying140
 a67 := Tryd.isAgg140
 z67 := Tryd.sizeOf140
 v67 := Tryd.zeroValue140
 i67 := by kernel_rfl
 t75 := Tryd.underlying148
 a75 := Tryd.isAgg148
 z75 := Tryd.sizeOf148
 v75 := Tryd.zeroValue148
 i75 := by kernel_rfl
 t76 := Tryd.underlying149
 a76 := Tryd.isAgg149
 z76 := Tryd.sizeOf149
 v76 := Tryd.zeroValue149
 i76 := by kernel_rfl
 t77 := Tryd.underlying150
 a77 := Tryd.isAgg150
 z77 := Tryd.sizeOf150
 v77 := Tryd.zeroValue150
 i77 := by kernel_rfl
 t78 := Tryd.underlying151
 a78 := Tryd.isAgg151
 z78 := Tryd.sizeOf151
 v78 := Tryd.zeroValue151
 i78 := by kernel_rfl
 t79 := Tryd.underlying152
 a79 := Tryd.isAgg152
 z79 := Tryd.sizeOf152
 v79 := Tryd.zeroValue152
 i79 := by kernel_rfl
 t80 := Tryd.underlying153
 a80 := Tryd.isAgg153
 z80 := Tryd.sizeOf153
 v80 := Tryd.zeroValue153
 i80 := by kernel_rfl
 t82 := Tryd.underlying155
 a82 := Tryd.isAgg155
 z82 := Tryd.sizeOf155
 v82 := Tryd.zeroValue155
 i82 := by kernel_rfl }
end Go.Proofs

namespace Go.Proofs.YtgpnpfiafcakfaaDoor
open Go Go.RowKit
theorem ti_u8 : isInt Tryd.prog 5 .u8 = true := by kernel_rfl
theorem ti_i64 : isInt Tryd.prog 3 .i64 = true := by kernel_rfl
theorem ti_i16 : isInt Tryd.prog 38 .i16 = true := by kernel_rfl
theorem tb_bytes : byteSl Tryd.prog 22 5 = true := by kernel_rfl
theorem fo_tree3 : fieldOff Tryd.prog 35 3 = some 3 := by kernel_rfl
theorem fo_tree4 : fieldOff Tryd.prog 35 4 = some 4 := by kernel_rfl
theorem fo_tag0 : fieldOff Tryd.prog 50 0 = some 0 := by kernel_rfl
theorem fo_tag1 : fieldOff Tryd.prog 50 1 = some 1 := by kernel_rfl
theorem to_bool : tyOne Tryd.prog 4 = true := by kernel_rfl
theorem to_str : tyOne Tryd.prog 9 = true := by kernel_rfl
theorem to_bytes : tyOne Tryd.prog 22 = true := by kernel_rfl
theorem to_trees : tyOne Tryd.prog 32 = true := by kernel_rfl
theorem to_tags : tyOne Tryd.prog 33 = true := by kernel_rfl
theorem to_u32 : tyOne Tryd.prog 48 = true := by kernel_rfl
theorem to_i64 : tyOne Tryd.prog 2 = true := by kernel_rfl
theorem to_u8 : tyOne Tryd.prog 5 = true := by kernel_rfl
theorem ta_tree : tyAgg Tryd.prog 35 = some 5 := by kernel_rfl
theorem tz_tree : (Tryd.prog.info? 35).map (·.size) = some 5 := by kernel_rfl
theorem es_bytes : elemSize Tryd.prog 22 = some 1 := by kernel_rfl
theorem es_trees : elemSize Tryd.prog 32 = some 5 := by kernel_rfl
theorem es_tags : elemSize Tryd.prog 33 = some 2 := by kernel_rfl
theorem mixed : Tryd.prog.follows .mixedOrders = true := by kernel_rfl
theorem zv_tree (w : World) : (zeroValue 35).run Tryd.prog w = .ok (.agg #[.int .i64 0, .slice none 0 0, .bool false, .slice none 0 0, .slice none 0 0]) w := by kernel_rfl
def tbl : Tbl := ⟨[(35, 0, 0), (35, 1, 1), (35, 2, 2), (35, 3, 3), (35, 4, 4), (50, 0, 0), (50, 1, 1)], [22, 32, 33]⟩
theorem tbl_ok : tbl.ok Tryd.prog = true := by kernel_rfl
theorem ws {ops : Array Oper} {Q : Exit → Act → World → Prop} {N : Nat} {rest : List Oper} {L : Sl} {w : World} {d : Nat} {ty : TypeId} {pos : String} {aft : Array Edge} {o : Op} {v : Value}
  (hs : stepOp tbl L o = some v) (hd : Nat.blt d N = true) (h : WL rest Tryd.prog ops Q N ((d, v) :: L) w) : WL (⟨some d, o, ty, pos, aft, none⟩ :: rest) Tryd.prog ops Q N L w := wl_step tbl tbl_ok hs hd h
end Go.Proofs.YtgpnpfiafcakfaaDoor

namespace Go.Proofs.YtgpnpfiafcakfaaDoor.Rdk
open Go Go.RowKit
def tbl : Tbl := ⟨[(71, 0, 0), (71, 1, 1)], [22]⟩
theorem tbl_ok : tbl.ok Tryd.prog = true := by kernel_rfl
theorem ws {ops : Array Oper} {Q : Exit → Act → World → Prop} {N : Nat} {rest : List Oper} {L : Sl} {w : World} {d : Nat} {ty : TypeId} {pos : String} {aft : Array Edge} {o : Op} {v : Value}
  (hs : stepOp tbl L o = some v) (hd : Nat.blt d N = true) (h : WL rest Tryd.prog ops Q N ((d, v) :: L) w) : WL (⟨some d, o, ty, pos, aft, none⟩ :: rest) Tryd.prog ops Q N L w := wl_step tbl tbl_ok hs hd h
theorem to_bytes : tyOne Tryd.prog 22 = true := by kernel_rfl
theorem to_bool : tyOne Tryd.prog 4 = true := by kernel_rfl
theorem to_u8 : tyOne Tryd.prog 5 = true := by kernel_rfl
theorem es_bytes : elemSize Tryd.prog 22 = some 1 := by kernel_rfl
theorem fail_out {X : Prop} {p : Rp} {v : Value} {st : Option (List UInt8)} {s : List UInt8} {w w1 w2 : World} {rb sb lo : Nat} {e : TypeId} (hsh : shDs [D.lit v] = shR p) (h1 : v.cells = #[v]) (ho : v.oneCell' = true) (hst : (st = none ∧ X) ∨ st = some s) (hp : rdP p s = none)
  (g1 : w.grownBy w1 (some rb)) (g2 : w1.grownBy w2 (some rb)) (hb : Box w2 rb [.slice none 0 0, .bool true] e) :
  ∃ v' nd st', Ending.returned v = .returned v' ∧ Chg (· = rb) w w2 ∧ Rdr w2 rb sb st' ∧ Reps (Dk sb lo w2) w2 nd v'.cells.toList ∧ (v'.cells.toList.all fun v => v.oneCell') = true ∧ ((shR p).length = 1 → v'.cells = #[v']) ∧ RdRel p st nd st' := by
 refine ⟨v, [.lit v], none, rfl, (Chg.grown g1).trans (Chg.grown g2), ⟨e, hb⟩, ?_, by rw [h1]; simp [ho], fun _ => h1, hsh, fun d hd => by simp at hd; subst hd; rfl, ?_⟩
 ·rw [h1]; exact reps_lits [v]
 ·rcases hst with ⟨rfl, _⟩ | rfl
  ·rfl
  ·simp only [hp]
theorem ok_out {p : Rp} {v : Value} {s s' : List UInt8} {w w1 : World} {rb sb lo : Nat} {e : TypeId} {sv : Value} (hsh : shDs [D.lit v] = shR p) (h1 : v.cells = #[v]) (ho : v.oneCell' = true) (hp : rdP p s = some ([.lit v], s'))
  (g1 : w.grownBy w1 (some rb)) (hb : Box w1 rb [sv, .bool false] e) (hv : SrcV w sb sv s') (hn : sv ≠ .slice none 0 0) (hl : s'.length ≤ srcLim) (hne : rb ≠ sb) :
  ∃ v' nd st', Ending.returned v = .returned v' ∧ Chg (· = rb) w w1 ∧ Rdr w1 rb sb st' ∧ Reps (Dk sb lo w1) w1 nd v'.cells.toList ∧ (v'.cells.toList.all fun v => v.oneCell') = true ∧ ((shR p).length = 1 → v'.cells = #[v']) ∧ RdRel p (some s) nd st' := by
 refine ⟨v, [.lit v], some s', rfl, Chg.grown g1, (hv.chg (Chg.grown g1) (fun e => hne e.symm)).rdr hb (fun _ => hn) hl, ?_, by rw [h1]; simp [ho], fun _ => h1, hsh, fun d hd => by simp at hd; subst hd; rfl, ?_⟩
 ·rw [h1]; exact reps_lits [v]
 ·simp only [hp, and_self]
theorem rd_bool : RdC Tryd.prog 40 .bool := by
 intro w rb sb lo st hr h1 h2 h3 h4
 obtain ⟨a, c, s, e, hb, hle, hlim, hsv, hst⟩ := hr.view
 refine enter Tryd.func40 rfl Tryd.ntmps40 rfl ?_
 refine wc_seq (wc_region (wl_assign rfl rfl (wl_nil (qk_thn ?_))))
 refine wc_seq (wc_seq (wc_region ?_))
 refine ws rfl rfl ?_
 refine ws rfl rfl ?_
 refine ws rfl rfl ?_
 refine wl_loadB rfl to_bytes rfl hb rfl ?_
 refine ws rfl rfl ?_
 refine ws rfl rfl ?_
 refine wl_nil (qk_thn ?_)
 refine wc_cond rfl (fun hc => ?_) (fun hc => ?_)
 ·refine wc_seq (wc_region ?_)
  refine ws rfl rfl ?_
  refine ws rfl rfl ?_
  refine ws rfl rfl ?_
  refine wl_storeB rfl rfl to_bool rfl hb rfl (fun w1 hb1 g1 _ => ?_)
  refine wl_nil (qk_thn ?_)
  refine wc_seq (wc_region ?_)
  refine ws rfl rfl ?_
  refine ws rfl rfl ?_
  refine ws rfl rfl ?_
  refine wl_storeB rfl rfl to_bytes rfl hb1 rfl (fun w2 hb2 g2 _ => ?_)
  refine wl_nil (qk_thn ?_)
  refine wc_seq (wc_region ?_)
  refine ws rfl rfl ?_
  refine wl_nil (qk_thn (wc_ret (qk_thn_ret (qk_ret1 rfl rfl ?_))))
  have hs : s = [] := by simp at hc; cases s with | nil => rfl | cons x s => simp at hc; omega
  exact fail_out rfl rfl rfl hst (by rw [hs]; rfl) g1 g2 hb2
 ·have hs : 1 ≤ s.length := by simp at hc; omega
  obtain rfl : st = some s := by
   rcases hst with ⟨_, h, _⟩ | h
   ·rw [h] at hs; simp at hs
   ·exact h
  obtain ⟨o, rfl, hc0⟩ := hsv.cell (i := 0) (by omega)
  refine wc_skip (qk_thn (wc_seq (wc_region ?_)))
  refine ws rfl rfl ?_
  refine ws rfl rfl ?_
  refine ws rfl rfl ?_
  refine wl_loadB rfl to_bytes rfl hb rfl ?_
  refine wl_indexAddr rfl rfl es_bytes rfl hs ?_
  refine wl_load rfl to_u8 rfl hc0 ?_
  refine ws rfl rfl ?_
  refine ws rfl rfl ?_
  refine wl_nil (qk_thn (wc_seq (wc_region ?_)))
  refine ws rfl rfl ?_
  refine ws rfl rfl ?_
  refine ws rfl rfl ?_
  refine ws rfl rfl ?_
  refine wl_loadB rfl to_bytes rfl hb rfl ?_
  refine wl_sliceLo (m := 1) rfl rfl es_bytes rfl hs ?_
  refine ws rfl rfl ?_
  refine ws rfl rfl ?_
  refine wl_storeB rfl rfl to_bytes rfl hb rfl (fun w1 hb1 g1 _ => ?_)
  refine wl_nil (qk_thn (wc_seq (wc_region ?_)))
  refine ws rfl rfl ?_
  refine ws rfl rfl ?_
  refine wl_nil (qk_thn (wc_ret (qk_ret1 rfl rfl ?_)))
  refine ok_out rfl rfl rfl ?_ g1 hb1 (hsv.drop hs) nn_drop (by simp; omega) h4
  cases s with
  | nil => simp at hs
  | cons x s =>
   simp [rdP]
   by_cases h : x = 0
   ·subst h; rfl
   ·have : x.toNat ≠ 0 := fun e => h (UInt8.toNat_inj.1 e)
    simp [h]
    exact this
end Go.Proofs.YtgpnpfiafcakfaaDoor.Rdk

namespace Go.Proofs.YtgpnpfiafcakfaaDoor.Rdk
open Go Go.RowKit
section
variable {P : Program} {a : Act} {w : World} {N : Nat} {L : Sl} {d : Option Tmp} {ty : TypeId} {pos : String} {aft : Array Edge} {g : Option (Nat × Bool)}
theorem rn_conv (k' : IntKind) {x : Operand} {s t : TypeId} {kk : IntKind} {n r : Int} (k : Kn N a L) (hx : ev L x = some (.int kk n)) (hs : isInt P s kk = true) (ht : isInt P t k' = true) (hr : k'.wrap n = r) :
  (execOp a.eval ⟨d, .convert s t x, ty, pos, aft, g⟩).run P w = .ok (.value (.int k' r)) w := by
 have hs' := isInt_out hs
 have ht' := isInt_out ht
 simp [execOp, k.eval hx, convert, run_underlying hs', run_underlying ht', Conv.intToInt, hr]
theorem rn_shl {x : Operand} {t u : TypeId} {kk yk : IntKind} {m s r : Int} (k : Kn N a L) (hx : ev L x = some (.int kk m)) (h0 : 0 ≤ s) (h1 : s ≤ kk.bits) (hr : kk.wrap (m * 2 ^ s.toNat) = r) :
  (execOp a.eval ⟨d, .binOp .shl t x (.const (.int yk s)) u, ty, pos, aft, g⟩).run P w = .ok (.value (.int kk r)) w := by
 simp only [execOp, k.eval hx, eval_const]
 simp [eqGuard, binOp, shift_shl kk yk m s h0 h1, hr]
theorem rn_or {x y : Operand} {t u : TypeId} {kk : IntKind} {m n r : Int} (k : Kn N a L) (hx : ev L x = some (.int kk m)) (hy : ev L y = some (.int kk n)) (hr : bits .or kk m n = r) :
  (execOp a.eval ⟨d, .binOp .or t x y u, ty, pos, aft, g⟩).run P w = .ok (.value (.int kk r)) w := by
 simp only [execOp, k.eval hx, k.eval hy]
 simp [eqGuard, binOp, intBits_or, hr]
end
theorem or_add (k : IntKind) (j : Nat) (hj : j ≤ k.bits) (hk : ∀ n : Int, 0 ≤ n → n < 2 ^ j → k.wrap n = n) (a x s : Nat) (ha : a < 2 ^ s) (ha2 : a < 2 ^ j) (hx : x * 2 ^ s < 2 ^ j) : bits .or k (a : Int) ((x * 2 ^ s : Nat) : Int) = ((a + x * 2 ^ s : Nat) : Int) := by
 rw [(bits_nat k j hj hk a (x * 2 ^ s) ha2 hx).2, Nat.mul_comm x (2 ^ s), Nat.or_comm, ← Nat.two_pow_add_eq_or_of_lt ha, Nat.add_comm]
theorem be16 (w : World) (sb : Nat) (a : Option Addr) (c : Nat) (s : List UInt8) (hsv : SrcV w sb (.slice a s.length c) s) (h : 2 ≤ s.length) : Calls Tryd.prog 50 #[.agg #[], .slice a s.length c] w fun e w' => e = .returned (.int .u16 (unbe (s.take 2))) ∧ Chg (fun _ => False) w w' := by
 obtain ⟨b0, b1, r, rfl⟩ : ∃ b0 b1 r, s = b0 :: b1 :: r := by
  obtain ⟨b0, s, rfl⟩ : ∃ x y, s = x :: y := by cases s with | nil => simp at h | cons x y => exact ⟨x, y, rfl⟩
  obtain ⟨b1, s, rfl⟩ : ∃ x y, s = x :: y := by cases s with | nil => simp at h | cons x y => exact ⟨x, y, rfl⟩
  exact ⟨b0, b1, s, rfl⟩
 obtain ⟨o, rfl, hc0⟩ := hsv.cell (i := 0) (by simp)
 have hc1 : w.cell? ⟨sb, o + 1 * 1, none⟩ = some (.int .u8 b1.toNat) := by obtain ⟨o', e, hc⟩ := hsv.cell (i := 1) (by simp); cases e; exact hc
 simp only [List.getElem_cons_zero] at hc0
 have l0 := b0.toNat_lt
 have l1 := b1.toNat_lt
 have eu : unbe ((b0 :: b1 :: r).take 2) = b1.toNat + b0.toNat * 2 ^ 8 := by
  simp only [List.take_succ_cons, List.take_zero, unbe, List.foldl_cons, List.foldl_nil]; omega
 rw [eu]
 generalize hx0 : b0.toNat = x0 at *
 generalize hx1 : b1.toNat = x1 at *
 have hlen : 2 ≤ (b0 :: b1 :: r).length := h
 generalize hn : (b0 :: b1 :: r).length = m at *
 refine enter Tryd.func50 rfl Tryd.ntmps50 rfl ?_
 refine wc_seq (wc_region (wl_box rfl rfl (wl_assign rfl rfl (wl_nil (qk_thn ?_)))))
 have hal : Chg (fun _ => False) w (w.alloc (.cells (Value.agg #[]).cells 96)) := chg_alloc w _ _
 have cell : ∀ (i : Nat) (v : Value), w.cell? ⟨sb, o + i * 1, none⟩ = some v → (w.alloc (.cells (Value.agg #[]).cells 96)).cell? ⟨sb, o + i * 1, none⟩ = some v := by
  intro i v hv
  have : sb < w.heap.size := by
   simp only [World.cell?] at hv
   cases hx : w.heap[sb]? with
   | none => rw [hx] at hv; simp at hv
   | some _ => exact (Array.getElem?_eq_some_iff.1 hx).1
  simp only [World.cell?] at hv ⊢
  rw [hal.block sb this id]; exact hv
 replace hc0 := cell 0 _ hc0
 replace hc1 := cell 1 _ hc1
 clear cell
 generalize w.alloc (.cells (Value.agg #[]).cells 96) = w1 at *
 refine wc_seq (wc_region (wl_move rfl rfl (wl_indexAddr (i := 1) rfl rfl es_bytes rfl (by omega) (wl_load rfl to_u8 rfl hc1 (wl_nil (qk_thn ?_))))))
 refine wc_seq (wc_sub (L' := [(1, .slice (some ⟨sb, o, none⟩) m c)]) ⟨rfl, trivial⟩ (wc_par [(0, .slice (some ⟨sb, o, none⟩) m c), (1, .pointer (some ⟨sb, o + 1 * 1, none⟩)), (2, .int .u8 (x1 : Nat)), (3, .int .u16 (x1 : Nat)), (4, .slice (some ⟨sb, o, none⟩) m c), (5, .pointer (some ⟨sb, o + 0 * 1, none⟩)), (6, .int .u8 (x0 : Nat)), (7, .int .u16 (x0 : Nat)), (8, .int .u16 ((x0 * 2 ^ 8 : Nat) : Int)), (9, .int .u16 ((x1 + x0 * 2 ^ 8 : Nat) : Int)), (10, .int .u16 ((x1 + x0 * 2 ^ 8 : Nat) : Int))] [] (fun _ w' => Chg (fun _ => False) w w' ∧ w'.cell? ⟨sb, o + 0 * 1, none⟩ = some (.int .u8 (x0 : Nat)) ∧ w'.cell? ⟨sb, o + 1 * 1, none⟩ = some (.int .u8 (x1 : Nat)))
  mixed rfl rfl rfl rfl rfl (by show ([0,1,2,3,4,5,6,7,8,9,10] : List Nat).Nodup; decide) rfl rfl (by decide) rfl rfl rfl rfl ⟨hal.trans (chg_drew w1 _), hc0, hc1⟩ ?_ trivial ?_))
 ·intro p hp vals w' hC a k
  simp only [List.mem_cons, List.not_mem_nil, or_false] at hp
  rcases hp with rfl | rfl | rfl | rfl | rfl | rfl | rfl | rfl | rfl | rfl | rfl
  ·exact gv rfl rfl (rn_move k rfl)
  ·exact gv rfl rfl (rn_indexAddr k rfl rfl es_bytes (by omega))
  ·exact gv rfl rfl (rn_load k rfl to_u8 hC.2.2)
  ·exact gv rfl rfl (rn_conv .u16 k rfl (by kernel_rfl) (by kernel_rfl) (by rw [IntKind.wrap_u16]; omega))
  ·exact gv rfl rfl (rn_move k rfl)
  ·exact gv rfl rfl (rn_indexAddr k rfl rfl es_bytes (by omega))
  ·exact gv rfl rfl (rn_load k rfl to_u8 hC.2.1)
  ·exact gv rfl rfl (rn_conv .u16 k rfl (by kernel_rfl) (by kernel_rfl) (by rw [IntKind.wrap_u16]; omega))
  ·exact gv rfl rfl (rn_shl k rfl (by decide) (by decide) (by rw [IntKind.wrap_u16]; simp; omega))
  ·exact gv rfl rfl (rn_or k rfl rfl (or_add .u16 16 (by decide) (fun n h0 h1 => by rw [IntKind.wrap_u16]; omega) _ _ _ (by omega) (by omega) (by omega)))
  ·exact gv rfl rfl (rn_assign k rfl)
 ·rintro vals w' hvl ⟨hw', _⟩
  exact qk_thn (wc_ret (qk_ret1 rfl rfl ⟨rfl, hw'⟩))
theorem be32 (w : World) (sb : Nat) (a : Option Addr) (c : Nat) (s : List UInt8) (hsv : SrcV w sb (.slice a s.length c) s) (h : 4 ≤ s.length) : Calls Tryd.prog 48 #[.agg #[], .slice a s.length c] w fun e w' => e = .returned (.int .u32 (unbe (s.take 4))) ∧ Chg (fun _ => False) w w' := by
 obtain ⟨b0, b1, b2, b3, r, rfl⟩ : ∃ b0 b1 b2 b3 r, s = b0 :: b1 :: b2 :: b3 :: r := by
  obtain ⟨b0, s, rfl⟩ : ∃ x y, s = x :: y := by cases s with | nil => simp at h | cons x y => exact ⟨x, y, rfl⟩
  obtain ⟨b1, s, rfl⟩ : ∃ x y, s = x :: y := by cases s with | nil => simp at h | cons x y => exact ⟨x, y, rfl⟩
  obtain ⟨b2, s, rfl⟩ : ∃ x y, s = x :: y := by cases s with | nil => simp at h | cons x y => exact ⟨x, y, rfl⟩
  obtain ⟨b3, s, rfl⟩ : ∃ x y, s = x :: y := by cases s with | nil => simp at h | cons x y => exact ⟨x, y, rfl⟩
  exact ⟨b0, b1, b2, b3, s, rfl⟩
 obtain ⟨o, rfl, hc0⟩ := hsv.cell (i := 0) (by simp)
 have hc1 : w.cell? ⟨sb, o + 1 * 1, none⟩ = some (.int .u8 b1.toNat) := by obtain ⟨o', e, hc⟩ := hsv.cell (i := 1) (by simp); cases e; exact hc
 have hc2 : w.cell? ⟨sb, o + 2 * 1, none⟩ = some (.int .u8 b2.toNat) := by obtain ⟨o', e, hc⟩ := hsv.cell (i := 2) (by simp); cases e; exact hc
 have hc3 : w.cell? ⟨sb, o + 3 * 1, none⟩ = some (.int .u8 b3.toNat) := by obtain ⟨o', e, hc⟩ := hsv.cell (i := 3) (by simp); cases e; exact hc
 simp only [List.getElem_cons_zero] at hc0
 have l0 := b0.toNat_lt
 have l1 := b1.toNat_lt
 have l2 := b2.toNat_lt
 have l3 := b3.toNat_lt
 have eu : unbe ((b0 :: b1 :: b2 :: b3 :: r).take 4) = b3.toNat + b2.toNat * 2 ^ 8 + b1.toNat * 2 ^ 16 + b0.toNat * 2 ^ 24 := by
  simp only [List.take_succ_cons, List.take_zero, unbe, List.foldl_cons, List.foldl_nil]; omega
 rw [eu]
 generalize hx0 : b0.toNat = x0 at *
 generalize hx1 : b1.toNat = x1 at *
 generalize hx2 : b2.toNat = x2 at *
 generalize hx3 : b3.toNat = x3 at *
 have hlen : 4 ≤ (b0 :: b1 :: b2 :: b3 :: r).length := h
 generalize hn : (b0 :: b1 :: b2 :: b3 :: r).length = m at *
 refine enter Tryd.func48 rfl Tryd.ntmps48 rfl ?_
 refine wc_seq (wc_region (wl_box rfl rfl (wl_assign rfl rfl (wl_nil (qk_thn ?_)))))
 have hal : Chg (fun _ => False) w (w.alloc (.cells (Value.agg #[]).cells 96)) := chg_alloc w _ _
 have cell : ∀ (i : Nat) (v : Value), w.cell? ⟨sb, o + i * 1, none⟩ = some v → (w.alloc (.cells (Value.agg #[]).cells 96)).cell? ⟨sb, o + i * 1, none⟩ = some v := by
  intro i v hv
  have : sb < w.heap.size := by
   simp only [World.cell?] at hv
   cases hx : w.heap[sb]? with
   | none => rw [hx] at hv; simp at hv
   | some _ => exact (Array.getElem?_eq_some_iff.1 hx).1
  simp only [World.cell?] at hv ⊢
  rw [hal.block sb this id]; exact hv
 replace hc0 := cell 0 _ hc0
 replace hc1 := cell 1 _ hc1
 replace hc2 := cell 2 _ hc2
 replace hc3 := cell 3 _ hc3
 clear cell
 generalize w.alloc (.cells (Value.agg #[]).cells 96) = w1 at *
 refine wc_seq (wc_region (wl_move rfl rfl (wl_indexAddr (i := 3) rfl rfl es_bytes rfl (by omega) (wl_load rfl to_u8 rfl hc3 (wl_nil (qk_thn ?_))))))
 refine wc_seq (wc_sub (L' := [(1, .slice (some ⟨sb, o, none⟩) m c)]) ⟨rfl, trivial⟩ (wc_par [(0, .slice (some ⟨sb, o, none⟩) m c), (1, .pointer (some ⟨sb, o + 3 * 1, none⟩)), (2, .int .u8 (x3 : Nat)), (3, .int .u32 (x3 : Nat)), (4, .slice (some ⟨sb, o, none⟩) m c), (5, .pointer (some ⟨sb, o + 2 * 1, none⟩)), (6, .int .u8 (x2 : Nat)), (7, .int .u32 (x2 : Nat)), (8, .int .u32 ((x2 * 2 ^ 8 : Nat) : Int)), (9, .int .u32 ((x3 + x2 * 2 ^ 8 : Nat) : Int)), (10, .slice (some ⟨sb, o, none⟩) m c), (11, .pointer (some ⟨sb, o + 1 * 1, none⟩)), (12, .int .u8 (x1 : Nat)), (13, .int .u32 (x1 : Nat)), (14, .int .u32 ((x1 * 2 ^ 16 : Nat) : Int)), (15, .int .u32 ((x3 + x2 * 2 ^ 8 + x1 * 2 ^ 16 : Nat) : Int)), (16, .slice (some ⟨sb, o, none⟩) m c), (17, .pointer (some ⟨sb, o + 0 * 1, none⟩)), (18, .int .u8 (x0 : Nat)), (19, .int .u32 (x0 : Nat)), (20, .int .u32 ((x0 * 2 ^ 24 : Nat) : Int)), (21, .int .u32 ((x3 + x2 * 2 ^ 8 + x1 * 2 ^ 16 + x0 * 2 ^ 24 : Nat) : Int)), (22, .int .u32 ((x3 + x2 * 2 ^ 8 + x1 * 2 ^ 16 + x0 * 2 ^ 24 : Nat) : Int))] [] (fun _ w' => Chg (fun _ => False) w w' ∧ w'.cell? ⟨sb, o + 0 * 1, none⟩ = some (.int .u8 (x0 : Nat)) ∧ w'.cell? ⟨sb, o + 1 * 1, none⟩ = some (.int .u8 (x1 : Nat)) ∧ w'.cell? ⟨sb, o + 2 * 1, none⟩ = some (.int .u8 (x2 : Nat)) ∧ w'.cell? ⟨sb, o + 3 * 1, none⟩ = some (.int .u8 (x3 : Nat)))
  mixed rfl rfl rfl rfl rfl (by show ([0,1,2,3,4,5,6,7,8,9,10,11,12,13,14,15,16,17,18,19,20,21,22] : List Nat).Nodup; decide) rfl rfl (by decide) rfl rfl rfl rfl ⟨hal.trans (chg_drew w1 _), hc0, hc1, hc2, hc3⟩ ?_ trivial ?_))
 ·intro p hp vals w' hC a k
  simp only [List.mem_cons, List.not_mem_nil, or_false] at hp
  rcases hp with rfl | rfl | rfl | rfl | rfl | rfl | rfl | rfl | rfl | rfl | rfl | rfl | rfl | rfl | rfl | rfl | rfl | rfl | rfl | rfl | rfl | rfl | rfl
  ·exact gv rfl rfl (rn_move k rfl)
  ·exact gv rfl rfl (rn_indexAddr k rfl rfl es_bytes (by omega))
  ·exact gv rfl rfl (rn_load k rfl to_u8 hC.2.2.2.2)
  ·exact gv rfl rfl (rn_conv .u32 k rfl (by kernel_rfl) (by kernel_rfl) (by rw [IntKind.wrap_u32]; omega))
  ·exact gv rfl rfl (rn_move k rfl)
  ·exact gv rfl rfl (rn_indexAddr k rfl rfl es_bytes (by omega))
  ·exact gv rfl rfl (rn_load k rfl to_u8 hC.2.2.2.1)
  ·exact gv rfl rfl (rn_conv .u32 k rfl (by kernel_rfl) (by kernel_rfl) (by rw [IntKind.wrap_u32]; omega))
  ·exact gv rfl rfl (rn_shl k rfl (by decide) (by decide) (by rw [IntKind.wrap_u32]; simp; omega))
  ·exact gv rfl rfl (rn_or k rfl rfl (or_add .u32 32 (by decide) (fun n h0 h1 => by rw [IntKind.wrap_u32]; omega) _ _ _ (by omega) (by omega) (by omega)))
  ·exact gv rfl rfl (rn_move k rfl)
  ·exact gv rfl rfl (rn_indexAddr k rfl rfl es_bytes (by omega))
  ·exact gv rfl rfl (rn_load k rfl to_u8 hC.2.2.1)
  ·exact gv rfl rfl (rn_conv .u32 k rfl (by kernel_rfl) (by kernel_rfl) (by rw [IntKind.wrap_u32]; omega))
  ·exact gv rfl rfl (rn_shl k rfl (by decide) (by decide) (by rw [IntKind.wrap_u32]; simp; omega))
  ·exact gv rfl rfl (rn_or k rfl rfl (or_add .u32 32 (by decide) (fun n h0 h1 => by rw [IntKind.wrap_u32]; omega) _ _ _ (by omega) (by omega) (by omega)))
  ·exact gv rfl rfl (rn_move k rfl)
  ·exact gv rfl rfl (rn_indexAddr k rfl rfl es_bytes (by omega))
  ·exact gv rfl rfl (rn_load k rfl to_u8 hC.2.1)
  ·exact gv rfl rfl (rn_conv .u32 k rfl (by kernel_rfl) (by kernel_rfl) (by rw [IntKind.wrap_u32]; omega))
  ·exact gv rfl rfl (rn_shl k rfl (by decide) (by decide) (by rw [IntKind.wrap_u32]; simp; omega))
  ·exact gv rfl rfl (rn_or k rfl rfl (or_add .u32 32 (by decide) (fun n h0 h1 => by rw [IntKind.wrap_u32]; omega) _ _ _ (by omega) (by omega) (by omega)))
  ·exact gv rfl rfl (rn_assign k rfl)
 ·rintro vals w' hvl ⟨hw', _⟩
  exact qk_thn (wc_ret (qk_ret1 rfl rfl ⟨rfl, hw'⟩))
end Go.Proofs.YtgpnpfiafcakfaaDoor.Rdk

namespace Go.Proofs.YtgpnpfiafcakfaaDoor.Rdk
open Go Go.RowKit
set_option maxRecDepth 100000
theorem does_conv {P : Program} {N : Nat} {L : Sl} {a : Act} {w : World} {d : Option Nat} {ty : TypeId} {pos : String} {aft : Array Edge} {g : Option (Nat × Bool)} (k' : IntKind) {x : Operand} {s t : TypeId} {kk : IntKind} {n : Int} {R : Value → World → Prop} (k : Kn N a L) (hx : ev L x = some (.int kk n)) (hs : isInt P s kk = true) (ht : isInt P t k' = true) (h : R (.int k' (k'.wrap n)) w) : Does P ⟨d, .convert s t x, ty, pos, aft, g⟩ a w R :=
 does_of (rn_conv k' k hx hs ht rfl) h
theorem intP_none {k : IntKind} {n : Nat} {s : List UInt8} (h : s.length < n) : intP k n s = none := by simp only [intP, takeN]; rw [if_neg (by omega)]; rfl
theorem intP_some {k : IntKind} {n : Nat} {s : List UInt8} (h : n ≤ s.length) : intP k n s = some (k.wrap (unbe (s.take n)), s.drop n) := by simp only [intP, takeN]; rw [if_pos h]; rfl
theorem ta_be : tyAgg Tryd.prog 96 = some 0 := by kernel_rfl
theorem fo_rd0 : fieldOff Tryd.prog 71 0 = some 0 := by kernel_rfl
theorem ok_outC {p : Rp} {v : Value} {s s' : List UInt8} {w0 w w1 : World} {rb sb lo : Nat} {e : TypeId} {sv : Value} (h0 : Chg (fun _ => False) w0 w) (hsh : shDs [D.lit v] = shR p) (h1 : v.cells = #[v]) (ho : v.oneCell' = true) (hp : rdP p s = some ([.lit v], s'))
  (g1 : w.grownBy w1 (some rb)) (hb : Box w1 rb [sv, .bool false] e) (hv : SrcV w0 sb sv s') (hn : sv ≠ .slice none 0 0) (hl : s'.length ≤ srcLim) (hne : rb ≠ sb) :
  ∃ v' nd st', Ending.returned v = .returned v' ∧ Chg (· = rb) w0 w1 ∧ Rdr w1 rb sb st' ∧ Reps (Dk sb lo w1) w1 nd v'.cells.toList ∧ (v'.cells.toList.all fun v => v.oneCell') = true ∧ ((shR p).length = 1 → v'.cells = #[v']) ∧ RdRel p (some s) nd st' := by
 obtain ⟨v', nd, st', a1, a2, a3⟩ := ok_out (lo := lo) hsh h1 ho hp g1 hb (hv.chg h0 id) hn hl hne
 exact ⟨v', nd, st', a1, (h0.wide (fun _ h => h.elim)).trans a2, a3⟩
theorem rd_Int8 : RdC Tryd.prog 34 .i8 := by
 intro w rb sb lo st hr h1 h2 h3 h4
 obtain ⟨a, c, s, e, hb, hle, hlim, hsv, hst⟩ := hr.view
 refine enter Tryd.func34 rfl Tryd.ntmps34 rfl ?_
 refine wc_seq (wc_region (wl_assign rfl rfl (wl_nil (qk_thn ?_))))
 refine wc_seq (wc_seq (wc_region ?_))
 refine ws rfl rfl ?_
 refine ws rfl rfl ?_
 refine ws rfl rfl ?_
 refine wl_loadB rfl to_bytes rfl hb rfl ?_
 refine ws rfl rfl ?_
 refine ws rfl rfl ?_
 refine wl_nil (qk_thn ?_)
 refine wc_cond rfl (fun hc => ?_) (fun hc => ?_)
 ·refine wc_seq (wc_region ?_)
  refine ws rfl rfl ?_
  refine ws rfl rfl ?_
  refine ws rfl rfl ?_
  refine wl_storeB rfl rfl to_bool rfl hb rfl (fun w1 hb1 g1 _ => ?_)
  refine wl_nil (qk_thn ?_)
  refine wc_seq (wc_region ?_)
  refine ws rfl rfl ?_
  refine ws rfl rfl ?_
  refine ws rfl rfl ?_
  refine wl_storeB rfl rfl to_bytes rfl hb1 rfl (fun w2 hb2 g2 _ => ?_)
  refine wl_nil (qk_thn ?_)
  refine wc_seq (wc_region ?_)
  refine ws rfl rfl ?_
  refine wl_nil (qk_thn (wc_ret (qk_thn_ret (qk_ret1 rfl rfl ?_))))
  have hs : s.length < 1 := by simp at hc; omega
  exact fail_out rfl rfl rfl hst (by simp only [rdP, intP_none hs, Option.map_none]) g1 g2 hb2
 ·have hs : 1 ≤ s.length := by simp at hc; omega
  obtain rfl : st = some s := by
   rcases hst with ⟨_, h, _⟩ | h
   ·rw [h] at hs; simp at hs
   ·exact h
  refine wc_skip (qk_thn (wc_seq ?_))
  obtain ⟨o, rfl, hc0⟩ := hsv.cell (i := 0) (by omega)
  refine wc_region ?_
  refine ws rfl rfl ?_
  refine ws rfl rfl ?_
  refine ws rfl rfl ?_
  refine wl_loadB rfl to_bytes rfl hb rfl ?_
  refine wl_indexAddr rfl rfl es_bytes rfl hs ?_
  refine wl_load rfl to_u8 rfl hc0 ?_
  refine ws rfl rfl ?_
  refine wl_nil (qk_thn (wc_seq (wc_region ?_)))
  refine ws rfl rfl ?_
  refine ws rfl rfl ?_
  refine ws rfl rfl ?_
  refine ws rfl rfl ?_
  refine wl_loadB rfl to_bytes rfl hb rfl ?_
  refine wl_sliceLo (m := 1) rfl rfl es_bytes rfl hs ?_
  refine ws rfl rfl ?_
  refine ws rfl rfl ?_
  refine wl_storeB rfl rfl to_bytes rfl hb rfl (fun w1 hb1 g1 _ => ?_)
  refine wl_nil (qk_thn (wc_seq (wc_region ?_)))
  refine ws rfl rfl ?_
  refine wl_conv .i8 rfl (by kernel_rfl) (by kernel_rfl) rfl rfl ?_
  refine ws rfl rfl ?_
  refine wl_nil (qk_thn (wc_ret (qk_ret1 rfl rfl ?_)))
  refine ok_out (by simp [shDs, shD, shR, wrap_wrap]) rfl rfl ?_ g1 hb1 (hsv.drop hs) (hr.nn_drop hb hsv (hr.nz (by rintro rfl; simp at hs))) (by simp; omega) h4
  rw [rdP, intP_some hs]
  cases s with
  | nil => simp at hs
  | cons x s => simp [unbe]
theorem rd_Int16 : RdC Tryd.prog 29 .i16 := by
 intro w rb sb lo st hr h1 h2 h3 h4
 obtain ⟨a, c, s, e, hb, hle, hlim, hsv, hst⟩ := hr.view
 refine enter Tryd.func29 rfl Tryd.ntmps29 rfl ?_
 refine wc_seq (wc_region (wl_assign rfl rfl (wl_nil (qk_thn ?_))))
 refine wc_seq (wc_seq (wc_region ?_))
 refine ws rfl rfl ?_
 refine ws rfl rfl ?_
 refine ws rfl rfl ?_
 refine wl_loadB rfl to_bytes rfl hb rfl ?_
 refine ws rfl rfl ?_
 refine ws rfl rfl ?_
 refine wl_nil (qk_thn ?_)
 refine wc_cond rfl (fun hc => ?_) (fun hc => ?_)
 ·refine wc_seq (wc_region ?_)
  refine ws rfl rfl ?_
  refine ws rfl rfl ?_
  refine ws rfl rfl ?_
  refine wl_storeB rfl rfl to_bool rfl hb rfl (fun w1 hb1 g1 _ => ?_)
  refine wl_nil (qk_thn ?_)
  refine wc_seq (wc_region ?_)
  refine ws rfl rfl ?_
  refine ws rfl rfl ?_
  refine ws rfl rfl ?_
  refine wl_storeB rfl rfl to_bytes rfl hb1 rfl (fun w2 hb2 g2 _ => ?_)
  refine wl_nil (qk_thn ?_)
  refine wc_seq (wc_region ?_)
  refine ws rfl rfl ?_
  refine wl_nil (qk_thn (wc_ret (qk_thn_ret (qk_ret1 rfl rfl ?_))))
  have hs : s.length < 2 := by simp at hc; omega
  exact fail_out rfl rfl rfl hst (by simp only [rdP, intP_none hs, Option.map_none]) g1 g2 hb2
 ·have hs : 2 ≤ s.length := by simp at hc; omega
  obtain rfl : st = some s := by
   rcases hst with ⟨_, h, _⟩ | h
   ·rw [h] at hs; simp at hs
   ·exact h
  refine wc_skip (qk_thn (wc_seq ?_))
  refine wc_par [(0, .agg (([] : List Value).toArray)), (1, .pointer (some ⟨rb, 0, none⟩)), (2, .pointer (some ⟨rb, 0, none⟩)), (3, .pointer (some ⟨rb, 0 + 0, none⟩)), (4, .slice a s.length c)] [7, 6, 5] (fun vals w' => Chg (fun _ => False) w w' ∧ match vals with | [] => True | [v] => v = .int .u16 (unbe (s.take 2)) | v :: _ => v = .int .i16 (IntKind.i16.wrap (unbe (s.take 2)))) mixed rfl rfl rfl rfl rfl (by show ([0,1,2,3,4] : List Nat).Nodup; decide) rfl rfl (by decide) rfl rfl rfl rfl ⟨chg_drew w _, trivial⟩ ?_ ⟨?_, ?_, ?_, trivial⟩ ?_
  ·intro p hp vals w' hC a' k
   simp only [List.mem_cons, List.not_mem_nil, or_false] at hp
   rcases hp with rfl | rfl | rfl | rfl | rfl
   ·exact gv rfl rfl (rn_loadAgg (cs := []) k rfl ta_be (fun j v h => by simp at h))
   ·exact gv rfl rfl (rn_move k rfl)
   ·exact gv rfl rfl (rn_nilCheck k rfl)
   ·exact gv rfl rfl (rn_fieldAddr k rfl fo_rd0)
   ·exact gv rfl rfl (rn_load k rfl to_bytes ((hb.chg hC.1 id).cell rfl))
  ·rintro vals w' hvl ⟨hw', hC⟩ a' k
   match vals, hvl with
   | [v6, v5], _ => exact ⟨_, rfl, does_assign k rfl ⟨hw', hC⟩⟩
  ·rintro vals w' hvl ⟨hw', hC⟩ a' k
   match vals, hvl with
   | [v5], _ =>
    simp only [] at hC
    subst hC
    exact ⟨_, rfl, does_conv .i16 k rfl (by kernel_rfl) (by kernel_rfl) ⟨hw', rfl⟩⟩
  ·rintro vals w' hvl hC a' k
   match vals, hvl with
   | [], _ =>
    refine ⟨_, rfl, does_call k rfl (by kernel_rfl) ((be16 w' sb a c s (hsv.chg hC.1 id) hs).mono ?_)⟩
    rintro e w'' ⟨rfl, hc''⟩
    exact ⟨_, rfl, hC.1.trans hc'', rfl⟩
  ·rintro vals w' hvl ⟨hw', hC⟩
   match vals, hvl with
   | [v7, v6, v5], _ =>
    simp only [] at hC
    subst hC
    have hb' := hb.chg hw' id
    refine qk_thn (wc_seq (wc_region ?_))
    refine ws rfl rfl ?_
    refine ws rfl rfl ?_
    refine ws rfl rfl ?_
    refine ws rfl rfl ?_
    refine wl_loadB rfl to_bytes rfl hb' rfl ?_
    refine wl_sliceLo (m := 2) rfl rfl es_bytes rfl hs ?_
    refine ws rfl rfl ?_
    refine ws rfl rfl ?_
    refine wl_storeB rfl rfl to_bytes rfl hb' rfl (fun w1 hb1 g1 _ => ?_)
    refine wl_nil (qk_thn (wc_seq (wc_region ?_)))
    refine ws rfl rfl ?_
    refine ws rfl rfl ?_
    refine wl_nil (qk_thn (wc_ret (qk_ret1 rfl rfl ?_)))
    exact ok_outC (v := .int .i16 (IntKind.i16.wrap (unbe (s.take 2)))) hw' (by simp [shDs, shD, shR, wrap_wrap]) rfl rfl (by rw [rdP, intP_some hs]; rfl) g1 hb1 (hsv.drop hs) (hr.nn_drop hb hsv (hr.nz (by rintro rfl; simp at hs))) (by simp; omega) h4
theorem rd_Int32 : RdC Tryd.prog 23 .i32 := by
 intro w rb sb lo st hr h1 h2 h3 h4
 obtain ⟨a, c, s, e, hb, hle, hlim, hsv, hst⟩ := hr.view
 refine enter Tryd.func23 rfl Tryd.ntmps23 rfl ?_
 refine wc_seq (wc_region (wl_assign rfl rfl (wl_nil (qk_thn ?_))))
 refine wc_seq (wc_seq (wc_region ?_))
 refine ws rfl rfl ?_
 refine ws rfl rfl ?_
 refine ws rfl rfl ?_
 refine wl_loadB rfl to_bytes rfl hb rfl ?_
 refine ws rfl rfl ?_
 refine ws rfl rfl ?_
 refine wl_nil (qk_thn ?_)
 refine wc_cond rfl (fun hc => ?_) (fun hc => ?_)
 ·refine wc_seq (wc_region ?_)
  refine ws rfl rfl ?_
  refine ws rfl rfl ?_
  refine ws rfl rfl ?_
  refine wl_storeB rfl rfl to_bool rfl hb rfl (fun w1 hb1 g1 _ => ?_)
  refine wl_nil (qk_thn ?_)
  refine wc_seq (wc_region ?_)
  refine ws rfl rfl ?_
  refine ws rfl rfl ?_
  refine ws rfl rfl ?_
  refine wl_storeB rfl rfl to_bytes rfl hb1 rfl (fun w2 hb2 g2 _ => ?_)
  refine wl_nil (qk_thn ?_)
  refine wc_seq (wc_region ?_)
  refine ws rfl rfl ?_
  refine wl_nil (qk_thn (wc_ret (qk_thn_ret (qk_ret1 rfl rfl ?_))))
  have hs : s.length < 4 := by simp at hc; omega
  exact fail_out rfl rfl rfl hst (by simp only [rdP, intP_none hs, Option.map_none]) g1 g2 hb2
 ·have hs : 4 ≤ s.length := by simp at hc; omega
  obtain rfl : st = some s := by
   rcases hst with ⟨_, h, _⟩ | h
   ·rw [h] at hs; simp at hs
   ·exact h
  refine wc_skip (qk_thn (wc_seq ?_))
  refine wc_par [(0, .agg (([] : List Value).toArray)), (1, .pointer (some ⟨rb, 0, none⟩)), (2, .pointer (some ⟨rb, 0, none⟩)), (3, .pointer (some ⟨rb, 0 + 0, none⟩)), (4, .slice a s.length c)] [7, 6, 5] (fun vals w' => Chg (fun _ => False) w w' ∧ match vals with | [] => True | [v] => v = .int .u32 (unbe (s.take 4)) | v :: _ => v = .int .i32 (IntKind.i32.wrap (unbe (s.take 4)))) mixed rfl rfl rfl rfl rfl (by show ([0,1,2,3,4] : List Nat).Nodup; decide) rfl rfl (by decide) rfl rfl rfl rfl ⟨chg_drew w _, trivial⟩ ?_ ⟨?_, ?_, ?_, trivial⟩ ?_
  ·intro p hp vals w' hC a' k
   simp only [List.mem_cons, List.not_mem_nil, or_false] at hp
   rcases hp with rfl | rfl | rfl | rfl | rfl
   ·exact gv rfl rfl (rn_loadAgg (cs := []) k rfl ta_be (fun j v h => by simp at h))
   ·exact gv rfl rfl (rn_move k rfl)
   ·exact gv rfl rfl (rn_nilCheck k rfl)
   ·exact gv rfl rfl (rn_fieldAddr k rfl fo_rd0)
   ·exact gv rfl rfl (rn_load k rfl to_bytes ((hb.chg hC.1 id).cell rfl))
  ·rintro vals w' hvl ⟨hw', hC⟩ a' k
   match vals, hvl with
   | [v6, v5], _ => exact ⟨_, rfl, does_assign k rfl ⟨hw', hC⟩⟩
  ·rintro vals w' hvl ⟨hw', hC⟩ a' k
   match vals, hvl with
   | [v5], _ =>
    simp only [] at hC
    subst hC
    exact ⟨_, rfl, does_conv .i32 k rfl (by kernel_rfl) (by kernel_rfl) ⟨hw', rfl⟩⟩
  ·rintro vals w' hvl hC a' k
   match vals, hvl with
   | [], _ =>
    refine ⟨_, rfl, does_call k rfl (by kernel_rfl) ((be32 w' sb a c s (hsv.chg hC.1 id) hs).mono ?_)⟩
    rintro e w'' ⟨rfl, hc''⟩
    exact ⟨_, rfl, hC.1.trans hc'', rfl⟩
  ·rintro vals w' hvl ⟨hw', hC⟩
   match vals, hvl with
   | [v7, v6, v5], _ =>
    simp only [] at hC
    subst hC
    have hb' := hb.chg hw' id
    refine qk_thn (wc_seq (wc_region ?_))
    refine ws rfl rfl ?_
    refine ws rfl rfl ?_
    refine ws rfl rfl ?_
    refine ws rfl rfl ?_
    refine wl_loadB rfl to_bytes rfl hb' rfl ?_
    refine wl_sliceLo (m := 4) rfl rfl es_bytes rfl hs ?_
    refine ws rfl rfl ?_
    refine ws rfl rfl ?_
    refine wl_storeB rfl rfl to_bytes rfl hb' rfl (fun w1 hb1 g1 _ => ?_)
    refine wl_nil (qk_thn (wc_seq (wc_region ?_)))
    refine ws rfl rfl ?_
    refine ws rfl rfl ?_
    refine wl_nil (qk_thn (wc_ret (qk_ret1 rfl rfl ?_)))
    exact ok_outC (v := .int .i32 (IntKind.i32.wrap (unbe (s.take 4)))) hw' (by simp [shDs, shD, shR, wrap_wrap]) rfl rfl (by rw [rdP, intP_some hs]; rfl) g1 hb1 (hsv.drop hs) (hr.nn_drop hb hsv (hr.nz (by rintro rfl; simp at hs))) (by simp; omega) h4
end Go.Proofs.YtgpnpfiafcakfaaDoor.Rdk

namespace Go.Proofs.YtgpnpfiafcakfaaDoor.Rdk
open Go Go.RowKit
set_option maxRecDepth 100000
def SpanRel (l : Int) (st : Option (List UInt8)) (s1 : List UInt8) (st' : Option (List UInt8)) : Prop := match st with
 | none => st' = none
 | some s => match spanP l s with
  | some x => st' = some x.2 ∧ s1 = x.1
  | none => st' = none
theorem fn_spanN (w : World) (rb sb : Nat) (st : Option (List UInt8)) (l : Int) (hr : Rdr w rb sb st) (hne : rb ≠ sb) :
  Calls Tryd.prog 52 #[.pointer (some ⟨rb, 0, none⟩), .int .i64 l] w fun e w' => ∃ v s1 st', e = .returned v ∧ Chg (· = rb) w w' ∧ Rdr w' rb sb st' ∧ SrcV w' sb v s1 ∧ s1.length ≤ srcLim ∧ SpanRel l st s1 st' ∧ (st'.isSome = true → sb ≠ 0 → v ≠ .slice none 0 0) := by
 obtain ⟨a, c, s, e, hb, hle, hlim, hsv, hst⟩ := hr.view
 refine enter Tryd.func52 rfl Tryd.ntmps52 rfl ?_
 refine wc_seq (wc_region (wl_assign rfl rfl (wl_nil (qk_thn ?_))))
 refine wc_seq (wc_seq (wc_region ?_))
 refine ws rfl rfl ?_
 refine ws rfl rfl ?_
 refine ws rfl rfl ?_
 refine wl_loadB rfl to_bytes rfl hb rfl ?_
 refine ws rfl rfl ?_
 refine ws rfl rfl ?_
 refine ws rfl rfl ?_
 have fail : ∀ (w2 : World) (g : Chg (· = rb) w w2) (hb2 : Box w2 rb [.slice none 0 0, .bool true] e), spanP l s = none → ∃ v s1 st', Ending.returned (.slice none 0 0) = .returned v ∧ Chg (· = rb) w w2 ∧ Rdr w2 rb sb st' ∧ SrcV w2 sb v s1 ∧ s1.length ≤ srcLim ∧ SpanRel l st s1 st' ∧ (st'.isSome = true → sb ≠ 0 → v ≠ .slice none 0 0) := by
  intro w2 g hb2 hp
  refine ⟨_, [], none, rfl, g, ⟨e, hb2⟩, .inl ⟨rfl, rfl⟩, Nat.zero_le _, ?_, fun h => by cases h⟩
  rcases hst with ⟨rfl, _⟩ | rfl
  ·rfl
  ·simp only [SpanRel, hp]
 by_cases hlt : (s.length : Int) < l
 ·rw [show decide ((s.length : Int) < l) = true from decide_eq_true hlt]
  refine ws rfl rfl ?_
  refine wl_no rfl rfl rfl rfl ?_
  refine wl_no rfl rfl rfl rfl ?_
  refine ws rfl rfl ?_
  refine wl_nil (qk_thn ?_)
  refine wc_cond rfl (fun _ => ?_) (fun h => by cases h)
  refine wc_seq (wc_region ?_)
  refine ws rfl rfl ?_
  refine ws rfl rfl ?_
  refine ws rfl rfl ?_
  refine wl_storeB rfl rfl to_bool rfl hb rfl (fun w1 hb1 g1 _ => ?_)
  refine wl_nil (qk_thn ?_)
  refine wc_seq (wc_region ?_)
  refine ws rfl rfl ?_
  refine ws rfl rfl ?_
  refine ws rfl rfl ?_
  refine wl_storeB rfl rfl to_bytes rfl hb1 rfl (fun w2 hb2 g2 _ => ?_)
  refine wl_nil (qk_thn ?_)
  refine wc_seq (wc_region ?_)
  refine ws rfl rfl ?_
  refine wl_nil (qk_thn (wc_ret (qk_thn_ret (qk_ret1 rfl rfl ?_))))
  refine fail _ ((Chg.grown g1).trans (Chg.grown g2)) hb2 ?_
  simp only [spanP, takeN]
  split
  ·rfl
  ·rw [if_neg (by omega)]
 ·rw [show decide ((s.length : Int) < l) = false from decide_eq_false hlt]
  refine ws rfl rfl ?_
  refine wl_yes rfl rfl rfl ?_
  refine ws rfl rfl ?_
  refine wl_yes rfl rfl rfl ?_
  refine ws rfl rfl ?_
  refine ws rfl rfl ?_
  refine wl_nil (qk_thn ?_)
  refine wc_cond rfl (fun hc => ?_) (fun hc => ?_)
  ·refine wc_seq (wc_region ?_)
   refine ws rfl rfl ?_
   refine ws rfl rfl ?_
   refine ws rfl rfl ?_
   refine wl_storeB rfl rfl to_bool rfl hb rfl (fun w1 hb1 g1 _ => ?_)
   refine wl_nil (qk_thn ?_)
   refine wc_seq (wc_region ?_)
   refine ws rfl rfl ?_
   refine ws rfl rfl ?_
   refine ws rfl rfl ?_
   refine wl_storeB rfl rfl to_bytes rfl hb1 rfl (fun w2 hb2 g2 _ => ?_)
   refine wl_nil (qk_thn ?_)
   refine wc_seq (wc_region ?_)
   refine ws rfl rfl ?_
   refine wl_nil (qk_thn (wc_ret (qk_thn_ret (qk_ret1 rfl rfl ?_))))
   refine fail _ ((Chg.grown g1).trans (Chg.grown g2)) hb2 ?_
   simp only [spanP]
   rw [if_pos (by simpa using hc)]
  ·have h0 : ¬ l < 0 := by simpa using hc
   obtain ⟨m, rfl⟩ : ∃ m : Nat, l = m := ⟨l.toNat, by omega⟩
   have hm : m ≤ s.length := by omega
   refine wc_skip (qk_thn (wc_seq (wc_region ?_)))
   refine ws rfl rfl ?_
   refine ws rfl rfl ?_
   refine ws rfl rfl ?_
   refine wl_loadB rfl to_bytes rfl hb rfl ?_
   refine ws rfl rfl ?_
   refine ws rfl rfl ?_
   refine wl_slice3 (m := m) rfl rfl rfl es_bytes rfl (by omega) ?_
   refine ws rfl rfl ?_
   refine wl_nil (qk_thn (wc_seq (wc_region ?_)))
   refine ws rfl rfl ?_
   refine ws rfl rfl ?_
   refine ws rfl rfl ?_
   refine ws rfl rfl ?_
   refine wl_loadB rfl to_bytes rfl hb rfl ?_
   refine ws rfl rfl ?_
   refine wl_sliceLo (m := m) rfl rfl es_bytes rfl hm ?_
   refine ws rfl rfl ?_
   refine ws rfl rfl ?_
   refine wl_storeB rfl rfl to_bytes rfl hb rfl (fun w1 hb1 g1 _ => ?_)
   refine wl_nil (qk_thn (wc_seq (wc_region ?_)))
   refine ws rfl rfl ?_
   refine ws rfl rfl ?_
   refine wl_nil (qk_thn (wc_ret (qk_ret1 rfl rfl ?_)))
   have hg := Chg.grown g1
   have hns : ¬ (fun x => x = rb) sb := fun e => hne e.symm
   have hd := (hsv.drop hm).chg hg hns
   have ht := (hsv.take hm).chg hg hns
   rcases hst with ⟨rfl, hs0, ha0, hc0⟩ | rfl
   ·refine ⟨_, s.take m, none, rfl, hg, ?_, ht, by simp; omega, rfl, fun h => by cases h⟩
    subst hs0 ha0 hc0
    have : m = 0 := by simpa using hm
    subst this
    exact ⟨e, hb1⟩
   ·refine ⟨_, s.take m, some (s.drop m), rfl, hg, hd.rdr hb1 (fun hz => hr.nn_drop hb hsv hz) (by simp; omega), ht, by simp; omega, ?_, fun _ hz => hr.nn_take hb hsv hz⟩
    simp only [SpanRel, spanP, takeN]
    rw [if_neg (by omega)]
    simp only [Int.toNat_natCast]
    rw [if_pos hm]
    exact ⟨rfl, rfl⟩
theorem fn_span (w : World) (rb sb : Nat) (st : Option (List UInt8)) (l : Int) (hr : Rdr w rb sb st) (hne : rb ≠ sb) :
  Calls Tryd.prog 52 #[.pointer (some ⟨rb, 0, none⟩), .int .i64 l] w fun e w' => ∃ v s1 st', e = .returned v ∧ Chg (· = rb) w w' ∧ Rdr w' rb sb st' ∧ SrcV w' sb v s1 ∧ s1.length ≤ srcLim ∧ SpanRel l st s1 st' :=
 (fn_spanN w rb sb st l hr hne).mono fun e w' ⟨v, s1, st', h1, h2, h3, h4, h5, h6, _⟩ => ⟨v, s1, st', h1, h2, h3, h4, h5, h6⟩
theorem fn_ok (w : World) (rb sb : Nat) (st : Option (List UInt8)) (hr : Rdr w rb sb st) :
  Calls Tryd.prog 26 #[.pointer (some ⟨rb, 0, none⟩)] w fun e w' => e = .returned (.bool st.isSome) ∧ w' = w := by
 obtain ⟨a, c, s, e, hb, hle, hlim, hsv, hst⟩ := hr.view
 refine enter Tryd.func26 rfl Tryd.ntmps26 rfl ?_
 refine wc_seq (wc_region (wl_assign rfl rfl (wl_nil (qk_thn ?_))))
 refine wc_seq (wc_region ?_)
 refine ws rfl rfl ?_
 refine ws rfl rfl ?_
 refine ws rfl rfl ?_
 refine wl_loadB rfl to_bool rfl hb rfl ?_
 refine ws rfl rfl ?_
 refine ws rfl rfl ?_
 refine wl_nil (qk_thn (wc_ret (qk_ret1 rfl rfl ⟨?_, rfl⟩)))
 cases st <;> rfl
theorem fn_complete (w : World) (rb sb : Nat) (st : Option (List UInt8)) (ev : Value) (hr : Rdr w rb sb st) (hg : w.cell? ⟨1, 0, none⟩ = some ev) :
  Calls Tryd.prog 27 #[.pointer (some ⟨rb, 0, none⟩)] w fun e w' => e = .returned (endV ev st) ∧ w' = w := by
 obtain ⟨a, c, s, e, hb, hle, hlim, hsv, hst⟩ := hr.view
 refine enter Tryd.func27 rfl Tryd.ntmps27 rfl ?_
 refine wc_seq (wc_region (wl_assign rfl rfl (wl_nil (qk_thn ?_))))
 refine wc_seq (wc_seq (wc_region ?_))
 refine ws rfl rfl ?_
 refine ws rfl rfl ?_
 refine ws rfl rfl ?_
 refine wl_loadB rfl to_bool rfl hb rfl ?_
 refine wl_nil (qk_thn ?_)
 cases st with
 | none =>
  refine wc_cond rfl (fun _ => ?_) (fun h => by cases h)
  refine wc_seq (wc_region ?_)
  refine wl_load rfl (by kernel_rfl) rfl hg ?_
  refine ws rfl rfl ?_
  exact wl_nil (qk_thn (wc_ret (qk_thn_ret (qk_ret1 rfl rfl ⟨rfl, rfl⟩))))
 | some s' =>
  refine wc_cond rfl (fun h => by cases h) (fun _ => ?_)
  refine wc_skip (qk_thn (wc_seq (wc_region ?_)))
  refine ws rfl rfl ?_
  exact wl_nil (qk_thn (wc_ret (qk_ret1 rfl rfl ⟨rfl, rfl⟩)))
end Go.Proofs.YtgpnpfiafcakfaaDoor.Rdk

namespace Go.Proofs.YtgpnpfiafcakfaaDoor.Rdk
open Go Go.RowKit
set_option maxRecDepth 100000
section
variable {P : Program} {Q : Exit → Act → World → Prop} {N : Nat} {L : Sl} {w : World}
def Jmp (l N : Nat) (Lj : Sl) (Q : Exit → Act → World → Prop) (w0 : World) (X : Prop) : Exit → Act → World → Prop := Exit.jump l (fun a w => Kn N a Lj ∧ w = w0 ∧ X) Q
theorem wc_scope {c rest : Code} (l : Nat) (Lj : Sl) (X : Prop) (hf : findLabel c l = some rest) (h1 : WC c P (Jmp l N Lj Q w X) N L w) (h2 : X → WC rest P (Exit.jump l (fun _ _ => False) Q) N Lj w) : WC (.scope c) P Q N L w := by
 intro a k
 refine wp_scope_jumps l (fun a' w' => Kn N a' Lj ∧ w' = w ∧ X) (fun _ _ => 0) hf (h1 a k) (fun a' w' hJ => ?_)
 obtain ⟨hk, rfl, hx⟩ := hJ
 refine wp_mono (h2 hx a' hk) (fun e a'' w'' hq => ?_)
 cases e with
 | goto l' => exact hq.2.elim
 | _ => exact hq
theorem wc_goto {l : Nat} (h : QK (.goto l) Q N L w) : WC (.goto l) P Q N L w := fun a k => wp_goto (h a k)
theorem wc_label {l : Nat} (h : QK .normal Q N L w) : WC (.label l) P Q N L w := fun a k => wp_label (h a k)
theorem qk_goto {l : Nat} {Lj : Sl} {X : Prop} (hs : Sub Lj L) (hx : X) : QK (.goto l) (Jmp l N Lj Q w X) N L w := fun _ k => ⟨rfl, k.weaken hs, rfl, hx⟩
theorem qk_thn_goto {l : Nat} {y : Code} (h : QK (.goto l) Q N L w) : QK (.goto l) (Thn P y Q) N L w := fun a k => h a k
theorem qk_jmp_ret {l : Nat} {J : Act → World → Prop} (h : QK .ret Q N L w) : QK .ret (Exit.jump l J Q) N L w := fun a k => h a k
theorem wl_shl {ops : Array Oper} {rest : List Oper} {d : Nat} {ty : TypeId} {pos : String} {aft : Array Edge} {x : Operand} {t u : TypeId} {kk yk : IntKind} {m s r : Int} (hx : ev L x = some (.int kk m)) (hd : Nat.blt d N = true) (h0 : 0 ≤ s) (h1 : s ≤ kk.bits) (hr : kk.wrap (m * 2 ^ s.toNat) = r) (h : WL rest P ops Q N ((d, .int kk r) :: L) w) :
  WL (⟨some d, .binOp .shl t x (.const (.int yk s)) u, ty, pos, aft, none⟩ :: rest) P ops Q N L w := by
 intro a k
 exact st_of (o := ⟨some d, .binOp .shl t x (.const (.int yk s)) u, ty, pos, aft, none⟩) rfl (rn_shl k hx h0 h1 hr) (h _ (k.put _ hd))
end
theorem and127b (b : Nat) (h : b < 256) : bits .and .u8 (b : Int) 127 = ((b % 128 : Nat) : Int) := by
 have := (bits_nat .u8 8 (by decide) (fun n h0 h1 => by rw [IntKind.wrap_u8]; omega) b 127 (by omega) (by omega)).1
 rw [show ((127 : Nat) : Int) = 127 from rfl] at this
 rw [this, show (127 : Nat) = 2 ^ 7 - 1 from rfl, Nat.and_two_pow_sub_one_eq_mod]
theorem and128b : ∀ b : Nat, b < 256 → bits .and .u8 (b : Int) 128 = if b < 128 then 0 else 128 := by
 intro b h
 have := (bits_nat .u8 8 (by decide) (fun n h0 h1 => by rw [IntKind.wrap_u8]; omega) b 128 (by omega) (by omega)).1
 rw [show ((128 : Nat) : Int) = 128 from rfl] at this
 rw [this]
 have key : ∀ x : Fin 256, x.val &&& 128 = if x.val < 128 then 0 else 128 := by decide
 have := key ⟨b, h⟩
 simp only [] at this
 rw [this]
 split <;> rfl
theorem or32 (a x s : Nat) (ha : a < 2 ^ s) (ha2 : a < 4294967296) (hx : x * 2 ^ s < 4294967296) : bits .or .u32 (a : Int) ((x * 2 ^ s : Nat) : Int) = ((a + x * 2 ^ s : Nat) : Int) :=
 or_add .u32 32 (by decide) (fun n h0 h1 => by rw [IntKind.wrap_u32]; omega) a x s ha ha2 hx
theorem uvarR_nil (k : Nat) : uvarR k [] = none := by cases k <;> rfl
theorem cell_at {w : World} {sb o c : Nat} {s : List UInt8} (h : SrcV w sb (.slice (some ⟨sb, o, none⟩) s.length c) s) {i : Nat} (hi : i < s.length) : w.cell? ⟨sb, o + i * 1, none⟩ = some (.int .u8 s[i].toNat) := by
 obtain ⟨o', e, hc⟩ := h.cell hi
 cases e; exact hc
def UvarRel (s : List UInt8) (u n : Int) : Prop := match uvarP s with
 | some x => u = (x.1 : Int) ∧ ∃ m : Nat, n = (m : Int) ∧ 0 < m ∧ m ≤ s.length ∧ x.2 = s.drop m
 | none => n ≤ 0
theorem fn_uvarint (w : World) (sb : Nat) (a : Option Addr) (c : Nat) (s : List UInt8) (hsv : SrcV w sb (.slice a s.length c) s) :
  Calls Tryd.prog 62 #[.slice a s.length c] w fun e w' => w' = w ∧ ∃ u n : Int, e = .returned (.tuple #[.int .u32 u, .int .i64 n]) ∧ UvarRel s u n := by
 refine enter Tryd.func62 rfl Tryd.ntmps62 rfl ?_
 refine wc_seq (wc_region (wl_assign rfl rfl (wl_assign rfl rfl (wl_nil (qk_thn ?_)))))
 refine wc_sub (L' := [(0, .slice a s.length c)]) ⟨rfl, trivial⟩ ?_
 refine wc_scope 0 [(5, .int .i64 0)] (uvarP s = none) rfl ?_ ?_
 ·refine wc_seq (wc_region (wl_assign rfl rfl (wl_nil (qk_thn ?_))))
  refine wc_seq (wc_region (wl_assign rfl rfl (wl_nil (qk_thn ?_))))
  refine wc_seq (wc_seq (wc_region ?_))
  refine ws rfl rfl ?_
  refine ws rfl rfl ?_
  refine ws rfl rfl ?_
  refine wl_nil (qk_thn ?_)
  cases s with
  | nil =>
   refine wc_yes rfl (by simp) (wc_goto (qk_thn_goto (qk_goto ⟨rfl, trivial⟩ ?_)))
   simp only [uvarP, uvarR_cons, uvarR_nil]
  | cons b0 s =>
   have l0 := b0.toNat_lt
   refine wc_no rfl (by simp; omega) (wc_skip (qk_thn ?_))
   obtain ⟨o0, rfl, hc0⟩ := hsv.cell (i := 0) (by simp)
   simp only [List.getElem_cons_zero] at hc0
   refine wc_seq (wc_region ?_)
   refine ws rfl rfl ?_
   refine wl_indexAddr (i := 0) rfl rfl es_bytes rfl (by simp) ?_
   refine wl_load rfl to_u8 rfl hc0 ?_
   refine wl_and (r := ((b0.toNat % 128 : Nat) : Int)) rfl rfl rfl (and127b _ l0) ?_
   refine wl_conv .u32 (r := ((b0.toNat % 128 : Nat) : Int)) rfl (by kernel_rfl) (by kernel_rfl) rfl (by rw [IntKind.wrap_u32]; omega) ?_
   refine ws rfl rfl ?_
   refine wl_nil (qk_thn ?_)
   refine wc_seq (wc_seq (wc_region ?_))
   refine ws rfl rfl ?_
   refine wl_indexAddr (i := 0) rfl rfl es_bytes rfl (by simp) ?_
   refine wl_load rfl to_u8 rfl hc0 ?_
   by_cases n0 : b0.toNat < 128
   ·refine wl_and (r := 0) rfl rfl rfl (by rw [and128b _ l0, if_pos n0]) ?_
    refine ws rfl rfl ?_
    refine wl_nil (qk_thn (wc_yes rfl (by decide) (wc_seq (wc_region ?_))))
    refine ws rfl rfl ?_
    refine ws rfl rfl ?_
    refine ws rfl rfl ?_
    refine wl_nil (qk_thn (wc_ret (qk_thn_ret (qk_jmp_ret (qk_ret2 rfl rfl rfl ⟨rfl, _, _, rfl, ?_⟩)))))
    have hu : uvarP (b0 :: s) = some (b0.toNat % 128, s) := by
     simp only [uvarP, uvarR_cons]
     simp [n0]
     omega
    unfold UvarRel
    rw [hu]
    exact ⟨rfl, 1, rfl, by omega, by simp, rfl⟩
   refine wl_and (r := 128) rfl rfl rfl (by rw [and128b _ l0, if_neg n0]) ?_
   refine ws rfl rfl ?_
   refine wl_nil (qk_thn (wc_no rfl (by decide) ?_))
   refine wc_seq (wc_region ?_)
   refine ws rfl rfl ?_
   refine ws rfl rfl ?_
   refine ws rfl rfl ?_
   refine wl_nil (qk_thn ?_)
   cases s with
   | nil =>
    refine wc_yes rfl (by simp) (wc_goto (qk_thn_goto (qk_goto ⟨rfl, trivial⟩ ?_)))
    simp only [uvarP, uvarR_cons, uvarR_nil]; simp [n0]
   | cons b1 s =>
    have l1 := b1.toNat_lt
    refine wc_no rfl (by simp; omega) (wc_skip (qk_thn ?_))
    have hc1 := cell_at hsv (i := 1) (by simp)
    simp only [List.getElem_cons_succ, List.getElem_cons_zero] at hc1
    refine wc_seq (wc_region ?_)
    refine ws rfl rfl ?_
    refine ws rfl rfl ?_
    refine wl_indexAddr (i := 1) rfl rfl es_bytes rfl (by simp) ?_
    refine wl_load rfl to_u8 rfl hc1 ?_
    refine wl_and (r := ((b1.toNat % 128 : Nat) : Int)) rfl rfl rfl (and127b _ l1) ?_
    refine wl_conv .u32 (r := ((b1.toNat % 128 : Nat) : Int)) rfl (by kernel_rfl) (by kernel_rfl) rfl (by rw [IntKind.wrap_u32]; omega) ?_
    refine wl_shl (r := ((b1.toNat % 128 * 2 ^ 7 : Nat) : Int)) rfl rfl (by decide) (by decide) (by rw [IntKind.wrap_u32]; simp; omega) ?_
    refine wl_or (r := ((b0.toNat % 128 + b1.toNat % 128 * 2 ^ 7 : Nat) : Int)) rfl rfl rfl (or32 _ _ _ (by omega) (by omega) (by omega)) ?_
    refine ws rfl rfl ?_
    refine wl_nil (qk_thn ?_)
    refine wc_seq (wc_seq (wc_region ?_))
    refine ws rfl rfl ?_
    refine wl_indexAddr (i := 1) rfl rfl es_bytes rfl (by simp) ?_
    refine wl_load rfl to_u8 rfl hc1 ?_
    by_cases n1 : b1.toNat < 128
    ·refine wl_and (r := 0) rfl rfl rfl (by rw [and128b _ l1, if_pos n1]) ?_
     refine ws rfl rfl ?_
     refine wl_nil (qk_thn (wc_yes rfl (by decide) (wc_seq (wc_region ?_))))
     refine ws rfl rfl ?_
     refine ws rfl rfl ?_
     refine ws rfl rfl ?_
     refine wl_nil (qk_thn (wc_ret (qk_thn_ret (qk_jmp_ret (qk_ret2 rfl rfl rfl ⟨rfl, _, _, rfl, ?_⟩)))))
     have hu : uvarP (b0 :: b1 :: s) = some (b0.toNat % 128 + b1.toNat % 128 * 2 ^ 7, s) := by
      simp only [uvarP, uvarR_cons]
      simp [n0, n1]
      omega
     unfold UvarRel
     rw [hu]
     exact ⟨rfl, 2, rfl, by omega, by simp, rfl⟩
    refine wl_and (r := 128) rfl rfl rfl (by rw [and128b _ l1, if_neg n1]) ?_
    refine ws rfl rfl ?_
    refine wl_nil (qk_thn (wc_no rfl (by decide) ?_))
    refine wc_seq (wc_region ?_)
    refine ws rfl rfl ?_
    refine ws rfl rfl ?_
    refine ws rfl rfl ?_
    refine wl_nil (qk_thn ?_)
    cases s with
    | nil =>
     refine wc_yes rfl (by simp) (wc_goto (qk_thn_goto (qk_goto ⟨rfl, trivial⟩ ?_)))
     simp only [uvarP, uvarR_cons, uvarR_nil]; simp [n0, n1]
    | cons b2 s =>
     have l2 := b2.toNat_lt
     refine wc_no rfl (by simp; omega) (wc_skip (qk_thn ?_))
     have hc2 := cell_at hsv (i := 2) (by simp)
     simp only [List.getElem_cons_succ, List.getElem_cons_zero] at hc2
     refine wc_seq (wc_region ?_)
     refine ws rfl rfl ?_
     refine ws rfl rfl ?_
     refine wl_indexAddr (i := 2) rfl rfl es_bytes rfl (by simp) ?_
     refine wl_load rfl to_u8 rfl hc2 ?_
     refine wl_and (r := ((b2.toNat % 128 : Nat) : Int)) rfl rfl rfl (and127b _ l2) ?_
     refine wl_conv .u32 (r := ((b2.toNat % 128 : Nat) : Int)) rfl (by kernel_rfl) (by kernel_rfl) rfl (by rw [IntKind.wrap_u32]; omega) ?_
     refine wl_shl (r := ((b2.toNat % 128 * 2 ^ 14 : Nat) : Int)) rfl rfl (by decide) (by decide) (by rw [IntKind.wrap_u32]; simp; omega) ?_
     refine wl_or (r := ((b0.toNat % 128 + b1.toNat % 128 * 2 ^ 7 + b2.toNat % 128 * 2 ^ 14 : Nat) : Int)) rfl rfl rfl (or32 _ _ _ (by omega) (by omega) (by omega)) ?_
     refine ws rfl rfl ?_
     refine wl_nil (qk_thn ?_)
     refine wc_seq (wc_seq (wc_region ?_))
     refine ws rfl rfl ?_
     refine wl_indexAddr (i := 2) rfl rfl es_bytes rfl (by simp) ?_
     refine wl_load rfl to_u8 rfl hc2 ?_
     by_cases n2 : b2.toNat < 128
     ·refine wl_and (r := 0) rfl rfl rfl (by rw [and128b _ l2, if_pos n2]) ?_
      refine ws rfl rfl ?_
      refine wl_nil (qk_thn (wc_yes rfl (by decide) (wc_seq (wc_region ?_))))
      refine ws rfl rfl ?_
      refine ws rfl rfl ?_
      refine ws rfl rfl ?_
      refine wl_nil (qk_thn (wc_ret (qk_thn_ret (qk_jmp_ret (qk_ret2 rfl rfl rfl ⟨rfl, _, _, rfl, ?_⟩)))))
      have hu : uvarP (b0 :: b1 :: b2 :: s) = some (b0.toNat % 128 + b1.toNat % 128 * 2 ^ 7 + b2.toNat % 128 * 2 ^ 14, s) := by
       simp only [uvarP, uvarR_cons]
       simp [n0, n1, n2]
       omega
      unfold UvarRel
      rw [hu]
      exact ⟨rfl, 3, rfl, by omega, by simp, rfl⟩
     refine wl_and (r := 128) rfl rfl rfl (by rw [and128b _ l2, if_neg n2]) ?_
     refine ws rfl rfl ?_
     refine wl_nil (qk_thn (wc_no rfl (by decide) ?_))
     refine wc_seq (wc_region ?_)
     refine ws rfl rfl ?_
     refine ws rfl rfl ?_
     refine ws rfl rfl ?_
     refine wl_nil (qk_thn ?_)
     cases s with
     | nil =>
      refine wc_yes rfl (by simp) (wc_goto (qk_thn_goto (qk_goto ⟨rfl, trivial⟩ ?_)))
      simp only [uvarP, uvarR_cons, uvarR_nil]; simp [n0, n1, n2]
     | cons b3 s =>
      have l3 := b3.toNat_lt
      refine wc_no rfl (by simp; omega) (wc_skip (qk_thn ?_))
      have hc3 := cell_at hsv (i := 3) (by simp)
      simp only [List.getElem_cons_succ, List.getElem_cons_zero] at hc3
      refine wc_seq (wc_region ?_)
      refine ws rfl rfl ?_
      refine ws rfl rfl ?_
      refine wl_indexAddr (i := 3) rfl rfl es_bytes rfl (by simp) ?_
      refine wl_load rfl to_u8 rfl hc3 ?_
      refine wl_and (r := ((b3.toNat % 128 : Nat) : Int)) rfl rfl rfl (and127b _ l3) ?_
      refine wl_conv .u32 (r := ((b3.toNat % 128 : Nat) : Int)) rfl (by kernel_rfl) (by kernel_rfl) rfl (by rw [IntKind.wrap_u32]; omega) ?_
      refine wl_shl (r := ((b3.toNat % 128 * 2 ^ 21 : Nat) : Int)) rfl rfl (by decide) (by decide) (by rw [IntKind.wrap_u32]; simp; omega) ?_
      refine wl_or (r := ((b0.toNat % 128 + b1.toNat % 128 * 2 ^ 7 + b2.toNat % 128 * 2 ^ 14 + b3.toNat % 128 * 2 ^ 21 : Nat) : Int)) rfl rfl rfl (or32 _ _ _ (by omega) (by omega) (by omega)) ?_
      refine ws rfl rfl ?_
      refine wl_nil (qk_thn ?_)
      refine wc_seq (wc_seq (wc_region ?_))
      refine ws rfl rfl ?_
      refine wl_indexAddr (i := 3) rfl rfl es_bytes rfl (by simp) ?_
      refine wl_load rfl to_u8 rfl hc3 ?_
      by_cases n3 : b3.toNat < 128
      ·refine wl_and (r := 0) rfl rfl rfl (by rw [and128b _ l3, if_pos n3]) ?_
       refine ws rfl rfl ?_
       refine wl_nil (qk_thn (wc_yes rfl (by decide) (wc_seq (wc_region ?_))))
       refine ws rfl rfl ?_
       refine ws rfl rfl ?_
       refine ws rfl rfl ?_
       refine wl_nil (qk_thn (wc_ret (qk_thn_ret (qk_jmp_ret (qk_ret2 rfl rfl rfl ⟨rfl, _, _, rfl, ?_⟩)))))
       have hu : uvarP (b0 :: b1 :: b2 :: b3 :: s) = some (b0.toNat % 128 + b1.toNat % 128 * 2 ^ 7 + b2.toNat % 128 * 2 ^ 14 + b3.toNat % 128 * 2 ^ 21, s) := by
        simp only [uvarP, uvarR_cons]
        simp [n0, n1, n2, n3]
        omega
       unfold UvarRel
       rw [hu]
       exact ⟨rfl, 4, rfl, by omega, by simp, rfl⟩
      refine wl_and (r := 128) rfl rfl rfl (by rw [and128b _ l3, if_neg n3]) ?_
      refine ws rfl rfl ?_
      refine wl_nil (qk_thn (wc_no rfl (by decide) ?_))
      refine wc_seq (wc_region ?_)
      refine ws rfl rfl ?_
      refine ws rfl rfl ?_
      refine ws rfl rfl ?_
      refine wl_nil (qk_thn ?_)
      cases s with
      | nil =>
       refine wc_yes rfl (by simp) (wc_goto (qk_thn_goto (qk_goto ⟨rfl, trivial⟩ ?_)))
       simp only [uvarP, uvarR_cons, uvarR_nil]; simp [n0, n1, n2, n3]
      | cons b4 s =>
       have l4 := b4.toNat_lt
       refine wc_no rfl (by simp; omega) (wc_skip (qk_thn ?_))
       have hc4 := cell_at hsv (i := 4) (by simp)
       simp only [List.getElem_cons_succ, List.getElem_cons_zero] at hc4
       refine wc_seq (wc_region ?_)
       refine ws rfl rfl ?_
       refine ws rfl rfl ?_
       refine wl_indexAddr (i := 4) rfl rfl es_bytes rfl (by simp) ?_
       refine wl_load rfl to_u8 rfl hc4 ?_
       refine wl_conv .u32 (r := (b4.toNat : Int)) rfl (by kernel_rfl) (by kernel_rfl) rfl (by rw [IntKind.wrap_u32]; omega) ?_
       refine wl_shl (r := ((b4.toNat % 16 * 2 ^ 28 : Nat) : Int)) rfl rfl (by decide) (by decide) (by rw [IntKind.wrap_u32]; simp; omega) ?_
       refine wl_or (r := ((b0.toNat % 128 + b1.toNat % 128 * 2 ^ 7 + b2.toNat % 128 * 2 ^ 14 + b3.toNat % 128 * 2 ^ 21 + b4.toNat % 16 * 2 ^ 28 : Nat) : Int)) rfl rfl rfl (or32 _ _ _ (by omega) (by omega) (by omega)) ?_
       refine ws rfl rfl ?_
       refine wl_nil (qk_thn ?_)
       refine wc_seq (wc_seq (wc_region ?_))
       refine ws rfl rfl ?_
       refine wl_indexAddr (i := 4) rfl rfl es_bytes rfl (by simp) ?_
       refine wl_load rfl to_u8 rfl hc4 ?_
       refine ws rfl rfl ?_
       refine wl_nil (qk_thn ?_)
       by_cases n4 : b4.toNat ≤ 15
       ·refine wc_yes rfl (by simp; omega) (wc_seq (wc_region ?_))
        refine ws rfl rfl ?_
        refine ws rfl rfl ?_
        refine ws rfl rfl ?_
        refine wl_nil (qk_thn (wc_ret (qk_thn_ret (qk_jmp_ret (qk_ret2 rfl rfl rfl ⟨rfl, _, _, rfl, ?_⟩)))))
        have hu : uvarP (b0 :: b1 :: b2 :: b3 :: b4 :: s) = some (b0.toNat % 128 + b1.toNat % 128 * 2 ^ 7 + b2.toNat % 128 * 2 ^ 14 + b3.toNat % 128 * 2 ^ 21 + b4.toNat % 16 * 2 ^ 28, s) := by
         simp only [uvarP, uvarR_cons]
         simp [n0, n1, n2, n3, n4]
         omega
        unfold UvarRel
        rw [hu]
        exact ⟨rfl, 5, rfl, by omega, by simp, rfl⟩
       ·refine wc_no rfl (by simp; omega) (wc_skip (qk_thn ?_))
        refine wc_seq (wc_region (wl_assign rfl rfl (wl_nil (qk_thn ?_))))
        refine wc_seq (wc_label (qk_thn ?_))
        refine wc_seq (wc_region ?_)
        refine ws rfl rfl ?_
        refine ws rfl rfl ?_
        refine ws rfl rfl ?_
        refine wl_nil (qk_thn (wc_ret (qk_jmp_ret (qk_ret2 rfl rfl rfl ⟨rfl, _, _, rfl, ?_⟩))))
        have hu : uvarP (b0 :: b1 :: b2 :: b3 :: b4 :: s) = none := by simp only [uvarP, uvarR_cons]; simp [n0, n1, n2, n3, n4]
        unfold UvarRel
        rw [hu]
        show (-5 : Int) ≤ 0; decide
 ·intro hu
  refine wc_seq (wc_skip (qk_thn ?_))
  refine wc_seq (wc_region ?_)
  refine ws rfl rfl ?_
  refine ws rfl rfl ?_
  refine ws rfl rfl ?_
  refine wl_nil (qk_thn (wc_ret (qk_jmp_ret (qk_ret2 rfl rfl rfl ⟨rfl, _, _, rfl, ?_⟩))))
  unfold UvarRel
  rw [hu]
  exact Int.le_refl 0
end Go.Proofs.YtgpnpfiafcakfaaDoor.Rdk

namespace Go.Proofs.YtgpnpfiafcakfaaDoor.Rdk
open Go Go.RowKit
set_option maxRecDepth 100000
theorem foldl_push (ns : List UInt8) : ∀ (s : List UInt8), (ns.map fun c => (c.toNat : Int)).foldl (fun (r : ByteArray) n => r.push (UInt8.ofNat n.toNat)) ⟨s.toArray⟩ = ⟨(s ++ ns).toArray⟩ := by
 induction ns with
 | nil => intro s; simp
 | cons c ns ih =>
  intro s
  simp only [List.map_cons, List.foldl_cons]
  have : (ByteArray.mk s.toArray).push (UInt8.ofNat (c.toNat : Int).toNat) = ⟨(s ++ [c]).toArray⟩ := by
   simp [ByteArray.push]
  rw [this, ih]
  simp
section
variable {P : Program} {ops : Array Oper} {Q : Exit → Act → World → Prop} {N : Nat} {rest : List Oper} {L : Sl} {w : World} {d : Nat} {ty : TypeId} {pos : String} {aft : Array Edge}
theorem wl_extract {x : Operand} {i : Nat} {cs : Array Value} {v : Value} (hx : ev L x = some (.tuple cs)) (hv : cs[i]? = some v) (hd : Nat.blt d N = true) (h : WL rest P ops Q N ((d, v) :: L) w) : WL (⟨some d, .extract x i, ty, pos, aft, none⟩ :: rest) P ops Q N L w := by
 intro a k
 refine st_of (o := ⟨some d, .extract x i, ty, pos, aft, none⟩) rfl ?_ (h _ (k.put _ hd))
 simp [execOp, k.eval hx, Instr.extract, hv]
theorem wl_toStr {x : Operand} {s t : TypeId} {sb : Nat} {v : Value} {bs : List UInt8} (hx : ev L x = some v) (hv : SrcV w sb v bs) (hs : (match P.underlying s with | some (.slice e) => (match P.underlying e with | some (.int .u8) => true | _ => false) | _ => false) = true) (ht : (match P.underlying t with | some .string => true | _ => false) = true) (hd : Nat.blt d N = true)
  (h : WL rest P ops Q N ((d, strV bs) :: L) w) : WL (⟨some d, .convert s t x, ty, pos, aft, none⟩ :: rest) P ops Q N L w := by
 intro a k
 refine st_of (o := ⟨some d, .convert s t x, ty, pos, aft, none⟩) (v := strV bs) (w' := w) rfl ?_ (h _ (k.put _ hd))
 split at hs
 ·rename_i e he
  split at hs
  ·rename_i he8
   split at ht
   ·rename_i hst
    have key : (Conv.bytesToString v).run P w = .ok (strV bs) w := by
     rcases hv with ⟨rfl, rfl⟩ | ⟨o, c, rfl, hle, hcs, _⟩
     ·simp [Conv.bytesToString, strV]; rfl
     ·have hl := run_loadCells_list (P := P) w ⟨sb, o, none⟩ (bv bs) (fun j v e => by rw [add_plain _ _ rfl]; exact hcs.cell e)
      rw [bv_len] at hl
      have hb : bv bs = (bs.map fun c => (c.toNat : Int)).map (Value.int .u8) := by simp [bv]
      rw [hb] at hl
      rw [run_bytesToString w ⟨sb, o, none⟩ bs.length c _ hl]
      have := foldl_push bs []
      simp only [List.nil_append] at this
      rw [strV, ← this]; rfl
    obtain ⟨a', l', c', rfl⟩ : ∃ a' l' c', v = .slice a' l' c' := by
     rcases hv with ⟨rfl, _⟩ | ⟨o, c, rfl, _⟩ <;> exact ⟨_, _, _, rfl⟩
    simp only [execOp, k.eval hx, Sem.run_bind, run_convert_bytes_string w s t e a' l' c' he he8 hst, key, Result.andThen_ok, Sem.run_pure]
   ·cases ht
  ·cases hs
 ·cases hs
end
theorem uvarR_lt : ∀ (k : Nat) (s : List UInt8) (x : Nat × List UInt8), uvarR (k + 1) s = some x → x.1 < 16 * 128 ^ k ∧ x.2.length ≤ s.length
 | k, [], x, h => by rw [uvarR_nil] at h; cases h
 | 0, c :: r, x, h => by
  rw [uvarR_cons, if_pos rfl] at h
  split at h
  ·cases h; exact ⟨by simp; omega, by simp⟩
  ·cases h
 | k + 1, c :: r, x, h => by
  rw [uvarR_cons, if_neg (by omega)] at h
  have hp : 1 ≤ 128 ^ k := Nat.pow_pos (by omega)
  split at h
  ·cases h; exact ⟨by simp only [Nat.pow_succ]; omega, by simp⟩
  ·split at h
   ·rename_i n r' hr
    cases h
    obtain ⟨h1, h2⟩ := uvarR_lt k r (n, r') hr
    have := c.toNat_lt
    simp only [] at h1 h2 ⊢
    exact ⟨by simp only [Nat.pow_succ]; omega, by simp; omega⟩
   ·cases h
theorem uvarP_lt {s : List UInt8} {x : Nat × List UInt8} (h : uvarP s = some x) : x.1 < 4294967296 ∧ x.2.length ≤ s.length := by
 have := uvarR_lt 4 s x h
 exact ⟨by omega, this.2⟩
def UvRel (st : Option (List UInt8)) (u : Nat) (st' : Option (List UInt8)) : Prop := u < 4294967296 ∧ match st with
 | none => st' = none
 | some s => match uvarP s with
  | some x => st' = some x.2 ∧ u = x.1
  | none => st' = none
theorem fn_ruv (w : World) (rb sb : Nat) (st : Option (List UInt8)) (hr : Rdr w rb sb st) (hne : rb ≠ sb) :
  Calls Tryd.prog 49 #[.pointer (some ⟨rb, 0, none⟩)] w fun e w' => ∃ (u : Nat) (st' : Option (List UInt8)), e = .returned (.int .u32 (u : Int)) ∧ Chg (· = rb) w w' ∧ Rdr w' rb sb st' ∧ UvRel st u st' := by
 obtain ⟨a, c, s, e, hb, hle, hlim, hsv, hst⟩ := hr.view
 refine enter Tryd.func49 rfl Tryd.ntmps49 rfl ?_
 refine wc_seq (wc_region (wl_assign rfl rfl (wl_nil (qk_thn ?_))))
 refine wc_seq (wc_region ?_)
 refine ws rfl rfl ?_
 refine ws rfl rfl ?_
 refine ws rfl rfl ?_
 refine wl_loadB rfl to_bytes rfl hb rfl ?_
 refine wl_call rfl (by kernel_rfl) rfl ((fn_uvarint w sb a c s hsv).mono ?_)
 rintro en w' ⟨rfl, u, n, rfl, hrel⟩
 refine ⟨_, rfl, ?_⟩
 refine wl_move rfl rfl ?_
 refine wl_extract rfl rfl rfl ?_
 refine wl_extract rfl rfl rfl ?_
 refine ws rfl rfl ?_
 refine ws rfl rfl ?_
 refine wl_nil (qk_thn ?_)
 refine wc_seq (wc_seq (wc_region ?_))
 refine ws rfl rfl ?_
 refine ws rfl rfl ?_
 refine wl_nil (qk_thn ?_)
 unfold UvarRel at hrel
 cases hp : uvarP s with
 | none =>
  rw [hp] at hrel
  simp only [] at hrel
  refine wc_yes rfl (by simpa using hrel) ?_
  refine wc_seq (wc_region ?_)
  refine ws rfl rfl ?_
  refine ws rfl rfl ?_
  refine ws rfl rfl ?_
  refine wl_storeB rfl rfl to_bool rfl hb rfl (fun w1 hb1 g1 _ => ?_)
  refine wl_nil (qk_thn ?_)
  refine wc_seq (wc_region ?_)
  refine ws rfl rfl ?_
  refine ws rfl rfl ?_
  refine ws rfl rfl ?_
  refine wl_storeB rfl rfl to_bytes rfl hb1 rfl (fun w2 hb2 g2 _ => ?_)
  refine wl_nil (qk_thn ?_)
  refine wc_seq (wc_region ?_)
  refine ws rfl rfl ?_
  refine wl_nil (qk_thn (wc_ret (qk_thn_ret (qk_ret1 rfl rfl ?_))))
  refine ⟨0, none, rfl, (Chg.grown g1).trans (Chg.grown g2), ⟨e, hb2⟩, by decide, ?_⟩
  rcases hst with ⟨rfl, _⟩ | rfl
  ·rfl
  ·simp only [hp]
 | some x =>
  rw [hp] at hrel
  simp only [] at hrel
  obtain ⟨rfl, m, rfl, hm0, hm, hx2⟩ := hrel
  obtain rfl : st = some s := by
   rcases hst with ⟨_, rfl, _⟩ | h
   ·simp at hm; omega
   ·exact h
  refine wc_no rfl (by simp; omega) (wc_skip (qk_thn (wc_seq (wc_region ?_))))
  refine ws rfl rfl ?_
  refine ws rfl rfl ?_
  refine ws rfl rfl ?_
  refine ws rfl rfl ?_
  refine wl_loadB rfl to_bytes rfl hb rfl ?_
  refine ws rfl rfl ?_
  refine wl_sliceLo (m := m) rfl rfl es_bytes rfl hm ?_
  refine ws rfl rfl ?_
  refine ws rfl rfl ?_
  refine wl_storeB rfl rfl to_bytes rfl hb rfl (fun w1 hb1 g1 _ => ?_)
  refine wl_nil (qk_thn (wc_seq (wc_region ?_)))
  refine ws rfl rfl ?_
  refine ws rfl rfl ?_
  refine wl_nil (qk_thn (wc_ret (qk_ret1 rfl rfl ?_)))
  have hg := Chg.grown g1
  refine ⟨x.1, some (s.drop m), rfl, hg, ((hsv.drop hm).chg hg (fun e => hne e.symm)).rdr hb1 (fun hz => hr.nn_drop hb hsv hz) (by simp; omega), (uvarP_lt hp).1, ?_⟩
  simp only [hp, hx2, and_self]
end Go.Proofs.YtgpnpfiafcakfaaDoor.Rdk

namespace Go.Proofs.YtgpnpfiafcakfaaDoor.Rdk
open Go Go.RowKit
set_option maxRecDepth 100000
def IntRel (k : IntKind) (n : Nat) (st : Option (List UInt8)) (m : Int) (st' : Option (List UInt8)) : Prop := match st with
 | none => st' = none
 | some s => match intP k n s with
  | some x => st' = some x.2 ∧ m = x.1
  | none => st' = none
theorem int_of_rd {P : Program} {f : Nat} {p : Rp} (h : RdC P f p) (k : IntKind) (n : Nat) (hp : ∀ s, rdP p s = (intP k n s).map fun x => ([.lit (.int k x.1)], x.2)) (hsh : shR p = [.int k]) (w : World) (rb sb lo : Nat) (st : Option (List UInt8)) (hr : Rdr w rb sb st) (h1 : rb < lo) (h2 : sb < lo) (h3 : lo ≤ w.heap.size) (h4 : rb ≠ sb) :
  Calls P f #[.pointer (some ⟨rb, 0, none⟩)] w fun e w' => ∃ m st', e = .returned (.int k m) ∧ k.wrap m = m ∧ Chg (· = rb) w w' ∧ Rdr w' rb sb st' ∧ IntRel k n st m st' := by
 refine (h w rb sb lo st hr h1 h2 h3 h4).mono (fun e w' he => ?_)
 obtain ⟨v, nd, st', rfl, hc, hr', hrep, hall, hone, hrel⟩ := he
 have hv1 := hone (by rw [hsh]; rfl)
 have hlist : v.cells.toList = [v] := by rw [hv1]
 rw [hlist] at hrep
 have hck := reps_ck _ _ hrep 0 (.int k) v (by rw [hrel.1, hsh]; rfl) rfl
 obtain ⟨m, rfl, hwr⟩ := hck
 refine ⟨m, st', rfl, hwr, hc, hr', ?_⟩
 have h3 := hrel.2.2
 cases st with
 | none => exact h3
 | some s =>
  simp only [hp] at h3
  simp only [IntRel]
  cases hx : intP k n s with
  | none => rw [hx] at h3; exact h3
  | some x =>
   rw [hx] at h3
   simp only [Option.map_some] at h3
   obtain ⟨e1, rfl⟩ := h3
   simp only [Reps, Rep] at hrep
   obtain ⟨c1, c2, e2, rfl, rfl⟩ := hrep
   simp only [List.append_nil, List.cons.injEq, Value.int.injEq, true_and, and_true] at e2
   exact ⟨e1, e2⟩
def preP (c : Bool) (s : List UInt8) : Option (Int × List UInt8) := if c then (uvarP s).map fun x => (IntKind.i32.wrap (IntKind.i32.wrap x.1 - 1), x.2) else intP .i32 4 s
def PreRel (c : Bool) (st : Option (List UInt8)) (m : Int) (st' : Option (List UInt8)) : Prop := match st with
 | none => st' = none
 | some s => match preP c s with
  | some x => st' = some x.2 ∧ m = x.1
  | none => st' = none
theorem len_fail {X : Prop} {c : Bool} {st st1 : Option (List UInt8)} {m l : Int} {s1 : List UInt8} (h : PreRel c st m st1) (hv : (st1 = none ∧ s1 = [] ∧ X) ∨ st1 = some s1) (hlt : (s1.length : Int) < m) : LenRel c st l none := by
 unfold LenRel
 unfold PreRel at h
 cases st with
 | none => rfl
 | some s =>
  simp only [] at h ⊢
  have e : lenP c s = (preP c s).bind fun x => if (x.2.length : Int) < x.1 then none else some x := rfl
  rw [e]
  cases hx : preP c s with
  | none => simp
  | some x =>
   rw [hx] at h
   obtain ⟨rfl, rfl⟩ := h
   rcases hv with ⟨hv, _⟩ | hv
   ·cases hv
   ·simp only [Option.some.injEq] at hv
    subst hv
    simp only [Option.bind_some]
    rw [if_pos hlt]
    trivial
theorem len_ok {X : Prop} {c : Bool} {st st1 : Option (List UInt8)} {m : Int} {s1 : List UInt8} (h : PreRel c st m st1) (hv : (st1 = none ∧ s1 = [] ∧ X) ∨ st1 = some s1) (hlt : ¬ (s1.length : Int) < m) : LenRel c st m st1 := by
 unfold LenRel
 unfold PreRel at h
 cases st with
 | none => exact h
 | some s =>
  simp only [] at h ⊢
  have e : lenP c s = (preP c s).bind fun x => if (x.2.length : Int) < x.1 then none else some x := rfl
  rw [e]
  cases hx : preP c s with
  | none => rw [hx] at h; exact h
  | some x =>
   rw [hx] at h
   obtain ⟨rfl, rfl⟩ := h
   rcases hv with ⟨hv, _⟩ | hv
   ·cases hv
   ·simp only [Option.some.injEq] at hv
    subst hv
    simp only [Option.bind_some]
    rw [if_neg hlt]
    exact ⟨rfl, rfl⟩
theorem len_ArrayLen : LenC Tryd.prog 25 false := by
 intro w rb sb lo st hr h1 h2 h3 h4
 refine enter Tryd.func25 rfl Tryd.ntmps25 rfl ?_
 refine wc_seq (wc_region (wl_assign rfl rfl (wl_nil (qk_thn ?_))))
 refine wc_seq (wc_region ?_)
 refine ws rfl rfl ?_
 refine wl_call rfl (by kernel_rfl) rfl ((int_of_rd rd_Int32 .i32 4 (fun s => rfl) rfl w rb sb lo st hr h1 h2 h3 h4).mono ?_)
 rintro en w1 ⟨m, st1, rfl, hwr, hc1, hr1, hrel⟩
 refine ⟨_, rfl, ?_⟩
 refine ws rfl rfl ?_
 refine wl_nil (qk_thn ?_)
 have hs1 := hc1.size
 have hpre : PreRel false st m st1 := by
  cases st with
  | none => exact hrel
  | some s => exact hrel
 have hrange : IntKind.i64.wrap m = m := by rw [IntKind.wrap_i32] at hwr; rw [IntKind.wrap_i64]; omega
 obtain ⟨a, c, s1, e, hb, hle, hlim, hsv, hst⟩ := hr1.view
 refine wc_seq (wc_seq (wc_region ?_))
 refine ws rfl rfl ?_
 refine ws rfl rfl ?_
 refine ws rfl rfl ?_
 refine wl_loadB rfl to_bytes rfl hb rfl ?_
 refine ws rfl rfl ?_
 refine ws rfl rfl ?_
 refine wl_conv .i64 rfl (by kernel_rfl) (by kernel_rfl) rfl hrange ?_
 refine ws rfl rfl ?_
 refine wl_nil (qk_thn ?_)
 refine wc_cond rfl (fun hc => ?_) (fun hc => ?_)
 ·refine wc_seq (wc_region ?_)
  refine ws rfl rfl ?_
  refine ws rfl rfl ?_
  refine ws rfl rfl ?_
  refine wl_storeB rfl rfl to_bool rfl hb rfl (fun w1 hb1 g1 _ => ?_)
  refine wl_nil (qk_thn ?_)
  refine wc_seq (wc_region ?_)
  refine ws rfl rfl ?_
  refine ws rfl rfl ?_
  refine ws rfl rfl ?_
  refine wl_storeB rfl rfl to_bytes rfl hb1 rfl (fun w2 hb2 g2 _ => ?_)
  refine wl_nil (qk_thn ?_)
  refine wc_seq (wc_region ?_)
  refine ws rfl rfl ?_
  refine wl_nil (qk_thn (wc_ret (qk_thn_ret (qk_ret1 rfl rfl ?_))))
  exact ⟨0, none, rfl, hc1.trans ((Chg.grown g1).trans (Chg.grown g2)), ⟨e, hb2⟩, len_fail hpre hst (by simpa using hc)⟩
 ·refine wc_skip (qk_thn (wc_seq (wc_region ?_)))
  refine ws rfl rfl ?_
  refine ws rfl rfl ?_
  exact wl_nil (qk_thn (wc_ret (qk_ret1 rfl rfl ⟨_, st1, rfl, hc1, hr1, len_ok hpre hst (by simpa using hc)⟩)))
theorem len_CompactArrayLen : LenC Tryd.prog 24 true := by
 intro w rb sb lo st hr h1 h2 h3 h4
 refine enter Tryd.func24 rfl Tryd.ntmps24 rfl ?_
 refine wc_seq (wc_region (wl_assign rfl rfl (wl_nil (qk_thn ?_))))
 refine wc_seq (wc_region ?_)
 refine ws rfl rfl ?_
 refine wl_call rfl (by kernel_rfl) rfl ((fn_ruv w rb sb st hr h4).mono ?_)
 rintro en w1 ⟨u, st1, rfl, hc1, hr1, hrel⟩
 refine ⟨_, rfl, ?_⟩
 refine wl_conv .i32 (r := IntKind.i32.wrap u) rfl (by kernel_rfl) (by kernel_rfl) rfl rfl ?_
 refine wl_sub' (r := IntKind.i32.wrap (IntKind.i32.wrap u - 1)) rfl rfl rfl rfl ?_
 refine ws rfl rfl ?_
 refine wl_nil (qk_thn ?_)
 have hs1 := hc1.size
 have hpre : PreRel true st (IntKind.i32.wrap (IntKind.i32.wrap u - 1)) st1 := by
  cases st with
  | none => exact hrel.2
  | some s =>
   have h5 := hrel.2
   simp only [PreRel, preP, if_true] at h5 ⊢
   cases hx : uvarP s with
   | none => rw [hx] at h5; exact h5
   | some x => rw [hx] at h5; obtain ⟨rfl, rfl⟩ := h5; exact ⟨rfl, rfl⟩
 have hrange : IntKind.i64.wrap (IntKind.i32.wrap (IntKind.i32.wrap u - 1)) = IntKind.i32.wrap (IntKind.i32.wrap u - 1) := by simp only [IntKind.wrap_i32]; rw [IntKind.wrap_i64]; omega
 obtain ⟨a, c, s1, e, hb, hle, hlim, hsv, hst⟩ := hr1.view
 refine wc_seq (wc_seq (wc_region ?_))
 refine ws rfl rfl ?_
 refine ws rfl rfl ?_
 refine ws rfl rfl ?_
 refine wl_loadB rfl to_bytes rfl hb rfl ?_
 refine ws rfl rfl ?_
 refine ws rfl rfl ?_
 refine wl_conv .i64 rfl (by kernel_rfl) (by kernel_rfl) rfl hrange ?_
 refine ws rfl rfl ?_
 refine wl_nil (qk_thn ?_)
 refine wc_cond rfl (fun hc => ?_) (fun hc => ?_)
 ·refine wc_seq (wc_region ?_)
  refine ws rfl rfl ?_
  refine ws rfl rfl ?_
  refine ws rfl rfl ?_
  refine wl_storeB rfl rfl to_bool rfl hb rfl (fun w1 hb1 g1 _ => ?_)
  refine wl_nil (qk_thn ?_)
  refine wc_seq (wc_region ?_)
  refine ws rfl rfl ?_
  refine ws rfl rfl ?_
  refine ws rfl rfl ?_
  refine wl_storeB rfl rfl to_bytes rfl hb1 rfl (fun w2 hb2 g2 _ => ?_)
  refine wl_nil (qk_thn ?_)
  refine wc_seq (wc_region ?_)
  refine ws rfl rfl ?_
  refine wl_nil (qk_thn (wc_ret (qk_thn_ret (qk_ret1 rfl rfl ?_))))
  exact ⟨0, none, rfl, hc1.trans ((Chg.grown g1).trans (Chg.grown g2)), ⟨e, hb2⟩, len_fail hpre hst (by simpa using hc)⟩
 ·refine wc_skip (qk_thn (wc_seq (wc_region ?_)))
  refine ws rfl rfl ?_
  refine ws rfl rfl ?_
  exact wl_nil (qk_thn (wc_ret (qk_ret1 rfl rfl ⟨_, st1, rfl, hc1, hr1, len_ok hpre hst (by simpa using hc)⟩)))
theorem bytes_ty : (match Tryd.prog.underlying 22 with | some (.slice e) => (match Tryd.prog.underlying e with | some (.int .u8) => true | _ => false) | _ => false) = true := by kernel_rfl
theorem str_ty : (match Tryd.prog.underlying 9 with | some .string => true | _ => false) = true := by kernel_rfl
def cntP (c : Bool) (k : IntKind) (n : Nat) (s : List UInt8) : Option (Int × List UInt8) := if c then (uvarP s).map fun x => ((x.1 : Int) - 1, x.2) else intP k n s
def CntRel (c : Bool) (k : IntKind) (n : Nat) (st : Option (List UInt8)) (m : Int) (st' : Option (List UInt8)) : Prop := match st with
 | none => st' = none
 | some s => match cntP c k n s with
  | some x => st' = some x.2 ∧ m = x.1
  | none => st' = none
theorem cnt_i {k : IntKind} {n : Nat} {st st' : Option (List UInt8)} {m : Int} (h : IntRel k n st m st') : CntRel false k n st m st' := by
 cases st with
 | none => exact h
 | some s => exact h
theorem cnt_u {k : IntKind} {n : Nat} {st st' : Option (List UInt8)} {u : Nat} (h : UvRel st u st') : CntRel true k n st ((u : Int) - 1) st' := by
 have h2 := h.2
 cases st with
 | none => exact h2
 | some s =>
  simp only [CntRel, cntP, if_true] at h2 ⊢
  cases hx : uvarP s with
  | none => rw [hx] at h2; exact h2
  | some x => rw [hx] at h2; obtain ⟨rfl, rfl⟩ := h2; exact ⟨rfl, rfl⟩
def TxtRel (c : Bool) (k : IntKind) (n : Nat) (st : Option (List UInt8)) (s1 : List UInt8) (st2 : Option (List UInt8)) : Prop := match st with
 | none => st2 = none
 | some s => match (cntP c k n s).bind fun x => spanP x.1 x.2 with
  | some y => st2 = some y.2 ∧ s1 = y.1
  | none => st2 = none
theorem span_rel {c : Bool} {k : IntKind} {n : Nat} {st st1 st2 : Option (List UInt8)} {m : Int} {s1 : List UInt8} (h : CntRel c k n st m st1) (h2 : SpanRel m st1 s1 st2) : TxtRel c k n st s1 st2 := by
 unfold TxtRel
 cases st with
 | none => simp only [CntRel] at h; subst h; exact h2
 | some s =>
  simp only [CntRel] at h
  simp only []
  cases hx : cntP c k n s with
  | none => rw [hx] at h; simp only [] at h; subst h; exact h2
  | some x =>
   rw [hx] at h
   obtain ⟨rfl, rfl⟩ := h
   simp only [Option.bind_some]
   exact h2
theorem Rdr.box' {w : World} {rb sb : Nat} {st : Option (List UInt8)} (h : Rdr w rb sb st) : rb < w.heap.size := by
 obtain ⟨_, _, _, _, hb, _⟩ := h.view
 exact hb.lt
theorem new_only {w w1 w2 : World} {rb : Nat} (h1 : Chg (fun _ => False) w w1) (h2 : Chg (· = w.heap.size) w1 w2) : Chg (· = rb) w w2 :=
 ⟨h2.os.trans h1.os, h2.tape.trans h1.tape, h2.output.trans h1.output, Nat.le_trans h1.size h2.size, fun k hk _ => (h2.block k (Nat.lt_of_lt_of_le hk h1.size) (fun e => by have e' : k = w.heap.size := e; omega)).trans (h1.block k hk id)⟩
theorem zv_str (w : World) : (zeroValue 9).run Tryd.prog w = .ok (.string ByteArray.empty) w := by kernel_rfl
theorem to_str : tyOne Tryd.prog 9 = true := by kernel_rfl
theorem str_rel {c : Bool} {st st2 : Option (List UInt8)} {s1 : List UInt8} (h : TxtRel c .i16 2 st s1 st2) : RdRel (if c then .cstr else .str) st [D.lit (strV s1)] st2 := by
 refine ⟨by cases c <;> rfl, fun d hd => by simp at hd; subst hd; rfl, ?_⟩
 unfold TxtRel at h
 cases st with
 | none => exact h
 | some s =>
  simp only [] at h ⊢
  have e : rdP (if c then .cstr else .str) s = ((cntP c .i16 2 s).bind fun x => spanP x.1 x.2).map fun y => ([.lit (strV y.1)], y.2) := by
   cases c
   ·simp only [Bool.false_eq_true, if_false, rdP, cntP]
    cases intP .i16 2 s <;> rfl
   ·simp only [if_true, rdP, cntP]
    cases uvarP s <;> rfl
  rw [e]
  cases hx : (cntP c .i16 2 s).bind fun x => spanP x.1 x.2 with
  | none => rw [hx] at h; exact h
  | some y => rw [hx] at h; obtain ⟨rfl, rfl⟩ := h; exact ⟨rfl, rfl⟩
theorem nul_rel {c : Bool} {st st1 : Option (List UInt8)} {m : Int} (h : CntRel c .i16 2 st m st1) (hn : m < 0) : RdRel (if c then .cnstr else .nstr) st [D.lit (.pointer none)] st1 := by
 refine ⟨by cases c <;> rfl, fun d hd => by simp at hd; subst hd; rfl, ?_⟩
 cases st with
 | none => exact h
 | some s =>
  simp only [CntRel] at h ⊢
  cases c
  ·simp only [cntP, Bool.false_eq_true, if_false, rdP] at h ⊢
   cases hx : intP .i16 2 s with
   | none => rw [hx] at h; exact h
   | some x =>
    rw [hx] at h
    obtain ⟨rfl, rfl⟩ := h
    simp only [Option.bind_some]
    rw [if_pos hn]
    exact ⟨rfl, rfl⟩
  ·simp only [cntP, if_true, rdP] at h ⊢
   cases hx : uvarP s with
   | none => rw [hx] at h; exact h
   | some x =>
    rw [hx] at h
    obtain ⟨rfl, rfl⟩ := h
    simp only [Option.bind_some]
    rw [if_pos hn]
    exact ⟨rfl, rfl⟩
theorem nstr_rel {c : Bool} {st st1 st2 : Option (List UInt8)} {s1 : List UInt8} {m : Int} (h0 : CntRel c .i16 2 st m st1) (hn : ¬ m < 0) (h : TxtRel c .i16 2 st s1 st2) : RdRel (if c then .cnstr else .nstr) st [D.ptr (.lit (strV s1))] st2 := by
 refine ⟨by cases c <;> rfl, fun d hd => by simp at hd; subst hd; rfl, ?_⟩
 unfold TxtRel at h
 cases st with
 | none => exact h
 | some s =>
  simp only [CntRel] at h0
  simp only [] at h ⊢
  cases c
  ·simp only [cntP, Bool.false_eq_true, if_false, rdP] at h0 h ⊢
   cases hx : intP .i16 2 s with
   | none => rw [hx] at h; exact h
   | some x =>
    rw [hx] at h h0
    obtain ⟨rfl, rfl⟩ := h0
    simp only [Option.bind_some] at h ⊢
    rw [if_neg hn]
    cases hy : spanP x.1 x.2 with
    | none => rw [hy] at h; exact h
    | some y => rw [hy] at h; obtain ⟨rfl, rfl⟩ := h; exact ⟨rfl, rfl⟩
  ·simp only [cntP, if_true, rdP] at h0 h ⊢
   cases hx : uvarP s with
   | none => rw [hx] at h; exact h
   | some x =>
    rw [hx] at h h0
    obtain ⟨rfl, rfl⟩ := h0
    simp only [Option.map_some, Option.bind_some] at h ⊢
    rw [if_neg hn]
    cases hy : spanP ((x.1 : Int) - 1) x.2 with
    | none => rw [hy] at h; exact h
    | some y => rw [hy] at h; obtain ⟨rfl, rfl⟩ := h; exact ⟨rfl, rfl⟩
theorem rd_String : RdC Tryd.prog 38 .str := by
 intro w rb sb lo st hr h1 h2 h3 h4
 refine enter Tryd.func38 rfl Tryd.ntmps38 rfl ?_
 refine wc_seq (wc_region (wl_assign rfl rfl (wl_nil (qk_thn ?_))))
 refine wc_seq (wc_region ?_)
 refine ws rfl rfl ?_
 refine wl_call rfl (by kernel_rfl) rfl ((int_of_rd rd_Int16 .i16 2 (fun s => rfl) rfl w rb sb lo st hr h1 h2 h3 h4).mono ?_)
 rintro en w1 ⟨m, st1, rfl, hwr, hc1, hr1, hrel⟩
 refine ⟨_, rfl, ?_⟩
 refine ws rfl rfl ?_
 refine wl_nil (qk_thn ?_)
 have hs1 := hc1.size
 have hcnt : CntRel false .i16 2 st m st1 := cnt_i hrel
 have hrange : IntKind.i64.wrap m = m := by rw [wrap_i16] at hwr; rw [IntKind.wrap_i64]; omega
 refine wc_seq (wc_region ?_)
 refine ws rfl rfl ?_
 refine ws rfl rfl ?_
 refine wl_conv .i64 rfl (by kernel_rfl) (by kernel_rfl) rfl hrange ?_
 refine wl_call rfl (by kernel_rfl) rfl ((fn_span w1 rb sb st1 (m) hr1 h4).mono ?_)
 rintro en w2 ⟨v, s1, st2, rfl, hc2, hr2, hsv, hlim, hspan⟩
 refine ⟨_, rfl, ?_⟩
 refine wl_toStr (sb := sb) (bs := s1) rfl hsv bytes_ty str_ty rfl ?_
 have hs2 := hc2.size
 refine ws rfl rfl ?_
 refine wl_nil (qk_thn (wc_ret (qk_ret1 rfl rfl ?_)))
 refine ⟨strV s1, [.lit (strV s1)], st2, rfl, hc1.trans hc2, hr2, reps_lits [_], rfl, fun _ => rfl, ?_⟩
 exact str_rel (c := false) (span_rel hcnt hspan)
theorem rd_CompactString : RdC Tryd.prog 37 .cstr := by
 intro w rb sb lo st hr h1 h2 h3 h4
 refine enter Tryd.func37 rfl Tryd.ntmps37 rfl ?_
 refine wc_seq (wc_region (wl_assign rfl rfl (wl_nil (qk_thn ?_))))
 refine wc_seq (wc_region ?_)
 refine ws rfl rfl ?_
 refine wl_call rfl (by kernel_rfl) rfl ((fn_ruv w rb sb st hr h4).mono ?_)
 rintro en w1 ⟨u, st1, rfl, hc1, hr1, hrel⟩
 refine ⟨_, rfl, ?_⟩
 have hul := hrel.1
 refine wl_conv .i64 (r := (u : Int)) rfl (by kernel_rfl) (by kernel_rfl) rfl (by rw [IntKind.wrap_i64]; omega) ?_
 refine wl_sub' (r := (u : Int) - 1) rfl rfl rfl (by rw [IntKind.wrap_i64]; omega) ?_
 refine ws rfl rfl ?_
 refine wl_nil (qk_thn ?_)
 have hs1 := hc1.size
 have hcnt : CntRel true .i16 2 st ((u : Int) - 1) st1 := cnt_u hrel
 refine wc_seq (wc_region ?_)
 refine ws rfl rfl ?_
 refine ws rfl rfl ?_
 refine wl_call rfl (by kernel_rfl) rfl ((fn_span w1 rb sb st1 ((u : Int) - 1) hr1 h4).mono ?_)
 rintro en w2 ⟨v, s1, st2, rfl, hc2, hr2, hsv, hlim, hspan⟩
 refine ⟨_, rfl, ?_⟩
 refine wl_toStr (sb := sb) (bs := s1) rfl hsv bytes_ty str_ty rfl ?_
 have hs2 := hc2.size
 refine ws rfl rfl ?_
 refine wl_nil (qk_thn (wc_ret (qk_ret1 rfl rfl ?_)))
 refine ⟨strV s1, [.lit (strV s1)], st2, rfl, hc1.trans hc2, hr2, reps_lits [_], rfl, fun _ => rfl, ?_⟩
 exact str_rel (c := true) (span_rel hcnt hspan)
theorem rd_NullableString : RdC Tryd.prog 33 .nstr := by
 intro w rb sb lo st hr h1 h2 h3 h4
 refine enter Tryd.func33 rfl Tryd.ntmps33 rfl ?_
 refine wc_seq (wc_region (wl_assign rfl rfl (wl_nil (qk_thn ?_))))
 refine wc_seq (wc_region ?_)
 refine ws rfl rfl ?_
 refine wl_call rfl (by kernel_rfl) rfl ((int_of_rd rd_Int16 .i16 2 (fun s => rfl) rfl w rb sb lo st hr h1 h2 h3 h4).mono ?_)
 rintro en w1 ⟨m, st1, rfl, hwr, hc1, hr1, hrel⟩
 refine ⟨_, rfl, ?_⟩
 refine ws rfl rfl ?_
 refine wl_nil (qk_thn ?_)
 have hs1 := hc1.size
 have hcnt : CntRel false .i16 2 st m st1 := cnt_i hrel
 have hrange : IntKind.i64.wrap m = m := by rw [wrap_i16] at hwr; rw [IntKind.wrap_i64]; omega
 refine wc_seq (wc_seq (wc_region ?_))
 refine ws rfl rfl ?_
 refine ws rfl rfl ?_
 refine wl_nil (qk_thn ?_)
 refine wc_cond rfl (fun hc => ?_) (fun hc => ?_)
 ·refine wc_seq (wc_region ?_)
  refine ws rfl rfl ?_
  refine wl_nil (qk_thn (wc_ret (qk_thn_ret (qk_ret1 rfl rfl ?_))))
  have hneg : m < 0 := by simpa using hc
  refine ⟨_, [.lit (.pointer none)], st1, rfl, hc1, hr1, reps_lits [_], rfl, fun _ => rfl, ?_⟩
  exact nul_rel (c := false) hcnt hneg
 refine wc_skip (qk_thn ?_)
 have hnn : ¬ m < 0 := by simpa using hc
 refine wc_seq (wc_region ?_)
 refine ws rfl rfl ?_
 refine ws rfl rfl ?_
 refine wl_conv .i64 rfl (by kernel_rfl) (by kernel_rfl) rfl hrange ?_
 refine wl_call rfl (by kernel_rfl) rfl ((fn_span w1 rb sb st1 (m) hr1 h4).mono ?_)
 rintro en w2 ⟨v, s1, st2, rfl, hc2, hr2, hsv, hlim, hspan⟩
 refine ⟨_, rfl, ?_⟩
 refine wl_toStr (sb := sb) (bs := s1) rfl hsv bytes_ty str_ty rfl ?_
 have hs2 := hc2.size
 refine wl_alloc zv_str rfl rfl (fun w3 hb3 hg3 hs3 => ?_)
 refine wl_storeB rfl rfl to_str rfl hb3 rfl (fun w4 hb4 hg4 _ => ?_)
 refine wl_nil (qk_thn (wc_seq (wc_region ?_)))
 refine ws rfl rfl ?_
 refine wl_nil (qk_thn (wc_ret (qk_ret1 rfl rfl ?_)))
 have c3 : Chg (fun _ => False) w2 w3 := Chg.grown0 hg3
 have c4 : Chg (· = w2.heap.size) w3 w4 := Chg.grown hg4
 have hrb := Rdr.box' hr
 have c34 : Chg (· = rb) w2 w4 := new_only c3 c4
 have hsz4 := c4.size
 refine ⟨_, [.ptr (.lit (strV s1))], st2, rfl, (hc1.trans hc2).trans c34, (hr2.chg c3 id id).chg c4 (by omega) (by omega), ?_, rfl, fun _ => rfl, ?_⟩
 ·refine ⟨[_], [], rfl, ⟨w2.heap.size, _, rfl, ⟨.inr (by omega), by omega⟩, hb4.cells, rfl⟩, rfl⟩
 ·exact nstr_rel (c := false) hcnt hnn (span_rel hcnt hspan)
theorem rd_CompactNullableString : RdC Tryd.prog 31 .cnstr := by
 intro w rb sb lo st hr h1 h2 h3 h4
 refine enter Tryd.func31 rfl Tryd.ntmps31 rfl ?_
 refine wc_seq (wc_region (wl_assign rfl rfl (wl_nil (qk_thn ?_))))
 refine wc_seq (wc_region ?_)
 refine ws rfl rfl ?_
 refine wl_call rfl (by kernel_rfl) rfl ((fn_ruv w rb sb st hr h4).mono ?_)
 rintro en w1 ⟨u, st1, rfl, hc1, hr1, hrel⟩
 refine ⟨_, rfl, ?_⟩
 have hul := hrel.1
 refine wl_conv .i64 (r := (u : Int)) rfl (by kernel_rfl) (by kernel_rfl) rfl (by rw [IntKind.wrap_i64]; omega) ?_
 refine wl_sub' (r := (u : Int) - 1) rfl rfl rfl (by rw [IntKind.wrap_i64]; omega) ?_
 refine ws rfl rfl ?_
 refine wl_nil (qk_thn ?_)
 have hs1 := hc1.size
 have hcnt : CntRel true .i16 2 st ((u : Int) - 1) st1 := cnt_u hrel
 refine wc_seq (wc_seq (wc_region ?_))
 refine ws rfl rfl ?_
 refine ws rfl rfl ?_
 refine wl_nil (qk_thn ?_)
 refine wc_cond rfl (fun hc => ?_) (fun hc => ?_)
 ·refine wc_seq (wc_region ?_)
  refine ws rfl rfl ?_
  refine wl_nil (qk_thn (wc_ret (qk_thn_ret (qk_ret1 rfl rfl ?_))))
  have hneg : (u : Int) - 1 < 0 := by simpa using hc
  refine ⟨_, [.lit (.pointer none)], st1, rfl, hc1, hr1, reps_lits [_], rfl, fun _ => rfl, ?_⟩
  exact nul_rel (c := true) hcnt hneg
 refine wc_skip (qk_thn ?_)
 have hnn : ¬ (u : Int) - 1 < 0 := by simpa using hc
 refine wc_seq (wc_region ?_)
 refine ws rfl rfl ?_
 refine ws rfl rfl ?_
 refine wl_call rfl (by kernel_rfl) rfl ((fn_span w1 rb sb st1 ((u : Int) - 1) hr1 h4).mono ?_)
 rintro en w2 ⟨v, s1, st2, rfl, hc2, hr2, hsv, hlim, hspan⟩
 refine ⟨_, rfl, ?_⟩
 refine wl_toStr (sb := sb) (bs := s1) rfl hsv bytes_ty str_ty rfl ?_
 have hs2 := hc2.size
 refine wl_alloc zv_str rfl rfl (fun w3 hb3 hg3 hs3 => ?_)
 refine wl_storeB rfl rfl to_str rfl hb3 rfl (fun w4 hb4 hg4 _ => ?_)
 refine wl_nil (qk_thn (wc_seq (wc_region ?_)))
 refine ws rfl rfl ?_
 refine wl_nil (qk_thn (wc_ret (qk_ret1 rfl rfl ?_)))
 have c3 : Chg (fun _ => False) w2 w3 := Chg.grown0 hg3
 have c4 : Chg (· = w2.heap.size) w3 w4 := Chg.grown hg4
 have hrb := Rdr.box' hr
 have c34 : Chg (· = rb) w2 w4 := new_only c3 c4
 have hsz4 := c4.size
 refine ⟨_, [.ptr (.lit (strV s1))], st2, rfl, (hc1.trans hc2).trans c34, (hr2.chg c3 id id).chg c4 (by omega) (by omega), ?_, rfl, fun _ => rfl, ?_⟩
 ·refine ⟨[_], [], rfl, ⟨w2.heap.size, _, rfl, ⟨.inr (by omega), by omega⟩, hb4.cells, rfl⟩, rfl⟩
 ·exact nstr_rel (c := true) hcnt hnn (span_rel hcnt hspan)
end Go.Proofs.YtgpnpfiafcakfaaDoor.Rdk

namespace Go.Proofs.YtgpnpfiafcakfaaDoor.Rdk
open Go Go.RowKit
set_option maxRecDepth 100000
end Go.Proofs.YtgpnpfiafcakfaaDoor.Rdk

namespace Go.Proofs.YtgpnpfiafcakfaaDoor.Rdk
open Go Go.RowKit
set_option maxRecDepth 100000
section
variable {P : Program} {ops : Array Oper} {Q : Exit → Act → World → Prop} {N : Nat} {rest : List Oper} {L : Sl} {w : World} {d : Nat} {ty : TypeId} {pos : String} {aft : Array Edge}
theorem wl_mapNil {x : Operand} {t u : TypeId} {m : Option Nat} (hx : ev L x = some (.map m)) (ht : (match P.underlying t with | some (.map _ _) => true | _ => false) = true) (hd : Nat.blt d N = true) (h : WL rest P ops Q N ((d, .bool m.isNone) :: L) w) :
  WL (⟨some d, .binOp .eql t x (.const (.map none)) u, ty, pos, aft, none⟩ :: rest) P ops Q N L w := by
 intro a k
 split at ht
 ·rename_i kt et hu
  refine st_of (o := ⟨some d, .binOp .eql t x (.const (.map none)) u, ty, pos, aft, none⟩) (v := .bool m.isNone) (w' := w) rfl ?_ (h _ (k.put _ hd))
  simp only [execOp, k.eval hx, eval_const]
  have h : ∀ d : Nat, (Op.equalIn (d + 1) t (.map m) (.map none)).run P w = .ok m.isNone w := fun d => by
   cases m <;> simp [Op.equalIn, run_underlying hu]
  simp only [eqGuard, binOp]
  simp [Op.equal, Op.maxDepth, h 9999]
 ·cases ht
theorem wl_makeMap {t : TypeId} (hd : Nat.blt d N = true) (h : WL rest P ops Q N ((d, .map (some w.heap.size)) :: L) (w.alloc (.map #[] 0))) : WL (⟨some d, .makeMap t none, ty, pos, aft, none⟩ :: rest) P ops Q N L w := by
 intro a k
 refine st_of (o := ⟨some d, .makeMap t none, ty, pos, aft, none⟩) (v := .map (some w.heap.size)) rfl ?_ (h _ (k.put _ hd))
 simp [execOp, run_makeMap]
theorem wl_mapUpd {x y z : Operand} {t : TypeId} {m kk v : Value} {w' : World} (hx : ev L x = some m) (hy : ev L y = some kk) (hz : ev L z = some v) (hr : (Instr.mapUpdate t m kk v).run P w = .ok () w') (h : WL rest P ops Q N L w') :
  WL (⟨none, .mapUpdate t x y z, ty, pos, aft, none⟩ :: rest) P ops Q N L w := by
 intro a k
 refine st_of_skip (o := ⟨none, .mapUpdate t x y z, ty, pos, aft, none⟩) (w' := w') rfl ?_ (h _ k)
 simp [execOp, k.eval hx, k.eval hy, k.eval hz, hr]
end
def tblT : Tbl := ⟨[(55, 0, 0)], []⟩
theorem tblT_ok : tblT.ok Tryd.prog = true := by kernel_rfl
theorem wt {ops : Array Oper} {Q : Exit → Act → World → Prop} {N : Nat} {rest : List Oper} {L : Sl} {w : World} {d : Nat} {ty : TypeId} {pos : String} {aft : Array Edge} {o : Op} {v : Value}
  (hs : stepOp tblT L o = some v) (hd : Nat.blt d N = true) (h : WL rest Tryd.prog ops Q N ((d, v) :: L) w) : WL (⟨some d, o, ty, pos, aft, none⟩ :: rest) Tryd.prog ops Q N L w := wl_step tblT tblT_ok hs hd h
theorem um : Tryd.prog.underlying 53 = some (.map 48 22) := by kernel_rfl
theorem uk : Tryd.prog.underlying 48 = some (.int .u32) := by kernel_rfl
theorem to_map : tyOne Tryd.prog 53 = true := by kernel_rfl
theorem zv_tags (w : World) : (zeroValue 55).run Tryd.prog w = .ok (.agg #[.map none]) w := by kernel_rfl
theorem ta_tags : tyAgg Tryd.prog 55 = some 1 := by kernel_rfl
theorem tz_tags : (Tryd.prog.info? 55).map (·.size) = some 1 := by kernel_rfl
def TagsAt (w : World) (sb lo : Nat) (m : Value) (u : List (Nat × List UInt8)) : Prop := (m = .map none ∧ u = []) ∨ ∃ r, m = .map (some r) ∧ lo ≤ r ∧ TagMap w sb r u
theorem TagsAt.keep {w w' : World} {S : Nat → Prop} {sb lo : Nat} {m : Value} {u : List (Nat × List UInt8)} (h : TagsAt w sb lo m u) (hc : Chg S w w') (hr : ∀ r, lo ≤ r → r < w.heap.size → ¬ S r) (hs : ¬ S sb) (hsb : sb < w.heap.size) : TagsAt w' sb lo m u := by
 rcases h with h | ⟨r, rfl, hlo, ht⟩
 ·exact .inl h
 ·have hlt : r < w.heap.size := by
   obtain ⟨⟨es, clock, hb, _⟩, _⟩ := ht
   exact (Array.getElem?_eq_some_iff.1 hb).1
  exact .inr ⟨r, rfl, hlo, ht.keep hc (hr r hlo hlt) hs hsb⟩
theorem fn_set (w : World) (tb sb lo key : Nat) (val m : Value) (u : List (Nat × List UInt8)) (e : TypeId) (s : List UInt8) (hb : Box w tb [m] e) (ht : TagsAt w sb lo m u) (hv : SrcV w sb val s) (h1 : tb < lo) (h2 : sb < lo) (h3 : lo ≤ w.heap.size) (h4 : tb ≠ sb) :
  Calls Tryd.prog 53 #[.pointer (some ⟨tb, 0, none⟩), .int .u32 key, val] w fun en w' => en = .returned (.tuple #[]) ∧ ∃ m', Box w' tb [m'] e ∧ TagsAt w' sb lo m' (setTag key s u) ∧ Chg (fun j => j = tb ∨ lo ≤ j) w w' := by
 refine enter Tryd.func53 rfl Tryd.ntmps53 rfl ?_
 have upd : ∀ (w1 : World) (r : Nat) (u1 : List (Nat × List UInt8)), Box w1 tb [.map (some r)] e → lo ≤ r → TagMap w1 sb r u1 → SrcV w1 sb val s → sb < w1.heap.size → Chg (fun j => j = tb ∨ lo ≤ j) w w1 → setTag key s u1 = setTag key s u →
   ∃ w', (Instr.mapUpdate 53 (.map (some r)) (.int .u32 key) val).run Tryd.prog w1 = .ok () w' ∧ (∃ m', Box w' tb [m'] e ∧ TagsAt w' sb lo m' (setTag key s u) ∧ Chg (fun j => j = tb ∨ lo ≤ j) w w') := by
  intro w1 r u1 hb1 hr htm hv1 hsb hc heq
  obtain ⟨w', hrun, hc', _, ht'⟩ := run_tagSet um uk htm (by omega) hsb key hv1
  exact ⟨w', hrun, _, hb1.chg hc' (by show tb ≠ r; omega), .inr ⟨r, rfl, hr, by rw [← heq]; exact ht'⟩, hc.trans (hc'.wide (fun j hj => .inr (by have : j = r := hj; omega)))⟩
 rcases ht with ⟨rfl, rfl⟩ | ⟨r, rfl, hr, htm⟩
 ·refine wc_seq (wc_seq (wc_region ?_))
  refine wt rfl rfl ?_
  refine wt rfl rfl ?_
  refine wt rfl rfl ?_
  refine wl_loadB rfl to_map rfl hb rfl ?_
  refine wl_mapNil rfl (by kernel_rfl) rfl ?_
  refine wl_nil (qk_thn (wc_yes rfl rfl (wc_region ?_)))
  refine wt rfl rfl ?_
  refine wl_makeMap rfl ?_
  have hal : Chg (fun _ => False) w (w.alloc (.map #[] 0)) := chg_alloc w _ _
  have hnew := tagMap_new w sb
  have hb1 := hb.chg hal id
  have hs1 : (w.alloc (.map #[] 0)).heap.size = w.heap.size + 1 := by simp
  have hv1 := hv.chg hal id
  generalize w.alloc (.map #[] 0) = w1 at *
  refine wt rfl rfl ?_
  refine wt rfl rfl ?_
  refine wl_storeB rfl rfl to_map rfl hb1 rfl (fun w2 hb2 hg2 hs2 => ?_)
  have hc2 := Chg.grown hg2
  have hne : ∀ j : Nat, (fun j => j = tb) j → j ≠ w.heap.size := fun j hj => by have : j = tb := hj; omega
  obtain ⟨w3, hrun, m', hb3, ht3, hc3⟩ := upd w2 w.heap.size [] hb2 h3 (hnew.keep hc2 (fun e => by have : w.heap.size = tb := e; omega) (fun e => h4 e.symm) (by omega)) (hv1.chg hc2 (fun e => h4 e.symm)) (by omega) ((hal.wide (fun _ h => h.elim)).trans (hc2.wide (fun j hj => .inl hj))) rfl
  refine wl_nil (qk_thn (wc_region ?_))
  refine wt rfl rfl ?_
  refine wt rfl rfl ?_
  refine wt rfl rfl ?_
  refine wl_loadB rfl to_map rfl hb2 rfl ?_
  refine wt rfl rfl ?_
  refine wt rfl rfl ?_
  refine wl_mapUpd rfl rfl rfl hrun ?_
  exact wl_nil (qk_end0 rfl ⟨rfl, m', hb3, ht3, hc3⟩)
 ·obtain ⟨w3, hrun, m', hb3, ht3, hc3⟩ := upd w r u hb hr htm hv (by omega) (Chg.refl _ _) rfl
  refine wc_seq (wc_seq (wc_region ?_))
  refine wt rfl rfl ?_
  refine wt rfl rfl ?_
  refine wt rfl rfl ?_
  refine wl_loadB rfl to_map rfl hb rfl ?_
  refine wl_mapNil rfl (by kernel_rfl) rfl ?_
  refine wl_nil (qk_thn (wc_no rfl rfl (wc_skip (qk_thn (wc_region ?_)))))
  refine wt rfl rfl ?_
  refine wt rfl rfl ?_
  refine wt rfl rfl ?_
  refine wl_loadB rfl to_map rfl hb rfl ?_
  refine wt rfl rfl ?_
  refine wt rfl rfl ?_
  refine wl_mapUpd rfl rfl rfl hrun ?_
  exact wl_nil (qk_end0 rfl ⟨rfl, m', hb3, ht3, hc3⟩)
end Go.Proofs.YtgpnpfiafcakfaaDoor.Rdk

namespace Go.Proofs.YtgpnpfiafcakfaaDoor
open Go Go.RowKit
section
set_option maxRecDepth 100000
end
end Go.Proofs.YtgpnpfiafcakfaaDoor
