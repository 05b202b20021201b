/- A part of the proof of FnUnsafeDescribeConfigsResponseCardSaid: what its texts prove stands at the head of each. Conditions: those that each theorem names. -/
import Derived.Test.YtgpnpfiafcakfaaDoorPartC
import Derived.Test.YtgpnpfiafcakfaaDoorPartA
import Derived.Lib.ConvBytes
set_option linter.all false
namespace Go.Proofs.YtgpnpfiafcakfaaDoor
open Go Go.RowKit
structure Ep where
 ix : Nat
 n : Nat
 c : Nat
 sl : Nat
 p : Nat
 q : Nat
 xb : Nat
 u : Nat
 id : Nat
 id3 : Nat
 ti : Nat
 tl : Nat
 ta : Nat
 ts : Nat
 body : Code
def outS (S : List Nat) (d : Nat) : Bool := S.all fun s => !Nat.beq s d
def eachP (N : Nat) (S : List Nat) : Code → Option Ep
 | .block id (.loop (.seq (.region _ ⟨[⟨some c, .binOp .lss _ (.tmp ix) (.tmp n) _, _, _, _, none⟩]⟩ false) (.seq (.cond (.tmp c2) .skip (.exit id2)) (.seq (.block id3 (.seq (.region _ ⟨[⟨some p, .indexAddr ti (.tmp sl) (.tmp ix2), _, _, _, none⟩, ⟨some q, .load tl (.tmp p2), _, _, _, none⟩, ⟨some xb, .alloc ta, _, _, _, none⟩, ⟨none, .store ts (.tmp xb2) (.tmp q2), _, _, _, none⟩]⟩ false) body))
   (.region _ ⟨[⟨some u, .binOp .add _ (.tmp ix3) (.const (.int .i64 1)) _, _, _, _, none⟩, ⟨some ix4, .move (.tmp u2), _, _, _, none⟩]⟩ false))))) =>
  bif Nat.beq c c2 && Nat.beq id id2 && Nat.beq ix ix2 && Nat.beq p p2 && Nat.beq xb xb2 && Nat.beq q q2 && Nat.beq ix ix3 && Nat.beq ix ix4 && Nat.beq u u2 && Nat.blt c N && Nat.blt p N && Nat.blt q N && Nat.blt xb N && Nat.blt u N && Nat.blt ix N &&
   outS (n :: sl :: S) ix && outS (ix :: n :: sl :: S) c && outS (ix :: n :: sl :: S) p && outS (ix :: n :: sl :: S) q && outS (ix :: n :: sl :: S) xb && outS (ix :: n :: sl :: S) u && !Nat.beq q p && !Nat.beq xb p && !Nat.beq xb q then some ⟨ix, n, c, sl, p, q, xb, u, id, id3, ti, tl, ta, ts, body⟩ else none
 | _ => none
theorem bif_cond {α : Type} {b : Bool} {a x : α} (h : (bif b then some a else none) = some x) : b = true ∧ a = x := by
 cases b with
 | false => cases h
 | true => exact ⟨rfl, Option.some.inj h⟩
theorem nb_ne {a b : Nat} (h : Nat.beq a b = false) : a ≠ b := by rintro rfl; rw [Nat.beq_refl] at h; cases h
theorem outS_ne {S : List Nat} {d s : Nat} (h : outS S d = true) (hs : s ∈ S) : s ≠ d := by
 have := List.all_eq_true.1 h s hs
 intro e; subst e; rw [Nat.beq_refl] at this; cases this
theorem lk_ne {L : Sl} {d t : Nat} {v : Value} (h : d ≠ t) : lk ((d, v) :: L) t = lk L t := by
 simp only [lk]
 cases hb : Nat.beq d t with
 | true => exact absurd (beq_out hb) h
 | false => rfl
theorem lk_eq {L : Sl} {d : Nat} {v : Value} : lk ((d, v) :: L) d = some v := by simp [lk, Nat.beq_refl]
theorem lk_none_of {L : Sl} {d : Nat} (h : outS (L.map (·.1)) d = true) : lk L d = none := lk_noneS h
theorem Kn.drop {N : Nat} {a : Act} {L : Sl} {d : Nat} {v : Value} (h : Kn N a ((d, v) :: L)) (hd : lk L d = none) : Kn N a L :=
 ⟨h.size, h.defers, fun t u e => h.at_ t u (by rw [lk_ne (by rintro rfl; rw [hd] at e; cases e)]; exact e)⟩
theorem Kn.pick {N : Nat} {a : Act} {L F : Sl} (h : Kn N a L) (hF : ∀ t v, lk F t = some v → lk L t = some v) : Kn N a F := ⟨h.size, h.defers, fun t v e => h.at_ t v (hF t v e)⟩
section
variable {P : Program} {Q : Exit → Act → World → Prop} {N : Nat} {L : Sl} {w : World}
theorem wc_loopK {α : Type} {c : Code} (Lf : α → Sl) (Wf : α → World → Prop) (μ : α → Nat) (x : α) (hL : ∀ a : Act, Kn N a L → Kn N a (Lf x)) (hW : Wf x w)
  (round : ∀ y w', Wf y w' → WC c P (Exit.then (fun a' w'' => ∃ z, Kn N a' (Lf z) ∧ Wf z w'' ∧ μ z < μ y) Q) N (Lf y) w') : WC (.loop c) P Q N L w := by
 intro a k
 refine wp_loop_ghost (fun n a' w' => ∃ z, Kn N a' (Lf z) ∧ Wf z w' ∧ μ z = n) (μ x) ⟨x, hL a k, hW, rfl⟩ ?_
 rintro n a' w' ⟨y, ky, hy, rfl⟩
 refine wp_mono (round y w' hy a' ky) (fun e a'' w'' hq => ?_)
 cases e with
 | normal =>
  obtain ⟨z, kz, hz, hlt⟩ := hq
  exact ⟨μ z, hlt, z, kz, hz, rfl⟩
 | _ => exact hq
theorem wc_drop {c : Code} {d : Nat} {v : Value} (hd : lk L d = none) (h : WC c P Q N L w) : WC c P Q N ((d, v) :: L) w := fun a k => h a (k.drop hd)
theorem qk_drop {e : Exit} {d : Nat} {v : Value} (hd : lk L d = none) (h : QK e Q N L w) : QK e Q N ((d, v) :: L) w := fun a k => h a (k.drop hd)
end
end Go.Proofs.YtgpnpfiafcakfaaDoor

namespace Go.Proofs.YtgpnpfiafcakfaaDoor
open Go Go.RowKit
inductive Rl where
 | vp (o : Nat) | row | xp (k : Nat) | xf (k : Nat) | xw | cv (kind : Int)
def litV : D → Value
 | .lit v => v
 | _ => undef
def Rl.v (vb xbk : Nat) (d : Value) (xcs : List Value) (x : Tree) : Rl → Value
 | .vp o => .pointer (some ⟨vb, o, none⟩)
 | .row => d
 | .xp k => .pointer (some ⟨xbk, k, none⟩)
 | .xf k => xcs.getD k undef
 | .xw => .agg xcs.toArray
 | .cv kind => litV (valK kind (-1) x)
def idxOf (ops : List Oper) (s : Nat) : Option Nat := (List.range ops.length).find? fun j => dstOf ops j == some s
theorem idxOf_out {ops : List Oper} {s j : Nat} (h : idxOf ops s = some j) : dstOf ops j = some s := by
 have := List.find?_some h
 simpa using this
section
variable {P : Program} {a : Act} {w : World} {o : Oper}
structure RlW (vb xbk off : Nat) (d : Value) (xcs : List Value) (x : Tree) (e tX : TypeId) (cells : List Value) (w : World) : Prop where
 st : Box w vb cells e
 row : cells[off]? = some d
 xb : Box w xbk xcs tX
 rep : ∃ ok : Nat → Prop, Rep ok w (treeD x) xcs
theorem getD_some {l : List Value} {k : Nat} {v : Value} (h : l[k]? = some v) : l.getD k undef = v := by simp [List.getD, h]
end
end Go.Proofs.YtgpnpfiafcakfaaDoor

namespace Go.Proofs.YtgpnpfiafcakfaaDoor
open Go Go.RowKit
def actAt (ops : List Oper) (p : Op → Bool) : Option Nat := (List.range ops.length).find? fun i => match ops[i]? with | some o => p o.op | none => false
def isSlice1 : Op → Bool
 | .buildSlice _ 1 ⟨[(0, _)]⟩ => true
 | _ => false
def isApp : Op → Bool
 | .call ⟨.builtin .append, _, _⟩ => true
 | _ => false
def actRef (fl : Bool) (ops : List Oper) (i j : Nat) : Operand → Bool
 | .tmp s => dstOf ops j == some s && (prs fl ops i).contains j
 | _ => false
theorem actRef_out {fl : Bool} {ops : List Oper} {i j : Nat} {x : Operand} (h : actRef fl ops i j x = true) : ∃ s, x = .tmp s ∧ dstOf ops j = some s ∧ j ∈ prs fl ops i := by
 unfold actRef at h
 split at h
 ·rename_i s
  rw [Bool.and_eq_true] at h
  exact ⟨s, rfl, by simpa using h.1, by simpa using h.2⟩
 ·cases h
def opAt (ops : List Oper) (i : Nat) (p : Op → Bool) : Bool := match ops[i]? with
 | some o => p o.op
 | none => false
theorem opAt_out {ops : List Oper} {i : Nat} {p : Op → Bool} (h : opAt ops i p = true) : ∃ o, ops[i]? = some o ∧ p o.op = true := by
 unfold opAt at h
 split at h
 ·rename_i o ho; exact ⟨o, ho, h⟩
 ·cases h
section
variable {P : Program} {K : Fk} {tg : Bool}
end
end Go.Proofs.YtgpnpfiafcakfaaDoor

namespace Go.Proofs.YtgpnpfiafcakfaaDoor
open Go Go.RowKit
theorem RowD.okb {B lo l0 bx e sz : Nat} {w : World} {d : Value} {ds : List D} (h : RowD B lo bx e sz w d ds) (hl : l0 ≤ lo) (hn : ∃ g, d.ownBlock = some g) : Rep (In B l0 w) w (.sl false ds) [d] := by
 obtain ⟨ha, hlw, xs, hr, hx⟩ := h
 obtain ⟨g, hg⟩ := hn
 have hgl := hlw g hg
 have hx' : Reps (In B l0 w) w ds xs := hx.up (fun _ hr => ⟨by have := hr.1; omega, hr.2.1⟩) (fun _ _ => rfl)
 simp only [Rep]
 obtain ⟨hxl, ⟨rfl, _⟩ | ⟨g', cap, cur, rfl, hBg, hheap, hle, hcap, hcs, htake⟩⟩ := hr
 ·cases hg
 ·have : g' = g := by simpa [Value.ownBlock] using hg
  subst this
  refine ⟨some ⟨g', 0, none⟩, cap, rfl, hle, (fun h => by cases h), fun _ => ⟨g', 0, xs, rfl, ⟨.inr (by omega), hgl.2⟩, ⟨cur, e, (0, 0), hheap, ?_, fun i v hv => ?_⟩, hx'⟩⟩
  ·rw [hxl, hcs, Nat.zero_add]; exact Nat.mul_le_mul_right _ hle
  ·rw [← htake, List.getElem?_take] at hv
   split at hv
   ·simpa using hv
   ·cases hv
def optIs (o : Option Nat) (n : Nat) : Bool := match o with
 | some m => Nat.beq m n
 | none => false
theorem optIs_out {o : Option Nat} {n : Nat} (h : optIs o n = true) : o = some n := by
 unfold optIs at h
 split at h
 ·rw [beq_out h]
 ·cases h
section
variable {P : Program} {K : Fk} {N B l0 vb tb : Nat} {tcs : List Value} {tg : Bool} {t : Tree} {w : World}
end
end Go.Proofs.YtgpnpfiafcakfaaDoor

namespace Go.Proofs.YtgpnpfiafcakfaaDoor
open Go Go.RowKit
section
variable {P : Program} {K : Fk} {N B l0 vb tb : Nat} {tcs : List Value} {tg : Bool} {t : Tree} {w : World}
end
end Go.Proofs.YtgpnpfiafcakfaaDoor

namespace Go.Proofs.YtgpnpfiafcakfaaDoor
open Go Go.RowKit
structure TagG (w : World) (ok : Nat → Prop) (r : Nat) (u : List (Nat × List UInt8)) : Prop where
 at_ : ∃ es clock, w.heap[r]? = some (.map es clock) ∧ Mapped es clock (u.map (·.1)) ∧ RepKs ok w es (u.map fun kv => (kv.1, bytesD kv.2))
 up : Rising u
section
variable {P : Program} {w : World} {mty kt et : TypeId} {r clock : Nat} {es : Array MapEntry} {ks : List Nat}
theorem TagG.keep {w w' : World} {S : Nat → Prop} {ok : Nat → Prop} {r : Nat} {u : List (Nat × List UInt8)} (h : TagG w ok r u) (hc : Chg S w w') (hr : ¬ S r) (hs : ∀ b, ok b → b < w.heap.size ∧ ¬ S b) : TagG w' ok r u := by
 obtain ⟨⟨es, clock, hb, hm, hk⟩, hu⟩ := h
 have hlt : r < w.heap.size := (Array.getElem?_eq_some_iff.1 hb).1
 exact ⟨⟨es, clock, (hc.block r hlt hr).trans hb, hm, RepKs.mono (fun b hb => ⟨hb, hc.block b (hs b hb).1 (hs b hb).2⟩) es _ hk⟩, hu⟩
end
def TgAt (B lo : Nat) (w : World) (m : Value) (u : List (Nat × List UInt8)) : Prop := (m = .map none ∧ u = []) ∨ ∃ r, m = .map (some r) ∧ lo ≤ r ∧ TagG w (Lo B) r u
theorem TgAt.keep {B vb lo : Nat} (hf : Fb B lo vb) {w w' : World} {S : Nat → Prop} {m : Value} {u : List (Nat × List UInt8)} (h : TgAt B lo w m u) (hc : Chg S w w') (hlo : lo ≤ w.heap.size) (hs : ∀ j, S j → j = vb) : TgAt B lo w' m u := by
 have h1 := hf.le
 have h2 := hf.lt
 rcases h with h | ⟨r, rfl, hr, ht⟩
 ·exact .inl h
 ·exact .inr ⟨r, rfl, hr, ht.keep hc (fun e => by have := hs r e; omega) (fun b hb => ⟨by have h3 : b < B := hb; omega, fun e => by have h3 : b < B := hb; have := hs b e; omega⟩)⟩
theorem TgAt.rep {B l0 lo : Nat} {w : World} {m : Value} {u : List (Nat × List UInt8)} (h : TgAt B lo w m u) (hlo : lo ≤ w.heap.size) (hl : l0 ≤ lo) (hB : B ≤ w.heap.size) : Rep (In B l0 w) w (tagsK u) [m] := by
 simp only [tagsK, Rep]
 rcases h with ⟨rfl, rfl⟩ | ⟨r, rfl, hr, ⟨es, clock, hb, hm, hk⟩, _⟩
 ·exact .inl ⟨rfl, rfl⟩
 ·have hlt : r < w.heap.size := (Array.getElem?_eq_some_iff.1 hb).1
  refine .inr ⟨r, es, clock, rfl, ⟨.inr (by omega), hlt⟩, hb, ?_, RepKs.mono (fun b hb => ⟨⟨.inl hb, by have h3 : b < B := hb; omega⟩, rfl⟩) es _ hk⟩
  rw [List.map_map]
  exact hm
section
variable {P : Program} {N : Nat} {L : Sl} {w : World}
end
end Go.Proofs.YtgpnpfiafcakfaaDoor

namespace Go.Proofs.YtgpnpfiafcakfaaDoor
open Go Go.RowKit
section
variable {P : Program} {K : Fk} {N B l0 vb tb : Nat} {tcs : List Value} {tg : Bool} {t : Tree} {w : World}
theorem FWd.next {tT : TypeId} (hf : Fb B l0 vb) (hl0 : l0 ≤ w.heap.size) {w' : World} (h : FWd B vb tb tT tcs t w) (hc : Chg (fun j => j = vb ∨ w.heap.size ≤ j) w w') : FWd B vb tb tT tcs t w' := h.up hf hc hl0 (fun j hj => hj)
end
end Go.Proofs.YtgpnpfiafcakfaaDoor

namespace Go.Proofs.YtgpnpfiafcakfaaDoor
open Go Go.RowKit
def zeroOf (P : Program) (t : Nat) : Option (List Value) := match P.info? t with
 | some i => (match i.zero with | some z => some z.cells.toList | none => none)
 | none => none
theorem zeroOf_out {P : Program} {t : Nat} {zs : List Value} (h : zeroOf P t = some zs) : ∃ z : Value, (∀ w : World, (zeroValue t).run P w = .ok z w) ∧ z.cells = zs.toArray := by
 unfold zeroOf at h
 split at h
 ·rename_i i hi
  split at h
  ·rename_i z hz
   cases h
   exact ⟨z, fun w => by simp [zeroValue, typeInfo, hi, hz], by simp⟩
  ·cases h
 ·cases h
def cellRes (r : Array ResultVar) : Option (Nat × Nat) := match r with
 | ⟨[.cell s t]⟩ => some (s, t)
 | _ => none
theorem cellRes_out {r : Array ResultVar} {p : Nat × Nat} (h : cellRes r = some p) : r = #[.cell p.1 p.2] := by
 unfold cellRes at h
 split at h
 ·cases h; rfl
 ·cases h
mutual
def D.one : D → Prop
 | .lit v => v.oneCell' = true
 | .agg ds => D.ones ds
 | _ => True
def D.ones : List D → Prop
 | [] => True
 | d :: ds => d.one ∧ D.ones ds
end
section
variable {P : Program} {K : Fk} {tg : Bool}
end
end Go.Proofs.YtgpnpfiafcakfaaDoor

namespace Go.Proofs.YtgpnpfiafcakfaaDoor
open Go Go.RowKit
def leafT (n : Int) : Tree := .mk n [] false [] []
def textT (s : List UInt8) : Tree := .mk 0 s false [] []
def nullT : Tree := .mk 0 [] true [] []
def kindInt (kind : Int) : Option IntKind := if kind = 1 then some .i8 else if kind = 2 then some .i16 else if kind = 3 then some .i32 else if kind = 5 then some .u16 else none
def TellV (kind nul : Int) (d : D) (T : Tree) : Prop :=
 if kind = 0 then ∃ b, d = .lit (.bool b) ∧ T = leafT (if b then 1 else 0)
 else if kind = 7 then ∃ s, s.length = 16 ∧ d = .agg (s.map byteD) ∧ T = textT s
 else if kind = 8 then (if 0 ≤ nul then (d = .lit (.pointer none) ∧ T = nullT) ∨ (∃ s, d = .ptr (.lit (strV s)) ∧ T = textT s) else ∃ s, d = .lit (strV s) ∧ T = textT s)
 else if kind = 9 then ∃ s b, (T = .mk 0 s b [] [] ∧ s.length ≤ lim) ∧ (d = .sl b (s.map byteD) ∨ (d = .sq (s.map byteD) ∧ (s ≠ [] → b = false)))
 else match kindInt kind with
  | some k => ∃ n, d = .lit (.int k n) ∧ T = leafT (IntKind.i64.wrap n)
  | none => ∃ n, d = .lit (.int .i64 n) ∧ T = leafT n
def OkTags (u : List (Nat × List UInt8)) : Prop := Rising u ∧ (∀ kv ∈ u, kv.1 < 4294967296 ∧ kv.2.length ≤ lim) ∧ u.length ≤ 1000000000
def TellTags (tg : Bool) (u : List (Nat × List UInt8)) : List D := if tg then [tagsK u] else []
mutual
def TellF (tg : Bool) : Fld → List D → Tree → Prop
 | .mk kind _ _ nul _ _ of sub, ds, T =>
  if kind = 11 then ∃ d els, ds = [d] ∧ T = .mk 0 [] T.nul T.l [] ∧ (d = .sl T.nul els ∨ (d = .sq els ∧ (els ≠ [] → T.nul = false))) ∧ T.l.length = els.length ∧ els.length ≤ 1000000000 ∧ ∀ (i : Nat) (e : D) (x : Tree), els[i]? = some e → T.l[i]? = some x →
   (if of = 10 then ∃ a u, e = .agg (a ++ TellTags tg u) ∧ x = .mk 0 [] false x.l (if tg then u else []) ∧ (tg = true → OkTags u) ∧ TellFs tg sub a x.l else TellV of (-1) e x)
  else if kind = 10 then ∃ a u, ds = a ++ TellTags tg u ∧ T = .mk 0 [] false T.l (if tg then u else []) ∧ (tg = true → OkTags u) ∧ TellFs tg sub a T.l
  else ∃ d, ds = [d] ∧ TellV kind nul d T
def TellFs (tg : Bool) : List Fld → List D → List Tree → Prop
 | [], ds, l => ds = [] ∧ l = []
 | f :: fs, ds, l => ∃ a b x r, ds = a ++ b ∧ l = x :: r ∧ TellF tg f a x ∧ TellFs tg fs b r
end
def TellP (tg : Bool) (fs : List Fld) (ds : List D) (T : Tree) : Prop := ∃ a u, ds = a ++ TellTags tg u ∧ T = .mk 0 [] false T.l (if tg then u else []) ∧ (tg = true → OkTags u) ∧ TellFs tg fs a T.l
theorem TellF_mk (tg : Bool) (kind fr upto nul tag df of : Int) (sub : List Fld) (ds : List D) (T : Tree) : TellF tg (.mk kind fr upto nul tag df of sub) ds T ↔
  if kind = 11 then ∃ d els, ds = [d] ∧ T = .mk 0 [] T.nul T.l [] ∧ (d = .sl T.nul els ∨ (d = .sq els ∧ (els ≠ [] → T.nul = false))) ∧ T.l.length = els.length ∧ els.length ≤ 1000000000 ∧ ∀ (i : Nat) (e : D) (x : Tree), els[i]? = some e → T.l[i]? = some x →
   (if of = 10 then ∃ ps, e = .agg ps ∧ TellP tg sub ps x else TellV of (-1) e x)
  else if kind = 10 then TellP tg sub ds T
  else ∃ d, ds = [d] ∧ TellV kind nul d T := by
 simp only [TellF, TellP]
 by_cases h11 : kind = 11
 ·simp only [h11, if_true]
  by_cases h10 : of = 10
  ·simp only [h10, if_true]
   have e : ∀ (e : D) (x : Tree), (∃ a u, e = .agg (a ++ TellTags tg u) ∧ x = .mk 0 [] false x.l (if tg then u else []) ∧ (tg = true → OkTags u) ∧ TellFs tg sub a x.l) ↔ ∃ ps, e = .agg ps ∧ ∃ a u, ps = a ++ TellTags tg u ∧ x = .mk 0 [] false x.l (if tg then u else []) ∧ (tg = true → OkTags u) ∧ TellFs tg sub a x.l := by
    intro e x
    constructor
    ·rintro ⟨a, u, h1, h2⟩; exact ⟨_, h1, a, u, rfl, h2⟩
    ·rintro ⟨ps, h1, a, u, rfl, h2⟩; exact ⟨a, u, h1, h2⟩
   simp only [e]
  ·simp only [h10, if_false]
 ·simp only [h11, if_false]
theorem tellTags_width (tg : Bool) (u : List (Nat × List UInt8)) : D.widths (TellTags tg u) = if tg then 1 else 0 := by
 unfold TellTags; cases tg <;> simp [D.widths, D.width, tagsK]
structure Tk where
 tT : Nat
 bool : Nat
 text : Nat
 octs : Nat
 each : Nat
 sorted : Nat
 clos : List Nat
 gT : Nat
 tells : List (Nat × List Fld)
inductive Rt where
 | tp (k : Nat) | lsl | vp (o : Nat) | cel | cvi (k : IntKind) | lf1 (k : IntKind) | lf0 | lp (k : Nat) | nilq | asl
def intV : Value → Int
 | .int _ n => n
 | _ => 0
def isNilV : Value → Bool
 | .slice a _ _ => a.isNone
 | _ => false
def leafV (n : Int) : Value := .agg #[.int .i64 n, .slice none 0 0, .bool false, .slice none 0 0, .slice none 0 0]
def Rt.v (tb lb n sb so off : Nat) (c : Value) : Rt → Value
 | .tp k => .pointer (some ⟨tb, k, none⟩)
 | .lsl => .slice (some ⟨lb, 0, none⟩) n n
 | .vp o => .pointer (some ⟨sb, so + o, none⟩)
 | .cel => c
 | .cvi _ => .int .i64 (IntKind.i64.wrap (intV c))
 | .lf1 _ => leafV (IntKind.i64.wrap (intV c))
 | .lf0 => leafV (intV c)
 | .lp k => .pointer (some ⟨lb, k, none⟩)
 | .nilq => .bool (isNilV c)
 | .asl => .slice (some ⟨sb, so + off, none⟩) 16 16
def opT (fl : Bool) (ops : List Oper) (vs tt : Nat) (acc : Nat → Option Rt) (i : Nat) : Operand → Option Rt
 | .tmp s => bif Nat.beq s vs then some (.vp 0) else bif Nat.beq s tt then some (.tp 0) else (match idxOf ops s with
  | some j => bif (prs fl ops i).contains j then acc j else none
  | none => none)
 | _ => none
def arr16 (P : Program) (t : Nat) : Bool := match P.underlying t with
 | some (.array 16 e) => (P.info? e).isSome
 | _ => false
def rolT (P : Program) (tT off n : Nat) (e : Operand → Option Rt) : Op → Option Rt
 | .move x => e x
 | .nilCheck x => match e x with | some (.vp o) => some (.vp o) | _ => none
 | .fieldAddr s x f => match e x with
  | some (.vp o) => (fieldOff P s f).map fun k => .vp (o + k)
  | some (.tp o) => (fieldOff P s f).map fun k => .tp (o + k)
  | some (.lp o) => (fieldOff P s f).map fun k => .lp (o + k)
  | _ => none
 | .load t x => match e x with
  | some (.vp o) => bif Nat.beq o off && tyOne P t then some .cel else none
  | some (.tp 3) => bif tyOne P t then some .lsl else none
  | _ => none
 | .convert s t x => match e x with
  | some .cel => (match intOfTy P s, intOfTy P t with
   | some k, some .i64 => some (.cvi k)
   | _, _ => none)
  | _ => none
 | .build t ⟨[(0, x)]⟩ => match e x with
  | some (.cvi k) => bif Nat.beq t tT then some (.lf1 k) else none
  | some .cel => bif Nat.beq t tT then some .lf0 else none
  | _ => none
 | .indexAddr t x (.const (.int .i64 (.ofNat k))) => match e x with
  | some .lsl => bif optIs (elemSize P t) 5 && Nat.blt k n then some (.lp (k * 5)) else none
  | _ => none
 | .binOp .eql t x (.const (.slice none 0 0)) _ => match e x with
  | some .cel => bif (elemSize P t).isSome then some .nilq else none
  | _ => none
 | .slice t x none none none => match e x with
  | some (.vp o) => bif Nat.beq o off && arr16 P t then some .asl else none
  | _ => none
 | _ => none
def rtAt (P : Program) (tT : Nat) (fl : Bool) (ops : List Oper) (vs tt off n : Nat) : Nat → Nat → Option Rt
 | 0, _ => none
 | m + 1, i => match ops[i]? with
  | some o => rolT P tT off n (opT fl ops vs tt (rtAt P tT fl ops vs tt off n m) i) o.op
  | none => none
theorem rolT_mono {P : Program} {tT off n : Nat} {e e' : Operand → Option Rt} (he : ∀ x r, e x = some r → e' x = some r) {op : Op} {r : Rt} (h : rolT P tT off n e op = some r) : rolT P tT off n e' op = some r := by
 unfold rolT at h ⊢
 split at h
 ·exact he _ _ h
 ·split at h
  ·rename_i hx; simp only [he _ _ hx]; exact h
  ·cases h
 ·split at h
  ·rename_i hx; simp only [he _ _ hx]; exact h
  ·rename_i hx; simp only [he _ _ hx]; exact h
  ·rename_i hx; simp only [he _ _ hx]; exact h
  ·cases h
 ·split at h
  ·rename_i hx; simp only [he _ _ hx]; exact h
  ·rename_i hx; simp only [he _ _ hx]; exact h
  ·cases h
 ·split at h
  ·rename_i hx; simp only [he _ _ hx]; exact h
  ·cases h
 ·split at h
  ·rename_i hx; simp only [he _ _ hx]; exact h
  ·rename_i hx; simp only [he _ _ hx]; exact h
  ·cases h
 ·split at h
  ·rename_i hx; simp only [he _ _ hx]; exact h
  ·cases h
 ·split at h
  ·rename_i hx; simp only [he _ _ hx]; exact h
  ·cases h
 ·split at h
  ·rename_i hx; simp only [he _ _ hx]; exact h
  ·cases h
 ·cases h
theorem opT_mono {fl : Bool} {ops : List Oper} {vs tt i : Nat} {acc acc' : Nat → Option Rt} (ha : ∀ j r, acc j = some r → acc' j = some r) (x : Operand) (r : Rt) (h : opT fl ops vs tt acc i x = some r) : opT fl ops vs tt acc' i x = some r := by
 unfold opT at h ⊢
 split at h
 ·rename_i s
  cases h1 : Nat.beq s vs with
  | true => rw [h1] at h; exact h
  | false =>
   rw [h1] at h; simp only [cond_false] at h ⊢
   cases h2 : Nat.beq s tt with
   | true => rw [h2] at h; exact h
   | false =>
    rw [h2] at h; simp only [cond_false] at h ⊢
    split at h
    ·rename_i j hj
     cases h3 : (prs fl ops i).contains j with
     | false => rw [h3] at h; cases h
     | true => rw [h3] at h; exact ha _ _ h
    ·cases h
 ·cases h
theorem rtAt_mono {P : Program} {tT : Nat} {fl : Bool} {ops : List Oper} {vs tt off n : Nat} : ∀ (m i : Nat) (r : Rt), rtAt P tT fl ops vs tt off n m i = some r → rtAt P tT fl ops vs tt off n (m + 1) i = some r
 | 0, i, r, h => by cases h
 | m + 1, i, r, h => by
  unfold rtAt at h ⊢
  split at h
  ·exact rolT_mono (fun x r hx => opT_mono (fun j r hj => rtAt_mono m j r hj) x r hx) h
  ·cases h
structure TTy (P : Program) (tT : Nat) : Prop where
 b0 : ∀ n, P.built tT [(0, .int .i64 n)] = some #[.int .i64 n, .slice none 0 0, .bool false, .slice none 0 0, .slice none 0 0]
 b1 : ∀ a n c, P.built tT [(1, .slice a n c)] = some #[.int .i64 0, .slice a n c, .bool false, .slice none 0 0, .slice none 0 0]
 b3 : ∀ a n c, P.built tT [(3, .slice a n c)] = some #[.int .i64 0, .slice none 0 0, .bool false, .slice a n c, .slice none 0 0]
 size : sizeIs P tT 5 = true
 agg : tyAgg P tT = some 5
 zero : ∀ w : World, (zeroValue tT).run P w = .ok (.agg #[.int .i64 0, .slice none 0 0, .bool false, .slice none 0 0, .slice none 0 0]) w
section
variable {P : Program} {a : Act} {w : World} {o : Oper}
theorem ro_build {t : TypeId} {x : Operand} {i : Nat} {v : Value} {cs : Array Value} (h : o.op = .build t #[(i, x)]) (hx : a.eval x = v) (hb : P.built t [(i, v)] = some cs) : (execOp a.eval o).run P w = .ok (.value (.agg cs)) w := by
 cases o; simp only at h; subst h
 have hr := run_build (P := P) w t (#[(i, x)].map fun y => (y.1, a.eval y.2)) cs (by simpa [hx] using hb)
 simp only [execOp, Sem.run_bind, hr, Result.andThen_ok, Sem.run_pure]
theorem ro_indexAddr {x y : Operand} {t sz b o' n c i : Nat} {kk : IntKind} (h : o.op = .indexAddr t x y) (hx : a.eval x = .slice (some ⟨b, o', none⟩) n c) (hy : a.eval y = .int kk i) (ht : elemSize P t = some sz) (hi : i < n) : (execOp a.eval o).run P w = .ok (.value (.pointer (some ⟨b, o' + i * sz, none⟩))) w := by
 cases o; simp only at h; subst h
 unfold elemSize at ht
 split at ht
 ·rename_i e he
  cases hie : P.info? e with
  | none => simp [hie] at ht
  | some inf =>
   simp [hie] at ht
   simp [execOp, Instr.indexAt, hx, hy, asIntOf, run_underlying he, sizeOf, typeInfo, hie, ht, hi, add_plain]
 ·cases ht
theorem ro_sliceNil {x : Operand} {t u : TypeId} {b : Option Addr} {n c : Nat} (h : o.op = .binOp .eql t x (.const (.slice none 0 0)) u) (hx : a.eval x = .slice b n c) (ht : (elemSize P t).isSome = true) : (execOp a.eval o).run P w = .ok (.value (.bool b.isNone)) w := by
 cases o; simp only at h; subst h
 unfold elemSize at ht
 split at ht
 ·rename_i e he
  simp only [execOp, hx, eval_const]
  simp [eqGuard, Lib.run_eql_slice_nil w t e b n c 0 0 he]
 ·cases ht
theorem ro_arr16 {x : Operand} {t b o' : Nat} (h : o.op = .slice t x none none none) (hx : a.eval x = .pointer (some ⟨b, o', none⟩)) (ht : arr16 P t = true) : (execOp a.eval o).run P w = .ok (.value (.slice (some ⟨b, o', none⟩) 16 16)) w := by
 cases o; simp only at h; subst h
 unfold arr16 at ht
 split at ht
 ·rename_i e he
  cases hie : P.info? e with
  | none => simp [hie] at ht
  | some inf =>
   simp only [execOp, hx, Option.map_none]
   simp [Instr.sliceAt, Instr.sureAddr, run_underlying he, Instr.sliceBounds, sizeOf, typeInfo, hie, Addr.add]
 ·cases ht
structure RtW (tb lb n sb so off : Nat) (c uv : Value) (tT : TypeId) (w : World) : Prop where
 tr : Box w tb [.int .i64 0, .slice none 0 0, .bool false, .slice (some ⟨lb, 0, none⟩) n n, uv] tT
 cel : w.cell? ⟨sb, so + off, none⟩ = some c
theorem rolT_ok {tT tb lb n sb so off : Nat} {c uv : Value} (hT : TTy P tT) (hW : RtW tb lb n sb so off c uv tT w) {e : Operand → Option Rt} (he : ∀ y r, e y = some r → a.eval y = r.v tb lb n sb so off c) {r : Rt} (h : rolT P tT off n e o.op = some r)
  (hc1 : ∀ k, r = .cvi k → ∃ m, c = .int k m) (hc0 : r = .lf0 → ∃ m, c = .int .i64 m) (hcn : r = .nilq → ∃ a l m, c = .slice a l m) : (execOp a.eval o).run P w = .ok (.value (r.v tb lb n sb so off c)) w := by
 generalize hop : o.op = op at h
 unfold rolT at h
 split at h
 ·have := he _ _ h; rw [← this]; exact ro_move hop
 ·split at h
  ·rename_i hx; cases h; exact ro_nilCheck hop (he _ _ hx)
  ·cases h
 ·split at h
  ·rename_i o' hx
   simp only [Option.map_eq_some_iff] at h
   obtain ⟨k, hk, rfl⟩ := h
   have := ro_fieldAddr (w := w) hop (he _ _ hx) hk
   simpa only [Rt.v, Nat.add_assoc] using this
  ·rename_i hx
   simp only [Option.map_eq_some_iff] at h
   obtain ⟨k, hk, rfl⟩ := h
   exact ro_fieldAddr hop (he _ _ hx) hk
  ·rename_i hx
   simp only [Option.map_eq_some_iff] at h
   obtain ⟨k, hk, rfl⟩ := h
   exact ro_fieldAddr hop (he _ _ hx) hk
  ·cases h
 ·split at h
  ·rename_i o' hx
   obtain ⟨hb, rfl⟩ := bif_cond h
   rw [Bool.and_eq_true] at hb
   have := beq_out hb.1; subst this
   exact ro_load hop (he _ _ hx) hb.2 hW.cel
  ·rename_i hx
   obtain ⟨hb, rfl⟩ := bif_cond h
   exact ro_load hop (he _ _ hx) hb (hW.tr.cell (i := 3) rfl)
  ·cases h
 ·split at h
  ·rename_i hx
   split at h
   ·rename_i k hs ht
    cases h
    obtain ⟨m, hm⟩ := hc1 k rfl
    subst hm
    exact ro_convInt hop (he _ _ hx) (isInt_out (intOfTy_out hs)) (isInt_out (intOfTy_out ht))
   ·cases h
  ·cases h
 ·split at h
  ·rename_i k hx
   obtain ⟨hb, rfl⟩ := bif_cond h
   have := beq_out hb; subst this
   exact ro_build hop (he _ _ hx) (hT.b0 _)
  ·rename_i hx
   obtain ⟨hb, rfl⟩ := bif_cond h
   have := beq_out hb; subst this
   obtain ⟨m, hm⟩ := hc0 rfl
   subst hm
   exact ro_build hop (he _ _ hx) (hT.b0 _)
  ·cases h
 ·split at h
  ·rename_i hx
   obtain ⟨hb, rfl⟩ := bif_cond h
   rw [Bool.and_eq_true] at hb
   have := ro_indexAddr (w := w) hop (he _ _ hx) rfl (optIs_out hb.1) (Nat.le_of_ble_eq_true hb.2)
   simpa only [Rt.v, Nat.zero_add] using this
  ·cases h
 ·split at h
  ·rename_i hx
   obtain ⟨hb, rfl⟩ := bif_cond h
   obtain ⟨a', l', m', hm⟩ := hcn rfl
   subst hm
   exact ro_sliceNil hop (he _ _ hx) hb
  ·cases h
 ·split at h
  ·rename_i o' hx
   obtain ⟨hb, rfl⟩ := bif_cond h
   rw [Bool.and_eq_true] at hb
   have := beq_out hb.1; subst this
   exact ro_arr16 hop (he _ _ hx) hb.2
  ·cases h
 ·cases h
theorem opT_ok {N : Nat} {L : Sl} {fl : Bool} {ops : List Oper} {vs tt i tb lb n sb so off : Nat} {c : Value} {acc : Nat → Option Rt} (k : Kn N a L) (hvs : lk L vs = some (.pointer (some ⟨sb, so, none⟩))) (htt : lk L tt = some (.pointer (some ⟨tb, 0, none⟩)))
  (hf : ∀ j ∈ prs fl ops i, ∀ dd, dstOf ops j = some dd → ∀ r, acc j = some r → gt a dd = r.v tb lb n sb so off c) (y : Operand) (r : Rt) (h : opT fl ops vs tt acc i y = some r) : a.eval y = r.v tb lb n sb so off c := by
 unfold opT at h
 split at h
 ·rename_i s
  cases h1 : Nat.beq s vs with
  | true =>
   rw [h1] at h; simp only [cond_true, Option.some.injEq] at h
   subst h
   have := beq_out h1; subst this
   exact k.at_ _ _ hvs
  | false =>
   rw [h1] at h; simp only [cond_false] at h
   cases h2 : Nat.beq s tt with
   | true =>
    rw [h2] at h; simp only [cond_true, Option.some.injEq] at h
    subst h
    have := beq_out h2; subst this
    exact k.at_ _ _ htt
   | false =>
    rw [h2] at h; simp only [cond_false] at h
    split at h
    ·rename_i j hj
     cases h3 : (prs fl ops i).contains j with
     | false => rw [h3] at h; cases h
     | true =>
      rw [h3] at h
      exact hf j (by simpa using h3) s (idxOf_out hj) r h
    ·cases h
 ·cases h
end
end Go.Proofs.YtgpnpfiafcakfaaDoor

namespace Go.Proofs.YtgpnpfiafcakfaaDoor
open Go Go.RowKit
section
variable {P : Program} {Q : Exit → Act → World → Prop} {N : Nat} {L : Sl} {w : World} {id : Nat} {ops : List Oper}
def reach (fl : Bool) (ops : List Oper) (pre : List Nat) (p0 j : Nat) : Bool := (prs fl ops p0).contains j || pre.any fun q => (prs fl ops p0).contains q && ((prs fl ops q).contains j || pre.any fun s => (prs fl ops q).contains s && (prs fl ops s).contains j)
theorem wc_phase {fl : Bool} (pre post : List Nat) (rv : Nat → Value) (I : World → Prop) (F : Nat → Value → World → Prop) (S : List (Nat × Value) → List Value → World → Prop) (hok : regOk fl N (L.map (·.1)) ops = true) (hm : P.follows .mixedOrders = true)
  (hlt : ((pre ++ post).all fun c => Nat.blt c ops.length) = true) (hnd : post.Nodup) (hdj : ∀ j ∈ pre, j ∉ post) (hchn : chainOk fl ops post = true) (hpp : ∀ p0, post[0]? = some p0 → ∀ j ∈ pre, reach fl ops pre p0 j = true)
  (h0 : I w) (h0' : I w.drew)
  (hS0 : ∀ (pd : List (Nat × Value)) (w' : World), I w' → (∀ j v, (j, v) ∈ pd → j ∈ pre ∧ F j v w') → (∀ j ∈ pre, ∃ v, (j, v) ∈ pd) → S pd [] w')
  (hrd : ∀ (i : Nat) (o : Oper), ops[i]? = some o → i ∉ pre → i ∉ post → ∀ w', (I w' ∨ ∃ (pd : List (Nat × Value)) (vals : List Value), S pd vals w' ∧ vals.length ≤ post.length ∧ ∀ (k c : Nat), k < vals.length → post[k]? = some c → i ∉ prs fl ops c) → ∀ a, Kn N a L → (∀ j ∈ prs fl ops i, j ∉ pre → j ∉ post → ∀ d, dstOf ops j = some d → gt a d = rv j) → (execOp a.eval o).run P w' = .ok (.value (rv i)) w')
  (hpre : ∀ (i : Nat) (o : Oper), ops[i]? = some o → i ∈ pre → ∀ (pd : List (Nat × Value)) (w' : World), I w' → (∀ j v, (j, v) ∈ pd → j ∈ pre ∧ F j v w') → (∀ j ∈ prs fl ops i, j ∈ pre → ∃ v, (j, v) ∈ pd) → ∀ a, Kn N a L → (∀ j ∈ prs fl ops i, j ∉ pre → j ∉ post → ∀ d, dstOf ops j = some d → gt a d = rv j) →
   (∀ j v d, (j, v) ∈ pd → dstOf ops j = some d → gt a d = v) → Does P o a w' fun v w'' => I w'' ∧ F i v w'' ∧ ∀ j v, F j v w' → F j v w'')
  (hpost : ∀ (k i : Nat) (o : Oper), post[k]? = some i → ops[i]? = some o → ∀ (pd : List (Nat × Value)) (vals : List Value) (w' : World), vals.length = k → (∀ j ∈ pre, ∃ v, (j, v) ∈ pd) → S pd vals w' → ∀ a, Kn N a L → (∀ j ∈ prs fl ops i, j ∉ pre → j ∉ post → ∀ d, dstOf ops j = some d → gt a d = rv j) →
   (∀ j v d, (j, v) ∈ pd → dstOf ops j = some d → gt a d = v) → (∀ (q j : Nat) (v : Value) (d : Nat), post[q]? = some j → vals[q]? = some v → dstOf ops j = some d → gt a d = v) → Does P o a w' fun v w'' => S pd (vals ++ [v]) w'')
  (hend : ∀ (pd : List (Nat × Value)) (vals : List Value) (w' : World), vals.length = post.length → (∀ j ∈ pre, ∃ v, (j, v) ∈ pd) → S pd vals w' → ∀ a, Kn N a L → (∀ j, j ∉ pre → j ∉ post → ∀ d, dstOf ops j = some d → gt a d = rv j) → (∀ j v d, (j, v) ∈ pd → dstOf ops j = some d → gt a d = v) → (∀ (q j : Nat) (v : Value) (d : Nat), post[q]? = some j → vals[q]? = some v → dstOf ops j = some d → gt a d = v) → Q .normal a w') : WC (.region id ops.toArray fl) P Q N L w := by
 let C : List (Nat × Value) → World → Prop := fun dn w' => ∃ pd vals, dn = ((post.take vals.length).zip vals).reverse ++ pd ∧ vals.length ≤ post.length ∧ (∀ j v, (j, v) ∈ pd → j ∈ pre ∧ ∀ i ∈ prs fl ops j, i ∈ pre → ∃ v', (i, v') ∈ pd) ∧
  ((vals = [] ∧ I w' ∧ ∀ j v, (j, v) ∈ pd → F j v w') ∨ (vals ≠ [] ∧ (∀ j ∈ pre, ∃ v, (j, v) ∈ pd) ∧ S pd vals w'))
 have mem_of : ∀ {vals : List Value} {j : Nat} {v : Value}, vals.length ≤ post.length → ((j, v) ∈ ((post.take vals.length).zip vals).reverse ↔ ∃ q, q < vals.length ∧ post[q]? = some j ∧ vals[q]? = some v) := by
  intro vals j v hl
  rw [List.mem_reverse, List.mem_iff_getElem?]
  constructor
  ·rintro ⟨q, hq⟩
   rw [List.getElem?_zip_eq_some] at hq
   have hqv := (List.getElem?_eq_some_iff.1 hq.2).1
   refine ⟨q, hqv, ?_, hq.2⟩
   rw [List.getElem?_take] at hq
   simpa [hqv] using hq.1
  ·rintro ⟨q, hq, h1, h2⟩
   refine ⟨q, ?_⟩
   rw [List.getElem?_zip_eq_some, List.getElem?_take]
   exact ⟨by simpa [hq] using h1, h2⟩
 have memL : ∀ {pd : List (Nat × Value)} {vals : List Value} {j : Nat} {v : Value}, (j, v) ∈ pd → (j, v) ∈ ((post.take vals.length).zip vals).reverse ++ pd := fun h => List.mem_append.2 (.inr h)
 have hin : ∀ {j : Nat}, j ∈ pre ++ post ↔ j ∈ pre ∨ j ∈ post := List.mem_append
 have nin : ∀ {j : Nat}, j ∉ pre → j ∉ post → j ∉ pre ++ post := fun h1 h2 h => (hin.1 h).elim h1 h2
 have hinj : ∀ {q r i : Nat}, post[q]? = some i → post[r]? = some i → q = r := by
  intro q r i hq hr
  exact (List.getElem?_inj (List.getElem?_eq_some_iff.1 hq).1 hnd).1 (by rw [hq, hr])
 refine wc_reg (fl := fl) (pre ++ post) rv C hok hm hlt ⟨[], [], by simp, by simp, by simp, .inl ⟨rfl, h0, by simp⟩⟩ ⟨[], [], by simp, by simp, by simp, .inl ⟨rfl, h0', by simp⟩⟩ ?_ ?_ ?_
 ·rintro i o ho hni dn w' ⟨pd, vals, rfl, hl, hpd, hS⟩ hnd' a k hf
  refine hrd i o ho (fun h => hni (hin.2 (.inl h))) (fun h => hni (hin.2 (.inr h))) w' ?_ a k (fun j hj h1 h2 => hf j hj (nin h1 h2))
  rcases hS with ⟨_, hI, _⟩ | ⟨_, _, hS⟩
  ·exact .inl hI
  ·refine .inr ⟨pd, vals, hS, hl, fun q c hq hc => ?_⟩
   have hv : vals[q]? = some vals[q] := List.getElem?_eq_getElem hq
   exact hnd' c vals[q] (List.mem_append.2 (.inl ((mem_of hl).2 ⟨q, hq, hc, hv⟩)))
 ·rintro i o ho hi dn w' ⟨pd, vals, rfl, hl, hpd, hS⟩ hnew hpr a k hf hdn
  have hf' : ∀ j ∈ prs fl ops i, j ∉ pre → j ∉ post → ∀ d, dstOf ops j = some d → gt a d = rv j := fun j hj h1 h2 => hf j hj (nin h1 h2)
  have hdp : ∀ j v d, (j, v) ∈ pd → dstOf ops j = some d → gt a d = v := fun j v d hj => hdn j v d (memL hj)
  have hdq : ∀ (q j : Nat) (v : Value) (d : Nat), post[q]? = some j → vals[q]? = some v → dstOf ops j = some d → gt a d = v := fun q j v d hq hv hd => hdn j v d (List.mem_append.2 (.inl ((mem_of hl).2 ⟨q, (List.getElem?_eq_some_iff.1 hv).1, hq, hv⟩))) hd
  rcases hin.1 hi with hi | hi
  ·-- one of pre
   rcases hS with ⟨rfl, hI, hF⟩ | ⟨_, hall, _⟩
   ·have hd := hpre i o ho hi pd w' hI (fun j v hj => ⟨(hpd j v hj).1, hF j v hj⟩) (fun j hj hjp => by
     obtain ⟨v, hv⟩ := hpr j hj (hin.2 (.inl hjp))
     exact ⟨v, by simpa using hv⟩) a k hf' hdp
    intro K Q' hK
    refine hd K Q' (fun v w'' ⟨hI2, hFi, hFk⟩ => hK v w'' ⟨(i, v) :: pd, [], by simp, by simp, ?_, .inl ⟨rfl, hI2, ?_⟩⟩)
    ·intro j u hj
     rcases List.mem_cons.1 hj with h | h
     ·cases h
      refine ⟨hi, fun q hq hqp => ?_⟩
      obtain ⟨v', hv'⟩ := hpr q hq (hin.2 (.inl hqp))
      exact ⟨v', List.mem_cons_of_mem _ (by simpa using hv')⟩
     ·exact ⟨(hpd j u h).1, fun q hq hqp => by obtain ⟨v', hv'⟩ := (hpd j u h).2 q hq hqp; exact ⟨v', List.mem_cons_of_mem _ hv'⟩⟩
    ·intro j u hj
     rcases List.mem_cons.1 hj with h | h
     ·cases h; exact hFi
     ·exact hFk j u (hF j u h)
   ·obtain ⟨v, hv⟩ := hall i hi
    exact absurd (memL hv) (hnew v)
  ·obtain ⟨m, hm1⟩ := List.mem_iff_getElem?.1 hi
   have hml := (List.getElem?_eq_some_iff.1 hm1).1
   have hle : vals.length ≤ m := by
    rcases Nat.lt_or_ge m vals.length with h | h
    ·exact absurd (List.mem_append.2 (.inl ((mem_of hl).2 ⟨m, h, hm1, List.getElem?_eq_getElem h⟩))) (hnew _)
    ·exact h
   have hge : m ≤ vals.length := by
    cases m with
    | zero => omega
    | succ p =>
     have hp : post[p]? = some post[p] := List.getElem?_eq_getElem (by omega)
     have := chainOk_at hchn p post[p] i hp hm1
     obtain ⟨v, hv⟩ := hpr post[p] this (hin.2 (.inr (List.getElem_mem _)))
     rcases List.mem_append.1 hv with hv | hv
     ·obtain ⟨q, hq1, hq2, _⟩ := (mem_of hl).1 hv
      have hqp : q = p := hinj hq2 hp
      omega
     ·exact absurd (List.getElem_mem _) (hdj _ (hpd _ _ hv).1)
   have hmv : vals.length = m := by omega
   subst hmv
   have hall : ∀ j ∈ pre, ∃ v, (j, v) ∈ pd := by
    rcases hS with ⟨h0, _, _⟩ | ⟨_, h, _⟩
    ·intro j hj
     have hz : vals.length = 0 := by rw [h0]; rfl
     rw [hz] at hm1
     have := hpp i hm1 j hj
     have dir : ∀ q, q ∈ pre → q ∈ prs fl ops i → ∃ v, (q, v) ∈ pd := by
      intro q hq hqp
      obtain ⟨v, hv⟩ := hpr q hqp (hin.2 (.inl hq))
      refine ⟨v, ?_⟩
      rw [h0] at hv
      simpa using hv
     unfold reach at this
     simp only [Bool.or_eq_true, List.any_eq_true, Bool.and_eq_true, List.contains_eq_mem, decide_eq_true_eq] at this
     rcases this with h | ⟨q, hq, hqp, h | ⟨s, hs, hsq, h⟩⟩
     ·exact dir j hj h
     ·obtain ⟨v, hv⟩ := dir q hq hqp
      exact (hpd q v hv).2 j h hj
     ·obtain ⟨v, hv⟩ := dir q hq hqp
      obtain ⟨v2, hv2⟩ := (hpd q v hv).2 s hsq hs
      exact (hpd s v2 hv2).2 j h hj
    ·exact h
   have hS' : S pd vals w' := by
    rcases hS with ⟨rfl, hI, hF⟩ | ⟨_, _, h⟩
    ·exact hS0 pd w' hI (fun j v hj => ⟨(hpd j v hj).1, hF j v hj⟩) hall
    ·exact h
   have hd := hpost vals.length i o hm1 ho pd vals w' rfl hall hS' a k hf' hdp hdq
   intro K Q' hK
   refine hd K Q' (fun v w'' hs => hK v w'' ⟨pd, vals ++ [v], ?_, by simp; omega, hpd, .inr ⟨by simp, hall, hs⟩⟩)
   simp only [List.length_append, List.length_cons, List.length_nil]
   rw [List.take_succ, hm1]
   rw [List.zip_append (by simp; omega)]
   simp
 ·rintro dn w' ⟨pd, vals, rfl, hl, hpd, hS⟩ hall a k hf hdn
  have hlen : vals.length = post.length := by
   rcases Nat.lt_or_ge vals.length post.length with h | h
   ·obtain ⟨v, hv⟩ := hall post[vals.length] (hin.2 (.inr (List.getElem_mem h)))
    rcases List.mem_append.1 hv with hv | hv
    ·obtain ⟨q, hq1, hq2, _⟩ := (mem_of hl).1 hv
     have : q = vals.length := hinj hq2 (List.getElem?_eq_getElem h)
     omega
    ·exact absurd (List.getElem_mem _) (hdj _ (hpd _ _ hv).1)
   ·omega
  have hall' : ∀ j ∈ pre, ∃ v, (j, v) ∈ pd := by
   rcases hS with ⟨h0, _, _⟩ | ⟨_, h, _⟩
   ·intro j hj
    obtain ⟨v, hv⟩ := hall j (hin.2 (.inl hj))
    refine ⟨v, ?_⟩
    rw [h0] at hv
    simpa using hv
   ·exact h
  have hS' : S pd vals w' := by
   rcases hS with ⟨rfl, hI, hF⟩ | ⟨_, _, h⟩
   ·exact hS0 pd w' hI (fun j v hj => ⟨(hpd j v hj).1, hF j v hj⟩) hall'
   ·exact h
  exact hend pd vals w' hlen hall' hS' a k (fun j h1 h2 => hf j (nin h1 h2)) (fun j v d hj => hdn j v d (memL hj)) (fun q j v d hq hv hd => hdn j v d (List.mem_append.2 (.inl ((mem_of hl).2 ⟨q, (List.getElem?_eq_some_iff.1 hv).1, hq, hv⟩))) hd)
end
theorem chg_fresh {S : Nat → Prop} {w w' w'' : World} {b : Nat} (h : Chg S w w') (k : Chg (· = b) w' w'') (hb : w.heap.size ≤ b) : Chg S w w'' :=
 ⟨k.os.trans h.os, k.tape.trans h.tape, k.output.trans h.output, Nat.le_trans h.size k.size, fun j hj hn => (k.block j (Nat.lt_of_lt_of_le hj h.size) (fun e => by have : j = b := e; omega)).trans (h.block j hj hn)⟩
theorem Kn.with {N : Nat} {a : Act} {L : Sl} (h : Kn N a L) {d : Nat} {v : Value} (e : gt a d = v) : Kn N a ((d, v) :: L) := ⟨h.size, h.defers, fun t u hu => by
 simp only [lk] at hu
 cases hb : Nat.beq d t with
 | true => rw [hb] at hu; simp only [cond_true, Option.some.injEq] at hu; rw [← beq_out hb, e]; exact hu
 | false => rw [hb] at hu; exact h.at_ t u hu⟩
theorem ro_alloc {P : Program} {a : Act} {w : World} {o : Oper} {t : TypeId} {z : Value} {cs : Array Value} (h : o.op = .alloc t) (hz : ∀ w : World, (zeroValue t).run P w = .ok z w) (hc : z.cells = cs) : (execOp a.eval o).run P w = .ok (.value (.pointer (some ⟨w.heap.size, 0, none⟩))) (w.alloc (.cells cs t)) := by
 cases o; simp only at h; subst h
 simp [execOp, Instr.alloc, hz, newVar, newRow, hc]
def isBoolZ (P : Program) (t : Nat) : Bool := match zeroOf P t with
 | some [.bool _] => true
 | _ => false
def choiceR (P : Program) (N : Nat) (S : List Nat) : List Oper → Option Nat
 | [oa, o1, o2, ol] => match oa.dst, oa.op, o1.op, o2.op, ol.dst, ol.op with
  | some da, .alloc t, .store t1 (.tmp d1) (.const (.bool _)), .store t2 (.tmp d2) (.const (.bool _)), some dl, .load t3 (.tmp d3) =>
   bif Nat.beq d1 da && Nat.beq d2 da && Nat.beq d3 da && isBoolZ P t && sizeIs P t1 1 && sizeIs P t2 1 && tyOne P t3 && regOk true N S [oa, o1, o2, ol] && needs true [oa, o1, o2, ol] [(1, [0]), (2, [0]), (3, [0, 1, 2])] then some dl else none
  | _, _, _, _, _, _ => none
 | _ => none
section
variable {P : Program} {Q : Exit → Act → World → Prop} {N : Nat} {L : Sl} {w : World} {id : Nat} {ops : List Oper}
theorem choice_ok (hm : P.follows .mixedOrders = true) {d : Nat} (h : choiceR P N (L.map (·.1)) ops = some d) (hq : ∀ b w', Chg (fun _ => False) w w' → QK .normal Q N ((d, .bool b) :: L) w') : WC (.region id ops.toArray true) P Q N L w := by
 unfold choiceR at h
 split at h
 ·rename_i oa o1 o2 ol
  split at h
  ·rename_i da t t1 d1 b1 t2 d2 b2 dl t3 d3 hda hoa ho1 ho2 hdl hol
   obtain ⟨hb, rfl⟩ := bif_cond h
   simp only [Bool.and_eq_true] at hb
   obtain ⟨⟨⟨⟨⟨⟨⟨⟨g1, g2⟩, g3⟩, g4⟩, g5⟩, g6⟩, g7⟩, g8⟩, g9⟩ := hb
   have := beq_out g1; subst this
   have := beq_out g2; subst this
   have := beq_out g3; subst this
   obtain ⟨x0, z, hz, hzc⟩ : ∃ x0 z, (∀ w : World, (zeroValue t).run P w = .ok z w) ∧ z.cells = #[.bool x0] := by
    unfold isBoolZ at g4
    split at g4
    ·rename_i x hx
     obtain ⟨z, h1, h2⟩ := zeroOf_out hx
     exact ⟨_, z, h1, h2⟩
    ·cases g4
   have n10 := needs_out g9 (i := 1) (j := 0) (js := [0]) (by simp) (by simp)
   have n20 := needs_out g9 (i := 2) (j := 0) (js := [0]) (by simp) (by simp)
   have n30 := needs_out g9 (i := 3) (j := 0) (js := [0, 1, 2]) (by simp) (by simp)
   let C : List (Nat × Value) → World → Prop := fun dn w' => Chg (fun _ => False) w w' ∧ (∀ v, (0, v) ∈ dn → ∃ b x, v = .pointer (some ⟨b, 0, none⟩) ∧ w.heap.size ≤ b ∧ Box w' b [.bool x] t) ∧ (∀ v, (3, v) ∈ dn → ∃ x, v = .bool x)
   have dst0 : dstOf [oa, o1, o2, ol] 0 = some d3 := by simp [dstOf, hda]
   have dst3 : dstOf [oa, o1, o2, ol] 3 = some dl := by simp [dstOf, hdl]
   have stw : ∀ {dn : List (Nat × Value)} {w' : World} {i : Nat} {o : Oper} {tt : TypeId} {bb : Bool} {a : Act}, C dn w' → i ≠ 0 → i ≠ 3 → (∃ v, (0, v) ∈ dn) → (∀ j v d, (j, v) ∈ dn → dstOf [oa, o1, o2, ol] j = some d → gt a d = v) → o.op = .store tt (.tmp d3) (.const (.bool bb)) → sizeIs P tt 1 = true → Does P o a w' fun v w'' => C ((i, v) :: dn) w'' := by
    rintro dn w' i o tt bb a ⟨hc, h0, h3⟩ hi hi3 ⟨v, hv⟩ hdn hop hsz
    obtain ⟨b, x, rfl, hbw, hbx⟩ := h0 v hv
    have he : a.eval (.tmp d3) = .pointer (some ⟨b, 0, none⟩) := hdn 0 _ d3 hv dst0
    refine do_storeSeg (vs := [.bool bb]) (seg := [.bool x]) (A := []) (C := []) hop he rfl rfl hsz rfl hbx rfl rfl (fun w'' hb2 hg => ?_)
    refine ⟨chg_fresh hc (Chg.grown hg) hbw, fun u hu => ?_, fun u hu => ?_⟩
    ·rcases List.mem_cons.1 hu with h | h
     ·cases h; exact absurd rfl hi
     ·obtain ⟨b', x', rfl, hb', hbx'⟩ := h0 u h
      by_cases e : b' = b
      ·subst e; exact ⟨_, bb, rfl, hb', hb2⟩
      ·exact ⟨_, x', rfl, hb', hbx'.kept hg (by simpa using e)⟩
    ·rcases List.mem_cons.1 hu with h | h
     ·cases h; exact absurd rfl hi3
     ·exact h3 u h
   refine wc_reg (fl := true) [0, 1, 2, 3] (fun _ => undef) C g8 hm rfl ⟨Chg.refl _ _, by simp, by simp⟩ ⟨chg_drew _ _, by simp, by simp⟩ ?_ ?_ ?_
   ·intro i o ho hni
    have := (List.getElem?_eq_some_iff.1 ho).1
    simp only [List.length_cons, List.length_nil] at this
    exact absurd (by simp; omega) hni
   ·rintro i o ho hi dn w' hC hnew hpre a k hf hdn
    simp only [List.mem_cons, List.not_mem_nil, or_false] at hi
    rcases hi with rfl | rfl | rfl | rfl
    ·simp only [List.getElem?_cons_zero, Option.some.injEq] at ho
     subst ho
     obtain ⟨hc, h0, h3⟩ := hC
     refine does_of (v := .pointer (some ⟨w'.heap.size, 0, none⟩)) (w' := w'.alloc (.cells #[.bool x0] t)) (ro_alloc hoa hz hzc) ?_
     have hca := chg_alloc w' (.cells #[.bool x0] t) (fun _ => False)
     have hsz := hc.size
     refine ⟨hc.trans hca, fun u hu => ?_, fun u hu => ?_⟩
     ·rcases List.mem_cons.1 hu with h | h
      ·cases h; exact ⟨_, x0, rfl, hsz, box_alloc w' [.bool x0] t⟩
      ·obtain ⟨b', x', rfl, hb', hbx'⟩ := h0 u h
       exact ⟨_, x', rfl, hb', hbx'.chg hca (fun h => h)⟩
     ·rcases List.mem_cons.1 hu with h | h
      ·cases h
      ·exact h3 u h
    ·simp only [List.getElem?_cons_succ, List.getElem?_cons_zero, Option.some.injEq] at ho
     subst ho
     exact stw hC (by decide) (by decide) (hpre 0 n10 (by simp)) hdn ho1 g5
    ·simp only [List.getElem?_cons_succ, List.getElem?_cons_zero, Option.some.injEq] at ho
     subst ho
     exact stw hC (by decide) (by decide) (hpre 0 n20 (by simp)) hdn ho2 g6
    ·simp only [List.getElem?_cons_succ, List.getElem?_cons_zero, Option.some.injEq] at ho
     subst ho
     obtain ⟨hc, h0, h3⟩ := hC
     obtain ⟨v, hv⟩ := hpre 0 n30 (by simp)
     obtain ⟨b, x, rfl, hbw, hbx⟩ := h0 v hv
     have he : a.eval (.tmp d3) = .pointer (some ⟨b, 0, none⟩) := hdn 0 _ d3 hv dst0
     refine do_of (ro_load hol he g7 (hbx.cell (i := 0) rfl)) ⟨hc, fun u hu => ?_, fun u hu => ?_⟩
     ·rcases List.mem_cons.1 hu with h | h
      ·cases h
      ·exact h0 u h
     ·rcases List.mem_cons.1 hu with h | h
      ·cases h; exact ⟨x, rfl⟩
      ·exact h3 u h
   ·rintro dn w' ⟨hc, h0, h3⟩ hall a k hf hdn
    obtain ⟨v, hv⟩ := hall 3 (by simp)
    obtain ⟨x, rfl⟩ := h3 v hv
    have hv3 := hdn 3 _ dl hv dst3
    exact hq x w' hc a (k.with hv3)
  ·cases h
 ·cases h
end
end Go.Proofs.YtgpnpfiafcakfaaDoor

namespace Go.Proofs.YtgpnpfiafcakfaaDoor
open Go Go.RowKit
theorem rep_text {ok : Nat → Prop} {w : World} {s : List UInt8} {sv : Value} {b : Bool} (h : Rep ok w (bytesD s) [sv]) : Rep ok w (treeD (.mk 0 s b [] [])) [.int .i64 0, sv, .bool b, .slice none 0 0, .slice none 0 0] := by
 have e : ([] : List D).length = 0 := rfl
 simp only [treeD, Rep, Reps, treeDs, List.map_nil]
 exact ⟨[_], _, rfl, rfl, [_], _, rfl, h, [_], _, rfl, rfl, [_], _, rfl, ⟨none, 0, rfl, by simp, .inl (by simp)⟩, [_], _, rfl, ⟨none, 0, rfl, by simp, .inl (by simp)⟩, rfl⟩
theorem rep_nilS {ok : Nat → Prop} {w : World} : Rep ok w (bytesD []) [.slice none 0 0] := by
 simp only [bytesD, Rep, List.map_nil]
 exact ⟨none, 0, rfl, by simp, .inl (by simp)⟩
theorem rep_leaf {ok : Nat → Prop} {w : World} (n : Int) : Rep ok w (treeD (leafT n)) [.int .i64 n, .slice none 0 0, .bool false, .slice none 0 0, .slice none 0 0] := by
 simp only [treeD, leafT, Rep, Reps, treeDs, List.map_nil, bytesD]
 exact ⟨[_], _, rfl, rfl, [_], _, rfl, ⟨none, 0, rfl, by simp, .inl (by simp)⟩, [_], _, rfl, rfl, [_], _, rfl, ⟨none, 0, rfl, by simp, .inl (by simp)⟩, [_], _, rfl, ⟨none, 0, rfl, by simp, .inl (by simp)⟩, rfl⟩
def TlC (P : Program) (f : Nat) (kind nul : Int) : Prop := isFn P f = true ∧ ∀ (B : Nat) (w : World) (d : D) (c : Value) (T : Tree), Rep (Lo B) w d [c] → B ≤ w.heap.size → TellV kind nul d T →
 Calls P f #[c] w fun en w' => ∃ cs T', en = .returned (.agg cs.toArray) ∧ Rep (In 0 w.heap.size w') w' (treeD T') cs ∧ TellV kind nul d T' ∧ Chg (fun _ => False) w w'
def TlP (P : Program) (f : Nat) (tg : Bool) (fs : List Fld) : Prop := isFn P f = true ∧ ∀ (B : Nat) (w : World) (sb so : Nat) (cs : List Value) (ds : List D) (T : Tree), CellsAt w sb so cs → Reps (Lo B) w ds cs → sb < B → B ≤ w.heap.size → TellP tg fs ds T →
 Calls P f #[.pointer (some ⟨sb, so, none⟩)] w fun en w' => ∃ cs' T', en = .returned (.agg cs'.toArray) ∧ Rep (In 0 w.heap.size w') w' (treeD T') cs' ∧ TellP tg fs ds T' ∧ Chg (fun _ => False) w w'
structure TkOk (P : Program) (K : Tk) (tg : Bool) : Prop where
 ty : TTy P K.tT
 bool : isFn P K.bool = true → TlC P K.bool 0 (-1)
 text : isFn P K.text = true → TlC P K.text 8 0
 octs : isFn P K.octs = true → TlC P K.octs 9 (-1)
 tells : ∀ f fs, lkM K.tells f = some fs → TlP P f tg fs
def TellX (tg : Bool) (kind nul : Int) (sub : List Fld) (ds : List D) (T : Tree) : Prop := if kind = 10 then TellP tg sub ds T else ∃ d, ds = [d] ∧ TellV kind nul d T
def flagD (b : Bool) : D := .agg [.lit (.int .i64 0), .lit (.slice none 0 0), .lit (.bool b), .lit (.slice none 0 0), .lit (.slice none 0 0)]
def flagC (b : Bool) : List Value := [.int .i64 0, .slice none 0 0, .bool b, .slice none 0 0, .slice none 0 0]
theorem rep_flag {ok : Nat → Prop} {w : World} {b : Bool} {cs : List Value} : Rep ok w (flagD b) cs ↔ cs = flagC b := by
 simp only [flagD, Rep, Reps, flagC]
 constructor
 ·rintro ⟨_, _, rfl, rfl, _, _, rfl, rfl, _, _, rfl, rfl, _, _, rfl, rfl, _, _, rfl, rfl, rfl⟩; rfl
 ·rintro rfl; exact ⟨[_], _, rfl, rfl, [_], _, rfl, rfl, [_], _, rfl, rfl, [_], _, rfl, rfl, [_], _, rfl, rfl, rfl⟩
structure TSt (l0 tb lb n : Nat) (uv : Value) (tT e : TypeId) (w : World) (Ts : List Tree) (m : Nat) : Prop where
 tr : Box w tb [.int .i64 0, .slice none 0 0, .bool false, .slice (some ⟨lb, 0, none⟩) n n, uv] tT
 ls : FSt 0 l0 lb e w (Ts.map treeD ++ List.replicate m (flagD false))
 ne : tb ≠ lb
 ltb : tb < l0
 llb : lb < l0
 l0w : l0 ≤ w.heap.size
theorem TSt.fb {l0 tb lb n m : Nat} {uv : Value} {tT e : TypeId} {w : World} {Ts : List Tree} (h : TSt l0 tb lb n uv tT e w Ts m) : Fb 0 l0 lb := ⟨Nat.zero_le _, h.llb⟩
theorem TSt.up {l0 tb lb n m : Nat} {uv : Value} {tT e : TypeId} {w w' : World} {Ts : List Tree} (h : TSt l0 tb lb n uv tT e w Ts m) (hc : Chg (fun _ => False) w w') : TSt l0 tb lb n uv tT e w' Ts m :=
 ⟨h.tr.chg hc (fun h => h), h.ls.up h.fb hc (fun _ h => h.elim), h.ne, h.ltb, h.llb, Nat.le_trans h.l0w hc.size⟩
theorem widths_trees (l : List Tree) : D.widths (l.map treeD) = l.length * 5 := by
 induction l with
 | nil => rfl
 | cons x l ih => simp only [List.map_cons, D.widths, treeD_width, ih, List.length_cons]; omega
def VF (l0 : Nat) (G : Tree → Prop) (w : World) (v : Value) : Prop := ∃ cs T, v = .agg cs.toArray ∧ Rep (In 0 l0 w) w (treeD T) cs ∧ G T
theorem VF.up {l0 lb : Nat} (hf : Fb 0 l0 lb) {G : Tree → Prop} {w w' : World} {v : Value} (h : VF l0 G w v) (hc : Chg (fun _ => False) w w') : VF l0 G w' v := by
 obtain ⟨cs, T, rfl, hr, hg⟩ := h
 exact ⟨cs, T, rfl, In.upS hf hr hc (fun _ h => h.elim), hg⟩
def BF (l0 : Nat) (G : Tree → Prop) (w : World) (v : Value) : Prop := ∃ s a n c, v = .slice a n c ∧ Rep (In 0 l0 w) w (bytesD s) [v] ∧ G (textT s)
theorem BF.up {l0 lb : Nat} (hf : Fb 0 l0 lb) {G : Tree → Prop} {w w' : World} {v : Value} (h : BF l0 G w v) (hc : Chg (fun _ => False) w w') : BF l0 G w' v := by
 obtain ⟨s, a, n, c, rfl, hr, hg⟩ := h
 exact ⟨s, a, n, c, rfl, In.upS hf hr hc (fun _ h => h.elim), hg⟩
theorem tree_oneG {ok : Nat → Prop} {w : World} {t : Tree} {cs : List Value} (h : Rep ok w (treeD t) cs) : (cs.all fun v => v.oneCell') = true ∧ cs.length = 5 := by
 obtain ⟨sv, lv, uv, rfl, h1, h2, h3⟩ := tree_cellsG h
 obtain ⟨a, b, rfl, _⟩ := sq_shape h1
 obtain ⟨c, d, rfl, _⟩ := sq_shape h2
 obtain ⟨e, f, rfl, _⟩ := sq_shape h3
 exact ⟨rfl, rfl⟩
theorem TSt.set {l0 tb lb n m : Nat} {uv : Value} {tT e : TypeId} {w : World} {Ts : List Tree} (h : TSt l0 tb lb n uv tT e w Ts (m + 1)) {P : Program} {a : Act} {o : Oper} {x y : Operand} {t : TypeId} {v : Value} {G : Tree → Prop} {R : Value → World → Prop}
  (hop : o.op = .store t x y) (hx : a.eval x = .pointer (some ⟨lb, Ts.length * 5, none⟩)) (hy : a.eval y = v) (hv : VF l0 G w v) (hsz : sizeIs P t 5 = true) (hR : ∀ w' T, G T → TSt l0 tb lb n uv tT e w' (Ts ++ [T]) m → Chg (· = lb) w w' → R undef w') : Does P o a w R := by
 obtain ⟨cs, T, rfl, hr, hg⟩ := hv
 obtain ⟨ccs, hb, hreps⟩ := h.ls
 have hlen : cs.length = 5 := by rw [Rep.len _ _ hr, treeD_width]
 rw [Reps.app] at hreps
 obtain ⟨c1, c2, rfl, hr1, hr2⟩ := hreps
 simp only [List.replicate_succ, Reps] at hr2
 obtain ⟨c3, c4, rfl, hr3, hr4⟩ := hr2
 have hl3 : c3.length = 5 := by rw [rep_flag.1 hr3]; rfl
 have hl1 : c1.length = Ts.length * 5 := by rw [Reps.len _ _ hr1, widths_trees]
 obtain ⟨h1, _⟩ := tree_oneG hr
 refine do_storeSeg (vs := cs) (seg := c3) (A := c1) (C := c4) hop hx hy rfl (by rw [hlen]; exact hsz) h1 (by rw [List.append_assoc]; exact hb) hl1 (by rw [hl3, hlen]) (fun w' hb' hg' => ?_)
 have hc := Chg.grown hg'
 have hup : ∀ {d : D} {cc : List Value}, Rep (In 0 l0 w) w d cc → Rep (In 0 l0 w') w' d cc := fun hh => In.upS h.fb hh hc (fun j hj => .inl hj)
 have hups : ∀ {d : List D} {cc : List Value}, Reps (In 0 l0 w) w d cc → Reps (In 0 l0 w') w' d cc := fun hh => In.ups h.fb hh hc (fun j hj => .inl hj)
 refine hR w' T hg ⟨h.tr.chg hc h.ne, ⟨c1 ++ cs ++ c4, hb', ?_⟩, h.ne, h.ltb, h.llb, Nat.le_trans h.l0w hc.size⟩ hc
 rw [List.map_append, List.append_assoc, List.append_assoc, Reps.app]
 refine ⟨c1, cs ++ c4, rfl, hups hr1, ?_⟩
 simp only [List.map_cons, List.map_nil, List.cons_append, List.nil_append, Reps]
 exact ⟨cs, c4, rfl, hup hr, hups hr4⟩
end Go.Proofs.YtgpnpfiafcakfaaDoor

namespace Go.Proofs.YtgpnpfiafcakfaaDoor
open Go Go.RowKit
section
variable {P : Program} {ops : Array Oper} {Q : Exit → Act → World → Prop} {N : Nat} {rest : List Oper} {L : Sl} {w : World} {ty : TypeId} {pos : String} {aft : Array Edge}
end
end Go.Proofs.YtgpnpfiafcakfaaDoor

namespace Go.Proofs.YtgpnpfiafcakfaaDoor
open Go Go.RowKit
section
variable {P : Program} {ops : Array Oper} {Q : Exit → Act → World → Prop} {N : Nat} {rest : List Oper} {L : Sl} {w : World} {d : Nat} {ty : TypeId} {pos : String} {aft : Array Edge}
end
end Go.Proofs.YtgpnpfiafcakfaaDoor

namespace Go.Proofs.YtgpnpfiafcakfaaDoor
open Go Go.RowKit
theorem own_rep {w : World} {B l0 u8 : Nat} {d : Value} {xs : List UInt8} (h : Own w B u8 d xs) (hl : l0 ≤ B) : Rep (In 0 l0 w) w (bytesD xs) [d] := by
 obtain ⟨a, c, hd⟩ := h.shape
 cases hb : d.ownBlock with
 | none =>
  unfold Own World.ownsRow at h
  rcases h with ⟨_, ⟨rfl, hn⟩ | ⟨g, cap, cur, rfl, _⟩⟩
  ·have : xs = [] := List.length_eq_zero_iff.1 hn
   subst this; exact rep_nilS
  ·simp [Value.ownBlock] at hb
 | some g =>
  refine sl_sq (RowD.okb (bx := g + 1) (e := u8) (sz := 1) (lo := B) ⟨?_, ?_, bv xs, ?_, ?_⟩ hl ⟨g, hb⟩)
  ·rw [hb]; simp
  ·intro g' hg'; exact ⟨h.ge g' hg', h.lt g' hg'⟩
  ·rw [List.length_map]; exact h
  ·exact (reps_bytes xs _).2 rfl
section
variable {P : Program} {K : Tk} {tg : Bool} {a : Act} {w : World} {o : Oper} {l0 : Nat}
def isTxt (P : Program) (pc : Operand → Bool) : Op → Bool
 | .convert s t x => pc x && isStr P s && isBytes P t
 | _ => false
theorem do_toBytes {l0 : Nat} {s t : TypeId} {x : Operand} {bs : List UInt8} {R : Value → World → Prop} (hop : o.op = .convert s t x) (hx : a.eval x = strV bs) (hs : isStr P s = true) (ht : isBytes P t = true) (hl : l0 ≤ w.heap.size)
  (h : ∀ v w', (∃ a n c, v = .slice a n c) → Rep (In 0 l0 w') w' (bytesD bs) [v] → Chg (fun _ => False) w w' → R v w') : Does P o a w R := by
 cases o; simp only at hop; subst hop
 unfold isStr at hs
 split at hs
 ·rename_i hs'
  unfold isBytes at ht
  split at ht
  ·rename_i e' ht'
   split at ht
   ·rename_i he
    obtain ⟨str, hstr, hsb⟩ : ∃ str : ByteArray, strV bs = .string str ∧ str.data.toList = bs := ⟨⟨bs.toArray⟩, rfl, by simp⟩
    have hr := Go.Lib.run_convert_string_bytes (P := P) w s t e' str hs' ht' he
    refine does_of (v := .slice (some ⟨w.heap.size, 0, none⟩) str.size (grownCap w str.size 0 e')) (w' := Go.Lib.bytesWorld w e' str) ?_ (h _ _ ⟨_, _, _, rfl⟩ ?_ ⟨rfl, rfl, rfl, by rw [Go.Lib.bytesWorld_size]; omega, fun j hj _ => Go.Lib.bytesWorld_at_old w e' str j hj⟩)
    ·simp only [execOp, hx, hstr, Sem.run_bind, hr, Result.andThen_ok, Sem.run_pure]
    ·have hsz : str.size = bs.length := by rw [← hsb, Array.length_toList]; rfl
     simp only [bytesD, Rep]
     refine ⟨some ⟨w.heap.size, 0, none⟩, grownCap w str.size 0 e', by rw [List.length_map, hsz], ?_, .inr ⟨w.heap.size, 0, bv bs, rfl, ⟨.inr hl, by rw [Go.Lib.bytesWorld_size]; omega⟩, ?_, (reps_bytes bs _).2 rfl⟩⟩
     ·rw [List.length_map, ← hsz]; exact grownCap_ge w str.size 0 e'
     ·refine ⟨Go.Lib.bytesCells w e' str, e', _, Go.Lib.bytesWorld_at_new w e' str, ?_, fun i v hv => ?_⟩
      ·simp only [bv_length, Go.Lib.bytesCells, Array.size_append, Array.size_map, Nat.zero_add]
       have : str.data.size = str.size := rfl
       omega
      ·have hlt : i < str.data.size := by
        have := (List.getElem?_eq_some_iff.1 hv).1
        rw [bv_length, ← hsz] at this; exact this
       simp only [bv, List.getElem?_map, ← hsb] at hv
       simp only [Go.Lib.bytesCells, Nat.zero_add]
       rw [Array.getElem?_append_left (by rw [Array.size_map]; exact hlt), Array.getElem?_map]
       rw [← hv]
       simp
   ·cases ht
  ·cases ht
 ·cases hs
def isApp16 (P : Program) (pa : Operand → Bool) : Op → Bool
 | .call ⟨.builtin .append, ⟨[.const (.slice none 0 0), y]⟩, ⟨[t, u]⟩⟩ => pa y && (match P.underlying t with | some (.slice e') => byteSl P t e' | _ => false) && (match P.underlying u with | some (.slice _) => true | _ => false)
 | _ => false
theorem do_app16 {pa : Operand → Bool} {sb off : Nat} {s : List UInt8} {R : Value → World → Prop} (h : isApp16 P pa o.op = true) (hpa : ∀ x, pa x = true → a.eval x = .slice (some ⟨sb, off, none⟩) 16 16) (hc : CellsAt w sb off (bv s)) (hs : s.length = 16) (hsb : sb < w.heap.size) (hl : l0 ≤ w.heap.size)
  (hR : ∀ v w', (∃ a n c, v = .slice a n c) → Rep (In 0 l0 w') w' (bytesD s) [v] → Chg (fun _ => False) w w' → R v w') : Does P o a w R := by
 unfold isApp16 at h
 split at h
 ·rename_i y t u hop
  simp only [Bool.and_eq_true] at h
  obtain ⟨⟨h1, h2⟩, h3⟩ := h
  have hy := hpa y h1
  split at h2
  ·rename_i e' ht
   split at h3
   ·rename_i e2 hu'
    obtain ⟨hu, i, z, hi, hs1, hb1, hz, hzc⟩ := byteSl_out h2
    obtain ⟨d', w', hr, ho, hgr⟩ := run_app (P := P) w w.heap.size t u o.type e' i z (.slice e2) hu hu' (.inl ⟨_, rfl⟩) hi hz (by rw [hzc, hs1]) (.slice none 0 0) 0 [] (World.ownsRow_nil _ _ _ _)
     (.slice (some ⟨sb, off, none⟩) 16 16) 16 (bv s) (by rw [bv_length, hs1, hs]) (bv_one s) (fun w' => by simp [Builtin.lenOf]) (fun w' hw' => by
      refine run_firstCells_some (P := P) w' i.size 16 _ _ _ (bv s) (by rw [bv_length, hs1, hs]) (fun j v hv => ?_)
      rw [add_plain _ _ rfl]
      rcases hw' with rfl | rfl
      ·exact hc.cell hv
      ·exact (hc.of_block (w' := w.drew) rfl).cell hv) (by rw [hb1]; decide) (by decide) (Nat.le_refl _)
    have hc2 : Chg (fun _ => False) w w' := Chg.grown0 hgr.grown
    have ho' : Own w' w.heap.size e' d' s := by
     unfold Own
     rw [hs1] at ho
     simpa [hs] using ho
    obtain ⟨a', c', hsh⟩ := ho'.shape
    cases o; simp only at hop; subst hop
    refine does_of (v := d') (w' := w') ?_ (hR d' w' ⟨_, _, _, hsh⟩ (own_rep ho' hl) hc2)
    simp only [execOp, resolve, List.map_toArray, List.map_cons, List.map_nil, eval_const, hy, Sem.run_bind, Sem.run_pure, Result.andThen_ok, invoke, builtin, hr]
   ·cases h3
  ·cases h2
 ·cases h
structure TSrc (B sb so : Nat) (tg : Bool) (kind nul : Int) (sub : List Fld) (w : World) (ds : List D) (c : Value) (cs : List Value) : Prop where
 at_ : CellsAt w sb so cs
 rep : Reps (Lo B) w ds cs
 tell : ∃ T, TellX tg kind nul sub ds T
 lt : sb < B
 Bw : B ≤ w.heap.size
 one : kind ≠ 10 → kind ≠ 7 → cs = [c]
theorem TSrc.up {B sb so : Nat} {kind nul : Int} {sub : List Fld} {w' : World} {ds : List D} {c : Value} {cs : List Value} {S : Nat → Prop} (h : TSrc B sb so tg kind nul sub w ds c cs) (hc : Chg S w w') (hS : ∀ j, S j → B ≤ j) : TSrc B sb so tg kind nul sub w' ds c cs :=
 ⟨h.at_.chg hc (fun hj => by have := hS _ hj; have := h.lt; omega), Reps.mono (fun b hb => ⟨hb, hc.block b (by have h3 : b < B := hb; have := h.Bw; omega) (fun hj => by have h3 : b < B := hb; have := hS _ hj; omega)⟩) _ _ h.rep, h.tell, h.lt, Nat.le_trans h.Bw hc.size, h.one⟩
def isTcall (P : Program) (K : Tk) (pc pp : Operand → Bool) (kind nul : Int) (sub : List Fld) : Op → Bool
 | .call ⟨.value (.func f), ⟨[x]⟩, _⟩ =>
  bif decide (kind = 10) then pp x && (match lkM K.tells f with | some fs => fldsEq fs sub | none => false)
  else pc x && isFn P f && (bif decide (kind = 0) then Nat.beq f K.bool else bif decide (kind = 8) then decide (0 ≤ nul) && Nat.beq f K.text else decide (kind = 9) && Nat.beq f K.octs)
 | _ => false
theorem tellV_nul {kind nul nul' : Int} {d : D} {T : Tree} (hk : kind ≠ 8 ∨ (0 ≤ nul ↔ 0 ≤ nul')) : TellV kind nul d T ↔ TellV kind nul' d T := by
 unfold TellV
 rcases hk with hk | hk
 ·simp only [hk, if_false]
 ·by_cases h : 0 ≤ nul
  ·simp only [h, hk.1 h, if_true]
  ·have h' : ¬ 0 ≤ nul' := fun h2 => h (hk.2 h2)
   simp only [h, h', if_false]
theorem do_tcall (hK : TkOk P K tg) {pc pp : Operand → Bool} {B sb so : Nat} {kind nul : Int} {sub : List Fld} {ds : List D} {c : Value} {cs : List Value} (h : isTcall P K pc pp kind nul sub o.op = true) (hpc : ∀ x, pc x = true → a.eval x = c) (hpp : ∀ x, pp x = true → a.eval x = .pointer (some ⟨sb, so, none⟩))
  (hs : TSrc B sb so tg kind nul sub w ds c cs) (hl : l0 ≤ w.heap.size) : Does P o a w fun v w' => Chg (fun _ => False) w w' ∧ VF l0 (TellX tg kind nul sub ds) w' v := by
 obtain ⟨T, hT⟩ := hs.tell
 have hin : ∀ {w' : World} {r : Nat}, In 0 w.heap.size w' r → In 0 l0 w' r := fun hr => ⟨.inr (by rcases hr.1 with h | h; exact absurd h (Nat.not_lt_zero _); omega), hr.2⟩
 unfold isTcall at h
 split at h
 ·rename_i f x ats hop
  by_cases h10 : kind = 10
  ·simp only [h10, decide_true, cond_true, Bool.and_eq_true] at h
   obtain ⟨hx, hf⟩ := h
   split at hf
   ·rename_i fs hfs
    have hfe := fldsEq_out _ _ hf
    subst hfe
    simp only [TellX, h10, if_true] at hT
    obtain ⟨hfn, hcall⟩ := hK.tells f fs hfs
    refine do_call hop (by simp [hpp x hx]) hfn ((hcall B w sb so cs ds T hs.at_ hs.rep hs.lt hs.Bw hT).mono ?_)
    rintro en w' ⟨cs', T', rfl, hr, ht, hc⟩
    refine ⟨_, rfl, hc, cs', T', rfl, hr.up (fun r hr => hin hr) (fun _ _ => rfl), ?_⟩
    simp only [TellX, h10, if_true]; exact ht
   ·cases hf
  ·simp only [h10, decide_false, cond_false, Bool.and_eq_true] at h
   obtain ⟨⟨hx, hfn⟩, hk⟩ := h
   have h7 : kind ≠ 7 := by rintro rfl; simp at hk
   have hcs := hs.one h10 h7
   subst hcs
   simp only [TellX, h10, if_false] at hT
   obtain ⟨d, rfl, hT⟩ := hT
   have hrep : Rep (Lo B) w d [c] := rep_one.1 hs.rep
   have key : ∀ kind' nul', (∀ T, TellV kind' nul' d T ↔ TellV kind nul d T) → TlC P f kind' nul' → Does P o a w fun v w' => Chg (fun _ => False) w w' ∧ VF l0 (TellX tg kind nul sub [d]) w' v := by
    rintro kind' nul' he ⟨_, hcall⟩
    refine do_call hop (by simp [hpc x hx]) hfn ((hcall B w d c T hrep hs.Bw ((he T).2 hT)).mono ?_)
    rintro en w' ⟨cs', T', rfl, hr, ht, hc⟩
    refine ⟨_, rfl, hc, cs', T', rfl, hr.up (fun r hr => hin hr) (fun _ _ => rfl), ?_⟩
    simp only [TellX, h10, if_false]; exact ⟨d, rfl, (he T').1 ht⟩
   by_cases h0 : kind = 0
   ·simp only [h0, decide_true, cond_true] at hk
    have := beq_out hk; subst this
    subst h0
    exact key 0 (-1) (fun T => tellV_nul (.inl (by decide))) (hK.bool hfn)
   ·simp only [h0, decide_false, cond_false] at hk
    by_cases h8 : kind = 8
    ·simp only [h8, decide_true, cond_true, Bool.and_eq_true, decide_eq_true_eq] at hk
     have := beq_out hk.2; subst this
     subst h8
     exact key 8 0 (fun T => tellV_nul (.inr ⟨fun _ => hk.1, fun _ => Int.le_refl 0⟩)) (hK.text hfn)
    ·simp only [h8, decide_false, cond_false, Bool.and_eq_true, decide_eq_true_eq] at hk
     have := beq_out hk.2; subst this
     obtain ⟨h9, _⟩ := hk
     subst h9
     exact key 9 (-1) (fun T => tellV_nul (.inl (by decide))) (hK.octs hfn)
 ·cases h
def isBld1 (tT : Nat) (fl : Bool) (ops : List Oper) (ib ic : Nat) : Op → Bool
 | .build t ⟨[(1, y)]⟩ => Nat.beq t tT && actRef fl ops ib ic y
 | _ => false
def preOk (P : Program) (K : Tk) (pc pp pa : Nat → Operand → Bool) (kind nul : Int) (sub : List Fld) (fl : Bool) (ops : List Oper) : List Nat → Bool
 | [] => true
 | [ib] => opAt ops ib (isTcall P K (pc ib) (pp ib) kind nul sub)
 | [ic, ib] => !Nat.beq ic ib && opAt ops ib (isBld1 K.tT fl ops ib ic) && (bif decide (kind = 8) then decide (nul < 0) && opAt ops ic (isTxt P (pc ic)) else decide (kind = 7) && opAt ops ic (isApp16 P (pa ic)))
 | _ => false
def preF (l0 : Nat) (G : Tree → Prop) : List Nat → Nat → Value → World → Prop
 | [ib], j, v, w => j = ib → VF l0 G w v
 | [ic, ib], j, v, w => (j = ib → VF l0 G w v) ∧ (j = ic → BF l0 G w v)
 | _, _, _, _ => True
theorem preF_up {l0 lb : Nat} (hf : Fb 0 l0 lb) {G : Tree → Prop} {pre : List Nat} {j : Nat} {v : Value} {w w' : World} (hc : Chg (fun _ => False) w w') (h : preF l0 G pre j v w) : preF l0 G pre j v w' := by
 match pre, h with
 | [], _ => trivial
 | [ib], h => exact fun e => (h e).up hf hc
 | [ic, ib], h => exact ⟨fun e => (h.1 e).up hf hc, fun e => (h.2 e).up hf hc⟩
 | _ :: _ :: _ :: _, _ => trivial
theorem pre_act (hK : TkOk P K tg) {pc pp pa : Nat → Operand → Bool} {B sb so : Nat} {kind nul : Int} {sub : List Fld} {ds : List D} {c : Value} {cs : List Value} {fl : Bool} {ops : List Oper} {pre : List Nat} (h : preOk P K pc pp pa kind nul sub fl ops pre = true)
  {i : Nat} (hi : i ∈ pre) (ho : ops[i]? = some o) (hpc : ∀ x, pc i x = true → a.eval x = c) (hpp : ∀ x, pp i x = true → a.eval x = .pointer (some ⟨sb, so, none⟩)) (hpa : ∀ x, pa i x = true → a.eval x = .slice (some ⟨sb, so, none⟩) 16 16)
  (hs : TSrc B sb so tg kind nul sub w ds c cs) (hl : l0 ≤ w.heap.size) {pd : List (Nat × Value)} (hpd : ∀ j v, (j, v) ∈ pd → preF l0 (TellX tg kind nul sub ds) pre j v w) (hpr : ∀ j ∈ prs fl ops i, j ∈ pre → ∃ v, (j, v) ∈ pd) (hdn : ∀ j v d, (j, v) ∈ pd → dstOf ops j = some d → gt a d = v) :
  Does P o a w fun v w' => Chg (fun _ => False) w w' ∧ preF l0 (TellX tg kind nul sub ds) pre i v w' := by
 match pre, h, hpd, hpr, hi with
 | [ib], h, _, _, hi =>
  have : i = ib := by simpa using hi
  subst this
  obtain ⟨o2, ho2, h2⟩ := opAt_out h
  rw [ho] at ho2; cases ho2
  refine fun K' Q' hK' => do_tcall (l0 := l0) hK h2 hpc hpp hs hl K' Q' (fun v w' ⟨hc, hv⟩ => hK' v w' ⟨hc, fun _ => hv⟩)
 | [ic, ib], h, hpd, hpr, hi =>
  simp only [preOk, Bool.and_eq_true, Bool.not_eq_true'] at h
  obtain ⟨⟨hne, hb⟩, hc⟩ := h
  have hne := nb_ne hne
  by_cases hib : i = ib
  ·subst hib
   obtain ⟨o2, ho2, h2⟩ := opAt_out hb
   rw [ho] at ho2; cases ho2
   unfold isBld1 at h2
   split at h2
   ·rename_i t y hop
    rw [Bool.and_eq_true] at h2
    have := beq_out h2.1; subst this
    obtain ⟨s, rfl, hs2, hs3⟩ := actRef_out h2.2
    obtain ⟨v, hv⟩ := hpr ic hs3 (by simp)
    obtain ⟨s', a', n', c', rfl, hr, hG⟩ := (hpd ic v hv).2 rfl
    have hev : a.eval (.tmp s) = .slice a' n' c' := hdn ic _ s hv hs2
    refine do_of (ro_build hop hev (hK.ty.b1 _ _ _)) ⟨Chg.refl _ _, fun _ => ⟨[.int .i64 0, .slice a' n' c', .bool false, .slice none 0 0, .slice none 0 0], textT s', rfl, rep_text hr, hG⟩, fun e => absurd e.symm hne⟩
   ·cases h2
  ·have hic : i = ic := by
    rcases List.mem_cons.1 hi with h | h
    ·exact h
    ·exact absurd (by simpa using h) hib
   subst hic
   obtain ⟨T, hT⟩ := hs.tell
   by_cases h8 : kind = 8
   ·simp only [h8, decide_true, cond_true, Bool.and_eq_true, decide_eq_true_eq] at hc
    obtain ⟨hn, hc⟩ := hc
    obtain ⟨o2, ho2, h2⟩ := opAt_out hc
    rw [ho] at ho2; cases ho2
    have hcs := hs.one (by rw [h8]; decide) (by rw [h8]; decide)
    have hn' : ¬ 0 ≤ nul := by omega
    have hT' : ∃ s, ds = [.lit (strV s)] ∧ T = textT s := by
     simp only [TellX, TellV, h8] at hT
     simp [hn'] at hT
     obtain ⟨d, rfl, s, rfl, h⟩ := hT
     exact ⟨s, rfl, h⟩
    obtain ⟨s, rfl, _⟩ := hT'
    have hce : c = strV s := by
     have := rep_one.1 hs.rep
     rw [hcs] at this
     simpa [Rep] using this
    unfold isTxt at h2
    split at h2
    ·rename_i s0 t0 x hop
     simp only [Bool.and_eq_true] at h2
     obtain ⟨⟨g1, g2⟩, g3⟩ := h2
     refine do_toBytes (l0 := l0) hop (by rw [hpc x g1, hce]) g2 g3 hl (fun v w' hv hr hcc => ⟨hcc, fun e => absurd e hib, fun _ => ?_⟩)
     obtain ⟨a', n', c', hv⟩ := hv
     refine ⟨s, a', n', c', hv, hr, ?_⟩
     simp [TellX, TellV, h8, hn']
     exact ⟨s, rfl, rfl⟩
    ·cases h2
   ·simp only [h8, decide_false, cond_false, Bool.and_eq_true, decide_eq_true_eq] at hc
    obtain ⟨h7, hc⟩ := hc
    obtain ⟨o2, ho2, h2⟩ := opAt_out hc
    rw [ho] at ho2; cases ho2
    have hT' : ∃ s, s.length = 16 ∧ ds = [.agg (s.map byteD)] ∧ T = textT s := by
     simp only [TellX, TellV, h7] at hT
     simp at hT
     obtain ⟨d, rfl, s, h1, h2, h3⟩ := hT
     exact ⟨s, h1, by rw [h2], h3⟩
    obtain ⟨s, h16, rfl, _⟩ := hT'
    have hcs : cs = bv s := by
     have := rep_one.1 hs.rep
     simp only [Rep] at this
     exact (reps_bytes s cs).1 this
    refine do_app16 (l0 := l0) h2 hpa (by rw [← hcs]; exact hs.at_) h16 (by have := hs.lt; have := hs.Bw; omega) hl (fun v w' hv hr hcc => ⟨hcc, fun e => absurd e hib, fun _ => ?_⟩)
    obtain ⟨a', n', c', hv⟩ := hv
    refine ⟨s, a', n', c', hv, hr, ?_⟩
    simp [TellX, TellV, h7]
    exact ⟨s, h16, rfl, rfl⟩
end
end Go.Proofs.YtgpnpfiafcakfaaDoor

namespace Go.Proofs.YtgpnpfiafcakfaaDoor
open Go Go.RowKit
def i64k (kind : Int) : Bool := decide (kindInt kind = none) && !decide (kind = 0) && !decide (kind = 7) && !decide (kind = 8) && !decide (kind = 9) && !decide (kind = 10)
theorem kindInt_some {kind : Int} {k : IntKind} (h : kindInt kind = some k) : kind ≠ 0 ∧ kind ≠ 7 ∧ kind ≠ 8 ∧ kind ≠ 9 ∧ kind ≠ 10 ∧ kind ≠ 11 := by
 refine ⟨?_, ?_, ?_, ?_, ?_, ?_⟩ <;> (rintro rfl; simp [kindInt] at h)
section
variable {P : Program} {K : Tk} {tg : Bool}
theorem src_int {B sb so : Nat} {kind nul : Int} {sub : List Fld} {w : World} {ds : List D} {c : Value} {cs : List Value} (h : TSrc B sb so tg kind nul sub w ds c cs) {k : IntKind} (hk : kindInt kind = some k) : ∃ m, c = .int k m ∧ TellX tg kind nul sub ds (leafT (IntKind.i64.wrap m)) := by
 obtain ⟨h0, h7, h8, h9, h10, _⟩ := kindInt_some hk
 obtain ⟨T, hT⟩ := h.tell
 have hcs := h.one h10 h7
 simp only [TellX, h10, if_false] at hT ⊢
 obtain ⟨d, rfl, hT⟩ := hT
 simp only [TellV, h0, h7, h8, h9, if_false, hk] at hT ⊢
 obtain ⟨m, rfl, _⟩ := hT
 have := rep_one.1 h.rep
 rw [hcs] at this
 simp only [Rep, List.cons.injEq, and_true] at this
 exact ⟨m, this, _, rfl, m, rfl, rfl⟩
theorem src_i64 {B sb so : Nat} {kind nul : Int} {sub : List Fld} {w : World} {ds : List D} {c : Value} {cs : List Value} (h : TSrc B sb so tg kind nul sub w ds c cs) (hk : i64k kind = true) : ∃ m, c = .int .i64 m ∧ TellX tg kind nul sub ds (leafT m) := by
 simp only [i64k, Bool.and_eq_true, Bool.not_eq_true', decide_eq_true_eq, decide_eq_false_iff_not] at hk
 obtain ⟨⟨⟨⟨⟨hk, h0⟩, h7⟩, h8⟩, h9⟩, h10⟩ := hk
 obtain ⟨T, hT⟩ := h.tell
 have hcs := h.one h10 h7
 simp only [TellX, h10, if_false] at hT ⊢
 obtain ⟨d, rfl, hT⟩ := hT
 simp only [TellV, h0, h7, h8, h9, if_false, hk] at hT ⊢
 obtain ⟨m, rfl, _⟩ := hT
 have := rep_one.1 h.rep
 rw [hcs] at this
 simp only [Rep, List.cons.injEq, and_true] at this
 exact ⟨m, this, _, rfl, m, rfl, rfl⟩
def isCel : Option Rt → Bool
 | some .cel => true
 | _ => false
def isVpO (off : Nat) : Option Rt → Bool
 | some (.vp o) => Nat.beq o off
 | _ => false
def isAsl : Option Rt → Bool
 | some .asl => true
 | _ => false
def isLpK (k : Nat) : Option Rt → Bool
 | some (.lp j) => Nat.beq j k
 | _ => false
def fitsR (kind : Int) : Rt → Bool
 | .cvi k => decide (kindInt kind = some k)
 | .lf1 k => decide (kindInt kind = some k)
 | .lf0 => i64k kind
 | .nilq => false
 | _ => true
def leafOk (kind : Int) : Option Rt → Bool
 | some (.lf1 k) => decide (kindInt kind = some k)
 | some .lf0 => i64k kind
 | _ => false
def valueOk (fl : Bool) (ops : List Oper) (ist : Nat) (lf : Bool) (y : Operand) : List Nat → Bool
 | [] => lf
 | [ib] => actRef fl ops ist ib y
 | [_, ib] => actRef fl ops ist ib y
 | _ => false
def stT (P : Program) (fl : Bool) (ops : List Oper) (e : Operand → Option Rt) (ist i : Nat) (kind : Int) (pre : List Nat) : Op → Bool
 | .store t x y => isLpK (i * 5) (e x) && sizeIs P t 5 && valueOk fl ops ist (leafOk kind (e y)) y pre
 | _ => false
def sclR (P : Program) (K : Tk) (fl : Bool) (N : Nat) (S : List Nat) (vs tt off n i : Nat) (kind nul : Int) (sub : List Fld) (ops : List Oper) : Bool :=
 let r := fun j => rtAt P K.tT fl ops vs tt off n 30 j
 let e := fun j => opT fl ops vs tt r j
 let ist := ops.length - 1
 let pre := (List.range ops.length).filter fun j => (r j).isNone && !Nat.beq j ist
 regOk fl N S ops && Nat.blt ist ops.length && (r ist).isNone && pre.all (fun j => (prs fl ops ist).contains j) && (List.range ops.length).all (fun j => match r j with | some q => fitsR kind q | none => true) &&
 preOk P K (fun j x => isCel (e j x)) (fun j x => isVpO off (e j x)) (fun j x => isAsl (e j x)) kind nul sub fl ops pre && opAt ops ist (stT P fl ops (e ist) ist i kind pre)
theorem value_ok {fl : Bool} {ops : List Oper} {ist l0 : Nat} {G : Tree → Prop} {lf : Bool} {y : Operand} {pre : List Nat} {a : Act} {w : World} {pd : List (Nat × Value)} (h : valueOk fl ops ist lf y pre = true) (hlf : lf = true → VF l0 G w (a.eval y)) (hpd : ∀ j v, (j, v) ∈ pd → preF l0 G pre j v w) (hall : ∀ j ∈ pre, ∃ v, (j, v) ∈ pd)
  (hdn : ∀ j v d, (j, v) ∈ pd → dstOf ops j = some d → gt a d = v) : VF l0 G w (a.eval y) := by
 match pre, h, hpd, hall with
 | [], h, _, _ => exact hlf h
 | [ib], h, hpd, hall =>
  obtain ⟨s, rfl, hs2, _⟩ := actRef_out h
  obtain ⟨v, hv⟩ := hall ib (by simp)
  have := hpd ib v hv rfl
  have he : a.eval (.tmp s) = v := hdn ib v s hv hs2
  rw [he]; exact this
 | [ic, ib], h, hpd, hall =>
  obtain ⟨s, rfl, hs2, _⟩ := actRef_out h
  obtain ⟨v, hv⟩ := hall ib (by simp)
  have := (hpd ib v hv).1 rfl
  have he : a.eval (.tmp s) = v := hdn ib v s hv hs2
  rw [he]; exact this
theorem scl_ok (hK : TkOk P K tg) (hm : P.follows .mixedOrders = true) {fl : Bool} {N id : Nat} {L : Sl} {ops : List Oper} {Q : Exit → Act → World → Prop} {vs tt off n m sb so tb lb l0 B : Nat} {kind nul : Int} {sub : List Fld} {e : TypeId} {uv c : Value} {w : World} {Ts : List Tree} {ds : List D} {cs : List Value}
  (h : sclR P K fl N (L.map (·.1)) vs tt off n Ts.length kind nul sub ops = true) (hvs : lk L vs = some (.pointer (some ⟨sb, so, none⟩))) (htt : lk L tt = some (.pointer (some ⟨tb, 0, none⟩)))
  (hst : TSt l0 tb lb n uv K.tT e w Ts (m + 1)) (hs : TSrc B sb (so + off) tg kind nul sub w ds c cs) (hc0 : w.cell? ⟨sb, so + off, none⟩ = some c) (hBt : B ≤ tb) (hBl : B ≤ lb)
  (hq : ∀ w' T, TellX tg kind nul sub ds T → TSt l0 tb lb n uv K.tT e w' (Ts ++ [T]) m → Chg (· = lb) w w' → QK .normal Q N L w') : WC (.region id ops.toArray fl) P Q N L w := by
 unfold sclR at h
 simp only [Bool.and_eq_true] at h
 obtain ⟨⟨⟨⟨⟨⟨g1, g2⟩, g3⟩, g4⟩, g5⟩, g6⟩, g7⟩ := h
 obtain ⟨ist, hist⟩ : ∃ ist, ist = ops.length - 1 := ⟨_, rfl⟩
 rw [← hist] at g2 g3 g4 g6 g7
 obtain ⟨r, hr⟩ : ∃ r : Nat → Option Rt, r = fun j => rtAt P K.tT fl ops vs tt off n 30 j := ⟨_, rfl⟩
 have hmono : ∀ i rr, rtAt P K.tT fl ops vs tt off n 29 i = some rr → r i = some rr := fun i rr hh => by rw [hr]; exact rtAt_mono 29 i rr hh
 obtain ⟨pre, hpre⟩ : ∃ pre, pre = (List.range ops.length).filter (fun j => (rtAt P K.tT fl ops vs tt off n 30 j).isNone && !Nat.beq j ist) := ⟨_, rfl⟩
 rw [← hpre] at g4 g6 g7
 have hpm : ∀ j, j ∈ pre ↔ j < ops.length ∧ r j = none ∧ j ≠ ist := by
  intro j
  rw [hpre, hr]
  simp only [List.mem_filter, List.mem_range, Bool.and_eq_true, Option.isNone_iff_eq_none, Bool.not_eq_true']
  constructor
  ·rintro ⟨h1, h2, h3⟩; exact ⟨h1, h2, nb_ne h3⟩
  ·rintro ⟨h1, h2, h3⟩; exact ⟨h1, h2, by cases hb : Nat.beq j ist with | false => rfl | true => exact absurd (beq_out hb) h3⟩
 obtain ⟨ost, hos, host⟩ := opAt_out g7
 have hsbB := hs.lt
 have hBw := hs.Bw
 have lt_of : ∀ {i : Nat} {o : Oper}, ops[i]? = some o → i < ops.length := fun h => (List.getElem?_eq_some_iff.1 h).1
 let I : World → Prop := fun w' => Chg (fun _ => False) w w'
 let S : List (Nat × Value) → List Value → World → Prop := fun pd vals w' => match vals with
  | [] => I w' ∧ ∀ j v, (j, v) ∈ pd → preF l0 (TellX tg kind nul sub ds) pre j v w'
  | _ => ∃ T, TellX tg kind nul sub ds T ∧ TSt l0 tb lb n uv K.tT e w' (Ts ++ [T]) m ∧ Chg (· = lb) w w'
 have hcell : ∀ {T : Nat → Prop} {w' : World}, Chg T w w' → ¬ T sb → w'.cell? ⟨sb, so + off, none⟩ = some c := by
  intro T w' hc hn
  rw [← hc0]
  simp only [World.cell?]
  rw [hc.block sb (by omega) hn]
 have hRt : ∀ {w' : World}, (I w' ∨ ∃ (pd : List (Nat × Value)) (vals : List Value), S pd vals w') → RtW tb lb n sb so off c uv K.tT w' := by
  rintro w' (hc | ⟨pd, vals, hS⟩)
  ·exact ⟨hst.tr.chg hc (fun h => h), hcell hc (fun h => h)⟩
  ·match vals, hS with
   | [], hS => exact ⟨hst.tr.chg hS.1 (fun h => h), hcell hS.1 (fun h => h)⟩
   | _ :: _, hS =>
    obtain ⟨T, _, ht, hc⟩ := hS
    exact ⟨ht.tr, hcell hc (by omega)⟩
 have rdEv : ∀ {i : Nat} {a : Act}, Kn N a L → (∀ j ∈ prs fl ops i, j ∉ pre → j ∉ [ist] → ∀ dd, dstOf ops j = some dd → gt a dd = (match r j with | some q => q.v tb lb n sb so off c | none => undef)) → ∀ y rr, opT fl ops vs tt r i y = some rr → a.eval y = rr.v tb lb n sb so off c := by
  intro i a k hf y rr hy
  refine opT_ok k hvs htt (fun j hj dd hdd q hq => ?_) y rr hy
  have hnp : j ∉ pre := fun hp => by rw [((hpm j).1 hp).2.1] at hq; cases hq
  have hni : j ∉ [ist] := fun hp => by
   have : j = ist := by simpa using hp
   subst this
   rw [hr] at hq; simp only [Option.isNone_iff_eq_none] at g3; simp only [] at hq; rw [g3] at hq; cases hq
  have := hf j hj hnp hni dd hdd
  rw [hq] at this; exact this
 refine wc_phase (fl := fl) pre [ist] (fun j => match r j with | some q => q.v tb lb n sb so off c | none => undef) I (fun j v w' => preF l0 (TellX tg kind nul sub ds) pre j v w') S g1 hm ?_ (by simp) (fun j hj => by simpa using ((hpm j).1 hj).2.2) rfl ?_ (Chg.refl _ _) (chg_drew _ _) (fun pd w' hI hF _ => ⟨hI, fun j v hj => (hF j v hj).2⟩) ?_ ?_ ?_ ?_
 ·rw [List.all_eq_true]
  intro j hj
  rcases List.mem_append.1 hj with hj | hj
  ·exact Nat.ble_eq_true_of_le (by have := ((hpm j).1 hj).1; exact this)
  ·have : j = ist := by simpa using hj
   subst this; exact g2
 ·intro p0 hp0 j hj
  have : p0 = ist := by simpa using hp0.symm
  subst this
  unfold reach
  rw [Bool.or_eq_true]
  exact .inl (List.all_eq_true.1 g4 j hj)
 ·intro j o ho hnp hni w' hw a k hf
  have hjl := lt_of ho
  have hne : j ≠ ist := by simpa using hni
  cases hrj : r j with
  | none => exact absurd ((hpm j).2 ⟨hjl, hrj, hne⟩) hnp
  | some rr =>
   simp only [hrj]
   have hfit : fitsR kind rr = true := by
    have := List.all_eq_true.1 g5 j (List.mem_range.2 hjl)
    rw [hr] at hrj
    simp only at hrj
    rw [hrj] at this
    exact this
   have hrr2 := hrj
   rw [hr] at hrr2
   simp only at hrr2
   unfold rtAt at hrr2
   rw [ho] at hrr2
   simp only at hrr2
   have hRw := hRt (w' := w') (hw.imp (fun h => h) (fun ⟨pd, vals, hS, _⟩ => ⟨pd, vals, hS⟩))
   refine rolT_ok hK.ty hRw (e := opT fl ops vs tt (rtAt P K.tT fl ops vs tt off n 29) j) (fun y q hy => rdEv k hf y q (opT_mono hmono y q hy)) hrr2 ?_ ?_ ?_
   ·rintro k' rfl
    simp only [fitsR, decide_eq_true_eq] at hfit
    obtain ⟨m, hm1, _⟩ := src_int hs hfit
    exact ⟨m, hm1⟩
   ·rintro rfl
    obtain ⟨m, hm1, _⟩ := src_i64 hs hfit
    exact ⟨m, hm1⟩
   ·rintro rfl
    cases hfit
 ·intro j o ho hj pd w' hI hF hpr a k hf hdn
  have ev := rdEv k hf
  have hsrc : TSrc B sb (so + off) tg kind nul sub w' ds c cs := hs.up hI (fun _ h => h.elim)
  have hsz := hI.size
  have hl := hst.l0w
  have hd := pre_act (a := a) (l0 := l0) hK (by rw [hr] at *; exact g6) hj ho (c := c) (sb := sb) (so := so + off) (B := B) (ds := ds) (cs := cs)
   (fun x hx => by
    unfold isCel at hx
    split at hx
    ·rename_i hx'; exact ev x .cel (by rw [hr]; exact hx')
    ·cases hx)
   (fun x hx => by
    unfold isVpO at hx
    split at hx
    ·rename_i o' hx'
     have := beq_out hx; subst this
     exact ev x (.vp o') (by rw [hr]; exact hx')
    ·cases hx)
   (fun x hx => by
    unfold isAsl at hx
    split at hx
    ·rename_i hx'; exact ev x .asl (by rw [hr]; exact hx')
    ·cases hx) hsrc (by omega) (fun j v hj => (hF j v hj).2) hpr hdn
  exact fun K' Q' hK' => hd K' Q' (fun v w'' ⟨hc, hv⟩ => hK' v w'' ⟨hI.trans hc, hv, fun j v hp => preF_up hst.fb hc hp⟩)
 ·intro k j o hjk ho pd vals w' hvl hall hS a kn hf hdn _
  have hk0 : k = 0 := by
   have := (List.getElem?_eq_some_iff.1 hjk).1
   simp at this; exact this
  subst hk0
  have : j = ist := by simpa using hjk.symm
  subst this
  have hv0 : vals = [] := List.length_eq_zero_iff.1 hvl
  subst hv0
  obtain ⟨hI, hF⟩ := hS
  rw [hos] at ho; cases ho
  have ev := rdEv kn hf
  unfold stT at host
  split at host
  ·rename_i t x y hop
   simp only [Bool.and_eq_true] at host
   obtain ⟨⟨hx, hsz⟩, hval⟩ := host
   have hst' := hst.up hI
   have hsrc : TSrc B sb (so + off) tg kind nul sub w' ds c cs := hs.up hI (fun _ h => h.elim)
   have hxe : a.eval x = .pointer (some ⟨lb, Ts.length * 5, none⟩) := by
    unfold isLpK at hx
    split at hx
    ·rename_i k' hx'
     have := beq_out hx; subst this
     exact ev x (.lp (Ts.length * 5)) (by rw [hr]; exact hx')
    ·cases hx
   have hvf : VF l0 (TellX tg kind nul sub ds) w' (a.eval y) := by
    refine value_ok hval (fun hlf => ?_) hF hall hdn
    unfold leafOk at hlf
    split at hlf
    ·rename_i k' hy
     have hy' := ev y (.lf1 k') (by rw [hr]; exact hy)
     rw [decide_eq_true_eq] at hlf
     obtain ⟨m, hm1, hG⟩ := src_int hsrc hlf
     rw [hy', hm1]
     exact ⟨_, _, rfl, rep_leaf _, hG⟩
    ·rename_i hy
     have hy' := ev y .lf0 (by rw [hr]; exact hy)
     obtain ⟨m, hm1, hG⟩ := src_i64 hsrc hlf
     rw [hy', hm1]
     exact ⟨_, _, rfl, rep_leaf _, hG⟩
    ·cases hlf
   refine hst'.set hop hxe rfl hvf hsz (fun w'' T hG hts hc => ?_)
   exact ⟨T, hG, hts, (hI.wide (fun _ h => h.elim)).trans hc⟩
  ·cases host
 ·intro pd vals w' hvl hall hS a kn hf _ _
  match vals, hvl, hS with
  | [v], _, hS =>
   obtain ⟨T, hG, hts, hc⟩ := hS
   exact hq w' T hG hts hc a kn
end
end Go.Proofs.YtgpnpfiafcakfaaDoor

namespace Go.Proofs.YtgpnpfiafcakfaaDoor
open Go Go.RowKit
def TellE (tg : Bool) (kind : Int) (sub : List Fld) (e : D) (x : Tree) : Prop := if kind = 10 then ∃ ps, e = .agg ps ∧ TellP tg sub ps x else TellV kind (-1) e x
structure LSrc (B sb so : Nat) (tg : Bool) (kind : Int) (sub : List Fld) (w : World) (d : D) (c : Value) (els : List D) : Prop where
 at_ : CellsAt w sb so [c]
 rep : Rep (Lo B) w d [c]
 sh : (∃ b, d = .sl b els) ∨ d = .sq els
 tell : ∀ e ∈ els, ∃ x, TellE tg kind sub e x
 lt : sb < B
 Bw : B ≤ w.heap.size
section
variable {B sb so : Nat} {tg : Bool} {kind : Int} {sub : List Fld} {w w' : World} {d : D} {c : Value} {els : List D}
theorem LSrc.up {S : Nat → Prop} (h : LSrc B sb so tg kind sub w d c els) (hc : Chg S w w') (hS : ∀ j, S j → B ≤ j) : LSrc B sb so tg kind sub w' d c els :=
 ⟨h.at_.chg hc (fun hj => by have := hS _ hj; have := h.lt; omega), Rep.mono (fun b hb => ⟨hb, hc.block b (by have h3 : b < B := hb; have := h.Bw; omega) (fun hj => by have h3 : b < B := hb; have := hS _ hj; omega)⟩) _ _ h.rep, h.sh, h.tell, h.lt, Nat.le_trans h.Bw hc.size⟩
theorem LSrc.shape (h : LSrc B sb so tg kind sub w d c els) : ∃ a n, c = .slice a els.length n ∧ (els ≠ [] → ∃ b off cs, a = some ⟨b, off, none⟩ ∧ b < B ∧ CellsAt w b off cs ∧ Reps (Lo B) w els cs) := by
 have hr := h.rep
 rcases h.sh with ⟨b, rfl⟩ | rfl
 ·simp only [Rep] at hr
  obtain ⟨a, n, he, _, h1, h2⟩ := hr
  simp only [List.cons.injEq, and_true] at he
  refine ⟨a, n, he, fun hne => ?_⟩
  cases b with
  | true => exact absurd (h1 rfl).2.1 hne
  | false => obtain ⟨b, off, cs, h3, h4, h5, h6⟩ := h2 rfl; exact ⟨b, off, cs, h3, h4, h5, h6⟩
 ·simp only [Rep] at hr
  obtain ⟨a, n, he, _, h2⟩ := hr
  simp only [List.cons.injEq, and_true] at he
  refine ⟨a, n, he, fun hne => ?_⟩
  rcases h2 with h2 | ⟨b, off, cs, h3, h4, h5, h6⟩
  ·exact absurd h2 hne
  ·exact ⟨b, off, cs, h3, h4, h5, h6⟩
theorem LSrc.flag (h : LSrc B sb so tg kind sub w d c els) : d = .sl (isNilV c) els ∨ (d = .sq els ∧ (els ≠ [] → isNilV c = false)) := by
 have hr := h.rep
 rcases h.sh with ⟨b, rfl⟩ | rfl
 ·simp only [Rep] at hr
  obtain ⟨a, n, he, _, h1, h2⟩ := hr
  simp only [List.cons.injEq, and_true] at he
  subst he
  cases b with
  | true => obtain ⟨rfl, _, _⟩ := h1 rfl; exact .inl rfl
  | false => obtain ⟨b, off, cs, rfl, _⟩ := h2 rfl; exact .inl rfl
 ·refine .inr ⟨rfl, fun hne => ?_⟩
  obtain ⟨a, n, rfl, h2⟩ := h.shape
  obtain ⟨b, off, cs, rfl, _⟩ := h2 hne
  rfl
theorem LSrc.elem (h : LSrc B sb so tg kind sub w d c els) {sz : Nat} (hsz : ∀ e ∈ els, e.width = sz) {k : Nat} {e : D} (hk : els[k]? = some e) : ∃ b off n cs, c = .slice (some ⟨b, off, none⟩) els.length n ∧ cs.length = sz ∧ CellsAt w b (off + k * sz) cs ∧
  ∃ ds, (if kind = 10 then e = .agg ds else ds = [e]) ∧ ∀ c0, (kind ≠ 10 → kind ≠ 7 → cs = [c0]) → TSrc B b (off + k * sz) tg kind (-1) sub w ds c0 cs := by
 have hkl := (List.getElem?_eq_some_iff.1 hk).1
 have hke := (List.getElem?_eq_some_iff.1 hk).2
 obtain ⟨a, n, rfl, h2⟩ := h.shape
 obtain ⟨b, off, ccs, rfl, hb, hc, hr⟩ := h2 (by rintro rfl; simp at hkl)
 obtain ⟨pre, cs, post, rfl, hpl, hrk⟩ := Reps.get els ccs hr hsz k hkl
 rw [hke] at hrk
 have hlen : cs.length = sz := by rw [Rep.len _ _ hrk]; exact hsz e (by rw [← hke]; exact List.getElem_mem _)
 have hat : CellsAt w b (off + k * sz) cs := by
  obtain ⟨arr, ty, fz, g1, g2, g3⟩ := hc
  refine ⟨arr, ty, fz, g1, by simp only [List.length_append] at g2; omega, fun j v hj => ?_⟩
  have hjl := (List.getElem?_eq_some_iff.1 hj).1
  have := g3 (k * sz + j) v (by rw [List.getElem?_append_right (by omega), hpl, Nat.add_sub_cancel_left, List.getElem?_append_left hjl]; exact hj)
  rw [← Nat.add_assoc] at this; exact this
 obtain ⟨x, hx⟩ := h.tell e (by rw [← hke]; exact List.getElem_mem _)
 refine ⟨b, off, n, cs, rfl, hlen, hat, ?_⟩
 unfold TellE at hx
 by_cases h10 : kind = 10
 ·simp only [h10, if_true] at hx ⊢
  obtain ⟨ps, rfl, hx⟩ := hx
  refine ⟨ps, rfl, fun c0 _ => ⟨hat, by simpa [Rep] using hrk, ⟨x, by simp only [TellX, if_true]; exact hx⟩, hb, h.Bw, fun hn => absurd rfl hn⟩⟩
 ·simp only [h10, if_false] at hx ⊢
  exact ⟨[e], rfl, fun c0 hc0 => ⟨hat, rep_one.2 hrk, ⟨x, by simp only [TellX, h10, if_false]; exact ⟨e, rfl, hx⟩⟩, hb, h.Bw, hc0⟩⟩
end
structure LSt (l0 lo tb lb n : Nat) (uv : Value) (tT e : TypeId) (w : World) (Ts : List Tree) (m : Nat) (b : Bool) (d : Value) (xs : List Tree) : Prop where
 tr : Box w tb [.int .i64 0, .slice none 0 0, .bool false, .slice (some ⟨lb, 0, none⟩) n n, uv] tT
 ls : ∃ c1, Box w lb (c1 ++ [.int .i64 0, .slice none 0 0, .bool b] ++ d :: .slice none 0 0 :: (List.replicate m (flagC false)).flatten) e ∧ Reps (fun r => l0 ≤ r ∧ r < lo) w (Ts.map treeD) c1
 row : RowD 0 lo lb tT 5 w d (xs.map treeD)
 ne : tb ≠ lb
 ltb : tb < l0
 llb : lb < l0
 l0l : l0 ≤ lo
 low : lo ≤ w.heap.size
theorem reps_flags {ok : Nat → Prop} {w : World} : ∀ (m : Nat) (cs : List Value), Reps ok w (List.replicate m (flagD false)) cs ↔ cs = (List.replicate m (flagC false)).flatten
 | 0, cs => by simp [Reps]
 | m + 1, cs => by
  simp only [List.replicate_succ, Reps, rep_flag, List.flatten_cons]
  constructor
  ·rintro ⟨_, c2, rfl, rfl, h⟩; rw [(reps_flags m c2).1 h]
  ·rintro rfl; exact ⟨_, _, rfl, rfl, (reps_flags m _).2 rfl⟩
theorem LSt.done {l0 lo tb lb n m : Nat} {uv : Value} {tT e : TypeId} {w : World} {Ts : List Tree} {b : Bool} {d : Value} {xs : List Tree} (h : LSt l0 lo tb lb n uv tT e w Ts m b d xs) : TSt l0 tb lb n uv tT e w (Ts ++ [.mk 0 [] b xs []]) m := by
 obtain ⟨c1, hb, hr⟩ := h.ls
 have hlow := h.low
 have hl0l := h.l0l
 refine ⟨h.tr, ⟨_, hb, ?_⟩, h.ne, h.ltb, h.llb, by omega⟩
 rw [List.map_append, List.append_assoc, List.append_assoc, Reps.app]
 refine ⟨c1, _, rfl, Reps.mono (fun r hr' => ⟨⟨.inr hr'.1, by have := hr'.2; omega⟩, rfl⟩) _ _ hr, ?_⟩
 simp only [List.map_cons, List.map_nil, List.cons_append, List.nil_append, Reps]
 refine ⟨[.int .i64 0, .slice none 0 0, .bool b, d, .slice none 0 0], _, rfl, ?_, (reps_flags m _).2 rfl⟩
 have hd : Rep (In 0 l0 w) w (.sq (treeDs xs)) [d] := by
  rw [treeDs_map]
  cases hob : d.ownBlock with
  | some g => exact sl_sq (h.row.okb hl0l ⟨g, hob⟩)
  | none =>
   obtain ⟨ys, ho, _⟩ := h.row.row
   unfold World.ownsRow at ho
   rcases ho with ⟨_, ⟨rfl, hn⟩ | ⟨g, cap, cur, rfl, _⟩⟩
   ·have : xs.map treeD = [] := List.length_eq_zero_iff.1 hn
    rw [this]
    simp only [Rep]
    exact ⟨none, 0, rfl, by simp, .inl (by simp)⟩
   ·simp [Value.ownBlock] at hob
 simp only [treeD, Rep, Reps, List.map_nil]
 exact ⟨[_], _, rfl, rfl, [_], _, rfl, rep_nilS, [_], _, rfl, rfl, [_], _, rfl, hd, [_], _, rfl, ⟨none, 0, rfl, by simp, .inl (by simp)⟩, rfl⟩
end Go.Proofs.YtgpnpfiafcakfaaDoor

namespace Go.Proofs.YtgpnpfiafcakfaaDoor
open Go Go.RowKit
def isNq : Option Rt → Bool
 | some .nilq => true
 | _ => false
def fitsL : Option Rt → Bool
 | some (.cvi _) => false
 | some .lf0 => false
 | some _ => true
 | none => false
def stF (P : Program) (e : Operand → Option Rt) (i : Nat) : Op → Bool
 | .store t x y => isLpK (i * 5 + 2) (e x) && sizeIs P t 1 && isNq (e y)
 | _ => false
def flgR (P : Program) (K : Tk) (fl : Bool) (N : Nat) (S : List Nat) (vs tt off n i : Nat) (ops : List Oper) : Bool :=
 let r := fun j => rtAt P K.tT fl ops vs tt off n 30 j
 let e := fun j => opT fl ops vs tt r j
 let ist := ops.length - 1
 regOk fl N S ops && Nat.blt ist ops.length && (r ist).isNone && (List.range ops.length).all (fun j => Nat.beq j ist || fitsL (r j)) && opAt ops ist (stF P (e ist) i)
section
variable {P : Program} {K : Tk} {tg : Bool}
theorem flg_ok (hT : TTy P K.tT) (hm : P.follows .mixedOrders = true) {fl : Bool} {N id : Nat} {L : Sl} {ops : List Oper} {Q : Exit → Act → World → Prop} {vs tt off n m sb so tb lb l0 B : Nat} {kind : Int} {sub : List Fld} {e : TypeId} {uv c : Value} {w : World} {Ts : List Tree} {d : D} {els : List D}
  (h : flgR P K fl N (L.map (·.1)) vs tt off n Ts.length ops = true) (hvs : lk L vs = some (.pointer (some ⟨sb, so, none⟩))) (htt : lk L tt = some (.pointer (some ⟨tb, 0, none⟩)))
  (hst : TSt l0 tb lb n uv K.tT e w Ts (m + 1)) (hs : LSrc B sb (so + off) tg kind sub w d c els) (hBt : B ≤ tb) (hBl : B ≤ lb)
  (hq : ∀ w', LSt l0 w'.heap.size tb lb n uv K.tT e w' Ts m (isNilV c) (.slice none 0 0) [] → Chg (· = lb) w w' → QK .normal Q N L w') : WC (.region id ops.toArray fl) P Q N L w := by
 unfold flgR at h
 simp only [Bool.and_eq_true] at h
 obtain ⟨⟨⟨⟨g1, g2⟩, g3⟩, g5⟩, g7⟩ := h
 obtain ⟨ist, hist⟩ : ∃ ist, ist = ops.length - 1 := ⟨_, rfl⟩
 rw [← hist] at g2 g3 g5 g7
 obtain ⟨r, hr⟩ : ∃ r : Nat → Option Rt, r = fun j => rtAt P K.tT fl ops vs tt off n 30 j := ⟨_, rfl⟩
 have hmono : ∀ i rr, rtAt P K.tT fl ops vs tt off n 29 i = some rr → r i = some rr := fun i rr hh => by rw [hr]; exact rtAt_mono 29 i rr hh
 obtain ⟨ost, hos, host⟩ := opAt_out g7
 have hsbB := hs.lt
 have hBw := hs.Bw
 have hc0 : w.cell? ⟨sb, so + off, none⟩ = some c := by have := hs.at_.cell (i := 0) (v := c) rfl; simpa using this
 obtain ⟨ca, cn, hcs, _⟩ := hs.shape
 let b := isNilV c
 let D : World → Prop := fun w' => LSt l0 w'.heap.size tb lb n uv K.tT e w' Ts m (isNilV c) (.slice none 0 0) [] ∧ Chg (· = lb) w w'
 let C : List (Nat × Value) → World → Prop := fun dn w' => (dn = [] ∧ Chg (fun _ => False) w w') ∨ (∃ v, dn = [(ist, v)] ∧ D w')
 have hcell : ∀ {T : Nat → Prop} {w' : World}, Chg T w w' → ¬ T sb → w'.cell? ⟨sb, so + off, none⟩ = some c := by
  intro T w' hc hn
  rw [← hc0]
  simp only [World.cell?]
  rw [hc.block sb (by omega) hn]
 have rdEv : ∀ {i : Nat} {a : Act}, Kn N a L → (∀ j ∈ prs fl ops i, j ∉ [ist] → ∀ dd, dstOf ops j = some dd → gt a dd = (match r j with | some q => q.v tb lb n sb so off c | none => undef)) → ∀ y rr, opT fl ops vs tt r i y = some rr → a.eval y = rr.v tb lb n sb so off c := by
  intro i a k hf y rr hy
  refine opT_ok k hvs htt (fun j hj dd hdd q hq => ?_) y rr hy
  have hni : j ∉ [ist] := fun hp => by
   have : j = ist := by simpa using hp
   subst this
   rw [hr] at hq; simp only [Option.isNone_iff_eq_none] at g3; simp only [] at hq; rw [g3] at hq; cases hq
  have := hf j hj hni dd hdd
  rw [hq] at this; exact this
 refine wc_reg (fl := fl) [ist] (fun j => match r j with | some q => q.v tb lb n sb so off c | none => undef) C g1 hm (by simpa using g2) (.inl ⟨rfl, Chg.refl _ _⟩) (.inl ⟨rfl, chg_drew _ _⟩) ?_ ?_ ?_
 ·intro j o ho hni dn w' hC hnd a k hf
  have hjl := (List.getElem?_eq_some_iff.1 ho).1
  have hne : j ≠ ist := by simpa using hni
  have hall := List.all_eq_true.1 g5 j (List.mem_range.2 hjl)
  rw [Bool.or_eq_true] at hall
  have hfit : fitsL (rtAt P K.tT fl ops vs tt off n 30 j) = true := hall.resolve_left (fun h => hne (beq_out h))
  cases hrj : r j with
  | none =>
   rw [hr] at hrj; simp only [] at hrj
   rw [hrj] at hfit; cases hfit
  | some rr =>
   simp only [hrj]
   have hrr2 := hrj
   rw [hr] at hrr2
   simp only at hrr2
   rw [hrr2] at hfit
   unfold rtAt at hrr2
   rw [ho] at hrr2
   simp only at hrr2
   have hRw : RtW tb lb n sb so off c uv K.tT w' := by
    rcases hC with ⟨_, hc⟩ | ⟨v, _, hL, hc⟩
    ·exact ⟨hst.tr.chg hc (fun h => h), hcell hc (fun h => h)⟩
    ·exact ⟨hL.tr, hcell hc (by omega)⟩
   refine rolT_ok hT hRw (e := opT fl ops vs tt (rtAt P K.tT fl ops vs tt off n 29) j) (fun y q hy => rdEv k hf y q (opT_mono hmono y q hy)) hrr2 ?_ ?_ ?_
   ·rintro k' rfl; cases hfit
   ·rintro rfl; cases hfit
   ·rintro rfl; exact ⟨ca, els.length, cn, hcs⟩
 ·intro j o ho hi dn w' hC hnew hpre a k hf hdn
  have : j = ist := by simpa using hi
  subst this
  rw [hos] at ho; cases ho
  have hc : dn = [] ∧ Chg (fun _ => False) w w' := by
   rcases hC with h | ⟨v, rfl, _⟩
   ·exact h
   ·exact absurd (by simp) (hnew v)
  obtain ⟨rfl, hI⟩ := hc
  have ev := rdEv k hf
  have hst' := hst.up hI
  unfold stF at host
  split at host
  ·rename_i t x y hop
   simp only [Bool.and_eq_true] at host
   obtain ⟨⟨hx, hsz⟩, hy⟩ := host
   have hxe : a.eval x = .pointer (some ⟨lb, Ts.length * 5 + 2, none⟩) := by
    unfold isLpK at hx
    split at hx
    ·rename_i k' hx'
     have := beq_out hx; subst this
     exact ev x (.lp (Ts.length * 5 + 2)) (by rw [hr]; exact hx')
    ·cases hx
   have hye : a.eval y = .bool (isNilV c) := by
    unfold isNq at hy
    split at hy
    ·rename_i hy'
     exact ev y .nilq (by rw [hr]; exact hy')
    ·cases hy
   obtain ⟨ccs, hb, hreps⟩ := hst'.ls
   rw [Reps.app] at hreps
   obtain ⟨c1, c2, rfl, hr1, hr2⟩ := hreps
   simp only [List.replicate_succ, Reps] at hr2
   obtain ⟨c3, c4, rfl, hr3, hr4⟩ := hr2
   have hc3 := rep_flag.1 hr3
   have hc4 := (reps_flags m c4).1 hr4
   subst hc3
   subst hc4
   have hl1 : c1.length = Ts.length * 5 := by rw [Reps.len _ _ hr1, widths_trees]
   refine do_storeSeg (vs := [.bool (isNilV c)]) (seg := [.bool false]) (A := c1 ++ [.int .i64 0, .slice none 0 0]) (C := .slice none 0 0 :: .slice none 0 0 :: (List.replicate m (flagC false)).flatten) hop hxe hye rfl hsz rfl (by simpa [flagC] using hb) (by simp [hl1]) rfl (fun w'' hb' hg' => ?_)
   have hc2 := Chg.grown hg'
   have hz1 := hst'.l0w
   have hz2 := hc2.size
   have hlb := hst.llb
   refine .inr ⟨undef, rfl, ⟨hst'.tr.chg hc2 hst.ne, ⟨c1, by simpa [List.append_assoc] using hb', ?_⟩, RowD.nil 0 _ lb K.tT 5 w'', hst.ne, hst.ltb, hst.llb, by omega, Nat.le_refl _⟩, (hI.wide (fun _ h => h.elim)).trans hc2⟩
   refine Reps.mono (fun q hq' => ⟨⟨by rcases hq'.1 with h | h; exact absurd h (Nat.not_lt_zero _); exact h, by have := hq'.2; omega⟩, ?_⟩) _ _ hr1
   exact hc2.block q hq'.2 (fun e => by
    have e' : q = lb := e
    rcases hq'.1 with h | h
    ·exact absurd h (Nat.not_lt_zero _)
    ·omega)
  ·cases host
 ·intro dn w' hC hall a k hf hdn
  rcases hC with ⟨rfl, _⟩ | ⟨v, rfl, hL, hc⟩
  ·obtain ⟨v, hv⟩ := hall ist (by simp)
   cases hv
  ·exact hq w' hL hc a k
end
end Go.Proofs.YtgpnpfiafcakfaaDoor

namespace Go.Proofs.YtgpnpfiafcakfaaDoor
open Go Go.RowKit
inductive Ru where
 | tp (k : Nat) | lsl | lp (k : Nat) | dst | ln | vp (o : Nat) | row | ix | ep | ec | evi (k : IntKind) | elf (k : IntKind) | elf0
def lenV : Value → Nat
 | .slice _ n _ => n
 | _ => 0
structure Un where
 tb : Nat
 lb : Nat
 n : Nat
 sb : Nat
 so : Nat
 d : Value
 c : Value
 k : Nat
 eb : Nat
 eo : Nat
 ec : Value
def Ru.v (u : Un) : Ru → Value
 | .tp k => .pointer (some ⟨u.tb, k, none⟩)
 | .lsl => .slice (some ⟨u.lb, 0, none⟩) u.n u.n
 | .lp k => .pointer (some ⟨u.lb, k, none⟩)
 | .dst => u.d
 | .ln => .int .i64 (lenV u.d)
 | .vp o => .pointer (some ⟨u.sb, u.so + o, none⟩)
 | .row => u.c
 | .ix => .int .i64 u.k
 | .ep => .pointer (some ⟨u.eb, u.eo, none⟩)
 | .ec => u.ec
 | .evi _ => .int .i64 (IntKind.i64.wrap (intV u.ec))
 | .elf _ => leafV (IntKind.i64.wrap (intV u.ec))
 | .elf0 => leafV (intV u.ec)
def opU (fl : Bool) (ops : List Oper) (vs tt ix : Nat) (acc : Nat → Option Ru) (i : Nat) : Operand → Option Ru
 | .tmp s => bif Nat.beq s vs then some (.vp 0) else bif Nat.beq s tt then some (.tp 0) else bif Nat.beq s ix then some .ix else (match idxOf ops s with
  | some j => bif (prs fl ops i).contains j then acc j else none
  | none => none)
 | _ => none
def rolU (P : Program) (tT off n i sz : Nat) (e : Operand → Option Ru) : Op → Option Ru
 | .move x => e x
 | .nilCheck x => match e x with | some (.vp o) => some (.vp o) | _ => none
 | .fieldAddr s x f => match e x with
  | some (.vp o) => (fieldOff P s f).map fun k => .vp (o + k)
  | some (.tp o) => (fieldOff P s f).map fun k => .tp (o + k)
  | some (.lp o) => (fieldOff P s f).map fun k => .lp (o + k)
  | _ => none
 | .load t x => match e x with
  | some (.vp o) => bif Nat.beq o off && tyOne P t then some .row else none
  | some (.tp 3) => bif tyOne P t then some .lsl else none
  | some (.lp k) => bif Nat.beq k (i * 5 + 3) && tyOne P t then some .dst else none
  | some .ep => bif tyOne P t then some .ec else none
  | _ => none
 | .convert s t x => match e x with
  | some .ec => (match intOfTy P s, intOfTy P t with
   | some k, some .i64 => some (.evi k)
   | _, _ => none)
  | _ => none
 | .build t ⟨[(0, x)]⟩ => match e x with
  | some (.evi k) => bif Nat.beq t tT then some (.elf k) else none
  | some .ec => bif Nat.beq t tT then some .elf0 else none
  | _ => none
 | .indexAddr t x y => match e x, y with
  | some .lsl, .const (.int .i64 (.ofNat k)) => bif optIs (elemSize P t) 5 && Nat.blt k n then some (.lp (k * 5)) else none
  | some .row, .tmp s => (match e (.tmp s) with | some .ix => bif optIs (elemSize P t) sz then some .ep else none | _ => none)
  | _, _ => none
 | .call ⟨.builtin .len, ⟨[x]⟩, ⟨[t]⟩⟩ => match e x with
  | some .dst => bif (elemSize P t).isSome then some .ln else none
  | _ => none
 | _ => none
def ruAt (P : Program) (tT : Nat) (fl : Bool) (ops : List Oper) (vs tt ix off n i sz : Nat) : Nat → Nat → Option Ru
 | 0, _ => none
 | m + 1, j => match ops[j]? with
  | some o => rolU P tT off n i sz (opU fl ops vs tt ix (ruAt P tT fl ops vs tt ix off n i sz m) j) o.op
  | none => none
theorem rolU_mono {P : Program} {tT off n i sz : Nat} {e e' : Operand → Option Ru} (he : ∀ x r, e x = some r → e' x = some r) {op : Op} {r : Ru} (h : rolU P tT off n i sz e op = some r) : rolU P tT off n i sz e' op = some r := by
 unfold rolU at h ⊢
 split at h
 ·exact he _ _ h
 ·split at h
  ·rename_i hx; simp only [he _ _ hx]; exact h
  ·cases h
 ·split at h
  ·rename_i hx; simp only [he _ _ hx]; exact h
  ·rename_i hx; simp only [he _ _ hx]; exact h
  ·rename_i hx; simp only [he _ _ hx]; exact h
  ·cases h
 ·split at h
  ·rename_i hx; simp only [he _ _ hx]; exact h
  ·rename_i hx; simp only [he _ _ hx]; exact h
  ·rename_i hx; simp only [he _ _ hx]; exact h
  ·rename_i hx; simp only [he _ _ hx]; exact h
  ·cases h
 ·split at h
  ·rename_i hx; simp only [he _ _ hx]; exact h
  ·cases h
 ·split at h
  ·rename_i hx; simp only [he _ _ hx]; exact h
  ·rename_i hx; simp only [he _ _ hx]; exact h
  ·cases h
 ·split at h
  ·rename_i hx; simp only [he _ _ hx]; exact h
  ·rename_i s hx
   simp only [he _ _ hx]
   split at h
   ·rename_i hy; simp only [he _ _ hy]; exact h
   ·cases h
  ·cases h
 ·split at h
  ·rename_i hx; simp only [he _ _ hx]; exact h
  ·cases h
 ·cases h
theorem opU_mono {fl : Bool} {ops : List Oper} {vs tt ix i : Nat} {acc acc' : Nat → Option Ru} (ha : ∀ j r, acc j = some r → acc' j = some r) (x : Operand) (r : Ru) (h : opU fl ops vs tt ix acc i x = some r) : opU fl ops vs tt ix acc' i x = some r := by
 unfold opU at h ⊢
 split at h
 ·rename_i s
  cases h1 : Nat.beq s vs with
  | true => rw [h1] at h; exact h
  | false =>
   rw [h1] at h; simp only [cond_false] at h ⊢
   cases h2 : Nat.beq s tt with
   | true => rw [h2] at h; exact h
   | false =>
    rw [h2] at h; simp only [cond_false] at h ⊢
    cases h4 : Nat.beq s ix with
    | true => rw [h4] at h; exact h
    | false =>
     rw [h4] at h; simp only [cond_false] at h ⊢
     split at h
     ·rename_i j hj
      cases h3 : (prs fl ops i).contains j with
      | false => rw [h3] at h; cases h
      | true => rw [h3] at h; exact ha _ _ h
     ·cases h
 ·cases h
theorem ruAt_mono {P : Program} {tT : Nat} {fl : Bool} {ops : List Oper} {vs tt ix off n i sz : Nat} : ∀ (m j : Nat) (r : Ru), ruAt P tT fl ops vs tt ix off n i sz m j = some r → ruAt P tT fl ops vs tt ix off n i sz (m + 1) j = some r
 | 0, j, r, h => by cases h
 | m + 1, j, r, h => by
  unfold ruAt at h ⊢
  split at h
  ·exact rolU_mono (fun x r hx => opU_mono (fun j r hj => ruAt_mono m j r hj) x r hx) h
  ·cases h
structure RuW (u : Un) (uv : Value) (tT off sz : Nat) (w : World) : Prop where
 tr : Box w u.tb [.int .i64 0, .slice none 0 0, .bool false, .slice (some ⟨u.lb, 0, none⟩) u.n u.n, uv] tT
 row : w.cell? ⟨u.sb, u.so + off, none⟩ = some u.c
 elem : ∃ ro en cp, u.c = .slice (some ⟨u.eb, ro, none⟩) en cp ∧ u.k < en ∧ u.eo = ro + u.k * sz
 cel : w.cell? ⟨u.eb, u.eo, none⟩ = some u.ec
 sl : ∃ a l m, u.d = .slice a l m
theorem rolU_ok {P : Program} {a : Act} {w : World} {o : Oper} {tT : Nat} {u : Un} {uv : Value} {off i sz : Nat} (hT : TTy P tT) (hW : RuW u uv tT off sz w) {e : Operand → Option Ru} (he : ∀ y r, e y = some r → a.eval y = r.v u) {r : Ru} (h : rolU P tT off u.n i sz e o.op = some r)
  (hd : r = .dst → w.cell? ⟨u.lb, i * 5 + 3, none⟩ = some u.d) (hc1 : ∀ k, r = .evi k → ∃ m, u.ec = .int k m) (hc0 : r = .elf0 → ∃ m, u.ec = .int .i64 m) : (execOp a.eval o).run P w = .ok (.value (r.v u)) w := by
 generalize hop : o.op = op at h
 unfold rolU at h
 split at h
 ·have := he _ _ h; rw [← this]; exact ro_move hop
 ·split at h
  ·rename_i hx; cases h; exact ro_nilCheck hop (he _ _ hx)
  ·cases h
 ·split at h
  ·rename_i o' hx
   simp only [Option.map_eq_some_iff] at h
   obtain ⟨k, hk, rfl⟩ := h
   have := ro_fieldAddr (w := w) hop (he _ _ hx) hk
   simpa only [Ru.v, Nat.add_assoc] using this
  ·rename_i hx
   simp only [Option.map_eq_some_iff] at h
   obtain ⟨k, hk, rfl⟩ := h
   exact ro_fieldAddr hop (he _ _ hx) hk
  ·rename_i hx
   simp only [Option.map_eq_some_iff] at h
   obtain ⟨k, hk, rfl⟩ := h
   exact ro_fieldAddr hop (he _ _ hx) hk
  ·cases h
 ·split at h
  ·rename_i o' hx
   obtain ⟨hb, rfl⟩ := bif_cond h
   rw [Bool.and_eq_true] at hb
   have := beq_out hb.1; subst this
   exact ro_load hop (he _ _ hx) hb.2 hW.row
  ·rename_i hx
   obtain ⟨hb, rfl⟩ := bif_cond h
   exact ro_load hop (he _ _ hx) hb (hW.tr.cell (i := 3) rfl)
  ·rename_i k hx
   obtain ⟨hb, rfl⟩ := bif_cond h
   rw [Bool.and_eq_true] at hb
   have := beq_out hb.1; subst this
   exact ro_load hop (he _ _ hx) hb.2 (hd rfl)
  ·rename_i hx
   obtain ⟨hb, rfl⟩ := bif_cond h
   exact ro_load hop (he _ _ hx) hb hW.cel
  ·cases h
 ·split at h
  ·rename_i hx
   split at h
   ·rename_i k hs ht
    cases h
    obtain ⟨m, hm⟩ := hc1 k rfl
    have := he _ _ hx
    simp only [Ru.v] at this ⊢
    rw [hm] at this ⊢
    exact ro_convInt hop this (isInt_out (intOfTy_out hs)) (isInt_out (intOfTy_out ht))
   ·cases h
  ·cases h
 ·split at h
  ·rename_i k hx
   obtain ⟨hb, rfl⟩ := bif_cond h
   have := beq_out hb; subst this
   exact ro_build hop (he _ _ hx) (hT.b0 _)
  ·rename_i hx
   obtain ⟨hb, rfl⟩ := bif_cond h
   have := beq_out hb; subst this
   obtain ⟨m, hm⟩ := hc0 rfl
   have := he _ _ hx
   simp only [Ru.v] at this ⊢
   rw [hm] at this ⊢
   exact ro_build hop this (hT.b0 _)
  ·cases h
 ·split at h
  ·rename_i hx
   obtain ⟨hb, rfl⟩ := bif_cond h
   rw [Bool.and_eq_true] at hb
   have := ro_indexAddr (w := w) hop (he _ _ hx) rfl (optIs_out hb.1) (Nat.le_of_ble_eq_true hb.2)
   simpa only [Ru.v, Nat.zero_add] using this
  ·rename_i s hx
   split at h
   ·rename_i hy
    obtain ⟨hb, rfl⟩ := bif_cond h
    obtain ⟨ro, en, cp, hc, hk, heo⟩ := hW.elem
    have h1 := he _ _ hx
    have h2 := he _ _ hy
    simp only [Ru.v] at h1 h2
    rw [hc] at h1
    have := ro_indexAddr (w := w) hop h1 h2 (optIs_out hb) hk
    simp only [Ru.v, heo]; exact this
   ·cases h
  ·cases h
 ·split at h
  ·rename_i hx
   obtain ⟨hb, rfl⟩ := bif_cond h
   obtain ⟨a', l, m, hd'⟩ := hW.sl
   have h1 := he _ _ hx
   simp only [Ru.v] at h1 ⊢
   rw [hd'] at h1 ⊢
   exact ro_len hop h1 hb
  ·cases h
 ·cases h
theorem opU_ok {N : Nat} {L : Sl} {fl : Bool} {ops : List Oper} {vs tt ix i : Nat} {a : Act} {u : Un} {acc : Nat → Option Ru} (k : Kn N a L) (hvs : lk L vs = some (.pointer (some ⟨u.sb, u.so, none⟩))) (htt : lk L tt = some (.pointer (some ⟨u.tb, 0, none⟩))) (hix : lk L ix = some (.int .i64 u.k))
  (hf : ∀ j ∈ prs fl ops i, ∀ dd, dstOf ops j = some dd → ∀ r, acc j = some r → gt a dd = r.v u) (y : Operand) (r : Ru) (h : opU fl ops vs tt ix acc i y = some r) : a.eval y = r.v u := by
 unfold opU at h
 split at h
 ·rename_i s
  cases h1 : Nat.beq s vs with
  | true =>
   rw [h1] at h; simp only [cond_true, Option.some.injEq] at h
   subst h
   have := beq_out h1; subst this
   exact k.at_ _ _ hvs
  | false =>
   rw [h1] at h; simp only [cond_false] at h
   cases h2 : Nat.beq s tt with
   | true =>
    rw [h2] at h; simp only [cond_true, Option.some.injEq] at h
    subst h
    have := beq_out h2; subst this
    exact k.at_ _ _ htt
   | false =>
    rw [h2] at h; simp only [cond_false] at h
    cases h4 : Nat.beq s ix with
    | true =>
     rw [h4] at h; simp only [cond_true, Option.some.injEq] at h
     subst h
     have := beq_out h4; subst this
     exact k.at_ _ _ hix
    | false =>
     rw [h4] at h; simp only [cond_false] at h
     split at h
     ·rename_i j hj
      cases h3 : (prs fl ops i).contains j with
      | false => rw [h3] at h; cases h
      | true =>
       rw [h3] at h
       exact hf j (by simpa using h3) s (idxOf_out hj) r h
     ·cases h
 ·cases h
end Go.Proofs.YtgpnpfiafcakfaaDoor

namespace Go.Proofs.YtgpnpfiafcakfaaDoor
open Go Go.RowKit
section
variable {P : Program} {a : Act} {w : World} {o : Oper}
theorem do_slice1 {t tE sz : Nat} {y : Operand} {v : Value} {cs : List Value} {R : Value → World → Prop} (hop : o.op = .buildSlice t 1 #[(0, y)]) (hT : rowTy P t tE sz = true) (hy : a.eval y = v) (hv : v.cells = cs.toArray) (hcl : cs.length = sz) (hs1 : 0 < sz) (hs2 : sz ≤ 1000)
  (hR : ∀ w', Box w' w.heap.size cs tE → Chg (fun _ => False) w w' → w'.heap.size = w.heap.size + 1 → R (.slice (some ⟨w.heap.size, 0, none⟩) 1 1) w') : Does P o a w R := by
 cases o; simp only at hop; subst hop
 refine does_of (v := .slice (some ⟨w.heap.size, 0, none⟩) 1 1) (w' := w.alloc (.cells cs.toArray tE)) ?_ (hR _ (box_alloc _ _ _) (chg_alloc _ _ _) (by simp))
 simp only [execOp, Sem.run_bind]
 have : Array.map (fun x => (x.1, a.eval x.2)) #[(0, y)] = #[(0, v)] := by simp [hy]
 rw [this, run_slice1 hT hv hcl (by simp only [Bool.and_eq_true]; exact ⟨Nat.ble_eq_true_of_le hs1, Nat.ble_eq_true_of_le hs2⟩)]
 simp
theorem do_rowApp {t2 tE sz B lo vb b8 : Nat} {y z : Operand} {d : Value} {els : List D} {x : D} {cs : List Value} {R : Value → World → Prop} (hop : o.op = .call ⟨.builtin .append, #[y, z], #[t2, t2]⟩) (hT : rowTy P t2 tE sz = true) (hy : a.eval y = d) (hz : a.eval z = .slice (some ⟨b8, 0, none⟩) 1 1)
  (hrd : RowD B lo vb tE sz w d els) (hb8 : Box w b8 cs tE) (hcl : cs.length = sz) (h1 : (cs.all fun v => v.oneCell') = true) (hr : Rep (Off B lo vb d w) w x cs) (hlen : els.length + 1 ≤ many) (hBl : B ≤ lo) (hvw : vb < w.heap.size) (hvl : vb < lo) (hlo : lo ≤ w.heap.size)
  (hR : ∀ v w', RowD B lo vb tE sz w' v (els ++ [x]) → (∃ g, v.ownBlock = some g) → Chg (fun j => lo ≤ j) w w' → Chg (fun j => d.ownBlock = some j) w w' → (∀ g, v.ownBlock = some g → d.ownBlock = some g ∨ w.heap.size ≤ g) → R v w') : Does P o a w R := by
 cases o with
 | mk dst op ty pos aft gg =>
 simp only at hop
 subst hop
 obtain ⟨xs0, hrow0, hreps0⟩ := hrd.row
 obtain ⟨hu, ii, zz, hi', hs1', hb1', hz', hzc'⟩ := rowTy_out hT
 have h1' : ∀ v ∈ cs, v.oneCell' = true := fun v hv => List.all_eq_true.1 h1 v hv
 obtain ⟨d', w'', hrun, ho', hgr⟩ := run_app (P := P) w lo t2 t2 ty tE ii zz (.slice tE) hu hu (.inl ⟨tE, rfl⟩) hi' hz' (by rw [hzc', hs1']) d els.length xs0 (by rw [hs1']; exact hrow0)
  (.slice (some ⟨b8, 0, none⟩) 1 1) 1 cs (by rw [hcl, hs1', Nat.one_mul]) h1' (fun w' => by simp [Builtin.lenOf])
  (fun w3 hw3 => by
   refine run_firstCells_some (P := P) w3 ii.size 1 _ _ _ cs (by rw [hcl, hs1', Nat.one_mul]) (fun j v hv => ?_)
   have h1 := hb8.cell hv
   rw [add_plain _ _ rfl]
   simp only [Nat.zero_add]
   rcases hw3 with rfl | rfl
   ·exact h1
   ·exact h1)
  (by have := Nat.mul_le_mul hlen hb1'; simp only [many, lim] at *; omega) (by simp only [maxLen, many] at *; omega) (by omega)
 rw [hs1'] at ho'
 have hsn := hrd.snoc (by omega) (by omega) hreps0 hr ho' hgr
 refine does_of (v := d') (w' := w'') ?_ (hR d' w'' hsn ?_ ⟨hgr.grown.os, hgr.grown.tape, hgr.grown.output, hgr.grown.size, fun j hj hnj => hgr.grown.block j hj (fun e => hnj (hrd.low j e.symm).1)⟩ ⟨hgr.grown.os, hgr.grown.tape, hgr.grown.output, hgr.grown.size, fun j hj hnj => hgr.grown.block j hj (fun e => hnj e.symm)⟩ (fun g hg => by
  rcases hgr.fresh with h | h
  ·exact .inl (by rw [← h]; exact hg)
  ·exact .inr (h g hg)))
 ·simp only [execOp, resolve, List.map_toArray, List.map_cons, List.map_nil, hy, hz, Sem.run_bind, Sem.run_pure, Result.andThen_ok, invoke, builtin, hrun]
 ·obtain ⟨xs1, hrow1, _⟩ := hsn.row
  obtain ⟨g, cap, hd, _, _, _⟩ := Row.cells hrow1 (by simp)
  exact ⟨g, by rw [hd]; rfl⟩
theorem LSt.put {l0 lo tb lb n m : Nat} {uv : Value} {tT e : TypeId} {w0 : World} {Ts : List Tree} {b : Bool} {d : Value} {xs : List Tree} (h : LSt l0 lo tb lb n uv tT e w0 Ts m b d xs) (hc : Chg (fun j => lo ≤ j) w0 w) {v : Value} {ys : List Tree} (hrow : RowD 0 lo lb tT 5 w v (ys.map treeD))
  {x y : Operand} {t : TypeId} {R : Value → World → Prop} (hop : o.op = .store t x y) (hx : a.eval x = .pointer (some ⟨lb, Ts.length * 5 + 3, none⟩)) (hy : a.eval y = v) (hsz : sizeIs P t 1 = true) (hR : ∀ w', LSt l0 lo tb lb n uv tT e w' Ts m b v ys → Chg (· = lb) w w' → R undef w') : Does P o a w R := by
 obtain ⟨c1, hb, hr⟩ := h.ls
 have hl0 := h.l0l
 have hlow := h.low
 have hllb := h.llb
 have hltb := h.ltb
 have hl1 : c1.length = Ts.length * 5 := by rw [Reps.len _ _ hr, widths_trees]
 obtain ⟨a1, n1, hv⟩ : ∃ a1 n1, v = .slice a1 (ys.map treeD).length n1 := hrow.shape
 have hb2 := hb.chg hc (by omega)
 refine do_storeSeg (vs := [v]) (seg := [d]) (A := c1 ++ [.int .i64 0, .slice none 0 0, .bool b]) (C := .slice none 0 0 :: (List.replicate m (flagC false)).flatten) hop hx hy (by rw [hv]; rfl) hsz (by rw [hv]; rfl) (by simpa [List.append_assoc] using hb2) (by simp [hl1]) rfl (fun w'' hb' hg' => ?_)
 have hc2 := Chg.grown hg'
 have hz1 := hc.size
 have hz2 := hc2.size
 refine hR w'' ⟨(h.tr.chg hc (by omega)).chg hc2 h.ne, ⟨c1, by simpa [List.append_assoc] using hb', ?_⟩, hrow.stored hg', h.ne, h.ltb, h.llb, h.l0l, by omega⟩ hc2
 refine Reps.mono (fun q hq => ⟨hq, ?_⟩) _ _ hr
 have hq1 := hq.1
 have hq2 := hq.2
 rw [hc2.block q (by omega) (fun e => by have e' : q = lb := e; omega), hc.block q (by omega) (by omega)]
end
end Go.Proofs.YtgpnpfiafcakfaaDoor
